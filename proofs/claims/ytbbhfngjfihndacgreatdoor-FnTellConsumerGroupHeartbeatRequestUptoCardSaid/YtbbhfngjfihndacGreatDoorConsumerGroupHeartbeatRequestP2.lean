/- A part of the proof: see the last text. -/
import Derived.Test.YtbbhfngjfihndacGreatDoorConsumerGroupHeartbeatRequestP0
set_option linter.unusedSimpArgs false
set_option linter.unusedVariables false
namespace Ms
open Go.World renaming size_alloc → qI
open Ms renaming size_wr → qJ,size_drew → qK,not_noB → qL
open W renaming seqR → qA,seq → qB,regR → qC,condK → qD,block → qE,skip → qF,ret → qG,exit → qH
open Nat renaming reduceEqDiff → n0,reduceAdd → n1,reduceMul → n2,reduceSub → n3,reduceLT → n4,reduceLeDiff → n5
open Int renaming reduceEq → i0,reduceLT → i1,reduceLE → i2,reduceNeg → i3,reduceAdd → i4,reduceSub → i5,reduceMul → i6,reduceToNat → i7
set_option maxRecDepth 8000
open Go Go.Proofs Go.Shelf
attribute [local congr] W_congr WPsq_congr WPp_congr optK_congr addrK_congr intK_congr boolK_congr sliceK_congr tupleK_congr funcK_congr Fn_congr rawK_congr takeK_congr stepK_congr convK_congr aggK_congr

set_option maxHeartbeats 4000000 in
theorem readQ_1 {d:Nat} {ok:Blocks} {ver:Int} {ev:Value} (hlo:1≤ver) (hhi:ver≤1) (w:World) {vb:Nat} (src:Value) (s:List UInt8) (hv:blk w vb=some (#[.int .i16 ver,.string ByteArray.empty,.string ByteArray.empty,.int .i32 0,.pointer none,.pointer none,.int .i32 (-1),.slice none 0 0,.pointer none,.pointer none,.slice none 0 0,.map none],78,(0,0))) (hsrc:BytesV ok w src s) (hok0:∀ b,ok b→b < w.heap.size∧b≠vb) (hG:Glo ev w) (hgv:¬ 0=vb∧¬ 1=vb) :
  Fn Tryz.prog 31 #[.pointer (some ⟨vb,0,none⟩),src,.bool false] w (ReadQ 78 ok ver (d+2) fs_Q vb w (rdP (d+2) ver true fs_Q (some s)) ev):=by
 have hvl:=blk_lt hv
 have hgs:=hG.lt
 obtain ⟨sa,sc,rfl,_⟩:=hsrc.shape
 refine fn_of_W Tryz.func31 rfl Tryz.results31 Tryz.ntmps31 rfl ?_
 repeat ((first|refine qA rfl ?_|apply qB|refine qC rfl ?_|apply qD|apply qE|apply qF|apply qG|apply qH);try simp (disch:=(first|omega|(simp only [qI,qJ,qK]<;>omega)|exact qL _)) only [go_sem,↓reduceIte,n0,reduceCtorEq,n1,n2,n3,n4,n5,i0,i1,i2,i3,i4,i5,i6,i7,hv])
 refine (DefaultQ_fn w hv).mono ?_
 rintro _ w0 ⟨hv0,hu0⟩
 have hz0:=hu0.size
 have hsrc0:BytesV ok w0 (.slice sa s.length sc) s:=hsrc.keep (hu0.keeps fun b _ hk e=>(hok0 b hk).2 e)
 obtain ⟨rb,hrb⟩:∃ r,r=w0.heap.size:=⟨_,rfl⟩
 have hE1:Ext w0 (wr (w0.alloc (.cells #[.slice none 0 0,.bool false] 100)) w0.heap.size 0 [.slice sa s.length sc,.bool false]):=(Upd.alloc (Upd.refl _ _) _).wr _ _ (.inl (Nat.le_refl _))
 have hz1:(wr (w0.alloc (.cells #[.slice none 0 0,.bool false] 100)) w0.heap.size 0 [.slice sa s.length sc,.bool false]).heap.size=w0.heap.size+1:=by rw [size_wr,World.size_alloc]
 have hR1:Rdr RT ok (wr (w0.alloc (.cells #[.slice none 0 0,.bool false] 100)) w0.heap.size 0 [.slice sa s.length sc,.bool false]) w0.heap.size (some s):=Rdr.good (v:=.slice sa s.length sc) (by simp (disch:=(first|omega|(simp only [qI,qJ,qK]<;>omega)|exact qL _)) only [go_sem,↓reduceIte,n0,reduceCtorEq,n1,n2,n3,n4,n5,i0,i1,i2,i3,i4,i5,i6,i7]) (hsrc0.keep (hE1.keeps _))
 have hv_1:=hE1.blk_some hv0 id
 repeat ((first|refine qA rfl ?_|apply qB|refine qC rfl ?_|apply qD|apply qE|apply qF|apply qG|apply qH);try simp (disch:=(first|omega|(simp only [qI,qJ,qK]<;>omega)|exact qL _)) only [go_sem,↓reduceIte,n0,reduceCtorEq,n1,n2,n3,n4,n5,i0,i1,i2,i3,i4,i5,i6,i7,hv0])
 generalize (wr (w0.alloc (.cells #[.slice none 0 0,.bool false] 100)) w0.heap.size 0 [.slice sa s.length sc,.bool false])=w1 at *
 rw [← hrb] at hR1
 try rw [← hrb]
 have hok:∀ b,ok b→b < w.heap.size∧b≠vb:=hok0
 have hrok:¬ ok rb:=fun h=>by have:=(hok rb h).1;omega
 have hbase:Upd (fun b=>b=vb) w w1:=hu0.trans (hE1.mono fun _ h=>h.elim)
 have hG1:Glo ev w1:=hG.updS hbase hgv.1 hgv.2
 have hgrb:¬ 0=rb:=by omega
 have hgM1:¬ (0=vb∨0=rb):=fun h=>h.elim hgv.1 fun h=>by omega
 have hgM2:¬ (1=vb∨1=rb):=fun h=>h.elim hgv.2 fun h=>by omega
 obtain ⟨s0,hs0⟩:∃ s':St,s'=some s:=⟨_,rfl⟩
 rw [← hs0] at hR1 ⊢
 have hU1:Upd (fun b=>b=vb∨b=rb) w1 w1:=Upd.refl _ _
 have hoM:∀ b,(ok b∨w1.heap.size≤b)→¬ (b=vb∨b=rb):=fun b hk h=>by
  rcases hk with hk|hk
  ·have:=hok b hk;rcases h with h|h<;>omega
  ·rcases h with h|h<;>omega
 have hq1:Rdr RT ok w1 rb s0:=hR1
 obtain ⟨FB,hFB⟩:∃ P:Prop,P=((rdP (d+2) ver true fs_Q s0).2=none):=⟨_,rfl⟩
 have hb_0:(rdL (rdP (d+1) ver true) (dfP (d+1)) ver true [fQ_0,fQ_1,fQ_2,fQ_3,fQ_4,fQ_5,fQ_6,fQ_7,fQ_8,fQ_9] s0).2=none→FB:=fun h=>Eq.mpr hFB (rdP_bad h)
 have hh_0:hasS fQ_0 ver=true:=hasS_t (by show (0:Int)≤ver;omega) (by show (-1:Int) < 0∨ver≤(-1:Int);omega)
 obtain ⟨x_0,hx_0⟩:∃ x,x=(rdF (rdP (d+1) ver true) ver true fQ_0 s0).1:=⟨_,rfl⟩
 repeat ((first|refine qA rfl ?_|apply qB|refine qC rfl ?_|apply qD|apply qE|apply qF|apply qG|apply qH);try simp (disch:=(first|omega|(simp only [qI,qJ,qK]<;>omega)|exact qL _)) only [go_sem,↓reduceIte,n0,reduceCtorEq,n1,n2,n3,n4,n5,i0,i1,i2,i3,i4,i5,i6,i7,hv_1])
 have hmay:mayS fQ_0 ver=false:=mayS_no (by show (-1:Int) < 0∨ver < (-1:Int);omega)
 have hrd:rdF (rdP (d+1) ver true) ver true fQ_0 s0=_:=rdF_text rfl hmay
 refine (RCompactString_fn w1 hq1 hrok hG1.1 hgrb).mono ?_
 rintro _ w2 ⟨rfl,hq2,hu2⟩
 have hv_2:=hu2.blk_some hv_1 (by omega)
 have hV2:Upd (fun b=>b=vb∨b=rb) w1 w2:=hu2.mono (fun _ h=>.inr h)
 have hU2:Upd (fun b=>b=vb∨b=rb) w1 w2:=hU1.trans hV2
 have hz2:=hV2.size
 have hG2:Glo ev w2:=hG1.updS hU2 hgM1 hgM2
 have hst:(rdF (rdP (d+1) ver true) ver true fQ_0 s0).2=(rdStr true s0).2:=by first|(rw [hrd];rfl)|rw [hrd]
 obtain ⟨s1,hs1⟩:∃ s,s=(rdF (rdP (d+1) ver true) ver true fQ_0 s0).2:=⟨_,rfl⟩
 rw [← hst,← hs1] at hq2
 clear hst
 repeat ((first|refine qA rfl ?_|apply qB|refine qC rfl ?_|apply qD|apply qE|apply qF|apply qG|apply qH);try simp (disch:=(first|omega|(simp only [qI,qJ,qK]<;>omega)|exact qL _)) only [go_sem,↓reduceIte,n0,reduceCtorEq,n1,n2,n3,n4,n5,i0,i1,i2,i3,i4,i5,i6,i7,hv_2])
 generalize hw3:wr w2 vb 1 [strV (rdStr true s0).1] = w3
 have hS3:Upd (fun b=>b=vb∨b=rb) w2 w3:=by rw [← hw3];exact (Upd.refl _ _).wr _ _ (.inr (.inl rfl))
 have hv_3:blk w3 vb=some (#[.int .i16 ver,strV (rdStr true s0).1,.string ByteArray.empty,.int .i32 0,.pointer none,.pointer none,.int .i32 (-1),.slice none 0 0,.pointer none,.pointer none,.slice none 0 0,.map none],78,(0,0)):=by rw [← hw3,blk_wr_eq,hv_2];rfl
 have hV3:=hS3
 have hU3:Upd (fun b=>b=vb∨b=rb) w1 w3:=hU2.trans hV3
 have hz3:=hV3.size
 have hG3:Glo ev w3:=hG1.updS hU3 hgM1 hgM2
 have hq3:Rdr RT ok w3 rb s1∧NN w3 rb s1:=by
  have hn:∀ x,x=w3→(Rdr RT ok x rb s1∧NN x rb s1):=fun x hx=>by
   rw [hx,← hw3]
   exact Rdr.store hq2 (by omega) (fun h=>by have:=(hok _ h).1;first|omega|exact (hok _ h).2 rfl)
  exact hn _ rfl
 clear hw3
 have hf_0:RepF (RepS true (d+1)) (szS true (d+1)) fQ_0 (fun b=>ok b∨w1.heap.size≤b) w3 (x_0) [strV (rdStr true s0).1]:=(RepF_text rfl (by decide)).2 (by rw [hx_0,hrd];rfl)
 clear hrd
 have hb_1:(rdL (rdP (d+1) ver true) (dfP (d+1)) ver true [fQ_1,fQ_2,fQ_3,fQ_4,fQ_5,fQ_6,fQ_7,fQ_8,fQ_9] s1).2=none→FB:=fun h=>hb_0 (by rw [rdL_st (by decide) hh_0,← hs1];exact h)
 have hh_1:hasS fQ_1 ver=true:=hasS_t (by show (0:Int)≤ver;omega) (by show (-1:Int) < 0∨ver≤(-1:Int);omega)
 obtain ⟨x_1,hx_1⟩:∃ x,x=(rdF (rdP (d+1) ver true) ver true fQ_1 s1).1:=⟨_,rfl⟩
 repeat ((first|refine qA rfl ?_|apply qB|refine qC rfl ?_|apply qD|apply qE|apply qF|apply qG|apply qH);try simp (disch:=(first|omega|(simp only [qI,qJ,qK]<;>omega)|exact qL _)) only [go_sem,↓reduceIte,n0,reduceCtorEq,n1,n2,n3,n4,n5,i0,i1,i2,i3,i4,i5,i6,i7,hv_3])
 have hmay:mayS fQ_1 ver=false:=mayS_no (by show (-1:Int) < 0∨ver < (-1:Int);omega)
 have hrd:rdF (rdP (d+1) ver true) ver true fQ_1 s1=_:=rdF_text rfl hmay
 refine (RCompactString_fn w3 hq3.1 hrok hG3.1 hgrb).mono ?_
 rintro _ w4 ⟨rfl,hq4,hu4⟩
 have hv_4:=hu4.blk_some hv_3 (by omega)
 have hV4:Upd (fun b=>b=vb∨b=rb) w3 w4:=hu4.mono (fun _ h=>.inr h)
 have hU4:Upd (fun b=>b=vb∨b=rb) w1 w4:=hU3.trans hV4
 have hz4:=hV4.size
 have hG4:Glo ev w4:=hG1.updS hU4 hgM1 hgM2
 have hst:(rdF (rdP (d+1) ver true) ver true fQ_1 s1).2=(rdStr true s1).2:=by first|(rw [hrd];rfl)|rw [hrd]
 obtain ⟨s2,hs2⟩:∃ s,s=(rdF (rdP (d+1) ver true) ver true fQ_1 s1).2:=⟨_,rfl⟩
 rw [← hst,← hs2] at hq4
 clear hst
 repeat ((first|refine qA rfl ?_|apply qB|refine qC rfl ?_|apply qD|apply qE|apply qF|apply qG|apply qH);try simp (disch:=(first|omega|(simp only [qI,qJ,qK]<;>omega)|exact qL _)) only [go_sem,↓reduceIte,n0,reduceCtorEq,n1,n2,n3,n4,n5,i0,i1,i2,i3,i4,i5,i6,i7,hv_4])
 generalize hw5:wr w4 vb 2 [strV (rdStr true s1).1] = w5
 have hS5:Upd (fun b=>b=vb∨b=rb) w4 w5:=by rw [← hw5];exact (Upd.refl _ _).wr _ _ (.inr (.inl rfl))
 have hv_5:blk w5 vb=some (#[.int .i16 ver,strV (rdStr true s0).1,strV (rdStr true s1).1,.int .i32 0,.pointer none,.pointer none,.int .i32 (-1),.slice none 0 0,.pointer none,.pointer none,.slice none 0 0,.map none],78,(0,0)):=by rw [← hw5,blk_wr_eq,hv_4];rfl
 have hV5:=hS5
 have hU5:Upd (fun b=>b=vb∨b=rb) w1 w5:=hU4.trans hV5
 have hz5:=hV5.size
 have hG5:Glo ev w5:=hG1.updS hU5 hgM1 hgM2
 have hq5:Rdr RT ok w5 rb s2∧NN w5 rb s2:=by
  have hn:∀ x,x=w5→(Rdr RT ok x rb s2∧NN x rb s2):=fun x hx=>by
   rw [hx,← hw5]
   exact Rdr.store hq4 (by omega) (fun h=>by have:=(hok _ h).1;first|omega|exact (hok _ h).2 rfl)
  exact hn _ rfl
 clear hw5
 have hf_1:RepF (RepS true (d+1)) (szS true (d+1)) fQ_1 (fun b=>ok b∨w1.heap.size≤b) w5 (x_1) [strV (rdStr true s1).1]:=(RepF_text rfl (by decide)).2 (by rw [hx_1,hrd];rfl)
 clear hrd
 have hb_2:(rdL (rdP (d+1) ver true) (dfP (d+1)) ver true [fQ_2,fQ_3,fQ_4,fQ_5,fQ_6,fQ_7,fQ_8,fQ_9] s2).2=none→FB:=fun h=>hb_1 (by rw [rdL_st (by decide) hh_1,← hs2];exact h)
 have hh_2:hasS fQ_2 ver=true:=hasS_t (by show (0:Int)≤ver;omega) (by show (-1:Int) < 0∨ver≤(-1:Int);omega)
 obtain ⟨x_2,hx_2⟩:∃ x,x=(rdF (rdP (d+1) ver true) ver true fQ_2 s2).1:=⟨_,rfl⟩
 repeat ((first|refine qA rfl ?_|apply qB|refine qC rfl ?_|apply qD|apply qE|apply qF|apply qG|apply qH);try simp (disch:=(first|omega|(simp only [qI,qJ,qK]<;>omega)|exact qL _)) only [go_sem,↓reduceIte,n0,reduceCtorEq,n1,n2,n3,n4,n5,i0,i1,i2,i3,i4,i5,i6,i7,hv_5])
 have hrd:rdF (rdP (d+1) ver true) ver true fQ_2 s2=_:=rdF_num 3 rfl (by decide)
 refine (Int32_fn w5 hq5.1 hrok hG5.1 hgrb).mono ?_
 rintro _ w6 ⟨rfl,hq6,hu6⟩
 have hv_6:=hu6.blk_some hv_5 (by omega)
 have hV6:Upd (fun b=>b=vb∨b=rb) w5 w6:=hu6.mono (fun _ h=>.inr h)
 have hU6:Upd (fun b=>b=vb∨b=rb) w1 w6:=hU5.trans hV6
 have hz6:=hV6.size
 have hG6:Glo ev w6:=hG1.updS hU6 hgM1 hgM2
 have hst:(rdF (rdP (d+1) ver true) ver true fQ_2 s2).2=(rdInt .i32 4 s2).2:=by first|(rw [hrd];rfl)|rw [hrd]
 obtain ⟨s3,hs3⟩:∃ s,s=(rdF (rdP (d+1) ver true) ver true fQ_2 s2).2:=⟨_,rfl⟩
 rw [← hst,← hs3] at hq6
 clear hst
 repeat ((first|refine qA rfl ?_|apply qB|refine qC rfl ?_|apply qD|apply qE|apply qF|apply qG|apply qH);try simp (disch:=(first|omega|(simp only [qI,qJ,qK]<;>omega)|exact qL _)) only [go_sem,↓reduceIte,n0,reduceCtorEq,n1,n2,n3,n4,n5,i0,i1,i2,i3,i4,i5,i6,i7,hv_6])
 generalize hw7:wr w6 vb 3 [.int .i32 (rdInt .i32 4 s2).1] = w7
 have hS7:Upd (fun b=>b=vb∨b=rb) w6 w7:=by rw [← hw7];exact (Upd.refl _ _).wr _ _ (.inr (.inl rfl))
 have hv_7:blk w7 vb=some (#[.int .i16 ver,strV (rdStr true s0).1,strV (rdStr true s1).1,.int .i32 (rdInt .i32 4 s2).1,.pointer none,.pointer none,.int .i32 (-1),.slice none 0 0,.pointer none,.pointer none,.slice none 0 0,.map none],78,(0,0)):=by rw [← hw7,blk_wr_eq,hv_6];rfl
 have hV7:=hS7
 have hU7:Upd (fun b=>b=vb∨b=rb) w1 w7:=hU6.trans hV7
 have hz7:=hV7.size
 have hG7:Glo ev w7:=hG1.updS hU7 hgM1 hgM2
 have hq7:Rdr RT ok w7 rb s3∧NN w7 rb s3:=by
  have hn:∀ x,x=w7→(Rdr RT ok x rb s3∧NN x rb s3):=fun x hx=>by
   rw [hx,← hw7]
   exact Rdr.store hq6 (by omega) (fun h=>by have:=(hok _ h).1;first|omega|exact (hok _ h).2 rfl)
  exact hn _ rfl
 clear hw7
 have hf_2:RepF (RepS true (d+1)) (szS true (d+1)) fQ_2 (fun b=>ok b∨w1.heap.size≤b) w7 (x_2) [.int .i32 (rdInt .i32 4 s2).1]:=(RepF_num (by decide)).2 (by rw [hx_2,hrd];exact congrArg (fun x=>[x]) (numC_rd 3 (by decide) 4 s2).symm)
 clear hrd
 have hb_3:(rdL (rdP (d+1) ver true) (dfP (d+1)) ver true [fQ_3,fQ_4,fQ_5,fQ_6,fQ_7,fQ_8,fQ_9] s3).2=none→FB:=fun h=>hb_2 (by rw [rdL_st (by decide) hh_2,← hs3];exact h)
 have hh_3:hasS fQ_3 ver=true:=hasS_t (by show (0:Int)≤ver;omega) (by show (-1:Int) < 0∨ver≤(-1:Int);omega)
 obtain ⟨x_3,hx_3⟩:∃ x,x=(rdF (rdP (d+1) ver true) ver true fQ_3 s3).1:=⟨_,rfl⟩
 repeat ((first|refine qA rfl ?_|apply qB|refine qC rfl ?_|apply qD|apply qE|apply qF|apply qG|apply qH);try simp (disch:=(first|omega|(simp only [qI,qJ,qK]<;>omega)|exact qL _)) only [go_sem,↓reduceIte,n0,reduceCtorEq,n1,n2,n3,n4,n5,i0,i1,i2,i3,i4,i5,i6,i7,hv_7])
 have hmay:mayS fQ_3 ver=true:=mayS_yes (by decide) (by show (0:Int)≤ver;omega)
 have hrd:rdF (rdP (d+1) ver true) ver true fQ_3 s3=_:=rdF_ptr rfl hmay
 refine (RCompactNullableString_fn w7 hq7.1 hrok hG7.1 hgrb).mono ?_
 rintro r8 w8 ⟨hp8,hq8,hu8⟩
 obtain ⟨ap8,rfl⟩:=hp8.shape
 have hv_8:=hu8.blk_some hv_7 (by omega)
 have hV8:Upd (fun b=>b=vb∨b=rb) w7 w8:=hu8.mono (fun _ h=>.inr h)
 have hU8:Upd (fun b=>b=vb∨b=rb) w1 w8:=hU7.trans hV8
 have hz8:=hV8.size
 have hG8:Glo ev w8:=hG1.updS hU8 hgM1 hgM2
 have hst:(rdF (rdP (d+1) ver true) ver true fQ_3 s3).2=(rdNStr true s3).2:=by first|(rw [hrd];rfl)|rw [hrd]
 obtain ⟨s4,hs4⟩:∃ s,s=(rdF (rdP (d+1) ver true) ver true fQ_3 s3).2:=⟨_,rfl⟩
 rw [← hst,← hs4] at hq8
 clear hst
 repeat ((first|refine qA rfl ?_|apply qB|refine qC rfl ?_|apply qD|apply qE|apply qF|apply qG|apply qH);try simp (disch:=(first|omega|(simp only [qI,qJ,qK]<;>omega)|exact qL _)) only [go_sem,↓reduceIte,n0,reduceCtorEq,n1,n2,n3,n4,n5,i0,i1,i2,i3,i4,i5,i6,i7,hv_8])
 generalize hw9:wr w8 vb 4 [.pointer ap8] = w9
 have hS9:Upd (fun b=>b=vb∨b=rb) w8 w9:=by rw [← hw9];exact (Upd.refl _ _).wr _ _ (.inr (.inl rfl))
 have hv_9:blk w9 vb=some (#[.int .i16 ver,strV (rdStr true s0).1,strV (rdStr true s1).1,.int .i32 (rdInt .i32 4 s2).1,.pointer ap8,.pointer none,.int .i32 (-1),.slice none 0 0,.pointer none,.pointer none,.slice none 0 0,.map none],78,(0,0)):=by rw [← hw9,blk_wr_eq,hv_8];rfl
 have hV9:=hS9
 have hU9:Upd (fun b=>b=vb∨b=rb) w1 w9:=hU8.trans hV9
 have hz9:=hV9.size
 have hG9:Glo ev w9:=hG1.updS hU9 hgM1 hgM2
 have hq9:Rdr RT ok w9 rb s4∧NN w9 rb s4:=by
  have hn:∀ x,x=w9→(Rdr RT ok x rb s4∧NN x rb s4):=fun x hx=>by
   rw [hx,← hw9]
   exact Rdr.store hq8 (by omega) (fun h=>by have:=(hok _ h).1;first|omega|exact (hok _ h).2 rfl)
  exact hn _ rfl
 clear hw9
 have hf_3:RepF (RepS true (d+1)) (szS true (d+1)) fQ_3 (fun b=>ok b∨w1.heap.size≤b) w9 (x_3) [.pointer ap8]:=(RepF_ptr rfl (by decide)).2 ⟨_,rfl,by rw [hx_3,hrd];exact (hp8.weaken fun b _ hk=>by have hk':w7.heap.size≤b:=hk;exact .inr (by omega)).keep (hV9.keeps fun b _ hk e=>(hoM b hk) e)⟩
 clear hrd
 have hb_4:(rdL (rdP (d+1) ver true) (dfP (d+1)) ver true [fQ_4,fQ_5,fQ_6,fQ_7,fQ_8,fQ_9] s4).2=none→FB:=fun h=>hb_3 (by rw [rdL_st (by decide) hh_3,← hs4];exact h)
 have hh_4:hasS fQ_4 ver=true:=hasS_t (by show (0:Int)≤ver;omega) (by show (-1:Int) < 0∨ver≤(-1:Int);omega)
 obtain ⟨x_4,hx_4⟩:∃ x,x=(rdF (rdP (d+1) ver true) ver true fQ_4 s4).1:=⟨_,rfl⟩
 repeat ((first|refine qA rfl ?_|apply qB|refine qC rfl ?_|apply qD|apply qE|apply qF|apply qG|apply qH);try simp (disch:=(first|omega|(simp only [qI,qJ,qK]<;>omega)|exact qL _)) only [go_sem,↓reduceIte,n0,reduceCtorEq,n1,n2,n3,n4,n5,i0,i1,i2,i3,i4,i5,i6,i7,hv_9])
 have hmay:mayS fQ_4 ver=true:=mayS_yes (by decide) (by show (0:Int)≤ver;omega)
 have hrd:rdF (rdP (d+1) ver true) ver true fQ_4 s4=_:=rdF_ptr rfl hmay
 refine (RCompactNullableString_fn w9 hq9.1 hrok hG9.1 hgrb).mono ?_
 rintro r10 w10 ⟨hp10,hq10,hu10⟩
 obtain ⟨ap10,rfl⟩:=hp10.shape
 have hv_10:=hu10.blk_some hv_9 (by omega)
 have hV10:Upd (fun b=>b=vb∨b=rb) w9 w10:=hu10.mono (fun _ h=>.inr h)
 have hU10:Upd (fun b=>b=vb∨b=rb) w1 w10:=hU9.trans hV10
 have hz10:=hV10.size
 have hG10:Glo ev w10:=hG1.updS hU10 hgM1 hgM2
 have hst:(rdF (rdP (d+1) ver true) ver true fQ_4 s4).2=(rdNStr true s4).2:=by first|(rw [hrd];rfl)|rw [hrd]
 obtain ⟨s5,hs5⟩:∃ s,s=(rdF (rdP (d+1) ver true) ver true fQ_4 s4).2:=⟨_,rfl⟩
 rw [← hst,← hs5] at hq10
 clear hst
 repeat ((first|refine qA rfl ?_|apply qB|refine qC rfl ?_|apply qD|apply qE|apply qF|apply qG|apply qH);try simp (disch:=(first|omega|(simp only [qI,qJ,qK]<;>omega)|exact qL _)) only [go_sem,↓reduceIte,n0,reduceCtorEq,n1,n2,n3,n4,n5,i0,i1,i2,i3,i4,i5,i6,i7,hv_10])
 generalize hw11:wr w10 vb 5 [.pointer ap10] = w11
 have hS11:Upd (fun b=>b=vb∨b=rb) w10 w11:=by rw [← hw11];exact (Upd.refl _ _).wr _ _ (.inr (.inl rfl))
 have hv_11:blk w11 vb=some (#[.int .i16 ver,strV (rdStr true s0).1,strV (rdStr true s1).1,.int .i32 (rdInt .i32 4 s2).1,.pointer ap8,.pointer ap10,.int .i32 (-1),.slice none 0 0,.pointer none,.pointer none,.slice none 0 0,.map none],78,(0,0)):=by rw [← hw11,blk_wr_eq,hv_10];rfl
 have hV11:=hS11
 have hU11:Upd (fun b=>b=vb∨b=rb) w1 w11:=hU10.trans hV11
 have hz11:=hV11.size
 have hG11:Glo ev w11:=hG1.updS hU11 hgM1 hgM2
 have hq11:Rdr RT ok w11 rb s5∧NN w11 rb s5:=by
  have hn:∀ x,x=w11→(Rdr RT ok x rb s5∧NN x rb s5):=fun x hx=>by
   rw [hx,← hw11]
   exact Rdr.store hq10 (by omega) (fun h=>by have:=(hok _ h).1;first|omega|exact (hok _ h).2 rfl)
  exact hn _ rfl
 clear hw11
 have hf_4:RepF (RepS true (d+1)) (szS true (d+1)) fQ_4 (fun b=>ok b∨w1.heap.size≤b) w11 (x_4) [.pointer ap10]:=(RepF_ptr rfl (by decide)).2 ⟨_,rfl,by rw [hx_4,hrd];exact (hp10.weaken fun b _ hk=>by have hk':w9.heap.size≤b:=hk;exact .inr (by omega)).keep (hV11.keeps fun b _ hk e=>(hoM b hk) e)⟩
 clear hrd
 have hb_5:(rdL (rdP (d+1) ver true) (dfP (d+1)) ver true [fQ_5,fQ_6,fQ_7,fQ_8,fQ_9] s5).2=none→FB:=fun h=>hb_4 (by rw [rdL_st (by decide) hh_4,← hs5];exact h)
 have hh_5:hasS fQ_5 ver=true:=hasS_t (by show (0:Int)≤ver;omega) (by show (-1:Int) < 0∨ver≤(-1:Int);omega)
 obtain ⟨x_5,hx_5⟩:∃ x,x=(rdF (rdP (d+1) ver true) ver true fQ_5 s5).1:=⟨_,rfl⟩
 repeat ((first|refine qA rfl ?_|apply qB|refine qC rfl ?_|apply qD|apply qE|apply qF|apply qG|apply qH);try simp (disch:=(first|omega|(simp only [qI,qJ,qK]<;>omega)|exact qL _)) only [go_sem,↓reduceIte,n0,reduceCtorEq,n1,n2,n3,n4,n5,i0,i1,i2,i3,i4,i5,i6,i7,hv_11])
 have hrd:rdF (rdP (d+1) ver true) ver true fQ_5 s5=_:=rdF_num 3 rfl (by decide)
 refine (Int32_fn w11 hq11.1 hrok hG11.1 hgrb).mono ?_
 rintro _ w12 ⟨rfl,hq12,hu12⟩
 have hv_12:=hu12.blk_some hv_11 (by omega)
 have hV12:Upd (fun b=>b=vb∨b=rb) w11 w12:=hu12.mono (fun _ h=>.inr h)
 have hU12:Upd (fun b=>b=vb∨b=rb) w1 w12:=hU11.trans hV12
 have hz12:=hV12.size
 have hG12:Glo ev w12:=hG1.updS hU12 hgM1 hgM2
 have hst:(rdF (rdP (d+1) ver true) ver true fQ_5 s5).2=(rdInt .i32 4 s5).2:=by first|(rw [hrd];rfl)|rw [hrd]
 obtain ⟨s6,hs6⟩:∃ s,s=(rdF (rdP (d+1) ver true) ver true fQ_5 s5).2:=⟨_,rfl⟩
 rw [← hst,← hs6] at hq12
 clear hst
 repeat ((first|refine qA rfl ?_|apply qB|refine qC rfl ?_|apply qD|apply qE|apply qF|apply qG|apply qH);try simp (disch:=(first|omega|(simp only [qI,qJ,qK]<;>omega)|exact qL _)) only [go_sem,↓reduceIte,n0,reduceCtorEq,n1,n2,n3,n4,n5,i0,i1,i2,i3,i4,i5,i6,i7,hv_12])
 generalize hw13:wr w12 vb 6 [.int .i32 (rdInt .i32 4 s5).1] = w13
 have hS13:Upd (fun b=>b=vb∨b=rb) w12 w13:=by rw [← hw13];exact (Upd.refl _ _).wr _ _ (.inr (.inl rfl))
 have hv_13:blk w13 vb=some (#[.int .i16 ver,strV (rdStr true s0).1,strV (rdStr true s1).1,.int .i32 (rdInt .i32 4 s2).1,.pointer ap8,.pointer ap10,.int .i32 (rdInt .i32 4 s5).1,.slice none 0 0,.pointer none,.pointer none,.slice none 0 0,.map none],78,(0,0)):=by rw [← hw13,blk_wr_eq,hv_12];rfl
 have hV13:=hS13
 have hU13:Upd (fun b=>b=vb∨b=rb) w1 w13:=hU12.trans hV13
 have hz13:=hV13.size
 have hG13:Glo ev w13:=hG1.updS hU13 hgM1 hgM2
 have hq13:Rdr RT ok w13 rb s6∧NN w13 rb s6:=by
  have hn:∀ x,x=w13→(Rdr RT ok x rb s6∧NN x rb s6):=fun x hx=>by
   rw [hx,← hw13]
   exact Rdr.store hq12 (by omega) (fun h=>by have:=(hok _ h).1;first|omega|exact (hok _ h).2 rfl)
  exact hn _ rfl
 clear hw13
 have hf_5:RepF (RepS true (d+1)) (szS true (d+1)) fQ_5 (fun b=>ok b∨w1.heap.size≤b) w13 (x_5) [.int .i32 (rdInt .i32 4 s5).1]:=(RepF_num (by decide)).2 (by rw [hx_5,hrd];exact congrArg (fun x=>[x]) (numC_rd 3 (by decide) 4 s5).symm)
 clear hrd
 have hb_6:(rdL (rdP (d+1) ver true) (dfP (d+1)) ver true [fQ_6,fQ_7,fQ_8,fQ_9] s6).2=none→FB:=fun h=>hb_5 (by rw [rdL_st (by decide) hh_5,← hs6];exact h)
 have hh_6:hasS fQ_6 ver=true:=hasS_t (by show (0:Int)≤ver;omega) (by show (-1:Int) < 0∨ver≤(-1:Int);omega)
 obtain ⟨x_6,hx_6⟩:∃ x,x=(rdF (rdP (d+1) ver true) ver true fQ_6 s6).1:=⟨_,rfl⟩
 repeat ((first|refine qA rfl ?_|apply qB|refine qC rfl ?_|apply qD|apply qE|apply qF|apply qG|apply qH);try simp (disch:=(first|omega|(simp only [qI,qJ,qK]<;>omega)|exact qL _)) only [go_sem,↓reduceIte,n0,reduceCtorEq,n1,n2,n3,n4,n5,i0,i1,i2,i3,i4,i5,i6,i7,hv_13])
 refine (RCompactArrayLen_fn w13 hq13.1 hrok hG13.1 hgrb).mono ?_
 rintro _ w14 ⟨rfl,hq14,hu14⟩
 have hv_14:=hu14.blk_some hv_13 (by omega)
 have hV14:Upd (fun b=>b=vb∨b=rb) w13 w14:=hu14.mono (fun _ h=>.inr h)
 have hU14:Upd (fun b=>b=vb∨b=rb) w1 w14:=hU13.trans hV14
 have hz14:=hV14.size
 have hG14:Glo ev w14:=hG1.updS hU14 hgM1 hgM2
 obtain ⟨s7,hs7⟩:∃ s,s=(rdALen true s6).2:=⟨_,rfl⟩
 rw [← hs7] at hq14
 have hyr0:=rdALen_rng true s6
 generalize hy0:(rdALen true s6).1=y0 at *
 obtain ⟨N0,hN0⟩:∃ N,N=y0.toNat:=⟨_,rfl⟩
 have hlb0:(rdMany (rd1 (rdP (d+1) ver true) fQ_6.of fQ_6.sub false true) N0 s7).2=none→FB:=fun h=>hb_6 (by rw [rdL_st (by decide) hh_6];exact rdL_bad (rdF_listbad rfl (by rw [hy0,← hN0,← hs7];exact h)))
 repeat ((first|refine W.seqR rfl ?_|refine W.seq ?_|refine W.regR rfl ?_|refine W.block ?_|refine W.skip ?_|refine W.ret ?_|refine W.exit ?_);try simp (disch:=(first|omega|(simp only [qI,qJ,qK]<;>omega)|exact qL _)) only [go_sem,↓reduceIte,n0,reduceCtorEq,n1,n2,n3,n4,n5,i0,i1,i2,i3,i4,i5,i6,i7,hv_14])
 refine W.normJ (RowQ [(2,.bool false),(7,.pointer (some ⟨rb,0,none⟩)),(8,.int .i16 ver),(9,.bool true),(10,.pointer (some ⟨vb,0,none⟩)),(19,.int .i32 y0)] 18 (fun va w'=>∃ a0,va = .slice a0 0 0∧Ext w14 w'∧(∀ x,a0=some x→w14.heap.size≤x.block∧x.block < w'.heap.size)∧(N0=0→if nilS fQ_6 ver y0=true then va = .slice none 0 0 else ∃ a,va = .slice (some a) 0 0))) ?_ ?_
 ·by_cases hye:y0=0
  ·repeat ((first|refine qA rfl ?_|apply qB|refine qC rfl ?_|apply qD|apply qE|apply qF|apply qG|apply qH);try simp (disch:=(first|omega|(simp only [qI,qJ,qK]<;>omega)|exact qL _)) only [go_sem,↓reduceIte,n0,reduceCtorEq,n1,n2,n3,n4,n5,i0,i1,i2,i3,i4,i5,i6,i7,hv_14,hye])
   exact ⟨(by simp (disch:=(first|omega|(simp only [qI,qJ,qK]<;>omega)|exact qL _)) only [go_sem,↓reduceIte,n0,reduceCtorEq,n1,n2,n3,n4,n5,i0,i1,i2,i3,i4,i5,i6,i7,Holds_nil,Holds_cons,hye]),.slice (some ⟨w14.heap.size,0,none⟩) 0 0,(by simp (disch:=(first|omega|(simp only [qI,qJ,qK]<;>omega)|exact qL _)) only [go_sem,↓reduceIte,n0,reduceCtorEq,n1,n2,n3,n4,n5,i0,i1,i2,i3,i4,i5,i6,i7]),some ⟨w14.heap.size,0,none⟩,rfl,(Upd.alloc (Upd.refl _ _) _:Ext _ _),(fun x hx=>by cases hx;exact ⟨Nat.le_refl _,by simp only [World.size_alloc];omega⟩),(fun _=>by rw [nilS_may (by decide) (by show (0:Int)≤ver;omega),decide_eq_false (by omega)];exact ⟨_,rfl⟩)⟩
  ·repeat ((first|refine qA rfl ?_|apply qB|refine qC rfl ?_|apply qD|apply qE|apply qF|apply qG|apply qH);try simp (disch:=(first|omega|(simp only [qI,qJ,qK]<;>omega)|exact qL _)) only [go_sem,↓reduceIte,n0,reduceCtorEq,n1,n2,n3,n4,n5,i0,i1,i2,i3,i4,i5,i6,i7,hv_14,hye])
   exact ⟨(by simp (disch:=(first|omega|(simp only [qI,qJ,qK]<;>omega)|exact qL _)) only [go_sem,↓reduceIte,n0,reduceCtorEq,n1,n2,n3,n4,n5,i0,i1,i2,i3,i4,i5,i6,i7,Holds_nil,Holds_cons,hye]),.slice none 0 0,(by simp (disch:=(first|omega|(simp only [qI,qJ,qK]<;>omega)|exact qL _)) only [go_sem,↓reduceIte,n0,reduceCtorEq,n1,n2,n3,n4,n5,i0,i1,i2,i3,i4,i5,i6,i7]),none,rfl,Upd.refl _ _,(fun x hx=>by cases hx),(fun _=>by rw [nilS_may (by decide) (by show (0:Int)≤ver;omega),decide_eq_true (by omega)];exact rfl)⟩
 rintro ρ w15 ⟨⟨hrn0_2,hrn0_7,hrn0_8,hrn0_9,hrn0_10,hrn0_19,-⟩,va,hra0,a0,rfl,hEn0,hab0,hnl0⟩
 have hun15:Upd (fun b=>b=rb) w14 w15:=hEn0.mono fun _ h=>h.elim
 have hq15:=And.intro (hq14.1.upd hEn0 (fun h=>h) (fun _ _ _ h=>h)) (hq14.2.upd hEn0 fun h=>h)
 have hv_15:=hun15.blk_some hv_14 (by omega)
 have hV15:Upd (fun b=>b=vb∨b=rb) w14 w15:=hun15.mono (fun _ h=>.inr h)
 have hU15:Upd (fun b=>b=vb∨b=rb) w1 w15:=hU14.trans hV15
 have hz15:=hV15.size
 have hG15:Glo ev w15:=hG1.updS hU15 hgM1 hgM2
 repeat ((first|refine W.seqR rfl ?_|refine W.seq ?_|refine W.regR rfl ?_|refine W.block ?_|refine W.skip ?_|refine W.ret ?_|refine W.exit ?_);try simp (disch:=(first|omega|(simp only [qI,qJ,qK]<;>omega)|exact qL _)) only [go_sem,↓reduceIte,n0,reduceCtorEq,n1,n2,n3,n4,n5,i0,i1,i2,i3,i4,i5,i6,i7,hv_15,hrn0_2,hrn0_7,hrn0_8,hrn0_9,hrn0_10,hrn0_19,hra0])
 refine (ROk_fn w15 hq15.1).mono ?_
 rintro _ wz ⟨rfl,hez⟩
 rw [hez]
 clear hez wz
 by_cases hsn0:s7=none
 ·have hso:s7.isSome=false:=by rw [hsn0];rfl
  repeat (first|simp (disch:=(first|omega|(simp only [qI,qJ,qK]<;>omega)|exact qL _)) only [go_sem,↓reduceIte,n0,reduceCtorEq,n1,n2,n3,n4,n5,i0,i1,i2,i3,i4,i5,i6,i7,hv_15,hrn0_2,hrn0_7,hrn0_8,hrn0_9,hrn0_10,hrn0_19,hra0,hso]|refine qA rfl ?_|apply qB|refine qC rfl ?_|apply qD|apply qE|apply qF|apply qG|apply qH)
  refine (RComplete_fn w15 hq15.1 hG15.2).mono ?_
  rintro _ wz ⟨rfl,hez⟩
  rw [hez]
  repeat (first|simp (disch:=(first|omega|(simp only [qI,qJ,qK]<;>omega)|exact qL _)) only [go_sem,↓reduceIte,n0,reduceCtorEq,n1,n2,n3,n4,n5,i0,i1,i2,i3,i4,i5,i6,i7,hv_15,hrn0_2,hrn0_7,hrn0_8,hrn0_9,hrn0_10,hrn0_19,hra0]|refine qA rfl ?_|apply qB|refine qC rfl ?_|apply qD|apply qE|apply qF|apply qG|apply qH)
  rw [errV_none hsn0]
  exact ReadQ.bad (Eq.mp hFB (hlb0 (by rw [hsn0];exact rdMany_none rd1P_none _))) (hbase.trans' hU15 fun i hi h=>h.elim id fun h=>by omega)
 have hso0:s7.isSome=true:=isSome_some hsn0
 try simp (disch:=(first|omega|(simp only [qI,qJ,qK]<;>omega)|exact qL _)) only [go_sem,↓reduceIte,n0,reduceCtorEq,n1,n2,n3,n4,n5,i0,i1,i2,i3,i4,i5,i6,i7,hv_15,hrn0_2,hrn0_7,hrn0_8,hrn0_9,hrn0_10,hrn0_19,hra0,hso0]
 repeat ((first|refine W.seqR rfl ?_|refine W.seq ?_|refine W.regR rfl ?_|refine W.block ?_|refine W.skip ?_|refine W.ret ?_|refine W.exit ?_);try simp (disch:=(first|omega|(simp only [qI,qJ,qK]<;>omega)|exact qL _)) only [go_sem,↓reduceIte,n0,reduceCtorEq,n1,n2,n3,n4,n5,i0,i1,i2,i3,i4,i5,i6,i7,hv_15,hrn0_2,hrn0_7,hrn0_8,hrn0_9,hrn0_10,hrn0_19,hra0,hso0])
 refine W.condK ?_
 try simp (disch:=(first|omega|(simp only [qI,qJ,qK]<;>omega)|exact qL _)) only [go_sem,↓reduceIte,n0,reduceCtorEq,n1,n2,n3,n4,n5,i0,i1,i2,i3,i4,i5,i6,i7,hv_15,hrn0_2,hrn0_7,hrn0_8,hrn0_9,hrn0_10,hrn0_19,hra0,hso0]
 repeat ((first|refine W.seqR rfl ?_|refine W.seq ?_|refine W.regR rfl ?_|refine W.block ?_|refine W.skip ?_|refine W.ret ?_|refine W.exit ?_);try simp (disch:=(first|omega|(simp only [qI,qJ,qK]<;>omega)|exact qL _)) only [go_sem,↓reduceIte,n0,reduceCtorEq,n1,n2,n3,n4,n5,i0,i1,i2,i3,i4,i5,i6,i7,hv_15,hrn0_2,hrn0_7,hrn0_8,hrn0_9,hrn0_10,hrn0_19,hra0,hso0,slBase_00])
 refine W.normJ (RowQ [(2,.bool false),(7,.pointer (some ⟨rb,0,none⟩)),(8,.int .i16 ver),(9,.bool true),(10,.pointer (some ⟨vb,0,none⟩)),(19,.int .i32 y0)] 18 (fun va w'=>LstI RT (rd1 (rdP (d+1) ver true) fQ_6.of fQ_6.sub false true) (Rep1 (RepS true (d+1)) fQ_6.of fQ_6.sub) 1 9 [.string ByteArray.empty] w14.heap.size N0 ok (fun b=>ok b∨w1.heap.size≤b) rb w14 s7 va 0 s7 [] [] w'∧(N0=0→if nilS fQ_6 ver y0=true then va = .slice none 0 0 else ∃ a,va = .slice (some a) 0 0))) ?_ ?_
 ·by_cases hy0:(0:Int) < y0
  ·have hyv:Value.int .i32 y0 = .int .i32 ((N0:Nat):Int):=by rw [show y0=((N0:Nat):Int) by omega]
   repeat ((first|refine qA rfl ?_|apply qB|refine qC rfl ?_|apply qD|apply qE|apply qF|apply qG|apply qH);try simp (disch:=(first|omega|(simp only [qI,qJ,qK]<;>omega)|exact qL _)) only [go_sem,↓reduceIte,n0,reduceCtorEq,n1,n2,n3,n4,n5,i0,i1,i2,i3,i4,i5,i6,i7,hv_15,hrn0_2,hrn0_7,hrn0_8,hrn0_9,hrn0_10,hrn0_19,hra0])
   refine wp_appendZ (m:=N0) utQ_72 utQ_21 inQ_9 (by decide) (by first|rfl|simp (disch:=(first|omega|(simp only [qI,qJ,qK]<;>omega)|exact qL _)) only [go_sem,↓reduceIte,n0,reduceCtorEq,n1,n2,n3,n4,n5,i0,i1,i2,i3,i4,i5,i6,i7,hrn0_2,hrn0_7,hrn0_8,hrn0_9,hrn0_10,hrn0_19,hra0]) (by first|exact hyv|(simp (disch:=(first|omega|(simp only [qI,qJ,qK]<;>omega)|exact qL _)) only [go_sem,↓reduceIte,n0,reduceCtorEq,n1,n2,n3,n4,n5,i0,i1,i2,i3,i4,i5,i6,i7,hrn0_2,hrn0_7,hrn0_8,hrn0_9,hrn0_10,hrn0_19,hra0];exact hyv)) (by omega) (by omega) (by decide) ?_
   intro q rest hq1
   have hEw:Ext w15 (w15.drew.alloc (.cells (zs [.string ByteArray.empty] N0++rest).toArray 9)):=(Upd.refl _ _).drew.alloc _
   repeat (first|simp (disch:=(first|omega|(simp only [qI,qJ,qK]<;>omega)|exact qL _)) only [go_sem,↓reduceIte,n0,reduceCtorEq,n1,n2,n3,n4,n5,i0,i1,i2,i3,i4,i5,i6,i7,hv_15,hrn0_2,hrn0_7,hrn0_8,hrn0_9,hrn0_10,hrn0_19,hra0]|refine qA rfl ?_|apply qB|refine qC rfl ?_|apply qD|apply qE|apply qF|apply qG|apply qH)
   exact ⟨(by simp (disch:=(first|omega|(simp only [qI,qJ,qK]<;>omega)|exact qL _)) only [go_sem,↓reduceIte,n0,reduceCtorEq,n1,n2,n3,n4,n5,i0,i1,i2,i3,i4,i5,i6,i7,Holds_nil,Holds_cons,hrn0_2,hrn0_7,hrn0_8,hrn0_9,hrn0_10,hrn0_19,hra0]),.slice (some ⟨w15.heap.size,0,none⟩) N0 q,(by simp (disch:=(first|omega|(simp only [qI,qJ,qK]<;>omega)|exact qL _)) only [go_sem,↓reduceIte,n0,reduceCtorEq,n1,n2,n3,n4,n5,i0,i1,i2,i3,i4,i5,i6,i7,hrn0_2,hrn0_7,hrn0_8,hrn0_9,hrn0_10,hrn0_19,hra0]),LstI.start (RowJ.start (by omega) hq1 (by show w14.heap.size≤w15.drew.heap.size;rw [size_drew];omega) (blk_alloc_new rfl)) ⟨hq15.1.upd hEw (fun h=>h) (fun _ _ _ h=>h),hq15.2.upd hEw fun h=>h⟩ (hun15.trans (hEw.mono fun _ h=>h.elim)),fun h0=>by omega⟩
  ·repeat ((first|refine qA rfl ?_|apply qB|refine qC rfl ?_|apply qD|apply qE|apply qF|apply qG|apply qH);try simp (disch:=(first|omega|(simp only [qI,qJ,qK]<;>omega)|exact qL _)) only [go_sem,↓reduceIte,n0,reduceCtorEq,n1,n2,n3,n4,n5,i0,i1,i2,i3,i4,i5,i6,i7,hv_15,hrn0_2,hrn0_7,hrn0_8,hrn0_9,hrn0_10,hrn0_19,hra0])
   exact ⟨(by simp (disch:=(first|omega|(simp only [qI,qJ,qK]<;>omega)|exact qL _)) only [go_sem,↓reduceIte,n0,reduceCtorEq,n1,n2,n3,n4,n5,i0,i1,i2,i3,i4,i5,i6,i7,Holds_nil,Holds_cons,hrn0_2,hrn0_7,hrn0_8,hrn0_9,hrn0_10,hrn0_19,hra0]),.slice a0 0 0,(by simp (disch:=(first|omega|(simp only [qI,qJ,qK]<;>omega)|exact qL _)) only [go_sem,↓reduceIte,n0,reduceCtorEq,n1,n2,n3,n4,n5,i0,i1,i2,i3,i4,i5,i6,i7,hrn0_2,hrn0_7,hrn0_8,hrn0_9,hrn0_10,hrn0_19,hra0,slBase_00]),LstI.start (RowJ.zero (by omega) hab0) hq15 (hun15),hnl0⟩
 rintro ρ w16 ⟨⟨hrb0_2,hrb0_7,hrb0_8,hrb0_9,hrb0_10,hrb0_19,-⟩,va0,hra0,hL0,hnc0⟩
 repeat ((first|refine qA rfl ?_|apply qB|refine qC rfl ?_|apply qD|apply qE|apply qF|apply qG|apply qH);try simp (disch:=(first|omega|(simp only [qI,qJ,qK]<;>omega)|exact qL _)) only [go_sem,↓reduceIte,n0,reduceCtorEq,n1,n2,n3,n4,n5,i0,i1,i2,i3,i4,i5,i6,i7,hv_15,hrb0_2,hrb0_7,hrb0_8,hrb0_9,hrb0_10,hrb0_19,hra0,exitRQ_ret,exitRQ_exit,Int.toNat_natCast,Nat.mul_one])
 refine W.exitRJ 0 (EndQ [(2,.bool false),(7,.pointer (some ⟨rb,0,none⟩)),(8,.int .i16 ver),(9,.bool true),(10,.pointer (some ⟨vb,0,none⟩)),(19,.int .i32 y0),(18,va0)] (fun w'=>∃ s xs css,LstI RT (rd1 (rdP (d+1) ver true) fQ_6.of fQ_6.sub false true) (Rep1 (RepS true (d+1)) fQ_6.of fQ_6.sub) 1 9 [.string ByteArray.empty] w14.heap.size N0 ok (fun b=>ok b∨w1.heap.size≤b) rb w14 s7 va0 N0 s xs css w')) (W.loop (LoopQ [(2,.bool false),(7,.pointer (some ⟨rb,0,none⟩)),(8,.int .i16 ver),(9,.bool true),(10,.pointer (some ⟨vb,0,none⟩)),(19,.int .i32 y0),(18,va0)] 20 (fun j w'=>∃ s xs css,LstI RT (rd1 (rdP (d+1) ver true) fQ_6.of fQ_6.sub false true) (Rep1 (RepS true (d+1)) fQ_6.of fQ_6.sub) 1 9 [.string ByteArray.empty] w14.heap.size N0 ok (fun b=>ok b∨w1.heap.size≤b) rb w14 s7 va0 j s xs css w')) (fun ρ _=>N0 - (RowKit.intOf (ρ 20)).toNat) ?_ ?_) ?_
 ·exact ⟨(by simp (disch:=(first|omega|(simp only [qI,qJ,qK]<;>omega)|exact qL _)) only [go_sem,↓reduceIte,n0,reduceCtorEq,n1,n2,n3,n4,n5,i0,i1,i2,i3,i4,i5,i6,i7,Holds_nil,Holds_cons,hrb0_2,hrb0_7,hrb0_8,hrb0_9,hrb0_10,hrb0_19,hra0]),0,(by simp (disch:=(first|omega|(simp only [qI,qJ,qK]<;>omega)|exact qL _)) only [go_sem,↓reduceIte,n0,reduceCtorEq,n1,n2,n3,n4,n5,i0,i1,i2,i3,i4,i5,i6,i7,hrb0_2,hrb0_7,hrb0_8,hrb0_9,hrb0_10,hrb0_19,hra0];all_goals rfl),s7,[],[],hL0⟩
 ·rintro ρ w17 ⟨⟨hrc0_2,hrc0_7,hrc0_8,hrc0_9,hrc0_10,hrc0_19,hrc0_18,-⟩,j1,hri0,s8,xs0,css0,hL0⟩
  have hj0:=hL0.le
  have hq17:=hL0.rd
  have hU17:Upd (fun b=>b=vb∨b=rb) w1 w17:=hU14.trans' hL0.upd fun i _ h=>.inr h
  have hz17:=hL0.upd.size
  have hG17:Glo ev w17:=hG1.updS hU17 hgM1 hgM2
  by_cases hlt0:j1 < N0
  ·obtain ⟨R1,q1,B1,hva1,hNq1,hLR1,hA1,hx1_17,hnext1⟩:=hL0.row.next hlt0
   have hRl1:=blk_lt hx1_17
   generalize css0.flatten=A1 at hA1 hx1_17 hnext1
   rw [Nat.mul_one] at hA1
   replace hra0:ρ 18 = .slice (some ⟨R1,0,none⟩) N0 q1:=hrc0_18.trans hva1
   have hown1:∀ b,ownB va0 b→w14.heap.size≤b∧b < w17.heap.size:=fun b h=>hL0.row.own h
   have hoM1:∀ b,(fun b=>(ok b∨w1.heap.size≤b)∧¬ ownB va0 b) b→¬ (b=R1∨b=rb):=fun b hk h=>h.elim (fun e=>hk.2 ⟨_,_,_,hva1,e⟩) (fun e=>hoM b hk.1 (.inr e))
   obtain ⟨X17,hX17⟩:∃ X:Array Value,X=(A1++(([.string ByteArray.empty]:List Value)++B1)).toArray:=⟨_,rfl⟩
   have hxb17:blk w17 R1=some (X17,9,(0,0)):=by rw [hX17];exact hx1_17
   have hXs17:j1+1≤X17.size:=by rw [hX17];simp only [List.size_toArray,List.length_append,List.length_cons,List.length_nil,hA1];omega
   repeat ((first|refine qA rfl ?_|apply qB|refine qC rfl ?_|apply qD|apply qE|apply qF|apply qG|apply qH);try simp (disch:=(first|omega|(simp only [qI,qJ,qK]<;>omega)|exact qL _)) only [go_sem,↓reduceIte,n0,reduceCtorEq,n1,n2,n3,n4,n5,i0,i1,i2,i3,i4,i5,i6,i7,hxb17,hrc0_2,hrc0_7,hrc0_8,hrc0_9,hrc0_10,hrc0_19,hra0,hri0,exitRQ_ret,exitRQ_exit,Int.toNat_natCast,Nat.mul_one])
   refine (RCompactString_fn w17 hq17.1 hrok hG17.1 hgrb).mono ?_
   rintro _ w18 ⟨rfl,hq18,hu18⟩
   have hx1_18:=hu18.blk_some hx1_17 (by omega)
   have hV18:Upd (fun b=>b=R1∨b=rb) w17 w18:=hu18.mono (fun _ h=>.inr h)
   have hU18:Upd (fun b=>b=vb∨b=rb) w1 w18:=hU17.trans' hV18 fun i hi h=>h.elim (fun h=>by omega) .inr
   have hz18:=hV18.size
   have hG18:Glo ev w18:=hG1.updS hU18 hgM1 hgM2
   obtain ⟨X18,hX18⟩:∃ X:Array Value,X=(A1++(([.string ByteArray.empty]:List Value)++B1)).toArray:=⟨_,rfl⟩
   have hxb18:blk w18 R1=some (X18,9,(0,0)):=by rw [hX18];exact hx1_18
   have hXs18:j1+1≤X18.size:=by rw [hX18];simp only [List.size_toArray,List.length_append,List.length_cons,List.length_nil,hA1];omega
   obtain ⟨s9,hs9⟩:∃ s,s=(rdStr true s8).2:=⟨_,rfl⟩
   rw [← hs9] at hq18
   have hrE:(rd1 (rdP (d+1) ver true) fQ_6.of fQ_6.sub false true) s8=((.oct false (rdStr true s8).1),s9):=by rw [hs9];exact rd1_text
   have hst18_0:j1+1≤X18.size:=by omega
   repeat ((first|refine qA rfl ?_|apply qB|refine qC rfl ?_|apply qD|apply qE|apply qF|apply qG|apply qH);try simp (disch:=(first|omega|(simp only [qI,qJ,qK]<;>omega)|exact qL _)) only [go_sem,↓reduceIte,n0,reduceCtorEq,n1,n2,n3,n4,n5,i0,i1,i2,i3,i4,i5,i6,i7,hxb18,hrc0_2,hrc0_7,hrc0_8,hrc0_9,hrc0_10,hrc0_19,hra0,hri0,exitRQ_ret,exitRQ_exit,Int.toNat_natCast,Nat.mul_one,hst18_0])
   generalize hw19:wr w18 R1 (j1) [strV (rdStr true s8).1] = w19
   have hS19:Upd (fun b=>b=R1∨b=rb) w18 w19:=by rw [← hw19];exact (Upd.refl _ _).wr _ _ (.inr (.inl rfl))
   have hx1_19:blk w19 R1=some ((A1++(([strV (rdStr true s8).1]:List Value)++B1)).toArray,9,(0,0)):=by rw [← hw19];exact el_blk0 hx1_18 hA1 (Nat.le_of_ble_eq_true rfl)
   have hV19:=hS19
   have hU19:Upd (fun b=>b=vb∨b=rb) w1 w19:=hU18.trans' hV19 fun i hi h=>h.elim (fun h=>by omega) .inr
   have hz19:=hV19.size
   have hG19:Glo ev w19:=hG1.updS hU19 hgM1 hgM2
   have hq19:Rdr RT ok w19 rb s9∧NN w19 rb s9:=by
    have hn:∀ x,x=w19→(Rdr RT ok x rb s9∧NN x rb s9):=fun x hx=>by
     rw [hx,← hw19]
     exact Rdr.store hq18 (by omega) (fun h=>by have:=(hok _ h).1;first|omega|exact (hok _ h).2 rfl)
    exact hn _ rfl
   obtain ⟨X19,hX19⟩:∃ X:Array Value,X=(A1++(([strV (rdStr true s8).1]:List Value)++B1)).toArray:=⟨_,rfl⟩
   have hxb19:blk w19 R1=some (X19,9,(0,0)):=by rw [hX19];exact hx1_19
   have hXs19:j1+1≤X19.size:=by rw [hX19];simp only [List.size_toArray,List.length_append,List.length_cons,List.length_nil,hA1];omega
   clear hw19
   have hxE:(Rep1 (RepS true (d+1)) fQ_6.of fQ_6.sub) (fun b=>(ok b∨w1.heap.size≤b)∧¬ ownB va0 b) w19 (.oct false (rdStr true s8).1) [strV (rdStr true s8).1]:=Rep1_text.2 rfl
   repeat ((first|refine qA rfl ?_|apply qB|refine qC rfl ?_|apply qD|apply qE|apply qF|apply qG|apply qH);try simp (disch:=(first|omega|(simp only [qI,qJ,qK]<;>omega)|exact qL _)) only [go_sem,↓reduceIte,n0,reduceCtorEq,n1,n2,n3,n4,n5,i0,i1,i2,i3,i4,i5,i6,i7,hxb19,hrc0_2,hrc0_7,hrc0_8,hrc0_9,hrc0_10,hrc0_19,hra0,hri0,exitRQ_ret,exitRQ_exit,Int.toNat_natCast,Nat.mul_one])
   have hTk:Upd (fun b=>b=R1∨b=rb) w17 w19:=(hV18.trans hV19)
   have hL':=hL0.step (Rep1_lay _ _ fun _=>RepS_lay true _ _) hlt0 (hnext1 w19 [strV (rdStr true s8).1] rfl hx1_19) (by rw [hrE];exact hxE) (hTk.mono fun b h=>h.imp (fun e=>⟨_,_,_,hva1,e⟩) id) (by rw [hrE];exact hq19) (fun h=>hoM rb h (.inr rfl)) (Nat.le_refl _)
   have hij:IntKind.i32.wrap ((j1:Int)+1)=((j1+1:Nat):Int):=by rw [i32_wrap (by omega)];omega
   repeat ((first|refine qA rfl ?_|apply qB|refine qC rfl ?_|apply qD|apply qE|apply qF|apply qG|apply qH);try simp (disch:=(first|omega|(simp only [qI,qJ,qK]<;>omega)|exact qL _)) only [go_sem,↓reduceIte,n0,reduceCtorEq,n1,n2,n3,n4,n5,i0,i1,i2,i3,i4,i5,i6,i7,hxb19,hrc0_2,hrc0_7,hrc0_8,hrc0_9,hrc0_10,hrc0_19,hra0,hri0,exitRQ_ret,exitRQ_exit,Int.toNat_natCast,Nat.mul_one,hij])
   refine ⟨⟨(by simp (disch:=(first|omega|(simp only [qI,qJ,qK]<;>omega)|exact qL _)) only [go_sem,↓reduceIte,n0,reduceCtorEq,n1,n2,n3,n4,n5,i0,i1,i2,i3,i4,i5,i6,i7,Holds_nil,Holds_cons,hrc0_2,hrc0_7,hrc0_8,hrc0_9,hrc0_10,hrc0_19,hra0,hri0];exact hva1.symm),j1+1,(by simp (disch:=(first|omega|(simp only [qI,qJ,qK]<;>omega)|exact qL _)) only [go_sem,↓reduceIte,n0,reduceCtorEq,n1,n2,n3,n4,n5,i0,i1,i2,i3,i4,i5,i6,i7,hrc0_2,hrc0_7,hrc0_8,hrc0_9,hrc0_10,hrc0_19,hra0,hri0,hij];all_goals rfl),_,_,_,hL'⟩,?_⟩
   try simp (disch:=(first|omega|(simp only [qI,qJ,qK]<;>omega)|exact qL _)) only [go_sem,↓reduceIte,n0,reduceCtorEq,n1,n2,n3,n4,n5,i0,i1,i2,i3,i4,i5,i6,i7,hrc0_2,hrc0_7,hrc0_8,hrc0_9,hrc0_10,hrc0_19,hra0,hri0]
   simp only [RowKit.intOf]
   omega
  ·have hjN:j1=N0:=by omega
   rw [hjN] at hL0
   repeat ((first|refine qA rfl ?_|apply qB|refine qC rfl ?_|apply qD|apply qE|apply qF|apply qG|apply qH);try simp (disch:=(first|omega|(simp only [qI,qJ,qK]<;>omega)|exact qL _)) only [go_sem,↓reduceIte,n0,reduceCtorEq,n1,n2,n3,n4,n5,i0,i1,i2,i3,i4,i5,i6,i7,hrc0_2,hrc0_7,hrc0_8,hrc0_9,hrc0_10,hrc0_19,hrc0_18,hri0,exitRQ_ret,exitRQ_exit])
   exact ⟨(by simp (disch:=(first|omega|(simp only [qI,qJ,qK]<;>omega)|exact qL _)) only [go_sem,↓reduceIte,n0,reduceCtorEq,n1,n2,n3,n4,n5,i0,i1,i2,i3,i4,i5,i6,i7,Holds_nil,Holds_cons,hrc0_2,hrc0_7,hrc0_8,hrc0_9,hrc0_10,hrc0_19,hrc0_18,hri0]),s8,xs0,css0,hL0⟩
 rintro ρ w20 ⟨⟨hrd0_2,hrd0_7,hrd0_8,hrd0_9,hrd0_10,hrd0_19,hrd0_18,-⟩,s10,xs0,css0,hL0⟩
 have hq20:=hL0.rd
 have hu20:=hL0.upd
 have hv_20:=hu20.blk_some hv_14 (by omega)
 have hV20:Upd (fun b=>b=vb∨b=rb) w14 w20:=hu20.mono (fun _ h=>.inr h)
 have hU20:Upd (fun b=>b=vb∨b=rb) w1 w20:=hU14.trans hV20
 have hz20:=hV20.size
 have hG20:Glo ev w20:=hG1.updS hU20 hgM1 hgM2
 have hrd0:rdF (rdP (d+1) ver true) ver true fQ_6 s6=(.mk 0 [] (nilS fQ_6 ver y0) xs0 [],s10):=by
  have h:=rdF_listE (pt:=(rdP (d+1) ver true)) (v:=ver) (flex:=true) (f:=fQ_6) (s:=s6) (xs:=xs0) (e:=s10) rfl (by rw [hy0,← hN0,← hs7];exact hL0.done)
  rw [hy0] at h;exact h
 have hs10:s10=(rdF (rdP (d+1) ver true) ver true fQ_6 s6).2:=by rw [hrd0]
 obtain ⟨aa0,qq0,hvs0⟩:=hL0.row.shape
 subst hvs0
 repeat ((first|refine qA rfl ?_|apply qB|refine qC rfl ?_|apply qD|apply qE|apply qF|apply qG|apply qH);try simp (disch:=(first|omega|(simp only [qI,qJ,qK]<;>omega)|exact qL _)) only [go_sem,↓reduceIte,n0,reduceCtorEq,n1,n2,n3,n4,n5,i0,i1,i2,i3,i4,i5,i6,i7,hv_20,hrd0_2,hrd0_7,hrd0_8,hrd0_9,hrd0_10,hrd0_19,hrd0_18])
 generalize hw21:wr w20 vb 7 [.slice aa0 N0 qq0] = w21
 have hS21:Upd (fun b=>b=vb∨b=rb) w20 w21:=by rw [← hw21];exact (Upd.refl _ _).wr _ _ (.inr (.inl rfl))
 have hv_21:blk w21 vb=some (#[.int .i16 ver,strV (rdStr true s0).1,strV (rdStr true s1).1,.int .i32 (rdInt .i32 4 s2).1,.pointer ap8,.pointer ap10,.int .i32 (rdInt .i32 4 s5).1,.slice aa0 N0 qq0,.pointer none,.pointer none,.slice none 0 0,.map none],78,(0,0)):=by rw [← hw21,blk_wr_eq,hv_20];rfl
 have hV21:=hS21
 have hU21:Upd (fun b=>b=vb∨b=rb) w1 w21:=hU20.trans hV21
 have hz21:=hV21.size
 have hG21:Glo ev w21:=hG1.updS hU21 hgM1 hgM2
 have hq21:Rdr RT ok w21 rb s10∧NN w21 rb s10:=by
  have hn:∀ x,x=w21→(Rdr RT ok x rb s10∧NN x rb s10):=fun x hx=>by
   rw [hx,← hw21]
   exact Rdr.store hq20 (by omega) (fun h=>by have:=(hok _ h).1;first|omega|exact (hok _ h).2 rfl)
  exact hn _ rfl
 clear hw21
 have hf_6:RepF (RepS true (d+1)) (szS true (d+1)) fQ_6 (fun b=>ok b∨w1.heap.size≤b) w21 (x_6) [.slice aa0 N0 qq0]:=by rw [hx_6,hrd0];exact RepF.keepS (RepF_row rfl hnc0 hN0 rfl hL0.row hL0.all (fun b hb=>.inr (by omega))) (hV21.keeps fun b _ hk e=>(hoM b hk) e)
 clear hL0 hnc0
 have hb_7:(rdL (rdP (d+1) ver true) (dfP (d+1)) ver true [fQ_7,fQ_8,fQ_9] s10).2=none→FB:=fun h=>hb_6 (by rw [rdL_st (by decide) hh_6,← hs10];exact h)
 have hh_7:hasS fQ_7 ver=true:=hasS_t (by show (1:Int)≤ver;omega) (by show (-1:Int) < 0∨ver≤(-1:Int);omega)
 obtain ⟨x_7,hx_7⟩:∃ x,x=(rdF (rdP (d+1) ver true) ver true fQ_7 s10).1:=⟨_,rfl⟩
 repeat ((first|refine qA rfl ?_|apply qB|refine qC rfl ?_|apply qD|apply qE|apply qF|apply qG|apply qH);try simp (disch:=(first|omega|(simp only [qI,qJ,qK]<;>omega)|exact qL _)) only [go_sem,↓reduceIte,n0,reduceCtorEq,n1,n2,n3,n4,n5,i0,i1,i2,i3,i4,i5,i6,i7,hv_21,hrd0_2,hrd0_7,hrd0_8,hrd0_9,hrd0_10,hrd0_19,hrd0_18])
 have hmay:mayS fQ_7 ver=true:=mayS_yes (by decide) (by show (1:Int)≤ver;omega)
 have hrd:rdF (rdP (d+1) ver true) ver true fQ_7 s10=_:=rdF_ptr rfl hmay
 refine (RCompactNullableString_fn w21 hq21.1 hrok hG21.1 hgrb).mono ?_
 rintro r22 w22 ⟨hp22,hq22,hu22⟩
 obtain ⟨ap22,rfl⟩:=hp22.shape
 have hv_22:=hu22.blk_some hv_21 (by omega)
 have hV22:Upd (fun b=>b=vb∨b=rb) w21 w22:=hu22.mono (fun _ h=>.inr h)
 have hU22:Upd (fun b=>b=vb∨b=rb) w1 w22:=hU21.trans hV22
 have hz22:=hV22.size
 have hG22:Glo ev w22:=hG1.updS hU22 hgM1 hgM2
 have hst:(rdF (rdP (d+1) ver true) ver true fQ_7 s10).2=(rdNStr true s10).2:=by first|(rw [hrd];rfl)|rw [hrd]
 obtain ⟨s11,hs11⟩:∃ s,s=(rdF (rdP (d+1) ver true) ver true fQ_7 s10).2:=⟨_,rfl⟩
 rw [← hst,← hs11] at hq22
 clear hst
 repeat ((first|refine qA rfl ?_|apply qB|refine qC rfl ?_|apply qD|apply qE|apply qF|apply qG|apply qH);try simp (disch:=(first|omega|(simp only [qI,qJ,qK]<;>omega)|exact qL _)) only [go_sem,↓reduceIte,n0,reduceCtorEq,n1,n2,n3,n4,n5,i0,i1,i2,i3,i4,i5,i6,i7,hv_22,hrd0_2,hrd0_7,hrd0_8,hrd0_9,hrd0_10,hrd0_19,hrd0_18])
 generalize hw23:wr w22 vb 8 [.pointer ap22] = w23
 have hS23:Upd (fun b=>b=vb∨b=rb) w22 w23:=by rw [← hw23];exact (Upd.refl _ _).wr _ _ (.inr (.inl rfl))
 have hv_23:blk w23 vb=some (#[.int .i16 ver,strV (rdStr true s0).1,strV (rdStr true s1).1,.int .i32 (rdInt .i32 4 s2).1,.pointer ap8,.pointer ap10,.int .i32 (rdInt .i32 4 s5).1,.slice aa0 N0 qq0,.pointer ap22,.pointer none,.slice none 0 0,.map none],78,(0,0)):=by rw [← hw23,blk_wr_eq,hv_22];rfl
 have hV23:=hS23
 have hU23:Upd (fun b=>b=vb∨b=rb) w1 w23:=hU22.trans hV23
 have hz23:=hV23.size
 have hG23:Glo ev w23:=hG1.updS hU23 hgM1 hgM2
 have hq23:Rdr RT ok w23 rb s11∧NN w23 rb s11:=by
  have hn:∀ x,x=w23→(Rdr RT ok x rb s11∧NN x rb s11):=fun x hx=>by
   rw [hx,← hw23]
   exact Rdr.store hq22 (by omega) (fun h=>by have:=(hok _ h).1;first|omega|exact (hok _ h).2 rfl)
  exact hn _ rfl
 clear hw23
 have hf_7:RepF (RepS true (d+1)) (szS true (d+1)) fQ_7 (fun b=>ok b∨w1.heap.size≤b) w23 (x_7) [.pointer ap22]:=(RepF_ptr rfl (by decide)).2 ⟨_,rfl,by rw [hx_7,hrd];exact (hp22.weaken fun b _ hk=>by have hk':w21.heap.size≤b:=hk;exact .inr (by omega)).keep (hV23.keeps fun b _ hk e=>(hoM b hk) e)⟩
 clear hrd
 have hb_8:(rdL (rdP (d+1) ver true) (dfP (d+1)) ver true [fQ_8,fQ_9] s11).2=none→FB:=fun h=>hb_7 (by rw [rdL_st (by decide) hh_7,← hs11];exact h)
 have hh_8:hasS fQ_8 ver=true:=hasS_t (by show (0:Int)≤ver;omega) (by show (-1:Int) < 0∨ver≤(-1:Int);omega)
 obtain ⟨x_8,hx_8⟩:∃ x,x=(rdF (rdP (d+1) ver true) ver true fQ_8 s11).1:=⟨_,rfl⟩
 repeat ((first|refine qA rfl ?_|apply qB|refine qC rfl ?_|apply qD|apply qE|apply qF|apply qG|apply qH);try simp (disch:=(first|omega|(simp only [qI,qJ,qK]<;>omega)|exact qL _)) only [go_sem,↓reduceIte,n0,reduceCtorEq,n1,n2,n3,n4,n5,i0,i1,i2,i3,i4,i5,i6,i7,hv_23,hrd0_2,hrd0_7,hrd0_8,hrd0_9,hrd0_10,hrd0_19,hrd0_18])
 have hmay:mayS fQ_8 ver=true:=mayS_yes (by decide) (by show (0:Int)≤ver;omega)
 have hrd:rdF (rdP (d+1) ver true) ver true fQ_8 s11=_:=rdF_ptr rfl hmay
 refine (RCompactNullableString_fn w23 hq23.1 hrok hG23.1 hgrb).mono ?_
 rintro r24 w24 ⟨hp24,hq24,hu24⟩
 obtain ⟨ap24,rfl⟩:=hp24.shape
 have hv_24:=hu24.blk_some hv_23 (by omega)
 have hV24:Upd (fun b=>b=vb∨b=rb) w23 w24:=hu24.mono (fun _ h=>.inr h)
 have hU24:Upd (fun b=>b=vb∨b=rb) w1 w24:=hU23.trans hV24
 have hz24:=hV24.size
 have hG24:Glo ev w24:=hG1.updS hU24 hgM1 hgM2
 have hst:(rdF (rdP (d+1) ver true) ver true fQ_8 s11).2=(rdNStr true s11).2:=by first|(rw [hrd];rfl)|rw [hrd]
 obtain ⟨s12,hs12⟩:∃ s,s=(rdF (rdP (d+1) ver true) ver true fQ_8 s11).2:=⟨_,rfl⟩
 rw [← hst,← hs12] at hq24
 clear hst
 repeat ((first|refine qA rfl ?_|apply qB|refine qC rfl ?_|apply qD|apply qE|apply qF|apply qG|apply qH);try simp (disch:=(first|omega|(simp only [qI,qJ,qK]<;>omega)|exact qL _)) only [go_sem,↓reduceIte,n0,reduceCtorEq,n1,n2,n3,n4,n5,i0,i1,i2,i3,i4,i5,i6,i7,hv_24,hrd0_2,hrd0_7,hrd0_8,hrd0_9,hrd0_10,hrd0_19,hrd0_18])
 generalize hw25:wr w24 vb 9 [.pointer ap24] = w25
 have hS25:Upd (fun b=>b=vb∨b=rb) w24 w25:=by rw [← hw25];exact (Upd.refl _ _).wr _ _ (.inr (.inl rfl))
 have hv_25:blk w25 vb=some (#[.int .i16 ver,strV (rdStr true s0).1,strV (rdStr true s1).1,.int .i32 (rdInt .i32 4 s2).1,.pointer ap8,.pointer ap10,.int .i32 (rdInt .i32 4 s5).1,.slice aa0 N0 qq0,.pointer ap22,.pointer ap24,.slice none 0 0,.map none],78,(0,0)):=by rw [← hw25,blk_wr_eq,hv_24];rfl
 have hV25:=hS25
 have hU25:Upd (fun b=>b=vb∨b=rb) w1 w25:=hU24.trans hV25
 have hz25:=hV25.size
 have hG25:Glo ev w25:=hG1.updS hU25 hgM1 hgM2
 have hq25:Rdr RT ok w25 rb s12∧NN w25 rb s12:=by
  have hn:∀ x,x=w25→(Rdr RT ok x rb s12∧NN x rb s12):=fun x hx=>by
   rw [hx,← hw25]
   exact Rdr.store hq24 (by omega) (fun h=>by have:=(hok _ h).1;first|omega|exact (hok _ h).2 rfl)
  exact hn _ rfl
 clear hw25
 have hf_8:RepF (RepS true (d+1)) (szS true (d+1)) fQ_8 (fun b=>ok b∨w1.heap.size≤b) w25 (x_8) [.pointer ap24]:=(RepF_ptr rfl (by decide)).2 ⟨_,rfl,by rw [hx_8,hrd];exact (hp24.weaken fun b _ hk=>by have hk':w23.heap.size≤b:=hk;exact .inr (by omega)).keep (hV25.keeps fun b _ hk e=>(hoM b hk) e)⟩
 clear hrd
 have hb_9:(rdL (rdP (d+1) ver true) (dfP (d+1)) ver true [fQ_9] s12).2=none→FB:=fun h=>hb_8 (by rw [rdL_st (by decide) hh_8,← hs12];exact h)
 have hh_9:hasS fQ_9 ver=true:=hasS_t (by show (0:Int)≤ver;omega) (by show (-1:Int) < 0∨ver≤(-1:Int);omega)
 obtain ⟨x_9,hx_9⟩:∃ x,x=(rdF (rdP (d+1) ver true) ver true fQ_9 s12).1:=⟨_,rfl⟩
 repeat ((first|refine qA rfl ?_|apply qB|refine qC rfl ?_|apply qD|apply qE|apply qF|apply qG|apply qH);try simp (disch:=(first|omega|(simp only [qI,qJ,qK]<;>omega)|exact qL _)) only [go_sem,↓reduceIte,n0,reduceCtorEq,n1,n2,n3,n4,n5,i0,i1,i2,i3,i4,i5,i6,i7,hv_25,hrd0_2,hrd0_7,hrd0_8,hrd0_9,hrd0_10,hrd0_19,hrd0_18])
 refine (RCompactArrayLen_fn w25 hq25.1 hrok hG25.1 hgrb).mono ?_
 rintro _ w26 ⟨rfl,hq26,hu26⟩
 have hv_26:=hu26.blk_some hv_25 (by omega)
 have hV26:Upd (fun b=>b=vb∨b=rb) w25 w26:=hu26.mono (fun _ h=>.inr h)
 have hU26:Upd (fun b=>b=vb∨b=rb) w1 w26:=hU25.trans hV26
 have hz26:=hV26.size
 have hG26:Glo ev w26:=hG1.updS hU26 hgM1 hgM2
 obtain ⟨s13,hs13⟩:∃ s,s=(rdALen true s12).2:=⟨_,rfl⟩
 rw [← hs13] at hq26
 have hyr1:=rdALen_rng true s12
 generalize hy1:(rdALen true s12).1=y1 at *
 obtain ⟨N1,hN1⟩:∃ N,N=y1.toNat:=⟨_,rfl⟩
 have hlb1:(rdMany (rd1 (rdP (d+1) ver true) fQ_9.of fQ_9.sub false true) N1 s13).2=none→FB:=fun h=>hb_9 (by rw [rdL_st (by decide) hh_9];exact rdL_bad (rdF_listbad rfl (by rw [hy1,← hN1,← hs13];exact h)))
 repeat ((first|refine W.seqR rfl ?_|refine W.seq ?_|refine W.regR rfl ?_|refine W.block ?_|refine W.skip ?_|refine W.ret ?_|refine W.exit ?_);try simp (disch:=(first|omega|(simp only [qI,qJ,qK]<;>omega)|exact qL _)) only [go_sem,↓reduceIte,n0,reduceCtorEq,n1,n2,n3,n4,n5,i0,i1,i2,i3,i4,i5,i6,i7,hv_26,hrd0_2,hrd0_7,hrd0_8,hrd0_9,hrd0_10,hrd0_19,hrd0_18])
 refine W.normJ (RowQ [(2,.bool false),(7,.pointer (some ⟨rb,0,none⟩)),(8,.int .i16 ver),(9,.bool true),(10,.pointer (some ⟨vb,0,none⟩)),(26,.int .i32 y1)] 25 (fun va w'=>∃ a0,va = .slice a0 0 0∧Ext w26 w'∧(∀ x,a0=some x→w26.heap.size≤x.block∧x.block < w'.heap.size)∧(N1=0→if nilS fQ_9 ver y1=true then va = .slice none 0 0 else ∃ a,va = .slice (some a) 0 0))) ?_ ?_
 ·by_cases hye:y1=0
  ·repeat ((first|refine qA rfl ?_|apply qB|refine qC rfl ?_|apply qD|apply qE|apply qF|apply qG|apply qH);try simp (disch:=(first|omega|(simp only [qI,qJ,qK]<;>omega)|exact qL _)) only [go_sem,↓reduceIte,n0,reduceCtorEq,n1,n2,n3,n4,n5,i0,i1,i2,i3,i4,i5,i6,i7,hv_26,hrd0_2,hrd0_7,hrd0_8,hrd0_9,hrd0_10,hrd0_19,hrd0_18,hye])
   exact ⟨(by simp (disch:=(first|omega|(simp only [qI,qJ,qK]<;>omega)|exact qL _)) only [go_sem,↓reduceIte,n0,reduceCtorEq,n1,n2,n3,n4,n5,i0,i1,i2,i3,i4,i5,i6,i7,Holds_nil,Holds_cons,hrd0_2,hrd0_7,hrd0_8,hrd0_9,hrd0_10,hrd0_19,hrd0_18,hye]),.slice (some ⟨w26.heap.size,0,none⟩) 0 0,(by simp (disch:=(first|omega|(simp only [qI,qJ,qK]<;>omega)|exact qL _)) only [go_sem,↓reduceIte,n0,reduceCtorEq,n1,n2,n3,n4,n5,i0,i1,i2,i3,i4,i5,i6,i7,hrd0_2,hrd0_7,hrd0_8,hrd0_9,hrd0_10,hrd0_19,hrd0_18]),some ⟨w26.heap.size,0,none⟩,rfl,(Upd.alloc (Upd.refl _ _) _:Ext _ _),(fun x hx=>by cases hx;exact ⟨Nat.le_refl _,by simp only [World.size_alloc];omega⟩),(fun _=>by rw [nilS_may (by decide) (by show (0:Int)≤ver;omega),decide_eq_false (by omega)];exact ⟨_,rfl⟩)⟩
  ·repeat ((first|refine qA rfl ?_|apply qB|refine qC rfl ?_|apply qD|apply qE|apply qF|apply qG|apply qH);try simp (disch:=(first|omega|(simp only [qI,qJ,qK]<;>omega)|exact qL _)) only [go_sem,↓reduceIte,n0,reduceCtorEq,n1,n2,n3,n4,n5,i0,i1,i2,i3,i4,i5,i6,i7,hv_26,hrd0_2,hrd0_7,hrd0_8,hrd0_9,hrd0_10,hrd0_19,hrd0_18,hye])
   exact ⟨(by simp (disch:=(first|omega|(simp only [qI,qJ,qK]<;>omega)|exact qL _)) only [go_sem,↓reduceIte,n0,reduceCtorEq,n1,n2,n3,n4,n5,i0,i1,i2,i3,i4,i5,i6,i7,Holds_nil,Holds_cons,hrd0_2,hrd0_7,hrd0_8,hrd0_9,hrd0_10,hrd0_19,hrd0_18,hye]),.slice none 0 0,(by simp (disch:=(first|omega|(simp only [qI,qJ,qK]<;>omega)|exact qL _)) only [go_sem,↓reduceIte,n0,reduceCtorEq,n1,n2,n3,n4,n5,i0,i1,i2,i3,i4,i5,i6,i7,hrd0_2,hrd0_7,hrd0_8,hrd0_9,hrd0_10,hrd0_19,hrd0_18]),none,rfl,Upd.refl _ _,(fun x hx=>by cases hx),(fun _=>by rw [nilS_may (by decide) (by show (0:Int)≤ver;omega),decide_eq_true (by omega)];exact rfl)⟩
 rintro ρ w27 ⟨⟨hrn1_2,hrn1_7,hrn1_8,hrn1_9,hrn1_10,hrn1_26,-⟩,va,hra1,a0,rfl,hEn1,hab1,hnl1⟩
 have hun27:Upd (fun b=>b=rb) w26 w27:=hEn1.mono fun _ h=>h.elim
 have hq27:=And.intro (hq26.1.upd hEn1 (fun h=>h) (fun _ _ _ h=>h)) (hq26.2.upd hEn1 fun h=>h)
 have hv_27:=hun27.blk_some hv_26 (by omega)
 have hV27:Upd (fun b=>b=vb∨b=rb) w26 w27:=hun27.mono (fun _ h=>.inr h)
 have hU27:Upd (fun b=>b=vb∨b=rb) w1 w27:=hU26.trans hV27
 have hz27:=hV27.size
 have hG27:Glo ev w27:=hG1.updS hU27 hgM1 hgM2
 repeat ((first|refine W.seqR rfl ?_|refine W.seq ?_|refine W.regR rfl ?_|refine W.block ?_|refine W.skip ?_|refine W.ret ?_|refine W.exit ?_);try simp (disch:=(first|omega|(simp only [qI,qJ,qK]<;>omega)|exact qL _)) only [go_sem,↓reduceIte,n0,reduceCtorEq,n1,n2,n3,n4,n5,i0,i1,i2,i3,i4,i5,i6,i7,hv_27,hrn1_2,hrn1_7,hrn1_8,hrn1_9,hrn1_10,hrn1_26,hra1])
 refine (ROk_fn w27 hq27.1).mono ?_
 rintro _ wz ⟨rfl,hez⟩
 rw [hez]
 clear hez wz
 by_cases hsn1:s13=none
 ·have hso:s13.isSome=false:=by rw [hsn1];rfl
  repeat (first|simp (disch:=(first|omega|(simp only [qI,qJ,qK]<;>omega)|exact qL _)) only [go_sem,↓reduceIte,n0,reduceCtorEq,n1,n2,n3,n4,n5,i0,i1,i2,i3,i4,i5,i6,i7,hv_27,hrn1_2,hrn1_7,hrn1_8,hrn1_9,hrn1_10,hrn1_26,hra1,hso]|refine qA rfl ?_|apply qB|refine qC rfl ?_|apply qD|apply qE|apply qF|apply qG|apply qH)
  refine (RComplete_fn w27 hq27.1 hG27.2).mono ?_
  rintro _ wz ⟨rfl,hez⟩
  rw [hez]
  repeat (first|simp (disch:=(first|omega|(simp only [qI,qJ,qK]<;>omega)|exact qL _)) only [go_sem,↓reduceIte,n0,reduceCtorEq,n1,n2,n3,n4,n5,i0,i1,i2,i3,i4,i5,i6,i7,hv_27,hrn1_2,hrn1_7,hrn1_8,hrn1_9,hrn1_10,hrn1_26,hra1]|refine qA rfl ?_|apply qB|refine qC rfl ?_|apply qD|apply qE|apply qF|apply qG|apply qH)
  rw [errV_none hsn1]
  exact ReadQ.bad (Eq.mp hFB (hlb1 (by rw [hsn1];exact rdMany_none rd1P_none _))) (hbase.trans' hU27 fun i hi h=>h.elim id fun h=>by omega)
 have hso1:s13.isSome=true:=isSome_some hsn1
 try simp (disch:=(first|omega|(simp only [qI,qJ,qK]<;>omega)|exact qL _)) only [go_sem,↓reduceIte,n0,reduceCtorEq,n1,n2,n3,n4,n5,i0,i1,i2,i3,i4,i5,i6,i7,hv_27,hrn1_2,hrn1_7,hrn1_8,hrn1_9,hrn1_10,hrn1_26,hra1,hso1]
 repeat ((first|refine W.seqR rfl ?_|refine W.seq ?_|refine W.regR rfl ?_|refine W.block ?_|refine W.skip ?_|refine W.ret ?_|refine W.exit ?_);try simp (disch:=(first|omega|(simp only [qI,qJ,qK]<;>omega)|exact qL _)) only [go_sem,↓reduceIte,n0,reduceCtorEq,n1,n2,n3,n4,n5,i0,i1,i2,i3,i4,i5,i6,i7,hv_27,hrn1_2,hrn1_7,hrn1_8,hrn1_9,hrn1_10,hrn1_26,hra1,hso1])
 refine W.condK ?_
 try simp (disch:=(first|omega|(simp only [qI,qJ,qK]<;>omega)|exact qL _)) only [go_sem,↓reduceIte,n0,reduceCtorEq,n1,n2,n3,n4,n5,i0,i1,i2,i3,i4,i5,i6,i7,hv_27,hrn1_2,hrn1_7,hrn1_8,hrn1_9,hrn1_10,hrn1_26,hra1,hso1]
 repeat ((first|refine W.seqR rfl ?_|refine W.seq ?_|refine W.regR rfl ?_|refine W.block ?_|refine W.skip ?_|refine W.ret ?_|refine W.exit ?_);try simp (disch:=(first|omega|(simp only [qI,qJ,qK]<;>omega)|exact qL _)) only [go_sem,↓reduceIte,n0,reduceCtorEq,n1,n2,n3,n4,n5,i0,i1,i2,i3,i4,i5,i6,i7,hv_27,hrn1_2,hrn1_7,hrn1_8,hrn1_9,hrn1_10,hrn1_26,hra1,hso1,slBase_00])
 refine W.normJ (RowQ [(2,.bool false),(7,.pointer (some ⟨rb,0,none⟩)),(8,.int .i16 ver),(9,.bool true),(10,.pointer (some ⟨vb,0,none⟩)),(26,.int .i32 y1)] 25 (fun va w'=>LstI RT (rd1 (rdP (d+1) ver true) fQ_9.of fQ_9.sub false true) (Rep1 (RepS true (d+1)) fQ_9.of fQ_9.sub) 18 86 [.int .u8 0,.int .u8 0,.int .u8 0,.int .u8 0,.int .u8 0,.int .u8 0,.int .u8 0,.int .u8 0,.int .u8 0,.int .u8 0,.int .u8 0,.int .u8 0,.int .u8 0,.int .u8 0,.int .u8 0,.int .u8 0,.slice none 0 0,.map none] w26.heap.size N1 ok (fun b=>ok b∨w1.heap.size≤b) rb w26 s13 va 0 s13 [] [] w'∧(N1=0→if nilS fQ_9 ver y1=true then va = .slice none 0 0 else ∃ a,va = .slice (some a) 0 0))) ?_ ?_
 ·by_cases hy0:(0:Int) < y1
  ·have hyv:Value.int .i32 y1 = .int .i32 ((N1:Nat):Int):=by rw [show y1=((N1:Nat):Int) by omega]
   repeat ((first|refine qA rfl ?_|apply qB|refine qC rfl ?_|apply qD|apply qE|apply qF|apply qG|apply qH);try simp (disch:=(first|omega|(simp only [qI,qJ,qK]<;>omega)|exact qL _)) only [go_sem,↓reduceIte,n0,reduceCtorEq,n1,n2,n3,n4,n5,i0,i1,i2,i3,i4,i5,i6,i7,hv_27,hrn1_2,hrn1_7,hrn1_8,hrn1_9,hrn1_10,hrn1_26,hra1])
   refine wp_appendZ (m:=N1) utQ_73 utQ_21 inQ_86 (by decide) (by first|rfl|simp (disch:=(first|omega|(simp only [qI,qJ,qK]<;>omega)|exact qL _)) only [go_sem,↓reduceIte,n0,reduceCtorEq,n1,n2,n3,n4,n5,i0,i1,i2,i3,i4,i5,i6,i7,hrn1_2,hrn1_7,hrn1_8,hrn1_9,hrn1_10,hrn1_26,hra1]) (by first|exact hyv|(simp (disch:=(first|omega|(simp only [qI,qJ,qK]<;>omega)|exact qL _)) only [go_sem,↓reduceIte,n0,reduceCtorEq,n1,n2,n3,n4,n5,i0,i1,i2,i3,i4,i5,i6,i7,hrn1_2,hrn1_7,hrn1_8,hrn1_9,hrn1_10,hrn1_26,hra1];exact hyv)) (by omega) (by omega) (by decide) ?_
   intro q rest hq1
   have hEw:Ext w27 (w27.drew.alloc (.cells (zs [.int .u8 0,.int .u8 0,.int .u8 0,.int .u8 0,.int .u8 0,.int .u8 0,.int .u8 0,.int .u8 0,.int .u8 0,.int .u8 0,.int .u8 0,.int .u8 0,.int .u8 0,.int .u8 0,.int .u8 0,.int .u8 0,.slice none 0 0,.map none] N1++rest).toArray 86)):=(Upd.refl _ _).drew.alloc _
   repeat (first|simp (disch:=(first|omega|(simp only [qI,qJ,qK]<;>omega)|exact qL _)) only [go_sem,↓reduceIte,n0,reduceCtorEq,n1,n2,n3,n4,n5,i0,i1,i2,i3,i4,i5,i6,i7,hv_27,hrn1_2,hrn1_7,hrn1_8,hrn1_9,hrn1_10,hrn1_26,hra1]|refine qA rfl ?_|apply qB|refine qC rfl ?_|apply qD|apply qE|apply qF|apply qG|apply qH)
   exact ⟨(by simp (disch:=(first|omega|(simp only [qI,qJ,qK]<;>omega)|exact qL _)) only [go_sem,↓reduceIte,n0,reduceCtorEq,n1,n2,n3,n4,n5,i0,i1,i2,i3,i4,i5,i6,i7,Holds_nil,Holds_cons,hrn1_2,hrn1_7,hrn1_8,hrn1_9,hrn1_10,hrn1_26,hra1]),.slice (some ⟨w27.heap.size,0,none⟩) N1 q,(by simp (disch:=(first|omega|(simp only [qI,qJ,qK]<;>omega)|exact qL _)) only [go_sem,↓reduceIte,n0,reduceCtorEq,n1,n2,n3,n4,n5,i0,i1,i2,i3,i4,i5,i6,i7,hrn1_2,hrn1_7,hrn1_8,hrn1_9,hrn1_10,hrn1_26,hra1]),LstI.start (RowJ.start (by omega) hq1 (by show w26.heap.size≤w27.drew.heap.size;rw [size_drew];omega) (blk_alloc_new rfl)) ⟨hq27.1.upd hEw (fun h=>h) (fun _ _ _ h=>h),hq27.2.upd hEw fun h=>h⟩ (hun27.trans (hEw.mono fun _ h=>h.elim)),fun h0=>by omega⟩
  ·repeat ((first|refine qA rfl ?_|apply qB|refine qC rfl ?_|apply qD|apply qE|apply qF|apply qG|apply qH);try simp (disch:=(first|omega|(simp only [qI,qJ,qK]<;>omega)|exact qL _)) only [go_sem,↓reduceIte,n0,reduceCtorEq,n1,n2,n3,n4,n5,i0,i1,i2,i3,i4,i5,i6,i7,hv_27,hrn1_2,hrn1_7,hrn1_8,hrn1_9,hrn1_10,hrn1_26,hra1])
   exact ⟨(by simp (disch:=(first|omega|(simp only [qI,qJ,qK]<;>omega)|exact qL _)) only [go_sem,↓reduceIte,n0,reduceCtorEq,n1,n2,n3,n4,n5,i0,i1,i2,i3,i4,i5,i6,i7,Holds_nil,Holds_cons,hrn1_2,hrn1_7,hrn1_8,hrn1_9,hrn1_10,hrn1_26,hra1]),.slice a0 0 0,(by simp (disch:=(first|omega|(simp only [qI,qJ,qK]<;>omega)|exact qL _)) only [go_sem,↓reduceIte,n0,reduceCtorEq,n1,n2,n3,n4,n5,i0,i1,i2,i3,i4,i5,i6,i7,hrn1_2,hrn1_7,hrn1_8,hrn1_9,hrn1_10,hrn1_26,hra1,slBase_00]),LstI.start (RowJ.zero (by omega) hab1) hq27 (hun27),hnl1⟩
 rintro ρ w28 ⟨⟨hrb1_2,hrb1_7,hrb1_8,hrb1_9,hrb1_10,hrb1_26,-⟩,va1,hra1,hL1,hnc1⟩
 repeat ((first|refine qA rfl ?_|apply qB|refine qC rfl ?_|apply qD|apply qE|apply qF|apply qG|apply qH);try simp (disch:=(first|omega|(simp only [qI,qJ,qK]<;>omega)|exact qL _)) only [go_sem,↓reduceIte,n0,reduceCtorEq,n1,n2,n3,n4,n5,i0,i1,i2,i3,i4,i5,i6,i7,hv_27,hrb1_2,hrb1_7,hrb1_8,hrb1_9,hrb1_10,hrb1_26,hra1,exitRQ_ret,exitRQ_exit,Int.toNat_natCast,Nat.mul_one])
 refine W.exitRJ 2 (EndQ [(2,.bool false),(7,.pointer (some ⟨rb,0,none⟩)),(8,.int .i16 ver),(9,.bool true),(10,.pointer (some ⟨vb,0,none⟩)),(26,.int .i32 y1),(25,va1)] (fun w'=>∃ s xs css,LstI RT (rd1 (rdP (d+1) ver true) fQ_9.of fQ_9.sub false true) (Rep1 (RepS true (d+1)) fQ_9.of fQ_9.sub) 18 86 [.int .u8 0,.int .u8 0,.int .u8 0,.int .u8 0,.int .u8 0,.int .u8 0,.int .u8 0,.int .u8 0,.int .u8 0,.int .u8 0,.int .u8 0,.int .u8 0,.int .u8 0,.int .u8 0,.int .u8 0,.int .u8 0,.slice none 0 0,.map none] w26.heap.size N1 ok (fun b=>ok b∨w1.heap.size≤b) rb w26 s13 va1 N1 s xs css w')) (W.loop (LoopQ [(2,.bool false),(7,.pointer (some ⟨rb,0,none⟩)),(8,.int .i16 ver),(9,.bool true),(10,.pointer (some ⟨vb,0,none⟩)),(26,.int .i32 y1),(25,va1)] 27 (fun j w'=>∃ s xs css,LstI RT (rd1 (rdP (d+1) ver true) fQ_9.of fQ_9.sub false true) (Rep1 (RepS true (d+1)) fQ_9.of fQ_9.sub) 18 86 [.int .u8 0,.int .u8 0,.int .u8 0,.int .u8 0,.int .u8 0,.int .u8 0,.int .u8 0,.int .u8 0,.int .u8 0,.int .u8 0,.int .u8 0,.int .u8 0,.int .u8 0,.int .u8 0,.int .u8 0,.int .u8 0,.slice none 0 0,.map none] w26.heap.size N1 ok (fun b=>ok b∨w1.heap.size≤b) rb w26 s13 va1 j s xs css w')) (fun ρ _=>N1 - (RowKit.intOf (ρ 27)).toNat) ?_ ?_) ?_
 ·exact ⟨(by simp (disch:=(first|omega|(simp only [qI,qJ,qK]<;>omega)|exact qL _)) only [go_sem,↓reduceIte,n0,reduceCtorEq,n1,n2,n3,n4,n5,i0,i1,i2,i3,i4,i5,i6,i7,Holds_nil,Holds_cons,hrb1_2,hrb1_7,hrb1_8,hrb1_9,hrb1_10,hrb1_26,hra1]),0,(by simp (disch:=(first|omega|(simp only [qI,qJ,qK]<;>omega)|exact qL _)) only [go_sem,↓reduceIte,n0,reduceCtorEq,n1,n2,n3,n4,n5,i0,i1,i2,i3,i4,i5,i6,i7,hrb1_2,hrb1_7,hrb1_8,hrb1_9,hrb1_10,hrb1_26,hra1];all_goals rfl),s13,[],[],hL1⟩
 ·rintro ρ w29 ⟨⟨hrc1_2,hrc1_7,hrc1_8,hrc1_9,hrc1_10,hrc1_26,hrc1_25,-⟩,j1,hri1,s14,xs1,css1,hL1⟩
  have hj1:=hL1.le
  have hq29:=hL1.rd
  have hU29:Upd (fun b=>b=vb∨b=rb) w1 w29:=hU26.trans' hL1.upd fun i _ h=>.inr h
  have hz29:=hL1.upd.size
  have hG29:Glo ev w29:=hG1.updS hU29 hgM1 hgM2
  by_cases hlt1:j1 < N1
  ·obtain ⟨R1,q1,B1,hva1,hNq1,hLR1,hA1,hx1_29,hnext1⟩:=hL1.row.next hlt1
   have hRl1:=blk_lt hx1_29
   generalize css1.flatten=A1 at hA1 hx1_29 hnext1
   replace hra1:ρ 25 = .slice (some ⟨R1,0,none⟩) N1 q1:=hrc1_25.trans hva1
   have hown1:∀ b,ownB va1 b→w26.heap.size≤b∧b < w29.heap.size:=fun b h=>hL1.row.own h
   have hoM1:∀ b,(fun b=>(ok b∨w1.heap.size≤b)∧¬ ownB va1 b) b→¬ (b=R1∨b=rb):=fun b hk h=>h.elim (fun e=>hk.2 ⟨_,_,_,hva1,e⟩) (fun e=>hoM b hk.1 (.inr e))
   obtain ⟨X29,hX29⟩:∃ X:Array Value,X=(A1++(([.int .u8 0,.int .u8 0,.int .u8 0,.int .u8 0,.int .u8 0,.int .u8 0,.int .u8 0,.int .u8 0,.int .u8 0,.int .u8 0,.int .u8 0,.int .u8 0,.int .u8 0,.int .u8 0,.int .u8 0,.int .u8 0,.slice none 0 0,.map none]:List Value)++B1)).toArray:=⟨_,rfl⟩
   have hxb29:blk w29 R1=some (X29,86,(0,0)):=by rw [hX29];exact hx1_29
   have hXs29:j1 * 18+18≤X29.size:=by rw [hX29];simp only [List.size_toArray,List.length_append,List.length_cons,List.length_nil,hA1];omega
   repeat ((first|refine qA rfl ?_|apply qB|refine qC rfl ?_|apply qD|apply qE|apply qF|apply qG|apply qH);try simp (disch:=(first|omega|(simp only [qI,qJ,qK]<;>omega)|exact qL _)) only [go_sem,↓reduceIte,n0,reduceCtorEq,n1,n2,n3,n4,n5,i0,i1,i2,i3,i4,i5,i6,i7,hxb29,hrc1_2,hrc1_7,hrc1_8,hrc1_9,hrc1_10,hrc1_26,hra1,hri1,exitRQ_ret,exitRQ_exit,Int.toNat_natCast,Nat.mul_one])
   refine (DefaultEX0_fn w29 hx1_29 hA1).mono ?_
   rintro _ w30 ⟨hx1_30,hu30⟩
   have hq30:=And.intro (hq29.1.upd hu30 (by omega) (fun b _ hk e=>by have:=(hok b hk).1;omega)) (hq29.2.upd hu30 (by omega))
   have hV30:Upd (fun b=>b=R1∨b=rb) w29 w30:=hu30.mono (fun _ h=>.inl h)
   have hU30:Upd (fun b=>b=vb∨b=rb) w1 w30:=hU29.trans' hV30 fun i hi h=>h.elim (fun h=>by omega) .inr
   have hz30:=hV30.size
   have hG30:Glo ev w30:=hG1.updS hU30 hgM1 hgM2
   obtain ⟨X30,hX30⟩:∃ X:Array Value,X=(A1++(([.int .u8 0,.int .u8 0,.int .u8 0,.int .u8 0,.int .u8 0,.int .u8 0,.int .u8 0,.int .u8 0,.int .u8 0,.int .u8 0,.int .u8 0,.int .u8 0,.int .u8 0,.int .u8 0,.int .u8 0,.int .u8 0,.slice none 0 0,.map none]:List Value)++B1)).toArray:=⟨_,rfl⟩
   have hxb30:blk w30 R1=some (X30,86,(0,0)):=by rw [hX30];exact hx1_30
   have hXs30:j1 * 18+18≤X30.size:=by rw [hX30];simp only [List.size_toArray,List.length_append,List.length_cons,List.length_nil,hA1];omega
   have hbe1_0:(rdL (rdP d ver true) (dfP d) ver true [fX0_0,fX0_1] s14).2=none→FB:=fun h=>hlb1 (hL1.bad hlt1 rd1P_none (by show (rd1 (rdP (d+1) ver true) 10 fs_X0 false true s14).2=none;rw [rd1_part];exact rdP_bad h))
   have hhe1_0:hasS fX0_0 ver=true:=hasS_t (by show (0:Int)≤ver;omega) (by show (-1:Int) < 0∨ver≤(-1:Int);omega)
   obtain ⟨xe1_0,hxe1_0⟩:∃ x,x=(rdF (rdP d ver true) ver true fX0_0 s14).1:=⟨_,rfl⟩
   repeat ((first|refine qA rfl ?_|apply qB|refine qC rfl ?_|apply qD|apply qE|apply qF|apply qG|apply qH);try simp (disch:=(first|omega|(simp only [qI,qJ,qK]<;>omega)|exact qL _)) only [go_sem,↓reduceIte,n0,reduceCtorEq,n1,n2,n3,n4,n5,i0,i1,i2,i3,i4,i5,i6,i7,hxb30,hrc1_2,hrc1_7,hrc1_8,hrc1_9,hrc1_10,hrc1_26,hra1,hri1,exitRQ_ret,exitRQ_exit,Int.toNat_natCast,Nat.mul_one])
   have hrd:rdF (rdP d ver true) ver true fX0_0 s14=_:=rdF_uuid rfl
   refine (RUuid_fn w30 hq30.1 hrok).mono ?_
   rintro _ w31 ⟨rfl,hq31,hu31⟩
   have hx1_31:=hu31.blk_some hx1_30 (by omega)
   have hV31:Upd (fun b=>b=R1∨b=rb) w30 w31:=hu31.mono (fun _ h=>.inr h)
   have hU31:Upd (fun b=>b=vb∨b=rb) w1 w31:=hU30.trans' hV31 fun i hi h=>h.elim (fun h=>by omega) .inr
   have hz31:=hV31.size
   have hG31:Glo ev w31:=hG1.updS hU31 hgM1 hgM2
   obtain ⟨X31,hX31⟩:∃ X:Array Value,X=(A1++(([.int .u8 0,.int .u8 0,.int .u8 0,.int .u8 0,.int .u8 0,.int .u8 0,.int .u8 0,.int .u8 0,.int .u8 0,.int .u8 0,.int .u8 0,.int .u8 0,.int .u8 0,.int .u8 0,.int .u8 0,.int .u8 0,.slice none 0 0,.map none]:List Value)++B1)).toArray:=⟨_,rfl⟩
   have hxb31:blk w31 R1=some (X31,86,(0,0)):=by rw [hX31];exact hx1_31
   have hXs31:j1 * 18+18≤X31.size:=by rw [hX31];simp only [List.size_toArray,List.length_append,List.length_cons,List.length_nil,hA1];omega
   have hst:(rdF (rdP d ver true) ver true fX0_0 s14).2=(rdSpan 16 s14).2:=by first|(rw [hrd];rfl)|rw [hrd]
   obtain ⟨s15,hs15⟩:∃ s,s=(rdF (rdP d ver true) ver true fX0_0 s14).2:=⟨_,rfl⟩
   rw [← hst,← hs15] at hq31
   clear hst
   have hl16:((uuidS (rdSpan 16 s14).1).map byteV).length=16:=by rw [List.length_map,uuidS_len]
   have hx16:=flat_bytes (uuidS (rdSpan 16 s14).1)
   have hxe:xe1_0 = .oct false (uuidS (rdSpan 16 s14).1):=by rw [hxe1_0,hrd]
   have hxc:(uuidS (xe1_0).s).map byteV=(uuidS (rdSpan 16 s14).1).map byteV:=by rw [hxe];show (uuidS (uuidS _)).map byteV=_;rw [uuidS_idem]
   generalize (uuidS (rdSpan 16 s14).1).map byteV=Xu at *
   obtain ⟨ue10_0,ue10_1,ue10_2,ue10_3,ue10_4,ue10_5,ue10_6,ue10_7,ue10_8,ue10_9,ue10_10,ue10_11,ue10_12,ue10_13,ue10_14,ue10_15,rfl⟩:=list16 hl16
   simp only [List.all_cons,List.all_nil,Bool.and_true,Bool.and_eq_true] at hx16
   obtain ⟨fue10_0,fue10_1,fue10_2,fue10_3,fue10_4,fue10_5,fue10_6,fue10_7,fue10_8,fue10_9,fue10_10,fue10_11,fue10_12,fue10_13,fue10_14,fue10_15⟩:=hx16
   have hcz:cellsAt #[ue10_0,ue10_1,ue10_2,ue10_3,ue10_4,ue10_5,ue10_6,ue10_7,ue10_8,ue10_9,ue10_10,ue10_11,ue10_12,ue10_13,ue10_14,ue10_15] 0 16=some (.agg #[ue10_0,ue10_1,ue10_2,ue10_3,ue10_4,ue10_5,ue10_6,ue10_7,ue10_8,ue10_9,ue10_10,ue10_11,ue10_12,ue10_13,ue10_14,ue10_15]):=cellsAt_full rfl
   have hst31_0:j1 * 18+16≤X31.size:=by omega
   have hld31_16:X31[j1 * 18+16]? = some (.slice none 0 0):=by rw [hX31];exact el_cell (R:=0) hA1 (Nat.le_of_ble_eq_true rfl)
   repeat (first|simp (disch:=(first|omega|(simp only [qI,qJ,qK]<;>omega)|exact qL _)) only [go_sem,↓reduceIte,n0,reduceCtorEq,n1,n2,n3,n4,n5,i0,i1,i2,i3,i4,i5,i6,i7,hxb31,hrc1_2,hrc1_7,hrc1_8,hrc1_9,hrc1_10,hrc1_26,hra1,hri1,exitRQ_ret,exitRQ_exit,Int.toNat_natCast,Nat.mul_one,hcz,fue10_0,fue10_1,fue10_2,fue10_3,fue10_4,fue10_5,fue10_6,fue10_7,fue10_8,fue10_9,fue10_10,fue10_11,fue10_12,fue10_13,fue10_14,fue10_15,hst31_0,hld31_16,Array.getElem?_setIfInBounds_ne]|refine qA rfl ?_|apply qB|refine qC rfl ?_|apply qD|apply qE|apply qF|apply qG|apply qH)
   have hEu:Ext w31 (wr (w31.alloc (.cells #[.int .u8 0,.int .u8 0,.int .u8 0,.int .u8 0,.int .u8 0,.int .u8 0,.int .u8 0,.int .u8 0,.int .u8 0,.int .u8 0,.int .u8 0,.int .u8 0,.int .u8 0,.int .u8 0,.int .u8 0,.int .u8 0] 83)) w31.heap.size 0 [ue10_0,ue10_1,ue10_2,ue10_3,ue10_4,ue10_5,ue10_6,ue10_7,ue10_8,ue10_9,ue10_10,ue10_11,ue10_12,ue10_13,ue10_14,ue10_15]):=(Upd.alloc (Upd.refl _ _) _).wr _ _ (.inl (Nat.le_refl _))
   have hq32:=And.intro (hq31.1.upd hEu (fun h=>h) (fun _ _ _ h=>h)) (hq31.2.upd hEu fun h=>h)
   have hu32:Upd (fun b=>b=rb) w31 (wr (w31.alloc (.cells #[.int .u8 0,.int .u8 0,.int .u8 0,.int .u8 0,.int .u8 0,.int .u8 0,.int .u8 0,.int .u8 0,.int .u8 0,.int .u8 0,.int .u8 0,.int .u8 0,.int .u8 0,.int .u8 0,.int .u8 0,.int .u8 0] 83)) w31.heap.size 0 [ue10_0,ue10_1,ue10_2,ue10_3,ue10_4,ue10_5,ue10_6,ue10_7,ue10_8,ue10_9,ue10_10,ue10_11,ue10_12,ue10_13,ue10_14,ue10_15]):=hEu.mono fun _ h=>h.elim
   clear hEu
   generalize (wr (w31.alloc (.cells #[.int .u8 0,.int .u8 0,.int .u8 0,.int .u8 0,.int .u8 0,.int .u8 0,.int .u8 0,.int .u8 0,.int .u8 0,.int .u8 0,.int .u8 0,.int .u8 0,.int .u8 0,.int .u8 0,.int .u8 0,.int .u8 0] 83)) w31.heap.size 0 [ue10_0,ue10_1,ue10_2,ue10_3,ue10_4,ue10_5,ue10_6,ue10_7,ue10_8,ue10_9,ue10_10,ue10_11,ue10_12,ue10_13,ue10_14,ue10_15])=w32 at *
   have hx1_32:=hu32.blk_some hx1_31 (by omega)
   have hV32:Upd (fun b=>b=R1∨b=rb) w31 w32:=hu32.mono (fun _ h=>.inr h)
   have hU32:Upd (fun b=>b=vb∨b=rb) w1 w32:=hU31.trans' hV32 fun i hi h=>h.elim (fun h=>by omega) .inr
   have hz32:=hV32.size
   have hG32:Glo ev w32:=hG1.updS hU32 hgM1 hgM2
   obtain ⟨X32,hX32⟩:∃ X:Array Value,X=(A1++(([.int .u8 0,.int .u8 0,.int .u8 0,.int .u8 0,.int .u8 0,.int .u8 0,.int .u8 0,.int .u8 0,.int .u8 0,.int .u8 0,.int .u8 0,.int .u8 0,.int .u8 0,.int .u8 0,.int .u8 0,.int .u8 0,.slice none 0 0,.map none]:List Value)++B1)).toArray:=⟨_,rfl⟩
   have hxb32:blk w32 R1=some (X32,86,(0,0)):=by rw [hX32];exact hx1_32
   have hXs32:j1 * 18+18≤X32.size:=by rw [hX32];simp only [List.size_toArray,List.length_append,List.length_cons,List.length_nil,hA1];omega
   generalize hw33:wr w32 R1 (j1 * 18) [ue10_0,ue10_1,ue10_2,ue10_3,ue10_4,ue10_5,ue10_6,ue10_7,ue10_8,ue10_9,ue10_10,ue10_11,ue10_12,ue10_13,ue10_14,ue10_15] = w33
   have hS33:Upd (fun b=>b=R1∨b=rb) w32 w33:=by rw [← hw33];exact (Upd.refl _ _).wr _ _ (.inr (.inl rfl))
   have hx1_33:blk w33 R1=some ((A1++(([ue10_0,ue10_1,ue10_2,ue10_3,ue10_4,ue10_5,ue10_6,ue10_7,ue10_8,ue10_9,ue10_10,ue10_11,ue10_12,ue10_13,ue10_14,ue10_15,.slice none 0 0,.map none]:List Value)++B1)).toArray,86,(0,0)):=by rw [← hw33];exact el_blk0 hx1_32 hA1 (Nat.le_of_ble_eq_true rfl)
   have hV33:=hS33
   have hU33:Upd (fun b=>b=vb∨b=rb) w1 w33:=hU32.trans' hV33 fun i hi h=>h.elim (fun h=>by omega) .inr
   have hz33:=hV33.size
   have hG33:Glo ev w33:=hG1.updS hU33 hgM1 hgM2
   have hq33:Rdr RT ok w33 rb s15∧NN w33 rb s15:=by
    have hn:∀ x,x=w33→(Rdr RT ok x rb s15∧NN x rb s15):=fun x hx=>by
     rw [hx,← hw33]
     exact Rdr.store hq32 (by omega) (fun h=>by have:=(hok _ h).1;first|omega|exact (hok _ h).2 rfl)
    exact hn _ rfl
   obtain ⟨X33,hX33⟩:∃ X:Array Value,X=(A1++(([ue10_0,ue10_1,ue10_2,ue10_3,ue10_4,ue10_5,ue10_6,ue10_7,ue10_8,ue10_9,ue10_10,ue10_11,ue10_12,ue10_13,ue10_14,ue10_15,.slice none 0 0,.map none]:List Value)++B1)).toArray:=⟨_,rfl⟩
   have hxb33:blk w33 R1=some (X33,86,(0,0)):=by rw [hX33];exact hx1_33
   have hXs33:j1 * 18+18≤X33.size:=by rw [hX33];simp only [List.size_toArray,List.length_append,List.length_cons,List.length_nil,hA1];omega
   clear hw33
   have hfe1_0:RepF (RepS true d) (szS true d) fX0_0 (fun b=>(ok b∨w1.heap.size≤b)∧¬ ownB va1 b) w33 (xe1_0) [ue10_0,ue10_1,ue10_2,ue10_3,ue10_4,ue10_5,ue10_6,ue10_7,ue10_8,ue10_9,ue10_10,ue10_11,ue10_12,ue10_13,ue10_14,ue10_15]:=(RepF_uuid rfl).2 hxc.symm
   clear hrd
   have hbe1_1:(rdL (rdP d ver true) (dfP d) ver true [fX0_1] s15).2=none→FB:=fun h=>hbe1_0 (by rw [rdL_st (by decide) hhe1_0,← hs15];exact h)
   have hhe1_1:hasS fX0_1 ver=true:=hasS_t (by show (0:Int)≤ver;omega) (by show (-1:Int) < 0∨ver≤(-1:Int);omega)
   obtain ⟨xe1_1,hxe1_1⟩:∃ x,x=(rdF (rdP d ver true) ver true fX0_1 s15).1:=⟨_,rfl⟩
   have hld33_16:X33[j1 * 18+16]? = some (.slice none 0 0):=by rw [hX33];exact el_cell (R:=0) hA1 (Nat.le_of_ble_eq_true rfl)
   repeat ((first|refine qA rfl ?_|apply qB|refine qC rfl ?_|apply qD|apply qE|apply qF|apply qG|apply qH);try simp (disch:=(first|omega|(simp only [qI,qJ,qK]<;>omega)|exact qL _)) only [go_sem,↓reduceIte,n0,reduceCtorEq,n1,n2,n3,n4,n5,i0,i1,i2,i3,i4,i5,i6,i7,hxb33,hrc1_2,hrc1_7,hrc1_8,hrc1_9,hrc1_10,hrc1_26,hra1,hri1,exitRQ_ret,exitRQ_exit,Int.toNat_natCast,Nat.mul_one,hld33_16])
   refine (RCompactArrayLen_fn w33 hq33.1 hrok hG33.1 hgrb).mono ?_
   rintro _ w34 ⟨rfl,hq34,hu34⟩
   have hx1_34:=hu34.blk_some hx1_33 (by omega)
   have hV34:Upd (fun b=>b=R1∨b=rb) w33 w34:=hu34.mono (fun _ h=>.inr h)
   have hU34:Upd (fun b=>b=vb∨b=rb) w1 w34:=hU33.trans' hV34 fun i hi h=>h.elim (fun h=>by omega) .inr
   have hz34:=hV34.size
   have hG34:Glo ev w34:=hG1.updS hU34 hgM1 hgM2
   obtain ⟨X34,hX34⟩:∃ X:Array Value,X=(A1++(([ue10_0,ue10_1,ue10_2,ue10_3,ue10_4,ue10_5,ue10_6,ue10_7,ue10_8,ue10_9,ue10_10,ue10_11,ue10_12,ue10_13,ue10_14,ue10_15,.slice none 0 0,.map none]:List Value)++B1)).toArray:=⟨_,rfl⟩
   have hxb34:blk w34 R1=some (X34,86,(0,0)):=by rw [hX34];exact hx1_34
   have hXs34:j1 * 18+18≤X34.size:=by rw [hX34];simp only [List.size_toArray,List.length_append,List.length_cons,List.length_nil,hA1];omega
   obtain ⟨s16,hs16⟩:∃ s,s=(rdALen true s15).2:=⟨_,rfl⟩
   rw [← hs16] at hq34
   have hyr2:=rdALen_rng true s15
   generalize hy2:(rdALen true s15).1=y2 at *
   obtain ⟨N2,hN2⟩:∃ N,N=y2.toNat:=⟨_,rfl⟩
   have hlb2:(rdMany (rd1 (rdP d ver true) fX0_1.of fX0_1.sub false true) N2 s16).2=none→FB:=fun h=>hbe1_1 (by rw [rdL_st (by decide) hhe1_1];exact rdL_bad (rdF_listbad rfl (by rw [hy2,← hN2,← hs16];exact h)))
   repeat ((first|refine W.seqR rfl ?_|refine W.seq ?_|refine W.regR rfl ?_|refine W.block ?_|refine W.skip ?_|refine W.ret ?_|refine W.exit ?_);try simp (disch:=(first|omega|(simp only [qI,qJ,qK]<;>omega)|exact qL _)) only [go_sem,↓reduceIte,n0,reduceCtorEq,n1,n2,n3,n4,n5,i0,i1,i2,i3,i4,i5,i6,i7,hxb34,hrc1_2,hrc1_7,hrc1_8,hrc1_9,hrc1_10,hrc1_26,hra1,hri1,exitRQ_ret,exitRQ_exit,Int.toNat_natCast,Nat.mul_one])
   refine (ROk_fn w34 hq34.1).mono ?_
   rintro _ wz ⟨rfl,hez⟩
   rw [hez]
   clear hez wz
   by_cases hsn2:s16=none
   ·have hso:s16.isSome=false:=by rw [hsn2];rfl
    repeat (first|simp (disch:=(first|omega|(simp only [qI,qJ,qK]<;>omega)|exact qL _)) only [go_sem,↓reduceIte,n0,reduceCtorEq,n1,n2,n3,n4,n5,i0,i1,i2,i3,i4,i5,i6,i7,hxb34,hrc1_2,hrc1_7,hrc1_8,hrc1_9,hrc1_10,hrc1_26,hra1,hri1,exitRQ_ret,exitRQ_exit,Int.toNat_natCast,Nat.mul_one,hso]|refine qA rfl ?_|apply qB|refine qC rfl ?_|apply qD|apply qE|apply qF|apply qG|apply qH)
    refine (RComplete_fn w34 hq34.1 hG34.2).mono ?_
    rintro _ wz ⟨rfl,hez⟩
    rw [hez]
    repeat (first|simp (disch:=(first|omega|(simp only [qI,qJ,qK]<;>omega)|exact qL _)) only [go_sem,↓reduceIte,n0,reduceCtorEq,n1,n2,n3,n4,n5,i0,i1,i2,i3,i4,i5,i6,i7,hxb34,hrc1_2,hrc1_7,hrc1_8,hrc1_9,hrc1_10,hrc1_26,hra1,hri1,exitRQ_ret,exitRQ_exit,Int.toNat_natCast,Nat.mul_one]|refine qA rfl ?_|apply qB|refine qC rfl ?_|apply qD|apply qE|apply qF|apply qG|apply qH)
    rw [errV_none hsn2]
    exact ReadQ.bad (Eq.mp hFB (hlb2 (by rw [hsn2];exact rdMany_none rd1P_none _))) (hbase.trans' hU34 fun i hi h=>h.elim id fun h=>by omega)
   have hso2:s16.isSome=true:=isSome_some hsn2
   try simp (disch:=(first|omega|(simp only [qI,qJ,qK]<;>omega)|exact qL _)) only [go_sem,↓reduceIte,n0,reduceCtorEq,n1,n2,n3,n4,n5,i0,i1,i2,i3,i4,i5,i6,i7,hxb34,hrc1_2,hrc1_7,hrc1_8,hrc1_9,hrc1_10,hrc1_26,hra1,hri1,exitRQ_ret,exitRQ_exit,Int.toNat_natCast,Nat.mul_one,hso2]
   repeat ((first|refine W.seqR rfl ?_|refine W.seq ?_|refine W.regR rfl ?_|refine W.block ?_|refine W.skip ?_|refine W.ret ?_|refine W.exit ?_);try simp (disch:=(first|omega|(simp only [qI,qJ,qK]<;>omega)|exact qL _)) only [go_sem,↓reduceIte,n0,reduceCtorEq,n1,n2,n3,n4,n5,i0,i1,i2,i3,i4,i5,i6,i7,hxb34,hrc1_2,hrc1_7,hrc1_8,hrc1_9,hrc1_10,hrc1_26,hra1,hri1,exitRQ_ret,exitRQ_exit,Int.toNat_natCast,Nat.mul_one,hso2])
   refine W.condK ?_
   try simp (disch:=(first|omega|(simp only [qI,qJ,qK]<;>omega)|exact qL _)) only [go_sem,↓reduceIte,n0,reduceCtorEq,n1,n2,n3,n4,n5,i0,i1,i2,i3,i4,i5,i6,i7,hxb34,hrc1_2,hrc1_7,hrc1_8,hrc1_9,hrc1_10,hrc1_26,hra1,hri1,exitRQ_ret,exitRQ_exit,Int.toNat_natCast,Nat.mul_one,hso2]
   repeat ((first|refine W.seqR rfl ?_|refine W.seq ?_|refine W.regR rfl ?_|refine W.block ?_|refine W.skip ?_|refine W.ret ?_|refine W.exit ?_);try simp (disch:=(first|omega|(simp only [qI,qJ,qK]<;>omega)|exact qL _)) only [go_sem,↓reduceIte,n0,reduceCtorEq,n1,n2,n3,n4,n5,i0,i1,i2,i3,i4,i5,i6,i7,hxb34,hrc1_2,hrc1_7,hrc1_8,hrc1_9,hrc1_10,hrc1_26,hra1,hri1,exitRQ_ret,exitRQ_exit,Int.toNat_natCast,Nat.mul_one,hso2,slBase_00])
   refine W.normJ (RowQ [(2,.bool false),(7,.pointer (some ⟨rb,0,none⟩)),(8,.int .i16 ver),(9,.bool true),(10,.pointer (some ⟨vb,0,none⟩)),(26,.int .i32 y1),(25,.slice (some ⟨R1,0,none⟩) N1 q1),(27,.int .i32 j1),(29,.pointer (some ⟨R1,j1 * 18,none⟩)),(33,.int .i32 y2)] 32 (fun va w'=>LstI RT (rd1 (rdP d ver true) fX0_1.of fX0_1.sub false true) (Rep1 (RepS true d) fX0_1.of fX0_1.sub) 1 21 [.int .i32 0] w34.heap.size N2 ok (fun b=>(ok b∨w1.heap.size≤b)∧¬ ownB va1 b) rb w34 s16 va 0 s16 [] [] w'∧(N2=0→if nilS fX0_1 ver y2=true then va = .slice none 0 0 else ∃ a,va = .slice (some a) 0 0))) ?_ ?_
   ·by_cases hy0:(0:Int) < y2
    ·have hyv:Value.int .i32 y2 = .int .i32 ((N2:Nat):Int):=by rw [show y2=((N2:Nat):Int) by omega]
     repeat ((first|refine qA rfl ?_|apply qB|refine qC rfl ?_|apply qD|apply qE|apply qF|apply qG|apply qH);try simp (disch:=(first|omega|(simp only [qI,qJ,qK]<;>omega)|exact qL _)) only [go_sem,↓reduceIte,n0,reduceCtorEq,n1,n2,n3,n4,n5,i0,i1,i2,i3,i4,i5,i6,i7,hxb34,hrc1_2,hrc1_7,hrc1_8,hrc1_9,hrc1_10,hrc1_26,hra1,hri1,exitRQ_ret,exitRQ_exit,Int.toNat_natCast,Nat.mul_one])
     refine wp_appendZ (m:=N2) utQ_84 utQ_21 inQ_21 (by decide) (by first|rfl|simp (disch:=(first|omega|(simp only [qI,qJ,qK]<;>omega)|exact qL _)) only [go_sem,↓reduceIte,n0,reduceCtorEq,n1,n2,n3,n4,n5,i0,i1,i2,i3,i4,i5,i6,i7,hrc1_2,hrc1_7,hrc1_8,hrc1_9,hrc1_10,hrc1_26,hra1,hri1]) (by first|exact hyv|(simp (disch:=(first|omega|(simp only [qI,qJ,qK]<;>omega)|exact qL _)) only [go_sem,↓reduceIte,n0,reduceCtorEq,n1,n2,n3,n4,n5,i0,i1,i2,i3,i4,i5,i6,i7,hrc1_2,hrc1_7,hrc1_8,hrc1_9,hrc1_10,hrc1_26,hra1,hri1];exact hyv)) (by omega) (by omega) (by decide) ?_
     intro q rest hq1
     have hEw:Ext w34 (w34.drew.alloc (.cells (zs [.int .i32 0] N2++rest).toArray 21)):=(Upd.refl _ _).drew.alloc _
     repeat (first|simp (disch:=(first|omega|(simp only [qI,qJ,qK]<;>omega)|exact qL _)) only [go_sem,↓reduceIte,n0,reduceCtorEq,n1,n2,n3,n4,n5,i0,i1,i2,i3,i4,i5,i6,i7,hxb34,hrc1_2,hrc1_7,hrc1_8,hrc1_9,hrc1_10,hrc1_26,hra1,hri1,exitRQ_ret,exitRQ_exit,Int.toNat_natCast,Nat.mul_one]|refine qA rfl ?_|apply qB|refine qC rfl ?_|apply qD|apply qE|apply qF|apply qG|apply qH)
     exact ⟨(by simp (disch:=(first|omega|(simp only [qI,qJ,qK]<;>omega)|exact qL _)) only [go_sem,↓reduceIte,n0,reduceCtorEq,n1,n2,n3,n4,n5,i0,i1,i2,i3,i4,i5,i6,i7,Holds_nil,Holds_cons,hrc1_2,hrc1_7,hrc1_8,hrc1_9,hrc1_10,hrc1_26,hra1,hri1]),.slice (some ⟨w34.heap.size,0,none⟩) N2 q,(by simp (disch:=(first|omega|(simp only [qI,qJ,qK]<;>omega)|exact qL _)) only [go_sem,↓reduceIte,n0,reduceCtorEq,n1,n2,n3,n4,n5,i0,i1,i2,i3,i4,i5,i6,i7,hrc1_2,hrc1_7,hrc1_8,hrc1_9,hrc1_10,hrc1_26,hra1,hri1]),LstI.start (RowJ.start (by omega) hq1 (by show w34.heap.size≤w34.drew.heap.size;rw [size_drew];omega) (blk_alloc_new rfl)) ⟨hq34.1.upd hEw (fun h=>h) (fun _ _ _ h=>h),hq34.2.upd hEw fun h=>h⟩ (hEw.mono fun _ h=>h.elim),fun h0=>by omega⟩
    ·repeat ((first|refine qA rfl ?_|apply qB|refine qC rfl ?_|apply qD|apply qE|apply qF|apply qG|apply qH);try simp (disch:=(first|omega|(simp only [qI,qJ,qK]<;>omega)|exact qL _)) only [go_sem,↓reduceIte,n0,reduceCtorEq,n1,n2,n3,n4,n5,i0,i1,i2,i3,i4,i5,i6,i7,hxb34,hrc1_2,hrc1_7,hrc1_8,hrc1_9,hrc1_10,hrc1_26,hra1,hri1,exitRQ_ret,exitRQ_exit,Int.toNat_natCast,Nat.mul_one])
     exact ⟨(by simp (disch:=(first|omega|(simp only [qI,qJ,qK]<;>omega)|exact qL _)) only [go_sem,↓reduceIte,n0,reduceCtorEq,n1,n2,n3,n4,n5,i0,i1,i2,i3,i4,i5,i6,i7,Holds_nil,Holds_cons,hrc1_2,hrc1_7,hrc1_8,hrc1_9,hrc1_10,hrc1_26,hra1,hri1]),.slice none 0 0,(by simp (disch:=(first|omega|(simp only [qI,qJ,qK]<;>omega)|exact qL _)) only [go_sem,↓reduceIte,n0,reduceCtorEq,n1,n2,n3,n4,n5,i0,i1,i2,i3,i4,i5,i6,i7,hrc1_2,hrc1_7,hrc1_8,hrc1_9,hrc1_10,hrc1_26,hra1,hri1,slBase_00]),LstI.start (RowJ.zero (by omega) (fun _ h=>by cases h)) hq34 (Upd.refl _ _),fun _=>by rw [nilS_plain (by decide) (by omega)];exact rfl⟩
   rintro ρ w35 ⟨⟨hrb2_2,hrb2_7,hrb2_8,hrb2_9,hrb2_10,hrb2_26,hrb2_25,hrb2_27,hrb2_29,hrb2_33,-⟩,va2,hra2,hL2,hnc2⟩
   repeat ((first|refine qA rfl ?_|apply qB|refine qC rfl ?_|apply qD|apply qE|apply qF|apply qG|apply qH);try simp (disch:=(first|omega|(simp only [qI,qJ,qK]<;>omega)|exact qL _)) only [go_sem,↓reduceIte,n0,reduceCtorEq,n1,n2,n3,n4,n5,i0,i1,i2,i3,i4,i5,i6,i7,hxb34,hrb2_2,hrb2_7,hrb2_8,hrb2_9,hrb2_10,hrb2_26,hrb2_25,hrb2_27,hrb2_29,hrb2_33,hra2,exitRQ_ret,exitRQ_exit,Int.toNat_natCast,Nat.mul_one])
   refine W.exitRJ 4 (EndQ [(2,.bool false),(7,.pointer (some ⟨rb,0,none⟩)),(8,.int .i16 ver),(9,.bool true),(10,.pointer (some ⟨vb,0,none⟩)),(26,.int .i32 y1),(25,.slice (some ⟨R1,0,none⟩) N1 q1),(27,.int .i32 j1),(29,.pointer (some ⟨R1,j1 * 18,none⟩)),(33,.int .i32 y2),(32,va2)] (fun w'=>∃ s xs css,LstI RT (rd1 (rdP d ver true) fX0_1.of fX0_1.sub false true) (Rep1 (RepS true d) fX0_1.of fX0_1.sub) 1 21 [.int .i32 0] w34.heap.size N2 ok (fun b=>(ok b∨w1.heap.size≤b)∧¬ ownB va1 b) rb w34 s16 va2 N2 s xs css w')) (W.loop (LoopQ [(2,.bool false),(7,.pointer (some ⟨rb,0,none⟩)),(8,.int .i16 ver),(9,.bool true),(10,.pointer (some ⟨vb,0,none⟩)),(26,.int .i32 y1),(25,.slice (some ⟨R1,0,none⟩) N1 q1),(27,.int .i32 j1),(29,.pointer (some ⟨R1,j1 * 18,none⟩)),(33,.int .i32 y2),(32,va2)] 34 (fun j w'=>∃ s xs css,LstI RT (rd1 (rdP d ver true) fX0_1.of fX0_1.sub false true) (Rep1 (RepS true d) fX0_1.of fX0_1.sub) 1 21 [.int .i32 0] w34.heap.size N2 ok (fun b=>(ok b∨w1.heap.size≤b)∧¬ ownB va1 b) rb w34 s16 va2 j s xs css w')) (fun ρ _=>N2 - (RowKit.intOf (ρ 34)).toNat) ?_ ?_) ?_
   ·exact ⟨(by simp (disch:=(first|omega|(simp only [qI,qJ,qK]<;>omega)|exact qL _)) only [go_sem,↓reduceIte,n0,reduceCtorEq,n1,n2,n3,n4,n5,i0,i1,i2,i3,i4,i5,i6,i7,Holds_nil,Holds_cons,hrb2_2,hrb2_7,hrb2_8,hrb2_9,hrb2_10,hrb2_26,hrb2_25,hrb2_27,hrb2_29,hrb2_33,hra2]),0,(by simp (disch:=(first|omega|(simp only [qI,qJ,qK]<;>omega)|exact qL _)) only [go_sem,↓reduceIte,n0,reduceCtorEq,n1,n2,n3,n4,n5,i0,i1,i2,i3,i4,i5,i6,i7,hrb2_2,hrb2_7,hrb2_8,hrb2_9,hrb2_10,hrb2_26,hrb2_25,hrb2_27,hrb2_29,hrb2_33,hra2];all_goals rfl),s16,[],[],hL2⟩
   ·rintro ρ w36 ⟨⟨hrc2_2,hrc2_7,hrc2_8,hrc2_9,hrc2_10,hrc2_26,hrc2_25,hrc2_27,hrc2_29,hrc2_33,hrc2_32,-⟩,j2,hri2,s17,xs2,css2,hL2⟩
    have hj2:=hL2.le
    have hq36:=hL2.rd
    have hU36:Upd (fun b=>b=vb∨b=rb) w1 w36:=hU34.trans' hL2.upd fun i _ h=>.inr h
    have hz36:=hL2.upd.size
    have hG36:Glo ev w36:=hG1.updS hU36 hgM1 hgM2
    by_cases hlt2:j2 < N2
    ·obtain ⟨R2,q2,B2,hva2,hNq2,hLR2,hA2,hx2_36,hnext2⟩:=hL2.row.next hlt2
     have hRl2:=blk_lt hx2_36
     generalize css2.flatten=A2 at hA2 hx2_36 hnext2
     rw [Nat.mul_one] at hA2
     replace hra2:ρ 32 = .slice (some ⟨R2,0,none⟩) N2 q2:=hrc2_32.trans hva2
     have hown2:∀ b,ownB va2 b→w34.heap.size≤b∧b < w36.heap.size:=fun b h=>hL2.row.own h
     have hoM2:∀ b,(fun b=>(fun b=>(ok b∨w1.heap.size≤b)∧¬ ownB va1 b) b∧¬ ownB va2 b) b→¬ (b=R2∨b=rb):=fun b hk h=>h.elim (fun e=>hk.2 ⟨_,_,_,hva2,e⟩) (fun e=>hoM1 b hk.1 (.inr e))
     obtain ⟨X36,hX36⟩:∃ X:Array Value,X=(A2++(([.int .i32 0]:List Value)++B2)).toArray:=⟨_,rfl⟩
     have hxb36:blk w36 R2=some (X36,21,(0,0)):=by rw [hX36];exact hx2_36
     have hXs36:j2+1≤X36.size:=by rw [hX36];simp only [List.size_toArray,List.length_append,List.length_cons,List.length_nil,hA2];omega
     repeat ((first|refine qA rfl ?_|apply qB|refine qC rfl ?_|apply qD|apply qE|apply qF|apply qG|apply qH);try simp (disch:=(first|omega|(simp only [qI,qJ,qK]<;>omega)|exact qL _)) only [go_sem,↓reduceIte,n0,reduceCtorEq,n1,n2,n3,n4,n5,i0,i1,i2,i3,i4,i5,i6,i7,hxb36,hrc2_2,hrc2_7,hrc2_8,hrc2_9,hrc2_10,hrc2_26,hrc2_25,hrc2_27,hrc2_29,hrc2_33,hra2,hri2,exitRQ_ret,exitRQ_exit,Int.toNat_natCast,Nat.mul_one])
     refine (Int32_fn w36 hq36.1 hrok hG36.1 hgrb).mono ?_
     rintro _ w37 ⟨rfl,hq37,hu37⟩
     have hx2_37:=hu37.blk_some hx2_36 (by omega)
     have hV37:Upd (fun b=>b=R2∨b=rb) w36 w37:=hu37.mono (fun _ h=>.inr h)
     have hU37:Upd (fun b=>b=vb∨b=rb) w1 w37:=hU36.trans' hV37 fun i hi h=>h.elim (fun h=>by omega) .inr
     have hz37:=hV37.size
     have hG37:Glo ev w37:=hG1.updS hU37 hgM1 hgM2
     obtain ⟨X37,hX37⟩:∃ X:Array Value,X=(A2++(([.int .i32 0]:List Value)++B2)).toArray:=⟨_,rfl⟩
     have hxb37:blk w37 R2=some (X37,21,(0,0)):=by rw [hX37];exact hx2_37
     have hXs37:j2+1≤X37.size:=by rw [hX37];simp only [List.size_toArray,List.length_append,List.length_cons,List.length_nil,hA2];omega
     obtain ⟨s18,hs18⟩:∃ s,s=(rdInt .i32 4 s17).2:=⟨_,rfl⟩
     rw [← hs18] at hq37
     have hrE:(rd1 (rdP d ver true) fX0_1.of fX0_1.sub false true) s17=((.num (rdInt .i32 4 s17).1),s18):=by rw [hs18];exact rd1_num 3 (by decide)
     have hst37_0:j2+1≤X37.size:=by omega
     repeat ((first|refine qA rfl ?_|apply qB|refine qC rfl ?_|apply qD|apply qE|apply qF|apply qG|apply qH);try simp (disch:=(first|omega|(simp only [qI,qJ,qK]<;>omega)|exact qL _)) only [go_sem,↓reduceIte,n0,reduceCtorEq,n1,n2,n3,n4,n5,i0,i1,i2,i3,i4,i5,i6,i7,hxb37,hrc2_2,hrc2_7,hrc2_8,hrc2_9,hrc2_10,hrc2_26,hrc2_25,hrc2_27,hrc2_29,hrc2_33,hra2,hri2,exitRQ_ret,exitRQ_exit,Int.toNat_natCast,Nat.mul_one,hst37_0])
     generalize hw38:wr w37 R2 (j2) [.int .i32 (rdInt .i32 4 s17).1] = w38
     have hS38:Upd (fun b=>b=R2∨b=rb) w37 w38:=by rw [← hw38];exact (Upd.refl _ _).wr _ _ (.inr (.inl rfl))
     have hx2_38:blk w38 R2=some ((A2++(([.int .i32 (rdInt .i32 4 s17).1]:List Value)++B2)).toArray,21,(0,0)):=by rw [← hw38];exact el_blk0 hx2_37 hA2 (Nat.le_of_ble_eq_true rfl)
     have hV38:=hS38
     have hU38:Upd (fun b=>b=vb∨b=rb) w1 w38:=hU37.trans' hV38 fun i hi h=>h.elim (fun h=>by omega) .inr
     have hz38:=hV38.size
     have hG38:Glo ev w38:=hG1.updS hU38 hgM1 hgM2
     have hq38:Rdr RT ok w38 rb s18∧NN w38 rb s18:=by
      have hn:∀ x,x=w38→(Rdr RT ok x rb s18∧NN x rb s18):=fun x hx=>by
       rw [hx,← hw38]
       exact Rdr.store hq37 (by omega) (fun h=>by have:=(hok _ h).1;first|omega|exact (hok _ h).2 rfl)
      exact hn _ rfl
     obtain ⟨X38,hX38⟩:∃ X:Array Value,X=(A2++(([.int .i32 (rdInt .i32 4 s17).1]:List Value)++B2)).toArray:=⟨_,rfl⟩
     have hxb38:blk w38 R2=some (X38,21,(0,0)):=by rw [hX38];exact hx2_38
     have hXs38:j2+1≤X38.size:=by rw [hX38];simp only [List.size_toArray,List.length_append,List.length_cons,List.length_nil,hA2];omega
     clear hw38
     have hxE:(Rep1 (RepS true d) fX0_1.of fX0_1.sub) (fun b=>(fun b=>(ok b∨w1.heap.size≤b)∧¬ ownB va1 b) b∧¬ ownB va2 b) w38 (.num (rdInt .i32 4 s17).1) [.int .i32 (rdInt .i32 4 s17).1]:=(Rep1_num (by decide)).2 (congrArg (fun x=>[x]) (numC_rd 3 (by decide) 4 s17).symm)
     repeat ((first|refine qA rfl ?_|apply qB|refine qC rfl ?_|apply qD|apply qE|apply qF|apply qG|apply qH);try simp (disch:=(first|omega|(simp only [qI,qJ,qK]<;>omega)|exact qL _)) only [go_sem,↓reduceIte,n0,reduceCtorEq,n1,n2,n3,n4,n5,i0,i1,i2,i3,i4,i5,i6,i7,hxb38,hrc2_2,hrc2_7,hrc2_8,hrc2_9,hrc2_10,hrc2_26,hrc2_25,hrc2_27,hrc2_29,hrc2_33,hra2,hri2,exitRQ_ret,exitRQ_exit,Int.toNat_natCast,Nat.mul_one])
     have hTk:Upd (fun b=>b=R2∨b=rb) w36 w38:=(hV37.trans hV38)
     have hL':=hL2.step (Rep1_lay _ _ fun _=>RepS_lay true _ _) hlt2 (hnext2 w38 [.int .i32 (rdInt .i32 4 s17).1] rfl hx2_38) (by rw [hrE];exact hxE) (hTk.mono fun b h=>h.imp (fun e=>⟨_,_,_,hva2,e⟩) id) (by rw [hrE];exact hq38) (fun h=>hoM1 rb h (.inr rfl)) (Nat.le_refl _)
     have hij:IntKind.i32.wrap ((j2:Int)+1)=((j2+1:Nat):Int):=by rw [i32_wrap (by omega)];omega
     repeat ((first|refine qA rfl ?_|apply qB|refine qC rfl ?_|apply qD|apply qE|apply qF|apply qG|apply qH);try simp (disch:=(first|omega|(simp only [qI,qJ,qK]<;>omega)|exact qL _)) only [go_sem,↓reduceIte,n0,reduceCtorEq,n1,n2,n3,n4,n5,i0,i1,i2,i3,i4,i5,i6,i7,hxb38,hrc2_2,hrc2_7,hrc2_8,hrc2_9,hrc2_10,hrc2_26,hrc2_25,hrc2_27,hrc2_29,hrc2_33,hra2,hri2,exitRQ_ret,exitRQ_exit,Int.toNat_natCast,Nat.mul_one,hij])
     refine ⟨⟨(by simp (disch:=(first|omega|(simp only [qI,qJ,qK]<;>omega)|exact qL _)) only [go_sem,↓reduceIte,n0,reduceCtorEq,n1,n2,n3,n4,n5,i0,i1,i2,i3,i4,i5,i6,i7,Holds_nil,Holds_cons,hrc2_2,hrc2_7,hrc2_8,hrc2_9,hrc2_10,hrc2_26,hrc2_25,hrc2_27,hrc2_29,hrc2_33,hra2,hri2];exact hva2.symm),j2+1,(by simp (disch:=(first|omega|(simp only [qI,qJ,qK]<;>omega)|exact qL _)) only [go_sem,↓reduceIte,n0,reduceCtorEq,n1,n2,n3,n4,n5,i0,i1,i2,i3,i4,i5,i6,i7,hrc2_2,hrc2_7,hrc2_8,hrc2_9,hrc2_10,hrc2_26,hrc2_25,hrc2_27,hrc2_29,hrc2_33,hra2,hri2,hij];all_goals rfl),_,_,_,hL'⟩,?_⟩
     try simp (disch:=(first|omega|(simp only [qI,qJ,qK]<;>omega)|exact qL _)) only [go_sem,↓reduceIte,n0,reduceCtorEq,n1,n2,n3,n4,n5,i0,i1,i2,i3,i4,i5,i6,i7,hrc2_2,hrc2_7,hrc2_8,hrc2_9,hrc2_10,hrc2_26,hrc2_25,hrc2_27,hrc2_29,hrc2_33,hra2,hri2]
     simp only [RowKit.intOf]
     omega
    ·have hjN:j2=N2:=by omega
     rw [hjN] at hL2
     repeat ((first|refine qA rfl ?_|apply qB|refine qC rfl ?_|apply qD|apply qE|apply qF|apply qG|apply qH);try simp (disch:=(first|omega|(simp only [qI,qJ,qK]<;>omega)|exact qL _)) only [go_sem,↓reduceIte,n0,reduceCtorEq,n1,n2,n3,n4,n5,i0,i1,i2,i3,i4,i5,i6,i7,hrc2_2,hrc2_7,hrc2_8,hrc2_9,hrc2_10,hrc2_26,hrc2_25,hrc2_27,hrc2_29,hrc2_33,hrc2_32,hri2,exitRQ_ret,exitRQ_exit])
     exact ⟨(by simp (disch:=(first|omega|(simp only [qI,qJ,qK]<;>omega)|exact qL _)) only [go_sem,↓reduceIte,n0,reduceCtorEq,n1,n2,n3,n4,n5,i0,i1,i2,i3,i4,i5,i6,i7,Holds_nil,Holds_cons,hrc2_2,hrc2_7,hrc2_8,hrc2_9,hrc2_10,hrc2_26,hrc2_25,hrc2_27,hrc2_29,hrc2_33,hrc2_32,hri2]),s17,xs2,css2,hL2⟩
   rintro ρ w39 ⟨⟨hrd2_2,hrd2_7,hrd2_8,hrd2_9,hrd2_10,hrd2_26,hrd2_25,hrd2_27,hrd2_29,hrd2_33,hrd2_32,-⟩,s19,xs2,css2,hL2⟩
   have hq39:=hL2.rd
   have hu39:=hL2.upd
   have hx1_39:=hu39.blk_some hx1_34 (by omega)
   have hV39:Upd (fun b=>b=R1∨b=rb) w34 w39:=hu39.mono (fun _ h=>.inr h)
   have hU39:Upd (fun b=>b=vb∨b=rb) w1 w39:=hU34.trans' hV39 fun i hi h=>h.elim (fun h=>by omega) .inr
   have hz39:=hV39.size
   have hG39:Glo ev w39:=hG1.updS hU39 hgM1 hgM2
   obtain ⟨X39,hX39⟩:∃ X:Array Value,X=(A1++(([ue10_0,ue10_1,ue10_2,ue10_3,ue10_4,ue10_5,ue10_6,ue10_7,ue10_8,ue10_9,ue10_10,ue10_11,ue10_12,ue10_13,ue10_14,ue10_15,.slice none 0 0,.map none]:List Value)++B1)).toArray:=⟨_,rfl⟩
   have hxb39:blk w39 R1=some (X39,86,(0,0)):=by rw [hX39];exact hx1_39
   have hXs39:j1 * 18+18≤X39.size:=by rw [hX39];simp only [List.size_toArray,List.length_append,List.length_cons,List.length_nil,hA1];omega
   have hrd2:rdF (rdP d ver true) ver true fX0_1 s15=(.mk 0 [] (nilS fX0_1 ver y2) xs2 [],s19):=by
    have h:=rdF_listE (pt:=(rdP d ver true)) (v:=ver) (flex:=true) (f:=fX0_1) (s:=s15) (xs:=xs2) (e:=s19) rfl (by rw [hy2,← hN2,← hs16];exact hL2.done)
    rw [hy2] at h;exact h
   have hs19:s19=(rdF (rdP d ver true) ver true fX0_1 s15).2:=by rw [hrd2]
   obtain ⟨aa2,qq2,hvs2⟩:=hL2.row.shape
   subst hvs2
   have hst39_16:j1 * 18+17≤X39.size:=by omega
   repeat ((first|refine qA rfl ?_|apply qB|refine qC rfl ?_|apply qD|apply qE|apply qF|apply qG|apply qH);try simp (disch:=(first|omega|(simp only [qI,qJ,qK]<;>omega)|exact qL _)) only [go_sem,↓reduceIte,n0,reduceCtorEq,n1,n2,n3,n4,n5,i0,i1,i2,i3,i4,i5,i6,i7,hxb39,hrd2_2,hrd2_7,hrd2_8,hrd2_9,hrd2_10,hrd2_26,hrd2_25,hrd2_27,hrd2_29,hrd2_33,hrd2_32,exitRQ_ret,exitRQ_exit,Int.toNat_natCast,Nat.mul_one,hst39_16])
   generalize hw40:wr w39 R1 (j1 * 18+16) [.slice aa2 N2 qq2] = w40
   have hS40:Upd (fun b=>b=R1∨b=rb) w39 w40:=by rw [← hw40];exact (Upd.refl _ _).wr _ _ (.inr (.inl rfl))
   have hx1_40:blk w40 R1=some ((A1++(([ue10_0,ue10_1,ue10_2,ue10_3,ue10_4,ue10_5,ue10_6,ue10_7,ue10_8,ue10_9,ue10_10,ue10_11,ue10_12,ue10_13,ue10_14,ue10_15,.slice aa2 N2 qq2,.map none]:List Value)++B1)).toArray,86,(0,0)):=by rw [← hw40];exact el_blk (o:=16) hx1_39 hA1 (Nat.le_of_ble_eq_true rfl)
   have hV40:=hS40
   have hU40:Upd (fun b=>b=vb∨b=rb) w1 w40:=hU39.trans' hV40 fun i hi h=>h.elim (fun h=>by omega) .inr
   have hz40:=hV40.size
   have hG40:Glo ev w40:=hG1.updS hU40 hgM1 hgM2
   have hq40:Rdr RT ok w40 rb s19∧NN w40 rb s19:=by
    have hn:∀ x,x=w40→(Rdr RT ok x rb s19∧NN x rb s19):=fun x hx=>by
     rw [hx,← hw40]
     exact Rdr.store hq39 (by omega) (fun h=>by have:=(hok _ h).1;first|omega|exact (hok _ h).2 rfl)
    exact hn _ rfl
   obtain ⟨X40,hX40⟩:∃ X:Array Value,X=(A1++(([ue10_0,ue10_1,ue10_2,ue10_3,ue10_4,ue10_5,ue10_6,ue10_7,ue10_8,ue10_9,ue10_10,ue10_11,ue10_12,ue10_13,ue10_14,ue10_15,.slice aa2 N2 qq2,.map none]:List Value)++B1)).toArray:=⟨_,rfl⟩
   have hxb40:blk w40 R1=some (X40,86,(0,0)):=by rw [hX40];exact hx1_40
   have hXs40:j1 * 18+18≤X40.size:=by rw [hX40];simp only [List.size_toArray,List.length_append,List.length_cons,List.length_nil,hA1];omega
   clear hw40
   have hfe1_1:RepF (RepS true d) (szS true d) fX0_1 (fun b=>(ok b∨w1.heap.size≤b)∧¬ ownB va1 b) w40 (xe1_1) [.slice aa2 N2 qq2]:=by rw [hxe1_1,hrd2];exact RepF.keepS (RepF_row rfl hnc2 hN2 rfl hL2.row hL2.all (fun b hb=>⟨.inr (by omega),fun ho=>by have:=(hown1 _ ho).2;omega⟩)) (hV40.keeps fun b _ hk e=>hoM1 b hk e)
   clear hL2 hnc2
   have hle1_2:rdL (rdP d ver true) (dfP d) ver true [] s19=([],s19):=rfl
   have hle1_1:rdL (rdP d ver true) (dfP d) ver true [fX0_1] s15=([xe1_1],s19):=by rw [rdL_st (by decide) hhe1_1,← hxe1_1,← hs19,hle1_2]
   have hle1_0:rdL (rdP d ver true) (dfP d) ver true [fX0_0,fX0_1] s14=([xe1_0,xe1_1],s19):=by rw [rdL_st (by decide) hhe1_0,← hxe1_0,← hs15,hle1_1]
   have hfine1:rdP (d+1) ver true fs_X0 s14=(.mk 0 [] false [xe1_0,xe1_1] (rdTags s19).1,(rdTags s19).2):=rdP_t hle1_0
   repeat ((first|refine qA rfl ?_|apply qB|refine qC rfl ?_|apply qD|apply qE|apply qF|apply qG|apply qH);try simp (disch:=(first|omega|(simp only [qI,qJ,qK]<;>omega)|exact qL _)) only [go_sem,↓reduceIte,n0,reduceCtorEq,n1,n2,n3,n4,n5,i0,i1,i2,i3,i4,i5,i6,i7,hxb40,hrd2_2,hrd2_7,hrd2_8,hrd2_9,hrd2_10,hrd2_26,hrd2_25,hrd2_27,hrd2_29,hrd2_33,hrd2_32,exitRQ_ret,exitRQ_exit,Int.toNat_natCast,Nat.mul_one])
   refine (ReadTags_fn w40 hq40.1 hrok).mono ?_
   rintro _ w41 ⟨qme1,rfl,hT41,hTn,hq41,hu41⟩
   have hx1_41:=hu41.blk_some hx1_40 (by omega)
   have hV41:Upd (fun b=>b=R1∨b=rb) w40 w41:=hu41.mono (fun _ h=>.inr h)
   have hU41:Upd (fun b=>b=vb∨b=rb) w1 w41:=hU40.trans' hV41 fun i hi h=>h.elim (fun h=>by omega) .inr
   have hz41:=hV41.size
   have hG41:Glo ev w41:=hG1.updS hU41 hgM1 hgM2
   obtain ⟨X41,hX41⟩:∃ X:Array Value,X=(A1++(([ue10_0,ue10_1,ue10_2,ue10_3,ue10_4,ue10_5,ue10_6,ue10_7,ue10_8,ue10_9,ue10_10,ue10_11,ue10_12,ue10_13,ue10_14,ue10_15,.slice aa2 N2 qq2,.map none]:List Value)++B1)).toArray:=⟨_,rfl⟩
   have hxb41:blk w41 R1=some (X41,86,(0,0)):=by rw [hX41];exact hx1_41
   have hXs41:j1 * 18+18≤X41.size:=by rw [hX41];simp only [List.size_toArray,List.length_append,List.length_cons,List.length_nil,hA1];omega
   obtain ⟨s20,hs20⟩:∃ s,s=(rdTags s19).2:=⟨_,rfl⟩
   rw [← hs20] at hq41 hfine1
   have hst41_17:j1 * 18+18≤X41.size:=by omega
   repeat (first|simp (disch:=(first|omega|(simp only [qI,qJ,qK]<;>omega)|exact qL _)) only [go_sem,↓reduceIte,n0,reduceCtorEq,n1,n2,n3,n4,n5,i0,i1,i2,i3,i4,i5,i6,i7,hxb41,hrd2_2,hrd2_7,hrd2_8,hrd2_9,hrd2_10,hrd2_26,hrd2_25,hrd2_27,hrd2_29,hrd2_33,hrd2_32,exitRQ_ret,exitRQ_exit,Int.toNat_natCast,Nat.mul_one,hst41_17]|refine qA rfl ?_|apply qB|refine qC rfl ?_|apply qD|apply qE|apply qF|apply qG|apply qH)
   generalize hw42:wr w41 R1 (j1 * 18+17) [.map qme1] = w42
   have hS42:Upd (fun b=>b=R1∨b=rb) w41 w42:=by rw [← hw42];exact (Upd.refl _ _).wr _ _ (.inr (.inl rfl))
   have hx1_42:blk w42 R1=some ((A1++(([ue10_0,ue10_1,ue10_2,ue10_3,ue10_4,ue10_5,ue10_6,ue10_7,ue10_8,ue10_9,ue10_10,ue10_11,ue10_12,ue10_13,ue10_14,ue10_15,.slice aa2 N2 qq2,.map qme1]:List Value)++B1)).toArray,86,(0,0)):=by rw [← hw42];exact el_blk (o:=17) hx1_41 hA1 (Nat.le_of_ble_eq_true rfl)
   have hV42:=hS42
   have hU42:Upd (fun b=>b=vb∨b=rb) w1 w42:=hU41.trans' hV42 fun i hi h=>h.elim (fun h=>by omega) .inr
   have hz42:=hV42.size
   have hG42:Glo ev w42:=hG1.updS hU42 hgM1 hgM2
   have hq42:Rdr RT ok w42 rb s20∧NN w42 rb s20:=by
    have hn:∀ x,x=w42→(Rdr RT ok x rb s20∧NN x rb s20):=fun x hx=>by
     rw [hx,← hw42]
     exact Rdr.store hq41 (by omega) (fun h=>by have:=(hok _ h).1;first|omega|exact (hok _ h).2 rfl)
    exact hn _ rfl
   obtain ⟨X42,hX42⟩:∃ X:Array Value,X=(A1++(([ue10_0,ue10_1,ue10_2,ue10_3,ue10_4,ue10_5,ue10_6,ue10_7,ue10_8,ue10_9,ue10_10,ue10_11,ue10_12,ue10_13,ue10_14,ue10_15,.slice aa2 N2 qq2,.map qme1]:List Value)++B1)).toArray:=⟨_,rfl⟩
   have hxb42:blk w42 R1=some (X42,86,(0,0)):=by rw [hX42];exact hx1_42
   have hXs42:j1 * 18+18≤X42.size:=by rw [hX42];simp only [List.size_toArray,List.length_append,List.length_cons,List.length_nil,hA1];omega
   clear hw42
   have hTge1:TagsM (fun b=>(ok b∨w1.heap.size≤b)∧¬ ownB va1 b) w42 (.map qme1) (rdTags s19).1:=(hT41.weaken fun b _ hk=>hk.elim (fun hk=>⟨.inl hk,fun ho=>by have:=(hown1 b ho).1;have:=(hok b hk).1;omega⟩) (fun h=>by have h':w40.heap.size≤b:=h;exact ⟨.inr (by omega),fun ho=>by have:=(hown1 _ ho).2;omega⟩)).keep (hV42.keeps fun b _ hk e=>hoM1 b hk e)
   have hCe1_42:Upd (fun b=>b=R1∨b=rb) w42 w42:=Upd.refl _ _
   have hCe1_41:Upd (fun b=>b=R1∨b=rb) w41 w42:=hV42.trans hCe1_42
   have hCe1_40:Upd (fun b=>b=R1∨b=rb) w40 w42:=hV41.trans hCe1_41
   have hCe1_39:Upd (fun b=>b=R1∨b=rb) w39 w42:=hV40.trans hCe1_40
   have hCe1_34:Upd (fun b=>b=R1∨b=rb) w34 w42:=hV39.trans hCe1_39
   have hCe1_33:Upd (fun b=>b=R1∨b=rb) w33 w42:=hV34.trans hCe1_34
   have hCe1_32:Upd (fun b=>b=R1∨b=rb) w32 w42:=hV33.trans hCe1_33
   have hCe1_31:Upd (fun b=>b=R1∨b=rb) w31 w42:=hV32.trans hCe1_32
   have hCe1_30:Upd (fun b=>b=R1∨b=rb) w30 w42:=hV31.trans hCe1_31
   have hCe1_29:Upd (fun b=>b=R1∨b=rb) w29 w42:=hV30.trans hCe1_30
   have hRe1:RepS true (d+1) fs_X0 (fun b=>(ok b∨w1.heap.size≤b)∧¬ ownB va1 b) w42 (.mk 0 [] false [xe1_0,xe1_1] (rdTags s19).1) [ue10_0,ue10_1,ue10_2,ue10_3,ue10_4,ue10_5,ue10_6,ue10_7,ue10_8,ue10_9,ue10_10,ue10_11,ue10_12,ue10_13,ue10_14,ue10_15,.slice aa2 N2 qq2,.map qme1]:=RepS.introT (c:=[ue10_0,ue10_1,ue10_2,ue10_3,ue10_4,ue10_5,ue10_6,ue10_7,ue10_8,ue10_9,ue10_10,ue10_11,ue10_12,ue10_13,ue10_14,ue10_15,.slice aa2 N2 qq2]) (RepL.cons16 (hfe1_0.keepS (hCe1_33.keeps fun b _ hk e=>hoM1 b hk e)) (RepL.cons1 (hfe1_1.keepS (hCe1_40.keeps fun b _ hk e=>hoM1 b hk e)) RepL.nil)) hTge1
   have hrE:(rd1 (rdP (d+1) ver true) fQ_9.of fQ_9.sub false true) s14=((.mk 0 [] false [xe1_0,xe1_1] (rdTags s19).1),s20):=by rw [show (rd1 (rdP (d+1) ver true) fQ_9.of fQ_9.sub false true) s14=_ from rd1_part];exact hfine1
   have hxE:(Rep1 (RepS true (d+1)) fQ_9.of fQ_9.sub) (fun b=>(ok b∨w1.heap.size≤b)∧¬ ownB va1 b) w42 (.mk 0 [] false [xe1_0,xe1_1] (rdTags s19).1) [ue10_0,ue10_1,ue10_2,ue10_3,ue10_4,ue10_5,ue10_6,ue10_7,ue10_8,ue10_9,ue10_10,ue10_11,ue10_12,ue10_13,ue10_14,ue10_15,.slice aa2 N2 qq2,.map qme1]:=Rep1_part.2 hRe1
   repeat ((first|refine qA rfl ?_|apply qB|refine qC rfl ?_|apply qD|apply qE|apply qF|apply qG|apply qH);try simp (disch:=(first|omega|(simp only [qI,qJ,qK]<;>omega)|exact qL _)) only [go_sem,↓reduceIte,n0,reduceCtorEq,n1,n2,n3,n4,n5,i0,i1,i2,i3,i4,i5,i6,i7,hxb42,hrd2_2,hrd2_7,hrd2_8,hrd2_9,hrd2_10,hrd2_26,hrd2_25,hrd2_27,hrd2_29,hrd2_33,hrd2_32,exitRQ_ret,exitRQ_exit,Int.toNat_natCast,Nat.mul_one])
   have hTk:Upd (fun b=>b=R1∨b=rb) w29 w42:=((((((((hV30.trans hV31).trans hV32).trans hV33).trans hV34).trans hV39).trans hV40).trans hV41).trans hV42)
   have hL':=hL1.step (Rep1_lay _ _ fun _=>RepS_lay true _ _) hlt1 (hnext1 w42 [ue10_0,ue10_1,ue10_2,ue10_3,ue10_4,ue10_5,ue10_6,ue10_7,ue10_8,ue10_9,ue10_10,ue10_11,ue10_12,ue10_13,ue10_14,ue10_15,.slice aa2 N2 qq2,.map qme1] rfl hx1_42) (by rw [hrE];exact hxE) (hTk.mono fun b h=>h.imp (fun e=>⟨_,_,_,hva1,e⟩) id) (by rw [hrE];exact hq42) (fun h=>hoM rb h (.inr rfl)) (Nat.le_refl _)
   have hij:IntKind.i32.wrap ((j1:Int)+1)=((j1+1:Nat):Int):=by rw [i32_wrap (by omega)];omega
   repeat ((first|refine qA rfl ?_|apply qB|refine qC rfl ?_|apply qD|apply qE|apply qF|apply qG|apply qH);try simp (disch:=(first|omega|(simp only [qI,qJ,qK]<;>omega)|exact qL _)) only [go_sem,↓reduceIte,n0,reduceCtorEq,n1,n2,n3,n4,n5,i0,i1,i2,i3,i4,i5,i6,i7,hxb42,hrd2_2,hrd2_7,hrd2_8,hrd2_9,hrd2_10,hrd2_26,hrd2_25,hrd2_27,hrd2_29,hrd2_33,hrd2_32,exitRQ_ret,exitRQ_exit,Int.toNat_natCast,Nat.mul_one,hij])
   refine ⟨⟨(by simp (disch:=(first|omega|(simp only [qI,qJ,qK]<;>omega)|exact qL _)) only [go_sem,↓reduceIte,n0,reduceCtorEq,n1,n2,n3,n4,n5,i0,i1,i2,i3,i4,i5,i6,i7,Holds_nil,Holds_cons,hrd2_2,hrd2_7,hrd2_8,hrd2_9,hrd2_10,hrd2_26,hrd2_25,hrd2_27,hrd2_29,hrd2_33,hrd2_32];exact hva1.symm),j1+1,(by simp (disch:=(first|omega|(simp only [qI,qJ,qK]<;>omega)|exact qL _)) only [go_sem,↓reduceIte,n0,reduceCtorEq,n1,n2,n3,n4,n5,i0,i1,i2,i3,i4,i5,i6,i7,hrd2_2,hrd2_7,hrd2_8,hrd2_9,hrd2_10,hrd2_26,hrd2_25,hrd2_27,hrd2_29,hrd2_33,hrd2_32,hij];all_goals rfl),_,_,_,hL'⟩,?_⟩
   try simp (disch:=(first|omega|(simp only [qI,qJ,qK]<;>omega)|exact qL _)) only [go_sem,↓reduceIte,n0,reduceCtorEq,n1,n2,n3,n4,n5,i0,i1,i2,i3,i4,i5,i6,i7,hrd2_2,hrd2_7,hrd2_8,hrd2_9,hrd2_10,hrd2_26,hrd2_25,hrd2_27,hrd2_29,hrd2_33,hrd2_32]
   simp only [RowKit.intOf]
   omega
  ·have hjN:j1=N1:=by omega
   rw [hjN] at hL1
   repeat ((first|refine qA rfl ?_|apply qB|refine qC rfl ?_|apply qD|apply qE|apply qF|apply qG|apply qH);try simp (disch:=(first|omega|(simp only [qI,qJ,qK]<;>omega)|exact qL _)) only [go_sem,↓reduceIte,n0,reduceCtorEq,n1,n2,n3,n4,n5,i0,i1,i2,i3,i4,i5,i6,i7,hrc1_2,hrc1_7,hrc1_8,hrc1_9,hrc1_10,hrc1_26,hrc1_25,hri1,exitRQ_ret,exitRQ_exit])
   exact ⟨(by simp (disch:=(first|omega|(simp only [qI,qJ,qK]<;>omega)|exact qL _)) only [go_sem,↓reduceIte,n0,reduceCtorEq,n1,n2,n3,n4,n5,i0,i1,i2,i3,i4,i5,i6,i7,Holds_nil,Holds_cons,hrc1_2,hrc1_7,hrc1_8,hrc1_9,hrc1_10,hrc1_26,hrc1_25,hri1]),s14,xs1,css1,hL1⟩
 rintro ρ w43 ⟨⟨hrd1_2,hrd1_7,hrd1_8,hrd1_9,hrd1_10,hrd1_26,hrd1_25,-⟩,s21,xs1,css1,hL1⟩
 have hq43:=hL1.rd
 have hu43:=hL1.upd
 have hv_43:=hu43.blk_some hv_26 (by omega)
 have hV43:Upd (fun b=>b=vb∨b=rb) w26 w43:=hu43.mono (fun _ h=>.inr h)
 have hU43:Upd (fun b=>b=vb∨b=rb) w1 w43:=hU26.trans hV43
 have hz43:=hV43.size
 have hG43:Glo ev w43:=hG1.updS hU43 hgM1 hgM2
 have hrd1:rdF (rdP (d+1) ver true) ver true fQ_9 s12=(.mk 0 [] (nilS fQ_9 ver y1) xs1 [],s21):=by
  have h:=rdF_listE (pt:=(rdP (d+1) ver true)) (v:=ver) (flex:=true) (f:=fQ_9) (s:=s12) (xs:=xs1) (e:=s21) rfl (by rw [hy1,← hN1,← hs13];exact hL1.done)
  rw [hy1] at h;exact h
 have hs21:s21=(rdF (rdP (d+1) ver true) ver true fQ_9 s12).2:=by rw [hrd1]
 obtain ⟨aa1,qq1,hvs1⟩:=hL1.row.shape
 subst hvs1
 repeat ((first|refine qA rfl ?_|apply qB|refine qC rfl ?_|apply qD|apply qE|apply qF|apply qG|apply qH);try simp (disch:=(first|omega|(simp only [qI,qJ,qK]<;>omega)|exact qL _)) only [go_sem,↓reduceIte,n0,reduceCtorEq,n1,n2,n3,n4,n5,i0,i1,i2,i3,i4,i5,i6,i7,hv_43,hrd1_2,hrd1_7,hrd1_8,hrd1_9,hrd1_10,hrd1_26,hrd1_25])
 generalize hw44:wr w43 vb 10 [.slice aa1 N1 qq1] = w44
 have hS44:Upd (fun b=>b=vb∨b=rb) w43 w44:=by rw [← hw44];exact (Upd.refl _ _).wr _ _ (.inr (.inl rfl))
 have hv_44:blk w44 vb=some (#[.int .i16 ver,strV (rdStr true s0).1,strV (rdStr true s1).1,.int .i32 (rdInt .i32 4 s2).1,.pointer ap8,.pointer ap10,.int .i32 (rdInt .i32 4 s5).1,.slice aa0 N0 qq0,.pointer ap22,.pointer ap24,.slice aa1 N1 qq1,.map none],78,(0,0)):=by rw [← hw44,blk_wr_eq,hv_43];rfl
 have hV44:=hS44
 have hU44:Upd (fun b=>b=vb∨b=rb) w1 w44:=hU43.trans hV44
 have hz44:=hV44.size
 have hG44:Glo ev w44:=hG1.updS hU44 hgM1 hgM2
 have hq44:Rdr RT ok w44 rb s21∧NN w44 rb s21:=by
  have hn:∀ x,x=w44→(Rdr RT ok x rb s21∧NN x rb s21):=fun x hx=>by
   rw [hx,← hw44]
   exact Rdr.store hq43 (by omega) (fun h=>by have:=(hok _ h).1;first|omega|exact (hok _ h).2 rfl)
  exact hn _ rfl
 clear hw44
 have hf_9:RepF (RepS true (d+1)) (szS true (d+1)) fQ_9 (fun b=>ok b∨w1.heap.size≤b) w44 (x_9) [.slice aa1 N1 qq1]:=by rw [hx_9,hrd1];exact RepF.keepS (RepF_row rfl hnc1 hN1 rfl hL1.row hL1.all (fun b hb=>.inr (by omega))) (hV44.keeps fun b _ hk e=>(hoM b hk) e)
 clear hL1 hnc1
 have hl_10:rdL (rdP (d+1) ver true) (dfP (d+1)) ver true [] s21=([],s21):=rfl
 have hl_9:rdL (rdP (d+1) ver true) (dfP (d+1)) ver true [fQ_9] s12=([x_9],s21):=by rw [rdL_st (by decide) hh_9,← hx_9,← hs21,hl_10]
 have hl_8:rdL (rdP (d+1) ver true) (dfP (d+1)) ver true [fQ_8,fQ_9] s11=([x_8,x_9],s21):=by rw [rdL_st (by decide) hh_8,← hx_8,← hs12,hl_9]
 have hl_7:rdL (rdP (d+1) ver true) (dfP (d+1)) ver true [fQ_7,fQ_8,fQ_9] s10=([x_7,x_8,x_9],s21):=by rw [rdL_st (by decide) hh_7,← hx_7,← hs11,hl_8]
 have hl_6:rdL (rdP (d+1) ver true) (dfP (d+1)) ver true [fQ_6,fQ_7,fQ_8,fQ_9] s6=([x_6,x_7,x_8,x_9],s21):=by rw [rdL_st (by decide) hh_6,← hx_6,← hs10,hl_7]
 have hl_5:rdL (rdP (d+1) ver true) (dfP (d+1)) ver true [fQ_5,fQ_6,fQ_7,fQ_8,fQ_9] s5=([x_5,x_6,x_7,x_8,x_9],s21):=by rw [rdL_st (by decide) hh_5,← hx_5,← hs6,hl_6]
 have hl_4:rdL (rdP (d+1) ver true) (dfP (d+1)) ver true [fQ_4,fQ_5,fQ_6,fQ_7,fQ_8,fQ_9] s4=([x_4,x_5,x_6,x_7,x_8,x_9],s21):=by rw [rdL_st (by decide) hh_4,← hx_4,← hs5,hl_5]
 have hl_3:rdL (rdP (d+1) ver true) (dfP (d+1)) ver true [fQ_3,fQ_4,fQ_5,fQ_6,fQ_7,fQ_8,fQ_9] s3=([x_3,x_4,x_5,x_6,x_7,x_8,x_9],s21):=by rw [rdL_st (by decide) hh_3,← hx_3,← hs4,hl_4]
 have hl_2:rdL (rdP (d+1) ver true) (dfP (d+1)) ver true [fQ_2,fQ_3,fQ_4,fQ_5,fQ_6,fQ_7,fQ_8,fQ_9] s2=([x_2,x_3,x_4,x_5,x_6,x_7,x_8,x_9],s21):=by rw [rdL_st (by decide) hh_2,← hx_2,← hs3,hl_3]
 have hl_1:rdL (rdP (d+1) ver true) (dfP (d+1)) ver true [fQ_1,fQ_2,fQ_3,fQ_4,fQ_5,fQ_6,fQ_7,fQ_8,fQ_9] s1=([x_1,x_2,x_3,x_4,x_5,x_6,x_7,x_8,x_9],s21):=by rw [rdL_st (by decide) hh_1,← hx_1,← hs2,hl_2]
 have hl_0:rdL (rdP (d+1) ver true) (dfP (d+1)) ver true [fQ_0,fQ_1,fQ_2,fQ_3,fQ_4,fQ_5,fQ_6,fQ_7,fQ_8,fQ_9] s0=([x_0,x_1,x_2,x_3,x_4,x_5,x_6,x_7,x_8,x_9],s21):=by rw [rdL_st (by decide) hh_0,← hx_0,← hs1,hl_1]
 have hfin:rdP (d+2) ver true fs_Q s0=(.mk 0 [] false [x_0,x_1,x_2,x_3,x_4,x_5,x_6,x_7,x_8,x_9] (rdTags s21).1,(rdTags s21).2):=rdP_t hl_0
 repeat ((first|refine qA rfl ?_|apply qB|refine qC rfl ?_|apply qD|apply qE|apply qF|apply qG|apply qH);try simp (disch:=(first|omega|(simp only [qI,qJ,qK]<;>omega)|exact qL _)) only [go_sem,↓reduceIte,n0,reduceCtorEq,n1,n2,n3,n4,n5,i0,i1,i2,i3,i4,i5,i6,i7,hv_44,hrd1_2,hrd1_7,hrd1_8,hrd1_9,hrd1_10,hrd1_26,hrd1_25])
 refine (ReadTags_fn w44 hq44.1 hrok).mono ?_
 rintro _ w45 ⟨qm,rfl,hT45,hTn,hq45,hu45⟩
 have hv_45:=hu45.blk_some hv_44 (by omega)
 have hV45:Upd (fun b=>b=vb∨b=rb) w44 w45:=hu45.mono (fun _ h=>.inr h)
 have hU45:Upd (fun b=>b=vb∨b=rb) w1 w45:=hU44.trans hV45
 have hz45:=hV45.size
 have hG45:Glo ev w45:=hG1.updS hU45 hgM1 hgM2
 obtain ⟨s22,hs22⟩:∃ s,s=(rdTags s21).2:=⟨_,rfl⟩
 rw [← hs22] at hq45 hfin
 repeat (first|simp (disch:=(first|omega|(simp only [qI,qJ,qK]<;>omega)|exact qL _)) only [go_sem,↓reduceIte,n0,reduceCtorEq,n1,n2,n3,n4,n5,i0,i1,i2,i3,i4,i5,i6,i7,hv_45,hrd1_2,hrd1_7,hrd1_8,hrd1_9,hrd1_10,hrd1_26,hrd1_25]|refine qA rfl ?_|apply qB|refine qC rfl ?_|apply qD|apply qE|apply qF|apply qG|apply qH)
 generalize hw46:wr w45 vb 11 [.map qm] = w46
 have hS46:Upd (fun b=>b=vb∨b=rb) w45 w46:=by rw [← hw46];exact (Upd.refl _ _).wr _ _ (.inr (.inl rfl))
 have hv_46:blk w46 vb=some (#[.int .i16 ver,strV (rdStr true s0).1,strV (rdStr true s1).1,.int .i32 (rdInt .i32 4 s2).1,.pointer ap8,.pointer ap10,.int .i32 (rdInt .i32 4 s5).1,.slice aa0 N0 qq0,.pointer ap22,.pointer ap24,.slice aa1 N1 qq1,.map qm],78,(0,0)):=by rw [← hw46,blk_wr_eq,hv_45];rfl
 have hV46:=hS46
 have hU46:Upd (fun b=>b=vb∨b=rb) w1 w46:=hU45.trans hV46
 have hz46:=hV46.size
 have hG46:Glo ev w46:=hG1.updS hU46 hgM1 hgM2
 have hq46:Rdr RT ok w46 rb s22∧NN w46 rb s22:=by
  have hn:∀ x,x=w46→(Rdr RT ok x rb s22∧NN x rb s22):=fun x hx=>by
   rw [hx,← hw46]
   exact Rdr.store hq45 (by omega) (fun h=>by have:=(hok _ h).1;first|omega|exact (hok _ h).2 rfl)
  exact hn _ rfl
 clear hw46
 have hTg:TagsM (fun b=>ok b∨w1.heap.size≤b) w46 (.map qm) (rdTags s21).1:=(hT45.weaken fun b _ hk=>hk.elim (fun hk=>.inl hk) (fun h=>by have h':w44.heap.size≤b:=h;exact .inr (by omega))).keep (hV46.keeps fun b _ hk e=>(hoM b hk) e)
 have hC_46:Upd (fun b=>b=vb∨b=rb) w46 w46:=Upd.refl _ _
 have hC_45:Upd (fun b=>b=vb∨b=rb) w45 w46:=hV46.trans hC_46
 have hC_44:Upd (fun b=>b=vb∨b=rb) w44 w46:=hV45.trans hC_45
 have hC_43:Upd (fun b=>b=vb∨b=rb) w43 w46:=hV44.trans hC_44
 have hC_26:Upd (fun b=>b=vb∨b=rb) w26 w46:=hV43.trans hC_43
 have hC_25:Upd (fun b=>b=vb∨b=rb) w25 w46:=hV26.trans hC_26
 have hC_24:Upd (fun b=>b=vb∨b=rb) w24 w46:=hV25.trans hC_25
 have hC_23:Upd (fun b=>b=vb∨b=rb) w23 w46:=hV24.trans hC_24
 have hC_22:Upd (fun b=>b=vb∨b=rb) w22 w46:=hV23.trans hC_23
 have hC_21:Upd (fun b=>b=vb∨b=rb) w21 w46:=hV22.trans hC_22
 have hC_20:Upd (fun b=>b=vb∨b=rb) w20 w46:=hV21.trans hC_21
 have hC_14:Upd (fun b=>b=vb∨b=rb) w14 w46:=hV20.trans hC_20
 have hC_13:Upd (fun b=>b=vb∨b=rb) w13 w46:=hV14.trans hC_14
 have hC_12:Upd (fun b=>b=vb∨b=rb) w12 w46:=hV13.trans hC_13
 have hC_11:Upd (fun b=>b=vb∨b=rb) w11 w46:=hV12.trans hC_12
 have hC_10:Upd (fun b=>b=vb∨b=rb) w10 w46:=hV11.trans hC_11
 have hC_9:Upd (fun b=>b=vb∨b=rb) w9 w46:=hV10.trans hC_10
 have hC_8:Upd (fun b=>b=vb∨b=rb) w8 w46:=hV9.trans hC_9
 have hC_7:Upd (fun b=>b=vb∨b=rb) w7 w46:=hV8.trans hC_8
 have hC_6:Upd (fun b=>b=vb∨b=rb) w6 w46:=hV7.trans hC_7
 have hC_5:Upd (fun b=>b=vb∨b=rb) w5 w46:=hV6.trans hC_6
 have hC_4:Upd (fun b=>b=vb∨b=rb) w4 w46:=hV5.trans hC_5
 have hC_3:Upd (fun b=>b=vb∨b=rb) w3 w46:=hV4.trans hC_4
 have hC_2:Upd (fun b=>b=vb∨b=rb) w2 w46:=hV3.trans hC_3
 have hC_1:Upd (fun b=>b=vb∨b=rb) w1 w46:=hV2.trans hC_2
 have hR:RepS true (d+2) fs_Q (fun b=>ok b∨w1.heap.size≤b) w46 (.mk 0 [] false [x_0,x_1,x_2,x_3,x_4,x_5,x_6,x_7,x_8,x_9] (rdTags s21).1) [strV (rdStr true s0).1,strV (rdStr true s1).1,.int .i32 (rdInt .i32 4 s2).1,.pointer ap8,.pointer ap10,.int .i32 (rdInt .i32 4 s5).1,.slice aa0 N0 qq0,.pointer ap22,.pointer ap24,.slice aa1 N1 qq1,.map qm]:=RepS.introT (c:=[strV (rdStr true s0).1,strV (rdStr true s1).1,.int .i32 (rdInt .i32 4 s2).1,.pointer ap8,.pointer ap10,.int .i32 (rdInt .i32 4 s5).1,.slice aa0 N0 qq0,.pointer ap22,.pointer ap24,.slice aa1 N1 qq1]) (RepL.cons1 (hf_0.keepS (hC_3.keeps fun b _ hk e=>(hoM b hk) e)) (RepL.cons1 (hf_1.keepS (hC_5.keeps fun b _ hk e=>(hoM b hk) e)) (RepL.cons1 (hf_2.keepS (hC_7.keeps fun b _ hk e=>(hoM b hk) e)) (RepL.cons1 (hf_3.keepS (hC_9.keeps fun b _ hk e=>(hoM b hk) e)) (RepL.cons1 (hf_4.keepS (hC_11.keeps fun b _ hk e=>(hoM b hk) e)) (RepL.cons1 (hf_5.keepS (hC_13.keeps fun b _ hk e=>(hoM b hk) e)) (RepL.cons1 (hf_6.keepS (hC_21.keeps fun b _ hk e=>(hoM b hk) e)) (RepL.cons1 (hf_7.keepS (hC_23.keeps fun b _ hk e=>(hoM b hk) e)) (RepL.cons1 (hf_8.keepS (hC_25.keeps fun b _ hk e=>(hoM b hk) e)) (RepL.cons1 (hf_9.keepS (hC_44.keeps fun b _ hk e=>(hoM b hk) e)) RepL.nil)))))))))) hTg
 repeat ((first|refine qA rfl ?_|apply qB|refine qC rfl ?_|apply qD|apply qE|apply qF|apply qG|apply qH);try simp (disch:=(first|omega|(simp only [qI,qJ,qK]<;>omega)|exact qL _)) only [go_sem,↓reduceIte,n0,reduceCtorEq,n1,n2,n3,n4,n5,i0,i1,i2,i3,i4,i5,i6,i7,hv_46,hrd1_2,hrd1_7,hrd1_8,hrd1_9,hrd1_10,hrd1_26,hrd1_25])
 refine (RComplete_fn w46 hq46.1 hG46.2).mono ?_
 rintro _ wz ⟨rfl,hez⟩
 rw [hez]
 repeat ((first|refine qA rfl ?_|apply qB|refine qC rfl ?_|apply qD|apply qE|apply qF|apply qG|apply qH);try simp (disch:=(first|omega|(simp only [qI,qJ,qK]<;>omega)|exact qL _)) only [go_sem,↓reduceIte,n0,reduceCtorEq,n1,n2,n3,n4,n5,i0,i1,i2,i3,i4,i5,i6,i7,hv_46,hrd1_2,hrd1_7,hrd1_8,hrd1_9,hrd1_10,hrd1_26,hrd1_25])
 rw [hfin]
 refine ⟨fun h => ?_,fun h=>⟨?_,[strV (rdStr true s0).1,strV (rdStr true s1).1,.int .i32 (rdInt .i32 4 s2).1,.pointer ap8,.pointer ap10,.int .i32 (rdInt .i32 4 s5).1,.slice aa0 N0 qq0,.pointer ap22,.pointer ap24,.slice aa1 N1 qq1,.map qm],hv_46,?_⟩,?_⟩
 ·have h':s22=none:=h
  rw [h'];rfl
 ·cases hsn:s22 with
  | none=>exact absurd hsn h
  | some x=>rfl
 ·exact (RepS_lay true (d+2) fs_Q).weaken hR fun b _ hk=>hk.imp id fun h=>by omega
 ·exact hbase.trans' hU46 fun i hi h=>h.elim id fun h=>by omega
end Ms

