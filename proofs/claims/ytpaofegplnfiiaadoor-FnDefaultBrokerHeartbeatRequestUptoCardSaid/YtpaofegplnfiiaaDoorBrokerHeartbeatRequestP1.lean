/- A part of the proof: see the last text. -/
import Derived.Test.YtpaofegplnfiiaaDoorBrokerHeartbeatRequestP0
set_option linter.unusedSimpArgs false
set_option linter.unusedVariables false
namespace Ms
open Go.World renaming size_alloc → qI
open Ms renaming size_wr → qJ,size_drew → qK,not_noB → qL
open W renaming seqR → qA,seq → qB,regR → qC,condK → qD,block → qE,skip → qF,ret → qG,exit → qH
open Nat renaming reduceEqDiff → n0,reduceAdd → n1,reduceMul → n2,reduceSub → n3,reduceLT → n4,reduceLeDiff → n5
open Int renaming reduceEq → i0,reduceLT → i1,reduceLE → i2,reduceNeg → i3,reduceAdd → i4,reduceSub → i5,reduceMul → i6,reduceToNat → i7
set_option maxRecDepth 8000
open Go Go.Proofs Go.Shelf
attribute [local congr] W_congr WPsq_congr WPp_congr optK_congr addrK_congr intK_congr boolK_congr sliceK_congr tupleK_congr funcK_congr Fn_congr rawK_congr takeK_congr stepK_congr convK_congr aggK_congr

set_option maxHeartbeats 4000000 in
theorem readQ_0 {d:Nat} {ok:Blocks} {ver:Int} {ev:Value} (hlo:0≤ver) (hhi:ver≤2) (w:World) {vb:Nat} (src:Value) (s:List UInt8) (hv:blk w vb=some (#[.int .i16 ver,.int .i32 0,.int .i64 (-1),.int .i64 0,.bool false,.bool false,.slice none 0 0,.slice none 0 0,.map none],69,(0,0))) (hsrc:BytesV ok w src s) (fJ:∀ b,ok b→b < w.heap.size∧b≠vb) (hG:Glo ev w) (hgv:¬ 0=vb∧¬ 1=vb) (hev:∃ T p,ev = .iface T p) (hT1:onceM d ver fsr_Q (some s)) :
  Fn Tryd.prog 23 #[.pointer (some ⟨vb,0,none⟩),src,.bool false] w (ReadQ 69 ok ver (d+1) fsr_Q vb w (rdM d ver true fsr_Q (some s)) ev):=by
 have hvl:=blk_lt hv
 have hgs:=hG.lt
 obtain ⟨sa,sc,rfl,_⟩:=hsrc.shape
 refine fn_of_W Tryd.func23 rfl Tryd.results23 Tryd.ntmps23 rfl ?_
 repeat ((first|refine qA rfl ?_|apply qB|refine qC rfl ?_|apply qD|apply qE|apply qF|apply qG|apply qH);try simp (disch:=(first|omega|(simp only [qI,qJ,qK]<;>omega)|exact qL _)) only [go_sem,↓reduceIte,n0,reduceCtorEq,n1,n2,n3,n4,n5,i0,i1,i2,i3,i4,i5,i6,i7,hv])
 refine (DefaultQ_fn w hv).mono ?_
 rintro _ w0 ⟨hv0,hu0⟩
 have hz0:=hu0.size
 have qX:BytesV ok w0 (.slice sa s.length sc) s:=hsrc.keep (hu0.keeps fun b _ hk e=>(fJ b hk).2 e)
 obtain ⟨rb,hrb⟩:∃ r,r=w0.heap.size:=⟨_,rfl⟩
 have hE1:Ext w0 (wr (w0.alloc (.cells #[.slice none 0 0,.bool false] 87)) w0.heap.size 0 [.slice sa s.length sc,.bool false]):=(Upd.alloc (Upd.refl _ _) _).wr _ _ (.inl (Nat.le_refl _))
 have hz1:(wr (w0.alloc (.cells #[.slice none 0 0,.bool false] 87)) w0.heap.size 0 [.slice sa s.length sc,.bool false]).heap.size=w0.heap.size+1:=by rw [size_wr,World.size_alloc]
 have hR1:Rdr RT ok (wr (w0.alloc (.cells #[.slice none 0 0,.bool false] 87)) w0.heap.size 0 [.slice sa s.length sc,.bool false]) w0.heap.size (some s):=Rdr.good (v:=.slice sa s.length sc) (by simp (disch:=(first|omega|(simp only [qI,qJ,qK]<;>omega)|exact qL _)) only [go_sem,↓reduceIte,n0,reduceCtorEq,n1,n2,n3,n4,n5,i0,i1,i2,i3,i4,i5,i6,i7]) (qX.keep (hE1.keeps _))
 have hv_1:=hE1.blk_some hv0 id
 repeat ((first|refine qA rfl ?_|apply qB|refine qC rfl ?_|apply qD|apply qE|apply qF|apply qG|apply qH);try simp (disch:=(first|omega|(simp only [qI,qJ,qK]<;>omega)|exact qL _)) only [go_sem,↓reduceIte,n0,reduceCtorEq,n1,n2,n3,n4,n5,i0,i1,i2,i3,i4,i5,i6,i7,hv0])
 generalize (wr (w0.alloc (.cells #[.slice none 0 0,.bool false] 87)) w0.heap.size 0 [.slice sa s.length sc,.bool false])=w1 at *
 rw [← hrb] at hR1
 try rw [← hrb]
 have hok:∀ b,ok b→b < w.heap.size∧b≠vb:=fJ
 have hrok:¬ ok rb:=fun h=>by have:=(hok rb h).1;omega
 have hbase:Upd (fun b=>b=vb) w w1:=hu0.trans (hE1.mono fun _ h=>h.elim)
 have hG1:Glo ev w1:=hG.updS hbase hgv.1 hgv.2
 have hgrb:¬ 0=rb:=by omega
 have aJ:¬ (0=vb∨0=rb):=fun h=>h.elim hgv.1 fun h=>by omega
 have aK:¬ (1=vb∨1=rb):=fun h=>h.elim hgv.2 fun h=>by omega
 obtain ⟨s0,hs0⟩:∃ s':St,s'=some s:=⟨_,rfl⟩
 rw [← hs0] at hR1 ⊢
 have hU1:Upd (fun b=>b=vb∨b=rb) w1 w1:=Upd.refl _ _
 have hoM:∀ b,(ok b∨w1.heap.size≤b)→¬ (b=vb∨b=rb):=fun b hk h=>by
  rcases hk with hk|hk
  ·have:=hok b hk;rcases h with h|h<;>omega
  ·rcases h with h|h<;>omega
 have hq1:Rdr RT ok w1 rb s0:=hR1
 obtain ⟨FB,hFB⟩:∃ P:Prop,P=((rdM d ver true fsr_Q s0).2=none):=⟨_,rfl⟩
 rw [← hs0] at hT1
 have hb_0:(rdL (rdP d ver true) (dfP d) ver true [fQ_0,fQ_1,fQ_2,fQ_3,fQ_4,fQ_5,frQ_6] s0).2=none→FB:=fun h=>Eq.mpr hFB (rdM_bad h)
 have hh_0:hasS fQ_0 ver=true:=hasS_t (by show (0:Int)≤ver;omega) (by show (-1:Int) < 0∨ver≤(-1:Int);omega)
 obtain ⟨x_0,hx_0⟩:∃ x,x=(rdF (rdP d ver true) ver true fQ_0 s0).1:=⟨_,rfl⟩
 repeat ((first|refine qA rfl ?_|apply qB|refine qC rfl ?_|apply qD|apply qE|apply qF|apply qG|apply qH);try simp (disch:=(first|omega|(simp only [qI,qJ,qK]<;>omega)|exact qL _)) only [go_sem,↓reduceIte,n0,reduceCtorEq,n1,n2,n3,n4,n5,i0,i1,i2,i3,i4,i5,i6,i7,hv_1])
 have hrd:rdF (rdP d ver true) ver true fQ_0 s0=_:=rdF_num 3 rfl (by decide)
 refine (Int32_fn w1 hq1 hrok hG1.1 hgrb).mono ?_
 rintro _ w2 ⟨rfl,hq2,hu2⟩
 have hv_2:=hu2.blk_some hv_1 (by omega)
 have hV2:Upd (fun b=>b=vb∨b=rb) w1 w2:=hu2.mono (fun _ h=>.inr h)
 have hU2:Upd (fun b=>b=vb∨b=rb) w1 w2:=hU1.trans hV2
 have hz2:=hV2.size
 have hG2:Glo ev w2:=hG1.updS hU2 aJ aK
 have hst:(rdF (rdP d ver true) ver true fQ_0 s0).2=(rdInt .i32 4 s0).2:=by first|(rw [hrd];rfl)|rw [hrd]
 obtain ⟨s1,hs1⟩:∃ s,s=(rdF (rdP d ver true) ver true fQ_0 s0).2:=⟨_,rfl⟩
 rw [← hst,← hs1] at hq2
 clear hst
 repeat ((first|refine qA rfl ?_|apply qB|refine qC rfl ?_|apply qD|apply qE|apply qF|apply qG|apply qH);try simp (disch:=(first|omega|(simp only [qI,qJ,qK]<;>omega)|exact qL _)) only [go_sem,↓reduceIte,n0,reduceCtorEq,n1,n2,n3,n4,n5,i0,i1,i2,i3,i4,i5,i6,i7,hv_2])
 generalize hw3:wr w2 vb 1 [.int .i32 (rdInt .i32 4 s0).1] = w3
 have hS3:Upd (fun b=>b=vb∨b=rb) w2 w3:=by rw [← hw3];exact (Upd.refl _ _).wr _ _ (.inr (.inl rfl))
 have hv_3:blk w3 vb=some (#[.int .i16 ver,.int .i32 (rdInt .i32 4 s0).1,.int .i64 (-1),.int .i64 0,.bool false,.bool false,.slice none 0 0,.slice none 0 0,.map none],69,(0,0)):=by rw [← hw3,blk_wr_eq,hv_2];rfl
 have hV3:=hS3
 have hU3:Upd (fun b=>b=vb∨b=rb) w1 w3:=hU2.trans hV3
 have hz3:=hV3.size
 have hG3:Glo ev w3:=hG1.updS hU3 aJ aK
 have hq3:Rdr RT ok w3 rb s1∧NN w3 rb s1:=by
  have hn:∀ x,x=w3→(Rdr RT ok x rb s1∧NN x rb s1):=fun x hx=>by
   rw [hx,← hw3]
   exact Rdr.store hq2 (by omega) (fun h=>by have:=(hok _ h).1;first|omega|exact (hok _ h).2 rfl)
  exact hn _ rfl
 clear hw3
 have hf_0:RepF (RepS true d) (szS true d) fQ_0 (fun b=>ok b∨w1.heap.size≤b) w3 (x_0) [.int .i32 (rdInt .i32 4 s0).1]:=(RepF_num (by decide)).2 (by rw [hx_0,hrd];exact congrArg (fun x=>[x]) (numC_rd 3 (by decide) 4 s0).symm)
 clear hrd
 have hb_1:(rdL (rdP d ver true) (dfP d) ver true [fQ_1,fQ_2,fQ_3,fQ_4,fQ_5,frQ_6] s1).2=none→FB:=fun h=>hb_0 (by rw [rdL_st (by decide) hh_0,← hs1];exact h)
 have hh_1:hasS fQ_1 ver=true:=hasS_t (by show (0:Int)≤ver;omega) (by show (-1:Int) < 0∨ver≤(-1:Int);omega)
 obtain ⟨x_1,hx_1⟩:∃ x,x=(rdF (rdP d ver true) ver true fQ_1 s1).1:=⟨_,rfl⟩
 repeat ((first|refine qA rfl ?_|apply qB|refine qC rfl ?_|apply qD|apply qE|apply qF|apply qG|apply qH);try simp (disch:=(first|omega|(simp only [qI,qJ,qK]<;>omega)|exact qL _)) only [go_sem,↓reduceIte,n0,reduceCtorEq,n1,n2,n3,n4,n5,i0,i1,i2,i3,i4,i5,i6,i7,hv_3])
 have hrd:rdF (rdP d ver true) ver true fQ_1 s1=_:=rdF_num 4 rfl (by decide)
 refine (Int64_fn w3 hq3.1 hrok hG3.1 hgrb).mono ?_
 rintro _ w4 ⟨rfl,hq4,hu4⟩
 have hv_4:=hu4.blk_some hv_3 (by omega)
 have hV4:Upd (fun b=>b=vb∨b=rb) w3 w4:=hu4.mono (fun _ h=>.inr h)
 have hU4:Upd (fun b=>b=vb∨b=rb) w1 w4:=hU3.trans hV4
 have hz4:=hV4.size
 have hG4:Glo ev w4:=hG1.updS hU4 aJ aK
 have hst:(rdF (rdP d ver true) ver true fQ_1 s1).2=(rdInt .i64 8 s1).2:=by first|(rw [hrd];rfl)|rw [hrd]
 obtain ⟨s2,hs2⟩:∃ s,s=(rdF (rdP d ver true) ver true fQ_1 s1).2:=⟨_,rfl⟩
 rw [← hst,← hs2] at hq4
 clear hst
 repeat ((first|refine qA rfl ?_|apply qB|refine qC rfl ?_|apply qD|apply qE|apply qF|apply qG|apply qH);try simp (disch:=(first|omega|(simp only [qI,qJ,qK]<;>omega)|exact qL _)) only [go_sem,↓reduceIte,n0,reduceCtorEq,n1,n2,n3,n4,n5,i0,i1,i2,i3,i4,i5,i6,i7,hv_4])
 generalize hw5:wr w4 vb 2 [.int .i64 (rdInt .i64 8 s1).1] = w5
 have hS5:Upd (fun b=>b=vb∨b=rb) w4 w5:=by rw [← hw5];exact (Upd.refl _ _).wr _ _ (.inr (.inl rfl))
 have hv_5:blk w5 vb=some (#[.int .i16 ver,.int .i32 (rdInt .i32 4 s0).1,.int .i64 (rdInt .i64 8 s1).1,.int .i64 0,.bool false,.bool false,.slice none 0 0,.slice none 0 0,.map none],69,(0,0)):=by rw [← hw5,blk_wr_eq,hv_4];rfl
 have hV5:=hS5
 have hU5:Upd (fun b=>b=vb∨b=rb) w1 w5:=hU4.trans hV5
 have hz5:=hV5.size
 have hG5:Glo ev w5:=hG1.updS hU5 aJ aK
 have hq5:Rdr RT ok w5 rb s2∧NN w5 rb s2:=by
  have hn:∀ x,x=w5→(Rdr RT ok x rb s2∧NN x rb s2):=fun x hx=>by
   rw [hx,← hw5]
   exact Rdr.store hq4 (by omega) (fun h=>by have:=(hok _ h).1;first|omega|exact (hok _ h).2 rfl)
  exact hn _ rfl
 clear hw5
 have hf_1:RepF (RepS true d) (szS true d) fQ_1 (fun b=>ok b∨w1.heap.size≤b) w5 (x_1) [.int .i64 (rdInt .i64 8 s1).1]:=(RepF_num (by decide)).2 (by rw [hx_1,hrd];exact congrArg (fun x=>[x]) (numC_rd 4 (by decide) 8 s1).symm)
 clear hrd
 have hb_2:(rdL (rdP d ver true) (dfP d) ver true [fQ_2,fQ_3,fQ_4,fQ_5,frQ_6] s2).2=none→FB:=fun h=>hb_1 (by rw [rdL_st (by decide) hh_1,← hs2];exact h)
 have hh_2:hasS fQ_2 ver=true:=hasS_t (by show (0:Int)≤ver;omega) (by show (-1:Int) < 0∨ver≤(-1:Int);omega)
 obtain ⟨x_2,hx_2⟩:∃ x,x=(rdF (rdP d ver true) ver true fQ_2 s2).1:=⟨_,rfl⟩
 repeat ((first|refine qA rfl ?_|apply qB|refine qC rfl ?_|apply qD|apply qE|apply qF|apply qG|apply qH);try simp (disch:=(first|omega|(simp only [qI,qJ,qK]<;>omega)|exact qL _)) only [go_sem,↓reduceIte,n0,reduceCtorEq,n1,n2,n3,n4,n5,i0,i1,i2,i3,i4,i5,i6,i7,hv_5])
 have hrd:rdF (rdP d ver true) ver true fQ_2 s2=_:=rdF_num 4 rfl (by decide)
 refine (Int64_fn w5 hq5.1 hrok hG5.1 hgrb).mono ?_
 rintro _ w6 ⟨rfl,hq6,hu6⟩
 have hv_6:=hu6.blk_some hv_5 (by omega)
 have hV6:Upd (fun b=>b=vb∨b=rb) w5 w6:=hu6.mono (fun _ h=>.inr h)
 have hU6:Upd (fun b=>b=vb∨b=rb) w1 w6:=hU5.trans hV6
 have hz6:=hV6.size
 have hG6:Glo ev w6:=hG1.updS hU6 aJ aK
 have hst:(rdF (rdP d ver true) ver true fQ_2 s2).2=(rdInt .i64 8 s2).2:=by first|(rw [hrd];rfl)|rw [hrd]
 obtain ⟨s3,hs3⟩:∃ s,s=(rdF (rdP d ver true) ver true fQ_2 s2).2:=⟨_,rfl⟩
 rw [← hst,← hs3] at hq6
 clear hst
 repeat ((first|refine qA rfl ?_|apply qB|refine qC rfl ?_|apply qD|apply qE|apply qF|apply qG|apply qH);try simp (disch:=(first|omega|(simp only [qI,qJ,qK]<;>omega)|exact qL _)) only [go_sem,↓reduceIte,n0,reduceCtorEq,n1,n2,n3,n4,n5,i0,i1,i2,i3,i4,i5,i6,i7,hv_6])
 generalize hw7:wr w6 vb 3 [.int .i64 (rdInt .i64 8 s2).1] = w7
 have hS7:Upd (fun b=>b=vb∨b=rb) w6 w7:=by rw [← hw7];exact (Upd.refl _ _).wr _ _ (.inr (.inl rfl))
 have hv_7:blk w7 vb=some (#[.int .i16 ver,.int .i32 (rdInt .i32 4 s0).1,.int .i64 (rdInt .i64 8 s1).1,.int .i64 (rdInt .i64 8 s2).1,.bool false,.bool false,.slice none 0 0,.slice none 0 0,.map none],69,(0,0)):=by rw [← hw7,blk_wr_eq,hv_6];rfl
 have hV7:=hS7
 have hU7:Upd (fun b=>b=vb∨b=rb) w1 w7:=hU6.trans hV7
 have hz7:=hV7.size
 have hG7:Glo ev w7:=hG1.updS hU7 aJ aK
 have hq7:Rdr RT ok w7 rb s3∧NN w7 rb s3:=by
  have hn:∀ x,x=w7→(Rdr RT ok x rb s3∧NN x rb s3):=fun x hx=>by
   rw [hx,← hw7]
   exact Rdr.store hq6 (by omega) (fun h=>by have:=(hok _ h).1;first|omega|exact (hok _ h).2 rfl)
  exact hn _ rfl
 clear hw7
 have hf_2:RepF (RepS true d) (szS true d) fQ_2 (fun b=>ok b∨w1.heap.size≤b) w7 (x_2) [.int .i64 (rdInt .i64 8 s2).1]:=(RepF_num (by decide)).2 (by rw [hx_2,hrd];exact congrArg (fun x=>[x]) (numC_rd 4 (by decide) 8 s2).symm)
 clear hrd
 have hb_3:(rdL (rdP d ver true) (dfP d) ver true [fQ_3,fQ_4,fQ_5,frQ_6] s3).2=none→FB:=fun h=>hb_2 (by rw [rdL_st (by decide) hh_2,← hs3];exact h)
 have hh_3:hasS fQ_3 ver=true:=hasS_t (by show (0:Int)≤ver;omega) (by show (-1:Int) < 0∨ver≤(-1:Int);omega)
 obtain ⟨x_3,hx_3⟩:∃ x,x=(rdF (rdP d ver true) ver true fQ_3 s3).1:=⟨_,rfl⟩
 repeat ((first|refine qA rfl ?_|apply qB|refine qC rfl ?_|apply qD|apply qE|apply qF|apply qG|apply qH);try simp (disch:=(first|omega|(simp only [qI,qJ,qK]<;>omega)|exact qL _)) only [go_sem,↓reduceIte,n0,reduceCtorEq,n1,n2,n3,n4,n5,i0,i1,i2,i3,i4,i5,i6,i7,hv_7])
 have hrd:rdF (rdP d ver true) ver true fQ_3 s3=_:=rdF_bool rfl
 refine (Bool_fn w7 hq7.1 hrok).mono ?_
 rintro _ w8 ⟨rfl,hq8,hu8⟩
 have hv_8:=hu8.blk_some hv_7 (by omega)
 have hV8:Upd (fun b=>b=vb∨b=rb) w7 w8:=hu8.mono (fun _ h=>.inr h)
 have hU8:Upd (fun b=>b=vb∨b=rb) w1 w8:=hU7.trans hV8
 have hz8:=hV8.size
 have hG8:Glo ev w8:=hG1.updS hU8 aJ aK
 have hst:(rdF (rdP d ver true) ver true fQ_3 s3).2=(rdN 1 s3).2:=by first|(rw [hrd];rfl)|rw [hrd]
 obtain ⟨s4,hs4⟩:∃ s,s=(rdF (rdP d ver true) ver true fQ_3 s3).2:=⟨_,rfl⟩
 rw [← hst,← hs4] at hq8
 clear hst
 repeat ((first|refine qA rfl ?_|apply qB|refine qC rfl ?_|apply qD|apply qE|apply qF|apply qG|apply qH);try simp (disch:=(first|omega|(simp only [qI,qJ,qK]<;>omega)|exact qL _)) only [go_sem,↓reduceIte,n0,reduceCtorEq,n1,n2,n3,n4,n5,i0,i1,i2,i3,i4,i5,i6,i7,hv_8])
 generalize hw9:wr w8 vb 4 [.bool (!decide (beN (rdN 1 s3).1=0))] = w9
 have hS9:Upd (fun b=>b=vb∨b=rb) w8 w9:=by rw [← hw9];exact (Upd.refl _ _).wr _ _ (.inr (.inl rfl))
 have hv_9:blk w9 vb=some (#[.int .i16 ver,.int .i32 (rdInt .i32 4 s0).1,.int .i64 (rdInt .i64 8 s1).1,.int .i64 (rdInt .i64 8 s2).1,.bool (!decide (beN (rdN 1 s3).1=0)),.bool false,.slice none 0 0,.slice none 0 0,.map none],69,(0,0)):=by rw [← hw9,blk_wr_eq,hv_8];rfl
 have hV9:=hS9
 have hU9:Upd (fun b=>b=vb∨b=rb) w1 w9:=hU8.trans hV9
 have hz9:=hV9.size
 have hG9:Glo ev w9:=hG1.updS hU9 aJ aK
 have hq9:Rdr RT ok w9 rb s4∧NN w9 rb s4:=by
  have hn:∀ x,x=w9→(Rdr RT ok x rb s4∧NN x rb s4):=fun x hx=>by
   rw [hx,← hw9]
   exact Rdr.store hq8 (by omega) (fun h=>by have:=(hok _ h).1;first|omega|exact (hok _ h).2 rfl)
  exact hn _ rfl
 clear hw9
 have hf_3:RepF (RepS true d) (szS true d) fQ_3 (fun b=>ok b∨w1.heap.size≤b) w9 (x_3) [.bool (!decide (beN (rdN 1 s3).1=0))]:=(RepF_num (by decide)).2 (by rw [hx_3,hrd];exact congrArg (fun x=>[x]) (numC_bool _).symm)
 clear hrd
 have hb_4:(rdL (rdP d ver true) (dfP d) ver true [fQ_4,fQ_5,frQ_6] s4).2=none→FB:=fun h=>hb_3 (by rw [rdL_st (by decide) hh_3,← hs4];exact h)
 have hh_4:hasS fQ_4 ver=true:=hasS_t (by show (0:Int)≤ver;omega) (by show (-1:Int) < 0∨ver≤(-1:Int);omega)
 obtain ⟨x_4,hx_4⟩:∃ x,x=(rdF (rdP d ver true) ver true fQ_4 s4).1:=⟨_,rfl⟩
 repeat ((first|refine qA rfl ?_|apply qB|refine qC rfl ?_|apply qD|apply qE|apply qF|apply qG|apply qH);try simp (disch:=(first|omega|(simp only [qI,qJ,qK]<;>omega)|exact qL _)) only [go_sem,↓reduceIte,n0,reduceCtorEq,n1,n2,n3,n4,n5,i0,i1,i2,i3,i4,i5,i6,i7,hv_9])
 have hrd:rdF (rdP d ver true) ver true fQ_4 s4=_:=rdF_bool rfl
 refine (Bool_fn w9 hq9.1 hrok).mono ?_
 rintro _ w10 ⟨rfl,m8,mI⟩
 have hv_10:=mI.blk_some hv_9 (by omega)
 have eY:Upd (fun b=>b=vb∨b=rb) w9 w10:=mI.mono (fun _ h=>.inr h)
 have kY:Upd (fun b=>b=vb∨b=rb) w1 w10:=hU9.trans eY
 have hz10:=eY.size
 have sE:Glo ev w10:=hG1.updS kY aJ aK
 have hst:(rdF (rdP d ver true) ver true fQ_4 s4).2=(rdN 1 s4).2:=by first|(rw [hrd];rfl)|rw [hrd]
 obtain ⟨s5,hs5⟩:∃ s,s=(rdF (rdP d ver true) ver true fQ_4 s4).2:=⟨_,rfl⟩
 rw [← hst,← hs5] at m8
 clear hst
 repeat ((first|refine qA rfl ?_|apply qB|refine qC rfl ?_|apply qD|apply qE|apply qF|apply qG|apply qH);try simp (disch:=(first|omega|(simp only [qI,qJ,qK]<;>omega)|exact qL _)) only [go_sem,↓reduceIte,n0,reduceCtorEq,n1,n2,n3,n4,n5,i0,i1,i2,i3,i4,i5,i6,i7,hv_10])
 generalize fZ:wr w10 vb 5 [.bool (!decide (beN (rdN 1 s4).1=0))] = w11
 have nL:Upd (fun b=>b=vb∨b=rb) w10 w11:=by rw [← fZ];exact (Upd.refl _ _).wr _ _ (.inr (.inl rfl))
 have hv_11:blk w11 vb=some (#[.int .i16 ver,.int .i32 (rdInt .i32 4 s0).1,.int .i64 (rdInt .i64 8 s1).1,.int .i64 (rdInt .i64 8 s2).1,.bool (!decide (beN (rdN 1 s3).1=0)),.bool (!decide (beN (rdN 1 s4).1=0)),.slice none 0 0,.slice none 0 0,.map none],69,(0,0)):=by rw [← fZ,blk_wr_eq,hv_10];rfl
 have eZ:=nL
 have kZ:Upd (fun b=>b=vb∨b=rb) w1 w11:=kY.trans eZ
 have sV:=eZ.size
 have sF:Glo ev w11:=hG1.updS kZ aJ aK
 have pP:Rdr RT ok w11 rb s5∧NN w11 rb s5:=by
  have hn:∀ x,x=w11→(Rdr RT ok x rb s5∧NN x rb s5):=fun x hx=>by
   rw [hx,← fZ]
   exact Rdr.store m8 (by omega) (fun h=>by have:=(hok _ h).1;first|omega|exact (hok _ h).2 rfl)
  exact hn _ rfl
 clear fZ
 have hf_4:RepF (RepS true d) (szS true d) fQ_4 (fun b=>ok b∨w1.heap.size≤b) w11 (x_4) [.bool (!decide (beN (rdN 1 s4).1=0))]:=(RepF_num (by decide)).2 (by rw [hx_4,hrd];exact congrArg (fun x=>[x]) (numC_bool _).symm)
 clear hrd
 have hb_5:(rdL (rdP d ver true) (dfP d) ver true [fQ_5,frQ_6] s5).2=none→FB:=fun h=>hb_4 (by rw [rdL_st (by decide) hh_4,← hs5];exact h)
 obtain ⟨x_5,hx_5⟩:∃ x,x=dfF (dfP d) fQ_5:=⟨_,rfl⟩
 have hf_5:RepF (RepS true d) (szS true d) fQ_5 (fun b=>ok b∨w1.heap.size≤b) w11 (x_5) [.slice none 0 0]:=by rw [hx_5];exact RepF_nil rfl
 have hb_6:(rdL (rdP d ver true) (dfP d) ver true [frQ_6] s5).2=none→FB:=fun h=>hb_5 (by rw [rdL_tg (by decide)];exact h)
 obtain ⟨x_6,hx_6⟩:∃ x,x=dfF (dfP d) frQ_6:=⟨_,rfl⟩
 have hf_6:RepF (RepS true d) (szS true d) frQ_6 (fun b=>ok b∨w1.heap.size≤b) w11 (x_6) [.slice none 0 0]:=by rw [hx_6];exact RepF_nil rfl
 have hl_7:rdL (rdP d ver true) (dfP d) ver true [] s5=([],s5):=rfl
 have hl_6:rdL (rdP d ver true) (dfP d) ver true [frQ_6] s5=([x_6],s5):=by rw [rdL_tg (by decide),← hx_6,hl_7]
 have hl_5:rdL (rdP d ver true) (dfP d) ver true [fQ_5,frQ_6] s5=([x_5,x_6],s5):=by rw [rdL_tg (by decide),← hx_5,hl_6]
 have hl_4:rdL (rdP d ver true) (dfP d) ver true [fQ_4,fQ_5,frQ_6] s4=([x_4,x_5,x_6],s5):=by rw [rdL_st (by decide) hh_4,← hx_4,← hs5,hl_5]
 have hl_3:rdL (rdP d ver true) (dfP d) ver true [fQ_3,fQ_4,fQ_5,frQ_6] s3=([x_3,x_4,x_5,x_6],s5):=by rw [rdL_st (by decide) hh_3,← hx_3,← hs4,hl_4]
 have hl_2:rdL (rdP d ver true) (dfP d) ver true [fQ_2,fQ_3,fQ_4,fQ_5,frQ_6] s2=([x_2,x_3,x_4,x_5,x_6],s5):=by rw [rdL_st (by decide) hh_2,← hx_2,← hs3,hl_3]
 have hl_1:rdL (rdP d ver true) (dfP d) ver true [fQ_1,fQ_2,fQ_3,fQ_4,fQ_5,frQ_6] s1=([x_1,x_2,x_3,x_4,x_5,x_6],s5):=by rw [rdL_st (by decide) hh_1,← hx_1,← hs2,hl_2]
 have hl_0:rdL (rdP d ver true) (dfP d) ver true [fQ_0,fQ_1,fQ_2,fQ_3,fQ_4,fQ_5,frQ_6] s0=([x_0,x_1,x_2,x_3,x_4,x_5,x_6],s5):=by rw [rdL_st (by decide) hh_0,← hx_0,← hs1,hl_1]
 repeat ((first|refine qA rfl ?_|apply qB|refine qC rfl ?_|apply qD|apply qE|apply qF|apply qG|apply qH);try simp (disch:=(first|omega|(simp only [qI,qJ,qK]<;>omega)|exact qL _)) only [go_sem,↓reduceIte,n0,reduceCtorEq,n1,n2,n3,n4,n5,i0,i1,i2,i3,i4,i5,i6,i7,hv_11])
 refine (RUvarint_fn w11 pP.1 hrok).mono ?_
 rintro _ w12 ⟨rfl,m9,mJ⟩
 have hv_12:=mJ.blk_some hv_11 (by omega)
 have fA:Upd (fun b=>b=vb∨b=rb) w11 w12:=mJ.mono (fun _ h=>.inr h)
 have iF:Upd (fun b=>b=vb∨b=rb) w1 w12:=kZ.trans fA
 have sW:=fA.size
 have sG:Glo ev w12:=hG1.updS iF aJ aK
 have hNl:=rdUv_lt s5
 obtain ⟨s6,hs6⟩:∃ s,s=(rdUv s5).2:=⟨_,rfl⟩
 rw [← hs6] at m9
 obtain ⟨NT,hNT⟩:∃ N,N=(rdUv s5).1:=⟨_,rfl⟩
 rw [← hNT] at hNl
 try rw [← hNT]
 have hCt_12:Upd (fun b=>b=vb∨b=rb) w12 w12:=Upd.refl _ _
 have hCt_11:Upd (fun b=>b=vb∨b=rb) w11 w12:=fA.trans hCt_12
 have hCt_10:Upd (fun b=>b=vb∨b=rb) w10 w12:=eZ.trans hCt_11
 have hCt_9:Upd (fun b=>b=vb∨b=rb) w9 w12:=eY.trans hCt_10
 have hCt_8:Upd (fun b=>b=vb∨b=rb) w8 w12:=hV9.trans hCt_9
 have hCt_7:Upd (fun b=>b=vb∨b=rb) w7 w12:=hV8.trans hCt_8
 have hCt_6:Upd (fun b=>b=vb∨b=rb) w6 w12:=hV7.trans hCt_7
 have hCt_5:Upd (fun b=>b=vb∨b=rb) w5 w12:=hV6.trans hCt_6
 have hCt_4:Upd (fun b=>b=vb∨b=rb) w4 w12:=hV5.trans hCt_5
 have hCt_3:Upd (fun b=>b=vb∨b=rb) w3 w12:=hV4.trans hCt_4
 have hCt_2:Upd (fun b=>b=vb∨b=rb) w2 w12:=hV3.trans hCt_3
 have hCt_1:Upd (fun b=>b=vb∨b=rb) w1 w12:=hV2.trans hCt_2
 have hgt_0:RepF (RepS true d) (szS true d) fQ_0 (fun b=>(ok b∨w1.heap.size≤b)∧b < w12.heap.size) w12 x_0 [.int .i32 (rdInt .i32 4 s0).1]:=RepF.weakenS (hf_0.keepS (hCt_3.keeps fun b _ hk e=>(hoM b hk) e)) fun b hb hk=>⟨hk,hb⟩
 have hgt_1:RepF (RepS true d) (szS true d) fQ_1 (fun b=>(ok b∨w1.heap.size≤b)∧b < w12.heap.size) w12 x_1 [.int .i64 (rdInt .i64 8 s1).1]:=RepF.weakenS (hf_1.keepS (hCt_5.keeps fun b _ hk e=>(hoM b hk) e)) fun b hb hk=>⟨hk,hb⟩
 have hgt_2:RepF (RepS true d) (szS true d) fQ_2 (fun b=>(ok b∨w1.heap.size≤b)∧b < w12.heap.size) w12 x_2 [.int .i64 (rdInt .i64 8 s2).1]:=RepF.weakenS (hf_2.keepS (hCt_7.keeps fun b _ hk e=>(hoM b hk) e)) fun b hb hk=>⟨hk,hb⟩
 have hgt_3:RepF (RepS true d) (szS true d) fQ_3 (fun b=>(ok b∨w1.heap.size≤b)∧b < w12.heap.size) w12 x_3 [.bool (!decide (beN (rdN 1 s3).1=0))]:=RepF.weakenS (hf_3.keepS (hCt_9.keeps fun b _ hk e=>(hoM b hk) e)) fun b hb hk=>⟨hk,hb⟩
 have hgt_4:RepF (RepS true d) (szS true d) fQ_4 (fun b=>(ok b∨w1.heap.size≤b)∧b < w12.heap.size) w12 x_4 [.bool (!decide (beN (rdN 1 s4).1=0))]:=RepF.weakenS (hf_4.keepS (hCt_11.keeps fun b _ hk e=>(hoM b hk) e)) fun b hb hk=>⟨hk,hb⟩
 have hgt_5:RepF (RepS true d) (szS true d) fQ_5 (fun b=>(ok b∨w1.heap.size≤b)∧b < w12.heap.size) w12 x_5 [.slice none 0 0]:=RepF.weakenS (hf_5.keepS (hCt_11.keeps fun b _ hk e=>(hoM b hk) e)) fun b hb hk=>⟨hk,hb⟩
 have hgt_6:RepF (RepS true d) (szS true d) frQ_6 (fun b=>(ok b∨w1.heap.size≤b)∧b < w12.heap.size) w12 x_6 [.slice none 0 0]:=RepF.weakenS (hf_6.keepS (hCt_11.keeps fun b _ hk e=>(hoM b hk) e)) fun b hb hk=>⟨hk,hb⟩
 repeat ((first|refine qA rfl ?_|apply qB|refine qC rfl ?_|apply qD|apply qE|apply qF|apply qG|apply qH);try simp (disch:=(first|omega|(simp only [qI,qJ,qK]<;>omega)|exact qL _)) only [go_sem,↓reduceIte,n0,reduceCtorEq,n1,n2,n3,n4,n5,i0,i1,i2,i3,i4,i5,i6,i7,hv_12])
 have hO0:tagOnce fsr_Q NT [] s6:=by
  have h:=hT1 _ _ hl_0
  rw [← hNT,← hs6] at h;exact h
 refine W.exitRJ 0 (EndQ [(2,.bool false),(7,.pointer (some ⟨rb,0,none⟩)),(8,.int .i16 ver),(9,.bool true),(10,.pointer (some ⟨vb,0,none⟩))] (fun w'=>∃ (u:List TagD) (st:St) (qm:Option Nat) (ks:List Nat) (y_5:Tree) (v_6:Value) (y_6:Tree) (v_7:Value),rdTg (rdP d ver true) ver true fsr_Q 0 [x_0,x_1,x_2,x_3,x_4,y_5,y_6] u st=rdTgs (rdP d ver true) ver true fsr_Q [x_0,x_1,x_2,x_3,x_4,x_5,x_6] s5∧blk w' vb=some (#[.int .i16 ver,.int .i32 (rdInt .i32 4 s0).1,.int .i64 (rdInt .i64 8 s1).1,.int .i64 (rdInt .i64 8 s2).1,.bool (!decide (beN (rdN 1 s3).1=0)),.bool (!decide (beN (rdN 1 s4).1=0)),v_6,v_7,.map qm],69,(0,0))∧RepF (RepS true d) (szS true d) fQ_5 (fun b=>(ok b∨w1.heap.size≤b)∧b < w'.heap.size∧¬ qm=some b) w' y_5 [v_6]∧RepF (RepS true d) (szS true d) frQ_6 (fun b=>(ok b∨w1.heap.size≤b)∧b < w'.heap.size∧¬ qm=some b) w' y_6 [v_7]∧tagOnce fsr_Q 0 ks st∧(0∉ks→v_6 = .slice none 0 0)∧(1∉ks→v_7 = .slice none 0 0)∧TagsG ok w12.heap.size w' (.map qm) u∧(u.map (·.1)).Nodup∧(Rdr RT ok w' rb st∧NN w' rb st)∧Upd (fun b=>b=vb∨b=rb) w12 w')) (W.loop (LoopT [(2,.bool false),(7,.pointer (some ⟨rb,0,none⟩)),(8,.int .i16 ver),(9,.bool true),(10,.pointer (some ⟨vb,0,none⟩))] 16 (fun m w'=>∃ (u:List TagD) (st:St) (qm:Option Nat) (ks:List Nat) (y_5:Tree) (v_6:Value) (y_6:Tree) (v_7:Value),m≤NT∧rdTg (rdP d ver true) ver true fsr_Q m [x_0,x_1,x_2,x_3,x_4,y_5,y_6] u st=rdTgs (rdP d ver true) ver true fsr_Q [x_0,x_1,x_2,x_3,x_4,x_5,x_6] s5∧blk w' vb=some (#[.int .i16 ver,.int .i32 (rdInt .i32 4 s0).1,.int .i64 (rdInt .i64 8 s1).1,.int .i64 (rdInt .i64 8 s2).1,.bool (!decide (beN (rdN 1 s3).1=0)),.bool (!decide (beN (rdN 1 s4).1=0)),v_6,v_7,.map qm],69,(0,0))∧RepF (RepS true d) (szS true d) fQ_5 (fun b=>(ok b∨w1.heap.size≤b)∧b < w'.heap.size∧¬ qm=some b) w' y_5 [v_6]∧RepF (RepS true d) (szS true d) frQ_6 (fun b=>(ok b∨w1.heap.size≤b)∧b < w'.heap.size∧¬ qm=some b) w' y_6 [v_7]∧tagOnce fsr_Q m ks st∧(0∉ks→v_6 = .slice none 0 0)∧(1∉ks→v_7 = .slice none 0 0)∧TagsG ok w12.heap.size w' (.map qm) u∧(u.map (·.1)).Nodup∧(Rdr RT ok w' rb st∧NN w' rb st)∧Upd (fun b=>b=vb∨b=rb) w12 w')) (fun ρ _=>(RowKit.intOf (ρ 16)).toNat) ?_ ?_) ?_
 ·exact ⟨(by simp (disch:=(first|omega|(simp only [qI,qJ,qK]<;>omega)|exact qL _)) only [go_sem,↓reduceIte,n0,reduceCtorEq,n1,n2,n3,n4,n5,i0,i1,i2,i3,i4,i5,i6,i7,Holds_nil,Holds_cons]),NT,(by simp (disch:=(first|omega|(simp only [qI,qJ,qK]<;>omega)|exact qL _)) only [go_sem,↓reduceIte,n0,reduceCtorEq,n1,n2,n3,n4,n5,i0,i1,i2,i3,i4,i5,i6,i7];all_goals rfl),[],s6,none,[],x_5,.slice none 0 0,x_6,.slice none 0 0,Nat.le_refl _,(by unfold rdTgs;rw [← hNT,← hs6]),hv_12,RepF.weakenS hgt_5 (fun b hb hk=>⟨hk.1,hb,fun h=>by cases h⟩),RepF.weakenS hgt_6 (fun b hb hk=>⟨hk.1,hb,fun h=>by cases h⟩),hO0,(fun _=>rfl),(fun _=>rfl),TagsG.start _ _ _,by simp,m9,Upd.refl _ _⟩
 ·rintro ρ w13 ⟨⟨hrt_2,hrt_7,hrt_8,hrt_9,hrt_10,-⟩,m,hri,u,s7,qm,ks,y_5,v_6,y_6,v_7,hmN,hE,hv_13,hfT_5,hfT_6,hO,hd_5,hd_6,hTG,hnd,mA,dO⟩
  have iG:Upd (fun b=>b=vb∨b=rb) w1 w13:=iF.trans dO
  have sX:=iG.size
  have t7:=dO.size
  have sH:Glo ev w13:=hG1.updS iG aJ aK
  have hmap:∀ b,qm=some b→b < w13.heap.size∧w12.heap.size≤b:=fun b h=>hTG.lt h
  by_cases hm0:m=0
  ·subst hm0
   have hc:¬ (0:Int) < ((0:Nat):Int):=by omega
   repeat ((first|refine qA rfl ?_|apply qB|refine qC rfl ?_|apply qD|apply qE|apply qF|apply qG|apply qH);try simp (disch:=(first|omega|(simp only [qI,qJ,qK]<;>omega)|exact qL _)) only [go_sem,↓reduceIte,n0,reduceCtorEq,n1,n2,n3,n4,n5,i0,i1,i2,i3,i4,i5,i6,i7,hv_13,hrt_2,hrt_7,hrt_8,hrt_9,hrt_10,hri])
   exact ⟨(by simp (disch:=(first|omega|(simp only [qI,qJ,qK]<;>omega)|exact qL _)) only [go_sem,↓reduceIte,n0,reduceCtorEq,n1,n2,n3,n4,n5,i0,i1,i2,i3,i4,i5,i6,i7,Holds_nil,Holds_cons,hrt_2,hrt_7,hrt_8,hrt_9,hrt_10,hri]),u,s7,qm,ks,y_5,v_6,y_6,v_7,hE,hv_13,hfT_5,hfT_6,hO,hd_5,hd_6,hTG,hnd,mA,dO⟩
  ·obtain ⟨m,rfl⟩:∃ q,m=q+1:=⟨m - 1,by omega⟩
   have hw1:IntKind.u32.wrap (((m+1:Nat):Int) - 1)=((m:Nat):Int):=by rw [u32_wrap (by omega)];omega
   repeat ((first|refine qA rfl ?_|apply qB|refine qC rfl ?_|apply qD|apply qE|apply qF|apply qG|apply qH);try simp (disch:=(first|omega|(simp only [qI,qJ,qK]<;>omega)|exact qL _)) only [go_sem,↓reduceIte,n0,reduceCtorEq,n1,n2,n3,n4,n5,i0,i1,i2,i3,i4,i5,i6,i7,hv_13,hrt_2,hrt_7,hrt_8,hrt_9,hrt_10,hri])
   refine (RUvarint_fn w13 mA.1 hrok).mono ?_
   rintro _ w14 ⟨rfl,eD,mK⟩
   have hv_14:=mK.blk_some hv_13 (by omega)
   have dZ:Upd (fun b=>b=vb∨b=rb) w13 w14:=mK.mono (fun _ h=>.inr h)
   have iH:Upd (fun b=>b=vb∨b=rb) w1 w14:=iG.trans dZ
   have sY:=dZ.size
   have sI:Glo ev w14:=hG1.updS iH aJ aK
   have hKl:=rdUv_lt s7
   obtain ⟨s8,hs8⟩:∃ s,s=(rdUv s7).2:=⟨_,rfl⟩
   rw [← hs8] at eD
   obtain ⟨K,hK⟩:∃ N,N=(rdUv s7).1:=⟨_,rfl⟩
   rw [← hK] at hKl
   try rw [← hK]
   by_cases hk0:K=0
   ·have hkI:(K:Int)=0:=by omega
    repeat ((first|refine qA rfl ?_|apply qB|refine qC rfl ?_|apply qD|apply qE|apply qF|apply qG|apply qH);try simp (disch:=(first|omega|(simp only [qI,qJ,qK]<;>omega)|exact qL _)) only [go_sem,↓reduceIte,n0,reduceCtorEq,n1,n2,n3,n4,n5,i0,i1,i2,i3,i4,i5,i6,i7,hv_14,hrt_2,hrt_7,hrt_8,hrt_9,hrt_10,hri,hkI])
    refine (RUvarint_fn w14 eD.1 hrok).mono ?_
    rintro _ w15 ⟨rfl,b9,cH⟩
    have hv_15:=cH.blk_some hv_14 (by omega)
    have cJ:Upd (fun b=>b=vb∨b=rb) w14 w15:=cH.mono (fun _ h=>.inr h)
    have dT:Upd (fun b=>b=vb∨b=rb) w1 w15:=iH.trans cJ
    have rO:=cJ.size
    have nA:Glo ev w15:=hG1.updS dT aJ aK
    have hSl:=rdUv_lt s8
    obtain ⟨s9,hs9⟩:∃ s,s=(rdUv s8).2:=⟨_,rfl⟩
    rw [← hs9] at b9
    obtain ⟨SL,hSL⟩:∃ N,N=(rdUv s8).1:=⟨_,rfl⟩
    rw [← hSL] at hSl
    try rw [← hSL]
    have e64:IntKind.i64.wrap (SL:Int)=SL:=i64_wrap (by omega)
    repeat (first|simp (disch:=(first|omega|(simp only [qI,qJ,qK]<;>omega)|exact qL _)) only [go_sem,↓reduceIte,n0,reduceCtorEq,n1,n2,n3,n4,n5,i0,i1,i2,i3,i4,i5,i6,i7,hv_15,hrt_2,hrt_7,hrt_8,hrt_9,hrt_10,hri,e64]|refine qA rfl ?_|apply qB|refine qC rfl ?_|apply qD|apply qE|apply qF|apply qG|apply qH)
    refine (Span_fn w15 b9.1 hrok _).mono ?_
    rintro r16 w16 ⟨hBs,_,_,hqx,hqy,cI⟩
    have bA:=And.intro hqx (hqy (.inl b9.2))
    clear hqx hqy
    have hv_16:=cI.blk_some hv_15 (by omega)
    have cM:Upd (fun b=>b=vb∨b=rb) w15 w16:=cI.mono (fun _ h=>.inr h)
    have dU:Upd (fun b=>b=vb∨b=rb) w1 w16:=dT.trans cM
    have rP:=cM.size
    have nB:Glo ev w16:=hG1.updS dU aJ aK
    obtain ⟨s10,fK⟩:∃ s,s=(rdSpan (SL:Int) s9).2:=⟨_,rfl⟩
    rw [← fK] at bA
    obtain ⟨SP,hSP⟩:∃ x,x=(rdSpan (SL:Int) s9).1:=⟨_,rfl⟩
    rw [← hSP] at hBs
    rw [hs9] at hSP fK
    obtain ⟨spa,spc,rfl,_⟩:=hBs.shape
    repeat ((first|refine qA rfl ?_|apply qB|refine qC rfl ?_|apply qD|apply qE|apply qF|apply qG|apply qH);try simp (disch:=(first|omega|(simp only [qI,qJ,qK]<;>omega)|exact qL _)) only [go_sem,↓reduceIte,n0,reduceCtorEq,n1,n2,n3,n4,n5,i0,i1,i2,i3,i4,i5,i6,i7,hv_16,hrt_2,hrt_7,hrt_8,hrt_9,hrt_10,hri,e64])
    obtain ⟨rc0,hrc⟩:∃ r,r=w16.heap.size:=⟨_,rfl⟩
    have hEi:Ext w16 (wr (w16.alloc (.cells #[.slice none 0 0,.bool false] 87)) w16.heap.size 0 [.slice spa SP.length spc,.bool false]):=(Upd.alloc (Upd.refl _ _) _).wr _ _ (.inl (Nat.le_refl _))
    have hzi:(wr (w16.alloc (.cells #[.slice none 0 0,.bool false] 87)) w16.heap.size 0 [.slice spa SP.length spc,.bool false]).heap.size=w16.heap.size+1:=by rw [size_wr,World.size_alloc]
    have hRi:Rdr RT ok (wr (w16.alloc (.cells #[.slice none 0 0,.bool false] 87)) w16.heap.size 0 [.slice spa SP.length spc,.bool false]) w16.heap.size (some SP):=Rdr.good (v:=.slice spa SP.length spc) (by simp (disch:=(first|omega|(simp only [qI,qJ,qK]<;>omega)|exact qL _)) only [go_sem,↓reduceIte,n0,reduceCtorEq,n1,n2,n3,n4,n5,i0,i1,i2,i3,i4,i5,i6,i7]) (hBs.keep (hEi.keeps _))
    have hv_17:=hEi.blk_some hv_16 id
    have hqo:=And.intro (bA.1.upd hEi (fun h=>h) (fun _ _ _ h=>h)) (bA.2.upd hEi fun h=>h)
    repeat ((first|refine qA rfl ?_|apply qB|refine qC rfl ?_|apply qD|apply qE|apply qF|apply qG|apply qH);try simp (disch:=(first|omega|(simp only [qI,qJ,qK]<;>omega)|exact qL _)) only [go_sem,↓reduceIte,n0,reduceCtorEq,n1,n2,n3,n4,n5,i0,i1,i2,i3,i4,i5,i6,i7,hv_16,hrt_2,hrt_7,hrt_8,hrt_9,hrt_10,hri,hkI])
    generalize (wr (w16.alloc (.cells #[.slice none 0 0,.bool false] 87)) w16.heap.size 0 [.slice spa SP.length spc,.bool false])=w17 at *
    rw [← hrc] at hRi
    try rw [← hrc]
    have cO:Upd (fun b=>b=vb∨b=rb) w16 w17:=hEi.mono fun _ h=>h.elim
    have dV:Upd (fun b=>b=vb∨b=rb) w1 w17:=dU.trans cO
    have rQ:=cO.size
    have aM:Glo ev w17:=hG1.updS dV aJ aK
    have hQo:Upd (fun b=>b=vb∨b=rb) w13 w17:=(((dZ.trans cJ).trans cM).trans cO)
    have hzo:=hQo.size
    have hrokc:¬ ok rc0:=fun h=>by have:=(hok _ h).1;omega
    have hgrbc:¬ 0=rc0:=by omega
    have aN:¬ (0=vb∨0=rc0):=fun h=>h.elim hgv.1 fun h=>by omega
    have aO:¬ (1=vb∨1=rc0):=fun h=>h.elim hgv.2 fun h=>by omega
    have hoMc:∀ b,(ok b∨w17.heap.size≤b)→¬ (b=vb∨b=rc0):=fun b hk h=>by
     rcases hk with hk|hk
     ·have:=hok b hk;rcases h with h|h<;>omega
     ·rcases h with h|h<;>omega
    have hbasec:Upd (fun b=>b=vb) w w17:=hbase.trans' dV fun i hi h=>h.elim id fun h=>by omega
    have hUc:Upd (fun b=>b=vb∨b=rc0) w17 w17:=Upd.refl _ _
    have hqc:Rdr RT ok w17 rc0 (some SP):=hRi
    obtain ⟨s11,jZ⟩:∃ s:St,s=some SP:=⟨_,rfl⟩
    rw [← jZ] at hqc
    have hbT:(rdF (rdP d ver true) ver true fQ_5 s11).2=none→FB:=fun h=>Eq.mpr hFB (rdM_badT hl_0 (by rw [← hE];exact rdTg_bad (hK.symm.trans hk0) rfl (by rw [← hs8,← hSL,← hSP,← jZ];exact h)))
    have hni:0∉ks:=fun h=>hO.1 (by rw [← hK,hk0];exact fun h=>by cases h) (by rw [← hK,hk0];exact h)
    obtain rfl:=hd_5 hni
    have sM:hasS fQ_5 ver=true:=hasS_t (by show (0:Int)≤ver;omega) (by show (-1:Int) < 0∨ver≤(-1:Int);omega)
    obtain ⟨xt0_5,mR⟩:∃ x,x=(rdF (rdP d ver true) ver true fQ_5 s11).1:=⟨_,rfl⟩
    repeat ((first|refine qA rfl ?_|apply qB|refine qC rfl ?_|apply qD|apply qE|apply qF|apply qG|apply qH);try simp (disch:=(first|omega|(simp only [qI,qJ,qK]<;>omega)|exact qL _)) only [go_sem,↓reduceIte,n0,reduceCtorEq,n1,n2,n3,n4,n5,i0,i1,i2,i3,i4,i5,i6,i7,hv_17,hrt_2,hrt_7,hrt_8,hrt_9,hrt_10,hri])
    refine (RCompactArrayLen_fn w17 hqc hrokc aM.1 hgrbc).mono ?_
    rintro _ w18 ⟨rfl,b6,eK⟩
    have hv_18:=eK.blk_some hv_17 (by omega)
    have bC:Upd (fun b=>b=vb∨b=rc0) w17 w18:=eK.mono (fun _ h=>.inr h)
    have aZ:Upd (fun b=>b=vb∨b=rc0) w17 w18:=hUc.trans bC
    have mT:=bC.size
    have eU:Glo ev w18:=aM.updS aZ aN aO
    obtain ⟨s12,k7⟩:∃ s,s=(rdALen true s11).2:=⟨_,rfl⟩
    rw [← k7] at b6
    have sS:=rdALen_rng true s11
    generalize hy0:(rdALen true s11).1=y0 at *
    obtain ⟨N0,hN0⟩:∃ N,N=y0.toNat:=⟨_,rfl⟩
    have oW:(rdMany (rd1 (rdP d ver true) fQ_5.of fQ_5.sub false true) N0 s12).2=none→FB:=fun h=>hbT (rdF_listbad rfl (by rw [hy0,← hN0,← k7];exact h))
    repeat ((first|refine W.seqR rfl ?_|refine W.seq ?_|refine W.regR rfl ?_|refine W.block ?_|refine W.skip ?_|refine W.ret ?_|refine W.exit ?_);try simp (disch:=(first|omega|(simp only [qI,qJ,qK]<;>omega)|exact qL _)) only [go_sem,↓reduceIte,n0,reduceCtorEq,n1,n2,n3,n4,n5,i0,i1,i2,i3,i4,i5,i6,i7,hv_18,hrt_2,hrt_7,hrt_8,hrt_9,hrt_10,hri])
    refine (ROk_fn w18 b6.1).mono ?_
    rintro _ wz ⟨rfl,hez⟩
    rw [hez]
    clear hez wz
    by_cases fO:s12=none
    ·have hso:s12.isSome=false:=by rw [fO];rfl
     repeat (first|simp (disch:=(first|omega|(simp only [qI,qJ,qK]<;>omega)|exact qL _)) only [go_sem,↓reduceIte,n0,reduceCtorEq,n1,n2,n3,n4,n5,i0,i1,i2,i3,i4,i5,i6,i7,hv_18,hrt_2,hrt_7,hrt_8,hrt_9,hrt_10,hri,hso]|refine qA rfl ?_|apply qB|refine qC rfl ?_|apply qD|apply qE|apply qF|apply qG|apply qH)
     refine (RComplete_fn w18 b6.1 eU.2).mono ?_
     rintro _ wz ⟨rfl,hez⟩
     rw [hez]
     repeat (first|simp (disch:=(first|omega|(simp only [qI,qJ,qK]<;>omega)|exact qL _)) only [go_sem,↓reduceIte,n0,reduceCtorEq,n1,n2,n3,n4,n5,i0,i1,i2,i3,i4,i5,i6,i7,hv_18,hrt_2,hrt_7,hrt_8,hrt_9,hrt_10,hri]|refine qA rfl ?_|apply qB|refine qC rfl ?_|apply qD|apply qE|apply qF|apply qG|apply qH)
     rw [errV_none fO]
     exact ReadQ.bad (Eq.mp hFB (oW (by rw [fO];exact rdMany_none rd1P_none _))) (hbasec.trans' aZ fun i hi h=>h.elim id fun h=>by omega)
    have fQ:s12.isSome=true:=isSome_some fO
    try simp (disch:=(first|omega|(simp only [qI,qJ,qK]<;>omega)|exact qL _)) only [go_sem,↓reduceIte,n0,reduceCtorEq,n1,n2,n3,n4,n5,i0,i1,i2,i3,i4,i5,i6,i7,hv_18,hrt_2,hrt_7,hrt_8,hrt_9,hrt_10,hri,fQ]
    repeat ((first|refine W.seqR rfl ?_|refine W.seq ?_|refine W.regR rfl ?_|refine W.block ?_|refine W.skip ?_|refine W.ret ?_|refine W.exit ?_);try simp (disch:=(first|omega|(simp only [qI,qJ,qK]<;>omega)|exact qL _)) only [go_sem,↓reduceIte,n0,reduceCtorEq,n1,n2,n3,n4,n5,i0,i1,i2,i3,i4,i5,i6,i7,hv_18,hrt_2,hrt_7,hrt_8,hrt_9,hrt_10,hri,fQ])
    refine W.condK ?_
    try simp (disch:=(first|omega|(simp only [qI,qJ,qK]<;>omega)|exact qL _)) only [go_sem,↓reduceIte,n0,reduceCtorEq,n1,n2,n3,n4,n5,i0,i1,i2,i3,i4,i5,i6,i7,hv_18,hrt_2,hrt_7,hrt_8,hrt_9,hrt_10,hri,fQ]
    repeat ((first|refine W.seqR rfl ?_|refine W.seq ?_|refine W.regR rfl ?_|refine W.block ?_|refine W.skip ?_|refine W.ret ?_|refine W.exit ?_);try simp (disch:=(first|omega|(simp only [qI,qJ,qK]<;>omega)|exact qL _)) only [go_sem,↓reduceIte,n0,reduceCtorEq,n1,n2,n3,n4,n5,i0,i1,i2,i3,i4,i5,i6,i7,hv_18,hrt_2,hrt_7,hrt_8,hrt_9,hrt_10,hri,fQ,slBase_00])
    refine W.normJ (RowQ [(2,.bool false),(7,.pointer (some ⟨rb,0,none⟩)),(8,.int .i16 ver),(9,.bool true),(10,.pointer (some ⟨vb,0,none⟩)),(16,.int .u32 ((m+1:Nat):Int)),(18,.pointer (some ⟨rc0,0,none⟩)),(21,.int .i32 y0)] 20 (fun va w'=>LstI RT (rd1 (rdP d ver true) fQ_5.of fQ_5.sub false true) (Rep1 (RepS true d) fQ_5.of fQ_5.sub) 16 72 [.int .u8 0,.int .u8 0,.int .u8 0,.int .u8 0,.int .u8 0,.int .u8 0,.int .u8 0,.int .u8 0,.int .u8 0,.int .u8 0,.int .u8 0,.int .u8 0,.int .u8 0,.int .u8 0,.int .u8 0,.int .u8 0] w18.heap.size N0 ok (fun b=>ok b∨w17.heap.size≤b) rc0 w18 s12 va 0 s12 [] [] w'∧(N0=0→if nilS fQ_5 ver y0=true then va = .slice none 0 0 else ∃ a,va = .slice (some a) 0 0))) ?_ ?_
    ·by_cases hy0:(0:Int) < y0
     ·have hyv:Value.int .i32 y0 = .int .i32 ((N0:Nat):Int):=by rw [show y0=((N0:Nat):Int) by omega]
      repeat ((first|refine qA rfl ?_|apply qB|refine qC rfl ?_|apply qD|apply qE|apply qF|apply qG|apply qH);try simp (disch:=(first|omega|(simp only [qI,qJ,qK]<;>omega)|exact qL _)) only [go_sem,↓reduceIte,n0,reduceCtorEq,n1,n2,n3,n4,n5,i0,i1,i2,i3,i4,i5,i6,i7,hv_18,hrt_2,hrt_7,hrt_8,hrt_9,hrt_10,hri])
      refine wp_appendZ (m:=N0) utQ_64 utQ_21 inQ_72 (by decide) (by first|rfl|simp (disch:=(first|omega|(simp only [qI,qJ,qK]<;>omega)|exact qL _)) only [go_sem,↓reduceIte,n0,reduceCtorEq,n1,n2,n3,n4,n5,i0,i1,i2,i3,i4,i5,i6,i7,hrt_2,hrt_7,hrt_8,hrt_9,hrt_10,hri]) (by first|exact hyv|(simp (disch:=(first|omega|(simp only [qI,qJ,qK]<;>omega)|exact qL _)) only [go_sem,↓reduceIte,n0,reduceCtorEq,n1,n2,n3,n4,n5,i0,i1,i2,i3,i4,i5,i6,i7,hrt_2,hrt_7,hrt_8,hrt_9,hrt_10,hri];exact hyv)) (by omega) (by omega) (by decide) ?_
      intro q rest hq1
      have hEw:Ext w18 (w18.drew.alloc (.cells (zs [.int .u8 0,.int .u8 0,.int .u8 0,.int .u8 0,.int .u8 0,.int .u8 0,.int .u8 0,.int .u8 0,.int .u8 0,.int .u8 0,.int .u8 0,.int .u8 0,.int .u8 0,.int .u8 0,.int .u8 0,.int .u8 0] N0++rest).toArray 72)):=(Upd.refl _ _).drew.alloc _
      repeat (first|simp (disch:=(first|omega|(simp only [qI,qJ,qK]<;>omega)|exact qL _)) only [go_sem,↓reduceIte,n0,reduceCtorEq,n1,n2,n3,n4,n5,i0,i1,i2,i3,i4,i5,i6,i7,hv_18,hrt_2,hrt_7,hrt_8,hrt_9,hrt_10,hri]|refine qA rfl ?_|apply qB|refine qC rfl ?_|apply qD|apply qE|apply qF|apply qG|apply qH)
      exact ⟨(by simp (disch:=(first|omega|(simp only [qI,qJ,qK]<;>omega)|exact qL _)) only [go_sem,↓reduceIte,n0,reduceCtorEq,n1,n2,n3,n4,n5,i0,i1,i2,i3,i4,i5,i6,i7,Holds_nil,Holds_cons,hrt_2,hrt_7,hrt_8,hrt_9,hrt_10,hri]),.slice (some ⟨w18.heap.size,0,none⟩) N0 q,(by simp (disch:=(first|omega|(simp only [qI,qJ,qK]<;>omega)|exact qL _)) only [go_sem,↓reduceIte,n0,reduceCtorEq,n1,n2,n3,n4,n5,i0,i1,i2,i3,i4,i5,i6,i7,hrt_2,hrt_7,hrt_8,hrt_9,hrt_10,hri]),LstI.start (RowJ.start (by omega) hq1 (by show w18.heap.size≤w18.drew.heap.size;rw [size_drew];omega) (blk_alloc_new rfl)) ⟨b6.1.upd hEw (fun h=>h) (fun _ _ _ h=>h),b6.2.upd hEw fun h=>h⟩ (hEw.mono fun _ h=>h.elim),fun h0=>by omega⟩
     ·repeat ((first|refine qA rfl ?_|apply qB|refine qC rfl ?_|apply qD|apply qE|apply qF|apply qG|apply qH);try simp (disch:=(first|omega|(simp only [qI,qJ,qK]<;>omega)|exact qL _)) only [go_sem,↓reduceIte,n0,reduceCtorEq,n1,n2,n3,n4,n5,i0,i1,i2,i3,i4,i5,i6,i7,hv_18,hrt_2,hrt_7,hrt_8,hrt_9,hrt_10,hri])
      exact ⟨(by simp (disch:=(first|omega|(simp only [qI,qJ,qK]<;>omega)|exact qL _)) only [go_sem,↓reduceIte,n0,reduceCtorEq,n1,n2,n3,n4,n5,i0,i1,i2,i3,i4,i5,i6,i7,Holds_nil,Holds_cons,hrt_2,hrt_7,hrt_8,hrt_9,hrt_10,hri]),.slice none 0 0,(by simp (disch:=(first|omega|(simp only [qI,qJ,qK]<;>omega)|exact qL _)) only [go_sem,↓reduceIte,n0,reduceCtorEq,n1,n2,n3,n4,n5,i0,i1,i2,i3,i4,i5,i6,i7,hrt_2,hrt_7,hrt_8,hrt_9,hrt_10,hri,slBase_00]),LstI.start (RowJ.zero (by omega) (fun _ h=>by cases h)) b6 (Upd.refl _ _),fun _=>by rw [nilS_plain (by decide) (by omega)];exact rfl⟩
    rintro ρ w19 ⟨⟨jH,jJ,jK,jL,jE,jF,jG,jI,-⟩,va0,bB,hL0,lU⟩
    repeat ((first|refine qA rfl ?_|apply qB|refine qC rfl ?_|apply qD|apply qE|apply qF|apply qG|apply qH);try simp (disch:=(first|omega|(simp only [qI,qJ,qK]<;>omega)|exact qL _)) only [go_sem,↓reduceIte,n0,reduceCtorEq,n1,n2,n3,n4,n5,i0,i1,i2,i3,i4,i5,i6,i7,hv_18,jH,jJ,jK,jL,jE,jF,jG,jI,bB])
    refine W.exitRJ 3 (EndQ [(2,.bool false),(7,.pointer (some ⟨rb,0,none⟩)),(8,.int .i16 ver),(9,.bool true),(10,.pointer (some ⟨vb,0,none⟩)),(16,.int .u32 ((m+1:Nat):Int)),(18,.pointer (some ⟨rc0,0,none⟩)),(21,.int .i32 y0),(20,va0)] (fun w'=>∃ s xs css,LstI RT (rd1 (rdP d ver true) fQ_5.of fQ_5.sub false true) (Rep1 (RepS true d) fQ_5.of fQ_5.sub) 16 72 [.int .u8 0,.int .u8 0,.int .u8 0,.int .u8 0,.int .u8 0,.int .u8 0,.int .u8 0,.int .u8 0,.int .u8 0,.int .u8 0,.int .u8 0,.int .u8 0,.int .u8 0,.int .u8 0,.int .u8 0,.int .u8 0] w18.heap.size N0 ok (fun b=>ok b∨w17.heap.size≤b) rc0 w18 s12 va0 N0 s xs css w')) (W.loop (LoopQ [(2,.bool false),(7,.pointer (some ⟨rb,0,none⟩)),(8,.int .i16 ver),(9,.bool true),(10,.pointer (some ⟨vb,0,none⟩)),(16,.int .u32 ((m+1:Nat):Int)),(18,.pointer (some ⟨rc0,0,none⟩)),(21,.int .i32 y0),(20,va0)] 22 (fun j w'=>∃ s xs css,LstI RT (rd1 (rdP d ver true) fQ_5.of fQ_5.sub false true) (Rep1 (RepS true d) fQ_5.of fQ_5.sub) 16 72 [.int .u8 0,.int .u8 0,.int .u8 0,.int .u8 0,.int .u8 0,.int .u8 0,.int .u8 0,.int .u8 0,.int .u8 0,.int .u8 0,.int .u8 0,.int .u8 0,.int .u8 0,.int .u8 0,.int .u8 0,.int .u8 0] w18.heap.size N0 ok (fun b=>ok b∨w17.heap.size≤b) rc0 w18 s12 va0 j s xs css w')) (fun ρ _=>N0 - (RowKit.intOf (ρ 22)).toNat) ?_ ?_) ?_
    ·exact ⟨(by simp (disch:=(first|omega|(simp only [qI,qJ,qK]<;>omega)|exact qL _)) only [go_sem,↓reduceIte,n0,reduceCtorEq,n1,n2,n3,n4,n5,i0,i1,i2,i3,i4,i5,i6,i7,Holds_nil,Holds_cons,jH,jJ,jK,jL,jE,jF,jG,jI,bB]),0,(by simp (disch:=(first|omega|(simp only [qI,qJ,qK]<;>omega)|exact qL _)) only [go_sem,↓reduceIte,n0,reduceCtorEq,n1,n2,n3,n4,n5,i0,i1,i2,i3,i4,i5,i6,i7,jH,jJ,jK,jL,jE,jF,jG,jI,bB];all_goals rfl),s12,[],[],hL0⟩
    ·rintro ρ w20 ⟨⟨bJ,bM,bN,bO,bF,bH,bI,bK,jU,-⟩,j1,bZ,s13,xs0,css0,hL0⟩
     have hj0:=hL0.le
     have pQ:=hL0.rd
     have l3:Upd (fun b=>b=vb∨b=rc0) w17 w20:=aZ.trans' hL0.upd fun i _ h=>.inr h
     have t1:=hL0.upd.size
     have sJ:Glo ev w20:=aM.updS l3 aN aO
     by_cases lS:j1 < N0
     ·obtain ⟨R1,q1,B1,cA,nJ,nI,hA1,gA,eC⟩:=hL0.row.next lS
      have nK:=blk_lt gA
      generalize css0.flatten=A1 at hA1 gA eC
      replace bB:ρ 20 = .slice (some ⟨R1,0,none⟩) N0 q1:=jU.trans cA
      have pO:∀ b,ownB va0 b→w18.heap.size≤b∧b < w20.heap.size:=fun b h=>hL0.row.own h
      have pM:∀ b,(fun b=>(ok b∨w17.heap.size≤b)∧¬ ownB va0 b) b→¬ (b=R1∨b=rc0):=fun b hk h=>h.elim (fun e=>hk.2 ⟨_,_,_,cA,e⟩) (fun e=>hoMc b hk.1 (.inr e))
      obtain ⟨X20,lA⟩:∃ X:Array Value,X=(A1++(([.int .u8 0,.int .u8 0,.int .u8 0,.int .u8 0,.int .u8 0,.int .u8 0,.int .u8 0,.int .u8 0,.int .u8 0,.int .u8 0,.int .u8 0,.int .u8 0,.int .u8 0,.int .u8 0,.int .u8 0,.int .u8 0]:List Value)++B1)).toArray:=⟨_,rfl⟩
      have rH:blk w20 R1=some (X20,72,(0,0)):=by rw [lA];exact gA
      have sK:j1 * 16+16≤X20.size:=by rw [lA];simp only [List.size_toArray,List.length_append,List.length_cons,List.length_nil,hA1];omega
      repeat ((first|refine qA rfl ?_|apply qB|refine qC rfl ?_|apply qD|apply qE|apply qF|apply qG|apply qH);try simp (disch:=(first|omega|(simp only [qI,qJ,qK]<;>omega)|exact qL _)) only [go_sem,↓reduceIte,n0,reduceCtorEq,n1,n2,n3,n4,n5,i0,i1,i2,i3,i4,i5,i6,i7,rH,bJ,bM,bN,bO,bF,bH,bI,bK,bB,bZ])
      refine (RUuid_fn w20 pQ.1 hrokc).mono ?_
      rintro _ w21 ⟨rfl,eF,mL⟩
      have dN:=mL.blk_some gA (by omega)
      have iL:Upd (fun b=>b=R1∨b=rc0) w20 w21:=mL.mono (fun _ h=>.inr h)
      have dW:Upd (fun b=>b=vb∨b=rc0) w17 w21:=l3.trans' iL fun i hi h=>h.elim (fun h=>by omega) .inr
      have rR:=iL.size
      have nD:Glo ev w21:=aM.updS dW aN aO
      obtain ⟨X21,e7⟩:∃ X:Array Value,X=(A1++(([.int .u8 0,.int .u8 0,.int .u8 0,.int .u8 0,.int .u8 0,.int .u8 0,.int .u8 0,.int .u8 0,.int .u8 0,.int .u8 0,.int .u8 0,.int .u8 0,.int .u8 0,.int .u8 0,.int .u8 0,.int .u8 0]:List Value)++B1)).toArray:=⟨_,rfl⟩
      have kF:blk w21 R1=some (X21,72,(0,0)):=by rw [e7];exact dN
      have nZ:j1 * 16+16≤X21.size:=by rw [e7];simp only [List.size_toArray,List.length_append,List.length_cons,List.length_nil,hA1];omega
      obtain ⟨s14,mD⟩:∃ s,s=(rdSpan 16 s13).2:=⟨_,rfl⟩
      rw [← mD] at eF
      have hrE:(rd1 (rdP d ver true) fQ_5.of fQ_5.sub false true) s13=(.oct false (uuidS (rdSpan 16 s13).1),s14):=by
       rw [mD];show rd1 _ 7 _ false _ _=_
       unfold rd1;rw [if_neg (by decide),if_pos rfl]
      have hl16:((uuidS (rdSpan 16 s13).1).map byteV).length=16:=by rw [List.length_map,uuidS_len]
      have eM:=flat_bytes (uuidS (rdSpan 16 s13).1)
      have hxc:(uuidS (uuidS (rdSpan 16 s13).1)).map byteV=(uuidS (rdSpan 16 s13).1).map byteV:=by rw [uuidS_idem]
      generalize (uuidS (rdSpan 16 s13).1).map byteV=Xu at *
      obtain ⟨uet0e0_0,uet0e0_1,uet0e0_2,uet0e0_3,uet0e0_4,uet0e0_5,uet0e0_6,uet0e0_7,uet0e0_8,uet0e0_9,uet0e0_10,uet0e0_11,uet0e0_12,uet0e0_13,uet0e0_14,uet0e0_15,rfl⟩:=list16 hl16
      simp only [List.all_cons,List.all_nil,Bool.and_true,Bool.and_eq_true] at eM
      obtain ⟨fuet0e0_0,fuet0e0_1,fuet0e0_2,fuet0e0_3,fuet0e0_4,fuet0e0_5,fuet0e0_6,fuet0e0_7,fuet0e0_8,fuet0e0_9,fuet0e0_10,fuet0e0_11,fuet0e0_12,fuet0e0_13,fuet0e0_14,fuet0e0_15⟩:=eM
      have hcz:cellsAt #[uet0e0_0,uet0e0_1,uet0e0_2,uet0e0_3,uet0e0_4,uet0e0_5,uet0e0_6,uet0e0_7,uet0e0_8,uet0e0_9,uet0e0_10,uet0e0_11,uet0e0_12,uet0e0_13,uet0e0_14,uet0e0_15] 0 16=some (.agg #[uet0e0_0,uet0e0_1,uet0e0_2,uet0e0_3,uet0e0_4,uet0e0_5,uet0e0_6,uet0e0_7,uet0e0_8,uet0e0_9,uet0e0_10,uet0e0_11,uet0e0_12,uet0e0_13,uet0e0_14,uet0e0_15]):=cellsAt_full rfl
      have qY:j1 * 16+16≤X21.size:=by omega
      repeat (first|simp (disch:=(first|omega|(simp only [qI,qJ,qK]<;>omega)|exact qL _)) only [go_sem,↓reduceIte,n0,reduceCtorEq,n1,n2,n3,n4,n5,i0,i1,i2,i3,i4,i5,i6,i7,kF,bJ,bM,bN,bO,bF,bH,bI,bK,bB,bZ,hcz,fuet0e0_0,fuet0e0_1,fuet0e0_2,fuet0e0_3,fuet0e0_4,fuet0e0_5,fuet0e0_6,fuet0e0_7,fuet0e0_8,fuet0e0_9,fuet0e0_10,fuet0e0_11,fuet0e0_12,fuet0e0_13,fuet0e0_14,fuet0e0_15,qY]|refine qA rfl ?_|apply qB|refine qC rfl ?_|apply qD|apply qE|apply qF|apply qG|apply qH)
      have hEu:Ext w21 (wr (w21.alloc (.cells #[.int .u8 0,.int .u8 0,.int .u8 0,.int .u8 0,.int .u8 0,.int .u8 0,.int .u8 0,.int .u8 0,.int .u8 0,.int .u8 0,.int .u8 0,.int .u8 0,.int .u8 0,.int .u8 0,.int .u8 0,.int .u8 0] 72)) w21.heap.size 0 [uet0e0_0,uet0e0_1,uet0e0_2,uet0e0_3,uet0e0_4,uet0e0_5,uet0e0_6,uet0e0_7,uet0e0_8,uet0e0_9,uet0e0_10,uet0e0_11,uet0e0_12,uet0e0_13,uet0e0_14,uet0e0_15]):=(Upd.alloc (Upd.refl _ _) _).wr _ _ (.inl (Nat.le_refl _))
      have eG:=And.intro (eF.1.upd hEu (fun h=>h) (fun _ _ _ h=>h)) (eF.2.upd hEu fun h=>h)
      have eL:Upd (fun b=>b=rc0) w21 (wr (w21.alloc (.cells #[.int .u8 0,.int .u8 0,.int .u8 0,.int .u8 0,.int .u8 0,.int .u8 0,.int .u8 0,.int .u8 0,.int .u8 0,.int .u8 0,.int .u8 0,.int .u8 0,.int .u8 0,.int .u8 0,.int .u8 0,.int .u8 0] 72)) w21.heap.size 0 [uet0e0_0,uet0e0_1,uet0e0_2,uet0e0_3,uet0e0_4,uet0e0_5,uet0e0_6,uet0e0_7,uet0e0_8,uet0e0_9,uet0e0_10,uet0e0_11,uet0e0_12,uet0e0_13,uet0e0_14,uet0e0_15]):=hEu.mono fun _ h=>h.elim
      clear hEu
      generalize (wr (w21.alloc (.cells #[.int .u8 0,.int .u8 0,.int .u8 0,.int .u8 0,.int .u8 0,.int .u8 0,.int .u8 0,.int .u8 0,.int .u8 0,.int .u8 0,.int .u8 0,.int .u8 0,.int .u8 0,.int .u8 0,.int .u8 0,.int .u8 0] 72)) w21.heap.size 0 [uet0e0_0,uet0e0_1,uet0e0_2,uet0e0_3,uet0e0_4,uet0e0_5,uet0e0_6,uet0e0_7,uet0e0_8,uet0e0_9,uet0e0_10,uet0e0_11,uet0e0_12,uet0e0_13,uet0e0_14,uet0e0_15])=w22 at *
      have eN:=eL.blk_some dN (by omega)
      have cP:Upd (fun b=>b=R1∨b=rc0) w21 w22:=eL.mono (fun _ h=>.inr h)
      have dX:Upd (fun b=>b=vb∨b=rc0) w17 w22:=dW.trans' cP fun i hi h=>h.elim (fun h=>by omega) .inr
      have rS:=cP.size
      have nE:Glo ev w22:=aM.updS dX aN aO
      obtain ⟨X22,e8⟩:∃ X:Array Value,X=(A1++(([.int .u8 0,.int .u8 0,.int .u8 0,.int .u8 0,.int .u8 0,.int .u8 0,.int .u8 0,.int .u8 0,.int .u8 0,.int .u8 0,.int .u8 0,.int .u8 0,.int .u8 0,.int .u8 0,.int .u8 0,.int .u8 0]:List Value)++B1)).toArray:=⟨_,rfl⟩
      have mP:blk w22 R1=some (X22,72,(0,0)):=by rw [e8];exact eN
      have o7:j1 * 16+16≤X22.size:=by rw [e8];simp only [List.size_toArray,List.length_append,List.length_cons,List.length_nil,hA1];omega
      generalize g7:wr w22 R1 (j1 * 16) [uet0e0_0,uet0e0_1,uet0e0_2,uet0e0_3,uet0e0_4,uet0e0_5,uet0e0_6,uet0e0_7,uet0e0_8,uet0e0_9,uet0e0_10,uet0e0_11,uet0e0_12,uet0e0_13,uet0e0_14,uet0e0_15] = w23
      have nM:Upd (fun b=>b=R1∨b=rc0) w22 w23:=by rw [← g7];exact (Upd.refl _ _).wr _ _ (.inr (.inl rfl))
      have eO:blk w23 R1=some ((A1++(([uet0e0_0,uet0e0_1,uet0e0_2,uet0e0_3,uet0e0_4,uet0e0_5,uet0e0_6,uet0e0_7,uet0e0_8,uet0e0_9,uet0e0_10,uet0e0_11,uet0e0_12,uet0e0_13,uet0e0_14,uet0e0_15]:List Value)++B1)).toArray,72,(0,0)):=by rw [← g7];exact el_blk0 eN hA1 (Nat.le_of_ble_eq_true rfl)
      have cQ:=nM
      have eX:Upd (fun b=>b=vb∨b=rc0) w17 w23:=dX.trans' cQ fun i hi h=>h.elim (fun h=>by omega) .inr
      have rT:=cQ.size
      have nF:Glo ev w23:=aM.updS eX aN aO
      have jB:Rdr RT ok w23 rc0 s14∧NN w23 rc0 s14:=by
       have hn:∀ x,x=w23→(Rdr RT ok x rc0 s14∧NN x rc0 s14):=fun x hx=>by
        rw [hx,← g7]
        exact Rdr.store eG (by omega) (fun h=>by have:=(hok _ h).1;first|omega|exact (hok _ h).2 rfl)
       exact hn _ rfl
      obtain ⟨X23,e9⟩:∃ X:Array Value,X=(A1++(([uet0e0_0,uet0e0_1,uet0e0_2,uet0e0_3,uet0e0_4,uet0e0_5,uet0e0_6,uet0e0_7,uet0e0_8,uet0e0_9,uet0e0_10,uet0e0_11,uet0e0_12,uet0e0_13,uet0e0_14,uet0e0_15]:List Value)++B1)).toArray:=⟨_,rfl⟩
      have kG:blk w23 R1=some (X23,72,(0,0)):=by rw [e9];exact eO
      have o8:j1 * 16+16≤X23.size:=by rw [e9];simp only [List.size_toArray,List.length_append,List.length_cons,List.length_nil,hA1];omega
      clear g7
      have hxE:(Rep1 (RepS true d) fQ_5.of fQ_5.sub) (fun b=>(ok b∨w17.heap.size≤b)∧¬ ownB va0 b) w23 (.oct false (uuidS (rdSpan 16 s13).1)) [uet0e0_0,uet0e0_1,uet0e0_2,uet0e0_3,uet0e0_4,uet0e0_5,uet0e0_6,uet0e0_7,uet0e0_8,uet0e0_9,uet0e0_10,uet0e0_11,uet0e0_12,uet0e0_13,uet0e0_14,uet0e0_15]:=(show Rep1 _ 7 _ _ _ _ _ from by unfold Rep1;rw [if_pos rfl];exact hxc.symm)
      repeat ((first|refine qA rfl ?_|apply qB|refine qC rfl ?_|apply qD|apply qE|apply qF|apply qG|apply qH);try simp (disch:=(first|omega|(simp only [qI,qJ,qK]<;>omega)|exact qL _)) only [go_sem,↓reduceIte,n0,reduceCtorEq,n1,n2,n3,n4,n5,i0,i1,i2,i3,i4,i5,i6,i7,kG,bJ,bM,bN,bO,bF,bH,bI,bK,bB,bZ])
      have hTk:Upd (fun b=>b=R1∨b=rc0) w20 w23:=((iL.trans cP).trans cQ)
      have hL':=hL0.step (Rep1_lay _ _ fun _=>RepS_lay true _ _) lS (eC w23 [uet0e0_0,uet0e0_1,uet0e0_2,uet0e0_3,uet0e0_4,uet0e0_5,uet0e0_6,uet0e0_7,uet0e0_8,uet0e0_9,uet0e0_10,uet0e0_11,uet0e0_12,uet0e0_13,uet0e0_14,uet0e0_15] rfl eO) (by rw [hrE];exact hxE) (hTk.mono fun b h=>h.imp (fun e=>⟨_,_,_,cA,e⟩) id) (by rw [hrE];exact jB) (fun h=>hoMc rc0 h (.inr rfl)) (Nat.le_refl _)
      have hij:IntKind.i32.wrap ((j1:Int)+1)=((j1+1:Nat):Int):=by rw [i32_wrap (by omega)];omega
      repeat ((first|refine qA rfl ?_|apply qB|refine qC rfl ?_|apply qD|apply qE|apply qF|apply qG|apply qH);try simp (disch:=(first|omega|(simp only [qI,qJ,qK]<;>omega)|exact qL _)) only [go_sem,↓reduceIte,n0,reduceCtorEq,n1,n2,n3,n4,n5,i0,i1,i2,i3,i4,i5,i6,i7,kG,bJ,bM,bN,bO,bF,bH,bI,bK,bB,bZ,hij])
      refine ⟨⟨(by simp (disch:=(first|omega|(simp only [qI,qJ,qK]<;>omega)|exact qL _)) only [go_sem,↓reduceIte,n0,reduceCtorEq,n1,n2,n3,n4,n5,i0,i1,i2,i3,i4,i5,i6,i7,Holds_nil,Holds_cons,bJ,bM,bN,bO,bF,bH,bI,bK,bB,bZ];exact cA.symm),j1+1,(by simp (disch:=(first|omega|(simp only [qI,qJ,qK]<;>omega)|exact qL _)) only [go_sem,↓reduceIte,n0,reduceCtorEq,n1,n2,n3,n4,n5,i0,i1,i2,i3,i4,i5,i6,i7,bJ,bM,bN,bO,bF,bH,bI,bK,bB,bZ,hij];all_goals rfl),_,_,_,hL'⟩,?_⟩
      try simp (disch:=(first|omega|(simp only [qI,qJ,qK]<;>omega)|exact qL _)) only [go_sem,↓reduceIte,n0,reduceCtorEq,n1,n2,n3,n4,n5,i0,i1,i2,i3,i4,i5,i6,i7,bJ,bM,bN,bO,bF,bH,bI,bK,bB,bZ]
      simp only [RowKit.intOf]
      omega
     ·have hjN:j1=N0:=by omega
      rw [hjN] at hL0
      repeat ((first|refine qA rfl ?_|apply qB|refine qC rfl ?_|apply qD|apply qE|apply qF|apply qG|apply qH);try simp (disch:=(first|omega|(simp only [qI,qJ,qK]<;>omega)|exact qL _)) only [go_sem,↓reduceIte,n0,reduceCtorEq,n1,n2,n3,n4,n5,i0,i1,i2,i3,i4,i5,i6,i7,bJ,bM,bN,bO,bF,bH,bI,bK,jU,bZ])
      exact ⟨(by simp (disch:=(first|omega|(simp only [qI,qJ,qK]<;>omega)|exact qL _)) only [go_sem,↓reduceIte,n0,reduceCtorEq,n1,n2,n3,n4,n5,i0,i1,i2,i3,i4,i5,i6,i7,Holds_nil,Holds_cons,bJ,bM,bN,bO,bF,bH,bI,bK,jU,bZ]),s13,xs0,css0,hL0⟩
    rintro ρ w24 ⟨⟨d8,dB,dC,dD,cX,cY,cZ,dA,d9,-⟩,s15,xs0,css0,hL0⟩
    have jC:=hL0.rd
    have mM:=hL0.upd
    have hv_24:=mM.blk_some hv_18 (by omega)
    have bD:Upd (fun b=>b=vb∨b=rc0) w18 w24:=mM.mono (fun _ h=>.inr h)
    have cD:Upd (fun b=>b=vb∨b=rc0) w17 w24:=aZ.trans bD
    have mU:=bD.size
    have nG:Glo ev w24:=aM.updS cD aN aO
    have mB:rdF (rdP d ver true) ver true fQ_5 s11=(.mk 0 [] (nilS fQ_5 ver y0) xs0 [],s15):=by
     have h:=rdF_listE (pt:=(rdP d ver true)) (v:=ver) (flex:=true) (f:=fQ_5) (s:=s11) (xs:=xs0) (e:=s15) rfl (by rw [hy0,← hN0,← k7];exact hL0.done)
     rw [hy0] at h;exact h
    have pT:s15=(rdF (rdP d ver true) ver true fQ_5 s11).2:=by rw [mB]
    obtain ⟨aa0,qq0,r6⟩:=hL0.row.shape
    subst r6
    repeat ((first|refine qA rfl ?_|apply qB|refine qC rfl ?_|apply qD|apply qE|apply qF|apply qG|apply qH);try simp (disch:=(first|omega|(simp only [qI,qJ,qK]<;>omega)|exact qL _)) only [go_sem,↓reduceIte,n0,reduceCtorEq,n1,n2,n3,n4,n5,i0,i1,i2,i3,i4,i5,i6,i7,hv_24,d8,dB,dC,dD,cX,cY,cZ,dA,d9])
    generalize cC:wr w24 vb 6 [.slice aa0 N0 qq0] = w25
    have nO:Upd (fun b=>b=vb∨b=rc0) w24 w25:=by rw [← cC];exact (Upd.refl _ _).wr _ _ (.inr (.inl rfl))
    have hv_25:blk w25 vb=some (#[.int .i16 ver,.int .i32 (rdInt .i32 4 s0).1,.int .i64 (rdInt .i64 8 s1).1,.int .i64 (rdInt .i64 8 s2).1,.bool (!decide (beN (rdN 1 s3).1=0)),.bool (!decide (beN (rdN 1 s4).1=0)),.slice aa0 N0 qq0,v_7,.map qm],69,(0,0)):=by rw [← cC,blk_wr_eq,hv_24];rfl
    have bE:=nO
    have b5:Upd (fun b=>b=vb∨b=rc0) w17 w25:=cD.trans bE
    have gD:=bE.size
    have kS:Glo ev w25:=aM.updS b5 aN aO
    have jD:Rdr RT ok w25 rc0 s15∧NN w25 rc0 s15:=by
     have hn:∀ x,x=w25→(Rdr RT ok x rc0 s15∧NN x rc0 s15):=fun x hx=>by
      rw [hx,← cC]
      exact Rdr.store jC (by omega) (fun h=>by have:=(hok _ h).1;first|omega|exact (hok _ h).2 rfl)
     exact hn _ rfl
    clear cC
    have oS:RepF (RepS true d) (szS true d) fQ_5 (fun b=>ok b∨w17.heap.size≤b) w25 (xt0_5) [.slice aa0 N0 qq0]:=by rw [mR,mB];exact RepF.keepS (RepF_row rfl lU hN0 rfl hL0.row hL0.all (fun b hb=>.inr (by omega))) (bE.keeps fun b _ hk e=>(hoMc b hk) e)
    clear hL0 lU
    repeat ((first|refine qA rfl ?_|apply qB|refine qC rfl ?_|apply qD|apply qE|apply qF|apply qG|apply qH);try simp (disch:=(first|omega|(simp only [qI,qJ,qK]<;>omega)|exact qL _)) only [go_sem,↓reduceIte,n0,reduceCtorEq,n1,n2,n3,n4,n5,i0,i1,i2,i3,i4,i5,i6,i7,hv_25,d8,dB,dC,dD,cX,cY,cZ,dA,d9])
    refine (RComplete_fn w25 jD.1 kS.2).mono ?_
    rintro _ wz ⟨rfl,hez⟩
    rw [hez]
    clear hez wz
    have hxF:rdF (rdP d ver true) ver true fQ_5 s11=(xt0_5,s15):=by rw [mR,pT]
    by_cases hsz:s15=none
    ·rw [errV_none hsz]
     obtain ⟨eT,ep,hevE⟩:=hev
     rw [hevE]
     repeat (first|simp (disch:=(first|omega|(simp only [qI,qJ,qK]<;>omega)|exact qL _)) only [go_sem,↓reduceIte,n0,reduceCtorEq,n1,n2,n3,n4,n5,i0,i1,i2,i3,i4,i5,i6,i7,hv_25,d8,dB,dC,dD,cX,cY,cZ,dA,d9]|refine qA rfl ?_|apply qB|refine qC rfl ?_|apply qD|apply qE|apply qF|apply qG|apply qH)
     rw [← hevE]
     exact ReadQ.bad (Eq.mp hFB (hbT (by rw [hxF];exact hsz))) (hbasec.trans' b5 fun i hi h=>h.elim id fun h=>by omega)
    have hen:errV ev s15 = .nilIface:=errV_some hsz
    rw [hen]
    repeat (first|simp (disch:=(first|omega|(simp only [qI,qJ,qK]<;>omega)|exact qL _)) only [go_sem,↓reduceIte,n0,reduceCtorEq,n1,n2,n3,n4,n5,i0,i1,i2,i3,i4,i5,i6,i7,hv_25,d8,dB,dC,dD,cX,cY,cZ,dA,d9,hw1]|refine qA rfl ?_|apply qB|refine qC rfl ?_|apply qD|apply qE|apply qF|apply qG|apply qH)
    have hRk:Upd (fun b=>b=vb∨b=rb) w13 w25:=hQo.trans' b5 fun i hi h=>h.elim .inl fun h=>by omega
    have hzr:=hRk.size
    have hE2:rdTg (rdP d ver true) ver true fsr_Q m [x_0,x_1,x_2,x_3,x_4,xt0_5,y_6] u s10=rdTgs (rdP d ver true) ver true fsr_Q [x_0,x_1,x_2,x_3,x_4,x_5,x_6] s5:=by
     have h:=(rdTg_known (k:=0) (hK.symm.trans hk0) rfl (by rw [← hs8,← hSL,← hSP,← jZ];exact hxF) hsz).symm.trans hE
     rw [← hs8,← hSL,← fK] at h;exact h
    have hO2:tagOnce fsr_Q m (0 :: ks) s10:=by
     have h:=hO.2
     rw [← hK,hk0,← hs8,← hSL,← fK] at h;exact h
    refine ⟨⟨(by simp (disch:=(first|omega|(simp only [qI,qJ,qK]<;>omega)|exact qL _)) only [go_sem,↓reduceIte,n0,reduceCtorEq,n1,n2,n3,n4,n5,i0,i1,i2,i3,i4,i5,i6,i7,Holds_nil,Holds_cons,d8,dB,dC,dD,cX,cY,cZ,dA,d9]),m,(by simp (disch:=(first|omega|(simp only [qI,qJ,qK]<;>omega)|exact qL _)) only [go_sem,↓reduceIte,n0,reduceCtorEq,n1,n2,n3,n4,n5,i0,i1,i2,i3,i4,i5,i6,i7,d8,dB,dC,dD,cX,cY,cZ,dA,d9,hw1];all_goals rfl),u,s10,qm,0 :: ks,xt0_5,.slice aa0 N0 qq0,y_6,v_7,by omega,hE2,hv_25,RepF.weakenS oS (fun b hb hk=>⟨hk.imp id fun h=>by omega,hb,fun h=>by have:=hmap b h;rcases hk with hk|hk<;>first|omega|(have:=(hok b hk).1;omega)⟩),RepF.weakenS (hfT_6.keepS (hRk.keeps fun b _ hk e=>(hoM b hk.1) e)) (fun b hb hk=>⟨hk.1,hb,hk.2.2⟩),hO2,(fun h=>absurd (List.mem_cons_self ..) h),(fun h=>hd_6 (fun h'=>h (List.mem_cons_of_mem _ h'))),hTG.keep (fun b hb hk=>hRk.keep b hb fun e=>by rcases hk with hk|hk<;>rcases e with e|e<;>first|omega|(have:=hok b hk.1;omega)),hnd,⟨hqo.1.upd b5 (by omega) (fun b _ hk e=>by have:=hok b hk;omega),hqo.2.upd b5 (by omega)⟩,dO.trans hRk⟩,?_⟩
    try simp (disch:=(first|omega|(simp only [qI,qJ,qK]<;>omega)|exact qL _)) only [go_sem,↓reduceIte,n0,reduceCtorEq,n1,n2,n3,n4,n5,i0,i1,i2,i3,i4,i5,i6,i7,d8,dB,dC,dD,cX,cY,cZ,dA,d9]
    simp only [RowKit.intOf]
    omega
   ·have oU:¬ (K:Int)=0:=by omega
    by_cases hk1:K=1
    ·have hkI:(K:Int)=1:=by omega
     repeat ((first|refine qA rfl ?_|apply qB|refine qC rfl ?_|apply qD|apply qE|apply qF|apply qG|apply qH);try simp (disch:=(first|omega|(simp only [qI,qJ,qK]<;>omega)|exact qL _)) only [go_sem,↓reduceIte,n0,reduceCtorEq,n1,n2,n3,n4,n5,i0,i1,i2,i3,i4,i5,i6,i7,hv_14,hrt_2,hrt_7,hrt_8,hrt_9,hrt_10,hri,hkI])
     refine (RUvarint_fn w14 eD.1 hrok).mono ?_
     rintro _ w15 ⟨rfl,b9,cH⟩
     have hv_15:=cH.blk_some hv_14 (by omega)
     have cJ:Upd (fun b=>b=vb∨b=rb) w14 w15:=cH.mono (fun _ h=>.inr h)
     have dT:Upd (fun b=>b=vb∨b=rb) w1 w15:=iH.trans cJ
     have rO:=cJ.size
     have nA:Glo ev w15:=hG1.updS dT aJ aK
     have hSl:=rdUv_lt s8
     obtain ⟨s16,mE⟩:∃ s,s=(rdUv s8).2:=⟨_,rfl⟩
     rw [← mE] at b9
     obtain ⟨SL,hSL⟩:∃ N,N=(rdUv s8).1:=⟨_,rfl⟩
     rw [← hSL] at hSl
     try rw [← hSL]
     have e64:IntKind.i64.wrap (SL:Int)=SL:=i64_wrap (by omega)
     repeat (first|simp (disch:=(first|omega|(simp only [qI,qJ,qK]<;>omega)|exact qL _)) only [go_sem,↓reduceIte,n0,reduceCtorEq,n1,n2,n3,n4,n5,i0,i1,i2,i3,i4,i5,i6,i7,hv_15,hrt_2,hrt_7,hrt_8,hrt_9,hrt_10,hri,e64]|refine qA rfl ?_|apply qB|refine qC rfl ?_|apply qD|apply qE|apply qF|apply qG|apply qH)
     refine (Span_fn w15 b9.1 hrok _).mono ?_
     rintro r16 w16 ⟨hBs,_,_,hqx,hqy,cI⟩
     have bA:=And.intro hqx (hqy (.inl b9.2))
     clear hqx hqy
     have hv_16:=cI.blk_some hv_15 (by omega)
     have cM:Upd (fun b=>b=vb∨b=rb) w15 w16:=cI.mono (fun _ h=>.inr h)
     have dU:Upd (fun b=>b=vb∨b=rb) w1 w16:=dT.trans cM
     have rP:=cM.size
     have nB:Glo ev w16:=hG1.updS dU aJ aK
     obtain ⟨s17,fM⟩:∃ s,s=(rdSpan (SL:Int) s16).2:=⟨_,rfl⟩
     rw [← fM] at bA
     obtain ⟨SP,hSP⟩:∃ x,x=(rdSpan (SL:Int) s16).1:=⟨_,rfl⟩
     rw [← hSP] at hBs
     rw [mE] at hSP fM
     obtain ⟨spa,spc,rfl,_⟩:=hBs.shape
     repeat ((first|refine qA rfl ?_|apply qB|refine qC rfl ?_|apply qD|apply qE|apply qF|apply qG|apply qH);try simp (disch:=(first|omega|(simp only [qI,qJ,qK]<;>omega)|exact qL _)) only [go_sem,↓reduceIte,n0,reduceCtorEq,n1,n2,n3,n4,n5,i0,i1,i2,i3,i4,i5,i6,i7,hv_16,hrt_2,hrt_7,hrt_8,hrt_9,hrt_10,hri,e64])
     obtain ⟨rc1,hrc⟩:∃ r,r=w16.heap.size:=⟨_,rfl⟩
     have hEi:Ext w16 (wr (w16.alloc (.cells #[.slice none 0 0,.bool false] 87)) w16.heap.size 0 [.slice spa SP.length spc,.bool false]):=(Upd.alloc (Upd.refl _ _) _).wr _ _ (.inl (Nat.le_refl _))
     have hzi:(wr (w16.alloc (.cells #[.slice none 0 0,.bool false] 87)) w16.heap.size 0 [.slice spa SP.length spc,.bool false]).heap.size=w16.heap.size+1:=by rw [size_wr,World.size_alloc]
     have hRi:Rdr RT ok (wr (w16.alloc (.cells #[.slice none 0 0,.bool false] 87)) w16.heap.size 0 [.slice spa SP.length spc,.bool false]) w16.heap.size (some SP):=Rdr.good (v:=.slice spa SP.length spc) (by simp (disch:=(first|omega|(simp only [qI,qJ,qK]<;>omega)|exact qL _)) only [go_sem,↓reduceIte,n0,reduceCtorEq,n1,n2,n3,n4,n5,i0,i1,i2,i3,i4,i5,i6,i7]) (hBs.keep (hEi.keeps _))
     have hv_17:=hEi.blk_some hv_16 id
     have hqo:=And.intro (bA.1.upd hEi (fun h=>h) (fun _ _ _ h=>h)) (bA.2.upd hEi fun h=>h)
     repeat ((first|refine qA rfl ?_|apply qB|refine qC rfl ?_|apply qD|apply qE|apply qF|apply qG|apply qH);try simp (disch:=(first|omega|(simp only [qI,qJ,qK]<;>omega)|exact qL _)) only [go_sem,↓reduceIte,n0,reduceCtorEq,n1,n2,n3,n4,n5,i0,i1,i2,i3,i4,i5,i6,i7,hv_16,hrt_2,hrt_7,hrt_8,hrt_9,hrt_10,hri,hkI])
     generalize (wr (w16.alloc (.cells #[.slice none 0 0,.bool false] 87)) w16.heap.size 0 [.slice spa SP.length spc,.bool false])=w17 at *
     rw [← hrc] at hRi
     try rw [← hrc]
     have cO:Upd (fun b=>b=vb∨b=rb) w16 w17:=hEi.mono fun _ h=>h.elim
     have dV:Upd (fun b=>b=vb∨b=rb) w1 w17:=dU.trans cO
     have rQ:=cO.size
     have aM:Glo ev w17:=hG1.updS dV aJ aK
     have hQo:Upd (fun b=>b=vb∨b=rb) w13 w17:=(((dZ.trans cJ).trans cM).trans cO)
     have hzo:=hQo.size
     have hrokc:¬ ok rc1:=fun h=>by have:=(hok _ h).1;omega
     have hgrbc:¬ 0=rc1:=by omega
     have aN:¬ (0=vb∨0=rc1):=fun h=>h.elim hgv.1 fun h=>by omega
     have aO:¬ (1=vb∨1=rc1):=fun h=>h.elim hgv.2 fun h=>by omega
     have hoMc:∀ b,(ok b∨w17.heap.size≤b)→¬ (b=vb∨b=rc1):=fun b hk h=>by
      rcases hk with hk|hk
      ·have:=hok b hk;rcases h with h|h<;>omega
      ·rcases h with h|h<;>omega
     have hbasec:Upd (fun b=>b=vb) w w17:=hbase.trans' dV fun i hi h=>h.elim id fun h=>by omega
     have hUc:Upd (fun b=>b=vb∨b=rc1) w17 w17:=Upd.refl _ _
     have hqc:Rdr RT ok w17 rc1 (some SP):=hRi
     obtain ⟨s18,k9⟩:∃ s:St,s=some SP:=⟨_,rfl⟩
     rw [← k9] at hqc
     have hbT:(rdF (rdP d ver true) ver true frQ_6 s18).2=none→FB:=fun h=>Eq.mpr hFB (rdM_badT hl_0 (by rw [← hE];exact rdTg_bad (hK.symm.trans hk1) rfl (by rw [← hs8,← hSL,← hSP,← k9];exact h)))
     have hni:1∉ks:=fun h=>hO.1 (by rw [← hK,hk1];exact fun h=>by cases h) (by rw [← hK,hk1];exact h)
     obtain rfl:=hd_6 hni
     have sN:hasS frQ_6 ver=true:=hasS_t (by show (0:Int)≤ver;omega) (by show (-1:Int) < 0∨ver≤(-1:Int);omega)
     obtain ⟨xt1_6,mS⟩:∃ x,x=(rdF (rdP d ver true) ver true frQ_6 s18).1:=⟨_,rfl⟩
     repeat ((first|refine qA rfl ?_|apply qB|refine qC rfl ?_|apply qD|apply qE|apply qF|apply qG|apply qH);try simp (disch:=(first|omega|(simp only [qI,qJ,qK]<;>omega)|exact qL _)) only [go_sem,↓reduceIte,n0,reduceCtorEq,n1,n2,n3,n4,n5,i0,i1,i2,i3,i4,i5,i6,i7,hv_17,hrt_2,hrt_7,hrt_8,hrt_9,hrt_10,hri])
     refine (RCompactArrayLen_fn w17 hqc hrokc aM.1 hgrbc).mono ?_
     rintro _ w18 ⟨rfl,b6,eK⟩
     have hv_18:=eK.blk_some hv_17 (by omega)
     have bC:Upd (fun b=>b=vb∨b=rc1) w17 w18:=eK.mono (fun _ h=>.inr h)
     have aZ:Upd (fun b=>b=vb∨b=rc1) w17 w18:=hUc.trans bC
     have mT:=bC.size
     have eU:Glo ev w18:=aM.updS aZ aN aO
     obtain ⟨s19,kA⟩:∃ s,s=(rdALen true s18).2:=⟨_,rfl⟩
     rw [← kA] at b6
     have sU:=rdALen_rng true s18
     generalize hy1:(rdALen true s18).1=y1 at *
     obtain ⟨N1,hN1⟩:∃ N,N=y1.toNat:=⟨_,rfl⟩
     have oX:(rdMany (rd1 (rdP d ver true) frQ_6.of frQ_6.sub false true) N1 s19).2=none→FB:=fun h=>hbT (rdF_listbad rfl (by rw [hy1,← hN1,← kA];exact h))
     repeat ((first|refine W.seqR rfl ?_|refine W.seq ?_|refine W.regR rfl ?_|refine W.block ?_|refine W.skip ?_|refine W.ret ?_|refine W.exit ?_);try simp (disch:=(first|omega|(simp only [qI,qJ,qK]<;>omega)|exact qL _)) only [go_sem,↓reduceIte,n0,reduceCtorEq,n1,n2,n3,n4,n5,i0,i1,i2,i3,i4,i5,i6,i7,hv_18,hrt_2,hrt_7,hrt_8,hrt_9,hrt_10,hri])
     refine W.normJ (RowQ [(2,.bool false),(7,.pointer (some ⟨rb,0,none⟩)),(8,.int .i16 ver),(9,.bool true),(10,.pointer (some ⟨vb,0,none⟩)),(16,.int .u32 ((m+1:Nat):Int)),(25,.pointer (some ⟨rc1,0,none⟩)),(28,.int .i32 y1)] 27 (fun va w'=>∃ a0,va = .slice a0 0 0∧Ext w18 w'∧(∀ x,a0=some x→w18.heap.size≤x.block∧x.block < w'.heap.size)∧(N1=0→if nilS frQ_6 ver y1=true then va = .slice none 0 0 else ∃ a,va = .slice (some a) 0 0))) ?_ ?_
     ·by_cases hye:y1=0
      ·repeat ((first|refine qA rfl ?_|apply qB|refine qC rfl ?_|apply qD|apply qE|apply qF|apply qG|apply qH);try simp (disch:=(first|omega|(simp only [qI,qJ,qK]<;>omega)|exact qL _)) only [go_sem,↓reduceIte,n0,reduceCtorEq,n1,n2,n3,n4,n5,i0,i1,i2,i3,i4,i5,i6,i7,hv_18,hrt_2,hrt_7,hrt_8,hrt_9,hrt_10,hri,hye])
       exact ⟨(by simp (disch:=(first|omega|(simp only [qI,qJ,qK]<;>omega)|exact qL _)) only [go_sem,↓reduceIte,n0,reduceCtorEq,n1,n2,n3,n4,n5,i0,i1,i2,i3,i4,i5,i6,i7,Holds_nil,Holds_cons,hrt_2,hrt_7,hrt_8,hrt_9,hrt_10,hri,hye]),.slice (some ⟨w18.heap.size,0,none⟩) 0 0,(by simp (disch:=(first|omega|(simp only [qI,qJ,qK]<;>omega)|exact qL _)) only [go_sem,↓reduceIte,n0,reduceCtorEq,n1,n2,n3,n4,n5,i0,i1,i2,i3,i4,i5,i6,i7,hrt_2,hrt_7,hrt_8,hrt_9,hrt_10,hri]),some ⟨w18.heap.size,0,none⟩,rfl,(Upd.alloc (Upd.refl _ _) _:Ext _ _),(fun x hx=>by cases hx;exact ⟨Nat.le_refl _,by simp only [World.size_alloc];omega⟩),(fun _=>by rw [nilS_may (by decide) (by show (0:Int)≤ver;omega),decide_eq_false (by omega)];exact ⟨_,rfl⟩)⟩
      ·repeat ((first|refine qA rfl ?_|apply qB|refine qC rfl ?_|apply qD|apply qE|apply qF|apply qG|apply qH);try simp (disch:=(first|omega|(simp only [qI,qJ,qK]<;>omega)|exact qL _)) only [go_sem,↓reduceIte,n0,reduceCtorEq,n1,n2,n3,n4,n5,i0,i1,i2,i3,i4,i5,i6,i7,hv_18,hrt_2,hrt_7,hrt_8,hrt_9,hrt_10,hri,hye])
       exact ⟨(by simp (disch:=(first|omega|(simp only [qI,qJ,qK]<;>omega)|exact qL _)) only [go_sem,↓reduceIte,n0,reduceCtorEq,n1,n2,n3,n4,n5,i0,i1,i2,i3,i4,i5,i6,i7,Holds_nil,Holds_cons,hrt_2,hrt_7,hrt_8,hrt_9,hrt_10,hri,hye]),.slice none 0 0,(by simp (disch:=(first|omega|(simp only [qI,qJ,qK]<;>omega)|exact qL _)) only [go_sem,↓reduceIte,n0,reduceCtorEq,n1,n2,n3,n4,n5,i0,i1,i2,i3,i4,i5,i6,i7,hrt_2,hrt_7,hrt_8,hrt_9,hrt_10,hri]),none,rfl,Upd.refl _ _,(fun x hx=>by cases hx),(fun _=>by rw [nilS_may (by decide) (by show (0:Int)≤ver;omega),decide_eq_true (by omega)];exact rfl)⟩
     rintro ρ w19 ⟨⟨aR,aW,aX,aY,aP,aQ,aT,aV,-⟩,va,aH,a0,rfl,gF,o9,pL⟩
     have fY:Upd (fun b=>b=rc1) w18 w19:=gF.mono fun _ h=>h.elim
     have eE:=And.intro (b6.1.upd gF (fun h=>h) (fun _ _ _ h=>h)) (b6.2.upd gF fun h=>h)
     have hv_19:=fY.blk_some hv_18 (by omega)
     have l6:Upd (fun b=>b=vb∨b=rc1) w18 w19:=fY.mono (fun _ h=>.inr h)
     have l0:Upd (fun b=>b=vb∨b=rc1) w17 w19:=aZ.trans l6
     have sZ:=l6.size
     have nC:Glo ev w19:=aM.updS l0 aN aO
     repeat ((first|refine W.seqR rfl ?_|refine W.seq ?_|refine W.regR rfl ?_|refine W.block ?_|refine W.skip ?_|refine W.ret ?_|refine W.exit ?_);try simp (disch:=(first|omega|(simp only [qI,qJ,qK]<;>omega)|exact qL _)) only [go_sem,↓reduceIte,n0,reduceCtorEq,n1,n2,n3,n4,n5,i0,i1,i2,i3,i4,i5,i6,i7,hv_19,aR,aW,aX,aY,aP,aQ,aT,aV,aH])
     refine (ROk_fn w19 eE.1).mono ?_
     rintro _ wz ⟨rfl,hez⟩
     rw [hez]
     clear hez wz
     by_cases fP:s19=none
     ·have hso:s19.isSome=false:=by rw [fP];rfl
      repeat (first|simp (disch:=(first|omega|(simp only [qI,qJ,qK]<;>omega)|exact qL _)) only [go_sem,↓reduceIte,n0,reduceCtorEq,n1,n2,n3,n4,n5,i0,i1,i2,i3,i4,i5,i6,i7,hv_19,aR,aW,aX,aY,aP,aQ,aT,aV,aH,hso]|refine qA rfl ?_|apply qB|refine qC rfl ?_|apply qD|apply qE|apply qF|apply qG|apply qH)
      refine (RComplete_fn w19 eE.1 nC.2).mono ?_
      rintro _ wz ⟨rfl,hez⟩
      rw [hez]
      repeat (first|simp (disch:=(first|omega|(simp only [qI,qJ,qK]<;>omega)|exact qL _)) only [go_sem,↓reduceIte,n0,reduceCtorEq,n1,n2,n3,n4,n5,i0,i1,i2,i3,i4,i5,i6,i7,hv_19,aR,aW,aX,aY,aP,aQ,aT,aV,aH]|refine qA rfl ?_|apply qB|refine qC rfl ?_|apply qD|apply qE|apply qF|apply qG|apply qH)
      rw [errV_none fP]
      exact ReadQ.bad (Eq.mp hFB (oX (by rw [fP];exact rdMany_none rd1P_none _))) (hbasec.trans' l0 fun i hi h=>h.elim id fun h=>by omega)
     have fR:s19.isSome=true:=isSome_some fP
     try simp (disch:=(first|omega|(simp only [qI,qJ,qK]<;>omega)|exact qL _)) only [go_sem,↓reduceIte,n0,reduceCtorEq,n1,n2,n3,n4,n5,i0,i1,i2,i3,i4,i5,i6,i7,hv_19,aR,aW,aX,aY,aP,aQ,aT,aV,aH,fR]
     repeat ((first|refine W.seqR rfl ?_|refine W.seq ?_|refine W.regR rfl ?_|refine W.block ?_|refine W.skip ?_|refine W.ret ?_|refine W.exit ?_);try simp (disch:=(first|omega|(simp only [qI,qJ,qK]<;>omega)|exact qL _)) only [go_sem,↓reduceIte,n0,reduceCtorEq,n1,n2,n3,n4,n5,i0,i1,i2,i3,i4,i5,i6,i7,hv_19,aR,aW,aX,aY,aP,aQ,aT,aV,aH,fR])
     refine W.condK ?_
     try simp (disch:=(first|omega|(simp only [qI,qJ,qK]<;>omega)|exact qL _)) only [go_sem,↓reduceIte,n0,reduceCtorEq,n1,n2,n3,n4,n5,i0,i1,i2,i3,i4,i5,i6,i7,hv_19,aR,aW,aX,aY,aP,aQ,aT,aV,aH,fR]
     repeat ((first|refine W.seqR rfl ?_|refine W.seq ?_|refine W.regR rfl ?_|refine W.block ?_|refine W.skip ?_|refine W.ret ?_|refine W.exit ?_);try simp (disch:=(first|omega|(simp only [qI,qJ,qK]<;>omega)|exact qL _)) only [go_sem,↓reduceIte,n0,reduceCtorEq,n1,n2,n3,n4,n5,i0,i1,i2,i3,i4,i5,i6,i7,hv_19,aR,aW,aX,aY,aP,aQ,aT,aV,aH,fR,slBase_00])
     refine W.normJ (RowQ [(2,.bool false),(7,.pointer (some ⟨rb,0,none⟩)),(8,.int .i16 ver),(9,.bool true),(10,.pointer (some ⟨vb,0,none⟩)),(16,.int .u32 ((m+1:Nat):Int)),(25,.pointer (some ⟨rc1,0,none⟩)),(28,.int .i32 y1)] 27 (fun va w'=>LstI RT (rd1 (rdP d ver true) frQ_6.of frQ_6.sub false true) (Rep1 (RepS true d) frQ_6.of frQ_6.sub) 16 72 [.int .u8 0,.int .u8 0,.int .u8 0,.int .u8 0,.int .u8 0,.int .u8 0,.int .u8 0,.int .u8 0,.int .u8 0,.int .u8 0,.int .u8 0,.int .u8 0,.int .u8 0,.int .u8 0,.int .u8 0,.int .u8 0] w18.heap.size N1 ok (fun b=>ok b∨w17.heap.size≤b) rc1 w18 s19 va 0 s19 [] [] w'∧(N1=0→if nilS frQ_6 ver y1=true then va = .slice none 0 0 else ∃ a,va = .slice (some a) 0 0))) ?_ ?_
     ·by_cases hy0:(0:Int) < y1
      ·have hyv:Value.int .i32 y1 = .int .i32 ((N1:Nat):Int):=by rw [show y1=((N1:Nat):Int) by omega]
       repeat ((first|refine qA rfl ?_|apply qB|refine qC rfl ?_|apply qD|apply qE|apply qF|apply qG|apply qH);try simp (disch:=(first|omega|(simp only [qI,qJ,qK]<;>omega)|exact qL _)) only [go_sem,↓reduceIte,n0,reduceCtorEq,n1,n2,n3,n4,n5,i0,i1,i2,i3,i4,i5,i6,i7,hv_19,aR,aW,aX,aY,aP,aQ,aT,aV,aH])
       refine wp_appendZ (m:=N1) utQ_64 utQ_21 inQ_72 (by decide) (by first|rfl|simp (disch:=(first|omega|(simp only [qI,qJ,qK]<;>omega)|exact qL _)) only [go_sem,↓reduceIte,n0,reduceCtorEq,n1,n2,n3,n4,n5,i0,i1,i2,i3,i4,i5,i6,i7,aR,aW,aX,aY,aP,aQ,aT,aV,aH]) (by first|exact hyv|(simp (disch:=(first|omega|(simp only [qI,qJ,qK]<;>omega)|exact qL _)) only [go_sem,↓reduceIte,n0,reduceCtorEq,n1,n2,n3,n4,n5,i0,i1,i2,i3,i4,i5,i6,i7,aR,aW,aX,aY,aP,aQ,aT,aV,aH];exact hyv)) (by omega) (by omega) (by decide) ?_
       intro q rest hq1
       have hEw:Ext w19 (w19.drew.alloc (.cells (zs [.int .u8 0,.int .u8 0,.int .u8 0,.int .u8 0,.int .u8 0,.int .u8 0,.int .u8 0,.int .u8 0,.int .u8 0,.int .u8 0,.int .u8 0,.int .u8 0,.int .u8 0,.int .u8 0,.int .u8 0,.int .u8 0] N1++rest).toArray 72)):=(Upd.refl _ _).drew.alloc _
       repeat (first|simp (disch:=(first|omega|(simp only [qI,qJ,qK]<;>omega)|exact qL _)) only [go_sem,↓reduceIte,n0,reduceCtorEq,n1,n2,n3,n4,n5,i0,i1,i2,i3,i4,i5,i6,i7,hv_19,aR,aW,aX,aY,aP,aQ,aT,aV,aH]|refine qA rfl ?_|apply qB|refine qC rfl ?_|apply qD|apply qE|apply qF|apply qG|apply qH)
       exact ⟨(by simp (disch:=(first|omega|(simp only [qI,qJ,qK]<;>omega)|exact qL _)) only [go_sem,↓reduceIte,n0,reduceCtorEq,n1,n2,n3,n4,n5,i0,i1,i2,i3,i4,i5,i6,i7,Holds_nil,Holds_cons,aR,aW,aX,aY,aP,aQ,aT,aV,aH]),.slice (some ⟨w19.heap.size,0,none⟩) N1 q,(by simp (disch:=(first|omega|(simp only [qI,qJ,qK]<;>omega)|exact qL _)) only [go_sem,↓reduceIte,n0,reduceCtorEq,n1,n2,n3,n4,n5,i0,i1,i2,i3,i4,i5,i6,i7,aR,aW,aX,aY,aP,aQ,aT,aV,aH]),LstI.start (RowJ.start (by omega) hq1 (by show w18.heap.size≤w19.drew.heap.size;rw [size_drew];omega) (blk_alloc_new rfl)) ⟨eE.1.upd hEw (fun h=>h) (fun _ _ _ h=>h),eE.2.upd hEw fun h=>h⟩ (fY.trans (hEw.mono fun _ h=>h.elim)),fun h0=>by omega⟩
      ·repeat ((first|refine qA rfl ?_|apply qB|refine qC rfl ?_|apply qD|apply qE|apply qF|apply qG|apply qH);try simp (disch:=(first|omega|(simp only [qI,qJ,qK]<;>omega)|exact qL _)) only [go_sem,↓reduceIte,n0,reduceCtorEq,n1,n2,n3,n4,n5,i0,i1,i2,i3,i4,i5,i6,i7,hv_19,aR,aW,aX,aY,aP,aQ,aT,aV,aH])
       exact ⟨(by simp (disch:=(first|omega|(simp only [qI,qJ,qK]<;>omega)|exact qL _)) only [go_sem,↓reduceIte,n0,reduceCtorEq,n1,n2,n3,n4,n5,i0,i1,i2,i3,i4,i5,i6,i7,Holds_nil,Holds_cons,aR,aW,aX,aY,aP,aQ,aT,aV,aH]),.slice a0 0 0,(by simp (disch:=(first|omega|(simp only [qI,qJ,qK]<;>omega)|exact qL _)) only [go_sem,↓reduceIte,n0,reduceCtorEq,n1,n2,n3,n4,n5,i0,i1,i2,i3,i4,i5,i6,i7,aR,aW,aX,aY,aP,aQ,aT,aV,aH,slBase_00]),LstI.start (RowJ.zero (by omega) o9) eE (fY),pL⟩
     rintro ρ w20 ⟨⟨jO,jR,jS,jT,jM,jN,jP,jQ,-⟩,va1,aH,hL1,lV⟩
     repeat ((first|refine qA rfl ?_|apply qB|refine qC rfl ?_|apply qD|apply qE|apply qF|apply qG|apply qH);try simp (disch:=(first|omega|(simp only [qI,qJ,qK]<;>omega)|exact qL _)) only [go_sem,↓reduceIte,n0,reduceCtorEq,n1,n2,n3,n4,n5,i0,i1,i2,i3,i4,i5,i6,i7,hv_19,jO,jR,jS,jT,jM,jN,jP,jQ,aH])
     refine W.exitRJ 5 (EndQ [(2,.bool false),(7,.pointer (some ⟨rb,0,none⟩)),(8,.int .i16 ver),(9,.bool true),(10,.pointer (some ⟨vb,0,none⟩)),(16,.int .u32 ((m+1:Nat):Int)),(25,.pointer (some ⟨rc1,0,none⟩)),(28,.int .i32 y1),(27,va1)] (fun w'=>∃ s xs css,LstI RT (rd1 (rdP d ver true) frQ_6.of frQ_6.sub false true) (Rep1 (RepS true d) frQ_6.of frQ_6.sub) 16 72 [.int .u8 0,.int .u8 0,.int .u8 0,.int .u8 0,.int .u8 0,.int .u8 0,.int .u8 0,.int .u8 0,.int .u8 0,.int .u8 0,.int .u8 0,.int .u8 0,.int .u8 0,.int .u8 0,.int .u8 0,.int .u8 0] w18.heap.size N1 ok (fun b=>ok b∨w17.heap.size≤b) rc1 w18 s19 va1 N1 s xs css w')) (W.loop (LoopQ [(2,.bool false),(7,.pointer (some ⟨rb,0,none⟩)),(8,.int .i16 ver),(9,.bool true),(10,.pointer (some ⟨vb,0,none⟩)),(16,.int .u32 ((m+1:Nat):Int)),(25,.pointer (some ⟨rc1,0,none⟩)),(28,.int .i32 y1),(27,va1)] 29 (fun j w'=>∃ s xs css,LstI RT (rd1 (rdP d ver true) frQ_6.of frQ_6.sub false true) (Rep1 (RepS true d) frQ_6.of frQ_6.sub) 16 72 [.int .u8 0,.int .u8 0,.int .u8 0,.int .u8 0,.int .u8 0,.int .u8 0,.int .u8 0,.int .u8 0,.int .u8 0,.int .u8 0,.int .u8 0,.int .u8 0,.int .u8 0,.int .u8 0,.int .u8 0,.int .u8 0] w18.heap.size N1 ok (fun b=>ok b∨w17.heap.size≤b) rc1 w18 s19 va1 j s xs css w')) (fun ρ _=>N1 - (RowKit.intOf (ρ 29)).toNat) ?_ ?_) ?_
     ·exact ⟨(by simp (disch:=(first|omega|(simp only [qI,qJ,qK]<;>omega)|exact qL _)) only [go_sem,↓reduceIte,n0,reduceCtorEq,n1,n2,n3,n4,n5,i0,i1,i2,i3,i4,i5,i6,i7,Holds_nil,Holds_cons,jO,jR,jS,jT,jM,jN,jP,jQ,aH]),0,(by simp (disch:=(first|omega|(simp only [qI,qJ,qK]<;>omega)|exact qL _)) only [go_sem,↓reduceIte,n0,reduceCtorEq,n1,n2,n3,n4,n5,i0,i1,i2,i3,i4,i5,i6,i7,jO,jR,jS,jT,jM,jN,jP,jQ,aH];all_goals rfl),s19,[],[],hL1⟩
     ·rintro ρ w21 ⟨⟨bR,bW,bX,bY,bP,bQ,bU,bV,jV,-⟩,j1,c9,s20,xs1,css1,hL1⟩
      have hj1:=hL1.le
      have eF:=hL1.rd
      have dW:Upd (fun b=>b=vb∨b=rc1) w17 w21:=aZ.trans' hL1.upd fun i _ h=>.inr h
      have rR:=hL1.upd.size
      have nD:Glo ev w21:=aM.updS dW aN aO
      by_cases lT:j1 < N1
      ·obtain ⟨R1,q1,B1,cA,nJ,nI,hA1,dN,eC⟩:=hL1.row.next lT
       have nK:=blk_lt dN
       generalize css1.flatten=A1 at hA1 dN eC
       replace aH:ρ 27 = .slice (some ⟨R1,0,none⟩) N1 q1:=jV.trans cA
       have pO:∀ b,ownB va1 b→w18.heap.size≤b∧b < w21.heap.size:=fun b h=>hL1.row.own h
       have pM:∀ b,(fun b=>(ok b∨w17.heap.size≤b)∧¬ ownB va1 b) b→¬ (b=R1∨b=rc1):=fun b hk h=>h.elim (fun e=>hk.2 ⟨_,_,_,cA,e⟩) (fun e=>hoMc b hk.1 (.inr e))
       obtain ⟨X21,e7⟩:∃ X:Array Value,X=(A1++(([.int .u8 0,.int .u8 0,.int .u8 0,.int .u8 0,.int .u8 0,.int .u8 0,.int .u8 0,.int .u8 0,.int .u8 0,.int .u8 0,.int .u8 0,.int .u8 0,.int .u8 0,.int .u8 0,.int .u8 0,.int .u8 0]:List Value)++B1)).toArray:=⟨_,rfl⟩
       have kF:blk w21 R1=some (X21,72,(0,0)):=by rw [e7];exact dN
       have nZ:j1 * 16+16≤X21.size:=by rw [e7];simp only [List.size_toArray,List.length_append,List.length_cons,List.length_nil,hA1];omega
       repeat ((first|refine qA rfl ?_|apply qB|refine qC rfl ?_|apply qD|apply qE|apply qF|apply qG|apply qH);try simp (disch:=(first|omega|(simp only [qI,qJ,qK]<;>omega)|exact qL _)) only [go_sem,↓reduceIte,n0,reduceCtorEq,n1,n2,n3,n4,n5,i0,i1,i2,i3,i4,i5,i6,i7,kF,bR,bW,bX,bY,bP,bQ,bU,bV,aH,c9])
       refine (RUuid_fn w21 eF.1 hrokc).mono ?_
       rintro _ w22 ⟨rfl,eG,eL⟩
       have eN:=eL.blk_some dN (by omega)
       have cP:Upd (fun b=>b=R1∨b=rc1) w21 w22:=eL.mono (fun _ h=>.inr h)
       have dX:Upd (fun b=>b=vb∨b=rc1) w17 w22:=dW.trans' cP fun i hi h=>h.elim (fun h=>by omega) .inr
       have rS:=cP.size
       have nE:Glo ev w22:=aM.updS dX aN aO
       obtain ⟨X22,e8⟩:∃ X:Array Value,X=(A1++(([.int .u8 0,.int .u8 0,.int .u8 0,.int .u8 0,.int .u8 0,.int .u8 0,.int .u8 0,.int .u8 0,.int .u8 0,.int .u8 0,.int .u8 0,.int .u8 0,.int .u8 0,.int .u8 0,.int .u8 0,.int .u8 0]:List Value)++B1)).toArray:=⟨_,rfl⟩
       have mP:blk w22 R1=some (X22,72,(0,0)):=by rw [e8];exact eN
       have o7:j1 * 16+16≤X22.size:=by rw [e8];simp only [List.size_toArray,List.length_append,List.length_cons,List.length_nil,hA1];omega
       obtain ⟨s21,mF⟩:∃ s,s=(rdSpan 16 s20).2:=⟨_,rfl⟩
       rw [← mF] at eG
       have hrE:(rd1 (rdP d ver true) frQ_6.of frQ_6.sub false true) s20=(.oct false (uuidS (rdSpan 16 s20).1),s21):=by
        rw [mF];show rd1 _ 7 _ false _ _=_
        unfold rd1;rw [if_neg (by decide),if_pos rfl]
       have hl16:((uuidS (rdSpan 16 s20).1).map byteV).length=16:=by rw [List.length_map,uuidS_len]
       have eM:=flat_bytes (uuidS (rdSpan 16 s20).1)
       have hxc:(uuidS (uuidS (rdSpan 16 s20).1)).map byteV=(uuidS (rdSpan 16 s20).1).map byteV:=by rw [uuidS_idem]
       generalize (uuidS (rdSpan 16 s20).1).map byteV=Xu at *
       obtain ⟨uet1e1_0,uet1e1_1,uet1e1_2,uet1e1_3,uet1e1_4,uet1e1_5,uet1e1_6,uet1e1_7,uet1e1_8,uet1e1_9,uet1e1_10,uet1e1_11,uet1e1_12,uet1e1_13,uet1e1_14,uet1e1_15,rfl⟩:=list16 hl16
       simp only [List.all_cons,List.all_nil,Bool.and_true,Bool.and_eq_true] at eM
       obtain ⟨fuet1e1_0,fuet1e1_1,fuet1e1_2,fuet1e1_3,fuet1e1_4,fuet1e1_5,fuet1e1_6,fuet1e1_7,fuet1e1_8,fuet1e1_9,fuet1e1_10,fuet1e1_11,fuet1e1_12,fuet1e1_13,fuet1e1_14,fuet1e1_15⟩:=eM
       have hcz:cellsAt #[uet1e1_0,uet1e1_1,uet1e1_2,uet1e1_3,uet1e1_4,uet1e1_5,uet1e1_6,uet1e1_7,uet1e1_8,uet1e1_9,uet1e1_10,uet1e1_11,uet1e1_12,uet1e1_13,uet1e1_14,uet1e1_15] 0 16=some (.agg #[uet1e1_0,uet1e1_1,uet1e1_2,uet1e1_3,uet1e1_4,uet1e1_5,uet1e1_6,uet1e1_7,uet1e1_8,uet1e1_9,uet1e1_10,uet1e1_11,uet1e1_12,uet1e1_13,uet1e1_14,uet1e1_15]):=cellsAt_full rfl
       have qZ:j1 * 16+16≤X22.size:=by omega
       repeat (first|simp (disch:=(first|omega|(simp only [qI,qJ,qK]<;>omega)|exact qL _)) only [go_sem,↓reduceIte,n0,reduceCtorEq,n1,n2,n3,n4,n5,i0,i1,i2,i3,i4,i5,i6,i7,mP,bR,bW,bX,bY,bP,bQ,bU,bV,aH,c9,hcz,fuet1e1_0,fuet1e1_1,fuet1e1_2,fuet1e1_3,fuet1e1_4,fuet1e1_5,fuet1e1_6,fuet1e1_7,fuet1e1_8,fuet1e1_9,fuet1e1_10,fuet1e1_11,fuet1e1_12,fuet1e1_13,fuet1e1_14,fuet1e1_15,qZ]|refine qA rfl ?_|apply qB|refine qC rfl ?_|apply qD|apply qE|apply qF|apply qG|apply qH)
       have hEu:Ext w22 (wr (w22.alloc (.cells #[.int .u8 0,.int .u8 0,.int .u8 0,.int .u8 0,.int .u8 0,.int .u8 0,.int .u8 0,.int .u8 0,.int .u8 0,.int .u8 0,.int .u8 0,.int .u8 0,.int .u8 0,.int .u8 0,.int .u8 0,.int .u8 0] 72)) w22.heap.size 0 [uet1e1_0,uet1e1_1,uet1e1_2,uet1e1_3,uet1e1_4,uet1e1_5,uet1e1_6,uet1e1_7,uet1e1_8,uet1e1_9,uet1e1_10,uet1e1_11,uet1e1_12,uet1e1_13,uet1e1_14,uet1e1_15]):=(Upd.alloc (Upd.refl _ _) _).wr _ _ (.inl (Nat.le_refl _))
       have jB:=And.intro (eG.1.upd hEu (fun h=>h) (fun _ _ _ h=>h)) (eG.2.upd hEu fun h=>h)
       have hu23:Upd (fun b=>b=rc1) w22 (wr (w22.alloc (.cells #[.int .u8 0,.int .u8 0,.int .u8 0,.int .u8 0,.int .u8 0,.int .u8 0,.int .u8 0,.int .u8 0,.int .u8 0,.int .u8 0,.int .u8 0,.int .u8 0,.int .u8 0,.int .u8 0,.int .u8 0,.int .u8 0] 72)) w22.heap.size 0 [uet1e1_0,uet1e1_1,uet1e1_2,uet1e1_3,uet1e1_4,uet1e1_5,uet1e1_6,uet1e1_7,uet1e1_8,uet1e1_9,uet1e1_10,uet1e1_11,uet1e1_12,uet1e1_13,uet1e1_14,uet1e1_15]):=hEu.mono fun _ h=>h.elim
       clear hEu
       generalize (wr (w22.alloc (.cells #[.int .u8 0,.int .u8 0,.int .u8 0,.int .u8 0,.int .u8 0,.int .u8 0,.int .u8 0,.int .u8 0,.int .u8 0,.int .u8 0,.int .u8 0,.int .u8 0,.int .u8 0,.int .u8 0,.int .u8 0,.int .u8 0] 72)) w22.heap.size 0 [uet1e1_0,uet1e1_1,uet1e1_2,uet1e1_3,uet1e1_4,uet1e1_5,uet1e1_6,uet1e1_7,uet1e1_8,uet1e1_9,uet1e1_10,uet1e1_11,uet1e1_12,uet1e1_13,uet1e1_14,uet1e1_15])=w23 at *
       have eO:=hu23.blk_some eN (by omega)
       have cQ:Upd (fun b=>b=R1∨b=rc1) w22 w23:=hu23.mono (fun _ h=>.inr h)
       have eX:Upd (fun b=>b=vb∨b=rc1) w17 w23:=dX.trans' cQ fun i hi h=>h.elim (fun h=>by omega) .inr
       have rT:=cQ.size
       have nF:Glo ev w23:=aM.updS eX aN aO
       obtain ⟨X23,e9⟩:∃ X:Array Value,X=(A1++(([.int .u8 0,.int .u8 0,.int .u8 0,.int .u8 0,.int .u8 0,.int .u8 0,.int .u8 0,.int .u8 0,.int .u8 0,.int .u8 0,.int .u8 0,.int .u8 0,.int .u8 0,.int .u8 0,.int .u8 0,.int .u8 0]:List Value)++B1)).toArray:=⟨_,rfl⟩
       have kG:blk w23 R1=some (X23,72,(0,0)):=by rw [e9];exact eO
       have o8:j1 * 16+16≤X23.size:=by rw [e9];simp only [List.size_toArray,List.length_append,List.length_cons,List.length_nil,hA1];omega
       generalize g8:wr w23 R1 (j1 * 16) [uet1e1_0,uet1e1_1,uet1e1_2,uet1e1_3,uet1e1_4,uet1e1_5,uet1e1_6,uet1e1_7,uet1e1_8,uet1e1_9,uet1e1_10,uet1e1_11,uet1e1_12,uet1e1_13,uet1e1_14,uet1e1_15] = w24
       have nN:Upd (fun b=>b=R1∨b=rc1) w23 w24:=by rw [← g8];exact (Upd.refl _ _).wr _ _ (.inr (.inl rfl))
       have mO:blk w24 R1=some ((A1++(([uet1e1_0,uet1e1_1,uet1e1_2,uet1e1_3,uet1e1_4,uet1e1_5,uet1e1_6,uet1e1_7,uet1e1_8,uet1e1_9,uet1e1_10,uet1e1_11,uet1e1_12,uet1e1_13,uet1e1_14,uet1e1_15]:List Value)++B1)).toArray,72,(0,0)):=by rw [← g8];exact el_blk0 eO hA1 (Nat.le_of_ble_eq_true rfl)
       have bD:=nN
       have cD:Upd (fun b=>b=vb∨b=rc1) w17 w24:=eX.trans' bD fun i hi h=>h.elim (fun h=>by omega) .inr
       have mU:=bD.size
       have nG:Glo ev w24:=aM.updS cD aN aO
       have jC:Rdr RT ok w24 rc1 s21∧NN w24 rc1 s21:=by
        have hn:∀ x,x=w24→(Rdr RT ok x rc1 s21∧NN x rc1 s21):=fun x hx=>by
         rw [hx,← g8]
         exact Rdr.store jB (by omega) (fun h=>by have:=(hok _ h).1;first|omega|exact (hok _ h).2 rfl)
        exact hn _ rfl
       obtain ⟨X24,fB⟩:∃ X:Array Value,X=(A1++(([uet1e1_0,uet1e1_1,uet1e1_2,uet1e1_3,uet1e1_4,uet1e1_5,uet1e1_6,uet1e1_7,uet1e1_8,uet1e1_9,uet1e1_10,uet1e1_11,uet1e1_12,uet1e1_13,uet1e1_14,uet1e1_15]:List Value)++B1)).toArray:=⟨_,rfl⟩
       have mQ:blk w24 R1=some (X24,72,(0,0)):=by rw [fB];exact mO
       have sL:j1 * 16+16≤X24.size:=by rw [fB];simp only [List.size_toArray,List.length_append,List.length_cons,List.length_nil,hA1];omega
       clear g8
       have hxE:(Rep1 (RepS true d) frQ_6.of frQ_6.sub) (fun b=>(ok b∨w17.heap.size≤b)∧¬ ownB va1 b) w24 (.oct false (uuidS (rdSpan 16 s20).1)) [uet1e1_0,uet1e1_1,uet1e1_2,uet1e1_3,uet1e1_4,uet1e1_5,uet1e1_6,uet1e1_7,uet1e1_8,uet1e1_9,uet1e1_10,uet1e1_11,uet1e1_12,uet1e1_13,uet1e1_14,uet1e1_15]:=(show Rep1 _ 7 _ _ _ _ _ from by unfold Rep1;rw [if_pos rfl];exact hxc.symm)
       repeat ((first|refine qA rfl ?_|apply qB|refine qC rfl ?_|apply qD|apply qE|apply qF|apply qG|apply qH);try simp (disch:=(first|omega|(simp only [qI,qJ,qK]<;>omega)|exact qL _)) only [go_sem,↓reduceIte,n0,reduceCtorEq,n1,n2,n3,n4,n5,i0,i1,i2,i3,i4,i5,i6,i7,mQ,bR,bW,bX,bY,bP,bQ,bU,bV,aH,c9])
       have hTk:Upd (fun b=>b=R1∨b=rc1) w21 w24:=((cP.trans cQ).trans bD)
       have hL':=hL1.step (Rep1_lay _ _ fun _=>RepS_lay true _ _) lT (eC w24 [uet1e1_0,uet1e1_1,uet1e1_2,uet1e1_3,uet1e1_4,uet1e1_5,uet1e1_6,uet1e1_7,uet1e1_8,uet1e1_9,uet1e1_10,uet1e1_11,uet1e1_12,uet1e1_13,uet1e1_14,uet1e1_15] rfl mO) (by rw [hrE];exact hxE) (hTk.mono fun b h=>h.imp (fun e=>⟨_,_,_,cA,e⟩) id) (by rw [hrE];exact jC) (fun h=>hoMc rc1 h (.inr rfl)) (Nat.le_refl _)
       have hij:IntKind.i32.wrap ((j1:Int)+1)=((j1+1:Nat):Int):=by rw [i32_wrap (by omega)];omega
       repeat ((first|refine qA rfl ?_|apply qB|refine qC rfl ?_|apply qD|apply qE|apply qF|apply qG|apply qH);try simp (disch:=(first|omega|(simp only [qI,qJ,qK]<;>omega)|exact qL _)) only [go_sem,↓reduceIte,n0,reduceCtorEq,n1,n2,n3,n4,n5,i0,i1,i2,i3,i4,i5,i6,i7,mQ,bR,bW,bX,bY,bP,bQ,bU,bV,aH,c9,hij])
       refine ⟨⟨(by simp (disch:=(first|omega|(simp only [qI,qJ,qK]<;>omega)|exact qL _)) only [go_sem,↓reduceIte,n0,reduceCtorEq,n1,n2,n3,n4,n5,i0,i1,i2,i3,i4,i5,i6,i7,Holds_nil,Holds_cons,bR,bW,bX,bY,bP,bQ,bU,bV,aH,c9];exact cA.symm),j1+1,(by simp (disch:=(first|omega|(simp only [qI,qJ,qK]<;>omega)|exact qL _)) only [go_sem,↓reduceIte,n0,reduceCtorEq,n1,n2,n3,n4,n5,i0,i1,i2,i3,i4,i5,i6,i7,bR,bW,bX,bY,bP,bQ,bU,bV,aH,c9,hij];all_goals rfl),_,_,_,hL'⟩,?_⟩
       try simp (disch:=(first|omega|(simp only [qI,qJ,qK]<;>omega)|exact qL _)) only [go_sem,↓reduceIte,n0,reduceCtorEq,n1,n2,n3,n4,n5,i0,i1,i2,i3,i4,i5,i6,i7,bR,bW,bX,bY,bP,bQ,bU,bV,aH,c9]
       simp only [RowKit.intOf]
       omega
      ·have hjN:j1=N1:=by omega
       rw [hjN] at hL1
       repeat ((first|refine qA rfl ?_|apply qB|refine qC rfl ?_|apply qD|apply qE|apply qF|apply qG|apply qH);try simp (disch:=(first|omega|(simp only [qI,qJ,qK]<;>omega)|exact qL _)) only [go_sem,↓reduceIte,n0,reduceCtorEq,n1,n2,n3,n4,n5,i0,i1,i2,i3,i4,i5,i6,i7,bR,bW,bX,bY,bP,bQ,bU,bV,jV,c9])
       exact ⟨(by simp (disch:=(first|omega|(simp only [qI,qJ,qK]<;>omega)|exact qL _)) only [go_sem,↓reduceIte,n0,reduceCtorEq,n1,n2,n3,n4,n5,i0,i1,i2,i3,i4,i5,i6,i7,Holds_nil,Holds_cons,bR,bW,bX,bY,bP,bQ,bU,bV,jV,c9]),s20,xs1,css1,hL1⟩
     rintro ρ w25 ⟨⟨dG,dK,dL,dM,dE,dF,dH,dJ,dI,-⟩,s22,xs1,css1,hL1⟩
     have jD:=hL1.rd
     have mN:=hL1.upd
     have hv_25:=mN.blk_some hv_18 (by omega)
     have bE:Upd (fun b=>b=vb∨b=rc1) w18 w25:=mN.mono (fun _ h=>.inr h)
     have b5:Upd (fun b=>b=vb∨b=rc1) w17 w25:=aZ.trans bE
     have gD:=bE.size
     have kS:Glo ev w25:=aM.updS b5 aN aO
     have mC:rdF (rdP d ver true) ver true frQ_6 s18=(.mk 0 [] (nilS frQ_6 ver y1) xs1 [],s22):=by
      have h:=rdF_listE (pt:=(rdP d ver true)) (v:=ver) (flex:=true) (f:=frQ_6) (s:=s18) (xs:=xs1) (e:=s22) rfl (by rw [hy1,← hN1,← kA];exact hL1.done)
      rw [hy1] at h;exact h
     have pU:s22=(rdF (rdP d ver true) ver true frQ_6 s18).2:=by rw [mC]
     obtain ⟨aa1,qq1,r8⟩:=hL1.row.shape
     subst r8
     repeat ((first|refine qA rfl ?_|apply qB|refine qC rfl ?_|apply qD|apply qE|apply qF|apply qG|apply qH);try simp (disch:=(first|omega|(simp only [qI,qJ,qK]<;>omega)|exact qL _)) only [go_sem,↓reduceIte,n0,reduceCtorEq,n1,n2,n3,n4,n5,i0,i1,i2,i3,i4,i5,i6,i7,hv_25,dG,dK,dL,dM,dE,dF,dH,dJ,dI])
     generalize g9:wr w25 vb 7 [.slice aa1 N1 qq1] = w26
     have nP:Upd (fun b=>b=vb∨b=rc1) w25 w26:=by rw [← g9];exact (Upd.refl _ _).wr _ _ (.inr (.inl rfl))
     have hv_26:blk w26 vb=some (#[.int .i16 ver,.int .i32 (rdInt .i32 4 s0).1,.int .i64 (rdInt .i64 8 s1).1,.int .i64 (rdInt .i64 8 s2).1,.bool (!decide (beN (rdN 1 s3).1=0)),.bool (!decide (beN (rdN 1 s4).1=0)),v_6,.slice aa1 N1 qq1,.map qm],69,(0,0)):=by rw [← g9,blk_wr_eq,hv_25];rfl
     have iM:=nP
     have dY:Upd (fun b=>b=vb∨b=rc1) w17 w26:=b5.trans iM
     have rU:=iM.size
     have nH:Glo ev w26:=aM.updS dY aN aO
     have pR:Rdr RT ok w26 rc1 s22∧NN w26 rc1 s22:=by
      have hn:∀ x,x=w26→(Rdr RT ok x rc1 s22∧NN x rc1 s22):=fun x hx=>by
       rw [hx,← g9]
       exact Rdr.store jD (by omega) (fun h=>by have:=(hok _ h).1;first|omega|exact (hok _ h).2 rfl)
      exact hn _ rfl
     clear g9
     have oT:RepF (RepS true d) (szS true d) frQ_6 (fun b=>ok b∨w17.heap.size≤b) w26 (xt1_6) [.slice aa1 N1 qq1]:=by rw [mS,mC];exact RepF.keepS (RepF_row rfl lV hN1 rfl hL1.row hL1.all (fun b hb=>.inr (by omega))) (iM.keeps fun b _ hk e=>(hoMc b hk) e)
     clear hL1 lV
     repeat ((first|refine qA rfl ?_|apply qB|refine qC rfl ?_|apply qD|apply qE|apply qF|apply qG|apply qH);try simp (disch:=(first|omega|(simp only [qI,qJ,qK]<;>omega)|exact qL _)) only [go_sem,↓reduceIte,n0,reduceCtorEq,n1,n2,n3,n4,n5,i0,i1,i2,i3,i4,i5,i6,i7,hv_26,dG,dK,dL,dM,dE,dF,dH,dJ,dI])
     refine (RComplete_fn w26 pR.1 nH.2).mono ?_
     rintro _ wz ⟨rfl,hez⟩
     rw [hez]
     clear hez wz
     have hxF:rdF (rdP d ver true) ver true frQ_6 s18=(xt1_6,s22):=by rw [mS,pU]
     by_cases hsz:s22=none
     ·rw [errV_none hsz]
      obtain ⟨eT,ep,hevE⟩:=hev
      rw [hevE]
      repeat (first|simp (disch:=(first|omega|(simp only [qI,qJ,qK]<;>omega)|exact qL _)) only [go_sem,↓reduceIte,n0,reduceCtorEq,n1,n2,n3,n4,n5,i0,i1,i2,i3,i4,i5,i6,i7,hv_26,dG,dK,dL,dM,dE,dF,dH,dJ,dI]|refine qA rfl ?_|apply qB|refine qC rfl ?_|apply qD|apply qE|apply qF|apply qG|apply qH)
      rw [← hevE]
      exact ReadQ.bad (Eq.mp hFB (hbT (by rw [hxF];exact hsz))) (hbasec.trans' dY fun i hi h=>h.elim id fun h=>by omega)
     have hen:errV ev s22 = .nilIface:=errV_some hsz
     rw [hen]
     repeat (first|simp (disch:=(first|omega|(simp only [qI,qJ,qK]<;>omega)|exact qL _)) only [go_sem,↓reduceIte,n0,reduceCtorEq,n1,n2,n3,n4,n5,i0,i1,i2,i3,i4,i5,i6,i7,hv_26,dG,dK,dL,dM,dE,dF,dH,dJ,dI,hw1]|refine qA rfl ?_|apply qB|refine qC rfl ?_|apply qD|apply qE|apply qF|apply qG|apply qH)
     have hRk:Upd (fun b=>b=vb∨b=rb) w13 w26:=hQo.trans' dY fun i hi h=>h.elim .inl fun h=>by omega
     have hzr:=hRk.size
     have hE2:rdTg (rdP d ver true) ver true fsr_Q m [x_0,x_1,x_2,x_3,x_4,y_5,xt1_6] u s17=rdTgs (rdP d ver true) ver true fsr_Q [x_0,x_1,x_2,x_3,x_4,x_5,x_6] s5:=by
      have h:=(rdTg_known (k:=1) (hK.symm.trans hk1) rfl (by rw [← hs8,← hSL,← hSP,← k9];exact hxF) hsz).symm.trans hE
      rw [← hs8,← hSL,← fM] at h;exact h
     have hO2:tagOnce fsr_Q m (1 :: ks) s17:=by
      have h:=hO.2
      rw [← hK,hk1,← hs8,← hSL,← fM] at h;exact h
     refine ⟨⟨(by simp (disch:=(first|omega|(simp only [qI,qJ,qK]<;>omega)|exact qL _)) only [go_sem,↓reduceIte,n0,reduceCtorEq,n1,n2,n3,n4,n5,i0,i1,i2,i3,i4,i5,i6,i7,Holds_nil,Holds_cons,dG,dK,dL,dM,dE,dF,dH,dJ,dI]),m,(by simp (disch:=(first|omega|(simp only [qI,qJ,qK]<;>omega)|exact qL _)) only [go_sem,↓reduceIte,n0,reduceCtorEq,n1,n2,n3,n4,n5,i0,i1,i2,i3,i4,i5,i6,i7,dG,dK,dL,dM,dE,dF,dH,dJ,dI,hw1];all_goals rfl),u,s17,qm,1 :: ks,y_5,v_6,xt1_6,.slice aa1 N1 qq1,by omega,hE2,hv_26,RepF.weakenS (hfT_5.keepS (hRk.keeps fun b _ hk e=>(hoM b hk.1) e)) (fun b hb hk=>⟨hk.1,hb,hk.2.2⟩),RepF.weakenS oT (fun b hb hk=>⟨hk.imp id fun h=>by omega,hb,fun h=>by have:=hmap b h;rcases hk with hk|hk<;>first|omega|(have:=(hok b hk).1;omega)⟩),hO2,(fun h=>hd_5 (fun h'=>h (List.mem_cons_of_mem _ h'))),(fun h=>absurd (List.mem_cons_self ..) h),hTG.keep (fun b hb hk=>hRk.keep b hb fun e=>by rcases hk with hk|hk<;>rcases e with e|e<;>first|omega|(have:=hok b hk.1;omega)),hnd,⟨hqo.1.upd dY (by omega) (fun b _ hk e=>by have:=hok b hk;omega),hqo.2.upd dY (by omega)⟩,dO.trans hRk⟩,?_⟩
     try simp (disch:=(first|omega|(simp only [qI,qJ,qK]<;>omega)|exact qL _)) only [go_sem,↓reduceIte,n0,reduceCtorEq,n1,n2,n3,n4,n5,i0,i1,i2,i3,i4,i5,i6,i7,dG,dK,dL,dM,dE,dF,dH,dJ,dI]
     simp only [RowKit.intOf]
     omega
    ·have oV:¬ (K:Int)=1:=by omega
     repeat ((first|refine qA rfl ?_|apply qB|refine qC rfl ?_|apply qD|apply qE|apply qF|apply qG|apply qH);try simp (disch:=(first|omega|(simp only [qI,qJ,qK]<;>omega)|exact qL _)) only [go_sem,↓reduceIte,n0,reduceCtorEq,n1,n2,n3,n4,n5,i0,i1,i2,i3,i4,i5,i6,i7,hv_14,hrt_2,hrt_7,hrt_8,hrt_9,hrt_10,hri,oU,oV])
     have hQk:Upd (fun b=>b=vb∨b=rb) w13 w14:=dZ
     have hEd:Ext w14 w14.drew:=(Upd.refl _ _).drew
     have hqd:Rdr RT ok w14.drew rb s8∧NN w14.drew rb s8:=⟨eD.1.upd hEd (fun h=>h) (fun _ _ _ h=>h),eD.2.upd hEd fun h=>h⟩
     have hnb:∀ b,¬ b=rb→¬ b=rb:=fun _ h=>h
     refine W.drawR (.take 0 (.take 1 (.take 2 (.take 3 (.only 4 (.take 5 (.only 6 (.last 7)))))))) (fun b=>b=rb) mixed (by kernel_rfl) ?_
     try simp (disch:=(first|omega|(simp only [qI,qJ,qK]<;>omega)|exact qL _|(refine hnb _ ?_;first|omega|(simp only [World.size_alloc,size_wr,size_drew]<;>omega)))) only [go_sem,↓reduceIte,n0,reduceCtorEq,n1,n2,n3,n4,n5,i0,i1,i2,i3,i4,i5,i6,i7,hv_14,hrt_2,hrt_7,hrt_8,hrt_9,hrt_10,hri]
     refine (RUvarint_fn w14.drew hqd.1 hrok).mono ?_
     rintro _ w15 ⟨rfl,b9,cH⟩
     have hSl:=rdUv_lt s8
     obtain ⟨s23,mG⟩:∃ s,s=(rdUv s8).2:=⟨_,rfl⟩
     rw [← mG] at b9
     obtain ⟨SL,hSL⟩:∃ N,N=(rdUv s8).1:=⟨_,rfl⟩
     rw [← hSL] at hSl
     try rw [← hSL]
     have e64:IntKind.i64.wrap (SL:Int)=SL:=i64_wrap (by omega)
     have hP1:Upd (fun b=>b=rb) w14.drew w15:=cH
     have hv_15:=cH.blk_some (show blk w14.drew vb=_ from hv_14) (by omega)
     refine ⟨hP1,?_⟩
     try simp (disch:=(first|omega|(simp only [qI,qJ,qK]<;>omega)|exact qL _|(refine hnb _ ?_;first|omega|(simp only [World.size_alloc,size_wr,size_drew]<;>omega)))) only [go_sem,↓reduceIte,n0,reduceCtorEq,n1,n2,n3,n4,n5,i0,i1,i2,i3,i4,i5,i6,i7,hv_15,e64,hrt_2,hrt_7,hrt_8,hrt_9,hrt_10,hri]
     refine (Span_fn w15 b9.1 hrok _).mono ?_
     rintro r16 w16 ⟨hBs,_,_,hqx,hqy,cI⟩
     have bA:=And.intro hqx (hqy (.inl b9.2))
     clear hqx hqy
     obtain ⟨s24,fN⟩:∃ s,s=(rdSpan (SL:Int) s23).2:=⟨_,rfl⟩
     rw [← fN] at bA
     obtain ⟨SP,hSP⟩:∃ x,x=(rdSpan (SL:Int) s23).1:=⟨_,rfl⟩
     rw [← hSP] at hBs
     rw [mG] at hSP fN
     obtain ⟨spa,spc,rfl,_⟩:=hBs.shape
     have hP2:Upd (fun b=>b=rb) w14.drew w16:=hP1.trans cI
     have hv_16:=cI.blk_some hv_15 (by omega)
     refine ⟨hP2,?_⟩
     try simp (disch:=(first|omega|(simp only [qI,qJ,qK]<;>omega)|exact qL _|(refine hnb _ ?_;first|omega|(simp only [World.size_alloc,size_wr,size_drew]<;>omega)))) only [go_sem,↓reduceIte,n0,reduceCtorEq,n1,n2,n3,n4,n5,i0,i1,i2,i3,i4,i5,i6,i7,hv_16,e64,hrt_2,hrt_7,hrt_8,hrt_9,hrt_10,hri]
     have hR7:Upd (fun b=>b=vb∨b=rb) w13 w16:=hQk.trans ((hEd.mono fun _ h=>h.elim).trans (hP2.mono fun _ h=>.inr h))
     have hz7:=hR7.size
     have nQ:=hTG.keep (w':=w16) (fun b hb hk=>hR7.keep b hb fun e=>by rcases hk with hk|hk<;>rcases e with e|e<;>first|omega|(have:=hok b hk.1;omega))
     refine (TagsPutX_fn (okT:=ok) (L:=w12.heap.size) w16 nQ (by omega) (by omega) hv_16 (o:=8) rfl (thaw_00 _ _) (K,SP) _ (hBs.weaken fun b _ hk=>⟨hk,by have:=hok b hk;omega⟩) hKl hnd (fun b hk=>(hok b hk).2)).mono ?_
     rintro _ w17 ⟨qn,hb8,nR,hU8,hnw⟩
     have hv_17:blk w17 vb=some (#[.int .i16 ver,.int .i32 (rdInt .i32 4 s0).1,.int .i64 (rdInt .i64 8 s1).1,.int .i64 (rdInt .i64 8 s2).1,.bool (!decide (beN (rdN 1 s3).1=0)),.bool (!decide (beN (rdN 1 s4).1=0)),v_6,v_7,.map qn],69,(0,0)):=hb8
     have hUz:Upd (fun b=>b=vb∨b=rb) w12 w17:=(dO.trans hR7).trans' hU8 fun i hi h=>h.elim .inl fun h=>by cases h;have:=hmap _ rfl;omega
     have hz8:=hU8.size
     have hn:∀ f∈([fQ_0,fQ_1,fQ_2,fQ_3,fQ_4,fQ_5,frQ_6]:List Fld),f.tag≠(K:Int):=by
      intro f hf
      simp only [List.mem_cons,List.not_mem_nil,or_false] at hf
      rcases hf with rfl|rfl|rfl|rfl|rfl|rfl|rfl
      ·intro h;have h':(-1:Int)=(K:Int):=h;omega
      ·intro h;have h':(-1:Int)=(K:Int):=h;omega
      ·intro h;have h':(-1:Int)=(K:Int):=h;omega
      ·intro h;have h':(-1:Int)=(K:Int):=h;omega
      ·intro h;have h':(-1:Int)=(K:Int):=h;omega
      ·intro h;have h':(0:Int)=(K:Int):=h;omega
      ·intro h;have h':(1:Int)=(K:Int):=h;omega
     have hE2:rdTg (rdP d ver true) ver true fsr_Q m [x_0,x_1,x_2,x_3,x_4,y_5,y_6] (tagPut u (K,SP)) s24=rdTgs (rdP d ver true) ver true fsr_Q [x_0,x_1,x_2,x_3,x_4,x_5,x_6] s5:=by
      have h:=(rdTg_unk (by rw [← hK];exact tagX_none hn)).symm.trans hE
      rw [← hK,← hs8,← hSL,← hSP,← fN] at h;exact h
     have hO2:tagOnce fsr_Q m (K :: ks) s24:=by
      have h:=hO.2
      rw [← hK,← hs8,← hSL,← fN] at h;exact h
     have hrm:¬ (rb=vb∨Value.map qm = .map (some rb)):=fun h=>h.elim (fun h=>by omega) fun h=>by cases h;have:=hmap _ rfl;omega
     repeat (first|simp (disch:=(first|omega|(simp only [qI,qJ,qK]<;>omega)|exact qL _)) only [go_sem,↓reduceIte,n0,reduceCtorEq,n1,n2,n3,n4,n5,i0,i1,i2,i3,i4,i5,i6,i7,hv_17,hrt_2,hrt_7,hrt_8,hrt_9,hrt_10,hri,hw1]|refine qA rfl ?_|apply qB|refine qC rfl ?_|apply qD|apply qE|apply qF|apply qG|apply qH)
     refine ⟨⟨(by simp (disch:=(first|omega|(simp only [qI,qJ,qK]<;>omega)|exact qL _)) only [go_sem,↓reduceIte,n0,reduceCtorEq,n1,n2,n3,n4,n5,i0,i1,i2,i3,i4,i5,i6,i7,Holds_nil,Holds_cons,hrt_2,hrt_7,hrt_8,hrt_9,hrt_10,hri]),m,(by simp (disch:=(first|omega|(simp only [qI,qJ,qK]<;>omega)|exact qL _)) only [go_sem,↓reduceIte,n0,reduceCtorEq,n1,n2,n3,n4,n5,i0,i1,i2,i3,i4,i5,i6,i7,hrt_2,hrt_7,hrt_8,hrt_9,hrt_10,hri,hw1];all_goals rfl),_,s24,qn,K :: ks,y_5,v_6,y_6,v_7,by omega,hE2,hv_17,RepF.weakenS ((hfT_5.keepS (hR7.keeps fun b _ hk e=>(hoM b hk.1) e)).keepS (hU8.keeps fun b _ hk e=>e.elim (fun e=>hoM b hk.1 (.inl e)) fun e=>hk.2.2 (by cases e;rfl))) (fun b hb hk=>⟨hk.1,hb,fun h=>(hnw b h).elim (fun h=>hk.2.2 (by cases h;rfl)) fun h=>by have:=hk.2.1;omega⟩),RepF.weakenS ((hfT_6.keepS (hR7.keeps fun b _ hk e=>(hoM b hk.1) e)).keepS (hU8.keeps fun b _ hk e=>e.elim (fun e=>hoM b hk.1 (.inl e)) fun e=>hk.2.2 (by cases e;rfl))) (fun b hb hk=>⟨hk.1,hb,fun h=>(hnw b h).elim (fun h=>hk.2.2 (by cases h;rfl)) fun h=>by have:=hk.2.1;omega⟩),hO2,(fun h=>hd_5 (fun h'=>h (List.mem_cons_of_mem _ h'))),(fun h=>hd_6 (fun h'=>h (List.mem_cons_of_mem _ h'))),nR,tagPut_keys _ _ hnd,⟨bA.1.upd hU8 hrm (fun b _ hk h=>h.elim (fun h=>(hok b hk).2 h) fun h=>by cases h;have:=hmap _ rfl;have:=hok _ hk;omega),bA.2.upd hU8 hrm⟩,hUz⟩,?_⟩
     try simp (disch:=(first|omega|(simp only [qI,qJ,qK]<;>omega)|exact qL _)) only [go_sem,↓reduceIte,n0,reduceCtorEq,n1,n2,n3,n4,n5,i0,i1,i2,i3,i4,i5,i6,i7,hrt_2,hrt_7,hrt_8,hrt_9,hrt_10,hri]
     simp only [RowKit.intOf]
     omega
 rintro ρ w18 ⟨⟨hrz_2,hrz_7,hrz_8,hrz_9,hrz_10,-⟩,u,s25,qm,ks,y_5,v_6,y_6,v_7,hE0,hv_18,hfT_5,hfT_6,-,-,-,hTG,hnd,b6,nT⟩
 have bC:Upd (fun b=>b=vb∨b=rb) w12 w18:=nT
 have aZ:Upd (fun b=>b=vb∨b=rb) w1 w18:=iF.trans bC
 have mT:=bC.size
 have eU:Glo ev w18:=hG1.updS aZ aJ aK
 have hf_5:=RepF.weakenS hfT_5 (ok':=fun b=>(ok b∨w1.heap.size≤b)) fun b _ hk=>hk.1
 have hf_6:=RepF.weakenS hfT_6 (ok':=fun b=>(ok b∨w1.heap.size≤b)) fun b _ hk=>hk.1
 have hTg:TagsM (fun b=>ok b∨w1.heap.size≤b) w18 (.map qm) u:=hTG.tags (fun b _ hk=>.inl hk) (fun b hb=>.inr (by omega))
 have hfin:rdM d ver true fsr_Q s0=(.mk 0 [] false [x_0,x_1,x_2,x_3,x_4,y_5,y_6] u,s25):=rdM_t hl_0 hE0.symm
 have hC_18:Upd (fun b=>b=vb∨b=rb) w18 w18:=Upd.refl _ _
 have hC_12:Upd (fun b=>b=vb∨b=rb) w12 w18:=bC.trans hC_18
 have hC_11:Upd (fun b=>b=vb∨b=rb) w11 w18:=fA.trans hC_12
 have hC_10:Upd (fun b=>b=vb∨b=rb) w10 w18:=eZ.trans hC_11
 have hC_9:Upd (fun b=>b=vb∨b=rb) w9 w18:=eY.trans hC_10
 have hC_8:Upd (fun b=>b=vb∨b=rb) w8 w18:=hV9.trans hC_9
 have hC_7:Upd (fun b=>b=vb∨b=rb) w7 w18:=hV8.trans hC_8
 have hC_6:Upd (fun b=>b=vb∨b=rb) w6 w18:=hV7.trans hC_7
 have hC_5:Upd (fun b=>b=vb∨b=rb) w5 w18:=hV6.trans hC_6
 have hC_4:Upd (fun b=>b=vb∨b=rb) w4 w18:=hV5.trans hC_5
 have hC_3:Upd (fun b=>b=vb∨b=rb) w3 w18:=hV4.trans hC_4
 have hC_2:Upd (fun b=>b=vb∨b=rb) w2 w18:=hV3.trans hC_3
 have hC_1:Upd (fun b=>b=vb∨b=rb) w1 w18:=hV2.trans hC_2
 have hR:RepS true (d+1) fsr_Q (fun b=>ok b∨w1.heap.size≤b) w18 (.mk 0 [] false [x_0,x_1,x_2,x_3,x_4,y_5,y_6] u) [.int .i32 (rdInt .i32 4 s0).1,.int .i64 (rdInt .i64 8 s1).1,.int .i64 (rdInt .i64 8 s2).1,.bool (!decide (beN (rdN 1 s3).1=0)),.bool (!decide (beN (rdN 1 s4).1=0)),v_6,v_7,.map qm]:=RepS.introT (c:=[.int .i32 (rdInt .i32 4 s0).1,.int .i64 (rdInt .i64 8 s1).1,.int .i64 (rdInt .i64 8 s2).1,.bool (!decide (beN (rdN 1 s3).1=0)),.bool (!decide (beN (rdN 1 s4).1=0)),v_6,v_7]) (RepL.cons1 (hf_0.keepS (hC_3.keeps fun b _ hk e=>(hoM b hk) e)) (RepL.cons1 (hf_1.keepS (hC_5.keeps fun b _ hk e=>(hoM b hk) e)) (RepL.cons1 (hf_2.keepS (hC_7.keeps fun b _ hk e=>(hoM b hk) e)) (RepL.cons1 (hf_3.keepS (hC_9.keeps fun b _ hk e=>(hoM b hk) e)) (RepL.cons1 (hf_4.keepS (hC_11.keeps fun b _ hk e=>(hoM b hk) e)) (RepL.cons1 (hf_5.keepS (hC_18.keeps fun b _ hk e=>(hoM b hk) e)) (RepL.cons1 (hf_6.keepS (hC_18.keeps fun b _ hk e=>(hoM b hk) e)) RepL.nil))))))) hTg
 repeat ((first|refine qA rfl ?_|apply qB|refine qC rfl ?_|apply qD|apply qE|apply qF|apply qG|apply qH);try simp (disch:=(first|omega|(simp only [qI,qJ,qK]<;>omega)|exact qL _)) only [go_sem,↓reduceIte,n0,reduceCtorEq,n1,n2,n3,n4,n5,i0,i1,i2,i3,i4,i5,i6,i7,hv_18,hrz_2,hrz_7,hrz_8,hrz_9,hrz_10])
 refine (RComplete_fn w18 b6.1 eU.2).mono ?_
 rintro _ wz ⟨rfl,hez⟩
 rw [hez]
 repeat ((first|refine qA rfl ?_|apply qB|refine qC rfl ?_|apply qD|apply qE|apply qF|apply qG|apply qH);try simp (disch:=(first|omega|(simp only [qI,qJ,qK]<;>omega)|exact qL _)) only [go_sem,↓reduceIte,n0,reduceCtorEq,n1,n2,n3,n4,n5,i0,i1,i2,i3,i4,i5,i6,i7,hv_18,hrz_2,hrz_7,hrz_8,hrz_9,hrz_10])
 rw [hfin]
 refine ⟨fun h => ?_,fun h=>⟨?_,[.int .i32 (rdInt .i32 4 s0).1,.int .i64 (rdInt .i64 8 s1).1,.int .i64 (rdInt .i64 8 s2).1,.bool (!decide (beN (rdN 1 s3).1=0)),.bool (!decide (beN (rdN 1 s4).1=0)),v_6,v_7,.map qm],hv_18,?_⟩,?_⟩
 ·have h':s25=none:=h
  rw [h'];rfl
 ·cases hsn:s25 with
  | none=>exact absurd hsn h
  | some x=>rfl
 ·exact (RepS_lay true (d+1) fsr_Q).weaken hR fun b _ hk=>hk.imp id fun h=>by omega
 ·exact hbase.trans' aZ fun i hi h=>h.elim id fun h=>by omega
end Ms

