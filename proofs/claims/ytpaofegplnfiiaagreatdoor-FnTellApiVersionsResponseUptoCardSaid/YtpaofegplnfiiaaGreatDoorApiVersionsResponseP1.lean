/- A part of the proof: see the last text. -/
import Derived.Test.YtpaofegplnfiiaaGreatDoorApiVersionsResponseP0
set_option linter.unusedSimpArgs false
set_option linter.unusedVariables false
namespace Ms
open Go.World renaming size_alloc → qI
open Ms renaming size_wr → qJ,size_drew → qK,not_noB → qL
open W renaming seqR → qA,seq → qB,regR → qC,condK → qD,block → qE,skip → qF,ret → qG,exit → qH
open Nat renaming reduceEqDiff → n0,reduceAdd → n1,reduceMul → n2,reduceSub → n3,reduceLT → n4,reduceLeDiff → n5
open Int renaming reduceEq → i0,reduceLT → i1,reduceLE → i2,reduceNeg → i3,reduceAdd → i4,reduceSub → i5,reduceMul → i6,reduceToNat → i7
set_option maxRecDepth 8000
open Go Go.Proofs Go.Shelf
attribute [local congr] W_congr WPsq_congr WPp_congr optK_congr addrK_congr intK_congr boolK_congr sliceK_congr tupleK_congr funcK_congr Fn_congr rawK_congr takeK_congr stepK_congr convK_congr aggK_congr

set_option maxHeartbeats 4000000 in
theorem readQ_1 {d:Nat} {ok:Blocks} {ver:Int} {ev:Value} (hlo:1≤ver) (hhi:ver≤2) (w:World) {vb:Nat} (src:Value) (s:List UInt8) (hv:blk w vb=some (#[.int .i16 ver,.int .i16 0,.slice none 0 0,.int .i32 0,.slice none 0 0,.int .i64 (-1),.slice none 0 0,.bool false,.map none],108,(0,0))) (hsrc:BytesV ok w src s) (dQ:∀ b,ok b→b < w.heap.size∧b≠vb) (hG:Glo ev w) (hgv:¬ 0=vb∧¬ 1=vb) (hev:∃ T p,ev = .iface T p) :
  Fn Tryz.prog 60 #[.pointer (some ⟨vb,0,none⟩),src,.bool false] w (ReadQ 108 ok ver (d+2) fs_Q vb w (rdM (d+1) ver false fs_Q (some s)) ev):=by
 have hvl:=blk_lt hv
 have hgs:=hG.lt
 obtain ⟨sa,sc,rfl,_⟩:=hsrc.shape
 refine fn_of_W Tryz.func60 rfl Tryz.results60 Tryz.ntmps60 rfl ?_
 repeat ((first|refine qA rfl ?_|apply qB|refine qC rfl ?_|apply qD|apply qE|apply qF|apply qG|apply qH);try simp (disch:=(first|omega|(simp only [qI,qJ,qK]<;>omega)|exact qL _)) only [go_sem,↓reduceIte,n0,reduceCtorEq,n1,n2,n3,n4,n5,i0,i1,i2,i3,i4,i5,i6,i7,hv])
 refine (DefaultQ_fn w hv).mono ?_
 rintro _ w0 ⟨hv0,hu0⟩
 have hz0:=hu0.size
 have kY:BytesV ok w0 (.slice sa s.length sc) s:=hsrc.keep (hu0.keeps fun b _ hk e=>(dQ b hk).2 e)
 obtain ⟨rb,hrb⟩:∃ r,r=w0.heap.size:=⟨_,rfl⟩
 have hE1:Ext w0 (wr (w0.alloc (.cells #[.slice none 0 0,.bool false] 123)) w0.heap.size 0 [.slice sa s.length sc,.bool false]):=(Upd.alloc (Upd.refl _ _) _).wr _ _ (.inl (Nat.le_refl _))
 have hz1:(wr (w0.alloc (.cells #[.slice none 0 0,.bool false] 123)) w0.heap.size 0 [.slice sa s.length sc,.bool false]).heap.size=w0.heap.size+1:=by rw [size_wr,World.size_alloc]
 have hR1:Rdr RT ok (wr (w0.alloc (.cells #[.slice none 0 0,.bool false] 123)) w0.heap.size 0 [.slice sa s.length sc,.bool false]) w0.heap.size (some s):=Rdr.good (v:=.slice sa s.length sc) (by simp (disch:=(first|omega|(simp only [qI,qJ,qK]<;>omega)|exact qL _)) only [go_sem,↓reduceIte,n0,reduceCtorEq,n1,n2,n3,n4,n5,i0,i1,i2,i3,i4,i5,i6,i7]) (kY.keep (hE1.keeps _))
 have hv_1:=hE1.blk_some hv0 id
 repeat ((first|refine qA rfl ?_|apply qB|refine qC rfl ?_|apply qD|apply qE|apply qF|apply qG|apply qH);try simp (disch:=(first|omega|(simp only [qI,qJ,qK]<;>omega)|exact qL _)) only [go_sem,↓reduceIte,n0,reduceCtorEq,n1,n2,n3,n4,n5,i0,i1,i2,i3,i4,i5,i6,i7,hv0])
 generalize (wr (w0.alloc (.cells #[.slice none 0 0,.bool false] 123)) w0.heap.size 0 [.slice sa s.length sc,.bool false])=w1 at *
 rw [← hrb] at hR1
 try rw [← hrb]
 have hok:∀ b,ok b→b < w.heap.size∧b≠vb:=dQ
 have hrok:¬ ok rb:=fun h=>by have:=(hok rb h).1;omega
 have hbase:Upd (fun b=>b=vb) w w1:=hu0.trans (hE1.mono fun _ h=>h.elim)
 have hG1:Glo ev w1:=hG.updS hbase hgv.1 hgv.2
 have hgrb:¬ 0=rb:=by omega
 have a8:¬ (0=vb∨0=rb):=fun h=>h.elim hgv.1 fun h=>by omega
 have aA:¬ (1=vb∨1=rb):=fun h=>h.elim hgv.2 fun h=>by omega
 obtain ⟨s0,hs0⟩:∃ s':St,s'=some s:=⟨_,rfl⟩
 rw [← hs0] at hR1 ⊢
 have hU1:Upd (fun b=>b=vb∨b=rb) w1 w1:=Upd.refl _ _
 have hoM:∀ b,(ok b∨w1.heap.size≤b)→¬ (b=vb∨b=rb):=fun b hk h=>by
  rcases hk with hk|hk
  ·have:=hok b hk;rcases h with h|h<;>omega
  ·rcases h with h|h<;>omega
 have hq1:Rdr RT ok w1 rb s0:=hR1
 obtain ⟨FB,hFB⟩:∃ P:Prop,P=((rdM (d+1) ver false fs_Q s0).2=none):=⟨_,rfl⟩
 have hb_0:(rdL (rdP (d+1) ver false) (dfP (d+1)) ver false [fQ_0,fQ_1,fQ_2,fQ_3,fQ_4,fQ_5,fQ_6] s0).2=none→FB:=fun h=>Eq.mpr hFB (rdM_bad h)
 have hh_0:hasS fQ_0 ver=true:=hasS_t (by show (0:Int)≤ver;omega) (by show (-1:Int) < 0∨ver≤(-1:Int);omega)
 obtain ⟨x_0,hx_0⟩:∃ x,x=(rdF (rdP (d+1) ver false) ver false fQ_0 s0).1:=⟨_,rfl⟩
 repeat ((first|refine qA rfl ?_|apply qB|refine qC rfl ?_|apply qD|apply qE|apply qF|apply qG|apply qH);try simp (disch:=(first|omega|(simp only [qI,qJ,qK]<;>omega)|exact qL _)) only [go_sem,↓reduceIte,n0,reduceCtorEq,n1,n2,n3,n4,n5,i0,i1,i2,i3,i4,i5,i6,i7,hv_1])
 have hrd:rdF (rdP (d+1) ver false) ver false fQ_0 s0=_:=rdF_num 2 rfl (by decide)
 refine (Int16_fn w1 hq1 hrok hG1.1 hgrb).mono ?_
 rintro _ w2 ⟨rfl,hq2,hu2⟩
 have hv_2:=hu2.blk_some hv_1 (by omega)
 have hV2:Upd (fun b=>b=vb∨b=rb) w1 w2:=hu2.mono (fun _ h=>.inr h)
 have hU2:Upd (fun b=>b=vb∨b=rb) w1 w2:=hU1.trans hV2
 have hz2:=hV2.size
 have hG2:Glo ev w2:=hG1.updS hU2 a8 aA
 have hst:(rdF (rdP (d+1) ver false) ver false fQ_0 s0).2=(rdInt .i16 2 s0).2:=by first|(rw [hrd];rfl)|rw [hrd]
 obtain ⟨s1,hs1⟩:∃ s,s=(rdF (rdP (d+1) ver false) ver false fQ_0 s0).2:=⟨_,rfl⟩
 rw [← hst,← hs1] at hq2
 clear hst
 repeat ((first|refine qA rfl ?_|apply qB|refine qC rfl ?_|apply qD|apply qE|apply qF|apply qG|apply qH);try simp (disch:=(first|omega|(simp only [qI,qJ,qK]<;>omega)|exact qL _)) only [go_sem,↓reduceIte,n0,reduceCtorEq,n1,n2,n3,n4,n5,i0,i1,i2,i3,i4,i5,i6,i7,hv_2])
 generalize hw3:wr w2 vb 1 [.int .i16 (rdInt .i16 2 s0).1] = w3
 have hS3:Upd (fun b=>b=vb∨b=rb) w2 w3:=by rw [← hw3];exact (Upd.refl _ _).wr _ _ (.inr (.inl rfl))
 have hv_3:blk w3 vb=some (#[.int .i16 ver,.int .i16 (rdInt .i16 2 s0).1,.slice none 0 0,.int .i32 0,.slice none 0 0,.int .i64 (-1),.slice none 0 0,.bool false,.map none],108,(0,0)):=by rw [← hw3,blk_wr_eq,hv_2];rfl
 have hV3:=hS3
 have hU3:Upd (fun b=>b=vb∨b=rb) w1 w3:=hU2.trans hV3
 have hz3:=hV3.size
 have hG3:Glo ev w3:=hG1.updS hU3 a8 aA
 have hq3:Rdr RT ok w3 rb s1∧NN w3 rb s1:=by
  have hn:∀ x,x=w3→(Rdr RT ok x rb s1∧NN x rb s1):=fun x hx=>by
   rw [hx,← hw3]
   exact Rdr.store hq2 (by omega) (fun h=>by have:=(hok _ h).1;first|omega|exact (hok _ h).2 rfl)
  exact hn _ rfl
 clear hw3
 have hf_0:RepF (RepS true (d+1)) (szS true (d+1)) fQ_0 (fun b=>ok b∨w1.heap.size≤b) w3 (x_0) [.int .i16 (rdInt .i16 2 s0).1]:=(RepF_num (by decide)).2 (by rw [hx_0,hrd];exact congrArg (fun x=>[x]) (numC_rd 2 (by decide) 2 s0).symm)
 clear hrd
 have hb_1:(rdL (rdP (d+1) ver false) (dfP (d+1)) ver false [fQ_1,fQ_2,fQ_3,fQ_4,fQ_5,fQ_6] s1).2=none→FB:=fun h=>hb_0 (by rw [rdL_st (by decide) hh_0,← hs1];exact h)
 have hh_1:hasS fQ_1 ver=true:=hasS_t (by show (0:Int)≤ver;omega) (by show (-1:Int) < 0∨ver≤(-1:Int);omega)
 obtain ⟨x_1,hx_1⟩:∃ x,x=(rdF (rdP (d+1) ver false) ver false fQ_1 s1).1:=⟨_,rfl⟩
 repeat ((first|refine qA rfl ?_|apply qB|refine qC rfl ?_|apply qD|apply qE|apply qF|apply qG|apply qH);try simp (disch:=(first|omega|(simp only [qI,qJ,qK]<;>omega)|exact qL _)) only [go_sem,↓reduceIte,n0,reduceCtorEq,n1,n2,n3,n4,n5,i0,i1,i2,i3,i4,i5,i6,i7,hv_3])
 refine (RArrayLen_fn w3 hq3.1 hrok hG3.1 hgrb).mono ?_
 rintro _ w4 ⟨rfl,hq4,hu4⟩
 have hv_4:=hu4.blk_some hv_3 (by omega)
 have hV4:Upd (fun b=>b=vb∨b=rb) w3 w4:=hu4.mono (fun _ h=>.inr h)
 have hU4:Upd (fun b=>b=vb∨b=rb) w1 w4:=hU3.trans hV4
 have hz4:=hV4.size
 have hG4:Glo ev w4:=hG1.updS hU4 a8 aA
 obtain ⟨s2,hs2⟩:∃ s,s=(rdALen false s1).2:=⟨_,rfl⟩
 rw [← hs2] at hq4
 have xI:=rdALen_rng false s1
 generalize hy0:(rdALen false s1).1=y0 at *
 obtain ⟨N0,hN0⟩:∃ N,N=y0.toNat:=⟨_,rfl⟩
 have fN:(rdMany (rd1 (rdP (d+1) ver false) fQ_1.of fQ_1.sub false false) N0 s2).2=none→FB:=fun h=>hb_1 (by rw [rdL_st (by decide) hh_1];exact rdL_bad (rdF_listbad rfl (by rw [hy0,← hN0,← hs2];exact h)))
 repeat ((first|refine W.seqR rfl ?_|refine W.seq ?_|refine W.regR rfl ?_|refine W.block ?_|refine W.skip ?_|refine W.ret ?_|refine W.exit ?_);try simp (disch:=(first|omega|(simp only [qI,qJ,qK]<;>omega)|exact qL _)) only [go_sem,↓reduceIte,n0,reduceCtorEq,n1,n2,n3,n4,n5,i0,i1,i2,i3,i4,i5,i6,i7,hv_4])
 refine (ROk_fn w4 hq4.1).mono ?_
 rintro _ wz ⟨rfl,hez⟩
 rw [hez]
 clear hez wz
 by_cases dB:s2=none
 ·have hso:s2.isSome=false:=by rw [dB];rfl
  repeat (first|simp (disch:=(first|omega|(simp only [qI,qJ,qK]<;>omega)|exact qL _)) only [go_sem,↓reduceIte,n0,reduceCtorEq,n1,n2,n3,n4,n5,i0,i1,i2,i3,i4,i5,i6,i7,hv_4,hso]|refine qA rfl ?_|apply qB|refine qC rfl ?_|apply qD|apply qE|apply qF|apply qG|apply qH)
  refine (RComplete_fn w4 hq4.1 hG4.2).mono ?_
  rintro _ wz ⟨rfl,hez⟩
  rw [hez]
  repeat (first|simp (disch:=(first|omega|(simp only [qI,qJ,qK]<;>omega)|exact qL _)) only [go_sem,↓reduceIte,n0,reduceCtorEq,n1,n2,n3,n4,n5,i0,i1,i2,i3,i4,i5,i6,i7,hv_4]|refine qA rfl ?_|apply qB|refine qC rfl ?_|apply qD|apply qE|apply qF|apply qG|apply qH)
  rw [errV_none dB]
  exact ReadQ.bad (Eq.mp hFB (fN (by rw [dB];exact rdMany_none rd1P_none _))) (hbase.trans' hU4 fun i hi h=>h.elim id fun h=>by omega)
 have dC:s2.isSome=true:=isSome_some dB
 try simp (disch:=(first|omega|(simp only [qI,qJ,qK]<;>omega)|exact qL _)) only [go_sem,↓reduceIte,n0,reduceCtorEq,n1,n2,n3,n4,n5,i0,i1,i2,i3,i4,i5,i6,i7,hv_4,dC]
 repeat ((first|refine W.seqR rfl ?_|refine W.seq ?_|refine W.regR rfl ?_|refine W.block ?_|refine W.skip ?_|refine W.ret ?_|refine W.exit ?_);try simp (disch:=(first|omega|(simp only [qI,qJ,qK]<;>omega)|exact qL _)) only [go_sem,↓reduceIte,n0,reduceCtorEq,n1,n2,n3,n4,n5,i0,i1,i2,i3,i4,i5,i6,i7,hv_4,dC])
 refine W.condK ?_
 try simp (disch:=(first|omega|(simp only [qI,qJ,qK]<;>omega)|exact qL _)) only [go_sem,↓reduceIte,n0,reduceCtorEq,n1,n2,n3,n4,n5,i0,i1,i2,i3,i4,i5,i6,i7,hv_4,dC]
 repeat ((first|refine W.seqR rfl ?_|refine W.seq ?_|refine W.regR rfl ?_|refine W.block ?_|refine W.skip ?_|refine W.ret ?_|refine W.exit ?_);try simp (disch:=(first|omega|(simp only [qI,qJ,qK]<;>omega)|exact qL _)) only [go_sem,↓reduceIte,n0,reduceCtorEq,n1,n2,n3,n4,n5,i0,i1,i2,i3,i4,i5,i6,i7,hv_4,dC,slBase_00])
 refine W.normJ (RowQ [(2,.bool false),(7,.pointer (some ⟨rb,0,none⟩)),(8,.int .i16 ver),(9,.bool false),(10,.pointer (some ⟨vb,0,none⟩)),(14,.int .i32 y0)] 13 (fun va w'=>LstI RT (rd1 (rdP (d+1) ver false) fQ_1.of fQ_1.sub false false) (Rep1 (RepS true (d+1)) fQ_1.of fQ_1.sub) 4 112 [.int .i16 0,.int .i16 0,.int .i16 0,.map none] w4.heap.size N0 ok (fun b=>ok b∨w1.heap.size≤b) rb w4 s2 va 0 s2 [] [] w'∧(N0=0→if nilS fQ_1 ver y0=true then va = .slice none 0 0 else ∃ a,va = .slice (some a) 0 0))) ?_ ?_
 ·by_cases hy0:(0:Int) < y0
  ·have hyv:Value.int .i32 y0 = .int .i32 ((N0:Nat):Int):=by rw [show y0=((N0:Nat):Int) by omega]
   repeat ((first|refine qA rfl ?_|apply qB|refine qC rfl ?_|apply qD|apply qE|apply qF|apply qG|apply qH);try simp (disch:=(first|omega|(simp only [qI,qJ,qK]<;>omega)|exact qL _)) only [go_sem,↓reduceIte,n0,reduceCtorEq,n1,n2,n3,n4,n5,i0,i1,i2,i3,i4,i5,i6,i7,hv_4])
   refine wp_appendZ (m:=N0) utQ_104 utQ_21 inQ_112 (by decide) (by first|rfl|simp (disch:=(first|omega|(simp only [qI,qJ,qK]<;>omega)|exact qL _)) only [go_sem,↓reduceIte,n0,reduceCtorEq,n1,n2,n3,n4,n5,i0,i1,i2,i3,i4,i5,i6,i7]) (by first|exact hyv|(simp (disch:=(first|omega|(simp only [qI,qJ,qK]<;>omega)|exact qL _)) only [go_sem,↓reduceIte,n0,reduceCtorEq,n1,n2,n3,n4,n5,i0,i1,i2,i3,i4,i5,i6,i7];exact hyv)) (by omega) (by omega) (by decide) ?_
   intro q rest hq1
   have hEw:Ext w4 (w4.drew.alloc (.cells (zs [.int .i16 0,.int .i16 0,.int .i16 0,.map none] N0++rest).toArray 112)):=(Upd.refl _ _).drew.alloc _
   repeat (first|simp (disch:=(first|omega|(simp only [qI,qJ,qK]<;>omega)|exact qL _)) only [go_sem,↓reduceIte,n0,reduceCtorEq,n1,n2,n3,n4,n5,i0,i1,i2,i3,i4,i5,i6,i7,hv_4]|refine qA rfl ?_|apply qB|refine qC rfl ?_|apply qD|apply qE|apply qF|apply qG|apply qH)
   exact ⟨(by simp (disch:=(first|omega|(simp only [qI,qJ,qK]<;>omega)|exact qL _)) only [go_sem,↓reduceIte,n0,reduceCtorEq,n1,n2,n3,n4,n5,i0,i1,i2,i3,i4,i5,i6,i7,Holds_nil,Holds_cons]),.slice (some ⟨w4.heap.size,0,none⟩) N0 q,(by simp (disch:=(first|omega|(simp only [qI,qJ,qK]<;>omega)|exact qL _)) only [go_sem,↓reduceIte,n0,reduceCtorEq,n1,n2,n3,n4,n5,i0,i1,i2,i3,i4,i5,i6,i7]),LstI.start (RowJ.start (by omega) hq1 (by show w4.heap.size≤w4.drew.heap.size;rw [size_drew];omega) (blk_alloc_new rfl)) ⟨hq4.1.upd hEw (fun h=>h) (fun _ _ _ h=>h),hq4.2.upd hEw fun h=>h⟩ (hEw.mono fun _ h=>h.elim),fun h0=>by omega⟩
  ·repeat ((first|refine qA rfl ?_|apply qB|refine qC rfl ?_|apply qD|apply qE|apply qF|apply qG|apply qH);try simp (disch:=(first|omega|(simp only [qI,qJ,qK]<;>omega)|exact qL _)) only [go_sem,↓reduceIte,n0,reduceCtorEq,n1,n2,n3,n4,n5,i0,i1,i2,i3,i4,i5,i6,i7,hv_4])
   exact ⟨(by simp (disch:=(first|omega|(simp only [qI,qJ,qK]<;>omega)|exact qL _)) only [go_sem,↓reduceIte,n0,reduceCtorEq,n1,n2,n3,n4,n5,i0,i1,i2,i3,i4,i5,i6,i7,Holds_nil,Holds_cons]),.slice none 0 0,(by simp (disch:=(first|omega|(simp only [qI,qJ,qK]<;>omega)|exact qL _)) only [go_sem,↓reduceIte,n0,reduceCtorEq,n1,n2,n3,n4,n5,i0,i1,i2,i3,i4,i5,i6,i7,slBase_00]),LstI.start (RowJ.zero (by omega) (fun _ h=>by cases h)) hq4 (Upd.refl _ _),fun _=>by rw [nilS_plain (by decide) (by omega)];exact rfl⟩
 rintro ρ w5 ⟨⟨e9,eA,eB,eC,e7,e8,-⟩,va0,aB,hL0,fO⟩
 repeat ((first|refine qA rfl ?_|apply qB|refine qC rfl ?_|apply qD|apply qE|apply qF|apply qG|apply qH);try simp (disch:=(first|omega|(simp only [qI,qJ,qK]<;>omega)|exact qL _)) only [go_sem,↓reduceIte,n0,reduceCtorEq,n1,n2,n3,n4,n5,i0,i1,i2,i3,i4,i5,i6,i7,hv_4,e9,eA,eB,eC,e7,e8,aB])
 refine W.exitRJ 0 (EndQ [(2,.bool false),(7,.pointer (some ⟨rb,0,none⟩)),(8,.int .i16 ver),(9,.bool false),(10,.pointer (some ⟨vb,0,none⟩)),(14,.int .i32 y0),(13,va0)] (fun w'=>∃ s xs css,LstI RT (rd1 (rdP (d+1) ver false) fQ_1.of fQ_1.sub false false) (Rep1 (RepS true (d+1)) fQ_1.of fQ_1.sub) 4 112 [.int .i16 0,.int .i16 0,.int .i16 0,.map none] w4.heap.size N0 ok (fun b=>ok b∨w1.heap.size≤b) rb w4 s2 va0 N0 s xs css w')) (W.loop (LoopQ [(2,.bool false),(7,.pointer (some ⟨rb,0,none⟩)),(8,.int .i16 ver),(9,.bool false),(10,.pointer (some ⟨vb,0,none⟩)),(14,.int .i32 y0),(13,va0)] 15 (fun j w'=>∃ s xs css,LstI RT (rd1 (rdP (d+1) ver false) fQ_1.of fQ_1.sub false false) (Rep1 (RepS true (d+1)) fQ_1.of fQ_1.sub) 4 112 [.int .i16 0,.int .i16 0,.int .i16 0,.map none] w4.heap.size N0 ok (fun b=>ok b∨w1.heap.size≤b) rb w4 s2 va0 j s xs css w')) (fun ρ _=>N0 - (RowKit.intOf (ρ 15)).toNat) ?_ ?_) ?_
 ·exact ⟨(by simp (disch:=(first|omega|(simp only [qI,qJ,qK]<;>omega)|exact qL _)) only [go_sem,↓reduceIte,n0,reduceCtorEq,n1,n2,n3,n4,n5,i0,i1,i2,i3,i4,i5,i6,i7,Holds_nil,Holds_cons,e9,eA,eB,eC,e7,e8,aB]),0,(by simp (disch:=(first|omega|(simp only [qI,qJ,qK]<;>omega)|exact qL _)) only [go_sem,↓reduceIte,n0,reduceCtorEq,n1,n2,n3,n4,n5,i0,i1,i2,i3,i4,i5,i6,i7,e9,eA,eB,eC,e7,e8,aB];all_goals rfl),s2,[],[],hL0⟩
 ·rintro ρ w6 ⟨⟨aE,aF,aG,aH,aC,aD,eD,-⟩,j1,aI,s3,xs0,css0,hL0⟩
  have hj0:=hL0.le
  have hq6:=hL0.rd
  have hU6:Upd (fun b=>b=vb∨b=rb) w1 w6:=hU4.trans' hL0.upd fun i _ h=>.inr h
  have hz6:=hL0.upd.size
  have hG6:Glo ev w6:=hG1.updS hU6 a8 aA
  by_cases dZ:j1 < N0
  ·obtain ⟨R1,q1,B1,b6,lY,lX,hA1,dK,dA⟩:=hL0.row.next dZ
   have m7:=blk_lt dK
   generalize css0.flatten=A1 at hA1 dK dA
   replace aB:ρ 13 = .slice (some ⟨R1,0,none⟩) N0 q1:=eD.trans b6
   have eF:∀ b,ownB va0 b→w4.heap.size≤b∧b < w6.heap.size:=fun b h=>hL0.row.own h
   have b9:∀ b,(fun b=>(ok b∨w1.heap.size≤b)∧¬ ownB va0 b) b→¬ (b=R1∨b=rb):=fun b hk h=>h.elim (fun e=>hk.2 ⟨_,_,_,b6,e⟩) (fun e=>hoM b hk.1 (.inr e))
   obtain ⟨X6,hX6⟩:∃ X:Array Value,X=(A1++(([.int .i16 0,.int .i16 0,.int .i16 0,.map none]:List Value)++B1)).toArray:=⟨_,rfl⟩
   have lP:blk w6 R1=some (X6,112,(0,0)):=by rw [hX6];exact dK
   have uP:j1 * 4+4≤X6.size:=by rw [hX6];simp only [List.size_toArray,List.length_append,List.length_cons,List.length_nil,hA1];omega
   repeat ((first|refine qA rfl ?_|apply qB|refine qC rfl ?_|apply qD|apply qE|apply qF|apply qG|apply qH);try simp (disch:=(first|omega|(simp only [qI,qJ,qK]<;>omega)|exact qL _)) only [go_sem,↓reduceIte,n0,reduceCtorEq,n1,n2,n3,n4,n5,i0,i1,i2,i3,i4,i5,i6,i7,lP,aE,aF,aG,aH,aC,aD,aB,aI])
   refine (DefaultEX3_fn w6 dK hA1).mono ?_
   rintro _ w7 ⟨g7,hu7⟩
   have hq7:=And.intro (hq6.1.upd hu7 (by omega) (fun b _ hk e=>by have:=(hok b hk).1;omega)) (hq6.2.upd hu7 (by omega))
   have hV7:Upd (fun b=>b=R1∨b=rb) w6 w7:=hu7.mono (fun _ h=>.inl h)
   have hU7:Upd (fun b=>b=vb∨b=rb) w1 w7:=hU6.trans' hV7 fun i hi h=>h.elim (fun h=>by omega) .inr
   have hz7:=hV7.size
   have hG7:Glo ev w7:=hG1.updS hU7 a8 aA
   obtain ⟨X7,hX7⟩:∃ X:Array Value,X=(A1++(([.int .i16 0,.int .i16 0,.int .i16 0,.map none]:List Value)++B1)).toArray:=⟨_,rfl⟩
   have lQ:blk w7 R1=some (X7,112,(0,0)):=by rw [hX7];exact g7
   have uQ:j1 * 4+4≤X7.size:=by rw [hX7];simp only [List.size_toArray,List.length_append,List.length_cons,List.length_nil,hA1];omega
   have kC:(rdL (rdP d ver false) (dfP d) ver false [fX3_0,fX3_1,fX3_2] s3).2=none→FB:=fun h=>fN (hL0.bad dZ rd1P_none (by show (rd1 (rdP (d+1) ver false) 10 fs_X3 false false s3).2=none;rw [rd1_part];exact rdP_bad h))
   have fK:hasS fX3_0 ver=true:=hasS_t (by show (0:Int)≤ver;omega) (by show (-1:Int) < 0∨ver≤(-1:Int);omega)
   obtain ⟨xe0_0,gA⟩:∃ x,x=(rdF (rdP d ver false) ver false fX3_0 s3).1:=⟨_,rfl⟩
   repeat ((first|refine qA rfl ?_|apply qB|refine qC rfl ?_|apply qD|apply qE|apply qF|apply qG|apply qH);try simp (disch:=(first|omega|(simp only [qI,qJ,qK]<;>omega)|exact qL _)) only [go_sem,↓reduceIte,n0,reduceCtorEq,n1,n2,n3,n4,n5,i0,i1,i2,i3,i4,i5,i6,i7,lQ,aE,aF,aG,aH,aC,aD,aB,aI])
   have hrd:rdF (rdP d ver false) ver false fX3_0 s3=_:=rdF_num 2 rfl (by decide)
   refine (Int16_fn w7 hq7.1 hrok hG7.1 hgrb).mono ?_
   rintro _ w8 ⟨rfl,hq8,hu8⟩
   have g8:=hu8.blk_some g7 (by omega)
   have hV8:Upd (fun b=>b=R1∨b=rb) w7 w8:=hu8.mono (fun _ h=>.inr h)
   have hU8:Upd (fun b=>b=vb∨b=rb) w1 w8:=hU7.trans' hV8 fun i hi h=>h.elim (fun h=>by omega) .inr
   have hz8:=hV8.size
   have hG8:Glo ev w8:=hG1.updS hU8 a8 aA
   obtain ⟨X8,hX8⟩:∃ X:Array Value,X=(A1++(([.int .i16 0,.int .i16 0,.int .i16 0,.map none]:List Value)++B1)).toArray:=⟨_,rfl⟩
   have lR:blk w8 R1=some (X8,112,(0,0)):=by rw [hX8];exact g8
   have uR:j1 * 4+4≤X8.size:=by rw [hX8];simp only [List.size_toArray,List.length_append,List.length_cons,List.length_nil,hA1];omega
   have hst:(rdF (rdP d ver false) ver false fX3_0 s3).2=(rdInt .i16 2 s3).2:=by first|(rw [hrd];rfl)|rw [hrd]
   obtain ⟨s4,hs4⟩:∃ s,s=(rdF (rdP d ver false) ver false fX3_0 s3).2:=⟨_,rfl⟩
   rw [← hst,← hs4] at hq8
   clear hst
   have l4:j1 * 4+1≤X8.size:=by omega
   repeat ((first|refine qA rfl ?_|apply qB|refine qC rfl ?_|apply qD|apply qE|apply qF|apply qG|apply qH);try simp (disch:=(first|omega|(simp only [qI,qJ,qK]<;>omega)|exact qL _)) only [go_sem,↓reduceIte,n0,reduceCtorEq,n1,n2,n3,n4,n5,i0,i1,i2,i3,i4,i5,i6,i7,lR,aE,aF,aG,aH,aC,aD,aB,aI,l4])
   generalize hw9:wr w8 R1 (j1 * 4) [.int .i16 (rdInt .i16 2 s3).1] = w9
   have hS9:Upd (fun b=>b=R1∨b=rb) w8 w9:=by rw [← hw9];exact (Upd.refl _ _).wr _ _ (.inr (.inl rfl))
   have g9:blk w9 R1=some ((A1++(([.int .i16 (rdInt .i16 2 s3).1,.int .i16 0,.int .i16 0,.map none]:List Value)++B1)).toArray,112,(0,0)):=by rw [← hw9];exact el_blk0 g8 hA1 (Nat.le_of_ble_eq_true rfl)
   have hV9:=hS9
   have hU9:Upd (fun b=>b=vb∨b=rb) w1 w9:=hU8.trans' hV9 fun i hi h=>h.elim (fun h=>by omega) .inr
   have hz9:=hV9.size
   have hG9:Glo ev w9:=hG1.updS hU9 a8 aA
   have hq9:Rdr RT ok w9 rb s4∧NN w9 rb s4:=by
    have hn:∀ x,x=w9→(Rdr RT ok x rb s4∧NN x rb s4):=fun x hx=>by
     rw [hx,← hw9]
     exact Rdr.store hq8 (by omega) (fun h=>by have:=(hok _ h).1;first|omega|exact (hok _ h).2 rfl)
    exact hn _ rfl
   obtain ⟨X9,hX9⟩:∃ X:Array Value,X=(A1++(([.int .i16 (rdInt .i16 2 s3).1,.int .i16 0,.int .i16 0,.map none]:List Value)++B1)).toArray:=⟨_,rfl⟩
   have lS:blk w9 R1=some (X9,112,(0,0)):=by rw [hX9];exact g9
   have uV:j1 * 4+4≤X9.size:=by rw [hX9];simp only [List.size_toArray,List.length_append,List.length_cons,List.length_nil,hA1];omega
   clear hw9
   have kE:RepF (RepS true d) (szS true d) fX3_0 (fun b=>(ok b∨w1.heap.size≤b)∧¬ ownB va0 b) w9 (xe0_0) [.int .i16 (rdInt .i16 2 s3).1]:=(RepF_num (by decide)).2 (by rw [gA,hrd];exact congrArg (fun x=>[x]) (numC_rd 2 (by decide) 2 s3).symm)
   clear hrd
   have kD:(rdL (rdP d ver false) (dfP d) ver false [fX3_1,fX3_2] s4).2=none→FB:=fun h=>kC (by rw [rdL_st (by decide) fK,← hs4];exact h)
   have fM:hasS fX3_1 ver=true:=hasS_t (by show (0:Int)≤ver;omega) (by show (-1:Int) < 0∨ver≤(-1:Int);omega)
   obtain ⟨xe0_1,gB⟩:∃ x,x=(rdF (rdP d ver false) ver false fX3_1 s4).1:=⟨_,rfl⟩
   repeat ((first|refine qA rfl ?_|apply qB|refine qC rfl ?_|apply qD|apply qE|apply qF|apply qG|apply qH);try simp (disch:=(first|omega|(simp only [qI,qJ,qK]<;>omega)|exact qL _)) only [go_sem,↓reduceIte,n0,reduceCtorEq,n1,n2,n3,n4,n5,i0,i1,i2,i3,i4,i5,i6,i7,lS,aE,aF,aG,aH,aC,aD,aB,aI])
   have hrd:rdF (rdP d ver false) ver false fX3_1 s4=_:=rdF_num 2 rfl (by decide)
   refine (Int16_fn w9 hq9.1 hrok hG9.1 hgrb).mono ?_
   rintro _ w10 ⟨rfl,fP,fS⟩
   have fW:=fS.blk_some g9 (by omega)
   have cY:Upd (fun b=>b=R1∨b=rb) w9 w10:=fS.mono (fun _ h=>.inr h)
   have f7:Upd (fun b=>b=vb∨b=rb) w1 w10:=hU9.trans' cY fun i hi h=>h.elim (fun h=>by omega) .inr
   have hz10:=cY.size
   have tD:Glo ev w10:=hG1.updS f7 a8 aA
   obtain ⟨X10,fC⟩:∃ X:Array Value,X=(A1++(([.int .i16 (rdInt .i16 2 s3).1,.int .i16 0,.int .i16 0,.map none]:List Value)++B1)).toArray:=⟨_,rfl⟩
   have lL:blk w10 R1=some (X10,112,(0,0)):=by rw [fC];exact fW
   have uI:j1 * 4+4≤X10.size:=by rw [fC];simp only [List.size_toArray,List.length_append,List.length_cons,List.length_nil,hA1];omega
   have hst:(rdF (rdP d ver false) ver false fX3_1 s4).2=(rdInt .i16 2 s4).2:=by first|(rw [hrd];rfl)|rw [hrd]
   obtain ⟨s5,hs5⟩:∃ s,s=(rdF (rdP d ver false) ver false fX3_1 s4).2:=⟨_,rfl⟩
   rw [← hst,← hs5] at fP
   clear hst
   have kZ:j1 * 4+2≤X10.size:=by omega
   repeat ((first|refine qA rfl ?_|apply qB|refine qC rfl ?_|apply qD|apply qE|apply qF|apply qG|apply qH);try simp (disch:=(first|omega|(simp only [qI,qJ,qK]<;>omega)|exact qL _)) only [go_sem,↓reduceIte,n0,reduceCtorEq,n1,n2,n3,n4,n5,i0,i1,i2,i3,i4,i5,i6,i7,lL,aE,aF,aG,aH,aC,aD,aB,aI,kZ])
   generalize dF:wr w10 R1 (j1 * 4+1) [.int .i16 (rdInt .i16 2 s4).1] = w11
   have jL:Upd (fun b=>b=R1∨b=rb) w10 w11:=by rw [← dF];exact (Upd.refl _ _).wr _ _ (.inr (.inl rfl))
   have fX:blk w11 R1=some ((A1++(([.int .i16 (rdInt .i16 2 s3).1,.int .i16 (rdInt .i16 2 s4).1,.int .i16 0,.map none]:List Value)++B1)).toArray,112,(0,0)):=by rw [← dF];exact el_blk (o:=1) fW hA1 (Nat.le_of_ble_eq_true rfl)
   have cZ:=jL
   have f8:Upd (fun b=>b=vb∨b=rb) w1 w11:=f7.trans' cZ fun i hi h=>h.elim (fun h=>by omega) .inr
   have xJ:=cZ.size
   have jJ:Glo ev w11:=hG1.updS f8 a8 aA
   have kP:Rdr RT ok w11 rb s5∧NN w11 rb s5:=by
    have hn:∀ x,x=w11→(Rdr RT ok x rb s5∧NN x rb s5):=fun x hx=>by
     rw [hx,← dF]
     exact Rdr.store fP (by omega) (fun h=>by have:=(hok _ h).1;first|omega|exact (hok _ h).2 rfl)
    exact hn _ rfl
   obtain ⟨X11,fD⟩:∃ X:Array Value,X=(A1++(([.int .i16 (rdInt .i16 2 s3).1,.int .i16 (rdInt .i16 2 s4).1,.int .i16 0,.map none]:List Value)++B1)).toArray:=⟨_,rfl⟩
   have lM:blk w11 R1=some (X11,112,(0,0)):=by rw [fD];exact fX
   have uJ:j1 * 4+4≤X11.size:=by rw [fD];simp only [List.size_toArray,List.length_append,List.length_cons,List.length_nil,hA1];omega
   clear dF
   have kF:RepF (RepS true d) (szS true d) fX3_1 (fun b=>(ok b∨w1.heap.size≤b)∧¬ ownB va0 b) w11 (xe0_1) [.int .i16 (rdInt .i16 2 s4).1]:=(RepF_num (by decide)).2 (by rw [gB,hrd];exact congrArg (fun x=>[x]) (numC_rd 2 (by decide) 2 s4).symm)
   clear hrd
   have vA:(rdL (rdP d ver false) (dfP d) ver false [fX3_2] s5).2=none→FB:=fun h=>kD (by rw [rdL_st (by decide) fM,← hs5];exact h)
   have kH:hasS fX3_2 ver=true:=hasS_t (by show (0:Int)≤ver;omega) (by show (-1:Int) < 0∨ver≤(-1:Int);omega)
   obtain ⟨xe0_2,gC⟩:∃ x,x=(rdF (rdP d ver false) ver false fX3_2 s5).1:=⟨_,rfl⟩
   repeat ((first|refine qA rfl ?_|apply qB|refine qC rfl ?_|apply qD|apply qE|apply qF|apply qG|apply qH);try simp (disch:=(first|omega|(simp only [qI,qJ,qK]<;>omega)|exact qL _)) only [go_sem,↓reduceIte,n0,reduceCtorEq,n1,n2,n3,n4,n5,i0,i1,i2,i3,i4,i5,i6,i7,lM,aE,aF,aG,aH,aC,aD,aB,aI])
   have hrd:rdF (rdP d ver false) ver false fX3_2 s5=_:=rdF_num 2 rfl (by decide)
   refine (Int16_fn w11 kP.1 hrok jJ.1 hgrb).mono ?_
   rintro _ w12 ⟨rfl,fQ,fT⟩
   have fY:=fT.blk_some fX (by omega)
   have d8:Upd (fun b=>b=R1∨b=rb) w11 w12:=fT.mono (fun _ h=>.inr h)
   have f9:Upd (fun b=>b=vb∨b=rb) w1 w12:=f8.trans' d8 fun i hi h=>h.elim (fun h=>by omega) .inr
   have xK:=d8.size
   have tE:Glo ev w12:=hG1.updS f9 a8 aA
   obtain ⟨X12,fE⟩:∃ X:Array Value,X=(A1++(([.int .i16 (rdInt .i16 2 s3).1,.int .i16 (rdInt .i16 2 s4).1,.int .i16 0,.map none]:List Value)++B1)).toArray:=⟨_,rfl⟩
   have lN:blk w12 R1=some (X12,112,(0,0)):=by rw [fE];exact fY
   have uM:j1 * 4+4≤X12.size:=by rw [fE];simp only [List.size_toArray,List.length_append,List.length_cons,List.length_nil,hA1];omega
   have hst:(rdF (rdP d ver false) ver false fX3_2 s5).2=(rdInt .i16 2 s5).2:=by first|(rw [hrd];rfl)|rw [hrd]
   obtain ⟨s6,hs6⟩:∃ s,s=(rdF (rdP d ver false) ver false fX3_2 s5).2:=⟨_,rfl⟩
   rw [← hst,← hs6] at fQ
   clear hst
   have l0:j1 * 4+3≤X12.size:=by omega
   repeat ((first|refine qA rfl ?_|apply qB|refine qC rfl ?_|apply qD|apply qE|apply qF|apply qG|apply qH);try simp (disch:=(first|omega|(simp only [qI,qJ,qK]<;>omega)|exact qL _)) only [go_sem,↓reduceIte,n0,reduceCtorEq,n1,n2,n3,n4,n5,i0,i1,i2,i3,i4,i5,i6,i7,lN,aE,aF,aG,aH,aC,aD,aB,aI,l0])
   generalize dG:wr w12 R1 (j1 * 4+2) [.int .i16 (rdInt .i16 2 s5).1] = w13
   have jM:Upd (fun b=>b=R1∨b=rb) w12 w13:=by rw [← dG];exact (Upd.refl _ _).wr _ _ (.inr (.inl rfl))
   have fZ:blk w13 R1=some ((A1++(([.int .i16 (rdInt .i16 2 s3).1,.int .i16 (rdInt .i16 2 s4).1,.int .i16 (rdInt .i16 2 s5).1,.map none]:List Value)++B1)).toArray,112,(0,0)):=by rw [← dG];exact el_blk (o:=2) fY hA1 (Nat.le_of_ble_eq_true rfl)
   have d9:=jM
   have iO:Upd (fun b=>b=vb∨b=rb) w1 w13:=f9.trans' d9 fun i hi h=>h.elim (fun h=>by omega) .inr
   have xM:=d9.size
   have tF:Glo ev w13:=hG1.updS iO a8 aA
   have kQ:Rdr RT ok w13 rb s6∧NN w13 rb s6:=by
    have hn:∀ x,x=w13→(Rdr RT ok x rb s6∧NN x rb s6):=fun x hx=>by
     rw [hx,← dG]
     exact Rdr.store fQ (by omega) (fun h=>by have:=(hok _ h).1;first|omega|exact (hok _ h).2 rfl)
    exact hn _ rfl
   obtain ⟨X13,fG⟩:∃ X:Array Value,X=(A1++(([.int .i16 (rdInt .i16 2 s3).1,.int .i16 (rdInt .i16 2 s4).1,.int .i16 (rdInt .i16 2 s5).1,.map none]:List Value)++B1)).toArray:=⟨_,rfl⟩
   have iL:blk w13 R1=some (X13,112,(0,0)):=by rw [fG];exact fZ
   have uO:j1 * 4+4≤X13.size:=by rw [fG];simp only [List.size_toArray,List.length_append,List.length_cons,List.length_nil,hA1];omega
   clear dG
   have kG:RepF (RepS true d) (szS true d) fX3_2 (fun b=>(ok b∨w1.heap.size≤b)∧¬ ownB va0 b) w13 (xe0_2) [.int .i16 (rdInt .i16 2 s5).1]:=(RepF_num (by decide)).2 (by rw [gC,hrd];exact congrArg (fun x=>[x]) (numC_rd 2 (by decide) 2 s5).symm)
   clear hrd
   have kN:rdL (rdP d ver false) (dfP d) ver false [] s6=([],s6):=rfl
   have kM:rdL (rdP d ver false) (dfP d) ver false [fX3_2] s5=([xe0_2],s6):=by rw [rdL_st (by decide) kH,← gC,← hs6,kN]
   have kL:rdL (rdP d ver false) (dfP d) ver false [fX3_1,fX3_2] s4=([xe0_1,xe0_2],s6):=by rw [rdL_st (by decide) fM,← gB,← hs5,kM]
   have kK:rdL (rdP d ver false) (dfP d) ver false [fX3_0,fX3_1,fX3_2] s3=([xe0_0,xe0_1,xe0_2],s6):=by rw [rdL_st (by decide) fK,← gA,← hs4,kL]
   have iR:rdP (d+1) ver false fs_X3 s3=(.mk 0 [] false [xe0_0,xe0_1,xe0_2] [],s6):=rdP_f kK
   have jO:TagsM (fun b=>(ok b∨w1.heap.size≤b)∧¬ ownB va0 b) w13 (.map none) []:=.inl ⟨rfl,rfl⟩
   have eZ:Upd (fun b=>b=R1∨b=rb) w13 w13:=Upd.refl _ _
   have jF:Upd (fun b=>b=R1∨b=rb) w12 w13:=d9.trans eZ
   have eY:Upd (fun b=>b=R1∨b=rb) w11 w13:=d8.trans jF
   have jE:Upd (fun b=>b=R1∨b=rb) w10 w13:=cZ.trans eY
   have f5:Upd (fun b=>b=R1∨b=rb) w9 w13:=cY.trans jE
   have jH:Upd (fun b=>b=R1∨b=rb) w8 w13:=hV9.trans f5
   have jG:Upd (fun b=>b=R1∨b=rb) w7 w13:=hV8.trans jH
   have sS:Upd (fun b=>b=R1∨b=rb) w6 w13:=hV7.trans jG
   have jK:RepS true (d+1) fs_X3 (fun b=>(ok b∨w1.heap.size≤b)∧¬ ownB va0 b) w13 (.mk 0 [] false [xe0_0,xe0_1,xe0_2] []) [.int .i16 (rdInt .i16 2 s3).1,.int .i16 (rdInt .i16 2 s4).1,.int .i16 (rdInt .i16 2 s5).1,.map none]:=RepS.introT (c:=[.int .i16 (rdInt .i16 2 s3).1,.int .i16 (rdInt .i16 2 s4).1,.int .i16 (rdInt .i16 2 s5).1]) (RepL.cons1 (kE.keepS (f5.keeps fun b _ hk e=>b9 b hk e)) (RepL.cons1 (kF.keepS (eY.keeps fun b _ hk e=>b9 b hk e)) (RepL.cons1 (kG.keepS (eZ.keeps fun b _ hk e=>b9 b hk e)) RepL.nil))) jO
   have hrE:(rd1 (rdP (d+1) ver false) fQ_1.of fQ_1.sub false false) s3=((.mk 0 [] false [xe0_0,xe0_1,xe0_2] []),s6):=by rw [show (rd1 (rdP (d+1) ver false) fQ_1.of fQ_1.sub false false) s3=_ from rd1_part];exact iR
   have hxE:(Rep1 (RepS true (d+1)) fQ_1.of fQ_1.sub) (fun b=>(ok b∨w1.heap.size≤b)∧¬ ownB va0 b) w13 (.mk 0 [] false [xe0_0,xe0_1,xe0_2] []) [.int .i16 (rdInt .i16 2 s3).1,.int .i16 (rdInt .i16 2 s4).1,.int .i16 (rdInt .i16 2 s5).1,.map none]:=Rep1_part.2 jK
   repeat ((first|refine qA rfl ?_|apply qB|refine qC rfl ?_|apply qD|apply qE|apply qF|apply qG|apply qH);try simp (disch:=(first|omega|(simp only [qI,qJ,qK]<;>omega)|exact qL _)) only [go_sem,↓reduceIte,n0,reduceCtorEq,n1,n2,n3,n4,n5,i0,i1,i2,i3,i4,i5,i6,i7,iL,aE,aF,aG,aH,aC,aD,aB,aI])
   have hTk:Upd (fun b=>b=R1∨b=rb) w6 w13:=((((((hV7.trans hV8).trans hV9).trans cY).trans cZ).trans d8).trans d9)
   have hL':=hL0.step (Rep1_lay _ _ fun _=>RepS_lay true _ _) dZ (dA w13 [.int .i16 (rdInt .i16 2 s3).1,.int .i16 (rdInt .i16 2 s4).1,.int .i16 (rdInt .i16 2 s5).1,.map none] rfl fZ) (by rw [hrE];exact hxE) (hTk.mono fun b h=>h.imp (fun e=>⟨_,_,_,b6,e⟩) id) (by rw [hrE];exact kQ) (fun h=>hoM rb h (.inr rfl)) (Nat.le_refl _)
   have hij:IntKind.i32.wrap ((j1:Int)+1)=((j1+1:Nat):Int):=by rw [i32_wrap (by omega)];omega
   repeat ((first|refine qA rfl ?_|apply qB|refine qC rfl ?_|apply qD|apply qE|apply qF|apply qG|apply qH);try simp (disch:=(first|omega|(simp only [qI,qJ,qK]<;>omega)|exact qL _)) only [go_sem,↓reduceIte,n0,reduceCtorEq,n1,n2,n3,n4,n5,i0,i1,i2,i3,i4,i5,i6,i7,iL,aE,aF,aG,aH,aC,aD,aB,aI,hij])
   refine ⟨⟨(by simp (disch:=(first|omega|(simp only [qI,qJ,qK]<;>omega)|exact qL _)) only [go_sem,↓reduceIte,n0,reduceCtorEq,n1,n2,n3,n4,n5,i0,i1,i2,i3,i4,i5,i6,i7,Holds_nil,Holds_cons,aE,aF,aG,aH,aC,aD,aB,aI];exact b6.symm),j1+1,(by simp (disch:=(first|omega|(simp only [qI,qJ,qK]<;>omega)|exact qL _)) only [go_sem,↓reduceIte,n0,reduceCtorEq,n1,n2,n3,n4,n5,i0,i1,i2,i3,i4,i5,i6,i7,aE,aF,aG,aH,aC,aD,aB,aI,hij];all_goals rfl),_,_,_,hL'⟩,?_⟩
   try simp (disch:=(first|omega|(simp only [qI,qJ,qK]<;>omega)|exact qL _)) only [go_sem,↓reduceIte,n0,reduceCtorEq,n1,n2,n3,n4,n5,i0,i1,i2,i3,i4,i5,i6,i7,aE,aF,aG,aH,aC,aD,aB,aI]
   simp only [RowKit.intOf]
   omega
  ·have hjN:j1=N0:=by omega
   rw [hjN] at hL0
   repeat ((first|refine qA rfl ?_|apply qB|refine qC rfl ?_|apply qD|apply qE|apply qF|apply qG|apply qH);try simp (disch:=(first|omega|(simp only [qI,qJ,qK]<;>omega)|exact qL _)) only [go_sem,↓reduceIte,n0,reduceCtorEq,n1,n2,n3,n4,n5,i0,i1,i2,i3,i4,i5,i6,i7,aE,aF,aG,aH,aC,aD,eD,aI])
   exact ⟨(by simp (disch:=(first|omega|(simp only [qI,qJ,qK]<;>omega)|exact qL _)) only [go_sem,↓reduceIte,n0,reduceCtorEq,n1,n2,n3,n4,n5,i0,i1,i2,i3,i4,i5,i6,i7,Holds_nil,Holds_cons,aE,aF,aG,aH,aC,aD,eD,aI]),s3,xs0,css0,hL0⟩
 rintro ρ w14 ⟨⟨bN,bO,bP,bQ,bJ,bM,bK,-⟩,s7,xs0,css0,hL0⟩
 have iX:=hL0.rd
 have fV:=hL0.upd
 have hv_14:=fV.blk_some hv_4 (by omega)
 have dL:Upd (fun b=>b=vb∨b=rb) w4 w14:=fV.mono (fun _ h=>.inr h)
 have fA:Upd (fun b=>b=vb∨b=rb) w1 w14:=hU4.trans dL
 have xN:=dL.size
 have tG:Glo ev w14:=hG1.updS fA a8 aA
 have fR:rdF (rdP (d+1) ver false) ver false fQ_1 s1=(.mk 0 [] (nilS fQ_1 ver y0) xs0 [],s7):=by
  have h:=rdF_listE (pt:=(rdP (d+1) ver false)) (v:=ver) (flex:=false) (f:=fQ_1) (s:=s1) (xs:=xs0) (e:=s7) rfl (by rw [hy0,← hN0,← hs2];exact hL0.done)
  rw [hy0] at h;exact h
 have hs7:s7=(rdF (rdP (d+1) ver false) ver false fQ_1 s1).2:=by rw [fR]
 obtain ⟨aa0,qq0,lB⟩:=hL0.row.shape
 subst lB
 repeat ((first|refine qA rfl ?_|apply qB|refine qC rfl ?_|apply qD|apply qE|apply qF|apply qG|apply qH);try simp (disch:=(first|omega|(simp only [qI,qJ,qK]<;>omega)|exact qL _)) only [go_sem,↓reduceIte,n0,reduceCtorEq,n1,n2,n3,n4,n5,i0,i1,i2,i3,i4,i5,i6,i7,hv_14,bN,bO,bP,bQ,bJ,bM,bK])
 generalize dH:wr w14 vb 2 [.slice aa0 N0 qq0] = w15
 have jN:Upd (fun b=>b=vb∨b=rb) w14 w15:=by rw [← dH];exact (Upd.refl _ _).wr _ _ (.inr (.inl rfl))
 have hv_15:blk w15 vb=some (#[.int .i16 ver,.int .i16 (rdInt .i16 2 s0).1,.slice aa0 N0 qq0,.int .i32 0,.slice none 0 0,.int .i64 (-1),.slice none 0 0,.bool false,.map none],108,(0,0)):=by rw [← dH,blk_wr_eq,hv_14];rfl
 have cP:=jN
 have gF:Upd (fun b=>b=vb∨b=rb) w1 w15:=fA.trans cP
 have xO:=cP.size
 have lW:Glo ev w15:=hG1.updS gF a8 aA
 have kR:Rdr RT ok w15 rb s7∧NN w15 rb s7:=by
  have hn:∀ x,x=w15→(Rdr RT ok x rb s7∧NN x rb s7):=fun x hx=>by
   rw [hx,← dH]
   exact Rdr.store iX (by omega) (fun h=>by have:=(hok _ h).1;first|omega|exact (hok _ h).2 rfl)
  exact hn _ rfl
 clear dH
 have hf_1:RepF (RepS true (d+1)) (szS true (d+1)) fQ_1 (fun b=>ok b∨w1.heap.size≤b) w15 (x_1) [.slice aa0 N0 qq0]:=by rw [hx_1,fR];exact RepF.keepS (RepF_row rfl fO hN0 rfl hL0.row hL0.all (fun b hb=>.inr (by omega))) (cP.keeps fun b _ hk e=>(hoM b hk) e)
 clear hL0 fO
 have hb_2:(rdL (rdP (d+1) ver false) (dfP (d+1)) ver false [fQ_2,fQ_3,fQ_4,fQ_5,fQ_6] s7).2=none→FB:=fun h=>hb_1 (by rw [rdL_st (by decide) hh_1,← hs7];exact h)
 have hh_2:hasS fQ_2 ver=true:=hasS_t (by show (1:Int)≤ver;omega) (by show (-1:Int) < 0∨ver≤(-1:Int);omega)
 obtain ⟨x_2,hx_2⟩:∃ x,x=(rdF (rdP (d+1) ver false) ver false fQ_2 s7).1:=⟨_,rfl⟩
 repeat ((first|refine qA rfl ?_|apply qB|refine qC rfl ?_|apply qD|apply qE|apply qF|apply qG|apply qH);try simp (disch:=(first|omega|(simp only [qI,qJ,qK]<;>omega)|exact qL _)) only [go_sem,↓reduceIte,n0,reduceCtorEq,n1,n2,n3,n4,n5,i0,i1,i2,i3,i4,i5,i6,i7,hv_15,bN,bO,bP,bQ,bJ,bM,bK])
 have hrd:rdF (rdP (d+1) ver false) ver false fQ_2 s7=_:=rdF_num 3 rfl (by decide)
 refine (Int32_fn w15 kR.1 hrok lW.1 hgrb).mono ?_
 rintro _ w16 ⟨rfl,mN,l5⟩
 have hv_16:=l5.blk_some hv_15 (by omega)
 have dW:Upd (fun b=>b=vb∨b=rb) w15 w16:=l5.mono (fun _ h=>.inr h)
 have eG:Upd (fun b=>b=vb∨b=rb) w1 w16:=gF.trans dW
 have xP:=dW.size
 have yH:Glo ev w16:=hG1.updS eG a8 aA
 have hst:(rdF (rdP (d+1) ver false) ver false fQ_2 s7).2=(rdInt .i32 4 s7).2:=by first|(rw [hrd];rfl)|rw [hrd]
 obtain ⟨s8,hs8⟩:∃ s,s=(rdF (rdP (d+1) ver false) ver false fQ_2 s7).2:=⟨_,rfl⟩
 rw [← hst,← hs8] at mN
 clear hst
 repeat ((first|refine qA rfl ?_|apply qB|refine qC rfl ?_|apply qD|apply qE|apply qF|apply qG|apply qH);try simp (disch:=(first|omega|(simp only [qI,qJ,qK]<;>omega)|exact qL _)) only [go_sem,↓reduceIte,n0,reduceCtorEq,n1,n2,n3,n4,n5,i0,i1,i2,i3,i4,i5,i6,i7,hv_16,bN,bO,bP,bQ,bJ,bM,bK])
 generalize dI:wr w16 vb 3 [.int .i32 (rdInt .i32 4 s7).1] = w17
 have oM:Upd (fun b=>b=vb∨b=rb) w16 w17:=by rw [← dI];exact (Upd.refl _ _).wr _ _ (.inr (.inl rfl))
 have hv_17:blk w17 vb=some (#[.int .i16 ver,.int .i16 (rdInt .i16 2 s0).1,.slice aa0 N0 qq0,.int .i32 (rdInt .i32 4 s7).1,.slice none 0 0,.int .i64 (-1),.slice none 0 0,.bool false,.map none],108,(0,0)):=by rw [← dI,blk_wr_eq,hv_16];rfl
 have dM:=oM
 have eH:Upd (fun b=>b=vb∨b=rb) w1 w17:=eG.trans dM
 have xQ:=dM.size
 have nZ:Glo ev w17:=hG1.updS eH a8 aA
 have pU:Rdr RT ok w17 rb s8∧NN w17 rb s8:=by
  have hn:∀ x,x=w17→(Rdr RT ok x rb s8∧NN x rb s8):=fun x hx=>by
   rw [hx,← dI]
   exact Rdr.store mN (by omega) (fun h=>by have:=(hok _ h).1;first|omega|exact (hok _ h).2 rfl)
  exact hn _ rfl
 clear dI
 have hf_2:RepF (RepS true (d+1)) (szS true (d+1)) fQ_2 (fun b=>ok b∨w1.heap.size≤b) w17 (x_2) [.int .i32 (rdInt .i32 4 s7).1]:=(RepF_num (by decide)).2 (by rw [hx_2,hrd];exact congrArg (fun x=>[x]) (numC_rd 3 (by decide) 4 s7).symm)
 clear hrd
 have hb_3:(rdL (rdP (d+1) ver false) (dfP (d+1)) ver false [fQ_3,fQ_4,fQ_5,fQ_6] s8).2=none→FB:=fun h=>hb_2 (by rw [rdL_st (by decide) hh_2,← hs8];exact h)
 obtain ⟨x_3,hx_3⟩:∃ x,x=dfF (dfP (d+1)) fQ_3:=⟨_,rfl⟩
 have hf_3:RepF (RepS true (d+1)) (szS true (d+1)) fQ_3 (fun b=>ok b∨w1.heap.size≤b) w17 (x_3) [.slice none 0 0]:=by rw [hx_3];exact RepF_nil rfl
 have hb_4:(rdL (rdP (d+1) ver false) (dfP (d+1)) ver false [fQ_4,fQ_5,fQ_6] s8).2=none→FB:=fun h=>hb_3 (by rw [rdL_tg (by decide)];exact h)
 obtain ⟨x_4,hx_4⟩:∃ x,x=dfF (dfP (d+1)) fQ_4:=⟨_,rfl⟩
 have hf_4:RepF (RepS true (d+1)) (szS true (d+1)) fQ_4 (fun b=>ok b∨w1.heap.size≤b) w17 (x_4) [.int .i64 (-1)]:=by rw [hx_4];exact (RepF_num (by decide)).2 rfl
 have hb_5:(rdL (rdP (d+1) ver false) (dfP (d+1)) ver false [fQ_5,fQ_6] s8).2=none→FB:=fun h=>hb_4 (by rw [rdL_tg (by decide)];exact h)
 obtain ⟨x_5,hx_5⟩:∃ x,x=dfF (dfP (d+1)) fQ_5:=⟨_,rfl⟩
 have hf_5:RepF (RepS true (d+1)) (szS true (d+1)) fQ_5 (fun b=>ok b∨w1.heap.size≤b) w17 (x_5) [.slice none 0 0]:=by rw [hx_5];exact RepF_nil rfl
 have hb_6:(rdL (rdP (d+1) ver false) (dfP (d+1)) ver false [fQ_6] s8).2=none→FB:=fun h=>hb_5 (by rw [rdL_tg (by decide)];exact h)
 obtain ⟨x_6,hx_6⟩:∃ x,x=dfF (dfP (d+1)) fQ_6:=⟨_,rfl⟩
 have hf_6:RepF (RepS true (d+1)) (szS true (d+1)) fQ_6 (fun b=>ok b∨w1.heap.size≤b) w17 (x_6) [.bool false]:=by rw [hx_6];exact (RepF_num (by decide)).2 rfl
 have hl_7:rdL (rdP (d+1) ver false) (dfP (d+1)) ver false [] s8=([],s8):=rfl
 have hl_6:rdL (rdP (d+1) ver false) (dfP (d+1)) ver false [fQ_6] s8=([x_6],s8):=by rw [rdL_tg (by decide),← hx_6,hl_7]
 have hl_5:rdL (rdP (d+1) ver false) (dfP (d+1)) ver false [fQ_5,fQ_6] s8=([x_5,x_6],s8):=by rw [rdL_tg (by decide),← hx_5,hl_6]
 have hl_4:rdL (rdP (d+1) ver false) (dfP (d+1)) ver false [fQ_4,fQ_5,fQ_6] s8=([x_4,x_5,x_6],s8):=by rw [rdL_tg (by decide),← hx_4,hl_5]
 have hl_3:rdL (rdP (d+1) ver false) (dfP (d+1)) ver false [fQ_3,fQ_4,fQ_5,fQ_6] s8=([x_3,x_4,x_5,x_6],s8):=by rw [rdL_tg (by decide),← hx_3,hl_4]
 have hl_2:rdL (rdP (d+1) ver false) (dfP (d+1)) ver false [fQ_2,fQ_3,fQ_4,fQ_5,fQ_6] s7=([x_2,x_3,x_4,x_5,x_6],s8):=by rw [rdL_st (by decide) hh_2,← hx_2,← hs8,hl_3]
 have hl_1:rdL (rdP (d+1) ver false) (dfP (d+1)) ver false [fQ_1,fQ_2,fQ_3,fQ_4,fQ_5,fQ_6] s1=([x_1,x_2,x_3,x_4,x_5,x_6],s8):=by rw [rdL_st (by decide) hh_1,← hx_1,← hs7,hl_2]
 have hl_0:rdL (rdP (d+1) ver false) (dfP (d+1)) ver false [fQ_0,fQ_1,fQ_2,fQ_3,fQ_4,fQ_5,fQ_6] s0=([x_0,x_1,x_2,x_3,x_4,x_5,x_6],s8):=by rw [rdL_st (by decide) hh_0,← hx_0,← hs1,hl_1]
 have hfin:rdM (d+1) ver false fs_Q s0=(.mk 0 [] false [x_0,x_1,x_2,x_3,x_4,x_5,x_6] [],s8):=rdM_f.trans (rdP_f hl_0)
 have hTg:TagsM (fun b=>ok b∨w1.heap.size≤b) w17 (.map none) []:=.inl ⟨rfl,rfl⟩
 have hC_17:Upd (fun b=>b=vb∨b=rb) w17 w17:=Upd.refl _ _
 have hC_16:Upd (fun b=>b=vb∨b=rb) w16 w17:=dM.trans hC_17
 have hC_15:Upd (fun b=>b=vb∨b=rb) w15 w17:=dW.trans hC_16
 have hC_14:Upd (fun b=>b=vb∨b=rb) w14 w17:=cP.trans hC_15
 have hC_4:Upd (fun b=>b=vb∨b=rb) w4 w17:=dL.trans hC_14
 have hC_3:Upd (fun b=>b=vb∨b=rb) w3 w17:=hV4.trans hC_4
 have hC_2:Upd (fun b=>b=vb∨b=rb) w2 w17:=hV3.trans hC_3
 have hC_1:Upd (fun b=>b=vb∨b=rb) w1 w17:=hV2.trans hC_2
 have hR:RepS true (d+2) fs_Q (fun b=>ok b∨w1.heap.size≤b) w17 (.mk 0 [] false [x_0,x_1,x_2,x_3,x_4,x_5,x_6] []) [.int .i16 (rdInt .i16 2 s0).1,.slice aa0 N0 qq0,.int .i32 (rdInt .i32 4 s7).1,.slice none 0 0,.int .i64 (-1),.slice none 0 0,.bool false,.map none]:=RepS.introT (c:=[.int .i16 (rdInt .i16 2 s0).1,.slice aa0 N0 qq0,.int .i32 (rdInt .i32 4 s7).1,.slice none 0 0,.int .i64 (-1),.slice none 0 0,.bool false]) (RepL.cons1 (hf_0.keepS (hC_3.keeps fun b _ hk e=>(hoM b hk) e)) (RepL.cons1 (hf_1.keepS (hC_15.keeps fun b _ hk e=>(hoM b hk) e)) (RepL.cons1 (hf_2.keepS (hC_17.keeps fun b _ hk e=>(hoM b hk) e)) (RepL.cons1 (hf_3.keepS (hC_17.keeps fun b _ hk e=>(hoM b hk) e)) (RepL.cons1 (hf_4.keepS (hC_17.keeps fun b _ hk e=>(hoM b hk) e)) (RepL.cons1 (hf_5.keepS (hC_17.keeps fun b _ hk e=>(hoM b hk) e)) (RepL.cons1 (hf_6.keepS (hC_17.keeps fun b _ hk e=>(hoM b hk) e)) RepL.nil))))))) hTg
 repeat ((first|refine qA rfl ?_|apply qB|refine qC rfl ?_|apply qD|apply qE|apply qF|apply qG|apply qH);try simp (disch:=(first|omega|(simp only [qI,qJ,qK]<;>omega)|exact qL _)) only [go_sem,↓reduceIte,n0,reduceCtorEq,n1,n2,n3,n4,n5,i0,i1,i2,i3,i4,i5,i6,i7,hv_17,bN,bO,bP,bQ,bJ,bM,bK])
 refine (RComplete_fn w17 pU.1 nZ.2).mono ?_
 rintro _ wz ⟨rfl,hez⟩
 rw [hez]
 repeat ((first|refine qA rfl ?_|apply qB|refine qC rfl ?_|apply qD|apply qE|apply qF|apply qG|apply qH);try simp (disch:=(first|omega|(simp only [qI,qJ,qK]<;>omega)|exact qL _)) only [go_sem,↓reduceIte,n0,reduceCtorEq,n1,n2,n3,n4,n5,i0,i1,i2,i3,i4,i5,i6,i7,hv_17,bN,bO,bP,bQ,bJ,bM,bK])
 rw [hfin]
 refine ⟨fun h => ?_,fun h=>⟨?_,[.int .i16 (rdInt .i16 2 s0).1,.slice aa0 N0 qq0,.int .i32 (rdInt .i32 4 s7).1,.slice none 0 0,.int .i64 (-1),.slice none 0 0,.bool false,.map none],hv_17,?_⟩,?_⟩
 ·have h':s8=none:=h
  rw [h'];rfl
 ·cases hsn:s8 with
  | none=>exact absurd hsn h
  | some x=>rfl
 ·exact (RepS_lay true (d+2) fs_Q).weaken hR fun b _ hk=>hk.imp id fun h=>by omega
 ·exact hbase.trans' eH fun i hi h=>h.elim id fun h=>by omega
end Ms

