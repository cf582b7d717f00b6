/- A part of the proof: see the last text. -/
import Derived.Test.YtpaofegplnfiiaaGreatDoorApiVersionsResponseP0
set_option linter.unusedSimpArgs false
set_option linter.unusedVariables false
namespace Ms
open Go.World renaming size_alloc → qI
open Ms renaming size_wr → qJ,size_drew → qK,not_noB → qL
open W renaming seqR → qA,seq → qB,regR → qC,condK → qD,block → qE,skip → qF,ret → qG,exit → qH
open Nat renaming reduceEqDiff → n0,reduceAdd → n1,reduceMul → n2,reduceSub → n3,reduceLT → n4,reduceLeDiff → n5
open Int renaming reduceEq → i0,reduceLT → i1,reduceLE → i2,reduceNeg → i3,reduceAdd → i4,reduceSub → i5,reduceMul → i6,reduceToNat → i7
set_option maxRecDepth 8000
open Go Go.Proofs Go.Shelf
attribute [local congr] W_congr WPsq_congr WPp_congr optK_congr addrK_congr intK_congr boolK_congr sliceK_congr tupleK_congr funcK_congr Fn_congr rawK_congr takeK_congr stepK_congr convK_congr aggK_congr

set_option maxHeartbeats 4000000 in
theorem readQ_2 {d:Nat} {ok:Blocks} {ver:Int} {ev:Value} (hlo:3≤ver) (hhi:ver≤5) (w:World) {vb:Nat} (src:Value) (s:List UInt8) (hv:blk w vb=some (#[.int .i16 ver,.int .i16 0,.slice none 0 0,.int .i32 0,.slice none 0 0,.int .i64 (-1),.slice none 0 0,.bool false,.map none],108,(0,0))) (hsrc:BytesV ok w src s) (dQ:∀ b,ok b→b < w.heap.size∧b≠vb) (hG:Glo ev w) (hgv:¬ 0=vb∧¬ 1=vb) (hev:∃ T p,ev = .iface T p) (hT1:onceM (d+1) ver fs_Q (some s)) :
  Fn Tryz.prog 60 #[.pointer (some ⟨vb,0,none⟩),src,.bool false] w (ReadQ 108 ok ver (d+2) fs_Q vb w (rdM (d+1) ver true fs_Q (some s)) ev):=by
 have hvl:=blk_lt hv
 have hgs:=hG.lt
 obtain ⟨sa,sc,rfl,_⟩:=hsrc.shape
 refine fn_of_W Tryz.func60 rfl Tryz.results60 Tryz.ntmps60 rfl ?_
 repeat ((first|refine qA rfl ?_|apply qB|refine qC rfl ?_|apply qD|apply qE|apply qF|apply qG|apply qH);try simp (disch:=(first|omega|(simp only [qI,qJ,qK]<;>omega)|exact qL _)) only [go_sem,↓reduceIte,n0,reduceCtorEq,n1,n2,n3,n4,n5,i0,i1,i2,i3,i4,i5,i6,i7,hv])
 refine (DefaultQ_fn w hv).mono ?_
 rintro _ w0 ⟨hv0,hu0⟩
 have hz0:=hu0.size
 have kY:BytesV ok w0 (.slice sa s.length sc) s:=hsrc.keep (hu0.keeps fun b _ hk e=>(dQ b hk).2 e)
 obtain ⟨rb,hrb⟩:∃ r,r=w0.heap.size:=⟨_,rfl⟩
 have hE1:Ext w0 (wr (w0.alloc (.cells #[.slice none 0 0,.bool false] 123)) w0.heap.size 0 [.slice sa s.length sc,.bool false]):=(Upd.alloc (Upd.refl _ _) _).wr _ _ (.inl (Nat.le_refl _))
 have hz1:(wr (w0.alloc (.cells #[.slice none 0 0,.bool false] 123)) w0.heap.size 0 [.slice sa s.length sc,.bool false]).heap.size=w0.heap.size+1:=by rw [size_wr,World.size_alloc]
 have hR1:Rdr RT ok (wr (w0.alloc (.cells #[.slice none 0 0,.bool false] 123)) w0.heap.size 0 [.slice sa s.length sc,.bool false]) w0.heap.size (some s):=Rdr.good (v:=.slice sa s.length sc) (by simp (disch:=(first|omega|(simp only [qI,qJ,qK]<;>omega)|exact qL _)) only [go_sem,↓reduceIte,n0,reduceCtorEq,n1,n2,n3,n4,n5,i0,i1,i2,i3,i4,i5,i6,i7]) (kY.keep (hE1.keeps _))
 have hv_1:=hE1.blk_some hv0 id
 repeat ((first|refine qA rfl ?_|apply qB|refine qC rfl ?_|apply qD|apply qE|apply qF|apply qG|apply qH);try simp (disch:=(first|omega|(simp only [qI,qJ,qK]<;>omega)|exact qL _)) only [go_sem,↓reduceIte,n0,reduceCtorEq,n1,n2,n3,n4,n5,i0,i1,i2,i3,i4,i5,i6,i7,hv0])
 generalize (wr (w0.alloc (.cells #[.slice none 0 0,.bool false] 123)) w0.heap.size 0 [.slice sa s.length sc,.bool false])=w1 at *
 rw [← hrb] at hR1
 try rw [← hrb]
 have hok:∀ b,ok b→b < w.heap.size∧b≠vb:=dQ
 have hrok:¬ ok rb:=fun h=>by have:=(hok rb h).1;omega
 have hbase:Upd (fun b=>b=vb) w w1:=hu0.trans (hE1.mono fun _ h=>h.elim)
 have hG1:Glo ev w1:=hG.updS hbase hgv.1 hgv.2
 have hgrb:¬ 0=rb:=by omega
 have a8:¬ (0=vb∨0=rb):=fun h=>h.elim hgv.1 fun h=>by omega
 have aA:¬ (1=vb∨1=rb):=fun h=>h.elim hgv.2 fun h=>by omega
 obtain ⟨s0,hs0⟩:∃ s':St,s'=some s:=⟨_,rfl⟩
 rw [← hs0] at hR1 ⊢
 have hU1:Upd (fun b=>b=vb∨b=rb) w1 w1:=Upd.refl _ _
 have hoM:∀ b,(ok b∨w1.heap.size≤b)→¬ (b=vb∨b=rb):=fun b hk h=>by
  rcases hk with hk|hk
  ·have:=hok b hk;rcases h with h|h<;>omega
  ·rcases h with h|h<;>omega
 have hq1:Rdr RT ok w1 rb s0:=hR1
 obtain ⟨FB,hFB⟩:∃ P:Prop,P=((rdM (d+1) ver true fs_Q s0).2=none):=⟨_,rfl⟩
 rw [← hs0] at hT1
 have hb_0:(rdL (rdP (d+1) ver true) (dfP (d+1)) ver true [fQ_0,fQ_1,fQ_2,fQ_3,fQ_4,fQ_5,fQ_6] s0).2=none→FB:=fun h=>Eq.mpr hFB (rdM_bad h)
 have hh_0:hasS fQ_0 ver=true:=hasS_t (by show (0:Int)≤ver;omega) (by show (-1:Int) < 0∨ver≤(-1:Int);omega)
 obtain ⟨x_0,hx_0⟩:∃ x,x=(rdF (rdP (d+1) ver true) ver true fQ_0 s0).1:=⟨_,rfl⟩
 repeat ((first|refine qA rfl ?_|apply qB|refine qC rfl ?_|apply qD|apply qE|apply qF|apply qG|apply qH);try simp (disch:=(first|omega|(simp only [qI,qJ,qK]<;>omega)|exact qL _)) only [go_sem,↓reduceIte,n0,reduceCtorEq,n1,n2,n3,n4,n5,i0,i1,i2,i3,i4,i5,i6,i7,hv_1])
 have hrd:rdF (rdP (d+1) ver true) ver true fQ_0 s0=_:=rdF_num 2 rfl (by decide)
 refine (Int16_fn w1 hq1 hrok hG1.1 hgrb).mono ?_
 rintro _ w2 ⟨rfl,hq2,hu2⟩
 have hv_2:=hu2.blk_some hv_1 (by omega)
 have hV2:Upd (fun b=>b=vb∨b=rb) w1 w2:=hu2.mono (fun _ h=>.inr h)
 have hU2:Upd (fun b=>b=vb∨b=rb) w1 w2:=hU1.trans hV2
 have hz2:=hV2.size
 have hG2:Glo ev w2:=hG1.updS hU2 a8 aA
 have hst:(rdF (rdP (d+1) ver true) ver true fQ_0 s0).2=(rdInt .i16 2 s0).2:=by first|(rw [hrd];rfl)|rw [hrd]
 obtain ⟨s1,hs1⟩:∃ s,s=(rdF (rdP (d+1) ver true) ver true fQ_0 s0).2:=⟨_,rfl⟩
 rw [← hst,← hs1] at hq2
 clear hst
 repeat ((first|refine qA rfl ?_|apply qB|refine qC rfl ?_|apply qD|apply qE|apply qF|apply qG|apply qH);try simp (disch:=(first|omega|(simp only [qI,qJ,qK]<;>omega)|exact qL _)) only [go_sem,↓reduceIte,n0,reduceCtorEq,n1,n2,n3,n4,n5,i0,i1,i2,i3,i4,i5,i6,i7,hv_2])
 generalize hw3:wr w2 vb 1 [.int .i16 (rdInt .i16 2 s0).1] = w3
 have hS3:Upd (fun b=>b=vb∨b=rb) w2 w3:=by rw [← hw3];exact (Upd.refl _ _).wr _ _ (.inr (.inl rfl))
 have hv_3:blk w3 vb=some (#[.int .i16 ver,.int .i16 (rdInt .i16 2 s0).1,.slice none 0 0,.int .i32 0,.slice none 0 0,.int .i64 (-1),.slice none 0 0,.bool false,.map none],108,(0,0)):=by rw [← hw3,blk_wr_eq,hv_2];rfl
 have hV3:=hS3
 have hU3:Upd (fun b=>b=vb∨b=rb) w1 w3:=hU2.trans hV3
 have hz3:=hV3.size
 have hG3:Glo ev w3:=hG1.updS hU3 a8 aA
 have hq3:Rdr RT ok w3 rb s1∧NN w3 rb s1:=by
  have hn:∀ x,x=w3→(Rdr RT ok x rb s1∧NN x rb s1):=fun x hx=>by
   rw [hx,← hw3]
   exact Rdr.store hq2 (by omega) (fun h=>by have:=(hok _ h).1;first|omega|exact (hok _ h).2 rfl)
  exact hn _ rfl
 clear hw3
 have hf_0:RepF (RepS true (d+1)) (szS true (d+1)) fQ_0 (fun b=>ok b∨w1.heap.size≤b) w3 (x_0) [.int .i16 (rdInt .i16 2 s0).1]:=(RepF_num (by decide)).2 (by rw [hx_0,hrd];exact congrArg (fun x=>[x]) (numC_rd 2 (by decide) 2 s0).symm)
 clear hrd
 have hb_1:(rdL (rdP (d+1) ver true) (dfP (d+1)) ver true [fQ_1,fQ_2,fQ_3,fQ_4,fQ_5,fQ_6] s1).2=none→FB:=fun h=>hb_0 (by rw [rdL_st (by decide) hh_0,← hs1];exact h)
 have hh_1:hasS fQ_1 ver=true:=hasS_t (by show (0:Int)≤ver;omega) (by show (-1:Int) < 0∨ver≤(-1:Int);omega)
 obtain ⟨x_1,hx_1⟩:∃ x,x=(rdF (rdP (d+1) ver true) ver true fQ_1 s1).1:=⟨_,rfl⟩
 repeat ((first|refine qA rfl ?_|apply qB|refine qC rfl ?_|apply qD|apply qE|apply qF|apply qG|apply qH);try simp (disch:=(first|omega|(simp only [qI,qJ,qK]<;>omega)|exact qL _)) only [go_sem,↓reduceIte,n0,reduceCtorEq,n1,n2,n3,n4,n5,i0,i1,i2,i3,i4,i5,i6,i7,hv_3])
 refine (RCompactArrayLen_fn w3 hq3.1 hrok hG3.1 hgrb).mono ?_
 rintro _ w4 ⟨rfl,hq4,hu4⟩
 have hv_4:=hu4.blk_some hv_3 (by omega)
 have hV4:Upd (fun b=>b=vb∨b=rb) w3 w4:=hu4.mono (fun _ h=>.inr h)
 have hU4:Upd (fun b=>b=vb∨b=rb) w1 w4:=hU3.trans hV4
 have hz4:=hV4.size
 have hG4:Glo ev w4:=hG1.updS hU4 a8 aA
 obtain ⟨s2,hs2⟩:∃ s,s=(rdALen true s1).2:=⟨_,rfl⟩
 rw [← hs2] at hq4
 have xI:=rdALen_rng true s1
 generalize hy0:(rdALen true s1).1=y0 at *
 obtain ⟨N0,hN0⟩:∃ N,N=y0.toNat:=⟨_,rfl⟩
 have fN:(rdMany (rd1 (rdP (d+1) ver true) fQ_1.of fQ_1.sub false true) N0 s2).2=none→FB:=fun h=>hb_1 (by rw [rdL_st (by decide) hh_1];exact rdL_bad (rdF_listbad rfl (by rw [hy0,← hN0,← hs2];exact h)))
 repeat ((first|refine W.seqR rfl ?_|refine W.seq ?_|refine W.regR rfl ?_|refine W.block ?_|refine W.skip ?_|refine W.ret ?_|refine W.exit ?_);try simp (disch:=(first|omega|(simp only [qI,qJ,qK]<;>omega)|exact qL _)) only [go_sem,↓reduceIte,n0,reduceCtorEq,n1,n2,n3,n4,n5,i0,i1,i2,i3,i4,i5,i6,i7,hv_4])
 refine (ROk_fn w4 hq4.1).mono ?_
 rintro _ wz ⟨rfl,hez⟩
 rw [hez]
 clear hez wz
 by_cases dB:s2=none
 ·have hso:s2.isSome=false:=by rw [dB];rfl
  repeat (first|simp (disch:=(first|omega|(simp only [qI,qJ,qK]<;>omega)|exact qL _)) only [go_sem,↓reduceIte,n0,reduceCtorEq,n1,n2,n3,n4,n5,i0,i1,i2,i3,i4,i5,i6,i7,hv_4,hso]|refine qA rfl ?_|apply qB|refine qC rfl ?_|apply qD|apply qE|apply qF|apply qG|apply qH)
  refine (RComplete_fn w4 hq4.1 hG4.2).mono ?_
  rintro _ wz ⟨rfl,hez⟩
  rw [hez]
  repeat (first|simp (disch:=(first|omega|(simp only [qI,qJ,qK]<;>omega)|exact qL _)) only [go_sem,↓reduceIte,n0,reduceCtorEq,n1,n2,n3,n4,n5,i0,i1,i2,i3,i4,i5,i6,i7,hv_4]|refine qA rfl ?_|apply qB|refine qC rfl ?_|apply qD|apply qE|apply qF|apply qG|apply qH)
  rw [errV_none dB]
  exact ReadQ.bad (Eq.mp hFB (fN (by rw [dB];exact rdMany_none rd1P_none _))) (hbase.trans' hU4 fun i hi h=>h.elim id fun h=>by omega)
 have dC:s2.isSome=true:=isSome_some dB
 try simp (disch:=(first|omega|(simp only [qI,qJ,qK]<;>omega)|exact qL _)) only [go_sem,↓reduceIte,n0,reduceCtorEq,n1,n2,n3,n4,n5,i0,i1,i2,i3,i4,i5,i6,i7,hv_4,dC]
 repeat ((first|refine W.seqR rfl ?_|refine W.seq ?_|refine W.regR rfl ?_|refine W.block ?_|refine W.skip ?_|refine W.ret ?_|refine W.exit ?_);try simp (disch:=(first|omega|(simp only [qI,qJ,qK]<;>omega)|exact qL _)) only [go_sem,↓reduceIte,n0,reduceCtorEq,n1,n2,n3,n4,n5,i0,i1,i2,i3,i4,i5,i6,i7,hv_4,dC])
 refine W.condK ?_
 try simp (disch:=(first|omega|(simp only [qI,qJ,qK]<;>omega)|exact qL _)) only [go_sem,↓reduceIte,n0,reduceCtorEq,n1,n2,n3,n4,n5,i0,i1,i2,i3,i4,i5,i6,i7,hv_4,dC]
 repeat ((first|refine W.seqR rfl ?_|refine W.seq ?_|refine W.regR rfl ?_|refine W.block ?_|refine W.skip ?_|refine W.ret ?_|refine W.exit ?_);try simp (disch:=(first|omega|(simp only [qI,qJ,qK]<;>omega)|exact qL _)) only [go_sem,↓reduceIte,n0,reduceCtorEq,n1,n2,n3,n4,n5,i0,i1,i2,i3,i4,i5,i6,i7,hv_4,dC,slBase_00])
 refine W.normJ (RowQ [(2,.bool false),(7,.pointer (some ⟨rb,0,none⟩)),(8,.int .i16 ver),(9,.bool true),(10,.pointer (some ⟨vb,0,none⟩)),(14,.int .i32 y0)] 13 (fun va w'=>LstI RT (rd1 (rdP (d+1) ver true) fQ_1.of fQ_1.sub false true) (Rep1 (RepS true (d+1)) fQ_1.of fQ_1.sub) 4 112 [.int .i16 0,.int .i16 0,.int .i16 0,.map none] w4.heap.size N0 ok (fun b=>ok b∨w1.heap.size≤b) rb w4 s2 va 0 s2 [] [] w'∧(N0=0→if nilS fQ_1 ver y0=true then va = .slice none 0 0 else ∃ a,va = .slice (some a) 0 0))) ?_ ?_
 ·by_cases hy0:(0:Int) < y0
  ·have hyv:Value.int .i32 y0 = .int .i32 ((N0:Nat):Int):=by rw [show y0=((N0:Nat):Int) by omega]
   repeat ((first|refine qA rfl ?_|apply qB|refine qC rfl ?_|apply qD|apply qE|apply qF|apply qG|apply qH);try simp (disch:=(first|omega|(simp only [qI,qJ,qK]<;>omega)|exact qL _)) only [go_sem,↓reduceIte,n0,reduceCtorEq,n1,n2,n3,n4,n5,i0,i1,i2,i3,i4,i5,i6,i7,hv_4])
   refine wp_appendZ (m:=N0) utQ_104 utQ_21 inQ_112 (by decide) (by first|rfl|simp (disch:=(first|omega|(simp only [qI,qJ,qK]<;>omega)|exact qL _)) only [go_sem,↓reduceIte,n0,reduceCtorEq,n1,n2,n3,n4,n5,i0,i1,i2,i3,i4,i5,i6,i7]) (by first|exact hyv|(simp (disch:=(first|omega|(simp only [qI,qJ,qK]<;>omega)|exact qL _)) only [go_sem,↓reduceIte,n0,reduceCtorEq,n1,n2,n3,n4,n5,i0,i1,i2,i3,i4,i5,i6,i7];exact hyv)) (by omega) (by omega) (by decide) ?_
   intro q rest hq1
   have hEw:Ext w4 (w4.drew.alloc (.cells (zs [.int .i16 0,.int .i16 0,.int .i16 0,.map none] N0++rest).toArray 112)):=(Upd.refl _ _).drew.alloc _
   repeat (first|simp (disch:=(first|omega|(simp only [qI,qJ,qK]<;>omega)|exact qL _)) only [go_sem,↓reduceIte,n0,reduceCtorEq,n1,n2,n3,n4,n5,i0,i1,i2,i3,i4,i5,i6,i7,hv_4]|refine qA rfl ?_|apply qB|refine qC rfl ?_|apply qD|apply qE|apply qF|apply qG|apply qH)
   exact ⟨(by simp (disch:=(first|omega|(simp only [qI,qJ,qK]<;>omega)|exact qL _)) only [go_sem,↓reduceIte,n0,reduceCtorEq,n1,n2,n3,n4,n5,i0,i1,i2,i3,i4,i5,i6,i7,Holds_nil,Holds_cons]),.slice (some ⟨w4.heap.size,0,none⟩) N0 q,(by simp (disch:=(first|omega|(simp only [qI,qJ,qK]<;>omega)|exact qL _)) only [go_sem,↓reduceIte,n0,reduceCtorEq,n1,n2,n3,n4,n5,i0,i1,i2,i3,i4,i5,i6,i7]),LstI.start (RowJ.start (by omega) hq1 (by show w4.heap.size≤w4.drew.heap.size;rw [size_drew];omega) (blk_alloc_new rfl)) ⟨hq4.1.upd hEw (fun h=>h) (fun _ _ _ h=>h),hq4.2.upd hEw fun h=>h⟩ (hEw.mono fun _ h=>h.elim),fun h0=>by omega⟩
  ·repeat ((first|refine qA rfl ?_|apply qB|refine qC rfl ?_|apply qD|apply qE|apply qF|apply qG|apply qH);try simp (disch:=(first|omega|(simp only [qI,qJ,qK]<;>omega)|exact qL _)) only [go_sem,↓reduceIte,n0,reduceCtorEq,n1,n2,n3,n4,n5,i0,i1,i2,i3,i4,i5,i6,i7,hv_4])
   exact ⟨(by simp (disch:=(first|omega|(simp only [qI,qJ,qK]<;>omega)|exact qL _)) only [go_sem,↓reduceIte,n0,reduceCtorEq,n1,n2,n3,n4,n5,i0,i1,i2,i3,i4,i5,i6,i7,Holds_nil,Holds_cons]),.slice none 0 0,(by simp (disch:=(first|omega|(simp only [qI,qJ,qK]<;>omega)|exact qL _)) only [go_sem,↓reduceIte,n0,reduceCtorEq,n1,n2,n3,n4,n5,i0,i1,i2,i3,i4,i5,i6,i7,slBase_00]),LstI.start (RowJ.zero (by omega) (fun _ h=>by cases h)) hq4 (Upd.refl _ _),fun _=>by rw [nilS_plain (by decide) (by omega)];exact rfl⟩
 rintro ρ w5 ⟨⟨e9,eA,eB,eC,e7,e8,-⟩,va0,aB,hL0,fO⟩
 repeat ((first|refine qA rfl ?_|apply qB|refine qC rfl ?_|apply qD|apply qE|apply qF|apply qG|apply qH);try simp (disch:=(first|omega|(simp only [qI,qJ,qK]<;>omega)|exact qL _)) only [go_sem,↓reduceIte,n0,reduceCtorEq,n1,n2,n3,n4,n5,i0,i1,i2,i3,i4,i5,i6,i7,hv_4,e9,eA,eB,eC,e7,e8,aB])
 refine W.exitRJ 0 (EndQ [(2,.bool false),(7,.pointer (some ⟨rb,0,none⟩)),(8,.int .i16 ver),(9,.bool true),(10,.pointer (some ⟨vb,0,none⟩)),(14,.int .i32 y0),(13,va0)] (fun w'=>∃ s xs css,LstI RT (rd1 (rdP (d+1) ver true) fQ_1.of fQ_1.sub false true) (Rep1 (RepS true (d+1)) fQ_1.of fQ_1.sub) 4 112 [.int .i16 0,.int .i16 0,.int .i16 0,.map none] w4.heap.size N0 ok (fun b=>ok b∨w1.heap.size≤b) rb w4 s2 va0 N0 s xs css w')) (W.loop (LoopQ [(2,.bool false),(7,.pointer (some ⟨rb,0,none⟩)),(8,.int .i16 ver),(9,.bool true),(10,.pointer (some ⟨vb,0,none⟩)),(14,.int .i32 y0),(13,va0)] 15 (fun j w'=>∃ s xs css,LstI RT (rd1 (rdP (d+1) ver true) fQ_1.of fQ_1.sub false true) (Rep1 (RepS true (d+1)) fQ_1.of fQ_1.sub) 4 112 [.int .i16 0,.int .i16 0,.int .i16 0,.map none] w4.heap.size N0 ok (fun b=>ok b∨w1.heap.size≤b) rb w4 s2 va0 j s xs css w')) (fun ρ _=>N0 - (RowKit.intOf (ρ 15)).toNat) ?_ ?_) ?_
 ·exact ⟨(by simp (disch:=(first|omega|(simp only [qI,qJ,qK]<;>omega)|exact qL _)) only [go_sem,↓reduceIte,n0,reduceCtorEq,n1,n2,n3,n4,n5,i0,i1,i2,i3,i4,i5,i6,i7,Holds_nil,Holds_cons,e9,eA,eB,eC,e7,e8,aB]),0,(by simp (disch:=(first|omega|(simp only [qI,qJ,qK]<;>omega)|exact qL _)) only [go_sem,↓reduceIte,n0,reduceCtorEq,n1,n2,n3,n4,n5,i0,i1,i2,i3,i4,i5,i6,i7,e9,eA,eB,eC,e7,e8,aB];all_goals rfl),s2,[],[],hL0⟩
 ·rintro ρ w6 ⟨⟨aE,aF,aG,aH,aC,aD,eD,-⟩,j1,aI,s3,xs0,css0,hL0⟩
  have hj0:=hL0.le
  have hq6:=hL0.rd
  have hU6:Upd (fun b=>b=vb∨b=rb) w1 w6:=hU4.trans' hL0.upd fun i _ h=>.inr h
  have hz6:=hL0.upd.size
  have hG6:Glo ev w6:=hG1.updS hU6 a8 aA
  by_cases dZ:j1 < N0
  ·obtain ⟨R1,q1,B1,b6,lY,lX,hA1,dK,dA⟩:=hL0.row.next dZ
   have m7:=blk_lt dK
   generalize css0.flatten=A1 at hA1 dK dA
   replace aB:ρ 13 = .slice (some ⟨R1,0,none⟩) N0 q1:=eD.trans b6
   have eF:∀ b,ownB va0 b→w4.heap.size≤b∧b < w6.heap.size:=fun b h=>hL0.row.own h
   have b9:∀ b,(fun b=>(ok b∨w1.heap.size≤b)∧¬ ownB va0 b) b→¬ (b=R1∨b=rb):=fun b hk h=>h.elim (fun e=>hk.2 ⟨_,_,_,b6,e⟩) (fun e=>hoM b hk.1 (.inr e))
   obtain ⟨X6,hX6⟩:∃ X:Array Value,X=(A1++(([.int .i16 0,.int .i16 0,.int .i16 0,.map none]:List Value)++B1)).toArray:=⟨_,rfl⟩
   have lP:blk w6 R1=some (X6,112,(0,0)):=by rw [hX6];exact dK
   have uP:j1 * 4+4≤X6.size:=by rw [hX6];simp only [List.size_toArray,List.length_append,List.length_cons,List.length_nil,hA1];omega
   repeat ((first|refine qA rfl ?_|apply qB|refine qC rfl ?_|apply qD|apply qE|apply qF|apply qG|apply qH);try simp (disch:=(first|omega|(simp only [qI,qJ,qK]<;>omega)|exact qL _)) only [go_sem,↓reduceIte,n0,reduceCtorEq,n1,n2,n3,n4,n5,i0,i1,i2,i3,i4,i5,i6,i7,lP,aE,aF,aG,aH,aC,aD,aB,aI])
   refine (DefaultEX3_fn w6 dK hA1).mono ?_
   rintro _ w7 ⟨g7,hu7⟩
   have hq7:=And.intro (hq6.1.upd hu7 (by omega) (fun b _ hk e=>by have:=(hok b hk).1;omega)) (hq6.2.upd hu7 (by omega))
   have hV7:Upd (fun b=>b=R1∨b=rb) w6 w7:=hu7.mono (fun _ h=>.inl h)
   have hU7:Upd (fun b=>b=vb∨b=rb) w1 w7:=hU6.trans' hV7 fun i hi h=>h.elim (fun h=>by omega) .inr
   have hz7:=hV7.size
   have hG7:Glo ev w7:=hG1.updS hU7 a8 aA
   obtain ⟨X7,hX7⟩:∃ X:Array Value,X=(A1++(([.int .i16 0,.int .i16 0,.int .i16 0,.map none]:List Value)++B1)).toArray:=⟨_,rfl⟩
   have lQ:blk w7 R1=some (X7,112,(0,0)):=by rw [hX7];exact g7
   have uQ:j1 * 4+4≤X7.size:=by rw [hX7];simp only [List.size_toArray,List.length_append,List.length_cons,List.length_nil,hA1];omega
   have kC:(rdL (rdP d ver true) (dfP d) ver true [fX3_0,fX3_1,fX3_2] s3).2=none→FB:=fun h=>fN (hL0.bad dZ rd1P_none (by show (rd1 (rdP (d+1) ver true) 10 fs_X3 false true s3).2=none;rw [rd1_part];exact rdP_bad h))
   have fK:hasS fX3_0 ver=true:=hasS_t (by show (0:Int)≤ver;omega) (by show (-1:Int) < 0∨ver≤(-1:Int);omega)
   obtain ⟨xe0_0,gA⟩:∃ x,x=(rdF (rdP d ver true) ver true fX3_0 s3).1:=⟨_,rfl⟩
   repeat ((first|refine qA rfl ?_|apply qB|refine qC rfl ?_|apply qD|apply qE|apply qF|apply qG|apply qH);try simp (disch:=(first|omega|(simp only [qI,qJ,qK]<;>omega)|exact qL _)) only [go_sem,↓reduceIte,n0,reduceCtorEq,n1,n2,n3,n4,n5,i0,i1,i2,i3,i4,i5,i6,i7,lQ,aE,aF,aG,aH,aC,aD,aB,aI])
   have hrd:rdF (rdP d ver true) ver true fX3_0 s3=_:=rdF_num 2 rfl (by decide)
   refine (Int16_fn w7 hq7.1 hrok hG7.1 hgrb).mono ?_
   rintro _ w8 ⟨rfl,hq8,hu8⟩
   have g8:=hu8.blk_some g7 (by omega)
   have hV8:Upd (fun b=>b=R1∨b=rb) w7 w8:=hu8.mono (fun _ h=>.inr h)
   have hU8:Upd (fun b=>b=vb∨b=rb) w1 w8:=hU7.trans' hV8 fun i hi h=>h.elim (fun h=>by omega) .inr
   have hz8:=hV8.size
   have hG8:Glo ev w8:=hG1.updS hU8 a8 aA
   obtain ⟨X8,hX8⟩:∃ X:Array Value,X=(A1++(([.int .i16 0,.int .i16 0,.int .i16 0,.map none]:List Value)++B1)).toArray:=⟨_,rfl⟩
   have lR:blk w8 R1=some (X8,112,(0,0)):=by rw [hX8];exact g8
   have uR:j1 * 4+4≤X8.size:=by rw [hX8];simp only [List.size_toArray,List.length_append,List.length_cons,List.length_nil,hA1];omega
   have hst:(rdF (rdP d ver true) ver true fX3_0 s3).2=(rdInt .i16 2 s3).2:=by first|(rw [hrd];rfl)|rw [hrd]
   obtain ⟨s4,hs4⟩:∃ s,s=(rdF (rdP d ver true) ver true fX3_0 s3).2:=⟨_,rfl⟩
   rw [← hst,← hs4] at hq8
   clear hst
   have l4:j1 * 4+1≤X8.size:=by omega
   repeat ((first|refine qA rfl ?_|apply qB|refine qC rfl ?_|apply qD|apply qE|apply qF|apply qG|apply qH);try simp (disch:=(first|omega|(simp only [qI,qJ,qK]<;>omega)|exact qL _)) only [go_sem,↓reduceIte,n0,reduceCtorEq,n1,n2,n3,n4,n5,i0,i1,i2,i3,i4,i5,i6,i7,lR,aE,aF,aG,aH,aC,aD,aB,aI,l4])
   generalize hw9:wr w8 R1 (j1 * 4) [.int .i16 (rdInt .i16 2 s3).1] = w9
   have hS9:Upd (fun b=>b=R1∨b=rb) w8 w9:=by rw [← hw9];exact (Upd.refl _ _).wr _ _ (.inr (.inl rfl))
   have g9:blk w9 R1=some ((A1++(([.int .i16 (rdInt .i16 2 s3).1,.int .i16 0,.int .i16 0,.map none]:List Value)++B1)).toArray,112,(0,0)):=by rw [← hw9];exact el_blk0 g8 hA1 (Nat.le_of_ble_eq_true rfl)
   have hV9:=hS9
   have hU9:Upd (fun b=>b=vb∨b=rb) w1 w9:=hU8.trans' hV9 fun i hi h=>h.elim (fun h=>by omega) .inr
   have hz9:=hV9.size
   have hG9:Glo ev w9:=hG1.updS hU9 a8 aA
   have hq9:Rdr RT ok w9 rb s4∧NN w9 rb s4:=by
    have hn:∀ x,x=w9→(Rdr RT ok x rb s4∧NN x rb s4):=fun x hx=>by
     rw [hx,← hw9]
     exact Rdr.store hq8 (by omega) (fun h=>by have:=(hok _ h).1;first|omega|exact (hok _ h).2 rfl)
    exact hn _ rfl
   obtain ⟨X9,hX9⟩:∃ X:Array Value,X=(A1++(([.int .i16 (rdInt .i16 2 s3).1,.int .i16 0,.int .i16 0,.map none]:List Value)++B1)).toArray:=⟨_,rfl⟩
   have lS:blk w9 R1=some (X9,112,(0,0)):=by rw [hX9];exact g9
   have uV:j1 * 4+4≤X9.size:=by rw [hX9];simp only [List.size_toArray,List.length_append,List.length_cons,List.length_nil,hA1];omega
   clear hw9
   have kE:RepF (RepS true d) (szS true d) fX3_0 (fun b=>(ok b∨w1.heap.size≤b)∧¬ ownB va0 b) w9 (xe0_0) [.int .i16 (rdInt .i16 2 s3).1]:=(RepF_num (by decide)).2 (by rw [gA,hrd];exact congrArg (fun x=>[x]) (numC_rd 2 (by decide) 2 s3).symm)
   clear hrd
   have kD:(rdL (rdP d ver true) (dfP d) ver true [fX3_1,fX3_2] s4).2=none→FB:=fun h=>kC (by rw [rdL_st (by decide) fK,← hs4];exact h)
   have fM:hasS fX3_1 ver=true:=hasS_t (by show (0:Int)≤ver;omega) (by show (-1:Int) < 0∨ver≤(-1:Int);omega)
   obtain ⟨xe0_1,gB⟩:∃ x,x=(rdF (rdP d ver true) ver true fX3_1 s4).1:=⟨_,rfl⟩
   repeat ((first|refine qA rfl ?_|apply qB|refine qC rfl ?_|apply qD|apply qE|apply qF|apply qG|apply qH);try simp (disch:=(first|omega|(simp only [qI,qJ,qK]<;>omega)|exact qL _)) only [go_sem,↓reduceIte,n0,reduceCtorEq,n1,n2,n3,n4,n5,i0,i1,i2,i3,i4,i5,i6,i7,lS,aE,aF,aG,aH,aC,aD,aB,aI])
   have hrd:rdF (rdP d ver true) ver true fX3_1 s4=_:=rdF_num 2 rfl (by decide)
   refine (Int16_fn w9 hq9.1 hrok hG9.1 hgrb).mono ?_
   rintro _ w10 ⟨rfl,fP,fS⟩
   have fW:=fS.blk_some g9 (by omega)
   have cY:Upd (fun b=>b=R1∨b=rb) w9 w10:=fS.mono (fun _ h=>.inr h)
   have f7:Upd (fun b=>b=vb∨b=rb) w1 w10:=hU9.trans' cY fun i hi h=>h.elim (fun h=>by omega) .inr
   have hz10:=cY.size
   have tD:Glo ev w10:=hG1.updS f7 a8 aA
   obtain ⟨X10,fC⟩:∃ X:Array Value,X=(A1++(([.int .i16 (rdInt .i16 2 s3).1,.int .i16 0,.int .i16 0,.map none]:List Value)++B1)).toArray:=⟨_,rfl⟩
   have lL:blk w10 R1=some (X10,112,(0,0)):=by rw [fC];exact fW
   have uI:j1 * 4+4≤X10.size:=by rw [fC];simp only [List.size_toArray,List.length_append,List.length_cons,List.length_nil,hA1];omega
   have hst:(rdF (rdP d ver true) ver true fX3_1 s4).2=(rdInt .i16 2 s4).2:=by first|(rw [hrd];rfl)|rw [hrd]
   obtain ⟨s5,hs5⟩:∃ s,s=(rdF (rdP d ver true) ver true fX3_1 s4).2:=⟨_,rfl⟩
   rw [← hst,← hs5] at fP
   clear hst
   have kZ:j1 * 4+2≤X10.size:=by omega
   repeat ((first|refine qA rfl ?_|apply qB|refine qC rfl ?_|apply qD|apply qE|apply qF|apply qG|apply qH);try simp (disch:=(first|omega|(simp only [qI,qJ,qK]<;>omega)|exact qL _)) only [go_sem,↓reduceIte,n0,reduceCtorEq,n1,n2,n3,n4,n5,i0,i1,i2,i3,i4,i5,i6,i7,lL,aE,aF,aG,aH,aC,aD,aB,aI,kZ])
   generalize dF:wr w10 R1 (j1 * 4+1) [.int .i16 (rdInt .i16 2 s4).1] = w11
   have jL:Upd (fun b=>b=R1∨b=rb) w10 w11:=by rw [← dF];exact (Upd.refl _ _).wr _ _ (.inr (.inl rfl))
   have fX:blk w11 R1=some ((A1++(([.int .i16 (rdInt .i16 2 s3).1,.int .i16 (rdInt .i16 2 s4).1,.int .i16 0,.map none]:List Value)++B1)).toArray,112,(0,0)):=by rw [← dF];exact el_blk (o:=1) fW hA1 (Nat.le_of_ble_eq_true rfl)
   have cZ:=jL
   have f8:Upd (fun b=>b=vb∨b=rb) w1 w11:=f7.trans' cZ fun i hi h=>h.elim (fun h=>by omega) .inr
   have xJ:=cZ.size
   have jJ:Glo ev w11:=hG1.updS f8 a8 aA
   have kP:Rdr RT ok w11 rb s5∧NN w11 rb s5:=by
    have hn:∀ x,x=w11→(Rdr RT ok x rb s5∧NN x rb s5):=fun x hx=>by
     rw [hx,← dF]
     exact Rdr.store fP (by omega) (fun h=>by have:=(hok _ h).1;first|omega|exact (hok _ h).2 rfl)
    exact hn _ rfl
   obtain ⟨X11,fD⟩:∃ X:Array Value,X=(A1++(([.int .i16 (rdInt .i16 2 s3).1,.int .i16 (rdInt .i16 2 s4).1,.int .i16 0,.map none]:List Value)++B1)).toArray:=⟨_,rfl⟩
   have lM:blk w11 R1=some (X11,112,(0,0)):=by rw [fD];exact fX
   have uJ:j1 * 4+4≤X11.size:=by rw [fD];simp only [List.size_toArray,List.length_append,List.length_cons,List.length_nil,hA1];omega
   clear dF
   have kF:RepF (RepS true d) (szS true d) fX3_1 (fun b=>(ok b∨w1.heap.size≤b)∧¬ ownB va0 b) w11 (xe0_1) [.int .i16 (rdInt .i16 2 s4).1]:=(RepF_num (by decide)).2 (by rw [gB,hrd];exact congrArg (fun x=>[x]) (numC_rd 2 (by decide) 2 s4).symm)
   clear hrd
   have vA:(rdL (rdP d ver true) (dfP d) ver true [fX3_2] s5).2=none→FB:=fun h=>kD (by rw [rdL_st (by decide) fM,← hs5];exact h)
   have kH:hasS fX3_2 ver=true:=hasS_t (by show (0:Int)≤ver;omega) (by show (-1:Int) < 0∨ver≤(-1:Int);omega)
   obtain ⟨xe0_2,gC⟩:∃ x,x=(rdF (rdP d ver true) ver true fX3_2 s5).1:=⟨_,rfl⟩
   repeat ((first|refine qA rfl ?_|apply qB|refine qC rfl ?_|apply qD|apply qE|apply qF|apply qG|apply qH);try simp (disch:=(first|omega|(simp only [qI,qJ,qK]<;>omega)|exact qL _)) only [go_sem,↓reduceIte,n0,reduceCtorEq,n1,n2,n3,n4,n5,i0,i1,i2,i3,i4,i5,i6,i7,lM,aE,aF,aG,aH,aC,aD,aB,aI])
   have hrd:rdF (rdP d ver true) ver true fX3_2 s5=_:=rdF_num 2 rfl (by decide)
   refine (Int16_fn w11 kP.1 hrok jJ.1 hgrb).mono ?_
   rintro _ w12 ⟨rfl,fQ,fT⟩
   have fY:=fT.blk_some fX (by omega)
   have d8:Upd (fun b=>b=R1∨b=rb) w11 w12:=fT.mono (fun _ h=>.inr h)
   have f9:Upd (fun b=>b=vb∨b=rb) w1 w12:=f8.trans' d8 fun i hi h=>h.elim (fun h=>by omega) .inr
   have xK:=d8.size
   have tE:Glo ev w12:=hG1.updS f9 a8 aA
   obtain ⟨X12,fE⟩:∃ X:Array Value,X=(A1++(([.int .i16 (rdInt .i16 2 s3).1,.int .i16 (rdInt .i16 2 s4).1,.int .i16 0,.map none]:List Value)++B1)).toArray:=⟨_,rfl⟩
   have lN:blk w12 R1=some (X12,112,(0,0)):=by rw [fE];exact fY
   have uM:j1 * 4+4≤X12.size:=by rw [fE];simp only [List.size_toArray,List.length_append,List.length_cons,List.length_nil,hA1];omega
   have hst:(rdF (rdP d ver true) ver true fX3_2 s5).2=(rdInt .i16 2 s5).2:=by first|(rw [hrd];rfl)|rw [hrd]
   obtain ⟨s6,hs6⟩:∃ s,s=(rdF (rdP d ver true) ver true fX3_2 s5).2:=⟨_,rfl⟩
   rw [← hst,← hs6] at fQ
   clear hst
   have l0:j1 * 4+3≤X12.size:=by omega
   repeat ((first|refine qA rfl ?_|apply qB|refine qC rfl ?_|apply qD|apply qE|apply qF|apply qG|apply qH);try simp (disch:=(first|omega|(simp only [qI,qJ,qK]<;>omega)|exact qL _)) only [go_sem,↓reduceIte,n0,reduceCtorEq,n1,n2,n3,n4,n5,i0,i1,i2,i3,i4,i5,i6,i7,lN,aE,aF,aG,aH,aC,aD,aB,aI,l0])
   generalize dG:wr w12 R1 (j1 * 4+2) [.int .i16 (rdInt .i16 2 s5).1] = w13
   have jM:Upd (fun b=>b=R1∨b=rb) w12 w13:=by rw [← dG];exact (Upd.refl _ _).wr _ _ (.inr (.inl rfl))
   have fZ:blk w13 R1=some ((A1++(([.int .i16 (rdInt .i16 2 s3).1,.int .i16 (rdInt .i16 2 s4).1,.int .i16 (rdInt .i16 2 s5).1,.map none]:List Value)++B1)).toArray,112,(0,0)):=by rw [← dG];exact el_blk (o:=2) fY hA1 (Nat.le_of_ble_eq_true rfl)
   have d9:=jM
   have iO:Upd (fun b=>b=vb∨b=rb) w1 w13:=f9.trans' d9 fun i hi h=>h.elim (fun h=>by omega) .inr
   have xM:=d9.size
   have tF:Glo ev w13:=hG1.updS iO a8 aA
   have kQ:Rdr RT ok w13 rb s6∧NN w13 rb s6:=by
    have hn:∀ x,x=w13→(Rdr RT ok x rb s6∧NN x rb s6):=fun x hx=>by
     rw [hx,← dG]
     exact Rdr.store fQ (by omega) (fun h=>by have:=(hok _ h).1;first|omega|exact (hok _ h).2 rfl)
    exact hn _ rfl
   obtain ⟨X13,fG⟩:∃ X:Array Value,X=(A1++(([.int .i16 (rdInt .i16 2 s3).1,.int .i16 (rdInt .i16 2 s4).1,.int .i16 (rdInt .i16 2 s5).1,.map none]:List Value)++B1)).toArray:=⟨_,rfl⟩
   have iL:blk w13 R1=some (X13,112,(0,0)):=by rw [fG];exact fZ
   have uO:j1 * 4+4≤X13.size:=by rw [fG];simp only [List.size_toArray,List.length_append,List.length_cons,List.length_nil,hA1];omega
   clear dG
   have kG:RepF (RepS true d) (szS true d) fX3_2 (fun b=>(ok b∨w1.heap.size≤b)∧¬ ownB va0 b) w13 (xe0_2) [.int .i16 (rdInt .i16 2 s5).1]:=(RepF_num (by decide)).2 (by rw [gC,hrd];exact congrArg (fun x=>[x]) (numC_rd 2 (by decide) 2 s5).symm)
   clear hrd
   have kN:rdL (rdP d ver true) (dfP d) ver true [] s6=([],s6):=rfl
   have kM:rdL (rdP d ver true) (dfP d) ver true [fX3_2] s5=([xe0_2],s6):=by rw [rdL_st (by decide) kH,← gC,← hs6,kN]
   have kL:rdL (rdP d ver true) (dfP d) ver true [fX3_1,fX3_2] s4=([xe0_1,xe0_2],s6):=by rw [rdL_st (by decide) fM,← gB,← hs5,kM]
   have kK:rdL (rdP d ver true) (dfP d) ver true [fX3_0,fX3_1,fX3_2] s3=([xe0_0,xe0_1,xe0_2],s6):=by rw [rdL_st (by decide) fK,← gA,← hs4,kL]
   have iR:rdP (d+1) ver true fs_X3 s3=(.mk 0 [] false [xe0_0,xe0_1,xe0_2] (rdTags s6).1,(rdTags s6).2):=rdP_t kK
   repeat ((first|refine qA rfl ?_|apply qB|refine qC rfl ?_|apply qD|apply qE|apply qF|apply qG|apply qH);try simp (disch:=(first|omega|(simp only [qI,qJ,qK]<;>omega)|exact qL _)) only [go_sem,↓reduceIte,n0,reduceCtorEq,n1,n2,n3,n4,n5,i0,i1,i2,i3,i4,i5,i6,i7,iL,aE,aF,aG,aH,aC,aD,aB,aI])
   refine (ReadTags_fn w13 kQ.1 hrok).mono ?_
   rintro _ w14 ⟨qme0,rfl,m8,hTn,iX,fV⟩
   have wV:=fV.blk_some fZ (by omega)
   have dL:Upd (fun b=>b=R1∨b=rb) w13 w14:=fV.mono (fun _ h=>.inr h)
   have fA:Upd (fun b=>b=vb∨b=rb) w1 w14:=iO.trans' dL fun i hi h=>h.elim (fun h=>by omega) .inr
   have xN:=dL.size
   have tG:Glo ev w14:=hG1.updS fA a8 aA
   obtain ⟨X14,uA⟩:∃ X:Array Value,X=(A1++(([.int .i16 (rdInt .i16 2 s3).1,.int .i16 (rdInt .i16 2 s4).1,.int .i16 (rdInt .i16 2 s5).1,.map none]:List Value)++B1)).toArray:=⟨_,rfl⟩
   have CQ:blk w14 R1=some (X14,112,(0,0)):=by rw [uA];exact wV
   have DQ:j1 * 4+4≤X14.size:=by rw [uA];simp only [List.size_toArray,List.length_append,List.length_cons,List.length_nil,hA1];omega
   obtain ⟨s7,hs7⟩:∃ s,s=(rdTags s6).2:=⟨_,rfl⟩
   rw [← hs7] at iX iR
   have CB:j1 * 4+4≤X14.size:=by omega
   repeat (first|simp (disch:=(first|omega|(simp only [qI,qJ,qK]<;>omega)|exact qL _)) only [go_sem,↓reduceIte,n0,reduceCtorEq,n1,n2,n3,n4,n5,i0,i1,i2,i3,i4,i5,i6,i7,CQ,aE,aF,aG,aH,aC,aD,aB,aI,CB]|refine qA rfl ?_|apply qB|refine qC rfl ?_|apply qD|apply qE|apply qF|apply qG|apply qH)
   generalize dH:wr w14 R1 (j1 * 4+3) [.map qme0] = w15
   have jN:Upd (fun b=>b=R1∨b=rb) w14 w15:=by rw [← dH];exact (Upd.refl _ _).wr _ _ (.inr (.inl rfl))
   have wW:blk w15 R1=some ((A1++(([.int .i16 (rdInt .i16 2 s3).1,.int .i16 (rdInt .i16 2 s4).1,.int .i16 (rdInt .i16 2 s5).1,.map qme0]:List Value)++B1)).toArray,112,(0,0)):=by rw [← dH];exact el_blk (o:=3) wV hA1 (Nat.le_of_ble_eq_true rfl)
   have cP:=jN
   have gF:Upd (fun b=>b=vb∨b=rb) w1 w15:=fA.trans' cP fun i hi h=>h.elim (fun h=>by omega) .inr
   have xO:=cP.size
   have lW:Glo ev w15:=hG1.updS gF a8 aA
   have kR:Rdr RT ok w15 rb s7∧NN w15 rb s7:=by
    have hn:∀ x,x=w15→(Rdr RT ok x rb s7∧NN x rb s7):=fun x hx=>by
     rw [hx,← dH]
     exact Rdr.store iX (by omega) (fun h=>by have:=(hok _ h).1;first|omega|exact (hok _ h).2 rfl)
    exact hn _ rfl
   obtain ⟨X15,uC⟩:∃ X:Array Value,X=(A1++(([.int .i16 (rdInt .i16 2 s3).1,.int .i16 (rdInt .i16 2 s4).1,.int .i16 (rdInt .i16 2 s5).1,.map qme0]:List Value)++B1)).toArray:=⟨_,rfl⟩
   have wX:blk w15 R1=some (X15,112,(0,0)):=by rw [uC];exact wW
   have DR:j1 * 4+4≤X15.size:=by rw [uC];simp only [List.size_toArray,List.length_append,List.length_cons,List.length_nil,hA1];omega
   clear dH
   have jO:TagsM (fun b=>(ok b∨w1.heap.size≤b)∧¬ ownB va0 b) w15 (.map qme0) (rdTags s6).1:=(m8.weaken fun b _ hk=>hk.elim (fun hk=>⟨.inl hk,fun ho=>by have:=(eF b ho).1;have:=(hok b hk).1;omega⟩) (fun h=>by have h':w13.heap.size≤b:=h;exact ⟨.inr (by omega),fun ho=>by have:=(eF _ ho).2;omega⟩)).keep (cP.keeps fun b _ hk e=>b9 b hk e)
   have xX:Upd (fun b=>b=R1∨b=rb) w15 w15:=Upd.refl _ _
   have xW:Upd (fun b=>b=R1∨b=rb) w14 w15:=cP.trans xX
   have eZ:Upd (fun b=>b=R1∨b=rb) w13 w15:=dL.trans xW
   have jF:Upd (fun b=>b=R1∨b=rb) w12 w15:=d9.trans eZ
   have eY:Upd (fun b=>b=R1∨b=rb) w11 w15:=d8.trans jF
   have jE:Upd (fun b=>b=R1∨b=rb) w10 w15:=cZ.trans eY
   have f5:Upd (fun b=>b=R1∨b=rb) w9 w15:=cY.trans jE
   have jH:Upd (fun b=>b=R1∨b=rb) w8 w15:=hV9.trans f5
   have jG:Upd (fun b=>b=R1∨b=rb) w7 w15:=hV8.trans jH
   have sS:Upd (fun b=>b=R1∨b=rb) w6 w15:=hV7.trans jG
   have jK:RepS true (d+1) fs_X3 (fun b=>(ok b∨w1.heap.size≤b)∧¬ ownB va0 b) w15 (.mk 0 [] false [xe0_0,xe0_1,xe0_2] (rdTags s6).1) [.int .i16 (rdInt .i16 2 s3).1,.int .i16 (rdInt .i16 2 s4).1,.int .i16 (rdInt .i16 2 s5).1,.map qme0]:=RepS.introT (c:=[.int .i16 (rdInt .i16 2 s3).1,.int .i16 (rdInt .i16 2 s4).1,.int .i16 (rdInt .i16 2 s5).1]) (RepL.cons1 (kE.keepS (f5.keeps fun b _ hk e=>b9 b hk e)) (RepL.cons1 (kF.keepS (eY.keeps fun b _ hk e=>b9 b hk e)) (RepL.cons1 (kG.keepS (eZ.keeps fun b _ hk e=>b9 b hk e)) RepL.nil))) jO
   have hrE:(rd1 (rdP (d+1) ver true) fQ_1.of fQ_1.sub false true) s3=((.mk 0 [] false [xe0_0,xe0_1,xe0_2] (rdTags s6).1),s7):=by rw [show (rd1 (rdP (d+1) ver true) fQ_1.of fQ_1.sub false true) s3=_ from rd1_part];exact iR
   have hxE:(Rep1 (RepS true (d+1)) fQ_1.of fQ_1.sub) (fun b=>(ok b∨w1.heap.size≤b)∧¬ ownB va0 b) w15 (.mk 0 [] false [xe0_0,xe0_1,xe0_2] (rdTags s6).1) [.int .i16 (rdInt .i16 2 s3).1,.int .i16 (rdInt .i16 2 s4).1,.int .i16 (rdInt .i16 2 s5).1,.map qme0]:=Rep1_part.2 jK
   repeat ((first|refine qA rfl ?_|apply qB|refine qC rfl ?_|apply qD|apply qE|apply qF|apply qG|apply qH);try simp (disch:=(first|omega|(simp only [qI,qJ,qK]<;>omega)|exact qL _)) only [go_sem,↓reduceIte,n0,reduceCtorEq,n1,n2,n3,n4,n5,i0,i1,i2,i3,i4,i5,i6,i7,wX,aE,aF,aG,aH,aC,aD,aB,aI])
   have hTk:Upd (fun b=>b=R1∨b=rb) w6 w15:=((((((((hV7.trans hV8).trans hV9).trans cY).trans cZ).trans d8).trans d9).trans dL).trans cP)
   have hL':=hL0.step (Rep1_lay _ _ fun _=>RepS_lay true _ _) dZ (dA w15 [.int .i16 (rdInt .i16 2 s3).1,.int .i16 (rdInt .i16 2 s4).1,.int .i16 (rdInt .i16 2 s5).1,.map qme0] rfl wW) (by rw [hrE];exact hxE) (hTk.mono fun b h=>h.imp (fun e=>⟨_,_,_,b6,e⟩) id) (by rw [hrE];exact kR) (fun h=>hoM rb h (.inr rfl)) (Nat.le_refl _)
   have hij:IntKind.i32.wrap ((j1:Int)+1)=((j1+1:Nat):Int):=by rw [i32_wrap (by omega)];omega
   repeat ((first|refine qA rfl ?_|apply qB|refine qC rfl ?_|apply qD|apply qE|apply qF|apply qG|apply qH);try simp (disch:=(first|omega|(simp only [qI,qJ,qK]<;>omega)|exact qL _)) only [go_sem,↓reduceIte,n0,reduceCtorEq,n1,n2,n3,n4,n5,i0,i1,i2,i3,i4,i5,i6,i7,wX,aE,aF,aG,aH,aC,aD,aB,aI,hij])
   refine ⟨⟨(by simp (disch:=(first|omega|(simp only [qI,qJ,qK]<;>omega)|exact qL _)) only [go_sem,↓reduceIte,n0,reduceCtorEq,n1,n2,n3,n4,n5,i0,i1,i2,i3,i4,i5,i6,i7,Holds_nil,Holds_cons,aE,aF,aG,aH,aC,aD,aB,aI];exact b6.symm),j1+1,(by simp (disch:=(first|omega|(simp only [qI,qJ,qK]<;>omega)|exact qL _)) only [go_sem,↓reduceIte,n0,reduceCtorEq,n1,n2,n3,n4,n5,i0,i1,i2,i3,i4,i5,i6,i7,aE,aF,aG,aH,aC,aD,aB,aI,hij];all_goals rfl),_,_,_,hL'⟩,?_⟩
   try simp (disch:=(first|omega|(simp only [qI,qJ,qK]<;>omega)|exact qL _)) only [go_sem,↓reduceIte,n0,reduceCtorEq,n1,n2,n3,n4,n5,i0,i1,i2,i3,i4,i5,i6,i7,aE,aF,aG,aH,aC,aD,aB,aI]
   simp only [RowKit.intOf]
   omega
  ·have hjN:j1=N0:=by omega
   rw [hjN] at hL0
   repeat ((first|refine qA rfl ?_|apply qB|refine qC rfl ?_|apply qD|apply qE|apply qF|apply qG|apply qH);try simp (disch:=(first|omega|(simp only [qI,qJ,qK]<;>omega)|exact qL _)) only [go_sem,↓reduceIte,n0,reduceCtorEq,n1,n2,n3,n4,n5,i0,i1,i2,i3,i4,i5,i6,i7,aE,aF,aG,aH,aC,aD,eD,aI])
   exact ⟨(by simp (disch:=(first|omega|(simp only [qI,qJ,qK]<;>omega)|exact qL _)) only [go_sem,↓reduceIte,n0,reduceCtorEq,n1,n2,n3,n4,n5,i0,i1,i2,i3,i4,i5,i6,i7,Holds_nil,Holds_cons,aE,aF,aG,aH,aC,aD,eD,aI]),s3,xs0,css0,hL0⟩
 rintro ρ w16 ⟨⟨bN,bO,bP,bQ,bJ,bM,bK,-⟩,s8,xs0,css0,hL0⟩
 have mN:=hL0.rd
 have l5:=hL0.upd
 have hv_16:=l5.blk_some hv_4 (by omega)
 have dW:Upd (fun b=>b=vb∨b=rb) w4 w16:=l5.mono (fun _ h=>.inr h)
 have eG:Upd (fun b=>b=vb∨b=rb) w1 w16:=hU4.trans dW
 have xP:=dW.size
 have yH:Glo ev w16:=hG1.updS eG a8 aA
 have fR:rdF (rdP (d+1) ver true) ver true fQ_1 s1=(.mk 0 [] (nilS fQ_1 ver y0) xs0 [],s8):=by
  have h:=rdF_listE (pt:=(rdP (d+1) ver true)) (v:=ver) (flex:=true) (f:=fQ_1) (s:=s1) (xs:=xs0) (e:=s8) rfl (by rw [hy0,← hN0,← hs2];exact hL0.done)
  rw [hy0] at h;exact h
 have hs8:s8=(rdF (rdP (d+1) ver true) ver true fQ_1 s1).2:=by rw [fR]
 obtain ⟨aa0,qq0,lB⟩:=hL0.row.shape
 subst lB
 repeat ((first|refine qA rfl ?_|apply qB|refine qC rfl ?_|apply qD|apply qE|apply qF|apply qG|apply qH);try simp (disch:=(first|omega|(simp only [qI,qJ,qK]<;>omega)|exact qL _)) only [go_sem,↓reduceIte,n0,reduceCtorEq,n1,n2,n3,n4,n5,i0,i1,i2,i3,i4,i5,i6,i7,hv_16,bN,bO,bP,bQ,bJ,bM,bK])
 generalize dI:wr w16 vb 2 [.slice aa0 N0 qq0] = w17
 have oM:Upd (fun b=>b=vb∨b=rb) w16 w17:=by rw [← dI];exact (Upd.refl _ _).wr _ _ (.inr (.inl rfl))
 have hv_17:blk w17 vb=some (#[.int .i16 ver,.int .i16 (rdInt .i16 2 s0).1,.slice aa0 N0 qq0,.int .i32 0,.slice none 0 0,.int .i64 (-1),.slice none 0 0,.bool false,.map none],108,(0,0)):=by rw [← dI,blk_wr_eq,hv_16];rfl
 have dM:=oM
 have eH:Upd (fun b=>b=vb∨b=rb) w1 w17:=eG.trans dM
 have xQ:=dM.size
 have nZ:Glo ev w17:=hG1.updS eH a8 aA
 have pU:Rdr RT ok w17 rb s8∧NN w17 rb s8:=by
  have hn:∀ x,x=w17→(Rdr RT ok x rb s8∧NN x rb s8):=fun x hx=>by
   rw [hx,← dI]
   exact Rdr.store mN (by omega) (fun h=>by have:=(hok _ h).1;first|omega|exact (hok _ h).2 rfl)
  exact hn _ rfl
 clear dI
 have hf_1:RepF (RepS true (d+1)) (szS true (d+1)) fQ_1 (fun b=>ok b∨w1.heap.size≤b) w17 (x_1) [.slice aa0 N0 qq0]:=by rw [hx_1,fR];exact RepF.keepS (RepF_row rfl fO hN0 rfl hL0.row hL0.all (fun b hb=>.inr (by omega))) (dM.keeps fun b _ hk e=>(hoM b hk) e)
 clear hL0 fO
 have hb_2:(rdL (rdP (d+1) ver true) (dfP (d+1)) ver true [fQ_2,fQ_3,fQ_4,fQ_5,fQ_6] s8).2=none→FB:=fun h=>hb_1 (by rw [rdL_st (by decide) hh_1,← hs8];exact h)
 have hh_2:hasS fQ_2 ver=true:=hasS_t (by show (1:Int)≤ver;omega) (by show (-1:Int) < 0∨ver≤(-1:Int);omega)
 obtain ⟨x_2,hx_2⟩:∃ x,x=(rdF (rdP (d+1) ver true) ver true fQ_2 s8).1:=⟨_,rfl⟩
 repeat ((first|refine qA rfl ?_|apply qB|refine qC rfl ?_|apply qD|apply qE|apply qF|apply qG|apply qH);try simp (disch:=(first|omega|(simp only [qI,qJ,qK]<;>omega)|exact qL _)) only [go_sem,↓reduceIte,n0,reduceCtorEq,n1,n2,n3,n4,n5,i0,i1,i2,i3,i4,i5,i6,i7,hv_17,bN,bO,bP,bQ,bJ,bM,bK])
 have hrd:rdF (rdP (d+1) ver true) ver true fQ_2 s8=_:=rdF_num 3 rfl (by decide)
 refine (Int32_fn w17 pU.1 hrok nZ.1 hgrb).mono ?_
 rintro _ w18 ⟨rfl,wA,wP⟩
 have hv_18:=wP.blk_some hv_17 (by omega)
 have gG:Upd (fun b=>b=vb∨b=rb) w17 w18:=wP.mono (fun _ h=>.inr h)
 have iP:Upd (fun b=>b=vb∨b=rb) w1 w18:=eH.trans gG
 have sN:=gG.size
 have DL:Glo ev w18:=hG1.updS iP a8 aA
 have hst:(rdF (rdP (d+1) ver true) ver true fQ_2 s8).2=(rdInt .i32 4 s8).2:=by first|(rw [hrd];rfl)|rw [hrd]
 obtain ⟨s9,hs9⟩:∃ s,s=(rdF (rdP (d+1) ver true) ver true fQ_2 s8).2:=⟨_,rfl⟩
 rw [← hst,← hs9] at wA
 clear hst
 repeat ((first|refine qA rfl ?_|apply qB|refine qC rfl ?_|apply qD|apply qE|apply qF|apply qG|apply qH);try simp (disch:=(first|omega|(simp only [qI,qJ,qK]<;>omega)|exact qL _)) only [go_sem,↓reduceIte,n0,reduceCtorEq,n1,n2,n3,n4,n5,i0,i1,i2,i3,i4,i5,i6,i7,hv_18,bN,bO,bP,bQ,bJ,bM,bK])
 generalize nB:wr w18 vb 3 [.int .i32 (rdInt .i32 4 s8).1] = w19
 have z8:Upd (fun b=>b=vb∨b=rb) w18 w19:=by rw [← nB];exact (Upd.refl _ _).wr _ _ (.inr (.inl rfl))
 have hv_19:blk w19 vb=some (#[.int .i16 ver,.int .i16 (rdInt .i16 2 s0).1,.slice aa0 N0 qq0,.int .i32 (rdInt .i32 4 s8).1,.slice none 0 0,.int .i64 (-1),.slice none 0 0,.bool false,.map none],108,(0,0)):=by rw [← nB,blk_wr_eq,hv_18];rfl
 have m9:=z8
 have u1:Upd (fun b=>b=vb∨b=rb) w1 w19:=iP.trans m9
 have D0:=m9.size
 have DM:Glo ev w19:=hG1.updS u1 a8 aA
 have BM:Rdr RT ok w19 rb s9∧NN w19 rb s9:=by
  have hn:∀ x,x=w19→(Rdr RT ok x rb s9∧NN x rb s9):=fun x hx=>by
   rw [hx,← nB]
   exact Rdr.store wA (by omega) (fun h=>by have:=(hok _ h).1;first|omega|exact (hok _ h).2 rfl)
  exact hn _ rfl
 clear nB
 have hf_2:RepF (RepS true (d+1)) (szS true (d+1)) fQ_2 (fun b=>ok b∨w1.heap.size≤b) w19 (x_2) [.int .i32 (rdInt .i32 4 s8).1]:=(RepF_num (by decide)).2 (by rw [hx_2,hrd];exact congrArg (fun x=>[x]) (numC_rd 3 (by decide) 4 s8).symm)
 clear hrd
 have hb_3:(rdL (rdP (d+1) ver true) (dfP (d+1)) ver true [fQ_3,fQ_4,fQ_5,fQ_6] s9).2=none→FB:=fun h=>hb_2 (by rw [rdL_st (by decide) hh_2,← hs9];exact h)
 obtain ⟨x_3,hx_3⟩:∃ x,x=dfF (dfP (d+1)) fQ_3:=⟨_,rfl⟩
 have hf_3:RepF (RepS true (d+1)) (szS true (d+1)) fQ_3 (fun b=>ok b∨w1.heap.size≤b) w19 (x_3) [.slice none 0 0]:=by rw [hx_3];exact RepF_nil rfl
 have hb_4:(rdL (rdP (d+1) ver true) (dfP (d+1)) ver true [fQ_4,fQ_5,fQ_6] s9).2=none→FB:=fun h=>hb_3 (by rw [rdL_tg (by decide)];exact h)
 obtain ⟨x_4,hx_4⟩:∃ x,x=dfF (dfP (d+1)) fQ_4:=⟨_,rfl⟩
 have hf_4:RepF (RepS true (d+1)) (szS true (d+1)) fQ_4 (fun b=>ok b∨w1.heap.size≤b) w19 (x_4) [.int .i64 (-1)]:=by rw [hx_4];exact (RepF_num (by decide)).2 rfl
 have hb_5:(rdL (rdP (d+1) ver true) (dfP (d+1)) ver true [fQ_5,fQ_6] s9).2=none→FB:=fun h=>hb_4 (by rw [rdL_tg (by decide)];exact h)
 obtain ⟨x_5,hx_5⟩:∃ x,x=dfF (dfP (d+1)) fQ_5:=⟨_,rfl⟩
 have hf_5:RepF (RepS true (d+1)) (szS true (d+1)) fQ_5 (fun b=>ok b∨w1.heap.size≤b) w19 (x_5) [.slice none 0 0]:=by rw [hx_5];exact RepF_nil rfl
 have hb_6:(rdL (rdP (d+1) ver true) (dfP (d+1)) ver true [fQ_6] s9).2=none→FB:=fun h=>hb_5 (by rw [rdL_tg (by decide)];exact h)
 obtain ⟨x_6,hx_6⟩:∃ x,x=dfF (dfP (d+1)) fQ_6:=⟨_,rfl⟩
 have hf_6:RepF (RepS true (d+1)) (szS true (d+1)) fQ_6 (fun b=>ok b∨w1.heap.size≤b) w19 (x_6) [.bool false]:=by rw [hx_6];exact (RepF_num (by decide)).2 rfl
 have hl_7:rdL (rdP (d+1) ver true) (dfP (d+1)) ver true [] s9=([],s9):=rfl
 have hl_6:rdL (rdP (d+1) ver true) (dfP (d+1)) ver true [fQ_6] s9=([x_6],s9):=by rw [rdL_tg (by decide),← hx_6,hl_7]
 have hl_5:rdL (rdP (d+1) ver true) (dfP (d+1)) ver true [fQ_5,fQ_6] s9=([x_5,x_6],s9):=by rw [rdL_tg (by decide),← hx_5,hl_6]
 have hl_4:rdL (rdP (d+1) ver true) (dfP (d+1)) ver true [fQ_4,fQ_5,fQ_6] s9=([x_4,x_5,x_6],s9):=by rw [rdL_tg (by decide),← hx_4,hl_5]
 have hl_3:rdL (rdP (d+1) ver true) (dfP (d+1)) ver true [fQ_3,fQ_4,fQ_5,fQ_6] s9=([x_3,x_4,x_5,x_6],s9):=by rw [rdL_tg (by decide),← hx_3,hl_4]
 have hl_2:rdL (rdP (d+1) ver true) (dfP (d+1)) ver true [fQ_2,fQ_3,fQ_4,fQ_5,fQ_6] s8=([x_2,x_3,x_4,x_5,x_6],s9):=by rw [rdL_st (by decide) hh_2,← hx_2,← hs9,hl_3]
 have hl_1:rdL (rdP (d+1) ver true) (dfP (d+1)) ver true [fQ_1,fQ_2,fQ_3,fQ_4,fQ_5,fQ_6] s1=([x_1,x_2,x_3,x_4,x_5,x_6],s9):=by rw [rdL_st (by decide) hh_1,← hx_1,← hs8,hl_2]
 have hl_0:rdL (rdP (d+1) ver true) (dfP (d+1)) ver true [fQ_0,fQ_1,fQ_2,fQ_3,fQ_4,fQ_5,fQ_6] s0=([x_0,x_1,x_2,x_3,x_4,x_5,x_6],s9):=by rw [rdL_st (by decide) hh_0,← hx_0,← hs1,hl_1]
 repeat ((first|refine qA rfl ?_|apply qB|refine qC rfl ?_|apply qD|apply qE|apply qF|apply qG|apply qH);try simp (disch:=(first|omega|(simp only [qI,qJ,qK]<;>omega)|exact qL _)) only [go_sem,↓reduceIte,n0,reduceCtorEq,n1,n2,n3,n4,n5,i0,i1,i2,i3,i4,i5,i6,i7,hv_19,bN,bO,bP,bQ,bJ,bM,bK])
 refine (RUvarint_fn w19 BM.1 hrok).mono ?_
 rintro _ w20 ⟨rfl,wB,wQ⟩
 have hv_20:=wQ.blk_some hv_19 (by omega)
 have mA:Upd (fun b=>b=vb∨b=rb) w19 w20:=wQ.mono (fun _ h=>.inr h)
 have oT:Upd (fun b=>b=vb∨b=rb) w1 w20:=u1.trans mA
 have EB:=mA.size
 have DN:Glo ev w20:=hG1.updS oT a8 aA
 have hNl:=rdUv_lt s9
 obtain ⟨s10,rG⟩:∃ s,s=(rdUv s9).2:=⟨_,rfl⟩
 rw [← rG] at wB
 obtain ⟨NT,hNT⟩:∃ N,N=(rdUv s9).1:=⟨_,rfl⟩
 rw [← hNT] at hNl
 try rw [← hNT]
 have hCt_20:Upd (fun b=>b=vb∨b=rb) w20 w20:=Upd.refl _ _
 have hCt_19:Upd (fun b=>b=vb∨b=rb) w19 w20:=mA.trans hCt_20
 have hCt_18:Upd (fun b=>b=vb∨b=rb) w18 w20:=m9.trans hCt_19
 have hCt_17:Upd (fun b=>b=vb∨b=rb) w17 w20:=gG.trans hCt_18
 have hCt_16:Upd (fun b=>b=vb∨b=rb) w16 w20:=dM.trans hCt_17
 have hCt_4:Upd (fun b=>b=vb∨b=rb) w4 w20:=dW.trans hCt_16
 have hCt_3:Upd (fun b=>b=vb∨b=rb) w3 w20:=hV4.trans hCt_4
 have hCt_2:Upd (fun b=>b=vb∨b=rb) w2 w20:=hV3.trans hCt_3
 have hCt_1:Upd (fun b=>b=vb∨b=rb) w1 w20:=hV2.trans hCt_2
 have hgt_0:RepF (RepS true (d+1)) (szS true (d+1)) fQ_0 (fun b=>(ok b∨w1.heap.size≤b)∧b < w20.heap.size) w20 x_0 [.int .i16 (rdInt .i16 2 s0).1]:=RepF.weakenS (hf_0.keepS (hCt_3.keeps fun b _ hk e=>(hoM b hk) e)) fun b hb hk=>⟨hk,hb⟩
 have hgt_1:RepF (RepS true (d+1)) (szS true (d+1)) fQ_1 (fun b=>(ok b∨w1.heap.size≤b)∧b < w20.heap.size) w20 x_1 [.slice aa0 N0 qq0]:=RepF.weakenS (hf_1.keepS (hCt_17.keeps fun b _ hk e=>(hoM b hk) e)) fun b hb hk=>⟨hk,hb⟩
 have hgt_2:RepF (RepS true (d+1)) (szS true (d+1)) fQ_2 (fun b=>(ok b∨w1.heap.size≤b)∧b < w20.heap.size) w20 x_2 [.int .i32 (rdInt .i32 4 s8).1]:=RepF.weakenS (hf_2.keepS (hCt_19.keeps fun b _ hk e=>(hoM b hk) e)) fun b hb hk=>⟨hk,hb⟩
 have hgt_3:RepF (RepS true (d+1)) (szS true (d+1)) fQ_3 (fun b=>(ok b∨w1.heap.size≤b)∧b < w20.heap.size) w20 x_3 [.slice none 0 0]:=RepF.weakenS (hf_3.keepS (hCt_19.keeps fun b _ hk e=>(hoM b hk) e)) fun b hb hk=>⟨hk,hb⟩
 have hgt_4:RepF (RepS true (d+1)) (szS true (d+1)) fQ_4 (fun b=>(ok b∨w1.heap.size≤b)∧b < w20.heap.size) w20 x_4 [.int .i64 (-1)]:=RepF.weakenS (hf_4.keepS (hCt_19.keeps fun b _ hk e=>(hoM b hk) e)) fun b hb hk=>⟨hk,hb⟩
 have hgt_5:RepF (RepS true (d+1)) (szS true (d+1)) fQ_5 (fun b=>(ok b∨w1.heap.size≤b)∧b < w20.heap.size) w20 x_5 [.slice none 0 0]:=RepF.weakenS (hf_5.keepS (hCt_19.keeps fun b _ hk e=>(hoM b hk) e)) fun b hb hk=>⟨hk,hb⟩
 have hgt_6:RepF (RepS true (d+1)) (szS true (d+1)) fQ_6 (fun b=>(ok b∨w1.heap.size≤b)∧b < w20.heap.size) w20 x_6 [.bool false]:=RepF.weakenS (hf_6.keepS (hCt_19.keeps fun b _ hk e=>(hoM b hk) e)) fun b hb hk=>⟨hk,hb⟩
 repeat ((first|refine qA rfl ?_|apply qB|refine qC rfl ?_|apply qD|apply qE|apply qF|apply qG|apply qH);try simp (disch:=(first|omega|(simp only [qI,qJ,qK]<;>omega)|exact qL _)) only [go_sem,↓reduceIte,n0,reduceCtorEq,n1,n2,n3,n4,n5,i0,i1,i2,i3,i4,i5,i6,i7,hv_20,bN,bO,bP,bQ,bJ,bM,bK])
 have hO0:tagOnce fs_Q NT [] s10:=by
  have h:=hT1 _ _ hl_0
  rw [← hNT,← rG] at h;exact h
 refine W.exitRJ 2 (EndQ [(2,.bool false),(7,.pointer (some ⟨rb,0,none⟩)),(8,.int .i16 ver),(9,.bool true),(10,.pointer (some ⟨vb,0,none⟩))] (fun w'=>∃ (u:List TagD) (st:St) (qm:Option Nat) (ks:List Nat) (y_3:Tree) (v_4:Value) (y_4:Tree) (v_5:Value) (y_5:Tree) (v_6:Value) (y_6:Tree) (v_7:Value),rdTg (rdP (d+1) ver true) ver true fs_Q 0 [x_0,x_1,x_2,y_3,y_4,y_5,y_6] u st=rdTgs (rdP (d+1) ver true) ver true fs_Q [x_0,x_1,x_2,x_3,x_4,x_5,x_6] s9∧blk w' vb=some (#[.int .i16 ver,.int .i16 (rdInt .i16 2 s0).1,.slice aa0 N0 qq0,.int .i32 (rdInt .i32 4 s8).1,v_4,v_5,v_6,v_7,.map qm],108,(0,0))∧RepF (RepS true (d+1)) (szS true (d+1)) fQ_3 (fun b=>(ok b∨w1.heap.size≤b)∧b < w'.heap.size∧¬ qm=some b) w' y_3 [v_4]∧RepF (RepS true (d+1)) (szS true (d+1)) fQ_4 (fun b=>(ok b∨w1.heap.size≤b)∧b < w'.heap.size∧¬ qm=some b) w' y_4 [v_5]∧RepF (RepS true (d+1)) (szS true (d+1)) fQ_5 (fun b=>(ok b∨w1.heap.size≤b)∧b < w'.heap.size∧¬ qm=some b) w' y_5 [v_6]∧RepF (RepS true (d+1)) (szS true (d+1)) fQ_6 (fun b=>(ok b∨w1.heap.size≤b)∧b < w'.heap.size∧¬ qm=some b) w' y_6 [v_7]∧tagOnce fs_Q 0 ks st∧(0∉ks→v_4 = .slice none 0 0)∧(2∉ks→v_6 = .slice none 0 0)∧TagsG ok w20.heap.size w' (.map qm) u∧(u.map (·.1)).Nodup∧(Rdr RT ok w' rb st∧NN w' rb st)∧Upd (fun b=>b=vb∨b=rb) w20 w')) (W.loop (LoopT [(2,.bool false),(7,.pointer (some ⟨rb,0,none⟩)),(8,.int .i16 ver),(9,.bool true),(10,.pointer (some ⟨vb,0,none⟩))] 22 (fun m w'=>∃ (u:List TagD) (st:St) (qm:Option Nat) (ks:List Nat) (y_3:Tree) (v_4:Value) (y_4:Tree) (v_5:Value) (y_5:Tree) (v_6:Value) (y_6:Tree) (v_7:Value),m≤NT∧rdTg (rdP (d+1) ver true) ver true fs_Q m [x_0,x_1,x_2,y_3,y_4,y_5,y_6] u st=rdTgs (rdP (d+1) ver true) ver true fs_Q [x_0,x_1,x_2,x_3,x_4,x_5,x_6] s9∧blk w' vb=some (#[.int .i16 ver,.int .i16 (rdInt .i16 2 s0).1,.slice aa0 N0 qq0,.int .i32 (rdInt .i32 4 s8).1,v_4,v_5,v_6,v_7,.map qm],108,(0,0))∧RepF (RepS true (d+1)) (szS true (d+1)) fQ_3 (fun b=>(ok b∨w1.heap.size≤b)∧b < w'.heap.size∧¬ qm=some b) w' y_3 [v_4]∧RepF (RepS true (d+1)) (szS true (d+1)) fQ_4 (fun b=>(ok b∨w1.heap.size≤b)∧b < w'.heap.size∧¬ qm=some b) w' y_4 [v_5]∧RepF (RepS true (d+1)) (szS true (d+1)) fQ_5 (fun b=>(ok b∨w1.heap.size≤b)∧b < w'.heap.size∧¬ qm=some b) w' y_5 [v_6]∧RepF (RepS true (d+1)) (szS true (d+1)) fQ_6 (fun b=>(ok b∨w1.heap.size≤b)∧b < w'.heap.size∧¬ qm=some b) w' y_6 [v_7]∧tagOnce fs_Q m ks st∧(0∉ks→v_4 = .slice none 0 0)∧(2∉ks→v_6 = .slice none 0 0)∧TagsG ok w20.heap.size w' (.map qm) u∧(u.map (·.1)).Nodup∧(Rdr RT ok w' rb st∧NN w' rb st)∧Upd (fun b=>b=vb∨b=rb) w20 w')) (fun ρ _=>(RowKit.intOf (ρ 22)).toNat) ?_ ?_) ?_
 ·exact ⟨(by simp (disch:=(first|omega|(simp only [qI,qJ,qK]<;>omega)|exact qL _)) only [go_sem,↓reduceIte,n0,reduceCtorEq,n1,n2,n3,n4,n5,i0,i1,i2,i3,i4,i5,i6,i7,Holds_nil,Holds_cons,bN,bO,bP,bQ,bJ,bM,bK]),NT,(by simp (disch:=(first|omega|(simp only [qI,qJ,qK]<;>omega)|exact qL _)) only [go_sem,↓reduceIte,n0,reduceCtorEq,n1,n2,n3,n4,n5,i0,i1,i2,i3,i4,i5,i6,i7,bN,bO,bP,bQ,bJ,bM,bK];all_goals rfl),[],s10,none,[],x_3,.slice none 0 0,x_4,.int .i64 (-1),x_5,.slice none 0 0,x_6,.bool false,Nat.le_refl _,(by unfold rdTgs;rw [← hNT,← rG]),hv_20,RepF.weakenS hgt_3 (fun b hb hk=>⟨hk.1,hb,fun h=>by cases h⟩),RepF.weakenS hgt_4 (fun b hb hk=>⟨hk.1,hb,fun h=>by cases h⟩),RepF.weakenS hgt_5 (fun b hb hk=>⟨hk.1,hb,fun h=>by cases h⟩),RepF.weakenS hgt_6 (fun b hb hk=>⟨hk.1,hb,fun h=>by cases h⟩),hO0,(fun _=>rfl),(fun _=>rfl),TagsG.start _ _ _,by simp,wB,Upd.refl _ _⟩
 ·rintro ρ w21 ⟨⟨hrt_2,hrt_7,hrt_8,hrt_9,hrt_10,-⟩,m,hri,u,s11,qm,ks,y_3,v_4,y_4,v_5,y_5,v_6,y_6,v_7,hmN,hE,hv_21,hfT_3,hfT_4,hfT_5,hfT_6,hO,hd_3,hd_5,hTG,hnd,wC,fB⟩
  have oU:Upd (fun b=>b=vb∨b=rb) w1 w21:=oT.trans fB
  have EC:=oU.size
  have EH:=fB.size
  have DO:Glo ev w21:=hG1.updS oU a8 aA
  have hmap:∀ b,qm=some b→b < w21.heap.size∧w20.heap.size≤b:=fun b h=>hTG.lt h
  by_cases hm0:m=0
  ·subst hm0
   have hc:¬ (0:Int) < ((0:Nat):Int):=by omega
   repeat ((first|refine qA rfl ?_|apply qB|refine qC rfl ?_|apply qD|apply qE|apply qF|apply qG|apply qH);try simp (disch:=(first|omega|(simp only [qI,qJ,qK]<;>omega)|exact qL _)) only [go_sem,↓reduceIte,n0,reduceCtorEq,n1,n2,n3,n4,n5,i0,i1,i2,i3,i4,i5,i6,i7,hv_21,hrt_2,hrt_7,hrt_8,hrt_9,hrt_10,hri])
   exact ⟨(by simp (disch:=(first|omega|(simp only [qI,qJ,qK]<;>omega)|exact qL _)) only [go_sem,↓reduceIte,n0,reduceCtorEq,n1,n2,n3,n4,n5,i0,i1,i2,i3,i4,i5,i6,i7,Holds_nil,Holds_cons,hrt_2,hrt_7,hrt_8,hrt_9,hrt_10,hri]),u,s11,qm,ks,y_3,v_4,y_4,v_5,y_5,v_6,y_6,v_7,hE,hv_21,hfT_3,hfT_4,hfT_5,hfT_6,hO,hd_3,hd_5,hTG,hnd,wC,fB⟩
  ·obtain ⟨m,rfl⟩:∃ q,m=q+1:=⟨m - 1,by omega⟩
   have hw1:IntKind.u32.wrap (((m+1:Nat):Int) - 1)=((m:Nat):Int):=by rw [u32_wrap (by omega)];omega
   repeat ((first|refine qA rfl ?_|apply qB|refine qC rfl ?_|apply qD|apply qE|apply qF|apply qG|apply qH);try simp (disch:=(first|omega|(simp only [qI,qJ,qK]<;>omega)|exact qL _)) only [go_sem,↓reduceIte,n0,reduceCtorEq,n1,n2,n3,n4,n5,i0,i1,i2,i3,i4,i5,i6,i7,hv_21,hrt_2,hrt_7,hrt_8,hrt_9,hrt_10,hri])
   refine (RUvarint_fn w21 wC.1 hrok).mono ?_
   rintro _ w22 ⟨rfl,gP,wR⟩
   have hv_22:=wR.blk_some hv_21 (by omega)
   have gH:Upd (fun b=>b=vb∨b=rb) w21 w22:=wR.mono (fun _ h=>.inr h)
   have jP:Upd (fun b=>b=vb∨b=rb) w1 w22:=oU.trans gH
   have ED:=gH.size
   have DP:Glo ev w22:=hG1.updS jP a8 aA
   have hKl:=rdUv_lt s11
   obtain ⟨s12,bE⟩:∃ s,s=(rdUv s11).2:=⟨_,rfl⟩
   rw [← bE] at gP
   obtain ⟨K,hK⟩:∃ N,N=(rdUv s11).1:=⟨_,rfl⟩
   rw [← hK] at hKl
   try rw [← hK]
   by_cases hk0:K=0
   ·have hkI:(K:Int)=0:=by omega
    repeat ((first|refine qA rfl ?_|apply qB|refine qC rfl ?_|apply qD|apply qE|apply qF|apply qG|apply qH);try simp (disch:=(first|omega|(simp only [qI,qJ,qK]<;>omega)|exact qL _)) only [go_sem,↓reduceIte,n0,reduceCtorEq,n1,n2,n3,n4,n5,i0,i1,i2,i3,i4,i5,i6,i7,hv_22,hrt_2,hrt_7,hrt_8,hrt_9,hrt_10,hri,hkI])
    refine (RUvarint_fn w22 gP.1 hrok).mono ?_
    rintro _ w23 ⟨rfl,bC,dD⟩
    have hv_23:=dD.blk_some hv_22 (by omega)
    have cQ:Upd (fun b=>b=vb∨b=rb) w22 w23:=dD.mono (fun _ h=>.inr h)
    have dR:Upd (fun b=>b=vb∨b=rb) w1 w23:=jP.trans cQ
    have sO:=cQ.size
    have o7:Glo ev w23:=hG1.updS dR a8 aA
    have hSl:=rdUv_lt s12
    obtain ⟨s13,wF⟩:∃ s,s=(rdUv s12).2:=⟨_,rfl⟩
    rw [← wF] at bC
    obtain ⟨SL,hSL⟩:∃ N,N=(rdUv s12).1:=⟨_,rfl⟩
    rw [← hSL] at hSl
    try rw [← hSL]
    have e64:IntKind.i64.wrap (SL:Int)=SL:=i64_wrap (by omega)
    repeat (first|simp (disch:=(first|omega|(simp only [qI,qJ,qK]<;>omega)|exact qL _)) only [go_sem,↓reduceIte,n0,reduceCtorEq,n1,n2,n3,n4,n5,i0,i1,i2,i3,i4,i5,i6,i7,hv_23,hrt_2,hrt_7,hrt_8,hrt_9,hrt_10,hri,e64]|refine qA rfl ?_|apply qB|refine qC rfl ?_|apply qD|apply qE|apply qF|apply qG|apply qH)
    refine (Span_fn w23 bC.1 hrok _).mono ?_
    rintro r24 w24 ⟨hBs,_,_,hqx,hqy,dE⟩
    have bD:=And.intro hqx (hqy (.inl bC.2))
    clear hqx hqy
    have hv_24:=dE.blk_some hv_23 (by omega)
    have cR:Upd (fun b=>b=vb∨b=rb) w23 w24:=dE.mono (fun _ h=>.inr h)
    have dS:Upd (fun b=>b=vb∨b=rb) w1 w24:=dR.trans cR
    have sQ:=cR.size
    have o8:Glo ev w24:=hG1.updS dS a8 aA
    obtain ⟨s14,mO⟩:∃ s,s=(rdSpan (SL:Int) s13).2:=⟨_,rfl⟩
    rw [← mO] at bD
    obtain ⟨SP,hSP⟩:∃ x,x=(rdSpan (SL:Int) s13).1:=⟨_,rfl⟩
    rw [← hSP] at hBs
    rw [wF] at hSP mO
    obtain ⟨spa,spc,rfl,_⟩:=hBs.shape
    repeat ((first|refine qA rfl ?_|apply qB|refine qC rfl ?_|apply qD|apply qE|apply qF|apply qG|apply qH);try simp (disch:=(first|omega|(simp only [qI,qJ,qK]<;>omega)|exact qL _)) only [go_sem,↓reduceIte,n0,reduceCtorEq,n1,n2,n3,n4,n5,i0,i1,i2,i3,i4,i5,i6,i7,hv_24,hrt_2,hrt_7,hrt_8,hrt_9,hrt_10,hri,e64])
    obtain ⟨rc0,hrc⟩:∃ r,r=w24.heap.size:=⟨_,rfl⟩
    have hEi:Ext w24 (wr (w24.alloc (.cells #[.slice none 0 0,.bool false] 123)) w24.heap.size 0 [.slice spa SP.length spc,.bool false]):=(Upd.alloc (Upd.refl _ _) _).wr _ _ (.inl (Nat.le_refl _))
    have hzi:(wr (w24.alloc (.cells #[.slice none 0 0,.bool false] 123)) w24.heap.size 0 [.slice spa SP.length spc,.bool false]).heap.size=w24.heap.size+1:=by rw [size_wr,World.size_alloc]
    have hRi:Rdr RT ok (wr (w24.alloc (.cells #[.slice none 0 0,.bool false] 123)) w24.heap.size 0 [.slice spa SP.length spc,.bool false]) w24.heap.size (some SP):=Rdr.good (v:=.slice spa SP.length spc) (by simp (disch:=(first|omega|(simp only [qI,qJ,qK]<;>omega)|exact qL _)) only [go_sem,↓reduceIte,n0,reduceCtorEq,n1,n2,n3,n4,n5,i0,i1,i2,i3,i4,i5,i6,i7]) (hBs.keep (hEi.keeps _))
    have hv_25:=hEi.blk_some hv_24 id
    have hqo:=And.intro (bD.1.upd hEi (fun h=>h) (fun _ _ _ h=>h)) (bD.2.upd hEi fun h=>h)
    repeat ((first|refine qA rfl ?_|apply qB|refine qC rfl ?_|apply qD|apply qE|apply qF|apply qG|apply qH);try simp (disch:=(first|omega|(simp only [qI,qJ,qK]<;>omega)|exact qL _)) only [go_sem,↓reduceIte,n0,reduceCtorEq,n1,n2,n3,n4,n5,i0,i1,i2,i3,i4,i5,i6,i7,hv_24,hrt_2,hrt_7,hrt_8,hrt_9,hrt_10,hri,hkI])
    generalize (wr (w24.alloc (.cells #[.slice none 0 0,.bool false] 123)) w24.heap.size 0 [.slice spa SP.length spc,.bool false])=w25 at *
    rw [← hrc] at hRi
    try rw [← hrc]
    have cV:Upd (fun b=>b=vb∨b=rb) w24 w25:=hEi.mono fun _ h=>h.elim
    have dT:Upd (fun b=>b=vb∨b=rb) w1 w25:=dS.trans cV
    have sR:=cV.size
    have aK:Glo ev w25:=hG1.updS dT a8 aA
    have hQo:Upd (fun b=>b=vb∨b=rb) w21 w25:=(((gH.trans cQ).trans cR).trans cV)
    have hzo:=hQo.size
    have hrokc:¬ ok rc0:=fun h=>by have:=(hok _ h).1;omega
    have hgrbc:¬ 0=rc0:=by omega
    have aM:¬ (0=vb∨0=rc0):=fun h=>h.elim hgv.1 fun h=>by omega
    have aN:¬ (1=vb∨1=rc0):=fun h=>h.elim hgv.2 fun h=>by omega
    have hoMc:∀ b,(ok b∨w25.heap.size≤b)→¬ (b=vb∨b=rc0):=fun b hk h=>by
     rcases hk with hk|hk
     ·have:=hok b hk;rcases h with h|h<;>omega
     ·rcases h with h|h<;>omega
    have hbasec:Upd (fun b=>b=vb) w w25:=hbase.trans' dT fun i hi h=>h.elim id fun h=>by omega
    have hUc:Upd (fun b=>b=vb∨b=rc0) w25 w25:=Upd.refl _ _
    have hqc:Rdr RT ok w25 rc0 (some SP):=hRi
    obtain ⟨s15,rH⟩:∃ s:St,s=some SP:=⟨_,rfl⟩
    rw [← rH] at hqc
    have hbT:(rdF (rdP (d+1) ver true) ver true fQ_3 s15).2=none→FB:=fun h=>Eq.mpr hFB (rdM_badT hl_0 (by rw [← hE];exact rdTg_bad (hK.symm.trans hk0) rfl (by rw [← bE,← hSL,← hSP,← rH];exact h)))
    have hni:0∉ks:=fun h=>hO.1 (by rw [← hK,hk0];exact fun h=>by cases h) (by rw [← hK,hk0];exact h)
    obtain rfl:=hd_3 hni
    have DU:hasS fQ_3 ver=true:=hasS_t (by show (0:Int)≤ver;omega) (by show (-1:Int) < 0∨ver≤(-1:Int);omega)
    obtain ⟨xt0_3,wY⟩:∃ x,x=(rdF (rdP (d+1) ver true) ver true fQ_3 s15).1:=⟨_,rfl⟩
    repeat ((first|refine qA rfl ?_|apply qB|refine qC rfl ?_|apply qD|apply qE|apply qF|apply qG|apply qH);try simp (disch:=(first|omega|(simp only [qI,qJ,qK]<;>omega)|exact qL _)) only [go_sem,↓reduceIte,n0,reduceCtorEq,n1,n2,n3,n4,n5,i0,i1,i2,i3,i4,i5,i6,i7,hv_25,hrt_2,hrt_7,hrt_8,hrt_9,hrt_10,hri])
    refine (RCompactArrayLen_fn w25 hqc hrokc aK.1 hgrbc).mono ?_
    rintro _ w26 ⟨rfl,bA,eE⟩
    have hv_26:=eE.blk_some hv_25 (by omega)
    have cW:Upd (fun b=>b=vb∨b=rc0) w25 w26:=eE.mono (fun _ h=>.inr h)
    have bF:Upd (fun b=>b=vb∨b=rc0) w25 w26:=hUc.trans cW
    have nH:=cW.size
    have gD:Glo ev w26:=aK.updS bF aM aN
    obtain ⟨s16,rI⟩:∃ s,s=(rdALen true s15).2:=⟨_,rfl⟩
    rw [← rI] at bA
    have E9:=rdALen_rng true s15
    generalize hy1:(rdALen true s15).1=y1 at *
    obtain ⟨N1,hN1⟩:∃ N,N=y1.toNat:=⟨_,rfl⟩
    have vV:(rdMany (rd1 (rdP (d+1) ver true) fQ_3.of fQ_3.sub false true) N1 s16).2=none→FB:=fun h=>hbT (rdF_listbad rfl (by rw [hy1,← hN1,← rI];exact h))
    repeat ((first|refine W.seqR rfl ?_|refine W.seq ?_|refine W.regR rfl ?_|refine W.block ?_|refine W.skip ?_|refine W.ret ?_|refine W.exit ?_);try simp (disch:=(first|omega|(simp only [qI,qJ,qK]<;>omega)|exact qL _)) only [go_sem,↓reduceIte,n0,reduceCtorEq,n1,n2,n3,n4,n5,i0,i1,i2,i3,i4,i5,i6,i7,hv_26,hrt_2,hrt_7,hrt_8,hrt_9,hrt_10,hri])
    refine (ROk_fn w26 bA.1).mono ?_
    rintro _ wz ⟨rfl,hez⟩
    rw [hez]
    clear hez wz
    by_cases mT:s16=none
    ·have hso:s16.isSome=false:=by rw [mT];rfl
     repeat (first|simp (disch:=(first|omega|(simp only [qI,qJ,qK]<;>omega)|exact qL _)) only [go_sem,↓reduceIte,n0,reduceCtorEq,n1,n2,n3,n4,n5,i0,i1,i2,i3,i4,i5,i6,i7,hv_26,hrt_2,hrt_7,hrt_8,hrt_9,hrt_10,hri,hso]|refine qA rfl ?_|apply qB|refine qC rfl ?_|apply qD|apply qE|apply qF|apply qG|apply qH)
     refine (RComplete_fn w26 bA.1 gD.2).mono ?_
     rintro _ wz ⟨rfl,hez⟩
     rw [hez]
     repeat (first|simp (disch:=(first|omega|(simp only [qI,qJ,qK]<;>omega)|exact qL _)) only [go_sem,↓reduceIte,n0,reduceCtorEq,n1,n2,n3,n4,n5,i0,i1,i2,i3,i4,i5,i6,i7,hv_26,hrt_2,hrt_7,hrt_8,hrt_9,hrt_10,hri]|refine qA rfl ?_|apply qB|refine qC rfl ?_|apply qD|apply qE|apply qF|apply qG|apply qH)
     rw [errV_none mT]
     exact ReadQ.bad (Eq.mp hFB (vV (by rw [mT];exact rdMany_none rd1P_none _))) (hbasec.trans' bF fun i hi h=>h.elim id fun h=>by omega)
    have mV:s16.isSome=true:=isSome_some mT
    try simp (disch:=(first|omega|(simp only [qI,qJ,qK]<;>omega)|exact qL _)) only [go_sem,↓reduceIte,n0,reduceCtorEq,n1,n2,n3,n4,n5,i0,i1,i2,i3,i4,i5,i6,i7,hv_26,hrt_2,hrt_7,hrt_8,hrt_9,hrt_10,hri,mV]
    repeat ((first|refine W.seqR rfl ?_|refine W.seq ?_|refine W.regR rfl ?_|refine W.block ?_|refine W.skip ?_|refine W.ret ?_|refine W.exit ?_);try simp (disch:=(first|omega|(simp only [qI,qJ,qK]<;>omega)|exact qL _)) only [go_sem,↓reduceIte,n0,reduceCtorEq,n1,n2,n3,n4,n5,i0,i1,i2,i3,i4,i5,i6,i7,hv_26,hrt_2,hrt_7,hrt_8,hrt_9,hrt_10,hri,mV])
    refine W.condK ?_
    try simp (disch:=(first|omega|(simp only [qI,qJ,qK]<;>omega)|exact qL _)) only [go_sem,↓reduceIte,n0,reduceCtorEq,n1,n2,n3,n4,n5,i0,i1,i2,i3,i4,i5,i6,i7,hv_26,hrt_2,hrt_7,hrt_8,hrt_9,hrt_10,hri,mV]
    repeat ((first|refine W.seqR rfl ?_|refine W.seq ?_|refine W.regR rfl ?_|refine W.block ?_|refine W.skip ?_|refine W.ret ?_|refine W.exit ?_);try simp (disch:=(first|omega|(simp only [qI,qJ,qK]<;>omega)|exact qL _)) only [go_sem,↓reduceIte,n0,reduceCtorEq,n1,n2,n3,n4,n5,i0,i1,i2,i3,i4,i5,i6,i7,hv_26,hrt_2,hrt_7,hrt_8,hrt_9,hrt_10,hri,mV,slBase_00])
    refine W.normJ (RowQ [(2,.bool false),(7,.pointer (some ⟨rb,0,none⟩)),(8,.int .i16 ver),(9,.bool true),(10,.pointer (some ⟨vb,0,none⟩)),(22,.int .u32 ((m+1:Nat):Int)),(24,.pointer (some ⟨rc0,0,none⟩)),(27,.int .i32 y1)] 26 (fun va w'=>LstI RT (rd1 (rdP (d+1) ver true) fQ_3.of fQ_3.sub false true) (Rep1 (RepS true (d+1)) fQ_3.of fQ_3.sub) 4 116 [.string ByteArray.empty,.int .i16 0,.int .i16 0,.map none] w26.heap.size N1 ok (fun b=>ok b∨w25.heap.size≤b) rc0 w26 s16 va 0 s16 [] [] w'∧(N1=0→if nilS fQ_3 ver y1=true then va = .slice none 0 0 else ∃ a,va = .slice (some a) 0 0))) ?_ ?_
    ·by_cases hy0:(0:Int) < y1
     ·have hyv:Value.int .i32 y1 = .int .i32 ((N1:Nat):Int):=by rw [show y1=((N1:Nat):Int) by omega]
      repeat ((first|refine qA rfl ?_|apply qB|refine qC rfl ?_|apply qD|apply qE|apply qF|apply qG|apply qH);try simp (disch:=(first|omega|(simp only [qI,qJ,qK]<;>omega)|exact qL _)) only [go_sem,↓reduceIte,n0,reduceCtorEq,n1,n2,n3,n4,n5,i0,i1,i2,i3,i4,i5,i6,i7,hv_26,hrt_2,hrt_7,hrt_8,hrt_9,hrt_10,hri])
      refine wp_appendZ (m:=N1) utQ_105 utQ_21 inQ_116 (by decide) (by first|rfl|simp (disch:=(first|omega|(simp only [qI,qJ,qK]<;>omega)|exact qL _)) only [go_sem,↓reduceIte,n0,reduceCtorEq,n1,n2,n3,n4,n5,i0,i1,i2,i3,i4,i5,i6,i7,hrt_2,hrt_7,hrt_8,hrt_9,hrt_10,hri]) (by first|exact hyv|(simp (disch:=(first|omega|(simp only [qI,qJ,qK]<;>omega)|exact qL _)) only [go_sem,↓reduceIte,n0,reduceCtorEq,n1,n2,n3,n4,n5,i0,i1,i2,i3,i4,i5,i6,i7,hrt_2,hrt_7,hrt_8,hrt_9,hrt_10,hri];exact hyv)) (by omega) (by omega) (by decide) ?_
      intro q rest hq1
      have hEw:Ext w26 (w26.drew.alloc (.cells (zs [.string ByteArray.empty,.int .i16 0,.int .i16 0,.map none] N1++rest).toArray 116)):=(Upd.refl _ _).drew.alloc _
      repeat (first|simp (disch:=(first|omega|(simp only [qI,qJ,qK]<;>omega)|exact qL _)) only [go_sem,↓reduceIte,n0,reduceCtorEq,n1,n2,n3,n4,n5,i0,i1,i2,i3,i4,i5,i6,i7,hv_26,hrt_2,hrt_7,hrt_8,hrt_9,hrt_10,hri]|refine qA rfl ?_|apply qB|refine qC rfl ?_|apply qD|apply qE|apply qF|apply qG|apply qH)
      exact ⟨(by simp (disch:=(first|omega|(simp only [qI,qJ,qK]<;>omega)|exact qL _)) only [go_sem,↓reduceIte,n0,reduceCtorEq,n1,n2,n3,n4,n5,i0,i1,i2,i3,i4,i5,i6,i7,Holds_nil,Holds_cons,hrt_2,hrt_7,hrt_8,hrt_9,hrt_10,hri]),.slice (some ⟨w26.heap.size,0,none⟩) N1 q,(by simp (disch:=(first|omega|(simp only [qI,qJ,qK]<;>omega)|exact qL _)) only [go_sem,↓reduceIte,n0,reduceCtorEq,n1,n2,n3,n4,n5,i0,i1,i2,i3,i4,i5,i6,i7,hrt_2,hrt_7,hrt_8,hrt_9,hrt_10,hri]),LstI.start (RowJ.start (by omega) hq1 (by show w26.heap.size≤w26.drew.heap.size;rw [size_drew];omega) (blk_alloc_new rfl)) ⟨bA.1.upd hEw (fun h=>h) (fun _ _ _ h=>h),bA.2.upd hEw fun h=>h⟩ (hEw.mono fun _ h=>h.elim),fun h0=>by omega⟩
     ·repeat ((first|refine qA rfl ?_|apply qB|refine qC rfl ?_|apply qD|apply qE|apply qF|apply qG|apply qH);try simp (disch:=(first|omega|(simp only [qI,qJ,qK]<;>omega)|exact qL _)) only [go_sem,↓reduceIte,n0,reduceCtorEq,n1,n2,n3,n4,n5,i0,i1,i2,i3,i4,i5,i6,i7,hv_26,hrt_2,hrt_7,hrt_8,hrt_9,hrt_10,hri])
      exact ⟨(by simp (disch:=(first|omega|(simp only [qI,qJ,qK]<;>omega)|exact qL _)) only [go_sem,↓reduceIte,n0,reduceCtorEq,n1,n2,n3,n4,n5,i0,i1,i2,i3,i4,i5,i6,i7,Holds_nil,Holds_cons,hrt_2,hrt_7,hrt_8,hrt_9,hrt_10,hri]),.slice none 0 0,(by simp (disch:=(first|omega|(simp only [qI,qJ,qK]<;>omega)|exact qL _)) only [go_sem,↓reduceIte,n0,reduceCtorEq,n1,n2,n3,n4,n5,i0,i1,i2,i3,i4,i5,i6,i7,hrt_2,hrt_7,hrt_8,hrt_9,hrt_10,hri,slBase_00]),LstI.start (RowJ.zero (by omega) (fun _ h=>by cases h)) bA (Upd.refl _ _),fun _=>by rw [nilS_plain (by decide) (by omega)];exact rfl⟩
    rintro ρ w27 ⟨⟨qQ,qU,qV,qW,qP,qR,qS,qT,-⟩,va1,bH,hL1,vY⟩
    repeat ((first|refine qA rfl ?_|apply qB|refine qC rfl ?_|apply qD|apply qE|apply qF|apply qG|apply qH);try simp (disch:=(first|omega|(simp only [qI,qJ,qK]<;>omega)|exact qL _)) only [go_sem,↓reduceIte,n0,reduceCtorEq,n1,n2,n3,n4,n5,i0,i1,i2,i3,i4,i5,i6,i7,hv_26,qQ,qU,qV,qW,qP,qR,qS,qT,bH])
    refine W.exitRJ 5 (EndQ [(2,.bool false),(7,.pointer (some ⟨rb,0,none⟩)),(8,.int .i16 ver),(9,.bool true),(10,.pointer (some ⟨vb,0,none⟩)),(22,.int .u32 ((m+1:Nat):Int)),(24,.pointer (some ⟨rc0,0,none⟩)),(27,.int .i32 y1),(26,va1)] (fun w'=>∃ s xs css,LstI RT (rd1 (rdP (d+1) ver true) fQ_3.of fQ_3.sub false true) (Rep1 (RepS true (d+1)) fQ_3.of fQ_3.sub) 4 116 [.string ByteArray.empty,.int .i16 0,.int .i16 0,.map none] w26.heap.size N1 ok (fun b=>ok b∨w25.heap.size≤b) rc0 w26 s16 va1 N1 s xs css w')) (W.loop (LoopQ [(2,.bool false),(7,.pointer (some ⟨rb,0,none⟩)),(8,.int .i16 ver),(9,.bool true),(10,.pointer (some ⟨vb,0,none⟩)),(22,.int .u32 ((m+1:Nat):Int)),(24,.pointer (some ⟨rc0,0,none⟩)),(27,.int .i32 y1),(26,va1)] 28 (fun j w'=>∃ s xs css,LstI RT (rd1 (rdP (d+1) ver true) fQ_3.of fQ_3.sub false true) (Rep1 (RepS true (d+1)) fQ_3.of fQ_3.sub) 4 116 [.string ByteArray.empty,.int .i16 0,.int .i16 0,.map none] w26.heap.size N1 ok (fun b=>ok b∨w25.heap.size≤b) rc0 w26 s16 va1 j s xs css w')) (fun ρ _=>N1 - (RowKit.intOf (ρ 28)).toNat) ?_ ?_) ?_
    ·exact ⟨(by simp (disch:=(first|omega|(simp only [qI,qJ,qK]<;>omega)|exact qL _)) only [go_sem,↓reduceIte,n0,reduceCtorEq,n1,n2,n3,n4,n5,i0,i1,i2,i3,i4,i5,i6,i7,Holds_nil,Holds_cons,qQ,qU,qV,qW,qP,qR,qS,qT,bH]),0,(by simp (disch:=(first|omega|(simp only [qI,qJ,qK]<;>omega)|exact qL _)) only [go_sem,↓reduceIte,n0,reduceCtorEq,n1,n2,n3,n4,n5,i0,i1,i2,i3,i4,i5,i6,i7,qQ,qU,qV,qW,qP,qR,qS,qT,bH];all_goals rfl),s16,[],[],hL1⟩
    ·rintro ρ w28 ⟨⟨aJ,bY,bZ,c9,bR,bV,bW,bX,rE,-⟩,j1,cM,s17,xs1,css1,hL1⟩
     have hj1:=hL1.le
     have kS:=hL1.rd
     have jQ:Upd (fun b=>b=vb∨b=rc0) w25 w28:=bF.trans' hL1.upd fun i _ h=>.inr h
     have D2:=hL1.upd.size
     have yI:Glo ev w28:=aK.updS jQ aM aN
     by_cases pT:j1 < N1
     ·obtain ⟨R1,q1,B1,b6,lY,lX,hA1,eX,dA⟩:=hL1.row.next pT
      have m7:=blk_lt eX
      generalize css1.flatten=A1 at hA1 eX dA
      replace bH:ρ 26 = .slice (some ⟨R1,0,none⟩) N1 q1:=rE.trans b6
      have eF:∀ b,ownB va1 b→w26.heap.size≤b∧b < w28.heap.size:=fun b h=>hL1.row.own h
      have b9:∀ b,(fun b=>(ok b∨w25.heap.size≤b)∧¬ ownB va1 b) b→¬ (b=R1∨b=rc0):=fun b hk h=>h.elim (fun e=>hk.2 ⟨_,_,_,b6,e⟩) (fun e=>hoMc b hk.1 (.inr e))
      obtain ⟨X28,jZ⟩:∃ X:Array Value,X=(A1++(([.string ByteArray.empty,.int .i16 0,.int .i16 0,.map none]:List Value)++B1)).toArray:=⟨_,rfl⟩
      have sE:blk w28 R1=some (X28,116,(0,0)):=by rw [jZ];exact eX
      have zY:j1 * 4+4≤X28.size:=by rw [jZ];simp only [List.size_toArray,List.length_append,List.length_cons,List.length_nil,hA1];omega
      repeat ((first|refine qA rfl ?_|apply qB|refine qC rfl ?_|apply qD|apply qE|apply qF|apply qG|apply qH);try simp (disch:=(first|omega|(simp only [qI,qJ,qK]<;>omega)|exact qL _)) only [go_sem,↓reduceIte,n0,reduceCtorEq,n1,n2,n3,n4,n5,i0,i1,i2,i3,i4,i5,i6,i7,sE,aJ,bY,bZ,c9,bR,bV,bW,bX,bH,cM])
      refine (DefaultEX0_fn w28 eX hA1).mono ?_
      rintro _ w29 ⟨lC,iK⟩
      have pW:=And.intro (kS.1.upd iK (by omega) (fun b _ hk e=>by have:=(hok b hk).1;omega)) (kS.2.upd iK (by omega))
      have eL:Upd (fun b=>b=R1∨b=rc0) w28 w29:=iK.mono (fun _ h=>.inl h)
      have jR:Upd (fun b=>b=vb∨b=rc0) w25 w29:=jQ.trans' eL fun i hi h=>h.elim (fun h=>by omega) .inr
      have D3:=eL.size
      have oA:Glo ev w29:=aK.updS jR aM aN
      obtain ⟨X29,k7⟩:∃ X:Array Value,X=(A1++(([.string ByteArray.empty,.int .i16 0,.int .i16 0,.map none]:List Value)++B1)).toArray:=⟨_,rfl⟩
      have sF:blk w29 R1=some (X29,116,(0,0)):=by rw [k7];exact lC
      have zZ:j1 * 4+4≤X29.size:=by rw [k7];simp only [List.size_toArray,List.length_append,List.length_cons,List.length_nil,hA1];omega
      have AE:(rdL (rdP d ver true) (dfP d) ver true [fX0_0,fX0_1,fX0_2] s17).2=none→FB:=fun h=>vV (hL1.bad pT rd1P_none (by show (rd1 (rdP (d+1) ver true) 10 fs_X0 false true s17).2=none;rw [rd1_part];exact rdP_bad h))
      have vJ:hasS fX0_0 ver=true:=hasS_t (by show (0:Int)≤ver;omega) (by show (-1:Int) < 0∨ver≤(-1:Int);omega)
      obtain ⟨xt0e1_0,wZ⟩:∃ x,x=(rdF (rdP d ver true) ver true fX0_0 s17).1:=⟨_,rfl⟩
      repeat ((first|refine qA rfl ?_|apply qB|refine qC rfl ?_|apply qD|apply qE|apply qF|apply qG|apply qH);try simp (disch:=(first|omega|(simp only [qI,qJ,qK]<;>omega)|exact qL _)) only [go_sem,↓reduceIte,n0,reduceCtorEq,n1,n2,n3,n4,n5,i0,i1,i2,i3,i4,i5,i6,i7,sF,aJ,bY,bZ,c9,bR,bV,bW,bX,bH,cM])
      have hmay:mayS fX0_0 ver=false:=mayS_no (by show (-1:Int) < 0∨ver < (-1:Int);omega)
      have hrd:rdF (rdP d ver true) ver true fX0_0 s17=_:=rdF_text rfl hmay
      refine (RCompactString_fn w29 pW.1 hrokc oA.1 hgrbc).mono ?_
      rintro _ w30 ⟨rfl,kT,l6⟩
      have lD:=l6.blk_some lC (by omega)
      have eM:Upd (fun b=>b=R1∨b=rc0) w29 w30:=l6.mono (fun _ h=>.inr h)
      have jS:Upd (fun b=>b=vb∨b=rc0) w25 w30:=jR.trans' eM fun i hi h=>h.elim (fun h=>by omega) .inr
      have D4:=eM.size
      have yJ:Glo ev w30:=aK.updS jS aM aN
      obtain ⟨X30,k9⟩:∃ X:Array Value,X=(A1++(([.string ByteArray.empty,.int .i16 0,.int .i16 0,.map none]:List Value)++B1)).toArray:=⟨_,rfl⟩
      have sG:blk w30 R1=some (X30,116,(0,0)):=by rw [k9];exact lD
      have A0:j1 * 4+4≤X30.size:=by rw [k9];simp only [List.size_toArray,List.length_append,List.length_cons,List.length_nil,hA1];omega
      have hst:(rdF (rdP d ver true) ver true fX0_0 s17).2=(rdStr true s17).2:=by first|(rw [hrd];rfl)|rw [hrd]
      obtain ⟨s18,rJ⟩:∃ s,s=(rdF (rdP d ver true) ver true fX0_0 s17).2:=⟨_,rfl⟩
      rw [← hst,← rJ] at kT
      clear hst
      have rS:j1 * 4+1≤X30.size:=by omega
      repeat ((first|refine qA rfl ?_|apply qB|refine qC rfl ?_|apply qD|apply qE|apply qF|apply qG|apply qH);try simp (disch:=(first|omega|(simp only [qI,qJ,qK]<;>omega)|exact qL _)) only [go_sem,↓reduceIte,n0,reduceCtorEq,n1,n2,n3,n4,n5,i0,i1,i2,i3,i4,i5,i6,i7,sG,aJ,bY,bZ,c9,bR,bV,bW,bX,bH,cM,rS])
      generalize eS:wr w30 R1 (j1 * 4) [strV (rdStr true s17).1] = w31
      have oO:Upd (fun b=>b=R1∨b=rc0) w30 w31:=by rw [← eS];exact (Upd.refl _ _).wr _ _ (.inr (.inl rfl))
      have lE:blk w31 R1=some ((A1++(([strV (rdStr true s17).1,.int .i16 0,.int .i16 0,.map none]:List Value)++B1)).toArray,116,(0,0)):=by rw [← eS];exact el_blk0 lD hA1 (Nat.le_of_ble_eq_true rfl)
      have dN:=oO
      have eI:Upd (fun b=>b=vb∨b=rc0) w25 w31:=jS.trans' dN fun i hi h=>h.elim (fun h=>by omega) .inr
      have xR:=dN.size
      have oB:Glo ev w31:=aK.updS eI aM aN
      have pX:Rdr RT ok w31 rc0 s18∧NN w31 rc0 s18:=by
       have hn:∀ x,x=w31→(Rdr RT ok x rc0 s18∧NN x rc0 s18):=fun x hx=>by
        rw [hx,← eS]
        exact Rdr.store kT (by omega) (fun h=>by have:=(hok _ h).1;first|omega|exact (hok _ h).2 rfl)
       exact hn _ rfl
      obtain ⟨X31,gJ⟩:∃ X:Array Value,X=(A1++(([strV (rdStr true s17).1,.int .i16 0,.int .i16 0,.map none]:List Value)++B1)).toArray:=⟨_,rfl⟩
      have sH:blk w31 R1=some (X31,116,(0,0)):=by rw [gJ];exact lE
      have A2:j1 * 4+4≤X31.size:=by rw [gJ];simp only [List.size_toArray,List.length_append,List.length_cons,List.length_nil,hA1];omega
      clear eS
      have AJ:RepF (RepS true d) (szS true d) fX0_0 (fun b=>(ok b∨w25.heap.size≤b)∧¬ ownB va1 b) w31 (xt0e1_0) [strV (rdStr true s17).1]:=(RepF_text rfl (by decide)).2 (by rw [wZ,hrd];rfl)
      clear hrd
      have AF:(rdL (rdP d ver true) (dfP d) ver true [fX0_1,fX0_2] s18).2=none→FB:=fun h=>AE (by rw [rdL_st (by decide) vJ,← rJ];exact h)
      have vK:hasS fX0_1 ver=true:=hasS_t (by show (0:Int)≤ver;omega) (by show (-1:Int) < 0∨ver≤(-1:Int);omega)
      obtain ⟨xt0e1_1,xA⟩:∃ x,x=(rdF (rdP d ver true) ver true fX0_1 s18).1:=⟨_,rfl⟩
      repeat ((first|refine qA rfl ?_|apply qB|refine qC rfl ?_|apply qD|apply qE|apply qF|apply qG|apply qH);try simp (disch:=(first|omega|(simp only [qI,qJ,qK]<;>omega)|exact qL _)) only [go_sem,↓reduceIte,n0,reduceCtorEq,n1,n2,n3,n4,n5,i0,i1,i2,i3,i4,i5,i6,i7,sH,aJ,bY,bZ,c9,bR,bV,bW,bX,bH,cM])
      have hrd:rdF (rdP d ver true) ver true fX0_1 s18=_:=rdF_num 2 rfl (by decide)
      refine (Int16_fn w31 pX.1 hrokc oB.1 hgrbc).mono ?_
      rintro _ w32 ⟨rfl,kV,l7⟩
      have lF:=l7.blk_some lE (by omega)
      have dO:Upd (fun b=>b=R1∨b=rc0) w31 w32:=l7.mono (fun _ h=>.inr h)
      have eJ:Upd (fun b=>b=vb∨b=rc0) w25 w32:=eI.trans' dO fun i hi h=>h.elim (fun h=>by omega) .inr
      have xT:=dO.size
      have yK:Glo ev w32:=aK.updS eJ aM aN
      obtain ⟨X32,gK⟩:∃ X:Array Value,X=(A1++(([strV (rdStr true s17).1,.int .i16 0,.int .i16 0,.map none]:List Value)++B1)).toArray:=⟨_,rfl⟩
      have sI:blk w32 R1=some (X32,116,(0,0)):=by rw [gK];exact lF
      have A3:j1 * 4+4≤X32.size:=by rw [gK];simp only [List.size_toArray,List.length_append,List.length_cons,List.length_nil,hA1];omega
      have hst:(rdF (rdP d ver true) ver true fX0_1 s18).2=(rdInt .i16 2 s18).2:=by first|(rw [hrd];rfl)|rw [hrd]
      obtain ⟨s19,rK⟩:∃ s,s=(rdF (rdP d ver true) ver true fX0_1 s18).2:=⟨_,rfl⟩
      rw [← hst,← rK] at kV
      clear hst
      have rT:j1 * 4+2≤X32.size:=by omega
      repeat ((first|refine qA rfl ?_|apply qB|refine qC rfl ?_|apply qD|apply qE|apply qF|apply qG|apply qH);try simp (disch:=(first|omega|(simp only [qI,qJ,qK]<;>omega)|exact qL _)) only [go_sem,↓reduceIte,n0,reduceCtorEq,n1,n2,n3,n4,n5,i0,i1,i2,i3,i4,i5,i6,i7,sI,aJ,bY,bZ,c9,bR,bV,bW,bX,bH,cM,rT])
      generalize dJ:wr w32 R1 (j1 * 4+1) [.int .i16 (rdInt .i16 2 s18).1] = w33
      have oP:Upd (fun b=>b=R1∨b=rc0) w32 w33:=by rw [← dJ];exact (Upd.refl _ _).wr _ _ (.inr (.inl rfl))
      have lG:blk w33 R1=some ((A1++(([strV (rdStr true s17).1,.int .i16 (rdInt .i16 2 s18).1,.int .i16 0,.map none]:List Value)++B1)).toArray,116,(0,0)):=by rw [← dJ];exact el_blk (o:=1) lF hA1 (Nat.le_of_ble_eq_true rfl)
      have dP:=oP
      have eK:Upd (fun b=>b=vb∨b=rc0) w25 w33:=eJ.trans' dP fun i hi h=>h.elim (fun h=>by omega) .inr
      have nI:=dP.size
      have oC:Glo ev w33:=aK.updS eK aM aN
      have pY:Rdr RT ok w33 rc0 s19∧NN w33 rc0 s19:=by
       have hn:∀ x,x=w33→(Rdr RT ok x rc0 s19∧NN x rc0 s19):=fun x hx=>by
        rw [hx,← dJ]
        exact Rdr.store kV (by omega) (fun h=>by have:=(hok _ h).1;first|omega|exact (hok _ h).2 rfl)
       exact hn _ rfl
      obtain ⟨X33,fH⟩:∃ X:Array Value,X=(A1++(([strV (rdStr true s17).1,.int .i16 (rdInt .i16 2 s18).1,.int .i16 0,.map none]:List Value)++B1)).toArray:=⟨_,rfl⟩
      have sJ:blk w33 R1=some (X33,116,(0,0)):=by rw [fH];exact lG
      have A4:j1 * 4+4≤X33.size:=by rw [fH];simp only [List.size_toArray,List.length_append,List.length_cons,List.length_nil,hA1];omega
      clear dJ
      have AK:RepF (RepS true d) (szS true d) fX0_1 (fun b=>(ok b∨w25.heap.size≤b)∧¬ ownB va1 b) w33 (xt0e1_1) [.int .i16 (rdInt .i16 2 s18).1]:=(RepF_num (by decide)).2 (by rw [xA,hrd];exact congrArg (fun x=>[x]) (numC_rd 2 (by decide) 2 s18).symm)
      clear hrd
      have DS:(rdL (rdP d ver true) (dfP d) ver true [fX0_2] s19).2=none→FB:=fun h=>AF (by rw [rdL_st (by decide) vK,← rK];exact h)
      have AS:hasS fX0_2 ver=true:=hasS_t (by show (0:Int)≤ver;omega) (by show (-1:Int) < 0∨ver≤(-1:Int);omega)
      obtain ⟨xt0e1_2,xB⟩:∃ x,x=(rdF (rdP d ver true) ver true fX0_2 s19).1:=⟨_,rfl⟩
      repeat ((first|refine qA rfl ?_|apply qB|refine qC rfl ?_|apply qD|apply qE|apply qF|apply qG|apply qH);try simp (disch:=(first|omega|(simp only [qI,qJ,qK]<;>omega)|exact qL _)) only [go_sem,↓reduceIte,n0,reduceCtorEq,n1,n2,n3,n4,n5,i0,i1,i2,i3,i4,i5,i6,i7,sJ,aJ,bY,bZ,c9,bR,bV,bW,bX,bH,cM])
      have hrd:rdF (rdP d ver true) ver true fX0_2 s19=_:=rdF_num 2 rfl (by decide)
      refine (Int16_fn w33 pY.1 hrokc oC.1 hgrbc).mono ?_
      rintro _ w34 ⟨rfl,kW,l8⟩
      have lH:=l8.blk_some lG (by omega)
      have eN:Upd (fun b=>b=R1∨b=rc0) w33 w34:=l8.mono (fun _ h=>.inr h)
      have jT:Upd (fun b=>b=vb∨b=rc0) w25 w34:=eK.trans' eN fun i hi h=>h.elim (fun h=>by omega) .inr
      have xV:=eN.size
      have yL:Glo ev w34:=aK.updS jT aM aN
      obtain ⟨X34,eQ⟩:∃ X:Array Value,X=(A1++(([strV (rdStr true s17).1,.int .i16 (rdInt .i16 2 s18).1,.int .i16 0,.map none]:List Value)++B1)).toArray:=⟨_,rfl⟩
      have sK:blk w34 R1=some (X34,116,(0,0)):=by rw [eQ];exact lH
      have A5:j1 * 4+4≤X34.size:=by rw [eQ];simp only [List.size_toArray,List.length_append,List.length_cons,List.length_nil,hA1];omega
      have hst:(rdF (rdP d ver true) ver true fX0_2 s19).2=(rdInt .i16 2 s19).2:=by first|(rw [hrd];rfl)|rw [hrd]
      obtain ⟨s20,wG⟩:∃ s,s=(rdF (rdP d ver true) ver true fX0_2 s19).2:=⟨_,rfl⟩
      rw [← hst,← wG] at kW
      clear hst
      have rU:j1 * 4+3≤X34.size:=by omega
      repeat ((first|refine qA rfl ?_|apply qB|refine qC rfl ?_|apply qD|apply qE|apply qF|apply qG|apply qH);try simp (disch:=(first|omega|(simp only [qI,qJ,qK]<;>omega)|exact qL _)) only [go_sem,↓reduceIte,n0,reduceCtorEq,n1,n2,n3,n4,n5,i0,i1,i2,i3,i4,i5,i6,i7,sK,aJ,bY,bZ,c9,bR,bV,bW,bX,bH,cM,rU])
      generalize eU:wr w34 R1 (j1 * 4+2) [.int .i16 (rdInt .i16 2 s19).1] = w35
      have oQ:Upd (fun b=>b=R1∨b=rc0) w34 w35:=by rw [← eU];exact (Upd.refl _ _).wr _ _ (.inr (.inl rfl))
      have lI:blk w35 R1=some ((A1++(([strV (rdStr true s17).1,.int .i16 (rdInt .i16 2 s18).1,.int .i16 (rdInt .i16 2 s19).1,.map none]:List Value)++B1)).toArray,116,(0,0)):=by rw [← eU];exact el_blk (o:=2) lH hA1 (Nat.le_of_ble_eq_true rfl)
      have eO:=oQ
      have jU:Upd (fun b=>b=vb∨b=rc0) w25 w35:=jT.trans' eO fun i hi h=>h.elim (fun h=>by omega) .inr
      have D5:=eO.size
      have yM:Glo ev w35:=aK.updS jU aM aN
      have pZ:Rdr RT ok w35 rc0 s20∧NN w35 rc0 s20:=by
       have hn:∀ x,x=w35→(Rdr RT ok x rc0 s20∧NN x rc0 s20):=fun x hx=>by
        rw [hx,← eU]
        exact Rdr.store kW (by omega) (fun h=>by have:=(hok _ h).1;first|omega|exact (hok _ h).2 rfl)
       exact hn _ rfl
      obtain ⟨X35,fI⟩:∃ X:Array Value,X=(A1++(([strV (rdStr true s17).1,.int .i16 (rdInt .i16 2 s18).1,.int .i16 (rdInt .i16 2 s19).1,.map none]:List Value)++B1)).toArray:=⟨_,rfl⟩
      have sL:blk w35 R1=some (X35,116,(0,0)):=by rw [fI];exact lI
      have A6:j1 * 4+4≤X35.size:=by rw [fI];simp only [List.size_toArray,List.length_append,List.length_cons,List.length_nil,hA1];omega
      clear eU
      have AL:RepF (RepS true d) (szS true d) fX0_2 (fun b=>(ok b∨w25.heap.size≤b)∧¬ ownB va1 b) w35 (xt0e1_2) [.int .i16 (rdInt .i16 2 s19).1]:=(RepF_num (by decide)).2 (by rw [xB,hrd];exact congrArg (fun x=>[x]) (numC_rd 2 (by decide) 2 s19).symm)
      clear hrd
      have B4:rdL (rdP d ver true) (dfP d) ver true [] s20=([],s20):=rfl
      have B3:rdL (rdP d ver true) (dfP d) ver true [fX0_2] s19=([xt0e1_2],s20):=by rw [rdL_st (by decide) AS,← xB,← wG,B4]
      have B2:rdL (rdP d ver true) (dfP d) ver true [fX0_1,fX0_2] s18=([xt0e1_1,xt0e1_2],s20):=by rw [rdL_st (by decide) vK,← xA,← rK,B3]
      have B0:rdL (rdP d ver true) (dfP d) ver true [fX0_0,fX0_1,fX0_2] s17=([xt0e1_0,xt0e1_1,xt0e1_2],s20):=by rw [rdL_st (by decide) vJ,← wZ,← rJ,B2]
      have vB:rdP (d+1) ver true fs_X0 s17=(.mk 0 [] false [xt0e1_0,xt0e1_1,xt0e1_2] (rdTags s20).1,(rdTags s20).2):=rdP_t B0
      repeat ((first|refine qA rfl ?_|apply qB|refine qC rfl ?_|apply qD|apply qE|apply qF|apply qG|apply qH);try simp (disch:=(first|omega|(simp only [qI,qJ,qK]<;>omega)|exact qL _)) only [go_sem,↓reduceIte,n0,reduceCtorEq,n1,n2,n3,n4,n5,i0,i1,i2,i3,i4,i5,i6,i7,sL,aJ,bY,bZ,c9,bR,bV,bW,bX,bH,cM])
      refine (ReadTags_fn w35 pZ.1 hrokc).mono ?_
      rintro _ w36 ⟨qmt0e1,rfl,iN,hTn,kX,l9⟩
      have lJ:=l9.blk_some lI (by omega)
      have eP:Upd (fun b=>b=R1∨b=rc0) w35 w36:=l9.mono (fun _ h=>.inr h)
      have jV:Upd (fun b=>b=vb∨b=rc0) w25 w36:=jU.trans' eP fun i hi h=>h.elim (fun h=>by omega) .inr
      have D6:=eP.size
      have yN:Glo ev w36:=aK.updS jV aM aN
      obtain ⟨X36,kA⟩:∃ X:Array Value,X=(A1++(([strV (rdStr true s17).1,.int .i16 (rdInt .i16 2 s18).1,.int .i16 (rdInt .i16 2 s19).1,.map none]:List Value)++B1)).toArray:=⟨_,rfl⟩
      have sM:blk w36 R1=some (X36,116,(0,0)):=by rw [kA];exact lJ
      have A7:j1 * 4+4≤X36.size:=by rw [kA];simp only [List.size_toArray,List.length_append,List.length_cons,List.length_nil,hA1];omega
      obtain ⟨s21,BO⟩:∃ s,s=(rdTags s20).2:=⟨_,rfl⟩
      rw [← BO] at kX vB
      have rV:j1 * 4+4≤X36.size:=by omega
      repeat (first|simp (disch:=(first|omega|(simp only [qI,qJ,qK]<;>omega)|exact qL _)) only [go_sem,↓reduceIte,n0,reduceCtorEq,n1,n2,n3,n4,n5,i0,i1,i2,i3,i4,i5,i6,i7,sM,aJ,bY,bZ,c9,bR,bV,bW,bX,bH,cM,rV]|refine qA rfl ?_|apply qB|refine qC rfl ?_|apply qD|apply qE|apply qF|apply qG|apply qH)
      generalize eV:wr w36 R1 (j1 * 4+3) [.map qmt0e1] = w37
      have oR:Upd (fun b=>b=R1∨b=rc0) w36 w37:=by rw [← eV];exact (Upd.refl _ _).wr _ _ (.inr (.inl rfl))
      have lK:blk w37 R1=some ((A1++(([strV (rdStr true s17).1,.int .i16 (rdInt .i16 2 s18).1,.int .i16 (rdInt .i16 2 s19).1,.map qmt0e1]:List Value)++B1)).toArray,116,(0,0)):=by rw [← eV];exact el_blk (o:=3) lJ hA1 (Nat.le_of_ble_eq_true rfl)
      have dX:=oR
      have oV:Upd (fun b=>b=vb∨b=rc0) w25 w37:=jV.trans' dX fun i hi h=>h.elim (fun h=>by omega) .inr
      have hz37:=dX.size
      have yO:Glo ev w37:=aK.updS oV aM aN
      have qM:Rdr RT ok w37 rc0 s21∧NN w37 rc0 s21:=by
       have hn:∀ x,x=w37→(Rdr RT ok x rc0 s21∧NN x rc0 s21):=fun x hx=>by
        rw [hx,← eV]
        exact Rdr.store kX (by omega) (fun h=>by have:=(hok _ h).1;first|omega|exact (hok _ h).2 rfl)
       exact hn _ rfl
      obtain ⟨X37,kB⟩:∃ X:Array Value,X=(A1++(([strV (rdStr true s17).1,.int .i16 (rdInt .i16 2 s18).1,.int .i16 (rdInt .i16 2 s19).1,.map qmt0e1]:List Value)++B1)).toArray:=⟨_,rfl⟩
      have lO:blk w37 R1=some (X37,116,(0,0)):=by rw [kB];exact lK
      have A8:j1 * 4+4≤X37.size:=by rw [kB];simp only [List.size_toArray,List.length_append,List.length_cons,List.length_nil,hA1];omega
      clear eV
      have zI:TagsM (fun b=>(ok b∨w25.heap.size≤b)∧¬ ownB va1 b) w37 (.map qmt0e1) (rdTags s20).1:=(iN.weaken fun b _ hk=>hk.elim (fun hk=>⟨.inl hk,fun ho=>by have:=(eF b ho).1;have:=(hok b hk).1;omega⟩) (fun h=>by have h':w35.heap.size≤b:=h;exact ⟨.inr (by omega),fun ho=>by have:=(eF _ ho).2;omega⟩)).keep (dX.keeps fun b _ hk e=>b9 b hk e)
      have y6:Upd (fun b=>b=R1∨b=rc0) w37 w37:=Upd.refl _ _
      have y5:Upd (fun b=>b=R1∨b=rc0) w36 w37:=dX.trans y6
      have sW:Upd (fun b=>b=R1∨b=rc0) w35 w37:=eP.trans y5
      have y4:Upd (fun b=>b=R1∨b=rc0) w34 w37:=eO.trans sW
      have sV:Upd (fun b=>b=R1∨b=rc0) w33 w37:=eN.trans y4
      have y3:Upd (fun b=>b=R1∨b=rc0) w32 w37:=dP.trans sV
      have sU:Upd (fun b=>b=R1∨b=rc0) w31 w37:=dO.trans y3
      have xZ:Upd (fun b=>b=R1∨b=rc0) w30 w37:=dN.trans sU
      have xY:Upd (fun b=>b=R1∨b=rc0) w29 w37:=eM.trans xZ
      have DJ:Upd (fun b=>b=R1∨b=rc0) w28 w37:=eL.trans xY
      have z1:RepS true (d+1) fs_X0 (fun b=>(ok b∨w25.heap.size≤b)∧¬ ownB va1 b) w37 (.mk 0 [] false [xt0e1_0,xt0e1_1,xt0e1_2] (rdTags s20).1) [strV (rdStr true s17).1,.int .i16 (rdInt .i16 2 s18).1,.int .i16 (rdInt .i16 2 s19).1,.map qmt0e1]:=RepS.introT (c:=[strV (rdStr true s17).1,.int .i16 (rdInt .i16 2 s18).1,.int .i16 (rdInt .i16 2 s19).1]) (RepL.cons1 (AJ.keepS (sU.keeps fun b _ hk e=>b9 b hk e)) (RepL.cons1 (AK.keepS (sV.keeps fun b _ hk e=>b9 b hk e)) (RepL.cons1 (AL.keepS (sW.keeps fun b _ hk e=>b9 b hk e)) RepL.nil))) zI
      have hrE:(rd1 (rdP (d+1) ver true) fQ_3.of fQ_3.sub false true) s17=((.mk 0 [] false [xt0e1_0,xt0e1_1,xt0e1_2] (rdTags s20).1),s21):=by rw [show (rd1 (rdP (d+1) ver true) fQ_3.of fQ_3.sub false true) s17=_ from rd1_part];exact vB
      have hxE:(Rep1 (RepS true (d+1)) fQ_3.of fQ_3.sub) (fun b=>(ok b∨w25.heap.size≤b)∧¬ ownB va1 b) w37 (.mk 0 [] false [xt0e1_0,xt0e1_1,xt0e1_2] (rdTags s20).1) [strV (rdStr true s17).1,.int .i16 (rdInt .i16 2 s18).1,.int .i16 (rdInt .i16 2 s19).1,.map qmt0e1]:=Rep1_part.2 z1
      repeat ((first|refine qA rfl ?_|apply qB|refine qC rfl ?_|apply qD|apply qE|apply qF|apply qG|apply qH);try simp (disch:=(first|omega|(simp only [qI,qJ,qK]<;>omega)|exact qL _)) only [go_sem,↓reduceIte,n0,reduceCtorEq,n1,n2,n3,n4,n5,i0,i1,i2,i3,i4,i5,i6,i7,lO,aJ,bY,bZ,c9,bR,bV,bW,bX,bH,cM])
      have hTk:Upd (fun b=>b=R1∨b=rc0) w28 w37:=((((((((eL.trans eM).trans dN).trans dO).trans dP).trans eN).trans eO).trans eP).trans dX)
      have hL':=hL1.step (Rep1_lay _ _ fun _=>RepS_lay true _ _) pT (dA w37 [strV (rdStr true s17).1,.int .i16 (rdInt .i16 2 s18).1,.int .i16 (rdInt .i16 2 s19).1,.map qmt0e1] rfl lK) (by rw [hrE];exact hxE) (hTk.mono fun b h=>h.imp (fun e=>⟨_,_,_,b6,e⟩) id) (by rw [hrE];exact qM) (fun h=>hoMc rc0 h (.inr rfl)) (Nat.le_refl _)
      have hij:IntKind.i32.wrap ((j1:Int)+1)=((j1+1:Nat):Int):=by rw [i32_wrap (by omega)];omega
      repeat ((first|refine qA rfl ?_|apply qB|refine qC rfl ?_|apply qD|apply qE|apply qF|apply qG|apply qH);try simp (disch:=(first|omega|(simp only [qI,qJ,qK]<;>omega)|exact qL _)) only [go_sem,↓reduceIte,n0,reduceCtorEq,n1,n2,n3,n4,n5,i0,i1,i2,i3,i4,i5,i6,i7,lO,aJ,bY,bZ,c9,bR,bV,bW,bX,bH,cM,hij])
      refine ⟨⟨(by simp (disch:=(first|omega|(simp only [qI,qJ,qK]<;>omega)|exact qL _)) only [go_sem,↓reduceIte,n0,reduceCtorEq,n1,n2,n3,n4,n5,i0,i1,i2,i3,i4,i5,i6,i7,Holds_nil,Holds_cons,aJ,bY,bZ,c9,bR,bV,bW,bX,bH,cM];exact b6.symm),j1+1,(by simp (disch:=(first|omega|(simp only [qI,qJ,qK]<;>omega)|exact qL _)) only [go_sem,↓reduceIte,n0,reduceCtorEq,n1,n2,n3,n4,n5,i0,i1,i2,i3,i4,i5,i6,i7,aJ,bY,bZ,c9,bR,bV,bW,bX,bH,cM,hij];all_goals rfl),_,_,_,hL'⟩,?_⟩
      try simp (disch:=(first|omega|(simp only [qI,qJ,qK]<;>omega)|exact qL _)) only [go_sem,↓reduceIte,n0,reduceCtorEq,n1,n2,n3,n4,n5,i0,i1,i2,i3,i4,i5,i6,i7,aJ,bY,bZ,c9,bR,bV,bW,bX,bH,cM]
      simp only [RowKit.intOf]
      omega
     ·have hjN:j1=N1:=by omega
      rw [hjN] at hL1
      repeat ((first|refine qA rfl ?_|apply qB|refine qC rfl ?_|apply qD|apply qE|apply qF|apply qG|apply qH);try simp (disch:=(first|omega|(simp only [qI,qJ,qK]<;>omega)|exact qL _)) only [go_sem,↓reduceIte,n0,reduceCtorEq,n1,n2,n3,n4,n5,i0,i1,i2,i3,i4,i5,i6,i7,aJ,bY,bZ,c9,bR,bV,bW,bX,rE,cM])
      exact ⟨(by simp (disch:=(first|omega|(simp only [qI,qJ,qK]<;>omega)|exact qL _)) only [go_sem,↓reduceIte,n0,reduceCtorEq,n1,n2,n3,n4,n5,i0,i1,i2,i3,i4,i5,i6,i7,Holds_nil,Holds_cons,aJ,bY,bZ,c9,bR,bV,bW,bX,rE,cM]),s17,xs1,css1,hL1⟩
    rintro ρ w38 ⟨⟨cX,gZ,hC,hD,gR,gT,gV,gX,gW,-⟩,s22,xs1,css1,hL1⟩
    have qN:=hL1.rd
    have lA:=hL1.upd
    have hv_38:=lA.blk_some hv_26 (by omega)
    have jY:Upd (fun b=>b=vb∨b=rc0) w26 w38:=lA.mono (fun _ h=>.inr h)
    have jW:Upd (fun b=>b=vb∨b=rc0) w25 w38:=bF.trans jY
    have D7:=jY.size
    have yP:Glo ev w38:=aK.updS jW aM aN
    have wD:rdF (rdP (d+1) ver true) ver true fQ_3 s15=(.mk 0 [] (nilS fQ_3 ver y1) xs1 [],s22):=by
     have h:=rdF_listE (pt:=(rdP (d+1) ver true)) (v:=ver) (flex:=true) (f:=fQ_3) (s:=s15) (xs:=xs1) (e:=s22) rfl (by rw [hy1,← hN1,← rI];exact hL1.done)
     rw [hy1] at h;exact h
    have BP:s22=(rdF (rdP (d+1) ver true) ver true fQ_3 s15).2:=by rw [wD]
    obtain ⟨aa1,qq1,CD⟩:=hL1.row.shape
    subst CD
    repeat ((first|refine qA rfl ?_|apply qB|refine qC rfl ?_|apply qD|apply qE|apply qF|apply qG|apply qH);try simp (disch:=(first|omega|(simp only [qI,qJ,qK]<;>omega)|exact qL _)) only [go_sem,↓reduceIte,n0,reduceCtorEq,n1,n2,n3,n4,n5,i0,i1,i2,i3,i4,i5,i6,i7,hv_38,cX,gZ,hC,hD,gR,gT,gV,gX,gW])
    generalize eW:wr w38 vb 4 [.slice aa1 N1 qq1] = w39
    have oS:Upd (fun b=>b=vb∨b=rc0) w38 w39:=by rw [← eW];exact (Upd.refl _ _).wr _ _ (.inr (.inl rfl))
    have hv_39:blk w39 vb=some (#[.int .i16 ver,.int .i16 (rdInt .i16 2 s0).1,.slice aa0 N0 qq0,.int .i32 (rdInt .i32 4 s8).1,.slice aa1 N1 qq1,v_5,v_6,v_7,.map qm],108,(0,0)):=by rw [← eW,blk_wr_eq,hv_38];rfl
    have gI:=oS
    have dV:Upd (fun b=>b=vb∨b=rc0) w25 w39:=jW.trans gI
    have D8:=gI.size
    have oD:Glo ev w39:=aK.updS dV aM aN
    have qO:Rdr RT ok w39 rc0 s22∧NN w39 rc0 s22:=by
     have hn:∀ x,x=w39→(Rdr RT ok x rc0 s22∧NN x rc0 s22):=fun x hx=>by
      rw [hx,← eW]
      exact Rdr.store qN (by omega) (fun h=>by have:=(hok _ h).1;first|omega|exact (hok _ h).2 rfl)
     exact hn _ rfl
    clear eW
    have AI:RepF (RepS true (d+1)) (szS true (d+1)) fQ_3 (fun b=>ok b∨w25.heap.size≤b) w39 (xt0_3) [.slice aa1 N1 qq1]:=by rw [wY,wD];exact RepF.keepS (RepF_row rfl vY hN1 rfl hL1.row hL1.all (fun b hb=>.inr (by omega))) (gI.keeps fun b _ hk e=>(hoMc b hk) e)
    clear hL1 vY
    repeat ((first|refine qA rfl ?_|apply qB|refine qC rfl ?_|apply qD|apply qE|apply qF|apply qG|apply qH);try simp (disch:=(first|omega|(simp only [qI,qJ,qK]<;>omega)|exact qL _)) only [go_sem,↓reduceIte,n0,reduceCtorEq,n1,n2,n3,n4,n5,i0,i1,i2,i3,i4,i5,i6,i7,hv_39,cX,gZ,hC,hD,gR,gT,gV,gX,gW])
    refine (RComplete_fn w39 qO.1 oD.2).mono ?_
    rintro _ wz ⟨rfl,hez⟩
    rw [hez]
    clear hez wz
    have hxF:rdF (rdP (d+1) ver true) ver true fQ_3 s15=(xt0_3,s22):=by rw [wY,BP]
    by_cases hsz:s22=none
    ·rw [errV_none hsz]
     obtain ⟨eT,ep,hevE⟩:=hev
     rw [hevE]
     repeat (first|simp (disch:=(first|omega|(simp only [qI,qJ,qK]<;>omega)|exact qL _)) only [go_sem,↓reduceIte,n0,reduceCtorEq,n1,n2,n3,n4,n5,i0,i1,i2,i3,i4,i5,i6,i7,hv_39,cX,gZ,hC,hD,gR,gT,gV,gX,gW]|refine qA rfl ?_|apply qB|refine qC rfl ?_|apply qD|apply qE|apply qF|apply qG|apply qH)
     rw [← hevE]
     exact ReadQ.bad (Eq.mp hFB (hbT (by rw [hxF];exact hsz))) (hbasec.trans' dV fun i hi h=>h.elim id fun h=>by omega)
    have hen:errV ev s22 = .nilIface:=errV_some hsz
    rw [hen]
    repeat (first|simp (disch:=(first|omega|(simp only [qI,qJ,qK]<;>omega)|exact qL _)) only [go_sem,↓reduceIte,n0,reduceCtorEq,n1,n2,n3,n4,n5,i0,i1,i2,i3,i4,i5,i6,i7,hv_39,cX,gZ,hC,hD,gR,gT,gV,gX,gW,hw1]|refine qA rfl ?_|apply qB|refine qC rfl ?_|apply qD|apply qE|apply qF|apply qG|apply qH)
    have hRk:Upd (fun b=>b=vb∨b=rb) w21 w39:=hQo.trans' dV fun i hi h=>h.elim .inl fun h=>by omega
    have hzr:=hRk.size
    have hE2:rdTg (rdP (d+1) ver true) ver true fs_Q m [x_0,x_1,x_2,xt0_3,y_4,y_5,y_6] u s14=rdTgs (rdP (d+1) ver true) ver true fs_Q [x_0,x_1,x_2,x_3,x_4,x_5,x_6] s9:=by
     have h:=(rdTg_known (k:=0) (hK.symm.trans hk0) rfl (by rw [← bE,← hSL,← hSP,← rH];exact hxF) hsz).symm.trans hE
     rw [← bE,← hSL,← mO] at h;exact h
    have hO2:tagOnce fs_Q m (0 :: ks) s14:=by
     have h:=hO.2
     rw [← hK,hk0,← bE,← hSL,← mO] at h;exact h
    refine ⟨⟨(by simp (disch:=(first|omega|(simp only [qI,qJ,qK]<;>omega)|exact qL _)) only [go_sem,↓reduceIte,n0,reduceCtorEq,n1,n2,n3,n4,n5,i0,i1,i2,i3,i4,i5,i6,i7,Holds_nil,Holds_cons,cX,gZ,hC,hD,gR,gT,gV,gX,gW]),m,(by simp (disch:=(first|omega|(simp only [qI,qJ,qK]<;>omega)|exact qL _)) only [go_sem,↓reduceIte,n0,reduceCtorEq,n1,n2,n3,n4,n5,i0,i1,i2,i3,i4,i5,i6,i7,cX,gZ,hC,hD,gR,gT,gV,gX,gW,hw1];all_goals rfl),u,s14,qm,0 :: ks,xt0_3,.slice aa1 N1 qq1,y_4,v_5,y_5,v_6,y_6,v_7,by omega,hE2,hv_39,RepF.weakenS AI (fun b hb hk=>⟨hk.imp id fun h=>by omega,hb,fun h=>by have:=hmap b h;rcases hk with hk|hk<;>first|omega|(have:=(hok b hk).1;omega)⟩),RepF.weakenS (hfT_4.keepS (hRk.keeps fun b _ hk e=>(hoM b hk.1) e)) (fun b hb hk=>⟨hk.1,hb,hk.2.2⟩),RepF.weakenS (hfT_5.keepS (hRk.keeps fun b _ hk e=>(hoM b hk.1) e)) (fun b hb hk=>⟨hk.1,hb,hk.2.2⟩),RepF.weakenS (hfT_6.keepS (hRk.keeps fun b _ hk e=>(hoM b hk.1) e)) (fun b hb hk=>⟨hk.1,hb,hk.2.2⟩),hO2,(fun h=>absurd (List.mem_cons_self ..) h),(fun h=>hd_5 (fun h'=>h (List.mem_cons_of_mem _ h'))),hTG.keep (fun b hb hk=>hRk.keep b hb fun e=>by rcases hk with hk|hk<;>rcases e with e|e<;>first|omega|(have:=hok b hk.1;omega)),hnd,⟨hqo.1.upd dV (by omega) (fun b _ hk e=>by have:=hok b hk;omega),hqo.2.upd dV (by omega)⟩,fB.trans hRk⟩,?_⟩
    try simp (disch:=(first|omega|(simp only [qI,qJ,qK]<;>omega)|exact qL _)) only [go_sem,↓reduceIte,n0,reduceCtorEq,n1,n2,n3,n4,n5,i0,i1,i2,i3,i4,i5,i6,i7,cX,gZ,hC,hD,gR,gT,gV,gX,gW]
    simp only [RowKit.intOf]
    omega
   ·have AU:¬ (K:Int)=0:=by omega
    by_cases hk1:K=1
    ·have hkI:(K:Int)=1:=by omega
     repeat ((first|refine qA rfl ?_|apply qB|refine qC rfl ?_|apply qD|apply qE|apply qF|apply qG|apply qH);try simp (disch:=(first|omega|(simp only [qI,qJ,qK]<;>omega)|exact qL _)) only [go_sem,↓reduceIte,n0,reduceCtorEq,n1,n2,n3,n4,n5,i0,i1,i2,i3,i4,i5,i6,i7,hv_22,hrt_2,hrt_7,hrt_8,hrt_9,hrt_10,hri,hkI])
     refine (RUvarint_fn w22 gP.1 hrok).mono ?_
     rintro _ w23 ⟨rfl,bC,dD⟩
     have hv_23:=dD.blk_some hv_22 (by omega)
     have cQ:Upd (fun b=>b=vb∨b=rb) w22 w23:=dD.mono (fun _ h=>.inr h)
     have dR:Upd (fun b=>b=vb∨b=rb) w1 w23:=jP.trans cQ
     have sO:=cQ.size
     have o7:Glo ev w23:=hG1.updS dR a8 aA
     have hSl:=rdUv_lt s12
     obtain ⟨s23,wH⟩:∃ s,s=(rdUv s12).2:=⟨_,rfl⟩
     rw [← wH] at bC
     obtain ⟨SL,hSL⟩:∃ N,N=(rdUv s12).1:=⟨_,rfl⟩
     rw [← hSL] at hSl
     try rw [← hSL]
     have e64:IntKind.i64.wrap (SL:Int)=SL:=i64_wrap (by omega)
     repeat (first|simp (disch:=(first|omega|(simp only [qI,qJ,qK]<;>omega)|exact qL _)) only [go_sem,↓reduceIte,n0,reduceCtorEq,n1,n2,n3,n4,n5,i0,i1,i2,i3,i4,i5,i6,i7,hv_23,hrt_2,hrt_7,hrt_8,hrt_9,hrt_10,hri,e64]|refine qA rfl ?_|apply qB|refine qC rfl ?_|apply qD|apply qE|apply qF|apply qG|apply qH)
     refine (Span_fn w23 bC.1 hrok _).mono ?_
     rintro r24 w24 ⟨hBs,_,_,hqx,hqy,dE⟩
     have bD:=And.intro hqx (hqy (.inl bC.2))
     clear hqx hqy
     have hv_24:=dE.blk_some hv_23 (by omega)
     have cR:Upd (fun b=>b=vb∨b=rb) w23 w24:=dE.mono (fun _ h=>.inr h)
     have dS:Upd (fun b=>b=vb∨b=rb) w1 w24:=dR.trans cR
     have sQ:=cR.size
     have o8:Glo ev w24:=hG1.updS dS a8 aA
     obtain ⟨s24,mP⟩:∃ s,s=(rdSpan (SL:Int) s23).2:=⟨_,rfl⟩
     rw [← mP] at bD
     obtain ⟨SP,hSP⟩:∃ x,x=(rdSpan (SL:Int) s23).1:=⟨_,rfl⟩
     rw [← hSP] at hBs
     rw [wH] at hSP mP
     obtain ⟨spa,spc,rfl,_⟩:=hBs.shape
     repeat ((first|refine qA rfl ?_|apply qB|refine qC rfl ?_|apply qD|apply qE|apply qF|apply qG|apply qH);try simp (disch:=(first|omega|(simp only [qI,qJ,qK]<;>omega)|exact qL _)) only [go_sem,↓reduceIte,n0,reduceCtorEq,n1,n2,n3,n4,n5,i0,i1,i2,i3,i4,i5,i6,i7,hv_24,hrt_2,hrt_7,hrt_8,hrt_9,hrt_10,hri,e64])
     obtain ⟨rc1,hrc⟩:∃ r,r=w24.heap.size:=⟨_,rfl⟩
     have hEi:Ext w24 (wr (w24.alloc (.cells #[.slice none 0 0,.bool false] 123)) w24.heap.size 0 [.slice spa SP.length spc,.bool false]):=(Upd.alloc (Upd.refl _ _) _).wr _ _ (.inl (Nat.le_refl _))
     have hzi:(wr (w24.alloc (.cells #[.slice none 0 0,.bool false] 123)) w24.heap.size 0 [.slice spa SP.length spc,.bool false]).heap.size=w24.heap.size+1:=by rw [size_wr,World.size_alloc]
     have hRi:Rdr RT ok (wr (w24.alloc (.cells #[.slice none 0 0,.bool false] 123)) w24.heap.size 0 [.slice spa SP.length spc,.bool false]) w24.heap.size (some SP):=Rdr.good (v:=.slice spa SP.length spc) (by simp (disch:=(first|omega|(simp only [qI,qJ,qK]<;>omega)|exact qL _)) only [go_sem,↓reduceIte,n0,reduceCtorEq,n1,n2,n3,n4,n5,i0,i1,i2,i3,i4,i5,i6,i7]) (hBs.keep (hEi.keeps _))
     have hv_25:=hEi.blk_some hv_24 id
     have hqo:=And.intro (bD.1.upd hEi (fun h=>h) (fun _ _ _ h=>h)) (bD.2.upd hEi fun h=>h)
     repeat ((first|refine qA rfl ?_|apply qB|refine qC rfl ?_|apply qD|apply qE|apply qF|apply qG|apply qH);try simp (disch:=(first|omega|(simp only [qI,qJ,qK]<;>omega)|exact qL _)) only [go_sem,↓reduceIte,n0,reduceCtorEq,n1,n2,n3,n4,n5,i0,i1,i2,i3,i4,i5,i6,i7,hv_24,hrt_2,hrt_7,hrt_8,hrt_9,hrt_10,hri,hkI])
     generalize (wr (w24.alloc (.cells #[.slice none 0 0,.bool false] 123)) w24.heap.size 0 [.slice spa SP.length spc,.bool false])=w25 at *
     rw [← hrc] at hRi
     try rw [← hrc]
     have cV:Upd (fun b=>b=vb∨b=rb) w24 w25:=hEi.mono fun _ h=>h.elim
     have dT:Upd (fun b=>b=vb∨b=rb) w1 w25:=dS.trans cV
     have sR:=cV.size
     have aK:Glo ev w25:=hG1.updS dT a8 aA
     have hQo:Upd (fun b=>b=vb∨b=rb) w21 w25:=(((gH.trans cQ).trans cR).trans cV)
     have hzo:=hQo.size
     have hrokc:¬ ok rc1:=fun h=>by have:=(hok _ h).1;omega
     have hgrbc:¬ 0=rc1:=by omega
     have aM:¬ (0=vb∨0=rc1):=fun h=>h.elim hgv.1 fun h=>by omega
     have aN:¬ (1=vb∨1=rc1):=fun h=>h.elim hgv.2 fun h=>by omega
     have hoMc:∀ b,(ok b∨w25.heap.size≤b)→¬ (b=vb∨b=rc1):=fun b hk h=>by
      rcases hk with hk|hk
      ·have:=hok b hk;rcases h with h|h<;>omega
      ·rcases h with h|h<;>omega
     have hbasec:Upd (fun b=>b=vb) w w25:=hbase.trans' dT fun i hi h=>h.elim id fun h=>by omega
     have hUc:Upd (fun b=>b=vb∨b=rc1) w25 w25:=Upd.refl _ _
     have hqc:Rdr RT ok w25 rc1 (some SP):=hRi
     obtain ⟨s25,rL⟩:∃ s:St,s=some SP:=⟨_,rfl⟩
     rw [← rL] at hqc
     have hbT:(rdF (rdP (d+1) ver true) ver true fQ_4 s25).2=none→FB:=fun h=>Eq.mpr hFB (rdM_badT hl_0 (by rw [← hE];exact rdTg_bad (hK.symm.trans hk1) rfl (by rw [← bE,← hSL,← hSP,← rL];exact h)))
     have DV:hasS fQ_4 ver=true:=hasS_t (by show (0:Int)≤ver;omega) (by show (-1:Int) < 0∨ver≤(-1:Int);omega)
     obtain ⟨xt1_4,xC⟩:∃ x,x=(rdF (rdP (d+1) ver true) ver true fQ_4 s25).1:=⟨_,rfl⟩
     repeat ((first|refine qA rfl ?_|apply qB|refine qC rfl ?_|apply qD|apply qE|apply qF|apply qG|apply qH);try simp (disch:=(first|omega|(simp only [qI,qJ,qK]<;>omega)|exact qL _)) only [go_sem,↓reduceIte,n0,reduceCtorEq,n1,n2,n3,n4,n5,i0,i1,i2,i3,i4,i5,i6,i7,hv_25,hrt_2,hrt_7,hrt_8,hrt_9,hrt_10,hri])
     have hrd:rdF (rdP (d+1) ver true) ver true fQ_4 s25=_:=rdF_num 4 rfl (by decide)
     refine (Int64_fn w25 hqc hrokc aK.1 hgrbc).mono ?_
     rintro _ w26 ⟨rfl,bA,eE⟩
     have hv_26:=eE.blk_some hv_25 (by omega)
     have cW:Upd (fun b=>b=vb∨b=rc1) w25 w26:=eE.mono (fun _ h=>.inr h)
     have bF:Upd (fun b=>b=vb∨b=rc1) w25 w26:=hUc.trans cW
     have nH:=cW.size
     have gD:Glo ev w26:=aK.updS bF aM aN
     have hst:(rdF (rdP (d+1) ver true) ver true fQ_4 s25).2=(rdInt .i64 8 s25).2:=by first|(rw [hrd];rfl)|rw [hrd]
     obtain ⟨s26,wI⟩:∃ s,s=(rdF (rdP (d+1) ver true) ver true fQ_4 s25).2:=⟨_,rfl⟩
     rw [← hst,← wI] at bA
     clear hst
     repeat ((first|refine qA rfl ?_|apply qB|refine qC rfl ?_|apply qD|apply qE|apply qF|apply qG|apply qH);try simp (disch:=(first|omega|(simp only [qI,qJ,qK]<;>omega)|exact qL _)) only [go_sem,↓reduceIte,n0,reduceCtorEq,n1,n2,n3,n4,n5,i0,i1,i2,i3,i4,i5,i6,i7,hv_26,hrt_2,hrt_7,hrt_8,hrt_9,hrt_10,hri])
     generalize eR:wr w26 vb 5 [.int .i64 (rdInt .i64 8 s25).1] = w27
     have oN:Upd (fun b=>b=vb∨b=rc1) w26 w27:=by rw [← eR];exact (Upd.refl _ _).wr _ _ (.inr (.inl rfl))
     have hv_27:blk w27 vb=some (#[.int .i16 ver,.int .i16 (rdInt .i16 2 s0).1,.slice aa0 N0 qq0,.int .i32 (rdInt .i32 4 s8).1,v_4,.int .i64 (rdInt .i64 8 s25).1,v_6,v_7,.map qm],108,(0,0)):=by rw [← eR,blk_wr_eq,hv_26];rfl
     have jX:=oN
     have dU:Upd (fun b=>b=vb∨b=rc1) w25 w27:=bF.trans jX
     have D1:=jX.size
     have o9:Glo ev w27:=aK.updS dU aM aN
     have pV:Rdr RT ok w27 rc1 s26∧NN w27 rc1 s26:=by
      have hn:∀ x,x=w27→(Rdr RT ok x rc1 s26∧NN x rc1 s26):=fun x hx=>by
       rw [hx,← eR]
       exact Rdr.store bA (by omega) (fun h=>by have:=(hok _ h).1;first|omega|exact (hok _ h).2 rfl)
      exact hn _ rfl
     clear eR
     have AM:RepF (RepS true (d+1)) (szS true (d+1)) fQ_4 (fun b=>ok b∨w25.heap.size≤b) w27 (xt1_4) [.int .i64 (rdInt .i64 8 s25).1]:=(RepF_num (by decide)).2 (by rw [xC,hrd];exact congrArg (fun x=>[x]) (numC_rd 4 (by decide) 8 s25).symm)
     clear hrd
     repeat ((first|refine qA rfl ?_|apply qB|refine qC rfl ?_|apply qD|apply qE|apply qF|apply qG|apply qH);try simp (disch:=(first|omega|(simp only [qI,qJ,qK]<;>omega)|exact qL _)) only [go_sem,↓reduceIte,n0,reduceCtorEq,n1,n2,n3,n4,n5,i0,i1,i2,i3,i4,i5,i6,i7,hv_27,hrt_2,hrt_7,hrt_8,hrt_9,hrt_10,hri])
     refine (RComplete_fn w27 pV.1 o9.2).mono ?_
     rintro _ wz ⟨rfl,hez⟩
     rw [hez]
     clear hez wz
     have hxF:rdF (rdP (d+1) ver true) ver true fQ_4 s25=(xt1_4,s26):=by rw [xC,wI]
     by_cases hsz:s26=none
     ·rw [errV_none hsz]
      obtain ⟨eT,ep,hevE⟩:=hev
      rw [hevE]
      repeat (first|simp (disch:=(first|omega|(simp only [qI,qJ,qK]<;>omega)|exact qL _)) only [go_sem,↓reduceIte,n0,reduceCtorEq,n1,n2,n3,n4,n5,i0,i1,i2,i3,i4,i5,i6,i7,hv_27,hrt_2,hrt_7,hrt_8,hrt_9,hrt_10,hri]|refine qA rfl ?_|apply qB|refine qC rfl ?_|apply qD|apply qE|apply qF|apply qG|apply qH)
      rw [← hevE]
      exact ReadQ.bad (Eq.mp hFB (hbT (by rw [hxF];exact hsz))) (hbasec.trans' dU fun i hi h=>h.elim id fun h=>by omega)
     have hen:errV ev s26 = .nilIface:=errV_some hsz
     rw [hen]
     repeat (first|simp (disch:=(first|omega|(simp only [qI,qJ,qK]<;>omega)|exact qL _)) only [go_sem,↓reduceIte,n0,reduceCtorEq,n1,n2,n3,n4,n5,i0,i1,i2,i3,i4,i5,i6,i7,hv_27,hrt_2,hrt_7,hrt_8,hrt_9,hrt_10,hri,hw1]|refine qA rfl ?_|apply qB|refine qC rfl ?_|apply qD|apply qE|apply qF|apply qG|apply qH)
     have hRk:Upd (fun b=>b=vb∨b=rb) w21 w27:=hQo.trans' dU fun i hi h=>h.elim .inl fun h=>by omega
     have hzr:=hRk.size
     have hE2:rdTg (rdP (d+1) ver true) ver true fs_Q m [x_0,x_1,x_2,y_3,xt1_4,y_5,y_6] u s24=rdTgs (rdP (d+1) ver true) ver true fs_Q [x_0,x_1,x_2,x_3,x_4,x_5,x_6] s9:=by
      have h:=(rdTg_known (k:=1) (hK.symm.trans hk1) rfl (by rw [← bE,← hSL,← hSP,← rL];exact hxF) hsz).symm.trans hE
      rw [← bE,← hSL,← mP] at h;exact h
     have hO2:tagOnce fs_Q m (1 :: ks) s24:=by
      have h:=hO.2
      rw [← hK,hk1,← bE,← hSL,← mP] at h;exact h
     refine ⟨⟨(by simp (disch:=(first|omega|(simp only [qI,qJ,qK]<;>omega)|exact qL _)) only [go_sem,↓reduceIte,n0,reduceCtorEq,n1,n2,n3,n4,n5,i0,i1,i2,i3,i4,i5,i6,i7,Holds_nil,Holds_cons,hrt_2,hrt_7,hrt_8,hrt_9,hrt_10,hri]),m,(by simp (disch:=(first|omega|(simp only [qI,qJ,qK]<;>omega)|exact qL _)) only [go_sem,↓reduceIte,n0,reduceCtorEq,n1,n2,n3,n4,n5,i0,i1,i2,i3,i4,i5,i6,i7,hrt_2,hrt_7,hrt_8,hrt_9,hrt_10,hri,hw1];all_goals rfl),u,s24,qm,1 :: ks,y_3,v_4,xt1_4,.int .i64 (rdInt .i64 8 s25).1,y_5,v_6,y_6,v_7,by omega,hE2,hv_27,RepF.weakenS (hfT_3.keepS (hRk.keeps fun b _ hk e=>(hoM b hk.1) e)) (fun b hb hk=>⟨hk.1,hb,hk.2.2⟩),RepF.weakenS AM (fun b hb hk=>⟨hk.imp id fun h=>by omega,hb,fun h=>by have:=hmap b h;rcases hk with hk|hk<;>first|omega|(have:=(hok b hk).1;omega)⟩),RepF.weakenS (hfT_5.keepS (hRk.keeps fun b _ hk e=>(hoM b hk.1) e)) (fun b hb hk=>⟨hk.1,hb,hk.2.2⟩),RepF.weakenS (hfT_6.keepS (hRk.keeps fun b _ hk e=>(hoM b hk.1) e)) (fun b hb hk=>⟨hk.1,hb,hk.2.2⟩),hO2,(fun h=>hd_3 (fun h'=>h (List.mem_cons_of_mem _ h'))),(fun h=>hd_5 (fun h'=>h (List.mem_cons_of_mem _ h'))),hTG.keep (fun b hb hk=>hRk.keep b hb fun e=>by rcases hk with hk|hk<;>rcases e with e|e<;>first|omega|(have:=hok b hk.1;omega)),hnd,⟨hqo.1.upd dU (by omega) (fun b _ hk e=>by have:=hok b hk;omega),hqo.2.upd dU (by omega)⟩,fB.trans hRk⟩,?_⟩
     try simp (disch:=(first|omega|(simp only [qI,qJ,qK]<;>omega)|exact qL _)) only [go_sem,↓reduceIte,n0,reduceCtorEq,n1,n2,n3,n4,n5,i0,i1,i2,i3,i4,i5,i6,i7,hrt_2,hrt_7,hrt_8,hrt_9,hrt_10,hri]
     simp only [RowKit.intOf]
     omega
    ·have AV:¬ (K:Int)=1:=by omega
     by_cases hk2:K=2
     ·have hkI:(K:Int)=2:=by omega
      repeat ((first|refine qA rfl ?_|apply qB|refine qC rfl ?_|apply qD|apply qE|apply qF|apply qG|apply qH);try simp (disch:=(first|omega|(simp only [qI,qJ,qK]<;>omega)|exact qL _)) only [go_sem,↓reduceIte,n0,reduceCtorEq,n1,n2,n3,n4,n5,i0,i1,i2,i3,i4,i5,i6,i7,hv_22,hrt_2,hrt_7,hrt_8,hrt_9,hrt_10,hri,hkI])
      refine (RUvarint_fn w22 gP.1 hrok).mono ?_
      rintro _ w23 ⟨rfl,bC,dD⟩
      have hv_23:=dD.blk_some hv_22 (by omega)
      have cQ:Upd (fun b=>b=vb∨b=rb) w22 w23:=dD.mono (fun _ h=>.inr h)
      have dR:Upd (fun b=>b=vb∨b=rb) w1 w23:=jP.trans cQ
      have sO:=cQ.size
      have o7:Glo ev w23:=hG1.updS dR a8 aA
      have hSl:=rdUv_lt s12
      obtain ⟨s27,wJ⟩:∃ s,s=(rdUv s12).2:=⟨_,rfl⟩
      rw [← wJ] at bC
      obtain ⟨SL,hSL⟩:∃ N,N=(rdUv s12).1:=⟨_,rfl⟩
      rw [← hSL] at hSl
      try rw [← hSL]
      have e64:IntKind.i64.wrap (SL:Int)=SL:=i64_wrap (by omega)
      repeat (first|simp (disch:=(first|omega|(simp only [qI,qJ,qK]<;>omega)|exact qL _)) only [go_sem,↓reduceIte,n0,reduceCtorEq,n1,n2,n3,n4,n5,i0,i1,i2,i3,i4,i5,i6,i7,hv_23,hrt_2,hrt_7,hrt_8,hrt_9,hrt_10,hri,e64]|refine qA rfl ?_|apply qB|refine qC rfl ?_|apply qD|apply qE|apply qF|apply qG|apply qH)
      refine (Span_fn w23 bC.1 hrok _).mono ?_
      rintro r24 w24 ⟨hBs,_,_,hqx,hqy,dE⟩
      have bD:=And.intro hqx (hqy (.inl bC.2))
      clear hqx hqy
      have hv_24:=dE.blk_some hv_23 (by omega)
      have cR:Upd (fun b=>b=vb∨b=rb) w23 w24:=dE.mono (fun _ h=>.inr h)
      have dS:Upd (fun b=>b=vb∨b=rb) w1 w24:=dR.trans cR
      have sQ:=cR.size
      have o8:Glo ev w24:=hG1.updS dS a8 aA
      obtain ⟨s28,mQ⟩:∃ s,s=(rdSpan (SL:Int) s27).2:=⟨_,rfl⟩
      rw [← mQ] at bD
      obtain ⟨SP,hSP⟩:∃ x,x=(rdSpan (SL:Int) s27).1:=⟨_,rfl⟩
      rw [← hSP] at hBs
      rw [wJ] at hSP mQ
      obtain ⟨spa,spc,rfl,_⟩:=hBs.shape
      repeat ((first|refine qA rfl ?_|apply qB|refine qC rfl ?_|apply qD|apply qE|apply qF|apply qG|apply qH);try simp (disch:=(first|omega|(simp only [qI,qJ,qK]<;>omega)|exact qL _)) only [go_sem,↓reduceIte,n0,reduceCtorEq,n1,n2,n3,n4,n5,i0,i1,i2,i3,i4,i5,i6,i7,hv_24,hrt_2,hrt_7,hrt_8,hrt_9,hrt_10,hri,e64])
      obtain ⟨rc2,hrc⟩:∃ r,r=w24.heap.size:=⟨_,rfl⟩
      have hEi:Ext w24 (wr (w24.alloc (.cells #[.slice none 0 0,.bool false] 123)) w24.heap.size 0 [.slice spa SP.length spc,.bool false]):=(Upd.alloc (Upd.refl _ _) _).wr _ _ (.inl (Nat.le_refl _))
      have hzi:(wr (w24.alloc (.cells #[.slice none 0 0,.bool false] 123)) w24.heap.size 0 [.slice spa SP.length spc,.bool false]).heap.size=w24.heap.size+1:=by rw [size_wr,World.size_alloc]
      have hRi:Rdr RT ok (wr (w24.alloc (.cells #[.slice none 0 0,.bool false] 123)) w24.heap.size 0 [.slice spa SP.length spc,.bool false]) w24.heap.size (some SP):=Rdr.good (v:=.slice spa SP.length spc) (by simp (disch:=(first|omega|(simp only [qI,qJ,qK]<;>omega)|exact qL _)) only [go_sem,↓reduceIte,n0,reduceCtorEq,n1,n2,n3,n4,n5,i0,i1,i2,i3,i4,i5,i6,i7]) (hBs.keep (hEi.keeps _))
      have hv_25:=hEi.blk_some hv_24 id
      have hqo:=And.intro (bD.1.upd hEi (fun h=>h) (fun _ _ _ h=>h)) (bD.2.upd hEi fun h=>h)
      repeat ((first|refine qA rfl ?_|apply qB|refine qC rfl ?_|apply qD|apply qE|apply qF|apply qG|apply qH);try simp (disch:=(first|omega|(simp only [qI,qJ,qK]<;>omega)|exact qL _)) only [go_sem,↓reduceIte,n0,reduceCtorEq,n1,n2,n3,n4,n5,i0,i1,i2,i3,i4,i5,i6,i7,hv_24,hrt_2,hrt_7,hrt_8,hrt_9,hrt_10,hri,hkI])
      generalize (wr (w24.alloc (.cells #[.slice none 0 0,.bool false] 123)) w24.heap.size 0 [.slice spa SP.length spc,.bool false])=w25 at *
      rw [← hrc] at hRi
      try rw [← hrc]
      have cV:Upd (fun b=>b=vb∨b=rb) w24 w25:=hEi.mono fun _ h=>h.elim
      have dT:Upd (fun b=>b=vb∨b=rb) w1 w25:=dS.trans cV
      have sR:=cV.size
      have aK:Glo ev w25:=hG1.updS dT a8 aA
      have hQo:Upd (fun b=>b=vb∨b=rb) w21 w25:=(((gH.trans cQ).trans cR).trans cV)
      have hzo:=hQo.size
      have hrokc:¬ ok rc2:=fun h=>by have:=(hok _ h).1;omega
      have hgrbc:¬ 0=rc2:=by omega
      have aM:¬ (0=vb∨0=rc2):=fun h=>h.elim hgv.1 fun h=>by omega
      have aN:¬ (1=vb∨1=rc2):=fun h=>h.elim hgv.2 fun h=>by omega
      have hoMc:∀ b,(ok b∨w25.heap.size≤b)→¬ (b=vb∨b=rc2):=fun b hk h=>by
       rcases hk with hk|hk
       ·have:=hok b hk;rcases h with h|h<;>omega
       ·rcases h with h|h<;>omega
      have hbasec:Upd (fun b=>b=vb) w w25:=hbase.trans' dT fun i hi h=>h.elim id fun h=>by omega
      have hUc:Upd (fun b=>b=vb∨b=rc2) w25 w25:=Upd.refl _ _
      have hqc:Rdr RT ok w25 rc2 (some SP):=hRi
      obtain ⟨s29,rM⟩:∃ s:St,s=some SP:=⟨_,rfl⟩
      rw [← rM] at hqc
      have hbT:(rdF (rdP (d+1) ver true) ver true fQ_5 s29).2=none→FB:=fun h=>Eq.mpr hFB (rdM_badT hl_0 (by rw [← hE];exact rdTg_bad (hK.symm.trans hk2) rfl (by rw [← bE,← hSL,← hSP,← rM];exact h)))
      have hni:2∉ks:=fun h=>hO.1 (by rw [← hK,hk2];exact fun h=>by cases h) (by rw [← hK,hk2];exact h)
      obtain rfl:=hd_5 hni
      have DW:hasS fQ_5 ver=true:=hasS_t (by show (0:Int)≤ver;omega) (by show (-1:Int) < 0∨ver≤(-1:Int);omega)
      obtain ⟨xt2_5,xD⟩:∃ x,x=(rdF (rdP (d+1) ver true) ver true fQ_5 s29).1:=⟨_,rfl⟩
      repeat ((first|refine qA rfl ?_|apply qB|refine qC rfl ?_|apply qD|apply qE|apply qF|apply qG|apply qH);try simp (disch:=(first|omega|(simp only [qI,qJ,qK]<;>omega)|exact qL _)) only [go_sem,↓reduceIte,n0,reduceCtorEq,n1,n2,n3,n4,n5,i0,i1,i2,i3,i4,i5,i6,i7,hv_25,hrt_2,hrt_7,hrt_8,hrt_9,hrt_10,hri])
      refine (RCompactArrayLen_fn w25 hqc hrokc aK.1 hgrbc).mono ?_
      rintro _ w26 ⟨rfl,bA,eE⟩
      have hv_26:=eE.blk_some hv_25 (by omega)
      have cW:Upd (fun b=>b=vb∨b=rc2) w25 w26:=eE.mono (fun _ h=>.inr h)
      have bF:Upd (fun b=>b=vb∨b=rc2) w25 w26:=hUc.trans cW
      have nH:=cW.size
      have gD:Glo ev w26:=aK.updS bF aM aN
      obtain ⟨s30,rN⟩:∃ s,s=(rdALen true s29).2:=⟨_,rfl⟩
      rw [← rN] at bA
      have EA:=rdALen_rng true s29
      generalize hy2:(rdALen true s29).1=y2 at *
      obtain ⟨N2,hN2⟩:∃ N,N=y2.toNat:=⟨_,rfl⟩
      have vW:(rdMany (rd1 (rdP (d+1) ver true) fQ_5.of fQ_5.sub false true) N2 s30).2=none→FB:=fun h=>hbT (rdF_listbad rfl (by rw [hy2,← hN2,← rN];exact h))
      repeat ((first|refine W.seqR rfl ?_|refine W.seq ?_|refine W.regR rfl ?_|refine W.block ?_|refine W.skip ?_|refine W.ret ?_|refine W.exit ?_);try simp (disch:=(first|omega|(simp only [qI,qJ,qK]<;>omega)|exact qL _)) only [go_sem,↓reduceIte,n0,reduceCtorEq,n1,n2,n3,n4,n5,i0,i1,i2,i3,i4,i5,i6,i7,hv_26,hrt_2,hrt_7,hrt_8,hrt_9,hrt_10,hri])
      refine (ROk_fn w26 bA.1).mono ?_
      rintro _ wz ⟨rfl,hez⟩
      rw [hez]
      clear hez wz
      by_cases mU:s30=none
      ·have hso:s30.isSome=false:=by rw [mU];rfl
       repeat (first|simp (disch:=(first|omega|(simp only [qI,qJ,qK]<;>omega)|exact qL _)) only [go_sem,↓reduceIte,n0,reduceCtorEq,n1,n2,n3,n4,n5,i0,i1,i2,i3,i4,i5,i6,i7,hv_26,hrt_2,hrt_7,hrt_8,hrt_9,hrt_10,hri,hso]|refine qA rfl ?_|apply qB|refine qC rfl ?_|apply qD|apply qE|apply qF|apply qG|apply qH)
       refine (RComplete_fn w26 bA.1 gD.2).mono ?_
       rintro _ wz ⟨rfl,hez⟩
       rw [hez]
       repeat (first|simp (disch:=(first|omega|(simp only [qI,qJ,qK]<;>omega)|exact qL _)) only [go_sem,↓reduceIte,n0,reduceCtorEq,n1,n2,n3,n4,n5,i0,i1,i2,i3,i4,i5,i6,i7,hv_26,hrt_2,hrt_7,hrt_8,hrt_9,hrt_10,hri]|refine qA rfl ?_|apply qB|refine qC rfl ?_|apply qD|apply qE|apply qF|apply qG|apply qH)
       rw [errV_none mU]
       exact ReadQ.bad (Eq.mp hFB (vW (by rw [mU];exact rdMany_none rd1P_none _))) (hbasec.trans' bF fun i hi h=>h.elim id fun h=>by omega)
      have mW:s30.isSome=true:=isSome_some mU
      try simp (disch:=(first|omega|(simp only [qI,qJ,qK]<;>omega)|exact qL _)) only [go_sem,↓reduceIte,n0,reduceCtorEq,n1,n2,n3,n4,n5,i0,i1,i2,i3,i4,i5,i6,i7,hv_26,hrt_2,hrt_7,hrt_8,hrt_9,hrt_10,hri,mW]
      repeat ((first|refine W.seqR rfl ?_|refine W.seq ?_|refine W.regR rfl ?_|refine W.block ?_|refine W.skip ?_|refine W.ret ?_|refine W.exit ?_);try simp (disch:=(first|omega|(simp only [qI,qJ,qK]<;>omega)|exact qL _)) only [go_sem,↓reduceIte,n0,reduceCtorEq,n1,n2,n3,n4,n5,i0,i1,i2,i3,i4,i5,i6,i7,hv_26,hrt_2,hrt_7,hrt_8,hrt_9,hrt_10,hri,mW])
      refine W.condK ?_
      try simp (disch:=(first|omega|(simp only [qI,qJ,qK]<;>omega)|exact qL _)) only [go_sem,↓reduceIte,n0,reduceCtorEq,n1,n2,n3,n4,n5,i0,i1,i2,i3,i4,i5,i6,i7,hv_26,hrt_2,hrt_7,hrt_8,hrt_9,hrt_10,hri,mW]
      repeat ((first|refine W.seqR rfl ?_|refine W.seq ?_|refine W.regR rfl ?_|refine W.block ?_|refine W.skip ?_|refine W.ret ?_|refine W.exit ?_);try simp (disch:=(first|omega|(simp only [qI,qJ,qK]<;>omega)|exact qL _)) only [go_sem,↓reduceIte,n0,reduceCtorEq,n1,n2,n3,n4,n5,i0,i1,i2,i3,i4,i5,i6,i7,hv_26,hrt_2,hrt_7,hrt_8,hrt_9,hrt_10,hri,mW,slBase_00])
      refine W.normJ (RowQ [(2,.bool false),(7,.pointer (some ⟨rb,0,none⟩)),(8,.int .i16 ver),(9,.bool true),(10,.pointer (some ⟨vb,0,none⟩)),(22,.int .u32 ((m+1:Nat):Int)),(38,.pointer (some ⟨rc2,0,none⟩)),(41,.int .i32 y2)] 40 (fun va w'=>LstI RT (rd1 (rdP (d+1) ver true) fQ_5.of fQ_5.sub false true) (Rep1 (RepS true (d+1)) fQ_5.of fQ_5.sub) 4 120 [.string ByteArray.empty,.int .i16 0,.int .i16 0,.map none] w26.heap.size N2 ok (fun b=>ok b∨w25.heap.size≤b) rc2 w26 s30 va 0 s30 [] [] w'∧(N2=0→if nilS fQ_5 ver y2=true then va = .slice none 0 0 else ∃ a,va = .slice (some a) 0 0))) ?_ ?_
      ·by_cases hy0:(0:Int) < y2
       ·have hyv:Value.int .i32 y2 = .int .i32 ((N2:Nat):Int):=by rw [show y2=((N2:Nat):Int) by omega]
        repeat ((first|refine qA rfl ?_|apply qB|refine qC rfl ?_|apply qD|apply qE|apply qF|apply qG|apply qH);try simp (disch:=(first|omega|(simp only [qI,qJ,qK]<;>omega)|exact qL _)) only [go_sem,↓reduceIte,n0,reduceCtorEq,n1,n2,n3,n4,n5,i0,i1,i2,i3,i4,i5,i6,i7,hv_26,hrt_2,hrt_7,hrt_8,hrt_9,hrt_10,hri])
        refine wp_appendZ (m:=N2) utQ_106 utQ_21 inQ_120 (by decide) (by first|rfl|simp (disch:=(first|omega|(simp only [qI,qJ,qK]<;>omega)|exact qL _)) only [go_sem,↓reduceIte,n0,reduceCtorEq,n1,n2,n3,n4,n5,i0,i1,i2,i3,i4,i5,i6,i7,hrt_2,hrt_7,hrt_8,hrt_9,hrt_10,hri]) (by first|exact hyv|(simp (disch:=(first|omega|(simp only [qI,qJ,qK]<;>omega)|exact qL _)) only [go_sem,↓reduceIte,n0,reduceCtorEq,n1,n2,n3,n4,n5,i0,i1,i2,i3,i4,i5,i6,i7,hrt_2,hrt_7,hrt_8,hrt_9,hrt_10,hri];exact hyv)) (by omega) (by omega) (by decide) ?_
        intro q rest hq1
        have hEw:Ext w26 (w26.drew.alloc (.cells (zs [.string ByteArray.empty,.int .i16 0,.int .i16 0,.map none] N2++rest).toArray 120)):=(Upd.refl _ _).drew.alloc _
        repeat (first|simp (disch:=(first|omega|(simp only [qI,qJ,qK]<;>omega)|exact qL _)) only [go_sem,↓reduceIte,n0,reduceCtorEq,n1,n2,n3,n4,n5,i0,i1,i2,i3,i4,i5,i6,i7,hv_26,hrt_2,hrt_7,hrt_8,hrt_9,hrt_10,hri]|refine qA rfl ?_|apply qB|refine qC rfl ?_|apply qD|apply qE|apply qF|apply qG|apply qH)
        exact ⟨(by simp (disch:=(first|omega|(simp only [qI,qJ,qK]<;>omega)|exact qL _)) only [go_sem,↓reduceIte,n0,reduceCtorEq,n1,n2,n3,n4,n5,i0,i1,i2,i3,i4,i5,i6,i7,Holds_nil,Holds_cons,hrt_2,hrt_7,hrt_8,hrt_9,hrt_10,hri]),.slice (some ⟨w26.heap.size,0,none⟩) N2 q,(by simp (disch:=(first|omega|(simp only [qI,qJ,qK]<;>omega)|exact qL _)) only [go_sem,↓reduceIte,n0,reduceCtorEq,n1,n2,n3,n4,n5,i0,i1,i2,i3,i4,i5,i6,i7,hrt_2,hrt_7,hrt_8,hrt_9,hrt_10,hri]),LstI.start (RowJ.start (by omega) hq1 (by show w26.heap.size≤w26.drew.heap.size;rw [size_drew];omega) (blk_alloc_new rfl)) ⟨bA.1.upd hEw (fun h=>h) (fun _ _ _ h=>h),bA.2.upd hEw fun h=>h⟩ (hEw.mono fun _ h=>h.elim),fun h0=>by omega⟩
       ·repeat ((first|refine qA rfl ?_|apply qB|refine qC rfl ?_|apply qD|apply qE|apply qF|apply qG|apply qH);try simp (disch:=(first|omega|(simp only [qI,qJ,qK]<;>omega)|exact qL _)) only [go_sem,↓reduceIte,n0,reduceCtorEq,n1,n2,n3,n4,n5,i0,i1,i2,i3,i4,i5,i6,i7,hv_26,hrt_2,hrt_7,hrt_8,hrt_9,hrt_10,hri])
        exact ⟨(by simp (disch:=(first|omega|(simp only [qI,qJ,qK]<;>omega)|exact qL _)) only [go_sem,↓reduceIte,n0,reduceCtorEq,n1,n2,n3,n4,n5,i0,i1,i2,i3,i4,i5,i6,i7,Holds_nil,Holds_cons,hrt_2,hrt_7,hrt_8,hrt_9,hrt_10,hri]),.slice none 0 0,(by simp (disch:=(first|omega|(simp only [qI,qJ,qK]<;>omega)|exact qL _)) only [go_sem,↓reduceIte,n0,reduceCtorEq,n1,n2,n3,n4,n5,i0,i1,i2,i3,i4,i5,i6,i7,hrt_2,hrt_7,hrt_8,hrt_9,hrt_10,hri,slBase_00]),LstI.start (RowJ.zero (by omega) (fun _ h=>by cases h)) bA (Upd.refl _ _),fun _=>by rw [nilS_plain (by decide) (by omega)];exact rfl⟩
      rintro ρ w27 ⟨⟨qY,rB,rC,rD,qX,qZ,r9,rA,-⟩,va2,bI,hL2,vZ⟩
      repeat ((first|refine qA rfl ?_|apply qB|refine qC rfl ?_|apply qD|apply qE|apply qF|apply qG|apply qH);try simp (disch:=(first|omega|(simp only [qI,qJ,qK]<;>omega)|exact qL _)) only [go_sem,↓reduceIte,n0,reduceCtorEq,n1,n2,n3,n4,n5,i0,i1,i2,i3,i4,i5,i6,i7,hv_26,qY,rB,rC,rD,qX,qZ,r9,rA,bI])
      refine W.exitRJ 7 (EndQ [(2,.bool false),(7,.pointer (some ⟨rb,0,none⟩)),(8,.int .i16 ver),(9,.bool true),(10,.pointer (some ⟨vb,0,none⟩)),(22,.int .u32 ((m+1:Nat):Int)),(38,.pointer (some ⟨rc2,0,none⟩)),(41,.int .i32 y2),(40,va2)] (fun w'=>∃ s xs css,LstI RT (rd1 (rdP (d+1) ver true) fQ_5.of fQ_5.sub false true) (Rep1 (RepS true (d+1)) fQ_5.of fQ_5.sub) 4 120 [.string ByteArray.empty,.int .i16 0,.int .i16 0,.map none] w26.heap.size N2 ok (fun b=>ok b∨w25.heap.size≤b) rc2 w26 s30 va2 N2 s xs css w')) (W.loop (LoopQ [(2,.bool false),(7,.pointer (some ⟨rb,0,none⟩)),(8,.int .i16 ver),(9,.bool true),(10,.pointer (some ⟨vb,0,none⟩)),(22,.int .u32 ((m+1:Nat):Int)),(38,.pointer (some ⟨rc2,0,none⟩)),(41,.int .i32 y2),(40,va2)] 42 (fun j w'=>∃ s xs css,LstI RT (rd1 (rdP (d+1) ver true) fQ_5.of fQ_5.sub false true) (Rep1 (RepS true (d+1)) fQ_5.of fQ_5.sub) 4 120 [.string ByteArray.empty,.int .i16 0,.int .i16 0,.map none] w26.heap.size N2 ok (fun b=>ok b∨w25.heap.size≤b) rc2 w26 s30 va2 j s xs css w')) (fun ρ _=>N2 - (RowKit.intOf (ρ 42)).toNat) ?_ ?_) ?_
      ·exact ⟨(by simp (disch:=(first|omega|(simp only [qI,qJ,qK]<;>omega)|exact qL _)) only [go_sem,↓reduceIte,n0,reduceCtorEq,n1,n2,n3,n4,n5,i0,i1,i2,i3,i4,i5,i6,i7,Holds_nil,Holds_cons,qY,rB,rC,rD,qX,qZ,r9,rA,bI]),0,(by simp (disch:=(first|omega|(simp only [qI,qJ,qK]<;>omega)|exact qL _)) only [go_sem,↓reduceIte,n0,reduceCtorEq,n1,n2,n3,n4,n5,i0,i1,i2,i3,i4,i5,i6,i7,qY,rB,rC,rD,qX,qZ,r9,rA,bI];all_goals rfl),s30,[],[],hL2⟩
      ·rintro ρ w28 ⟨⟨cC,cH,cI,cJ,cA,cD,cE,cF,rF,-⟩,j1,cO,s31,xs2,css2,hL2⟩
       have hj2:=hL2.le
       have kS:=hL2.rd
       have jQ:Upd (fun b=>b=vb∨b=rc2) w25 w28:=bF.trans' hL2.upd fun i _ h=>.inr h
       have D2:=hL2.upd.size
       have yI:Glo ev w28:=aK.updS jQ aM aN
       by_cases hlt2:j1 < N2
       ·obtain ⟨R1,q1,B1,b6,lY,lX,hA1,eX,dA⟩:=hL2.row.next hlt2
        have m7:=blk_lt eX
        generalize css2.flatten=A1 at hA1 eX dA
        replace bI:ρ 40 = .slice (some ⟨R1,0,none⟩) N2 q1:=rF.trans b6
        have eF:∀ b,ownB va2 b→w26.heap.size≤b∧b < w28.heap.size:=fun b h=>hL2.row.own h
        have b9:∀ b,(fun b=>(ok b∨w25.heap.size≤b)∧¬ ownB va2 b) b→¬ (b=R1∨b=rc2):=fun b hk h=>h.elim (fun e=>hk.2 ⟨_,_,_,b6,e⟩) (fun e=>hoMc b hk.1 (.inr e))
        obtain ⟨X28,jZ⟩:∃ X:Array Value,X=(A1++(([.string ByteArray.empty,.int .i16 0,.int .i16 0,.map none]:List Value)++B1)).toArray:=⟨_,rfl⟩
        have sE:blk w28 R1=some (X28,120,(0,0)):=by rw [jZ];exact eX
        have zY:j1 * 4+4≤X28.size:=by rw [jZ];simp only [List.size_toArray,List.length_append,List.length_cons,List.length_nil,hA1];omega
        repeat ((first|refine qA rfl ?_|apply qB|refine qC rfl ?_|apply qD|apply qE|apply qF|apply qG|apply qH);try simp (disch:=(first|omega|(simp only [qI,qJ,qK]<;>omega)|exact qL _)) only [go_sem,↓reduceIte,n0,reduceCtorEq,n1,n2,n3,n4,n5,i0,i1,i2,i3,i4,i5,i6,i7,sE,cC,cH,cI,cJ,cA,cD,cE,cF,bI,cO])
        refine (DefaultEX1_fn w28 eX hA1).mono ?_
        rintro _ w29 ⟨lC,iK⟩
        have pW:=And.intro (kS.1.upd iK (by omega) (fun b _ hk e=>by have:=(hok b hk).1;omega)) (kS.2.upd iK (by omega))
        have eL:Upd (fun b=>b=R1∨b=rc2) w28 w29:=iK.mono (fun _ h=>.inl h)
        have jR:Upd (fun b=>b=vb∨b=rc2) w25 w29:=jQ.trans' eL fun i hi h=>h.elim (fun h=>by omega) .inr
        have D3:=eL.size
        have oA:Glo ev w29:=aK.updS jR aM aN
        obtain ⟨X29,k7⟩:∃ X:Array Value,X=(A1++(([.string ByteArray.empty,.int .i16 0,.int .i16 0,.map none]:List Value)++B1)).toArray:=⟨_,rfl⟩
        have sF:blk w29 R1=some (X29,120,(0,0)):=by rw [k7];exact lC
        have zZ:j1 * 4+4≤X29.size:=by rw [k7];simp only [List.size_toArray,List.length_append,List.length_cons,List.length_nil,hA1];omega
        have AG:(rdL (rdP d ver true) (dfP d) ver true [fX1_0,fX1_1,fX1_2] s31).2=none→FB:=fun h=>vW (hL2.bad hlt2 rd1P_none (by show (rd1 (rdP (d+1) ver true) 10 fs_X1 false true s31).2=none;rw [rd1_part];exact rdP_bad h))
        have vM:hasS fX1_0 ver=true:=hasS_t (by show (0:Int)≤ver;omega) (by show (-1:Int) < 0∨ver≤(-1:Int);omega)
        obtain ⟨xt2e2_0,xE⟩:∃ x,x=(rdF (rdP d ver true) ver true fX1_0 s31).1:=⟨_,rfl⟩
        repeat ((first|refine qA rfl ?_|apply qB|refine qC rfl ?_|apply qD|apply qE|apply qF|apply qG|apply qH);try simp (disch:=(first|omega|(simp only [qI,qJ,qK]<;>omega)|exact qL _)) only [go_sem,↓reduceIte,n0,reduceCtorEq,n1,n2,n3,n4,n5,i0,i1,i2,i3,i4,i5,i6,i7,sF,cC,cH,cI,cJ,cA,cD,cE,cF,bI,cO])
        have hmay:mayS fX1_0 ver=false:=mayS_no (by show (-1:Int) < 0∨ver < (-1:Int);omega)
        have hrd:rdF (rdP d ver true) ver true fX1_0 s31=_:=rdF_text rfl hmay
        refine (RCompactString_fn w29 pW.1 hrokc oA.1 hgrbc).mono ?_
        rintro _ w30 ⟨rfl,kT,l6⟩
        have lD:=l6.blk_some lC (by omega)
        have eM:Upd (fun b=>b=R1∨b=rc2) w29 w30:=l6.mono (fun _ h=>.inr h)
        have jS:Upd (fun b=>b=vb∨b=rc2) w25 w30:=jR.trans' eM fun i hi h=>h.elim (fun h=>by omega) .inr
        have D4:=eM.size
        have yJ:Glo ev w30:=aK.updS jS aM aN
        obtain ⟨X30,k9⟩:∃ X:Array Value,X=(A1++(([.string ByteArray.empty,.int .i16 0,.int .i16 0,.map none]:List Value)++B1)).toArray:=⟨_,rfl⟩
        have sG:blk w30 R1=some (X30,120,(0,0)):=by rw [k9];exact lD
        have A0:j1 * 4+4≤X30.size:=by rw [k9];simp only [List.size_toArray,List.length_append,List.length_cons,List.length_nil,hA1];omega
        have hst:(rdF (rdP d ver true) ver true fX1_0 s31).2=(rdStr true s31).2:=by first|(rw [hrd];rfl)|rw [hrd]
        obtain ⟨s32,rO⟩:∃ s,s=(rdF (rdP d ver true) ver true fX1_0 s31).2:=⟨_,rfl⟩
        rw [← hst,← rO] at kT
        clear hst
        have rS:j1 * 4+1≤X30.size:=by omega
        repeat ((first|refine qA rfl ?_|apply qB|refine qC rfl ?_|apply qD|apply qE|apply qF|apply qG|apply qH);try simp (disch:=(first|omega|(simp only [qI,qJ,qK]<;>omega)|exact qL _)) only [go_sem,↓reduceIte,n0,reduceCtorEq,n1,n2,n3,n4,n5,i0,i1,i2,i3,i4,i5,i6,i7,sG,cC,cH,cI,cJ,cA,cD,cE,cF,bI,cO,rS])
        generalize eS:wr w30 R1 (j1 * 4) [strV (rdStr true s31).1] = w31
        have oO:Upd (fun b=>b=R1∨b=rc2) w30 w31:=by rw [← eS];exact (Upd.refl _ _).wr _ _ (.inr (.inl rfl))
        have lE:blk w31 R1=some ((A1++(([strV (rdStr true s31).1,.int .i16 0,.int .i16 0,.map none]:List Value)++B1)).toArray,120,(0,0)):=by rw [← eS];exact el_blk0 lD hA1 (Nat.le_of_ble_eq_true rfl)
        have dN:=oO
        have eI:Upd (fun b=>b=vb∨b=rc2) w25 w31:=jS.trans' dN fun i hi h=>h.elim (fun h=>by omega) .inr
        have xR:=dN.size
        have oB:Glo ev w31:=aK.updS eI aM aN
        have pX:Rdr RT ok w31 rc2 s32∧NN w31 rc2 s32:=by
         have hn:∀ x,x=w31→(Rdr RT ok x rc2 s32∧NN x rc2 s32):=fun x hx=>by
          rw [hx,← eS]
          exact Rdr.store kT (by omega) (fun h=>by have:=(hok _ h).1;first|omega|exact (hok _ h).2 rfl)
         exact hn _ rfl
        obtain ⟨X31,gJ⟩:∃ X:Array Value,X=(A1++(([strV (rdStr true s31).1,.int .i16 0,.int .i16 0,.map none]:List Value)++B1)).toArray:=⟨_,rfl⟩
        have sH:blk w31 R1=some (X31,120,(0,0)):=by rw [gJ];exact lE
        have A2:j1 * 4+4≤X31.size:=by rw [gJ];simp only [List.size_toArray,List.length_append,List.length_cons,List.length_nil,hA1];omega
        clear eS
        have AO:RepF (RepS true d) (szS true d) fX1_0 (fun b=>(ok b∨w25.heap.size≤b)∧¬ ownB va2 b) w31 (xt2e2_0) [strV (rdStr true s31).1]:=(RepF_text rfl (by decide)).2 (by rw [xE,hrd];rfl)
        clear hrd
        have AH:(rdL (rdP d ver true) (dfP d) ver true [fX1_1,fX1_2] s32).2=none→FB:=fun h=>AG (by rw [rdL_st (by decide) vM,← rO];exact h)
        have vN:hasS fX1_1 ver=true:=hasS_t (by show (0:Int)≤ver;omega) (by show (-1:Int) < 0∨ver≤(-1:Int);omega)
        obtain ⟨xt2e2_1,xF⟩:∃ x,x=(rdF (rdP d ver true) ver true fX1_1 s32).1:=⟨_,rfl⟩
        repeat ((first|refine qA rfl ?_|apply qB|refine qC rfl ?_|apply qD|apply qE|apply qF|apply qG|apply qH);try simp (disch:=(first|omega|(simp only [qI,qJ,qK]<;>omega)|exact qL _)) only [go_sem,↓reduceIte,n0,reduceCtorEq,n1,n2,n3,n4,n5,i0,i1,i2,i3,i4,i5,i6,i7,sH,cC,cH,cI,cJ,cA,cD,cE,cF,bI,cO])
        have hrd:rdF (rdP d ver true) ver true fX1_1 s32=_:=rdF_num 2 rfl (by decide)
        refine (Int16_fn w31 pX.1 hrokc oB.1 hgrbc).mono ?_
        rintro _ w32 ⟨rfl,kV,l7⟩
        have lF:=l7.blk_some lE (by omega)
        have dO:Upd (fun b=>b=R1∨b=rc2) w31 w32:=l7.mono (fun _ h=>.inr h)
        have eJ:Upd (fun b=>b=vb∨b=rc2) w25 w32:=eI.trans' dO fun i hi h=>h.elim (fun h=>by omega) .inr
        have xT:=dO.size
        have yK:Glo ev w32:=aK.updS eJ aM aN
        obtain ⟨X32,gK⟩:∃ X:Array Value,X=(A1++(([strV (rdStr true s31).1,.int .i16 0,.int .i16 0,.map none]:List Value)++B1)).toArray:=⟨_,rfl⟩
        have sI:blk w32 R1=some (X32,120,(0,0)):=by rw [gK];exact lF
        have A3:j1 * 4+4≤X32.size:=by rw [gK];simp only [List.size_toArray,List.length_append,List.length_cons,List.length_nil,hA1];omega
        have hst:(rdF (rdP d ver true) ver true fX1_1 s32).2=(rdInt .i16 2 s32).2:=by first|(rw [hrd];rfl)|rw [hrd]
        obtain ⟨s33,rP⟩:∃ s,s=(rdF (rdP d ver true) ver true fX1_1 s32).2:=⟨_,rfl⟩
        rw [← hst,← rP] at kV
        clear hst
        have rT:j1 * 4+2≤X32.size:=by omega
        repeat ((first|refine qA rfl ?_|apply qB|refine qC rfl ?_|apply qD|apply qE|apply qF|apply qG|apply qH);try simp (disch:=(first|omega|(simp only [qI,qJ,qK]<;>omega)|exact qL _)) only [go_sem,↓reduceIte,n0,reduceCtorEq,n1,n2,n3,n4,n5,i0,i1,i2,i3,i4,i5,i6,i7,sI,cC,cH,cI,cJ,cA,cD,cE,cF,bI,cO,rT])
        generalize dJ:wr w32 R1 (j1 * 4+1) [.int .i16 (rdInt .i16 2 s32).1] = w33
        have oP:Upd (fun b=>b=R1∨b=rc2) w32 w33:=by rw [← dJ];exact (Upd.refl _ _).wr _ _ (.inr (.inl rfl))
        have lG:blk w33 R1=some ((A1++(([strV (rdStr true s31).1,.int .i16 (rdInt .i16 2 s32).1,.int .i16 0,.map none]:List Value)++B1)).toArray,120,(0,0)):=by rw [← dJ];exact el_blk (o:=1) lF hA1 (Nat.le_of_ble_eq_true rfl)
        have dP:=oP
        have eK:Upd (fun b=>b=vb∨b=rc2) w25 w33:=eJ.trans' dP fun i hi h=>h.elim (fun h=>by omega) .inr
        have nI:=dP.size
        have oC:Glo ev w33:=aK.updS eK aM aN
        have pY:Rdr RT ok w33 rc2 s33∧NN w33 rc2 s33:=by
         have hn:∀ x,x=w33→(Rdr RT ok x rc2 s33∧NN x rc2 s33):=fun x hx=>by
          rw [hx,← dJ]
          exact Rdr.store kV (by omega) (fun h=>by have:=(hok _ h).1;first|omega|exact (hok _ h).2 rfl)
         exact hn _ rfl
        obtain ⟨X33,fH⟩:∃ X:Array Value,X=(A1++(([strV (rdStr true s31).1,.int .i16 (rdInt .i16 2 s32).1,.int .i16 0,.map none]:List Value)++B1)).toArray:=⟨_,rfl⟩
        have sJ:blk w33 R1=some (X33,120,(0,0)):=by rw [fH];exact lG
        have A4:j1 * 4+4≤X33.size:=by rw [fH];simp only [List.size_toArray,List.length_append,List.length_cons,List.length_nil,hA1];omega
        clear dJ
        have AP:RepF (RepS true d) (szS true d) fX1_1 (fun b=>(ok b∨w25.heap.size≤b)∧¬ ownB va2 b) w33 (xt2e2_1) [.int .i16 (rdInt .i16 2 s32).1]:=(RepF_num (by decide)).2 (by rw [xF,hrd];exact congrArg (fun x=>[x]) (numC_rd 2 (by decide) 2 s32).symm)
        clear hrd
        have DT:(rdL (rdP d ver true) (dfP d) ver true [fX1_2] s33).2=none→FB:=fun h=>AH (by rw [rdL_st (by decide) vN,← rP];exact h)
        have AT:hasS fX1_2 ver=true:=hasS_t (by show (0:Int)≤ver;omega) (by show (-1:Int) < 0∨ver≤(-1:Int);omega)
        obtain ⟨xt2e2_2,xG⟩:∃ x,x=(rdF (rdP d ver true) ver true fX1_2 s33).1:=⟨_,rfl⟩
        repeat ((first|refine qA rfl ?_|apply qB|refine qC rfl ?_|apply qD|apply qE|apply qF|apply qG|apply qH);try simp (disch:=(first|omega|(simp only [qI,qJ,qK]<;>omega)|exact qL _)) only [go_sem,↓reduceIte,n0,reduceCtorEq,n1,n2,n3,n4,n5,i0,i1,i2,i3,i4,i5,i6,i7,sJ,cC,cH,cI,cJ,cA,cD,cE,cF,bI,cO])
        have hrd:rdF (rdP d ver true) ver true fX1_2 s33=_:=rdF_num 2 rfl (by decide)
        refine (Int16_fn w33 pY.1 hrokc oC.1 hgrbc).mono ?_
        rintro _ w34 ⟨rfl,kW,l8⟩
        have lH:=l8.blk_some lG (by omega)
        have eN:Upd (fun b=>b=R1∨b=rc2) w33 w34:=l8.mono (fun _ h=>.inr h)
        have jT:Upd (fun b=>b=vb∨b=rc2) w25 w34:=eK.trans' eN fun i hi h=>h.elim (fun h=>by omega) .inr
        have xV:=eN.size
        have yL:Glo ev w34:=aK.updS jT aM aN
        obtain ⟨X34,eQ⟩:∃ X:Array Value,X=(A1++(([strV (rdStr true s31).1,.int .i16 (rdInt .i16 2 s32).1,.int .i16 0,.map none]:List Value)++B1)).toArray:=⟨_,rfl⟩
        have sK:blk w34 R1=some (X34,120,(0,0)):=by rw [eQ];exact lH
        have A5:j1 * 4+4≤X34.size:=by rw [eQ];simp only [List.size_toArray,List.length_append,List.length_cons,List.length_nil,hA1];omega
        have hst:(rdF (rdP d ver true) ver true fX1_2 s33).2=(rdInt .i16 2 s33).2:=by first|(rw [hrd];rfl)|rw [hrd]
        obtain ⟨s34,wK⟩:∃ s,s=(rdF (rdP d ver true) ver true fX1_2 s33).2:=⟨_,rfl⟩
        rw [← hst,← wK] at kW
        clear hst
        have rU:j1 * 4+3≤X34.size:=by omega
        repeat ((first|refine qA rfl ?_|apply qB|refine qC rfl ?_|apply qD|apply qE|apply qF|apply qG|apply qH);try simp (disch:=(first|omega|(simp only [qI,qJ,qK]<;>omega)|exact qL _)) only [go_sem,↓reduceIte,n0,reduceCtorEq,n1,n2,n3,n4,n5,i0,i1,i2,i3,i4,i5,i6,i7,sK,cC,cH,cI,cJ,cA,cD,cE,cF,bI,cO,rU])
        generalize eU:wr w34 R1 (j1 * 4+2) [.int .i16 (rdInt .i16 2 s33).1] = w35
        have oQ:Upd (fun b=>b=R1∨b=rc2) w34 w35:=by rw [← eU];exact (Upd.refl _ _).wr _ _ (.inr (.inl rfl))
        have lI:blk w35 R1=some ((A1++(([strV (rdStr true s31).1,.int .i16 (rdInt .i16 2 s32).1,.int .i16 (rdInt .i16 2 s33).1,.map none]:List Value)++B1)).toArray,120,(0,0)):=by rw [← eU];exact el_blk (o:=2) lH hA1 (Nat.le_of_ble_eq_true rfl)
        have eO:=oQ
        have jU:Upd (fun b=>b=vb∨b=rc2) w25 w35:=jT.trans' eO fun i hi h=>h.elim (fun h=>by omega) .inr
        have D5:=eO.size
        have yM:Glo ev w35:=aK.updS jU aM aN
        have pZ:Rdr RT ok w35 rc2 s34∧NN w35 rc2 s34:=by
         have hn:∀ x,x=w35→(Rdr RT ok x rc2 s34∧NN x rc2 s34):=fun x hx=>by
          rw [hx,← eU]
          exact Rdr.store kW (by omega) (fun h=>by have:=(hok _ h).1;first|omega|exact (hok _ h).2 rfl)
         exact hn _ rfl
        obtain ⟨X35,fI⟩:∃ X:Array Value,X=(A1++(([strV (rdStr true s31).1,.int .i16 (rdInt .i16 2 s32).1,.int .i16 (rdInt .i16 2 s33).1,.map none]:List Value)++B1)).toArray:=⟨_,rfl⟩
        have sL:blk w35 R1=some (X35,120,(0,0)):=by rw [fI];exact lI
        have A6:j1 * 4+4≤X35.size:=by rw [fI];simp only [List.size_toArray,List.length_append,List.length_cons,List.length_nil,hA1];omega
        clear eU
        have AQ:RepF (RepS true d) (szS true d) fX1_2 (fun b=>(ok b∨w25.heap.size≤b)∧¬ ownB va2 b) w35 (xt2e2_2) [.int .i16 (rdInt .i16 2 s33).1]:=(RepF_num (by decide)).2 (by rw [xG,hrd];exact congrArg (fun x=>[x]) (numC_rd 2 (by decide) 2 s33).symm)
        clear hrd
        have B8:rdL (rdP d ver true) (dfP d) ver true [] s34=([],s34):=rfl
        have B7:rdL (rdP d ver true) (dfP d) ver true [fX1_2] s33=([xt2e2_2],s34):=by rw [rdL_st (by decide) AT,← xG,← wK,B8]
        have B6:rdL (rdP d ver true) (dfP d) ver true [fX1_1,fX1_2] s32=([xt2e2_1,xt2e2_2],s34):=by rw [rdL_st (by decide) vN,← xF,← rP,B7]
        have B5:rdL (rdP d ver true) (dfP d) ver true [fX1_0,fX1_1,fX1_2] s31=([xt2e2_0,xt2e2_1,xt2e2_2],s34):=by rw [rdL_st (by decide) vM,← xE,← rO,B6]
        have vC:rdP (d+1) ver true fs_X1 s31=(.mk 0 [] false [xt2e2_0,xt2e2_1,xt2e2_2] (rdTags s34).1,(rdTags s34).2):=rdP_t B5
        repeat ((first|refine qA rfl ?_|apply qB|refine qC rfl ?_|apply qD|apply qE|apply qF|apply qG|apply qH);try simp (disch:=(first|omega|(simp only [qI,qJ,qK]<;>omega)|exact qL _)) only [go_sem,↓reduceIte,n0,reduceCtorEq,n1,n2,n3,n4,n5,i0,i1,i2,i3,i4,i5,i6,i7,sL,cC,cH,cI,cJ,cA,cD,cE,cF,bI,cO])
        refine (ReadTags_fn w35 pZ.1 hrokc).mono ?_
        rintro _ w36 ⟨qmt2e2,rfl,iN,hTn,kX,l9⟩
        have lJ:=l9.blk_some lI (by omega)
        have eP:Upd (fun b=>b=R1∨b=rc2) w35 w36:=l9.mono (fun _ h=>.inr h)
        have jV:Upd (fun b=>b=vb∨b=rc2) w25 w36:=jU.trans' eP fun i hi h=>h.elim (fun h=>by omega) .inr
        have D6:=eP.size
        have yN:Glo ev w36:=aK.updS jV aM aN
        obtain ⟨X36,kA⟩:∃ X:Array Value,X=(A1++(([strV (rdStr true s31).1,.int .i16 (rdInt .i16 2 s32).1,.int .i16 (rdInt .i16 2 s33).1,.map none]:List Value)++B1)).toArray:=⟨_,rfl⟩
        have sM:blk w36 R1=some (X36,120,(0,0)):=by rw [kA];exact lJ
        have A7:j1 * 4+4≤X36.size:=by rw [kA];simp only [List.size_toArray,List.length_append,List.length_cons,List.length_nil,hA1];omega
        obtain ⟨s35,BQ⟩:∃ s,s=(rdTags s34).2:=⟨_,rfl⟩
        rw [← BQ] at kX vC
        have rV:j1 * 4+4≤X36.size:=by omega
        repeat (first|simp (disch:=(first|omega|(simp only [qI,qJ,qK]<;>omega)|exact qL _)) only [go_sem,↓reduceIte,n0,reduceCtorEq,n1,n2,n3,n4,n5,i0,i1,i2,i3,i4,i5,i6,i7,sM,cC,cH,cI,cJ,cA,cD,cE,cF,bI,cO,rV]|refine qA rfl ?_|apply qB|refine qC rfl ?_|apply qD|apply qE|apply qF|apply qG|apply qH)
        generalize eV:wr w36 R1 (j1 * 4+3) [.map qmt2e2] = w37
        have oR:Upd (fun b=>b=R1∨b=rc2) w36 w37:=by rw [← eV];exact (Upd.refl _ _).wr _ _ (.inr (.inl rfl))
        have lK:blk w37 R1=some ((A1++(([strV (rdStr true s31).1,.int .i16 (rdInt .i16 2 s32).1,.int .i16 (rdInt .i16 2 s33).1,.map qmt2e2]:List Value)++B1)).toArray,120,(0,0)):=by rw [← eV];exact el_blk (o:=3) lJ hA1 (Nat.le_of_ble_eq_true rfl)
        have dX:=oR
        have oV:Upd (fun b=>b=vb∨b=rc2) w25 w37:=jV.trans' dX fun i hi h=>h.elim (fun h=>by omega) .inr
        have hz37:=dX.size
        have yO:Glo ev w37:=aK.updS oV aM aN
        have qM:Rdr RT ok w37 rc2 s35∧NN w37 rc2 s35:=by
         have hn:∀ x,x=w37→(Rdr RT ok x rc2 s35∧NN x rc2 s35):=fun x hx=>by
          rw [hx,← eV]
          exact Rdr.store kX (by omega) (fun h=>by have:=(hok _ h).1;first|omega|exact (hok _ h).2 rfl)
         exact hn _ rfl
        obtain ⟨X37,kB⟩:∃ X:Array Value,X=(A1++(([strV (rdStr true s31).1,.int .i16 (rdInt .i16 2 s32).1,.int .i16 (rdInt .i16 2 s33).1,.map qmt2e2]:List Value)++B1)).toArray:=⟨_,rfl⟩
        have lO:blk w37 R1=some (X37,120,(0,0)):=by rw [kB];exact lK
        have A8:j1 * 4+4≤X37.size:=by rw [kB];simp only [List.size_toArray,List.length_append,List.length_cons,List.length_nil,hA1];omega
        clear eV
        have zJ:TagsM (fun b=>(ok b∨w25.heap.size≤b)∧¬ ownB va2 b) w37 (.map qmt2e2) (rdTags s34).1:=(iN.weaken fun b _ hk=>hk.elim (fun hk=>⟨.inl hk,fun ho=>by have:=(eF b ho).1;have:=(hok b hk).1;omega⟩) (fun h=>by have h':w35.heap.size≤b:=h;exact ⟨.inr (by omega),fun ho=>by have:=(eF _ ho).2;omega⟩)).keep (dX.keeps fun b _ hk e=>b9 b hk e)
        have yC:Upd (fun b=>b=R1∨b=rc2) w37 w37:=Upd.refl _ _
        have yB:Upd (fun b=>b=R1∨b=rc2) w36 w37:=dX.trans yC
        have sZ:Upd (fun b=>b=R1∨b=rc2) w35 w37:=eP.trans yB
        have yA:Upd (fun b=>b=R1∨b=rc2) w34 w37:=eO.trans sZ
        have sY:Upd (fun b=>b=R1∨b=rc2) w33 w37:=eN.trans yA
        have y9:Upd (fun b=>b=R1∨b=rc2) w32 w37:=dP.trans sY
        have sX:Upd (fun b=>b=R1∨b=rc2) w31 w37:=dO.trans y9
        have y8:Upd (fun b=>b=R1∨b=rc2) w30 w37:=dN.trans sX
        have y7:Upd (fun b=>b=R1∨b=rc2) w29 w37:=eM.trans y8
        have DK:Upd (fun b=>b=R1∨b=rc2) w28 w37:=eL.trans y7
        have z2:RepS true (d+1) fs_X1 (fun b=>(ok b∨w25.heap.size≤b)∧¬ ownB va2 b) w37 (.mk 0 [] false [xt2e2_0,xt2e2_1,xt2e2_2] (rdTags s34).1) [strV (rdStr true s31).1,.int .i16 (rdInt .i16 2 s32).1,.int .i16 (rdInt .i16 2 s33).1,.map qmt2e2]:=RepS.introT (c:=[strV (rdStr true s31).1,.int .i16 (rdInt .i16 2 s32).1,.int .i16 (rdInt .i16 2 s33).1]) (RepL.cons1 (AO.keepS (sX.keeps fun b _ hk e=>b9 b hk e)) (RepL.cons1 (AP.keepS (sY.keeps fun b _ hk e=>b9 b hk e)) (RepL.cons1 (AQ.keepS (sZ.keeps fun b _ hk e=>b9 b hk e)) RepL.nil))) zJ
        have hrE:(rd1 (rdP (d+1) ver true) fQ_5.of fQ_5.sub false true) s31=((.mk 0 [] false [xt2e2_0,xt2e2_1,xt2e2_2] (rdTags s34).1),s35):=by rw [show (rd1 (rdP (d+1) ver true) fQ_5.of fQ_5.sub false true) s31=_ from rd1_part];exact vC
        have hxE:(Rep1 (RepS true (d+1)) fQ_5.of fQ_5.sub) (fun b=>(ok b∨w25.heap.size≤b)∧¬ ownB va2 b) w37 (.mk 0 [] false [xt2e2_0,xt2e2_1,xt2e2_2] (rdTags s34).1) [strV (rdStr true s31).1,.int .i16 (rdInt .i16 2 s32).1,.int .i16 (rdInt .i16 2 s33).1,.map qmt2e2]:=Rep1_part.2 z2
        repeat ((first|refine qA rfl ?_|apply qB|refine qC rfl ?_|apply qD|apply qE|apply qF|apply qG|apply qH);try simp (disch:=(first|omega|(simp only [qI,qJ,qK]<;>omega)|exact qL _)) only [go_sem,↓reduceIte,n0,reduceCtorEq,n1,n2,n3,n4,n5,i0,i1,i2,i3,i4,i5,i6,i7,lO,cC,cH,cI,cJ,cA,cD,cE,cF,bI,cO])
        have hTk:Upd (fun b=>b=R1∨b=rc2) w28 w37:=((((((((eL.trans eM).trans dN).trans dO).trans dP).trans eN).trans eO).trans eP).trans dX)
        have hL':=hL2.step (Rep1_lay _ _ fun _=>RepS_lay true _ _) hlt2 (dA w37 [strV (rdStr true s31).1,.int .i16 (rdInt .i16 2 s32).1,.int .i16 (rdInt .i16 2 s33).1,.map qmt2e2] rfl lK) (by rw [hrE];exact hxE) (hTk.mono fun b h=>h.imp (fun e=>⟨_,_,_,b6,e⟩) id) (by rw [hrE];exact qM) (fun h=>hoMc rc2 h (.inr rfl)) (Nat.le_refl _)
        have hij:IntKind.i32.wrap ((j1:Int)+1)=((j1+1:Nat):Int):=by rw [i32_wrap (by omega)];omega
        repeat ((first|refine qA rfl ?_|apply qB|refine qC rfl ?_|apply qD|apply qE|apply qF|apply qG|apply qH);try simp (disch:=(first|omega|(simp only [qI,qJ,qK]<;>omega)|exact qL _)) only [go_sem,↓reduceIte,n0,reduceCtorEq,n1,n2,n3,n4,n5,i0,i1,i2,i3,i4,i5,i6,i7,lO,cC,cH,cI,cJ,cA,cD,cE,cF,bI,cO,hij])
        refine ⟨⟨(by simp (disch:=(first|omega|(simp only [qI,qJ,qK]<;>omega)|exact qL _)) only [go_sem,↓reduceIte,n0,reduceCtorEq,n1,n2,n3,n4,n5,i0,i1,i2,i3,i4,i5,i6,i7,Holds_nil,Holds_cons,cC,cH,cI,cJ,cA,cD,cE,cF,bI,cO];exact b6.symm),j1+1,(by simp (disch:=(first|omega|(simp only [qI,qJ,qK]<;>omega)|exact qL _)) only [go_sem,↓reduceIte,n0,reduceCtorEq,n1,n2,n3,n4,n5,i0,i1,i2,i3,i4,i5,i6,i7,cC,cH,cI,cJ,cA,cD,cE,cF,bI,cO,hij];all_goals rfl),_,_,_,hL'⟩,?_⟩
        try simp (disch:=(first|omega|(simp only [qI,qJ,qK]<;>omega)|exact qL _)) only [go_sem,↓reduceIte,n0,reduceCtorEq,n1,n2,n3,n4,n5,i0,i1,i2,i3,i4,i5,i6,i7,cC,cH,cI,cJ,cA,cD,cE,cF,bI,cO]
        simp only [RowKit.intOf]
        omega
       ·have hjN:j1=N2:=by omega
        rw [hjN] at hL2
        repeat ((first|refine qA rfl ?_|apply qB|refine qC rfl ?_|apply qD|apply qE|apply qF|apply qG|apply qH);try simp (disch:=(first|omega|(simp only [qI,qJ,qK]<;>omega)|exact qL _)) only [go_sem,↓reduceIte,n0,reduceCtorEq,n1,n2,n3,n4,n5,i0,i1,i2,i3,i4,i5,i6,i7,cC,cH,cI,cJ,cA,cD,cE,cF,rF,cO])
        exact ⟨(by simp (disch:=(first|omega|(simp only [qI,qJ,qK]<;>omega)|exact qL _)) only [go_sem,↓reduceIte,n0,reduceCtorEq,n1,n2,n3,n4,n5,i0,i1,i2,i3,i4,i5,i6,i7,Holds_nil,Holds_cons,cC,cH,cI,cJ,cA,cD,cE,cF,rF,cO]),s31,xs2,css2,hL2⟩
      rintro ρ w38 ⟨⟨hY,iD,iF,iG,hH,hZ,iA,iC,iB,-⟩,s36,xs2,css2,hL2⟩
      have qN:=hL2.rd
      have lA:=hL2.upd
      have hv_38:=lA.blk_some hv_26 (by omega)
      have jY:Upd (fun b=>b=vb∨b=rc2) w26 w38:=lA.mono (fun _ h=>.inr h)
      have jW:Upd (fun b=>b=vb∨b=rc2) w25 w38:=bF.trans jY
      have D7:=jY.size
      have yP:Glo ev w38:=aK.updS jW aM aN
      have wE:rdF (rdP (d+1) ver true) ver true fQ_5 s29=(.mk 0 [] (nilS fQ_5 ver y2) xs2 [],s36):=by
       have h:=rdF_listE (pt:=(rdP (d+1) ver true)) (v:=ver) (flex:=true) (f:=fQ_5) (s:=s29) (xs:=xs2) (e:=s36) rfl (by rw [hy2,← hN2,← rN];exact hL2.done)
       rw [hy2] at h;exact h
      have BR:s36=(rdF (rdP (d+1) ver true) ver true fQ_5 s29).2:=by rw [wE]
      obtain ⟨aa2,qq2,CE⟩:=hL2.row.shape
      subst CE
      repeat ((first|refine qA rfl ?_|apply qB|refine qC rfl ?_|apply qD|apply qE|apply qF|apply qG|apply qH);try simp (disch:=(first|omega|(simp only [qI,qJ,qK]<;>omega)|exact qL _)) only [go_sem,↓reduceIte,n0,reduceCtorEq,n1,n2,n3,n4,n5,i0,i1,i2,i3,i4,i5,i6,i7,hv_38,hY,iD,iF,iG,hH,hZ,iA,iC,iB])
      generalize eW:wr w38 vb 6 [.slice aa2 N2 qq2] = w39
      have oS:Upd (fun b=>b=vb∨b=rc2) w38 w39:=by rw [← eW];exact (Upd.refl _ _).wr _ _ (.inr (.inl rfl))
      have hv_39:blk w39 vb=some (#[.int .i16 ver,.int .i16 (rdInt .i16 2 s0).1,.slice aa0 N0 qq0,.int .i32 (rdInt .i32 4 s8).1,v_4,v_5,.slice aa2 N2 qq2,v_7,.map qm],108,(0,0)):=by rw [← eW,blk_wr_eq,hv_38];rfl
      have gI:=oS
      have dV:Upd (fun b=>b=vb∨b=rc2) w25 w39:=jW.trans gI
      have D8:=gI.size
      have oD:Glo ev w39:=aK.updS dV aM aN
      have qO:Rdr RT ok w39 rc2 s36∧NN w39 rc2 s36:=by
       have hn:∀ x,x=w39→(Rdr RT ok x rc2 s36∧NN x rc2 s36):=fun x hx=>by
        rw [hx,← eW]
        exact Rdr.store qN (by omega) (fun h=>by have:=(hok _ h).1;first|omega|exact (hok _ h).2 rfl)
       exact hn _ rfl
      clear eW
      have AN:RepF (RepS true (d+1)) (szS true (d+1)) fQ_5 (fun b=>ok b∨w25.heap.size≤b) w39 (xt2_5) [.slice aa2 N2 qq2]:=by rw [xD,wE];exact RepF.keepS (RepF_row rfl vZ hN2 rfl hL2.row hL2.all (fun b hb=>.inr (by omega))) (gI.keeps fun b _ hk e=>(hoMc b hk) e)
      clear hL2 vZ
      repeat ((first|refine qA rfl ?_|apply qB|refine qC rfl ?_|apply qD|apply qE|apply qF|apply qG|apply qH);try simp (disch:=(first|omega|(simp only [qI,qJ,qK]<;>omega)|exact qL _)) only [go_sem,↓reduceIte,n0,reduceCtorEq,n1,n2,n3,n4,n5,i0,i1,i2,i3,i4,i5,i6,i7,hv_39,hY,iD,iF,iG,hH,hZ,iA,iC,iB])
      refine (RComplete_fn w39 qO.1 oD.2).mono ?_
      rintro _ wz ⟨rfl,hez⟩
      rw [hez]
      clear hez wz
      have hxF:rdF (rdP (d+1) ver true) ver true fQ_5 s29=(xt2_5,s36):=by rw [xD,BR]
      by_cases hsz:s36=none
      ·rw [errV_none hsz]
       obtain ⟨eT,ep,hevE⟩:=hev
       rw [hevE]
       repeat (first|simp (disch:=(first|omega|(simp only [qI,qJ,qK]<;>omega)|exact qL _)) only [go_sem,↓reduceIte,n0,reduceCtorEq,n1,n2,n3,n4,n5,i0,i1,i2,i3,i4,i5,i6,i7,hv_39,hY,iD,iF,iG,hH,hZ,iA,iC,iB]|refine qA rfl ?_|apply qB|refine qC rfl ?_|apply qD|apply qE|apply qF|apply qG|apply qH)
       rw [← hevE]
       exact ReadQ.bad (Eq.mp hFB (hbT (by rw [hxF];exact hsz))) (hbasec.trans' dV fun i hi h=>h.elim id fun h=>by omega)
      have hen:errV ev s36 = .nilIface:=errV_some hsz
      rw [hen]
      repeat (first|simp (disch:=(first|omega|(simp only [qI,qJ,qK]<;>omega)|exact qL _)) only [go_sem,↓reduceIte,n0,reduceCtorEq,n1,n2,n3,n4,n5,i0,i1,i2,i3,i4,i5,i6,i7,hv_39,hY,iD,iF,iG,hH,hZ,iA,iC,iB,hw1]|refine qA rfl ?_|apply qB|refine qC rfl ?_|apply qD|apply qE|apply qF|apply qG|apply qH)
      have hRk:Upd (fun b=>b=vb∨b=rb) w21 w39:=hQo.trans' dV fun i hi h=>h.elim .inl fun h=>by omega
      have hzr:=hRk.size
      have hE2:rdTg (rdP (d+1) ver true) ver true fs_Q m [x_0,x_1,x_2,y_3,y_4,xt2_5,y_6] u s28=rdTgs (rdP (d+1) ver true) ver true fs_Q [x_0,x_1,x_2,x_3,x_4,x_5,x_6] s9:=by
       have h:=(rdTg_known (k:=2) (hK.symm.trans hk2) rfl (by rw [← bE,← hSL,← hSP,← rM];exact hxF) hsz).symm.trans hE
       rw [← bE,← hSL,← mQ] at h;exact h
      have hO2:tagOnce fs_Q m (2 :: ks) s28:=by
       have h:=hO.2
       rw [← hK,hk2,← bE,← hSL,← mQ] at h;exact h
      refine ⟨⟨(by simp (disch:=(first|omega|(simp only [qI,qJ,qK]<;>omega)|exact qL _)) only [go_sem,↓reduceIte,n0,reduceCtorEq,n1,n2,n3,n4,n5,i0,i1,i2,i3,i4,i5,i6,i7,Holds_nil,Holds_cons,hY,iD,iF,iG,hH,hZ,iA,iC,iB]),m,(by simp (disch:=(first|omega|(simp only [qI,qJ,qK]<;>omega)|exact qL _)) only [go_sem,↓reduceIte,n0,reduceCtorEq,n1,n2,n3,n4,n5,i0,i1,i2,i3,i4,i5,i6,i7,hY,iD,iF,iG,hH,hZ,iA,iC,iB,hw1];all_goals rfl),u,s28,qm,2 :: ks,y_3,v_4,y_4,v_5,xt2_5,.slice aa2 N2 qq2,y_6,v_7,by omega,hE2,hv_39,RepF.weakenS (hfT_3.keepS (hRk.keeps fun b _ hk e=>(hoM b hk.1) e)) (fun b hb hk=>⟨hk.1,hb,hk.2.2⟩),RepF.weakenS (hfT_4.keepS (hRk.keeps fun b _ hk e=>(hoM b hk.1) e)) (fun b hb hk=>⟨hk.1,hb,hk.2.2⟩),RepF.weakenS AN (fun b hb hk=>⟨hk.imp id fun h=>by omega,hb,fun h=>by have:=hmap b h;rcases hk with hk|hk<;>first|omega|(have:=(hok b hk).1;omega)⟩),RepF.weakenS (hfT_6.keepS (hRk.keeps fun b _ hk e=>(hoM b hk.1) e)) (fun b hb hk=>⟨hk.1,hb,hk.2.2⟩),hO2,(fun h=>hd_3 (fun h'=>h (List.mem_cons_of_mem _ h'))),(fun h=>absurd (List.mem_cons_self ..) h),hTG.keep (fun b hb hk=>hRk.keep b hb fun e=>by rcases hk with hk|hk<;>rcases e with e|e<;>first|omega|(have:=hok b hk.1;omega)),hnd,⟨hqo.1.upd dV (by omega) (fun b _ hk e=>by have:=hok b hk;omega),hqo.2.upd dV (by omega)⟩,fB.trans hRk⟩,?_⟩
      try simp (disch:=(first|omega|(simp only [qI,qJ,qK]<;>omega)|exact qL _)) only [go_sem,↓reduceIte,n0,reduceCtorEq,n1,n2,n3,n4,n5,i0,i1,i2,i3,i4,i5,i6,i7,hY,iD,iF,iG,hH,hZ,iA,iC,iB]
      simp only [RowKit.intOf]
      omega
     ·have AW:¬ (K:Int)=2:=by omega
      by_cases hk3:K=3
      ·have hkI:(K:Int)=3:=by omega
       repeat ((first|refine qA rfl ?_|apply qB|refine qC rfl ?_|apply qD|apply qE|apply qF|apply qG|apply qH);try simp (disch:=(first|omega|(simp only [qI,qJ,qK]<;>omega)|exact qL _)) only [go_sem,↓reduceIte,n0,reduceCtorEq,n1,n2,n3,n4,n5,i0,i1,i2,i3,i4,i5,i6,i7,hv_22,hrt_2,hrt_7,hrt_8,hrt_9,hrt_10,hri,hkI])
       refine (RUvarint_fn w22 gP.1 hrok).mono ?_
       rintro _ w23 ⟨rfl,bC,dD⟩
       have hv_23:=dD.blk_some hv_22 (by omega)
       have cQ:Upd (fun b=>b=vb∨b=rb) w22 w23:=dD.mono (fun _ h=>.inr h)
       have dR:Upd (fun b=>b=vb∨b=rb) w1 w23:=jP.trans cQ
       have sO:=cQ.size
       have o7:Glo ev w23:=hG1.updS dR a8 aA
       have hSl:=rdUv_lt s12
       obtain ⟨s37,wL⟩:∃ s,s=(rdUv s12).2:=⟨_,rfl⟩
       rw [← wL] at bC
       obtain ⟨SL,hSL⟩:∃ N,N=(rdUv s12).1:=⟨_,rfl⟩
       rw [← hSL] at hSl
       try rw [← hSL]
       have e64:IntKind.i64.wrap (SL:Int)=SL:=i64_wrap (by omega)
       repeat (first|simp (disch:=(first|omega|(simp only [qI,qJ,qK]<;>omega)|exact qL _)) only [go_sem,↓reduceIte,n0,reduceCtorEq,n1,n2,n3,n4,n5,i0,i1,i2,i3,i4,i5,i6,i7,hv_23,hrt_2,hrt_7,hrt_8,hrt_9,hrt_10,hri,e64]|refine qA rfl ?_|apply qB|refine qC rfl ?_|apply qD|apply qE|apply qF|apply qG|apply qH)
       refine (Span_fn w23 bC.1 hrok _).mono ?_
       rintro r24 w24 ⟨hBs,_,_,hqx,hqy,dE⟩
       have bD:=And.intro hqx (hqy (.inl bC.2))
       clear hqx hqy
       have hv_24:=dE.blk_some hv_23 (by omega)
       have cR:Upd (fun b=>b=vb∨b=rb) w23 w24:=dE.mono (fun _ h=>.inr h)
       have dS:Upd (fun b=>b=vb∨b=rb) w1 w24:=dR.trans cR
       have sQ:=cR.size
       have o8:Glo ev w24:=hG1.updS dS a8 aA
       obtain ⟨s38,mR⟩:∃ s,s=(rdSpan (SL:Int) s37).2:=⟨_,rfl⟩
       rw [← mR] at bD
       obtain ⟨SP,hSP⟩:∃ x,x=(rdSpan (SL:Int) s37).1:=⟨_,rfl⟩
       rw [← hSP] at hBs
       rw [wL] at hSP mR
       obtain ⟨spa,spc,rfl,_⟩:=hBs.shape
       repeat ((first|refine qA rfl ?_|apply qB|refine qC rfl ?_|apply qD|apply qE|apply qF|apply qG|apply qH);try simp (disch:=(first|omega|(simp only [qI,qJ,qK]<;>omega)|exact qL _)) only [go_sem,↓reduceIte,n0,reduceCtorEq,n1,n2,n3,n4,n5,i0,i1,i2,i3,i4,i5,i6,i7,hv_24,hrt_2,hrt_7,hrt_8,hrt_9,hrt_10,hri,e64])
       obtain ⟨rc3,hrc⟩:∃ r,r=w24.heap.size:=⟨_,rfl⟩
       have hEi:Ext w24 (wr (w24.alloc (.cells #[.slice none 0 0,.bool false] 123)) w24.heap.size 0 [.slice spa SP.length spc,.bool false]):=(Upd.alloc (Upd.refl _ _) _).wr _ _ (.inl (Nat.le_refl _))
       have hzi:(wr (w24.alloc (.cells #[.slice none 0 0,.bool false] 123)) w24.heap.size 0 [.slice spa SP.length spc,.bool false]).heap.size=w24.heap.size+1:=by rw [size_wr,World.size_alloc]
       have hRi:Rdr RT ok (wr (w24.alloc (.cells #[.slice none 0 0,.bool false] 123)) w24.heap.size 0 [.slice spa SP.length spc,.bool false]) w24.heap.size (some SP):=Rdr.good (v:=.slice spa SP.length spc) (by simp (disch:=(first|omega|(simp only [qI,qJ,qK]<;>omega)|exact qL _)) only [go_sem,↓reduceIte,n0,reduceCtorEq,n1,n2,n3,n4,n5,i0,i1,i2,i3,i4,i5,i6,i7]) (hBs.keep (hEi.keeps _))
       have hv_25:=hEi.blk_some hv_24 id
       have hqo:=And.intro (bD.1.upd hEi (fun h=>h) (fun _ _ _ h=>h)) (bD.2.upd hEi fun h=>h)
       repeat ((first|refine qA rfl ?_|apply qB|refine qC rfl ?_|apply qD|apply qE|apply qF|apply qG|apply qH);try simp (disch:=(first|omega|(simp only [qI,qJ,qK]<;>omega)|exact qL _)) only [go_sem,↓reduceIte,n0,reduceCtorEq,n1,n2,n3,n4,n5,i0,i1,i2,i3,i4,i5,i6,i7,hv_24,hrt_2,hrt_7,hrt_8,hrt_9,hrt_10,hri,hkI])
       generalize (wr (w24.alloc (.cells #[.slice none 0 0,.bool false] 123)) w24.heap.size 0 [.slice spa SP.length spc,.bool false])=w25 at *
       rw [← hrc] at hRi
       try rw [← hrc]
       have cV:Upd (fun b=>b=vb∨b=rb) w24 w25:=hEi.mono fun _ h=>h.elim
       have dT:Upd (fun b=>b=vb∨b=rb) w1 w25:=dS.trans cV
       have sR:=cV.size
       have aK:Glo ev w25:=hG1.updS dT a8 aA
       have hQo:Upd (fun b=>b=vb∨b=rb) w21 w25:=(((gH.trans cQ).trans cR).trans cV)
       have hzo:=hQo.size
       have hrokc:¬ ok rc3:=fun h=>by have:=(hok _ h).1;omega
       have hgrbc:¬ 0=rc3:=by omega
       have aM:¬ (0=vb∨0=rc3):=fun h=>h.elim hgv.1 fun h=>by omega
       have aN:¬ (1=vb∨1=rc3):=fun h=>h.elim hgv.2 fun h=>by omega
       have hoMc:∀ b,(ok b∨w25.heap.size≤b)→¬ (b=vb∨b=rc3):=fun b hk h=>by
        rcases hk with hk|hk
        ·have:=hok b hk;rcases h with h|h<;>omega
        ·rcases h with h|h<;>omega
       have hbasec:Upd (fun b=>b=vb) w w25:=hbase.trans' dT fun i hi h=>h.elim id fun h=>by omega
       have hUc:Upd (fun b=>b=vb∨b=rc3) w25 w25:=Upd.refl _ _
       have hqc:Rdr RT ok w25 rc3 (some SP):=hRi
       obtain ⟨s39,rQ⟩:∃ s:St,s=some SP:=⟨_,rfl⟩
       rw [← rQ] at hqc
       have hbT:(rdF (rdP (d+1) ver true) ver true fQ_6 s39).2=none→FB:=fun h=>Eq.mpr hFB (rdM_badT hl_0 (by rw [← hE];exact rdTg_bad (hK.symm.trans hk3) rfl (by rw [← bE,← hSL,← hSP,← rQ];exact h)))
       have DX:hasS fQ_6 ver=true:=hasS_t (by show (0:Int)≤ver;omega) (by show (-1:Int) < 0∨ver≤(-1:Int);omega)
       obtain ⟨xt3_6,xH⟩:∃ x,x=(rdF (rdP (d+1) ver true) ver true fQ_6 s39).1:=⟨_,rfl⟩
       repeat ((first|refine qA rfl ?_|apply qB|refine qC rfl ?_|apply qD|apply qE|apply qF|apply qG|apply qH);try simp (disch:=(first|omega|(simp only [qI,qJ,qK]<;>omega)|exact qL _)) only [go_sem,↓reduceIte,n0,reduceCtorEq,n1,n2,n3,n4,n5,i0,i1,i2,i3,i4,i5,i6,i7,hv_25,hrt_2,hrt_7,hrt_8,hrt_9,hrt_10,hri])
       have hrd:rdF (rdP (d+1) ver true) ver true fQ_6 s39=_:=rdF_bool rfl
       refine (Bool_fn w25 hqc hrokc).mono ?_
       rintro _ w26 ⟨rfl,bA,eE⟩
       have hv_26:=eE.blk_some hv_25 (by omega)
       have cW:Upd (fun b=>b=vb∨b=rc3) w25 w26:=eE.mono (fun _ h=>.inr h)
       have bF:Upd (fun b=>b=vb∨b=rc3) w25 w26:=hUc.trans cW
       have nH:=cW.size
       have gD:Glo ev w26:=aK.updS bF aM aN
       have hst:(rdF (rdP (d+1) ver true) ver true fQ_6 s39).2=(rdN 1 s39).2:=by first|(rw [hrd];rfl)|rw [hrd]
       obtain ⟨s40,wM⟩:∃ s,s=(rdF (rdP (d+1) ver true) ver true fQ_6 s39).2:=⟨_,rfl⟩
       rw [← hst,← wM] at bA
       clear hst
       repeat ((first|refine qA rfl ?_|apply qB|refine qC rfl ?_|apply qD|apply qE|apply qF|apply qG|apply qH);try simp (disch:=(first|omega|(simp only [qI,qJ,qK]<;>omega)|exact qL _)) only [go_sem,↓reduceIte,n0,reduceCtorEq,n1,n2,n3,n4,n5,i0,i1,i2,i3,i4,i5,i6,i7,hv_26,hrt_2,hrt_7,hrt_8,hrt_9,hrt_10,hri])
       generalize eR:wr w26 vb 7 [.bool (!decide (beN (rdN 1 s39).1=0))] = w27
       have oN:Upd (fun b=>b=vb∨b=rc3) w26 w27:=by rw [← eR];exact (Upd.refl _ _).wr _ _ (.inr (.inl rfl))
       have hv_27:blk w27 vb=some (#[.int .i16 ver,.int .i16 (rdInt .i16 2 s0).1,.slice aa0 N0 qq0,.int .i32 (rdInt .i32 4 s8).1,v_4,v_5,v_6,.bool (!decide (beN (rdN 1 s39).1=0)),.map qm],108,(0,0)):=by rw [← eR,blk_wr_eq,hv_26];rfl
       have jX:=oN
       have dU:Upd (fun b=>b=vb∨b=rc3) w25 w27:=bF.trans jX
       have D1:=jX.size
       have o9:Glo ev w27:=aK.updS dU aM aN
       have pV:Rdr RT ok w27 rc3 s40∧NN w27 rc3 s40:=by
        have hn:∀ x,x=w27→(Rdr RT ok x rc3 s40∧NN x rc3 s40):=fun x hx=>by
         rw [hx,← eR]
         exact Rdr.store bA (by omega) (fun h=>by have:=(hok _ h).1;first|omega|exact (hok _ h).2 rfl)
        exact hn _ rfl
       clear eR
       have AR:RepF (RepS true (d+1)) (szS true (d+1)) fQ_6 (fun b=>ok b∨w25.heap.size≤b) w27 (xt3_6) [.bool (!decide (beN (rdN 1 s39).1=0))]:=(RepF_num (by decide)).2 (by rw [xH,hrd];exact congrArg (fun x=>[x]) (numC_bool _).symm)
       clear hrd
       repeat ((first|refine qA rfl ?_|apply qB|refine qC rfl ?_|apply qD|apply qE|apply qF|apply qG|apply qH);try simp (disch:=(first|omega|(simp only [qI,qJ,qK]<;>omega)|exact qL _)) only [go_sem,↓reduceIte,n0,reduceCtorEq,n1,n2,n3,n4,n5,i0,i1,i2,i3,i4,i5,i6,i7,hv_27,hrt_2,hrt_7,hrt_8,hrt_9,hrt_10,hri])
       refine (RComplete_fn w27 pV.1 o9.2).mono ?_
       rintro _ wz ⟨rfl,hez⟩
       rw [hez]
       clear hez wz
       have hxF:rdF (rdP (d+1) ver true) ver true fQ_6 s39=(xt3_6,s40):=by rw [xH,wM]
       by_cases hsz:s40=none
       ·rw [errV_none hsz]
        obtain ⟨eT,ep,hevE⟩:=hev
        rw [hevE]
        repeat (first|simp (disch:=(first|omega|(simp only [qI,qJ,qK]<;>omega)|exact qL _)) only [go_sem,↓reduceIte,n0,reduceCtorEq,n1,n2,n3,n4,n5,i0,i1,i2,i3,i4,i5,i6,i7,hv_27,hrt_2,hrt_7,hrt_8,hrt_9,hrt_10,hri]|refine qA rfl ?_|apply qB|refine qC rfl ?_|apply qD|apply qE|apply qF|apply qG|apply qH)
        rw [← hevE]
        exact ReadQ.bad (Eq.mp hFB (hbT (by rw [hxF];exact hsz))) (hbasec.trans' dU fun i hi h=>h.elim id fun h=>by omega)
       have hen:errV ev s40 = .nilIface:=errV_some hsz
       rw [hen]
       repeat (first|simp (disch:=(first|omega|(simp only [qI,qJ,qK]<;>omega)|exact qL _)) only [go_sem,↓reduceIte,n0,reduceCtorEq,n1,n2,n3,n4,n5,i0,i1,i2,i3,i4,i5,i6,i7,hv_27,hrt_2,hrt_7,hrt_8,hrt_9,hrt_10,hri,hw1]|refine qA rfl ?_|apply qB|refine qC rfl ?_|apply qD|apply qE|apply qF|apply qG|apply qH)
       have hRk:Upd (fun b=>b=vb∨b=rb) w21 w27:=hQo.trans' dU fun i hi h=>h.elim .inl fun h=>by omega
       have hzr:=hRk.size
       have hE2:rdTg (rdP (d+1) ver true) ver true fs_Q m [x_0,x_1,x_2,y_3,y_4,y_5,xt3_6] u s38=rdTgs (rdP (d+1) ver true) ver true fs_Q [x_0,x_1,x_2,x_3,x_4,x_5,x_6] s9:=by
        have h:=(rdTg_known (k:=3) (hK.symm.trans hk3) rfl (by rw [← bE,← hSL,← hSP,← rQ];exact hxF) hsz).symm.trans hE
        rw [← bE,← hSL,← mR] at h;exact h
       have hO2:tagOnce fs_Q m (3 :: ks) s38:=by
        have h:=hO.2
        rw [← hK,hk3,← bE,← hSL,← mR] at h;exact h
       refine ⟨⟨(by simp (disch:=(first|omega|(simp only [qI,qJ,qK]<;>omega)|exact qL _)) only [go_sem,↓reduceIte,n0,reduceCtorEq,n1,n2,n3,n4,n5,i0,i1,i2,i3,i4,i5,i6,i7,Holds_nil,Holds_cons,hrt_2,hrt_7,hrt_8,hrt_9,hrt_10,hri]),m,(by simp (disch:=(first|omega|(simp only [qI,qJ,qK]<;>omega)|exact qL _)) only [go_sem,↓reduceIte,n0,reduceCtorEq,n1,n2,n3,n4,n5,i0,i1,i2,i3,i4,i5,i6,i7,hrt_2,hrt_7,hrt_8,hrt_9,hrt_10,hri,hw1];all_goals rfl),u,s38,qm,3 :: ks,y_3,v_4,y_4,v_5,y_5,v_6,xt3_6,.bool (!decide (beN (rdN 1 s39).1=0)),by omega,hE2,hv_27,RepF.weakenS (hfT_3.keepS (hRk.keeps fun b _ hk e=>(hoM b hk.1) e)) (fun b hb hk=>⟨hk.1,hb,hk.2.2⟩),RepF.weakenS (hfT_4.keepS (hRk.keeps fun b _ hk e=>(hoM b hk.1) e)) (fun b hb hk=>⟨hk.1,hb,hk.2.2⟩),RepF.weakenS (hfT_5.keepS (hRk.keeps fun b _ hk e=>(hoM b hk.1) e)) (fun b hb hk=>⟨hk.1,hb,hk.2.2⟩),RepF.weakenS AR (fun b hb hk=>⟨hk.imp id fun h=>by omega,hb,fun h=>by have:=hmap b h;rcases hk with hk|hk<;>first|omega|(have:=(hok b hk).1;omega)⟩),hO2,(fun h=>hd_3 (fun h'=>h (List.mem_cons_of_mem _ h'))),(fun h=>hd_5 (fun h'=>h (List.mem_cons_of_mem _ h'))),hTG.keep (fun b hb hk=>hRk.keep b hb fun e=>by rcases hk with hk|hk<;>rcases e with e|e<;>first|omega|(have:=hok b hk.1;omega)),hnd,⟨hqo.1.upd dU (by omega) (fun b _ hk e=>by have:=hok b hk;omega),hqo.2.upd dU (by omega)⟩,fB.trans hRk⟩,?_⟩
       try simp (disch:=(first|omega|(simp only [qI,qJ,qK]<;>omega)|exact qL _)) only [go_sem,↓reduceIte,n0,reduceCtorEq,n1,n2,n3,n4,n5,i0,i1,i2,i3,i4,i5,i6,i7,hrt_2,hrt_7,hrt_8,hrt_9,hrt_10,hri]
       simp only [RowKit.intOf]
       omega
      ·have AX:¬ (K:Int)=3:=by omega
       repeat ((first|refine qA rfl ?_|apply qB|refine qC rfl ?_|apply qD|apply qE|apply qF|apply qG|apply qH);try simp (disch:=(first|omega|(simp only [qI,qJ,qK]<;>omega)|exact qL _)) only [go_sem,↓reduceIte,n0,reduceCtorEq,n1,n2,n3,n4,n5,i0,i1,i2,i3,i4,i5,i6,i7,hv_22,hrt_2,hrt_7,hrt_8,hrt_9,hrt_10,hri,AU,AV,AW,AX])
       have hQk:Upd (fun b=>b=vb∨b=rb) w21 w22:=gH
       have hEd:Ext w22 w22.drew:=(Upd.refl _ _).drew
       have hqd:Rdr RT ok w22.drew rb s12∧NN w22.drew rb s12:=⟨gP.1.upd hEd (fun h=>h) (fun _ _ _ h=>h),gP.2.upd hEd fun h=>h⟩
       have hnb:∀ b,¬ b=rb→¬ b=rb:=fun _ h=>h
       refine W.drawR (.take 0 (.take 1 (.take 2 (.take 3 (.only 4 (.take 5 (.only 6 (.last 7)))))))) (fun b=>b=rb) mixed (by kernel_rfl) ?_
       try simp (disch:=(first|omega|(simp only [qI,qJ,qK]<;>omega)|exact qL _|(refine hnb _ ?_;first|omega|(simp only [World.size_alloc,size_wr,size_drew]<;>omega)))) only [go_sem,↓reduceIte,n0,reduceCtorEq,n1,n2,n3,n4,n5,i0,i1,i2,i3,i4,i5,i6,i7,hv_22,hrt_2,hrt_7,hrt_8,hrt_9,hrt_10,hri]
       refine (RUvarint_fn w22.drew hqd.1 hrok).mono ?_
       rintro _ w23 ⟨rfl,bC,dD⟩
       have hSl:=rdUv_lt s12
       obtain ⟨s41,wN⟩:∃ s,s=(rdUv s12).2:=⟨_,rfl⟩
       rw [← wN] at bC
       obtain ⟨SL,hSL⟩:∃ N,N=(rdUv s12).1:=⟨_,rfl⟩
       rw [← hSL] at hSl
       try rw [← hSL]
       have e64:IntKind.i64.wrap (SL:Int)=SL:=i64_wrap (by omega)
       have hP1:Upd (fun b=>b=rb) w22.drew w23:=dD
       have hv_23:=dD.blk_some (show blk w22.drew vb=_ from hv_22) (by omega)
       refine ⟨hP1,?_⟩
       try simp (disch:=(first|omega|(simp only [qI,qJ,qK]<;>omega)|exact qL _|(refine hnb _ ?_;first|omega|(simp only [World.size_alloc,size_wr,size_drew]<;>omega)))) only [go_sem,↓reduceIte,n0,reduceCtorEq,n1,n2,n3,n4,n5,i0,i1,i2,i3,i4,i5,i6,i7,hv_23,e64,hrt_2,hrt_7,hrt_8,hrt_9,hrt_10,hri]
       refine (Span_fn w23 bC.1 hrok _).mono ?_
       rintro r24 w24 ⟨hBs,_,_,hqx,hqy,dE⟩
       have bD:=And.intro hqx (hqy (.inl bC.2))
       clear hqx hqy
       obtain ⟨s42,mS⟩:∃ s,s=(rdSpan (SL:Int) s41).2:=⟨_,rfl⟩
       rw [← mS] at bD
       obtain ⟨SP,hSP⟩:∃ x,x=(rdSpan (SL:Int) s41).1:=⟨_,rfl⟩
       rw [← hSP] at hBs
       rw [wN] at hSP mS
       obtain ⟨spa,spc,rfl,_⟩:=hBs.shape
       have hP2:Upd (fun b=>b=rb) w22.drew w24:=hP1.trans dE
       have hv_24:=dE.blk_some hv_23 (by omega)
       refine ⟨hP2,?_⟩
       try simp (disch:=(first|omega|(simp only [qI,qJ,qK]<;>omega)|exact qL _|(refine hnb _ ?_;first|omega|(simp only [World.size_alloc,size_wr,size_drew]<;>omega)))) only [go_sem,↓reduceIte,n0,reduceCtorEq,n1,n2,n3,n4,n5,i0,i1,i2,i3,i4,i5,i6,i7,hv_24,e64,hrt_2,hrt_7,hrt_8,hrt_9,hrt_10,hri]
       have hR7:Upd (fun b=>b=vb∨b=rb) w21 w24:=hQk.trans ((hEd.mono fun _ h=>h.elim).trans (hP2.mono fun _ h=>.inr h))
       have hz7:=hR7.size
       have zG:=hTG.keep (w':=w24) (fun b hb hk=>hR7.keep b hb fun e=>by rcases hk with hk|hk<;>rcases e with e|e<;>first|omega|(have:=hok b hk.1;omega))
       refine (TagsPutX_fn (okT:=ok) (L:=w20.heap.size) w24 zG (by omega) (by omega) hv_24 (o:=8) rfl (thaw_00 _ _) (K,SP) _ (hBs.weaken fun b _ hk=>⟨hk,by have:=hok b hk;omega⟩) hKl hnd (fun b hk=>(hok b hk).2)).mono ?_
       rintro _ w25 ⟨qn,hb8,zH,hU8,hnw⟩
       have hv_25:blk w25 vb=some (#[.int .i16 ver,.int .i16 (rdInt .i16 2 s0).1,.slice aa0 N0 qq0,.int .i32 (rdInt .i32 4 s8).1,v_4,v_5,v_6,v_7,.map qn],108,(0,0)):=hb8
       have hUz:Upd (fun b=>b=vb∨b=rb) w20 w25:=(fB.trans hR7).trans' hU8 fun i hi h=>h.elim .inl fun h=>by cases h;have:=hmap _ rfl;omega
       have hz8:=hU8.size
       have hn:∀ f∈([fQ_0,fQ_1,fQ_2,fQ_3,fQ_4,fQ_5,fQ_6]:List Fld),f.tag≠(K:Int):=by
        intro f hf
        simp only [List.mem_cons,List.not_mem_nil,or_false] at hf
        rcases hf with rfl|rfl|rfl|rfl|rfl|rfl|rfl
        ·intro h;have h':(-1:Int)=(K:Int):=h;omega
        ·intro h;have h':(-1:Int)=(K:Int):=h;omega
        ·intro h;have h':(-1:Int)=(K:Int):=h;omega
        ·intro h;have h':(0:Int)=(K:Int):=h;omega
        ·intro h;have h':(1:Int)=(K:Int):=h;omega
        ·intro h;have h':(2:Int)=(K:Int):=h;omega
        ·intro h;have h':(3:Int)=(K:Int):=h;omega
       have hE2:rdTg (rdP (d+1) ver true) ver true fs_Q m [x_0,x_1,x_2,y_3,y_4,y_5,y_6] (tagPut u (K,SP)) s42=rdTgs (rdP (d+1) ver true) ver true fs_Q [x_0,x_1,x_2,x_3,x_4,x_5,x_6] s9:=by
        have h:=(rdTg_unk (by rw [← hK];exact tagX_none hn)).symm.trans hE
        rw [← hK,← bE,← hSL,← hSP,← mS] at h;exact h
       have hO2:tagOnce fs_Q m (K :: ks) s42:=by
        have h:=hO.2
        rw [← hK,← bE,← hSL,← mS] at h;exact h
       have hrm:¬ (rb=vb∨Value.map qm = .map (some rb)):=fun h=>h.elim (fun h=>by omega) fun h=>by cases h;have:=hmap _ rfl;omega
       repeat (first|simp (disch:=(first|omega|(simp only [qI,qJ,qK]<;>omega)|exact qL _)) only [go_sem,↓reduceIte,n0,reduceCtorEq,n1,n2,n3,n4,n5,i0,i1,i2,i3,i4,i5,i6,i7,hv_25,hrt_2,hrt_7,hrt_8,hrt_9,hrt_10,hri,hw1]|refine qA rfl ?_|apply qB|refine qC rfl ?_|apply qD|apply qE|apply qF|apply qG|apply qH)
       refine ⟨⟨(by simp (disch:=(first|omega|(simp only [qI,qJ,qK]<;>omega)|exact qL _)) only [go_sem,↓reduceIte,n0,reduceCtorEq,n1,n2,n3,n4,n5,i0,i1,i2,i3,i4,i5,i6,i7,Holds_nil,Holds_cons,hrt_2,hrt_7,hrt_8,hrt_9,hrt_10,hri]),m,(by simp (disch:=(first|omega|(simp only [qI,qJ,qK]<;>omega)|exact qL _)) only [go_sem,↓reduceIte,n0,reduceCtorEq,n1,n2,n3,n4,n5,i0,i1,i2,i3,i4,i5,i6,i7,hrt_2,hrt_7,hrt_8,hrt_9,hrt_10,hri,hw1];all_goals rfl),_,s42,qn,K :: ks,y_3,v_4,y_4,v_5,y_5,v_6,y_6,v_7,by omega,hE2,hv_25,RepF.weakenS ((hfT_3.keepS (hR7.keeps fun b _ hk e=>(hoM b hk.1) e)).keepS (hU8.keeps fun b _ hk e=>e.elim (fun e=>hoM b hk.1 (.inl e)) fun e=>hk.2.2 (by cases e;rfl))) (fun b hb hk=>⟨hk.1,hb,fun h=>(hnw b h).elim (fun h=>hk.2.2 (by cases h;rfl)) fun h=>by have:=hk.2.1;omega⟩),RepF.weakenS ((hfT_4.keepS (hR7.keeps fun b _ hk e=>(hoM b hk.1) e)).keepS (hU8.keeps fun b _ hk e=>e.elim (fun e=>hoM b hk.1 (.inl e)) fun e=>hk.2.2 (by cases e;rfl))) (fun b hb hk=>⟨hk.1,hb,fun h=>(hnw b h).elim (fun h=>hk.2.2 (by cases h;rfl)) fun h=>by have:=hk.2.1;omega⟩),RepF.weakenS ((hfT_5.keepS (hR7.keeps fun b _ hk e=>(hoM b hk.1) e)).keepS (hU8.keeps fun b _ hk e=>e.elim (fun e=>hoM b hk.1 (.inl e)) fun e=>hk.2.2 (by cases e;rfl))) (fun b hb hk=>⟨hk.1,hb,fun h=>(hnw b h).elim (fun h=>hk.2.2 (by cases h;rfl)) fun h=>by have:=hk.2.1;omega⟩),RepF.weakenS ((hfT_6.keepS (hR7.keeps fun b _ hk e=>(hoM b hk.1) e)).keepS (hU8.keeps fun b _ hk e=>e.elim (fun e=>hoM b hk.1 (.inl e)) fun e=>hk.2.2 (by cases e;rfl))) (fun b hb hk=>⟨hk.1,hb,fun h=>(hnw b h).elim (fun h=>hk.2.2 (by cases h;rfl)) fun h=>by have:=hk.2.1;omega⟩),hO2,(fun h=>hd_3 (fun h'=>h (List.mem_cons_of_mem _ h'))),(fun h=>hd_5 (fun h'=>h (List.mem_cons_of_mem _ h'))),zH,tagPut_keys _ _ hnd,⟨bD.1.upd hU8 hrm (fun b _ hk h=>h.elim (fun h=>(hok b hk).2 h) fun h=>by cases h;have:=hmap _ rfl;have:=hok _ hk;omega),bD.2.upd hU8 hrm⟩,hUz⟩,?_⟩
       try simp (disch:=(first|omega|(simp only [qI,qJ,qK]<;>omega)|exact qL _)) only [go_sem,↓reduceIte,n0,reduceCtorEq,n1,n2,n3,n4,n5,i0,i1,i2,i3,i4,i5,i6,i7,hrt_2,hrt_7,hrt_8,hrt_9,hrt_10,hri]
       simp only [RowKit.intOf]
       omega
 rintro ρ w26 ⟨⟨hrz_2,hrz_7,hrz_8,hrz_9,hrz_10,-⟩,u,s43,qm,ks,y_3,v_4,y_4,v_5,y_5,v_6,y_6,v_7,hE0,hv_26,hfT_3,hfT_4,hfT_5,hfT_6,-,-,-,hTG,hnd,bA,zT⟩
 have cW:Upd (fun b=>b=vb∨b=rb) w20 w26:=zT
 have bF:Upd (fun b=>b=vb∨b=rb) w1 w26:=oT.trans cW
 have nH:=cW.size
 have gD:Glo ev w26:=hG1.updS bF a8 aA
 have hf_3:=RepF.weakenS hfT_3 (ok':=fun b=>(ok b∨w1.heap.size≤b)) fun b _ hk=>hk.1
 have hf_4:=RepF.weakenS hfT_4 (ok':=fun b=>(ok b∨w1.heap.size≤b)) fun b _ hk=>hk.1
 have hf_5:=RepF.weakenS hfT_5 (ok':=fun b=>(ok b∨w1.heap.size≤b)) fun b _ hk=>hk.1
 have hf_6:=RepF.weakenS hfT_6 (ok':=fun b=>(ok b∨w1.heap.size≤b)) fun b _ hk=>hk.1
 have hTg:TagsM (fun b=>ok b∨w1.heap.size≤b) w26 (.map qm) u:=hTG.tags (fun b _ hk=>.inl hk) (fun b hb=>.inr (by omega))
 have hfin:rdM (d+1) ver true fs_Q s0=(.mk 0 [] false [x_0,x_1,x_2,y_3,y_4,y_5,y_6] u,s43):=rdM_t hl_0 hE0.symm
 have hC_26:Upd (fun b=>b=vb∨b=rb) w26 w26:=Upd.refl _ _
 have hC_20:Upd (fun b=>b=vb∨b=rb) w20 w26:=cW.trans hC_26
 have hC_19:Upd (fun b=>b=vb∨b=rb) w19 w26:=mA.trans hC_20
 have hC_18:Upd (fun b=>b=vb∨b=rb) w18 w26:=m9.trans hC_19
 have hC_17:Upd (fun b=>b=vb∨b=rb) w17 w26:=gG.trans hC_18
 have hC_16:Upd (fun b=>b=vb∨b=rb) w16 w26:=dM.trans hC_17
 have hC_4:Upd (fun b=>b=vb∨b=rb) w4 w26:=dW.trans hC_16
 have hC_3:Upd (fun b=>b=vb∨b=rb) w3 w26:=hV4.trans hC_4
 have hC_2:Upd (fun b=>b=vb∨b=rb) w2 w26:=hV3.trans hC_3
 have hC_1:Upd (fun b=>b=vb∨b=rb) w1 w26:=hV2.trans hC_2
 have hR:RepS true (d+2) fs_Q (fun b=>ok b∨w1.heap.size≤b) w26 (.mk 0 [] false [x_0,x_1,x_2,y_3,y_4,y_5,y_6] u) [.int .i16 (rdInt .i16 2 s0).1,.slice aa0 N0 qq0,.int .i32 (rdInt .i32 4 s8).1,v_4,v_5,v_6,v_7,.map qm]:=RepS.introT (c:=[.int .i16 (rdInt .i16 2 s0).1,.slice aa0 N0 qq0,.int .i32 (rdInt .i32 4 s8).1,v_4,v_5,v_6,v_7]) (RepL.cons1 (hf_0.keepS (hC_3.keeps fun b _ hk e=>(hoM b hk) e)) (RepL.cons1 (hf_1.keepS (hC_17.keeps fun b _ hk e=>(hoM b hk) e)) (RepL.cons1 (hf_2.keepS (hC_19.keeps fun b _ hk e=>(hoM b hk) e)) (RepL.cons1 (hf_3.keepS (hC_26.keeps fun b _ hk e=>(hoM b hk) e)) (RepL.cons1 (hf_4.keepS (hC_26.keeps fun b _ hk e=>(hoM b hk) e)) (RepL.cons1 (hf_5.keepS (hC_26.keeps fun b _ hk e=>(hoM b hk) e)) (RepL.cons1 (hf_6.keepS (hC_26.keeps fun b _ hk e=>(hoM b hk) e)) RepL.nil))))))) hTg
 repeat ((first|refine qA rfl ?_|apply qB|refine qC rfl ?_|apply qD|apply qE|apply qF|apply qG|apply qH);try simp (disch:=(first|omega|(simp only [qI,qJ,qK]<;>omega)|exact qL _)) only [go_sem,↓reduceIte,n0,reduceCtorEq,n1,n2,n3,n4,n5,i0,i1,i2,i3,i4,i5,i6,i7,hv_26,hrz_2,hrz_7,hrz_8,hrz_9,hrz_10])
 refine (RComplete_fn w26 bA.1 gD.2).mono ?_
 rintro _ wz ⟨rfl,hez⟩
 rw [hez]
 repeat ((first|refine qA rfl ?_|apply qB|refine qC rfl ?_|apply qD|apply qE|apply qF|apply qG|apply qH);try simp (disch:=(first|omega|(simp only [qI,qJ,qK]<;>omega)|exact qL _)) only [go_sem,↓reduceIte,n0,reduceCtorEq,n1,n2,n3,n4,n5,i0,i1,i2,i3,i4,i5,i6,i7,hv_26,hrz_2,hrz_7,hrz_8,hrz_9,hrz_10])
 rw [hfin]
 refine ⟨fun h => ?_,fun h=>⟨?_,[.int .i16 (rdInt .i16 2 s0).1,.slice aa0 N0 qq0,.int .i32 (rdInt .i32 4 s8).1,v_4,v_5,v_6,v_7,.map qm],hv_26,?_⟩,?_⟩
 ·have h':s43=none:=h
  rw [h'];rfl
 ·cases hsn:s43 with
  | none=>exact absurd hsn h
  | some x=>rfl
 ·exact (RepS_lay true (d+2) fs_Q).weaken hR fun b _ hk=>hk.imp id fun h=>by omega
 ·exact hbase.trans' bF fun i hi h=>h.elim id fun h=>by omega
end Ms

