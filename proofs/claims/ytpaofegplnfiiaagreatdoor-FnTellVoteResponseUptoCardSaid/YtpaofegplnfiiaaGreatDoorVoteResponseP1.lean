/- A part of the proof: see the last text. -/
import Derived.Test.YtpaofegplnfiiaaGreatDoorVoteResponseP0
set_option linter.unusedSimpArgs false
set_option linter.unusedVariables false
namespace Ms
open Go.World renaming size_alloc → qI
open Ms renaming size_wr → qJ,size_drew → qK,not_noB → qL
open W renaming seqR → qA,seq → qB,regR → qC,condK → qD,block → qE,skip → qF,ret → qG,exit → qH
open Nat renaming reduceEqDiff → n0,reduceAdd → n1,reduceMul → n2,reduceSub → n3,reduceLT → n4,reduceLeDiff → n5
open Int renaming reduceEq → i0,reduceLT → i1,reduceLE → i2,reduceNeg → i3,reduceAdd → i4,reduceSub → i5,reduceMul → i6,reduceToNat → i7
set_option maxRecDepth 8000
open Go Go.Proofs Go.Shelf
attribute [local congr] W_congr WPsq_congr WPp_congr optK_congr addrK_congr intK_congr boolK_congr sliceK_congr tupleK_congr funcK_congr Fn_congr rawK_congr takeK_congr stepK_congr convK_congr aggK_congr

set_option maxHeartbeats 4000000 in
theorem readQ_0 {d:Nat} {ok:Blocks} {ver:Int} {ev:Value} (hlo:0≤ver) (hhi:ver≤0) (w:World) {vb:Nat} (src:Value) (s:List UInt8) (hv:blk w vb=some (#[.int .i16 ver,.int .i16 0,.slice none 0 0,.slice none 0 0,.map none],80,(0,0))) (hsrc:BytesV ok w src s) (g9:∀ b,ok b→b < w.heap.size∧b≠vb) (hG:Glo ev w) (hgv:¬ 0=vb∧¬ 1=vb) (hev:∃ T p,ev = .iface T p) (hT1:onceM (d+2) ver fs_Q (some s)) :
  Fn Tryz.prog 45 #[.pointer (some ⟨vb,0,none⟩),src,.bool false] w (ReadQ 80 ok ver (d+3) fs_Q vb w (rdM (d+2) ver true fs_Q (some s)) ev):=by
 have hvl:=blk_lt hv
 have hgs:=hG.lt
 obtain ⟨sa,sc,rfl,_⟩:=hsrc.shape
 refine fn_of_W Tryz.func45 rfl Tryz.results45 Tryz.ntmps45 rfl ?_
 repeat ((first|refine qA rfl ?_|apply qB|refine qC rfl ?_|apply qD|apply qE|apply qF|apply qG|apply qH);try simp (disch:=(first|omega|(simp only [qI,qJ,qK]<;>omega)|exact qL _)) only [go_sem,↓reduceIte,n0,reduceCtorEq,n1,n2,n3,n4,n5,i0,i1,i2,i3,i4,i5,i6,i7,hv])
 refine (DefaultQ_fn w hv).mono ?_
 rintro _ w0 ⟨hv0,hu0⟩
 have hz0:=hu0.size
 have vE:BytesV ok w0 (.slice sa s.length sc) s:=hsrc.keep (hu0.keeps fun b _ hk e=>(g9 b hk).2 e)
 obtain ⟨rb,hrb⟩:∃ r,r=w0.heap.size:=⟨_,rfl⟩
 have hE1:Ext w0 (wr (w0.alloc (.cells #[.slice none 0 0,.bool false] 123)) w0.heap.size 0 [.slice sa s.length sc,.bool false]):=(Upd.alloc (Upd.refl _ _) _).wr _ _ (.inl (Nat.le_refl _))
 have hz1:(wr (w0.alloc (.cells #[.slice none 0 0,.bool false] 123)) w0.heap.size 0 [.slice sa s.length sc,.bool false]).heap.size=w0.heap.size+1:=by rw [size_wr,World.size_alloc]
 have hR1:Rdr RT ok (wr (w0.alloc (.cells #[.slice none 0 0,.bool false] 123)) w0.heap.size 0 [.slice sa s.length sc,.bool false]) w0.heap.size (some s):=Rdr.good (v:=.slice sa s.length sc) (by simp (disch:=(first|omega|(simp only [qI,qJ,qK]<;>omega)|exact qL _)) only [go_sem,↓reduceIte,n0,reduceCtorEq,n1,n2,n3,n4,n5,i0,i1,i2,i3,i4,i5,i6,i7]) (vE.keep (hE1.keeps _))
 have hv_1:=hE1.blk_some hv0 id
 repeat ((first|refine qA rfl ?_|apply qB|refine qC rfl ?_|apply qD|apply qE|apply qF|apply qG|apply qH);try simp (disch:=(first|omega|(simp only [qI,qJ,qK]<;>omega)|exact qL _)) only [go_sem,↓reduceIte,n0,reduceCtorEq,n1,n2,n3,n4,n5,i0,i1,i2,i3,i4,i5,i6,i7,hv0])
 generalize (wr (w0.alloc (.cells #[.slice none 0 0,.bool false] 123)) w0.heap.size 0 [.slice sa s.length sc,.bool false])=w1 at *
 rw [← hrb] at hR1
 try rw [← hrb]
 have hok:∀ b,ok b→b < w.heap.size∧b≠vb:=g9
 have hrok:¬ ok rb:=fun h=>by have:=(hok rb h).1;omega
 have hbase:Upd (fun b=>b=vb) w w1:=hu0.trans (hE1.mono fun _ h=>h.elim)
 have hG1:Glo ev w1:=hG.updS hbase hgv.1 hgv.2
 have hgrb:¬ 0=rb:=by omega
 have aA:¬ (0=vb∨0=rb):=fun h=>h.elim hgv.1 fun h=>by omega
 have aB:¬ (1=vb∨1=rb):=fun h=>h.elim hgv.2 fun h=>by omega
 obtain ⟨s0,hs0⟩:∃ s':St,s'=some s:=⟨_,rfl⟩
 rw [← hs0] at hR1 ⊢
 have hU1:Upd (fun b=>b=vb∨b=rb) w1 w1:=Upd.refl _ _
 have hoM:∀ b,(ok b∨w1.heap.size≤b)→¬ (b=vb∨b=rb):=fun b hk h=>by
  rcases hk with hk|hk
  ·have:=hok b hk;rcases h with h|h<;>omega
  ·rcases h with h|h<;>omega
 have hq1:Rdr RT ok w1 rb s0:=hR1
 obtain ⟨FB,hFB⟩:∃ P:Prop,P=((rdM (d+2) ver true fs_Q s0).2=none):=⟨_,rfl⟩
 rw [← hs0] at hT1
 have hb_0:(rdL (rdP (d+2) ver true) (dfP (d+2)) ver true [fQ_0,fQ_1,fQ_2] s0).2=none→FB:=fun h=>Eq.mpr hFB (rdM_bad h)
 have hh_0:hasS fQ_0 ver=true:=hasS_t (by show (0:Int)≤ver;omega) (by show (-1:Int) < 0∨ver≤(-1:Int);omega)
 obtain ⟨x_0,hx_0⟩:∃ x,x=(rdF (rdP (d+2) ver true) ver true fQ_0 s0).1:=⟨_,rfl⟩
 repeat ((first|refine qA rfl ?_|apply qB|refine qC rfl ?_|apply qD|apply qE|apply qF|apply qG|apply qH);try simp (disch:=(first|omega|(simp only [qI,qJ,qK]<;>omega)|exact qL _)) only [go_sem,↓reduceIte,n0,reduceCtorEq,n1,n2,n3,n4,n5,i0,i1,i2,i3,i4,i5,i6,i7,hv_1])
 have hrd:rdF (rdP (d+2) ver true) ver true fQ_0 s0=_:=rdF_num 2 rfl (by decide)
 refine (Int16_fn w1 hq1 hrok hG1.1 hgrb).mono ?_
 rintro _ w2 ⟨rfl,hq2,hu2⟩
 have hv_2:=hu2.blk_some hv_1 (by omega)
 have hV2:Upd (fun b=>b=vb∨b=rb) w1 w2:=hu2.mono (fun _ h=>.inr h)
 have hU2:Upd (fun b=>b=vb∨b=rb) w1 w2:=hU1.trans hV2
 have hz2:=hV2.size
 have hG2:Glo ev w2:=hG1.updS hU2 aA aB
 have hst:(rdF (rdP (d+2) ver true) ver true fQ_0 s0).2=(rdInt .i16 2 s0).2:=by first|(rw [hrd];rfl)|rw [hrd]
 obtain ⟨s1,hs1⟩:∃ s,s=(rdF (rdP (d+2) ver true) ver true fQ_0 s0).2:=⟨_,rfl⟩
 rw [← hst,← hs1] at hq2
 clear hst
 repeat ((first|refine qA rfl ?_|apply qB|refine qC rfl ?_|apply qD|apply qE|apply qF|apply qG|apply qH);try simp (disch:=(first|omega|(simp only [qI,qJ,qK]<;>omega)|exact qL _)) only [go_sem,↓reduceIte,n0,reduceCtorEq,n1,n2,n3,n4,n5,i0,i1,i2,i3,i4,i5,i6,i7,hv_2])
 generalize hw3:wr w2 vb 1 [.int .i16 (rdInt .i16 2 s0).1] = w3
 have hS3:Upd (fun b=>b=vb∨b=rb) w2 w3:=by rw [← hw3];exact (Upd.refl _ _).wr _ _ (.inr (.inl rfl))
 have hv_3:blk w3 vb=some (#[.int .i16 ver,.int .i16 (rdInt .i16 2 s0).1,.slice none 0 0,.slice none 0 0,.map none],80,(0,0)):=by rw [← hw3,blk_wr_eq,hv_2];rfl
 have hV3:=hS3
 have hU3:Upd (fun b=>b=vb∨b=rb) w1 w3:=hU2.trans hV3
 have hz3:=hV3.size
 have hG3:Glo ev w3:=hG1.updS hU3 aA aB
 have hq3:Rdr RT ok w3 rb s1∧NN w3 rb s1:=by
  have hn:∀ x,x=w3→(Rdr RT ok x rb s1∧NN x rb s1):=fun x hx=>by
   rw [hx,← hw3]
   exact Rdr.store hq2 (by omega) (fun h=>by have:=(hok _ h).1;first|omega|exact (hok _ h).2 rfl)
  exact hn _ rfl
 clear hw3
 have hf_0:RepF (RepS true (d+2)) (szS true (d+2)) fQ_0 (fun b=>ok b∨w1.heap.size≤b) w3 (x_0) [.int .i16 (rdInt .i16 2 s0).1]:=(RepF_num (by decide)).2 (by rw [hx_0,hrd];exact congrArg (fun x=>[x]) (numC_rd 2 (by decide) 2 s0).symm)
 clear hrd
 have hb_1:(rdL (rdP (d+2) ver true) (dfP (d+2)) ver true [fQ_1,fQ_2] s1).2=none→FB:=fun h=>hb_0 (by rw [rdL_st (by decide) hh_0,← hs1];exact h)
 have hh_1:hasS fQ_1 ver=true:=hasS_t (by show (0:Int)≤ver;omega) (by show (-1:Int) < 0∨ver≤(-1:Int);omega)
 obtain ⟨x_1,hx_1⟩:∃ x,x=(rdF (rdP (d+2) ver true) ver true fQ_1 s1).1:=⟨_,rfl⟩
 repeat ((first|refine qA rfl ?_|apply qB|refine qC rfl ?_|apply qD|apply qE|apply qF|apply qG|apply qH);try simp (disch:=(first|omega|(simp only [qI,qJ,qK]<;>omega)|exact qL _)) only [go_sem,↓reduceIte,n0,reduceCtorEq,n1,n2,n3,n4,n5,i0,i1,i2,i3,i4,i5,i6,i7,hv_3])
 refine (RCompactArrayLen_fn w3 hq3.1 hrok hG3.1 hgrb).mono ?_
 rintro _ w4 ⟨rfl,hq4,hu4⟩
 have hv_4:=hu4.blk_some hv_3 (by omega)
 have hV4:Upd (fun b=>b=vb∨b=rb) w3 w4:=hu4.mono (fun _ h=>.inr h)
 have hU4:Upd (fun b=>b=vb∨b=rb) w1 w4:=hU3.trans hV4
 have hz4:=hV4.size
 have hG4:Glo ev w4:=hG1.updS hU4 aA aB
 obtain ⟨s2,hs2⟩:∃ s,s=(rdALen true s1).2:=⟨_,rfl⟩
 rw [← hs2] at hq4
 have DS:=rdALen_rng true s1
 generalize hy0:(rdALen true s1).1=y0 at *
 obtain ⟨N0,hN0⟩:∃ N,N=y0.toNat:=⟨_,rfl⟩
 have lT:(rdMany (rd1 (rdP (d+2) ver true) fQ_1.of fQ_1.sub false true) N0 s2).2=none→FB:=fun h=>hb_1 (by rw [rdL_st (by decide) hh_1];exact rdL_bad (rdF_listbad rfl (by rw [hy0,← hN0,← hs2];exact h)))
 repeat ((first|refine W.seqR rfl ?_|refine W.seq ?_|refine W.regR rfl ?_|refine W.block ?_|refine W.skip ?_|refine W.ret ?_|refine W.exit ?_);try simp (disch:=(first|omega|(simp only [qI,qJ,qK]<;>omega)|exact qL _)) only [go_sem,↓reduceIte,n0,reduceCtorEq,n1,n2,n3,n4,n5,i0,i1,i2,i3,i4,i5,i6,i7,hv_4])
 refine (ROk_fn w4 hq4.1).mono ?_
 rintro _ wz ⟨rfl,hez⟩
 rw [hez]
 clear hez wz
 by_cases fC:s2=none
 ·have hso:s2.isSome=false:=by rw [fC];rfl
  repeat (first|simp (disch:=(first|omega|(simp only [qI,qJ,qK]<;>omega)|exact qL _)) only [go_sem,↓reduceIte,n0,reduceCtorEq,n1,n2,n3,n4,n5,i0,i1,i2,i3,i4,i5,i6,i7,hv_4,hso]|refine qA rfl ?_|apply qB|refine qC rfl ?_|apply qD|apply qE|apply qF|apply qG|apply qH)
  refine (RComplete_fn w4 hq4.1 hG4.2).mono ?_
  rintro _ wz ⟨rfl,hez⟩
  rw [hez]
  repeat (first|simp (disch:=(first|omega|(simp only [qI,qJ,qK]<;>omega)|exact qL _)) only [go_sem,↓reduceIte,n0,reduceCtorEq,n1,n2,n3,n4,n5,i0,i1,i2,i3,i4,i5,i6,i7,hv_4]|refine qA rfl ?_|apply qB|refine qC rfl ?_|apply qD|apply qE|apply qF|apply qG|apply qH)
  rw [errV_none fC]
  exact ReadQ.bad (Eq.mp hFB (lT (by rw [fC];exact rdMany_none rd1P_none _))) (hbase.trans' hU4 fun i hi h=>h.elim id fun h=>by omega)
 have fG:s2.isSome=true:=isSome_some fC
 try simp (disch:=(first|omega|(simp only [qI,qJ,qK]<;>omega)|exact qL _)) only [go_sem,↓reduceIte,n0,reduceCtorEq,n1,n2,n3,n4,n5,i0,i1,i2,i3,i4,i5,i6,i7,hv_4,fG]
 repeat ((first|refine W.seqR rfl ?_|refine W.seq ?_|refine W.regR rfl ?_|refine W.block ?_|refine W.skip ?_|refine W.ret ?_|refine W.exit ?_);try simp (disch:=(first|omega|(simp only [qI,qJ,qK]<;>omega)|exact qL _)) only [go_sem,↓reduceIte,n0,reduceCtorEq,n1,n2,n3,n4,n5,i0,i1,i2,i3,i4,i5,i6,i7,hv_4,fG])
 refine W.condK ?_
 try simp (disch:=(first|omega|(simp only [qI,qJ,qK]<;>omega)|exact qL _)) only [go_sem,↓reduceIte,n0,reduceCtorEq,n1,n2,n3,n4,n5,i0,i1,i2,i3,i4,i5,i6,i7,hv_4,fG]
 repeat ((first|refine W.seqR rfl ?_|refine W.seq ?_|refine W.regR rfl ?_|refine W.block ?_|refine W.skip ?_|refine W.ret ?_|refine W.exit ?_);try simp (disch:=(first|omega|(simp only [qI,qJ,qK]<;>omega)|exact qL _)) only [go_sem,↓reduceIte,n0,reduceCtorEq,n1,n2,n3,n4,n5,i0,i1,i2,i3,i4,i5,i6,i7,hv_4,fG,slBase_00])
 refine W.normJ (RowQ [(2,.bool false),(7,.pointer (some ⟨rb,0,none⟩)),(8,.int .i16 ver),(9,.bool true),(10,.pointer (some ⟨vb,0,none⟩)),(14,.int .i32 y0)] 13 (fun va w'=>LstI RT (rd1 (rdP (d+2) ver true) fQ_1.of fQ_1.sub false true) (Rep1 (RepS true (d+2)) fQ_1.of fQ_1.sub) 3 86 [.string ByteArray.empty,.slice none 0 0,.map none] w4.heap.size N0 ok (fun b=>ok b∨w1.heap.size≤b) rb w4 s2 va 0 s2 [] [] w'∧(N0=0→if nilS fQ_1 ver y0=true then va = .slice none 0 0 else ∃ a,va = .slice (some a) 0 0))) ?_ ?_
 ·by_cases hy0:(0:Int) < y0
  ·have hyv:Value.int .i32 y0 = .int .i32 ((N0:Nat):Int):=by rw [show y0=((N0:Nat):Int) by omega]
   repeat ((first|refine qA rfl ?_|apply qB|refine qC rfl ?_|apply qD|apply qE|apply qF|apply qG|apply qH);try simp (disch:=(first|omega|(simp only [qI,qJ,qK]<;>omega)|exact qL _)) only [go_sem,↓reduceIte,n0,reduceCtorEq,n1,n2,n3,n4,n5,i0,i1,i2,i3,i4,i5,i6,i7,hv_4])
   refine wp_appendZ (m:=N0) utQ_74 utQ_21 inQ_86 (by decide) (by first|rfl|simp (disch:=(first|omega|(simp only [qI,qJ,qK]<;>omega)|exact qL _)) only [go_sem,↓reduceIte,n0,reduceCtorEq,n1,n2,n3,n4,n5,i0,i1,i2,i3,i4,i5,i6,i7]) (by first|exact hyv|(simp (disch:=(first|omega|(simp only [qI,qJ,qK]<;>omega)|exact qL _)) only [go_sem,↓reduceIte,n0,reduceCtorEq,n1,n2,n3,n4,n5,i0,i1,i2,i3,i4,i5,i6,i7];exact hyv)) (by omega) (by omega) (by decide) ?_
   intro q rest hq1
   have hEw:Ext w4 (w4.drew.alloc (.cells (zs [.string ByteArray.empty,.slice none 0 0,.map none] N0++rest).toArray 86)):=(Upd.refl _ _).drew.alloc _
   repeat (first|simp (disch:=(first|omega|(simp only [qI,qJ,qK]<;>omega)|exact qL _)) only [go_sem,↓reduceIte,n0,reduceCtorEq,n1,n2,n3,n4,n5,i0,i1,i2,i3,i4,i5,i6,i7,hv_4]|refine qA rfl ?_|apply qB|refine qC rfl ?_|apply qD|apply qE|apply qF|apply qG|apply qH)
   exact ⟨(by simp (disch:=(first|omega|(simp only [qI,qJ,qK]<;>omega)|exact qL _)) only [go_sem,↓reduceIte,n0,reduceCtorEq,n1,n2,n3,n4,n5,i0,i1,i2,i3,i4,i5,i6,i7,Holds_nil,Holds_cons]),.slice (some ⟨w4.heap.size,0,none⟩) N0 q,(by simp (disch:=(first|omega|(simp only [qI,qJ,qK]<;>omega)|exact qL _)) only [go_sem,↓reduceIte,n0,reduceCtorEq,n1,n2,n3,n4,n5,i0,i1,i2,i3,i4,i5,i6,i7]),LstI.start (RowJ.start (by omega) hq1 (by show w4.heap.size≤w4.drew.heap.size;rw [size_drew];omega) (blk_alloc_new rfl)) ⟨hq4.1.upd hEw (fun h=>h) (fun _ _ _ h=>h),hq4.2.upd hEw fun h=>h⟩ (hEw.mono fun _ h=>h.elim),fun h0=>by omega⟩
  ·repeat ((first|refine qA rfl ?_|apply qB|refine qC rfl ?_|apply qD|apply qE|apply qF|apply qG|apply qH);try simp (disch:=(first|omega|(simp only [qI,qJ,qK]<;>omega)|exact qL _)) only [go_sem,↓reduceIte,n0,reduceCtorEq,n1,n2,n3,n4,n5,i0,i1,i2,i3,i4,i5,i6,i7,hv_4])
   exact ⟨(by simp (disch:=(first|omega|(simp only [qI,qJ,qK]<;>omega)|exact qL _)) only [go_sem,↓reduceIte,n0,reduceCtorEq,n1,n2,n3,n4,n5,i0,i1,i2,i3,i4,i5,i6,i7,Holds_nil,Holds_cons]),.slice none 0 0,(by simp (disch:=(first|omega|(simp only [qI,qJ,qK]<;>omega)|exact qL _)) only [go_sem,↓reduceIte,n0,reduceCtorEq,n1,n2,n3,n4,n5,i0,i1,i2,i3,i4,i5,i6,i7,slBase_00]),LstI.start (RowJ.zero (by omega) (fun _ h=>by cases h)) hq4 (Upd.refl _ _),fun _=>by rw [nilS_plain (by decide) (by omega)];exact rfl⟩
 rintro ρ w5 ⟨⟨gT,gV,gW,gX,gQ,gR,-⟩,va0,aF,hL0,lX⟩
 repeat ((first|refine qA rfl ?_|apply qB|refine qC rfl ?_|apply qD|apply qE|apply qF|apply qG|apply qH);try simp (disch:=(first|omega|(simp only [qI,qJ,qK]<;>omega)|exact qL _)) only [go_sem,↓reduceIte,n0,reduceCtorEq,n1,n2,n3,n4,n5,i0,i1,i2,i3,i4,i5,i6,i7,hv_4,gT,gV,gW,gX,gQ,gR,aF])
 refine W.exitRJ 0 (EndQ [(2,.bool false),(7,.pointer (some ⟨rb,0,none⟩)),(8,.int .i16 ver),(9,.bool true),(10,.pointer (some ⟨vb,0,none⟩)),(14,.int .i32 y0),(13,va0)] (fun w'=>∃ s xs css,LstI RT (rd1 (rdP (d+2) ver true) fQ_1.of fQ_1.sub false true) (Rep1 (RepS true (d+2)) fQ_1.of fQ_1.sub) 3 86 [.string ByteArray.empty,.slice none 0 0,.map none] w4.heap.size N0 ok (fun b=>ok b∨w1.heap.size≤b) rb w4 s2 va0 N0 s xs css w')) (W.loop (LoopQ [(2,.bool false),(7,.pointer (some ⟨rb,0,none⟩)),(8,.int .i16 ver),(9,.bool true),(10,.pointer (some ⟨vb,0,none⟩)),(14,.int .i32 y0),(13,va0)] 15 (fun j w'=>∃ s xs css,LstI RT (rd1 (rdP (d+2) ver true) fQ_1.of fQ_1.sub false true) (Rep1 (RepS true (d+2)) fQ_1.of fQ_1.sub) 3 86 [.string ByteArray.empty,.slice none 0 0,.map none] w4.heap.size N0 ok (fun b=>ok b∨w1.heap.size≤b) rb w4 s2 va0 j s xs css w')) (fun ρ _=>N0 - (RowKit.intOf (ρ 15)).toNat) ?_ ?_) ?_
 ·exact ⟨(by simp (disch:=(first|omega|(simp only [qI,qJ,qK]<;>omega)|exact qL _)) only [go_sem,↓reduceIte,n0,reduceCtorEq,n1,n2,n3,n4,n5,i0,i1,i2,i3,i4,i5,i6,i7,Holds_nil,Holds_cons,gT,gV,gW,gX,gQ,gR,aF]),0,(by simp (disch:=(first|omega|(simp only [qI,qJ,qK]<;>omega)|exact qL _)) only [go_sem,↓reduceIte,n0,reduceCtorEq,n1,n2,n3,n4,n5,i0,i1,i2,i3,i4,i5,i6,i7,gT,gV,gW,gX,gQ,gR,aF];all_goals rfl),s2,[],[],hL0⟩
 ·rintro ρ w6 ⟨⟨aJ,aK,aM,aN,aH,aI,iM,-⟩,j1,aO,s3,xs0,css0,hL0⟩
  have hj0:=hL0.le
  have hq6:=hL0.rd
  have hU6:Upd (fun b=>b=vb∨b=rb) w1 w6:=hU4.trans' hL0.upd fun i _ h=>.inr h
  have hz6:=hL0.upd.size
  have hG6:Glo ev w6:=hG1.updS hU6 aA aB
  by_cases gO:j1 < N0
  ·obtain ⟨R1,q1,B1,bZ,rJ,rI,hA1,fW,dY⟩:=hL0.row.next gO
   have rQ:=blk_lt fW
   generalize css0.flatten=A1 at hA1 fW dY
   replace aF:ρ 13 = .slice (some ⟨R1,0,none⟩) N0 q1:=iM.trans bZ
   have c9:∀ b,ownB va0 b→w4.heap.size≤b∧b < w6.heap.size:=fun b h=>hL0.row.own h
   have bP:∀ b,(fun b=>(ok b∨w1.heap.size≤b)∧¬ ownB va0 b) b→¬ (b=R1∨b=rb):=fun b hk h=>h.elim (fun e=>hk.2 ⟨_,_,_,bZ,e⟩) (fun e=>hoM b hk.1 (.inr e))
   obtain ⟨X6,hX6⟩:∃ X:Array Value,X=(A1++(([.string ByteArray.empty,.slice none 0 0,.map none]:List Value)++B1)).toArray:=⟨_,rfl⟩
   have wO:blk w6 R1=some (X6,86,(0,0)):=by rw [hX6];exact fW
   have C0:j1 * 3+3≤X6.size:=by rw [hX6];simp only [List.size_toArray,List.length_append,List.length_cons,List.length_nil,hA1];omega
   repeat ((first|refine qA rfl ?_|apply qB|refine qC rfl ?_|apply qD|apply qE|apply qF|apply qG|apply qH);try simp (disch:=(first|omega|(simp only [qI,qJ,qK]<;>omega)|exact qL _)) only [go_sem,↓reduceIte,n0,reduceCtorEq,n1,n2,n3,n4,n5,i0,i1,i2,i3,i4,i5,i6,i7,wO,aJ,aK,aM,aN,aH,aI,aF,aO])
   refine (DefaultEX6_fn w6 fW hA1).mono ?_
   rintro _ w7 ⟨nL,hu7⟩
   have hq7:=And.intro (hq6.1.upd hu7 (by omega) (fun b _ hk e=>by have:=(hok b hk).1;omega)) (hq6.2.upd hu7 (by omega))
   have hV7:Upd (fun b=>b=R1∨b=rb) w6 w7:=hu7.mono (fun _ h=>.inl h)
   have hU7:Upd (fun b=>b=vb∨b=rb) w1 w7:=hU6.trans' hV7 fun i hi h=>h.elim (fun h=>by omega) .inr
   have hz7:=hV7.size
   have hG7:Glo ev w7:=hG1.updS hU7 aA aB
   obtain ⟨X7,hX7⟩:∃ X:Array Value,X=(A1++(([.string ByteArray.empty,.slice none 0 0,.map none]:List Value)++B1)).toArray:=⟨_,rfl⟩
   have wP:blk w7 R1=some (X7,86,(0,0)):=by rw [hX7];exact nL
   have C1:j1 * 3+3≤X7.size:=by rw [hX7];simp only [List.size_toArray,List.length_append,List.length_cons,List.length_nil,hA1];omega
   have sN:(rdL (rdP (d+1) ver true) (dfP (d+1)) ver true [fX6_0,fX6_1] s3).2=none→FB:=fun h=>lT (hL0.bad gO rd1P_none (by show (rd1 (rdP (d+2) ver true) 10 fs_X6 false true s3).2=none;rw [rd1_part];exact rdP_bad h))
   have lK:hasS fX6_0 ver=true:=hasS_t (by show (0:Int)≤ver;omega) (by show (-1:Int) < 0∨ver≤(-1:Int);omega)
   obtain ⟨xe0_0,oA⟩:∃ x,x=(rdF (rdP (d+1) ver true) ver true fX6_0 s3).1:=⟨_,rfl⟩
   repeat ((first|refine qA rfl ?_|apply qB|refine qC rfl ?_|apply qD|apply qE|apply qF|apply qG|apply qH);try simp (disch:=(first|omega|(simp only [qI,qJ,qK]<;>omega)|exact qL _)) only [go_sem,↓reduceIte,n0,reduceCtorEq,n1,n2,n3,n4,n5,i0,i1,i2,i3,i4,i5,i6,i7,wP,aJ,aK,aM,aN,aH,aI,aF,aO])
   have hmay:mayS fX6_0 ver=false:=mayS_no (by show (-1:Int) < 0∨ver < (-1:Int);omega)
   have hrd:rdF (rdP (d+1) ver true) ver true fX6_0 s3=_:=rdF_text rfl hmay
   refine (RCompactString_fn w7 hq7.1 hrok hG7.1 hgrb).mono ?_
   rintro _ w8 ⟨rfl,hq8,hu8⟩
   have nM:=hu8.blk_some nL (by omega)
   have hV8:Upd (fun b=>b=R1∨b=rb) w7 w8:=hu8.mono (fun _ h=>.inr h)
   have hU8:Upd (fun b=>b=vb∨b=rb) w1 w8:=hU7.trans' hV8 fun i hi h=>h.elim (fun h=>by omega) .inr
   have hz8:=hV8.size
   have hG8:Glo ev w8:=hG1.updS hU8 aA aB
   obtain ⟨X8,hX8⟩:∃ X:Array Value,X=(A1++(([.string ByteArray.empty,.slice none 0 0,.map none]:List Value)++B1)).toArray:=⟨_,rfl⟩
   have wQ:blk w8 R1=some (X8,86,(0,0)):=by rw [hX8];exact nM
   have C2:j1 * 3+3≤X8.size:=by rw [hX8];simp only [List.size_toArray,List.length_append,List.length_cons,List.length_nil,hA1];omega
   have hst:(rdF (rdP (d+1) ver true) ver true fX6_0 s3).2=(rdStr true s3).2:=by first|(rw [hrd];rfl)|rw [hrd]
   obtain ⟨s4,hs4⟩:∃ s,s=(rdF (rdP (d+1) ver true) ver true fX6_0 s3).2:=⟨_,rfl⟩
   rw [← hst,← hs4] at hq8
   clear hst
   have vO:j1 * 3+1≤X8.size:=by omega
   have tG:X8[j1 * 3+1]? = some (.slice none 0 0):=by rw [hX8];exact el_cell (R:=0) hA1 (Nat.le_of_ble_eq_true rfl)
   repeat ((first|refine qA rfl ?_|apply qB|refine qC rfl ?_|apply qD|apply qE|apply qF|apply qG|apply qH);try simp (disch:=(first|omega|(simp only [qI,qJ,qK]<;>omega)|exact qL _)) only [go_sem,↓reduceIte,n0,reduceCtorEq,n1,n2,n3,n4,n5,i0,i1,i2,i3,i4,i5,i6,i7,wQ,aJ,aK,aM,aN,aH,aI,aF,aO,vO,tG,Array.getElem?_setIfInBounds_ne])
   generalize hw9:wr w8 R1 (j1 * 3) [strV (rdStr true s3).1] = w9
   have hS9:Upd (fun b=>b=R1∨b=rb) w8 w9:=by rw [← hw9];exact (Upd.refl _ _).wr _ _ (.inr (.inl rfl))
   have nN:blk w9 R1=some ((A1++(([strV (rdStr true s3).1,.slice none 0 0,.map none]:List Value)++B1)).toArray,86,(0,0)):=by rw [← hw9];exact el_blk0 nM hA1 (Nat.le_of_ble_eq_true rfl)
   have hV9:=hS9
   have hU9:Upd (fun b=>b=vb∨b=rb) w1 w9:=hU8.trans' hV9 fun i hi h=>h.elim (fun h=>by omega) .inr
   have hz9:=hV9.size
   have hG9:Glo ev w9:=hG1.updS hU9 aA aB
   have hq9:Rdr RT ok w9 rb s4∧NN w9 rb s4:=by
    have hn:∀ x,x=w9→(Rdr RT ok x rb s4∧NN x rb s4):=fun x hx=>by
     rw [hx,← hw9]
     exact Rdr.store hq8 (by omega) (fun h=>by have:=(hok _ h).1;first|omega|exact (hok _ h).2 rfl)
    exact hn _ rfl
   obtain ⟨X9,hX9⟩:∃ X:Array Value,X=(A1++(([strV (rdStr true s3).1,.slice none 0 0,.map none]:List Value)++B1)).toArray:=⟨_,rfl⟩
   have wR:blk w9 R1=some (X9,86,(0,0)):=by rw [hX9];exact nN
   have C3:j1 * 3+3≤X9.size:=by rw [hX9];simp only [List.size_toArray,List.length_append,List.length_cons,List.length_nil,hA1];omega
   clear hw9
   have sX:RepF (RepS true (d+1)) (szS true (d+1)) fX6_0 (fun b=>(ok b∨w1.heap.size≤b)∧¬ ownB va0 b) w9 (xe0_0) [strV (rdStr true s3).1]:=(RepF_text rfl (by decide)).2 (by rw [oA,hrd];rfl)
   clear hrd
   have sO:(rdL (rdP (d+1) ver true) (dfP (d+1)) ver true [fX6_1] s4).2=none→FB:=fun h=>sN (by rw [rdL_st (by decide) lK,← hs4];exact h)
   have lL:hasS fX6_1 ver=true:=hasS_t (by show (0:Int)≤ver;omega) (by show (-1:Int) < 0∨ver≤(-1:Int);omega)
   obtain ⟨xe0_1,oB⟩:∃ x,x=(rdF (rdP (d+1) ver true) ver true fX6_1 s4).1:=⟨_,rfl⟩
   have tH:X9[j1 * 3+1]? = some (.slice none 0 0):=by rw [hX9];exact el_cell (R:=0) hA1 (Nat.le_of_ble_eq_true rfl)
   repeat ((first|refine qA rfl ?_|apply qB|refine qC rfl ?_|apply qD|apply qE|apply qF|apply qG|apply qH);try simp (disch:=(first|omega|(simp only [qI,qJ,qK]<;>omega)|exact qL _)) only [go_sem,↓reduceIte,n0,reduceCtorEq,n1,n2,n3,n4,n5,i0,i1,i2,i3,i4,i5,i6,i7,wR,aJ,aK,aM,aN,aH,aI,aF,aO,tH])
   refine (RCompactArrayLen_fn w9 hq9.1 hrok hG9.1 hgrb).mono ?_
   rintro _ w10 ⟨rfl,dJ,mR⟩
   have nD:=mR.blk_some nN (by omega)
   have eL:Upd (fun b=>b=R1∨b=rb) w9 w10:=mR.mono (fun _ h=>.inr h)
   have eF:Upd (fun b=>b=vb∨b=rb) w1 w10:=hU9.trans' eL fun i hi h=>h.elim (fun h=>by omega) .inr
   have hz10:=eL.size
   have rC:Glo ev w10:=hG1.updS eF aA aB
   obtain ⟨X10,f5⟩:∃ X:Array Value,X=(A1++(([strV (rdStr true s3).1,.slice none 0 0,.map none]:List Value)++B1)).toArray:=⟨_,rfl⟩
   have bR:blk w10 R1=some (X10,86,(0,0)):=by rw [f5];exact nD
   have BD:j1 * 3+3≤X10.size:=by rw [f5];simp only [List.size_toArray,List.length_append,List.length_cons,List.length_nil,hA1];omega
   obtain ⟨s5,hs5⟩:∃ s,s=(rdALen true s4).2:=⟨_,rfl⟩
   rw [← hs5] at dJ
   have DT:=rdALen_rng true s4
   generalize hy1:(rdALen true s4).1=y1 at *
   obtain ⟨N1,hN1⟩:∃ N,N=y1.toNat:=⟨_,rfl⟩
   have lU:(rdMany (rd1 (rdP (d+1) ver true) fX6_1.of fX6_1.sub false true) N1 s5).2=none→FB:=fun h=>sO (by rw [rdL_st (by decide) lL];exact rdL_bad (rdF_listbad rfl (by rw [hy1,← hN1,← hs5];exact h)))
   repeat ((first|refine W.seqR rfl ?_|refine W.seq ?_|refine W.regR rfl ?_|refine W.block ?_|refine W.skip ?_|refine W.ret ?_|refine W.exit ?_);try simp (disch:=(first|omega|(simp only [qI,qJ,qK]<;>omega)|exact qL _)) only [go_sem,↓reduceIte,n0,reduceCtorEq,n1,n2,n3,n4,n5,i0,i1,i2,i3,i4,i5,i6,i7,bR,aJ,aK,aM,aN,aH,aI,aF,aO])
   refine (ROk_fn w10 dJ.1).mono ?_
   rintro _ wz ⟨rfl,hez⟩
   rw [hez]
   clear hez wz
   by_cases fD:s5=none
   ·have hso:s5.isSome=false:=by rw [fD];rfl
    repeat (first|simp (disch:=(first|omega|(simp only [qI,qJ,qK]<;>omega)|exact qL _)) only [go_sem,↓reduceIte,n0,reduceCtorEq,n1,n2,n3,n4,n5,i0,i1,i2,i3,i4,i5,i6,i7,bR,aJ,aK,aM,aN,aH,aI,aF,aO,hso]|refine qA rfl ?_|apply qB|refine qC rfl ?_|apply qD|apply qE|apply qF|apply qG|apply qH)
    refine (RComplete_fn w10 dJ.1 rC.2).mono ?_
    rintro _ wz ⟨rfl,hez⟩
    rw [hez]
    repeat (first|simp (disch:=(first|omega|(simp only [qI,qJ,qK]<;>omega)|exact qL _)) only [go_sem,↓reduceIte,n0,reduceCtorEq,n1,n2,n3,n4,n5,i0,i1,i2,i3,i4,i5,i6,i7,bR,aJ,aK,aM,aN,aH,aI,aF,aO]|refine qA rfl ?_|apply qB|refine qC rfl ?_|apply qD|apply qE|apply qF|apply qG|apply qH)
    rw [errV_none fD]
    exact ReadQ.bad (Eq.mp hFB (lU (by rw [fD];exact rdMany_none rd1P_none _))) (hbase.trans' eF fun i hi h=>h.elim id fun h=>by omega)
   have fH:s5.isSome=true:=isSome_some fD
   try simp (disch:=(first|omega|(simp only [qI,qJ,qK]<;>omega)|exact qL _)) only [go_sem,↓reduceIte,n0,reduceCtorEq,n1,n2,n3,n4,n5,i0,i1,i2,i3,i4,i5,i6,i7,bR,aJ,aK,aM,aN,aH,aI,aF,aO,fH]
   repeat ((first|refine W.seqR rfl ?_|refine W.seq ?_|refine W.regR rfl ?_|refine W.block ?_|refine W.skip ?_|refine W.ret ?_|refine W.exit ?_);try simp (disch:=(first|omega|(simp only [qI,qJ,qK]<;>omega)|exact qL _)) only [go_sem,↓reduceIte,n0,reduceCtorEq,n1,n2,n3,n4,n5,i0,i1,i2,i3,i4,i5,i6,i7,bR,aJ,aK,aM,aN,aH,aI,aF,aO,fH])
   refine W.condK ?_
   try simp (disch:=(first|omega|(simp only [qI,qJ,qK]<;>omega)|exact qL _)) only [go_sem,↓reduceIte,n0,reduceCtorEq,n1,n2,n3,n4,n5,i0,i1,i2,i3,i4,i5,i6,i7,bR,aJ,aK,aM,aN,aH,aI,aF,aO,fH]
   repeat ((first|refine W.seqR rfl ?_|refine W.seq ?_|refine W.regR rfl ?_|refine W.block ?_|refine W.skip ?_|refine W.ret ?_|refine W.exit ?_);try simp (disch:=(first|omega|(simp only [qI,qJ,qK]<;>omega)|exact qL _)) only [go_sem,↓reduceIte,n0,reduceCtorEq,n1,n2,n3,n4,n5,i0,i1,i2,i3,i4,i5,i6,i7,bR,aJ,aK,aM,aN,aH,aI,aF,aO,fH,slBase_00])
   refine W.normJ (RowQ [(2,.bool false),(7,.pointer (some ⟨rb,0,none⟩)),(8,.int .i16 ver),(9,.bool true),(10,.pointer (some ⟨vb,0,none⟩)),(14,.int .i32 y0),(13,.slice (some ⟨R1,0,none⟩) N0 q1),(15,.int .i32 j1),(17,.pointer (some ⟨R1,j1 * 3,none⟩)),(21,.int .i32 y1)] 20 (fun va w'=>LstI RT (rd1 (rdP (d+1) ver true) fX6_1.of fX6_1.sub false true) (Rep1 (RepS true (d+1)) fX6_1.of fX6_1.sub) 6 130 [.int .i32 0,.int .i16 0,.int .i32 0,.int .i32 0,.bool false,.map none] w10.heap.size N1 ok (fun b=>(ok b∨w1.heap.size≤b)∧¬ ownB va0 b) rb w10 s5 va 0 s5 [] [] w'∧(N1=0→if nilS fX6_1 ver y1=true then va = .slice none 0 0 else ∃ a,va = .slice (some a) 0 0))) ?_ ?_
   ·by_cases hy0:(0:Int) < y1
    ·have hyv:Value.int .i32 y1 = .int .i32 ((N1:Nat):Int):=by rw [show y1=((N1:Nat):Int) by omega]
     repeat ((first|refine qA rfl ?_|apply qB|refine qC rfl ?_|apply qD|apply qE|apply qF|apply qG|apply qH);try simp (disch:=(first|omega|(simp only [qI,qJ,qK]<;>omega)|exact qL _)) only [go_sem,↓reduceIte,n0,reduceCtorEq,n1,n2,n3,n4,n5,i0,i1,i2,i3,i4,i5,i6,i7,bR,aJ,aK,aM,aN,aH,aI,aF,aO])
     refine wp_appendZ (m:=N1) utQ_84 utQ_21 inQ_130 (by decide) (by first|rfl|simp (disch:=(first|omega|(simp only [qI,qJ,qK]<;>omega)|exact qL _)) only [go_sem,↓reduceIte,n0,reduceCtorEq,n1,n2,n3,n4,n5,i0,i1,i2,i3,i4,i5,i6,i7,aJ,aK,aM,aN,aH,aI,aF,aO]) (by first|exact hyv|(simp (disch:=(first|omega|(simp only [qI,qJ,qK]<;>omega)|exact qL _)) only [go_sem,↓reduceIte,n0,reduceCtorEq,n1,n2,n3,n4,n5,i0,i1,i2,i3,i4,i5,i6,i7,aJ,aK,aM,aN,aH,aI,aF,aO];exact hyv)) (by omega) (by omega) (by decide) ?_
     intro q rest hq1
     have hEw:Ext w10 (w10.drew.alloc (.cells (zs [.int .i32 0,.int .i16 0,.int .i32 0,.int .i32 0,.bool false,.map none] N1++rest).toArray 130)):=(Upd.refl _ _).drew.alloc _
     repeat (first|simp (disch:=(first|omega|(simp only [qI,qJ,qK]<;>omega)|exact qL _)) only [go_sem,↓reduceIte,n0,reduceCtorEq,n1,n2,n3,n4,n5,i0,i1,i2,i3,i4,i5,i6,i7,bR,aJ,aK,aM,aN,aH,aI,aF,aO]|refine qA rfl ?_|apply qB|refine qC rfl ?_|apply qD|apply qE|apply qF|apply qG|apply qH)
     exact ⟨(by simp (disch:=(first|omega|(simp only [qI,qJ,qK]<;>omega)|exact qL _)) only [go_sem,↓reduceIte,n0,reduceCtorEq,n1,n2,n3,n4,n5,i0,i1,i2,i3,i4,i5,i6,i7,Holds_nil,Holds_cons,aJ,aK,aM,aN,aH,aI,aF,aO]),.slice (some ⟨w10.heap.size,0,none⟩) N1 q,(by simp (disch:=(first|omega|(simp only [qI,qJ,qK]<;>omega)|exact qL _)) only [go_sem,↓reduceIte,n0,reduceCtorEq,n1,n2,n3,n4,n5,i0,i1,i2,i3,i4,i5,i6,i7,aJ,aK,aM,aN,aH,aI,aF,aO]),LstI.start (RowJ.start (by omega) hq1 (by show w10.heap.size≤w10.drew.heap.size;rw [size_drew];omega) (blk_alloc_new rfl)) ⟨dJ.1.upd hEw (fun h=>h) (fun _ _ _ h=>h),dJ.2.upd hEw fun h=>h⟩ (hEw.mono fun _ h=>h.elim),fun h0=>by omega⟩
    ·repeat ((first|refine qA rfl ?_|apply qB|refine qC rfl ?_|apply qD|apply qE|apply qF|apply qG|apply qH);try simp (disch:=(first|omega|(simp only [qI,qJ,qK]<;>omega)|exact qL _)) only [go_sem,↓reduceIte,n0,reduceCtorEq,n1,n2,n3,n4,n5,i0,i1,i2,i3,i4,i5,i6,i7,bR,aJ,aK,aM,aN,aH,aI,aF,aO])
     exact ⟨(by simp (disch:=(first|omega|(simp only [qI,qJ,qK]<;>omega)|exact qL _)) only [go_sem,↓reduceIte,n0,reduceCtorEq,n1,n2,n3,n4,n5,i0,i1,i2,i3,i4,i5,i6,i7,Holds_nil,Holds_cons,aJ,aK,aM,aN,aH,aI,aF,aO]),.slice none 0 0,(by simp (disch:=(first|omega|(simp only [qI,qJ,qK]<;>omega)|exact qL _)) only [go_sem,↓reduceIte,n0,reduceCtorEq,n1,n2,n3,n4,n5,i0,i1,i2,i3,i4,i5,i6,i7,aJ,aK,aM,aN,aH,aI,aF,aO,slBase_00]),LstI.start (RowJ.zero (by omega) (fun _ h=>by cases h)) dJ (Upd.refl _ _),fun _=>by rw [nilS_plain (by decide) (by omega)];exact rfl⟩
   rintro ρ w11 ⟨⟨hY,iA,iB,iC,gY,hC,gZ,hD,hH,hZ,-⟩,va1,aG,hL1,lY⟩
   repeat ((first|refine qA rfl ?_|apply qB|refine qC rfl ?_|apply qD|apply qE|apply qF|apply qG|apply qH);try simp (disch:=(first|omega|(simp only [qI,qJ,qK]<;>omega)|exact qL _)) only [go_sem,↓reduceIte,n0,reduceCtorEq,n1,n2,n3,n4,n5,i0,i1,i2,i3,i4,i5,i6,i7,bR,hY,iA,iB,iC,gY,hC,gZ,hD,hH,hZ,aG])
   refine W.exitRJ 2 (EndQ [(2,.bool false),(7,.pointer (some ⟨rb,0,none⟩)),(8,.int .i16 ver),(9,.bool true),(10,.pointer (some ⟨vb,0,none⟩)),(14,.int .i32 y0),(13,.slice (some ⟨R1,0,none⟩) N0 q1),(15,.int .i32 j1),(17,.pointer (some ⟨R1,j1 * 3,none⟩)),(21,.int .i32 y1),(20,va1)] (fun w'=>∃ s xs css,LstI RT (rd1 (rdP (d+1) ver true) fX6_1.of fX6_1.sub false true) (Rep1 (RepS true (d+1)) fX6_1.of fX6_1.sub) 6 130 [.int .i32 0,.int .i16 0,.int .i32 0,.int .i32 0,.bool false,.map none] w10.heap.size N1 ok (fun b=>(ok b∨w1.heap.size≤b)∧¬ ownB va0 b) rb w10 s5 va1 N1 s xs css w')) (W.loop (LoopQ [(2,.bool false),(7,.pointer (some ⟨rb,0,none⟩)),(8,.int .i16 ver),(9,.bool true),(10,.pointer (some ⟨vb,0,none⟩)),(14,.int .i32 y0),(13,.slice (some ⟨R1,0,none⟩) N0 q1),(15,.int .i32 j1),(17,.pointer (some ⟨R1,j1 * 3,none⟩)),(21,.int .i32 y1),(20,va1)] 22 (fun j w'=>∃ s xs css,LstI RT (rd1 (rdP (d+1) ver true) fX6_1.of fX6_1.sub false true) (Rep1 (RepS true (d+1)) fX6_1.of fX6_1.sub) 6 130 [.int .i32 0,.int .i16 0,.int .i32 0,.int .i32 0,.bool false,.map none] w10.heap.size N1 ok (fun b=>(ok b∨w1.heap.size≤b)∧¬ ownB va0 b) rb w10 s5 va1 j s xs css w')) (fun ρ _=>N1 - (RowKit.intOf (ρ 22)).toNat) ?_ ?_) ?_
   ·exact ⟨(by simp (disch:=(first|omega|(simp only [qI,qJ,qK]<;>omega)|exact qL _)) only [go_sem,↓reduceIte,n0,reduceCtorEq,n1,n2,n3,n4,n5,i0,i1,i2,i3,i4,i5,i6,i7,Holds_nil,Holds_cons,hY,iA,iB,iC,gY,hC,gZ,hD,hH,hZ,aG]),0,(by simp (disch:=(first|omega|(simp only [qI,qJ,qK]<;>omega)|exact qL _)) only [go_sem,↓reduceIte,n0,reduceCtorEq,n1,n2,n3,n4,n5,i0,i1,i2,i3,i4,i5,i6,i7,hY,iA,iB,iC,gY,hC,gZ,hD,hH,hZ,aG];all_goals rfl),s5,[],[],hL1⟩
   ·rintro ρ w12 ⟨⟨a8,aX,aY,aZ,aP,aR,aQ,aT,aV,aW,iN,-⟩,j2,b5,s6,xs1,css1,hL1⟩
    have hj1:=hL1.le
    have m5:=hL1.rd
    have k7:Upd (fun b=>b=vb∨b=rb) w1 w12:=eF.trans' hL1.upd fun i _ h=>.inr h
    have DV:=hL1.upd.size
    have zM:Glo ev w12:=hG1.updS k7 aA aB
    by_cases gP:j2 < N1
    ·obtain ⟨R2,q2,B2,fJ,AN,AM,hA2,fX,m4⟩:=hL1.row.next gP
     have AO:=blk_lt fX
     generalize css1.flatten=A2 at hA2 fX m4
     replace aG:ρ 20 = .slice (some ⟨R2,0,none⟩) N1 q2:=iN.trans fJ
     have hown2:∀ b,ownB va1 b→w10.heap.size≤b∧b < w12.heap.size:=fun b h=>hL1.row.own h
     have dI:∀ b,(fun b=>(fun b=>(ok b∨w1.heap.size≤b)∧¬ ownB va0 b) b∧¬ ownB va1 b) b→¬ (b=R2∨b=rb):=fun b hk h=>h.elim (fun e=>hk.2 ⟨_,_,_,fJ,e⟩) (fun e=>bP b hk.1 (.inr e))
     obtain ⟨X12,kV⟩:∃ X:Array Value,X=(A2++(([.int .i32 0,.int .i16 0,.int .i32 0,.int .i32 0,.bool false,.map none]:List Value)++B2)).toArray:=⟨_,rfl⟩
     have vV:blk w12 R2=some (X12,130,(0,0)):=by rw [kV];exact fX
     have BE:j2 * 6+6≤X12.size:=by rw [kV];simp only [List.size_toArray,List.length_append,List.length_cons,List.length_nil,hA2];omega
     repeat ((first|refine qA rfl ?_|apply qB|refine qC rfl ?_|apply qD|apply qE|apply qF|apply qG|apply qH);try simp (disch:=(first|omega|(simp only [qI,qJ,qK]<;>omega)|exact qL _)) only [go_sem,↓reduceIte,n0,reduceCtorEq,n1,n2,n3,n4,n5,i0,i1,i2,i3,i4,i5,i6,i7,vV,a8,aX,aY,aZ,aP,aR,aQ,aT,aV,aW,aG,b5])
     refine (DefaultEX2_fn w12 fX hA2).mono ?_
     rintro _ w13 ⟨nO,iV⟩
     have u7:=And.intro (m5.1.upd iV (by omega) (fun b _ hk e=>by have:=(hok b hk).1;omega)) (m5.2.upd iV (by omega))
     have eM:Upd (fun b=>b=R2∨b=rb) w12 w13:=iV.mono (fun _ h=>.inl h)
     have k9:Upd (fun b=>b=vb∨b=rb) w1 w13:=k7.trans' eM fun i hi h=>h.elim (fun h=>by omega) .inr
     have DW:=eM.size
     have rD:Glo ev w13:=hG1.updS k9 aA aB
     obtain ⟨X13,kW⟩:∃ X:Array Value,X=(A2++(([.int .i32 0,.int .i16 0,.int .i32 0,.int .i32 0,.bool false,.map none]:List Value)++B2)).toArray:=⟨_,rfl⟩
     have vW:blk w13 R2=some (X13,130,(0,0)):=by rw [kW];exact nO
     have BF:j2 * 6+6≤X13.size:=by rw [kW];simp only [List.size_toArray,List.length_append,List.length_cons,List.length_nil,hA2];omega
     have sQ:(rdL (rdP d ver true) (dfP d) ver true [fX2_0,fX2_1,fX2_2,fX2_3,fX2_4] s6).2=none→FB:=fun h=>lU (hL1.bad gP rd1P_none (by show (rd1 (rdP (d+1) ver true) 10 fs_X2 false true s6).2=none;rw [rd1_part];exact rdP_bad h))
     have lM:hasS fX2_0 ver=true:=hasS_t (by show (0:Int)≤ver;omega) (by show (-1:Int) < 0∨ver≤(-1:Int);omega)
     obtain ⟨xe0e1_0,oC⟩:∃ x,x=(rdF (rdP d ver true) ver true fX2_0 s6).1:=⟨_,rfl⟩
     repeat ((first|refine qA rfl ?_|apply qB|refine qC rfl ?_|apply qD|apply qE|apply qF|apply qG|apply qH);try simp (disch:=(first|omega|(simp only [qI,qJ,qK]<;>omega)|exact qL _)) only [go_sem,↓reduceIte,n0,reduceCtorEq,n1,n2,n3,n4,n5,i0,i1,i2,i3,i4,i5,i6,i7,vW,a8,aX,aY,aZ,aP,aR,aQ,aT,aV,aW,aG,b5])
     have hrd:rdF (rdP d ver true) ver true fX2_0 s6=_:=rdF_num 3 rfl (by decide)
     refine (Int32_fn w13 u7.1 hrok rD.1 hgrb).mono ?_
     rintro _ w14 ⟨rfl,m6,mS⟩
     have nP:=mS.blk_some nO (by omega)
     have eN:Upd (fun b=>b=R2∨b=rb) w13 w14:=mS.mono (fun _ h=>.inr h)
     have kA:Upd (fun b=>b=vb∨b=rb) w1 w14:=k9.trans' eN fun i hi h=>h.elim (fun h=>by omega) .inr
     have DX:=eN.size
     have zN:Glo ev w14:=hG1.updS kA aA aB
     obtain ⟨X14,kX⟩:∃ X:Array Value,X=(A2++(([.int .i32 0,.int .i16 0,.int .i32 0,.int .i32 0,.bool false,.map none]:List Value)++B2)).toArray:=⟨_,rfl⟩
     have vX:blk w14 R2=some (X14,130,(0,0)):=by rw [kX];exact nP
     have BG:j2 * 6+6≤X14.size:=by rw [kX];simp only [List.size_toArray,List.length_append,List.length_cons,List.length_nil,hA2];omega
     have hst:(rdF (rdP d ver true) ver true fX2_0 s6).2=(rdInt .i32 4 s6).2:=by first|(rw [hrd];rfl)|rw [hrd]
     obtain ⟨s7,hs7⟩:∃ s,s=(rdF (rdP d ver true) ver true fX2_0 s6).2:=⟨_,rfl⟩
     rw [← hst,← hs7] at m6
     clear hst
     have vF:j2 * 6+1≤X14.size:=by omega
     repeat ((first|refine qA rfl ?_|apply qB|refine qC rfl ?_|apply qD|apply qE|apply qF|apply qG|apply qH);try simp (disch:=(first|omega|(simp only [qI,qJ,qK]<;>omega)|exact qL _)) only [go_sem,↓reduceIte,n0,reduceCtorEq,n1,n2,n3,n4,n5,i0,i1,i2,i3,i4,i5,i6,i7,vX,a8,aX,aY,aZ,aP,aR,aQ,aT,aV,aW,aG,b5,vF])
     generalize fK:wr w14 R2 (j2 * 6) [.int .i32 (rdInt .i32 4 s6).1] = w15
     have jZ:Upd (fun b=>b=R2∨b=rb) w14 w15:=by rw [← fK];exact (Upd.refl _ _).wr _ _ (.inr (.inl rfl))
     have nQ:blk w15 R2=some ((A2++(([.int .i32 (rdInt .i32 4 s6).1,.int .i16 0,.int .i32 0,.int .i32 0,.bool false,.map none]:List Value)++B2)).toArray,130,(0,0)):=by rw [← fK];exact el_blk0 nP hA2 (Nat.le_of_ble_eq_true rfl)
     have eO:=jZ
     have kB:Upd (fun b=>b=vb∨b=rb) w1 w15:=kA.trans' eO fun i hi h=>h.elim (fun h=>by omega) .inr
     have DY:=eO.size
     have rE:Glo ev w15:=hG1.updS kB aA aB
     have u9:Rdr RT ok w15 rb s7∧NN w15 rb s7:=by
      have hn:∀ x,x=w15→(Rdr RT ok x rb s7∧NN x rb s7):=fun x hx=>by
       rw [hx,← fK]
       exact Rdr.store m6 (by omega) (fun h=>by have:=(hok _ h).1;first|omega|exact (hok _ h).2 rfl)
      exact hn _ rfl
     obtain ⟨X15,kY⟩:∃ X:Array Value,X=(A2++(([.int .i32 (rdInt .i32 4 s6).1,.int .i16 0,.int .i32 0,.int .i32 0,.bool false,.map none]:List Value)++B2)).toArray:=⟨_,rfl⟩
     have vY:blk w15 R2=some (X15,130,(0,0)):=by rw [kY];exact nQ
     have BH:j2 * 6+6≤X15.size:=by rw [kY];simp only [List.size_toArray,List.length_append,List.length_cons,List.length_nil,hA2];omega
     clear fK
     have sZ:RepF (RepS true d) (szS true d) fX2_0 (fun b=>(fun b=>(ok b∨w1.heap.size≤b)∧¬ ownB va0 b) b∧¬ ownB va1 b) w15 (xe0e1_0) [.int .i32 (rdInt .i32 4 s6).1]:=(RepF_num (by decide)).2 (by rw [oC,hrd];exact congrArg (fun x=>[x]) (numC_rd 3 (by decide) 4 s6).symm)
     clear hrd
     have sR:(rdL (rdP d ver true) (dfP d) ver true [fX2_1,fX2_2,fX2_3,fX2_4] s7).2=none→FB:=fun h=>sQ (by rw [rdL_st (by decide) lM,← hs7];exact h)
     have lN:hasS fX2_1 ver=true:=hasS_t (by show (0:Int)≤ver;omega) (by show (-1:Int) < 0∨ver≤(-1:Int);omega)
     obtain ⟨xe0e1_1,oD⟩:∃ x,x=(rdF (rdP d ver true) ver true fX2_1 s7).1:=⟨_,rfl⟩
     repeat ((first|refine qA rfl ?_|apply qB|refine qC rfl ?_|apply qD|apply qE|apply qF|apply qG|apply qH);try simp (disch:=(first|omega|(simp only [qI,qJ,qK]<;>omega)|exact qL _)) only [go_sem,↓reduceIte,n0,reduceCtorEq,n1,n2,n3,n4,n5,i0,i1,i2,i3,i4,i5,i6,i7,vY,a8,aX,aY,aZ,aP,aR,aQ,aT,aV,aW,aG,b5])
     have hrd:rdF (rdP d ver true) ver true fX2_1 s7=_:=rdF_num 2 rfl (by decide)
     refine (Int16_fn w15 u9.1 hrok rE.1 hgrb).mono ?_
     rintro _ w16 ⟨rfl,m7,mT⟩
     have nR:=mT.blk_some nQ (by omega)
     have dK:Upd (fun b=>b=R2∨b=rb) w15 w16:=mT.mono (fun _ h=>.inr h)
     have eG:Upd (fun b=>b=vb∨b=rb) w1 w16:=kB.trans' dK fun i hi h=>h.elim (fun h=>by omega) .inr
     have z7:=dK.size
     have zO:Glo ev w16:=hG1.updS eG aA aB
     obtain ⟨X16,gJ⟩:∃ X:Array Value,X=(A2++(([.int .i32 (rdInt .i32 4 s6).1,.int .i16 0,.int .i32 0,.int .i32 0,.bool false,.map none]:List Value)++B2)).toArray:=⟨_,rfl⟩
     have vZ:blk w16 R2=some (X16,130,(0,0)):=by rw [gJ];exact nR
     have BI:j2 * 6+6≤X16.size:=by rw [gJ];simp only [List.size_toArray,List.length_append,List.length_cons,List.length_nil,hA2];omega
     have hst:(rdF (rdP d ver true) ver true fX2_1 s7).2=(rdInt .i16 2 s7).2:=by first|(rw [hrd];rfl)|rw [hrd]
     obtain ⟨s8,hs8⟩:∃ s,s=(rdF (rdP d ver true) ver true fX2_1 s7).2:=⟨_,rfl⟩
     rw [← hst,← hs8] at m7
     clear hst
     have vG:j2 * 6+2≤X16.size:=by omega
     repeat ((first|refine qA rfl ?_|apply qB|refine qC rfl ?_|apply qD|apply qE|apply qF|apply qG|apply qH);try simp (disch:=(first|omega|(simp only [qI,qJ,qK]<;>omega)|exact qL _)) only [go_sem,↓reduceIte,n0,reduceCtorEq,n1,n2,n3,n4,n5,i0,i1,i2,i3,i4,i5,i6,i7,vZ,a8,aX,aY,aZ,aP,aR,aQ,aT,aV,aW,aG,b5,vG])
     generalize dF:wr w16 R2 (j2 * 6+1) [.int .i16 (rdInt .i16 2 s7).1] = w17
     have rS:Upd (fun b=>b=R2∨b=rb) w16 w17:=by rw [← dF];exact (Upd.refl _ _).wr _ _ (.inr (.inl rfl))
     have nS:blk w17 R2=some ((A2++(([.int .i32 (rdInt .i32 4 s6).1,.int .i16 (rdInt .i16 2 s7).1,.int .i32 0,.int .i32 0,.bool false,.map none]:List Value)++B2)).toArray,130,(0,0)):=by rw [← dF];exact el_blk (o:=1) nR hA2 (Nat.le_of_ble_eq_true rfl)
     have cR:=rS
     have dG:Upd (fun b=>b=vb∨b=rb) w1 w17:=eG.trans' cR fun i hi h=>h.elim (fun h=>by omega) .inr
     have iX:=cR.size
     have rF:Glo ev w17:=hG1.updS dG aA aB
     have uA:Rdr RT ok w17 rb s8∧NN w17 rb s8:=by
      have hn:∀ x,x=w17→(Rdr RT ok x rb s8∧NN x rb s8):=fun x hx=>by
       rw [hx,← dF]
       exact Rdr.store m7 (by omega) (fun h=>by have:=(hok _ h).1;first|omega|exact (hok _ h).2 rfl)
      exact hn _ rfl
     obtain ⟨X17,dU⟩:∃ X:Array Value,X=(A2++(([.int .i32 (rdInt .i32 4 s6).1,.int .i16 (rdInt .i16 2 s7).1,.int .i32 0,.int .i32 0,.bool false,.map none]:List Value)++B2)).toArray:=⟨_,rfl⟩
     have wA:blk w17 R2=some (X17,130,(0,0)):=by rw [dU];exact nS
     have BJ:j2 * 6+6≤X17.size:=by rw [dU];simp only [List.size_toArray,List.length_append,List.length_cons,List.length_nil,hA2];omega
     clear dF
     have t1:RepF (RepS true d) (szS true d) fX2_1 (fun b=>(fun b=>(ok b∨w1.heap.size≤b)∧¬ ownB va0 b) b∧¬ ownB va1 b) w17 (xe0e1_1) [.int .i16 (rdInt .i16 2 s7).1]:=(RepF_num (by decide)).2 (by rw [oD,hrd];exact congrArg (fun x=>[x]) (numC_rd 2 (by decide) 2 s7).symm)
     clear hrd
     have sS:(rdL (rdP d ver true) (dfP d) ver true [fX2_2,fX2_3,fX2_4] s8).2=none→FB:=fun h=>sR (by rw [rdL_st (by decide) lN,← hs8];exact h)
     have lO:hasS fX2_2 ver=true:=hasS_t (by show (0:Int)≤ver;omega) (by show (-1:Int) < 0∨ver≤(-1:Int);omega)
     obtain ⟨xe0e1_2,oE⟩:∃ x,x=(rdF (rdP d ver true) ver true fX2_2 s8).1:=⟨_,rfl⟩
     repeat ((first|refine qA rfl ?_|apply qB|refine qC rfl ?_|apply qD|apply qE|apply qF|apply qG|apply qH);try simp (disch:=(first|omega|(simp only [qI,qJ,qK]<;>omega)|exact qL _)) only [go_sem,↓reduceIte,n0,reduceCtorEq,n1,n2,n3,n4,n5,i0,i1,i2,i3,i4,i5,i6,i7,wA,a8,aX,aY,aZ,aP,aR,aQ,aT,aV,aW,aG,b5])
     have hrd:rdF (rdP d ver true) ver true fX2_2 s8=_:=rdF_num 3 rfl (by decide)
     refine (Int32_fn w17 uA.1 hrok rF.1 hgrb).mono ?_
     rintro _ w18 ⟨rfl,m8,mU⟩
     have nT:=mU.blk_some nS (by omega)
     have dL:Upd (fun b=>b=R2∨b=rb) w17 w18:=mU.mono (fun _ h=>.inr h)
     have eH:Upd (fun b=>b=vb∨b=rb) w1 w18:=dG.trans' dL fun i hi h=>h.elim (fun h=>by omega) .inr
     have wS:=dL.size
     have zP:Glo ev w18:=hG1.updS eH aA aB
     obtain ⟨X18,dV⟩:∃ X:Array Value,X=(A2++(([.int .i32 (rdInt .i32 4 s6).1,.int .i16 (rdInt .i16 2 s7).1,.int .i32 0,.int .i32 0,.bool false,.map none]:List Value)++B2)).toArray:=⟨_,rfl⟩
     have wB:blk w18 R2=some (X18,130,(0,0)):=by rw [dV];exact nT
     have BK:j2 * 6+6≤X18.size:=by rw [dV];simp only [List.size_toArray,List.length_append,List.length_cons,List.length_nil,hA2];omega
     have hst:(rdF (rdP d ver true) ver true fX2_2 s8).2=(rdInt .i32 4 s8).2:=by first|(rw [hrd];rfl)|rw [hrd]
     obtain ⟨s9,hs9⟩:∃ s,s=(rdF (rdP d ver true) ver true fX2_2 s8).2:=⟨_,rfl⟩
     rw [← hst,← hs9] at m8
     clear hst
     have vH:j2 * 6+3≤X18.size:=by omega
     repeat ((first|refine qA rfl ?_|apply qB|refine qC rfl ?_|apply qD|apply qE|apply qF|apply qG|apply qH);try simp (disch:=(first|omega|(simp only [qI,qJ,qK]<;>omega)|exact qL _)) only [go_sem,↓reduceIte,n0,reduceCtorEq,n1,n2,n3,n4,n5,i0,i1,i2,i3,i4,i5,i6,i7,wB,a8,aX,aY,aZ,aP,aR,aQ,aT,aV,aW,aG,b5,vH])
     generalize fM:wr w18 R2 (j2 * 6+2) [.int .i32 (rdInt .i32 4 s8).1] = w19
     have rT:Upd (fun b=>b=R2∨b=rb) w18 w19:=by rw [← fM];exact (Upd.refl _ _).wr _ _ (.inr (.inl rfl))
     have nU:blk w19 R2=some ((A2++(([.int .i32 (rdInt .i32 4 s6).1,.int .i16 (rdInt .i16 2 s7).1,.int .i32 (rdInt .i32 4 s8).1,.int .i32 0,.bool false,.map none]:List Value)++B2)).toArray,130,(0,0)):=by rw [← fM];exact el_blk (o:=2) nT hA2 (Nat.le_of_ble_eq_true rfl)
     have dM:=rT
     have eI:Upd (fun b=>b=vb∨b=rb) w1 w19:=eH.trans' dM fun i hi h=>h.elim (fun h=>by omega) .inr
     have z8:=dM.size
     have rG:Glo ev w19:=hG1.updS eI aA aB
     have uC:Rdr RT ok w19 rb s9∧NN w19 rb s9:=by
      have hn:∀ x,x=w19→(Rdr RT ok x rb s9∧NN x rb s9):=fun x hx=>by
       rw [hx,← fM]
       exact Rdr.store m8 (by omega) (fun h=>by have:=(hok _ h).1;first|omega|exact (hok _ h).2 rfl)
      exact hn _ rfl
     obtain ⟨X19,dW⟩:∃ X:Array Value,X=(A2++(([.int .i32 (rdInt .i32 4 s6).1,.int .i16 (rdInt .i16 2 s7).1,.int .i32 (rdInt .i32 4 s8).1,.int .i32 0,.bool false,.map none]:List Value)++B2)).toArray:=⟨_,rfl⟩
     have wC:blk w19 R2=some (X19,130,(0,0)):=by rw [dW];exact nU
     have BL:j2 * 6+6≤X19.size:=by rw [dW];simp only [List.size_toArray,List.length_append,List.length_cons,List.length_nil,hA2];omega
     clear fM
     have t2:RepF (RepS true d) (szS true d) fX2_2 (fun b=>(fun b=>(ok b∨w1.heap.size≤b)∧¬ ownB va0 b) b∧¬ ownB va1 b) w19 (xe0e1_2) [.int .i32 (rdInt .i32 4 s8).1]:=(RepF_num (by decide)).2 (by rw [oE,hrd];exact congrArg (fun x=>[x]) (numC_rd 3 (by decide) 4 s8).symm)
     clear hrd
     have sU:(rdL (rdP d ver true) (dfP d) ver true [fX2_3,fX2_4] s9).2=none→FB:=fun h=>sS (by rw [rdL_st (by decide) lO,← hs9];exact h)
     have lP:hasS fX2_3 ver=true:=hasS_t (by show (0:Int)≤ver;omega) (by show (-1:Int) < 0∨ver≤(-1:Int);omega)
     obtain ⟨xe0e1_3,oF⟩:∃ x,x=(rdF (rdP d ver true) ver true fX2_3 s9).1:=⟨_,rfl⟩
     repeat ((first|refine qA rfl ?_|apply qB|refine qC rfl ?_|apply qD|apply qE|apply qF|apply qG|apply qH);try simp (disch:=(first|omega|(simp only [qI,qJ,qK]<;>omega)|exact qL _)) only [go_sem,↓reduceIte,n0,reduceCtorEq,n1,n2,n3,n4,n5,i0,i1,i2,i3,i4,i5,i6,i7,wC,a8,aX,aY,aZ,aP,aR,aQ,aT,aV,aW,aG,b5])
     have hrd:rdF (rdP d ver true) ver true fX2_3 s9=_:=rdF_num 3 rfl (by decide)
     refine (Int32_fn w19 uC.1 hrok rG.1 hgrb).mono ?_
     rintro _ w20 ⟨rfl,m9,mV⟩
     have nV:=mV.blk_some nU (by omega)
     have eP:Upd (fun b=>b=R2∨b=rb) w19 w20:=mV.mono (fun _ h=>.inr h)
     have kC:Upd (fun b=>b=vb∨b=rb) w1 w20:=eI.trans' eP fun i hi h=>h.elim (fun h=>by omega) .inr
     have DZ:=eP.size
     have zQ:Glo ev w20:=hG1.updS kC aA aB
     obtain ⟨X20,kZ⟩:∃ X:Array Value,X=(A2++(([.int .i32 (rdInt .i32 4 s6).1,.int .i16 (rdInt .i16 2 s7).1,.int .i32 (rdInt .i32 4 s8).1,.int .i32 0,.bool false,.map none]:List Value)++B2)).toArray:=⟨_,rfl⟩
     have wD:blk w20 R2=some (X20,130,(0,0)):=by rw [kZ];exact nV
     have BM:j2 * 6+6≤X20.size:=by rw [kZ];simp only [List.size_toArray,List.length_append,List.length_cons,List.length_nil,hA2];omega
     have hst:(rdF (rdP d ver true) ver true fX2_3 s9).2=(rdInt .i32 4 s9).2:=by first|(rw [hrd];rfl)|rw [hrd]
     obtain ⟨s10,iP⟩:∃ s,s=(rdF (rdP d ver true) ver true fX2_3 s9).2:=⟨_,rfl⟩
     rw [← hst,← iP] at m9
     clear hst
     have vI:j2 * 6+4≤X20.size:=by omega
     repeat ((first|refine qA rfl ?_|apply qB|refine qC rfl ?_|apply qD|apply qE|apply qF|apply qG|apply qH);try simp (disch:=(first|omega|(simp only [qI,qJ,qK]<;>omega)|exact qL _)) only [go_sem,↓reduceIte,n0,reduceCtorEq,n1,n2,n3,n4,n5,i0,i1,i2,i3,i4,i5,i6,i7,wD,a8,aX,aY,aZ,aP,aR,aQ,aT,aV,aW,aG,b5,vI])
     generalize fN:wr w20 R2 (j2 * 6+3) [.int .i32 (rdInt .i32 4 s9).1] = w21
     have rU:Upd (fun b=>b=R2∨b=rb) w20 w21:=by rw [← fN];exact (Upd.refl _ _).wr _ _ (.inr (.inl rfl))
     have nW:blk w21 R2=some ((A2++(([.int .i32 (rdInt .i32 4 s6).1,.int .i16 (rdInt .i16 2 s7).1,.int .i32 (rdInt .i32 4 s8).1,.int .i32 (rdInt .i32 4 s9).1,.bool false,.map none]:List Value)++B2)).toArray,130,(0,0)):=by rw [← fN];exact el_blk (o:=3) nV hA2 (Nat.le_of_ble_eq_true rfl)
     have eQ:=rU
     have kD:Upd (fun b=>b=vb∨b=rb) w1 w21:=kC.trans' eQ fun i hi h=>h.elim (fun h=>by omega) .inr
     have E0:=eQ.size
     have zR:Glo ev w21:=hG1.updS kD aA aB
     have uD:Rdr RT ok w21 rb s10∧NN w21 rb s10:=by
      have hn:∀ x,x=w21→(Rdr RT ok x rb s10∧NN x rb s10):=fun x hx=>by
       rw [hx,← fN]
       exact Rdr.store m9 (by omega) (fun h=>by have:=(hok _ h).1;first|omega|exact (hok _ h).2 rfl)
      exact hn _ rfl
     obtain ⟨X21,l0⟩:∃ X:Array Value,X=(A2++(([.int .i32 (rdInt .i32 4 s6).1,.int .i16 (rdInt .i16 2 s7).1,.int .i32 (rdInt .i32 4 s8).1,.int .i32 (rdInt .i32 4 s9).1,.bool false,.map none]:List Value)++B2)).toArray:=⟨_,rfl⟩
     have wE:blk w21 R2=some (X21,130,(0,0)):=by rw [l0];exact nW
     have BN:j2 * 6+6≤X21.size:=by rw [l0];simp only [List.size_toArray,List.length_append,List.length_cons,List.length_nil,hA2];omega
     clear fN
     have t6:RepF (RepS true d) (szS true d) fX2_3 (fun b=>(fun b=>(ok b∨w1.heap.size≤b)∧¬ ownB va0 b) b∧¬ ownB va1 b) w21 (xe0e1_3) [.int .i32 (rdInt .i32 4 s9).1]:=(RepF_num (by decide)).2 (by rw [oF,hrd];exact congrArg (fun x=>[x]) (numC_rd 3 (by decide) 4 s9).symm)
     clear hrd
     have C6:(rdL (rdP d ver true) (dfP d) ver true [fX2_4] s10).2=none→FB:=fun h=>sU (by rw [rdL_st (by decide) lP,← iP];exact h)
     have tD:hasS fX2_4 ver=true:=hasS_t (by show (0:Int)≤ver;omega) (by show (-1:Int) < 0∨ver≤(-1:Int);omega)
     obtain ⟨xe0e1_4,oG⟩:∃ x,x=(rdF (rdP d ver true) ver true fX2_4 s10).1:=⟨_,rfl⟩
     repeat ((first|refine qA rfl ?_|apply qB|refine qC rfl ?_|apply qD|apply qE|apply qF|apply qG|apply qH);try simp (disch:=(first|omega|(simp only [qI,qJ,qK]<;>omega)|exact qL _)) only [go_sem,↓reduceIte,n0,reduceCtorEq,n1,n2,n3,n4,n5,i0,i1,i2,i3,i4,i5,i6,i7,wE,a8,aX,aY,aZ,aP,aR,aQ,aT,aV,aW,aG,b5])
     have hrd:rdF (rdP d ver true) ver true fX2_4 s10=_:=rdF_bool rfl
     refine (Bool_fn w21 uD.1 hrok).mono ?_
     rintro _ w22 ⟨rfl,mA,mW⟩
     have nX:=mW.blk_some nW (by omega)
     have eR:Upd (fun b=>b=R2∨b=rb) w21 w22:=mW.mono (fun _ h=>.inr h)
     have kE:Upd (fun b=>b=vb∨b=rb) w1 w22:=kD.trans' eR fun i hi h=>h.elim (fun h=>by omega) .inr
     have E1:=eR.size
     have zS:Glo ev w22:=hG1.updS kE aA aB
     obtain ⟨X22,l4⟩:∃ X:Array Value,X=(A2++(([.int .i32 (rdInt .i32 4 s6).1,.int .i16 (rdInt .i16 2 s7).1,.int .i32 (rdInt .i32 4 s8).1,.int .i32 (rdInt .i32 4 s9).1,.bool false,.map none]:List Value)++B2)).toArray:=⟨_,rfl⟩
     have wF:blk w22 R2=some (X22,130,(0,0)):=by rw [l4];exact nX
     have BO:j2 * 6+6≤X22.size:=by rw [l4];simp only [List.size_toArray,List.length_append,List.length_cons,List.length_nil,hA2];omega
     have hst:(rdF (rdP d ver true) ver true fX2_4 s10).2=(rdN 1 s10).2:=by first|(rw [hrd];rfl)|rw [hrd]
     obtain ⟨s11,mK⟩:∃ s,s=(rdF (rdP d ver true) ver true fX2_4 s10).2:=⟨_,rfl⟩
     rw [← hst,← mK] at mA
     clear hst
     have vJ:j2 * 6+5≤X22.size:=by omega
     repeat ((first|refine qA rfl ?_|apply qB|refine qC rfl ?_|apply qD|apply qE|apply qF|apply qG|apply qH);try simp (disch:=(first|omega|(simp only [qI,qJ,qK]<;>omega)|exact qL _)) only [go_sem,↓reduceIte,n0,reduceCtorEq,n1,n2,n3,n4,n5,i0,i1,i2,i3,i4,i5,i6,i7,wF,a8,aX,aY,aZ,aP,aR,aQ,aT,aV,aW,aG,b5,vJ])
     generalize fO:wr w22 R2 (j2 * 6+4) [.bool (!decide (beN (rdN 1 s10).1=0))] = w23
     have rV:Upd (fun b=>b=R2∨b=rb) w22 w23:=by rw [← fO];exact (Upd.refl _ _).wr _ _ (.inr (.inl rfl))
     have nY:blk w23 R2=some ((A2++(([.int .i32 (rdInt .i32 4 s6).1,.int .i16 (rdInt .i16 2 s7).1,.int .i32 (rdInt .i32 4 s8).1,.int .i32 (rdInt .i32 4 s9).1,.bool (!decide (beN (rdN 1 s10).1=0)),.map none]:List Value)++B2)).toArray,130,(0,0)):=by rw [← fO];exact el_blk (o:=4) nX hA2 (Nat.le_of_ble_eq_true rfl)
     have eS:=rV
     have kF:Upd (fun b=>b=vb∨b=rb) w1 w23:=kE.trans' eS fun i hi h=>h.elim (fun h=>by omega) .inr
     have E2:=eS.size
     have zT:Glo ev w23:=hG1.updS kF aA aB
     have uE:Rdr RT ok w23 rb s11∧NN w23 rb s11:=by
      have hn:∀ x,x=w23→(Rdr RT ok x rb s11∧NN x rb s11):=fun x hx=>by
       rw [hx,← fO]
       exact Rdr.store mA (by omega) (fun h=>by have:=(hok _ h).1;first|omega|exact (hok _ h).2 rfl)
      exact hn _ rfl
     obtain ⟨X23,f7⟩:∃ X:Array Value,X=(A2++(([.int .i32 (rdInt .i32 4 s6).1,.int .i16 (rdInt .i16 2 s7).1,.int .i32 (rdInt .i32 4 s8).1,.int .i32 (rdInt .i32 4 s9).1,.bool (!decide (beN (rdN 1 s10).1=0)),.map none]:List Value)++B2)).toArray:=⟨_,rfl⟩
     have wG:blk w23 R2=some (X23,130,(0,0)):=by rw [f7];exact nY
     have BP:j2 * 6+6≤X23.size:=by rw [f7];simp only [List.size_toArray,List.length_append,List.length_cons,List.length_nil,hA2];omega
     clear fO
     have t7:RepF (RepS true d) (szS true d) fX2_4 (fun b=>(fun b=>(ok b∨w1.heap.size≤b)∧¬ ownB va0 b) b∧¬ ownB va1 b) w23 (xe0e1_4) [.bool (!decide (beN (rdN 1 s10).1=0))]:=(RepF_num (by decide)).2 (by rw [oG,hrd];exact congrArg (fun x=>[x]) (numC_bool _).symm)
     clear hrd
     have tQ:rdL (rdP d ver true) (dfP d) ver true [] s11=([],s11):=rfl
     have tP:rdL (rdP d ver true) (dfP d) ver true [fX2_4] s10=([xe0e1_4],s11):=by rw [rdL_st (by decide) tD,← oG,← mK,tQ]
     have tO:rdL (rdP d ver true) (dfP d) ver true [fX2_3,fX2_4] s9=([xe0e1_3,xe0e1_4],s11):=by rw [rdL_st (by decide) lP,← oF,← iP,tP]
     have tN:rdL (rdP d ver true) (dfP d) ver true [fX2_2,fX2_3,fX2_4] s8=([xe0e1_2,xe0e1_3,xe0e1_4],s11):=by rw [rdL_st (by decide) lO,← oE,← hs9,tO]
     have tM:rdL (rdP d ver true) (dfP d) ver true [fX2_1,fX2_2,fX2_3,fX2_4] s7=([xe0e1_1,xe0e1_2,xe0e1_3,xe0e1_4],s11):=by rw [rdL_st (by decide) lN,← oD,← hs8,tN]
     have tL:rdL (rdP d ver true) (dfP d) ver true [fX2_0,fX2_1,fX2_2,fX2_3,fX2_4] s6=([xe0e1_0,xe0e1_1,xe0e1_2,xe0e1_3,xe0e1_4],s11):=by rw [rdL_st (by decide) lM,← oC,← hs7,tM]
     have lH:rdP (d+1) ver true fs_X2 s6=(.mk 0 [] false [xe0e1_0,xe0e1_1,xe0e1_2,xe0e1_3,xe0e1_4] (rdTags s11).1,(rdTags s11).2):=rdP_t tL
     repeat ((first|refine qA rfl ?_|apply qB|refine qC rfl ?_|apply qD|apply qE|apply qF|apply qG|apply qH);try simp (disch:=(first|omega|(simp only [qI,qJ,qK]<;>omega)|exact qL _)) only [go_sem,↓reduceIte,n0,reduceCtorEq,n1,n2,n3,n4,n5,i0,i1,i2,i3,i4,i5,i6,i7,wG,a8,aX,aY,aZ,aP,aR,aQ,aT,aV,aW,aG,b5])
     refine (ReadTags_fn w23 uE.1 hrok).mono ?_
     rintro _ w24 ⟨qme0e1,rfl,jG,hTn,mB,mX⟩
     have nZ:=mX.blk_some nY (by omega)
     have eU:Upd (fun b=>b=R2∨b=rb) w23 w24:=mX.mono (fun _ h=>.inr h)
     have kG:Upd (fun b=>b=vb∨b=rb) w1 w24:=kF.trans' eU fun i hi h=>h.elim (fun h=>by omega) .inr
     have E3:=eU.size
     have zU:Glo ev w24:=hG1.updS kG aA aB
     obtain ⟨X24,l5⟩:∃ X:Array Value,X=(A2++(([.int .i32 (rdInt .i32 4 s6).1,.int .i16 (rdInt .i16 2 s7).1,.int .i32 (rdInt .i32 4 s8).1,.int .i32 (rdInt .i32 4 s9).1,.bool (!decide (beN (rdN 1 s10).1=0)),.map none]:List Value)++B2)).toArray:=⟨_,rfl⟩
     have wH:blk w24 R2=some (X24,130,(0,0)):=by rw [l5];exact nZ
     have BQ:j2 * 6+6≤X24.size:=by rw [l5];simp only [List.size_toArray,List.length_append,List.length_cons,List.length_nil,hA2];omega
     obtain ⟨s12,uX⟩:∃ s,s=(rdTags s11).2:=⟨_,rfl⟩
     rw [← uX] at mB lH
     have vK:j2 * 6+6≤X24.size:=by omega
     repeat (first|simp (disch:=(first|omega|(simp only [qI,qJ,qK]<;>omega)|exact qL _)) only [go_sem,↓reduceIte,n0,reduceCtorEq,n1,n2,n3,n4,n5,i0,i1,i2,i3,i4,i5,i6,i7,wH,a8,aX,aY,aZ,aP,aR,aQ,aT,aV,aW,aG,b5,vK]|refine qA rfl ?_|apply qB|refine qC rfl ?_|apply qD|apply qE|apply qF|apply qG|apply qH)
     generalize fP:wr w24 R2 (j2 * 6+5) [.map qme0e1] = w25
     have rW:Upd (fun b=>b=R2∨b=rb) w24 w25:=by rw [← fP];exact (Upd.refl _ _).wr _ _ (.inr (.inl rfl))
     have o7:blk w25 R2=some ((A2++(([.int .i32 (rdInt .i32 4 s6).1,.int .i16 (rdInt .i16 2 s7).1,.int .i32 (rdInt .i32 4 s8).1,.int .i32 (rdInt .i32 4 s9).1,.bool (!decide (beN (rdN 1 s10).1=0)),.map qme0e1]:List Value)++B2)).toArray,130,(0,0)):=by rw [← fP];exact el_blk (o:=5) nZ hA2 (Nat.le_of_ble_eq_true rfl)
     have dR:=rW
     have sI:Upd (fun b=>b=vb∨b=rb) w1 w25:=kG.trans' dR fun i hi h=>h.elim (fun h=>by omega) .inr
     have E4:=dR.size
     have zV:Glo ev w25:=hG1.updS sI aA aB
     have uF:Rdr RT ok w25 rb s12∧NN w25 rb s12:=by
      have hn:∀ x,x=w25→(Rdr RT ok x rb s12∧NN x rb s12):=fun x hx=>by
       rw [hx,← fP]
       exact Rdr.store mB (by omega) (fun h=>by have:=(hok _ h).1;first|omega|exact (hok _ h).2 rfl)
      exact hn _ rfl
     obtain ⟨X25,l6⟩:∃ X:Array Value,X=(A2++(([.int .i32 (rdInt .i32 4 s6).1,.int .i16 (rdInt .i16 2 s7).1,.int .i32 (rdInt .i32 4 s8).1,.int .i32 (rdInt .i32 4 s9).1,.bool (!decide (beN (rdN 1 s10).1=0)),.map qme0e1]:List Value)++B2)).toArray:=⟨_,rfl⟩
     have o8:blk w25 R2=some (X25,130,(0,0)):=by rw [l6];exact o7
     have BR:j2 * 6+6≤X25.size:=by rw [l6];simp only [List.size_toArray,List.length_append,List.length_cons,List.length_nil,hA2];omega
     clear fP
     have sG:TagsM (fun b=>(fun b=>(ok b∨w1.heap.size≤b)∧¬ ownB va0 b) b∧¬ ownB va1 b) w25 (.map qme0e1) (rdTags s11).1:=(jG.weaken fun b _ hk=>hk.elim (fun hk=>⟨⟨.inl hk,fun ho=>by have:=(c9 b ho).1;have:=(hok b hk).1;omega⟩,fun ho=>by have:=(hown2 b ho).1;have:=(hok b hk).1;omega⟩) (fun h=>by have h':w23.heap.size≤b:=h;exact ⟨⟨.inr (by omega),fun ho=>by have:=(c9 _ ho).2;omega⟩,fun ho=>by have:=(hown2 _ ho).2;omega⟩)).keep (dR.keeps fun b _ hk e=>dI b hk e)
     have qO:Upd (fun b=>b=R2∨b=rb) w25 w25:=Upd.refl _ _
     have qN:Upd (fun b=>b=R2∨b=rb) w24 w25:=dR.trans qO
     have jX:Upd (fun b=>b=R2∨b=rb) w23 w25:=eU.trans qN
     have qM:Upd (fun b=>b=R2∨b=rb) w22 w25:=eS.trans jX
     have jW:Upd (fun b=>b=R2∨b=rb) w21 w25:=eR.trans qM
     have pZ:Upd (fun b=>b=R2∨b=rb) w20 w25:=eQ.trans jW
     have jV:Upd (fun b=>b=R2∨b=rb) w19 w25:=eP.trans pZ
     have pY:Upd (fun b=>b=R2∨b=rb) w18 w25:=dM.trans jV
     have jU:Upd (fun b=>b=R2∨b=rb) w17 w25:=dL.trans pY
     have pX:Upd (fun b=>b=R2∨b=rb) w16 w25:=cR.trans jU
     have jT:Upd (fun b=>b=R2∨b=rb) w15 w25:=dK.trans pX
     have pW:Upd (fun b=>b=R2∨b=rb) w14 w25:=eO.trans jT
     have pV:Upd (fun b=>b=R2∨b=rb) w13 w25:=eN.trans pW
     have zD:Upd (fun b=>b=R2∨b=rb) w12 w25:=eM.trans pV
     have rP:RepS true (d+1) fs_X2 (fun b=>(fun b=>(ok b∨w1.heap.size≤b)∧¬ ownB va0 b) b∧¬ ownB va1 b) w25 (.mk 0 [] false [xe0e1_0,xe0e1_1,xe0e1_2,xe0e1_3,xe0e1_4] (rdTags s11).1) [.int .i32 (rdInt .i32 4 s6).1,.int .i16 (rdInt .i16 2 s7).1,.int .i32 (rdInt .i32 4 s8).1,.int .i32 (rdInt .i32 4 s9).1,.bool (!decide (beN (rdN 1 s10).1=0)),.map qme0e1]:=RepS.introT (c:=[.int .i32 (rdInt .i32 4 s6).1,.int .i16 (rdInt .i16 2 s7).1,.int .i32 (rdInt .i32 4 s8).1,.int .i32 (rdInt .i32 4 s9).1,.bool (!decide (beN (rdN 1 s10).1=0))]) (RepL.cons1 (sZ.keepS (jT.keeps fun b _ hk e=>dI b hk e)) (RepL.cons1 (t1.keepS (jU.keeps fun b _ hk e=>dI b hk e)) (RepL.cons1 (t2.keepS (jV.keeps fun b _ hk e=>dI b hk e)) (RepL.cons1 (t6.keepS (jW.keeps fun b _ hk e=>dI b hk e)) (RepL.cons1 (t7.keepS (jX.keeps fun b _ hk e=>dI b hk e)) RepL.nil))))) sG
     have hrE:(rd1 (rdP (d+1) ver true) fX6_1.of fX6_1.sub false true) s6=((.mk 0 [] false [xe0e1_0,xe0e1_1,xe0e1_2,xe0e1_3,xe0e1_4] (rdTags s11).1),s12):=by rw [show (rd1 (rdP (d+1) ver true) fX6_1.of fX6_1.sub false true) s6=_ from rd1_part];exact lH
     have hxE:(Rep1 (RepS true (d+1)) fX6_1.of fX6_1.sub) (fun b=>(fun b=>(ok b∨w1.heap.size≤b)∧¬ ownB va0 b) b∧¬ ownB va1 b) w25 (.mk 0 [] false [xe0e1_0,xe0e1_1,xe0e1_2,xe0e1_3,xe0e1_4] (rdTags s11).1) [.int .i32 (rdInt .i32 4 s6).1,.int .i16 (rdInt .i16 2 s7).1,.int .i32 (rdInt .i32 4 s8).1,.int .i32 (rdInt .i32 4 s9).1,.bool (!decide (beN (rdN 1 s10).1=0)),.map qme0e1]:=Rep1_part.2 rP
     repeat ((first|refine qA rfl ?_|apply qB|refine qC rfl ?_|apply qD|apply qE|apply qF|apply qG|apply qH);try simp (disch:=(first|omega|(simp only [qI,qJ,qK]<;>omega)|exact qL _)) only [go_sem,↓reduceIte,n0,reduceCtorEq,n1,n2,n3,n4,n5,i0,i1,i2,i3,i4,i5,i6,i7,o8,a8,aX,aY,aZ,aP,aR,aQ,aT,aV,aW,aG,b5])
     have hTk:Upd (fun b=>b=R2∨b=rb) w12 w25:=((((((((((((eM.trans eN).trans eO).trans dK).trans cR).trans dL).trans dM).trans eP).trans eQ).trans eR).trans eS).trans eU).trans dR)
     have hL':=hL1.step (Rep1_lay _ _ fun _=>RepS_lay true _ _) gP (m4 w25 [.int .i32 (rdInt .i32 4 s6).1,.int .i16 (rdInt .i16 2 s7).1,.int .i32 (rdInt .i32 4 s8).1,.int .i32 (rdInt .i32 4 s9).1,.bool (!decide (beN (rdN 1 s10).1=0)),.map qme0e1] rfl o7) (by rw [hrE];exact hxE) (hTk.mono fun b h=>h.imp (fun e=>⟨_,_,_,fJ,e⟩) id) (by rw [hrE];exact uF) (fun h=>bP rb h (.inr rfl)) (Nat.le_refl _)
     have hij:IntKind.i32.wrap ((j2:Int)+1)=((j2+1:Nat):Int):=by rw [i32_wrap (by omega)];omega
     repeat ((first|refine qA rfl ?_|apply qB|refine qC rfl ?_|apply qD|apply qE|apply qF|apply qG|apply qH);try simp (disch:=(first|omega|(simp only [qI,qJ,qK]<;>omega)|exact qL _)) only [go_sem,↓reduceIte,n0,reduceCtorEq,n1,n2,n3,n4,n5,i0,i1,i2,i3,i4,i5,i6,i7,o8,a8,aX,aY,aZ,aP,aR,aQ,aT,aV,aW,aG,b5,hij])
     refine ⟨⟨(by simp (disch:=(first|omega|(simp only [qI,qJ,qK]<;>omega)|exact qL _)) only [go_sem,↓reduceIte,n0,reduceCtorEq,n1,n2,n3,n4,n5,i0,i1,i2,i3,i4,i5,i6,i7,Holds_nil,Holds_cons,a8,aX,aY,aZ,aP,aR,aQ,aT,aV,aW,aG,b5];exact fJ.symm),j2+1,(by simp (disch:=(first|omega|(simp only [qI,qJ,qK]<;>omega)|exact qL _)) only [go_sem,↓reduceIte,n0,reduceCtorEq,n1,n2,n3,n4,n5,i0,i1,i2,i3,i4,i5,i6,i7,a8,aX,aY,aZ,aP,aR,aQ,aT,aV,aW,aG,b5,hij];all_goals rfl),_,_,_,hL'⟩,?_⟩
     try simp (disch:=(first|omega|(simp only [qI,qJ,qK]<;>omega)|exact qL _)) only [go_sem,↓reduceIte,n0,reduceCtorEq,n1,n2,n3,n4,n5,i0,i1,i2,i3,i4,i5,i6,i7,a8,aX,aY,aZ,aP,aR,aQ,aT,aV,aW,aG,b5]
     simp only [RowKit.intOf]
     omega
    ·have hjN:j2=N1:=by omega
     rw [hjN] at hL1
     repeat ((first|refine qA rfl ?_|apply qB|refine qC rfl ?_|apply qD|apply qE|apply qF|apply qG|apply qH);try simp (disch:=(first|omega|(simp only [qI,qJ,qK]<;>omega)|exact qL _)) only [go_sem,↓reduceIte,n0,reduceCtorEq,n1,n2,n3,n4,n5,i0,i1,i2,i3,i4,i5,i6,i7,a8,aX,aY,aZ,aP,aR,aQ,aT,aV,aW,iN,b5])
     exact ⟨(by simp (disch:=(first|omega|(simp only [qI,qJ,qK]<;>omega)|exact qL _)) only [go_sem,↓reduceIte,n0,reduceCtorEq,n1,n2,n3,n4,n5,i0,i1,i2,i3,i4,i5,i6,i7,Holds_nil,Holds_cons,a8,aX,aY,aZ,aP,aR,aQ,aT,aV,aW,iN,b5]),s6,xs1,css1,hL1⟩
   rintro ρ w26 ⟨⟨bF,cM,cO,cP,cC,cE,cD,cF,cH,cJ,cI,-⟩,s13,xs1,css1,hL1⟩
   have uH:=hL1.rd
   have mY:=hL1.upd
   have nE:=mY.blk_some nD (by omega)
   have eV:Upd (fun b=>b=R1∨b=rb) w10 w26:=mY.mono (fun _ h=>.inr h)
   have kH:Upd (fun b=>b=vb∨b=rb) w1 w26:=eF.trans' eV fun i hi h=>h.elim (fun h=>by omega) .inr
   have E5:=eV.size
   have zW:Glo ev w26:=hG1.updS kH aA aB
   obtain ⟨X26,l7⟩:∃ X:Array Value,X=(A1++(([strV (rdStr true s3).1,.slice none 0 0,.map none]:List Value)++B1)).toArray:=⟨_,rfl⟩
   have wI:blk w26 R1=some (X26,86,(0,0)):=by rw [l7];exact nE
   have BS:j1 * 3+3≤X26.size:=by rw [l7];simp only [List.size_toArray,List.length_append,List.length_cons,List.length_nil,hA1];omega
   have mI:rdF (rdP (d+1) ver true) ver true fX6_1 s4=(.mk 0 [] (nilS fX6_1 ver y1) xs1 [],s13):=by
    have h:=rdF_listE (pt:=(rdP (d+1) ver true)) (v:=ver) (flex:=true) (f:=fX6_1) (s:=s4) (xs:=xs1) (e:=s13) rfl (by rw [hy1,← hN1,← hs5];exact hL1.done)
    rw [hy1] at h;exact h
   have uY:s13=(rdF (rdP (d+1) ver true) ver true fX6_1 s4).2:=by rw [mI]
   obtain ⟨aa1,qq1,vR⟩:=hL1.row.shape
   subst vR
   have vM:j1 * 3+2≤X26.size:=by omega
   repeat ((first|refine qA rfl ?_|apply qB|refine qC rfl ?_|apply qD|apply qE|apply qF|apply qG|apply qH);try simp (disch:=(first|omega|(simp only [qI,qJ,qK]<;>omega)|exact qL _)) only [go_sem,↓reduceIte,n0,reduceCtorEq,n1,n2,n3,n4,n5,i0,i1,i2,i3,i4,i5,i6,i7,wI,bF,cM,cO,cP,cC,cE,cD,cF,cH,cJ,cI,vM])
   generalize fQ:wr w26 R1 (j1 * 3+1) [.slice aa1 N1 qq1] = w27
   have rX:Upd (fun b=>b=R1∨b=rb) w26 w27:=by rw [← fQ];exact (Upd.refl _ _).wr _ _ (.inr (.inl rfl))
   have nF:blk w27 R1=some ((A1++(([strV (rdStr true s3).1,.slice aa1 N1 qq1,.map none]:List Value)++B1)).toArray,86,(0,0)):=by rw [← fQ];exact el_blk (o:=1) nE hA1 (Nat.le_of_ble_eq_true rfl)
   have dS:=rX
   have kI:Upd (fun b=>b=vb∨b=rb) w1 w27:=kH.trans' dS fun i hi h=>h.elim (fun h=>by omega) .inr
   have E6:=dS.size
   have zX:Glo ev w27:=hG1.updS kI aA aB
   have uI:Rdr RT ok w27 rb s13∧NN w27 rb s13:=by
    have hn:∀ x,x=w27→(Rdr RT ok x rb s13∧NN x rb s13):=fun x hx=>by
     rw [hx,← fQ]
     exact Rdr.store uH (by omega) (fun h=>by have:=(hok _ h).1;first|omega|exact (hok _ h).2 rfl)
    exact hn _ rfl
   obtain ⟨X27,l8⟩:∃ X:Array Value,X=(A1++(([strV (rdStr true s3).1,.slice aa1 N1 qq1,.map none]:List Value)++B1)).toArray:=⟨_,rfl⟩
   have wJ:blk w27 R1=some (X27,86,(0,0)):=by rw [l8];exact nF
   have BT:j1 * 3+3≤X27.size:=by rw [l8];simp only [List.size_toArray,List.length_append,List.length_cons,List.length_nil,hA1];omega
   clear fQ
   have sY:RepF (RepS true (d+1)) (szS true (d+1)) fX6_1 (fun b=>(ok b∨w1.heap.size≤b)∧¬ ownB va0 b) w27 (xe0_1) [.slice aa1 N1 qq1]:=by rw [oB,mI];exact RepF.keepS (RepF_row rfl lY hN1 rfl hL1.row hL1.all (fun b hb=>⟨.inr (by omega),fun ho=>by have:=(c9 _ ho).2;omega⟩)) (dS.keeps fun b _ hk e=>bP b hk e)
   clear hL1 lY
   have tK:rdL (rdP (d+1) ver true) (dfP (d+1)) ver true [] s13=([],s13):=rfl
   have tJ:rdL (rdP (d+1) ver true) (dfP (d+1)) ver true [fX6_1] s4=([xe0_1],s13):=by rw [rdL_st (by decide) lL,← oB,← uY,tK]
   have tI:rdL (rdP (d+1) ver true) (dfP (d+1)) ver true [fX6_0,fX6_1] s3=([xe0_0,xe0_1],s13):=by rw [rdL_st (by decide) lK,← oA,← hs4,tJ]
   have lG:rdP (d+2) ver true fs_X6 s3=(.mk 0 [] false [xe0_0,xe0_1] (rdTags s13).1,(rdTags s13).2):=rdP_t tI
   repeat ((first|refine qA rfl ?_|apply qB|refine qC rfl ?_|apply qD|apply qE|apply qF|apply qG|apply qH);try simp (disch:=(first|omega|(simp only [qI,qJ,qK]<;>omega)|exact qL _)) only [go_sem,↓reduceIte,n0,reduceCtorEq,n1,n2,n3,n4,n5,i0,i1,i2,i3,i4,i5,i6,i7,wJ,bF,cM,cO,cP,cC,cE,cD,cF,cH,cJ,cI])
   refine (ReadTags_fn w27 uI.1 hrok).mono ?_
   rintro _ w28 ⟨qme0,rfl,jH,hTn,mC,mZ⟩
   have nG:=mZ.blk_some nF (by omega)
   have eW:Upd (fun b=>b=R1∨b=rb) w27 w28:=mZ.mono (fun _ h=>.inr h)
   have kJ:Upd (fun b=>b=vb∨b=rb) w1 w28:=kI.trans' eW fun i hi h=>h.elim (fun h=>by omega) .inr
   have E7:=eW.size
   have zY:Glo ev w28:=hG1.updS kJ aA aB
   obtain ⟨X28,l9⟩:∃ X:Array Value,X=(A1++(([strV (rdStr true s3).1,.slice aa1 N1 qq1,.map none]:List Value)++B1)).toArray:=⟨_,rfl⟩
   have wK:blk w28 R1=some (X28,86,(0,0)):=by rw [l9];exact nG
   have BU:j1 * 3+3≤X28.size:=by rw [l9];simp only [List.size_toArray,List.length_append,List.length_cons,List.length_nil,hA1];omega
   obtain ⟨s14,uZ⟩:∃ s,s=(rdTags s13).2:=⟨_,rfl⟩
   rw [← uZ] at mC lG
   have vN:j1 * 3+3≤X28.size:=by omega
   repeat (first|simp (disch:=(first|omega|(simp only [qI,qJ,qK]<;>omega)|exact qL _)) only [go_sem,↓reduceIte,n0,reduceCtorEq,n1,n2,n3,n4,n5,i0,i1,i2,i3,i4,i5,i6,i7,wK,bF,cM,cO,cP,cC,cE,cD,cF,cH,cJ,cI,vN]|refine qA rfl ?_|apply qB|refine qC rfl ?_|apply qD|apply qE|apply qF|apply qG|apply qH)
   generalize fR:wr w28 R1 (j1 * 3+2) [.map qme0] = w29
   have rY:Upd (fun b=>b=R1∨b=rb) w28 w29:=by rw [← fR];exact (Upd.refl _ _).wr _ _ (.inr (.inl rfl))
   have nH:blk w29 R1=some ((A1++(([strV (rdStr true s3).1,.slice aa1 N1 qq1,.map qme0]:List Value)++B1)).toArray,86,(0,0)):=by rw [← fR];exact el_blk (o:=2) nG hA1 (Nat.le_of_ble_eq_true rfl)
   have dT:=rY
   have sJ:Upd (fun b=>b=vb∨b=rb) w1 w29:=kJ.trans' dT fun i hi h=>h.elim (fun h=>by omega) .inr
   have E8:=dT.size
   have zZ:Glo ev w29:=hG1.updS sJ aA aB
   have uJ:Rdr RT ok w29 rb s14∧NN w29 rb s14:=by
    have hn:∀ x,x=w29→(Rdr RT ok x rb s14∧NN x rb s14):=fun x hx=>by
     rw [hx,← fR]
     exact Rdr.store mC (by omega) (fun h=>by have:=(hok _ h).1;first|omega|exact (hok _ h).2 rfl)
    exact hn _ rfl
   obtain ⟨X29,lA⟩:∃ X:Array Value,X=(A1++(([strV (rdStr true s3).1,.slice aa1 N1 qq1,.map qme0]:List Value)++B1)).toArray:=⟨_,rfl⟩
   have o9:blk w29 R1=some (X29,86,(0,0)):=by rw [lA];exact nH
   have BV:j1 * 3+3≤X29.size:=by rw [lA];simp only [List.size_toArray,List.length_append,List.length_cons,List.length_nil,hA1];omega
   clear fR
   have sF:TagsM (fun b=>(ok b∨w1.heap.size≤b)∧¬ ownB va0 b) w29 (.map qme0) (rdTags s13).1:=(jH.weaken fun b _ hk=>hk.elim (fun hk=>⟨.inl hk,fun ho=>by have:=(c9 b ho).1;have:=(hok b hk).1;omega⟩) (fun h=>by have h':w27.heap.size≤b:=h;exact ⟨.inr (by omega),fun ho=>by have:=(c9 _ ho).2;omega⟩)).keep (dT.keeps fun b _ hk e=>bP b hk e)
   have pS:Upd (fun b=>b=R1∨b=rb) w29 w29:=Upd.refl _ _
   have pR:Upd (fun b=>b=R1∨b=rb) w28 w29:=dT.trans pS
   have jR:Upd (fun b=>b=R1∨b=rb) w27 w29:=eW.trans pR
   have pQ:Upd (fun b=>b=R1∨b=rb) w26 w29:=dS.trans jR
   have pP:Upd (fun b=>b=R1∨b=rb) w10 w29:=eV.trans pQ
   have jS:Upd (fun b=>b=R1∨b=rb) w9 w29:=eL.trans pP
   have pU:Upd (fun b=>b=R1∨b=rb) w8 w29:=hV9.trans jS
   have pT:Upd (fun b=>b=R1∨b=rb) w7 w29:=hV8.trans pU
   have zC:Upd (fun b=>b=R1∨b=rb) w6 w29:=hV7.trans pT
   have rO:RepS true (d+2) fs_X6 (fun b=>(ok b∨w1.heap.size≤b)∧¬ ownB va0 b) w29 (.mk 0 [] false [xe0_0,xe0_1] (rdTags s13).1) [strV (rdStr true s3).1,.slice aa1 N1 qq1,.map qme0]:=RepS.introT (c:=[strV (rdStr true s3).1,.slice aa1 N1 qq1]) (RepL.cons1 (sX.keepS (jS.keeps fun b _ hk e=>bP b hk e)) (RepL.cons1 (sY.keepS (jR.keeps fun b _ hk e=>bP b hk e)) RepL.nil)) sF
   have hrE:(rd1 (rdP (d+2) ver true) fQ_1.of fQ_1.sub false true) s3=((.mk 0 [] false [xe0_0,xe0_1] (rdTags s13).1),s14):=by rw [show (rd1 (rdP (d+2) ver true) fQ_1.of fQ_1.sub false true) s3=_ from rd1_part];exact lG
   have hxE:(Rep1 (RepS true (d+2)) fQ_1.of fQ_1.sub) (fun b=>(ok b∨w1.heap.size≤b)∧¬ ownB va0 b) w29 (.mk 0 [] false [xe0_0,xe0_1] (rdTags s13).1) [strV (rdStr true s3).1,.slice aa1 N1 qq1,.map qme0]:=Rep1_part.2 rO
   repeat ((first|refine qA rfl ?_|apply qB|refine qC rfl ?_|apply qD|apply qE|apply qF|apply qG|apply qH);try simp (disch:=(first|omega|(simp only [qI,qJ,qK]<;>omega)|exact qL _)) only [go_sem,↓reduceIte,n0,reduceCtorEq,n1,n2,n3,n4,n5,i0,i1,i2,i3,i4,i5,i6,i7,o9,bF,cM,cO,cP,cC,cE,cD,cF,cH,cJ,cI])
   have hTk:Upd (fun b=>b=R1∨b=rb) w6 w29:=(((((((hV7.trans hV8).trans hV9).trans eL).trans eV).trans dS).trans eW).trans dT)
   have hL':=hL0.step (Rep1_lay _ _ fun _=>RepS_lay true _ _) gO (dY w29 [strV (rdStr true s3).1,.slice aa1 N1 qq1,.map qme0] rfl nH) (by rw [hrE];exact hxE) (hTk.mono fun b h=>h.imp (fun e=>⟨_,_,_,bZ,e⟩) id) (by rw [hrE];exact uJ) (fun h=>hoM rb h (.inr rfl)) (Nat.le_refl _)
   have hij:IntKind.i32.wrap ((j1:Int)+1)=((j1+1:Nat):Int):=by rw [i32_wrap (by omega)];omega
   repeat ((first|refine qA rfl ?_|apply qB|refine qC rfl ?_|apply qD|apply qE|apply qF|apply qG|apply qH);try simp (disch:=(first|omega|(simp only [qI,qJ,qK]<;>omega)|exact qL _)) only [go_sem,↓reduceIte,n0,reduceCtorEq,n1,n2,n3,n4,n5,i0,i1,i2,i3,i4,i5,i6,i7,o9,bF,cM,cO,cP,cC,cE,cD,cF,cH,cJ,cI,hij])
   refine ⟨⟨(by simp (disch:=(first|omega|(simp only [qI,qJ,qK]<;>omega)|exact qL _)) only [go_sem,↓reduceIte,n0,reduceCtorEq,n1,n2,n3,n4,n5,i0,i1,i2,i3,i4,i5,i6,i7,Holds_nil,Holds_cons,bF,cM,cO,cP,cC,cE,cD,cF,cH,cJ,cI];exact bZ.symm),j1+1,(by simp (disch:=(first|omega|(simp only [qI,qJ,qK]<;>omega)|exact qL _)) only [go_sem,↓reduceIte,n0,reduceCtorEq,n1,n2,n3,n4,n5,i0,i1,i2,i3,i4,i5,i6,i7,bF,cM,cO,cP,cC,cE,cD,cF,cH,cJ,cI,hij];all_goals rfl),_,_,_,hL'⟩,?_⟩
   try simp (disch:=(first|omega|(simp only [qI,qJ,qK]<;>omega)|exact qL _)) only [go_sem,↓reduceIte,n0,reduceCtorEq,n1,n2,n3,n4,n5,i0,i1,i2,i3,i4,i5,i6,i7,bF,cM,cO,cP,cC,cE,cD,cF,cH,cJ,cI]
   simp only [RowKit.intOf]
   omega
  ·have hjN:j1=N0:=by omega
   rw [hjN] at hL0
   repeat ((first|refine qA rfl ?_|apply qB|refine qC rfl ?_|apply qD|apply qE|apply qF|apply qG|apply qH);try simp (disch:=(first|omega|(simp only [qI,qJ,qK]<;>omega)|exact qL _)) only [go_sem,↓reduceIte,n0,reduceCtorEq,n1,n2,n3,n4,n5,i0,i1,i2,i3,i4,i5,i6,i7,aJ,aK,aM,aN,aH,aI,iM,aO])
   exact ⟨(by simp (disch:=(first|omega|(simp only [qI,qJ,qK]<;>omega)|exact qL _)) only [go_sem,↓reduceIte,n0,reduceCtorEq,n1,n2,n3,n4,n5,i0,i1,i2,i3,i4,i5,i6,i7,Holds_nil,Holds_cons,aJ,aK,aM,aN,aH,aI,iM,aO]),s3,xs0,css0,hL0⟩
 rintro ρ w30 ⟨⟨e8,e9,eA,eB,dZ,e7,e6,-⟩,s15,xs0,css0,hL0⟩
 have uM:=hL0.rd
 have n7:=hL0.upd
 have hv_30:=n7.blk_some hv_4 (by omega)
 have dN:Upd (fun b=>b=vb∨b=rb) w4 w30:=n7.mono (fun _ h=>.inr h)
 have eJ:Upd (fun b=>b=vb∨b=rb) w1 w30:=hU4.trans dN
 have pO:=dN.size
 have A0:Glo ev w30:=hG1.updS eJ aA aB
 have mH:rdF (rdP (d+2) ver true) ver true fQ_1 s1=(.mk 0 [] (nilS fQ_1 ver y0) xs0 [],s15):=by
  have h:=rdF_listE (pt:=(rdP (d+2) ver true)) (v:=ver) (flex:=true) (f:=fQ_1) (s:=s1) (xs:=xs0) (e:=s15) rfl (by rw [hy0,← hN0,← hs2];exact hL0.done)
  rw [hy0] at h;exact h
 have mL:s15=(rdF (rdP (d+2) ver true) ver true fQ_1 s1).2:=by rw [mH]
 obtain ⟨aa0,qq0,vQ⟩:=hL0.row.shape
 subst vQ
 repeat ((first|refine qA rfl ?_|apply qB|refine qC rfl ?_|apply qD|apply qE|apply qF|apply qG|apply qH);try simp (disch:=(first|omega|(simp only [qI,qJ,qK]<;>omega)|exact qL _)) only [go_sem,↓reduceIte,n0,reduceCtorEq,n1,n2,n3,n4,n5,i0,i1,i2,i3,i4,i5,i6,i7,hv_30,e8,e9,eA,eB,dZ,e7,e6])
 generalize fS:wr w30 vb 2 [.slice aa0 N0 qq0] = w31
 have rZ:Upd (fun b=>b=vb∨b=rb) w30 w31:=by rw [← fS];exact (Upd.refl _ _).wr _ _ (.inr (.inl rfl))
 have hv_31:blk w31 vb=some (#[.int .i16 ver,.int .i16 (rdInt .i16 2 s0).1,.slice aa0 N0 qq0,.slice none 0 0,.map none],80,(0,0)):=by rw [← fS,blk_wr_eq,hv_30];rfl
 have dE:=rZ
 have eK:Upd (fun b=>b=vb∨b=rb) w1 w31:=eJ.trans dE
 have zA:=dE.size
 have A3:Glo ev w31:=hG1.updS eK aA aB
 have uO:Rdr RT ok w31 rb s15∧NN w31 rb s15:=by
  have hn:∀ x,x=w31→(Rdr RT ok x rb s15∧NN x rb s15):=fun x hx=>by
   rw [hx,← fS]
   exact Rdr.store uM (by omega) (fun h=>by have:=(hok _ h).1;first|omega|exact (hok _ h).2 rfl)
  exact hn _ rfl
 clear fS
 have hf_1:RepF (RepS true (d+2)) (szS true (d+2)) fQ_1 (fun b=>ok b∨w1.heap.size≤b) w31 (x_1) [.slice aa0 N0 qq0]:=by rw [hx_1,mH];exact RepF.keepS (RepF_row rfl lX hN0 rfl hL0.row hL0.all (fun b hb=>.inr (by omega))) (dE.keeps fun b _ hk e=>(hoM b hk) e)
 clear hL0 lX
 have hb_2:(rdL (rdP (d+2) ver true) (dfP (d+2)) ver true [fQ_2] s15).2=none→FB:=fun h=>hb_1 (by rw [rdL_st (by decide) hh_1,← mL];exact h)
 obtain ⟨x_2,hx_2⟩:∃ x,x=dfF (dfP (d+2)) fQ_2:=⟨_,rfl⟩
 have hf_2:RepF (RepS true (d+2)) (szS true (d+2)) fQ_2 (fun b=>ok b∨w1.heap.size≤b) w31 (x_2) [.slice none 0 0]:=by rw [hx_2];exact RepF_nil rfl
 have hl_3:rdL (rdP (d+2) ver true) (dfP (d+2)) ver true [] s15=([],s15):=rfl
 have hl_2:rdL (rdP (d+2) ver true) (dfP (d+2)) ver true [fQ_2] s15=([x_2],s15):=by rw [rdL_tg (by decide),← hx_2,hl_3]
 have hl_1:rdL (rdP (d+2) ver true) (dfP (d+2)) ver true [fQ_1,fQ_2] s1=([x_1,x_2],s15):=by rw [rdL_st (by decide) hh_1,← hx_1,← mL,hl_2]
 have hl_0:rdL (rdP (d+2) ver true) (dfP (d+2)) ver true [fQ_0,fQ_1,fQ_2] s0=([x_0,x_1,x_2],s15):=by rw [rdL_st (by decide) hh_0,← hx_0,← hs1,hl_1]
 repeat ((first|refine qA rfl ?_|apply qB|refine qC rfl ?_|apply qD|apply qE|apply qF|apply qG|apply qH);try simp (disch:=(first|omega|(simp only [qI,qJ,qK]<;>omega)|exact qL _)) only [go_sem,↓reduceIte,n0,reduceCtorEq,n1,n2,n3,n4,n5,i0,i1,i2,i3,i4,i5,i6,i7,hv_31,e8,e9,eA,eB,dZ,e7,e6])
 refine (RUvarint_fn w31 uO.1 hrok).mono ?_
 rintro _ w32 ⟨rfl,mD,n8⟩
 have hv_32:=n8.blk_some hv_31 (by omega)
 have dO:Upd (fun b=>b=vb∨b=rb) w31 w32:=n8.mono (fun _ h=>.inr h)
 have dP:Upd (fun b=>b=vb∨b=rb) w1 w32:=eK.trans dO
 have zB:=dO.size
 have A4:Glo ev w32:=hG1.updS dP aA aB
 have hNl:=rdUv_lt s15
 obtain ⟨s16,iQ⟩:∃ s,s=(rdUv s15).2:=⟨_,rfl⟩
 rw [← iQ] at mD
 obtain ⟨NT,hNT⟩:∃ N,N=(rdUv s15).1:=⟨_,rfl⟩
 rw [← hNT] at hNl
 try rw [← hNT]
 have hCt_32:Upd (fun b=>b=vb∨b=rb) w32 w32:=Upd.refl _ _
 have hCt_31:Upd (fun b=>b=vb∨b=rb) w31 w32:=dO.trans hCt_32
 have hCt_30:Upd (fun b=>b=vb∨b=rb) w30 w32:=dE.trans hCt_31
 have hCt_4:Upd (fun b=>b=vb∨b=rb) w4 w32:=dN.trans hCt_30
 have hCt_3:Upd (fun b=>b=vb∨b=rb) w3 w32:=hV4.trans hCt_4
 have hCt_2:Upd (fun b=>b=vb∨b=rb) w2 w32:=hV3.trans hCt_3
 have hCt_1:Upd (fun b=>b=vb∨b=rb) w1 w32:=hV2.trans hCt_2
 have hgt_0:RepF (RepS true (d+2)) (szS true (d+2)) fQ_0 (fun b=>(ok b∨w1.heap.size≤b)∧b < w32.heap.size) w32 x_0 [.int .i16 (rdInt .i16 2 s0).1]:=RepF.weakenS (hf_0.keepS (hCt_3.keeps fun b _ hk e=>(hoM b hk) e)) fun b hb hk=>⟨hk,hb⟩
 have hgt_1:RepF (RepS true (d+2)) (szS true (d+2)) fQ_1 (fun b=>(ok b∨w1.heap.size≤b)∧b < w32.heap.size) w32 x_1 [.slice aa0 N0 qq0]:=RepF.weakenS (hf_1.keepS (hCt_31.keeps fun b _ hk e=>(hoM b hk) e)) fun b hb hk=>⟨hk,hb⟩
 have hgt_2:RepF (RepS true (d+2)) (szS true (d+2)) fQ_2 (fun b=>(ok b∨w1.heap.size≤b)∧b < w32.heap.size) w32 x_2 [.slice none 0 0]:=RepF.weakenS (hf_2.keepS (hCt_31.keeps fun b _ hk e=>(hoM b hk) e)) fun b hb hk=>⟨hk,hb⟩
 repeat ((first|refine qA rfl ?_|apply qB|refine qC rfl ?_|apply qD|apply qE|apply qF|apply qG|apply qH);try simp (disch:=(first|omega|(simp only [qI,qJ,qK]<;>omega)|exact qL _)) only [go_sem,↓reduceIte,n0,reduceCtorEq,n1,n2,n3,n4,n5,i0,i1,i2,i3,i4,i5,i6,i7,hv_32,e8,e9,eA,eB,dZ,e7,e6])
 have hO0:tagOnce fs_Q NT [] s16:=by
  have h:=hT1 _ _ hl_0
  rw [← hNT,← iQ] at h;exact h
 refine W.exitRJ 4 (EndQ [(2,.bool false),(7,.pointer (some ⟨rb,0,none⟩)),(8,.int .i16 ver),(9,.bool true),(10,.pointer (some ⟨vb,0,none⟩))] (fun w'=>∃ (u:List TagD) (st:St) (qm:Option Nat) (ks:List Nat) (y_2:Tree) (v_3:Value),rdTg (rdP (d+2) ver true) ver true fs_Q 0 [x_0,x_1,y_2] u st=rdTgs (rdP (d+2) ver true) ver true fs_Q [x_0,x_1,x_2] s15∧blk w' vb=some (#[.int .i16 ver,.int .i16 (rdInt .i16 2 s0).1,.slice aa0 N0 qq0,v_3,.map qm],80,(0,0))∧RepF (RepS true (d+2)) (szS true (d+2)) fQ_2 (fun b=>(ok b∨w1.heap.size≤b)∧b < w'.heap.size∧¬ qm=some b) w' y_2 [v_3]∧tagOnce fs_Q 0 ks st∧(0∉ks→v_3 = .slice none 0 0)∧TagsG ok w32.heap.size w' (.map qm) u∧(u.map (·.1)).Nodup∧(Rdr RT ok w' rb st∧NN w' rb st)∧Upd (fun b=>b=vb∨b=rb) w32 w')) (W.loop (LoopT [(2,.bool false),(7,.pointer (some ⟨rb,0,none⟩)),(8,.int .i16 ver),(9,.bool true),(10,.pointer (some ⟨vb,0,none⟩))] 30 (fun m w'=>∃ (u:List TagD) (st:St) (qm:Option Nat) (ks:List Nat) (y_2:Tree) (v_3:Value),m≤NT∧rdTg (rdP (d+2) ver true) ver true fs_Q m [x_0,x_1,y_2] u st=rdTgs (rdP (d+2) ver true) ver true fs_Q [x_0,x_1,x_2] s15∧blk w' vb=some (#[.int .i16 ver,.int .i16 (rdInt .i16 2 s0).1,.slice aa0 N0 qq0,v_3,.map qm],80,(0,0))∧RepF (RepS true (d+2)) (szS true (d+2)) fQ_2 (fun b=>(ok b∨w1.heap.size≤b)∧b < w'.heap.size∧¬ qm=some b) w' y_2 [v_3]∧tagOnce fs_Q m ks st∧(0∉ks→v_3 = .slice none 0 0)∧TagsG ok w32.heap.size w' (.map qm) u∧(u.map (·.1)).Nodup∧(Rdr RT ok w' rb st∧NN w' rb st)∧Upd (fun b=>b=vb∨b=rb) w32 w')) (fun ρ _=>(RowKit.intOf (ρ 30)).toNat) ?_ ?_) ?_
 ·exact ⟨(by simp (disch:=(first|omega|(simp only [qI,qJ,qK]<;>omega)|exact qL _)) only [go_sem,↓reduceIte,n0,reduceCtorEq,n1,n2,n3,n4,n5,i0,i1,i2,i3,i4,i5,i6,i7,Holds_nil,Holds_cons,e8,e9,eA,eB,dZ,e7,e6]),NT,(by simp (disch:=(first|omega|(simp only [qI,qJ,qK]<;>omega)|exact qL _)) only [go_sem,↓reduceIte,n0,reduceCtorEq,n1,n2,n3,n4,n5,i0,i1,i2,i3,i4,i5,i6,i7,e8,e9,eA,eB,dZ,e7,e6];all_goals rfl),[],s16,none,[],x_2,.slice none 0 0,Nat.le_refl _,(by unfold rdTgs;rw [← hNT,← iQ]),hv_32,RepF.weakenS hgt_2 (fun b hb hk=>⟨hk.1,hb,fun h=>by cases h⟩),hO0,(fun _=>rfl),TagsG.start _ _ _,by simp,mD,Upd.refl _ _⟩
 ·rintro ρ w33 ⟨⟨hrt_2,hrt_7,hrt_8,hrt_9,hrt_10,-⟩,m,hri,u,s17,qm,ks,y_2,v_3,hmN,hE,hv_33,hfT_2,hO,hd_2,hTG,hnd,mE,dQ⟩
  have gE:Upd (fun b=>b=vb∨b=rb) w1 w33:=dP.trans dQ
  have E9:=gE.size
  have EJ:=dQ.size
  have A5:Glo ev w33:=hG1.updS gE aA aB
  have hmap:∀ b,qm=some b→b < w33.heap.size∧w32.heap.size≤b:=fun b h=>hTG.lt h
  by_cases hm0:m=0
  ·subst hm0
   have hc:¬ (0:Int) < ((0:Nat):Int):=by omega
   repeat ((first|refine qA rfl ?_|apply qB|refine qC rfl ?_|apply qD|apply qE|apply qF|apply qG|apply qH);try simp (disch:=(first|omega|(simp only [qI,qJ,qK]<;>omega)|exact qL _)) only [go_sem,↓reduceIte,n0,reduceCtorEq,n1,n2,n3,n4,n5,i0,i1,i2,i3,i4,i5,i6,i7,hv_33,hrt_2,hrt_7,hrt_8,hrt_9,hrt_10,hri])
   exact ⟨(by simp (disch:=(first|omega|(simp only [qI,qJ,qK]<;>omega)|exact qL _)) only [go_sem,↓reduceIte,n0,reduceCtorEq,n1,n2,n3,n4,n5,i0,i1,i2,i3,i4,i5,i6,i7,Holds_nil,Holds_cons,hrt_2,hrt_7,hrt_8,hrt_9,hrt_10,hri]),u,s17,qm,ks,y_2,v_3,hE,hv_33,hfT_2,hO,hd_2,hTG,hnd,mE,dQ⟩
  ·obtain ⟨m,rfl⟩:∃ q,m=q+1:=⟨m - 1,by omega⟩
   have hw1:IntKind.u32.wrap (((m+1:Nat):Int) - 1)=((m:Nat):Int):=by rw [u32_wrap (by omega)];omega
   repeat ((first|refine qA rfl ?_|apply qB|refine qC rfl ?_|apply qD|apply qE|apply qF|apply qG|apply qH);try simp (disch:=(first|omega|(simp only [qI,qJ,qK]<;>omega)|exact qL _)) only [go_sem,↓reduceIte,n0,reduceCtorEq,n1,n2,n3,n4,n5,i0,i1,i2,i3,i4,i5,i6,i7,hv_33,hrt_2,hrt_7,hrt_8,hrt_9,hrt_10,hri])
   refine (RUvarint_fn w33 mE.1 hrok).mono ?_
   rintro _ w34 ⟨rfl,f8,n9⟩
   have hv_34:=n9.blk_some hv_33 (by omega)
   have eX:Upd (fun b=>b=vb∨b=rb) w33 w34:=n9.mono (fun _ h=>.inr h)
   have kK:Upd (fun b=>b=vb∨b=rb) w1 w34:=gE.trans eX
   have EA:=eX.size
   have A6:Glo ev w34:=hG1.updS kK aA aB
   have hKl:=rdUv_lt s17
   obtain ⟨s18,dD⟩:∃ s,s=(rdUv s17).2:=⟨_,rfl⟩
   rw [← dD] at f8
   obtain ⟨K,hK⟩:∃ N,N=(rdUv s17).1:=⟨_,rfl⟩
   rw [← hK] at hKl
   try rw [← hK]
   by_cases hk0:K=0
   ·have hkI:(K:Int)=0:=by omega
    repeat ((first|refine qA rfl ?_|apply qB|refine qC rfl ?_|apply qD|apply qE|apply qF|apply qG|apply qH);try simp (disch:=(first|omega|(simp only [qI,qJ,qK]<;>omega)|exact qL _)) only [go_sem,↓reduceIte,n0,reduceCtorEq,n1,n2,n3,n4,n5,i0,i1,i2,i3,i4,i5,i6,i7,hv_34,hrt_2,hrt_7,hrt_8,hrt_9,hrt_10,hri,hkI])
    refine (RUvarint_fn w34 f8.1 hrok).mono ?_
    rintro _ w35 ⟨rfl,cV,eC⟩
    have hv_35:=eC.blk_some hv_34 (by omega)
    have gF:Upd (fun b=>b=vb∨b=rb) w34 w35:=eC.mono (fun _ h=>.inr h)
    have kL:Upd (fun b=>b=vb∨b=rb) w1 w35:=kK.trans gF
    have EB:=gF.size
    have A7:Glo ev w35:=hG1.updS kL aA aB
    have hSl:=rdUv_lt s18
    obtain ⟨s19,mM⟩:∃ s,s=(rdUv s18).2:=⟨_,rfl⟩
    rw [← mM] at cV
    obtain ⟨SL,hSL⟩:∃ N,N=(rdUv s18).1:=⟨_,rfl⟩
    rw [← hSL] at hSl
    try rw [← hSL]
    have e64:IntKind.i64.wrap (SL:Int)=SL:=i64_wrap (by omega)
    repeat (first|simp (disch:=(first|omega|(simp only [qI,qJ,qK]<;>omega)|exact qL _)) only [go_sem,↓reduceIte,n0,reduceCtorEq,n1,n2,n3,n4,n5,i0,i1,i2,i3,i4,i5,i6,i7,hv_35,hrt_2,hrt_7,hrt_8,hrt_9,hrt_10,hri,e64]|refine qA rfl ?_|apply qB|refine qC rfl ?_|apply qD|apply qE|apply qF|apply qG|apply qH)
    refine (Span_fn w35 cV.1 hrok _).mono ?_
    rintro r36 w36 ⟨hBs,_,_,hqx,hqy,eD⟩
    have cW:=And.intro hqx (hqy (.inl cV.2))
    clear hqx hqy
    have hv_36:=eD.blk_some hv_35 (by omega)
    have gG:Upd (fun b=>b=vb∨b=rb) w35 w36:=eD.mono (fun _ h=>.inr h)
    have kM:Upd (fun b=>b=vb∨b=rb) w1 w36:=kL.trans gG
    have EC:=gG.size
    have A8:Glo ev w36:=hG1.updS kM aA aB
    obtain ⟨s20,fB⟩:∃ s,s=(rdSpan (SL:Int) s19).2:=⟨_,rfl⟩
    rw [← fB] at cW
    obtain ⟨SP,hSP⟩:∃ x,x=(rdSpan (SL:Int) s19).1:=⟨_,rfl⟩
    rw [← hSP] at hBs
    rw [mM] at hSP fB
    obtain ⟨spa,spc,rfl,_⟩:=hBs.shape
    repeat ((first|refine qA rfl ?_|apply qB|refine qC rfl ?_|apply qD|apply qE|apply qF|apply qG|apply qH);try simp (disch:=(first|omega|(simp only [qI,qJ,qK]<;>omega)|exact qL _)) only [go_sem,↓reduceIte,n0,reduceCtorEq,n1,n2,n3,n4,n5,i0,i1,i2,i3,i4,i5,i6,i7,hv_36,hrt_2,hrt_7,hrt_8,hrt_9,hrt_10,hri,e64])
    obtain ⟨rc0,hrc⟩:∃ r,r=w36.heap.size:=⟨_,rfl⟩
    have hEi:Ext w36 (wr (w36.alloc (.cells #[.slice none 0 0,.bool false] 123)) w36.heap.size 0 [.slice spa SP.length spc,.bool false]):=(Upd.alloc (Upd.refl _ _) _).wr _ _ (.inl (Nat.le_refl _))
    have hzi:(wr (w36.alloc (.cells #[.slice none 0 0,.bool false] 123)) w36.heap.size 0 [.slice spa SP.length spc,.bool false]).heap.size=w36.heap.size+1:=by rw [size_wr,World.size_alloc]
    have hRi:Rdr RT ok (wr (w36.alloc (.cells #[.slice none 0 0,.bool false] 123)) w36.heap.size 0 [.slice spa SP.length spc,.bool false]) w36.heap.size (some SP):=Rdr.good (v:=.slice spa SP.length spc) (by simp (disch:=(first|omega|(simp only [qI,qJ,qK]<;>omega)|exact qL _)) only [go_sem,↓reduceIte,n0,reduceCtorEq,n1,n2,n3,n4,n5,i0,i1,i2,i3,i4,i5,i6,i7]) (hBs.keep (hEi.keeps _))
    have hv_37:=hEi.blk_some hv_36 id
    have hqo:=And.intro (cW.1.upd hEi (fun h=>h) (fun _ _ _ h=>h)) (cW.2.upd hEi fun h=>h)
    repeat ((first|refine qA rfl ?_|apply qB|refine qC rfl ?_|apply qD|apply qE|apply qF|apply qG|apply qH);try simp (disch:=(first|omega|(simp only [qI,qJ,qK]<;>omega)|exact qL _)) only [go_sem,↓reduceIte,n0,reduceCtorEq,n1,n2,n3,n4,n5,i0,i1,i2,i3,i4,i5,i6,i7,hv_36,hrt_2,hrt_7,hrt_8,hrt_9,hrt_10,hri,hkI])
    generalize (wr (w36.alloc (.cells #[.slice none 0 0,.bool false] 123)) w36.heap.size 0 [.slice spa SP.length spc,.bool false])=w37 at *
    rw [← hrc] at hRi
    try rw [← hrc]
    have gH:Upd (fun b=>b=vb∨b=rb) w36 w37:=hEi.mono fun _ h=>h.elim
    have kN:Upd (fun b=>b=vb∨b=rb) w1 w37:=kM.trans gH
    have hz37:=gH.size
    have bO:Glo ev w37:=hG1.updS kN aA aB
    have hQo:Upd (fun b=>b=vb∨b=rb) w33 w37:=(((eX.trans gF).trans gG).trans gH)
    have hzo:=hQo.size
    have hrokc:¬ ok rc0:=fun h=>by have:=(hok _ h).1;omega
    have hgrbc:¬ 0=rc0:=by omega
    have bV:¬ (0=vb∨0=rc0):=fun h=>h.elim hgv.1 fun h=>by omega
    have bW:¬ (1=vb∨1=rc0):=fun h=>h.elim hgv.2 fun h=>by omega
    have hoMc:∀ b,(ok b∨w37.heap.size≤b)→¬ (b=vb∨b=rc0):=fun b hk h=>by
     rcases hk with hk|hk
     ·have:=hok b hk;rcases h with h|h<;>omega
     ·rcases h with h|h<;>omega
    have hbasec:Upd (fun b=>b=vb) w w37:=hbase.trans' kN fun i hi h=>h.elim id fun h=>by omega
    have hUc:Upd (fun b=>b=vb∨b=rc0) w37 w37:=Upd.refl _ _
    have hqc:Rdr RT ok w37 rc0 (some SP):=hRi
    obtain ⟨s21,iR⟩:∃ s:St,s=some SP:=⟨_,rfl⟩
    rw [← iR] at hqc
    have hbT:(rdF (rdP (d+2) ver true) ver true fQ_2 s21).2=none→FB:=fun h=>Eq.mpr hFB (rdM_badT hl_0 (by rw [← hE];exact rdTg_bad (hK.symm.trans hk0) rfl (by rw [← dD,← hSL,← hSP,← iR];exact h)))
    have hni:0∉ks:=fun h=>hO.1 (by rw [← hK,hk0];exact fun h=>by cases h) (by rw [← hK,hk0];exact h)
    obtain rfl:=hd_2 hni
    have C9:hasS fQ_2 ver=true:=hasS_t (by show (0:Int)≤ver;omega) (by show (-1:Int) < 0∨ver≤(-1:Int);omega)
    obtain ⟨xt0_2,oH⟩:∃ x,x=(rdF (rdP (d+2) ver true) ver true fQ_2 s21).1:=⟨_,rfl⟩
    repeat ((first|refine qA rfl ?_|apply qB|refine qC rfl ?_|apply qD|apply qE|apply qF|apply qG|apply qH);try simp (disch:=(first|omega|(simp only [qI,qJ,qK]<;>omega)|exact qL _)) only [go_sem,↓reduceIte,n0,reduceCtorEq,n1,n2,n3,n4,n5,i0,i1,i2,i3,i4,i5,i6,i7,hv_37,hrt_2,hrt_7,hrt_8,hrt_9,hrt_10,hri])
    refine (RCompactArrayLen_fn w37 hqc hrokc bO.1 hgrbc).mono ?_
    rintro _ w38 ⟨rfl,cA,nA⟩
    have hv_38:=nA.blk_some hv_37 (by omega)
    have dH:Upd (fun b=>b=vb∨b=rc0) w37 w38:=nA.mono (fun _ h=>.inr h)
    have cQ:Upd (fun b=>b=vb∨b=rc0) w37 w38:=hUc.trans dH
    have wT:=dH.size
    have gB:Glo ev w38:=bO.updS cQ bV bW
    obtain ⟨s22,iS⟩:∃ s,s=(rdALen true s21).2:=⟨_,rfl⟩
    rw [← iS] at cA
    have DU:=rdALen_rng true s21
    generalize hy2:(rdALen true s21).1=y2 at *
    obtain ⟨N2,hN2⟩:∃ N,N=y2.toNat:=⟨_,rfl⟩
    have lV:(rdMany (rd1 (rdP (d+2) ver true) fQ_2.of fQ_2.sub false true) N2 s22).2=none→FB:=fun h=>hbT (rdF_listbad rfl (by rw [hy2,← hN2,← iS];exact h))
    repeat ((first|refine W.seqR rfl ?_|refine W.seq ?_|refine W.regR rfl ?_|refine W.block ?_|refine W.skip ?_|refine W.ret ?_|refine W.exit ?_);try simp (disch:=(first|omega|(simp only [qI,qJ,qK]<;>omega)|exact qL _)) only [go_sem,↓reduceIte,n0,reduceCtorEq,n1,n2,n3,n4,n5,i0,i1,i2,i3,i4,i5,i6,i7,hv_38,hrt_2,hrt_7,hrt_8,hrt_9,hrt_10,hri])
    refine (ROk_fn w38 cA.1).mono ?_
    rintro _ wz ⟨rfl,hez⟩
    rw [hez]
    clear hez wz
    by_cases fE:s22=none
    ·have hso:s22.isSome=false:=by rw [fE];rfl
     repeat (first|simp (disch:=(first|omega|(simp only [qI,qJ,qK]<;>omega)|exact qL _)) only [go_sem,↓reduceIte,n0,reduceCtorEq,n1,n2,n3,n4,n5,i0,i1,i2,i3,i4,i5,i6,i7,hv_38,hrt_2,hrt_7,hrt_8,hrt_9,hrt_10,hri,hso]|refine qA rfl ?_|apply qB|refine qC rfl ?_|apply qD|apply qE|apply qF|apply qG|apply qH)
     refine (RComplete_fn w38 cA.1 gB.2).mono ?_
     rintro _ wz ⟨rfl,hez⟩
     rw [hez]
     repeat (first|simp (disch:=(first|omega|(simp only [qI,qJ,qK]<;>omega)|exact qL _)) only [go_sem,↓reduceIte,n0,reduceCtorEq,n1,n2,n3,n4,n5,i0,i1,i2,i3,i4,i5,i6,i7,hv_38,hrt_2,hrt_7,hrt_8,hrt_9,hrt_10,hri]|refine qA rfl ?_|apply qB|refine qC rfl ?_|apply qD|apply qE|apply qF|apply qG|apply qH)
     rw [errV_none fE]
     exact ReadQ.bad (Eq.mp hFB (lV (by rw [fE];exact rdMany_none rd1P_none _))) (hbasec.trans' cQ fun i hi h=>h.elim id fun h=>by omega)
    have fI:s22.isSome=true:=isSome_some fE
    try simp (disch:=(first|omega|(simp only [qI,qJ,qK]<;>omega)|exact qL _)) only [go_sem,↓reduceIte,n0,reduceCtorEq,n1,n2,n3,n4,n5,i0,i1,i2,i3,i4,i5,i6,i7,hv_38,hrt_2,hrt_7,hrt_8,hrt_9,hrt_10,hri,fI]
    repeat ((first|refine W.seqR rfl ?_|refine W.seq ?_|refine W.regR rfl ?_|refine W.block ?_|refine W.skip ?_|refine W.ret ?_|refine W.exit ?_);try simp (disch:=(first|omega|(simp only [qI,qJ,qK]<;>omega)|exact qL _)) only [go_sem,↓reduceIte,n0,reduceCtorEq,n1,n2,n3,n4,n5,i0,i1,i2,i3,i4,i5,i6,i7,hv_38,hrt_2,hrt_7,hrt_8,hrt_9,hrt_10,hri,fI])
    refine W.condK ?_
    try simp (disch:=(first|omega|(simp only [qI,qJ,qK]<;>omega)|exact qL _)) only [go_sem,↓reduceIte,n0,reduceCtorEq,n1,n2,n3,n4,n5,i0,i1,i2,i3,i4,i5,i6,i7,hv_38,hrt_2,hrt_7,hrt_8,hrt_9,hrt_10,hri,fI]
    repeat ((first|refine W.seqR rfl ?_|refine W.seq ?_|refine W.regR rfl ?_|refine W.block ?_|refine W.skip ?_|refine W.ret ?_|refine W.exit ?_);try simp (disch:=(first|omega|(simp only [qI,qJ,qK]<;>omega)|exact qL _)) only [go_sem,↓reduceIte,n0,reduceCtorEq,n1,n2,n3,n4,n5,i0,i1,i2,i3,i4,i5,i6,i7,hv_38,hrt_2,hrt_7,hrt_8,hrt_9,hrt_10,hri,fI,slBase_00])
    refine W.normJ (RowQ [(2,.bool false),(7,.pointer (some ⟨rb,0,none⟩)),(8,.int .i16 ver),(9,.bool true),(10,.pointer (some ⟨vb,0,none⟩)),(30,.int .u32 ((m+1:Nat):Int)),(32,.pointer (some ⟨rc0,0,none⟩)),(35,.int .i32 y2)] 34 (fun va w'=>LstI RT (rd1 (rdP (d+2) ver true) fQ_2.of fQ_2.sub false true) (Rep1 (RepS true (d+2)) fQ_2.of fQ_2.sub) 4 91 [.int .i32 0,.string ByteArray.empty,.int .u16 0,.map none] w38.heap.size N2 ok (fun b=>ok b∨w37.heap.size≤b) rc0 w38 s22 va 0 s22 [] [] w'∧(N2=0→if nilS fQ_2 ver y2=true then va = .slice none 0 0 else ∃ a,va = .slice (some a) 0 0))) ?_ ?_
    ·by_cases hy0:(0:Int) < y2
     ·have hyv:Value.int .i32 y2 = .int .i32 ((N2:Nat):Int):=by rw [show y2=((N2:Nat):Int) by omega]
      repeat ((first|refine qA rfl ?_|apply qB|refine qC rfl ?_|apply qD|apply qE|apply qF|apply qG|apply qH);try simp (disch:=(first|omega|(simp only [qI,qJ,qK]<;>omega)|exact qL _)) only [go_sem,↓reduceIte,n0,reduceCtorEq,n1,n2,n3,n4,n5,i0,i1,i2,i3,i4,i5,i6,i7,hv_38,hrt_2,hrt_7,hrt_8,hrt_9,hrt_10,hri])
      refine wp_appendZ (m:=N2) utQ_75 utQ_21 inQ_91 (by decide) (by first|rfl|simp (disch:=(first|omega|(simp only [qI,qJ,qK]<;>omega)|exact qL _)) only [go_sem,↓reduceIte,n0,reduceCtorEq,n1,n2,n3,n4,n5,i0,i1,i2,i3,i4,i5,i6,i7,hrt_2,hrt_7,hrt_8,hrt_9,hrt_10,hri]) (by first|exact hyv|(simp (disch:=(first|omega|(simp only [qI,qJ,qK]<;>omega)|exact qL _)) only [go_sem,↓reduceIte,n0,reduceCtorEq,n1,n2,n3,n4,n5,i0,i1,i2,i3,i4,i5,i6,i7,hrt_2,hrt_7,hrt_8,hrt_9,hrt_10,hri];exact hyv)) (by omega) (by omega) (by decide) ?_
      intro q rest hq1
      have hEw:Ext w38 (w38.drew.alloc (.cells (zs [.int .i32 0,.string ByteArray.empty,.int .u16 0,.map none] N2++rest).toArray 91)):=(Upd.refl _ _).drew.alloc _
      repeat (first|simp (disch:=(first|omega|(simp only [qI,qJ,qK]<;>omega)|exact qL _)) only [go_sem,↓reduceIte,n0,reduceCtorEq,n1,n2,n3,n4,n5,i0,i1,i2,i3,i4,i5,i6,i7,hv_38,hrt_2,hrt_7,hrt_8,hrt_9,hrt_10,hri]|refine qA rfl ?_|apply qB|refine qC rfl ?_|apply qD|apply qE|apply qF|apply qG|apply qH)
      exact ⟨(by simp (disch:=(first|omega|(simp only [qI,qJ,qK]<;>omega)|exact qL _)) only [go_sem,↓reduceIte,n0,reduceCtorEq,n1,n2,n3,n4,n5,i0,i1,i2,i3,i4,i5,i6,i7,Holds_nil,Holds_cons,hrt_2,hrt_7,hrt_8,hrt_9,hrt_10,hri]),.slice (some ⟨w38.heap.size,0,none⟩) N2 q,(by simp (disch:=(first|omega|(simp only [qI,qJ,qK]<;>omega)|exact qL _)) only [go_sem,↓reduceIte,n0,reduceCtorEq,n1,n2,n3,n4,n5,i0,i1,i2,i3,i4,i5,i6,i7,hrt_2,hrt_7,hrt_8,hrt_9,hrt_10,hri]),LstI.start (RowJ.start (by omega) hq1 (by show w38.heap.size≤w38.drew.heap.size;rw [size_drew];omega) (blk_alloc_new rfl)) ⟨cA.1.upd hEw (fun h=>h) (fun _ _ _ h=>h),cA.2.upd hEw fun h=>h⟩ (hEw.mono fun _ h=>h.elim),fun h0=>by omega⟩
     ·repeat ((first|refine qA rfl ?_|apply qB|refine qC rfl ?_|apply qD|apply qE|apply qF|apply qG|apply qH);try simp (disch:=(first|omega|(simp only [qI,qJ,qK]<;>omega)|exact qL _)) only [go_sem,↓reduceIte,n0,reduceCtorEq,n1,n2,n3,n4,n5,i0,i1,i2,i3,i4,i5,i6,i7,hv_38,hrt_2,hrt_7,hrt_8,hrt_9,hrt_10,hri])
      exact ⟨(by simp (disch:=(first|omega|(simp only [qI,qJ,qK]<;>omega)|exact qL _)) only [go_sem,↓reduceIte,n0,reduceCtorEq,n1,n2,n3,n4,n5,i0,i1,i2,i3,i4,i5,i6,i7,Holds_nil,Holds_cons,hrt_2,hrt_7,hrt_8,hrt_9,hrt_10,hri]),.slice none 0 0,(by simp (disch:=(first|omega|(simp only [qI,qJ,qK]<;>omega)|exact qL _)) only [go_sem,↓reduceIte,n0,reduceCtorEq,n1,n2,n3,n4,n5,i0,i1,i2,i3,i4,i5,i6,i7,hrt_2,hrt_7,hrt_8,hrt_9,hrt_10,hri,slBase_00]),LstI.start (RowJ.zero (by omega) (fun _ h=>by cases h)) cA (Upd.refl _ _),fun _=>by rw [nilS_plain (by decide) (by omega)];exact rfl⟩
    rintro ρ w39 ⟨⟨iF,iJ,iK,iL,iD,iG,iH,iI,-⟩,va2,b6,hL2,lZ⟩
    repeat ((first|refine qA rfl ?_|apply qB|refine qC rfl ?_|apply qD|apply qE|apply qF|apply qG|apply qH);try simp (disch:=(first|omega|(simp only [qI,qJ,qK]<;>omega)|exact qL _)) only [go_sem,↓reduceIte,n0,reduceCtorEq,n1,n2,n3,n4,n5,i0,i1,i2,i3,i4,i5,i6,i7,hv_38,iF,iJ,iK,iL,iD,iG,iH,iI,b6])
    refine W.exitRJ 7 (EndQ [(2,.bool false),(7,.pointer (some ⟨rb,0,none⟩)),(8,.int .i16 ver),(9,.bool true),(10,.pointer (some ⟨vb,0,none⟩)),(30,.int .u32 ((m+1:Nat):Int)),(32,.pointer (some ⟨rc0,0,none⟩)),(35,.int .i32 y2),(34,va2)] (fun w'=>∃ s xs css,LstI RT (rd1 (rdP (d+2) ver true) fQ_2.of fQ_2.sub false true) (Rep1 (RepS true (d+2)) fQ_2.of fQ_2.sub) 4 91 [.int .i32 0,.string ByteArray.empty,.int .u16 0,.map none] w38.heap.size N2 ok (fun b=>ok b∨w37.heap.size≤b) rc0 w38 s22 va2 N2 s xs css w')) (W.loop (LoopQ [(2,.bool false),(7,.pointer (some ⟨rb,0,none⟩)),(8,.int .i16 ver),(9,.bool true),(10,.pointer (some ⟨vb,0,none⟩)),(30,.int .u32 ((m+1:Nat):Int)),(32,.pointer (some ⟨rc0,0,none⟩)),(35,.int .i32 y2),(34,va2)] 36 (fun j w'=>∃ s xs css,LstI RT (rd1 (rdP (d+2) ver true) fQ_2.of fQ_2.sub false true) (Rep1 (RepS true (d+2)) fQ_2.of fQ_2.sub) 4 91 [.int .i32 0,.string ByteArray.empty,.int .u16 0,.map none] w38.heap.size N2 ok (fun b=>ok b∨w37.heap.size≤b) rc0 w38 s22 va2 j s xs css w')) (fun ρ _=>N2 - (RowKit.intOf (ρ 36)).toNat) ?_ ?_) ?_
    ·exact ⟨(by simp (disch:=(first|omega|(simp only [qI,qJ,qK]<;>omega)|exact qL _)) only [go_sem,↓reduceIte,n0,reduceCtorEq,n1,n2,n3,n4,n5,i0,i1,i2,i3,i4,i5,i6,i7,Holds_nil,Holds_cons,iF,iJ,iK,iL,iD,iG,iH,iI,b6]),0,(by simp (disch:=(first|omega|(simp only [qI,qJ,qK]<;>omega)|exact qL _)) only [go_sem,↓reduceIte,n0,reduceCtorEq,n1,n2,n3,n4,n5,i0,i1,i2,i3,i4,i5,i6,i7,iF,iJ,iK,iL,iD,iG,iH,iI,b6];all_goals rfl),s22,[],[],hL2⟩
    ·rintro ρ w40 ⟨⟨aC,bC,bD,bE,b7,b9,bA,bB,iO,-⟩,j1,bH,s23,xs2,css2,hL2⟩
     have hj2:=hL2.le
     have mF:=hL2.rd
     have kO:Upd (fun b=>b=vb∨b=rc0) w37 w40:=cQ.trans' hL2.upd fun i _ h=>.inr h
     have ED:=hL2.upd.size
     have A9:Glo ev w40:=bO.updS kO bV bW
     by_cases hlt2:j1 < N2
     ·obtain ⟨R1,q1,B1,bZ,rJ,rI,hA1,fV,dY⟩:=hL2.row.next hlt2
      have rQ:=blk_lt fV
      generalize css2.flatten=A1 at hA1 fV dY
      replace b6:ρ 34 = .slice (some ⟨R1,0,none⟩) N2 q1:=iO.trans bZ
      have c9:∀ b,ownB va2 b→w38.heap.size≤b∧b < w40.heap.size:=fun b h=>hL2.row.own h
      have bP:∀ b,(fun b=>(ok b∨w37.heap.size≤b)∧¬ ownB va2 b) b→¬ (b=R1∨b=rc0):=fun b hk h=>h.elim (fun e=>hk.2 ⟨_,_,_,bZ,e⟩) (fun e=>hoMc b hk.1 (.inr e))
      obtain ⟨X40,lB⟩:∃ X:Array Value,X=(A1++(([.int .i32 0,.string ByteArray.empty,.int .u16 0,.map none]:List Value)++B1)).toArray:=⟨_,rfl⟩
      have wL:blk w40 R1=some (X40,91,(0,0)):=by rw [lB];exact fV
      have BW:j1 * 4+4≤X40.size:=by rw [lB];simp only [List.size_toArray,List.length_append,List.length_cons,List.length_nil,hA1];omega
      repeat ((first|refine qA rfl ?_|apply qB|refine qC rfl ?_|apply qD|apply qE|apply qF|apply qG|apply qH);try simp (disch:=(first|omega|(simp only [qI,qJ,qK]<;>omega)|exact qL _)) only [go_sem,↓reduceIte,n0,reduceCtorEq,n1,n2,n3,n4,n5,i0,i1,i2,i3,i4,i5,i6,i7,wL,aC,bC,bD,bE,b7,b9,bA,bB,b6,bH])
      refine (DefaultEX4_fn w40 fV hA1).mono ?_
      rintro _ w41 ⟨nI,iW⟩
      have uP:=And.intro (mF.1.upd iW (by omega) (fun b _ hk e=>by have:=(hok b hk).1;omega)) (mF.2.upd iW (by omega))
      have eY:Upd (fun b=>b=R1∨b=rc0) w40 w41:=iW.mono (fun _ h=>.inl h)
      have kP:Upd (fun b=>b=vb∨b=rc0) w37 w41:=kO.trans' eY fun i hi h=>h.elim (fun h=>by omega) .inr
      have EE:=eY.size
      have xD:Glo ev w41:=bO.updS kP bV bW
      obtain ⟨X41,lC⟩:∃ X:Array Value,X=(A1++(([.int .i32 0,.string ByteArray.empty,.int .u16 0,.map none]:List Value)++B1)).toArray:=⟨_,rfl⟩
      have wM:blk w41 R1=some (X41,91,(0,0)):=by rw [lC];exact nI
      have BX:j1 * 4+4≤X41.size:=by rw [lC];simp only [List.size_toArray,List.length_append,List.length_cons,List.length_nil,hA1];omega
      have sV:(rdL (rdP (d+1) ver true) (dfP (d+1)) ver true [fX4_0,fX4_1,fX4_2] s23).2=none→FB:=fun h=>lV (hL2.bad hlt2 rd1P_none (by show (rd1 (rdP (d+2) ver true) 10 fs_X4 false true s23).2=none;rw [rd1_part];exact rdP_bad h))
      obtain ⟨xt0e2_0,oI⟩:∃ x,x=dfF (dfP (d+1)) fX4_0:=⟨_,rfl⟩
      have tA:RepF (RepS true (d+1)) (szS true (d+1)) fX4_0 (fun b=>(ok b∨w37.heap.size≤b)∧¬ ownB va2 b) w41 (xt0e2_0) [.int .i32 0]:=by rw [oI];exact (RepF_num (by decide)).2 rfl
      have lQ:hasS fX4_0 ver=false:=hasS_f (by show ver < 1∨(0≤(-1:Int)∧(-1:Int) < ver);omega)
      have sW:(rdL (rdP (d+1) ver true) (dfP (d+1)) ver true [fX4_1,fX4_2] s23).2=none→FB:=fun h=>sV (by rw [rdL_no lQ];exact h)
      obtain ⟨xt0e2_1,oJ⟩:∃ x,x=dfF (dfP (d+1)) fX4_1:=⟨_,rfl⟩
      have tB:RepF (RepS true (d+1)) (szS true (d+1)) fX4_1 (fun b=>(ok b∨w37.heap.size≤b)∧¬ ownB va2 b) w41 (xt0e2_1) [.string ByteArray.empty]:=by rw [oJ];exact (RepF_text rfl (by decide)).2 rfl
      have lR:hasS fX4_1 ver=false:=hasS_f (by show ver < 1∨(0≤(-1:Int)∧(-1:Int) < ver);omega)
      have C8:(rdL (rdP (d+1) ver true) (dfP (d+1)) ver true [fX4_2] s23).2=none→FB:=fun h=>sW (by rw [rdL_no lR];exact h)
      obtain ⟨xt0e2_2,oK⟩:∃ x,x=dfF (dfP (d+1)) fX4_2:=⟨_,rfl⟩
      have tC:RepF (RepS true (d+1)) (szS true (d+1)) fX4_2 (fun b=>(ok b∨w37.heap.size≤b)∧¬ ownB va2 b) w41 (xt0e2_2) [.int .u16 0]:=by rw [oK];exact (RepF_num (by decide)).2 rfl
      have tE:hasS fX4_2 ver=false:=hasS_f (by show ver < 1∨(0≤(-1:Int)∧(-1:Int) < ver);omega)
      have u5:rdL (rdP (d+1) ver true) (dfP (d+1)) ver true [] s23=([],s23):=rfl
      have u4:rdL (rdP (d+1) ver true) (dfP (d+1)) ver true [fX4_2] s23=([xt0e2_2],s23):=by rw [rdL_no tE,← oK,u5]
      have u3:rdL (rdP (d+1) ver true) (dfP (d+1)) ver true [fX4_1,fX4_2] s23=([xt0e2_1,xt0e2_2],s23):=by rw [rdL_no lR,← oJ,u4]
      have u2:rdL (rdP (d+1) ver true) (dfP (d+1)) ver true [fX4_0,fX4_1,fX4_2] s23=([xt0e2_0,xt0e2_1,xt0e2_2],s23):=by rw [rdL_no lQ,← oI,u3]
      have lI:rdP (d+2) ver true fs_X4 s23=(.mk 0 [] false [xt0e2_0,xt0e2_1,xt0e2_2] (rdTags s23).1,(rdTags s23).2):=rdP_t u2
      repeat ((first|refine qA rfl ?_|apply qB|refine qC rfl ?_|apply qD|apply qE|apply qF|apply qG|apply qH);try simp (disch:=(first|omega|(simp only [qI,qJ,qK]<;>omega)|exact qL _)) only [go_sem,↓reduceIte,n0,reduceCtorEq,n1,n2,n3,n4,n5,i0,i1,i2,i3,i4,i5,i6,i7,wM,aC,bC,bD,bE,b7,b9,bA,bB,b6,bH])
      refine (ReadTags_fn w41 uP.1 hrokc).mono ?_
      rintro _ w42 ⟨qmt0e2,rfl,AY,hTn,mG,nB⟩
      have nJ:=nB.blk_some nI (by omega)
      have eZ:Upd (fun b=>b=R1∨b=rc0) w41 w42:=nB.mono (fun _ h=>.inr h)
      have kQ:Upd (fun b=>b=vb∨b=rc0) w37 w42:=kP.trans' eZ fun i hi h=>h.elim (fun h=>by omega) .inr
      have EF:=eZ.size
      have AA:Glo ev w42:=bO.updS kQ bV bW
      obtain ⟨X42,lD⟩:∃ X:Array Value,X=(A1++(([.int .i32 0,.string ByteArray.empty,.int .u16 0,.map none]:List Value)++B1)).toArray:=⟨_,rfl⟩
      have wN:blk w42 R1=some (X42,91,(0,0)):=by rw [lD];exact nJ
      have BY:j1 * 4+4≤X42.size:=by rw [lD];simp only [List.size_toArray,List.length_append,List.length_cons,List.length_nil,hA1];omega
      obtain ⟨s24,mN⟩:∃ s,s=(rdTags s23).2:=⟨_,rfl⟩
      rw [← mN] at mG lI
      have D2:j1 * 4+4≤X42.size:=by omega
      repeat (first|simp (disch:=(first|omega|(simp only [qI,qJ,qK]<;>omega)|exact qL _)) only [go_sem,↓reduceIte,n0,reduceCtorEq,n1,n2,n3,n4,n5,i0,i1,i2,i3,i4,i5,i6,i7,wN,aC,bC,bD,bE,b7,b9,bA,bB,b6,bH,D2]|refine qA rfl ?_|apply qB|refine qC rfl ?_|apply qD|apply qE|apply qF|apply qG|apply qH)
      generalize hw43:wr w42 R1 (j1 * 4+3) [.map qmt0e2] = w43
      have sB:Upd (fun b=>b=R1∨b=rc0) w42 w43:=by rw [← hw43];exact (Upd.refl _ _).wr _ _ (.inr (.inl rfl))
      have nK:blk w43 R1=some ((A1++(([.int .i32 0,.string ByteArray.empty,.int .u16 0,.map qmt0e2]:List Value)++B1)).toArray,91,(0,0)):=by rw [← hw43];exact el_blk (o:=3) nJ hA1 (Nat.le_of_ble_eq_true rfl)
      have eE:=sB
      have oP:Upd (fun b=>b=vb∨b=rc0) w37 w43:=kQ.trans' eE fun i hi h=>h.elim (fun h=>by omega) .inr
      have EG:=eE.size
      have xE:Glo ev w43:=bO.updS oP bV bW
      have uQ:Rdr RT ok w43 rc0 s24∧NN w43 rc0 s24:=by
       have hn:∀ x,x=w43→(Rdr RT ok x rc0 s24∧NN x rc0 s24):=fun x hx=>by
        rw [hx,← hw43]
        exact Rdr.store mG (by omega) (fun h=>by have:=(hok _ h).1;first|omega|exact (hok _ h).2 rfl)
       exact hn _ rfl
      obtain ⟨X43,lE⟩:∃ X:Array Value,X=(A1++(([.int .i32 0,.string ByteArray.empty,.int .u16 0,.map qmt0e2]:List Value)++B1)).toArray:=⟨_,rfl⟩
      have pK:blk w43 R1=some (X43,91,(0,0)):=by rw [lE];exact nK
      have BZ:j1 * 4+4≤X43.size:=by rw [lE];simp only [List.size_toArray,List.length_append,List.length_cons,List.length_nil,hA1];omega
      clear hw43
      have sH:TagsM (fun b=>(ok b∨w37.heap.size≤b)∧¬ ownB va2 b) w43 (.map qmt0e2) (rdTags s23).1:=(AY.weaken fun b _ hk=>hk.elim (fun hk=>⟨.inl hk,fun ho=>by have:=(c9 b ho).1;have:=(hok b hk).1;omega⟩) (fun h=>by have h':w41.heap.size≤b:=h;exact ⟨.inr (by omega),fun ho=>by have:=(c9 _ ho).2;omega⟩)).keep (eE.keeps fun b _ hk e=>bP b hk e)
      have oL:Upd (fun b=>b=R1∨b=rc0) w43 w43:=Upd.refl _ _
      have qP:Upd (fun b=>b=R1∨b=rc0) w42 w43:=eE.trans oL
      have iY:Upd (fun b=>b=R1∨b=rc0) w41 w43:=eZ.trans qP
      have zE:Upd (fun b=>b=R1∨b=rc0) w40 w43:=eY.trans iY
      have rR:RepS true (d+2) fs_X4 (fun b=>(ok b∨w37.heap.size≤b)∧¬ ownB va2 b) w43 (.mk 0 [] false [xt0e2_0,xt0e2_1,xt0e2_2] (rdTags s23).1) [.int .i32 0,.string ByteArray.empty,.int .u16 0,.map qmt0e2]:=RepS.introT (c:=[.int .i32 0,.string ByteArray.empty,.int .u16 0]) (RepL.cons1 (tA.keepS (iY.keeps fun b _ hk e=>bP b hk e)) (RepL.cons1 (tB.keepS (iY.keeps fun b _ hk e=>bP b hk e)) (RepL.cons1 (tC.keepS (iY.keeps fun b _ hk e=>bP b hk e)) RepL.nil))) sH
      have hrE:(rd1 (rdP (d+2) ver true) fQ_2.of fQ_2.sub false true) s23=((.mk 0 [] false [xt0e2_0,xt0e2_1,xt0e2_2] (rdTags s23).1),s24):=by rw [show (rd1 (rdP (d+2) ver true) fQ_2.of fQ_2.sub false true) s23=_ from rd1_part];exact lI
      have hxE:(Rep1 (RepS true (d+2)) fQ_2.of fQ_2.sub) (fun b=>(ok b∨w37.heap.size≤b)∧¬ ownB va2 b) w43 (.mk 0 [] false [xt0e2_0,xt0e2_1,xt0e2_2] (rdTags s23).1) [.int .i32 0,.string ByteArray.empty,.int .u16 0,.map qmt0e2]:=Rep1_part.2 rR
      repeat ((first|refine qA rfl ?_|apply qB|refine qC rfl ?_|apply qD|apply qE|apply qF|apply qG|apply qH);try simp (disch:=(first|omega|(simp only [qI,qJ,qK]<;>omega)|exact qL _)) only [go_sem,↓reduceIte,n0,reduceCtorEq,n1,n2,n3,n4,n5,i0,i1,i2,i3,i4,i5,i6,i7,pK,aC,bC,bD,bE,b7,b9,bA,bB,b6,bH])
      have hTk:Upd (fun b=>b=R1∨b=rc0) w40 w43:=((eY.trans eZ).trans eE)
      have hL':=hL2.step (Rep1_lay _ _ fun _=>RepS_lay true _ _) hlt2 (dY w43 [.int .i32 0,.string ByteArray.empty,.int .u16 0,.map qmt0e2] rfl nK) (by rw [hrE];exact hxE) (hTk.mono fun b h=>h.imp (fun e=>⟨_,_,_,bZ,e⟩) id) (by rw [hrE];exact uQ) (fun h=>hoMc rc0 h (.inr rfl)) (Nat.le_refl _)
      have hij:IntKind.i32.wrap ((j1:Int)+1)=((j1+1:Nat):Int):=by rw [i32_wrap (by omega)];omega
      repeat ((first|refine qA rfl ?_|apply qB|refine qC rfl ?_|apply qD|apply qE|apply qF|apply qG|apply qH);try simp (disch:=(first|omega|(simp only [qI,qJ,qK]<;>omega)|exact qL _)) only [go_sem,↓reduceIte,n0,reduceCtorEq,n1,n2,n3,n4,n5,i0,i1,i2,i3,i4,i5,i6,i7,pK,aC,bC,bD,bE,b7,b9,bA,bB,b6,bH,hij])
      refine ⟨⟨(by simp (disch:=(first|omega|(simp only [qI,qJ,qK]<;>omega)|exact qL _)) only [go_sem,↓reduceIte,n0,reduceCtorEq,n1,n2,n3,n4,n5,i0,i1,i2,i3,i4,i5,i6,i7,Holds_nil,Holds_cons,aC,bC,bD,bE,b7,b9,bA,bB,b6,bH];exact bZ.symm),j1+1,(by simp (disch:=(first|omega|(simp only [qI,qJ,qK]<;>omega)|exact qL _)) only [go_sem,↓reduceIte,n0,reduceCtorEq,n1,n2,n3,n4,n5,i0,i1,i2,i3,i4,i5,i6,i7,aC,bC,bD,bE,b7,b9,bA,bB,b6,bH,hij];all_goals rfl),_,_,_,hL'⟩,?_⟩
      try simp (disch:=(first|omega|(simp only [qI,qJ,qK]<;>omega)|exact qL _)) only [go_sem,↓reduceIte,n0,reduceCtorEq,n1,n2,n3,n4,n5,i0,i1,i2,i3,i4,i5,i6,i7,aC,bC,bD,bE,b7,b9,bA,bB,b6,bH]
      simp only [RowKit.intOf]
      omega
     ·have hjN:j1=N2:=by omega
      rw [hjN] at hL2
      repeat ((first|refine qA rfl ?_|apply qB|refine qC rfl ?_|apply qD|apply qE|apply qF|apply qG|apply qH);try simp (disch:=(first|omega|(simp only [qI,qJ,qK]<;>omega)|exact qL _)) only [go_sem,↓reduceIte,n0,reduceCtorEq,n1,n2,n3,n4,n5,i0,i1,i2,i3,i4,i5,i6,i7,aC,bC,bD,bE,b7,b9,bA,bB,iO,bH])
      exact ⟨(by simp (disch:=(first|omega|(simp only [qI,qJ,qK]<;>omega)|exact qL _)) only [go_sem,↓reduceIte,n0,reduceCtorEq,n1,n2,n3,n4,n5,i0,i1,i2,i3,i4,i5,i6,i7,Holds_nil,Holds_cons,aC,bC,bD,bE,b7,b9,bA,bB,iO,bH]),s23,xs2,css2,hL2⟩
    rintro ρ w44 ⟨⟨bY,dA,dB,dC,cX,cY,cZ,d9,d8,-⟩,s25,xs2,css2,hL2⟩
    have pC:=hL2.rd
    have nC:=hL2.upd
    have hv_44:=nC.blk_some hv_38 (by omega)
    have gI:Upd (fun b=>b=vb∨b=rc0) w38 w44:=nC.mono (fun _ h=>.inr h)
    have kR:Upd (fun b=>b=vb∨b=rc0) w37 w44:=cQ.trans gI
    have EH:=gI.size
    have AB:Glo ev w44:=bO.updS kR bV bW
    have mJ:rdF (rdP (d+2) ver true) ver true fQ_2 s21=(.mk 0 [] (nilS fQ_2 ver y2) xs2 [],s25):=by
     have h:=rdF_listE (pt:=(rdP (d+2) ver true)) (v:=ver) (flex:=true) (f:=fQ_2) (s:=s21) (xs:=xs2) (e:=s25) rfl (by rw [hy2,← hN2,← iS];exact hL2.done)
     rw [hy2] at h;exact h
    have mO:s25=(rdF (rdP (d+2) ver true) ver true fQ_2 s21).2:=by rw [mJ]
    obtain ⟨aa2,qq2,vT⟩:=hL2.row.shape
    subst vT
    repeat ((first|refine qA rfl ?_|apply qB|refine qC rfl ?_|apply qD|apply qE|apply qF|apply qG|apply qH);try simp (disch:=(first|omega|(simp only [qI,qJ,qK]<;>omega)|exact qL _)) only [go_sem,↓reduceIte,n0,reduceCtorEq,n1,n2,n3,n4,n5,i0,i1,i2,i3,i4,i5,i6,i7,hv_44,bY,dA,dB,dC,cX,cY,cZ,d9,d8])
    generalize fT:wr w44 vb 3 [.slice aa2 N2 qq2] = w45
    have sC:Upd (fun b=>b=vb∨b=rc0) w44 w45:=by rw [← fT];exact (Upd.refl _ _).wr _ _ (.inr (.inl rfl))
    have hv_45:blk w45 vb=some (#[.int .i16 ver,.int .i16 (rdInt .i16 2 s0).1,.slice aa0 N0 qq0,.slice aa2 N2 qq2,.map qm],80,(0,0)):=by rw [← fT,blk_wr_eq,hv_44];rfl
    have g7:=sC
    have fZ:Upd (fun b=>b=vb∨b=rc0) w37 w45:=kR.trans g7
    have EI:=g7.size
    have rH:Glo ev w45:=bO.updS fZ bV bW
    have uR:Rdr RT ok w45 rc0 s25∧NN w45 rc0 s25:=by
     have hn:∀ x,x=w45→(Rdr RT ok x rc0 s25∧NN x rc0 s25):=fun x hx=>by
      rw [hx,← fT]
      exact Rdr.store pC (by omega) (fun h=>by have:=(hok _ h).1;first|omega|exact (hok _ h).2 rfl)
     exact hn _ rfl
    clear fT
    have t8:RepF (RepS true (d+2)) (szS true (d+2)) fQ_2 (fun b=>ok b∨w37.heap.size≤b) w45 (xt0_2) [.slice aa2 N2 qq2]:=by rw [oH,mJ];exact RepF.keepS (RepF_row rfl lZ hN2 rfl hL2.row hL2.all (fun b hb=>.inr (by omega))) (g7.keeps fun b _ hk e=>(hoMc b hk) e)
    clear hL2 lZ
    repeat ((first|refine qA rfl ?_|apply qB|refine qC rfl ?_|apply qD|apply qE|apply qF|apply qG|apply qH);try simp (disch:=(first|omega|(simp only [qI,qJ,qK]<;>omega)|exact qL _)) only [go_sem,↓reduceIte,n0,reduceCtorEq,n1,n2,n3,n4,n5,i0,i1,i2,i3,i4,i5,i6,i7,hv_45,bY,dA,dB,dC,cX,cY,cZ,d9,d8])
    refine (RComplete_fn w45 uR.1 rH.2).mono ?_
    rintro _ wz ⟨rfl,hez⟩
    rw [hez]
    clear hez wz
    have hxF:rdF (rdP (d+2) ver true) ver true fQ_2 s21=(xt0_2,s25):=by rw [oH,mO]
    by_cases hsz:s25=none
    ·rw [errV_none hsz]
     obtain ⟨eT,ep,hevE⟩:=hev
     rw [hevE]
     repeat (first|simp (disch:=(first|omega|(simp only [qI,qJ,qK]<;>omega)|exact qL _)) only [go_sem,↓reduceIte,n0,reduceCtorEq,n1,n2,n3,n4,n5,i0,i1,i2,i3,i4,i5,i6,i7,hv_45,bY,dA,dB,dC,cX,cY,cZ,d9,d8]|refine qA rfl ?_|apply qB|refine qC rfl ?_|apply qD|apply qE|apply qF|apply qG|apply qH)
     rw [← hevE]
     exact ReadQ.bad (Eq.mp hFB (hbT (by rw [hxF];exact hsz))) (hbasec.trans' fZ fun i hi h=>h.elim id fun h=>by omega)
    have hen:errV ev s25 = .nilIface:=errV_some hsz
    rw [hen]
    repeat (first|simp (disch:=(first|omega|(simp only [qI,qJ,qK]<;>omega)|exact qL _)) only [go_sem,↓reduceIte,n0,reduceCtorEq,n1,n2,n3,n4,n5,i0,i1,i2,i3,i4,i5,i6,i7,hv_45,bY,dA,dB,dC,cX,cY,cZ,d9,d8,hw1]|refine qA rfl ?_|apply qB|refine qC rfl ?_|apply qD|apply qE|apply qF|apply qG|apply qH)
    have hRk:Upd (fun b=>b=vb∨b=rb) w33 w45:=hQo.trans' fZ fun i hi h=>h.elim .inl fun h=>by omega
    have hzr:=hRk.size
    have hE2:rdTg (rdP (d+2) ver true) ver true fs_Q m [x_0,x_1,xt0_2] u s20=rdTgs (rdP (d+2) ver true) ver true fs_Q [x_0,x_1,x_2] s15:=by
     have h:=(rdTg_known (k:=0) (hK.symm.trans hk0) rfl (by rw [← dD,← hSL,← hSP,← iR];exact hxF) hsz).symm.trans hE
     rw [← dD,← hSL,← fB] at h;exact h
    have hO2:tagOnce fs_Q m (0 :: ks) s20:=by
     have h:=hO.2
     rw [← hK,hk0,← dD,← hSL,← fB] at h;exact h
    refine ⟨⟨(by simp (disch:=(first|omega|(simp only [qI,qJ,qK]<;>omega)|exact qL _)) only [go_sem,↓reduceIte,n0,reduceCtorEq,n1,n2,n3,n4,n5,i0,i1,i2,i3,i4,i5,i6,i7,Holds_nil,Holds_cons,bY,dA,dB,dC,cX,cY,cZ,d9,d8]),m,(by simp (disch:=(first|omega|(simp only [qI,qJ,qK]<;>omega)|exact qL _)) only [go_sem,↓reduceIte,n0,reduceCtorEq,n1,n2,n3,n4,n5,i0,i1,i2,i3,i4,i5,i6,i7,bY,dA,dB,dC,cX,cY,cZ,d9,d8,hw1];all_goals rfl),u,s20,qm,0 :: ks,xt0_2,.slice aa2 N2 qq2,by omega,hE2,hv_45,RepF.weakenS t8 (fun b hb hk=>⟨hk.imp id fun h=>by omega,hb,fun h=>by have:=hmap b h;rcases hk with hk|hk<;>first|omega|(have:=(hok b hk).1;omega)⟩),hO2,(fun h=>absurd (List.mem_cons_self ..) h),hTG.keep (fun b hb hk=>hRk.keep b hb fun e=>by rcases hk with hk|hk<;>rcases e with e|e<;>first|omega|(have:=hok b hk.1;omega)),hnd,⟨hqo.1.upd fZ (by omega) (fun b _ hk e=>by have:=hok b hk;omega),hqo.2.upd fZ (by omega)⟩,dQ.trans hRk⟩,?_⟩
    try simp (disch:=(first|omega|(simp only [qI,qJ,qK]<;>omega)|exact qL _)) only [go_sem,↓reduceIte,n0,reduceCtorEq,n1,n2,n3,n4,n5,i0,i1,i2,i3,i4,i5,i6,i7,bY,dA,dB,dC,cX,cY,cZ,d9,d8]
    simp only [RowKit.intOf]
    omega
   ·have tF:¬ (K:Int)=0:=by omega
    repeat ((first|refine qA rfl ?_|apply qB|refine qC rfl ?_|apply qD|apply qE|apply qF|apply qG|apply qH);try simp (disch:=(first|omega|(simp only [qI,qJ,qK]<;>omega)|exact qL _)) only [go_sem,↓reduceIte,n0,reduceCtorEq,n1,n2,n3,n4,n5,i0,i1,i2,i3,i4,i5,i6,i7,hv_34,hrt_2,hrt_7,hrt_8,hrt_9,hrt_10,hri,tF])
    have hQk:Upd (fun b=>b=vb∨b=rb) w33 w34:=eX
    have hEd:Ext w34 w34.drew:=(Upd.refl _ _).drew
    have hqd:Rdr RT ok w34.drew rb s18∧NN w34.drew rb s18:=⟨f8.1.upd hEd (fun h=>h) (fun _ _ _ h=>h),f8.2.upd hEd fun h=>h⟩
    have hnb:∀ b,¬ b=rb→¬ b=rb:=fun _ h=>h
    refine W.drawR (.take 0 (.take 1 (.take 2 (.take 3 (.only 4 (.take 5 (.only 6 (.last 7)))))))) (fun b=>b=rb) mixed (by kernel_rfl) ?_
    try simp (disch:=(first|omega|(simp only [qI,qJ,qK]<;>omega)|exact qL _|(refine hnb _ ?_;first|omega|(simp only [World.size_alloc,size_wr,size_drew]<;>omega)))) only [go_sem,↓reduceIte,n0,reduceCtorEq,n1,n2,n3,n4,n5,i0,i1,i2,i3,i4,i5,i6,i7,hv_34,hrt_2,hrt_7,hrt_8,hrt_9,hrt_10,hri]
    refine (RUvarint_fn w34.drew hqd.1 hrok).mono ?_
    rintro _ w35 ⟨rfl,cV,eC⟩
    have hSl:=rdUv_lt s18
    obtain ⟨s26,mP⟩:∃ s,s=(rdUv s18).2:=⟨_,rfl⟩
    rw [← mP] at cV
    obtain ⟨SL,hSL⟩:∃ N,N=(rdUv s18).1:=⟨_,rfl⟩
    rw [← hSL] at hSl
    try rw [← hSL]
    have e64:IntKind.i64.wrap (SL:Int)=SL:=i64_wrap (by omega)
    have hP1:Upd (fun b=>b=rb) w34.drew w35:=eC
    have hv_35:=eC.blk_some (show blk w34.drew vb=_ from hv_34) (by omega)
    refine ⟨hP1,?_⟩
    try simp (disch:=(first|omega|(simp only [qI,qJ,qK]<;>omega)|exact qL _|(refine hnb _ ?_;first|omega|(simp only [World.size_alloc,size_wr,size_drew]<;>omega)))) only [go_sem,↓reduceIte,n0,reduceCtorEq,n1,n2,n3,n4,n5,i0,i1,i2,i3,i4,i5,i6,i7,hv_35,e64,hrt_2,hrt_7,hrt_8,hrt_9,hrt_10,hri]
    refine (Span_fn w35 cV.1 hrok _).mono ?_
    rintro r36 w36 ⟨hBs,_,_,hqx,hqy,eD⟩
    have cW:=And.intro hqx (hqy (.inl cV.2))
    clear hqx hqy
    obtain ⟨s27,jN⟩:∃ s,s=(rdSpan (SL:Int) s26).2:=⟨_,rfl⟩
    rw [← jN] at cW
    obtain ⟨SP,hSP⟩:∃ x,x=(rdSpan (SL:Int) s26).1:=⟨_,rfl⟩
    rw [← hSP] at hBs
    rw [mP] at hSP jN
    obtain ⟨spa,spc,rfl,_⟩:=hBs.shape
    have hP2:Upd (fun b=>b=rb) w34.drew w36:=hP1.trans eD
    have hv_36:=eD.blk_some hv_35 (by omega)
    refine ⟨hP2,?_⟩
    try simp (disch:=(first|omega|(simp only [qI,qJ,qK]<;>omega)|exact qL _|(refine hnb _ ?_;first|omega|(simp only [World.size_alloc,size_wr,size_drew]<;>omega)))) only [go_sem,↓reduceIte,n0,reduceCtorEq,n1,n2,n3,n4,n5,i0,i1,i2,i3,i4,i5,i6,i7,hv_36,e64,hrt_2,hrt_7,hrt_8,hrt_9,hrt_10,hri]
    have hR7:Upd (fun b=>b=vb∨b=rb) w33 w36:=hQk.trans ((hEd.mono fun _ h=>h.elim).trans (hP2.mono fun _ h=>.inr h))
    have hz7:=hR7.size
    have sD:=hTG.keep (w':=w36) (fun b hb hk=>hR7.keep b hb fun e=>by rcases hk with hk|hk<;>rcases e with e|e<;>first|omega|(have:=hok b hk.1;omega))
    refine (TagsPutX_fn (okT:=ok) (L:=w32.heap.size) w36 sD (by omega) (by omega) hv_36 (o:=4) rfl (thaw_00 _ _) (K,SP) _ (hBs.weaken fun b _ hk=>⟨hk,by have:=hok b hk;omega⟩) hKl hnd (fun b hk=>(hok b hk).2)).mono ?_
    rintro _ w37 ⟨qn,hb8,sE,hU8,hnw⟩
    have hv_37:blk w37 vb=some (#[.int .i16 ver,.int .i16 (rdInt .i16 2 s0).1,.slice aa0 N0 qq0,v_3,.map qn],80,(0,0)):=hb8
    have hUz:Upd (fun b=>b=vb∨b=rb) w32 w37:=(dQ.trans hR7).trans' hU8 fun i hi h=>h.elim .inl fun h=>by cases h;have:=hmap _ rfl;omega
    have hz8:=hU8.size
    have hn:∀ f∈([fQ_0,fQ_1,fQ_2]:List Fld),f.tag≠(K:Int):=by
     intro f hf
     simp only [List.mem_cons,List.not_mem_nil,or_false] at hf
     rcases hf with rfl|rfl|rfl
     ·intro h;have h':(-1:Int)=(K:Int):=h;omega
     ·intro h;have h':(-1:Int)=(K:Int):=h;omega
     ·intro h;have h':(0:Int)=(K:Int):=h;omega
    have hE2:rdTg (rdP (d+2) ver true) ver true fs_Q m [x_0,x_1,y_2] (tagPut u (K,SP)) s27=rdTgs (rdP (d+2) ver true) ver true fs_Q [x_0,x_1,x_2] s15:=by
     have h:=(rdTg_unk (by rw [← hK];exact tagX_none hn)).symm.trans hE
     rw [← hK,← dD,← hSL,← hSP,← jN] at h;exact h
    have hO2:tagOnce fs_Q m (K :: ks) s27:=by
     have h:=hO.2
     rw [← hK,← dD,← hSL,← jN] at h;exact h
    have hrm:¬ (rb=vb∨Value.map qm = .map (some rb)):=fun h=>h.elim (fun h=>by omega) fun h=>by cases h;have:=hmap _ rfl;omega
    repeat (first|simp (disch:=(first|omega|(simp only [qI,qJ,qK]<;>omega)|exact qL _)) only [go_sem,↓reduceIte,n0,reduceCtorEq,n1,n2,n3,n4,n5,i0,i1,i2,i3,i4,i5,i6,i7,hv_37,hrt_2,hrt_7,hrt_8,hrt_9,hrt_10,hri,hw1]|refine qA rfl ?_|apply qB|refine qC rfl ?_|apply qD|apply qE|apply qF|apply qG|apply qH)
    refine ⟨⟨(by simp (disch:=(first|omega|(simp only [qI,qJ,qK]<;>omega)|exact qL _)) only [go_sem,↓reduceIte,n0,reduceCtorEq,n1,n2,n3,n4,n5,i0,i1,i2,i3,i4,i5,i6,i7,Holds_nil,Holds_cons,hrt_2,hrt_7,hrt_8,hrt_9,hrt_10,hri]),m,(by simp (disch:=(first|omega|(simp only [qI,qJ,qK]<;>omega)|exact qL _)) only [go_sem,↓reduceIte,n0,reduceCtorEq,n1,n2,n3,n4,n5,i0,i1,i2,i3,i4,i5,i6,i7,hrt_2,hrt_7,hrt_8,hrt_9,hrt_10,hri,hw1];all_goals rfl),_,s27,qn,K :: ks,y_2,v_3,by omega,hE2,hv_37,RepF.weakenS ((hfT_2.keepS (hR7.keeps fun b _ hk e=>(hoM b hk.1) e)).keepS (hU8.keeps fun b _ hk e=>e.elim (fun e=>hoM b hk.1 (.inl e)) fun e=>hk.2.2 (by cases e;rfl))) (fun b hb hk=>⟨hk.1,hb,fun h=>(hnw b h).elim (fun h=>hk.2.2 (by cases h;rfl)) fun h=>by have:=hk.2.1;omega⟩),hO2,(fun h=>hd_2 (fun h'=>h (List.mem_cons_of_mem _ h'))),sE,tagPut_keys _ _ hnd,⟨cW.1.upd hU8 hrm (fun b _ hk h=>h.elim (fun h=>(hok b hk).2 h) fun h=>by cases h;have:=hmap _ rfl;have:=hok _ hk;omega),cW.2.upd hU8 hrm⟩,hUz⟩,?_⟩
    try simp (disch:=(first|omega|(simp only [qI,qJ,qK]<;>omega)|exact qL _)) only [go_sem,↓reduceIte,n0,reduceCtorEq,n1,n2,n3,n4,n5,i0,i1,i2,i3,i4,i5,i6,i7,hrt_2,hrt_7,hrt_8,hrt_9,hrt_10,hri]
    simp only [RowKit.intOf]
    omega
 rintro ρ w38 ⟨⟨hrz_2,hrz_7,hrz_8,hrz_9,hrz_10,-⟩,u,s28,qm,ks,y_2,v_3,hE0,hv_38,hfT_2,-,-,hTG,hnd,cA,sK⟩
 have dH:Upd (fun b=>b=vb∨b=rb) w32 w38:=sK
 have cQ:Upd (fun b=>b=vb∨b=rb) w1 w38:=dP.trans dH
 have wT:=dH.size
 have gB:Glo ev w38:=hG1.updS cQ aA aB
 have hf_2:=RepF.weakenS hfT_2 (ok':=fun b=>(ok b∨w1.heap.size≤b)) fun b _ hk=>hk.1
 have hTg:TagsM (fun b=>ok b∨w1.heap.size≤b) w38 (.map qm) u:=hTG.tags (fun b _ hk=>.inl hk) (fun b hb=>.inr (by omega))
 have hfin:rdM (d+2) ver true fs_Q s0=(.mk 0 [] false [x_0,x_1,y_2] u,s28):=rdM_t hl_0 hE0.symm
 have hC_38:Upd (fun b=>b=vb∨b=rb) w38 w38:=Upd.refl _ _
 have hC_32:Upd (fun b=>b=vb∨b=rb) w32 w38:=dH.trans hC_38
 have hC_31:Upd (fun b=>b=vb∨b=rb) w31 w38:=dO.trans hC_32
 have hC_30:Upd (fun b=>b=vb∨b=rb) w30 w38:=dE.trans hC_31
 have hC_4:Upd (fun b=>b=vb∨b=rb) w4 w38:=dN.trans hC_30
 have hC_3:Upd (fun b=>b=vb∨b=rb) w3 w38:=hV4.trans hC_4
 have hC_2:Upd (fun b=>b=vb∨b=rb) w2 w38:=hV3.trans hC_3
 have hC_1:Upd (fun b=>b=vb∨b=rb) w1 w38:=hV2.trans hC_2
 have hR:RepS true (d+3) fs_Q (fun b=>ok b∨w1.heap.size≤b) w38 (.mk 0 [] false [x_0,x_1,y_2] u) [.int .i16 (rdInt .i16 2 s0).1,.slice aa0 N0 qq0,v_3,.map qm]:=RepS.introT (c:=[.int .i16 (rdInt .i16 2 s0).1,.slice aa0 N0 qq0,v_3]) (RepL.cons1 (hf_0.keepS (hC_3.keeps fun b _ hk e=>(hoM b hk) e)) (RepL.cons1 (hf_1.keepS (hC_31.keeps fun b _ hk e=>(hoM b hk) e)) (RepL.cons1 (hf_2.keepS (hC_38.keeps fun b _ hk e=>(hoM b hk) e)) RepL.nil))) hTg
 repeat ((first|refine qA rfl ?_|apply qB|refine qC rfl ?_|apply qD|apply qE|apply qF|apply qG|apply qH);try simp (disch:=(first|omega|(simp only [qI,qJ,qK]<;>omega)|exact qL _)) only [go_sem,↓reduceIte,n0,reduceCtorEq,n1,n2,n3,n4,n5,i0,i1,i2,i3,i4,i5,i6,i7,hv_38,hrz_2,hrz_7,hrz_8,hrz_9,hrz_10])
 refine (RComplete_fn w38 cA.1 gB.2).mono ?_
 rintro _ wz ⟨rfl,hez⟩
 rw [hez]
 repeat ((first|refine qA rfl ?_|apply qB|refine qC rfl ?_|apply qD|apply qE|apply qF|apply qG|apply qH);try simp (disch:=(first|omega|(simp only [qI,qJ,qK]<;>omega)|exact qL _)) only [go_sem,↓reduceIte,n0,reduceCtorEq,n1,n2,n3,n4,n5,i0,i1,i2,i3,i4,i5,i6,i7,hv_38,hrz_2,hrz_7,hrz_8,hrz_9,hrz_10])
 rw [hfin]
 refine ⟨fun h => ?_,fun h=>⟨?_,[.int .i16 (rdInt .i16 2 s0).1,.slice aa0 N0 qq0,v_3,.map qm],hv_38,?_⟩,?_⟩
 ·have h':s28=none:=h
  rw [h'];rfl
 ·cases hsn:s28 with
  | none=>exact absurd hsn h
  | some x=>rfl
 ·exact (RepS_lay true (d+3) fs_Q).weaken hR fun b _ hk=>hk.imp id fun h=>by omega
 ·exact hbase.trans' cQ fun i hi h=>h.elim id fun h=>by omega
end Ms

