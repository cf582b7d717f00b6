/- A part of the proof: see the last text. -/
import Derived.Test.YtbbhfngjfihndadDoorAlterPartitionRequestP0
set_option linter.unusedSimpArgs false
set_option linter.unusedVariables false
namespace Ms
open Go.World renaming size_alloc → qI
open Ms renaming size_wr → qJ,size_drew → qK,not_noB → qL
open W renaming seqR → qA,seq → qB,regR → qC,condK → qD,block → qE,skip → qF,ret → qG,exit → qH
open Nat renaming reduceEqDiff → n0,reduceAdd → n1,reduceMul → n2,reduceSub → n3,reduceLT → n4,reduceLeDiff → n5
open Int renaming reduceEq → i0,reduceLT → i1,reduceLE → i2,reduceNeg → i3,reduceAdd → i4,reduceSub → i5,reduceMul → i6,reduceToNat → i7
set_option maxRecDepth 8000
open Go Go.Proofs Go.Shelf
attribute [local congr] W_congr WPsq_congr WPp_congr optK_congr addrK_congr intK_congr boolK_congr sliceK_congr tupleK_congr funcK_congr Fn_congr rawK_congr takeK_congr stepK_congr convK_congr aggK_congr

set_option maxHeartbeats 24000000 in
theorem readQ_1b {un:Bool} {d:Nat} {ok:Blocks} {ver:Int} {ev:Value} (hlo:1≤ver) (hhi:ver≤1) (w:World) {vb:Nat} (src:Value) (s:List UInt8) (hv:blk w vb=some (#[.int .i16 ver,.int .i32 0,.int .i64 (-1),.slice none 0 0,.map none],57,(0,0))) (hsrc:BytesV ok w src s) (hok0:∀ b,ok b→b < w.heap.size∧b≠vb) (hG:Glo ev w) (hgv:¬ 0=vb∧¬ 1=vb) :
  Fn Tryd.prog 18 #[.pointer (some ⟨vb,0,none⟩),src,.bool un] w (ReadQ 57 ok ver (d+4) fs_Q vb w (rdP (d+4) ver true fs_Q (some s)) ev):=by
 have hcs:((un=true)=True∧(un=false)=False)∨((un=true)=False∧(un=false)=True):=by cases un<;>simp
 rcases hcs with ⟨hun,hun'⟩|⟨hun,hun'⟩
 all_goals
  have hvl:=blk_lt hv
  have hgs:=hG.lt
  obtain ⟨sa,sc,rfl,_⟩:=hsrc.shape
  refine fn_of_W Tryd.func18 rfl Tryd.results18 Tryd.ntmps18 rfl ?_
  repeat ((first|refine qA rfl ?_|apply qB|refine qC rfl ?_|apply qD|apply qE|apply qF|apply qG|apply qH);try simp (disch:=(first|omega|(simp only [qI,qJ,qK]<;>omega)|exact qL _)) only [go_sem,↓reduceIte,n0,reduceCtorEq,n1,n2,n3,n4,n5,i0,i1,i2,i3,i4,i5,i6,i7,hv])
  refine (DefaultQ_fn w hv).mono ?_
  rintro _ w0 ⟨hv0,hu0⟩
  have hz0:=hu0.size
  have hsrc0:BytesV ok w0 (.slice sa s.length sc) s:=hsrc.keep (hu0.keeps fun b _ hk e=>(hok0 b hk).2 e)
  obtain ⟨rb,hrb⟩:∃ r,r=w0.heap.size:=⟨_,rfl⟩
  have hE1:Ext w0 (wr (w0.alloc (.cells #[.slice none 0 0,.bool false] 69)) w0.heap.size 0 [.slice sa s.length sc,.bool false]):=(Upd.alloc (Upd.refl _ _) _).wr _ _ (.inl (Nat.le_refl _))
  have hz1:(wr (w0.alloc (.cells #[.slice none 0 0,.bool false] 69)) w0.heap.size 0 [.slice sa s.length sc,.bool false]).heap.size=w0.heap.size+1:=by rw [size_wr,World.size_alloc]
  have hR1:Rdr RT ok (wr (w0.alloc (.cells #[.slice none 0 0,.bool false] 69)) w0.heap.size 0 [.slice sa s.length sc,.bool false]) w0.heap.size (some s):=Rdr.good (v:=.slice sa s.length sc) (by simp (disch:=(first|omega|(simp only [qI,qJ,qK]<;>omega)|exact qL _)) only [go_sem,↓reduceIte,n0,reduceCtorEq,n1,n2,n3,n4,n5,i0,i1,i2,i3,i4,i5,i6,i7]) (hsrc0.keep (hE1.keeps _))
  have hv_1:=hE1.blk_some hv0 id
  repeat ((first|refine qA rfl ?_|apply qB|refine qC rfl ?_|apply qD|apply qE|apply qF|apply qG|apply qH);try simp (disch:=(first|omega|(simp only [qI,qJ,qK]<;>omega)|exact qL _)) only [go_sem,↓reduceIte,n0,reduceCtorEq,n1,n2,n3,n4,n5,i0,i1,i2,i3,i4,i5,i6,i7,hv0])
  generalize (wr (w0.alloc (.cells #[.slice none 0 0,.bool false] 69)) w0.heap.size 0 [.slice sa s.length sc,.bool false])=w1 at *
  rw [← hrb] at hR1
  try rw [← hrb]
  have hok:∀ b,ok b→b < w.heap.size∧b≠vb:=hok0
  have hrok:¬ ok rb:=fun h=>by have:=(hok rb h).1;omega
  have hbase:Upd (fun b=>b=vb) w w1:=hu0.trans (hE1.mono fun _ h=>h.elim)
  have hG1:Glo ev w1:=hG.updS hbase hgv.1 hgv.2
  have hgrb:¬ 0=rb:=by omega
  have hgM1:¬ (0=vb∨0=rb):=fun h=>h.elim hgv.1 fun h=>by omega
  have hgM2:¬ (1=vb∨1=rb):=fun h=>h.elim hgv.2 fun h=>by omega
  obtain ⟨s0,hs0⟩:∃ s':St,s'=some s:=⟨_,rfl⟩
  rw [← hs0] at hR1 ⊢
  have hU1:Upd (fun b=>b=vb∨b=rb) w1 w1:=Upd.refl _ _
  have hoM:∀ b,(ok b∨w1.heap.size≤b)→¬ (b=vb∨b=rb):=fun b hk h=>by
   rcases hk with hk|hk
   ·have:=hok b hk;rcases h with h|h<;>omega
   ·rcases h with h|h<;>omega
  have hq1:Rdr RT ok w1 rb s0:=hR1
  obtain ⟨FB,hFB⟩:∃ P:Prop,P=((rdP (d+4) ver true fs_Q s0).2=none):=⟨_,rfl⟩
  have hb_0:(rdL (rdP (d+3) ver true) (dfP (d+3)) ver true [fQ_0,fQ_1,fQ_2] s0).2=none→FB:=fun h=>Eq.mpr hFB (rdP_bad h)
  have hh_0:hasS fQ_0 ver=true:=hasS_t (by show (0:Int)≤ver;omega) (by show (-1:Int) < 0∨ver≤(-1:Int);omega)
  obtain ⟨x_0,hx_0⟩:∃ x,x=(rdF (rdP (d+3) ver true) ver true fQ_0 s0).1:=⟨_,rfl⟩
  repeat ((first|refine qA rfl ?_|apply qB|refine qC rfl ?_|apply qD|apply qE|apply qF|apply qG|apply qH);try simp (disch:=(first|omega|(simp only [qI,qJ,qK]<;>omega)|exact qL _)) only [go_sem,↓reduceIte,n0,reduceCtorEq,n1,n2,n3,n4,n5,i0,i1,i2,i3,i4,i5,i6,i7,hv_1,hun,hun'])
  have hrd:rdF (rdP (d+3) ver true) ver true fQ_0 s0=_:=rdF_num 3 rfl (by decide)
  refine (Int32_fn w1 hq1 hrok hG1.1 hgrb).mono ?_
  rintro _ w2 ⟨rfl,hq2,hu2⟩
  have hv_2:=hu2.blk_some hv_1 (by omega)
  have hV2:Upd (fun b=>b=vb∨b=rb) w1 w2:=hu2.mono (fun _ h=>.inr h)
  have hU2:Upd (fun b=>b=vb∨b=rb) w1 w2:=hU1.trans hV2
  have hz2:=hV2.size
  have hG2:Glo ev w2:=hG1.updS hU2 hgM1 hgM2
  have hst:(rdF (rdP (d+3) ver true) ver true fQ_0 s0).2=(rdInt .i32 4 s0).2:=by first|(rw [hrd];rfl)|rw [hrd]
  obtain ⟨s1,hs1⟩:∃ s,s=(rdF (rdP (d+3) ver true) ver true fQ_0 s0).2:=⟨_,rfl⟩
  rw [← hst,← hs1] at hq2
  clear hst
  repeat ((first|refine qA rfl ?_|apply qB|refine qC rfl ?_|apply qD|apply qE|apply qF|apply qG|apply qH);try simp (disch:=(first|omega|(simp only [qI,qJ,qK]<;>omega)|exact qL _)) only [go_sem,↓reduceIte,n0,reduceCtorEq,n1,n2,n3,n4,n5,i0,i1,i2,i3,i4,i5,i6,i7,hv_2,hun,hun'])
  generalize hw3:wr w2 vb 1 [.int .i32 (rdInt .i32 4 s0).1] = w3
  have hS3:Upd (fun b=>b=vb∨b=rb) w2 w3:=by rw [← hw3];exact (Upd.refl _ _).wr _ _ (.inr (.inl rfl))
  have hv_3:blk w3 vb=some (#[.int .i16 ver,.int .i32 (rdInt .i32 4 s0).1,.int .i64 (-1),.slice none 0 0,.map none],57,(0,0)):=by rw [← hw3,blk_wr_eq,hv_2];rfl
  have hV3:=hS3
  have hU3:Upd (fun b=>b=vb∨b=rb) w1 w3:=hU2.trans hV3
  have hz3:=hV3.size
  have hG3:Glo ev w3:=hG1.updS hU3 hgM1 hgM2
  have hq3:Rdr RT ok w3 rb s1∧NN w3 rb s1:=by
   have hn:∀ x,x=w3→(Rdr RT ok x rb s1∧NN x rb s1):=fun x hx=>by
    rw [hx,← hw3]
    exact Rdr.store hq2 (by omega) (fun h=>by have:=(hok _ h).1;first|omega|exact (hok _ h).2 rfl)
   exact hn _ rfl
  clear hw3
  have hf_0:RepF (RepS true (d+3)) (szS true (d+3)) fQ_0 (fun b=>ok b∨w1.heap.size≤b) w3 (x_0) [.int .i32 (rdInt .i32 4 s0).1]:=(RepF_num (by decide)).2 (by rw [hx_0,hrd];exact congrArg (fun x=>[x]) (numC_rd 3 (by decide) 4 s0).symm)
  clear hrd
  have hb_1:(rdL (rdP (d+3) ver true) (dfP (d+3)) ver true [fQ_1,fQ_2] s1).2=none→FB:=fun h=>hb_0 (by rw [rdL_st (by decide) hh_0,← hs1];exact h)
  have hh_1:hasS fQ_1 ver=true:=hasS_t (by show (0:Int)≤ver;omega) (by show (-1:Int) < 0∨ver≤(-1:Int);omega)
  obtain ⟨x_1,hx_1⟩:∃ x,x=(rdF (rdP (d+3) ver true) ver true fQ_1 s1).1:=⟨_,rfl⟩
  repeat ((first|refine qA rfl ?_|apply qB|refine qC rfl ?_|apply qD|apply qE|apply qF|apply qG|apply qH);try simp (disch:=(first|omega|(simp only [qI,qJ,qK]<;>omega)|exact qL _)) only [go_sem,↓reduceIte,n0,reduceCtorEq,n1,n2,n3,n4,n5,i0,i1,i2,i3,i4,i5,i6,i7,hv_3,hun,hun'])
  have hrd:rdF (rdP (d+3) ver true) ver true fQ_1 s1=_:=rdF_num 4 rfl (by decide)
  refine (Int64_fn w3 hq3.1 hrok hG3.1 hgrb).mono ?_
  rintro _ w4 ⟨rfl,hq4,hu4⟩
  have hv_4:=hu4.blk_some hv_3 (by omega)
  have hV4:Upd (fun b=>b=vb∨b=rb) w3 w4:=hu4.mono (fun _ h=>.inr h)
  have hU4:Upd (fun b=>b=vb∨b=rb) w1 w4:=hU3.trans hV4
  have hz4:=hV4.size
  have hG4:Glo ev w4:=hG1.updS hU4 hgM1 hgM2
  have hst:(rdF (rdP (d+3) ver true) ver true fQ_1 s1).2=(rdInt .i64 8 s1).2:=by first|(rw [hrd];rfl)|rw [hrd]
  obtain ⟨s2,hs2⟩:∃ s,s=(rdF (rdP (d+3) ver true) ver true fQ_1 s1).2:=⟨_,rfl⟩
  rw [← hst,← hs2] at hq4
  clear hst
  repeat ((first|refine qA rfl ?_|apply qB|refine qC rfl ?_|apply qD|apply qE|apply qF|apply qG|apply qH);try simp (disch:=(first|omega|(simp only [qI,qJ,qK]<;>omega)|exact qL _)) only [go_sem,↓reduceIte,n0,reduceCtorEq,n1,n2,n3,n4,n5,i0,i1,i2,i3,i4,i5,i6,i7,hv_4,hun,hun'])
  generalize hw5:wr w4 vb 2 [.int .i64 (rdInt .i64 8 s1).1] = w5
  have hS5:Upd (fun b=>b=vb∨b=rb) w4 w5:=by rw [← hw5];exact (Upd.refl _ _).wr _ _ (.inr (.inl rfl))
  have hv_5:blk w5 vb=some (#[.int .i16 ver,.int .i32 (rdInt .i32 4 s0).1,.int .i64 (rdInt .i64 8 s1).1,.slice none 0 0,.map none],57,(0,0)):=by rw [← hw5,blk_wr_eq,hv_4];rfl
  have hV5:=hS5
  have hU5:Upd (fun b=>b=vb∨b=rb) w1 w5:=hU4.trans hV5
  have hz5:=hV5.size
  have hG5:Glo ev w5:=hG1.updS hU5 hgM1 hgM2
  have hq5:Rdr RT ok w5 rb s2∧NN w5 rb s2:=by
   have hn:∀ x,x=w5→(Rdr RT ok x rb s2∧NN x rb s2):=fun x hx=>by
    rw [hx,← hw5]
    exact Rdr.store hq4 (by omega) (fun h=>by have:=(hok _ h).1;first|omega|exact (hok _ h).2 rfl)
   exact hn _ rfl
  clear hw5
  have hf_1:RepF (RepS true (d+3)) (szS true (d+3)) fQ_1 (fun b=>ok b∨w1.heap.size≤b) w5 (x_1) [.int .i64 (rdInt .i64 8 s1).1]:=(RepF_num (by decide)).2 (by rw [hx_1,hrd];exact congrArg (fun x=>[x]) (numC_rd 4 (by decide) 8 s1).symm)
  clear hrd
  have hb_2:(rdL (rdP (d+3) ver true) (dfP (d+3)) ver true [fQ_2] s2).2=none→FB:=fun h=>hb_1 (by rw [rdL_st (by decide) hh_1,← hs2];exact h)
  have hh_2:hasS fQ_2 ver=true:=hasS_t (by show (0:Int)≤ver;omega) (by show (-1:Int) < 0∨ver≤(-1:Int);omega)
  obtain ⟨x_2,hx_2⟩:∃ x,x=(rdF (rdP (d+3) ver true) ver true fQ_2 s2).1:=⟨_,rfl⟩
  repeat ((first|refine qA rfl ?_|apply qB|refine qC rfl ?_|apply qD|apply qE|apply qF|apply qG|apply qH);try simp (disch:=(first|omega|(simp only [qI,qJ,qK]<;>omega)|exact qL _)) only [go_sem,↓reduceIte,n0,reduceCtorEq,n1,n2,n3,n4,n5,i0,i1,i2,i3,i4,i5,i6,i7,hv_5,hun,hun'])
  refine (RCompactArrayLen_fn w5 hq5.1 hrok hG5.1 hgrb).mono ?_
  rintro _ w6 ⟨rfl,hq6,hu6⟩
  have hv_6:=hu6.blk_some hv_5 (by omega)
  have hV6:Upd (fun b=>b=vb∨b=rb) w5 w6:=hu6.mono (fun _ h=>.inr h)
  have hU6:Upd (fun b=>b=vb∨b=rb) w1 w6:=hU5.trans hV6
  have hz6:=hV6.size
  have hG6:Glo ev w6:=hG1.updS hU6 hgM1 hgM2
  obtain ⟨s3,hs3⟩:∃ s,s=(rdALen true s2).2:=⟨_,rfl⟩
  rw [← hs3] at hq6
  have hyr0:=rdALen_rng true s2
  generalize hy0:(rdALen true s2).1=y0 at *
  obtain ⟨N0,hN0⟩:∃ N,N=y0.toNat:=⟨_,rfl⟩
  have hlb0:(rdMany (rd1 (rdP (d+3) ver true) fQ_2.of fQ_2.sub false true) N0 s3).2=none→FB:=fun h=>hb_2 (by rw [rdL_st (by decide) hh_2];exact rdL_bad (rdF_listbad rfl (by rw [hy0,← hN0,← hs3];exact h)))
  repeat ((first|refine W.seqR rfl ?_|refine W.seq ?_|refine W.regR rfl ?_|refine W.block ?_|refine W.skip ?_|refine W.ret ?_|refine W.exit ?_);try simp (disch:=(first|omega|(simp only [qI,qJ,qK]<;>omega)|exact qL _)) only [go_sem,↓reduceIte,n0,reduceCtorEq,n1,n2,n3,n4,n5,i0,i1,i2,i3,i4,i5,i6,i7,hv_6,hun,hun'])
  refine (ROk_fn w6 hq6.1).mono ?_
  rintro _ wz ⟨rfl,hez⟩
  rw [hez]
  clear hez wz
  by_cases hsn0:s3=none
  ·have hso:s3.isSome=false:=by rw [hsn0];rfl
   repeat (first|simp (disch:=(first|omega|(simp only [qI,qJ,qK]<;>omega)|exact qL _)) only [go_sem,↓reduceIte,n0,reduceCtorEq,n1,n2,n3,n4,n5,i0,i1,i2,i3,i4,i5,i6,i7,hv_6,hun,hun',hso]|refine qA rfl ?_|apply qB|refine qC rfl ?_|apply qD|apply qE|apply qF|apply qG|apply qH)
   refine (RComplete_fn w6 hq6.1 hG6.2).mono ?_
   rintro _ wz ⟨rfl,hez⟩
   rw [hez]
   repeat (first|simp (disch:=(first|omega|(simp only [qI,qJ,qK]<;>omega)|exact qL _)) only [go_sem,↓reduceIte,n0,reduceCtorEq,n1,n2,n3,n4,n5,i0,i1,i2,i3,i4,i5,i6,i7,hv_6,hun,hun']|refine qA rfl ?_|apply qB|refine qC rfl ?_|apply qD|apply qE|apply qF|apply qG|apply qH)
   rw [errV_none hsn0]
   exact ReadQ.bad (Eq.mp hFB (hlb0 (by rw [hsn0];exact rdMany_none rd1P_none _))) (hbase.trans' hU6 fun i hi h=>h.elim id fun h=>by omega)
  have hso0:s3.isSome=true:=isSome_some hsn0
  try simp (disch:=(first|omega|(simp only [qI,qJ,qK]<;>omega)|exact qL _)) only [go_sem,↓reduceIte,n0,reduceCtorEq,n1,n2,n3,n4,n5,i0,i1,i2,i3,i4,i5,i6,i7,hv_6,hun,hun',hso0]
  repeat ((first|refine W.seqR rfl ?_|refine W.seq ?_|refine W.regR rfl ?_|refine W.block ?_|refine W.skip ?_|refine W.ret ?_|refine W.exit ?_);try simp (disch:=(first|omega|(simp only [qI,qJ,qK]<;>omega)|exact qL _)) only [go_sem,↓reduceIte,n0,reduceCtorEq,n1,n2,n3,n4,n5,i0,i1,i2,i3,i4,i5,i6,i7,hv_6,hun,hun',hso0])
  refine W.condK ?_
  try simp (disch:=(first|omega|(simp only [qI,qJ,qK]<;>omega)|exact qL _)) only [go_sem,↓reduceIte,n0,reduceCtorEq,n1,n2,n3,n4,n5,i0,i1,i2,i3,i4,i5,i6,i7,hv_6,hun,hun',hso0]
  repeat ((first|refine W.seqR rfl ?_|refine W.seq ?_|refine W.regR rfl ?_|refine W.block ?_|refine W.skip ?_|refine W.ret ?_|refine W.exit ?_);try simp (disch:=(first|omega|(simp only [qI,qJ,qK]<;>omega)|exact qL _)) only [go_sem,↓reduceIte,n0,reduceCtorEq,n1,n2,n3,n4,n5,i0,i1,i2,i3,i4,i5,i6,i7,hv_6,hun,hun',hso0,slBase_00])
  refine W.normJ (RowQ [(2,.bool un),(7,.pointer (some ⟨rb,0,none⟩)),(8,.int .i16 ver),(9,.bool true),(10,.pointer (some ⟨vb,0,none⟩)),(15,.int .i32 y0)] 14 (fun va w'=>LstI RT (rd1 (rdP (d+3) ver true) fQ_2.of fQ_2.sub false true) (Rep1 (RepS true (d+3)) fQ_2.of fQ_2.sub) 19 64 [.string ByteArray.empty,.int .u8 0,.int .u8 0,.int .u8 0,.int .u8 0,.int .u8 0,.int .u8 0,.int .u8 0,.int .u8 0,.int .u8 0,.int .u8 0,.int .u8 0,.int .u8 0,.int .u8 0,.int .u8 0,.int .u8 0,.int .u8 0,.slice none 0 0,.map none] w6.heap.size N0 ok (fun b=>ok b∨w1.heap.size≤b) rb w6 s3 va 0 s3 [] [] w'∧(N0=0→if nilS fQ_2 ver y0=true then va = .slice none 0 0 else ∃ a,va = .slice (some a) 0 0))) ?_ ?_
  ·by_cases hy0:(0:Int) < y0
   ·have hyv:Value.int .i32 y0 = .int .i32 ((N0:Nat):Int):=by rw [show y0=((N0:Nat):Int) by omega]
    repeat ((first|refine qA rfl ?_|apply qB|refine qC rfl ?_|apply qD|apply qE|apply qF|apply qG|apply qH);try simp (disch:=(first|omega|(simp only [qI,qJ,qK]<;>omega)|exact qL _)) only [go_sem,↓reduceIte,n0,reduceCtorEq,n1,n2,n3,n4,n5,i0,i1,i2,i3,i4,i5,i6,i7,hv_6,hun,hun'])
    refine wp_appendZ (m:=N0) utQ_52 utQ_21 inQ_64 (by decide) (by first|rfl|simp (disch:=(first|omega|(simp only [qI,qJ,qK]<;>omega)|exact qL _)) only [go_sem,↓reduceIte,n0,reduceCtorEq,n1,n2,n3,n4,n5,i0,i1,i2,i3,i4,i5,i6,i7]) (by first|exact hyv|(simp (disch:=(first|omega|(simp only [qI,qJ,qK]<;>omega)|exact qL _)) only [go_sem,↓reduceIte,n0,reduceCtorEq,n1,n2,n3,n4,n5,i0,i1,i2,i3,i4,i5,i6,i7];exact hyv)) (by omega) (by omega) (by decide) ?_
    intro q rest hq1
    have hEw:Ext w6 (w6.drew.alloc (.cells (zs [.string ByteArray.empty,.int .u8 0,.int .u8 0,.int .u8 0,.int .u8 0,.int .u8 0,.int .u8 0,.int .u8 0,.int .u8 0,.int .u8 0,.int .u8 0,.int .u8 0,.int .u8 0,.int .u8 0,.int .u8 0,.int .u8 0,.int .u8 0,.slice none 0 0,.map none] N0++rest).toArray 64)):=(Upd.refl _ _).drew.alloc _
    repeat (first|simp (disch:=(first|omega|(simp only [qI,qJ,qK]<;>omega)|exact qL _)) only [go_sem,↓reduceIte,n0,reduceCtorEq,n1,n2,n3,n4,n5,i0,i1,i2,i3,i4,i5,i6,i7,hv_6,hun,hun']|refine qA rfl ?_|apply qB|refine qC rfl ?_|apply qD|apply qE|apply qF|apply qG|apply qH)
    exact ⟨(by simp (disch:=(first|omega|(simp only [qI,qJ,qK]<;>omega)|exact qL _)) only [go_sem,↓reduceIte,n0,reduceCtorEq,n1,n2,n3,n4,n5,i0,i1,i2,i3,i4,i5,i6,i7,Holds_nil,Holds_cons]),.slice (some ⟨w6.heap.size,0,none⟩) N0 q,(by simp (disch:=(first|omega|(simp only [qI,qJ,qK]<;>omega)|exact qL _)) only [go_sem,↓reduceIte,n0,reduceCtorEq,n1,n2,n3,n4,n5,i0,i1,i2,i3,i4,i5,i6,i7]),LstI.start (RowJ.start (by omega) hq1 (by show w6.heap.size≤w6.drew.heap.size;rw [size_drew];omega) (blk_alloc_new rfl)) ⟨hq6.1.upd hEw (fun h=>h) (fun _ _ _ h=>h),hq6.2.upd hEw fun h=>h⟩ (hEw.mono fun _ h=>h.elim),fun h0=>by omega⟩
   ·repeat ((first|refine qA rfl ?_|apply qB|refine qC rfl ?_|apply qD|apply qE|apply qF|apply qG|apply qH);try simp (disch:=(first|omega|(simp only [qI,qJ,qK]<;>omega)|exact qL _)) only [go_sem,↓reduceIte,n0,reduceCtorEq,n1,n2,n3,n4,n5,i0,i1,i2,i3,i4,i5,i6,i7,hv_6,hun,hun'])
    exact ⟨(by simp (disch:=(first|omega|(simp only [qI,qJ,qK]<;>omega)|exact qL _)) only [go_sem,↓reduceIte,n0,reduceCtorEq,n1,n2,n3,n4,n5,i0,i1,i2,i3,i4,i5,i6,i7,Holds_nil,Holds_cons]),.slice none 0 0,(by simp (disch:=(first|omega|(simp only [qI,qJ,qK]<;>omega)|exact qL _)) only [go_sem,↓reduceIte,n0,reduceCtorEq,n1,n2,n3,n4,n5,i0,i1,i2,i3,i4,i5,i6,i7,slBase_00]),LstI.start (RowJ.zero (by omega) (fun _ h=>by cases h)) hq6 (Upd.refl _ _),fun _=>by rw [nilS_plain (by decide) (by omega)];exact rfl⟩
  rintro ρ w7 ⟨⟨hrb0_2,hrb0_7,hrb0_8,hrb0_9,hrb0_10,hrb0_15,-⟩,va0,hra0,hL0,hnc0⟩
  repeat ((first|refine qA rfl ?_|apply qB|refine qC rfl ?_|apply qD|apply qE|apply qF|apply qG|apply qH);try simp (disch:=(first|omega|(simp only [qI,qJ,qK]<;>omega)|exact qL _)) only [go_sem,↓reduceIte,n0,reduceCtorEq,n1,n2,n3,n4,n5,i0,i1,i2,i3,i4,i5,i6,i7,hv_6,hrb0_2,hrb0_7,hrb0_8,hrb0_9,hrb0_10,hrb0_15,hra0,exitRQ_ret,exitRQ_exit,Int.toNat_natCast,Nat.mul_one,hun,hun'])
  refine W.exitRJ 0 (EndQ [(2,.bool un),(7,.pointer (some ⟨rb,0,none⟩)),(8,.int .i16 ver),(9,.bool true),(10,.pointer (some ⟨vb,0,none⟩)),(15,.int .i32 y0),(14,va0)] (fun w'=>∃ s xs css,LstI RT (rd1 (rdP (d+3) ver true) fQ_2.of fQ_2.sub false true) (Rep1 (RepS true (d+3)) fQ_2.of fQ_2.sub) 19 64 [.string ByteArray.empty,.int .u8 0,.int .u8 0,.int .u8 0,.int .u8 0,.int .u8 0,.int .u8 0,.int .u8 0,.int .u8 0,.int .u8 0,.int .u8 0,.int .u8 0,.int .u8 0,.int .u8 0,.int .u8 0,.int .u8 0,.int .u8 0,.slice none 0 0,.map none] w6.heap.size N0 ok (fun b=>ok b∨w1.heap.size≤b) rb w6 s3 va0 N0 s xs css w')) (W.loop (LoopQ [(2,.bool un),(7,.pointer (some ⟨rb,0,none⟩)),(8,.int .i16 ver),(9,.bool true),(10,.pointer (some ⟨vb,0,none⟩)),(15,.int .i32 y0),(14,va0)] 16 (fun j w'=>∃ s xs css,LstI RT (rd1 (rdP (d+3) ver true) fQ_2.of fQ_2.sub false true) (Rep1 (RepS true (d+3)) fQ_2.of fQ_2.sub) 19 64 [.string ByteArray.empty,.int .u8 0,.int .u8 0,.int .u8 0,.int .u8 0,.int .u8 0,.int .u8 0,.int .u8 0,.int .u8 0,.int .u8 0,.int .u8 0,.int .u8 0,.int .u8 0,.int .u8 0,.int .u8 0,.int .u8 0,.int .u8 0,.slice none 0 0,.map none] w6.heap.size N0 ok (fun b=>ok b∨w1.heap.size≤b) rb w6 s3 va0 j s xs css w')) (fun ρ _=>N0 - (RowKit.intOf (ρ 16)).toNat) ?_ ?_) ?_
  ·exact ⟨(by simp (disch:=(first|omega|(simp only [qI,qJ,qK]<;>omega)|exact qL _)) only [go_sem,↓reduceIte,n0,reduceCtorEq,n1,n2,n3,n4,n5,i0,i1,i2,i3,i4,i5,i6,i7,Holds_nil,Holds_cons,hrb0_2,hrb0_7,hrb0_8,hrb0_9,hrb0_10,hrb0_15,hra0]),0,(by simp (disch:=(first|omega|(simp only [qI,qJ,qK]<;>omega)|exact qL _)) only [go_sem,↓reduceIte,n0,reduceCtorEq,n1,n2,n3,n4,n5,i0,i1,i2,i3,i4,i5,i6,i7,hrb0_2,hrb0_7,hrb0_8,hrb0_9,hrb0_10,hrb0_15,hra0];all_goals rfl),s3,[],[],hL0⟩
  ·rintro ρ w8 ⟨⟨hrc0_2,hrc0_7,hrc0_8,hrc0_9,hrc0_10,hrc0_15,hrc0_14,-⟩,j1,hri0,s4,xs0,css0,hL0⟩
   have hj0:=hL0.le
   have hq8:=hL0.rd
   have hU8:Upd (fun b=>b=vb∨b=rb) w1 w8:=hU6.trans' hL0.upd fun i _ h=>.inr h
   have hz8:=hL0.upd.size
   have hG8:Glo ev w8:=hG1.updS hU8 hgM1 hgM2
   by_cases hlt0:j1 < N0
   ·obtain ⟨R1,q1,B1,hva1,hNq1,hLR1,hA1,hx1_8,hnext1⟩:=hL0.row.next hlt0
    have hRl1:=blk_lt hx1_8
    generalize css0.flatten=A1 at hA1 hx1_8 hnext1
    replace hra0:ρ 14 = .slice (some ⟨R1,0,none⟩) N0 q1:=hrc0_14.trans hva1
    have hown1:∀ b,ownB va0 b→w6.heap.size≤b∧b < w8.heap.size:=fun b h=>hL0.row.own h
    have hoM1:∀ b,(fun b=>(ok b∨w1.heap.size≤b)∧¬ ownB va0 b) b→¬ (b=R1∨b=rb):=fun b hk h=>h.elim (fun e=>hk.2 ⟨_,_,_,hva1,e⟩) (fun e=>hoM b hk.1 (.inr e))
    obtain ⟨X8,hX8⟩:∃ X:Array Value,X=(A1++(([.string ByteArray.empty,.int .u8 0,.int .u8 0,.int .u8 0,.int .u8 0,.int .u8 0,.int .u8 0,.int .u8 0,.int .u8 0,.int .u8 0,.int .u8 0,.int .u8 0,.int .u8 0,.int .u8 0,.int .u8 0,.int .u8 0,.int .u8 0,.slice none 0 0,.map none]:List Value)++B1)).toArray:=⟨_,rfl⟩
    have hxb8:blk w8 R1=some (X8,64,(0,0)):=by rw [hX8];exact hx1_8
    have hXs8:j1 * 19+19≤X8.size:=by rw [hX8];simp only [List.size_toArray,List.length_append,List.length_cons,List.length_nil,hA1];omega
    repeat ((first|refine qA rfl ?_|apply qB|refine qC rfl ?_|apply qD|apply qE|apply qF|apply qG|apply qH);try simp (disch:=(first|omega|(simp only [qI,qJ,qK]<;>omega)|exact qL _)) only [go_sem,↓reduceIte,n0,reduceCtorEq,n1,n2,n3,n4,n5,i0,i1,i2,i3,i4,i5,i6,i7,hxb8,hrc0_2,hrc0_7,hrc0_8,hrc0_9,hrc0_10,hrc0_15,hra0,hri0,exitRQ_ret,exitRQ_exit,Int.toNat_natCast,Nat.mul_one,hun,hun'])
    refine (DefaultEX2_fn w8 hx1_8 hA1).mono ?_
    rintro _ w9 ⟨hx1_9,hu9⟩
    have hq9:=And.intro (hq8.1.upd hu9 (by omega) (fun b _ hk e=>by have:=(hok b hk).1;omega)) (hq8.2.upd hu9 (by omega))
    have hV9:Upd (fun b=>b=R1∨b=rb) w8 w9:=hu9.mono (fun _ h=>.inl h)
    have hU9:Upd (fun b=>b=vb∨b=rb) w1 w9:=hU8.trans' hV9 fun i hi h=>h.elim (fun h=>by omega) .inr
    have hz9:=hV9.size
    have hG9:Glo ev w9:=hG1.updS hU9 hgM1 hgM2
    obtain ⟨X9,hX9⟩:∃ X:Array Value,X=(A1++(([.string ByteArray.empty,.int .u8 0,.int .u8 0,.int .u8 0,.int .u8 0,.int .u8 0,.int .u8 0,.int .u8 0,.int .u8 0,.int .u8 0,.int .u8 0,.int .u8 0,.int .u8 0,.int .u8 0,.int .u8 0,.int .u8 0,.int .u8 0,.slice none 0 0,.map none]:List Value)++B1)).toArray:=⟨_,rfl⟩
    have hxb9:blk w9 R1=some (X9,64,(0,0)):=by rw [hX9];exact hx1_9
    have hXs9:j1 * 19+19≤X9.size:=by rw [hX9];simp only [List.size_toArray,List.length_append,List.length_cons,List.length_nil,hA1];omega
    have hbe0_0:(rdL (rdP (d+2) ver true) (dfP (d+2)) ver true [fX2_0,fX2_1,fX2_2] s4).2=none→FB:=fun h=>hlb0 (hL0.bad hlt0 rd1P_none (by show (rd1 (rdP (d+3) ver true) 10 fs_X2 false true s4).2=none;rw [rd1_part];exact rdP_bad h))
    have hhe0_0:hasS fX2_0 ver=true:=hasS_t (by show (0:Int)≤ver;omega) (by show (1:Int) < 0∨ver≤(1:Int);omega)
    obtain ⟨xe0_0,hxe0_0⟩:∃ x,x=(rdF (rdP (d+2) ver true) ver true fX2_0 s4).1:=⟨_,rfl⟩
    repeat ((first|refine qA rfl ?_|apply qB|refine qC rfl ?_|apply qD|apply qE|apply qF|apply qG|apply qH);try simp (disch:=(first|omega|(simp only [qI,qJ,qK]<;>omega)|exact qL _)) only [go_sem,↓reduceIte,n0,reduceCtorEq,n1,n2,n3,n4,n5,i0,i1,i2,i3,i4,i5,i6,i7,hxb9,hrc0_2,hrc0_7,hrc0_8,hrc0_9,hrc0_10,hrc0_15,hra0,hri0,exitRQ_ret,exitRQ_exit,Int.toNat_natCast,Nat.mul_one,hun,hun'])
    have hmay:mayS fX2_0 ver=false:=mayS_no (by show (-1:Int) < 0∨ver < (-1:Int);omega)
    have hrd:rdF (rdP (d+2) ver true) ver true fX2_0 s4=_:=rdF_text rfl hmay
    first|refine (RUnsafeCompactString_fn w9 hq9.1 hrok hG9.1 hgrb).mono ?_|refine (RCompactString_fn w9 hq9.1 hrok hG9.1 hgrb).mono ?_
    rintro _ w10 ⟨rfl,hq10,hu10⟩
    have hx1_10:=hu10.blk_some hx1_9 (by omega)
    have hV10:Upd (fun b=>b=R1∨b=rb) w9 w10:=hu10.mono (fun _ h=>.inr h)
    have hU10:Upd (fun b=>b=vb∨b=rb) w1 w10:=hU9.trans' hV10 fun i hi h=>h.elim (fun h=>by omega) .inr
    have hz10:=hV10.size
    have hG10:Glo ev w10:=hG1.updS hU10 hgM1 hgM2
    obtain ⟨X10,hX10⟩:∃ X:Array Value,X=(A1++(([.string ByteArray.empty,.int .u8 0,.int .u8 0,.int .u8 0,.int .u8 0,.int .u8 0,.int .u8 0,.int .u8 0,.int .u8 0,.int .u8 0,.int .u8 0,.int .u8 0,.int .u8 0,.int .u8 0,.int .u8 0,.int .u8 0,.int .u8 0,.slice none 0 0,.map none]:List Value)++B1)).toArray:=⟨_,rfl⟩
    have hxb10:blk w10 R1=some (X10,64,(0,0)):=by rw [hX10];exact hx1_10
    have hXs10:j1 * 19+19≤X10.size:=by rw [hX10];simp only [List.size_toArray,List.length_append,List.length_cons,List.length_nil,hA1];omega
    have hst:(rdF (rdP (d+2) ver true) ver true fX2_0 s4).2=(rdStr true s4).2:=by first|(rw [hrd];rfl)|rw [hrd]
    obtain ⟨s5,hs5⟩:∃ s,s=(rdF (rdP (d+2) ver true) ver true fX2_0 s4).2:=⟨_,rfl⟩
    rw [← hst,← hs5] at hq10
    clear hst
    have hst10_0:j1 * 19+1≤X10.size:=by omega
    have hld10_17:X10[j1 * 19+17]? = some (.slice none 0 0):=by rw [hX10];exact el_cell (R:=0) hA1 (Nat.le_of_ble_eq_true rfl)
    repeat ((first|refine qA rfl ?_|apply qB|refine qC rfl ?_|apply qD|apply qE|apply qF|apply qG|apply qH);try simp (disch:=(first|omega|(simp only [qI,qJ,qK]<;>omega)|exact qL _)) only [go_sem,↓reduceIte,n0,reduceCtorEq,n1,n2,n3,n4,n5,i0,i1,i2,i3,i4,i5,i6,i7,hxb10,hrc0_2,hrc0_7,hrc0_8,hrc0_9,hrc0_10,hrc0_15,hra0,hri0,exitRQ_ret,exitRQ_exit,Int.toNat_natCast,Nat.mul_one,hun,hun',hst10_0,hld10_17,Array.getElem?_setIfInBounds_ne])
    generalize hw11:wr w10 R1 (j1 * 19) [strV (rdStr true s4).1] = w11
    have hS11:Upd (fun b=>b=R1∨b=rb) w10 w11:=by rw [← hw11];exact (Upd.refl _ _).wr _ _ (.inr (.inl rfl))
    have hx1_11:blk w11 R1=some ((A1++(([strV (rdStr true s4).1,.int .u8 0,.int .u8 0,.int .u8 0,.int .u8 0,.int .u8 0,.int .u8 0,.int .u8 0,.int .u8 0,.int .u8 0,.int .u8 0,.int .u8 0,.int .u8 0,.int .u8 0,.int .u8 0,.int .u8 0,.int .u8 0,.slice none 0 0,.map none]:List Value)++B1)).toArray,64,(0,0)):=by rw [← hw11];exact el_blk0 hx1_10 hA1 (Nat.le_of_ble_eq_true rfl)
    have hV11:=hS11
    have hU11:Upd (fun b=>b=vb∨b=rb) w1 w11:=hU10.trans' hV11 fun i hi h=>h.elim (fun h=>by omega) .inr
    have hz11:=hV11.size
    have hG11:Glo ev w11:=hG1.updS hU11 hgM1 hgM2
    have hq11:Rdr RT ok w11 rb s5∧NN w11 rb s5:=by
     have hn:∀ x,x=w11→(Rdr RT ok x rb s5∧NN x rb s5):=fun x hx=>by
      rw [hx,← hw11]
      exact Rdr.store hq10 (by omega) (fun h=>by have:=(hok _ h).1;first|omega|exact (hok _ h).2 rfl)
     exact hn _ rfl
    obtain ⟨X11,hX11⟩:∃ X:Array Value,X=(A1++(([strV (rdStr true s4).1,.int .u8 0,.int .u8 0,.int .u8 0,.int .u8 0,.int .u8 0,.int .u8 0,.int .u8 0,.int .u8 0,.int .u8 0,.int .u8 0,.int .u8 0,.int .u8 0,.int .u8 0,.int .u8 0,.int .u8 0,.int .u8 0,.slice none 0 0,.map none]:List Value)++B1)).toArray:=⟨_,rfl⟩
    have hxb11:blk w11 R1=some (X11,64,(0,0)):=by rw [hX11];exact hx1_11
    have hXs11:j1 * 19+19≤X11.size:=by rw [hX11];simp only [List.size_toArray,List.length_append,List.length_cons,List.length_nil,hA1];omega
    clear hw11
    have hfe0_0:RepF (RepS true (d+2)) (szS true (d+2)) fX2_0 (fun b=>(ok b∨w1.heap.size≤b)∧¬ ownB va0 b) w11 (xe0_0) [strV (rdStr true s4).1]:=(RepF_text rfl (by decide)).2 (by rw [hxe0_0,hrd];rfl)
    clear hrd
    have hbe0_1:(rdL (rdP (d+2) ver true) (dfP (d+2)) ver true [fX2_1,fX2_2] s5).2=none→FB:=fun h=>hbe0_0 (by rw [rdL_st (by decide) hhe0_0,← hs5];exact h)
    obtain ⟨xe0_1,hxe0_1⟩:∃ x,x=dfF (dfP (d+2)) fX2_1:=⟨_,rfl⟩
    have hfe0_1:RepF (RepS true (d+2)) (szS true (d+2)) fX2_1 (fun b=>(ok b∨w1.heap.size≤b)∧¬ ownB va0 b) w11 (xe0_1) [.int .u8 0,.int .u8 0,.int .u8 0,.int .u8 0,.int .u8 0,.int .u8 0,.int .u8 0,.int .u8 0,.int .u8 0,.int .u8 0,.int .u8 0,.int .u8 0,.int .u8 0,.int .u8 0,.int .u8 0,.int .u8 0]:=by rw [hxe0_1];exact (RepF_uuid rfl).2 rfl
    have hhe0_1:hasS fX2_1 ver=false:=hasS_f (by show ver < 2∨(0≤(-1:Int)∧(-1:Int) < ver);omega)
    have hbe0_2:(rdL (rdP (d+2) ver true) (dfP (d+2)) ver true [fX2_2] s5).2=none→FB:=fun h=>hbe0_1 (by rw [rdL_no hhe0_1];exact h)
    have hhe0_2:hasS fX2_2 ver=true:=hasS_t (by show (0:Int)≤ver;omega) (by show (-1:Int) < 0∨ver≤(-1:Int);omega)
    obtain ⟨xe0_2,hxe0_2⟩:∃ x,x=(rdF (rdP (d+2) ver true) ver true fX2_2 s5).1:=⟨_,rfl⟩
    have hld11_17:X11[j1 * 19+17]? = some (.slice none 0 0):=by rw [hX11];exact el_cell (R:=0) hA1 (Nat.le_of_ble_eq_true rfl)
    repeat ((first|refine qA rfl ?_|apply qB|refine qC rfl ?_|apply qD|apply qE|apply qF|apply qG|apply qH);try simp (disch:=(first|omega|(simp only [qI,qJ,qK]<;>omega)|exact qL _)) only [go_sem,↓reduceIte,n0,reduceCtorEq,n1,n2,n3,n4,n5,i0,i1,i2,i3,i4,i5,i6,i7,hxb11,hrc0_2,hrc0_7,hrc0_8,hrc0_9,hrc0_10,hrc0_15,hra0,hri0,exitRQ_ret,exitRQ_exit,Int.toNat_natCast,Nat.mul_one,hun,hun',hld11_17])
    refine (RCompactArrayLen_fn w11 hq11.1 hrok hG11.1 hgrb).mono ?_
    rintro _ w12 ⟨rfl,hq12,hu12⟩
    have hx1_12:=hu12.blk_some hx1_11 (by omega)
    have hV12:Upd (fun b=>b=R1∨b=rb) w11 w12:=hu12.mono (fun _ h=>.inr h)
    have hU12:Upd (fun b=>b=vb∨b=rb) w1 w12:=hU11.trans' hV12 fun i hi h=>h.elim (fun h=>by omega) .inr
    have hz12:=hV12.size
    have hG12:Glo ev w12:=hG1.updS hU12 hgM1 hgM2
    obtain ⟨X12,hX12⟩:∃ X:Array Value,X=(A1++(([strV (rdStr true s4).1,.int .u8 0,.int .u8 0,.int .u8 0,.int .u8 0,.int .u8 0,.int .u8 0,.int .u8 0,.int .u8 0,.int .u8 0,.int .u8 0,.int .u8 0,.int .u8 0,.int .u8 0,.int .u8 0,.int .u8 0,.int .u8 0,.slice none 0 0,.map none]:List Value)++B1)).toArray:=⟨_,rfl⟩
    have hxb12:blk w12 R1=some (X12,64,(0,0)):=by rw [hX12];exact hx1_12
    have hXs12:j1 * 19+19≤X12.size:=by rw [hX12];simp only [List.size_toArray,List.length_append,List.length_cons,List.length_nil,hA1];omega
    obtain ⟨s6,hs6⟩:∃ s,s=(rdALen true s5).2:=⟨_,rfl⟩
    rw [← hs6] at hq12
    have hyr1:=rdALen_rng true s5
    generalize hy1:(rdALen true s5).1=y1 at *
    obtain ⟨N1,hN1⟩:∃ N,N=y1.toNat:=⟨_,rfl⟩
    have hlb1:(rdMany (rd1 (rdP (d+2) ver true) fX2_2.of fX2_2.sub false true) N1 s6).2=none→FB:=fun h=>hbe0_2 (by rw [rdL_st (by decide) hhe0_2];exact rdL_bad (rdF_listbad rfl (by rw [hy1,← hN1,← hs6];exact h)))
    repeat ((first|refine W.seqR rfl ?_|refine W.seq ?_|refine W.regR rfl ?_|refine W.block ?_|refine W.skip ?_|refine W.ret ?_|refine W.exit ?_);try simp (disch:=(first|omega|(simp only [qI,qJ,qK]<;>omega)|exact qL _)) only [go_sem,↓reduceIte,n0,reduceCtorEq,n1,n2,n3,n4,n5,i0,i1,i2,i3,i4,i5,i6,i7,hxb12,hrc0_2,hrc0_7,hrc0_8,hrc0_9,hrc0_10,hrc0_15,hra0,hri0,exitRQ_ret,exitRQ_exit,Int.toNat_natCast,Nat.mul_one,hun,hun'])
    refine (ROk_fn w12 hq12.1).mono ?_
    rintro _ wz ⟨rfl,hez⟩
    rw [hez]
    clear hez wz
    by_cases hsn1:s6=none
    ·have hso:s6.isSome=false:=by rw [hsn1];rfl
     repeat (first|simp (disch:=(first|omega|(simp only [qI,qJ,qK]<;>omega)|exact qL _)) only [go_sem,↓reduceIte,n0,reduceCtorEq,n1,n2,n3,n4,n5,i0,i1,i2,i3,i4,i5,i6,i7,hxb12,hrc0_2,hrc0_7,hrc0_8,hrc0_9,hrc0_10,hrc0_15,hra0,hri0,exitRQ_ret,exitRQ_exit,Int.toNat_natCast,Nat.mul_one,hun,hun',hso]|refine qA rfl ?_|apply qB|refine qC rfl ?_|apply qD|apply qE|apply qF|apply qG|apply qH)
     refine (RComplete_fn w12 hq12.1 hG12.2).mono ?_
     rintro _ wz ⟨rfl,hez⟩
     rw [hez]
     repeat (first|simp (disch:=(first|omega|(simp only [qI,qJ,qK]<;>omega)|exact qL _)) only [go_sem,↓reduceIte,n0,reduceCtorEq,n1,n2,n3,n4,n5,i0,i1,i2,i3,i4,i5,i6,i7,hxb12,hrc0_2,hrc0_7,hrc0_8,hrc0_9,hrc0_10,hrc0_15,hra0,hri0,exitRQ_ret,exitRQ_exit,Int.toNat_natCast,Nat.mul_one,hun,hun']|refine qA rfl ?_|apply qB|refine qC rfl ?_|apply qD|apply qE|apply qF|apply qG|apply qH)
     rw [errV_none hsn1]
     exact ReadQ.bad (Eq.mp hFB (hlb1 (by rw [hsn1];exact rdMany_none rd1P_none _))) (hbase.trans' hU12 fun i hi h=>h.elim id fun h=>by omega)
    have hso1:s6.isSome=true:=isSome_some hsn1
    try simp (disch:=(first|omega|(simp only [qI,qJ,qK]<;>omega)|exact qL _)) only [go_sem,↓reduceIte,n0,reduceCtorEq,n1,n2,n3,n4,n5,i0,i1,i2,i3,i4,i5,i6,i7,hxb12,hrc0_2,hrc0_7,hrc0_8,hrc0_9,hrc0_10,hrc0_15,hra0,hri0,exitRQ_ret,exitRQ_exit,Int.toNat_natCast,Nat.mul_one,hun,hun',hso1]
    repeat ((first|refine W.seqR rfl ?_|refine W.seq ?_|refine W.regR rfl ?_|refine W.block ?_|refine W.skip ?_|refine W.ret ?_|refine W.exit ?_);try simp (disch:=(first|omega|(simp only [qI,qJ,qK]<;>omega)|exact qL _)) only [go_sem,↓reduceIte,n0,reduceCtorEq,n1,n2,n3,n4,n5,i0,i1,i2,i3,i4,i5,i6,i7,hxb12,hrc0_2,hrc0_7,hrc0_8,hrc0_9,hrc0_10,hrc0_15,hra0,hri0,exitRQ_ret,exitRQ_exit,Int.toNat_natCast,Nat.mul_one,hun,hun',hso1])
    refine W.condK ?_
    try simp (disch:=(first|omega|(simp only [qI,qJ,qK]<;>omega)|exact qL _)) only [go_sem,↓reduceIte,n0,reduceCtorEq,n1,n2,n3,n4,n5,i0,i1,i2,i3,i4,i5,i6,i7,hxb12,hrc0_2,hrc0_7,hrc0_8,hrc0_9,hrc0_10,hrc0_15,hra0,hri0,exitRQ_ret,exitRQ_exit,Int.toNat_natCast,Nat.mul_one,hun,hun',hso1]
    repeat ((first|refine W.seqR rfl ?_|refine W.seq ?_|refine W.regR rfl ?_|refine W.block ?_|refine W.skip ?_|refine W.ret ?_|refine W.exit ?_);try simp (disch:=(first|omega|(simp only [qI,qJ,qK]<;>omega)|exact qL _)) only [go_sem,↓reduceIte,n0,reduceCtorEq,n1,n2,n3,n4,n5,i0,i1,i2,i3,i4,i5,i6,i7,hxb12,hrc0_2,hrc0_7,hrc0_8,hrc0_9,hrc0_10,hrc0_15,hra0,hri0,exitRQ_ret,exitRQ_exit,Int.toNat_natCast,Nat.mul_one,hun,hun',hso1,slBase_00])
    refine W.normJ (RowQ [(2,.bool un),(7,.pointer (some ⟨rb,0,none⟩)),(8,.int .i16 ver),(9,.bool true),(10,.pointer (some ⟨vb,0,none⟩)),(15,.int .i32 y0),(14,.slice (some ⟨R1,0,none⟩) N0 q1),(16,.int .i32 j1),(18,.pointer (some ⟨R1,j1 * 19,none⟩)),(23,.int .i32 y1)] 22 (fun va w'=>LstI RT (rd1 (rdP (d+2) ver true) fX2_2.of fX2_2.sub false true) (Rep1 (RepS true (d+2)) fX2_2.of fX2_2.sub) 7 81 [.int .i32 0,.int .i32 0,.slice none 0 0,.slice none 0 0,.int .i8 0,.int .i32 0,.map none] w12.heap.size N1 ok (fun b=>(ok b∨w1.heap.size≤b)∧¬ ownB va0 b) rb w12 s6 va 0 s6 [] [] w'∧(N1=0→if nilS fX2_2 ver y1=true then va = .slice none 0 0 else ∃ a,va = .slice (some a) 0 0))) ?_ ?_
    ·by_cases hy0:(0:Int) < y1
     ·have hyv:Value.int .i32 y1 = .int .i32 ((N1:Nat):Int):=by rw [show y1=((N1:Nat):Int) by omega]
      repeat ((first|refine qA rfl ?_|apply qB|refine qC rfl ?_|apply qD|apply qE|apply qF|apply qG|apply qH);try simp (disch:=(first|omega|(simp only [qI,qJ,qK]<;>omega)|exact qL _)) only [go_sem,↓reduceIte,n0,reduceCtorEq,n1,n2,n3,n4,n5,i0,i1,i2,i3,i4,i5,i6,i7,hxb12,hrc0_2,hrc0_7,hrc0_8,hrc0_9,hrc0_10,hrc0_15,hra0,hri0,exitRQ_ret,exitRQ_exit,Int.toNat_natCast,Nat.mul_one,hun,hun'])
      refine wp_appendZ (m:=N1) utQ_62 utQ_21 inQ_81 (by decide) (by first|rfl|simp (disch:=(first|omega|(simp only [qI,qJ,qK]<;>omega)|exact qL _)) only [go_sem,↓reduceIte,n0,reduceCtorEq,n1,n2,n3,n4,n5,i0,i1,i2,i3,i4,i5,i6,i7,hrc0_2,hrc0_7,hrc0_8,hrc0_9,hrc0_10,hrc0_15,hra0,hri0]) (by first|exact hyv|(simp (disch:=(first|omega|(simp only [qI,qJ,qK]<;>omega)|exact qL _)) only [go_sem,↓reduceIte,n0,reduceCtorEq,n1,n2,n3,n4,n5,i0,i1,i2,i3,i4,i5,i6,i7,hrc0_2,hrc0_7,hrc0_8,hrc0_9,hrc0_10,hrc0_15,hra0,hri0];exact hyv)) (by omega) (by omega) (by decide) ?_
      intro q rest hq1
      have hEw:Ext w12 (w12.drew.alloc (.cells (zs [.int .i32 0,.int .i32 0,.slice none 0 0,.slice none 0 0,.int .i8 0,.int .i32 0,.map none] N1++rest).toArray 81)):=(Upd.refl _ _).drew.alloc _
      repeat (first|simp (disch:=(first|omega|(simp only [qI,qJ,qK]<;>omega)|exact qL _)) only [go_sem,↓reduceIte,n0,reduceCtorEq,n1,n2,n3,n4,n5,i0,i1,i2,i3,i4,i5,i6,i7,hxb12,hrc0_2,hrc0_7,hrc0_8,hrc0_9,hrc0_10,hrc0_15,hra0,hri0,exitRQ_ret,exitRQ_exit,Int.toNat_natCast,Nat.mul_one,hun,hun']|refine qA rfl ?_|apply qB|refine qC rfl ?_|apply qD|apply qE|apply qF|apply qG|apply qH)
      exact ⟨(by simp (disch:=(first|omega|(simp only [qI,qJ,qK]<;>omega)|exact qL _)) only [go_sem,↓reduceIte,n0,reduceCtorEq,n1,n2,n3,n4,n5,i0,i1,i2,i3,i4,i5,i6,i7,Holds_nil,Holds_cons,hrc0_2,hrc0_7,hrc0_8,hrc0_9,hrc0_10,hrc0_15,hra0,hri0]),.slice (some ⟨w12.heap.size,0,none⟩) N1 q,(by simp (disch:=(first|omega|(simp only [qI,qJ,qK]<;>omega)|exact qL _)) only [go_sem,↓reduceIte,n0,reduceCtorEq,n1,n2,n3,n4,n5,i0,i1,i2,i3,i4,i5,i6,i7,hrc0_2,hrc0_7,hrc0_8,hrc0_9,hrc0_10,hrc0_15,hra0,hri0]),LstI.start (RowJ.start (by omega) hq1 (by show w12.heap.size≤w12.drew.heap.size;rw [size_drew];omega) (blk_alloc_new rfl)) ⟨hq12.1.upd hEw (fun h=>h) (fun _ _ _ h=>h),hq12.2.upd hEw fun h=>h⟩ (hEw.mono fun _ h=>h.elim),fun h0=>by omega⟩
     ·repeat ((first|refine qA rfl ?_|apply qB|refine qC rfl ?_|apply qD|apply qE|apply qF|apply qG|apply qH);try simp (disch:=(first|omega|(simp only [qI,qJ,qK]<;>omega)|exact qL _)) only [go_sem,↓reduceIte,n0,reduceCtorEq,n1,n2,n3,n4,n5,i0,i1,i2,i3,i4,i5,i6,i7,hxb12,hrc0_2,hrc0_7,hrc0_8,hrc0_9,hrc0_10,hrc0_15,hra0,hri0,exitRQ_ret,exitRQ_exit,Int.toNat_natCast,Nat.mul_one,hun,hun'])
      exact ⟨(by simp (disch:=(first|omega|(simp only [qI,qJ,qK]<;>omega)|exact qL _)) only [go_sem,↓reduceIte,n0,reduceCtorEq,n1,n2,n3,n4,n5,i0,i1,i2,i3,i4,i5,i6,i7,Holds_nil,Holds_cons,hrc0_2,hrc0_7,hrc0_8,hrc0_9,hrc0_10,hrc0_15,hra0,hri0]),.slice none 0 0,(by simp (disch:=(first|omega|(simp only [qI,qJ,qK]<;>omega)|exact qL _)) only [go_sem,↓reduceIte,n0,reduceCtorEq,n1,n2,n3,n4,n5,i0,i1,i2,i3,i4,i5,i6,i7,hrc0_2,hrc0_7,hrc0_8,hrc0_9,hrc0_10,hrc0_15,hra0,hri0,slBase_00]),LstI.start (RowJ.zero (by omega) (fun _ h=>by cases h)) hq12 (Upd.refl _ _),fun _=>by rw [nilS_plain (by decide) (by omega)];exact rfl⟩
    rintro ρ w13 ⟨⟨hrb1_2,hrb1_7,hrb1_8,hrb1_9,hrb1_10,hrb1_15,hrb1_14,hrb1_16,hrb1_18,hrb1_23,-⟩,va1,hra1,hL1,hnc1⟩
    repeat ((first|refine qA rfl ?_|apply qB|refine qC rfl ?_|apply qD|apply qE|apply qF|apply qG|apply qH);try simp (disch:=(first|omega|(simp only [qI,qJ,qK]<;>omega)|exact qL _)) only [go_sem,↓reduceIte,n0,reduceCtorEq,n1,n2,n3,n4,n5,i0,i1,i2,i3,i4,i5,i6,i7,hxb12,hrb1_2,hrb1_7,hrb1_8,hrb1_9,hrb1_10,hrb1_15,hrb1_14,hrb1_16,hrb1_18,hrb1_23,hra1,exitRQ_ret,exitRQ_exit,Int.toNat_natCast,Nat.mul_one,hun,hun'])
    refine W.exitRJ 2 (EndQ [(2,.bool un),(7,.pointer (some ⟨rb,0,none⟩)),(8,.int .i16 ver),(9,.bool true),(10,.pointer (some ⟨vb,0,none⟩)),(15,.int .i32 y0),(14,.slice (some ⟨R1,0,none⟩) N0 q1),(16,.int .i32 j1),(18,.pointer (some ⟨R1,j1 * 19,none⟩)),(23,.int .i32 y1),(22,va1)] (fun w'=>∃ s xs css,LstI RT (rd1 (rdP (d+2) ver true) fX2_2.of fX2_2.sub false true) (Rep1 (RepS true (d+2)) fX2_2.of fX2_2.sub) 7 81 [.int .i32 0,.int .i32 0,.slice none 0 0,.slice none 0 0,.int .i8 0,.int .i32 0,.map none] w12.heap.size N1 ok (fun b=>(ok b∨w1.heap.size≤b)∧¬ ownB va0 b) rb w12 s6 va1 N1 s xs css w')) (W.loop (LoopQ [(2,.bool un),(7,.pointer (some ⟨rb,0,none⟩)),(8,.int .i16 ver),(9,.bool true),(10,.pointer (some ⟨vb,0,none⟩)),(15,.int .i32 y0),(14,.slice (some ⟨R1,0,none⟩) N0 q1),(16,.int .i32 j1),(18,.pointer (some ⟨R1,j1 * 19,none⟩)),(23,.int .i32 y1),(22,va1)] 24 (fun j w'=>∃ s xs css,LstI RT (rd1 (rdP (d+2) ver true) fX2_2.of fX2_2.sub false true) (Rep1 (RepS true (d+2)) fX2_2.of fX2_2.sub) 7 81 [.int .i32 0,.int .i32 0,.slice none 0 0,.slice none 0 0,.int .i8 0,.int .i32 0,.map none] w12.heap.size N1 ok (fun b=>(ok b∨w1.heap.size≤b)∧¬ ownB va0 b) rb w12 s6 va1 j s xs css w')) (fun ρ _=>N1 - (RowKit.intOf (ρ 24)).toNat) ?_ ?_) ?_
    ·exact ⟨(by simp (disch:=(first|omega|(simp only [qI,qJ,qK]<;>omega)|exact qL _)) only [go_sem,↓reduceIte,n0,reduceCtorEq,n1,n2,n3,n4,n5,i0,i1,i2,i3,i4,i5,i6,i7,Holds_nil,Holds_cons,hrb1_2,hrb1_7,hrb1_8,hrb1_9,hrb1_10,hrb1_15,hrb1_14,hrb1_16,hrb1_18,hrb1_23,hra1]),0,(by simp (disch:=(first|omega|(simp only [qI,qJ,qK]<;>omega)|exact qL _)) only [go_sem,↓reduceIte,n0,reduceCtorEq,n1,n2,n3,n4,n5,i0,i1,i2,i3,i4,i5,i6,i7,hrb1_2,hrb1_7,hrb1_8,hrb1_9,hrb1_10,hrb1_15,hrb1_14,hrb1_16,hrb1_18,hrb1_23,hra1];all_goals rfl),s6,[],[],hL1⟩
    ·rintro ρ w14 ⟨⟨hrc1_2,hrc1_7,hrc1_8,hrc1_9,hrc1_10,hrc1_15,hrc1_14,hrc1_16,hrc1_18,hrc1_23,hrc1_22,-⟩,j2,hri1,s7,xs1,css1,hL1⟩
     have hj1:=hL1.le
     have hq14:=hL1.rd
     have hU14:Upd (fun b=>b=vb∨b=rb) w1 w14:=hU12.trans' hL1.upd fun i _ h=>.inr h
     have hz14:=hL1.upd.size
     have hG14:Glo ev w14:=hG1.updS hU14 hgM1 hgM2
     by_cases hlt1:j2 < N1
     ·obtain ⟨R2,q2,B2,hva2,hNq2,hLR2,hA2,hx2_14,hnext2⟩:=hL1.row.next hlt1
      have hRl2:=blk_lt hx2_14
      generalize css1.flatten=A2 at hA2 hx2_14 hnext2
      replace hra1:ρ 22 = .slice (some ⟨R2,0,none⟩) N1 q2:=hrc1_22.trans hva2
      have hown2:∀ b,ownB va1 b→w12.heap.size≤b∧b < w14.heap.size:=fun b h=>hL1.row.own h
      have hoM2:∀ b,(fun b=>(fun b=>(ok b∨w1.heap.size≤b)∧¬ ownB va0 b) b∧¬ ownB va1 b) b→¬ (b=R2∨b=rb):=fun b hk h=>h.elim (fun e=>hk.2 ⟨_,_,_,hva2,e⟩) (fun e=>hoM1 b hk.1 (.inr e))
      obtain ⟨X14,hX14⟩:∃ X:Array Value,X=(A2++(([.int .i32 0,.int .i32 0,.slice none 0 0,.slice none 0 0,.int .i8 0,.int .i32 0,.map none]:List Value)++B2)).toArray:=⟨_,rfl⟩
      have hxb14:blk w14 R2=some (X14,81,(0,0)):=by rw [hX14];exact hx2_14
      have hXs14:j2 * 7+7≤X14.size:=by rw [hX14];simp only [List.size_toArray,List.length_append,List.length_cons,List.length_nil,hA2];omega
      repeat ((first|refine qA rfl ?_|apply qB|refine qC rfl ?_|apply qD|apply qE|apply qF|apply qG|apply qH);try simp (disch:=(first|omega|(simp only [qI,qJ,qK]<;>omega)|exact qL _)) only [go_sem,↓reduceIte,n0,reduceCtorEq,n1,n2,n3,n4,n5,i0,i1,i2,i3,i4,i5,i6,i7,hxb14,hrc1_2,hrc1_7,hrc1_8,hrc1_9,hrc1_10,hrc1_15,hrc1_14,hrc1_16,hrc1_18,hrc1_23,hra1,hri1,exitRQ_ret,exitRQ_exit,Int.toNat_natCast,Nat.mul_one,hun,hun'])
      refine (DefaultEX1_fn w14 hx2_14 hA2).mono ?_
      rintro _ w15 ⟨hx2_15,hu15⟩
      have hq15:=And.intro (hq14.1.upd hu15 (by omega) (fun b _ hk e=>by have:=(hok b hk).1;omega)) (hq14.2.upd hu15 (by omega))
      have hV15:Upd (fun b=>b=R2∨b=rb) w14 w15:=hu15.mono (fun _ h=>.inl h)
      have hU15:Upd (fun b=>b=vb∨b=rb) w1 w15:=hU14.trans' hV15 fun i hi h=>h.elim (fun h=>by omega) .inr
      have hz15:=hV15.size
      have hG15:Glo ev w15:=hG1.updS hU15 hgM1 hgM2
      obtain ⟨X15,hX15⟩:∃ X:Array Value,X=(A2++(([.int .i32 0,.int .i32 0,.slice none 0 0,.slice none 0 0,.int .i8 0,.int .i32 0,.map none]:List Value)++B2)).toArray:=⟨_,rfl⟩
      have hxb15:blk w15 R2=some (X15,81,(0,0)):=by rw [hX15];exact hx2_15
      have hXs15:j2 * 7+7≤X15.size:=by rw [hX15];simp only [List.size_toArray,List.length_append,List.length_cons,List.length_nil,hA2];omega
      have hbe0e1_0:(rdL (rdP (d+1) ver true) (dfP (d+1)) ver true [fX1_0,fX1_1,fX1_2,fX1_3,fX1_4,fX1_5] s7).2=none→FB:=fun h=>hlb1 (hL1.bad hlt1 rd1P_none (by show (rd1 (rdP (d+2) ver true) 10 fs_X1 false true s7).2=none;rw [rd1_part];exact rdP_bad h))
      have hhe0e1_0:hasS fX1_0 ver=true:=hasS_t (by show (0:Int)≤ver;omega) (by show (-1:Int) < 0∨ver≤(-1:Int);omega)
      obtain ⟨xe0e1_0,hxe0e1_0⟩:∃ x,x=(rdF (rdP (d+1) ver true) ver true fX1_0 s7).1:=⟨_,rfl⟩
      repeat ((first|refine qA rfl ?_|apply qB|refine qC rfl ?_|apply qD|apply qE|apply qF|apply qG|apply qH);try simp (disch:=(first|omega|(simp only [qI,qJ,qK]<;>omega)|exact qL _)) only [go_sem,↓reduceIte,n0,reduceCtorEq,n1,n2,n3,n4,n5,i0,i1,i2,i3,i4,i5,i6,i7,hxb15,hrc1_2,hrc1_7,hrc1_8,hrc1_9,hrc1_10,hrc1_15,hrc1_14,hrc1_16,hrc1_18,hrc1_23,hra1,hri1,exitRQ_ret,exitRQ_exit,Int.toNat_natCast,Nat.mul_one,hun,hun'])
      have hrd:rdF (rdP (d+1) ver true) ver true fX1_0 s7=_:=rdF_num 3 rfl (by decide)
      refine (Int32_fn w15 hq15.1 hrok hG15.1 hgrb).mono ?_
      rintro _ w16 ⟨rfl,hq16,hu16⟩
      have hx2_16:=hu16.blk_some hx2_15 (by omega)
      have hV16:Upd (fun b=>b=R2∨b=rb) w15 w16:=hu16.mono (fun _ h=>.inr h)
      have hU16:Upd (fun b=>b=vb∨b=rb) w1 w16:=hU15.trans' hV16 fun i hi h=>h.elim (fun h=>by omega) .inr
      have hz16:=hV16.size
      have hG16:Glo ev w16:=hG1.updS hU16 hgM1 hgM2
      obtain ⟨X16,hX16⟩:∃ X:Array Value,X=(A2++(([.int .i32 0,.int .i32 0,.slice none 0 0,.slice none 0 0,.int .i8 0,.int .i32 0,.map none]:List Value)++B2)).toArray:=⟨_,rfl⟩
      have hxb16:blk w16 R2=some (X16,81,(0,0)):=by rw [hX16];exact hx2_16
      have hXs16:j2 * 7+7≤X16.size:=by rw [hX16];simp only [List.size_toArray,List.length_append,List.length_cons,List.length_nil,hA2];omega
      have hst:(rdF (rdP (d+1) ver true) ver true fX1_0 s7).2=(rdInt .i32 4 s7).2:=by first|(rw [hrd];rfl)|rw [hrd]
      obtain ⟨s8,hs8⟩:∃ s,s=(rdF (rdP (d+1) ver true) ver true fX1_0 s7).2:=⟨_,rfl⟩
      rw [← hst,← hs8] at hq16
      clear hst
      have hst16_0:j2 * 7+1≤X16.size:=by omega
      have hld16_2:X16[j2 * 7+2]? = some (.slice none 0 0):=by rw [hX16];exact el_cell (R:=0) hA2 (Nat.le_of_ble_eq_true rfl)
      have hld16_3:X16[j2 * 7+3]? = some (.slice none 0 0):=by rw [hX16];exact el_cell (R:=0) hA2 (Nat.le_of_ble_eq_true rfl)
      repeat ((first|refine qA rfl ?_|apply qB|refine qC rfl ?_|apply qD|apply qE|apply qF|apply qG|apply qH);try simp (disch:=(first|omega|(simp only [qI,qJ,qK]<;>omega)|exact qL _)) only [go_sem,↓reduceIte,n0,reduceCtorEq,n1,n2,n3,n4,n5,i0,i1,i2,i3,i4,i5,i6,i7,hxb16,hrc1_2,hrc1_7,hrc1_8,hrc1_9,hrc1_10,hrc1_15,hrc1_14,hrc1_16,hrc1_18,hrc1_23,hra1,hri1,exitRQ_ret,exitRQ_exit,Int.toNat_natCast,Nat.mul_one,hun,hun',hst16_0,hld16_2,hld16_3,Array.getElem?_setIfInBounds_ne])
      generalize hw17:wr w16 R2 (j2 * 7) [.int .i32 (rdInt .i32 4 s7).1] = w17
      have hS17:Upd (fun b=>b=R2∨b=rb) w16 w17:=by rw [← hw17];exact (Upd.refl _ _).wr _ _ (.inr (.inl rfl))
      have hx2_17:blk w17 R2=some ((A2++(([.int .i32 (rdInt .i32 4 s7).1,.int .i32 0,.slice none 0 0,.slice none 0 0,.int .i8 0,.int .i32 0,.map none]:List Value)++B2)).toArray,81,(0,0)):=by rw [← hw17];exact el_blk0 hx2_16 hA2 (Nat.le_of_ble_eq_true rfl)
      have hV17:=hS17
      have hU17:Upd (fun b=>b=vb∨b=rb) w1 w17:=hU16.trans' hV17 fun i hi h=>h.elim (fun h=>by omega) .inr
      have hz17:=hV17.size
      have hG17:Glo ev w17:=hG1.updS hU17 hgM1 hgM2
      have hq17:Rdr RT ok w17 rb s8∧NN w17 rb s8:=by
       have hn:∀ x,x=w17→(Rdr RT ok x rb s8∧NN x rb s8):=fun x hx=>by
        rw [hx,← hw17]
        exact Rdr.store hq16 (by omega) (fun h=>by have:=(hok _ h).1;first|omega|exact (hok _ h).2 rfl)
       exact hn _ rfl
      obtain ⟨X17,hX17⟩:∃ X:Array Value,X=(A2++(([.int .i32 (rdInt .i32 4 s7).1,.int .i32 0,.slice none 0 0,.slice none 0 0,.int .i8 0,.int .i32 0,.map none]:List Value)++B2)).toArray:=⟨_,rfl⟩
      have hxb17:blk w17 R2=some (X17,81,(0,0)):=by rw [hX17];exact hx2_17
      have hXs17:j2 * 7+7≤X17.size:=by rw [hX17];simp only [List.size_toArray,List.length_append,List.length_cons,List.length_nil,hA2];omega
      clear hw17
      have hfe0e1_0:RepF (RepS true (d+1)) (szS true (d+1)) fX1_0 (fun b=>(fun b=>(ok b∨w1.heap.size≤b)∧¬ ownB va0 b) b∧¬ ownB va1 b) w17 (xe0e1_0) [.int .i32 (rdInt .i32 4 s7).1]:=(RepF_num (by decide)).2 (by rw [hxe0e1_0,hrd];exact congrArg (fun x=>[x]) (numC_rd 3 (by decide) 4 s7).symm)
      clear hrd
      have hbe0e1_1:(rdL (rdP (d+1) ver true) (dfP (d+1)) ver true [fX1_1,fX1_2,fX1_3,fX1_4,fX1_5] s8).2=none→FB:=fun h=>hbe0e1_0 (by rw [rdL_st (by decide) hhe0e1_0,← hs8];exact h)
      have hhe0e1_1:hasS fX1_1 ver=true:=hasS_t (by show (0:Int)≤ver;omega) (by show (-1:Int) < 0∨ver≤(-1:Int);omega)
      obtain ⟨xe0e1_1,hxe0e1_1⟩:∃ x,x=(rdF (rdP (d+1) ver true) ver true fX1_1 s8).1:=⟨_,rfl⟩
      repeat ((first|refine qA rfl ?_|apply qB|refine qC rfl ?_|apply qD|apply qE|apply qF|apply qG|apply qH);try simp (disch:=(first|omega|(simp only [qI,qJ,qK]<;>omega)|exact qL _)) only [go_sem,↓reduceIte,n0,reduceCtorEq,n1,n2,n3,n4,n5,i0,i1,i2,i3,i4,i5,i6,i7,hxb17,hrc1_2,hrc1_7,hrc1_8,hrc1_9,hrc1_10,hrc1_15,hrc1_14,hrc1_16,hrc1_18,hrc1_23,hra1,hri1,exitRQ_ret,exitRQ_exit,Int.toNat_natCast,Nat.mul_one,hun,hun'])
      have hrd:rdF (rdP (d+1) ver true) ver true fX1_1 s8=_:=rdF_num 3 rfl (by decide)
      refine (Int32_fn w17 hq17.1 hrok hG17.1 hgrb).mono ?_
      rintro _ w18 ⟨rfl,hq18,hu18⟩
      have hx2_18:=hu18.blk_some hx2_17 (by omega)
      have hV18:Upd (fun b=>b=R2∨b=rb) w17 w18:=hu18.mono (fun _ h=>.inr h)
      have hU18:Upd (fun b=>b=vb∨b=rb) w1 w18:=hU17.trans' hV18 fun i hi h=>h.elim (fun h=>by omega) .inr
      have hz18:=hV18.size
      have hG18:Glo ev w18:=hG1.updS hU18 hgM1 hgM2
      obtain ⟨X18,hX18⟩:∃ X:Array Value,X=(A2++(([.int .i32 (rdInt .i32 4 s7).1,.int .i32 0,.slice none 0 0,.slice none 0 0,.int .i8 0,.int .i32 0,.map none]:List Value)++B2)).toArray:=⟨_,rfl⟩
      have hxb18:blk w18 R2=some (X18,81,(0,0)):=by rw [hX18];exact hx2_18
      have hXs18:j2 * 7+7≤X18.size:=by rw [hX18];simp only [List.size_toArray,List.length_append,List.length_cons,List.length_nil,hA2];omega
      have hst:(rdF (rdP (d+1) ver true) ver true fX1_1 s8).2=(rdInt .i32 4 s8).2:=by first|(rw [hrd];rfl)|rw [hrd]
      obtain ⟨s9,hs9⟩:∃ s,s=(rdF (rdP (d+1) ver true) ver true fX1_1 s8).2:=⟨_,rfl⟩
      rw [← hst,← hs9] at hq18
      clear hst
      have hst18_1:j2 * 7+2≤X18.size:=by omega
      have hld18_2:X18[j2 * 7+2]? = some (.slice none 0 0):=by rw [hX18];exact el_cell (R:=0) hA2 (Nat.le_of_ble_eq_true rfl)
      have hld18_3:X18[j2 * 7+3]? = some (.slice none 0 0):=by rw [hX18];exact el_cell (R:=0) hA2 (Nat.le_of_ble_eq_true rfl)
      repeat ((first|refine qA rfl ?_|apply qB|refine qC rfl ?_|apply qD|apply qE|apply qF|apply qG|apply qH);try simp (disch:=(first|omega|(simp only [qI,qJ,qK]<;>omega)|exact qL _)) only [go_sem,↓reduceIte,n0,reduceCtorEq,n1,n2,n3,n4,n5,i0,i1,i2,i3,i4,i5,i6,i7,hxb18,hrc1_2,hrc1_7,hrc1_8,hrc1_9,hrc1_10,hrc1_15,hrc1_14,hrc1_16,hrc1_18,hrc1_23,hra1,hri1,exitRQ_ret,exitRQ_exit,Int.toNat_natCast,Nat.mul_one,hun,hun',hst18_1,hld18_2,hld18_3,Array.getElem?_setIfInBounds_ne])
      generalize hw19:wr w18 R2 (j2 * 7+1) [.int .i32 (rdInt .i32 4 s8).1] = w19
      have hS19:Upd (fun b=>b=R2∨b=rb) w18 w19:=by rw [← hw19];exact (Upd.refl _ _).wr _ _ (.inr (.inl rfl))
      have hx2_19:blk w19 R2=some ((A2++(([.int .i32 (rdInt .i32 4 s7).1,.int .i32 (rdInt .i32 4 s8).1,.slice none 0 0,.slice none 0 0,.int .i8 0,.int .i32 0,.map none]:List Value)++B2)).toArray,81,(0,0)):=by rw [← hw19];exact el_blk (o:=1) hx2_18 hA2 (Nat.le_of_ble_eq_true rfl)
      have hV19:=hS19
      have hU19:Upd (fun b=>b=vb∨b=rb) w1 w19:=hU18.trans' hV19 fun i hi h=>h.elim (fun h=>by omega) .inr
      have hz19:=hV19.size
      have hG19:Glo ev w19:=hG1.updS hU19 hgM1 hgM2
      have hq19:Rdr RT ok w19 rb s9∧NN w19 rb s9:=by
       have hn:∀ x,x=w19→(Rdr RT ok x rb s9∧NN x rb s9):=fun x hx=>by
        rw [hx,← hw19]
        exact Rdr.store hq18 (by omega) (fun h=>by have:=(hok _ h).1;first|omega|exact (hok _ h).2 rfl)
       exact hn _ rfl
      obtain ⟨X19,hX19⟩:∃ X:Array Value,X=(A2++(([.int .i32 (rdInt .i32 4 s7).1,.int .i32 (rdInt .i32 4 s8).1,.slice none 0 0,.slice none 0 0,.int .i8 0,.int .i32 0,.map none]:List Value)++B2)).toArray:=⟨_,rfl⟩
      have hxb19:blk w19 R2=some (X19,81,(0,0)):=by rw [hX19];exact hx2_19
      have hXs19:j2 * 7+7≤X19.size:=by rw [hX19];simp only [List.size_toArray,List.length_append,List.length_cons,List.length_nil,hA2];omega
      clear hw19
      have hfe0e1_1:RepF (RepS true (d+1)) (szS true (d+1)) fX1_1 (fun b=>(fun b=>(ok b∨w1.heap.size≤b)∧¬ ownB va0 b) b∧¬ ownB va1 b) w19 (xe0e1_1) [.int .i32 (rdInt .i32 4 s8).1]:=(RepF_num (by decide)).2 (by rw [hxe0e1_1,hrd];exact congrArg (fun x=>[x]) (numC_rd 3 (by decide) 4 s8).symm)
      clear hrd
      have hbe0e1_2:(rdL (rdP (d+1) ver true) (dfP (d+1)) ver true [fX1_2,fX1_3,fX1_4,fX1_5] s9).2=none→FB:=fun h=>hbe0e1_1 (by rw [rdL_st (by decide) hhe0e1_1,← hs9];exact h)
      have hhe0e1_2:hasS fX1_2 ver=true:=hasS_t (by show (0:Int)≤ver;omega) (by show (2:Int) < 0∨ver≤(2:Int);omega)
      obtain ⟨xe0e1_2,hxe0e1_2⟩:∃ x,x=(rdF (rdP (d+1) ver true) ver true fX1_2 s9).1:=⟨_,rfl⟩
      have hld19_2:X19[j2 * 7+2]? = some (.slice none 0 0):=by rw [hX19];exact el_cell (R:=0) hA2 (Nat.le_of_ble_eq_true rfl)
      repeat ((first|refine qA rfl ?_|apply qB|refine qC rfl ?_|apply qD|apply qE|apply qF|apply qG|apply qH);try simp (disch:=(first|omega|(simp only [qI,qJ,qK]<;>omega)|exact qL _)) only [go_sem,↓reduceIte,n0,reduceCtorEq,n1,n2,n3,n4,n5,i0,i1,i2,i3,i4,i5,i6,i7,hxb19,hrc1_2,hrc1_7,hrc1_8,hrc1_9,hrc1_10,hrc1_15,hrc1_14,hrc1_16,hrc1_18,hrc1_23,hra1,hri1,exitRQ_ret,exitRQ_exit,Int.toNat_natCast,Nat.mul_one,hun,hun',hld19_2])
      refine (RCompactArrayLen_fn w19 hq19.1 hrok hG19.1 hgrb).mono ?_
      rintro _ w20 ⟨rfl,hq20,hu20⟩
      have hx2_20:=hu20.blk_some hx2_19 (by omega)
      have hV20:Upd (fun b=>b=R2∨b=rb) w19 w20:=hu20.mono (fun _ h=>.inr h)
      have hU20:Upd (fun b=>b=vb∨b=rb) w1 w20:=hU19.trans' hV20 fun i hi h=>h.elim (fun h=>by omega) .inr
      have hz20:=hV20.size
      have hG20:Glo ev w20:=hG1.updS hU20 hgM1 hgM2
      obtain ⟨X20,hX20⟩:∃ X:Array Value,X=(A2++(([.int .i32 (rdInt .i32 4 s7).1,.int .i32 (rdInt .i32 4 s8).1,.slice none 0 0,.slice none 0 0,.int .i8 0,.int .i32 0,.map none]:List Value)++B2)).toArray:=⟨_,rfl⟩
      have hxb20:blk w20 R2=some (X20,81,(0,0)):=by rw [hX20];exact hx2_20
      have hXs20:j2 * 7+7≤X20.size:=by rw [hX20];simp only [List.size_toArray,List.length_append,List.length_cons,List.length_nil,hA2];omega
      obtain ⟨s10,hs10⟩:∃ s,s=(rdALen true s9).2:=⟨_,rfl⟩
      rw [← hs10] at hq20
      have hyr2:=rdALen_rng true s9
      generalize hy2:(rdALen true s9).1=y2 at *
      obtain ⟨N2,hN2⟩:∃ N,N=y2.toNat:=⟨_,rfl⟩
      have hlb2:(rdMany (rd1 (rdP (d+1) ver true) fX1_2.of fX1_2.sub false true) N2 s10).2=none→FB:=fun h=>hbe0e1_2 (by rw [rdL_st (by decide) hhe0e1_2];exact rdL_bad (rdF_listbad rfl (by rw [hy2,← hN2,← hs10];exact h)))
      repeat ((first|refine W.seqR rfl ?_|refine W.seq ?_|refine W.regR rfl ?_|refine W.block ?_|refine W.skip ?_|refine W.ret ?_|refine W.exit ?_);try simp (disch:=(first|omega|(simp only [qI,qJ,qK]<;>omega)|exact qL _)) only [go_sem,↓reduceIte,n0,reduceCtorEq,n1,n2,n3,n4,n5,i0,i1,i2,i3,i4,i5,i6,i7,hxb20,hrc1_2,hrc1_7,hrc1_8,hrc1_9,hrc1_10,hrc1_15,hrc1_14,hrc1_16,hrc1_18,hrc1_23,hra1,hri1,exitRQ_ret,exitRQ_exit,Int.toNat_natCast,Nat.mul_one,hun,hun'])
      refine (ROk_fn w20 hq20.1).mono ?_
      rintro _ wz ⟨rfl,hez⟩
      rw [hez]
      clear hez wz
      by_cases hsn2:s10=none
      ·have hso:s10.isSome=false:=by rw [hsn2];rfl
       repeat (first|simp (disch:=(first|omega|(simp only [qI,qJ,qK]<;>omega)|exact qL _)) only [go_sem,↓reduceIte,n0,reduceCtorEq,n1,n2,n3,n4,n5,i0,i1,i2,i3,i4,i5,i6,i7,hxb20,hrc1_2,hrc1_7,hrc1_8,hrc1_9,hrc1_10,hrc1_15,hrc1_14,hrc1_16,hrc1_18,hrc1_23,hra1,hri1,exitRQ_ret,exitRQ_exit,Int.toNat_natCast,Nat.mul_one,hun,hun',hso]|refine qA rfl ?_|apply qB|refine qC rfl ?_|apply qD|apply qE|apply qF|apply qG|apply qH)
       refine (RComplete_fn w20 hq20.1 hG20.2).mono ?_
       rintro _ wz ⟨rfl,hez⟩
       rw [hez]
       repeat (first|simp (disch:=(first|omega|(simp only [qI,qJ,qK]<;>omega)|exact qL _)) only [go_sem,↓reduceIte,n0,reduceCtorEq,n1,n2,n3,n4,n5,i0,i1,i2,i3,i4,i5,i6,i7,hxb20,hrc1_2,hrc1_7,hrc1_8,hrc1_9,hrc1_10,hrc1_15,hrc1_14,hrc1_16,hrc1_18,hrc1_23,hra1,hri1,exitRQ_ret,exitRQ_exit,Int.toNat_natCast,Nat.mul_one,hun,hun']|refine qA rfl ?_|apply qB|refine qC rfl ?_|apply qD|apply qE|apply qF|apply qG|apply qH)
       rw [errV_none hsn2]
       exact ReadQ.bad (Eq.mp hFB (hlb2 (by rw [hsn2];exact rdMany_none rd1P_none _))) (hbase.trans' hU20 fun i hi h=>h.elim id fun h=>by omega)
      have hso2:s10.isSome=true:=isSome_some hsn2
      try simp (disch:=(first|omega|(simp only [qI,qJ,qK]<;>omega)|exact qL _)) only [go_sem,↓reduceIte,n0,reduceCtorEq,n1,n2,n3,n4,n5,i0,i1,i2,i3,i4,i5,i6,i7,hxb20,hrc1_2,hrc1_7,hrc1_8,hrc1_9,hrc1_10,hrc1_15,hrc1_14,hrc1_16,hrc1_18,hrc1_23,hra1,hri1,exitRQ_ret,exitRQ_exit,Int.toNat_natCast,Nat.mul_one,hun,hun',hso2]
      repeat ((first|refine W.seqR rfl ?_|refine W.seq ?_|refine W.regR rfl ?_|refine W.block ?_|refine W.skip ?_|refine W.ret ?_|refine W.exit ?_);try simp (disch:=(first|omega|(simp only [qI,qJ,qK]<;>omega)|exact qL _)) only [go_sem,↓reduceIte,n0,reduceCtorEq,n1,n2,n3,n4,n5,i0,i1,i2,i3,i4,i5,i6,i7,hxb20,hrc1_2,hrc1_7,hrc1_8,hrc1_9,hrc1_10,hrc1_15,hrc1_14,hrc1_16,hrc1_18,hrc1_23,hra1,hri1,exitRQ_ret,exitRQ_exit,Int.toNat_natCast,Nat.mul_one,hun,hun',hso2])
      refine W.condK ?_
      try simp (disch:=(first|omega|(simp only [qI,qJ,qK]<;>omega)|exact qL _)) only [go_sem,↓reduceIte,n0,reduceCtorEq,n1,n2,n3,n4,n5,i0,i1,i2,i3,i4,i5,i6,i7,hxb20,hrc1_2,hrc1_7,hrc1_8,hrc1_9,hrc1_10,hrc1_15,hrc1_14,hrc1_16,hrc1_18,hrc1_23,hra1,hri1,exitRQ_ret,exitRQ_exit,Int.toNat_natCast,Nat.mul_one,hun,hun',hso2]
      repeat ((first|refine W.seqR rfl ?_|refine W.seq ?_|refine W.regR rfl ?_|refine W.block ?_|refine W.skip ?_|refine W.ret ?_|refine W.exit ?_);try simp (disch:=(first|omega|(simp only [qI,qJ,qK]<;>omega)|exact qL _)) only [go_sem,↓reduceIte,n0,reduceCtorEq,n1,n2,n3,n4,n5,i0,i1,i2,i3,i4,i5,i6,i7,hxb20,hrc1_2,hrc1_7,hrc1_8,hrc1_9,hrc1_10,hrc1_15,hrc1_14,hrc1_16,hrc1_18,hrc1_23,hra1,hri1,exitRQ_ret,exitRQ_exit,Int.toNat_natCast,Nat.mul_one,hun,hun',hso2,slBase_00])
      refine W.normJ (RowQ [(2,.bool un),(7,.pointer (some ⟨rb,0,none⟩)),(8,.int .i16 ver),(9,.bool true),(10,.pointer (some ⟨vb,0,none⟩)),(15,.int .i32 y0),(14,.slice (some ⟨R1,0,none⟩) N0 q1),(16,.int .i32 j1),(18,.pointer (some ⟨R1,j1 * 19,none⟩)),(23,.int .i32 y1),(22,.slice (some ⟨R2,0,none⟩) N1 q2),(24,.int .i32 j2),(26,.pointer (some ⟨R2,j2 * 7,none⟩)),(31,.int .i32 y2)] 30 (fun va w'=>LstI RT (rd1 (rdP (d+1) ver true) fX1_2.of fX1_2.sub false true) (Rep1 (RepS true (d+1)) fX1_2.of fX1_2.sub) 1 21 [.int .i32 0] w20.heap.size N2 ok (fun b=>(fun b=>(ok b∨w1.heap.size≤b)∧¬ ownB va0 b) b∧¬ ownB va1 b) rb w20 s10 va 0 s10 [] [] w'∧(N2=0→if nilS fX1_2 ver y2=true then va = .slice none 0 0 else ∃ a,va = .slice (some a) 0 0))) ?_ ?_
      ·by_cases hy0:(0:Int) < y2
       ·have hyv:Value.int .i32 y2 = .int .i32 ((N2:Nat):Int):=by rw [show y2=((N2:Nat):Int) by omega]
        repeat ((first|refine qA rfl ?_|apply qB|refine qC rfl ?_|apply qD|apply qE|apply qF|apply qG|apply qH);try simp (disch:=(first|omega|(simp only [qI,qJ,qK]<;>omega)|exact qL _)) only [go_sem,↓reduceIte,n0,reduceCtorEq,n1,n2,n3,n4,n5,i0,i1,i2,i3,i4,i5,i6,i7,hxb20,hrc1_2,hrc1_7,hrc1_8,hrc1_9,hrc1_10,hrc1_15,hrc1_14,hrc1_16,hrc1_18,hrc1_23,hra1,hri1,exitRQ_ret,exitRQ_exit,Int.toNat_natCast,Nat.mul_one,hun,hun'])
        refine wp_appendZ (m:=N2) utQ_77 utQ_21 inQ_21 (by decide) (by first|rfl|simp (disch:=(first|omega|(simp only [qI,qJ,qK]<;>omega)|exact qL _)) only [go_sem,↓reduceIte,n0,reduceCtorEq,n1,n2,n3,n4,n5,i0,i1,i2,i3,i4,i5,i6,i7,hrc1_2,hrc1_7,hrc1_8,hrc1_9,hrc1_10,hrc1_15,hrc1_14,hrc1_16,hrc1_18,hrc1_23,hra1,hri1]) (by first|exact hyv|(simp (disch:=(first|omega|(simp only [qI,qJ,qK]<;>omega)|exact qL _)) only [go_sem,↓reduceIte,n0,reduceCtorEq,n1,n2,n3,n4,n5,i0,i1,i2,i3,i4,i5,i6,i7,hrc1_2,hrc1_7,hrc1_8,hrc1_9,hrc1_10,hrc1_15,hrc1_14,hrc1_16,hrc1_18,hrc1_23,hra1,hri1];exact hyv)) (by omega) (by omega) (by decide) ?_
        intro q rest hq1
        have hEw:Ext w20 (w20.drew.alloc (.cells (zs [.int .i32 0] N2++rest).toArray 21)):=(Upd.refl _ _).drew.alloc _
        repeat (first|simp (disch:=(first|omega|(simp only [qI,qJ,qK]<;>omega)|exact qL _)) only [go_sem,↓reduceIte,n0,reduceCtorEq,n1,n2,n3,n4,n5,i0,i1,i2,i3,i4,i5,i6,i7,hxb20,hrc1_2,hrc1_7,hrc1_8,hrc1_9,hrc1_10,hrc1_15,hrc1_14,hrc1_16,hrc1_18,hrc1_23,hra1,hri1,exitRQ_ret,exitRQ_exit,Int.toNat_natCast,Nat.mul_one,hun,hun']|refine qA rfl ?_|apply qB|refine qC rfl ?_|apply qD|apply qE|apply qF|apply qG|apply qH)
        exact ⟨(by simp (disch:=(first|omega|(simp only [qI,qJ,qK]<;>omega)|exact qL _)) only [go_sem,↓reduceIte,n0,reduceCtorEq,n1,n2,n3,n4,n5,i0,i1,i2,i3,i4,i5,i6,i7,Holds_nil,Holds_cons,hrc1_2,hrc1_7,hrc1_8,hrc1_9,hrc1_10,hrc1_15,hrc1_14,hrc1_16,hrc1_18,hrc1_23,hra1,hri1]),.slice (some ⟨w20.heap.size,0,none⟩) N2 q,(by simp (disch:=(first|omega|(simp only [qI,qJ,qK]<;>omega)|exact qL _)) only [go_sem,↓reduceIte,n0,reduceCtorEq,n1,n2,n3,n4,n5,i0,i1,i2,i3,i4,i5,i6,i7,hrc1_2,hrc1_7,hrc1_8,hrc1_9,hrc1_10,hrc1_15,hrc1_14,hrc1_16,hrc1_18,hrc1_23,hra1,hri1]),LstI.start (RowJ.start (by omega) hq1 (by show w20.heap.size≤w20.drew.heap.size;rw [size_drew];omega) (blk_alloc_new rfl)) ⟨hq20.1.upd hEw (fun h=>h) (fun _ _ _ h=>h),hq20.2.upd hEw fun h=>h⟩ (hEw.mono fun _ h=>h.elim),fun h0=>by omega⟩
       ·repeat ((first|refine qA rfl ?_|apply qB|refine qC rfl ?_|apply qD|apply qE|apply qF|apply qG|apply qH);try simp (disch:=(first|omega|(simp only [qI,qJ,qK]<;>omega)|exact qL _)) only [go_sem,↓reduceIte,n0,reduceCtorEq,n1,n2,n3,n4,n5,i0,i1,i2,i3,i4,i5,i6,i7,hxb20,hrc1_2,hrc1_7,hrc1_8,hrc1_9,hrc1_10,hrc1_15,hrc1_14,hrc1_16,hrc1_18,hrc1_23,hra1,hri1,exitRQ_ret,exitRQ_exit,Int.toNat_natCast,Nat.mul_one,hun,hun'])
        exact ⟨(by simp (disch:=(first|omega|(simp only [qI,qJ,qK]<;>omega)|exact qL _)) only [go_sem,↓reduceIte,n0,reduceCtorEq,n1,n2,n3,n4,n5,i0,i1,i2,i3,i4,i5,i6,i7,Holds_nil,Holds_cons,hrc1_2,hrc1_7,hrc1_8,hrc1_9,hrc1_10,hrc1_15,hrc1_14,hrc1_16,hrc1_18,hrc1_23,hra1,hri1]),.slice none 0 0,(by simp (disch:=(first|omega|(simp only [qI,qJ,qK]<;>omega)|exact qL _)) only [go_sem,↓reduceIte,n0,reduceCtorEq,n1,n2,n3,n4,n5,i0,i1,i2,i3,i4,i5,i6,i7,hrc1_2,hrc1_7,hrc1_8,hrc1_9,hrc1_10,hrc1_15,hrc1_14,hrc1_16,hrc1_18,hrc1_23,hra1,hri1,slBase_00]),LstI.start (RowJ.zero (by omega) (fun _ h=>by cases h)) hq20 (Upd.refl _ _),fun _=>by rw [nilS_plain (by decide) (by omega)];exact rfl⟩
      rintro ρ w21 ⟨⟨hrb2_2,hrb2_7,hrb2_8,hrb2_9,hrb2_10,hrb2_15,hrb2_14,hrb2_16,hrb2_18,hrb2_23,hrb2_22,hrb2_24,hrb2_26,hrb2_31,-⟩,va2,hra2,hL2,hnc2⟩
      repeat ((first|refine qA rfl ?_|apply qB|refine qC rfl ?_|apply qD|apply qE|apply qF|apply qG|apply qH);try simp (disch:=(first|omega|(simp only [qI,qJ,qK]<;>omega)|exact qL _)) only [go_sem,↓reduceIte,n0,reduceCtorEq,n1,n2,n3,n4,n5,i0,i1,i2,i3,i4,i5,i6,i7,hxb20,hrb2_2,hrb2_7,hrb2_8,hrb2_9,hrb2_10,hrb2_15,hrb2_14,hrb2_16,hrb2_18,hrb2_23,hrb2_22,hrb2_24,hrb2_26,hrb2_31,hra2,exitRQ_ret,exitRQ_exit,Int.toNat_natCast,Nat.mul_one,hun,hun'])
      refine W.exitRJ 4 (EndQ [(2,.bool un),(7,.pointer (some ⟨rb,0,none⟩)),(8,.int .i16 ver),(9,.bool true),(10,.pointer (some ⟨vb,0,none⟩)),(15,.int .i32 y0),(14,.slice (some ⟨R1,0,none⟩) N0 q1),(16,.int .i32 j1),(18,.pointer (some ⟨R1,j1 * 19,none⟩)),(23,.int .i32 y1),(22,.slice (some ⟨R2,0,none⟩) N1 q2),(24,.int .i32 j2),(26,.pointer (some ⟨R2,j2 * 7,none⟩)),(31,.int .i32 y2),(30,va2)] (fun w'=>∃ s xs css,LstI RT (rd1 (rdP (d+1) ver true) fX1_2.of fX1_2.sub false true) (Rep1 (RepS true (d+1)) fX1_2.of fX1_2.sub) 1 21 [.int .i32 0] w20.heap.size N2 ok (fun b=>(fun b=>(ok b∨w1.heap.size≤b)∧¬ ownB va0 b) b∧¬ ownB va1 b) rb w20 s10 va2 N2 s xs css w')) (W.loop (LoopQ [(2,.bool un),(7,.pointer (some ⟨rb,0,none⟩)),(8,.int .i16 ver),(9,.bool true),(10,.pointer (some ⟨vb,0,none⟩)),(15,.int .i32 y0),(14,.slice (some ⟨R1,0,none⟩) N0 q1),(16,.int .i32 j1),(18,.pointer (some ⟨R1,j1 * 19,none⟩)),(23,.int .i32 y1),(22,.slice (some ⟨R2,0,none⟩) N1 q2),(24,.int .i32 j2),(26,.pointer (some ⟨R2,j2 * 7,none⟩)),(31,.int .i32 y2),(30,va2)] 32 (fun j w'=>∃ s xs css,LstI RT (rd1 (rdP (d+1) ver true) fX1_2.of fX1_2.sub false true) (Rep1 (RepS true (d+1)) fX1_2.of fX1_2.sub) 1 21 [.int .i32 0] w20.heap.size N2 ok (fun b=>(fun b=>(ok b∨w1.heap.size≤b)∧¬ ownB va0 b) b∧¬ ownB va1 b) rb w20 s10 va2 j s xs css w')) (fun ρ _=>N2 - (RowKit.intOf (ρ 32)).toNat) ?_ ?_) ?_
      ·exact ⟨(by simp (disch:=(first|omega|(simp only [qI,qJ,qK]<;>omega)|exact qL _)) only [go_sem,↓reduceIte,n0,reduceCtorEq,n1,n2,n3,n4,n5,i0,i1,i2,i3,i4,i5,i6,i7,Holds_nil,Holds_cons,hrb2_2,hrb2_7,hrb2_8,hrb2_9,hrb2_10,hrb2_15,hrb2_14,hrb2_16,hrb2_18,hrb2_23,hrb2_22,hrb2_24,hrb2_26,hrb2_31,hra2]),0,(by simp (disch:=(first|omega|(simp only [qI,qJ,qK]<;>omega)|exact qL _)) only [go_sem,↓reduceIte,n0,reduceCtorEq,n1,n2,n3,n4,n5,i0,i1,i2,i3,i4,i5,i6,i7,hrb2_2,hrb2_7,hrb2_8,hrb2_9,hrb2_10,hrb2_15,hrb2_14,hrb2_16,hrb2_18,hrb2_23,hrb2_22,hrb2_24,hrb2_26,hrb2_31,hra2];all_goals rfl),s10,[],[],hL2⟩
      ·rintro ρ w22 ⟨⟨hrc2_2,hrc2_7,hrc2_8,hrc2_9,hrc2_10,hrc2_15,hrc2_14,hrc2_16,hrc2_18,hrc2_23,hrc2_22,hrc2_24,hrc2_26,hrc2_31,hrc2_30,-⟩,j3,hri2,s11,xs2,css2,hL2⟩
       have hj2:=hL2.le
       have hq22:=hL2.rd
       have hU22:Upd (fun b=>b=vb∨b=rb) w1 w22:=hU20.trans' hL2.upd fun i _ h=>.inr h
       have hz22:=hL2.upd.size
       have hG22:Glo ev w22:=hG1.updS hU22 hgM1 hgM2
       by_cases hlt2:j3 < N2
       ·obtain ⟨R3,q3,B3,hva3,hNq3,hLR3,hA3,hx3_22,hnext3⟩:=hL2.row.next hlt2
        have hRl3:=blk_lt hx3_22
        generalize css2.flatten=A3 at hA3 hx3_22 hnext3
        rw [Nat.mul_one] at hA3
        replace hra2:ρ 30 = .slice (some ⟨R3,0,none⟩) N2 q3:=hrc2_30.trans hva3
        have hown3:∀ b,ownB va2 b→w20.heap.size≤b∧b < w22.heap.size:=fun b h=>hL2.row.own h
        have hoM3:∀ b,(fun b=>(fun b=>(fun b=>(ok b∨w1.heap.size≤b)∧¬ ownB va0 b) b∧¬ ownB va1 b) b∧¬ ownB va2 b) b→¬ (b=R3∨b=rb):=fun b hk h=>h.elim (fun e=>hk.2 ⟨_,_,_,hva3,e⟩) (fun e=>hoM2 b hk.1 (.inr e))
        obtain ⟨X22,hX22⟩:∃ X:Array Value,X=(A3++(([.int .i32 0]:List Value)++B3)).toArray:=⟨_,rfl⟩
        have hxb22:blk w22 R3=some (X22,21,(0,0)):=by rw [hX22];exact hx3_22
        have hXs22:j3+1≤X22.size:=by rw [hX22];simp only [List.size_toArray,List.length_append,List.length_cons,List.length_nil,hA3];omega
        repeat ((first|refine qA rfl ?_|apply qB|refine qC rfl ?_|apply qD|apply qE|apply qF|apply qG|apply qH);try simp (disch:=(first|omega|(simp only [qI,qJ,qK]<;>omega)|exact qL _)) only [go_sem,↓reduceIte,n0,reduceCtorEq,n1,n2,n3,n4,n5,i0,i1,i2,i3,i4,i5,i6,i7,hxb22,hrc2_2,hrc2_7,hrc2_8,hrc2_9,hrc2_10,hrc2_15,hrc2_14,hrc2_16,hrc2_18,hrc2_23,hrc2_22,hrc2_24,hrc2_26,hrc2_31,hra2,hri2,exitRQ_ret,exitRQ_exit,Int.toNat_natCast,Nat.mul_one,hun,hun'])
        refine (Int32_fn w22 hq22.1 hrok hG22.1 hgrb).mono ?_
        rintro _ w23 ⟨rfl,hq23,hu23⟩
        have hx3_23:=hu23.blk_some hx3_22 (by omega)
        have hV23:Upd (fun b=>b=R3∨b=rb) w22 w23:=hu23.mono (fun _ h=>.inr h)
        have hU23:Upd (fun b=>b=vb∨b=rb) w1 w23:=hU22.trans' hV23 fun i hi h=>h.elim (fun h=>by omega) .inr
        have hz23:=hV23.size
        have hG23:Glo ev w23:=hG1.updS hU23 hgM1 hgM2
        obtain ⟨X23,hX23⟩:∃ X:Array Value,X=(A3++(([.int .i32 0]:List Value)++B3)).toArray:=⟨_,rfl⟩
        have hxb23:blk w23 R3=some (X23,21,(0,0)):=by rw [hX23];exact hx3_23
        have hXs23:j3+1≤X23.size:=by rw [hX23];simp only [List.size_toArray,List.length_append,List.length_cons,List.length_nil,hA3];omega
        obtain ⟨s12,hs12⟩:∃ s,s=(rdInt .i32 4 s11).2:=⟨_,rfl⟩
        rw [← hs12] at hq23
        have hrE:(rd1 (rdP (d+1) ver true) fX1_2.of fX1_2.sub false true) s11=((.num (rdInt .i32 4 s11).1),s12):=by rw [hs12];exact rd1_num 3 (by decide)
        have hst23_0:j3+1≤X23.size:=by omega
        repeat ((first|refine qA rfl ?_|apply qB|refine qC rfl ?_|apply qD|apply qE|apply qF|apply qG|apply qH);try simp (disch:=(first|omega|(simp only [qI,qJ,qK]<;>omega)|exact qL _)) only [go_sem,↓reduceIte,n0,reduceCtorEq,n1,n2,n3,n4,n5,i0,i1,i2,i3,i4,i5,i6,i7,hxb23,hrc2_2,hrc2_7,hrc2_8,hrc2_9,hrc2_10,hrc2_15,hrc2_14,hrc2_16,hrc2_18,hrc2_23,hrc2_22,hrc2_24,hrc2_26,hrc2_31,hra2,hri2,exitRQ_ret,exitRQ_exit,Int.toNat_natCast,Nat.mul_one,hun,hun',hst23_0])
        generalize hw24:wr w23 R3 (j3) [.int .i32 (rdInt .i32 4 s11).1] = w24
        have hS24:Upd (fun b=>b=R3∨b=rb) w23 w24:=by rw [← hw24];exact (Upd.refl _ _).wr _ _ (.inr (.inl rfl))
        have hx3_24:blk w24 R3=some ((A3++(([.int .i32 (rdInt .i32 4 s11).1]:List Value)++B3)).toArray,21,(0,0)):=by rw [← hw24];exact el_blk0 hx3_23 hA3 (Nat.le_of_ble_eq_true rfl)
        have hV24:=hS24
        have hU24:Upd (fun b=>b=vb∨b=rb) w1 w24:=hU23.trans' hV24 fun i hi h=>h.elim (fun h=>by omega) .inr
        have hz24:=hV24.size
        have hG24:Glo ev w24:=hG1.updS hU24 hgM1 hgM2
        have hq24:Rdr RT ok w24 rb s12∧NN w24 rb s12:=by
         have hn:∀ x,x=w24→(Rdr RT ok x rb s12∧NN x rb s12):=fun x hx=>by
          rw [hx,← hw24]
          exact Rdr.store hq23 (by omega) (fun h=>by have:=(hok _ h).1;first|omega|exact (hok _ h).2 rfl)
         exact hn _ rfl
        obtain ⟨X24,hX24⟩:∃ X:Array Value,X=(A3++(([.int .i32 (rdInt .i32 4 s11).1]:List Value)++B3)).toArray:=⟨_,rfl⟩
        have hxb24:blk w24 R3=some (X24,21,(0,0)):=by rw [hX24];exact hx3_24
        have hXs24:j3+1≤X24.size:=by rw [hX24];simp only [List.size_toArray,List.length_append,List.length_cons,List.length_nil,hA3];omega
        clear hw24
        have hxE:(Rep1 (RepS true (d+1)) fX1_2.of fX1_2.sub) (fun b=>(fun b=>(fun b=>(ok b∨w1.heap.size≤b)∧¬ ownB va0 b) b∧¬ ownB va1 b) b∧¬ ownB va2 b) w24 (.num (rdInt .i32 4 s11).1) [.int .i32 (rdInt .i32 4 s11).1]:=(Rep1_num (by decide)).2 (congrArg (fun x=>[x]) (numC_rd 3 (by decide) 4 s11).symm)
        repeat ((first|refine qA rfl ?_|apply qB|refine qC rfl ?_|apply qD|apply qE|apply qF|apply qG|apply qH);try simp (disch:=(first|omega|(simp only [qI,qJ,qK]<;>omega)|exact qL _)) only [go_sem,↓reduceIte,n0,reduceCtorEq,n1,n2,n3,n4,n5,i0,i1,i2,i3,i4,i5,i6,i7,hxb24,hrc2_2,hrc2_7,hrc2_8,hrc2_9,hrc2_10,hrc2_15,hrc2_14,hrc2_16,hrc2_18,hrc2_23,hrc2_22,hrc2_24,hrc2_26,hrc2_31,hra2,hri2,exitRQ_ret,exitRQ_exit,Int.toNat_natCast,Nat.mul_one,hun,hun'])
        have hTk:Upd (fun b=>b=R3∨b=rb) w22 w24:=(hV23.trans hV24)
        have hL':=hL2.step (Rep1_lay _ _ fun _=>RepS_lay true _ _) hlt2 (hnext3 w24 [.int .i32 (rdInt .i32 4 s11).1] rfl hx3_24) (by rw [hrE];exact hxE) (hTk.mono fun b h=>h.imp (fun e=>⟨_,_,_,hva3,e⟩) id) (by rw [hrE];exact hq24) (fun h=>hoM2 rb h (.inr rfl)) (Nat.le_refl _)
        have hij:IntKind.i32.wrap ((j3:Int)+1)=((j3+1:Nat):Int):=by rw [i32_wrap (by omega)];omega
        repeat ((first|refine qA rfl ?_|apply qB|refine qC rfl ?_|apply qD|apply qE|apply qF|apply qG|apply qH);try simp (disch:=(first|omega|(simp only [qI,qJ,qK]<;>omega)|exact qL _)) only [go_sem,↓reduceIte,n0,reduceCtorEq,n1,n2,n3,n4,n5,i0,i1,i2,i3,i4,i5,i6,i7,hxb24,hrc2_2,hrc2_7,hrc2_8,hrc2_9,hrc2_10,hrc2_15,hrc2_14,hrc2_16,hrc2_18,hrc2_23,hrc2_22,hrc2_24,hrc2_26,hrc2_31,hra2,hri2,exitRQ_ret,exitRQ_exit,Int.toNat_natCast,Nat.mul_one,hun,hun',hij])
        refine ⟨⟨(by simp (disch:=(first|omega|(simp only [qI,qJ,qK]<;>omega)|exact qL _)) only [go_sem,↓reduceIte,n0,reduceCtorEq,n1,n2,n3,n4,n5,i0,i1,i2,i3,i4,i5,i6,i7,Holds_nil,Holds_cons,hrc2_2,hrc2_7,hrc2_8,hrc2_9,hrc2_10,hrc2_15,hrc2_14,hrc2_16,hrc2_18,hrc2_23,hrc2_22,hrc2_24,hrc2_26,hrc2_31,hra2,hri2];exact hva3.symm),j3+1,(by simp (disch:=(first|omega|(simp only [qI,qJ,qK]<;>omega)|exact qL _)) only [go_sem,↓reduceIte,n0,reduceCtorEq,n1,n2,n3,n4,n5,i0,i1,i2,i3,i4,i5,i6,i7,hrc2_2,hrc2_7,hrc2_8,hrc2_9,hrc2_10,hrc2_15,hrc2_14,hrc2_16,hrc2_18,hrc2_23,hrc2_22,hrc2_24,hrc2_26,hrc2_31,hra2,hri2,hij];all_goals rfl),_,_,_,hL'⟩,?_⟩
        try simp (disch:=(first|omega|(simp only [qI,qJ,qK]<;>omega)|exact qL _)) only [go_sem,↓reduceIte,n0,reduceCtorEq,n1,n2,n3,n4,n5,i0,i1,i2,i3,i4,i5,i6,i7,hrc2_2,hrc2_7,hrc2_8,hrc2_9,hrc2_10,hrc2_15,hrc2_14,hrc2_16,hrc2_18,hrc2_23,hrc2_22,hrc2_24,hrc2_26,hrc2_31,hra2,hri2]
        simp only [RowKit.intOf]
        omega
       ·have hjN:j3=N2:=by omega
        rw [hjN] at hL2
        repeat ((first|refine qA rfl ?_|apply qB|refine qC rfl ?_|apply qD|apply qE|apply qF|apply qG|apply qH);try simp (disch:=(first|omega|(simp only [qI,qJ,qK]<;>omega)|exact qL _)) only [go_sem,↓reduceIte,n0,reduceCtorEq,n1,n2,n3,n4,n5,i0,i1,i2,i3,i4,i5,i6,i7,hrc2_2,hrc2_7,hrc2_8,hrc2_9,hrc2_10,hrc2_15,hrc2_14,hrc2_16,hrc2_18,hrc2_23,hrc2_22,hrc2_24,hrc2_26,hrc2_31,hrc2_30,hri2,exitRQ_ret,exitRQ_exit])
        exact ⟨(by simp (disch:=(first|omega|(simp only [qI,qJ,qK]<;>omega)|exact qL _)) only [go_sem,↓reduceIte,n0,reduceCtorEq,n1,n2,n3,n4,n5,i0,i1,i2,i3,i4,i5,i6,i7,Holds_nil,Holds_cons,hrc2_2,hrc2_7,hrc2_8,hrc2_9,hrc2_10,hrc2_15,hrc2_14,hrc2_16,hrc2_18,hrc2_23,hrc2_22,hrc2_24,hrc2_26,hrc2_31,hrc2_30,hri2]),s11,xs2,css2,hL2⟩
      rintro ρ w25 ⟨⟨hrd2_2,hrd2_7,hrd2_8,hrd2_9,hrd2_10,hrd2_15,hrd2_14,hrd2_16,hrd2_18,hrd2_23,hrd2_22,hrd2_24,hrd2_26,hrd2_31,hrd2_30,-⟩,s13,xs2,css2,hL2⟩
      have hq25:=hL2.rd
      have hu25:=hL2.upd
      have hx2_25:=hu25.blk_some hx2_20 (by omega)
      have hV25:Upd (fun b=>b=R2∨b=rb) w20 w25:=hu25.mono (fun _ h=>.inr h)
      have hU25:Upd (fun b=>b=vb∨b=rb) w1 w25:=hU20.trans' hV25 fun i hi h=>h.elim (fun h=>by omega) .inr
      have hz25:=hV25.size
      have hG25:Glo ev w25:=hG1.updS hU25 hgM1 hgM2
      obtain ⟨X25,hX25⟩:∃ X:Array Value,X=(A2++(([.int .i32 (rdInt .i32 4 s7).1,.int .i32 (rdInt .i32 4 s8).1,.slice none 0 0,.slice none 0 0,.int .i8 0,.int .i32 0,.map none]:List Value)++B2)).toArray:=⟨_,rfl⟩
      have hxb25:blk w25 R2=some (X25,81,(0,0)):=by rw [hX25];exact hx2_25
      have hXs25:j2 * 7+7≤X25.size:=by rw [hX25];simp only [List.size_toArray,List.length_append,List.length_cons,List.length_nil,hA2];omega
      have hrd2:rdF (rdP (d+1) ver true) ver true fX1_2 s9=(.mk 0 [] (nilS fX1_2 ver y2) xs2 [],s13):=by
       have h:=rdF_listE (pt:=(rdP (d+1) ver true)) (v:=ver) (flex:=true) (f:=fX1_2) (s:=s9) (xs:=xs2) (e:=s13) rfl (by rw [hy2,← hN2,← hs10];exact hL2.done)
       rw [hy2] at h;exact h
      have hs13:s13=(rdF (rdP (d+1) ver true) ver true fX1_2 s9).2:=by rw [hrd2]
      obtain ⟨aa2,qq2,hvs2⟩:=hL2.row.shape
      subst hvs2
      have hst25_2:j2 * 7+3≤X25.size:=by omega
      have hld25_3:X25[j2 * 7+3]? = some (.slice none 0 0):=by rw [hX25];exact el_cell (R:=0) hA2 (Nat.le_of_ble_eq_true rfl)
      repeat ((first|refine qA rfl ?_|apply qB|refine qC rfl ?_|apply qD|apply qE|apply qF|apply qG|apply qH);try simp (disch:=(first|omega|(simp only [qI,qJ,qK]<;>omega)|exact qL _)) only [go_sem,↓reduceIte,n0,reduceCtorEq,n1,n2,n3,n4,n5,i0,i1,i2,i3,i4,i5,i6,i7,hxb25,hrd2_2,hrd2_7,hrd2_8,hrd2_9,hrd2_10,hrd2_15,hrd2_14,hrd2_16,hrd2_18,hrd2_23,hrd2_22,hrd2_24,hrd2_26,hrd2_31,hrd2_30,exitRQ_ret,exitRQ_exit,Int.toNat_natCast,Nat.mul_one,hun,hun',hst25_2,hld25_3,Array.getElem?_setIfInBounds_ne])
      generalize hw26:wr w25 R2 (j2 * 7+2) [.slice aa2 N2 qq2] = w26
      have hS26:Upd (fun b=>b=R2∨b=rb) w25 w26:=by rw [← hw26];exact (Upd.refl _ _).wr _ _ (.inr (.inl rfl))
      have hx2_26:blk w26 R2=some ((A2++(([.int .i32 (rdInt .i32 4 s7).1,.int .i32 (rdInt .i32 4 s8).1,.slice aa2 N2 qq2,.slice none 0 0,.int .i8 0,.int .i32 0,.map none]:List Value)++B2)).toArray,81,(0,0)):=by rw [← hw26];exact el_blk (o:=2) hx2_25 hA2 (Nat.le_of_ble_eq_true rfl)
      have hV26:=hS26
      have hU26:Upd (fun b=>b=vb∨b=rb) w1 w26:=hU25.trans' hV26 fun i hi h=>h.elim (fun h=>by omega) .inr
      have hz26:=hV26.size
      have hG26:Glo ev w26:=hG1.updS hU26 hgM1 hgM2
      have hq26:Rdr RT ok w26 rb s13∧NN w26 rb s13:=by
       have hn:∀ x,x=w26→(Rdr RT ok x rb s13∧NN x rb s13):=fun x hx=>by
        rw [hx,← hw26]
        exact Rdr.store hq25 (by omega) (fun h=>by have:=(hok _ h).1;first|omega|exact (hok _ h).2 rfl)
       exact hn _ rfl
      obtain ⟨X26,hX26⟩:∃ X:Array Value,X=(A2++(([.int .i32 (rdInt .i32 4 s7).1,.int .i32 (rdInt .i32 4 s8).1,.slice aa2 N2 qq2,.slice none 0 0,.int .i8 0,.int .i32 0,.map none]:List Value)++B2)).toArray:=⟨_,rfl⟩
      have hxb26:blk w26 R2=some (X26,81,(0,0)):=by rw [hX26];exact hx2_26
      have hXs26:j2 * 7+7≤X26.size:=by rw [hX26];simp only [List.size_toArray,List.length_append,List.length_cons,List.length_nil,hA2];omega
      clear hw26
      have hfe0e1_2:RepF (RepS true (d+1)) (szS true (d+1)) fX1_2 (fun b=>(fun b=>(ok b∨w1.heap.size≤b)∧¬ ownB va0 b) b∧¬ ownB va1 b) w26 (xe0e1_2) [.slice aa2 N2 qq2]:=by rw [hxe0e1_2,hrd2];exact RepF.keepS (RepF_row rfl hnc2 hN2 rfl hL2.row hL2.all (fun b hb=>⟨⟨.inr (by omega),fun ho=>by have:=(hown1 _ ho).2;omega⟩,fun ho=>by have:=(hown2 _ ho).2;omega⟩)) (hV26.keeps fun b _ hk e=>hoM2 b hk e)
      clear hL2 hnc2
      have hbe0e1_3:(rdL (rdP (d+1) ver true) (dfP (d+1)) ver true [fX1_3,fX1_4,fX1_5] s13).2=none→FB:=fun h=>hbe0e1_2 (by rw [rdL_st (by decide) hhe0e1_2,← hs13];exact h)
      obtain ⟨xe0e1_3,hxe0e1_3⟩:∃ x,x=dfF (dfP (d+1)) fX1_3:=⟨_,rfl⟩
      have hfe0e1_3:RepF (RepS true (d+1)) (szS true (d+1)) fX1_3 (fun b=>(fun b=>(ok b∨w1.heap.size≤b)∧¬ ownB va0 b) b∧¬ ownB va1 b) w26 (xe0e1_3) [.slice none 0 0]:=by rw [hxe0e1_3];exact RepF_nil rfl
      have hhe0e1_3:hasS fX1_3 ver=false:=hasS_f (by show ver < 3∨(0≤(-1:Int)∧(-1:Int) < ver);omega)
      have hbe0e1_4:(rdL (rdP (d+1) ver true) (dfP (d+1)) ver true [fX1_4,fX1_5] s13).2=none→FB:=fun h=>hbe0e1_3 (by rw [rdL_no hhe0e1_3];exact h)
      have hhe0e1_4:hasS fX1_4 ver=true:=hasS_t (by show (1:Int)≤ver;omega) (by show (-1:Int) < 0∨ver≤(-1:Int);omega)
      obtain ⟨xe0e1_4,hxe0e1_4⟩:∃ x,x=(rdF (rdP (d+1) ver true) ver true fX1_4 s13).1:=⟨_,rfl⟩
      repeat ((first|refine qA rfl ?_|apply qB|refine qC rfl ?_|apply qD|apply qE|apply qF|apply qG|apply qH);try simp (disch:=(first|omega|(simp only [qI,qJ,qK]<;>omega)|exact qL _)) only [go_sem,↓reduceIte,n0,reduceCtorEq,n1,n2,n3,n4,n5,i0,i1,i2,i3,i4,i5,i6,i7,hxb26,hrd2_2,hrd2_7,hrd2_8,hrd2_9,hrd2_10,hrd2_15,hrd2_14,hrd2_16,hrd2_18,hrd2_23,hrd2_22,hrd2_24,hrd2_26,hrd2_31,hrd2_30,exitRQ_ret,exitRQ_exit,Int.toNat_natCast,Nat.mul_one,hun,hun'])
      have hrd:rdF (rdP (d+1) ver true) ver true fX1_4 s13=_:=rdF_num 1 rfl (by decide)
      refine (Int8_fn w26 hq26.1 hrok).mono ?_
      rintro _ w27 ⟨rfl,hq27,hu27⟩
      have hx2_27:=hu27.blk_some hx2_26 (by omega)
      have hV27:Upd (fun b=>b=R2∨b=rb) w26 w27:=hu27.mono (fun _ h=>.inr h)
      have hU27:Upd (fun b=>b=vb∨b=rb) w1 w27:=hU26.trans' hV27 fun i hi h=>h.elim (fun h=>by omega) .inr
      have hz27:=hV27.size
      have hG27:Glo ev w27:=hG1.updS hU27 hgM1 hgM2
      obtain ⟨X27,hX27⟩:∃ X:Array Value,X=(A2++(([.int .i32 (rdInt .i32 4 s7).1,.int .i32 (rdInt .i32 4 s8).1,.slice aa2 N2 qq2,.slice none 0 0,.int .i8 0,.int .i32 0,.map none]:List Value)++B2)).toArray:=⟨_,rfl⟩
      have hxb27:blk w27 R2=some (X27,81,(0,0)):=by rw [hX27];exact hx2_27
      have hXs27:j2 * 7+7≤X27.size:=by rw [hX27];simp only [List.size_toArray,List.length_append,List.length_cons,List.length_nil,hA2];omega
      have hst:(rdF (rdP (d+1) ver true) ver true fX1_4 s13).2=(rdInt .i8 1 s13).2:=by first|(rw [hrd];rfl)|rw [hrd]
      obtain ⟨s14,hs14⟩:∃ s,s=(rdF (rdP (d+1) ver true) ver true fX1_4 s13).2:=⟨_,rfl⟩
      rw [← hst,← hs14] at hq27
      clear hst
      have hst27_4:j2 * 7+5≤X27.size:=by omega
      repeat ((first|refine qA rfl ?_|apply qB|refine qC rfl ?_|apply qD|apply qE|apply qF|apply qG|apply qH);try simp (disch:=(first|omega|(simp only [qI,qJ,qK]<;>omega)|exact qL _)) only [go_sem,↓reduceIte,n0,reduceCtorEq,n1,n2,n3,n4,n5,i0,i1,i2,i3,i4,i5,i6,i7,hxb27,hrd2_2,hrd2_7,hrd2_8,hrd2_9,hrd2_10,hrd2_15,hrd2_14,hrd2_16,hrd2_18,hrd2_23,hrd2_22,hrd2_24,hrd2_26,hrd2_31,hrd2_30,exitRQ_ret,exitRQ_exit,Int.toNat_natCast,Nat.mul_one,hun,hun',hst27_4])
      generalize hw28:wr w27 R2 (j2 * 7+4) [.int .i8 (rdInt .i8 1 s13).1] = w28
      have hS28:Upd (fun b=>b=R2∨b=rb) w27 w28:=by rw [← hw28];exact (Upd.refl _ _).wr _ _ (.inr (.inl rfl))
      have hx2_28:blk w28 R2=some ((A2++(([.int .i32 (rdInt .i32 4 s7).1,.int .i32 (rdInt .i32 4 s8).1,.slice aa2 N2 qq2,.slice none 0 0,.int .i8 (rdInt .i8 1 s13).1,.int .i32 0,.map none]:List Value)++B2)).toArray,81,(0,0)):=by rw [← hw28];exact el_blk (o:=4) hx2_27 hA2 (Nat.le_of_ble_eq_true rfl)
      have hV28:=hS28
      have hU28:Upd (fun b=>b=vb∨b=rb) w1 w28:=hU27.trans' hV28 fun i hi h=>h.elim (fun h=>by omega) .inr
      have hz28:=hV28.size
      have hG28:Glo ev w28:=hG1.updS hU28 hgM1 hgM2
      have hq28:Rdr RT ok w28 rb s14∧NN w28 rb s14:=by
       have hn:∀ x,x=w28→(Rdr RT ok x rb s14∧NN x rb s14):=fun x hx=>by
        rw [hx,← hw28]
        exact Rdr.store hq27 (by omega) (fun h=>by have:=(hok _ h).1;first|omega|exact (hok _ h).2 rfl)
       exact hn _ rfl
      obtain ⟨X28,hX28⟩:∃ X:Array Value,X=(A2++(([.int .i32 (rdInt .i32 4 s7).1,.int .i32 (rdInt .i32 4 s8).1,.slice aa2 N2 qq2,.slice none 0 0,.int .i8 (rdInt .i8 1 s13).1,.int .i32 0,.map none]:List Value)++B2)).toArray:=⟨_,rfl⟩
      have hxb28:blk w28 R2=some (X28,81,(0,0)):=by rw [hX28];exact hx2_28
      have hXs28:j2 * 7+7≤X28.size:=by rw [hX28];simp only [List.size_toArray,List.length_append,List.length_cons,List.length_nil,hA2];omega
      clear hw28
      have hfe0e1_4:RepF (RepS true (d+1)) (szS true (d+1)) fX1_4 (fun b=>(fun b=>(ok b∨w1.heap.size≤b)∧¬ ownB va0 b) b∧¬ ownB va1 b) w28 (xe0e1_4) [.int .i8 (rdInt .i8 1 s13).1]:=(RepF_num (by decide)).2 (by rw [hxe0e1_4,hrd];exact congrArg (fun x=>[x]) (numC_rd 1 (by decide) 1 s13).symm)
      clear hrd
      have hbe0e1_5:(rdL (rdP (d+1) ver true) (dfP (d+1)) ver true [fX1_5] s14).2=none→FB:=fun h=>hbe0e1_4 (by rw [rdL_st (by decide) hhe0e1_4,← hs14];exact h)
      have hhe0e1_5:hasS fX1_5 ver=true:=hasS_t (by show (0:Int)≤ver;omega) (by show (-1:Int) < 0∨ver≤(-1:Int);omega)
      obtain ⟨xe0e1_5,hxe0e1_5⟩:∃ x,x=(rdF (rdP (d+1) ver true) ver true fX1_5 s14).1:=⟨_,rfl⟩
      repeat ((first|refine qA rfl ?_|apply qB|refine qC rfl ?_|apply qD|apply qE|apply qF|apply qG|apply qH);try simp (disch:=(first|omega|(simp only [qI,qJ,qK]<;>omega)|exact qL _)) only [go_sem,↓reduceIte,n0,reduceCtorEq,n1,n2,n3,n4,n5,i0,i1,i2,i3,i4,i5,i6,i7,hxb28,hrd2_2,hrd2_7,hrd2_8,hrd2_9,hrd2_10,hrd2_15,hrd2_14,hrd2_16,hrd2_18,hrd2_23,hrd2_22,hrd2_24,hrd2_26,hrd2_31,hrd2_30,exitRQ_ret,exitRQ_exit,Int.toNat_natCast,Nat.mul_one,hun,hun'])
      have hrd:rdF (rdP (d+1) ver true) ver true fX1_5 s14=_:=rdF_num 3 rfl (by decide)
      refine (Int32_fn w28 hq28.1 hrok hG28.1 hgrb).mono ?_
      rintro _ w29 ⟨rfl,hq29,hu29⟩
      have hx2_29:=hu29.blk_some hx2_28 (by omega)
      have hV29:Upd (fun b=>b=R2∨b=rb) w28 w29:=hu29.mono (fun _ h=>.inr h)
      have hU29:Upd (fun b=>b=vb∨b=rb) w1 w29:=hU28.trans' hV29 fun i hi h=>h.elim (fun h=>by omega) .inr
      have hz29:=hV29.size
      have hG29:Glo ev w29:=hG1.updS hU29 hgM1 hgM2
      obtain ⟨X29,hX29⟩:∃ X:Array Value,X=(A2++(([.int .i32 (rdInt .i32 4 s7).1,.int .i32 (rdInt .i32 4 s8).1,.slice aa2 N2 qq2,.slice none 0 0,.int .i8 (rdInt .i8 1 s13).1,.int .i32 0,.map none]:List Value)++B2)).toArray:=⟨_,rfl⟩
      have hxb29:blk w29 R2=some (X29,81,(0,0)):=by rw [hX29];exact hx2_29
      have hXs29:j2 * 7+7≤X29.size:=by rw [hX29];simp only [List.size_toArray,List.length_append,List.length_cons,List.length_nil,hA2];omega
      have hst:(rdF (rdP (d+1) ver true) ver true fX1_5 s14).2=(rdInt .i32 4 s14).2:=by first|(rw [hrd];rfl)|rw [hrd]
      obtain ⟨s15,hs15⟩:∃ s,s=(rdF (rdP (d+1) ver true) ver true fX1_5 s14).2:=⟨_,rfl⟩
      rw [← hst,← hs15] at hq29
      clear hst
      have hst29_5:j2 * 7+6≤X29.size:=by omega
      repeat ((first|refine qA rfl ?_|apply qB|refine qC rfl ?_|apply qD|apply qE|apply qF|apply qG|apply qH);try simp (disch:=(first|omega|(simp only [qI,qJ,qK]<;>omega)|exact qL _)) only [go_sem,↓reduceIte,n0,reduceCtorEq,n1,n2,n3,n4,n5,i0,i1,i2,i3,i4,i5,i6,i7,hxb29,hrd2_2,hrd2_7,hrd2_8,hrd2_9,hrd2_10,hrd2_15,hrd2_14,hrd2_16,hrd2_18,hrd2_23,hrd2_22,hrd2_24,hrd2_26,hrd2_31,hrd2_30,exitRQ_ret,exitRQ_exit,Int.toNat_natCast,Nat.mul_one,hun,hun',hst29_5])
      generalize hw30:wr w29 R2 (j2 * 7+5) [.int .i32 (rdInt .i32 4 s14).1] = w30
      have hS30:Upd (fun b=>b=R2∨b=rb) w29 w30:=by rw [← hw30];exact (Upd.refl _ _).wr _ _ (.inr (.inl rfl))
      have hx2_30:blk w30 R2=some ((A2++(([.int .i32 (rdInt .i32 4 s7).1,.int .i32 (rdInt .i32 4 s8).1,.slice aa2 N2 qq2,.slice none 0 0,.int .i8 (rdInt .i8 1 s13).1,.int .i32 (rdInt .i32 4 s14).1,.map none]:List Value)++B2)).toArray,81,(0,0)):=by rw [← hw30];exact el_blk (o:=5) hx2_29 hA2 (Nat.le_of_ble_eq_true rfl)
      have hV30:=hS30
      have hU30:Upd (fun b=>b=vb∨b=rb) w1 w30:=hU29.trans' hV30 fun i hi h=>h.elim (fun h=>by omega) .inr
      have hz30:=hV30.size
      have hG30:Glo ev w30:=hG1.updS hU30 hgM1 hgM2
      have hq30:Rdr RT ok w30 rb s15∧NN w30 rb s15:=by
       have hn:∀ x,x=w30→(Rdr RT ok x rb s15∧NN x rb s15):=fun x hx=>by
        rw [hx,← hw30]
        exact Rdr.store hq29 (by omega) (fun h=>by have:=(hok _ h).1;first|omega|exact (hok _ h).2 rfl)
       exact hn _ rfl
      obtain ⟨X30,hX30⟩:∃ X:Array Value,X=(A2++(([.int .i32 (rdInt .i32 4 s7).1,.int .i32 (rdInt .i32 4 s8).1,.slice aa2 N2 qq2,.slice none 0 0,.int .i8 (rdInt .i8 1 s13).1,.int .i32 (rdInt .i32 4 s14).1,.map none]:List Value)++B2)).toArray:=⟨_,rfl⟩
      have hxb30:blk w30 R2=some (X30,81,(0,0)):=by rw [hX30];exact hx2_30
      have hXs30:j2 * 7+7≤X30.size:=by rw [hX30];simp only [List.size_toArray,List.length_append,List.length_cons,List.length_nil,hA2];omega
      clear hw30
      have hfe0e1_5:RepF (RepS true (d+1)) (szS true (d+1)) fX1_5 (fun b=>(fun b=>(ok b∨w1.heap.size≤b)∧¬ ownB va0 b) b∧¬ ownB va1 b) w30 (xe0e1_5) [.int .i32 (rdInt .i32 4 s14).1]:=(RepF_num (by decide)).2 (by rw [hxe0e1_5,hrd];exact congrArg (fun x=>[x]) (numC_rd 3 (by decide) 4 s14).symm)
      clear hrd
      have hle0e1_6:rdL (rdP (d+1) ver true) (dfP (d+1)) ver true [] s15=([],s15):=rfl
      have hle0e1_5:rdL (rdP (d+1) ver true) (dfP (d+1)) ver true [fX1_5] s14=([xe0e1_5],s15):=by rw [rdL_st (by decide) hhe0e1_5,← hxe0e1_5,← hs15,hle0e1_6]
      have hle0e1_4:rdL (rdP (d+1) ver true) (dfP (d+1)) ver true [fX1_4,fX1_5] s13=([xe0e1_4,xe0e1_5],s15):=by rw [rdL_st (by decide) hhe0e1_4,← hxe0e1_4,← hs14,hle0e1_5]
      have hle0e1_3:rdL (rdP (d+1) ver true) (dfP (d+1)) ver true [fX1_3,fX1_4,fX1_5] s13=([xe0e1_3,xe0e1_4,xe0e1_5],s15):=by rw [rdL_no hhe0e1_3,← hxe0e1_3,hle0e1_4]
      have hle0e1_2:rdL (rdP (d+1) ver true) (dfP (d+1)) ver true [fX1_2,fX1_3,fX1_4,fX1_5] s9=([xe0e1_2,xe0e1_3,xe0e1_4,xe0e1_5],s15):=by rw [rdL_st (by decide) hhe0e1_2,← hxe0e1_2,← hs13,hle0e1_3]
      have hle0e1_1:rdL (rdP (d+1) ver true) (dfP (d+1)) ver true [fX1_1,fX1_2,fX1_3,fX1_4,fX1_5] s8=([xe0e1_1,xe0e1_2,xe0e1_3,xe0e1_4,xe0e1_5],s15):=by rw [rdL_st (by decide) hhe0e1_1,← hxe0e1_1,← hs9,hle0e1_2]
      have hle0e1_0:rdL (rdP (d+1) ver true) (dfP (d+1)) ver true [fX1_0,fX1_1,fX1_2,fX1_3,fX1_4,fX1_5] s7=([xe0e1_0,xe0e1_1,xe0e1_2,xe0e1_3,xe0e1_4,xe0e1_5],s15):=by rw [rdL_st (by decide) hhe0e1_0,← hxe0e1_0,← hs8,hle0e1_1]
      have hfine0e1:rdP (d+2) ver true fs_X1 s7=(.mk 0 [] false [xe0e1_0,xe0e1_1,xe0e1_2,xe0e1_3,xe0e1_4,xe0e1_5] (rdTags s15).1,(rdTags s15).2):=rdP_t hle0e1_0
      repeat ((first|refine qA rfl ?_|apply qB|refine qC rfl ?_|apply qD|apply qE|apply qF|apply qG|apply qH);try simp (disch:=(first|omega|(simp only [qI,qJ,qK]<;>omega)|exact qL _)) only [go_sem,↓reduceIte,n0,reduceCtorEq,n1,n2,n3,n4,n5,i0,i1,i2,i3,i4,i5,i6,i7,hxb30,hrd2_2,hrd2_7,hrd2_8,hrd2_9,hrd2_10,hrd2_15,hrd2_14,hrd2_16,hrd2_18,hrd2_23,hrd2_22,hrd2_24,hrd2_26,hrd2_31,hrd2_30,exitRQ_ret,exitRQ_exit,Int.toNat_natCast,Nat.mul_one,hun,hun'])
      refine (ReadTags_fn w30 hq30.1 hrok).mono ?_
      rintro _ w31 ⟨qme0e1,rfl,hT31,hTn,hq31,hu31⟩
      have hx2_31:=hu31.blk_some hx2_30 (by omega)
      have hV31:Upd (fun b=>b=R2∨b=rb) w30 w31:=hu31.mono (fun _ h=>.inr h)
      have hU31:Upd (fun b=>b=vb∨b=rb) w1 w31:=hU30.trans' hV31 fun i hi h=>h.elim (fun h=>by omega) .inr
      have hz31:=hV31.size
      have hG31:Glo ev w31:=hG1.updS hU31 hgM1 hgM2
      obtain ⟨X31,hX31⟩:∃ X:Array Value,X=(A2++(([.int .i32 (rdInt .i32 4 s7).1,.int .i32 (rdInt .i32 4 s8).1,.slice aa2 N2 qq2,.slice none 0 0,.int .i8 (rdInt .i8 1 s13).1,.int .i32 (rdInt .i32 4 s14).1,.map none]:List Value)++B2)).toArray:=⟨_,rfl⟩
      have hxb31:blk w31 R2=some (X31,81,(0,0)):=by rw [hX31];exact hx2_31
      have hXs31:j2 * 7+7≤X31.size:=by rw [hX31];simp only [List.size_toArray,List.length_append,List.length_cons,List.length_nil,hA2];omega
      obtain ⟨s16,hs16⟩:∃ s,s=(rdTags s15).2:=⟨_,rfl⟩
      rw [← hs16] at hq31 hfine0e1
      have hst31_6:j2 * 7+7≤X31.size:=by omega
      repeat (first|simp (disch:=(first|omega|(simp only [qI,qJ,qK]<;>omega)|exact qL _)) only [go_sem,↓reduceIte,n0,reduceCtorEq,n1,n2,n3,n4,n5,i0,i1,i2,i3,i4,i5,i6,i7,hxb31,hrd2_2,hrd2_7,hrd2_8,hrd2_9,hrd2_10,hrd2_15,hrd2_14,hrd2_16,hrd2_18,hrd2_23,hrd2_22,hrd2_24,hrd2_26,hrd2_31,hrd2_30,exitRQ_ret,exitRQ_exit,Int.toNat_natCast,Nat.mul_one,hun,hun',hst31_6]|refine qA rfl ?_|apply qB|refine qC rfl ?_|apply qD|apply qE|apply qF|apply qG|apply qH)
      generalize hw32:wr w31 R2 (j2 * 7+6) [.map qme0e1] = w32
      have hS32:Upd (fun b=>b=R2∨b=rb) w31 w32:=by rw [← hw32];exact (Upd.refl _ _).wr _ _ (.inr (.inl rfl))
      have hx2_32:blk w32 R2=some ((A2++(([.int .i32 (rdInt .i32 4 s7).1,.int .i32 (rdInt .i32 4 s8).1,.slice aa2 N2 qq2,.slice none 0 0,.int .i8 (rdInt .i8 1 s13).1,.int .i32 (rdInt .i32 4 s14).1,.map qme0e1]:List Value)++B2)).toArray,81,(0,0)):=by rw [← hw32];exact el_blk (o:=6) hx2_31 hA2 (Nat.le_of_ble_eq_true rfl)
      have hV32:=hS32
      have hU32:Upd (fun b=>b=vb∨b=rb) w1 w32:=hU31.trans' hV32 fun i hi h=>h.elim (fun h=>by omega) .inr
      have hz32:=hV32.size
      have hG32:Glo ev w32:=hG1.updS hU32 hgM1 hgM2
      have hq32:Rdr RT ok w32 rb s16∧NN w32 rb s16:=by
       have hn:∀ x,x=w32→(Rdr RT ok x rb s16∧NN x rb s16):=fun x hx=>by
        rw [hx,← hw32]
        exact Rdr.store hq31 (by omega) (fun h=>by have:=(hok _ h).1;first|omega|exact (hok _ h).2 rfl)
       exact hn _ rfl
      obtain ⟨X32,hX32⟩:∃ X:Array Value,X=(A2++(([.int .i32 (rdInt .i32 4 s7).1,.int .i32 (rdInt .i32 4 s8).1,.slice aa2 N2 qq2,.slice none 0 0,.int .i8 (rdInt .i8 1 s13).1,.int .i32 (rdInt .i32 4 s14).1,.map qme0e1]:List Value)++B2)).toArray:=⟨_,rfl⟩
      have hxb32:blk w32 R2=some (X32,81,(0,0)):=by rw [hX32];exact hx2_32
      have hXs32:j2 * 7+7≤X32.size:=by rw [hX32];simp only [List.size_toArray,List.length_append,List.length_cons,List.length_nil,hA2];omega
      clear hw32
      have hTge0e1:TagsM (fun b=>(fun b=>(ok b∨w1.heap.size≤b)∧¬ ownB va0 b) b∧¬ ownB va1 b) w32 (.map qme0e1) (rdTags s15).1:=(hT31.weaken fun b _ hk=>hk.elim (fun hk=>⟨⟨.inl hk,fun ho=>by have:=(hown1 b ho).1;have:=(hok b hk).1;omega⟩,fun ho=>by have:=(hown2 b ho).1;have:=(hok b hk).1;omega⟩) (fun h=>by have h':w30.heap.size≤b:=h;exact ⟨⟨.inr (by omega),fun ho=>by have:=(hown1 _ ho).2;omega⟩,fun ho=>by have:=(hown2 _ ho).2;omega⟩)).keep (hV32.keeps fun b _ hk e=>hoM2 b hk e)
      have hCe0e1_32:Upd (fun b=>b=R2∨b=rb) w32 w32:=Upd.refl _ _
      have hCe0e1_31:Upd (fun b=>b=R2∨b=rb) w31 w32:=hV32.trans hCe0e1_32
      have hCe0e1_30:Upd (fun b=>b=R2∨b=rb) w30 w32:=hV31.trans hCe0e1_31
      have hCe0e1_29:Upd (fun b=>b=R2∨b=rb) w29 w32:=hV30.trans hCe0e1_30
      have hCe0e1_28:Upd (fun b=>b=R2∨b=rb) w28 w32:=hV29.trans hCe0e1_29
      have hCe0e1_27:Upd (fun b=>b=R2∨b=rb) w27 w32:=hV28.trans hCe0e1_28
      have hCe0e1_26:Upd (fun b=>b=R2∨b=rb) w26 w32:=hV27.trans hCe0e1_27
      have hCe0e1_25:Upd (fun b=>b=R2∨b=rb) w25 w32:=hV26.trans hCe0e1_26
      have hCe0e1_20:Upd (fun b=>b=R2∨b=rb) w20 w32:=hV25.trans hCe0e1_25
      have hCe0e1_19:Upd (fun b=>b=R2∨b=rb) w19 w32:=hV20.trans hCe0e1_20
      have hCe0e1_18:Upd (fun b=>b=R2∨b=rb) w18 w32:=hV19.trans hCe0e1_19
      have hCe0e1_17:Upd (fun b=>b=R2∨b=rb) w17 w32:=hV18.trans hCe0e1_18
      have hCe0e1_16:Upd (fun b=>b=R2∨b=rb) w16 w32:=hV17.trans hCe0e1_17
      have hCe0e1_15:Upd (fun b=>b=R2∨b=rb) w15 w32:=hV16.trans hCe0e1_16
      have hCe0e1_14:Upd (fun b=>b=R2∨b=rb) w14 w32:=hV15.trans hCe0e1_15
      have hRe0e1:RepS true (d+2) fs_X1 (fun b=>(fun b=>(ok b∨w1.heap.size≤b)∧¬ ownB va0 b) b∧¬ ownB va1 b) w32 (.mk 0 [] false [xe0e1_0,xe0e1_1,xe0e1_2,xe0e1_3,xe0e1_4,xe0e1_5] (rdTags s15).1) [.int .i32 (rdInt .i32 4 s7).1,.int .i32 (rdInt .i32 4 s8).1,.slice aa2 N2 qq2,.slice none 0 0,.int .i8 (rdInt .i8 1 s13).1,.int .i32 (rdInt .i32 4 s14).1,.map qme0e1]:=RepS.introT (c:=[.int .i32 (rdInt .i32 4 s7).1,.int .i32 (rdInt .i32 4 s8).1,.slice aa2 N2 qq2,.slice none 0 0,.int .i8 (rdInt .i8 1 s13).1,.int .i32 (rdInt .i32 4 s14).1]) (RepL.cons1 (hfe0e1_0.keepS (hCe0e1_17.keeps fun b _ hk e=>hoM2 b hk e)) (RepL.cons1 (hfe0e1_1.keepS (hCe0e1_19.keeps fun b _ hk e=>hoM2 b hk e)) (RepL.cons1 (hfe0e1_2.keepS (hCe0e1_26.keeps fun b _ hk e=>hoM2 b hk e)) (RepL.cons1 (hfe0e1_3.keepS (hCe0e1_26.keeps fun b _ hk e=>hoM2 b hk e)) (RepL.cons1 (hfe0e1_4.keepS (hCe0e1_28.keeps fun b _ hk e=>hoM2 b hk e)) (RepL.cons1 (hfe0e1_5.keepS (hCe0e1_30.keeps fun b _ hk e=>hoM2 b hk e)) RepL.nil)))))) hTge0e1
      have hrE:(rd1 (rdP (d+2) ver true) fX2_2.of fX2_2.sub false true) s7=((.mk 0 [] false [xe0e1_0,xe0e1_1,xe0e1_2,xe0e1_3,xe0e1_4,xe0e1_5] (rdTags s15).1),s16):=by rw [show (rd1 (rdP (d+2) ver true) fX2_2.of fX2_2.sub false true) s7=_ from rd1_part];exact hfine0e1
      have hxE:(Rep1 (RepS true (d+2)) fX2_2.of fX2_2.sub) (fun b=>(fun b=>(ok b∨w1.heap.size≤b)∧¬ ownB va0 b) b∧¬ ownB va1 b) w32 (.mk 0 [] false [xe0e1_0,xe0e1_1,xe0e1_2,xe0e1_3,xe0e1_4,xe0e1_5] (rdTags s15).1) [.int .i32 (rdInt .i32 4 s7).1,.int .i32 (rdInt .i32 4 s8).1,.slice aa2 N2 qq2,.slice none 0 0,.int .i8 (rdInt .i8 1 s13).1,.int .i32 (rdInt .i32 4 s14).1,.map qme0e1]:=Rep1_part.2 hRe0e1
      repeat ((first|refine qA rfl ?_|apply qB|refine qC rfl ?_|apply qD|apply qE|apply qF|apply qG|apply qH);try simp (disch:=(first|omega|(simp only [qI,qJ,qK]<;>omega)|exact qL _)) only [go_sem,↓reduceIte,n0,reduceCtorEq,n1,n2,n3,n4,n5,i0,i1,i2,i3,i4,i5,i6,i7,hxb32,hrd2_2,hrd2_7,hrd2_8,hrd2_9,hrd2_10,hrd2_15,hrd2_14,hrd2_16,hrd2_18,hrd2_23,hrd2_22,hrd2_24,hrd2_26,hrd2_31,hrd2_30,exitRQ_ret,exitRQ_exit,Int.toNat_natCast,Nat.mul_one,hun,hun'])
      have hTk:Upd (fun b=>b=R2∨b=rb) w14 w32:=(((((((((((((hV15.trans hV16).trans hV17).trans hV18).trans hV19).trans hV20).trans hV25).trans hV26).trans hV27).trans hV28).trans hV29).trans hV30).trans hV31).trans hV32)
      have hL':=hL1.step (Rep1_lay _ _ fun _=>RepS_lay true _ _) hlt1 (hnext2 w32 [.int .i32 (rdInt .i32 4 s7).1,.int .i32 (rdInt .i32 4 s8).1,.slice aa2 N2 qq2,.slice none 0 0,.int .i8 (rdInt .i8 1 s13).1,.int .i32 (rdInt .i32 4 s14).1,.map qme0e1] rfl hx2_32) (by rw [hrE];exact hxE) (hTk.mono fun b h=>h.imp (fun e=>⟨_,_,_,hva2,e⟩) id) (by rw [hrE];exact hq32) (fun h=>hoM1 rb h (.inr rfl)) (Nat.le_refl _)
      have hij:IntKind.i32.wrap ((j2:Int)+1)=((j2+1:Nat):Int):=by rw [i32_wrap (by omega)];omega
      repeat ((first|refine qA rfl ?_|apply qB|refine qC rfl ?_|apply qD|apply qE|apply qF|apply qG|apply qH);try simp (disch:=(first|omega|(simp only [qI,qJ,qK]<;>omega)|exact qL _)) only [go_sem,↓reduceIte,n0,reduceCtorEq,n1,n2,n3,n4,n5,i0,i1,i2,i3,i4,i5,i6,i7,hxb32,hrd2_2,hrd2_7,hrd2_8,hrd2_9,hrd2_10,hrd2_15,hrd2_14,hrd2_16,hrd2_18,hrd2_23,hrd2_22,hrd2_24,hrd2_26,hrd2_31,hrd2_30,exitRQ_ret,exitRQ_exit,Int.toNat_natCast,Nat.mul_one,hun,hun',hij])
      refine ⟨⟨(by simp (disch:=(first|omega|(simp only [qI,qJ,qK]<;>omega)|exact qL _)) only [go_sem,↓reduceIte,n0,reduceCtorEq,n1,n2,n3,n4,n5,i0,i1,i2,i3,i4,i5,i6,i7,Holds_nil,Holds_cons,hrd2_2,hrd2_7,hrd2_8,hrd2_9,hrd2_10,hrd2_15,hrd2_14,hrd2_16,hrd2_18,hrd2_23,hrd2_22,hrd2_24,hrd2_26,hrd2_31,hrd2_30];exact hva2.symm),j2+1,(by simp (disch:=(first|omega|(simp only [qI,qJ,qK]<;>omega)|exact qL _)) only [go_sem,↓reduceIte,n0,reduceCtorEq,n1,n2,n3,n4,n5,i0,i1,i2,i3,i4,i5,i6,i7,hrd2_2,hrd2_7,hrd2_8,hrd2_9,hrd2_10,hrd2_15,hrd2_14,hrd2_16,hrd2_18,hrd2_23,hrd2_22,hrd2_24,hrd2_26,hrd2_31,hrd2_30,hij];all_goals rfl),_,_,_,hL'⟩,?_⟩
      try simp (disch:=(first|omega|(simp only [qI,qJ,qK]<;>omega)|exact qL _)) only [go_sem,↓reduceIte,n0,reduceCtorEq,n1,n2,n3,n4,n5,i0,i1,i2,i3,i4,i5,i6,i7,hrd2_2,hrd2_7,hrd2_8,hrd2_9,hrd2_10,hrd2_15,hrd2_14,hrd2_16,hrd2_18,hrd2_23,hrd2_22,hrd2_24,hrd2_26,hrd2_31,hrd2_30]
      simp only [RowKit.intOf]
      omega
     ·have hjN:j2=N1:=by omega
      rw [hjN] at hL1
      repeat ((first|refine qA rfl ?_|apply qB|refine qC rfl ?_|apply qD|apply qE|apply qF|apply qG|apply qH);try simp (disch:=(first|omega|(simp only [qI,qJ,qK]<;>omega)|exact qL _)) only [go_sem,↓reduceIte,n0,reduceCtorEq,n1,n2,n3,n4,n5,i0,i1,i2,i3,i4,i5,i6,i7,hrc1_2,hrc1_7,hrc1_8,hrc1_9,hrc1_10,hrc1_15,hrc1_14,hrc1_16,hrc1_18,hrc1_23,hrc1_22,hri1,exitRQ_ret,exitRQ_exit])
      exact ⟨(by simp (disch:=(first|omega|(simp only [qI,qJ,qK]<;>omega)|exact qL _)) only [go_sem,↓reduceIte,n0,reduceCtorEq,n1,n2,n3,n4,n5,i0,i1,i2,i3,i4,i5,i6,i7,Holds_nil,Holds_cons,hrc1_2,hrc1_7,hrc1_8,hrc1_9,hrc1_10,hrc1_15,hrc1_14,hrc1_16,hrc1_18,hrc1_23,hrc1_22,hri1]),s7,xs1,css1,hL1⟩
    rintro ρ w33 ⟨⟨hrd1_2,hrd1_7,hrd1_8,hrd1_9,hrd1_10,hrd1_15,hrd1_14,hrd1_16,hrd1_18,hrd1_23,hrd1_22,-⟩,s17,xs1,css1,hL1⟩
    have hq33:=hL1.rd
    have hu33:=hL1.upd
    have hx1_33:=hu33.blk_some hx1_12 (by omega)
    have hV33:Upd (fun b=>b=R1∨b=rb) w12 w33:=hu33.mono (fun _ h=>.inr h)
    have hU33:Upd (fun b=>b=vb∨b=rb) w1 w33:=hU12.trans' hV33 fun i hi h=>h.elim (fun h=>by omega) .inr
    have hz33:=hV33.size
    have hG33:Glo ev w33:=hG1.updS hU33 hgM1 hgM2
    obtain ⟨X33,hX33⟩:∃ X:Array Value,X=(A1++(([strV (rdStr true s4).1,.int .u8 0,.int .u8 0,.int .u8 0,.int .u8 0,.int .u8 0,.int .u8 0,.int .u8 0,.int .u8 0,.int .u8 0,.int .u8 0,.int .u8 0,.int .u8 0,.int .u8 0,.int .u8 0,.int .u8 0,.int .u8 0,.slice none 0 0,.map none]:List Value)++B1)).toArray:=⟨_,rfl⟩
    have hxb33:blk w33 R1=some (X33,64,(0,0)):=by rw [hX33];exact hx1_33
    have hXs33:j1 * 19+19≤X33.size:=by rw [hX33];simp only [List.size_toArray,List.length_append,List.length_cons,List.length_nil,hA1];omega
    have hrd1:rdF (rdP (d+2) ver true) ver true fX2_2 s5=(.mk 0 [] (nilS fX2_2 ver y1) xs1 [],s17):=by
     have h:=rdF_listE (pt:=(rdP (d+2) ver true)) (v:=ver) (flex:=true) (f:=fX2_2) (s:=s5) (xs:=xs1) (e:=s17) rfl (by rw [hy1,← hN1,← hs6];exact hL1.done)
     rw [hy1] at h;exact h
    have hs17:s17=(rdF (rdP (d+2) ver true) ver true fX2_2 s5).2:=by rw [hrd1]
    obtain ⟨aa1,qq1,hvs1⟩:=hL1.row.shape
    subst hvs1
    have hst33_17:j1 * 19+18≤X33.size:=by omega
    repeat ((first|refine qA rfl ?_|apply qB|refine qC rfl ?_|apply qD|apply qE|apply qF|apply qG|apply qH);try simp (disch:=(first|omega|(simp only [qI,qJ,qK]<;>omega)|exact qL _)) only [go_sem,↓reduceIte,n0,reduceCtorEq,n1,n2,n3,n4,n5,i0,i1,i2,i3,i4,i5,i6,i7,hxb33,hrd1_2,hrd1_7,hrd1_8,hrd1_9,hrd1_10,hrd1_15,hrd1_14,hrd1_16,hrd1_18,hrd1_23,hrd1_22,exitRQ_ret,exitRQ_exit,Int.toNat_natCast,Nat.mul_one,hun,hun',hst33_17])
    generalize hw34:wr w33 R1 (j1 * 19+17) [.slice aa1 N1 qq1] = w34
    have hS34:Upd (fun b=>b=R1∨b=rb) w33 w34:=by rw [← hw34];exact (Upd.refl _ _).wr _ _ (.inr (.inl rfl))
    have hx1_34:blk w34 R1=some ((A1++(([strV (rdStr true s4).1,.int .u8 0,.int .u8 0,.int .u8 0,.int .u8 0,.int .u8 0,.int .u8 0,.int .u8 0,.int .u8 0,.int .u8 0,.int .u8 0,.int .u8 0,.int .u8 0,.int .u8 0,.int .u8 0,.int .u8 0,.int .u8 0,.slice aa1 N1 qq1,.map none]:List Value)++B1)).toArray,64,(0,0)):=by rw [← hw34];exact el_blk (o:=17) hx1_33 hA1 (Nat.le_of_ble_eq_true rfl)
    have hV34:=hS34
    have hU34:Upd (fun b=>b=vb∨b=rb) w1 w34:=hU33.trans' hV34 fun i hi h=>h.elim (fun h=>by omega) .inr
    have hz34:=hV34.size
    have hG34:Glo ev w34:=hG1.updS hU34 hgM1 hgM2
    have hq34:Rdr RT ok w34 rb s17∧NN w34 rb s17:=by
     have hn:∀ x,x=w34→(Rdr RT ok x rb s17∧NN x rb s17):=fun x hx=>by
      rw [hx,← hw34]
      exact Rdr.store hq33 (by omega) (fun h=>by have:=(hok _ h).1;first|omega|exact (hok _ h).2 rfl)
     exact hn _ rfl
    obtain ⟨X34,hX34⟩:∃ X:Array Value,X=(A1++(([strV (rdStr true s4).1,.int .u8 0,.int .u8 0,.int .u8 0,.int .u8 0,.int .u8 0,.int .u8 0,.int .u8 0,.int .u8 0,.int .u8 0,.int .u8 0,.int .u8 0,.int .u8 0,.int .u8 0,.int .u8 0,.int .u8 0,.int .u8 0,.slice aa1 N1 qq1,.map none]:List Value)++B1)).toArray:=⟨_,rfl⟩
    have hxb34:blk w34 R1=some (X34,64,(0,0)):=by rw [hX34];exact hx1_34
    have hXs34:j1 * 19+19≤X34.size:=by rw [hX34];simp only [List.size_toArray,List.length_append,List.length_cons,List.length_nil,hA1];omega
    clear hw34
    have hfe0_2:RepF (RepS true (d+2)) (szS true (d+2)) fX2_2 (fun b=>(ok b∨w1.heap.size≤b)∧¬ ownB va0 b) w34 (xe0_2) [.slice aa1 N1 qq1]:=by rw [hxe0_2,hrd1];exact RepF.keepS (RepF_row rfl hnc1 hN1 rfl hL1.row hL1.all (fun b hb=>⟨.inr (by omega),fun ho=>by have:=(hown1 _ ho).2;omega⟩)) (hV34.keeps fun b _ hk e=>hoM1 b hk e)
    clear hL1 hnc1
    have hle0_3:rdL (rdP (d+2) ver true) (dfP (d+2)) ver true [] s17=([],s17):=rfl
    have hle0_2:rdL (rdP (d+2) ver true) (dfP (d+2)) ver true [fX2_2] s5=([xe0_2],s17):=by rw [rdL_st (by decide) hhe0_2,← hxe0_2,← hs17,hle0_3]
    have hle0_1:rdL (rdP (d+2) ver true) (dfP (d+2)) ver true [fX2_1,fX2_2] s5=([xe0_1,xe0_2],s17):=by rw [rdL_no hhe0_1,← hxe0_1,hle0_2]
    have hle0_0:rdL (rdP (d+2) ver true) (dfP (d+2)) ver true [fX2_0,fX2_1,fX2_2] s4=([xe0_0,xe0_1,xe0_2],s17):=by rw [rdL_st (by decide) hhe0_0,← hxe0_0,← hs5,hle0_1]
    have hfine0:rdP (d+3) ver true fs_X2 s4=(.mk 0 [] false [xe0_0,xe0_1,xe0_2] (rdTags s17).1,(rdTags s17).2):=rdP_t hle0_0
    repeat ((first|refine qA rfl ?_|apply qB|refine qC rfl ?_|apply qD|apply qE|apply qF|apply qG|apply qH);try simp (disch:=(first|omega|(simp only [qI,qJ,qK]<;>omega)|exact qL _)) only [go_sem,↓reduceIte,n0,reduceCtorEq,n1,n2,n3,n4,n5,i0,i1,i2,i3,i4,i5,i6,i7,hxb34,hrd1_2,hrd1_7,hrd1_8,hrd1_9,hrd1_10,hrd1_15,hrd1_14,hrd1_16,hrd1_18,hrd1_23,hrd1_22,exitRQ_ret,exitRQ_exit,Int.toNat_natCast,Nat.mul_one,hun,hun'])
    refine (ReadTags_fn w34 hq34.1 hrok).mono ?_
    rintro _ w35 ⟨qme0,rfl,hT35,hTn,hq35,hu35⟩
    have hx1_35:=hu35.blk_some hx1_34 (by omega)
    have hV35:Upd (fun b=>b=R1∨b=rb) w34 w35:=hu35.mono (fun _ h=>.inr h)
    have hU35:Upd (fun b=>b=vb∨b=rb) w1 w35:=hU34.trans' hV35 fun i hi h=>h.elim (fun h=>by omega) .inr
    have hz35:=hV35.size
    have hG35:Glo ev w35:=hG1.updS hU35 hgM1 hgM2
    obtain ⟨X35,hX35⟩:∃ X:Array Value,X=(A1++(([strV (rdStr true s4).1,.int .u8 0,.int .u8 0,.int .u8 0,.int .u8 0,.int .u8 0,.int .u8 0,.int .u8 0,.int .u8 0,.int .u8 0,.int .u8 0,.int .u8 0,.int .u8 0,.int .u8 0,.int .u8 0,.int .u8 0,.int .u8 0,.slice aa1 N1 qq1,.map none]:List Value)++B1)).toArray:=⟨_,rfl⟩
    have hxb35:blk w35 R1=some (X35,64,(0,0)):=by rw [hX35];exact hx1_35
    have hXs35:j1 * 19+19≤X35.size:=by rw [hX35];simp only [List.size_toArray,List.length_append,List.length_cons,List.length_nil,hA1];omega
    obtain ⟨s18,hs18⟩:∃ s,s=(rdTags s17).2:=⟨_,rfl⟩
    rw [← hs18] at hq35 hfine0
    have hst35_18:j1 * 19+19≤X35.size:=by omega
    repeat (first|simp (disch:=(first|omega|(simp only [qI,qJ,qK]<;>omega)|exact qL _)) only [go_sem,↓reduceIte,n0,reduceCtorEq,n1,n2,n3,n4,n5,i0,i1,i2,i3,i4,i5,i6,i7,hxb35,hrd1_2,hrd1_7,hrd1_8,hrd1_9,hrd1_10,hrd1_15,hrd1_14,hrd1_16,hrd1_18,hrd1_23,hrd1_22,exitRQ_ret,exitRQ_exit,Int.toNat_natCast,Nat.mul_one,hun,hun',hst35_18]|refine qA rfl ?_|apply qB|refine qC rfl ?_|apply qD|apply qE|apply qF|apply qG|apply qH)
    generalize hw36:wr w35 R1 (j1 * 19+18) [.map qme0] = w36
    have hS36:Upd (fun b=>b=R1∨b=rb) w35 w36:=by rw [← hw36];exact (Upd.refl _ _).wr _ _ (.inr (.inl rfl))
    have hx1_36:blk w36 R1=some ((A1++(([strV (rdStr true s4).1,.int .u8 0,.int .u8 0,.int .u8 0,.int .u8 0,.int .u8 0,.int .u8 0,.int .u8 0,.int .u8 0,.int .u8 0,.int .u8 0,.int .u8 0,.int .u8 0,.int .u8 0,.int .u8 0,.int .u8 0,.int .u8 0,.slice aa1 N1 qq1,.map qme0]:List Value)++B1)).toArray,64,(0,0)):=by rw [← hw36];exact el_blk (o:=18) hx1_35 hA1 (Nat.le_of_ble_eq_true rfl)
    have hV36:=hS36
    have hU36:Upd (fun b=>b=vb∨b=rb) w1 w36:=hU35.trans' hV36 fun i hi h=>h.elim (fun h=>by omega) .inr
    have hz36:=hV36.size
    have hG36:Glo ev w36:=hG1.updS hU36 hgM1 hgM2
    have hq36:Rdr RT ok w36 rb s18∧NN w36 rb s18:=by
     have hn:∀ x,x=w36→(Rdr RT ok x rb s18∧NN x rb s18):=fun x hx=>by
      rw [hx,← hw36]
      exact Rdr.store hq35 (by omega) (fun h=>by have:=(hok _ h).1;first|omega|exact (hok _ h).2 rfl)
     exact hn _ rfl
    obtain ⟨X36,hX36⟩:∃ X:Array Value,X=(A1++(([strV (rdStr true s4).1,.int .u8 0,.int .u8 0,.int .u8 0,.int .u8 0,.int .u8 0,.int .u8 0,.int .u8 0,.int .u8 0,.int .u8 0,.int .u8 0,.int .u8 0,.int .u8 0,.int .u8 0,.int .u8 0,.int .u8 0,.int .u8 0,.slice aa1 N1 qq1,.map qme0]:List Value)++B1)).toArray:=⟨_,rfl⟩
    have hxb36:blk w36 R1=some (X36,64,(0,0)):=by rw [hX36];exact hx1_36
    have hXs36:j1 * 19+19≤X36.size:=by rw [hX36];simp only [List.size_toArray,List.length_append,List.length_cons,List.length_nil,hA1];omega
    clear hw36
    have hTge0:TagsM (fun b=>(ok b∨w1.heap.size≤b)∧¬ ownB va0 b) w36 (.map qme0) (rdTags s17).1:=(hT35.weaken fun b _ hk=>hk.elim (fun hk=>⟨.inl hk,fun ho=>by have:=(hown1 b ho).1;have:=(hok b hk).1;omega⟩) (fun h=>by have h':w34.heap.size≤b:=h;exact ⟨.inr (by omega),fun ho=>by have:=(hown1 _ ho).2;omega⟩)).keep (hV36.keeps fun b _ hk e=>hoM1 b hk e)
    have hCe0_36:Upd (fun b=>b=R1∨b=rb) w36 w36:=Upd.refl _ _
    have hCe0_35:Upd (fun b=>b=R1∨b=rb) w35 w36:=hV36.trans hCe0_36
    have hCe0_34:Upd (fun b=>b=R1∨b=rb) w34 w36:=hV35.trans hCe0_35
    have hCe0_33:Upd (fun b=>b=R1∨b=rb) w33 w36:=hV34.trans hCe0_34
    have hCe0_12:Upd (fun b=>b=R1∨b=rb) w12 w36:=hV33.trans hCe0_33
    have hCe0_11:Upd (fun b=>b=R1∨b=rb) w11 w36:=hV12.trans hCe0_12
    have hCe0_10:Upd (fun b=>b=R1∨b=rb) w10 w36:=hV11.trans hCe0_11
    have hCe0_9:Upd (fun b=>b=R1∨b=rb) w9 w36:=hV10.trans hCe0_10
    have hCe0_8:Upd (fun b=>b=R1∨b=rb) w8 w36:=hV9.trans hCe0_9
    have hRe0:RepS true (d+3) fs_X2 (fun b=>(ok b∨w1.heap.size≤b)∧¬ ownB va0 b) w36 (.mk 0 [] false [xe0_0,xe0_1,xe0_2] (rdTags s17).1) [strV (rdStr true s4).1,.int .u8 0,.int .u8 0,.int .u8 0,.int .u8 0,.int .u8 0,.int .u8 0,.int .u8 0,.int .u8 0,.int .u8 0,.int .u8 0,.int .u8 0,.int .u8 0,.int .u8 0,.int .u8 0,.int .u8 0,.int .u8 0,.slice aa1 N1 qq1,.map qme0]:=RepS.introT (c:=[strV (rdStr true s4).1,.int .u8 0,.int .u8 0,.int .u8 0,.int .u8 0,.int .u8 0,.int .u8 0,.int .u8 0,.int .u8 0,.int .u8 0,.int .u8 0,.int .u8 0,.int .u8 0,.int .u8 0,.int .u8 0,.int .u8 0,.int .u8 0,.slice aa1 N1 qq1]) (RepL.cons1 (hfe0_0.keepS (hCe0_11.keeps fun b _ hk e=>hoM1 b hk e)) (RepL.cons16 (hfe0_1.keepS (hCe0_11.keeps fun b _ hk e=>hoM1 b hk e)) (RepL.cons1 (hfe0_2.keepS (hCe0_34.keeps fun b _ hk e=>hoM1 b hk e)) RepL.nil))) hTge0
    have hrE:(rd1 (rdP (d+3) ver true) fQ_2.of fQ_2.sub false true) s4=((.mk 0 [] false [xe0_0,xe0_1,xe0_2] (rdTags s17).1),s18):=by rw [show (rd1 (rdP (d+3) ver true) fQ_2.of fQ_2.sub false true) s4=_ from rd1_part];exact hfine0
    have hxE:(Rep1 (RepS true (d+3)) fQ_2.of fQ_2.sub) (fun b=>(ok b∨w1.heap.size≤b)∧¬ ownB va0 b) w36 (.mk 0 [] false [xe0_0,xe0_1,xe0_2] (rdTags s17).1) [strV (rdStr true s4).1,.int .u8 0,.int .u8 0,.int .u8 0,.int .u8 0,.int .u8 0,.int .u8 0,.int .u8 0,.int .u8 0,.int .u8 0,.int .u8 0,.int .u8 0,.int .u8 0,.int .u8 0,.int .u8 0,.int .u8 0,.int .u8 0,.slice aa1 N1 qq1,.map qme0]:=Rep1_part.2 hRe0
    repeat ((first|refine qA rfl ?_|apply qB|refine qC rfl ?_|apply qD|apply qE|apply qF|apply qG|apply qH);try simp (disch:=(first|omega|(simp only [qI,qJ,qK]<;>omega)|exact qL _)) only [go_sem,↓reduceIte,n0,reduceCtorEq,n1,n2,n3,n4,n5,i0,i1,i2,i3,i4,i5,i6,i7,hxb36,hrd1_2,hrd1_7,hrd1_8,hrd1_9,hrd1_10,hrd1_15,hrd1_14,hrd1_16,hrd1_18,hrd1_23,hrd1_22,exitRQ_ret,exitRQ_exit,Int.toNat_natCast,Nat.mul_one,hun,hun'])
    have hTk:Upd (fun b=>b=R1∨b=rb) w8 w36:=(((((((hV9.trans hV10).trans hV11).trans hV12).trans hV33).trans hV34).trans hV35).trans hV36)
    have hL':=hL0.step (Rep1_lay _ _ fun _=>RepS_lay true _ _) hlt0 (hnext1 w36 [strV (rdStr true s4).1,.int .u8 0,.int .u8 0,.int .u8 0,.int .u8 0,.int .u8 0,.int .u8 0,.int .u8 0,.int .u8 0,.int .u8 0,.int .u8 0,.int .u8 0,.int .u8 0,.int .u8 0,.int .u8 0,.int .u8 0,.int .u8 0,.slice aa1 N1 qq1,.map qme0] rfl hx1_36) (by rw [hrE];exact hxE) (hTk.mono fun b h=>h.imp (fun e=>⟨_,_,_,hva1,e⟩) id) (by rw [hrE];exact hq36) (fun h=>hoM rb h (.inr rfl)) (Nat.le_refl _)
    have hij:IntKind.i32.wrap ((j1:Int)+1)=((j1+1:Nat):Int):=by rw [i32_wrap (by omega)];omega
    repeat ((first|refine qA rfl ?_|apply qB|refine qC rfl ?_|apply qD|apply qE|apply qF|apply qG|apply qH);try simp (disch:=(first|omega|(simp only [qI,qJ,qK]<;>omega)|exact qL _)) only [go_sem,↓reduceIte,n0,reduceCtorEq,n1,n2,n3,n4,n5,i0,i1,i2,i3,i4,i5,i6,i7,hxb36,hrd1_2,hrd1_7,hrd1_8,hrd1_9,hrd1_10,hrd1_15,hrd1_14,hrd1_16,hrd1_18,hrd1_23,hrd1_22,exitRQ_ret,exitRQ_exit,Int.toNat_natCast,Nat.mul_one,hun,hun',hij])
    refine ⟨⟨(by simp (disch:=(first|omega|(simp only [qI,qJ,qK]<;>omega)|exact qL _)) only [go_sem,↓reduceIte,n0,reduceCtorEq,n1,n2,n3,n4,n5,i0,i1,i2,i3,i4,i5,i6,i7,Holds_nil,Holds_cons,hrd1_2,hrd1_7,hrd1_8,hrd1_9,hrd1_10,hrd1_15,hrd1_14,hrd1_16,hrd1_18,hrd1_23,hrd1_22];exact hva1.symm),j1+1,(by simp (disch:=(first|omega|(simp only [qI,qJ,qK]<;>omega)|exact qL _)) only [go_sem,↓reduceIte,n0,reduceCtorEq,n1,n2,n3,n4,n5,i0,i1,i2,i3,i4,i5,i6,i7,hrd1_2,hrd1_7,hrd1_8,hrd1_9,hrd1_10,hrd1_15,hrd1_14,hrd1_16,hrd1_18,hrd1_23,hrd1_22,hij];all_goals rfl),_,_,_,hL'⟩,?_⟩
    try simp (disch:=(first|omega|(simp only [qI,qJ,qK]<;>omega)|exact qL _)) only [go_sem,↓reduceIte,n0,reduceCtorEq,n1,n2,n3,n4,n5,i0,i1,i2,i3,i4,i5,i6,i7,hrd1_2,hrd1_7,hrd1_8,hrd1_9,hrd1_10,hrd1_15,hrd1_14,hrd1_16,hrd1_18,hrd1_23,hrd1_22]
    simp only [RowKit.intOf]
    omega
   ·have hjN:j1=N0:=by omega
    rw [hjN] at hL0
    repeat ((first|refine qA rfl ?_|apply qB|refine qC rfl ?_|apply qD|apply qE|apply qF|apply qG|apply qH);try simp (disch:=(first|omega|(simp only [qI,qJ,qK]<;>omega)|exact qL _)) only [go_sem,↓reduceIte,n0,reduceCtorEq,n1,n2,n3,n4,n5,i0,i1,i2,i3,i4,i5,i6,i7,hrc0_2,hrc0_7,hrc0_8,hrc0_9,hrc0_10,hrc0_15,hrc0_14,hri0,exitRQ_ret,exitRQ_exit])
    exact ⟨(by simp (disch:=(first|omega|(simp only [qI,qJ,qK]<;>omega)|exact qL _)) only [go_sem,↓reduceIte,n0,reduceCtorEq,n1,n2,n3,n4,n5,i0,i1,i2,i3,i4,i5,i6,i7,Holds_nil,Holds_cons,hrc0_2,hrc0_7,hrc0_8,hrc0_9,hrc0_10,hrc0_15,hrc0_14,hri0]),s4,xs0,css0,hL0⟩
  rintro ρ w37 ⟨⟨hrd0_2,hrd0_7,hrd0_8,hrd0_9,hrd0_10,hrd0_15,hrd0_14,-⟩,s19,xs0,css0,hL0⟩
  have hq37:=hL0.rd
  have hu37:=hL0.upd
  have hv_37:=hu37.blk_some hv_6 (by omega)
  have hV37:Upd (fun b=>b=vb∨b=rb) w6 w37:=hu37.mono (fun _ h=>.inr h)
  have hU37:Upd (fun b=>b=vb∨b=rb) w1 w37:=hU6.trans hV37
  have hz37:=hV37.size
  have hG37:Glo ev w37:=hG1.updS hU37 hgM1 hgM2
  have hrd0:rdF (rdP (d+3) ver true) ver true fQ_2 s2=(.mk 0 [] (nilS fQ_2 ver y0) xs0 [],s19):=by
   have h:=rdF_listE (pt:=(rdP (d+3) ver true)) (v:=ver) (flex:=true) (f:=fQ_2) (s:=s2) (xs:=xs0) (e:=s19) rfl (by rw [hy0,← hN0,← hs3];exact hL0.done)
   rw [hy0] at h;exact h
  have hs19:s19=(rdF (rdP (d+3) ver true) ver true fQ_2 s2).2:=by rw [hrd0]
  obtain ⟨aa0,qq0,hvs0⟩:=hL0.row.shape
  subst hvs0
  repeat ((first|refine qA rfl ?_|apply qB|refine qC rfl ?_|apply qD|apply qE|apply qF|apply qG|apply qH);try simp (disch:=(first|omega|(simp only [qI,qJ,qK]<;>omega)|exact qL _)) only [go_sem,↓reduceIte,n0,reduceCtorEq,n1,n2,n3,n4,n5,i0,i1,i2,i3,i4,i5,i6,i7,hv_37,hrd0_2,hrd0_7,hrd0_8,hrd0_9,hrd0_10,hrd0_15,hrd0_14,hun,hun'])
  generalize hw38:wr w37 vb 3 [.slice aa0 N0 qq0] = w38
  have hS38:Upd (fun b=>b=vb∨b=rb) w37 w38:=by rw [← hw38];exact (Upd.refl _ _).wr _ _ (.inr (.inl rfl))
  have hv_38:blk w38 vb=some (#[.int .i16 ver,.int .i32 (rdInt .i32 4 s0).1,.int .i64 (rdInt .i64 8 s1).1,.slice aa0 N0 qq0,.map none],57,(0,0)):=by rw [← hw38,blk_wr_eq,hv_37];rfl
  have hV38:=hS38
  have hU38:Upd (fun b=>b=vb∨b=rb) w1 w38:=hU37.trans hV38
  have hz38:=hV38.size
  have hG38:Glo ev w38:=hG1.updS hU38 hgM1 hgM2
  have hq38:Rdr RT ok w38 rb s19∧NN w38 rb s19:=by
   have hn:∀ x,x=w38→(Rdr RT ok x rb s19∧NN x rb s19):=fun x hx=>by
    rw [hx,← hw38]
    exact Rdr.store hq37 (by omega) (fun h=>by have:=(hok _ h).1;first|omega|exact (hok _ h).2 rfl)
   exact hn _ rfl
  clear hw38
  have hf_2:RepF (RepS true (d+3)) (szS true (d+3)) fQ_2 (fun b=>ok b∨w1.heap.size≤b) w38 (x_2) [.slice aa0 N0 qq0]:=by rw [hx_2,hrd0];exact RepF.keepS (RepF_row rfl hnc0 hN0 rfl hL0.row hL0.all (fun b hb=>.inr (by omega))) (hV38.keeps fun b _ hk e=>(hoM b hk) e)
  clear hL0 hnc0
  have hl_3:rdL (rdP (d+3) ver true) (dfP (d+3)) ver true [] s19=([],s19):=rfl
  have hl_2:rdL (rdP (d+3) ver true) (dfP (d+3)) ver true [fQ_2] s2=([x_2],s19):=by rw [rdL_st (by decide) hh_2,← hx_2,← hs19,hl_3]
  have hl_1:rdL (rdP (d+3) ver true) (dfP (d+3)) ver true [fQ_1,fQ_2] s1=([x_1,x_2],s19):=by rw [rdL_st (by decide) hh_1,← hx_1,← hs2,hl_2]
  have hl_0:rdL (rdP (d+3) ver true) (dfP (d+3)) ver true [fQ_0,fQ_1,fQ_2] s0=([x_0,x_1,x_2],s19):=by rw [rdL_st (by decide) hh_0,← hx_0,← hs1,hl_1]
  have hfin:rdP (d+4) ver true fs_Q s0=(.mk 0 [] false [x_0,x_1,x_2] (rdTags s19).1,(rdTags s19).2):=rdP_t hl_0
  repeat ((first|refine qA rfl ?_|apply qB|refine qC rfl ?_|apply qD|apply qE|apply qF|apply qG|apply qH);try simp (disch:=(first|omega|(simp only [qI,qJ,qK]<;>omega)|exact qL _)) only [go_sem,↓reduceIte,n0,reduceCtorEq,n1,n2,n3,n4,n5,i0,i1,i2,i3,i4,i5,i6,i7,hv_38,hrd0_2,hrd0_7,hrd0_8,hrd0_9,hrd0_10,hrd0_15,hrd0_14,hun,hun'])
  refine (ReadTags_fn w38 hq38.1 hrok).mono ?_
  rintro _ w39 ⟨qm,rfl,hT39,hTn,hq39,hu39⟩
  have hv_39:=hu39.blk_some hv_38 (by omega)
  have hV39:Upd (fun b=>b=vb∨b=rb) w38 w39:=hu39.mono (fun _ h=>.inr h)
  have hU39:Upd (fun b=>b=vb∨b=rb) w1 w39:=hU38.trans hV39
  have hz39:=hV39.size
  have hG39:Glo ev w39:=hG1.updS hU39 hgM1 hgM2
  obtain ⟨s20,hs20⟩:∃ s,s=(rdTags s19).2:=⟨_,rfl⟩
  rw [← hs20] at hq39 hfin
  repeat (first|simp (disch:=(first|omega|(simp only [qI,qJ,qK]<;>omega)|exact qL _)) only [go_sem,↓reduceIte,n0,reduceCtorEq,n1,n2,n3,n4,n5,i0,i1,i2,i3,i4,i5,i6,i7,hv_39,hrd0_2,hrd0_7,hrd0_8,hrd0_9,hrd0_10,hrd0_15,hrd0_14,hun,hun']|refine qA rfl ?_|apply qB|refine qC rfl ?_|apply qD|apply qE|apply qF|apply qG|apply qH)
  generalize hw40:wr w39 vb 4 [.map qm] = w40
  have hS40:Upd (fun b=>b=vb∨b=rb) w39 w40:=by rw [← hw40];exact (Upd.refl _ _).wr _ _ (.inr (.inl rfl))
  have hv_40:blk w40 vb=some (#[.int .i16 ver,.int .i32 (rdInt .i32 4 s0).1,.int .i64 (rdInt .i64 8 s1).1,.slice aa0 N0 qq0,.map qm],57,(0,0)):=by rw [← hw40,blk_wr_eq,hv_39];rfl
  have hV40:=hS40
  have hU40:Upd (fun b=>b=vb∨b=rb) w1 w40:=hU39.trans hV40
  have hz40:=hV40.size
  have hG40:Glo ev w40:=hG1.updS hU40 hgM1 hgM2
  have hq40:Rdr RT ok w40 rb s20∧NN w40 rb s20:=by
   have hn:∀ x,x=w40→(Rdr RT ok x rb s20∧NN x rb s20):=fun x hx=>by
    rw [hx,← hw40]
    exact Rdr.store hq39 (by omega) (fun h=>by have:=(hok _ h).1;first|omega|exact (hok _ h).2 rfl)
   exact hn _ rfl
  clear hw40
  have hTg:TagsM (fun b=>ok b∨w1.heap.size≤b) w40 (.map qm) (rdTags s19).1:=(hT39.weaken fun b _ hk=>hk.elim (fun hk=>.inl hk) (fun h=>by have h':w38.heap.size≤b:=h;exact .inr (by omega))).keep (hV40.keeps fun b _ hk e=>(hoM b hk) e)
  have hC_40:Upd (fun b=>b=vb∨b=rb) w40 w40:=Upd.refl _ _
  have hC_39:Upd (fun b=>b=vb∨b=rb) w39 w40:=hV40.trans hC_40
  have hC_38:Upd (fun b=>b=vb∨b=rb) w38 w40:=hV39.trans hC_39
  have hC_37:Upd (fun b=>b=vb∨b=rb) w37 w40:=hV38.trans hC_38
  have hC_6:Upd (fun b=>b=vb∨b=rb) w6 w40:=hV37.trans hC_37
  have hC_5:Upd (fun b=>b=vb∨b=rb) w5 w40:=hV6.trans hC_6
  have hC_4:Upd (fun b=>b=vb∨b=rb) w4 w40:=hV5.trans hC_5
  have hC_3:Upd (fun b=>b=vb∨b=rb) w3 w40:=hV4.trans hC_4
  have hC_2:Upd (fun b=>b=vb∨b=rb) w2 w40:=hV3.trans hC_3
  have hC_1:Upd (fun b=>b=vb∨b=rb) w1 w40:=hV2.trans hC_2
  have hR:RepS true (d+4) fs_Q (fun b=>ok b∨w1.heap.size≤b) w40 (.mk 0 [] false [x_0,x_1,x_2] (rdTags s19).1) [.int .i32 (rdInt .i32 4 s0).1,.int .i64 (rdInt .i64 8 s1).1,.slice aa0 N0 qq0,.map qm]:=RepS.introT (c:=[.int .i32 (rdInt .i32 4 s0).1,.int .i64 (rdInt .i64 8 s1).1,.slice aa0 N0 qq0]) (RepL.cons1 (hf_0.keepS (hC_3.keeps fun b _ hk e=>(hoM b hk) e)) (RepL.cons1 (hf_1.keepS (hC_5.keeps fun b _ hk e=>(hoM b hk) e)) (RepL.cons1 (hf_2.keepS (hC_38.keeps fun b _ hk e=>(hoM b hk) e)) RepL.nil))) hTg
  repeat ((first|refine qA rfl ?_|apply qB|refine qC rfl ?_|apply qD|apply qE|apply qF|apply qG|apply qH);try simp (disch:=(first|omega|(simp only [qI,qJ,qK]<;>omega)|exact qL _)) only [go_sem,↓reduceIte,n0,reduceCtorEq,n1,n2,n3,n4,n5,i0,i1,i2,i3,i4,i5,i6,i7,hv_40,hrd0_2,hrd0_7,hrd0_8,hrd0_9,hrd0_10,hrd0_15,hrd0_14,hun,hun'])
  refine (RComplete_fn w40 hq40.1 hG40.2).mono ?_
  rintro _ wz ⟨rfl,hez⟩
  rw [hez]
  repeat ((first|refine qA rfl ?_|apply qB|refine qC rfl ?_|apply qD|apply qE|apply qF|apply qG|apply qH);try simp (disch:=(first|omega|(simp only [qI,qJ,qK]<;>omega)|exact qL _)) only [go_sem,↓reduceIte,n0,reduceCtorEq,n1,n2,n3,n4,n5,i0,i1,i2,i3,i4,i5,i6,i7,hv_40,hrd0_2,hrd0_7,hrd0_8,hrd0_9,hrd0_10,hrd0_15,hrd0_14,hun,hun'])
  rw [hfin]
  refine ⟨fun h => ?_,fun h=>⟨?_,[.int .i32 (rdInt .i32 4 s0).1,.int .i64 (rdInt .i64 8 s1).1,.slice aa0 N0 qq0,.map qm],hv_40,?_⟩,?_⟩
  ·have h':s20=none:=h
   rw [h'];rfl
  ·cases hsn:s20 with
   | none=>exact absurd hsn h
   | some x=>rfl
  ·exact (RepS_lay true (d+4) fs_Q).weaken hR fun b _ hk=>hk.imp id fun h=>by omega
  ·exact hbase.trans' hU40 fun i hi h=>h.elim id fun h=>by omega
end Ms

