/- A part of the proof: see the last text. -/
import Derived.Test.YtfabfglflkggeaaGreatDoorOffsetFetchRequestP0
set_option linter.unusedSimpArgs false
set_option linter.unusedVariables false
namespace Ms
open Go.World renaming size_alloc → qI
open Ms renaming size_wr → qJ,size_drew → qK,not_noB → qL
open W renaming seqF → qA,seq → qB,regF → qC,condK → qD,block → qE,skip → qF,ret → qG,exit → qH
open Nat renaming reduceEqDiff → n0,reduceAdd → n1,reduceMul → n2,reduceSub → n3,reduceLT → n4,reduceLeDiff → n5
open Int renaming reduceEq → i0,reduceLT → i1,reduceLE → i2,reduceNeg → i3,reduceAdd → i4,reduceSub → i5,reduceMul → i6,reduceToNat → i7
set_option maxRecDepth 8000
open Go Go.Proofs Go.Shelf
attribute [local congr] W_congr WPsq_congr WPp_congr optK_congr addrK_congr intK_congr boolK_congr sliceK_congr tupleK_congr funcK_congr Fn_congr rawK_congr takeK_congr stepK_congr convK_congr aggK_congr

set_option maxHeartbeats 4000000 in
theorem readQ_1 {d:Nat} {ok:Blocks} {ver:Int} {ev:Value} (hlo:2≤ver) (hhi:ver≤5) (w:World) {vb:Nat} (src:Value) (s:List UInt8) (hv:blk w vb=some (#[.int .i16 ver,.string ByteArray.empty,.slice none 0 0,.slice none 0 0,.bool false,.map none],63,(0,0))) (hsrc:BytesV ok w src s) (iC:∀ b,ok b→b < w.heap.size∧b≠vb) (hG:Glo ev w) (hgv:¬ 1=vb∧¬ 0=vb) :
  Fn Tryz.prog 31 #[.pointer (some ⟨vb,0,none⟩),src,.bool false] w (ReadQ 63 ok ver (d+3) fsr_Q vb w (rdP (d+3) ver false fsr_Q (some s)) ev):=by
 have hvl:=blk_lt hv
 have hgs:=hG.lt
 obtain ⟨sa,sc,rfl,_⟩:=hsrc.shape
 refine fn_of_W Tryz.func31 rfl Tryz.results31 Tryz.ntmps31 rfl ?_
 repeat ((first|refine qA ?_|apply qB|refine qC ?_|apply qD|apply qE|apply qF|apply qG|apply qH);try simp (disch:=omega) only [go_sem,↓reduceIte,n0,reduceCtorEq,n1,n2,i3,i4,i5,i6,i7,hv])
 refine (DefaultQ_fn w hv).mono ?_
 rintro _ w0 ⟨hv0,hu0⟩
 have hz0:=hu0.size
 have pS:BytesV ok w0 (.slice sa s.length sc) s:=hsrc.keep (hu0.keeps fun b _ hk e=>(iC b hk).2 e)
 obtain ⟨rb,hrb⟩:∃ r,r=w0.heap.size:=⟨_,rfl⟩
 have hE1:Ext w0 (wr (w0.alloc (.cells #[.slice none 0 0,.bool false] 102)) w0.heap.size 0 [.slice sa s.length sc,.bool false]):=(Upd.alloc (Upd.refl _ _) _).wr _ _ (.inl (Nat.le_refl _))
 have hz1:(wr (w0.alloc (.cells #[.slice none 0 0,.bool false] 102)) w0.heap.size 0 [.slice sa s.length sc,.bool false]).heap.size=w0.heap.size+1:=by rw [size_wr,World.size_alloc]
 have hR1:Rdr RT ok (wr (w0.alloc (.cells #[.slice none 0 0,.bool false] 102)) w0.heap.size 0 [.slice sa s.length sc,.bool false]) w0.heap.size (some s):=Rdr.good (v:=.slice sa s.length sc) (by simp (disch:=omega) only [go_sem,↓reduceIte,n0,reduceCtorEq,n1,n2,i3,i4,i5,i6,i7]) (pS.keep (hE1.keeps _))
 have hv_1:=hE1.blk_some hv0 id
 repeat ((first|refine qA ?_|apply qB|refine qC ?_|apply qD|apply qE|apply qF|apply qG|apply qH);try simp (disch:=omega) only [go_sem,↓reduceIte,n0,reduceCtorEq,n1,n2,i3,i4,i5,i6,i7,hv0])
 generalize (wr (w0.alloc (.cells #[.slice none 0 0,.bool false] 102)) w0.heap.size 0 [.slice sa s.length sc,.bool false])=w1 at *
 rw [← hrb] at hR1
 try rw [← hrb]
 have hok:∀ b,ok b→b < w.heap.size∧b≠vb:=iC
 have hrok:¬ ok rb:=fun h=>by have:=(hok rb h).1;omega
 have hbase:Upd (fun b=>b=vb) w w1:=hu0.trans (hE1.mono fun _ h=>h.elim)
 have hG1:Glo ev w1:=hG.updS hbase hgv.1 hgv.2
 have hgrb:¬ 1=rb:=by omega
 have bW:¬ (1=vb∨1=rb):=fun h=>h.elim hgv.1 fun h=>by omega
 have bX:¬ (0=vb∨0=rb):=fun h=>h.elim hgv.2 fun h=>by omega
 obtain ⟨s0,hs0⟩:∃ s':St,s'=some s:=⟨_,rfl⟩
 rw [← hs0] at hR1 ⊢
 have hU1:Upd (fun b=>b=vb∨b=rb) w1 w1:=Upd.refl _ _
 have hoM:∀ b,(ok b∨w1.heap.size≤b)→¬ (b=vb∨b=rb):=fun b hk h=>by
  rcases hk with hk|hk
  ·have:=hok b hk;rcases h with h|h<;>omega
  ·rcases h with h|h<;>omega
 have hq1:Rdr RT ok w1 rb s0:=hR1
 obtain ⟨FB,hFB⟩:∃ P:Prop,P=((rdP (d+3) ver false fsr_Q s0).2=none):=⟨_,rfl⟩
 have hb_0:(rdL (rdP (d+2) ver false) (dfP (d+2)) ver false [fQ_0,fQ_1,frQ_2,fQ_3] s0).2=none→FB:=fun h=>Eq.mpr hFB (rdP_bad h)
 have hh_0:hasS fQ_0 ver=true:=hasS_t (by show (0:Int)≤ver;omega) (by show (7:Int) < 0∨ver≤(7:Int);omega)
 obtain ⟨x_0,hx_0⟩:∃ x,x=(rdF (rdP (d+2) ver false) ver false fQ_0 s0).1:=⟨_,rfl⟩
 repeat ((first|refine qA ?_|apply qB|refine qC ?_|apply qD|apply qE|apply qF|apply qG|apply qH);try simp (disch:=omega) only [go_sem,↓reduceIte,n0,reduceCtorEq,n1,n2,i3,i4,i5,i6,i7,hv_1])
 have hmay:mayS fQ_0 ver=false:=mayS_no (by show (-1:Int) < 0∨ver < (-1:Int);omega)
 have hrd:rdF (rdP (d+2) ver false) ver false fQ_0 s0=_:=rdF_text rfl hmay
 refine (RString_fn w1 hq1 hrok hG1.1 hgrb).mono ?_
 rintro _ w2 ⟨rfl,hq2,hu2⟩
 have hv_2:=hu2.blk_some hv_1 (by omega)
 have hV2:Upd (fun b=>b=vb∨b=rb) w1 w2:=hu2.mono (fun _ h=>.inr h)
 have hU2:Upd (fun b=>b=vb∨b=rb) w1 w2:=hU1.trans hV2
 have hz2:=hV2.size
 have hG2:Glo ev w2:=hG1.updS hU2 bW bX
 have hst:(rdF (rdP (d+2) ver false) ver false fQ_0 s0).2=(rdStr false s0).2:=by first|(rw [hrd];rfl)|rw [hrd]
 obtain ⟨s1,hs1⟩:∃ s,s=(rdF (rdP (d+2) ver false) ver false fQ_0 s0).2:=⟨_,rfl⟩
 rw [← hst,← hs1] at hq2
 clear hst
 repeat ((first|refine qA ?_|apply qB|refine qC ?_|apply qD|apply qE|apply qF|apply qG|apply qH);try simp (disch:=omega) only [go_sem,↓reduceIte,n0,reduceCtorEq,n1,n2,i3,i4,i5,i6,i7,hv_2])
 generalize hw3:wr w2 vb 1 [strV (rdStr false s0).1] = w3
 have hS3:Upd (fun b=>b=vb∨b=rb) w2 w3:=by rw [← hw3];exact (Upd.refl _ _).wr _ _ (.inr (.inl rfl))
 have hv_3:blk w3 vb=some (#[.int .i16 ver,strV (rdStr false s0).1,.slice none 0 0,.slice none 0 0,.bool false,.map none],63,(0,0)):=by rw [← hw3,blk_wr_eq,hv_2];rfl
 have hV3:=hS3
 have hU3:Upd (fun b=>b=vb∨b=rb) w1 w3:=hU2.trans hV3
 have hz3:=hV3.size
 have hG3:Glo ev w3:=hG1.updS hU3 bW bX
 have hq3:=Rdr.stored hw3 hq2 (by omega) fun h=>by have:=(hok _ h).1;first|omega|exact (hok _ h).2 rfl
 clear hw3
 have hf_0:RepF (RepS true (d+2)) (szS true (d+2)) fQ_0 (fun b=>ok b∨w1.heap.size≤b) w3 (x_0) [strV (rdStr false s0).1]:=(RepF_text rfl (by decide)).2 (by rw [hx_0,hrd];rfl)
 clear hrd
 have hb_1:(rdL (rdP (d+2) ver false) (dfP (d+2)) ver false [fQ_1,frQ_2,fQ_3] s1).2=none→FB:=fun h=>hb_0 (by rw [rdL_st (by decide) hh_0,← hs1];exact h)
 have hh_1:hasS fQ_1 ver=true:=hasS_t (by show (0:Int)≤ver;omega) (by show (7:Int) < 0∨ver≤(7:Int);omega)
 obtain ⟨x_1,hx_1⟩:∃ x,x=(rdF (rdP (d+2) ver false) ver false fQ_1 s1).1:=⟨_,rfl⟩
 repeat ((first|refine qA ?_|apply qB|refine qC ?_|apply qD|apply qE|apply qF|apply qG|apply qH);try simp (disch:=omega) only [go_sem,↓reduceIte,n0,reduceCtorEq,n1,n2,i3,i4,i5,i6,i7,hv_3])
 refine (RArrayLen_fn w3 hq3.1 hrok hG3.1 hgrb).mono ?_
 rintro _ w4 ⟨rfl,hq4,hu4⟩
 have hv_4:=hu4.blk_some hv_3 (by omega)
 have hV4:Upd (fun b=>b=vb∨b=rb) w3 w4:=hu4.mono (fun _ h=>.inr h)
 have hU4:Upd (fun b=>b=vb∨b=rb) w1 w4:=hU3.trans hV4
 have hz4:=hV4.size
 have hG4:Glo ev w4:=hG1.updS hU4 bW bX
 obtain ⟨s2,hs2⟩:∃ s,s=(rdALen false s1).2:=⟨_,rfl⟩
 rw [← hs2] at hq4
 have FF:=rdALen_rng false s1
 generalize hy0:(rdALen false s1).1=y0 at *
 obtain ⟨N0,hN0⟩:∃ N,N=y0.toNat:=⟨_,rfl⟩
 have rL:(rdMany (rd1 (rdP (d+2) ver false) fQ_1.of fQ_1.sub false false) N0 s2).2=none→FB:=fun h=>hb_1 (by rw [rdL_st (by decide) hh_1];exact rdL_bad (rdF_listbad rfl (by rw [hy0,← hN0,← hs2];exact h)))
 repeat ((first|refine W.seqR rfl ?_|refine W.seq ?_|refine W.regR rfl ?_|refine W.block ?_|refine W.skip ?_|refine W.ret ?_|refine W.exit ?_);try simp (disch:=omega) only [go_sem,↓reduceIte,n0,reduceCtorEq,n1,n2,i3,i4,i5,i6,i7,hv_4])
 refine W.normJ (RowQ [(2,.bool false),(7,.pointer (some ⟨rb,0,none⟩)),(8,.int .i16 ver),(9,.bool false),(10,.pointer (some ⟨vb,0,none⟩)),(14,.int .i32 y0)] 13 (fun va w'=>∃ a0,va = .slice a0 0 0∧Ext w4 w'∧(∀ x,a0=some x→w4.heap.size≤x.block∧x.block < w'.heap.size)∧(N0=0→if nilS fQ_1 ver y0=true then va = .slice none 0 0 else ∃ a,va = .slice (some a) 0 0))) ?_ ?_
 ·by_cases hye:y0=0
  ·repeat ((first|refine qA ?_|apply qB|refine qC ?_|apply qD|apply qE|apply qF|apply qG|apply qH);try simp (disch:=omega) only [go_sem,↓reduceIte,n0,reduceCtorEq,n1,n2,i3,i4,i5,i6,i7,hv_4,hye])
   exact ⟨(by simp (disch:=omega) only [go_sem,↓reduceIte,n0,reduceCtorEq,n1,n2,i3,i4,i5,i6,i7,Holds_nil,Holds_cons,hye]),.slice (some ⟨w4.heap.size,0,none⟩) 0 0,(by simp (disch:=omega) only [go_sem,↓reduceIte,n0,reduceCtorEq,n1,n2,i3,i4,i5,i6,i7]),some ⟨w4.heap.size,0,none⟩,rfl,(Upd.alloc (Upd.refl _ _) _:Ext _ _),(fun x hx=>by cases hx;exact ⟨Nat.le_refl _,by simp only [World.size_alloc];omega⟩),(fun _=>by rw [nilS_may (by decide) (by show (2:Int)≤ver;omega),decide_eq_false (by omega)];exact ⟨_,rfl⟩)⟩
  ·repeat ((first|refine qA ?_|apply qB|refine qC ?_|apply qD|apply qE|apply qF|apply qG|apply qH);try simp (disch:=omega) only [go_sem,↓reduceIte,n0,reduceCtorEq,n1,n2,i3,i4,i5,i6,i7,hv_4,hye])
   exact ⟨(by simp (disch:=omega) only [go_sem,↓reduceIte,n0,reduceCtorEq,n1,n2,i3,i4,i5,i6,i7,Holds_nil,Holds_cons,hye]),.slice none 0 0,(by simp (disch:=omega) only [go_sem,↓reduceIte,n0,reduceCtorEq,n1,n2,i3,i4,i5,i6,i7]),none,rfl,Upd.refl _ _,(fun x hx=>by cases hx),(fun _=>by rw [nilS_may (by decide) (by show (2:Int)≤ver;omega),decide_eq_true (by omega)];exact rfl)⟩
 rintro ρ w5 ⟨⟨dE,dF,dG,dH,dC,dD,-⟩,va,bY,a0,rfl,mU,xI,xV⟩
 have lU:Upd (fun b=>b=rb) w4 w5:=mU.mono fun _ h=>h.elim
 have hq5:=And.intro (hq4.1.upd mU (fun h=>h) (fun _ _ _ h=>h)) (hq4.2.upd mU fun h=>h)
 have hv_5:=lU.blk_some hv_4 (by omega)
 have hV5:Upd (fun b=>b=vb∨b=rb) w4 w5:=lU.mono (fun _ h=>.inr h)
 have hU5:Upd (fun b=>b=vb∨b=rb) w1 w5:=hU4.trans hV5
 have hz5:=hV5.size
 have hG5:Glo ev w5:=hG1.updS hU5 bW bX
 repeat ((first|refine W.seqR rfl ?_|refine W.seq ?_|refine W.regR rfl ?_|refine W.block ?_|refine W.skip ?_|refine W.ret ?_|refine W.exit ?_);try simp (disch:=omega) only [go_sem,↓reduceIte,n0,reduceCtorEq,n1,n2,i3,i4,i5,i6,i7,hv_5,dE,dF,dG,dH,dC,dD,bY])
 refine (ROk_fn w5 hq5.1).mono ?_
 rintro _ wz ⟨rfl,hez⟩
 rw [hez]
 clear hez wz
 by_cases lP:s2=none
 ·have hso:s2.isSome=false:=by rw [lP];rfl
  repeat (first|simp (disch:=omega) only [go_sem,↓reduceIte,n0,reduceCtorEq,n1,n2,i3,i4,i5,i6,i7,hv_5,dE,dF,dG,dH,dC,dD,bY,hso]|refine qA ?_|apply qB|refine qC ?_|apply qD|apply qE|apply qF|apply qG|apply qH)
  refine (RComplete_fn w5 hq5.1 hG5.2).mono ?_
  rintro _ wz ⟨rfl,hez⟩
  rw [hez]
  repeat (first|simp (disch:=omega) only [go_sem,↓reduceIte,n0,reduceCtorEq,n1,n2,i3,i4,i5,i6,i7,hv_5,dE,dF,dG,dH,dC,dD,bY]|refine qA ?_|apply qB|refine qC ?_|apply qD|apply qE|apply qF|apply qG|apply qH)
  rw [errV_none lP]
  exact ReadQ.bad (Eq.mp hFB (rL (by rw [lP];exact rdMany_none rd1P_none _))) (hbase.trans' hU5 fun i hi h=>h.elim id fun h=>by omega)
 have lR:s2.isSome=true:=isSome_some lP
 try simp (disch:=omega) only [go_sem,↓reduceIte,n0,reduceCtorEq,n1,n2,i3,i4,i5,i6,i7,hv_5,dE,dF,dG,dH,dC,dD,bY,lR]
 repeat ((first|refine W.seqR rfl ?_|refine W.seq ?_|refine W.regR rfl ?_|refine W.block ?_|refine W.skip ?_|refine W.ret ?_|refine W.exit ?_);try simp (disch:=omega) only [go_sem,↓reduceIte,n0,reduceCtorEq,n1,n2,i3,i4,i5,i6,i7,hv_5,dE,dF,dG,dH,dC,dD,bY,lR])
 refine W.condK ?_
 try simp (disch:=omega) only [go_sem,↓reduceIte,n0,reduceCtorEq,n1,n2,i3,i4,i5,i6,i7,hv_5,dE,dF,dG,dH,dC,dD,bY,lR]
 repeat ((first|refine W.seqR rfl ?_|refine W.seq ?_|refine W.regR rfl ?_|refine W.block ?_|refine W.skip ?_|refine W.ret ?_|refine W.exit ?_);try simp (disch:=omega) only [go_sem,↓reduceIte,n0,reduceCtorEq,n1,n2,i3,i4,i5,i6,i7,hv_5,dE,dF,dG,dH,dC,dD,bY,lR,slBase_00])
 refine W.normJ (RowQ [(2,.bool false),(7,.pointer (some ⟨rb,0,none⟩)),(8,.int .i16 ver),(9,.bool false),(10,.pointer (some ⟨vb,0,none⟩)),(14,.int .i32 y0)] 13 (fun va w'=>LstI RT (rd1 (rdP (d+2) ver false) fQ_1.of fQ_1.sub false false) (Rep1 (RepS true (d+2)) fQ_1.of fQ_1.sub) 3 79 [.string ByteArray.empty,.slice none 0 0,.map none] w4.heap.size N0 ok (fun b=>ok b∨w1.heap.size≤b) rb w4 s2 va 0 s2 [] [] w'∧(N0=0→if nilS fQ_1 ver y0=true then va = .slice none 0 0 else ∃ a,va = .slice (some a) 0 0))) ?_ ?_
 ·by_cases hy0:(0:Int) < y0
  ·have hyv:Value.int .i32 y0 = .int .i32 ((N0:Nat):Int):=by rw [show y0=((N0:Nat):Int) by omega]
   repeat ((first|refine qA ?_|apply qB|refine qC ?_|apply qD|apply qE|apply qF|apply qG|apply qH);try simp (disch:=omega) only [go_sem,↓reduceIte,n0,reduceCtorEq,n1,n2,i3,i4,i5,i6,i7,hv_5,dE,dF,dG,dH,dC,dD,bY])
   refine wp_appendZ (m:=N0) utQ_57 utQ_21 inQ_79 (by decide) (by first|rfl|simp (disch:=omega) only [go_sem,↓reduceIte,n0,reduceCtorEq,n1,n2,i3,i4,i5,i6,i7,dE,dF,dG,dH,dC,dD,bY]) (by first|exact hyv|(simp (disch:=omega) only [go_sem,↓reduceIte,n0,reduceCtorEq,n1,n2,i3,i4,i5,i6,i7,dE,dF,dG,dH,dC,dD,bY];exact hyv)) (by omega) (by omega) (by decide) ?_
   intro q rest hq1
   have hEw:Ext w5 (w5.drew.alloc (.cells (zs [.string ByteArray.empty,.slice none 0 0,.map none] N0++rest).toArray 79)):=(Upd.refl _ _).drew.alloc _
   repeat (first|simp (disch:=omega) only [go_sem,↓reduceIte,n0,reduceCtorEq,n1,n2,i3,i4,i5,i6,i7,hv_5,dE,dF,dG,dH,dC,dD,bY]|refine qA ?_|apply qB|refine qC ?_|apply qD|apply qE|apply qF|apply qG|apply qH)
   exact ⟨(by simp (disch:=omega) only [go_sem,↓reduceIte,n0,reduceCtorEq,n1,n2,i3,i4,i5,i6,i7,Holds_nil,Holds_cons,dE,dF,dG,dH,dC,dD,bY]),.slice (some ⟨w5.heap.size,0,none⟩) N0 q,(by simp (disch:=omega) only [go_sem,↓reduceIte,n0,reduceCtorEq,n1,n2,i3,i4,i5,i6,i7,dE,dF,dG,dH,dC,dD,bY]),LstI.start (RowJ.start (by omega) hq1 (by show w4.heap.size≤w5.drew.heap.size;rw [size_drew];omega) (blk_alloc_new rfl)) ⟨hq5.1.upd hEw (fun h=>h) (fun _ _ _ h=>h),hq5.2.upd hEw fun h=>h⟩ (lU.trans (hEw.mono fun _ h=>h.elim)),fun h0=>by omega⟩
  ·repeat ((first|refine qA ?_|apply qB|refine qC ?_|apply qD|apply qE|apply qF|apply qG|apply qH);try simp (disch:=omega) only [go_sem,↓reduceIte,n0,reduceCtorEq,n1,n2,i3,i4,i5,i6,i7,hv_5,dE,dF,dG,dH,dC,dD,bY])
   exact ⟨(by simp (disch:=omega) only [go_sem,↓reduceIte,n0,reduceCtorEq,n1,n2,i3,i4,i5,i6,i7,Holds_nil,Holds_cons,dE,dF,dG,dH,dC,dD,bY]),.slice a0 0 0,(by simp (disch:=omega) only [go_sem,↓reduceIte,n0,reduceCtorEq,n1,n2,i3,i4,i5,i6,i7,dE,dF,dG,dH,dC,dD,bY,slBase_00]),LstI.start (RowJ.zero (by omega) xI) hq5 (lU),xV⟩
 rintro ρ w6 ⟨⟨nE,nF,nG,nH,nC,nD,-⟩,va0,bY,hL0,rM⟩
 repeat ((first|refine qA ?_|apply qB|refine qC ?_|apply qD|apply qE|apply qF|apply qG|apply qH);try simp (disch:=omega) only [go_sem,↓reduceIte,n0,reduceCtorEq,n1,n2,i3,i4,i5,i6,i7,hv_5,nE,nF,nG,nH,nC,nD,bY])
 refine W.exitRJ 0 (EndQ [(2,.bool false),(7,.pointer (some ⟨rb,0,none⟩)),(8,.int .i16 ver),(9,.bool false),(10,.pointer (some ⟨vb,0,none⟩)),(14,.int .i32 y0),(13,va0)] (fun w'=>∃ s xs css,LstI RT (rd1 (rdP (d+2) ver false) fQ_1.of fQ_1.sub false false) (Rep1 (RepS true (d+2)) fQ_1.of fQ_1.sub) 3 79 [.string ByteArray.empty,.slice none 0 0,.map none] w4.heap.size N0 ok (fun b=>ok b∨w1.heap.size≤b) rb w4 s2 va0 N0 s xs css w')) (W.loop (LoopQ [(2,.bool false),(7,.pointer (some ⟨rb,0,none⟩)),(8,.int .i16 ver),(9,.bool false),(10,.pointer (some ⟨vb,0,none⟩)),(14,.int .i32 y0),(13,va0)] 15 (fun j w'=>∃ s xs css,LstI RT (rd1 (rdP (d+2) ver false) fQ_1.of fQ_1.sub false false) (Rep1 (RepS true (d+2)) fQ_1.of fQ_1.sub) 3 79 [.string ByteArray.empty,.slice none 0 0,.map none] w4.heap.size N0 ok (fun b=>ok b∨w1.heap.size≤b) rb w4 s2 va0 j s xs css w')) (fun ρ _=>N0 - (RowKit.intOf (ρ 15)).toNat) ?_ ?_) ?_
 ·exact ⟨(by simp (disch:=omega) only [go_sem,↓reduceIte,n0,reduceCtorEq,n1,n2,i3,i4,i5,i6,i7,Holds_nil,Holds_cons,nE,nF,nG,nH,nC,nD,bY]),0,(by simp (disch:=omega) only [go_sem,↓reduceIte,n0,reduceCtorEq,n1,n2,i3,i4,i5,i6,i7,nE,nF,nG,nH,nC,nD,bY];all_goals rfl),s2,[],[],hL0⟩
 ·rintro ρ w7 ⟨⟨cD,cE,cF,cH,cA,cC,nS,-⟩,j1,cI,s3,xs0,css0,hL0⟩
  have hj0:=hL0.le
  have hq7:=hL0.rd
  have hU7:Upd (fun b=>b=vb∨b=rb) w1 w7:=hU4.trans' hL0.upd fun i _ h=>.inr h
  have hz7:=hL0.upd.size
  have hG7:Glo ev w7:=hG1.updS hU7 bW bX
  by_cases n7:j1 < N0
  ·obtain ⟨R1,q1,B1,fJ,yL,yJ,hA1,eY,lJ⟩:=hL0.row.next n7
   have yN:=blk_lt eY
   generalize css0.flatten=A1 at hA1 eY lJ
   replace bY:ρ 13 = .slice (some ⟨R1,0,none⟩) N0 q1:=nS.trans fJ
   have fG:∀ b,ownB va0 b→w4.heap.size≤b∧b < w7.heap.size:=fun b h=>hL0.row.own h
   have dL:∀ b,(fun b=>(ok b∨w1.heap.size≤b)∧¬ ownB va0 b) b→¬ (b=R1∨b=rb):=fun b hk h=>h.elim (fun e=>hk.2 ⟨_,_,_,fJ,e⟩) (fun e=>hoM b hk.1 (.inr e))
   obtain ⟨X7,hX7,pV,yX⟩:=el_open (n:=3) eY hA1 rfl
   repeat ((first|refine qA ?_|apply qB|refine qC ?_|apply qD|apply qE|apply qF|apply qG|apply qH);try simp (disch:=omega) only [go_sem,↓reduceIte,n0,reduceCtorEq,n1,n2,i3,i4,i5,i6,i7,pV,cD,cE,cF,cH,cA,cC,bY,cI])
   refine (DefaultEX2_fn w7 eY hA1).mono ?_
   rintro _ w8 ⟨fA,hu8⟩
   have hq8:=And.intro (hq7.1.upd hu8 (by omega) (fun b _ hk e=>by have:=(hok b hk).1;omega)) (hq7.2.upd hu8 (by omega))
   have hV8:Upd (fun b=>b=R1∨b=rb) w7 w8:=hu8.mono (fun _ h=>.inl h)
   have hU8:Upd (fun b=>b=vb∨b=rb) w1 w8:=hU7.trans' hV8 fun i hi h=>h.elim (fun h=>by omega) .inr
   have hz8:=hV8.size
   have hG8:Glo ev w8:=hG1.updS hU8 bW bX
   obtain ⟨X8,hX8,nW,yY⟩:=el_open (n:=3) fA hA1 rfl
   have xJ:(rdL (rdP (d+1) ver false) (dfP (d+1)) ver false [fX2_0,fX2_1] s3).2=none→FB:=fun h=>rL (hL0.bad n7 rd1P_none (by show (rd1 (rdP (d+2) ver false) 10 fs_X2 false false s3).2=none;rw [rd1_part];exact rdP_bad h))
   have rJ:hasS fX2_0 ver=true:=hasS_t (by show (0:Int)≤ver;omega) (by show (-1:Int) < 0∨ver≤(-1:Int);omega)
   obtain ⟨xe0_0,tL⟩:∃ x,x=(rdF (rdP (d+1) ver false) ver false fX2_0 s3).1:=⟨_,rfl⟩
   repeat ((first|refine qA ?_|apply qB|refine qC ?_|apply qD|apply qE|apply qF|apply qG|apply qH);try simp (disch:=omega) only [go_sem,↓reduceIte,n0,reduceCtorEq,n1,n2,i3,i4,i5,i6,i7,nW,cD,cE,cF,cH,cA,cC,bY,cI])
   have hmay:mayS fX2_0 ver=false:=mayS_no (by show (-1:Int) < 0∨ver < (-1:Int);omega)
   have hrd:rdF (rdP (d+1) ver false) ver false fX2_0 s3=_:=rdF_text rfl hmay
   refine (RString_fn w8 hq8.1 hrok hG8.1 hgrb).mono ?_
   rintro _ w9 ⟨rfl,hq9,hu9⟩
   have gE:=hu9.blk_some fA (by omega)
   have hV9:Upd (fun b=>b=R1∨b=rb) w8 w9:=hu9.mono (fun _ h=>.inr h)
   have hU9:Upd (fun b=>b=vb∨b=rb) w1 w9:=hU8.trans' hV9 fun i hi h=>h.elim (fun h=>by omega) .inr
   have hz9:=hV9.size
   have hG9:Glo ev w9:=hG1.updS hU9 bW bX
   obtain ⟨X9,hX9,kP,yZ⟩:=el_open (n:=3) gE hA1 rfl
   have hst:(rdF (rdP (d+1) ver false) ver false fX2_0 s3).2=(rdStr false s3).2:=by first|(rw [hrd];rfl)|rw [hrd]
   obtain ⟨s4,hs4⟩:∃ s,s=(rdF (rdP (d+1) ver false) ver false fX2_0 s3).2:=⟨_,rfl⟩
   rw [← hst,← hs4] at hq9
   clear hst
   have yA:j1 * 3+1≤X9.size:=by omega
   have xQ:X9[j1 * 3+1]? = some (.slice none 0 0):=by rw [hX9];exact el_cell (R:=0) hA1 (Nat.le_of_ble_eq_true rfl)
   repeat ((first|refine qA ?_|apply qB|refine qC ?_|apply qD|apply qE|apply qF|apply qG|apply qH);try simp (disch:=omega) only [go_sem,↓reduceIte,n0,reduceCtorEq,n1,n2,i3,i4,i5,i6,i7,kP,cD,cE,cF,cH,cA,cC,bY,cI,yA,xQ,Array.getElem?_setIfInBounds_ne])
   generalize lV:wr w9 R1 (j1 * 3) [strV (rdStr false s3).1] = w10
   have wX:Upd (fun b=>b=R1∨b=rb) w9 w10:=by rw [← lV];exact (Upd.refl _ _).wr _ _ (.inr (.inl rfl))
   have jL:blk w10 R1=some ((A1++(([strV (rdStr false s3).1,.slice none 0 0,.map none]:List Value)++B1)).toArray,79,(0,0)):=by rw [← lV];exact el_blk0 gE hA1 (Nat.le_of_ble_eq_true rfl)
   have gF:=wX
   have m8:Upd (fun b=>b=vb∨b=rb) w1 w10:=hU9.trans' gF fun i hi h=>h.elim (fun h=>by omega) .inr
   have CZ:=gF.size
   have tT:Glo ev w10:=hG1.updS m8 bW bX
   have pL:=Rdr.stored lV hq9 (by omega) fun h=>by have:=(hok _ h).1;first|omega|exact (hok _ h).2 rfl
   obtain ⟨X10,qX,tJ,AM⟩:=el_open (n:=3) jL hA1 rfl
   clear lV
   have xL:RepF (RepS true (d+1)) (szS true (d+1)) fX2_0 (fun b=>(ok b∨w1.heap.size≤b)∧¬ ownB va0 b) w10 (xe0_0) [strV (rdStr false s3).1]:=(RepF_text rfl (by decide)).2 (by rw [tL,hrd];rfl)
   clear hrd
   have xK:(rdL (rdP (d+1) ver false) (dfP (d+1)) ver false [fX2_1] s4).2=none→FB:=fun h=>xJ (by rw [rdL_st (by decide) rJ,← hs4];exact h)
   have rK:hasS fX2_1 ver=true:=hasS_t (by show (0:Int)≤ver;omega) (by show (-1:Int) < 0∨ver≤(-1:Int);omega)
   obtain ⟨xe0_1,tM⟩:∃ x,x=(rdF (rdP (d+1) ver false) ver false fX2_1 s4).1:=⟨_,rfl⟩
   have xP:X10[j1 * 3+1]? = some (.slice none 0 0):=by rw [qX];exact el_cell (R:=0) hA1 (Nat.le_of_ble_eq_true rfl)
   repeat ((first|refine qA ?_|apply qB|refine qC ?_|apply qD|apply qE|apply qF|apply qG|apply qH);try simp (disch:=omega) only [go_sem,↓reduceIte,n0,reduceCtorEq,n1,n2,i3,i4,i5,i6,i7,tJ,cD,cE,cF,cH,cA,cC,bY,cI,xP])
   refine (RArrayLen_fn w10 pL.1 hrok tT.1 hgrb).mono ?_
   rintro _ w11 ⟨rfl,fH,tF⟩
   have kT:=tF.blk_some jL (by omega)
   have gG:Upd (fun b=>b=R1∨b=rb) w10 w11:=tF.mono (fun _ h=>.inr h)
   have iA:Upd (fun b=>b=vb∨b=rb) w1 w11:=m8.trans' gG fun i hi h=>h.elim (fun h=>by omega) .inr
   have zI:=gG.size
   have pW:Glo ev w11:=hG1.updS iA bW bX
   obtain ⟨X11,uQ,dM,yS⟩:=el_open (n:=3) kT hA1 rfl
   obtain ⟨s5,hs5⟩:∃ s,s=(rdALen false s4).2:=⟨_,rfl⟩
   rw [← hs5] at fH
   have FG:=rdALen_rng false s4
   generalize hy1:(rdALen false s4).1=y1 at *
   obtain ⟨N1,hN1⟩:∃ N,N=y1.toNat:=⟨_,rfl⟩
   have xO:(rdMany (rd1 (rdP (d+1) ver false) fX2_1.of fX2_1.sub false false) N1 s5).2=none→FB:=fun h=>xK (by rw [rdL_st (by decide) rK];exact rdL_bad (rdF_listbad rfl (by rw [hy1,← hN1,← hs5];exact h)))
   repeat ((first|refine W.seqR rfl ?_|refine W.seq ?_|refine W.regR rfl ?_|refine W.block ?_|refine W.skip ?_|refine W.ret ?_|refine W.exit ?_);try simp (disch:=omega) only [go_sem,↓reduceIte,n0,reduceCtorEq,n1,n2,i3,i4,i5,i6,i7,dM,cD,cE,cF,cH,cA,cC,bY,cI])
   refine (ROk_fn w11 fH.1).mono ?_
   rintro _ wz ⟨rfl,hez⟩
   rw [hez]
   clear hez wz
   by_cases lQ:s5=none
   ·have hso:s5.isSome=false:=by rw [lQ];rfl
    repeat (first|simp (disch:=omega) only [go_sem,↓reduceIte,n0,reduceCtorEq,n1,n2,i3,i4,i5,i6,i7,dM,cD,cE,cF,cH,cA,cC,bY,cI,hso]|refine qA ?_|apply qB|refine qC ?_|apply qD|apply qE|apply qF|apply qG|apply qH)
    refine (RComplete_fn w11 fH.1 pW.2).mono ?_
    rintro _ wz ⟨rfl,hez⟩
    rw [hez]
    repeat (first|simp (disch:=omega) only [go_sem,↓reduceIte,n0,reduceCtorEq,n1,n2,i3,i4,i5,i6,i7,dM,cD,cE,cF,cH,cA,cC,bY,cI]|refine qA ?_|apply qB|refine qC ?_|apply qD|apply qE|apply qF|apply qG|apply qH)
    rw [errV_none lQ]
    exact ReadQ.bad (Eq.mp hFB (xO (by rw [lQ];exact rdMany_none rd1P_none _))) (hbase.trans' iA fun i hi h=>h.elim id fun h=>by omega)
   have lS:s5.isSome=true:=isSome_some lQ
   try simp (disch:=omega) only [go_sem,↓reduceIte,n0,reduceCtorEq,n1,n2,i3,i4,i5,i6,i7,dM,cD,cE,cF,cH,cA,cC,bY,cI,lS]
   repeat ((first|refine W.seqR rfl ?_|refine W.seq ?_|refine W.regR rfl ?_|refine W.block ?_|refine W.skip ?_|refine W.ret ?_|refine W.exit ?_);try simp (disch:=omega) only [go_sem,↓reduceIte,n0,reduceCtorEq,n1,n2,i3,i4,i5,i6,i7,dM,cD,cE,cF,cH,cA,cC,bY,cI,lS])
   refine W.condK ?_
   try simp (disch:=omega) only [go_sem,↓reduceIte,n0,reduceCtorEq,n1,n2,i3,i4,i5,i6,i7,dM,cD,cE,cF,cH,cA,cC,bY,cI,lS]
   repeat ((first|refine W.seqR rfl ?_|refine W.seq ?_|refine W.regR rfl ?_|refine W.block ?_|refine W.skip ?_|refine W.ret ?_|refine W.exit ?_);try simp (disch:=omega) only [go_sem,↓reduceIte,n0,reduceCtorEq,n1,n2,i3,i4,i5,i6,i7,dM,cD,cE,cF,cH,cA,cC,bY,cI,lS,slBase_00])
   refine W.normJ (RowQ [(2,.bool false),(7,.pointer (some ⟨rb,0,none⟩)),(8,.int .i16 ver),(9,.bool false),(10,.pointer (some ⟨vb,0,none⟩)),(14,.int .i32 y0),(13,.slice (some ⟨R1,0,none⟩) N0 q1),(15,.int .i32 j1),(17,.pointer (some ⟨R1,j1 * 3,none⟩)),(21,.int .i32 y1)] 20 (fun va w'=>LstI RT (rd1 (rdP (d+1) ver false) fX2_1.of fX2_1.sub false false) (Rep1 (RepS true (d+1)) fX2_1.of fX2_1.sub) 1 21 [.int .i32 0] w11.heap.size N1 ok (fun b=>(ok b∨w1.heap.size≤b)∧¬ ownB va0 b) rb w11 s5 va 0 s5 [] [] w'∧(N1=0→if nilS fX2_1 ver y1=true then va = .slice none 0 0 else ∃ a,va = .slice (some a) 0 0))) ?_ ?_
   ·by_cases hy0:(0:Int) < y1
    ·have hyv:Value.int .i32 y1 = .int .i32 ((N1:Nat):Int):=by rw [show y1=((N1:Nat):Int) by omega]
     repeat ((first|refine qA ?_|apply qB|refine qC ?_|apply qD|apply qE|apply qF|apply qG|apply qH);try simp (disch:=omega) only [go_sem,↓reduceIte,n0,reduceCtorEq,n1,n2,i3,i4,i5,i6,i7,dM,cD,cE,cF,cH,cA,cC,bY,cI])
     refine wp_appendZ (m:=N1) utQ_77 utQ_21 inQ_21 (by decide) (by first|rfl|simp (disch:=omega) only [go_sem,↓reduceIte,n0,reduceCtorEq,n1,n2,i3,i4,i5,i6,i7,cD,cE,cF,cH,cA,cC,bY,cI]) (by first|exact hyv|(simp (disch:=omega) only [go_sem,↓reduceIte,n0,reduceCtorEq,n1,n2,i3,i4,i5,i6,i7,cD,cE,cF,cH,cA,cC,bY,cI];exact hyv)) (by omega) (by omega) (by decide) ?_
     intro q rest hq1
     have hEw:Ext w11 (w11.drew.alloc (.cells (zs [.int .i32 0] N1++rest).toArray 21)):=(Upd.refl _ _).drew.alloc _
     repeat (first|simp (disch:=omega) only [go_sem,↓reduceIte,n0,reduceCtorEq,n1,n2,i3,i4,i5,i6,i7,dM,cD,cE,cF,cH,cA,cC,bY,cI]|refine qA ?_|apply qB|refine qC ?_|apply qD|apply qE|apply qF|apply qG|apply qH)
     exact ⟨(by simp (disch:=omega) only [go_sem,↓reduceIte,n0,reduceCtorEq,n1,n2,i3,i4,i5,i6,i7,Holds_nil,Holds_cons,cD,cE,cF,cH,cA,cC,bY,cI]),.slice (some ⟨w11.heap.size,0,none⟩) N1 q,(by simp (disch:=omega) only [go_sem,↓reduceIte,n0,reduceCtorEq,n1,n2,i3,i4,i5,i6,i7,cD,cE,cF,cH,cA,cC,bY,cI]),LstI.start (RowJ.start (by omega) hq1 (by show w11.heap.size≤w11.drew.heap.size;rw [size_drew];omega) (blk_alloc_new rfl)) ⟨fH.1.upd hEw (fun h=>h) (fun _ _ _ h=>h),fH.2.upd hEw fun h=>h⟩ (hEw.mono fun _ h=>h.elim),fun h0=>by omega⟩
    ·repeat ((first|refine qA ?_|apply qB|refine qC ?_|apply qD|apply qE|apply qF|apply qG|apply qH);try simp (disch:=omega) only [go_sem,↓reduceIte,n0,reduceCtorEq,n1,n2,i3,i4,i5,i6,i7,dM,cD,cE,cF,cH,cA,cC,bY,cI])
     exact ⟨(by simp (disch:=omega) only [go_sem,↓reduceIte,n0,reduceCtorEq,n1,n2,i3,i4,i5,i6,i7,Holds_nil,Holds_cons,cD,cE,cF,cH,cA,cC,bY,cI]),.slice none 0 0,(by simp (disch:=omega) only [go_sem,↓reduceIte,n0,reduceCtorEq,n1,n2,i3,i4,i5,i6,i7,cD,cE,cF,cH,cA,cC,bY,cI,slBase_00]),LstI.start (RowJ.zero (by omega) (fun _ h=>by cases h)) fH (Upd.refl _ _),fun _=>by rw [nilS_plain (by decide) (by omega)];exact rfl⟩
   rintro ρ w12 ⟨⟨nN,nP,nQ,nR,nI,nK,nJ,nL,nM,nO,-⟩,va1,eD,hL1,rN⟩
   repeat ((first|refine qA ?_|apply qB|refine qC ?_|apply qD|apply qE|apply qF|apply qG|apply qH);try simp (disch:=omega) only [go_sem,↓reduceIte,n0,reduceCtorEq,n1,n2,i3,i4,i5,i6,i7,dM,nN,nP,nQ,nR,nI,nK,nJ,nL,nM,nO,eD])
   refine W.exitRJ 2 (EndQ [(2,.bool false),(7,.pointer (some ⟨rb,0,none⟩)),(8,.int .i16 ver),(9,.bool false),(10,.pointer (some ⟨vb,0,none⟩)),(14,.int .i32 y0),(13,.slice (some ⟨R1,0,none⟩) N0 q1),(15,.int .i32 j1),(17,.pointer (some ⟨R1,j1 * 3,none⟩)),(21,.int .i32 y1),(20,va1)] (fun w'=>∃ s xs css,LstI RT (rd1 (rdP (d+1) ver false) fX2_1.of fX2_1.sub false false) (Rep1 (RepS true (d+1)) fX2_1.of fX2_1.sub) 1 21 [.int .i32 0] w11.heap.size N1 ok (fun b=>(ok b∨w1.heap.size≤b)∧¬ ownB va0 b) rb w11 s5 va1 N1 s xs css w')) (W.loop (LoopQ [(2,.bool false),(7,.pointer (some ⟨rb,0,none⟩)),(8,.int .i16 ver),(9,.bool false),(10,.pointer (some ⟨vb,0,none⟩)),(14,.int .i32 y0),(13,.slice (some ⟨R1,0,none⟩) N0 q1),(15,.int .i32 j1),(17,.pointer (some ⟨R1,j1 * 3,none⟩)),(21,.int .i32 y1),(20,va1)] 22 (fun j w'=>∃ s xs css,LstI RT (rd1 (rdP (d+1) ver false) fX2_1.of fX2_1.sub false false) (Rep1 (RepS true (d+1)) fX2_1.of fX2_1.sub) 1 21 [.int .i32 0] w11.heap.size N1 ok (fun b=>(ok b∨w1.heap.size≤b)∧¬ ownB va0 b) rb w11 s5 va1 j s xs css w')) (fun ρ _=>N1 - (RowKit.intOf (ρ 22)).toNat) ?_ ?_) ?_
   ·exact ⟨(by simp (disch:=omega) only [go_sem,↓reduceIte,n0,reduceCtorEq,n1,n2,i3,i4,i5,i6,i7,Holds_nil,Holds_cons,nN,nP,nQ,nR,nI,nK,nJ,nL,nM,nO,eD]),0,(by simp (disch:=omega) only [go_sem,↓reduceIte,n0,reduceCtorEq,n1,n2,i3,i4,i5,i6,i7,nN,nP,nQ,nR,nI,nK,nJ,nL,nM,nO,eD];all_goals rfl),s5,[],[],hL1⟩
   ·rintro ρ w13 ⟨⟨eP,eR,eS,eT,eK,eM,eL,eN,eO,eQ,nT,-⟩,j2,eV,s6,xs1,css1,hL1⟩
    have hj1:=hL1.le
    have kS:=hL1.rd
    have lA:Upd (fun b=>b=vb∨b=rb) w1 w13:=iA.trans' hL1.upd fun i _ h=>.inr h
    have zJ:=hL1.upd.size
    have pX:Glo ev w13:=hG1.updS lA bW bX
    by_cases eJ:j2 < N1
    ·obtain ⟨R2,q2,B2,fK,yM,yK,hA2,hZ,lK⟩:=hL1.row.next eJ
     have yO:=blk_lt hZ
     generalize css1.flatten=A2 at hA2 hZ lK
     rw [Nat.mul_one] at hA2
     replace eD:ρ 20 = .slice (some ⟨R2,0,none⟩) N1 q2:=nT.trans fK
     have hown2:∀ b,ownB va1 b→w11.heap.size≤b∧b < w13.heap.size:=fun b h=>hL1.row.own h
     have iI:∀ b,(fun b=>(fun b=>(ok b∨w1.heap.size≤b)∧¬ ownB va0 b) b∧¬ ownB va1 b) b→¬ (b=R2∨b=rb):=fun b hk h=>h.elim (fun e=>hk.2 ⟨_,_,_,fK,e⟩) (fun e=>dL b hk.1 (.inr e))
     obtain ⟨X13,xH,fR,yU⟩:=el_open (n:=1) hZ hA2 rfl
     repeat ((first|refine qA ?_|apply qB|refine qC ?_|apply qD|apply qE|apply qF|apply qG|apply qH);try simp (disch:=omega) only [go_sem,↓reduceIte,n0,reduceCtorEq,n1,n2,i3,i4,i5,i6,i7,fR,eP,eR,eS,eT,eK,eM,eL,eN,eO,eQ,eD,eV])
     refine (Int32_fn w13 kS.1 hrok pX.1 hgrb).mono ?_
     rintro _ w14 ⟨rfl,pM,tG⟩
     have m7:=tG.blk_some hZ (by omega)
     have lC:Upd (fun b=>b=R2∨b=rb) w13 w14:=tG.mono (fun _ h=>.inr h)
     have nX:Upd (fun b=>b=vb∨b=rb) w1 w14:=lA.trans' lC fun i hi h=>h.elim (fun h=>by omega) .inr
     have E9:=lC.size
     have zW:Glo ev w14:=hG1.updS nX bW bX
     obtain ⟨X14,AF,u9,DI⟩:=el_open (n:=1) m7 hA2 rfl
     obtain ⟨s7,hs7⟩:∃ s,s=(rdInt .i32 4 s6).2:=⟨_,rfl⟩
     rw [← hs7] at pM
     have hrE:(rd1 (rdP (d+1) ver false) fX2_1.of fX2_1.sub false false) s6=((.num (rdInt .i32 4 s6).1),s7):=by rw [hs7];exact rd1_num 3 (by decide)
     have y8:j2+1≤X14.size:=by omega
     repeat ((first|refine qA ?_|apply qB|refine qC ?_|apply qD|apply qE|apply qF|apply qG|apply qH);try simp (disch:=omega) only [go_sem,↓reduceIte,n0,reduceCtorEq,n1,n2,i3,i4,i5,i6,i7,u9,eP,eR,eS,eT,eK,eM,eL,eN,eO,eQ,eD,eV,y8])
     generalize lW:wr w14 R2 (j2) [.int .i32 (rdInt .i32 4 s6).1] = w15
     have wY:Upd (fun b=>b=R2∨b=rb) w14 w15:=by rw [← lW];exact (Upd.refl _ _).wr _ _ (.inr (.inl rfl))
     have jR:blk w15 R2=some ((A2++(([.int .i32 (rdInt .i32 4 s6).1]:List Value)++B2)).toArray,21,(0,0)):=by rw [← lW];exact el_blk0 m7 hA2 (Nat.le_of_ble_eq_true rfl)
     have lD:=wY
     have lZ:Upd (fun b=>b=vb∨b=rb) w1 w15:=nX.trans' lD fun i hi h=>h.elim (fun h=>by omega) .inr
     have zK:=lD.size
     have wT:Glo ev w15:=hG1.updS lZ bW bX
     have lL:=Rdr.stored lW pM (by omega) fun h=>by have:=(hok _ h).1;first|omega|exact (hok _ h).2 rfl
     obtain ⟨X15,yR,iJ,yV⟩:=el_open (n:=1) jR hA2 rfl
     clear lW
     have hxE:(Rep1 (RepS true (d+1)) fX2_1.of fX2_1.sub) (fun b=>(fun b=>(ok b∨w1.heap.size≤b)∧¬ ownB va0 b) b∧¬ ownB va1 b) w15 (.num (rdInt .i32 4 s6).1) [.int .i32 (rdInt .i32 4 s6).1]:=(Rep1_num (by decide)).2 (congrArg (fun x=>[x]) (numC_rd 3 (by decide) 4 s6).symm)
     repeat ((first|refine qA ?_|apply qB|refine qC ?_|apply qD|apply qE|apply qF|apply qG|apply qH);try simp (disch:=omega) only [go_sem,↓reduceIte,n0,reduceCtorEq,n1,n2,i3,i4,i5,i6,i7,iJ,eP,eR,eS,eT,eK,eM,eL,eN,eO,eQ,eD,eV])
     have hTk:Upd (fun b=>b=R2∨b=rb) w13 w15:=(lC.trans lD)
     have hL':=hL1.step (Rep1_lay _ _ fun _=>RepS_lay true _ _) eJ (lK w15 [.int .i32 (rdInt .i32 4 s6).1] rfl jR) (by rw [hrE];exact hxE) (hTk.mono fun b h=>h.imp (fun e=>⟨_,_,_,fK,e⟩) id) (by rw [hrE];exact lL) (fun h=>dL rb h (.inr rfl)) (Nat.le_refl _)
     have hij:IntKind.i32.wrap ((j2:Int)+1)=((j2+1:Nat):Int):=by rw [i32_wrap (by omega)];omega
     repeat ((first|refine qA ?_|apply qB|refine qC ?_|apply qD|apply qE|apply qF|apply qG|apply qH);try simp (disch:=omega) only [go_sem,↓reduceIte,n0,reduceCtorEq,n1,n2,i3,i4,i5,i6,i7,iJ,eP,eR,eS,eT,eK,eM,eL,eN,eO,eQ,eD,eV,hij])
     refine ⟨⟨(by simp (disch:=omega) only [go_sem,↓reduceIte,n0,reduceCtorEq,n1,n2,i3,i4,i5,i6,i7,Holds_nil,Holds_cons,eP,eR,eS,eT,eK,eM,eL,eN,eO,eQ,eD,eV];exact fK.symm),j2+1,(by simp (disch:=omega) only [go_sem,↓reduceIte,n0,reduceCtorEq,n1,n2,i3,i4,i5,i6,i7,eP,eR,eS,eT,eK,eM,eL,eN,eO,eQ,eD,eV,hij];all_goals rfl),_,_,_,hL'⟩,?_⟩
     try simp (disch:=omega) only [go_sem,↓reduceIte,n0,reduceCtorEq,n1,n2,i3,i4,i5,i6,i7,eP,eR,eS,eT,eK,eM,eL,eN,eO,eQ,eD,eV]
     simp only [RowKit.intOf]
     omega
    ·have hjN:j2=N1:=by omega
     rw [hjN] at hL1
     repeat ((first|refine qA ?_|apply qB|refine qC ?_|apply qD|apply qE|apply qF|apply qG|apply qH);try simp (disch:=omega) only [go_sem,↓reduceIte,n0,reduceCtorEq,n1,n2,i3,i4,i5,i6,i7,eP,eR,eS,eT,eK,eM,eL,eN,eO,eQ,nT,eV])
     exact ⟨(by simp (disch:=omega) only [go_sem,↓reduceIte,n0,reduceCtorEq,n1,n2,i3,i4,i5,i6,i7,Holds_nil,Holds_cons,eP,eR,eS,eT,eK,eM,eL,eN,eO,eQ,nT,eV]),s6,xs1,css1,hL1⟩
   rintro ρ w16 ⟨⟨g8,gB,gC,gD,fW,fY,fX,fZ,g7,gA,g9,-⟩,s8,xs1,css1,hL1⟩
   have rO:=hL1.rd
   have lT:=hL1.upd
   have m6:=lT.blk_some kT (by omega)
   have gH:Upd (fun b=>b=R1∨b=rb) w11 w16:=lT.mono (fun _ h=>.inr h)
   have m9:Upd (fun b=>b=vb∨b=rb) w1 w16:=iA.trans' gH fun i hi h=>h.elim (fun h=>by omega) .inr
   have D0:=gH.size
   have yI:Glo ev w16:=hG1.updS m9 bW bX
   obtain ⟨X16,AG,tK,AN⟩:=el_open (n:=3) m6 hA1 rfl
   have tD:rdF (rdP (d+1) ver false) ver false fX2_1 s4=(.mk 0 [] (nilS fX2_1 ver y1) xs1 [],s8):=by
    have h:=rdF_listE (pt:=(rdP (d+1) ver false)) (v:=ver) (flex:=false) (f:=fX2_1) (s:=s4) (xs:=xs1) (e:=s8) rfl (by rw [hy1,← hN1,← hs5];exact hL1.done)
    rw [hy1] at h;exact h
   have hs8:s8=(rdF (rdP (d+1) ver false) ver false fX2_1 s4).2:=by rw [tD]
   obtain ⟨aa1,qq1,yC⟩:=hL1.row.shape
   subst yC
   have y9:j1 * 3+2≤X16.size:=by omega
   repeat ((first|refine qA ?_|apply qB|refine qC ?_|apply qD|apply qE|apply qF|apply qG|apply qH);try simp (disch:=omega) only [go_sem,↓reduceIte,n0,reduceCtorEq,n1,n2,i3,i4,i5,i6,i7,tK,g8,gB,gC,gD,fW,fY,fX,fZ,g7,gA,g9,y9])
   generalize lX:wr w16 R1 (j1 * 3+1) [.slice aa1 N1 qq1] = w17
   have wZ:Upd (fun b=>b=R1∨b=rb) w16 w17:=by rw [← lX];exact (Upd.refl _ _).wr _ _ (.inr (.inl rfl))
   have nU:blk w17 R1=some ((A1++(([strV (rdStr false s3).1,.slice aa1 N1 qq1,.map none]:List Value)++B1)).toArray,79,(0,0)):=by rw [← lX];exact el_blk (o:=1) m6 hA1 (Nat.le_of_ble_eq_true rfl)
   have fM:=wZ
   have m4:Upd (fun b=>b=vb∨b=rb) w1 w17:=m9.trans' fM fun i hi h=>h.elim (fun h=>by omega) .inr
   have zL:=fM.size
   have wU:Glo ev w17:=hG1.updS m4 bW bX
   have mS:=Rdr.stored lX rO (by omega) fun h=>by have:=(hok _ h).1;first|omega|exact (hok _ h).2 rfl
   obtain ⟨X17,uR,nV,yW⟩:=el_open (n:=3) nU hA1 rfl
   clear lX
   have xM:RepF (RepS true (d+1)) (szS true (d+1)) fX2_1 (fun b=>(ok b∨w1.heap.size≤b)∧¬ ownB va0 b) w17 (xe0_1) [.slice aa1 N1 qq1]:=by rw [tM,tD];exact RepF.keepS (RepF_row rfl rN hN1 rfl hL1.row hL1.all (fun b hb=>⟨.inr (by omega),fun ho=>by have:=(fG _ ho).2;omega⟩)) (fM.keeps fun b _ hk e=>dL b hk e)
   clear hL1 rN
   have xT:rdL (rdP (d+1) ver false) (dfP (d+1)) ver false [] s8=([],s8):=rfl
   have xS:rdL (rdP (d+1) ver false) (dfP (d+1)) ver false [fX2_1] s4=([xe0_1],s8):=by rw [rdL_st (by decide) rK,← tM,← hs8,xT]
   have xR:rdL (rdP (d+1) ver false) (dfP (d+1)) ver false [fX2_0,fX2_1] s3=([xe0_0,xe0_1],s8):=by rw [rdL_st (by decide) rJ,← tL,← hs4,xS]
   have tV:rdP (d+2) ver false fs_X2 s3=(.mk 0 [] false [xe0_0,xe0_1] [],s8):=rdP_f xR
   have xB:TagsM (fun b=>(ok b∨w1.heap.size≤b)∧¬ ownB va0 b) w17 (.map none) []:=.inl ⟨rfl,rfl⟩
   have qR:Upd (fun b=>b=R1∨b=rb) w17 w17:=Upd.refl _ _
   have wQ:Upd (fun b=>b=R1∨b=rb) w16 w17:=fM.trans qR
   have wP:Upd (fun b=>b=R1∨b=rb) w11 w17:=gH.trans wQ
   have qQ:Upd (fun b=>b=R1∨b=rb) w10 w17:=gG.trans wP
   have wS:Upd (fun b=>b=R1∨b=rb) w9 w17:=gF.trans qQ
   have wR:Upd (fun b=>b=R1∨b=rb) w8 w17:=hV9.trans wS
   have EG:Upd (fun b=>b=R1∨b=rb) w7 w17:=hV8.trans wR
   have wW:RepS true (d+2) fs_X2 (fun b=>(ok b∨w1.heap.size≤b)∧¬ ownB va0 b) w17 (.mk 0 [] false [xe0_0,xe0_1] []) [strV (rdStr false s3).1,.slice aa1 N1 qq1,.map none]:=RepS.introT (c:=[strV (rdStr false s3).1,.slice aa1 N1 qq1]) (RepL.cons1 (xL.keepS (qQ.keeps fun b _ hk e=>dL b hk e)) (RepL.cons1 (xM.keepS (qR.keeps fun b _ hk e=>dL b hk e)) RepL.nil)) xB
   have hrE:(rd1 (rdP (d+2) ver false) fQ_1.of fQ_1.sub false false) s3=((.mk 0 [] false [xe0_0,xe0_1] []),s8):=by rw [show (rd1 (rdP (d+2) ver false) fQ_1.of fQ_1.sub false false) s3=_ from rd1_part];exact tV
   have hxE:(Rep1 (RepS true (d+2)) fQ_1.of fQ_1.sub) (fun b=>(ok b∨w1.heap.size≤b)∧¬ ownB va0 b) w17 (.mk 0 [] false [xe0_0,xe0_1] []) [strV (rdStr false s3).1,.slice aa1 N1 qq1,.map none]:=Rep1_part.2 wW
   repeat ((first|refine qA ?_|apply qB|refine qC ?_|apply qD|apply qE|apply qF|apply qG|apply qH);try simp (disch:=omega) only [go_sem,↓reduceIte,n0,reduceCtorEq,n1,n2,i3,i4,i5,i6,i7,nV,g8,gB,gC,gD,fW,fY,fX,fZ,g7,gA,g9])
   have hTk:Upd (fun b=>b=R1∨b=rb) w7 w17:=(((((hV8.trans hV9).trans gF).trans gG).trans gH).trans fM)
   have hL':=hL0.step (Rep1_lay _ _ fun _=>RepS_lay true _ _) n7 (lJ w17 [strV (rdStr false s3).1,.slice aa1 N1 qq1,.map none] rfl nU) (by rw [hrE];exact hxE) (hTk.mono fun b h=>h.imp (fun e=>⟨_,_,_,fJ,e⟩) id) (by rw [hrE];exact mS) (fun h=>hoM rb h (.inr rfl)) (Nat.le_refl _)
   have hij:IntKind.i32.wrap ((j1:Int)+1)=((j1+1:Nat):Int):=by rw [i32_wrap (by omega)];omega
   repeat ((first|refine qA ?_|apply qB|refine qC ?_|apply qD|apply qE|apply qF|apply qG|apply qH);try simp (disch:=omega) only [go_sem,↓reduceIte,n0,reduceCtorEq,n1,n2,i3,i4,i5,i6,i7,nV,g8,gB,gC,gD,fW,fY,fX,fZ,g7,gA,g9,hij])
   refine ⟨⟨(by simp (disch:=omega) only [go_sem,↓reduceIte,n0,reduceCtorEq,n1,n2,i3,i4,i5,i6,i7,Holds_nil,Holds_cons,g8,gB,gC,gD,fW,fY,fX,fZ,g7,gA,g9];exact fJ.symm),j1+1,(by simp (disch:=omega) only [go_sem,↓reduceIte,n0,reduceCtorEq,n1,n2,i3,i4,i5,i6,i7,g8,gB,gC,gD,fW,fY,fX,fZ,g7,gA,g9,hij];all_goals rfl),_,_,_,hL'⟩,?_⟩
   try simp (disch:=omega) only [go_sem,↓reduceIte,n0,reduceCtorEq,n1,n2,i3,i4,i5,i6,i7,g8,gB,gC,gD,fW,fY,fX,fZ,g7,gA,g9]
   simp only [RowKit.intOf]
   omega
  ·have hjN:j1=N0:=by omega
   rw [hjN] at hL0
   repeat ((first|refine qA ?_|apply qB|refine qC ?_|apply qD|apply qE|apply qF|apply qG|apply qH);try simp (disch:=omega) only [go_sem,↓reduceIte,n0,reduceCtorEq,n1,n2,i3,i4,i5,i6,i7,cD,cE,cF,cH,cA,cC,nS,cI])
   exact ⟨(by simp (disch:=omega) only [go_sem,↓reduceIte,n0,reduceCtorEq,n1,n2,i3,i4,i5,i6,i7,Holds_nil,Holds_cons,cD,cE,cF,cH,cA,cC,nS,cI]),s3,xs0,css0,hL0⟩
 rintro ρ w18 ⟨⟨l3,l4,l5,l6,kY,l0,kZ,-⟩,s9,xs0,css0,hL0⟩
 have mT:=hL0.rd
 have mO:=hL0.upd
 have hv_18:=mO.blk_some hv_4 (by omega)
 have fS:Upd (fun b=>b=vb∨b=rb) w4 w18:=mO.mono (fun _ h=>.inr h)
 have lB:Upd (fun b=>b=vb∨b=rb) w1 w18:=hU4.trans fS
 have zM:=fS.size
 have wV:Glo ev w18:=hG1.updS lB bW bX
 have tC:rdF (rdP (d+2) ver false) ver false fQ_1 s1=(.mk 0 [] (nilS fQ_1 ver y0) xs0 [],s9):=by
  have h:=rdF_listE (pt:=(rdP (d+2) ver false)) (v:=ver) (flex:=false) (f:=fQ_1) (s:=s1) (xs:=xs0) (e:=s9) rfl (by rw [hy0,← hN0,← hs2];exact hL0.done)
  rw [hy0] at h;exact h
 have hs9:s9=(rdF (rdP (d+2) ver false) ver false fQ_1 s1).2:=by rw [tC]
 obtain ⟨aa0,qq0,yB⟩:=hL0.row.shape
 subst yB
 repeat ((first|refine qA ?_|apply qB|refine qC ?_|apply qD|apply qE|apply qF|apply qG|apply qH);try simp (disch:=omega) only [go_sem,↓reduceIte,n0,reduceCtorEq,n1,n2,i3,i4,i5,i6,i7,hv_18,l3,l4,l5,l6,kY,l0,kZ])
 generalize hO:wr w18 vb 2 [.slice aa0 N0 qq0] = w19
 have qT:Upd (fun b=>b=vb∨b=rb) w18 w19:=by rw [← hO];exact (Upd.refl _ _).wr _ _ (.inr (.inl rfl))
 have hv_19:blk w19 vb=some (#[.int .i16 ver,strV (rdStr false s0).1,.slice aa0 N0 qq0,.slice none 0 0,.bool false,.map none],63,(0,0)):=by rw [← hO,blk_wr_eq,hv_18];rfl
 have fB:=qT
 have lM:Upd (fun b=>b=vb∨b=rb) w1 w19:=lB.trans fB
 have zN:=fB.size
 have tO:Glo ev w19:=hG1.updS lM bW bX
 have m5:=Rdr.stored hO mT (by omega) fun h=>by have:=(hok _ h).1;first|omega|exact (hok _ h).2 rfl
 clear hO
 have hf_1:RepF (RepS true (d+2)) (szS true (d+2)) fQ_1 (fun b=>ok b∨w1.heap.size≤b) w19 (x_1) [.slice aa0 N0 qq0]:=by rw [hx_1,tC];exact RepF.keepS (RepF_row rfl rM hN0 rfl hL0.row hL0.all (fun b hb=>.inr (by omega))) (fB.keeps fun b _ hk e=>(hoM b hk) e)
 clear hL0 rM
 have hb_2:(rdL (rdP (d+2) ver false) (dfP (d+2)) ver false [frQ_2,fQ_3] s9).2=none→FB:=fun h=>hb_1 (by rw [rdL_st (by decide) hh_1,← hs9];exact h)
 obtain ⟨x_2,hx_2⟩:∃ x,x=dfF (dfP (d+2)) frQ_2:=⟨_,rfl⟩
 have hf_2:RepF (RepS true (d+2)) (szS true (d+2)) frQ_2 (fun b=>ok b∨w1.heap.size≤b) w19 (x_2) [.slice none 0 0]:=by rw [hx_2];exact RepF_nil rfl
 have hh_2:hasS frQ_2 ver=false:=hasS_f (by show ver < 8∨(0≤(-1:Int)∧(-1:Int) < ver);omega)
 have hb_3:(rdL (rdP (d+2) ver false) (dfP (d+2)) ver false [fQ_3] s9).2=none→FB:=fun h=>hb_2 (by rw [rdL_no hh_2];exact h)
 obtain ⟨x_3,hx_3⟩:∃ x,x=dfF (dfP (d+2)) fQ_3:=⟨_,rfl⟩
 have hf_3:RepF (RepS true (d+2)) (szS true (d+2)) fQ_3 (fun b=>ok b∨w1.heap.size≤b) w19 (x_3) [.bool false]:=by rw [hx_3];exact (RepF_num (by decide)).2 rfl
 have hh_3:hasS fQ_3 ver=false:=hasS_f (by show ver < 7∨(0≤(-1:Int)∧(-1:Int) < ver);omega)
 have hl_4:rdL (rdP (d+2) ver false) (dfP (d+2)) ver false [] s9=([],s9):=rfl
 have hl_3:rdL (rdP (d+2) ver false) (dfP (d+2)) ver false [fQ_3] s9=([x_3],s9):=by rw [rdL_no hh_3,← hx_3,hl_4]
 have hl_2:rdL (rdP (d+2) ver false) (dfP (d+2)) ver false [frQ_2,fQ_3] s9=([x_2,x_3],s9):=by rw [rdL_no hh_2,← hx_2,hl_3]
 have hl_1:rdL (rdP (d+2) ver false) (dfP (d+2)) ver false [fQ_1,frQ_2,fQ_3] s1=([x_1,x_2,x_3],s9):=by rw [rdL_st (by decide) hh_1,← hx_1,← hs9,hl_2]
 have hl_0:rdL (rdP (d+2) ver false) (dfP (d+2)) ver false [fQ_0,fQ_1,frQ_2,fQ_3] s0=([x_0,x_1,x_2,x_3],s9):=by rw [rdL_st (by decide) hh_0,← hx_0,← hs1,hl_1]
 have hfin:rdP (d+3) ver false fsr_Q s0=(.mk 0 [] false [x_0,x_1,x_2,x_3] [],s9):=rdP_f hl_0
 have hTg:TagsM (fun b=>ok b∨w1.heap.size≤b) w19 (.map none) []:=.inl ⟨rfl,rfl⟩
 have hC_19:Upd (fun b=>b=vb∨b=rb) w19 w19:=Upd.refl _ _
 have hC_18:Upd (fun b=>b=vb∨b=rb) w18 w19:=fB.trans hC_19
 have hC_4:Upd (fun b=>b=vb∨b=rb) w4 w19:=fS.trans hC_18
 have hC_3:Upd (fun b=>b=vb∨b=rb) w3 w19:=hV4.trans hC_4
 have hC_2:Upd (fun b=>b=vb∨b=rb) w2 w19:=hV3.trans hC_3
 have hC_1:Upd (fun b=>b=vb∨b=rb) w1 w19:=hV2.trans hC_2
 have hR:RepS true (d+3) fsr_Q (fun b=>ok b∨w1.heap.size≤b) w19 (.mk 0 [] false [x_0,x_1,x_2,x_3] []) [strV (rdStr false s0).1,.slice aa0 N0 qq0,.slice none 0 0,.bool false,.map none]:=RepS.introT (c:=[strV (rdStr false s0).1,.slice aa0 N0 qq0,.slice none 0 0,.bool false]) (RepL.cons1 (hf_0.keepS (hC_3.keeps fun b _ hk e=>(hoM b hk) e)) (RepL.cons1 (hf_1.keepS (hC_19.keeps fun b _ hk e=>(hoM b hk) e)) (RepL.cons1 (hf_2.keepS (hC_19.keeps fun b _ hk e=>(hoM b hk) e)) (RepL.cons1 (hf_3.keepS (hC_19.keeps fun b _ hk e=>(hoM b hk) e)) RepL.nil)))) hTg
 repeat ((first|refine qA ?_|apply qB|refine qC ?_|apply qD|apply qE|apply qF|apply qG|apply qH);try simp (disch:=omega) only [go_sem,↓reduceIte,n0,reduceCtorEq,n1,n2,i3,i4,i5,i6,i7,hv_19,l3,l4,l5,l6,kY,l0,kZ])
 refine (RComplete_fn w19 m5.1 tO.2).mono ?_
 rintro _ wz ⟨rfl,hez⟩
 rw [hez]
 repeat ((first|refine qA ?_|apply qB|refine qC ?_|apply qD|apply qE|apply qF|apply qG|apply qH);try simp (disch:=omega) only [go_sem,↓reduceIte,n0,reduceCtorEq,n1,n2,i3,i4,i5,i6,i7,hv_19,l3,l4,l5,l6,kY,l0,kZ])
 rw [hfin]
 refine ⟨fun h => ?_,fun h=>⟨?_,[strV (rdStr false s0).1,.slice aa0 N0 qq0,.slice none 0 0,.bool false,.map none],hv_19,?_⟩,?_⟩
 ·have h':s9=none:=h
  rw [h'];rfl
 ·cases hsn:s9 with
  | none=>exact absurd hsn h
  | some x=>rfl
 ·exact (RepS_lay true (d+3) fsr_Q).weaken hR fun b _ hk=>hk.imp id fun h=>by omega
 ·exact hbase.trans' lM fun i hi h=>h.elim id fun h=>by omega
end Ms

