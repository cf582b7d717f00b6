/- A part of the proof: see the last text. -/
import Derived.Test.YtmkpongjkjdcaaaGreatDoorC07
import Derived.Test.YtmkpongjkjdcaaaGreatDoorC10
import Derived.Test.YtmkpongjkjdcaaaGreatDoorMetadataRequestP0
import Derived.Test.YtmkpongjkjdcaaaGreatDoorMetadataRequestP1
import Derived.Test.YtmkpongjkjdcaaaGreatDoorMetadataRequestP2
import Derived.Test.YtmkpongjkjdcaaaGreatDoorMetadataRequestP3
set_option linter.unusedSimpArgs false
set_option linter.unusedVariables false
namespace Ms
open Go.World renaming size_alloc → qI
open Ms renaming size_wr → qJ,size_drew → qK,not_noB → qL
open W renaming seqR → qA,seq → qB,regR → qC,condK → qD,block → qE,skip → qF,ret → qG,exit → qH
open Nat renaming reduceEqDiff → n0,reduceAdd → n1,reduceMul → n2,reduceSub → n3,reduceLT → n4,reduceLeDiff → n5
open Int renaming reduceEq → i0,reduceLT → i1,reduceLE → i2,reduceNeg → i3,reduceAdd → i4,reduceSub → i5,reduceMul → i6,reduceToNat → i7
set_option maxRecDepth 8000
open Go Go.Proofs Go.Shelf
attribute [local congr] W_congr WPsq_congr WPp_congr optK_congr addrK_congr intK_congr boolK_congr sliceK_congr tupleK_congr funcK_congr Fn_congr rawK_congr takeK_congr stepK_congr convK_congr aggK_congr

set_option maxHeartbeats 4000000 in
theorem readQ_6 {d:Nat} {ok:Blocks} {ver:Int} {ev:Value} (hlo:11≤ver) (hhi:ver≤13) (w:World) {vb:Nat} (src:Value) (s:List UInt8) (hv:blk w vb=some (#[.int .i16 ver,.slice none 0 0,.bool false,.bool false,.bool false,.map none],68,(0,0))) (hsrc:BytesV ok w src s) (cP:∀ b,ok b→b < w.heap.size∧b≠vb) (hG:Glo ev w) (hgv:¬ 1=vb∧¬ 0=vb) :
  Fn Tryz.prog 33 #[.pointer (some ⟨vb,0,none⟩),src,.bool false] w (ReadQ 68 ok ver (d+2) fs_Q vb w (rdP (d+2) ver true fs_Q (some s)) ev):=by
 have hvl:=blk_lt hv
 have hgs:=hG.lt
 obtain ⟨sa,sc,rfl,_⟩:=hsrc.shape
 refine fn_of_W Tryz.func33 rfl Tryz.results33 Tryz.ntmps33 rfl ?_
 repeat ((first|refine qA rfl ?_|apply qB|refine qC rfl ?_|apply qD|apply qE|apply qF|apply qG|apply qH);try simp (disch:=(first|omega|(simp only [qI,qJ,qK]<;>omega)|exact qL _)) only [go_sem,↓reduceIte,n0,reduceCtorEq,n1,n2,n3,n4,n5,i0,i1,i2,i3,i4,i5,i6,i7,hv])
 refine (DefaultQ_fn w hv).mono ?_
 rintro _ w0 ⟨hv0,hu0⟩
 have hz0:=hu0.size
 have fW:BytesV ok w0 (.slice sa s.length sc) s:=hsrc.keep (hu0.keeps fun b _ hk e=>(cP b hk).2 e)
 obtain ⟨rb,hrb⟩:∃ r,r=w0.heap.size:=⟨_,rfl⟩
 have hE1:Ext w0 (wr (w0.alloc (.cells #[.slice none 0 0,.bool false] 93)) w0.heap.size 0 [.slice sa s.length sc,.bool false]):=(Upd.alloc (Upd.refl _ _) _).wr _ _ (.inl (Nat.le_refl _))
 have hz1:(wr (w0.alloc (.cells #[.slice none 0 0,.bool false] 93)) w0.heap.size 0 [.slice sa s.length sc,.bool false]).heap.size=w0.heap.size+1:=by rw [size_wr,World.size_alloc]
 have hR1:Rdr RT ok (wr (w0.alloc (.cells #[.slice none 0 0,.bool false] 93)) w0.heap.size 0 [.slice sa s.length sc,.bool false]) w0.heap.size (some s):=Rdr.good (v:=.slice sa s.length sc) (by simp (disch:=(first|omega|(simp only [qI,qJ,qK]<;>omega)|exact qL _)) only [go_sem,↓reduceIte,n0,reduceCtorEq,n1,n2,n3,n4,n5,i0,i1,i2,i3,i4,i5,i6,i7]) (fW.keep (hE1.keeps _))
 have hv_1:=hE1.blk_some hv0 id
 repeat ((first|refine qA rfl ?_|apply qB|refine qC rfl ?_|apply qD|apply qE|apply qF|apply qG|apply qH);try simp (disch:=(first|omega|(simp only [qI,qJ,qK]<;>omega)|exact qL _)) only [go_sem,↓reduceIte,n0,reduceCtorEq,n1,n2,n3,n4,n5,i0,i1,i2,i3,i4,i5,i6,i7,hv0])
 generalize (wr (w0.alloc (.cells #[.slice none 0 0,.bool false] 93)) w0.heap.size 0 [.slice sa s.length sc,.bool false])=w1 at *
 rw [← hrb] at hR1
 try rw [← hrb]
 have hok:∀ b,ok b→b < w.heap.size∧b≠vb:=cP
 have hrok:¬ ok rb:=fun h=>by have:=(hok rb h).1;omega
 have hbase:Upd (fun b=>b=vb) w w1:=hu0.trans (hE1.mono fun _ h=>h.elim)
 have hG1:Glo ev w1:=hG.updS hbase hgv.1 hgv.2
 have hgrb:¬ 1=rb:=by omega
 have aH:¬ (1=vb∨1=rb):=fun h=>h.elim hgv.1 fun h=>by omega
 have aI:¬ (0=vb∨0=rb):=fun h=>h.elim hgv.2 fun h=>by omega
 obtain ⟨s0,hs0⟩:∃ s':St,s'=some s:=⟨_,rfl⟩
 rw [← hs0] at hR1 ⊢
 have hU1:Upd (fun b=>b=vb∨b=rb) w1 w1:=Upd.refl _ _
 have hoM:∀ b,(ok b∨w1.heap.size≤b)→¬ (b=vb∨b=rb):=fun b hk h=>by
  rcases hk with hk|hk
  ·have:=hok b hk;rcases h with h|h<;>omega
  ·rcases h with h|h<;>omega
 have hq1:Rdr RT ok w1 rb s0:=hR1
 obtain ⟨FB,hFB⟩:∃ P:Prop,P=((rdP (d+2) ver true fs_Q s0).2=none):=⟨_,rfl⟩
 have hb_0:(rdL (rdP (d+1) ver true) (dfP (d+1)) ver true [fQ_0,fQ_1,fQ_2,fQ_3] s0).2=none→FB:=fun h=>Eq.mpr hFB (rdP_bad h)
 have hh_0:hasS fQ_0 ver=true:=hasS_t (by show (0:Int)≤ver;omega) (by show (-1:Int) < 0∨ver≤(-1:Int);omega)
 obtain ⟨x_0,hx_0⟩:∃ x,x=(rdF (rdP (d+1) ver true) ver true fQ_0 s0).1:=⟨_,rfl⟩
 repeat ((first|refine qA rfl ?_|apply qB|refine qC rfl ?_|apply qD|apply qE|apply qF|apply qG|apply qH);try simp (disch:=(first|omega|(simp only [qI,qJ,qK]<;>omega)|exact qL _)) only [go_sem,↓reduceIte,n0,reduceCtorEq,n1,n2,n3,n4,n5,i0,i1,i2,i3,i4,i5,i6,i7,hv_1])
 refine (RCompactArrayLen_fn w1 hq1 hrok hG1.1 hgrb).mono ?_
 rintro _ w2 ⟨rfl,hq2,hu2⟩
 have hv_2:=hu2.blk_some hv_1 (by omega)
 have hV2:Upd (fun b=>b=vb∨b=rb) w1 w2:=hu2.mono (fun _ h=>.inr h)
 have hU2:Upd (fun b=>b=vb∨b=rb) w1 w2:=hU1.trans hV2
 have hz2:=hV2.size
 have hG2:Glo ev w2:=hG1.updS hU2 aH aI
 obtain ⟨s1,hs1⟩:∃ s,s=(rdALen true s0).2:=⟨_,rfl⟩
 rw [← hs1] at hq2
 have jM:=rdALen_rng true s0
 generalize hy0:(rdALen true s0).1=y0 at *
 obtain ⟨N0,hN0⟩:∃ N,N=y0.toNat:=⟨_,rfl⟩
 have dT:(rdMany (rd1 (rdP (d+1) ver true) fQ_0.of fQ_0.sub false true) N0 s1).2=none→FB:=fun h=>hb_0 (by rw [rdL_st (by decide) hh_0];exact rdL_bad (rdF_listbad rfl (by rw [hy0,← hN0,← hs1];exact h)))
 repeat ((first|refine W.seqR rfl ?_|refine W.seq ?_|refine W.regR rfl ?_|refine W.block ?_|refine W.skip ?_|refine W.ret ?_|refine W.exit ?_);try simp (disch:=(first|omega|(simp only [qI,qJ,qK]<;>omega)|exact qL _)) only [go_sem,↓reduceIte,n0,reduceCtorEq,n1,n2,n3,n4,n5,i0,i1,i2,i3,i4,i5,i6,i7,hv_2])
 refine W.normJ (RowQ [(2,.bool false),(7,.pointer (some ⟨rb,0,none⟩)),(8,.int .i16 ver),(9,.bool true),(10,.pointer (some ⟨vb,0,none⟩)),(13,.int .i32 y0)] 12 (fun va w'=>∃ a0,va = .slice a0 0 0∧Ext w2 w'∧(∀ x,a0=some x→w2.heap.size≤x.block∧x.block < w'.heap.size)∧(N0=0→if nilS fQ_0 ver y0=true then va = .slice none 0 0 else ∃ a,va = .slice (some a) 0 0))) ?_ ?_
 ·by_cases hye:y0=0
  ·repeat ((first|refine qA rfl ?_|apply qB|refine qC rfl ?_|apply qD|apply qE|apply qF|apply qG|apply qH);try simp (disch:=(first|omega|(simp only [qI,qJ,qK]<;>omega)|exact qL _)) only [go_sem,↓reduceIte,n0,reduceCtorEq,n1,n2,n3,n4,n5,i0,i1,i2,i3,i4,i5,i6,i7,hv_2,hye])
   exact ⟨(by simp (disch:=(first|omega|(simp only [qI,qJ,qK]<;>omega)|exact qL _)) only [go_sem,↓reduceIte,n0,reduceCtorEq,n1,n2,n3,n4,n5,i0,i1,i2,i3,i4,i5,i6,i7,Holds_nil,Holds_cons,hye]),.slice (some ⟨w2.heap.size,0,none⟩) 0 0,(by simp (disch:=(first|omega|(simp only [qI,qJ,qK]<;>omega)|exact qL _)) only [go_sem,↓reduceIte,n0,reduceCtorEq,n1,n2,n3,n4,n5,i0,i1,i2,i3,i4,i5,i6,i7]),some ⟨w2.heap.size,0,none⟩,rfl,(Upd.alloc (Upd.refl _ _) _:Ext _ _),(fun x hx=>by cases hx;exact ⟨Nat.le_refl _,by simp only [World.size_alloc];omega⟩),(fun _=>by rw [nilS_may (by decide) (by show (1:Int)≤ver;omega),decide_eq_false (by omega)];exact ⟨_,rfl⟩)⟩
  ·repeat ((first|refine qA rfl ?_|apply qB|refine qC rfl ?_|apply qD|apply qE|apply qF|apply qG|apply qH);try simp (disch:=(first|omega|(simp only [qI,qJ,qK]<;>omega)|exact qL _)) only [go_sem,↓reduceIte,n0,reduceCtorEq,n1,n2,n3,n4,n5,i0,i1,i2,i3,i4,i5,i6,i7,hv_2,hye])
   exact ⟨(by simp (disch:=(first|omega|(simp only [qI,qJ,qK]<;>omega)|exact qL _)) only [go_sem,↓reduceIte,n0,reduceCtorEq,n1,n2,n3,n4,n5,i0,i1,i2,i3,i4,i5,i6,i7,Holds_nil,Holds_cons,hye]),.slice none 0 0,(by simp (disch:=(first|omega|(simp only [qI,qJ,qK]<;>omega)|exact qL _)) only [go_sem,↓reduceIte,n0,reduceCtorEq,n1,n2,n3,n4,n5,i0,i1,i2,i3,i4,i5,i6,i7]),none,rfl,Upd.refl _ _,(fun x hx=>by cases hx),(fun _=>by rw [nilS_may (by decide) (by show (1:Int)≤ver;omega),decide_eq_true (by omega)];exact rfl)⟩
 rintro ρ w3 ⟨⟨aD,aE,aF,aG,aB,aC,-⟩,va,aA,a0,rfl,cQ,fC,fS⟩
 have bJ:Upd (fun b=>b=rb) w2 w3:=cQ.mono fun _ h=>h.elim
 have hq3:=And.intro (hq2.1.upd cQ (fun h=>h) (fun _ _ _ h=>h)) (hq2.2.upd cQ fun h=>h)
 have hv_3:=bJ.blk_some hv_2 (by omega)
 have hV3:Upd (fun b=>b=vb∨b=rb) w2 w3:=bJ.mono (fun _ h=>.inr h)
 have hU3:Upd (fun b=>b=vb∨b=rb) w1 w3:=hU2.trans hV3
 have hz3:=hV3.size
 have hG3:Glo ev w3:=hG1.updS hU3 aH aI
 repeat ((first|refine W.seqR rfl ?_|refine W.seq ?_|refine W.regR rfl ?_|refine W.block ?_|refine W.skip ?_|refine W.ret ?_|refine W.exit ?_);try simp (disch:=(first|omega|(simp only [qI,qJ,qK]<;>omega)|exact qL _)) only [go_sem,↓reduceIte,n0,reduceCtorEq,n1,n2,n3,n4,n5,i0,i1,i2,i3,i4,i5,i6,i7,hv_3,aD,aE,aF,aG,aB,aC,aA])
 refine (ROk_fn w3 hq3.1).mono ?_
 rintro _ wz ⟨rfl,hez⟩
 rw [hez]
 clear hez wz
 by_cases bF:s1=none
 ·have hso:s1.isSome=false:=by rw [bF];rfl
  repeat (first|simp (disch:=(first|omega|(simp only [qI,qJ,qK]<;>omega)|exact qL _)) only [go_sem,↓reduceIte,n0,reduceCtorEq,n1,n2,n3,n4,n5,i0,i1,i2,i3,i4,i5,i6,i7,hv_3,aD,aE,aF,aG,aB,aC,aA,hso]|refine qA rfl ?_|apply qB|refine qC rfl ?_|apply qD|apply qE|apply qF|apply qG|apply qH)
  refine (RComplete_fn w3 hq3.1 hG3.2).mono ?_
  rintro _ wz ⟨rfl,hez⟩
  rw [hez]
  repeat (first|simp (disch:=(first|omega|(simp only [qI,qJ,qK]<;>omega)|exact qL _)) only [go_sem,↓reduceIte,n0,reduceCtorEq,n1,n2,n3,n4,n5,i0,i1,i2,i3,i4,i5,i6,i7,hv_3,aD,aE,aF,aG,aB,aC,aA]|refine qA rfl ?_|apply qB|refine qC rfl ?_|apply qD|apply qE|apply qF|apply qG|apply qH)
  rw [errV_none bF]
  exact ReadQ.bad (Eq.mp hFB (dT (by rw [bF];exact rdMany_none rd1P_none _))) (hbase.trans' hU3 fun i hi h=>h.elim id fun h=>by omega)
 have bH:s1.isSome=true:=isSome_some bF
 try simp (disch:=(first|omega|(simp only [qI,qJ,qK]<;>omega)|exact qL _)) only [go_sem,↓reduceIte,n0,reduceCtorEq,n1,n2,n3,n4,n5,i0,i1,i2,i3,i4,i5,i6,i7,hv_3,aD,aE,aF,aG,aB,aC,aA,bH]
 repeat ((first|refine W.seqR rfl ?_|refine W.seq ?_|refine W.regR rfl ?_|refine W.block ?_|refine W.skip ?_|refine W.ret ?_|refine W.exit ?_);try simp (disch:=(first|omega|(simp only [qI,qJ,qK]<;>omega)|exact qL _)) only [go_sem,↓reduceIte,n0,reduceCtorEq,n1,n2,n3,n4,n5,i0,i1,i2,i3,i4,i5,i6,i7,hv_3,aD,aE,aF,aG,aB,aC,aA,bH])
 refine W.condK ?_
 try simp (disch:=(first|omega|(simp only [qI,qJ,qK]<;>omega)|exact qL _)) only [go_sem,↓reduceIte,n0,reduceCtorEq,n1,n2,n3,n4,n5,i0,i1,i2,i3,i4,i5,i6,i7,hv_3,aD,aE,aF,aG,aB,aC,aA,bH]
 repeat ((first|refine W.seqR rfl ?_|refine W.seq ?_|refine W.regR rfl ?_|refine W.block ?_|refine W.skip ?_|refine W.ret ?_|refine W.exit ?_);try simp (disch:=(first|omega|(simp only [qI,qJ,qK]<;>omega)|exact qL _)) only [go_sem,↓reduceIte,n0,reduceCtorEq,n1,n2,n3,n4,n5,i0,i1,i2,i3,i4,i5,i6,i7,hv_3,aD,aE,aF,aG,aB,aC,aA,bH,slBase_00])
 refine W.normJ (RowQ [(2,.bool false),(7,.pointer (some ⟨rb,0,none⟩)),(8,.int .i16 ver),(9,.bool true),(10,.pointer (some ⟨vb,0,none⟩)),(13,.int .i32 y0)] 12 (fun va w'=>LstI RT (rd1 (rdP (d+1) ver true) fQ_0.of fQ_0.sub false true) (Rep1 (RepS true (d+1)) fQ_0.of fQ_0.sub) 18 101 [.int .u8 0,.int .u8 0,.int .u8 0,.int .u8 0,.int .u8 0,.int .u8 0,.int .u8 0,.int .u8 0,.int .u8 0,.int .u8 0,.int .u8 0,.int .u8 0,.int .u8 0,.int .u8 0,.int .u8 0,.int .u8 0,.pointer none,.map none] w2.heap.size N0 ok (fun b=>ok b∨w1.heap.size≤b) rb w2 s1 va 0 s1 [] [] w'∧(N0=0→if nilS fQ_0 ver y0=true then va = .slice none 0 0 else ∃ a,va = .slice (some a) 0 0))) ?_ ?_
 ·by_cases hy0:(0:Int) < y0
  ·have hyv:Value.int .i32 y0 = .int .i32 ((N0:Nat):Int):=by rw [show y0=((N0:Nat):Int) by omega]
   repeat ((first|refine qA rfl ?_|apply qB|refine qC rfl ?_|apply qD|apply qE|apply qF|apply qG|apply qH);try simp (disch:=(first|omega|(simp only [qI,qJ,qK]<;>omega)|exact qL _)) only [go_sem,↓reduceIte,n0,reduceCtorEq,n1,n2,n3,n4,n5,i0,i1,i2,i3,i4,i5,i6,i7,hv_3,aD,aE,aF,aG,aB,aC,aA])
   refine wp_appendZ (m:=N0) utQ_63 utQ_21 inQ_101 (by decide) (by first|rfl|simp (disch:=(first|omega|(simp only [qI,qJ,qK]<;>omega)|exact qL _)) only [go_sem,↓reduceIte,n0,reduceCtorEq,n1,n2,n3,n4,n5,i0,i1,i2,i3,i4,i5,i6,i7,aD,aE,aF,aG,aB,aC,aA]) (by first|exact hyv|(simp (disch:=(first|omega|(simp only [qI,qJ,qK]<;>omega)|exact qL _)) only [go_sem,↓reduceIte,n0,reduceCtorEq,n1,n2,n3,n4,n5,i0,i1,i2,i3,i4,i5,i6,i7,aD,aE,aF,aG,aB,aC,aA];exact hyv)) (by omega) (by omega) (by decide) ?_
   intro q rest hq1
   have hEw:Ext w3 (w3.drew.alloc (.cells (zs [.int .u8 0,.int .u8 0,.int .u8 0,.int .u8 0,.int .u8 0,.int .u8 0,.int .u8 0,.int .u8 0,.int .u8 0,.int .u8 0,.int .u8 0,.int .u8 0,.int .u8 0,.int .u8 0,.int .u8 0,.int .u8 0,.pointer none,.map none] N0++rest).toArray 101)):=(Upd.refl _ _).drew.alloc _
   repeat (first|simp (disch:=(first|omega|(simp only [qI,qJ,qK]<;>omega)|exact qL _)) only [go_sem,↓reduceIte,n0,reduceCtorEq,n1,n2,n3,n4,n5,i0,i1,i2,i3,i4,i5,i6,i7,hv_3,aD,aE,aF,aG,aB,aC,aA]|refine qA rfl ?_|apply qB|refine qC rfl ?_|apply qD|apply qE|apply qF|apply qG|apply qH)
   exact ⟨(by simp (disch:=(first|omega|(simp only [qI,qJ,qK]<;>omega)|exact qL _)) only [go_sem,↓reduceIte,n0,reduceCtorEq,n1,n2,n3,n4,n5,i0,i1,i2,i3,i4,i5,i6,i7,Holds_nil,Holds_cons,aD,aE,aF,aG,aB,aC,aA]),.slice (some ⟨w3.heap.size,0,none⟩) N0 q,(by simp (disch:=(first|omega|(simp only [qI,qJ,qK]<;>omega)|exact qL _)) only [go_sem,↓reduceIte,n0,reduceCtorEq,n1,n2,n3,n4,n5,i0,i1,i2,i3,i4,i5,i6,i7,aD,aE,aF,aG,aB,aC,aA]),LstI.start (RowJ.start (by omega) hq1 (by show w2.heap.size≤w3.drew.heap.size;rw [size_drew];omega) (blk_alloc_new rfl)) ⟨hq3.1.upd hEw (fun h=>h) (fun _ _ _ h=>h),hq3.2.upd hEw fun h=>h⟩ (bJ.trans (hEw.mono fun _ h=>h.elim)),fun h0=>by omega⟩
  ·repeat ((first|refine qA rfl ?_|apply qB|refine qC rfl ?_|apply qD|apply qE|apply qF|apply qG|apply qH);try simp (disch:=(first|omega|(simp only [qI,qJ,qK]<;>omega)|exact qL _)) only [go_sem,↓reduceIte,n0,reduceCtorEq,n1,n2,n3,n4,n5,i0,i1,i2,i3,i4,i5,i6,i7,hv_3,aD,aE,aF,aG,aB,aC,aA])
   exact ⟨(by simp (disch:=(first|omega|(simp only [qI,qJ,qK]<;>omega)|exact qL _)) only [go_sem,↓reduceIte,n0,reduceCtorEq,n1,n2,n3,n4,n5,i0,i1,i2,i3,i4,i5,i6,i7,Holds_nil,Holds_cons,aD,aE,aF,aG,aB,aC,aA]),.slice a0 0 0,(by simp (disch:=(first|omega|(simp only [qI,qJ,qK]<;>omega)|exact qL _)) only [go_sem,↓reduceIte,n0,reduceCtorEq,n1,n2,n3,n4,n5,i0,i1,i2,i3,i4,i5,i6,i7,aD,aE,aF,aG,aB,aC,aA,slBase_00]),LstI.start (RowJ.zero (by omega) fC) hq3 (bJ),fS⟩
 rintro ρ w4 ⟨⟨dA,dB,dC,dD,d8,d9,-⟩,va0,aA,hL0,dU⟩
 repeat ((first|refine qA rfl ?_|apply qB|refine qC rfl ?_|apply qD|apply qE|apply qF|apply qG|apply qH);try simp (disch:=(first|omega|(simp only [qI,qJ,qK]<;>omega)|exact qL _)) only [go_sem,↓reduceIte,n0,reduceCtorEq,n1,n2,n3,n4,n5,i0,i1,i2,i3,i4,i5,i6,i7,hv_3,dA,dB,dC,dD,d8,d9,aA])
 refine W.exitRJ 0 (EndQ [(2,.bool false),(7,.pointer (some ⟨rb,0,none⟩)),(8,.int .i16 ver),(9,.bool true),(10,.pointer (some ⟨vb,0,none⟩)),(13,.int .i32 y0),(12,va0)] (fun w'=>∃ s xs css,LstI RT (rd1 (rdP (d+1) ver true) fQ_0.of fQ_0.sub false true) (Rep1 (RepS true (d+1)) fQ_0.of fQ_0.sub) 18 101 [.int .u8 0,.int .u8 0,.int .u8 0,.int .u8 0,.int .u8 0,.int .u8 0,.int .u8 0,.int .u8 0,.int .u8 0,.int .u8 0,.int .u8 0,.int .u8 0,.int .u8 0,.int .u8 0,.int .u8 0,.int .u8 0,.pointer none,.map none] w2.heap.size N0 ok (fun b=>ok b∨w1.heap.size≤b) rb w2 s1 va0 N0 s xs css w')) (W.loop (LoopQ [(2,.bool false),(7,.pointer (some ⟨rb,0,none⟩)),(8,.int .i16 ver),(9,.bool true),(10,.pointer (some ⟨vb,0,none⟩)),(13,.int .i32 y0),(12,va0)] 14 (fun j w'=>∃ s xs css,LstI RT (rd1 (rdP (d+1) ver true) fQ_0.of fQ_0.sub false true) (Rep1 (RepS true (d+1)) fQ_0.of fQ_0.sub) 18 101 [.int .u8 0,.int .u8 0,.int .u8 0,.int .u8 0,.int .u8 0,.int .u8 0,.int .u8 0,.int .u8 0,.int .u8 0,.int .u8 0,.int .u8 0,.int .u8 0,.int .u8 0,.int .u8 0,.int .u8 0,.int .u8 0,.pointer none,.map none] w2.heap.size N0 ok (fun b=>ok b∨w1.heap.size≤b) rb w2 s1 va0 j s xs css w')) (fun ρ _=>N0 - (RowKit.intOf (ρ 14)).toNat) ?_ ?_) ?_
 ·exact ⟨(by simp (disch:=(first|omega|(simp only [qI,qJ,qK]<;>omega)|exact qL _)) only [go_sem,↓reduceIte,n0,reduceCtorEq,n1,n2,n3,n4,n5,i0,i1,i2,i3,i4,i5,i6,i7,Holds_nil,Holds_cons,dA,dB,dC,dD,d8,d9,aA]),0,(by simp (disch:=(first|omega|(simp only [qI,qJ,qK]<;>omega)|exact qL _)) only [go_sem,↓reduceIte,n0,reduceCtorEq,n1,n2,n3,n4,n5,i0,i1,i2,i3,i4,i5,i6,i7,dA,dB,dC,dD,d8,d9,aA];all_goals rfl),s1,[],[],hL0⟩
 ·rintro ρ w5 ⟨⟨aL,aM,aN,aO,aJ,aK,dE,-⟩,j1,aP,s2,xs0,css0,hL0⟩
  have hj0:=hL0.le
  have hq5:=hL0.rd
  have hU5:Upd (fun b=>b=vb∨b=rb) w1 w5:=hU2.trans' hL0.upd fun i _ h=>.inr h
  have hz5:=hL0.upd.size
  have hG5:Glo ev w5:=hG1.updS hU5 aH aI
  by_cases cY:j1 < N0
  ·obtain ⟨R1,q1,B1,bK,iY,iX,hA1,b7,dV⟩:=hL0.row.next cY
   have iZ:=blk_lt b7
   generalize css0.flatten=A1 at hA1 b7 dV
   replace aA:ρ 12 = .slice (some ⟨R1,0,none⟩) N0 q1:=dE.trans bK
   have eA:∀ b,ownB va0 b→w2.heap.size≤b∧b < w5.heap.size:=fun b h=>hL0.row.own h
   have bN:∀ b,(fun b=>(ok b∨w1.heap.size≤b)∧¬ ownB va0 b) b→¬ (b=R1∨b=rb):=fun b hk h=>h.elim (fun e=>hk.2 ⟨_,_,_,bK,e⟩) (fun e=>hoM b hk.1 (.inr e))
   obtain ⟨X5,hX5⟩:∃ X:Array Value,X=(A1++(([.int .u8 0,.int .u8 0,.int .u8 0,.int .u8 0,.int .u8 0,.int .u8 0,.int .u8 0,.int .u8 0,.int .u8 0,.int .u8 0,.int .u8 0,.int .u8 0,.int .u8 0,.int .u8 0,.int .u8 0,.int .u8 0,.pointer none,.map none]:List Value)++B1)).toArray:=⟨_,rfl⟩
   have fZ:blk w5 R1=some (X5,101,(0,0)):=by rw [hX5];exact b7
   have jA:j1 * 18+18≤X5.size:=by rw [hX5];simp only [List.size_toArray,List.length_append,List.length_cons,List.length_nil,hA1];omega
   repeat ((first|refine qA rfl ?_|apply qB|refine qC rfl ?_|apply qD|apply qE|apply qF|apply qG|apply qH);try simp (disch:=(first|omega|(simp only [qI,qJ,qK]<;>omega)|exact qL _)) only [go_sem,↓reduceIte,n0,reduceCtorEq,n1,n2,n3,n4,n5,i0,i1,i2,i3,i4,i5,i6,i7,fZ,aL,aM,aN,aO,aJ,aK,aA,aP])
   refine (DefaultEX0_fn w5 b7 hA1).mono ?_
   rintro _ w6 ⟨dF,hu6⟩
   have hq6:=And.intro (hq5.1.upd hu6 (by omega) (fun b _ hk e=>by have:=(hok b hk).1;omega)) (hq5.2.upd hu6 (by omega))
   have hV6:Upd (fun b=>b=R1∨b=rb) w5 w6:=hu6.mono (fun _ h=>.inl h)
   have hU6:Upd (fun b=>b=vb∨b=rb) w1 w6:=hU5.trans' hV6 fun i hi h=>h.elim (fun h=>by omega) .inr
   have hz6:=hV6.size
   have hG6:Glo ev w6:=hG1.updS hU6 aH aI
   obtain ⟨X6,hX6⟩:∃ X:Array Value,X=(A1++(([.int .u8 0,.int .u8 0,.int .u8 0,.int .u8 0,.int .u8 0,.int .u8 0,.int .u8 0,.int .u8 0,.int .u8 0,.int .u8 0,.int .u8 0,.int .u8 0,.int .u8 0,.int .u8 0,.int .u8 0,.int .u8 0,.pointer none,.map none]:List Value)++B1)).toArray:=⟨_,rfl⟩
   have eG:blk w6 R1=some (X6,101,(0,0)):=by rw [hX6];exact dF
   have jB:j1 * 18+18≤X6.size:=by rw [hX6];simp only [List.size_toArray,List.length_append,List.length_cons,List.length_nil,hA1];omega
   have fD:(rdL (rdP d ver true) (dfP d) ver true [fX0_0,fX0_1] s2).2=none→FB:=fun h=>dT (hL0.bad cY rd1P_none (by show (rd1 (rdP (d+1) ver true) 10 fs_X0 false true s2).2=none;rw [rd1_part];exact rdP_bad h))
   have dR:hasS fX0_0 ver=true:=hasS_t (by show (10:Int)≤ver;omega) (by show (-1:Int) < 0∨ver≤(-1:Int);omega)
   obtain ⟨xe0_0,dY⟩:∃ x,x=(rdF (rdP d ver true) ver true fX0_0 s2).1:=⟨_,rfl⟩
   repeat ((first|refine qA rfl ?_|apply qB|refine qC rfl ?_|apply qD|apply qE|apply qF|apply qG|apply qH);try simp (disch:=(first|omega|(simp only [qI,qJ,qK]<;>omega)|exact qL _)) only [go_sem,↓reduceIte,n0,reduceCtorEq,n1,n2,n3,n4,n5,i0,i1,i2,i3,i4,i5,i6,i7,eG,aL,aM,aN,aO,aJ,aK,aA,aP])
   have hrd:rdF (rdP d ver true) ver true fX0_0 s2=_:=rdF_uuid rfl
   refine (RUuid_fn w6 hq6.1 hrok).mono ?_
   rintro _ w7 ⟨rfl,hq7,hu7⟩
   have dK:=hu7.blk_some dF (by omega)
   have hV7:Upd (fun b=>b=R1∨b=rb) w6 w7:=hu7.mono (fun _ h=>.inr h)
   have hU7:Upd (fun b=>b=vb∨b=rb) w1 w7:=hU6.trans' hV7 fun i hi h=>h.elim (fun h=>by omega) .inr
   have hz7:=hV7.size
   have hG7:Glo ev w7:=hG1.updS hU7 aH aI
   obtain ⟨X7,hX7⟩:∃ X:Array Value,X=(A1++(([.int .u8 0,.int .u8 0,.int .u8 0,.int .u8 0,.int .u8 0,.int .u8 0,.int .u8 0,.int .u8 0,.int .u8 0,.int .u8 0,.int .u8 0,.int .u8 0,.int .u8 0,.int .u8 0,.int .u8 0,.int .u8 0,.pointer none,.map none]:List Value)++B1)).toArray:=⟨_,rfl⟩
   have g7:blk w7 R1=some (X7,101,(0,0)):=by rw [hX7];exact dK
   have jC:j1 * 18+18≤X7.size:=by rw [hX7];simp only [List.size_toArray,List.length_append,List.length_cons,List.length_nil,hA1];omega
   have hst:(rdF (rdP d ver true) ver true fX0_0 s2).2=(rdSpan 16 s2).2:=by first|(rw [hrd];rfl)|rw [hrd]
   obtain ⟨s3,hs3⟩:∃ s,s=(rdF (rdP d ver true) ver true fX0_0 s2).2:=⟨_,rfl⟩
   rw [← hst,← hs3] at hq7
   clear hst
   have hl16:((uuidS (rdSpan 16 s2).1).map byteV).length=16:=by rw [List.length_map,uuidS_len]
   have kH:=flat_bytes (uuidS (rdSpan 16 s2).1)
   have hxe:xe0_0 = .oct false (uuidS (rdSpan 16 s2).1):=by rw [dY,hrd]
   have hxc:(uuidS (xe0_0).s).map byteV=(uuidS (rdSpan 16 s2).1).map byteV:=by rw [hxe];show (uuidS (uuidS _)).map byteV=_;rw [uuidS_idem]
   generalize (uuidS (rdSpan 16 s2).1).map byteV=Xu at *
   obtain ⟨ue00_0,ue00_1,ue00_2,ue00_3,ue00_4,ue00_5,ue00_6,ue00_7,ue00_8,ue00_9,ue00_10,ue00_11,ue00_12,ue00_13,ue00_14,ue00_15,rfl⟩:=list16 hl16
   simp only [List.all_cons,List.all_nil,Bool.and_true,Bool.and_eq_true] at kH
   obtain ⟨fue00_0,fue00_1,fue00_2,fue00_3,fue00_4,fue00_5,fue00_6,fue00_7,fue00_8,fue00_9,fue00_10,fue00_11,fue00_12,fue00_13,fue00_14,fue00_15⟩:=kH
   have hcz:cellsAt #[ue00_0,ue00_1,ue00_2,ue00_3,ue00_4,ue00_5,ue00_6,ue00_7,ue00_8,ue00_9,ue00_10,ue00_11,ue00_12,ue00_13,ue00_14,ue00_15] 0 16=some (.agg #[ue00_0,ue00_1,ue00_2,ue00_3,ue00_4,ue00_5,ue00_6,ue00_7,ue00_8,ue00_9,ue00_10,ue00_11,ue00_12,ue00_13,ue00_14,ue00_15]):=cellsAt_full rfl
   have lO:j1 * 18+16≤X7.size:=by omega
   repeat (first|simp (disch:=(first|omega|(simp only [qI,qJ,qK]<;>omega)|exact qL _)) only [go_sem,↓reduceIte,n0,reduceCtorEq,n1,n2,n3,n4,n5,i0,i1,i2,i3,i4,i5,i6,i7,g7,aL,aM,aN,aO,aJ,aK,aA,aP,hcz,fue00_0,fue00_1,fue00_2,fue00_3,fue00_4,fue00_5,fue00_6,fue00_7,fue00_8,fue00_9,fue00_10,fue00_11,fue00_12,fue00_13,fue00_14,fue00_15,lO]|refine qA rfl ?_|apply qB|refine qC rfl ?_|apply qD|apply qE|apply qF|apply qG|apply qH)
   have hEu:Ext w7 (wr (w7.alloc (.cells #[.int .u8 0,.int .u8 0,.int .u8 0,.int .u8 0,.int .u8 0,.int .u8 0,.int .u8 0,.int .u8 0,.int .u8 0,.int .u8 0,.int .u8 0,.int .u8 0,.int .u8 0,.int .u8 0,.int .u8 0,.int .u8 0] 98)) w7.heap.size 0 [ue00_0,ue00_1,ue00_2,ue00_3,ue00_4,ue00_5,ue00_6,ue00_7,ue00_8,ue00_9,ue00_10,ue00_11,ue00_12,ue00_13,ue00_14,ue00_15]):=(Upd.alloc (Upd.refl _ _) _).wr _ _ (.inl (Nat.le_refl _))
   have hq8:=And.intro (hq7.1.upd hEu (fun h=>h) (fun _ _ _ h=>h)) (hq7.2.upd hEu fun h=>h)
   have hu8:Upd (fun b=>b=rb) w7 (wr (w7.alloc (.cells #[.int .u8 0,.int .u8 0,.int .u8 0,.int .u8 0,.int .u8 0,.int .u8 0,.int .u8 0,.int .u8 0,.int .u8 0,.int .u8 0,.int .u8 0,.int .u8 0,.int .u8 0,.int .u8 0,.int .u8 0,.int .u8 0] 98)) w7.heap.size 0 [ue00_0,ue00_1,ue00_2,ue00_3,ue00_4,ue00_5,ue00_6,ue00_7,ue00_8,ue00_9,ue00_10,ue00_11,ue00_12,ue00_13,ue00_14,ue00_15]):=hEu.mono fun _ h=>h.elim
   clear hEu
   generalize (wr (w7.alloc (.cells #[.int .u8 0,.int .u8 0,.int .u8 0,.int .u8 0,.int .u8 0,.int .u8 0,.int .u8 0,.int .u8 0,.int .u8 0,.int .u8 0,.int .u8 0,.int .u8 0,.int .u8 0,.int .u8 0,.int .u8 0,.int .u8 0] 98)) w7.heap.size 0 [ue00_0,ue00_1,ue00_2,ue00_3,ue00_4,ue00_5,ue00_6,ue00_7,ue00_8,ue00_9,ue00_10,ue00_11,ue00_12,ue00_13,ue00_14,ue00_15])=w8 at *
   have dX:=hu8.blk_some dK (by omega)
   have hV8:Upd (fun b=>b=R1∨b=rb) w7 w8:=hu8.mono (fun _ h=>.inr h)
   have hU8:Upd (fun b=>b=vb∨b=rb) w1 w8:=hU7.trans' hV8 fun i hi h=>h.elim (fun h=>by omega) .inr
   have hz8:=hV8.size
   have hG8:Glo ev w8:=hG1.updS hU8 aH aI
   obtain ⟨X8,hX8⟩:∃ X:Array Value,X=(A1++(([.int .u8 0,.int .u8 0,.int .u8 0,.int .u8 0,.int .u8 0,.int .u8 0,.int .u8 0,.int .u8 0,.int .u8 0,.int .u8 0,.int .u8 0,.int .u8 0,.int .u8 0,.int .u8 0,.int .u8 0,.int .u8 0,.pointer none,.map none]:List Value)++B1)).toArray:=⟨_,rfl⟩
   have eO:blk w8 R1=some (X8,101,(0,0)):=by rw [hX8];exact dX
   have jD:j1 * 18+18≤X8.size:=by rw [hX8];simp only [List.size_toArray,List.length_append,List.length_cons,List.length_nil,hA1];omega
   generalize hw9:wr w8 R1 (j1 * 18) [ue00_0,ue00_1,ue00_2,ue00_3,ue00_4,ue00_5,ue00_6,ue00_7,ue00_8,ue00_9,ue00_10,ue00_11,ue00_12,ue00_13,ue00_14,ue00_15] = w9
   have hS9:Upd (fun b=>b=R1∨b=rb) w8 w9:=by rw [← hw9];exact (Upd.refl _ _).wr _ _ (.inr (.inl rfl))
   have iP:blk w9 R1=some ((A1++(([ue00_0,ue00_1,ue00_2,ue00_3,ue00_4,ue00_5,ue00_6,ue00_7,ue00_8,ue00_9,ue00_10,ue00_11,ue00_12,ue00_13,ue00_14,ue00_15,.pointer none,.map none]:List Value)++B1)).toArray,101,(0,0)):=by rw [← hw9];exact el_blk0 dX hA1 (Nat.le_of_ble_eq_true rfl)
   have hV9:=hS9
   have hU9:Upd (fun b=>b=vb∨b=rb) w1 w9:=hU8.trans' hV9 fun i hi h=>h.elim (fun h=>by omega) .inr
   have hz9:=hV9.size
   have hG9:Glo ev w9:=hG1.updS hU9 aH aI
   have hq9:Rdr RT ok w9 rb s3∧NN w9 rb s3:=by
    have hn:∀ x,x=w9→(Rdr RT ok x rb s3∧NN x rb s3):=fun x hx=>by
     rw [hx,← hw9]
     exact Rdr.store hq8 (by omega) (fun h=>by have:=(hok _ h).1;first|omega|exact (hok _ h).2 rfl)
    exact hn _ rfl
   obtain ⟨X9,hX9⟩:∃ X:Array Value,X=(A1++(([ue00_0,ue00_1,ue00_2,ue00_3,ue00_4,ue00_5,ue00_6,ue00_7,ue00_8,ue00_9,ue00_10,ue00_11,ue00_12,ue00_13,ue00_14,ue00_15,.pointer none,.map none]:List Value)++B1)).toArray:=⟨_,rfl⟩
   have kM:blk w9 R1=some (X9,101,(0,0)):=by rw [hX9];exact iP
   have m8:j1 * 18+18≤X9.size:=by rw [hX9];simp only [List.size_toArray,List.length_append,List.length_cons,List.length_nil,hA1];omega
   clear hw9
   have fH:RepF (RepS true d) (szS true d) fX0_0 (fun b=>(ok b∨w1.heap.size≤b)∧¬ ownB va0 b) w9 (xe0_0) [ue00_0,ue00_1,ue00_2,ue00_3,ue00_4,ue00_5,ue00_6,ue00_7,ue00_8,ue00_9,ue00_10,ue00_11,ue00_12,ue00_13,ue00_14,ue00_15]:=(RepF_uuid rfl).2 hxc.symm
   clear hrd
   have jF:(rdL (rdP d ver true) (dfP d) ver true [fX0_1] s3).2=none→FB:=fun h=>fD (by rw [rdL_st (by decide) dR,← hs3];exact h)
   have fN:hasS fX0_1 ver=true:=hasS_t (by show (0:Int)≤ver;omega) (by show (-1:Int) < 0∨ver≤(-1:Int);omega)
   obtain ⟨xe0_1,dZ⟩:∃ x,x=(rdF (rdP d ver true) ver true fX0_1 s3).1:=⟨_,rfl⟩
   repeat ((first|refine qA rfl ?_|apply qB|refine qC rfl ?_|apply qD|apply qE|apply qF|apply qG|apply qH);try simp (disch:=(first|omega|(simp only [qI,qJ,qK]<;>omega)|exact qL _)) only [go_sem,↓reduceIte,n0,reduceCtorEq,n1,n2,n3,n4,n5,i0,i1,i2,i3,i4,i5,i6,i7,kM,aL,aM,aN,aO,aJ,aK,aA,aP])
   have hmay:mayS fX0_1 ver=true:=mayS_yes (by decide) (by show (10:Int)≤ver;omega)
   have hrd:rdF (rdP d ver true) ver true fX0_1 s3=_:=rdF_ptr rfl hmay
   refine (RCompactNullableString_fn w9 hq9.1 hrok hG9.1 hgrb).mono ?_
   rintro r10 w10 ⟨jZ,eN,k7⟩
   obtain ⟨ap10,rfl⟩:=jZ.shape
   have iO:=k7.blk_some iP (by omega)
   have b9:Upd (fun b=>b=R1∨b=rb) w9 w10:=k7.mono (fun _ h=>.inr h)
   have hU10:Upd (fun b=>b=vb∨b=rb) w1 w10:=hU9.trans' b9 fun i hi h=>h.elim (fun h=>by omega) .inr
   have hz10:=b9.size
   have iA:Glo ev w10:=hG1.updS hU10 aH aI
   obtain ⟨X10,iH⟩:∃ X:Array Value,X=(A1++(([ue00_0,ue00_1,ue00_2,ue00_3,ue00_4,ue00_5,ue00_6,ue00_7,ue00_8,ue00_9,ue00_10,ue00_11,ue00_12,ue00_13,ue00_14,ue00_15,.pointer none,.map none]:List Value)++B1)).toArray:=⟨_,rfl⟩
   have jJ:blk w10 R1=some (X10,101,(0,0)):=by rw [iH];exact iO
   have m7:j1 * 18+18≤X10.size:=by rw [iH];simp only [List.size_toArray,List.length_append,List.length_cons,List.length_nil,hA1];omega
   have hst:(rdF (rdP d ver true) ver true fX0_1 s3).2=(rdNStr true s3).2:=by first|(rw [hrd];rfl)|rw [hrd]
   obtain ⟨s4,hs4⟩:∃ s,s=(rdF (rdP d ver true) ver true fX0_1 s3).2:=⟨_,rfl⟩
   rw [← hst,← hs4] at eN
   clear hst
   have lM:j1 * 18+17≤X10.size:=by omega
   repeat ((first|refine qA rfl ?_|apply qB|refine qC rfl ?_|apply qD|apply qE|apply qF|apply qG|apply qH);try simp (disch:=(first|omega|(simp only [qI,qJ,qK]<;>omega)|exact qL _)) only [go_sem,↓reduceIte,n0,reduceCtorEq,n1,n2,n3,n4,n5,i0,i1,i2,i3,i4,i5,i6,i7,jJ,aL,aM,aN,aO,aJ,aK,aA,aP,lM])
   generalize gW:wr w10 R1 (j1 * 18+16) [.pointer ap10] = w11
   have l8:Upd (fun b=>b=R1∨b=rb) w10 w11:=by rw [← gW];exact (Upd.refl _ _).wr _ _ (.inr (.inl rfl))
   have kI:blk w11 R1=some ((A1++(([ue00_0,ue00_1,ue00_2,ue00_3,ue00_4,ue00_5,ue00_6,ue00_7,ue00_8,ue00_9,ue00_10,ue00_11,ue00_12,ue00_13,ue00_14,ue00_15,.pointer ap10,.map none]:List Value)++B1)).toArray,101,(0,0)):=by rw [← gW];exact el_blk (o:=16) iO hA1 (Nat.le_of_ble_eq_true rfl)
   have dI:=l8
   have eQ:Upd (fun b=>b=vb∨b=rb) w1 w11:=hU10.trans' dI fun i hi h=>h.elim (fun h=>by omega) .inr
   have hz11:=dI.size
   have kO:Glo ev w11:=hG1.updS eQ aH aI
   have gH:Rdr RT ok w11 rb s4∧NN w11 rb s4:=by
    have hn:∀ x,x=w11→(Rdr RT ok x rb s4∧NN x rb s4):=fun x hx=>by
     rw [hx,← gW]
     exact Rdr.store eN (by omega) (fun h=>by have:=(hok _ h).1;first|omega|exact (hok _ h).2 rfl)
    exact hn _ rfl
   obtain ⟨X11,jU⟩:∃ X:Array Value,X=(A1++(([ue00_0,ue00_1,ue00_2,ue00_3,ue00_4,ue00_5,ue00_6,ue00_7,ue00_8,ue00_9,ue00_10,ue00_11,ue00_12,ue00_13,ue00_14,ue00_15,.pointer ap10,.map none]:List Value)++B1)).toArray:=⟨_,rfl⟩
   have lP:blk w11 R1=some (X11,101,(0,0)):=by rw [jU];exact kI
   have mU:j1 * 18+18≤X11.size:=by rw [jU];simp only [List.size_toArray,List.length_append,List.length_cons,List.length_nil,hA1];omega
   clear gW
   have fI:RepF (RepS true d) (szS true d) fX0_1 (fun b=>(ok b∨w1.heap.size≤b)∧¬ ownB va0 b) w11 (xe0_1) [.pointer ap10]:=(RepF_ptr rfl (by decide)).2 ⟨_,rfl,by rw [dZ,hrd];exact (jZ.weaken fun b _ hk=>by have hk':w9.heap.size≤b:=hk;exact ⟨.inr (by omega),fun ho=>by have:=(eA _ ho).2;omega⟩).keep (dI.keeps fun b _ hk e=>bN b hk e)⟩
   clear hrd
   have fR:rdL (rdP d ver true) (dfP d) ver true [] s4=([],s4):=rfl
   have fQ:rdL (rdP d ver true) (dfP d) ver true [fX0_1] s3=([xe0_1],s4):=by rw [rdL_st (by decide) fN,← dZ,← hs4,fR]
   have fP:rdL (rdP d ver true) (dfP d) ver true [fX0_0,fX0_1] s2=([xe0_0,xe0_1],s4):=by rw [rdL_st (by decide) dR,← dY,← hs3,fQ]
   have eJ:rdP (d+1) ver true fs_X0 s2=(.mk 0 [] false [xe0_0,xe0_1] (rdTags s4).1,(rdTags s4).2):=rdP_t fP
   repeat ((first|refine qA rfl ?_|apply qB|refine qC rfl ?_|apply qD|apply qE|apply qF|apply qG|apply qH);try simp (disch:=(first|omega|(simp only [qI,qJ,qK]<;>omega)|exact qL _)) only [go_sem,↓reduceIte,n0,reduceCtorEq,n1,n2,n3,n4,n5,i0,i1,i2,i3,i4,i5,i6,i7,lP,aL,aM,aN,aO,aJ,aK,aA,aP])
   refine (ReadTags_fn w11 gH.1 hrok).mono ?_
   rintro _ w12 ⟨qme0,rfl,lG,hTn,gI,k9⟩
   have kJ:=k9.blk_some kI (by omega)
   have dJ:Upd (fun b=>b=R1∨b=rb) w11 w12:=k9.mono (fun _ h=>.inr h)
   have hU12:Upd (fun b=>b=vb∨b=rb) w1 w12:=eQ.trans' dJ fun i hi h=>h.elim (fun h=>by omega) .inr
   have hz12:=dJ.size
   have jQ:Glo ev w12:=hG1.updS hU12 aH aI
   obtain ⟨X12,jV⟩:∃ X:Array Value,X=(A1++(([ue00_0,ue00_1,ue00_2,ue00_3,ue00_4,ue00_5,ue00_6,ue00_7,ue00_8,ue00_9,ue00_10,ue00_11,ue00_12,ue00_13,ue00_14,ue00_15,.pointer ap10,.map none]:List Value)++B1)).toArray:=⟨_,rfl⟩
   have lQ:blk w12 R1=some (X12,101,(0,0)):=by rw [jV];exact kJ
   have mW:j1 * 18+18≤X12.size:=by rw [jV];simp only [List.size_toArray,List.length_append,List.length_cons,List.length_nil,hA1];omega
   obtain ⟨s5,hs5⟩:∃ s,s=(rdTags s4).2:=⟨_,rfl⟩
   rw [← hs5] at gI eJ
   have lN:j1 * 18+18≤X12.size:=by omega
   repeat (first|simp (disch:=(first|omega|(simp only [qI,qJ,qK]<;>omega)|exact qL _)) only [go_sem,↓reduceIte,n0,reduceCtorEq,n1,n2,n3,n4,n5,i0,i1,i2,i3,i4,i5,i6,i7,lQ,aL,aM,aN,aO,aJ,aK,aA,aP,lN]|refine qA rfl ?_|apply qB|refine qC rfl ?_|apply qD|apply qE|apply qF|apply qG|apply qH)
   generalize gX:wr w12 R1 (j1 * 18+17) [.map qme0] = w13
   have l9:Upd (fun b=>b=R1∨b=rb) w12 w13:=by rw [← gX];exact (Upd.refl _ _).wr _ _ (.inr (.inl rfl))
   have kK:blk w13 R1=some ((A1++(([ue00_0,ue00_1,ue00_2,ue00_3,ue00_4,ue00_5,ue00_6,ue00_7,ue00_8,ue00_9,ue00_10,ue00_11,ue00_12,ue00_13,ue00_14,ue00_15,.pointer ap10,.map qme0]:List Value)++B1)).toArray,101,(0,0)):=by rw [← gX];exact el_blk (o:=17) kJ hA1 (Nat.le_of_ble_eq_true rfl)
   have e9:=l9
   have gL:Upd (fun b=>b=vb∨b=rb) w1 w13:=hU12.trans' e9 fun i hi h=>h.elim (fun h=>by omega) .inr
   have hz13:=e9.size
   have l4:Glo ev w13:=hG1.updS gL aH aI
   have gR:Rdr RT ok w13 rb s5∧NN w13 rb s5:=by
    have hn:∀ x,x=w13→(Rdr RT ok x rb s5∧NN x rb s5):=fun x hx=>by
     rw [hx,← gX]
     exact Rdr.store gI (by omega) (fun h=>by have:=(hok _ h).1;first|omega|exact (hok _ h).2 rfl)
    exact hn _ rfl
   obtain ⟨X13,jW⟩:∃ X:Array Value,X=(A1++(([ue00_0,ue00_1,ue00_2,ue00_3,ue00_4,ue00_5,ue00_6,ue00_7,ue00_8,ue00_9,ue00_10,ue00_11,ue00_12,ue00_13,ue00_14,ue00_15,.pointer ap10,.map qme0]:List Value)++B1)).toArray:=⟨_,rfl⟩
   have kL:blk w13 R1=some (X13,101,(0,0)):=by rw [jW];exact kK
   have mX:j1 * 18+18≤X13.size:=by rw [jW];simp only [List.size_toArray,List.length_append,List.length_cons,List.length_nil,hA1];omega
   clear gX
   have fB:TagsM (fun b=>(ok b∨w1.heap.size≤b)∧¬ ownB va0 b) w13 (.map qme0) (rdTags s4).1:=(lG.weaken fun b _ hk=>hk.elim (fun hk=>⟨.inl hk,fun ho=>by have:=(eA b ho).1;have:=(hok b hk).1;omega⟩) (fun h=>by have h':w11.heap.size≤b:=h;exact ⟨.inr (by omega),fun ho=>by have:=(eA _ ho).2;omega⟩)).keep (e9.keeps fun b _ hk e=>bN b hk e)
   have kZ:Upd (fun b=>b=R1∨b=rb) w13 w13:=Upd.refl _ _
   have kY:Upd (fun b=>b=R1∨b=rb) w12 w13:=e9.trans kZ
   have jP:Upd (fun b=>b=R1∨b=rb) w11 w13:=dJ.trans kY
   have jO:Upd (fun b=>b=R1∨b=rb) w10 w13:=dI.trans jP
   have iQ:Upd (fun b=>b=R1∨b=rb) w9 w13:=b9.trans jO
   have eD:Upd (fun b=>b=R1∨b=rb) w8 w13:=hV9.trans iQ
   have eX:Upd (fun b=>b=R1∨b=rb) w7 w13:=hV8.trans eD
   have eC:Upd (fun b=>b=R1∨b=rb) w6 w13:=hV7.trans eX
   have iW:Upd (fun b=>b=R1∨b=rb) w5 w13:=hV6.trans eC
   have eZ:RepS true (d+1) fs_X0 (fun b=>(ok b∨w1.heap.size≤b)∧¬ ownB va0 b) w13 (.mk 0 [] false [xe0_0,xe0_1] (rdTags s4).1) [ue00_0,ue00_1,ue00_2,ue00_3,ue00_4,ue00_5,ue00_6,ue00_7,ue00_8,ue00_9,ue00_10,ue00_11,ue00_12,ue00_13,ue00_14,ue00_15,.pointer ap10,.map qme0]:=RepS.introT (c:=[ue00_0,ue00_1,ue00_2,ue00_3,ue00_4,ue00_5,ue00_6,ue00_7,ue00_8,ue00_9,ue00_10,ue00_11,ue00_12,ue00_13,ue00_14,ue00_15,.pointer ap10]) (RepL.cons16 (fH.keepS (iQ.keeps fun b _ hk e=>bN b hk e)) (RepL.cons1 (fI.keepS (jP.keeps fun b _ hk e=>bN b hk e)) RepL.nil)) fB
   have hrE:(rd1 (rdP (d+1) ver true) fQ_0.of fQ_0.sub false true) s2=((.mk 0 [] false [xe0_0,xe0_1] (rdTags s4).1),s5):=by rw [show (rd1 (rdP (d+1) ver true) fQ_0.of fQ_0.sub false true) s2=_ from rd1_part];exact eJ
   have hxE:(Rep1 (RepS true (d+1)) fQ_0.of fQ_0.sub) (fun b=>(ok b∨w1.heap.size≤b)∧¬ ownB va0 b) w13 (.mk 0 [] false [xe0_0,xe0_1] (rdTags s4).1) [ue00_0,ue00_1,ue00_2,ue00_3,ue00_4,ue00_5,ue00_6,ue00_7,ue00_8,ue00_9,ue00_10,ue00_11,ue00_12,ue00_13,ue00_14,ue00_15,.pointer ap10,.map qme0]:=Rep1_part.2 eZ
   repeat ((first|refine qA rfl ?_|apply qB|refine qC rfl ?_|apply qD|apply qE|apply qF|apply qG|apply qH);try simp (disch:=(first|omega|(simp only [qI,qJ,qK]<;>omega)|exact qL _)) only [go_sem,↓reduceIte,n0,reduceCtorEq,n1,n2,n3,n4,n5,i0,i1,i2,i3,i4,i5,i6,i7,kL,aL,aM,aN,aO,aJ,aK,aA,aP])
   have hTk:Upd (fun b=>b=R1∨b=rb) w5 w13:=(((((((hV6.trans hV7).trans hV8).trans hV9).trans b9).trans dI).trans dJ).trans e9)
   have hL':=hL0.step (Rep1_lay _ _ fun _=>RepS_lay true _ _) cY (dV w13 [ue00_0,ue00_1,ue00_2,ue00_3,ue00_4,ue00_5,ue00_6,ue00_7,ue00_8,ue00_9,ue00_10,ue00_11,ue00_12,ue00_13,ue00_14,ue00_15,.pointer ap10,.map qme0] rfl kK) (by rw [hrE];exact hxE) (hTk.mono fun b h=>h.imp (fun e=>⟨_,_,_,bK,e⟩) id) (by rw [hrE];exact gR) (fun h=>hoM rb h (.inr rfl)) (Nat.le_refl _)
   have hij:IntKind.i32.wrap ((j1:Int)+1)=((j1+1:Nat):Int):=by rw [i32_wrap (by omega)];omega
   repeat ((first|refine qA rfl ?_|apply qB|refine qC rfl ?_|apply qD|apply qE|apply qF|apply qG|apply qH);try simp (disch:=(first|omega|(simp only [qI,qJ,qK]<;>omega)|exact qL _)) only [go_sem,↓reduceIte,n0,reduceCtorEq,n1,n2,n3,n4,n5,i0,i1,i2,i3,i4,i5,i6,i7,kL,aL,aM,aN,aO,aJ,aK,aA,aP,hij])
   refine ⟨⟨(by simp (disch:=(first|omega|(simp only [qI,qJ,qK]<;>omega)|exact qL _)) only [go_sem,↓reduceIte,n0,reduceCtorEq,n1,n2,n3,n4,n5,i0,i1,i2,i3,i4,i5,i6,i7,Holds_nil,Holds_cons,aL,aM,aN,aO,aJ,aK,aA,aP];exact bK.symm),j1+1,(by simp (disch:=(first|omega|(simp only [qI,qJ,qK]<;>omega)|exact qL _)) only [go_sem,↓reduceIte,n0,reduceCtorEq,n1,n2,n3,n4,n5,i0,i1,i2,i3,i4,i5,i6,i7,aL,aM,aN,aO,aJ,aK,aA,aP,hij];all_goals rfl),_,_,_,hL'⟩,?_⟩
   try simp (disch:=(first|omega|(simp only [qI,qJ,qK]<;>omega)|exact qL _)) only [go_sem,↓reduceIte,n0,reduceCtorEq,n1,n2,n3,n4,n5,i0,i1,i2,i3,i4,i5,i6,i7,aL,aM,aN,aO,aJ,aK,aA,aP]
   simp only [RowKit.intOf]
   omega
  ·have hjN:j1=N0:=by omega
   rw [hjN] at hL0
   repeat ((first|refine qA rfl ?_|apply qB|refine qC rfl ?_|apply qD|apply qE|apply qF|apply qG|apply qH);try simp (disch:=(first|omega|(simp only [qI,qJ,qK]<;>omega)|exact qL _)) only [go_sem,↓reduceIte,n0,reduceCtorEq,n1,n2,n3,n4,n5,i0,i1,i2,i3,i4,i5,i6,i7,aL,aM,aN,aO,aJ,aK,dE,aP])
   exact ⟨(by simp (disch:=(first|omega|(simp only [qI,qJ,qK]<;>omega)|exact qL _)) only [go_sem,↓reduceIte,n0,reduceCtorEq,n1,n2,n3,n4,n5,i0,i1,i2,i3,i4,i5,i6,i7,Holds_nil,Holds_cons,aL,aM,aN,aO,aJ,aK,dE,aP]),s2,xs0,css0,hL0⟩
 rintro ρ w14 ⟨⟨aT,aU,aV,aW,aQ,aS,aR,-⟩,s6,xs0,css0,hL0⟩
 have iS:=hL0.rd
 have kB:=hL0.upd
 have hv_14:=kB.blk_some hv_2 (by omega)
 have eK:Upd (fun b=>b=vb∨b=rb) w2 w14:=kB.mono (fun _ h=>.inr h)
 have hU14:Upd (fun b=>b=vb∨b=rb) w1 w14:=hU2.trans eK
 have hz14:=eK.size
 have l5:Glo ev w14:=hG1.updS hU14 aH aI
 have dW:rdF (rdP (d+1) ver true) ver true fQ_0 s0=(.mk 0 [] (nilS fQ_0 ver y0) xs0 [],s6):=by
  have h:=rdF_listE (pt:=(rdP (d+1) ver true)) (v:=ver) (flex:=true) (f:=fQ_0) (s:=s0) (xs:=xs0) (e:=s6) rfl (by rw [hy0,← hN0,← hs1];exact hL0.done)
  rw [hy0] at h;exact h
 have hs6:s6=(rdF (rdP (d+1) ver true) ver true fQ_0 s0).2:=by rw [dW]
 obtain ⟨aa0,qq0,fX⟩:=hL0.row.shape
 subst fX
 repeat ((first|refine qA rfl ?_|apply qB|refine qC rfl ?_|apply qD|apply qE|apply qF|apply qG|apply qH);try simp (disch:=(first|omega|(simp only [qI,qJ,qK]<;>omega)|exact qL _)) only [go_sem,↓reduceIte,n0,reduceCtorEq,n1,n2,n3,n4,n5,i0,i1,i2,i3,i4,i5,i6,i7,hv_14,aT,aU,aV,aW,aQ,aS,aR])
 generalize gZ:wr w14 vb 1 [.slice aa0 N0 qq0] = w15
 have lB:Upd (fun b=>b=vb∨b=rb) w14 w15:=by rw [← gZ];exact (Upd.refl _ _).wr _ _ (.inr (.inl rfl))
 have hv_15:blk w15 vb=some (#[.int .i16 ver,.slice aa0 N0 qq0,.bool false,.bool false,.bool false,.map none],68,(0,0)):=by rw [← gZ,blk_wr_eq,hv_14];rfl
 have eH:=lB
 have gB:Upd (fun b=>b=vb∨b=rb) w1 w15:=hU14.trans eH
 have lR:=eH.size
 have l6:Glo ev w15:=hG1.updS gB aH aI
 have gS:Rdr RT ok w15 rb s6∧NN w15 rb s6:=by
  have hn:∀ x,x=w15→(Rdr RT ok x rb s6∧NN x rb s6):=fun x hx=>by
   rw [hx,← gZ]
   exact Rdr.store iS (by omega) (fun h=>by have:=(hok _ h).1;first|omega|exact (hok _ h).2 rfl)
  exact hn _ rfl
 clear gZ
 have hf_0:RepF (RepS true (d+1)) (szS true (d+1)) fQ_0 (fun b=>ok b∨w1.heap.size≤b) w15 (x_0) [.slice aa0 N0 qq0]:=by rw [hx_0,dW];exact RepF.keepS (RepF_row rfl dU hN0 rfl hL0.row hL0.all (fun b hb=>.inr (by omega))) (eH.keeps fun b _ hk e=>(hoM b hk) e)
 clear hL0 dU
 have hb_1:(rdL (rdP (d+1) ver true) (dfP (d+1)) ver true [fQ_1,fQ_2,fQ_3] s6).2=none→FB:=fun h=>hb_0 (by rw [rdL_st (by decide) hh_0,← hs6];exact h)
 have hh_1:hasS fQ_1 ver=true:=hasS_t (by show (4:Int)≤ver;omega) (by show (-1:Int) < 0∨ver≤(-1:Int);omega)
 obtain ⟨x_1,hx_1⟩:∃ x,x=(rdF (rdP (d+1) ver true) ver true fQ_1 s6).1:=⟨_,rfl⟩
 repeat ((first|refine qA rfl ?_|apply qB|refine qC rfl ?_|apply qD|apply qE|apply qF|apply qG|apply qH);try simp (disch:=(first|omega|(simp only [qI,qJ,qK]<;>omega)|exact qL _)) only [go_sem,↓reduceIte,n0,reduceCtorEq,n1,n2,n3,n4,n5,i0,i1,i2,i3,i4,i5,i6,i7,hv_15,aT,aU,aV,aW,aQ,aS,aR])
 have hrd:rdF (rdP (d+1) ver true) ver true fQ_1 s6=_:=rdF_bool rfl
 refine (Bool_fn w15 gS.1 hrok).mono ?_
 rintro _ w16 ⟨rfl,gT,kD⟩
 have hv_16:=kD.blk_some hv_15 (by omega)
 have eL:Upd (fun b=>b=vb∨b=rb) w15 w16:=kD.mono (fun _ h=>.inr h)
 have gC:Upd (fun b=>b=vb∨b=rb) w1 w16:=gB.trans eL
 have lS:=eL.size
 have kP:Glo ev w16:=hG1.updS gC aH aI
 have hst:(rdF (rdP (d+1) ver true) ver true fQ_1 s6).2=(rdN 1 s6).2:=by first|(rw [hrd];rfl)|rw [hrd]
 obtain ⟨s7,hs7⟩:∃ s,s=(rdF (rdP (d+1) ver true) ver true fQ_1 s6).2:=⟨_,rfl⟩
 rw [← hst,← hs7] at gT
 clear hst
 repeat ((first|refine qA rfl ?_|apply qB|refine qC rfl ?_|apply qD|apply qE|apply qF|apply qG|apply qH);try simp (disch:=(first|omega|(simp only [qI,qJ,qK]<;>omega)|exact qL _)) only [go_sem,↓reduceIte,n0,reduceCtorEq,n1,n2,n3,n4,n5,i0,i1,i2,i3,i4,i5,i6,i7,hv_16,aT,aU,aV,aW,aQ,aS,aR])
 generalize hD:wr w16 vb 2 [.bool (!decide (beN (rdN 1 s6).1=0))] = w17
 have lD:Upd (fun b=>b=vb∨b=rb) w16 w17:=by rw [← hD];exact (Upd.refl _ _).wr _ _ (.inr (.inl rfl))
 have hv_17:blk w17 vb=some (#[.int .i16 ver,.slice aa0 N0 qq0,.bool (!decide (beN (rdN 1 s6).1=0)),.bool false,.bool false,.map none],68,(0,0)):=by rw [← hD,blk_wr_eq,hv_16];rfl
 have gD:=lD
 have iB:Upd (fun b=>b=vb∨b=rb) w1 w17:=gC.trans gD
 have mG:=gD.size
 have lV:Glo ev w17:=hG1.updS iB aH aI
 have jG:Rdr RT ok w17 rb s7∧NN w17 rb s7:=by
  have hn:∀ x,x=w17→(Rdr RT ok x rb s7∧NN x rb s7):=fun x hx=>by
   rw [hx,← hD]
   exact Rdr.store gT (by omega) (fun h=>by have:=(hok _ h).1;first|omega|exact (hok _ h).2 rfl)
  exact hn _ rfl
 clear hD
 have hf_1:RepF (RepS true (d+1)) (szS true (d+1)) fQ_1 (fun b=>ok b∨w1.heap.size≤b) w17 (x_1) [.bool (!decide (beN (rdN 1 s6).1=0))]:=(RepF_num (by decide)).2 (by rw [hx_1,hrd];exact congrArg (fun x=>[x]) (numC_bool _).symm)
 clear hrd
 have hb_2:(rdL (rdP (d+1) ver true) (dfP (d+1)) ver true [fQ_2,fQ_3] s7).2=none→FB:=fun h=>hb_1 (by rw [rdL_st (by decide) hh_1,← hs7];exact h)
 obtain ⟨x_2,hx_2⟩:∃ x,x=dfF (dfP (d+1)) fQ_2:=⟨_,rfl⟩
 have hf_2:RepF (RepS true (d+1)) (szS true (d+1)) fQ_2 (fun b=>ok b∨w1.heap.size≤b) w17 (x_2) [.bool false]:=by rw [hx_2];exact (RepF_num (by decide)).2 rfl
 have hh_2:hasS fQ_2 ver=false:=hasS_f (by show ver < 8∨(0≤(10:Int)∧(10:Int) < ver);omega)
 have hb_3:(rdL (rdP (d+1) ver true) (dfP (d+1)) ver true [fQ_3] s7).2=none→FB:=fun h=>hb_2 (by rw [rdL_no hh_2];exact h)
 have hh_3:hasS fQ_3 ver=true:=hasS_t (by show (8:Int)≤ver;omega) (by show (-1:Int) < 0∨ver≤(-1:Int);omega)
 obtain ⟨x_3,hx_3⟩:∃ x,x=(rdF (rdP (d+1) ver true) ver true fQ_3 s7).1:=⟨_,rfl⟩
 repeat ((first|refine qA rfl ?_|apply qB|refine qC rfl ?_|apply qD|apply qE|apply qF|apply qG|apply qH);try simp (disch:=(first|omega|(simp only [qI,qJ,qK]<;>omega)|exact qL _)) only [go_sem,↓reduceIte,n0,reduceCtorEq,n1,n2,n3,n4,n5,i0,i1,i2,i3,i4,i5,i6,i7,hv_17,aT,aU,aV,aW,aQ,aS,aR])
 have hrd:rdF (rdP (d+1) ver true) ver true fQ_3 s7=_:=rdF_bool rfl
 refine (Bool_fn w17 jG.1 hrok).mono ?_
 rintro _ w18 ⟨rfl,iU,kE⟩
 have hv_18:=kE.blk_some hv_17 (by omega)
 have gE:Upd (fun b=>b=vb∨b=rb) w17 w18:=kE.mono (fun _ h=>.inr h)
 have iC:Upd (fun b=>b=vb∨b=rb) w1 w18:=iB.trans gE
 have mH:=gE.size
 have lW:Glo ev w18:=hG1.updS iC aH aI
 have hst:(rdF (rdP (d+1) ver true) ver true fQ_3 s7).2=(rdN 1 s7).2:=by first|(rw [hrd];rfl)|rw [hrd]
 obtain ⟨s8,hs8⟩:∃ s,s=(rdF (rdP (d+1) ver true) ver true fQ_3 s7).2:=⟨_,rfl⟩
 rw [← hst,← hs8] at iU
 clear hst
 repeat ((first|refine qA rfl ?_|apply qB|refine qC rfl ?_|apply qD|apply qE|apply qF|apply qG|apply qH);try simp (disch:=(first|omega|(simp only [qI,qJ,qK]<;>omega)|exact qL _)) only [go_sem,↓reduceIte,n0,reduceCtorEq,n1,n2,n3,n4,n5,i0,i1,i2,i3,i4,i5,i6,i7,hv_18,aT,aU,aV,aW,aQ,aS,aR])
 generalize hH:wr w18 vb 4 [.bool (!decide (beN (rdN 1 s7).1=0))] = w19
 have lE:Upd (fun b=>b=vb∨b=rb) w18 w19:=by rw [← hH];exact (Upd.refl _ _).wr _ _ (.inr (.inl rfl))
 have hv_19:blk w19 vb=some (#[.int .i16 ver,.slice aa0 N0 qq0,.bool (!decide (beN (rdN 1 s6).1=0)),.bool false,.bool (!decide (beN (rdN 1 s7).1=0)),.map none],68,(0,0)):=by rw [← hH,blk_wr_eq,hv_18];rfl
 have gF:=lE
 have iD:Upd (fun b=>b=vb∨b=rb) w1 w19:=iC.trans gF
 have mI:=gF.size
 have lX:Glo ev w19:=hG1.updS iD aH aI
 have jH:Rdr RT ok w19 rb s8∧NN w19 rb s8:=by
  have hn:∀ x,x=w19→(Rdr RT ok x rb s8∧NN x rb s8):=fun x hx=>by
   rw [hx,← hH]
   exact Rdr.store iU (by omega) (fun h=>by have:=(hok _ h).1;first|omega|exact (hok _ h).2 rfl)
  exact hn _ rfl
 clear hH
 have hf_3:RepF (RepS true (d+1)) (szS true (d+1)) fQ_3 (fun b=>ok b∨w1.heap.size≤b) w19 (x_3) [.bool (!decide (beN (rdN 1 s7).1=0))]:=(RepF_num (by decide)).2 (by rw [hx_3,hrd];exact congrArg (fun x=>[x]) (numC_bool _).symm)
 clear hrd
 have hl_4:rdL (rdP (d+1) ver true) (dfP (d+1)) ver true [] s8=([],s8):=rfl
 have hl_3:rdL (rdP (d+1) ver true) (dfP (d+1)) ver true [fQ_3] s7=([x_3],s8):=by rw [rdL_st (by decide) hh_3,← hx_3,← hs8,hl_4]
 have hl_2:rdL (rdP (d+1) ver true) (dfP (d+1)) ver true [fQ_2,fQ_3] s7=([x_2,x_3],s8):=by rw [rdL_no hh_2,← hx_2,hl_3]
 have hl_1:rdL (rdP (d+1) ver true) (dfP (d+1)) ver true [fQ_1,fQ_2,fQ_3] s6=([x_1,x_2,x_3],s8):=by rw [rdL_st (by decide) hh_1,← hx_1,← hs7,hl_2]
 have hl_0:rdL (rdP (d+1) ver true) (dfP (d+1)) ver true [fQ_0,fQ_1,fQ_2,fQ_3] s0=([x_0,x_1,x_2,x_3],s8):=by rw [rdL_st (by decide) hh_0,← hx_0,← hs6,hl_1]
 have hfin:rdP (d+2) ver true fs_Q s0=(.mk 0 [] false [x_0,x_1,x_2,x_3] (rdTags s8).1,(rdTags s8).2):=rdP_t hl_0
 repeat ((first|refine qA rfl ?_|apply qB|refine qC rfl ?_|apply qD|apply qE|apply qF|apply qG|apply qH);try simp (disch:=(first|omega|(simp only [qI,qJ,qK]<;>omega)|exact qL _)) only [go_sem,↓reduceIte,n0,reduceCtorEq,n1,n2,n3,n4,n5,i0,i1,i2,i3,i4,i5,i6,i7,hv_19,aT,aU,aV,aW,aQ,aS,aR])
 refine (ReadTags_fn w19 jH.1 hrok).mono ?_
 rintro _ w20 ⟨qm,rfl,mQ,hTn,iV,kF⟩
 have hv_20:=kF.blk_some hv_19 (by omega)
 have g8:Upd (fun b=>b=vb∨b=rb) w19 w20:=kF.mono (fun _ h=>.inr h)
 have iF:Upd (fun b=>b=vb∨b=rb) w1 w20:=iD.trans g8
 have mJ:=g8.size
 have l7:Glo ev w20:=hG1.updS iF aH aI
 obtain ⟨s9,hs9⟩:∃ s,s=(rdTags s8).2:=⟨_,rfl⟩
 rw [← hs9] at iV hfin
 repeat (first|simp (disch:=(first|omega|(simp only [qI,qJ,qK]<;>omega)|exact qL _)) only [go_sem,↓reduceIte,n0,reduceCtorEq,n1,n2,n3,n4,n5,i0,i1,i2,i3,i4,i5,i6,i7,hv_20,aT,aU,aV,aW,aQ,aS,aR]|refine qA rfl ?_|apply qB|refine qC rfl ?_|apply qD|apply qE|apply qF|apply qG|apply qH)
 generalize hO:wr w20 vb 5 [.map qm] = w21
 have lF:Upd (fun b=>b=vb∨b=rb) w20 w21:=by rw [← hO];exact (Upd.refl _ _).wr _ _ (.inr (.inl rfl))
 have hv_21:blk w21 vb=some (#[.int .i16 ver,.slice aa0 N0 qq0,.bool (!decide (beN (rdN 1 s6).1=0)),.bool false,.bool (!decide (beN (rdN 1 s7).1=0)),.map qm],68,(0,0)):=by rw [← hO,blk_wr_eq,hv_20];rfl
 have iG:=lF
 have jT:Upd (fun b=>b=vb∨b=rb) w1 w21:=iF.trans iG
 have n9:=iG.size
 have lY:Glo ev w21:=hG1.updS jT aH aI
 have lL:Rdr RT ok w21 rb s9∧NN w21 rb s9:=by
  have hn:∀ x,x=w21→(Rdr RT ok x rb s9∧NN x rb s9):=fun x hx=>by
   rw [hx,← hO]
   exact Rdr.store iV (by omega) (fun h=>by have:=(hok _ h).1;first|omega|exact (hok _ h).2 rfl)
  exact hn _ rfl
 clear hO
 have hTg:TagsM (fun b=>ok b∨w1.heap.size≤b) w21 (.map qm) (rdTags s8).1:=(mQ.weaken fun b _ hk=>hk.elim (fun hk=>.inl hk) (fun h=>by have h':w19.heap.size≤b:=h;exact .inr (by omega))).keep (iG.keeps fun b _ hk e=>(hoM b hk) e)
 have hC_21:Upd (fun b=>b=vb∨b=rb) w21 w21:=Upd.refl _ _
 have hC_20:Upd (fun b=>b=vb∨b=rb) w20 w21:=iG.trans hC_21
 have hC_19:Upd (fun b=>b=vb∨b=rb) w19 w21:=g8.trans hC_20
 have hC_18:Upd (fun b=>b=vb∨b=rb) w18 w21:=gF.trans hC_19
 have hC_17:Upd (fun b=>b=vb∨b=rb) w17 w21:=gE.trans hC_18
 have hC_16:Upd (fun b=>b=vb∨b=rb) w16 w21:=gD.trans hC_17
 have hC_15:Upd (fun b=>b=vb∨b=rb) w15 w21:=eL.trans hC_16
 have hC_14:Upd (fun b=>b=vb∨b=rb) w14 w21:=eH.trans hC_15
 have hC_2:Upd (fun b=>b=vb∨b=rb) w2 w21:=eK.trans hC_14
 have hC_1:Upd (fun b=>b=vb∨b=rb) w1 w21:=hV2.trans hC_2
 have hR:RepS true (d+2) fs_Q (fun b=>ok b∨w1.heap.size≤b) w21 (.mk 0 [] false [x_0,x_1,x_2,x_3] (rdTags s8).1) [.slice aa0 N0 qq0,.bool (!decide (beN (rdN 1 s6).1=0)),.bool false,.bool (!decide (beN (rdN 1 s7).1=0)),.map qm]:=RepS.introT (c:=[.slice aa0 N0 qq0,.bool (!decide (beN (rdN 1 s6).1=0)),.bool false,.bool (!decide (beN (rdN 1 s7).1=0))]) (RepL.cons1 (hf_0.keepS (hC_15.keeps fun b _ hk e=>(hoM b hk) e)) (RepL.cons1 (hf_1.keepS (hC_17.keeps fun b _ hk e=>(hoM b hk) e)) (RepL.cons1 (hf_2.keepS (hC_17.keeps fun b _ hk e=>(hoM b hk) e)) (RepL.cons1 (hf_3.keepS (hC_19.keeps fun b _ hk e=>(hoM b hk) e)) RepL.nil)))) hTg
 repeat ((first|refine qA rfl ?_|apply qB|refine qC rfl ?_|apply qD|apply qE|apply qF|apply qG|apply qH);try simp (disch:=(first|omega|(simp only [qI,qJ,qK]<;>omega)|exact qL _)) only [go_sem,↓reduceIte,n0,reduceCtorEq,n1,n2,n3,n4,n5,i0,i1,i2,i3,i4,i5,i6,i7,hv_21,aT,aU,aV,aW,aQ,aS,aR])
 refine (RComplete_fn w21 lL.1 lY.2).mono ?_
 rintro _ wz ⟨rfl,hez⟩
 rw [hez]
 repeat ((first|refine qA rfl ?_|apply qB|refine qC rfl ?_|apply qD|apply qE|apply qF|apply qG|apply qH);try simp (disch:=(first|omega|(simp only [qI,qJ,qK]<;>omega)|exact qL _)) only [go_sem,↓reduceIte,n0,reduceCtorEq,n1,n2,n3,n4,n5,i0,i1,i2,i3,i4,i5,i6,i7,hv_21,aT,aU,aV,aW,aQ,aS,aR])
 rw [hfin]
 refine ⟨fun h => ?_,fun h=>⟨?_,[.slice aa0 N0 qq0,.bool (!decide (beN (rdN 1 s6).1=0)),.bool false,.bool (!decide (beN (rdN 1 s7).1=0)),.map qm],hv_21,?_⟩,?_⟩
 ·have h':s9=none:=h
  rw [h'];rfl
 ·cases hsn:s9 with
  | none=>exact absurd hsn h
  | some x=>rfl
 ·exact (RepS_lay true (d+2) fs_Q).weaken hR fun b _ hk=>hk.imp id fun h=>by omega
 ·exact hbase.trans' jT fun i hi h=>h.elim id fun h=>by omega

theorem ReadFromQ_fn {d:Nat} {ok:Blocks} {ver:Int} {ev:Value} (hlo:0≤ver) (hhi:ver≤13) (w:World) {vb:Nat} (src:Value) (s:List UInt8) (hv:blk w vb=some (#[.int .i16 ver,.slice none 0 0,.bool false,.bool false,.bool false,.map none],68,(0,0))) (hsrc:BytesV ok w src s) (cP:∀ b,ok b→b < w.heap.size∧b≠vb) (hG:Glo ev w) (hgv:¬ 1=vb∧¬ 0=vb) :
  Fn Tryz.prog 20 #[.pointer (some ⟨vb,0,none⟩),src] w (ReadQ 68 ok ver (d+2) fs_Q vb w (rdP (d+2) ver (flexB 9 ver) fs_Q (some s)) ev):=by
 obtain ⟨sa,sc,rfl,_⟩:=hsrc.shape
 refine fn_of_W Tryz.func20 rfl Tryz.results20 Tryz.ntmps20 rfl ?_
 repeat ((first|refine qA rfl ?_|apply qB|refine qC rfl ?_|apply qD|apply qE|apply qF|apply qG|apply qH);try simp (disch:=(first|omega|(simp only [qI,qJ,qK]<;>omega)|exact qL _)) only [go_sem,↓reduceIte,n0,reduceCtorEq,n1,n2,n3,n4,n5,i0,i1,i2,i3,i4,i5,i6,i7])
 have hcl:(0≤ver∧ver≤0)∨(1≤ver∧ver≤3)∨(4≤ver∧ver≤7)∨(8≤ver∧ver≤8)∨(9≤ver∧ver≤9)∨(10≤ver∧ver≤10)∨(11≤ver∧ver≤13):=by omega
 rcases hcl with ⟨h1,h2⟩|⟨h1,h2⟩|⟨h1,h2⟩|⟨h1,h2⟩|⟨h1,h2⟩|⟨h1,h2⟩|⟨h1,h2⟩
 ·have hfl:flexB 9 ver=false:=by simp only [flexB,Bool.and_eq_false_iff,decide_eq_false_iff_not];omega
  rw [hfl]
  refine (readQ_0 (d:=d) h1 h2 w _ s hv hsrc cP hG hgv).mono ?_
  rintro r5 w5 h5
  repeat ((first|refine qA rfl ?_|apply qB|refine qC rfl ?_|apply qD|apply qE|apply qF|apply qG|apply qH);try simp (disch:=(first|omega|(simp only [qI,qJ,qK]<;>omega)|exact qL _)) only [go_sem,↓reduceIte,n0,reduceCtorEq,n1,n2,n3,n4,n5,i0,i1,i2,i3,i4,i5,i6,i7])
  all_goals exact h5
 ·have hfl:flexB 9 ver=false:=by simp only [flexB,Bool.and_eq_false_iff,decide_eq_false_iff_not];omega
  rw [hfl]
  refine (readQ_1 (d:=d) h1 h2 w _ s hv hsrc cP hG hgv).mono ?_
  rintro r5 w5 h5
  repeat ((first|refine qA rfl ?_|apply qB|refine qC rfl ?_|apply qD|apply qE|apply qF|apply qG|apply qH);try simp (disch:=(first|omega|(simp only [qI,qJ,qK]<;>omega)|exact qL _)) only [go_sem,↓reduceIte,n0,reduceCtorEq,n1,n2,n3,n4,n5,i0,i1,i2,i3,i4,i5,i6,i7])
  all_goals exact h5
 ·have hfl:flexB 9 ver=false:=by simp only [flexB,Bool.and_eq_false_iff,decide_eq_false_iff_not];omega
  rw [hfl]
  refine (readQ_2 (d:=d) h1 h2 w _ s hv hsrc cP hG hgv).mono ?_
  rintro r5 w5 h5
  repeat ((first|refine qA rfl ?_|apply qB|refine qC rfl ?_|apply qD|apply qE|apply qF|apply qG|apply qH);try simp (disch:=(first|omega|(simp only [qI,qJ,qK]<;>omega)|exact qL _)) only [go_sem,↓reduceIte,n0,reduceCtorEq,n1,n2,n3,n4,n5,i0,i1,i2,i3,i4,i5,i6,i7])
  all_goals exact h5
 ·have hfl:flexB 9 ver=false:=by simp only [flexB,Bool.and_eq_false_iff,decide_eq_false_iff_not];omega
  rw [hfl]
  refine (readQ_3 (d:=d) h1 h2 w _ s hv hsrc cP hG hgv).mono ?_
  rintro r5 w5 h5
  repeat ((first|refine qA rfl ?_|apply qB|refine qC rfl ?_|apply qD|apply qE|apply qF|apply qG|apply qH);try simp (disch:=(first|omega|(simp only [qI,qJ,qK]<;>omega)|exact qL _)) only [go_sem,↓reduceIte,n0,reduceCtorEq,n1,n2,n3,n4,n5,i0,i1,i2,i3,i4,i5,i6,i7])
  all_goals exact h5
 ·have hfl:flexB 9 ver=true:=by simp only [flexB,Bool.and_eq_true,decide_eq_true_eq];omega
  rw [hfl]
  refine (readQ_4 (d:=d) h1 h2 w _ s hv hsrc cP hG hgv).mono ?_
  rintro r5 w5 h5
  repeat ((first|refine qA rfl ?_|apply qB|refine qC rfl ?_|apply qD|apply qE|apply qF|apply qG|apply qH);try simp (disch:=(first|omega|(simp only [qI,qJ,qK]<;>omega)|exact qL _)) only [go_sem,↓reduceIte,n0,reduceCtorEq,n1,n2,n3,n4,n5,i0,i1,i2,i3,i4,i5,i6,i7])
  all_goals exact h5
 ·have hfl:flexB 9 ver=true:=by simp only [flexB,Bool.and_eq_true,decide_eq_true_eq];omega
  rw [hfl]
  refine (readQ_5 (d:=d) h1 h2 w _ s hv hsrc cP hG hgv).mono ?_
  rintro r5 w5 h5
  repeat ((first|refine qA rfl ?_|apply qB|refine qC rfl ?_|apply qD|apply qE|apply qF|apply qG|apply qH);try simp (disch:=(first|omega|(simp only [qI,qJ,qK]<;>omega)|exact qL _)) only [go_sem,↓reduceIte,n0,reduceCtorEq,n1,n2,n3,n4,n5,i0,i1,i2,i3,i4,i5,i6,i7])
  all_goals exact h5
 ·have hfl:flexB 9 ver=true:=by simp only [flexB,Bool.and_eq_true,decide_eq_true_eq];omega
  rw [hfl]
  refine (readQ_6 (d:=d) h1 h2 w _ s hv hsrc cP hG hgv).mono ?_
  rintro r5 w5 h5
  repeat ((first|refine qA rfl ?_|apply qB|refine qC rfl ?_|apply qD|apply qE|apply qF|apply qG|apply qH);try simp (disch:=(first|omega|(simp only [qI,qJ,qK]<;>omega)|exact qL _)) only [go_sem,↓reduceIte,n0,reduceCtorEq,n1,n2,n3,n4,n5,i0,i1,i2,i3,i4,i5,i6,i7])
  all_goals exact h5


set_option maxHeartbeats 4000000 in
theorem appQ_0 {d B:Nat} {okM:Blocks} {ver:Int} (hlo:0≤ver) (hhi:ver≤0) (t:Tree) (cells:List Value) (v:Value) (s:List UInt8) (w:World) {vb:Nat} (ho:OwnBy 5 B w v s) (hB:B≤w.heap.size) (hvb:blk w vb=some ((.int .i16 ver :: cells).toArray,68,(0,0)))
  (hR:RepS true (d+2) fs_Q okM w t cells) (hfit:FitW ver (d+2) fs_Q t) (hd:∀ b,b < w.heap.size→okM b→¬ ownB v b) (hdv:¬ ownB v vb) (hlen:s.length+(partS (d+2) fs_Q ver false t).length≤2 ^ 41) :
  Fn Tryz.prog 90 #[.pointer (some ⟨vb,0,none⟩),v] w fun r w'=>AppR 5 B w v s (partS (d+2) fs_Q ver false t) r w':=by
 obtain ⟨⟨g_0,g_1,g_2,g_3,-⟩,hfu⟩:=hfit
 replace g_0:hasS fQ_0 ver=true→FitWF (FitW ver (d+1)) ver fQ_0 (t.at 0):=g_0
 have hh_0:hasS fQ_0 ver=true:=hasS_t (by show (0:Int)≤ver;omega) (by show (-1:Int) < 0∨ver≤(-1:Int);omega)
 replace g_0:=g_0 hh_0
 replace g_1:hasS fQ_1 ver=true→FitWF (FitW ver (d+1)) ver fQ_1 (t.at 1):=g_1
 have hh_1:hasS fQ_1 ver=false:=hasS_f (by show ver < 4∨(0≤(-1:Int)∧(-1:Int) < ver);omega)
 clear g_1
 replace g_2:hasS fQ_2 ver=true→FitWF (FitW ver (d+1)) ver fQ_2 (t.at 2):=g_2
 have hh_2:hasS fQ_2 ver=false:=hasS_f (by show ver < 8∨(0≤(10:Int)∧(10:Int) < ver);omega)
 clear g_2
 replace g_3:hasS fQ_3 ver=true→FitWF (FitW ver (d+1)) ver fQ_3 (t.at 3):=g_3
 have hh_3:hasS fQ_3 ver=false:=hasS_f (by show ver < 8∨(0≤(-1:Int)∧(-1:Int) < ver);omega)
 clear g_3
 obtain ⟨cs,q,hcs,hL,hT⟩:=hR.inv
 obtain ⟨c_0,e_0,rfl,h_0,c_1,e_1,rfl,h_1,c_2,e_2,rfl,h_2,c_3,e_3,rfl,h_3,rfl⟩:=hL
 replace h_0:RepF (RepS true (d+1)) (szS true (d+1)) fQ_0 okM w (t.at 0) c_0:=h_0
 replace h_1:RepF (RepS true (d+1)) (szS true (d+1)) fQ_1 okM w (t.at 1) c_1:=h_1
 replace h_2:RepF (RepS true (d+1)) (szS true (d+1)) fQ_2 okM w (t.at 2) c_2:=h_2
 replace h_3:RepF (RepS true (d+1)) (szS true (d+1)) fQ_3 okM w (t.at 3) c_3:=h_3
 obtain ⟨p_0,L_0,rfl,hLL_0,hs_0,hnn_0⟩:=RepF_listN g_0 rfl (by decide) h_0
 obtain ⟨ab_0,ac_0,rfl,_⟩:=SlR.shape hs_0
 have hni_0:=hnn_0 _ _ _ rfl
 have hgl_0:=g_0.listL rfl hLL_0
 have hll_0:=hgl_0.1
 obtain rfl:=(RepF_num (by decide)).1 h_1
 obtain rfl:=(RepF_num (by decide)).1 h_2
 obtain rfl:=(RepF_num (by decide)).1 h_3
 obtain ⟨qm,rfl⟩:=hT.shape
 have hv:blk w vb=some (#[.int .i16 ver,.slice ab_0 L_0.length ac_0,.bool (decide ((t.at 1).n % 2=1)),.bool (decide ((t.at 2).n % 2=1)),.bool (decide ((t.at 3).n % 2=1)),.map qm],68,(0,0)):=by rw [hvb,hcs];rfl
 clear hvb hcs
 obtain ⟨XL_0,hXL_0⟩:∃ X,X=countedS false (nullS fQ_0 ver (t.at 0)) L_0.length 4:=⟨_,rfl⟩
 obtain ⟨XE_0,hXE_0⟩:∃ X,X=L_0.flatMap (fun x=>partS (d+1) fs_X0 ver false x):=⟨_,rfl⟩
 have hP:partS (d+2) fs_Q ver false t=(XL_0++XE_0)++[]:=partS_no (plainL_has (by decide) hh_0 ((fieldS_listN (g:=(fun x=>partS (d+1) fs_X0 ver false x)) g_0 rfl hLL_0 (fun x _=>valueS_part)).trans (by rw [hXL_0,hXE_0])) (plainL_not hh_1 (plainL_not hh_2 (plainL_not hh_3 rfl))))
 rw [hP] at hlen
 simp only [List.length_append,List.length_nil] at hlen
 have hdK:∀ {r:Value} {w':World} {add:List UInt8},AppR 5 B w v s add r w'→∀ b,b < w'.heap.size→OkS okM w.heap.size b→¬ ownB r b:=fun h b _ hk ho=>(h.frame b ho).elim (hd b hk.2 hk.1) (fun h=>by have:=hk.2;omega)
 have ownK:∀ {r:Value} {w':World} {add:List UInt8} {b:Nat},AppR 5 B w v s add r w'→b < w.heap.size→¬ ownB v b→¬ ownB r b:=fun h hb hn ho=>(h.frame _ ho).elim hn (fun h=>by omega)
 have ha0:AppR 5 B w v s [] v w:=AppR.refl ho
 obtain ⟨w0,hw0⟩:∃ w0,w0=w:=⟨_,rfl⟩
 have hB0:=hB
 have hv_0:=hv
 refine fn_of_W Tryz.func90 rfl Tryz.results90 Tryz.ntmps90 rfl ?_
 repeat ((first|refine qA rfl ?_|apply qB|refine qC rfl ?_|apply qD|apply qE|apply qF|apply qG|apply qH);try simp (disch:=(first|omega|(simp only [qI,qJ,qK]<;>omega)|exact qL _)) only [go_sem,↓reduceIte,n0,reduceCtorEq,n1,n2,n3,n4,n5,i0,i1,i2,i3,i4,i5,i6,i7,hv_0,hni_0])
 rw [nullS_early (by show ver < (1:Int);omega),counted_some,if_neg (by decide)] at hXL_0
 refine (AppendArrayLen_fn _ _ _ ha0.own hB0 L_0.length hll_0 (by simp only [List.length_append,List.length_nil];omega)).mono ?_
 rintro r1 w1 hc1
 rw [← hXL_0] at hc1
 have ha1:=ha0.trans hc1
 have hB1:B≤w1.heap.size:=Nat.le_trans hB ha1.upd.size
 have hv_1:=ha1.upd.blk_some hv hdv
 repeat ((first|refine qA rfl ?_|apply qB|refine qC rfl ?_|apply qD|apply qE|apply qF|apply qG|apply qH);try simp (disch:=(first|omega|(simp only [qI,qJ,qK]<;>omega)|exact qL _)) only [go_sem,↓reduceIte,n0,reduceCtorEq,n1,n2,n3,n4,n5,i0,i1,i2,i3,i4,i5,i6,i7,hv_1,hni_0])
 have jE:=ha1
 refine W.exitJ 0 (fun ρ w'=>∃ r,ρ 1=r∧ρ 0 = .pointer (some ⟨vb,0,none⟩)∧ρ 5 = .int .i16 ver∧ρ 6 = .bool false∧AppR 5 B w v s (([]++XL_0)++XE_0) r w')
  (W.loop (fun ρ w'=>∃ (j:Nat) (r:Value),j≤L_0.length∧ρ 55 = .int .i64 j∧ρ 54 = .int .i64 L_0.length∧ρ 7 = .slice ab_0 L_0.length ac_0∧ρ 1=r∧ρ 0 = .pointer (some ⟨vb,0,none⟩)∧ρ 5 = .int .i16 ver∧ρ 6 = .bool false∧AppR 5 B w v s (([]++XL_0)++(L_0.take j).flatMap (fun x=>partS (d+1) fs_X0 ver false x)) r w')
   (fun ρ _=>L_0.length - (RowKit.intOf (ρ 55)).toNat) ?_ ?_) ?_
 ·refine ⟨0,_,Nat.zero_le _,?_,?_,?_,?_,?_,?_,?_,ha1.eqs (by rw [List.take_zero,List.flatMap_nil,List.append_nil])⟩<;>simp (disch:=(first|omega|(simp only [qI,qJ,qK]<;>omega)|exact qL _)) only [go_sem,↓reduceIte,n0,reduceCtorEq,n1,n2,n3,n4,n5,i0,i1,i2,i3,i4,i5,i6,i7]
  all_goals rfl
 ·rintro ρ w2 ⟨j1,r2,hj1,hI1,hN1,hS1,aY,aX,aZ,b6,ha2⟩
  have hB2:B≤w2.heap.size:=Nat.le_trans hB ha2.upd.size
  have hv_2:=ha2.upd.blk_some hv hdv
  by_cases cZ:j1 < L_0.length
  ·obtain ⟨_,b1,o1,x1,ce1,hb1,hok1,hx1,fE,jL,jK,hq1,cR⟩:=SlR.get (size:=18) (by decide) hs_0 cZ
   subst hb1
   have dP:L_0.take (j1+1)=L_0.take j1++[L_0[j1]]:=List.take_succ_eq_append_getElem cZ
   have bI:=take_flatMap_len L_0 (fun x=>partS (d+1) fs_X0 ver false x) (j1+1)
   rw [← hXE_0,dP,List.flatMap_append,List.flatMap_cons,List.flatMap_nil,List.append_nil] at bI
   have fM:=hgl_0.2 _ (List.getElem_mem cZ)
   generalize L_0[j1] = y1 at *
   have bM:=hd b1 fE hok1
   obtain ⟨T1,dN⟩:∃ T,T=(L_0.take j1).flatMap (fun x=>partS (d+1) fs_X0 ver false x):=⟨_,rfl⟩
   rw [← dN] at ha2 bI
   have eF:=ha2.upd.blk_some hx1 bM
   replace cR:RepS true (d+1) fs_X0 okM w y1 ce1:=Rep1_part.1 cR
   have fJ:FitW ver (d+1) fs_X0 y1:=fM.2 rfl
   obtain ⟨⟨ge1_0,ge1_1,-⟩,dL⟩:=fJ
   replace ge1_0:hasS fX0_0 ver=true→FitWF (FitW ver d) ver fX0_0 (y1.at 0):=ge1_0
   have eM:hasS fX0_0 ver=false:=hasS_f (by show ver < 10∨(0≤(-1:Int)∧(-1:Int) < ver);omega)
   clear ge1_0
   replace ge1_1:hasS fX0_1 ver=true→FitWF (FitW ver d) ver fX0_1 (y1.at 1):=ge1_1
   have dS:hasS fX0_1 ver=true:=hasS_t (by show (0:Int)≤ver;omega) (by show (-1:Int) < 0∨ver≤(-1:Int);omega)
   replace ge1_1:=ge1_1 dS
   obtain ⟨cse1,qe1,fG,eY,e7⟩:=cR.inv
   obtain ⟨ce1_0,ee1_0,rfl,cW,ce1_1,ee1_1,rfl,cX,rfl⟩:=eY
   replace cW:RepF (RepS true d) (szS true d) fX0_0 okM w (y1.at 0) ce1_0:=cW
   replace cX:RepF (RepS true d) (szS true d) fX0_1 okM w (y1.at 1) ce1_1:=cX
   obtain rfl:=(RepF_uuid rfl).1 cW
   have fY:((uuidS (y1.at 0).s).map byteV).length=16:=by rw [List.length_map,uuidS_len]
   have dQ:=flat_bytes (uuidS (y1.at 0).s)
   generalize iK:(uuidS (y1.at 0).s).map byteV=Ze1_0 at *
   obtain ⟨ze1_0_0,ze1_0_1,ze1_0_2,ze1_0_3,ze1_0_4,ze1_0_5,ze1_0_6,ze1_0_7,ze1_0_8,ze1_0_9,ze1_0_10,ze1_0_11,ze1_0_12,ze1_0_13,ze1_0_14,ze1_0_15,rfl⟩:=list16 fY
   simp only [List.all_cons,List.all_nil,Bool.and_true,Bool.and_eq_true] at dQ
   obtain ⟨fze1_0_0,fze1_0_1,fze1_0_2,fze1_0_3,fze1_0_4,fze1_0_5,fze1_0_6,fze1_0_7,fze1_0_8,fze1_0_9,fze1_0_10,fze1_0_11,fze1_0_12,fze1_0_13,fze1_0_14,fze1_0_15⟩:=dQ
   obtain ⟨pe1_1,rfl,fT⟩:=(RepF_ptr rfl (by decide)).1 cX
   obtain ⟨qme1,rfl⟩:=e7.shape
   subst fG
   have bO:x1.1[o1+j1 * 18]? = some (ze1_0_0):=hq1 0 (by decide)
   have bP:x1.1[o1+(j1 * 18+1)]? = some (ze1_0_1):=hq1 1 (by decide)
   have bZ:x1.1[o1+(j1 * 18+2)]? = some (ze1_0_2):=hq1 2 (by decide)
   have cC:x1.1[o1+(j1 * 18+3)]? = some (ze1_0_3):=hq1 3 (by decide)
   have cD:x1.1[o1+(j1 * 18+4)]? = some (ze1_0_4):=hq1 4 (by decide)
   have cE:x1.1[o1+(j1 * 18+5)]? = some (ze1_0_5):=hq1 5 (by decide)
   have cH:x1.1[o1+(j1 * 18+6)]? = some (ze1_0_6):=hq1 6 (by decide)
   have cI:x1.1[o1+(j1 * 18+7)]? = some (ze1_0_7):=hq1 7 (by decide)
   have cJ:x1.1[o1+(j1 * 18+8)]? = some (ze1_0_8):=hq1 8 (by decide)
   have cM:x1.1[o1+(j1 * 18+9)]? = some (ze1_0_9):=hq1 9 (by decide)
   have bQ:x1.1[o1+(j1 * 18+10)]? = some (ze1_0_10):=hq1 10 (by decide)
   have bR:x1.1[o1+(j1 * 18+11)]? = some (ze1_0_11):=hq1 11 (by decide)
   have bU:x1.1[o1+(j1 * 18+12)]? = some (ze1_0_12):=hq1 12 (by decide)
   have bV:x1.1[o1+(j1 * 18+13)]? = some (ze1_0_13):=hq1 13 (by decide)
   have bW:x1.1[o1+(j1 * 18+14)]? = some (ze1_0_14):=hq1 14 (by decide)
   have bX:x1.1[o1+(j1 * 18+15)]? = some (ze1_0_15):=hq1 15 (by decide)
   have bY:x1.1[o1+(j1 * 18+16)]? = some (pe1_1):=hq1 16 (by decide)
   have bA:x1.1[o1+(j1 * 18+17)]? = some (.map qme1):=hq1 17 (by decide)
   have cO:cellsAt x1.1 (o1+j1 * 18) 16=some (.agg #[ze1_0_0,ze1_0_1,ze1_0_2,ze1_0_3,ze1_0_4,ze1_0_5,ze1_0_6,ze1_0_7,ze1_0_8,ze1_0_9,ze1_0_10,ze1_0_11,ze1_0_12,ze1_0_13,ze1_0_14,ze1_0_15]):=by
    refine cellsAt_of (l:=[ze1_0_0,ze1_0_1,ze1_0_2,ze1_0_3,ze1_0_4,ze1_0_5,ze1_0_6,ze1_0_7,ze1_0_8,ze1_0_9,ze1_0_10,ze1_0_11,ze1_0_12,ze1_0_13,ze1_0_14,ze1_0_15]) (fun j hj => ?_) rfl (by omega)
    rw [show o1+j1 * 18+j=o1+(j1 * 18+(0+j)) by omega]
    exact (hq1 (0+j) (by omega)).trans (get_mid (pre:=[]) (xs:=[ze1_0_0,ze1_0_1,ze1_0_2,ze1_0_3,ze1_0_4,ze1_0_5,ze1_0_6,ze1_0_7,ze1_0_8,ze1_0_9,ze1_0_10,ze1_0_11,ze1_0_12,ze1_0_13,ze1_0_14,ze1_0_15]) (post:=[pe1_1,.map qme1]) hj)
   obtain ⟨Xe1_1,dO⟩:∃ X,X=fixedS (y1.at 1).s.length 2++(y1.at 1).s:=⟨_,rfl⟩
   have eT:(y1.at 1).null=false:=(ge1_1.isnull (by decide)).trans (nullS_early (by show ver < (10:Int);omega))
   have dM:partS (d+1) fs_X0 ver false y1=Xe1_1++[]:=partS_no (plainL_not eM (plainL_has (by decide) dS ((fieldS_ptr_f ge1_1 rfl (by decide)).trans (by rw [eT,if_neg (by decide)];exact dO.symm)) rfl))
   rw [dM] at bI
   simp only [List.length_append,List.length_nil] at bI
   repeat ((first|refine qA rfl ?_|apply qB|refine qC rfl ?_|apply qD|apply qE|apply qF|apply qG|apply qH);try simp (disch:=(first|omega|(simp only [qI,qJ,qK]<;>omega)|exact qL _)) only [go_sem,↓reduceIte,n0,reduceCtorEq,n1,n2,n3,n4,n5,i0,i1,i2,i3,i4,i5,i6,i7,hv_2,eF,hni_0,bO,bP,bZ,cC,cD,cE,cH,cI,cJ,cM,bQ,bR,bU,bV,bW,bX,bY,bA,fze1_0_0,fze1_0_1,fze1_0_2,fze1_0_3,fze1_0_4,fze1_0_5,fze1_0_6,fze1_0_7,fze1_0_8,fze1_0_9,fze1_0_10,fze1_0_11,fze1_0_12,fze1_0_13,fze1_0_14,fze1_0_15,cO,aY,aX,aZ,b6,hI1,hN1,hS1])
   obtain ⟨bte1_1,ote1_1,xte1_1,gQ,gN,eS,gO⟩:∃ b o x,pe1_1 = .pointer (some ⟨b,o,none⟩)∧okM b∧blk w b=some x∧x.1[o]? = some (strV (y1.at 1).s):=by
    have h:=fT
    unfold PtrText at h
    rw [if_neg (by rw [eT];decide)] at h
    exact h
   have gP:=ha2.upd.blk_some eS (hd _ (blk_lt eS) gN)
   repeat (first|simp (disch:=(first|omega|(simp only [qI,qJ,qK]<;>omega)|exact qL _)) only [go_sem,↓reduceIte,n0,reduceCtorEq,n1,n2,n3,n4,n5,i0,i1,i2,i3,i4,i5,i6,i7,hv_2,eF,hni_0,bO,bP,bZ,cC,cD,cE,cH,cI,cJ,cM,bQ,bR,bU,bV,bW,bX,bY,bA,fze1_0_0,fze1_0_1,fze1_0_2,fze1_0_3,fze1_0_4,fze1_0_5,fze1_0_6,fze1_0_7,fze1_0_8,fze1_0_9,fze1_0_10,fze1_0_11,fze1_0_12,fze1_0_13,fze1_0_14,fze1_0_15,cO,aY,aX,aZ,b6,hI1,hN1,hS1,gQ,gP,gO]|refine qA rfl ?_|apply qB|refine qC rfl ?_|apply qD|apply qE|apply qF|apply qG|apply qH)
   refine (AppendString_fn _ _ _ ha2.own hB2 (y1.at 1).s (ge1_1.text (.inl rfl)) (by simp only [List.length_append,List.length_nil];omega)).mono ?_
   rintro r3 w3 hc3
   rw [← dO] at hc3
   have ha3:=ha2.trans hc3
   have hB3:B≤w3.heap.size:=Nat.le_trans hB ha3.upd.size
   have hv_3:=ha3.upd.blk_some hv hdv
   have hZ:=ha3.upd.blk_some hx1 bM
   repeat ((first|refine qA rfl ?_|apply qB|refine qC rfl ?_|apply qD|apply qE|apply qF|apply qG|apply qH);try simp (disch:=(first|omega|(simp only [qI,qJ,qK]<;>omega)|exact qL _)) only [go_sem,↓reduceIte,n0,reduceCtorEq,n1,n2,n3,n4,n5,i0,i1,i2,i3,i4,i5,i6,i7,aY,aX,aZ,b6,hI1,hN1,hS1])
   refine ⟨⟨j1+1,_,by omega,rfl,rfl,ha3.eqs ?_⟩,?_⟩
   ·rw [dP,List.flatMap_append,List.flatMap_cons,List.flatMap_nil,List.append_nil,← dN,dM];simp only [List.append_assoc,List.append_nil,List.nil_append]
   ·simp only [RowKit.intOf];omega
  ·have fO:j1=L_0.length:=by omega
   subst fO
   rw [List.take_length,← hXE_0] at ha2
   repeat ((first|refine qA rfl ?_|apply qB|refine qC rfl ?_|apply qD|apply qE|apply qF|apply qG|apply qH);try simp (disch:=(first|omega|(simp only [qI,qJ,qK]<;>omega)|exact qL _)) only [go_sem,↓reduceIte,n0,reduceCtorEq,n1,n2,n3,n4,n5,i0,i1,i2,i3,i4,i5,i6,i7,hI1,hN1])
   exact ⟨_,aY,aX,aZ,b6,ha2⟩
 ·rintro ρ w4 ⟨r4,bB,bC,bD,bE,ha4⟩
  have hB4:B≤w4.heap.size:=Nat.le_trans hB ha4.upd.size
  have hv_4:=ha4.upd.blk_some hv hdv
  repeat ((first|refine qA rfl ?_|apply qB|refine qC rfl ?_|apply qD|apply qE|apply qF|apply qG|apply qH);try simp (disch:=(first|omega|(simp only [qI,qJ,qK]<;>omega)|exact qL _)) only [go_sem,↓reduceIte,n0,reduceCtorEq,n1,n2,n3,n4,n5,i0,i1,i2,i3,i4,i5,i6,i7,hv_4,hni_0,bB,bC,bD,bE])
  refine ha4.eqs ?_
  rw [hP];simp only [List.append_assoc,List.append_nil,List.nil_append]

set_option maxHeartbeats 4000000 in
theorem appQ_1 {d B:Nat} {okM:Blocks} {ver:Int} (hlo:1≤ver) (hhi:ver≤3) (t:Tree) (cells:List Value) (v:Value) (s:List UInt8) (w:World) {vb:Nat} (ho:OwnBy 5 B w v s) (hB:B≤w.heap.size) (hvb:blk w vb=some ((.int .i16 ver :: cells).toArray,68,(0,0)))
  (hR:RepS true (d+2) fs_Q okM w t cells) (hfit:FitW ver (d+2) fs_Q t) (hd:∀ b,b < w.heap.size→okM b→¬ ownB v b) (hdv:¬ ownB v vb) (hlen:s.length+(partS (d+2) fs_Q ver false t).length≤2 ^ 41) :
  Fn Tryz.prog 90 #[.pointer (some ⟨vb,0,none⟩),v] w fun r w'=>AppR 5 B w v s (partS (d+2) fs_Q ver false t) r w':=by
 obtain ⟨⟨g_0,g_1,g_2,g_3,-⟩,hfu⟩:=hfit
 replace g_0:hasS fQ_0 ver=true→FitWF (FitW ver (d+1)) ver fQ_0 (t.at 0):=g_0
 have hh_0:hasS fQ_0 ver=true:=hasS_t (by show (0:Int)≤ver;omega) (by show (-1:Int) < 0∨ver≤(-1:Int);omega)
 replace g_0:=g_0 hh_0
 replace g_1:hasS fQ_1 ver=true→FitWF (FitW ver (d+1)) ver fQ_1 (t.at 1):=g_1
 have hh_1:hasS fQ_1 ver=false:=hasS_f (by show ver < 4∨(0≤(-1:Int)∧(-1:Int) < ver);omega)
 clear g_1
 replace g_2:hasS fQ_2 ver=true→FitWF (FitW ver (d+1)) ver fQ_2 (t.at 2):=g_2
 have hh_2:hasS fQ_2 ver=false:=hasS_f (by show ver < 8∨(0≤(10:Int)∧(10:Int) < ver);omega)
 clear g_2
 replace g_3:hasS fQ_3 ver=true→FitWF (FitW ver (d+1)) ver fQ_3 (t.at 3):=g_3
 have hh_3:hasS fQ_3 ver=false:=hasS_f (by show ver < 8∨(0≤(-1:Int)∧(-1:Int) < ver);omega)
 clear g_3
 obtain ⟨cs,q,hcs,hL,hT⟩:=hR.inv
 obtain ⟨c_0,e_0,rfl,h_0,c_1,e_1,rfl,h_1,c_2,e_2,rfl,h_2,c_3,e_3,rfl,h_3,rfl⟩:=hL
 replace h_0:RepF (RepS true (d+1)) (szS true (d+1)) fQ_0 okM w (t.at 0) c_0:=h_0
 replace h_1:RepF (RepS true (d+1)) (szS true (d+1)) fQ_1 okM w (t.at 1) c_1:=h_1
 replace h_2:RepF (RepS true (d+1)) (szS true (d+1)) fQ_2 okM w (t.at 2) c_2:=h_2
 replace h_3:RepF (RepS true (d+1)) (szS true (d+1)) fQ_3 okM w (t.at 3) c_3:=h_3
 obtain ⟨p_0,L_0,rfl,hLL_0,hs_0,hnn_0⟩:=RepF_listN g_0 rfl (by decide) h_0
 obtain ⟨ab_0,ac_0,rfl,_⟩:=SlR.shape hs_0
 have hni_0:=hnn_0 _ _ _ rfl
 have hgl_0:=g_0.listL rfl hLL_0
 have hll_0:=hgl_0.1
 obtain rfl:=(RepF_num (by decide)).1 h_1
 obtain rfl:=(RepF_num (by decide)).1 h_2
 obtain rfl:=(RepF_num (by decide)).1 h_3
 obtain ⟨qm,rfl⟩:=hT.shape
 have hv:blk w vb=some (#[.int .i16 ver,.slice ab_0 L_0.length ac_0,.bool (decide ((t.at 1).n % 2=1)),.bool (decide ((t.at 2).n % 2=1)),.bool (decide ((t.at 3).n % 2=1)),.map qm],68,(0,0)):=by rw [hvb,hcs];rfl
 clear hvb hcs
 obtain ⟨XL_0,hXL_0⟩:∃ X,X=countedS false (nullS fQ_0 ver (t.at 0)) L_0.length 4:=⟨_,rfl⟩
 obtain ⟨XE_0,hXE_0⟩:∃ X,X=L_0.flatMap (fun x=>partS (d+1) fs_X0 ver false x):=⟨_,rfl⟩
 have hP:partS (d+2) fs_Q ver false t=(XL_0++XE_0)++[]:=partS_no (plainL_has (by decide) hh_0 ((fieldS_listN (g:=(fun x=>partS (d+1) fs_X0 ver false x)) g_0 rfl hLL_0 (fun x _=>valueS_part)).trans (by rw [hXL_0,hXE_0])) (plainL_not hh_1 (plainL_not hh_2 (plainL_not hh_3 rfl))))
 rw [hP] at hlen
 simp only [List.length_append,List.length_nil] at hlen
 have hdK:∀ {r:Value} {w':World} {add:List UInt8},AppR 5 B w v s add r w'→∀ b,b < w'.heap.size→OkS okM w.heap.size b→¬ ownB r b:=fun h b _ hk ho=>(h.frame b ho).elim (hd b hk.2 hk.1) (fun h=>by have:=hk.2;omega)
 have ownK:∀ {r:Value} {w':World} {add:List UInt8} {b:Nat},AppR 5 B w v s add r w'→b < w.heap.size→¬ ownB v b→¬ ownB r b:=fun h hb hn ho=>(h.frame _ ho).elim hn (fun h=>by omega)
 have ha0:AppR 5 B w v s [] v w:=AppR.refl ho
 obtain ⟨w0,hw0⟩:∃ w0,w0=w:=⟨_,rfl⟩
 have hB0:=hB
 have hv_0:=hv
 refine fn_of_W Tryz.func90 rfl Tryz.results90 Tryz.ntmps90 rfl ?_
 repeat ((first|refine qA rfl ?_|apply qB|refine qC rfl ?_|apply qD|apply qE|apply qF|apply qG|apply qH);try simp (disch:=(first|omega|(simp only [qI,qJ,qK]<;>omega)|exact qL _)) only [go_sem,↓reduceIte,n0,reduceCtorEq,n1,n2,n3,n4,n5,i0,i1,i2,i3,i4,i5,i6,i7,hv_0,hni_0])
 refine (AppendNullableArrayLen_fn _ _ _ ha0.own hB0 L_0.length hll_0 (nullS fQ_0 ver (t.at 0)) (by simp only [List.length_append,List.length_nil];omega)).mono ?_
 rintro r1 w1 hc1
 rw [← hXL_0] at hc1
 have ha1:=ha0.trans hc1
 have hB1:B≤w1.heap.size:=Nat.le_trans hB ha1.upd.size
 have hv_1:=ha1.upd.blk_some hv hdv
 repeat ((first|refine qA rfl ?_|apply qB|refine qC rfl ?_|apply qD|apply qE|apply qF|apply qG|apply qH);try simp (disch:=(first|omega|(simp only [qI,qJ,qK]<;>omega)|exact qL _)) only [go_sem,↓reduceIte,n0,reduceCtorEq,n1,n2,n3,n4,n5,i0,i1,i2,i3,i4,i5,i6,i7,hv_1,hni_0])
 have jE:=ha1
 refine W.exitJ 0 (fun ρ w'=>∃ r,ρ 1=r∧ρ 0 = .pointer (some ⟨vb,0,none⟩)∧ρ 5 = .int .i16 ver∧ρ 6 = .bool false∧AppR 5 B w v s (([]++XL_0)++XE_0) r w')
  (W.loop (fun ρ w'=>∃ (j:Nat) (r:Value),j≤L_0.length∧ρ 55 = .int .i64 j∧ρ 54 = .int .i64 L_0.length∧ρ 7 = .slice ab_0 L_0.length ac_0∧ρ 1=r∧ρ 0 = .pointer (some ⟨vb,0,none⟩)∧ρ 5 = .int .i16 ver∧ρ 6 = .bool false∧AppR 5 B w v s (([]++XL_0)++(L_0.take j).flatMap (fun x=>partS (d+1) fs_X0 ver false x)) r w')
   (fun ρ _=>L_0.length - (RowKit.intOf (ρ 55)).toNat) ?_ ?_) ?_
 ·refine ⟨0,_,Nat.zero_le _,?_,?_,?_,?_,?_,?_,?_,ha1.eqs (by rw [List.take_zero,List.flatMap_nil,List.append_nil])⟩<;>simp (disch:=(first|omega|(simp only [qI,qJ,qK]<;>omega)|exact qL _)) only [go_sem,↓reduceIte,n0,reduceCtorEq,n1,n2,n3,n4,n5,i0,i1,i2,i3,i4,i5,i6,i7]
  all_goals rfl
 ·rintro ρ w2 ⟨j1,r2,hj1,hI1,hN1,hS1,aY,aX,aZ,b6,ha2⟩
  have hB2:B≤w2.heap.size:=Nat.le_trans hB ha2.upd.size
  have hv_2:=ha2.upd.blk_some hv hdv
  by_cases cZ:j1 < L_0.length
  ·obtain ⟨_,b1,o1,x1,ce1,hb1,hok1,hx1,fE,jL,jK,hq1,cR⟩:=SlR.get (size:=18) (by decide) hs_0 cZ
   subst hb1
   have dP:L_0.take (j1+1)=L_0.take j1++[L_0[j1]]:=List.take_succ_eq_append_getElem cZ
   have bI:=take_flatMap_len L_0 (fun x=>partS (d+1) fs_X0 ver false x) (j1+1)
   rw [← hXE_0,dP,List.flatMap_append,List.flatMap_cons,List.flatMap_nil,List.append_nil] at bI
   have fM:=hgl_0.2 _ (List.getElem_mem cZ)
   generalize L_0[j1] = y1 at *
   have bM:=hd b1 fE hok1
   obtain ⟨T1,dN⟩:∃ T,T=(L_0.take j1).flatMap (fun x=>partS (d+1) fs_X0 ver false x):=⟨_,rfl⟩
   rw [← dN] at ha2 bI
   have eF:=ha2.upd.blk_some hx1 bM
   replace cR:RepS true (d+1) fs_X0 okM w y1 ce1:=Rep1_part.1 cR
   have fJ:FitW ver (d+1) fs_X0 y1:=fM.2 rfl
   obtain ⟨⟨ge1_0,ge1_1,-⟩,dL⟩:=fJ
   replace ge1_0:hasS fX0_0 ver=true→FitWF (FitW ver d) ver fX0_0 (y1.at 0):=ge1_0
   have eM:hasS fX0_0 ver=false:=hasS_f (by show ver < 10∨(0≤(-1:Int)∧(-1:Int) < ver);omega)
   clear ge1_0
   replace ge1_1:hasS fX0_1 ver=true→FitWF (FitW ver d) ver fX0_1 (y1.at 1):=ge1_1
   have dS:hasS fX0_1 ver=true:=hasS_t (by show (0:Int)≤ver;omega) (by show (-1:Int) < 0∨ver≤(-1:Int);omega)
   replace ge1_1:=ge1_1 dS
   obtain ⟨cse1,qe1,fG,eY,e7⟩:=cR.inv
   obtain ⟨ce1_0,ee1_0,rfl,cW,ce1_1,ee1_1,rfl,cX,rfl⟩:=eY
   replace cW:RepF (RepS true d) (szS true d) fX0_0 okM w (y1.at 0) ce1_0:=cW
   replace cX:RepF (RepS true d) (szS true d) fX0_1 okM w (y1.at 1) ce1_1:=cX
   obtain rfl:=(RepF_uuid rfl).1 cW
   have fY:((uuidS (y1.at 0).s).map byteV).length=16:=by rw [List.length_map,uuidS_len]
   have dQ:=flat_bytes (uuidS (y1.at 0).s)
   generalize iK:(uuidS (y1.at 0).s).map byteV=Ze1_0 at *
   obtain ⟨ze1_0_0,ze1_0_1,ze1_0_2,ze1_0_3,ze1_0_4,ze1_0_5,ze1_0_6,ze1_0_7,ze1_0_8,ze1_0_9,ze1_0_10,ze1_0_11,ze1_0_12,ze1_0_13,ze1_0_14,ze1_0_15,rfl⟩:=list16 fY
   simp only [List.all_cons,List.all_nil,Bool.and_true,Bool.and_eq_true] at dQ
   obtain ⟨fze1_0_0,fze1_0_1,fze1_0_2,fze1_0_3,fze1_0_4,fze1_0_5,fze1_0_6,fze1_0_7,fze1_0_8,fze1_0_9,fze1_0_10,fze1_0_11,fze1_0_12,fze1_0_13,fze1_0_14,fze1_0_15⟩:=dQ
   obtain ⟨pe1_1,rfl,fT⟩:=(RepF_ptr rfl (by decide)).1 cX
   obtain ⟨qme1,rfl⟩:=e7.shape
   subst fG
   have bO:x1.1[o1+j1 * 18]? = some (ze1_0_0):=hq1 0 (by decide)
   have bP:x1.1[o1+(j1 * 18+1)]? = some (ze1_0_1):=hq1 1 (by decide)
   have bZ:x1.1[o1+(j1 * 18+2)]? = some (ze1_0_2):=hq1 2 (by decide)
   have cC:x1.1[o1+(j1 * 18+3)]? = some (ze1_0_3):=hq1 3 (by decide)
   have cD:x1.1[o1+(j1 * 18+4)]? = some (ze1_0_4):=hq1 4 (by decide)
   have cE:x1.1[o1+(j1 * 18+5)]? = some (ze1_0_5):=hq1 5 (by decide)
   have cH:x1.1[o1+(j1 * 18+6)]? = some (ze1_0_6):=hq1 6 (by decide)
   have cI:x1.1[o1+(j1 * 18+7)]? = some (ze1_0_7):=hq1 7 (by decide)
   have cJ:x1.1[o1+(j1 * 18+8)]? = some (ze1_0_8):=hq1 8 (by decide)
   have cM:x1.1[o1+(j1 * 18+9)]? = some (ze1_0_9):=hq1 9 (by decide)
   have bQ:x1.1[o1+(j1 * 18+10)]? = some (ze1_0_10):=hq1 10 (by decide)
   have bR:x1.1[o1+(j1 * 18+11)]? = some (ze1_0_11):=hq1 11 (by decide)
   have bU:x1.1[o1+(j1 * 18+12)]? = some (ze1_0_12):=hq1 12 (by decide)
   have bV:x1.1[o1+(j1 * 18+13)]? = some (ze1_0_13):=hq1 13 (by decide)
   have bW:x1.1[o1+(j1 * 18+14)]? = some (ze1_0_14):=hq1 14 (by decide)
   have bX:x1.1[o1+(j1 * 18+15)]? = some (ze1_0_15):=hq1 15 (by decide)
   have bY:x1.1[o1+(j1 * 18+16)]? = some (pe1_1):=hq1 16 (by decide)
   have bA:x1.1[o1+(j1 * 18+17)]? = some (.map qme1):=hq1 17 (by decide)
   have cO:cellsAt x1.1 (o1+j1 * 18) 16=some (.agg #[ze1_0_0,ze1_0_1,ze1_0_2,ze1_0_3,ze1_0_4,ze1_0_5,ze1_0_6,ze1_0_7,ze1_0_8,ze1_0_9,ze1_0_10,ze1_0_11,ze1_0_12,ze1_0_13,ze1_0_14,ze1_0_15]):=by
    refine cellsAt_of (l:=[ze1_0_0,ze1_0_1,ze1_0_2,ze1_0_3,ze1_0_4,ze1_0_5,ze1_0_6,ze1_0_7,ze1_0_8,ze1_0_9,ze1_0_10,ze1_0_11,ze1_0_12,ze1_0_13,ze1_0_14,ze1_0_15]) (fun j hj => ?_) rfl (by omega)
    rw [show o1+j1 * 18+j=o1+(j1 * 18+(0+j)) by omega]
    exact (hq1 (0+j) (by omega)).trans (get_mid (pre:=[]) (xs:=[ze1_0_0,ze1_0_1,ze1_0_2,ze1_0_3,ze1_0_4,ze1_0_5,ze1_0_6,ze1_0_7,ze1_0_8,ze1_0_9,ze1_0_10,ze1_0_11,ze1_0_12,ze1_0_13,ze1_0_14,ze1_0_15]) (post:=[pe1_1,.map qme1]) hj)
   obtain ⟨Xe1_1,dO⟩:∃ X,X=fixedS (y1.at 1).s.length 2++(y1.at 1).s:=⟨_,rfl⟩
   have eT:(y1.at 1).null=false:=(ge1_1.isnull (by decide)).trans (nullS_early (by show ver < (10:Int);omega))
   have dM:partS (d+1) fs_X0 ver false y1=Xe1_1++[]:=partS_no (plainL_not eM (plainL_has (by decide) dS ((fieldS_ptr_f ge1_1 rfl (by decide)).trans (by rw [eT,if_neg (by decide)];exact dO.symm)) rfl))
   rw [dM] at bI
   simp only [List.length_append,List.length_nil] at bI
   repeat ((first|refine qA rfl ?_|apply qB|refine qC rfl ?_|apply qD|apply qE|apply qF|apply qG|apply qH);try simp (disch:=(first|omega|(simp only [qI,qJ,qK]<;>omega)|exact qL _)) only [go_sem,↓reduceIte,n0,reduceCtorEq,n1,n2,n3,n4,n5,i0,i1,i2,i3,i4,i5,i6,i7,hv_2,eF,hni_0,bO,bP,bZ,cC,cD,cE,cH,cI,cJ,cM,bQ,bR,bU,bV,bW,bX,bY,bA,fze1_0_0,fze1_0_1,fze1_0_2,fze1_0_3,fze1_0_4,fze1_0_5,fze1_0_6,fze1_0_7,fze1_0_8,fze1_0_9,fze1_0_10,fze1_0_11,fze1_0_12,fze1_0_13,fze1_0_14,fze1_0_15,cO,aY,aX,aZ,b6,hI1,hN1,hS1])
   obtain ⟨bte1_1,ote1_1,xte1_1,gQ,gN,eS,gO⟩:∃ b o x,pe1_1 = .pointer (some ⟨b,o,none⟩)∧okM b∧blk w b=some x∧x.1[o]? = some (strV (y1.at 1).s):=by
    have h:=fT
    unfold PtrText at h
    rw [if_neg (by rw [eT];decide)] at h
    exact h
   have gP:=ha2.upd.blk_some eS (hd _ (blk_lt eS) gN)
   repeat (first|simp (disch:=(first|omega|(simp only [qI,qJ,qK]<;>omega)|exact qL _)) only [go_sem,↓reduceIte,n0,reduceCtorEq,n1,n2,n3,n4,n5,i0,i1,i2,i3,i4,i5,i6,i7,hv_2,eF,hni_0,bO,bP,bZ,cC,cD,cE,cH,cI,cJ,cM,bQ,bR,bU,bV,bW,bX,bY,bA,fze1_0_0,fze1_0_1,fze1_0_2,fze1_0_3,fze1_0_4,fze1_0_5,fze1_0_6,fze1_0_7,fze1_0_8,fze1_0_9,fze1_0_10,fze1_0_11,fze1_0_12,fze1_0_13,fze1_0_14,fze1_0_15,cO,aY,aX,aZ,b6,hI1,hN1,hS1,gQ,gP,gO]|refine qA rfl ?_|apply qB|refine qC rfl ?_|apply qD|apply qE|apply qF|apply qG|apply qH)
   refine (AppendString_fn _ _ _ ha2.own hB2 (y1.at 1).s (ge1_1.text (.inl rfl)) (by simp only [List.length_append,List.length_nil];omega)).mono ?_
   rintro r3 w3 hc3
   rw [← dO] at hc3
   have ha3:=ha2.trans hc3
   have hB3:B≤w3.heap.size:=Nat.le_trans hB ha3.upd.size
   have hv_3:=ha3.upd.blk_some hv hdv
   have hZ:=ha3.upd.blk_some hx1 bM
   repeat ((first|refine qA rfl ?_|apply qB|refine qC rfl ?_|apply qD|apply qE|apply qF|apply qG|apply qH);try simp (disch:=(first|omega|(simp only [qI,qJ,qK]<;>omega)|exact qL _)) only [go_sem,↓reduceIte,n0,reduceCtorEq,n1,n2,n3,n4,n5,i0,i1,i2,i3,i4,i5,i6,i7,aY,aX,aZ,b6,hI1,hN1,hS1])
   refine ⟨⟨j1+1,_,by omega,rfl,rfl,ha3.eqs ?_⟩,?_⟩
   ·rw [dP,List.flatMap_append,List.flatMap_cons,List.flatMap_nil,List.append_nil,← dN,dM];simp only [List.append_assoc,List.append_nil,List.nil_append]
   ·simp only [RowKit.intOf];omega
  ·have fO:j1=L_0.length:=by omega
   subst fO
   rw [List.take_length,← hXE_0] at ha2
   repeat ((first|refine qA rfl ?_|apply qB|refine qC rfl ?_|apply qD|apply qE|apply qF|apply qG|apply qH);try simp (disch:=(first|omega|(simp only [qI,qJ,qK]<;>omega)|exact qL _)) only [go_sem,↓reduceIte,n0,reduceCtorEq,n1,n2,n3,n4,n5,i0,i1,i2,i3,i4,i5,i6,i7,hI1,hN1])
   exact ⟨_,aY,aX,aZ,b6,ha2⟩
 ·rintro ρ w4 ⟨r4,bB,bC,bD,bE,ha4⟩
  have hB4:B≤w4.heap.size:=Nat.le_trans hB ha4.upd.size
  have hv_4:=ha4.upd.blk_some hv hdv
  repeat ((first|refine qA rfl ?_|apply qB|refine qC rfl ?_|apply qD|apply qE|apply qF|apply qG|apply qH);try simp (disch:=(first|omega|(simp only [qI,qJ,qK]<;>omega)|exact qL _)) only [go_sem,↓reduceIte,n0,reduceCtorEq,n1,n2,n3,n4,n5,i0,i1,i2,i3,i4,i5,i6,i7,hv_4,hni_0,bB,bC,bD,bE])
  refine ha4.eqs ?_
  rw [hP];simp only [List.append_assoc,List.append_nil,List.nil_append]
end Ms

