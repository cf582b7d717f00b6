/- A part of the proof: see the last text. -/
import Derived.Test.YtfabfglflkggeaaGreatDoorOffsetFetchRequestP0
set_option linter.unusedSimpArgs false
set_option linter.unusedVariables false
namespace Ms
open Go.World renaming size_alloc → qI
open Ms renaming size_wr → qJ,size_drew → qK,not_noB → qL
open W renaming seqF → qA,seq → qB,regF → qC,condK → qD,block → qE,skip → qF,ret → qG,exit → qH
open Nat renaming reduceEqDiff → n0,reduceAdd → n1,reduceMul → n2,reduceSub → n3,reduceLT → n4,reduceLeDiff → n5
open Int renaming reduceEq → i0,reduceLT → i1,reduceLE → i2,reduceNeg → i3,reduceAdd → i4,reduceSub → i5,reduceMul → i6,reduceToNat → i7
set_option maxRecDepth 8000
open Go Go.Proofs Go.Shelf
attribute [local congr] W_congr WPsq_congr WPp_congr optK_congr addrK_congr intK_congr boolK_congr sliceK_congr tupleK_congr funcK_congr Fn_congr rawK_congr takeK_congr stepK_congr convK_congr aggK_congr

set_option maxHeartbeats 4000000 in
theorem readQ_5 {d:Nat} {ok:Blocks} {ver:Int} {ev:Value} (hlo:9≤ver) (hhi:ver≤9) (w:World) {vb:Nat} (src:Value) (s:List UInt8) (hv:blk w vb=some (#[.int .i16 ver,.string ByteArray.empty,.slice none 0 0,.slice none 0 0,.bool false,.map none],63,(0,0))) (hsrc:BytesV ok w src s) (iC:∀ b,ok b→b < w.heap.size∧b≠vb) (hG:Glo ev w) (hgv:¬ 1=vb∧¬ 0=vb) :
  Fn Tryz.prog 31 #[.pointer (some ⟨vb,0,none⟩),src,.bool false] w (ReadQ 63 ok ver (d+3) fsr_Q vb w (rdP (d+3) ver true fsr_Q (some s)) ev):=by
 have hvl:=blk_lt hv
 have hgs:=hG.lt
 obtain ⟨sa,sc,rfl,_⟩:=hsrc.shape
 refine fn_of_W Tryz.func31 rfl Tryz.results31 Tryz.ntmps31 rfl ?_
 repeat ((first|refine qA ?_|apply qB|refine qC ?_|apply qD|apply qE|apply qF|apply qG|apply qH);try simp (disch:=omega) only [go_sem,↓reduceIte,n0,reduceCtorEq,n1,n2,i3,i4,i5,i6,i7,hv])
 refine (DefaultQ_fn w hv).mono ?_
 rintro _ w0 ⟨hv0,hu0⟩
 have hz0:=hu0.size
 have pS:BytesV ok w0 (.slice sa s.length sc) s:=hsrc.keep (hu0.keeps fun b _ hk e=>(iC b hk).2 e)
 obtain ⟨rb,hrb⟩:∃ r,r=w0.heap.size:=⟨_,rfl⟩
 have hE1:Ext w0 (wr (w0.alloc (.cells #[.slice none 0 0,.bool false] 102)) w0.heap.size 0 [.slice sa s.length sc,.bool false]):=(Upd.alloc (Upd.refl _ _) _).wr _ _ (.inl (Nat.le_refl _))
 have hz1:(wr (w0.alloc (.cells #[.slice none 0 0,.bool false] 102)) w0.heap.size 0 [.slice sa s.length sc,.bool false]).heap.size=w0.heap.size+1:=by rw [size_wr,World.size_alloc]
 have hR1:Rdr RT ok (wr (w0.alloc (.cells #[.slice none 0 0,.bool false] 102)) w0.heap.size 0 [.slice sa s.length sc,.bool false]) w0.heap.size (some s):=Rdr.good (v:=.slice sa s.length sc) (by simp (disch:=omega) only [go_sem,↓reduceIte,n0,reduceCtorEq,n1,n2,i3,i4,i5,i6,i7]) (pS.keep (hE1.keeps _))
 have hv_1:=hE1.blk_some hv0 id
 repeat ((first|refine qA ?_|apply qB|refine qC ?_|apply qD|apply qE|apply qF|apply qG|apply qH);try simp (disch:=omega) only [go_sem,↓reduceIte,n0,reduceCtorEq,n1,n2,i3,i4,i5,i6,i7,hv0])
 generalize (wr (w0.alloc (.cells #[.slice none 0 0,.bool false] 102)) w0.heap.size 0 [.slice sa s.length sc,.bool false])=w1 at *
 rw [← hrb] at hR1
 try rw [← hrb]
 have hok:∀ b,ok b→b < w.heap.size∧b≠vb:=iC
 have hrok:¬ ok rb:=fun h=>by have:=(hok rb h).1;omega
 have hbase:Upd (fun b=>b=vb) w w1:=hu0.trans (hE1.mono fun _ h=>h.elim)
 have hG1:Glo ev w1:=hG.updS hbase hgv.1 hgv.2
 have hgrb:¬ 1=rb:=by omega
 have bW:¬ (1=vb∨1=rb):=fun h=>h.elim hgv.1 fun h=>by omega
 have bX:¬ (0=vb∨0=rb):=fun h=>h.elim hgv.2 fun h=>by omega
 obtain ⟨s0,hs0⟩:∃ s':St,s'=some s:=⟨_,rfl⟩
 rw [← hs0] at hR1 ⊢
 have hU1:Upd (fun b=>b=vb∨b=rb) w1 w1:=Upd.refl _ _
 have hoM:∀ b,(ok b∨w1.heap.size≤b)→¬ (b=vb∨b=rb):=fun b hk h=>by
  rcases hk with hk|hk
  ·have:=hok b hk;rcases h with h|h<;>omega
  ·rcases h with h|h<;>omega
 have hq1:Rdr RT ok w1 rb s0:=hR1
 obtain ⟨FB,hFB⟩:∃ P:Prop,P=((rdP (d+3) ver true fsr_Q s0).2=none):=⟨_,rfl⟩
 have hb_0:(rdL (rdP (d+2) ver true) (dfP (d+2)) ver true [fQ_0,fQ_1,frQ_2,fQ_3] s0).2=none→FB:=fun h=>Eq.mpr hFB (rdP_bad h)
 obtain ⟨x_0,hx_0⟩:∃ x,x=dfF (dfP (d+2)) fQ_0:=⟨_,rfl⟩
 have hf_0:RepF (RepS true (d+2)) (szS true (d+2)) fQ_0 (fun b=>ok b∨w1.heap.size≤b) w1 (x_0) [.string ByteArray.empty]:=by rw [hx_0];exact (RepF_text rfl (by decide)).2 rfl
 have hh_0:hasS fQ_0 ver=false:=hasS_f (by show ver < 0∨(0≤(7:Int)∧(7:Int) < ver);omega)
 have hb_1:(rdL (rdP (d+2) ver true) (dfP (d+2)) ver true [fQ_1,frQ_2,fQ_3] s0).2=none→FB:=fun h=>hb_0 (by rw [rdL_no hh_0];exact h)
 obtain ⟨x_1,hx_1⟩:∃ x,x=dfF (dfP (d+2)) fQ_1:=⟨_,rfl⟩
 have hf_1:RepF (RepS true (d+2)) (szS true (d+2)) fQ_1 (fun b=>ok b∨w1.heap.size≤b) w1 (x_1) [.slice none 0 0]:=by rw [hx_1];exact RepF_nil rfl
 have hh_1:hasS fQ_1 ver=false:=hasS_f (by show ver < 0∨(0≤(7:Int)∧(7:Int) < ver);omega)
 have hb_2:(rdL (rdP (d+2) ver true) (dfP (d+2)) ver true [frQ_2,fQ_3] s0).2=none→FB:=fun h=>hb_1 (by rw [rdL_no hh_1];exact h)
 have hh_2:hasS frQ_2 ver=true:=hasS_t (by show (8:Int)≤ver;omega) (by show (-1:Int) < 0∨ver≤(-1:Int);omega)
 obtain ⟨x_2,hx_2⟩:∃ x,x=(rdF (rdP (d+2) ver true) ver true frQ_2 s0).1:=⟨_,rfl⟩
 repeat ((first|refine qA ?_|apply qB|refine qC ?_|apply qD|apply qE|apply qF|apply qG|apply qH);try simp (disch:=omega) only [go_sem,↓reduceIte,n0,reduceCtorEq,n1,n2,i3,i4,i5,i6,i7,hv_1])
 refine (RCompactArrayLen_fn w1 hq1 hrok hG1.1 hgrb).mono ?_
 rintro _ w2 ⟨rfl,hq2,hu2⟩
 have hv_2:=hu2.blk_some hv_1 (by omega)
 have hV2:Upd (fun b=>b=vb∨b=rb) w1 w2:=hu2.mono (fun _ h=>.inr h)
 have hU2:Upd (fun b=>b=vb∨b=rb) w1 w2:=hU1.trans hV2
 have hz2:=hV2.size
 have hG2:Glo ev w2:=hG1.updS hU2 bW bX
 obtain ⟨s1,hs1⟩:∃ s,s=(rdALen true s0).2:=⟨_,rfl⟩
 rw [← hs1] at hq2
 have HM:=rdALen_rng true s0
 generalize hy2:(rdALen true s0).1=y2 at *
 obtain ⟨N2,hN2⟩:∃ N,N=y2.toNat:=⟨_,rfl⟩
 have vO:(rdMany (rd1 (rdP (d+2) ver true) frQ_2.of frQ_2.sub false true) N2 s1).2=none→FB:=fun h=>hb_2 (by rw [rdL_st (by decide) hh_2];exact rdL_bad (rdF_listbad rfl (by rw [hy2,← hN2,← hs1];exact h)))
 repeat ((first|refine W.seqR rfl ?_|refine W.seq ?_|refine W.regR rfl ?_|refine W.block ?_|refine W.skip ?_|refine W.ret ?_|refine W.exit ?_);try simp (disch:=omega) only [go_sem,↓reduceIte,n0,reduceCtorEq,n1,n2,i3,i4,i5,i6,i7,hv_2])
 refine (ROk_fn w2 hq2.1).mono ?_
 rintro _ wz ⟨rfl,hez⟩
 rw [hez]
 clear hez wz
 by_cases oQ:s1=none
 ·have hso:s1.isSome=false:=by rw [oQ];rfl
  repeat (first|simp (disch:=omega) only [go_sem,↓reduceIte,n0,reduceCtorEq,n1,n2,i3,i4,i5,i6,i7,hv_2,hso]|refine qA ?_|apply qB|refine qC ?_|apply qD|apply qE|apply qF|apply qG|apply qH)
  refine (RComplete_fn w2 hq2.1 hG2.2).mono ?_
  rintro _ wz ⟨rfl,hez⟩
  rw [hez]
  repeat (first|simp (disch:=omega) only [go_sem,↓reduceIte,n0,reduceCtorEq,n1,n2,i3,i4,i5,i6,i7,hv_2]|refine qA ?_|apply qB|refine qC ?_|apply qD|apply qE|apply qF|apply qG|apply qH)
  rw [errV_none oQ]
  exact ReadQ.bad (Eq.mp hFB (vO (by rw [oQ];exact rdMany_none rd1P_none _))) (hbase.trans' hU2 fun i hi h=>h.elim id fun h=>by omega)
 have oT:s1.isSome=true:=isSome_some oQ
 try simp (disch:=omega) only [go_sem,↓reduceIte,n0,reduceCtorEq,n1,n2,i3,i4,i5,i6,i7,hv_2,oT]
 repeat ((first|refine W.seqR rfl ?_|refine W.seq ?_|refine W.regR rfl ?_|refine W.block ?_|refine W.skip ?_|refine W.ret ?_|refine W.exit ?_);try simp (disch:=omega) only [go_sem,↓reduceIte,n0,reduceCtorEq,n1,n2,i3,i4,i5,i6,i7,hv_2,oT])
 refine W.condK ?_
 try simp (disch:=omega) only [go_sem,↓reduceIte,n0,reduceCtorEq,n1,n2,i3,i4,i5,i6,i7,hv_2,oT]
 repeat ((first|refine W.seqR rfl ?_|refine W.seq ?_|refine W.regR rfl ?_|refine W.block ?_|refine W.skip ?_|refine W.ret ?_|refine W.exit ?_);try simp (disch:=omega) only [go_sem,↓reduceIte,n0,reduceCtorEq,n1,n2,i3,i4,i5,i6,i7,hv_2,oT,slBase_00])
 refine W.normJ (RowQ [(2,.bool false),(7,.pointer (some ⟨rb,0,none⟩)),(8,.int .i16 ver),(9,.bool true),(10,.pointer (some ⟨vb,0,none⟩)),(26,.int .i32 y2)] 25 (fun va w'=>LstI RT (rd1 (rdP (d+2) ver true) frQ_2.of frQ_2.sub false true) (Rep1 (RepS true (d+2)) frQ_2.of frQ_2.sub) 5 86 [.string ByteArray.empty,.pointer none,.int .i32 0,.slice none 0 0,.map none] w2.heap.size N2 ok (fun b=>ok b∨w1.heap.size≤b) rb w2 s1 va 0 s1 [] [] w'∧(N2=0→if nilS frQ_2 ver y2=true then va = .slice none 0 0 else ∃ a,va = .slice (some a) 0 0))) ?_ ?_
 ·by_cases hy0:(0:Int) < y2
  ·have hyv:Value.int .i32 y2 = .int .i32 ((N2:Nat):Int):=by rw [show y2=((N2:Nat):Int) by omega]
   repeat ((first|refine qA ?_|apply qB|refine qC ?_|apply qD|apply qE|apply qF|apply qG|apply qH);try simp (disch:=omega) only [go_sem,↓reduceIte,n0,reduceCtorEq,n1,n2,i3,i4,i5,i6,i7,hv_2])
   refine wp_appendZ (m:=N2) utQ_58 utQ_21 inQ_86 (by decide) (by first|rfl|simp (disch:=omega) only [go_sem,↓reduceIte,n0,reduceCtorEq,n1,n2,i3,i4,i5,i6,i7]) (by first|exact hyv|(simp (disch:=omega) only [go_sem,↓reduceIte,n0,reduceCtorEq,n1,n2,i3,i4,i5,i6,i7];exact hyv)) (by omega) (by omega) (by decide) ?_
   intro q rest hq1
   have hEw:Ext w2 (w2.drew.alloc (.cells (zs [.string ByteArray.empty,.pointer none,.int .i32 0,.slice none 0 0,.map none] N2++rest).toArray 86)):=(Upd.refl _ _).drew.alloc _
   repeat (first|simp (disch:=omega) only [go_sem,↓reduceIte,n0,reduceCtorEq,n1,n2,i3,i4,i5,i6,i7,hv_2]|refine qA ?_|apply qB|refine qC ?_|apply qD|apply qE|apply qF|apply qG|apply qH)
   exact ⟨(by simp (disch:=omega) only [go_sem,↓reduceIte,n0,reduceCtorEq,n1,n2,i3,i4,i5,i6,i7,Holds_nil,Holds_cons]),.slice (some ⟨w2.heap.size,0,none⟩) N2 q,(by simp (disch:=omega) only [go_sem,↓reduceIte,n0,reduceCtorEq,n1,n2,i3,i4,i5,i6,i7]),LstI.start (RowJ.start (by omega) hq1 (by show w2.heap.size≤w2.drew.heap.size;rw [size_drew];omega) (blk_alloc_new rfl)) ⟨hq2.1.upd hEw (fun h=>h) (fun _ _ _ h=>h),hq2.2.upd hEw fun h=>h⟩ (hEw.mono fun _ h=>h.elim),fun h0=>by omega⟩
  ·repeat ((first|refine qA ?_|apply qB|refine qC ?_|apply qD|apply qE|apply qF|apply qG|apply qH);try simp (disch:=omega) only [go_sem,↓reduceIte,n0,reduceCtorEq,n1,n2,i3,i4,i5,i6,i7,hv_2])
   exact ⟨(by simp (disch:=omega) only [go_sem,↓reduceIte,n0,reduceCtorEq,n1,n2,i3,i4,i5,i6,i7,Holds_nil,Holds_cons]),.slice none 0 0,(by simp (disch:=omega) only [go_sem,↓reduceIte,n0,reduceCtorEq,n1,n2,i3,i4,i5,i6,i7,slBase_00]),LstI.start (RowJ.zero (by omega) (fun _ h=>by cases h)) hq2 (Upd.refl _ _),fun _=>by rw [nilS_plain (by decide) (by omega)];exact rfl⟩
 rintro ρ w3 ⟨⟨rY,sB,sC,sD,rX,rZ,-⟩,va2,dK,hL2,vR⟩
 repeat ((first|refine qA ?_|apply qB|refine qC ?_|apply qD|apply qE|apply qF|apply qG|apply qH);try simp (disch:=omega) only [go_sem,↓reduceIte,n0,reduceCtorEq,n1,n2,i3,i4,i5,i6,i7,hv_2,rY,sB,sC,sD,rX,rZ,dK])
 refine W.exitRJ 4 (EndQ [(2,.bool false),(7,.pointer (some ⟨rb,0,none⟩)),(8,.int .i16 ver),(9,.bool true),(10,.pointer (some ⟨vb,0,none⟩)),(26,.int .i32 y2),(25,va2)] (fun w'=>∃ s xs css,LstI RT (rd1 (rdP (d+2) ver true) frQ_2.of frQ_2.sub false true) (Rep1 (RepS true (d+2)) frQ_2.of frQ_2.sub) 5 86 [.string ByteArray.empty,.pointer none,.int .i32 0,.slice none 0 0,.map none] w2.heap.size N2 ok (fun b=>ok b∨w1.heap.size≤b) rb w2 s1 va2 N2 s xs css w')) (W.loop (LoopQ [(2,.bool false),(7,.pointer (some ⟨rb,0,none⟩)),(8,.int .i16 ver),(9,.bool true),(10,.pointer (some ⟨vb,0,none⟩)),(26,.int .i32 y2),(25,va2)] 27 (fun j w'=>∃ s xs css,LstI RT (rd1 (rdP (d+2) ver true) frQ_2.of frQ_2.sub false true) (Rep1 (RepS true (d+2)) frQ_2.of frQ_2.sub) 5 86 [.string ByteArray.empty,.pointer none,.int .i32 0,.slice none 0 0,.map none] w2.heap.size N2 ok (fun b=>ok b∨w1.heap.size≤b) rb w2 s1 va2 j s xs css w')) (fun ρ _=>N2 - (RowKit.intOf (ρ 27)).toNat) ?_ ?_) ?_
 ·exact ⟨(by simp (disch:=omega) only [go_sem,↓reduceIte,n0,reduceCtorEq,n1,n2,i3,i4,i5,i6,i7,Holds_nil,Holds_cons,rY,sB,sC,sD,rX,rZ,dK]),0,(by simp (disch:=omega) only [go_sem,↓reduceIte,n0,reduceCtorEq,n1,n2,i3,i4,i5,i6,i7,rY,sB,sC,sD,rX,rZ,dK];all_goals rfl),s1,[],[],hL2⟩
 ·rintro ρ w4 ⟨⟨dZ,e9,eA,eB,dY,e7,t8,-⟩,j1,eC,s2,xs2,css2,hL2⟩
  have hj2:=hL2.le
  have hq4:=hL2.rd
  have hU4:Upd (fun b=>b=vb∨b=rb) w1 w4:=hU2.trans' hL2.upd fun i _ h=>.inr h
  have hz4:=hL2.upd.size
  have hG4:Glo ev w4:=hG1.updS hU4 bW bX
  by_cases hlt2:j1 < N2
  ·obtain ⟨R1,q1,B1,fJ,yL,yJ,hA1,iD,lJ⟩:=hL2.row.next hlt2
   have yN:=blk_lt iD
   generalize css2.flatten=A1 at hA1 iD lJ
   replace dK:ρ 25 = .slice (some ⟨R1,0,none⟩) N2 q1:=t8.trans fJ
   have fG:∀ b,ownB va2 b→w2.heap.size≤b∧b < w4.heap.size:=fun b h=>hL2.row.own h
   have dL:∀ b,(fun b=>(ok b∨w1.heap.size≤b)∧¬ ownB va2 b) b→¬ (b=R1∨b=rb):=fun b hk h=>h.elim (fun e=>hk.2 ⟨_,_,_,fJ,e⟩) (fun e=>hoM b hk.1 (.inr e))
   obtain ⟨X4,hX4,CW,GJ⟩:=el_open (n:=5) iD hA1 rfl
   repeat ((first|refine qA ?_|apply qB|refine qC ?_|apply qD|apply qE|apply qF|apply qG|apply qH);try simp (disch:=omega) only [go_sem,↓reduceIte,n0,reduceCtorEq,n1,n2,i3,i4,i5,i6,i7,CW,dZ,e9,eA,eB,dY,e7,dK,eC])
   refine (DefaultEX1_fn w4 iD hA1).mono ?_
   rintro _ w5 ⟨kU,hu5⟩
   have hq5:=And.intro (hq4.1.upd hu5 (by omega) (fun b _ hk e=>by have:=(hok b hk).1;omega)) (hq4.2.upd hu5 (by omega))
   have hV5:Upd (fun b=>b=R1∨b=rb) w4 w5:=hu5.mono (fun _ h=>.inl h)
   have hU5:Upd (fun b=>b=vb∨b=rb) w1 w5:=hU4.trans' hV5 fun i hi h=>h.elim (fun h=>by omega) .inr
   have hz5:=hV5.size
   have hG5:Glo ev w5:=hG1.updS hU5 bW bX
   obtain ⟨X5,hX5,CX,GK⟩:=el_open (n:=5) kU hA1 rfl
   have AP:(rdL (rdP (d+1) ver true) (dfP (d+1)) ver true [fX1_0,fX1_1,fX1_2,frX1_3] s2).2=none→FB:=fun h=>vO (hL2.bad hlt2 rd1P_none (by show (rd1 (rdP (d+2) ver true) 10 fsr_X1 false true s2).2=none;rw [rd1_part];exact rdP_bad h))
   have mR:hasS fX1_0 ver=true:=hasS_t (by show (0:Int)≤ver;omega) (by show (-1:Int) < 0∨ver≤(-1:Int);omega)
   obtain ⟨xe2_0,wH⟩:∃ x,x=(rdF (rdP (d+1) ver true) ver true fX1_0 s2).1:=⟨_,rfl⟩
   repeat ((first|refine qA ?_|apply qB|refine qC ?_|apply qD|apply qE|apply qF|apply qG|apply qH);try simp (disch:=omega) only [go_sem,↓reduceIte,n0,reduceCtorEq,n1,n2,i3,i4,i5,i6,i7,CX,dZ,e9,eA,eB,dY,e7,dK,eC])
   have hmay:mayS fX1_0 ver=false:=mayS_no (by show (-1:Int) < 0∨ver < (-1:Int);omega)
   have hrd:rdF (rdP (d+1) ver true) ver true fX1_0 s2=_:=rdF_text rfl hmay
   refine (RCompactString_fn w5 hq5.1 hrok hG5.1 hgrb).mono ?_
   rintro _ w6 ⟨rfl,hq6,hu6⟩
   have kV:=hu6.blk_some kU (by omega)
   have hV6:Upd (fun b=>b=R1∨b=rb) w5 w6:=hu6.mono (fun _ h=>.inr h)
   have hU6:Upd (fun b=>b=vb∨b=rb) w1 w6:=hU5.trans' hV6 fun i hi h=>h.elim (fun h=>by omega) .inr
   have hz6:=hV6.size
   have hG6:Glo ev w6:=hG1.updS hU6 bW bX
   obtain ⟨X6,hX6,CY,GL⟩:=el_open (n:=5) kV hA1 rfl
   have hst:(rdF (rdP (d+1) ver true) ver true fX1_0 s2).2=(rdStr true s2).2:=by first|(rw [hrd];rfl)|rw [hrd]
   obtain ⟨s3,hs3⟩:∃ s,s=(rdF (rdP (d+1) ver true) ver true fX1_0 s2).2:=⟨_,rfl⟩
   rw [← hst,← hs3] at hq6
   clear hst
   have C2:j1 * 5+1≤X6.size:=by omega
   have BH:X6[j1 * 5+3]? = some (.slice none 0 0):=by rw [hX6];exact el_cell (R:=0) hA1 (Nat.le_of_ble_eq_true rfl)
   repeat ((first|refine qA ?_|apply qB|refine qC ?_|apply qD|apply qE|apply qF|apply qG|apply qH);try simp (disch:=omega) only [go_sem,↓reduceIte,n0,reduceCtorEq,n1,n2,i3,i4,i5,i6,i7,CY,dZ,e9,eA,eB,dY,e7,dK,eC,C2,BH,Array.getElem?_setIfInBounds_ne])
   generalize hw7:wr w6 R1 (j1 * 5) [strV (rdStr true s2).1] = w7
   have hS7:Upd (fun b=>b=R1∨b=rb) w6 w7:=by rw [← hw7];exact (Upd.refl _ _).wr _ _ (.inr (.inl rfl))
   have eY:blk w7 R1=some ((A1++(([strV (rdStr true s2).1,.pointer none,.int .i32 (-1),.slice none 0 0,.map none]:List Value)++B1)).toArray,86,(0,0)):=by rw [← hw7];exact el_blk0 kV hA1 (Nat.le_of_ble_eq_true rfl)
   have hV7:=hS7
   have hU7:Upd (fun b=>b=vb∨b=rb) w1 w7:=hU6.trans' hV7 fun i hi h=>h.elim (fun h=>by omega) .inr
   have hz7:=hV7.size
   have hG7:Glo ev w7:=hG1.updS hU7 bW bX
   have hq7:=Rdr.stored hw7 hq6 (by omega) fun h=>by have:=(hok _ h).1;first|omega|exact (hok _ h).2 rfl
   obtain ⟨X7,hX7,pV,yX⟩:=el_open (n:=5) eY hA1 rfl
   clear hw7
   have B8:RepF (RepS true (d+1)) (szS true (d+1)) fX1_0 (fun b=>(ok b∨w1.heap.size≤b)∧¬ ownB va2 b) w7 (xe2_0) [strV (rdStr true s2).1]:=(RepF_text rfl (by decide)).2 (by rw [wH,hrd];rfl)
   clear hrd
   have AQ:(rdL (rdP (d+1) ver true) (dfP (d+1)) ver true [fX1_1,fX1_2,frX1_3] s3).2=none→FB:=fun h=>AP (by rw [rdL_st (by decide) mR,← hs3];exact h)
   have mZ:hasS fX1_1 ver=true:=hasS_t (by show (9:Int)≤ver;omega) (by show (-1:Int) < 0∨ver≤(-1:Int);omega)
   obtain ⟨xe2_1,wI⟩:∃ x,x=(rdF (rdP (d+1) ver true) ver true fX1_1 s3).1:=⟨_,rfl⟩
   repeat ((first|refine qA ?_|apply qB|refine qC ?_|apply qD|apply qE|apply qF|apply qG|apply qH);try simp (disch:=omega) only [go_sem,↓reduceIte,n0,reduceCtorEq,n1,n2,i3,i4,i5,i6,i7,pV,dZ,e9,eA,eB,dY,e7,dK,eC])
   have hmay:mayS fX1_1 ver=true:=mayS_yes (by decide) (by show (9:Int)≤ver;omega)
   have hrd:rdF (rdP (d+1) ver true) ver true fX1_1 s3=_:=rdF_ptr rfl hmay
   refine (RCompactNullableString_fn w7 hq7.1 hrok hG7.1 hgrb).mono ?_
   rintro r8 w8 ⟨hp8,hq8,hu8⟩
   obtain ⟨ap8,rfl⟩:=hp8.shape
   have fA:=hu8.blk_some eY (by omega)
   have hV8:Upd (fun b=>b=R1∨b=rb) w7 w8:=hu8.mono (fun _ h=>.inr h)
   have hU8:Upd (fun b=>b=vb∨b=rb) w1 w8:=hU7.trans' hV8 fun i hi h=>h.elim (fun h=>by omega) .inr
   have hz8:=hV8.size
   have hG8:Glo ev w8:=hG1.updS hU8 bW bX
   obtain ⟨X8,hX8,nW,yY⟩:=el_open (n:=5) fA hA1 rfl
   have hst:(rdF (rdP (d+1) ver true) ver true fX1_1 s3).2=(rdNStr true s3).2:=by first|(rw [hrd];rfl)|rw [hrd]
   obtain ⟨s4,hs4⟩:∃ s,s=(rdF (rdP (d+1) ver true) ver true fX1_1 s3).2:=⟨_,rfl⟩
   rw [← hst,← hs4] at hq8
   clear hst
   have FA:j1 * 5+2≤X8.size:=by omega
   have F6:X8[j1 * 5+3]? = some (.slice none 0 0):=by rw [hX8];exact el_cell (R:=0) hA1 (Nat.le_of_ble_eq_true rfl)
   repeat ((first|refine qA ?_|apply qB|refine qC ?_|apply qD|apply qE|apply qF|apply qG|apply qH);try simp (disch:=omega) only [go_sem,↓reduceIte,n0,reduceCtorEq,n1,n2,i3,i4,i5,i6,i7,nW,dZ,e9,eA,eB,dY,e7,dK,eC,FA,F6,Array.getElem?_setIfInBounds_ne])
   generalize hw9:wr w8 R1 (j1 * 5+1) [.pointer ap8] = w9
   have hS9:Upd (fun b=>b=R1∨b=rb) w8 w9:=by rw [← hw9];exact (Upd.refl _ _).wr _ _ (.inr (.inl rfl))
   have gE:blk w9 R1=some ((A1++(([strV (rdStr true s2).1,.pointer ap8,.int .i32 (-1),.slice none 0 0,.map none]:List Value)++B1)).toArray,86,(0,0)):=by rw [← hw9];exact el_blk (o:=1) fA hA1 (Nat.le_of_ble_eq_true rfl)
   have hV9:=hS9
   have hU9:Upd (fun b=>b=vb∨b=rb) w1 w9:=hU8.trans' hV9 fun i hi h=>h.elim (fun h=>by omega) .inr
   have hz9:=hV9.size
   have hG9:Glo ev w9:=hG1.updS hU9 bW bX
   have hq9:=Rdr.stored hw9 hq8 (by omega) fun h=>by have:=(hok _ h).1;first|omega|exact (hok _ h).2 rfl
   obtain ⟨X9,hX9,kP,yZ⟩:=el_open (n:=5) gE hA1 rfl
   clear hw9
   have B9:RepF (RepS true (d+1)) (szS true (d+1)) fX1_1 (fun b=>(ok b∨w1.heap.size≤b)∧¬ ownB va2 b) w9 (xe2_1) [.pointer ap8]:=(RepF_ptr rfl (by decide)).2 ⟨_,rfl,by rw [wI,hrd];exact (hp8.weaken fun b _ hk=>by have hk':w7.heap.size≤b:=hk;exact ⟨.inr (by omega),fun ho=>by have:=(fG _ ho).2;omega⟩).keep (hV9.keeps fun b _ hk e=>dL b hk e)⟩
   clear hrd
   have AR:(rdL (rdP (d+1) ver true) (dfP (d+1)) ver true [fX1_2,frX1_3] s4).2=none→FB:=fun h=>AQ (by rw [rdL_st (by decide) mZ,← hs4];exact h)
   have mF:hasS fX1_2 ver=true:=hasS_t (by show (9:Int)≤ver;omega) (by show (-1:Int) < 0∨ver≤(-1:Int);omega)
   obtain ⟨xe2_2,wJ⟩:∃ x,x=(rdF (rdP (d+1) ver true) ver true fX1_2 s4).1:=⟨_,rfl⟩
   repeat ((first|refine qA ?_|apply qB|refine qC ?_|apply qD|apply qE|apply qF|apply qG|apply qH);try simp (disch:=omega) only [go_sem,↓reduceIte,n0,reduceCtorEq,n1,n2,i3,i4,i5,i6,i7,kP,dZ,e9,eA,eB,dY,e7,dK,eC])
   have hrd:rdF (rdP (d+1) ver true) ver true fX1_2 s4=_:=rdF_num 3 rfl (by decide)
   refine (Int32_fn w9 hq9.1 hrok hG9.1 hgrb).mono ?_
   rintro _ w10 ⟨rfl,pL,C3⟩
   have jL:=C3.blk_some gE (by omega)
   have gF:Upd (fun b=>b=R1∨b=rb) w9 w10:=C3.mono (fun _ h=>.inr h)
   have m8:Upd (fun b=>b=vb∨b=rb) w1 w10:=hU9.trans' gF fun i hi h=>h.elim (fun h=>by omega) .inr
   have CZ:=gF.size
   have tT:Glo ev w10:=hG1.updS m8 bW bX
   obtain ⟨X10,qX,tJ,AM⟩:=el_open (n:=5) jL hA1 rfl
   have hst:(rdF (rdP (d+1) ver true) ver true fX1_2 s4).2=(rdInt .i32 4 s4).2:=by first|(rw [hrd];rfl)|rw [hrd]
   obtain ⟨s5,hs5⟩:∃ s,s=(rdF (rdP (d+1) ver true) ver true fX1_2 s4).2:=⟨_,rfl⟩
   rw [← hst,← hs5] at pL
   clear hst
   have F8:j1 * 5+3≤X10.size:=by omega
   have F3:X10[j1 * 5+3]? = some (.slice none 0 0):=by rw [qX];exact el_cell (R:=0) hA1 (Nat.le_of_ble_eq_true rfl)
   repeat ((first|refine qA ?_|apply qB|refine qC ?_|apply qD|apply qE|apply qF|apply qG|apply qH);try simp (disch:=omega) only [go_sem,↓reduceIte,n0,reduceCtorEq,n1,n2,i3,i4,i5,i6,i7,tJ,dZ,e9,eA,eB,dY,e7,dK,eC,F8,F3,Array.getElem?_setIfInBounds_ne])
   generalize u0:wr w10 R1 (j1 * 5+2) [.int .i32 (rdInt .i32 4 s4).1] = w11
   have ES:Upd (fun b=>b=R1∨b=rb) w10 w11:=by rw [← u0];exact (Upd.refl _ _).wr _ _ (.inr (.inl rfl))
   have kT:blk w11 R1=some ((A1++(([strV (rdStr true s2).1,.pointer ap8,.int .i32 (rdInt .i32 4 s4).1,.slice none 0 0,.map none]:List Value)++B1)).toArray,86,(0,0)):=by rw [← u0];exact el_blk (o:=2) jL hA1 (Nat.le_of_ble_eq_true rfl)
   have gG:=ES
   have iA:Upd (fun b=>b=vb∨b=rb) w1 w11:=m8.trans' gG fun i hi h=>h.elim (fun h=>by omega) .inr
   have zI:=gG.size
   have pW:Glo ev w11:=hG1.updS iA bW bX
   have fH:=Rdr.stored u0 pL (by omega) fun h=>by have:=(hok _ h).1;first|omega|exact (hok _ h).2 rfl
   obtain ⟨X11,uQ,dM,yS⟩:=el_open (n:=5) kT hA1 rfl
   clear u0
   have BA:RepF (RepS true (d+1)) (szS true (d+1)) fX1_2 (fun b=>(ok b∨w1.heap.size≤b)∧¬ ownB va2 b) w11 (xe2_2) [.int .i32 (rdInt .i32 4 s4).1]:=(RepF_num (by decide)).2 (by rw [wJ,hrd];exact congrArg (fun x=>[x]) (numC_rd 3 (by decide) 4 s4).symm)
   clear hrd
   have AS:(rdL (rdP (d+1) ver true) (dfP (d+1)) ver true [frX1_3] s5).2=none→FB:=fun h=>AR (by rw [rdL_st (by decide) mF,← hs5];exact h)
   have vJ:hasS frX1_3 ver=true:=hasS_t (by show (0:Int)≤ver;omega) (by show (-1:Int) < 0∨ver≤(-1:Int);omega)
   obtain ⟨xe2_3,wK⟩:∃ x,x=(rdF (rdP (d+1) ver true) ver true frX1_3 s5).1:=⟨_,rfl⟩
   have F4:X11[j1 * 5+3]? = some (.slice none 0 0):=by rw [uQ];exact el_cell (R:=0) hA1 (Nat.le_of_ble_eq_true rfl)
   repeat ((first|refine qA ?_|apply qB|refine qC ?_|apply qD|apply qE|apply qF|apply qG|apply qH);try simp (disch:=omega) only [go_sem,↓reduceIte,n0,reduceCtorEq,n1,n2,i3,i4,i5,i6,i7,dM,dZ,e9,eA,eB,dY,e7,dK,eC,F4])
   refine (RCompactArrayLen_fn w11 fH.1 hrok pW.1 hgrb).mono ?_
   rintro _ w12 ⟨rfl,tX,tY⟩
   have qO:=tY.blk_some kT (by omega)
   have nZ:Upd (fun b=>b=R1∨b=rb) w11 w12:=tY.mono (fun _ h=>.inr h)
   have pY:Upd (fun b=>b=vb∨b=rb) w1 w12:=iA.trans' nZ fun i hi h=>h.elim (fun h=>by omega) .inr
   have HP:=nZ.size
   have EP:Glo ev w12:=hG1.updS pY bW bX
   obtain ⟨X12,G4,u7,GC⟩:=el_open (n:=5) qO hA1 rfl
   obtain ⟨s6,hs6⟩:∃ s,s=(rdALen true s5).2:=⟨_,rfl⟩
   rw [← hs6] at tX
   have HN:=rdALen_rng true s5
   generalize hy3:(rdALen true s5).1=y3 at *
   obtain ⟨N3,hN3⟩:∃ N,N=y3.toNat:=⟨_,rfl⟩
   have vP:(rdMany (rd1 (rdP (d+1) ver true) frX1_3.of frX1_3.sub false true) N3 s6).2=none→FB:=fun h=>AS (by rw [rdL_st (by decide) vJ];exact rdL_bad (rdF_listbad rfl (by rw [hy3,← hN3,← hs6];exact h)))
   repeat ((first|refine W.seqR rfl ?_|refine W.seq ?_|refine W.regR rfl ?_|refine W.block ?_|refine W.skip ?_|refine W.ret ?_|refine W.exit ?_);try simp (disch:=omega) only [go_sem,↓reduceIte,n0,reduceCtorEq,n1,n2,i3,i4,i5,i6,i7,u7,dZ,e9,eA,eB,dY,e7,dK,eC])
   refine W.normJ (RowQ [(2,.bool false),(7,.pointer (some ⟨rb,0,none⟩)),(8,.int .i16 ver),(9,.bool true),(10,.pointer (some ⟨vb,0,none⟩)),(26,.int .i32 y2),(25,.slice (some ⟨R1,0,none⟩) N2 q1),(27,.int .i32 j1),(29,.pointer (some ⟨R1,j1 * 5,none⟩)),(35,.int .i32 y3)] 34 (fun va w'=>∃ a0,va = .slice a0 0 0∧Ext w12 w'∧(∀ x,a0=some x→w12.heap.size≤x.block∧x.block < w'.heap.size)∧(N3=0→if nilS frX1_3 ver y3=true then va = .slice none 0 0 else ∃ a,va = .slice (some a) 0 0))) ?_ ?_
   ·by_cases hye:y3=0
    ·repeat ((first|refine qA ?_|apply qB|refine qC ?_|apply qD|apply qE|apply qF|apply qG|apply qH);try simp (disch:=omega) only [go_sem,↓reduceIte,n0,reduceCtorEq,n1,n2,i3,i4,i5,i6,i7,u7,dZ,e9,eA,eB,dY,e7,dK,eC,hye])
     exact ⟨(by simp (disch:=omega) only [go_sem,↓reduceIte,n0,reduceCtorEq,n1,n2,i3,i4,i5,i6,i7,Holds_nil,Holds_cons,dZ,e9,eA,eB,dY,e7,dK,eC,hye]),.slice (some ⟨w12.heap.size,0,none⟩) 0 0,(by simp (disch:=omega) only [go_sem,↓reduceIte,n0,reduceCtorEq,n1,n2,i3,i4,i5,i6,i7,dZ,e9,eA,eB,dY,e7,dK,eC]),some ⟨w12.heap.size,0,none⟩,rfl,(Upd.alloc (Upd.refl _ _) _:Ext _ _),(fun x hx=>by cases hx;exact ⟨Nat.le_refl _,by simp only [World.size_alloc];omega⟩),(fun _=>by rw [nilS_may (by decide) (by show (0:Int)≤ver;omega),decide_eq_false (by omega)];exact ⟨_,rfl⟩)⟩
    ·repeat ((first|refine qA ?_|apply qB|refine qC ?_|apply qD|apply qE|apply qF|apply qG|apply qH);try simp (disch:=omega) only [go_sem,↓reduceIte,n0,reduceCtorEq,n1,n2,i3,i4,i5,i6,i7,u7,dZ,e9,eA,eB,dY,e7,dK,eC,hye])
     exact ⟨(by simp (disch:=omega) only [go_sem,↓reduceIte,n0,reduceCtorEq,n1,n2,i3,i4,i5,i6,i7,Holds_nil,Holds_cons,dZ,e9,eA,eB,dY,e7,dK,eC,hye]),.slice none 0 0,(by simp (disch:=omega) only [go_sem,↓reduceIte,n0,reduceCtorEq,n1,n2,i3,i4,i5,i6,i7,dZ,e9,eA,eB,dY,e7,dK,eC]),none,rfl,Upd.refl _ _,(fun x hx=>by cases hx),(fun _=>by rw [nilS_may (by decide) (by show (0:Int)≤ver;omega),decide_eq_true (by omega)];exact rfl)⟩
   rintro ρ w13 ⟨⟨dP,dV,dW,dX,dO,dR,dQ,dS,dT,dU,-⟩,va,bZ,a0,rfl,qS,AO,BT⟩
   have tZ:Upd (fun b=>b=rb) w12 w13:=qS.mono fun _ h=>h.elim
   have kS:=And.intro (tX.1.upd qS (fun h=>h) (fun _ _ _ h=>h)) (tX.2.upd qS fun h=>h)
   have qP:=tZ.blk_some qO (by omega)
   have tQ:Upd (fun b=>b=R1∨b=rb) w12 w13:=tZ.mono (fun _ h=>.inr h)
   have lA:Upd (fun b=>b=vb∨b=rb) w1 w13:=pY.trans' tQ fun i hi h=>h.elim (fun h=>by omega) .inr
   have zJ:=tQ.size
   have pX:Glo ev w13:=hG1.updS lA bW bX
   obtain ⟨X13,xH,fR,yU⟩:=el_open (n:=5) qP hA1 rfl
   repeat ((first|refine W.seqR rfl ?_|refine W.seq ?_|refine W.regR rfl ?_|refine W.block ?_|refine W.skip ?_|refine W.ret ?_|refine W.exit ?_);try simp (disch:=omega) only [go_sem,↓reduceIte,n0,reduceCtorEq,n1,n2,i3,i4,i5,i6,i7,fR,dP,dV,dW,dX,dO,dR,dQ,dS,dT,dU,bZ])
   refine (ROk_fn w13 kS.1).mono ?_
   rintro _ wz ⟨rfl,hez⟩
   rw [hez]
   clear hez wz
   by_cases oR:s6=none
   ·have hso:s6.isSome=false:=by rw [oR];rfl
    repeat (first|simp (disch:=omega) only [go_sem,↓reduceIte,n0,reduceCtorEq,n1,n2,i3,i4,i5,i6,i7,fR,dP,dV,dW,dX,dO,dR,dQ,dS,dT,dU,bZ,hso]|refine qA ?_|apply qB|refine qC ?_|apply qD|apply qE|apply qF|apply qG|apply qH)
    refine (RComplete_fn w13 kS.1 pX.2).mono ?_
    rintro _ wz ⟨rfl,hez⟩
    rw [hez]
    repeat (first|simp (disch:=omega) only [go_sem,↓reduceIte,n0,reduceCtorEq,n1,n2,i3,i4,i5,i6,i7,fR,dP,dV,dW,dX,dO,dR,dQ,dS,dT,dU,bZ]|refine qA ?_|apply qB|refine qC ?_|apply qD|apply qE|apply qF|apply qG|apply qH)
    rw [errV_none oR]
    exact ReadQ.bad (Eq.mp hFB (vP (by rw [oR];exact rdMany_none rd1P_none _))) (hbase.trans' lA fun i hi h=>h.elim id fun h=>by omega)
   have oU:s6.isSome=true:=isSome_some oR
   try simp (disch:=omega) only [go_sem,↓reduceIte,n0,reduceCtorEq,n1,n2,i3,i4,i5,i6,i7,fR,dP,dV,dW,dX,dO,dR,dQ,dS,dT,dU,bZ,oU]
   repeat ((first|refine W.seqR rfl ?_|refine W.seq ?_|refine W.regR rfl ?_|refine W.block ?_|refine W.skip ?_|refine W.ret ?_|refine W.exit ?_);try simp (disch:=omega) only [go_sem,↓reduceIte,n0,reduceCtorEq,n1,n2,i3,i4,i5,i6,i7,fR,dP,dV,dW,dX,dO,dR,dQ,dS,dT,dU,bZ,oU])
   refine W.condK ?_
   try simp (disch:=omega) only [go_sem,↓reduceIte,n0,reduceCtorEq,n1,n2,i3,i4,i5,i6,i7,fR,dP,dV,dW,dX,dO,dR,dQ,dS,dT,dU,bZ,oU]
   repeat ((first|refine W.seqR rfl ?_|refine W.seq ?_|refine W.regR rfl ?_|refine W.block ?_|refine W.skip ?_|refine W.ret ?_|refine W.exit ?_);try simp (disch:=omega) only [go_sem,↓reduceIte,n0,reduceCtorEq,n1,n2,i3,i4,i5,i6,i7,fR,dP,dV,dW,dX,dO,dR,dQ,dS,dT,dU,bZ,oU,slBase_00])
   refine W.normJ (RowQ [(2,.bool false),(7,.pointer (some ⟨rb,0,none⟩)),(8,.int .i16 ver),(9,.bool true),(10,.pointer (some ⟨vb,0,none⟩)),(26,.int .i32 y2),(25,.slice (some ⟨R1,0,none⟩) N2 q1),(27,.int .i32 j1),(29,.pointer (some ⟨R1,j1 * 5,none⟩)),(35,.int .i32 y3)] 34 (fun va w'=>LstI RT (rd1 (rdP (d+1) ver true) frX1_3.of frX1_3.sub false true) (Rep1 (RepS true (d+1)) frX1_3.of frX1_3.sub) 19 91 [.string ByteArray.empty,.int .u8 0,.int .u8 0,.int .u8 0,.int .u8 0,.int .u8 0,.int .u8 0,.int .u8 0,.int .u8 0,.int .u8 0,.int .u8 0,.int .u8 0,.int .u8 0,.int .u8 0,.int .u8 0,.int .u8 0,.int .u8 0,.slice none 0 0,.map none] w12.heap.size N3 ok (fun b=>(ok b∨w1.heap.size≤b)∧¬ ownB va2 b) rb w12 s6 va 0 s6 [] [] w'∧(N3=0→if nilS frX1_3 ver y3=true then va = .slice none 0 0 else ∃ a,va = .slice (some a) 0 0))) ?_ ?_
   ·by_cases hy0:(0:Int) < y3
    ·have hyv:Value.int .i32 y3 = .int .i32 ((N3:Nat):Int):=by rw [show y3=((N3:Nat):Int) by omega]
     repeat ((first|refine qA ?_|apply qB|refine qC ?_|apply qD|apply qE|apply qF|apply qG|apply qH);try simp (disch:=omega) only [go_sem,↓reduceIte,n0,reduceCtorEq,n1,n2,i3,i4,i5,i6,i7,fR,dP,dV,dW,dX,dO,dR,dQ,dS,dT,dU,bZ])
     refine wp_appendZ (m:=N3) utQ_84 utQ_21 inQ_91 (by decide) (by first|rfl|simp (disch:=omega) only [go_sem,↓reduceIte,n0,reduceCtorEq,n1,n2,i3,i4,i5,i6,i7,dP,dV,dW,dX,dO,dR,dQ,dS,dT,dU,bZ]) (by first|exact hyv|(simp (disch:=omega) only [go_sem,↓reduceIte,n0,reduceCtorEq,n1,n2,i3,i4,i5,i6,i7,dP,dV,dW,dX,dO,dR,dQ,dS,dT,dU,bZ];exact hyv)) (by omega) (by omega) (by decide) ?_
     intro q rest hq1
     have hEw:Ext w13 (w13.drew.alloc (.cells (zs [.string ByteArray.empty,.int .u8 0,.int .u8 0,.int .u8 0,.int .u8 0,.int .u8 0,.int .u8 0,.int .u8 0,.int .u8 0,.int .u8 0,.int .u8 0,.int .u8 0,.int .u8 0,.int .u8 0,.int .u8 0,.int .u8 0,.int .u8 0,.slice none 0 0,.map none] N3++rest).toArray 91)):=(Upd.refl _ _).drew.alloc _
     repeat (first|simp (disch:=omega) only [go_sem,↓reduceIte,n0,reduceCtorEq,n1,n2,i3,i4,i5,i6,i7,fR,dP,dV,dW,dX,dO,dR,dQ,dS,dT,dU,bZ]|refine qA ?_|apply qB|refine qC ?_|apply qD|apply qE|apply qF|apply qG|apply qH)
     exact ⟨(by simp (disch:=omega) only [go_sem,↓reduceIte,n0,reduceCtorEq,n1,n2,i3,i4,i5,i6,i7,Holds_nil,Holds_cons,dP,dV,dW,dX,dO,dR,dQ,dS,dT,dU,bZ]),.slice (some ⟨w13.heap.size,0,none⟩) N3 q,(by simp (disch:=omega) only [go_sem,↓reduceIte,n0,reduceCtorEq,n1,n2,i3,i4,i5,i6,i7,dP,dV,dW,dX,dO,dR,dQ,dS,dT,dU,bZ]),LstI.start (RowJ.start (by omega) hq1 (by show w12.heap.size≤w13.drew.heap.size;rw [size_drew];omega) (blk_alloc_new rfl)) ⟨kS.1.upd hEw (fun h=>h) (fun _ _ _ h=>h),kS.2.upd hEw fun h=>h⟩ (tZ.trans (hEw.mono fun _ h=>h.elim)),fun h0=>by omega⟩
    ·repeat ((first|refine qA ?_|apply qB|refine qC ?_|apply qD|apply qE|apply qF|apply qG|apply qH);try simp (disch:=omega) only [go_sem,↓reduceIte,n0,reduceCtorEq,n1,n2,i3,i4,i5,i6,i7,fR,dP,dV,dW,dX,dO,dR,dQ,dS,dT,dU,bZ])
     exact ⟨(by simp (disch:=omega) only [go_sem,↓reduceIte,n0,reduceCtorEq,n1,n2,i3,i4,i5,i6,i7,Holds_nil,Holds_cons,dP,dV,dW,dX,dO,dR,dQ,dS,dT,dU,bZ]),.slice a0 0 0,(by simp (disch:=omega) only [go_sem,↓reduceIte,n0,reduceCtorEq,n1,n2,i3,i4,i5,i6,i7,dP,dV,dW,dX,dO,dR,dQ,dS,dT,dU,bZ,slBase_00]),LstI.start (RowJ.zero (by omega) AO) kS (tZ),BT⟩
   rintro ρ w14 ⟨⟨sF,sL,sM,sN,sE,sH,sG,sI,sJ,sK,-⟩,va3,bZ,hL3,vT⟩
   repeat ((first|refine qA ?_|apply qB|refine qC ?_|apply qD|apply qE|apply qF|apply qG|apply qH);try simp (disch:=omega) only [go_sem,↓reduceIte,n0,reduceCtorEq,n1,n2,i3,i4,i5,i6,i7,fR,sF,sL,sM,sN,sE,sH,sG,sI,sJ,sK,bZ])
   refine W.exitRJ 6 (EndQ [(2,.bool false),(7,.pointer (some ⟨rb,0,none⟩)),(8,.int .i16 ver),(9,.bool true),(10,.pointer (some ⟨vb,0,none⟩)),(26,.int .i32 y2),(25,.slice (some ⟨R1,0,none⟩) N2 q1),(27,.int .i32 j1),(29,.pointer (some ⟨R1,j1 * 5,none⟩)),(35,.int .i32 y3),(34,va3)] (fun w'=>∃ s xs css,LstI RT (rd1 (rdP (d+1) ver true) frX1_3.of frX1_3.sub false true) (Rep1 (RepS true (d+1)) frX1_3.of frX1_3.sub) 19 91 [.string ByteArray.empty,.int .u8 0,.int .u8 0,.int .u8 0,.int .u8 0,.int .u8 0,.int .u8 0,.int .u8 0,.int .u8 0,.int .u8 0,.int .u8 0,.int .u8 0,.int .u8 0,.int .u8 0,.int .u8 0,.int .u8 0,.int .u8 0,.slice none 0 0,.map none] w12.heap.size N3 ok (fun b=>(ok b∨w1.heap.size≤b)∧¬ ownB va2 b) rb w12 s6 va3 N3 s xs css w')) (W.loop (LoopQ [(2,.bool false),(7,.pointer (some ⟨rb,0,none⟩)),(8,.int .i16 ver),(9,.bool true),(10,.pointer (some ⟨vb,0,none⟩)),(26,.int .i32 y2),(25,.slice (some ⟨R1,0,none⟩) N2 q1),(27,.int .i32 j1),(29,.pointer (some ⟨R1,j1 * 5,none⟩)),(35,.int .i32 y3),(34,va3)] 36 (fun j w'=>∃ s xs css,LstI RT (rd1 (rdP (d+1) ver true) frX1_3.of frX1_3.sub false true) (Rep1 (RepS true (d+1)) frX1_3.of frX1_3.sub) 19 91 [.string ByteArray.empty,.int .u8 0,.int .u8 0,.int .u8 0,.int .u8 0,.int .u8 0,.int .u8 0,.int .u8 0,.int .u8 0,.int .u8 0,.int .u8 0,.int .u8 0,.int .u8 0,.int .u8 0,.int .u8 0,.int .u8 0,.int .u8 0,.slice none 0 0,.map none] w12.heap.size N3 ok (fun b=>(ok b∨w1.heap.size≤b)∧¬ ownB va2 b) rb w12 s6 va3 j s xs css w')) (fun ρ _=>N3 - (RowKit.intOf (ρ 36)).toNat) ?_ ?_) ?_
   ·exact ⟨(by simp (disch:=omega) only [go_sem,↓reduceIte,n0,reduceCtorEq,n1,n2,i3,i4,i5,i6,i7,Holds_nil,Holds_cons,sF,sL,sM,sN,sE,sH,sG,sI,sJ,sK,bZ]),0,(by simp (disch:=omega) only [go_sem,↓reduceIte,n0,reduceCtorEq,n1,n2,i3,i4,i5,i6,i7,sF,sL,sM,sN,sE,sH,sG,sI,sJ,sK,bZ];all_goals rfl),s6,[],[],hL3⟩
   ·rintro ρ w15 ⟨⟨cR,d8,d9,dA,cQ,cW,cV,cX,cY,cZ,tA,-⟩,j2,dB,s7,xs3,css3,hL3⟩
    have hj3:=hL3.le
    have lL:=hL3.rd
    have lZ:Upd (fun b=>b=vb∨b=rb) w1 w15:=pY.trans' hL3.upd fun i _ h=>.inr h
    have zK:=hL3.upd.size
    have wT:Glo ev w15:=hG1.updS lZ bW bX
    by_cases hlt3:j2 < N3
    ·obtain ⟨R2,q2,B2,fK,yM,yK,hA2,jR,lK⟩:=hL3.row.next hlt3
     have yO:=blk_lt jR
     generalize css3.flatten=A2 at hA2 jR lK
     replace bZ:ρ 34 = .slice (some ⟨R2,0,none⟩) N3 q2:=tA.trans fK
     have hown2:∀ b,ownB va3 b→w12.heap.size≤b∧b < w15.heap.size:=fun b h=>hL3.row.own h
     have iI:∀ b,(fun b=>(fun b=>(ok b∨w1.heap.size≤b)∧¬ ownB va2 b) b∧¬ ownB va3 b) b→¬ (b=R2∨b=rb):=fun b hk h=>h.elim (fun e=>hk.2 ⟨_,_,_,fK,e⟩) (fun e=>dL b hk.1 (.inr e))
     obtain ⟨X15,yR,iJ,yV⟩:=el_open (n:=19) jR hA2 rfl
     repeat ((first|refine qA ?_|apply qB|refine qC ?_|apply qD|apply qE|apply qF|apply qG|apply qH);try simp (disch:=omega) only [go_sem,↓reduceIte,n0,reduceCtorEq,n1,n2,i3,i4,i5,i6,i7,iJ,cR,d8,d9,dA,cQ,cW,cV,cX,cY,cZ,bZ,dB])
     refine (DefaultEX0_fn w15 jR hA2).mono ?_
     rintro _ w16 ⟨CK,lT⟩
     have rO:=And.intro (lL.1.upd lT (by omega) (fun b _ hk e=>by have:=(hok b hk).1;omega)) (lL.2.upd lT (by omega))
     have gH:Upd (fun b=>b=R2∨b=rb) w15 w16:=lT.mono (fun _ h=>.inl h)
     have m9:Upd (fun b=>b=vb∨b=rb) w1 w16:=lZ.trans' gH fun i hi h=>h.elim (fun h=>by omega) .inr
     have D0:=gH.size
     have yI:Glo ev w16:=hG1.updS m9 bW bX
     obtain ⟨X16,AG,tK,AN⟩:=el_open (n:=19) CK hA2 rfl
     have AT:(rdL (rdP d ver true) (dfP d) ver true [fX0_0,fX0_1,fX0_2] s7).2=none→FB:=fun h=>vP (hL3.bad hlt3 rd1P_none (by show (rd1 (rdP (d+1) ver true) 10 fs_X0 false true s7).2=none;rw [rd1_part];exact rdP_bad h))
     have vK:hasS fX0_0 ver=true:=hasS_t (by show (8:Int)≤ver;omega) (by show (9:Int) < 0∨ver≤(9:Int);omega)
     obtain ⟨xe2e3_0,wL⟩:∃ x,x=(rdF (rdP d ver true) ver true fX0_0 s7).1:=⟨_,rfl⟩
     repeat ((first|refine qA ?_|apply qB|refine qC ?_|apply qD|apply qE|apply qF|apply qG|apply qH);try simp (disch:=omega) only [go_sem,↓reduceIte,n0,reduceCtorEq,n1,n2,i3,i4,i5,i6,i7,tK,cR,d8,d9,dA,cQ,cW,cV,cX,cY,cZ,bZ,dB])
     have hmay:mayS fX0_0 ver=false:=mayS_no (by show (-1:Int) < 0∨ver < (-1:Int);omega)
     have hrd:rdF (rdP d ver true) ver true fX0_0 s7=_:=rdF_text rfl hmay
     refine (RCompactString_fn w16 rO.1 hrok yI.1 hgrb).mono ?_
     rintro _ w17 ⟨rfl,mS,C4⟩
     have CL:=C4.blk_some CK (by omega)
     have fM:Upd (fun b=>b=R2∨b=rb) w16 w17:=C4.mono (fun _ h=>.inr h)
     have m4:Upd (fun b=>b=vb∨b=rb) w1 w17:=m9.trans' fM fun i hi h=>h.elim (fun h=>by omega) .inr
     have zL:=fM.size
     have wU:Glo ev w17:=hG1.updS m4 bW bX
     obtain ⟨X17,uR,nV,yW⟩:=el_open (n:=19) CL hA2 rfl
     have hst:(rdF (rdP d ver true) ver true fX0_0 s7).2=(rdStr true s7).2:=by first|(rw [hrd];rfl)|rw [hrd]
     obtain ⟨s8,hs8⟩:∃ s,s=(rdF (rdP d ver true) ver true fX0_0 s7).2:=⟨_,rfl⟩
     rw [← hst,← hs8] at mS
     clear hst
     have JL:j2 * 19+1≤X17.size:=by omega
     have F5:X17[j2 * 19+17]? = some (.slice none 0 0):=by rw [uR];exact el_cell (R:=0) hA2 (Nat.le_of_ble_eq_true rfl)
     repeat ((first|refine qA ?_|apply qB|refine qC ?_|apply qD|apply qE|apply qF|apply qG|apply qH);try simp (disch:=omega) only [go_sem,↓reduceIte,n0,reduceCtorEq,n1,n2,i3,i4,i5,i6,i7,nV,cR,d8,d9,dA,cQ,cW,cV,cX,cY,cZ,bZ,dB,JL,F5,Array.getElem?_setIfInBounds_ne])
     generalize DS:wr w17 R2 (j2 * 19) [strV (rdStr true s7).1] = w18
     have IG:Upd (fun b=>b=R2∨b=rb) w17 w18:=by rw [← DS];exact (Upd.refl _ _).wr _ _ (.inr (.inl rfl))
     have CM:blk w18 R2=some ((A2++(([strV (rdStr true s7).1,.int .u8 0,.int .u8 0,.int .u8 0,.int .u8 0,.int .u8 0,.int .u8 0,.int .u8 0,.int .u8 0,.int .u8 0,.int .u8 0,.int .u8 0,.int .u8 0,.int .u8 0,.int .u8 0,.int .u8 0,.int .u8 0,.slice none 0 0,.map none]:List Value)++B2)).toArray,91,(0,0)):=by rw [← DS];exact el_blk0 CL hA2 (Nat.le_of_ble_eq_true rfl)
     have fS:=IG
     have lB:Upd (fun b=>b=vb∨b=rb) w1 w18:=m4.trans' fS fun i hi h=>h.elim (fun h=>by omega) .inr
     have zM:=fS.size
     have wV:Glo ev w18:=hG1.updS lB bW bX
     have mT:=Rdr.stored DS mS (by omega) fun h=>by have:=(hok _ h).1;first|omega|exact (hok _ h).2 rfl
     obtain ⟨X18,AH,wG,DJ⟩:=el_open (n:=19) CM hA2 rfl
     clear DS
     have BC:RepF (RepS true d) (szS true d) fX0_0 (fun b=>(fun b=>(ok b∨w1.heap.size≤b)∧¬ ownB va2 b) b∧¬ ownB va3 b) w18 (xe2e3_0) [strV (rdStr true s7).1]:=(RepF_text rfl (by decide)).2 (by rw [wL,hrd];rfl)
     clear hrd
     have AU:(rdL (rdP d ver true) (dfP d) ver true [fX0_1,fX0_2] s8).2=none→FB:=fun h=>AT (by rw [rdL_st (by decide) vK,← hs8];exact h)
     obtain ⟨xe2e3_1,wM⟩:∃ x,x=dfF (dfP d) fX0_1:=⟨_,rfl⟩
     have BD:RepF (RepS true d) (szS true d) fX0_1 (fun b=>(fun b=>(ok b∨w1.heap.size≤b)∧¬ ownB va2 b) b∧¬ ownB va3 b) w18 (xe2e3_1) [.int .u8 0,.int .u8 0,.int .u8 0,.int .u8 0,.int .u8 0,.int .u8 0,.int .u8 0,.int .u8 0,.int .u8 0,.int .u8 0,.int .u8 0,.int .u8 0,.int .u8 0,.int .u8 0,.int .u8 0,.int .u8 0]:=by rw [wM];exact (RepF_uuid rfl).2 rfl
     have vM:hasS fX0_1 ver=false:=hasS_f (by show ver < 10∨(0≤(-1:Int)∧(-1:Int) < ver);omega)
     have AV:(rdL (rdP d ver true) (dfP d) ver true [fX0_2] s8).2=none→FB:=fun h=>AU (by rw [rdL_no vM];exact h)
     have vN:hasS fX0_2 ver=true:=hasS_t (by show (0:Int)≤ver;omega) (by show (-1:Int) < 0∨ver≤(-1:Int);omega)
     obtain ⟨xe2e3_2,wN⟩:∃ x,x=(rdF (rdP d ver true) ver true fX0_2 s8).1:=⟨_,rfl⟩
     have JG:X18[j2 * 19+17]? = some (.slice none 0 0):=by rw [AH];exact el_cell (R:=0) hA2 (Nat.le_of_ble_eq_true rfl)
     repeat ((first|refine qA ?_|apply qB|refine qC ?_|apply qD|apply qE|apply qF|apply qG|apply qH);try simp (disch:=omega) only [go_sem,↓reduceIte,n0,reduceCtorEq,n1,n2,i3,i4,i5,i6,i7,wG,cR,d8,d9,dA,cQ,cW,cV,cX,cY,cZ,bZ,dB,JG])
     refine (RCompactArrayLen_fn w18 mT.1 hrok wV.1 hgrb).mono ?_
     rintro _ w19 ⟨rfl,m5,GT⟩
     have CN:=GT.blk_some CM (by omega)
     have fB:Upd (fun b=>b=R2∨b=rb) w18 w19:=GT.mono (fun _ h=>.inr h)
     have lM:Upd (fun b=>b=vb∨b=rb) w1 w19:=lB.trans' fB fun i hi h=>h.elim (fun h=>by omega) .inr
     have zN:=fB.size
     have tO:Glo ev w19:=hG1.updS lM bW bX
     obtain ⟨X19,AI,kW,DK⟩:=el_open (n:=19) CN hA2 rfl
     obtain ⟨s9,hs9⟩:∃ s,s=(rdALen true s8).2:=⟨_,rfl⟩
     rw [← hs9] at m5
     have HO:=rdALen_rng true s8
     generalize hy4:(rdALen true s8).1=y4 at *
     obtain ⟨N4,hN4⟩:∃ N,N=y4.toNat:=⟨_,rfl⟩
     have BG:(rdMany (rd1 (rdP d ver true) fX0_2.of fX0_2.sub false true) N4 s9).2=none→FB:=fun h=>AV (by rw [rdL_st (by decide) vN];exact rdL_bad (rdF_listbad rfl (by rw [hy4,← hN4,← hs9];exact h)))
     repeat ((first|refine W.seqR rfl ?_|refine W.seq ?_|refine W.regR rfl ?_|refine W.block ?_|refine W.skip ?_|refine W.ret ?_|refine W.exit ?_);try simp (disch:=omega) only [go_sem,↓reduceIte,n0,reduceCtorEq,n1,n2,i3,i4,i5,i6,i7,kW,cR,d8,d9,dA,cQ,cW,cV,cX,cY,cZ,bZ,dB])
     refine (ROk_fn w19 m5.1).mono ?_
     rintro _ wz ⟨rfl,hez⟩
     rw [hez]
     clear hez wz
     by_cases oS:s9=none
     ·have hso:s9.isSome=false:=by rw [oS];rfl
      repeat (first|simp (disch:=omega) only [go_sem,↓reduceIte,n0,reduceCtorEq,n1,n2,i3,i4,i5,i6,i7,kW,cR,d8,d9,dA,cQ,cW,cV,cX,cY,cZ,bZ,dB,hso]|refine qA ?_|apply qB|refine qC ?_|apply qD|apply qE|apply qF|apply qG|apply qH)
      refine (RComplete_fn w19 m5.1 tO.2).mono ?_
      rintro _ wz ⟨rfl,hez⟩
      rw [hez]
      repeat (first|simp (disch:=omega) only [go_sem,↓reduceIte,n0,reduceCtorEq,n1,n2,i3,i4,i5,i6,i7,kW,cR,d8,d9,dA,cQ,cW,cV,cX,cY,cZ,bZ,dB]|refine qA ?_|apply qB|refine qC ?_|apply qD|apply qE|apply qF|apply qG|apply qH)
      rw [errV_none oS]
      exact ReadQ.bad (Eq.mp hFB (BG (by rw [oS];exact rdMany_none rd1P_none _))) (hbase.trans' lM fun i hi h=>h.elim id fun h=>by omega)
     have oV:s9.isSome=true:=isSome_some oS
     try simp (disch:=omega) only [go_sem,↓reduceIte,n0,reduceCtorEq,n1,n2,i3,i4,i5,i6,i7,kW,cR,d8,d9,dA,cQ,cW,cV,cX,cY,cZ,bZ,dB,oV]
     repeat ((first|refine W.seqR rfl ?_|refine W.seq ?_|refine W.regR rfl ?_|refine W.block ?_|refine W.skip ?_|refine W.ret ?_|refine W.exit ?_);try simp (disch:=omega) only [go_sem,↓reduceIte,n0,reduceCtorEq,n1,n2,i3,i4,i5,i6,i7,kW,cR,d8,d9,dA,cQ,cW,cV,cX,cY,cZ,bZ,dB,oV])
     refine W.condK ?_
     try simp (disch:=omega) only [go_sem,↓reduceIte,n0,reduceCtorEq,n1,n2,i3,i4,i5,i6,i7,kW,cR,d8,d9,dA,cQ,cW,cV,cX,cY,cZ,bZ,dB,oV]
     repeat ((first|refine W.seqR rfl ?_|refine W.seq ?_|refine W.regR rfl ?_|refine W.block ?_|refine W.skip ?_|refine W.ret ?_|refine W.exit ?_);try simp (disch:=omega) only [go_sem,↓reduceIte,n0,reduceCtorEq,n1,n2,i3,i4,i5,i6,i7,kW,cR,d8,d9,dA,cQ,cW,cV,cX,cY,cZ,bZ,dB,oV,slBase_00])
     refine W.normJ (RowQ [(2,.bool false),(7,.pointer (some ⟨rb,0,none⟩)),(8,.int .i16 ver),(9,.bool true),(10,.pointer (some ⟨vb,0,none⟩)),(26,.int .i32 y2),(25,.slice (some ⟨R1,0,none⟩) N2 q1),(27,.int .i32 j1),(29,.pointer (some ⟨R1,j1 * 5,none⟩)),(35,.int .i32 y3),(34,.slice (some ⟨R2,0,none⟩) N3 q2),(36,.int .i32 j2),(38,.pointer (some ⟨R2,j2 * 19,none⟩)),(43,.int .i32 y4)] 42 (fun va w'=>LstI RT (rd1 (rdP d ver true) fX0_2.of fX0_2.sub false true) (Rep1 (RepS true d) fX0_2.of fX0_2.sub) 1 21 [.int .i32 0] w19.heap.size N4 ok (fun b=>(fun b=>(ok b∨w1.heap.size≤b)∧¬ ownB va2 b) b∧¬ ownB va3 b) rb w19 s9 va 0 s9 [] [] w'∧(N4=0→if nilS fX0_2 ver y4=true then va = .slice none 0 0 else ∃ a,va = .slice (some a) 0 0))) ?_ ?_
     ·by_cases hy0:(0:Int) < y4
      ·have hyv:Value.int .i32 y4 = .int .i32 ((N4:Nat):Int):=by rw [show y4=((N4:Nat):Int) by omega]
       repeat ((first|refine qA ?_|apply qB|refine qC ?_|apply qD|apply qE|apply qF|apply qG|apply qH);try simp (disch:=omega) only [go_sem,↓reduceIte,n0,reduceCtorEq,n1,n2,i3,i4,i5,i6,i7,kW,cR,d8,d9,dA,cQ,cW,cV,cX,cY,cZ,bZ,dB])
       refine wp_appendZ (m:=N4) utQ_77 utQ_21 inQ_21 (by decide) (by first|rfl|simp (disch:=omega) only [go_sem,↓reduceIte,n0,reduceCtorEq,n1,n2,i3,i4,i5,i6,i7,cR,d8,d9,dA,cQ,cW,cV,cX,cY,cZ,bZ,dB]) (by first|exact hyv|(simp (disch:=omega) only [go_sem,↓reduceIte,n0,reduceCtorEq,n1,n2,i3,i4,i5,i6,i7,cR,d8,d9,dA,cQ,cW,cV,cX,cY,cZ,bZ,dB];exact hyv)) (by omega) (by omega) (by decide) ?_
       intro q rest hq1
       have hEw:Ext w19 (w19.drew.alloc (.cells (zs [.int .i32 0] N4++rest).toArray 21)):=(Upd.refl _ _).drew.alloc _
       repeat (first|simp (disch:=omega) only [go_sem,↓reduceIte,n0,reduceCtorEq,n1,n2,i3,i4,i5,i6,i7,kW,cR,d8,d9,dA,cQ,cW,cV,cX,cY,cZ,bZ,dB]|refine qA ?_|apply qB|refine qC ?_|apply qD|apply qE|apply qF|apply qG|apply qH)
       exact ⟨(by simp (disch:=omega) only [go_sem,↓reduceIte,n0,reduceCtorEq,n1,n2,i3,i4,i5,i6,i7,Holds_nil,Holds_cons,cR,d8,d9,dA,cQ,cW,cV,cX,cY,cZ,bZ,dB]),.slice (some ⟨w19.heap.size,0,none⟩) N4 q,(by simp (disch:=omega) only [go_sem,↓reduceIte,n0,reduceCtorEq,n1,n2,i3,i4,i5,i6,i7,cR,d8,d9,dA,cQ,cW,cV,cX,cY,cZ,bZ,dB]),LstI.start (RowJ.start (by omega) hq1 (by show w19.heap.size≤w19.drew.heap.size;rw [size_drew];omega) (blk_alloc_new rfl)) ⟨m5.1.upd hEw (fun h=>h) (fun _ _ _ h=>h),m5.2.upd hEw fun h=>h⟩ (hEw.mono fun _ h=>h.elim),fun h0=>by omega⟩
      ·repeat ((first|refine qA ?_|apply qB|refine qC ?_|apply qD|apply qE|apply qF|apply qG|apply qH);try simp (disch:=omega) only [go_sem,↓reduceIte,n0,reduceCtorEq,n1,n2,i3,i4,i5,i6,i7,kW,cR,d8,d9,dA,cQ,cW,cV,cX,cY,cZ,bZ,dB])
       exact ⟨(by simp (disch:=omega) only [go_sem,↓reduceIte,n0,reduceCtorEq,n1,n2,i3,i4,i5,i6,i7,Holds_nil,Holds_cons,cR,d8,d9,dA,cQ,cW,cV,cX,cY,cZ,bZ,dB]),.slice none 0 0,(by simp (disch:=omega) only [go_sem,↓reduceIte,n0,reduceCtorEq,n1,n2,i3,i4,i5,i6,i7,cR,d8,d9,dA,cQ,cW,cV,cX,cY,cZ,bZ,dB,slBase_00]),LstI.start (RowJ.zero (by omega) (fun _ h=>by cases h)) m5 (Upd.refl _ _),fun _=>by rw [nilS_plain (by decide) (by omega)];exact rfl⟩
     rintro ρ w20 ⟨⟨sQ,t2,t6,t7,sO,sS,sR,sU,sV,sX,sW,sY,sZ,t1,-⟩,va4,fD,hL4,vV⟩
     repeat ((first|refine qA ?_|apply qB|refine qC ?_|apply qD|apply qE|apply qF|apply qG|apply qH);try simp (disch:=omega) only [go_sem,↓reduceIte,n0,reduceCtorEq,n1,n2,i3,i4,i5,i6,i7,kW,sQ,t2,t6,t7,sO,sS,sR,sU,sV,sX,sW,sY,sZ,t1,fD])
     refine W.exitRJ 8 (EndQ [(2,.bool false),(7,.pointer (some ⟨rb,0,none⟩)),(8,.int .i16 ver),(9,.bool true),(10,.pointer (some ⟨vb,0,none⟩)),(26,.int .i32 y2),(25,.slice (some ⟨R1,0,none⟩) N2 q1),(27,.int .i32 j1),(29,.pointer (some ⟨R1,j1 * 5,none⟩)),(35,.int .i32 y3),(34,.slice (some ⟨R2,0,none⟩) N3 q2),(36,.int .i32 j2),(38,.pointer (some ⟨R2,j2 * 19,none⟩)),(43,.int .i32 y4),(42,va4)] (fun w'=>∃ s xs css,LstI RT (rd1 (rdP d ver true) fX0_2.of fX0_2.sub false true) (Rep1 (RepS true d) fX0_2.of fX0_2.sub) 1 21 [.int .i32 0] w19.heap.size N4 ok (fun b=>(fun b=>(ok b∨w1.heap.size≤b)∧¬ ownB va2 b) b∧¬ ownB va3 b) rb w19 s9 va4 N4 s xs css w')) (W.loop (LoopQ [(2,.bool false),(7,.pointer (some ⟨rb,0,none⟩)),(8,.int .i16 ver),(9,.bool true),(10,.pointer (some ⟨vb,0,none⟩)),(26,.int .i32 y2),(25,.slice (some ⟨R1,0,none⟩) N2 q1),(27,.int .i32 j1),(29,.pointer (some ⟨R1,j1 * 5,none⟩)),(35,.int .i32 y3),(34,.slice (some ⟨R2,0,none⟩) N3 q2),(36,.int .i32 j2),(38,.pointer (some ⟨R2,j2 * 19,none⟩)),(43,.int .i32 y4),(42,va4)] 44 (fun j w'=>∃ s xs css,LstI RT (rd1 (rdP d ver true) fX0_2.of fX0_2.sub false true) (Rep1 (RepS true d) fX0_2.of fX0_2.sub) 1 21 [.int .i32 0] w19.heap.size N4 ok (fun b=>(fun b=>(ok b∨w1.heap.size≤b)∧¬ ownB va2 b) b∧¬ ownB va3 b) rb w19 s9 va4 j s xs css w')) (fun ρ _=>N4 - (RowKit.intOf (ρ 44)).toNat) ?_ ?_) ?_
     ·exact ⟨(by simp (disch:=omega) only [go_sem,↓reduceIte,n0,reduceCtorEq,n1,n2,i3,i4,i5,i6,i7,Holds_nil,Holds_cons,sQ,t2,t6,t7,sO,sS,sR,sU,sV,sX,sW,sY,sZ,t1,fD]),0,(by simp (disch:=omega) only [go_sem,↓reduceIte,n0,reduceCtorEq,n1,n2,i3,i4,i5,i6,i7,sQ,t2,t6,t7,sO,sS,sR,sU,sV,sX,sW,sY,sZ,t1,fD];all_goals rfl),s9,[],[],hL4⟩
     ·rintro ρ w21 ⟨⟨gO,gY,gZ,hC,gN,gQ,gP,gR,gS,gU,gT,gV,gW,gX,tB,-⟩,j3,hH,s10,xs4,css4,hL4⟩
      have hj4:=hL4.le
      have xW:=hL4.rd
      have qV:Upd (fun b=>b=vb∨b=rb) w1 w21:=lM.trans' hL4.upd fun i _ h=>.inr h
      have FI:=hL4.upd.size
      have DB:Glo ev w21:=hG1.updS qV bW bX
      by_cases vQ:j3 < N4
      ·obtain ⟨R3,q3,B3,oW,FZ,FY,hA3,E6,vW⟩:=hL4.row.next vQ
       have G0:=blk_lt E6
       generalize css4.flatten=A3 at hA3 E6 vW
       rw [Nat.mul_one] at hA3
       replace fD:ρ 42 = .slice (some ⟨R3,0,none⟩) N4 q3:=tB.trans oW
       have hown3:∀ b,ownB va4 b→w19.heap.size≤b∧b < w21.heap.size:=fun b h=>hL4.row.own h
       have GQ:∀ b,(fun b=>(fun b=>(fun b=>(ok b∨w1.heap.size≤b)∧¬ ownB va2 b) b∧¬ ownB va3 b) b∧¬ ownB va4 b) b→¬ (b=R3∨b=rb):=fun b hk h=>h.elim (fun e=>hk.2 ⟨_,_,_,oW,e⟩) (fun e=>iI b hk.1 (.inr e))
       obtain ⟨X21,J2,FC,J8⟩:=el_open (n:=1) E6 hA3 rfl
       repeat ((first|refine qA ?_|apply qB|refine qC ?_|apply qD|apply qE|apply qF|apply qG|apply qH);try simp (disch:=omega) only [go_sem,↓reduceIte,n0,reduceCtorEq,n1,n2,i3,i4,i5,i6,i7,FC,gO,gY,gZ,hC,gN,gQ,gP,gR,gS,gU,gT,gV,gW,gX,fD,hH])
       refine (Int32_fn w21 xW.1 hrok DB.1 hgrb).mono ?_
       rintro _ w22 ⟨rfl,pN,tI⟩
       have yE:=tI.blk_some E6 (by omega)
       have mP:Upd (fun b=>b=R3∨b=rb) w21 w22:=tI.mono (fun _ h=>.inr h)
       have nY:Upd (fun b=>b=vb∨b=rb) w1 w22:=qV.trans' mP fun i hi h=>h.elim (fun h=>by omega) .inr
       have EA:=mP.size
       have zX:Glo ev w22:=hG1.updS nY bW bX
       obtain ⟨X22,G5,CT,GD⟩:=el_open (n:=1) yE hA3 rfl
       obtain ⟨s11,qN⟩:∃ s,s=(rdInt .i32 4 s10).2:=⟨_,rfl⟩
       rw [← qN] at pN
       have hrE:(rd1 (rdP d ver true) fX0_2.of fX0_2.sub false true) s10=((.num (rdInt .i32 4 s10).1),s11):=by rw [qN];exact rd1_num 3 (by decide)
       have JP:j3+1≤X22.size:=by omega
       repeat ((first|refine qA ?_|apply qB|refine qC ?_|apply qD|apply qE|apply qF|apply qG|apply qH);try simp (disch:=omega) only [go_sem,↓reduceIte,n0,reduceCtorEq,n1,n2,i3,i4,i5,i6,i7,CT,gO,gY,gZ,hC,gN,gQ,gP,gR,gS,gU,gT,gV,gW,gX,fD,hH,JP])
       generalize lY:wr w22 R3 (j3) [.int .i32 (rdInt .i32 4 s10).1] = w23
       have xA:Upd (fun b=>b=R3∨b=rb) w22 w23:=by rw [← lY];exact (Upd.refl _ _).wr _ _ (.inr (.inl rfl))
       have CS:blk w23 R3=some ((A3++(([.int .i32 (rdInt .i32 4 s10).1]:List Value)++B3)).toArray,21,(0,0)):=by rw [← lY];exact el_blk0 yE hA3 (Nat.le_of_ble_eq_true rfl)
       have kR:=xA
       have pZ:Upd (fun b=>b=vb∨b=rb) w1 w23:=nY.trans' kR fun i hi h=>h.elim (fun h=>by omega) .inr
       have EB:=kR.size
       have zY:Glo ev w23:=hG1.updS pZ bW bX
       have tR:=Rdr.stored lY pN (by omega) fun h=>by have:=(hok _ h).1;first|omega|exact (hok _ h).2 rfl
       obtain ⟨X23,G6,yF,GE⟩:=el_open (n:=1) CS hA3 rfl
       clear lY
       have hxE:(Rep1 (RepS true d) fX0_2.of fX0_2.sub) (fun b=>(fun b=>(fun b=>(ok b∨w1.heap.size≤b)∧¬ ownB va2 b) b∧¬ ownB va3 b) b∧¬ ownB va4 b) w23 (.num (rdInt .i32 4 s10).1) [.int .i32 (rdInt .i32 4 s10).1]:=(Rep1_num (by decide)).2 (congrArg (fun x=>[x]) (numC_rd 3 (by decide) 4 s10).symm)
       repeat ((first|refine qA ?_|apply qB|refine qC ?_|apply qD|apply qE|apply qF|apply qG|apply qH);try simp (disch:=omega) only [go_sem,↓reduceIte,n0,reduceCtorEq,n1,n2,i3,i4,i5,i6,i7,yF,gO,gY,gZ,hC,gN,gQ,gP,gR,gS,gU,gT,gV,gW,gX,fD,hH])
       have hTk:Upd (fun b=>b=R3∨b=rb) w21 w23:=(mP.trans kR)
       have hL':=hL4.step (Rep1_lay _ _ fun _=>RepS_lay true _ _) vQ (vW w23 [.int .i32 (rdInt .i32 4 s10).1] rfl CS) (by rw [hrE];exact hxE) (hTk.mono fun b h=>h.imp (fun e=>⟨_,_,_,oW,e⟩) id) (by rw [hrE];exact tR) (fun h=>iI rb h (.inr rfl)) (Nat.le_refl _)
       have hij:IntKind.i32.wrap ((j3:Int)+1)=((j3+1:Nat):Int):=by rw [i32_wrap (by omega)];omega
       repeat ((first|refine qA ?_|apply qB|refine qC ?_|apply qD|apply qE|apply qF|apply qG|apply qH);try simp (disch:=omega) only [go_sem,↓reduceIte,n0,reduceCtorEq,n1,n2,i3,i4,i5,i6,i7,yF,gO,gY,gZ,hC,gN,gQ,gP,gR,gS,gU,gT,gV,gW,gX,fD,hH,hij])
       refine ⟨⟨(by simp (disch:=omega) only [go_sem,↓reduceIte,n0,reduceCtorEq,n1,n2,i3,i4,i5,i6,i7,Holds_nil,Holds_cons,gO,gY,gZ,hC,gN,gQ,gP,gR,gS,gU,gT,gV,gW,gX,fD,hH];exact oW.symm),j3+1,(by simp (disch:=omega) only [go_sem,↓reduceIte,n0,reduceCtorEq,n1,n2,i3,i4,i5,i6,i7,gO,gY,gZ,hC,gN,gQ,gP,gR,gS,gU,gT,gV,gW,gX,fD,hH,hij];all_goals rfl),_,_,_,hL'⟩,?_⟩
       try simp (disch:=omega) only [go_sem,↓reduceIte,n0,reduceCtorEq,n1,n2,i3,i4,i5,i6,i7,gO,gY,gZ,hC,gN,gQ,gP,gR,gS,gU,gT,gV,gW,gX,fD,hH]
       simp only [RowKit.intOf]
       omega
      ·have hjN:j3=N4:=by omega
       rw [hjN] at hL4
       repeat ((first|refine qA ?_|apply qB|refine qC ?_|apply qD|apply qE|apply qF|apply qG|apply qH);try simp (disch:=omega) only [go_sem,↓reduceIte,n0,reduceCtorEq,n1,n2,i3,i4,i5,i6,i7,gO,gY,gZ,hC,gN,gQ,gP,gR,gS,gU,gT,gV,gW,gX,tB,hH])
       exact ⟨(by simp (disch:=omega) only [go_sem,↓reduceIte,n0,reduceCtorEq,n1,n2,i3,i4,i5,i6,i7,Holds_nil,Holds_cons,gO,gY,gZ,hC,gN,gQ,gP,gR,gS,gU,gT,gV,gW,gX,tB,hH]),s10,xs4,css4,hL4⟩
     rintro ρ w24 ⟨⟨iX,jI,jJ,jK,iW,iZ,iY,jA,jB,jD,jC,jE,jF,jH,jG,-⟩,s12,xs4,css4,hL4⟩
     have vY:=hL4.rd
     have wE:=hL4.upd
     have HD:=wE.blk_some CN (by omega)
     have mB:Upd (fun b=>b=R2∨b=rb) w19 w24:=wE.mono (fun _ h=>.inr h)
     have tP:Upd (fun b=>b=vb∨b=rb) w1 w24:=lM.trans' mB fun i hi h=>h.elim (fun h=>by omega) .inr
     have FJ:=mB.size
     have EQ:Glo ev w24:=hG1.updS tP bW bX
     obtain ⟨X24,G7,zD,GF⟩:=el_open (n:=19) HD hA2 rfl
     have wB:rdF (rdP d ver true) ver true fX0_2 s8=(.mk 0 [] (nilS fX0_2 ver y4) xs4 [],s12):=by
      have h:=rdF_listE (pt:=(rdP d ver true)) (v:=ver) (flex:=true) (f:=fX0_2) (s:=s8) (xs:=xs4) (e:=s12) rfl (by rw [hy4,← hN4,← hs9];exact hL4.done)
      rw [hy4] at h;exact h
     have y6:s12=(rdF (rdP d ver true) ver true fX0_2 s8).2:=by rw [wB]
     obtain ⟨aa4,qq4,CB⟩:=hL4.row.shape
     subst CB
     have JS:j2 * 19+18≤X24.size:=by omega
     repeat ((first|refine qA ?_|apply qB|refine qC ?_|apply qD|apply qE|apply qF|apply qG|apply qH);try simp (disch:=omega) only [go_sem,↓reduceIte,n0,reduceCtorEq,n1,n2,i3,i4,i5,i6,i7,zD,iX,jI,jJ,jK,iW,iZ,iY,jA,jB,jD,jC,jE,jF,jH,jG,JS])
     generalize oY:wr w24 R2 (j2 * 19+17) [.slice aa4 N4 qq4] = w25
     have A6:Upd (fun b=>b=R2∨b=rb) w24 w25:=by rw [← oY];exact (Upd.refl _ _).wr _ _ (.inr (.inl rfl))
     have CP:blk w25 R2=some ((A2++(([strV (rdStr true s7).1,.int .u8 0,.int .u8 0,.int .u8 0,.int .u8 0,.int .u8 0,.int .u8 0,.int .u8 0,.int .u8 0,.int .u8 0,.int .u8 0,.int .u8 0,.int .u8 0,.int .u8 0,.int .u8 0,.int .u8 0,.int .u8 0,.slice aa4 N4 qq4,.map none]:List Value)++B2)).toArray,91,(0,0)):=by rw [← oY];exact el_blk (o:=17) HD hA2 (Nat.le_of_ble_eq_true rfl)
     have kX:=A6
     have qW:Upd (fun b=>b=vb∨b=rb) w1 w25:=tP.trans' kX fun i hi h=>h.elim (fun h=>by omega) .inr
     have FK:=kX.size
     have DC:Glo ev w25:=hG1.updS qW bW bX
     have xX:=Rdr.stored oY vY (by omega) fun h=>by have:=(hok _ h).1;first|omega|exact (hok _ h).2 rfl
     obtain ⟨X25,G8,CU,GG⟩:=el_open (n:=19) CP hA2 rfl
     clear oY
     have BE:RepF (RepS true d) (szS true d) fX0_2 (fun b=>(fun b=>(ok b∨w1.heap.size≤b)∧¬ ownB va2 b) b∧¬ ownB va3 b) w25 (xe2e3_2) [.slice aa4 N4 qq4]:=by rw [wN,wB];exact RepF.keepS (RepF_row rfl vV hN4 rfl hL4.row hL4.all (fun b hb=>⟨⟨.inr (by omega),fun ho=>by have:=(fG _ ho).2;omega⟩,fun ho=>by have:=(hown2 _ ho).2;omega⟩)) (kX.keeps fun b _ hk e=>iI b hk e)
     clear hL4 vV
     have BQ:rdL (rdP d ver true) (dfP d) ver true [] s12=([],s12):=rfl
     have BP:rdL (rdP d ver true) (dfP d) ver true [fX0_2] s8=([xe2e3_2],s12):=by rw [rdL_st (by decide) vN,← wN,← y6,BQ]
     have BO:rdL (rdP d ver true) (dfP d) ver true [fX0_1,fX0_2] s8=([xe2e3_1,xe2e3_2],s12):=by rw [rdL_no vM,← wM,BP]
     have BN:rdL (rdP d ver true) (dfP d) ver true [fX0_0,fX0_1,fX0_2] s7=([xe2e3_0,xe2e3_1,xe2e3_2],s12):=by rw [rdL_st (by decide) vK,← wL,← hs8,BO]
     have vE:rdP (d+1) ver true fs_X0 s7=(.mk 0 [] false [xe2e3_0,xe2e3_1,xe2e3_2] (rdTags s12).1,(rdTags s12).2):=rdP_t BN
     repeat ((first|refine qA ?_|apply qB|refine qC ?_|apply qD|apply qE|apply qF|apply qG|apply qH);try simp (disch:=omega) only [go_sem,↓reduceIte,n0,reduceCtorEq,n1,n2,i3,i4,i5,i6,i7,CU,iX,jI,jJ,jK,iW,iZ,iY,jA,jB,jD,jC,jE,jF,jH,jG])
     refine (ReadTags_fn w25 xX.1 hrok).mono ?_
     rintro _ w26 ⟨qme2e3,rfl,EZ,hTn,xY,C5⟩
     have CQ:=C5.blk_some CP (by omega)
     have mW:Upd (fun b=>b=R2∨b=rb) w25 w26:=C5.mono (fun _ h=>.inr h)
     have uH:Upd (fun b=>b=vb∨b=rb) w1 w26:=qW.trans' mW fun i hi h=>h.elim (fun h=>by omega) .inr
     have HQ:=mW.size
     have FQ:Glo ev w26:=hG1.updS uH bW bX
     obtain ⟨X26,G9,CV,GH⟩:=el_open (n:=19) CQ hA2 rfl
     obtain ⟨s13,C0⟩:∃ s,s=(rdTags s12).2:=⟨_,rfl⟩
     rw [← C0] at xY vE
     have JV:j2 * 19+19≤X26.size:=by omega
     repeat (first|simp (disch:=omega) only [go_sem,↓reduceIte,n0,reduceCtorEq,n1,n2,i3,i4,i5,i6,i7,CV,iX,jI,jJ,jK,iW,iZ,iY,jA,jB,jD,jC,jE,jF,jH,jG,JV]|refine qA ?_|apply qB|refine qC ?_|apply qD|apply qE|apply qF|apply qG|apply qH)
     generalize u1:wr w26 R2 (j2 * 19+18) [.map qme2e3] = w27
     have ET:Upd (fun b=>b=R2∨b=rb) w26 w27:=by rw [← u1];exact (Upd.refl _ _).wr _ _ (.inr (.inl rfl))
     have CR:blk w27 R2=some ((A2++(([strV (rdStr true s7).1,.int .u8 0,.int .u8 0,.int .u8 0,.int .u8 0,.int .u8 0,.int .u8 0,.int .u8 0,.int .u8 0,.int .u8 0,.int .u8 0,.int .u8 0,.int .u8 0,.int .u8 0,.int .u8 0,.int .u8 0,.int .u8 0,.slice aa4 N4 qq4,.map qme2e3]:List Value)++B2)).toArray,91,(0,0)):=by rw [← u1];exact el_blk (o:=18) CQ hA2 (Nat.le_of_ble_eq_true rfl)
     have mQ:=ET
     have yQ:Upd (fun b=>b=vb∨b=rb) w1 w27:=uH.trans' mQ fun i hi h=>h.elim (fun h=>by omega) .inr
     have HR:=mQ.size
     have FR:Glo ev w27:=hG1.updS yQ bW bX
     have z6:=Rdr.stored u1 xY (by omega) fun h=>by have:=(hok _ h).1;first|omega|exact (hok _ h).2 rfl
     obtain ⟨X27,GA,yG,GI⟩:=el_open (n:=19) CR hA2 rfl
     clear u1
     have A8:TagsM (fun b=>(fun b=>(ok b∨w1.heap.size≤b)∧¬ ownB va2 b) b∧¬ ownB va3 b) w27 (.map qme2e3) (rdTags s12).1:=(EZ.weaken fun b _ hk=>hk.elim (fun hk=>⟨⟨.inl hk,fun ho=>by have:=(fG b ho).1;have:=(hok b hk).1;omega⟩,fun ho=>by have:=(hown2 b ho).1;have:=(hok b hk).1;omega⟩) (fun h=>by have h':w25.heap.size≤b:=h;exact ⟨⟨.inr (by omega),fun ho=>by have:=(fG _ ho).2;omega⟩,fun ho=>by have:=(hown2 _ ho).2;omega⟩)).keep (mQ.keeps fun b _ hk e=>iI b hk e)
     have EO:Upd (fun b=>b=R2∨b=rb) w27 w27:=Upd.refl _ _
     have D9:Upd (fun b=>b=R2∨b=rb) w26 w27:=mQ.trans EO
     have D8:Upd (fun b=>b=R2∨b=rb) w25 w27:=mW.trans D9
     have I7:Upd (fun b=>b=R2∨b=rb) w24 w27:=kX.trans D8
     have D7:Upd (fun b=>b=R2∨b=rb) w19 w27:=mB.trans I7
     have zV:Upd (fun b=>b=R2∨b=rb) w18 w27:=fB.trans D7
     have EM:Upd (fun b=>b=R2∨b=rb) w17 w27:=fS.trans zV
     have D6:Upd (fun b=>b=R2∨b=rb) w16 w27:=fM.trans EM
     have EL:Upd (fun b=>b=R2∨b=rb) w15 w27:=gH.trans D6
     have A0:RepS true (d+1) fs_X0 (fun b=>(fun b=>(ok b∨w1.heap.size≤b)∧¬ ownB va2 b) b∧¬ ownB va3 b) w27 (.mk 0 [] false [xe2e3_0,xe2e3_1,xe2e3_2] (rdTags s12).1) [strV (rdStr true s7).1,.int .u8 0,.int .u8 0,.int .u8 0,.int .u8 0,.int .u8 0,.int .u8 0,.int .u8 0,.int .u8 0,.int .u8 0,.int .u8 0,.int .u8 0,.int .u8 0,.int .u8 0,.int .u8 0,.int .u8 0,.int .u8 0,.slice aa4 N4 qq4,.map qme2e3]:=RepS.introT (c:=[strV (rdStr true s7).1,.int .u8 0,.int .u8 0,.int .u8 0,.int .u8 0,.int .u8 0,.int .u8 0,.int .u8 0,.int .u8 0,.int .u8 0,.int .u8 0,.int .u8 0,.int .u8 0,.int .u8 0,.int .u8 0,.int .u8 0,.int .u8 0,.slice aa4 N4 qq4]) (RepL.cons1 (BC.keepS (zV.keeps fun b _ hk e=>iI b hk e)) (RepL.cons16 (BD.keepS (zV.keeps fun b _ hk e=>iI b hk e)) (RepL.cons1 (BE.keepS (D8.keeps fun b _ hk e=>iI b hk e)) RepL.nil))) A8
     have hrE:(rd1 (rdP (d+1) ver true) frX1_3.of frX1_3.sub false true) s7=((.mk 0 [] false [xe2e3_0,xe2e3_1,xe2e3_2] (rdTags s12).1),s13):=by rw [show (rd1 (rdP (d+1) ver true) frX1_3.of frX1_3.sub false true) s7=_ from rd1_part];exact vE
     have hxE:(Rep1 (RepS true (d+1)) frX1_3.of frX1_3.sub) (fun b=>(fun b=>(ok b∨w1.heap.size≤b)∧¬ ownB va2 b) b∧¬ ownB va3 b) w27 (.mk 0 [] false [xe2e3_0,xe2e3_1,xe2e3_2] (rdTags s12).1) [strV (rdStr true s7).1,.int .u8 0,.int .u8 0,.int .u8 0,.int .u8 0,.int .u8 0,.int .u8 0,.int .u8 0,.int .u8 0,.int .u8 0,.int .u8 0,.int .u8 0,.int .u8 0,.int .u8 0,.int .u8 0,.int .u8 0,.int .u8 0,.slice aa4 N4 qq4,.map qme2e3]:=Rep1_part.2 A0
     repeat ((first|refine qA ?_|apply qB|refine qC ?_|apply qD|apply qE|apply qF|apply qG|apply qH);try simp (disch:=omega) only [go_sem,↓reduceIte,n0,reduceCtorEq,n1,n2,i3,i4,i5,i6,i7,yG,iX,jI,jJ,jK,iW,iZ,iY,jA,jB,jD,jC,jE,jF,jH,jG])
     have hTk:Upd (fun b=>b=R2∨b=rb) w15 w27:=(((((((gH.trans fM).trans fS).trans fB).trans mB).trans kX).trans mW).trans mQ)
     have hL':=hL3.step (Rep1_lay _ _ fun _=>RepS_lay true _ _) hlt3 (lK w27 [strV (rdStr true s7).1,.int .u8 0,.int .u8 0,.int .u8 0,.int .u8 0,.int .u8 0,.int .u8 0,.int .u8 0,.int .u8 0,.int .u8 0,.int .u8 0,.int .u8 0,.int .u8 0,.int .u8 0,.int .u8 0,.int .u8 0,.int .u8 0,.slice aa4 N4 qq4,.map qme2e3] rfl CR) (by rw [hrE];exact hxE) (hTk.mono fun b h=>h.imp (fun e=>⟨_,_,_,fK,e⟩) id) (by rw [hrE];exact z6) (fun h=>dL rb h (.inr rfl)) (Nat.le_refl _)
     have hij:IntKind.i32.wrap ((j2:Int)+1)=((j2+1:Nat):Int):=by rw [i32_wrap (by omega)];omega
     repeat ((first|refine qA ?_|apply qB|refine qC ?_|apply qD|apply qE|apply qF|apply qG|apply qH);try simp (disch:=omega) only [go_sem,↓reduceIte,n0,reduceCtorEq,n1,n2,i3,i4,i5,i6,i7,yG,iX,jI,jJ,jK,iW,iZ,iY,jA,jB,jD,jC,jE,jF,jH,jG,hij])
     refine ⟨⟨(by simp (disch:=omega) only [go_sem,↓reduceIte,n0,reduceCtorEq,n1,n2,i3,i4,i5,i6,i7,Holds_nil,Holds_cons,iX,jI,jJ,jK,iW,iZ,iY,jA,jB,jD,jC,jE,jF,jH,jG];exact fK.symm),j2+1,(by simp (disch:=omega) only [go_sem,↓reduceIte,n0,reduceCtorEq,n1,n2,i3,i4,i5,i6,i7,iX,jI,jJ,jK,iW,iZ,iY,jA,jB,jD,jC,jE,jF,jH,jG,hij];all_goals rfl),_,_,_,hL'⟩,?_⟩
     try simp (disch:=omega) only [go_sem,↓reduceIte,n0,reduceCtorEq,n1,n2,i3,i4,i5,i6,i7,iX,jI,jJ,jK,iW,iZ,iY,jA,jB,jD,jC,jE,jF,jH,jG]
     simp only [RowKit.intOf]
     omega
    ·have hjN:j2=N3:=by omega
     rw [hjN] at hL3
     repeat ((first|refine qA ?_|apply qB|refine qC ?_|apply qD|apply qE|apply qF|apply qG|apply qH);try simp (disch:=omega) only [go_sem,↓reduceIte,n0,reduceCtorEq,n1,n2,i3,i4,i5,i6,i7,cR,d8,d9,dA,cQ,cW,cV,cX,cY,cZ,tA,dB])
     exact ⟨(by simp (disch:=omega) only [go_sem,↓reduceIte,n0,reduceCtorEq,n1,n2,i3,i4,i5,i6,i7,Holds_nil,Holds_cons,cR,d8,d9,dA,cQ,cW,cV,cX,cY,cZ,tA,dB]),s7,xs3,css3,hL3⟩
   rintro ρ w28 ⟨⟨iL,iS,iU,iV,iK,iN,iM,iO,iP,iR,iQ,-⟩,s14,xs3,css3,hL3⟩
   have BW:=hL3.rd
   have C6:=hL3.upd
   have H8:=C6.blk_some qO (by omega)
   have o5:Upd (fun b=>b=R1∨b=rb) w12 w28:=C6.mono (fun _ h=>.inr h)
   have xC:Upd (fun b=>b=vb∨b=rb) w1 w28:=pY.trans' o5 fun i hi h=>h.elim (fun h=>by omega) .inr
   have HS:=o5.size
   have FS:Glo ev w28:=hG1.updS xC bW bX
   obtain ⟨X28,J3,E7,J9⟩:=el_open (n:=5) H8 hA1 rfl
   have wA:rdF (rdP (d+1) ver true) ver true frX1_3 s5=(.mk 0 [] (nilS frX1_3 ver y3) xs3 [],s14):=by
    have h:=rdF_listE (pt:=(rdP (d+1) ver true)) (v:=ver) (flex:=true) (f:=frX1_3) (s:=s5) (xs:=xs3) (e:=s14) rfl (by rw [hy3,← hN3,← hs6];exact hL3.done)
    rw [hy3] at h;exact h
   have zA:s14=(rdF (rdP (d+1) ver true) ver true frX1_3 s5).2:=by rw [wA]
   obtain ⟨aa3,qq3,CA⟩:=hL3.row.shape
   subst CA
   have JY:j1 * 5+4≤X28.size:=by omega
   repeat ((first|refine qA ?_|apply qB|refine qC ?_|apply qD|apply qE|apply qF|apply qG|apply qH);try simp (disch:=omega) only [go_sem,↓reduceIte,n0,reduceCtorEq,n1,n2,i3,i4,i5,i6,i7,E7,iL,iS,iU,iV,iK,iN,iM,iO,iP,iR,iQ,JY])
   generalize u2:wr w28 R1 (j1 * 5+3) [.slice aa3 N3 qq3] = w29
   have EU:Upd (fun b=>b=R1∨b=rb) w28 w29:=by rw [← u2];exact (Upd.refl _ _).wr _ _ (.inr (.inl rfl))
   have CH:blk w29 R1=some ((A1++(([strV (rdStr true s2).1,.pointer ap8,.int .i32 (rdInt .i32 4 s4).1,.slice aa3 N3 qq3,.map none]:List Value)++B1)).toArray,86,(0,0)):=by rw [← u2];exact el_blk (o:=3) H8 hA1 (Nat.le_of_ble_eq_true rfl)
   have mX:=EU
   have uI:Upd (fun b=>b=vb∨b=rb) w1 w29:=xC.trans' mX fun i hi h=>h.elim (fun h=>by omega) .inr
   have HT:=mX.size
   have FT:Glo ev w29:=hG1.updS uI bW bX
   have BX:=Rdr.stored u2 BW (by omega) fun h=>by have:=(hok _ h).1;first|omega|exact (hok _ h).2 rfl
   obtain ⟨X29,J4,FD,JA⟩:=el_open (n:=5) CH hA1 rfl
   clear u2
   have BB:RepF (RepS true (d+1)) (szS true (d+1)) frX1_3 (fun b=>(ok b∨w1.heap.size≤b)∧¬ ownB va2 b) w29 (xe2_3) [.slice aa3 N3 qq3]:=by rw [wK,wA];exact RepF.keepS (RepF_row rfl vT hN3 rfl hL3.row hL3.all (fun b hb=>⟨.inr (by omega),fun ho=>by have:=(fG _ ho).2;omega⟩)) (mX.keeps fun b _ hk e=>dL b hk e)
   clear hL3 vT
   have BM:rdL (rdP (d+1) ver true) (dfP (d+1)) ver true [] s14=([],s14):=rfl
   have BL:rdL (rdP (d+1) ver true) (dfP (d+1)) ver true [frX1_3] s5=([xe2_3],s14):=by rw [rdL_st (by decide) vJ,← wK,← zA,BM]
   have BK:rdL (rdP (d+1) ver true) (dfP (d+1)) ver true [fX1_2,frX1_3] s4=([xe2_2,xe2_3],s14):=by rw [rdL_st (by decide) mF,← wJ,← hs5,BL]
   have BJ:rdL (rdP (d+1) ver true) (dfP (d+1)) ver true [fX1_1,fX1_2,frX1_3] s3=([xe2_1,xe2_2,xe2_3],s14):=by rw [rdL_st (by decide) mZ,← wI,← hs4,BK]
   have BI:rdL (rdP (d+1) ver true) (dfP (d+1)) ver true [fX1_0,fX1_1,fX1_2,frX1_3] s2=([xe2_0,xe2_1,xe2_2,xe2_3],s14):=by rw [rdL_st (by decide) mR,← wH,← hs3,BJ]
   have vD:rdP (d+2) ver true fsr_X1 s2=(.mk 0 [] false [xe2_0,xe2_1,xe2_2,xe2_3] (rdTags s14).1,(rdTags s14).2):=rdP_t BI
   repeat ((first|refine qA ?_|apply qB|refine qC ?_|apply qD|apply qE|apply qF|apply qG|apply qH);try simp (disch:=omega) only [go_sem,↓reduceIte,n0,reduceCtorEq,n1,n2,i3,i4,i5,i6,i7,FD,iL,iS,iU,iV,iK,iN,iM,iO,iP,iR,iQ])
   refine (ReadTags_fn w29 BX.1 hrok).mono ?_
   rintro _ w30 ⟨qme2,rfl,IT,hTn,xZ,C7⟩
   have CI:=C7.blk_some CH (by omega)
   have o6:Upd (fun b=>b=R1∨b=rb) w29 w30:=C7.mono (fun _ h=>.inr h)
   have uJ:Upd (fun b=>b=vb∨b=rb) w1 w30:=uI.trans' o6 fun i hi h=>h.elim (fun h=>by omega) .inr
   have HU:=o6.size
   have FU:Glo ev w30:=hG1.updS uJ bW bX
   obtain ⟨X30,J5,FE,JB⟩:=el_open (n:=5) CI hA1 rfl
   obtain ⟨s15,zB⟩:∃ s,s=(rdTags s14).2:=⟨_,rfl⟩
   rw [← zB] at xZ vD
   have K0:j1 * 5+5≤X30.size:=by omega
   repeat (first|simp (disch:=omega) only [go_sem,↓reduceIte,n0,reduceCtorEq,n1,n2,i3,i4,i5,i6,i7,FE,iL,iS,iU,iV,iK,iN,iM,iO,iP,iR,iQ,K0]|refine qA ?_|apply qB|refine qC ?_|apply qD|apply qE|apply qF|apply qG|apply qH)
   generalize u3:wr w30 R1 (j1 * 5+4) [.map qme2] = w31
   have EV:Upd (fun b=>b=R1∨b=rb) w30 w31:=by rw [← u3];exact (Upd.refl _ _).wr _ _ (.inr (.inl rfl))
   have CJ:blk w31 R1=some ((A1++(([strV (rdStr true s2).1,.pointer ap8,.int .i32 (rdInt .i32 4 s4).1,.slice aa3 N3 qq3,.map qme2]:List Value)++B1)).toArray,86,(0,0)):=by rw [← u3];exact el_blk (o:=4) CI hA1 (Nat.le_of_ble_eq_true rfl)
   have o7:=EV
   have xD:Upd (fun b=>b=vb∨b=rb) w1 w31:=uJ.trans' o7 fun i hi h=>h.elim (fun h=>by omega) .inr
   have HV:=o7.size
   have FV:Glo ev w31:=hG1.updS xD bW bX
   have z7:=Rdr.stored u3 xZ (by omega) fun h=>by have:=(hok _ h).1;first|omega|exact (hok _ h).2 rfl
   obtain ⟨X31,J6,E8,JC⟩:=el_open (n:=5) CJ hA1 rfl
   clear u3
   have A7:TagsM (fun b=>(ok b∨w1.heap.size≤b)∧¬ ownB va2 b) w31 (.map qme2) (rdTags s14).1:=(IT.weaken fun b _ hk=>hk.elim (fun hk=>⟨.inl hk,fun ho=>by have:=(fG b ho).1;have:=(hok b hk).1;omega⟩) (fun h=>by have h':w29.heap.size≤b:=h;exact ⟨.inr (by omega),fun ho=>by have:=(fG _ ho).2;omega⟩)).keep (o7.keeps fun b _ hk e=>dL b hk e)
   have EJ:Upd (fun b=>b=R1∨b=rb) w31 w31:=Upd.refl _ _
   have D5:Upd (fun b=>b=R1∨b=rb) w30 w31:=o7.trans EJ
   have D4:Upd (fun b=>b=R1∨b=rb) w29 w31:=o6.trans D5
   have I1:Upd (fun b=>b=R1∨b=rb) w28 w31:=mX.trans D4
   have EI:Upd (fun b=>b=R1∨b=rb) w12 w31:=o5.trans I1
   have zQ:Upd (fun b=>b=R1∨b=rb) w11 w31:=nZ.trans EI
   have EH:Upd (fun b=>b=R1∨b=rb) w10 w31:=gG.trans zQ
   have zU:Upd (fun b=>b=R1∨b=rb) w9 w31:=gF.trans EH
   have zT:Upd (fun b=>b=R1∨b=rb) w8 w31:=hV9.trans zU
   have tN:Upd (fun b=>b=R1∨b=rb) w7 w31:=hV8.trans zT
   have zS:Upd (fun b=>b=R1∨b=rb) w6 w31:=hV7.trans tN
   have zR:Upd (fun b=>b=R1∨b=rb) w5 w31:=hV6.trans zS
   have FN:Upd (fun b=>b=R1∨b=rb) w4 w31:=hV5.trans zR
   have jM:RepS true (d+2) fsr_X1 (fun b=>(ok b∨w1.heap.size≤b)∧¬ ownB va2 b) w31 (.mk 0 [] false [xe2_0,xe2_1,xe2_2,xe2_3] (rdTags s14).1) [strV (rdStr true s2).1,.pointer ap8,.int .i32 (rdInt .i32 4 s4).1,.slice aa3 N3 qq3,.map qme2]:=RepS.introT (c:=[strV (rdStr true s2).1,.pointer ap8,.int .i32 (rdInt .i32 4 s4).1,.slice aa3 N3 qq3]) (RepL.cons1 (B8.keepS (tN.keeps fun b _ hk e=>dL b hk e)) (RepL.cons1 (B9.keepS (zU.keeps fun b _ hk e=>dL b hk e)) (RepL.cons1 (BA.keepS (zQ.keeps fun b _ hk e=>dL b hk e)) (RepL.cons1 (BB.keepS (D4.keeps fun b _ hk e=>dL b hk e)) RepL.nil)))) A7
   have hrE:(rd1 (rdP (d+2) ver true) frQ_2.of frQ_2.sub false true) s2=((.mk 0 [] false [xe2_0,xe2_1,xe2_2,xe2_3] (rdTags s14).1),s15):=by rw [show (rd1 (rdP (d+2) ver true) frQ_2.of frQ_2.sub false true) s2=_ from rd1_part];exact vD
   have hxE:(Rep1 (RepS true (d+2)) frQ_2.of frQ_2.sub) (fun b=>(ok b∨w1.heap.size≤b)∧¬ ownB va2 b) w31 (.mk 0 [] false [xe2_0,xe2_1,xe2_2,xe2_3] (rdTags s14).1) [strV (rdStr true s2).1,.pointer ap8,.int .i32 (rdInt .i32 4 s4).1,.slice aa3 N3 qq3,.map qme2]:=Rep1_part.2 jM
   repeat ((first|refine qA ?_|apply qB|refine qC ?_|apply qD|apply qE|apply qF|apply qG|apply qH);try simp (disch:=omega) only [go_sem,↓reduceIte,n0,reduceCtorEq,n1,n2,i3,i4,i5,i6,i7,E8,iL,iS,iU,iV,iK,iN,iM,iO,iP,iR,iQ])
   have hTk:Upd (fun b=>b=R1∨b=rb) w4 w31:=(((((((((((hV5.trans hV6).trans hV7).trans hV8).trans hV9).trans gF).trans gG).trans nZ).trans o5).trans mX).trans o6).trans o7)
   have hL':=hL2.step (Rep1_lay _ _ fun _=>RepS_lay true _ _) hlt2 (lJ w31 [strV (rdStr true s2).1,.pointer ap8,.int .i32 (rdInt .i32 4 s4).1,.slice aa3 N3 qq3,.map qme2] rfl CJ) (by rw [hrE];exact hxE) (hTk.mono fun b h=>h.imp (fun e=>⟨_,_,_,fJ,e⟩) id) (by rw [hrE];exact z7) (fun h=>hoM rb h (.inr rfl)) (Nat.le_refl _)
   have hij:IntKind.i32.wrap ((j1:Int)+1)=((j1+1:Nat):Int):=by rw [i32_wrap (by omega)];omega
   repeat ((first|refine qA ?_|apply qB|refine qC ?_|apply qD|apply qE|apply qF|apply qG|apply qH);try simp (disch:=omega) only [go_sem,↓reduceIte,n0,reduceCtorEq,n1,n2,i3,i4,i5,i6,i7,E8,iL,iS,iU,iV,iK,iN,iM,iO,iP,iR,iQ,hij])
   refine ⟨⟨(by simp (disch:=omega) only [go_sem,↓reduceIte,n0,reduceCtorEq,n1,n2,i3,i4,i5,i6,i7,Holds_nil,Holds_cons,iL,iS,iU,iV,iK,iN,iM,iO,iP,iR,iQ];exact fJ.symm),j1+1,(by simp (disch:=omega) only [go_sem,↓reduceIte,n0,reduceCtorEq,n1,n2,i3,i4,i5,i6,i7,iL,iS,iU,iV,iK,iN,iM,iO,iP,iR,iQ,hij];all_goals rfl),_,_,_,hL'⟩,?_⟩
   try simp (disch:=omega) only [go_sem,↓reduceIte,n0,reduceCtorEq,n1,n2,i3,i4,i5,i6,i7,iL,iS,iU,iV,iK,iN,iM,iO,iP,iR,iQ]
   simp only [RowKit.intOf]
   omega
  ·have hjN:j1=N2:=by omega
   rw [hjN] at hL2
   repeat ((first|refine qA ?_|apply qB|refine qC ?_|apply qD|apply qE|apply qF|apply qG|apply qH);try simp (disch:=omega) only [go_sem,↓reduceIte,n0,reduceCtorEq,n1,n2,i3,i4,i5,i6,i7,dZ,e9,eA,eB,dY,e7,t8,eC])
   exact ⟨(by simp (disch:=omega) only [go_sem,↓reduceIte,n0,reduceCtorEq,n1,n2,i3,i4,i5,i6,i7,Holds_nil,Holds_cons,dZ,e9,eA,eB,dY,e7,t8,eC]),s2,xs2,css2,hL2⟩
 rintro ρ w32 ⟨⟨kJ,kM,kN,kO,kI,kL,kK,-⟩,s16,xs2,css2,hL2⟩
 have z8:=hL2.rd
 have C8:=hL2.upd
 have hv_32:=C8.blk_some hv_2 (by omega)
 have pB:Upd (fun b=>b=vb∨b=rb) w2 w32:=C8.mono (fun _ h=>.inr h)
 have xE:Upd (fun b=>b=vb∨b=rb) w1 w32:=hU2.trans pB
 have HW:=pB.size
 have FW:Glo ev w32:=hG1.updS xE bW bX
 have vZ:rdF (rdP (d+2) ver true) ver true frQ_2 s0=(.mk 0 [] (nilS frQ_2 ver y2) xs2 [],s16):=by
  have h:=rdF_listE (pt:=(rdP (d+2) ver true)) (v:=ver) (flex:=true) (f:=frQ_2) (s:=s0) (xs:=xs2) (e:=s16) rfl (by rw [hy2,← hN2,← hs1];exact hL2.done)
  rw [hy2] at h;exact h
 have y7:s16=(rdF (rdP (d+2) ver true) ver true frQ_2 s0).2:=by rw [vZ]
 obtain ⟨aa2,qq2,C9⟩:=hL2.row.shape
 subst C9
 repeat ((first|refine qA ?_|apply qB|refine qC ?_|apply qD|apply qE|apply qF|apply qG|apply qH);try simp (disch:=omega) only [go_sem,↓reduceIte,n0,reduceCtorEq,n1,n2,i3,i4,i5,i6,i7,hv_32,kJ,kM,kN,kO,kI,kL,kK])
 generalize u4:wr w32 vb 3 [.slice aa2 N2 qq2] = w33
 have EW:Upd (fun b=>b=vb∨b=rb) w32 w33:=by rw [← u4];exact (Upd.refl _ _).wr _ _ (.inr (.inl rfl))
 have hv_33:blk w33 vb=some (#[.int .i16 ver,.string ByteArray.empty,.slice none 0 0,.slice aa2 N2 qq2,.bool false,.map none],63,(0,0)):=by rw [← u4,blk_wr_eq,hv_32];rfl
 have pC:=EW
 have uM:Upd (fun b=>b=vb∨b=rb) w1 w33:=xE.trans pC
 have HX:=pC.size
 have ER:Glo ev w33:=hG1.updS uM bW bX
 have BY:=Rdr.stored u4 z8 (by omega) fun h=>by have:=(hok _ h).1;first|omega|exact (hok _ h).2 rfl
 clear u4
 have hf_2:RepF (RepS true (d+2)) (szS true (d+2)) frQ_2 (fun b=>ok b∨w1.heap.size≤b) w33 (x_2) [.slice aa2 N2 qq2]:=by rw [hx_2,vZ];exact RepF.keepS (RepF_row rfl vR hN2 rfl hL2.row hL2.all (fun b hb=>.inr (by omega))) (pC.keeps fun b _ hk e=>(hoM b hk) e)
 clear hL2 vR
 have hb_3:(rdL (rdP (d+2) ver true) (dfP (d+2)) ver true [fQ_3] s16).2=none→FB:=fun h=>hb_2 (by rw [rdL_st (by decide) hh_2,← y7];exact h)
 have hh_3:hasS fQ_3 ver=true:=hasS_t (by show (7:Int)≤ver;omega) (by show (-1:Int) < 0∨ver≤(-1:Int);omega)
 obtain ⟨x_3,hx_3⟩:∃ x,x=(rdF (rdP (d+2) ver true) ver true fQ_3 s16).1:=⟨_,rfl⟩
 repeat ((first|refine qA ?_|apply qB|refine qC ?_|apply qD|apply qE|apply qF|apply qG|apply qH);try simp (disch:=omega) only [go_sem,↓reduceIte,n0,reduceCtorEq,n1,n2,i3,i4,i5,i6,i7,hv_33,kJ,kM,kN,kO,kI,kL,kK])
 have hrd:rdF (rdP (d+2) ver true) ver true fQ_3 s16=_:=rdF_bool rfl
 refine (Bool_fn w33 BY.1 hrok).mono ?_
 rintro _ w34 ⟨rfl,DM,hu34⟩
 have hv_34:=hu34.blk_some hv_33 (by omega)
 have uO:Upd (fun b=>b=vb∨b=rb) w33 w34:=hu34.mono (fun _ h=>.inr h)
 have AB:Upd (fun b=>b=vb∨b=rb) w1 w34:=uM.trans uO
 have K8:=uO.size
 have IB:Glo ev w34:=hG1.updS AB bW bX
 have hst:(rdF (rdP (d+2) ver true) ver true fQ_3 s16).2=(rdN 1 s16).2:=by first|(rw [hrd];rfl)|rw [hrd]
 obtain ⟨s17,C1⟩:∃ s,s=(rdF (rdP (d+2) ver true) ver true fQ_3 s16).2:=⟨_,rfl⟩
 rw [← hst,← C1] at DM
 clear hst
 repeat ((first|refine qA ?_|apply qB|refine qC ?_|apply qD|apply qE|apply qF|apply qG|apply qH);try simp (disch:=omega) only [go_sem,↓reduceIte,n0,reduceCtorEq,n1,n2,i3,i4,i5,i6,i7,hv_34,kJ,kM,kN,kO,kI,kL,kK])
 generalize DZ:wr w34 vb 4 [.bool (!decide (beN (rdN 1 s16).1=0))] = w35
 have IN:Upd (fun b=>b=vb∨b=rb) w34 w35:=by rw [← DZ];exact (Upd.refl _ _).wr _ _ (.inr (.inl rfl))
 have hv_35:blk w35 vb=some (#[.int .i16 ver,.string ByteArray.empty,.slice none 0 0,.slice aa2 N2 qq2,.bool (!decide (beN (rdN 1 s16).1=0)),.map none],63,(0,0)):=by rw [← DZ,blk_wr_eq,hv_34];rfl
 have xF:=IN
 have AC:Upd (fun b=>b=vb∨b=rb) w1 w35:=AB.trans xF
 have K9:=xF.size
 have IC:Glo ev w35:=hG1.updS AC bW bX
 have DN:=Rdr.stored DZ DM (by omega) fun h=>by have:=(hok _ h).1;first|omega|exact (hok _ h).2 rfl
 clear DZ
 have hf_3:RepF (RepS true (d+2)) (szS true (d+2)) fQ_3 (fun b=>ok b∨w1.heap.size≤b) w35 (x_3) [.bool (!decide (beN (rdN 1 s16).1=0))]:=(RepF_num (by decide)).2 (by rw [hx_3,hrd];exact congrArg (fun x=>[x]) (numC_bool _).symm)
 clear hrd
 have hl_4:rdL (rdP (d+2) ver true) (dfP (d+2)) ver true [] s17=([],s17):=rfl
 have hl_3:rdL (rdP (d+2) ver true) (dfP (d+2)) ver true [fQ_3] s16=([x_3],s17):=by rw [rdL_st (by decide) hh_3,← hx_3,← C1,hl_4]
 have hl_2:rdL (rdP (d+2) ver true) (dfP (d+2)) ver true [frQ_2,fQ_3] s0=([x_2,x_3],s17):=by rw [rdL_st (by decide) hh_2,← hx_2,← y7,hl_3]
 have hl_1:rdL (rdP (d+2) ver true) (dfP (d+2)) ver true [fQ_1,frQ_2,fQ_3] s0=([x_1,x_2,x_3],s17):=by rw [rdL_no hh_1,← hx_1,hl_2]
 have hl_0:rdL (rdP (d+2) ver true) (dfP (d+2)) ver true [fQ_0,fQ_1,frQ_2,fQ_3] s0=([x_0,x_1,x_2,x_3],s17):=by rw [rdL_no hh_0,← hx_0,hl_1]
 have hfin:rdP (d+3) ver true fsr_Q s0=(.mk 0 [] false [x_0,x_1,x_2,x_3] (rdTags s17).1,(rdTags s17).2):=rdP_t hl_0
 repeat ((first|refine qA ?_|apply qB|refine qC ?_|apply qD|apply qE|apply qF|apply qG|apply qH);try simp (disch:=omega) only [go_sem,↓reduceIte,n0,reduceCtorEq,n1,n2,i3,i4,i5,i6,i7,hv_35,kJ,kM,kN,kO,kI,kL,kK])
 refine (ReadTags_fn w35 DN.1 hrok).mono ?_
 rintro _ w36 ⟨qm,rfl,IW,hTn,DO,H0⟩
 have hv_36:=H0.blk_some hv_35 (by omega)
 have xG:Upd (fun b=>b=vb∨b=rb) w35 w36:=H0.mono (fun _ h=>.inr h)
 have AD:Upd (fun b=>b=vb∨b=rb) w1 w36:=AC.trans xG
 have KA:=xG.size
 have ID:Glo ev w36:=hG1.updS AD bW bX
 obtain ⟨s18,F7⟩:∃ s,s=(rdTags s17).2:=⟨_,rfl⟩
 rw [← F7] at DO hfin
 repeat (first|simp (disch:=omega) only [go_sem,↓reduceIte,n0,reduceCtorEq,n1,n2,i3,i4,i5,i6,i7,hv_36,kJ,kM,kN,kO,kI,kL,kK]|refine qA ?_|apply qB|refine qC ?_|apply qD|apply qE|apply qF|apply qG|apply qH)
 generalize E1:wr w36 vb 5 [.map qm] = w37
 have IP:Upd (fun b=>b=vb∨b=rb) w36 w37:=by rw [← E1];exact (Upd.refl _ _).wr _ _ (.inr (.inl rfl))
 have hv_37:blk w37 vb=some (#[.int .i16 ver,.string ByteArray.empty,.slice none 0 0,.slice aa2 N2 qq2,.bool (!decide (beN (rdN 1 s16).1=0)),.map qm],63,(0,0)):=by rw [← E1,blk_wr_eq,hv_36];rfl
 have uP:=IP
 have AE:Upd (fun b=>b=vb∨b=rb) w1 w37:=AD.trans uP
 have hz37:=uP.size
 have FX:Glo ev w37:=hG1.updS AE bW bX
 have DP:=Rdr.stored E1 DO (by omega) fun h=>by have:=(hok _ h).1;first|omega|exact (hok _ h).2 rfl
 clear E1
 have hTg:TagsM (fun b=>ok b∨w1.heap.size≤b) w37 (.map qm) (rdTags s17).1:=(IW.weaken fun b _ hk=>hk.elim (fun hk=>.inl hk) (fun h=>by have h':w35.heap.size≤b:=h;exact .inr (by omega))).keep (uP.keeps fun b _ hk e=>(hoM b hk) e)
 have hC_37:Upd (fun b=>b=vb∨b=rb) w37 w37:=Upd.refl _ _
 have hC_36:Upd (fun b=>b=vb∨b=rb) w36 w37:=uP.trans hC_37
 have hC_35:Upd (fun b=>b=vb∨b=rb) w35 w37:=xG.trans hC_36
 have hC_34:Upd (fun b=>b=vb∨b=rb) w34 w37:=xF.trans hC_35
 have hC_33:Upd (fun b=>b=vb∨b=rb) w33 w37:=uO.trans hC_34
 have hC_32:Upd (fun b=>b=vb∨b=rb) w32 w37:=pC.trans hC_33
 have hC_2:Upd (fun b=>b=vb∨b=rb) w2 w37:=pB.trans hC_32
 have hC_1:Upd (fun b=>b=vb∨b=rb) w1 w37:=hV2.trans hC_2
 have hR:RepS true (d+3) fsr_Q (fun b=>ok b∨w1.heap.size≤b) w37 (.mk 0 [] false [x_0,x_1,x_2,x_3] (rdTags s17).1) [.string ByteArray.empty,.slice none 0 0,.slice aa2 N2 qq2,.bool (!decide (beN (rdN 1 s16).1=0)),.map qm]:=RepS.introT (c:=[.string ByteArray.empty,.slice none 0 0,.slice aa2 N2 qq2,.bool (!decide (beN (rdN 1 s16).1=0))]) (RepL.cons1 (hf_0.keepS (hC_1.keeps fun b _ hk e=>(hoM b hk) e)) (RepL.cons1 (hf_1.keepS (hC_1.keeps fun b _ hk e=>(hoM b hk) e)) (RepL.cons1 (hf_2.keepS (hC_33.keeps fun b _ hk e=>(hoM b hk) e)) (RepL.cons1 (hf_3.keepS (hC_35.keeps fun b _ hk e=>(hoM b hk) e)) RepL.nil)))) hTg
 repeat ((first|refine qA ?_|apply qB|refine qC ?_|apply qD|apply qE|apply qF|apply qG|apply qH);try simp (disch:=omega) only [go_sem,↓reduceIte,n0,reduceCtorEq,n1,n2,i3,i4,i5,i6,i7,hv_37,kJ,kM,kN,kO,kI,kL,kK])
 refine (RComplete_fn w37 DP.1 FX.2).mono ?_
 rintro _ wz ⟨rfl,hez⟩
 rw [hez]
 repeat ((first|refine qA ?_|apply qB|refine qC ?_|apply qD|apply qE|apply qF|apply qG|apply qH);try simp (disch:=omega) only [go_sem,↓reduceIte,n0,reduceCtorEq,n1,n2,i3,i4,i5,i6,i7,hv_37,kJ,kM,kN,kO,kI,kL,kK])
 rw [hfin]
 refine ⟨fun h => ?_,fun h=>⟨?_,[.string ByteArray.empty,.slice none 0 0,.slice aa2 N2 qq2,.bool (!decide (beN (rdN 1 s16).1=0)),.map qm],hv_37,?_⟩,?_⟩
 ·have h':s18=none:=h
  rw [h'];rfl
 ·cases hsn:s18 with
  | none=>exact absurd hsn h
  | some x=>rfl
 ·exact (RepS_lay true (d+3) fsr_Q).weaken hR fun b _ hk=>hk.imp id fun h=>by omega
 ·exact hbase.trans' AE fun i hi h=>h.elim id fun h=>by omega
end Ms

