/- A part of the proof: see the last text. -/
import Derived.Test.YtfeaoncgnhhjbaeGreatDoorC07
set_option linter.unusedSimpArgs false
set_option linter.unusedVariables false
namespace Ms
open Go.World renaming size_alloc → qI
open Ms renaming size_wr → qJ,size_drew → qK,not_noB → qL
open W renaming seqF → qA,seq → qB,regF → qC,condK → qD,block → qE,skip → qF,ret → qG,exit → qH
set_option maxRecDepth 8000
open Go Go.Proofs
attribute [local congr] W_congr WPsq_congr WPp_congr optK_congr addrK_congr intK_congr boolK_congr sliceK_congr tupleK_congr funcK_congr Fn_congr rawK_congr takeK_congr stepK_congr convK_congr aggK_congr

theorem RString_fn {ok:Blocks} {rb:Nat} {st:St} (w:World) (h:Rdr RT ok w rb st) (hr:¬ ok rb) (hg:GloBE w) (hrg:¬ 0=rb) :
  Fn Tryz.prog 52 #[.pointer (some ⟨rb,0,none⟩)] w (RdQ RT ok rb w (strV (rdStr false st).1) (rdStr false st).2):=by
 rw [rdStr_f]
 refine fn_of_W Tryz.func52 rfl Tryz.results52 Tryz.ntmps52 rfl ?_
 repeat ((first|refine qA ?_|apply qB|refine qC ?_|apply qD|apply qE|apply qF|apply qG|apply qH);try simp (maxSteps:=1000000)(disch:=omega) only [go_sem])
 refine (Int16_fn w h hr hg hrg).mono ?_
 rintro _ w1 ⟨rfl,h1,a8⟩
 have ew:=rd16_64 st
 repeat ((first|refine qA ?_|apply qB|refine qC ?_|apply qD|apply qE|apply qF|apply qG|apply qH);try simp (maxSteps:=1000000)(disch:=omega) only [go_sem,ew])
 refine (Span_fn w1 h1.1 hr _).mono ?_
 rintro r2 w2 ⟨hB2,_,_,h2,hn2,hu2⟩
 obtain ⟨a2,c2,rfl,hc2⟩:=hB2.shape
 try simp (maxSteps:=1000000)(disch:=omega) only [go_sem]
 refine wp_string (S:=22) (T:=9) (E:=5) (s:=_) (ok:=ok) (by kernel_rfl) (by kernel_rfl) (by kernel_rfl) (by (try simp (maxSteps:=1000000)(disch:=omega) only [go_sem]);exact hB2) ?_
 simp (maxSteps:=1000000)(disch:=omega) only [go_sem]
 repeat ((first|refine qA ?_|apply qB|refine qC ?_|apply qD|apply qE|apply qF|apply qG|apply qH);try simp (maxSteps:=1000000)(disch:=omega) only [go_sem])
 exact ⟨rfl,⟨h2,hn2 (.inl h1.2)⟩,a8.trans hu2⟩

theorem RArrayLen_fn {ok:Blocks} {rb:Nat} {st:St} (w:World) (h:Rdr RT ok w rb st) (hr:¬ ok rb) (hg:GloBE w) (hrg:¬ 0=rb) :
  Fn Tryz.prog 45 #[.pointer (some ⟨rb,0,none⟩)] w (RdQ RT ok rb w (.int .i32 (rdALen false st).1) (rdALen false st).2):=by
 unfold rdALen
 rw [rdCnt_f]
 refine fn_of_W Tryz.func45 rfl Tryz.results45 Tryz.ntmps45 rfl ?_
 repeat ((first|refine qA ?_|apply qB|refine qC ?_|apply qD|apply qE|apply qF|apply qG|apply qH);try simp (maxSteps:=1000000)(disch:=omega) only [go_sem])
 refine (Int32_fn w h hr hg hrg).mono ?_
 rintro _ w1 ⟨rfl,h1,a8⟩
 have ew:=rd32_64 st
 obtain ⟨v1,hb1,hB1,aD⟩:=h1.1.ex
 obtain ⟨a1,c1,rfl,hc1⟩:=hB1.shape
 have hlen:((rdInt .i32 4 st).2.getD []).length=stLen (rdInt .i32 4 st).2:=rfl
 by_cases hl:(stLen (rdInt .i32 4 st).2:Int) < (rdInt .i32 4 st).1
 ·have hl2:(((rdInt .i32 4 st).2.getD []).length:Int) < (rdInt .i32 4 st).1:=hl
  simp only [if_pos hl]
  repeat ((first|refine qA ?_|apply qB|refine qC ?_|apply qD|apply qE|apply qF|apply qG|apply qH);try simp (maxSteps:=1000000)(disch:=omega) only [go_sem,hb1,ew,hl2])
  exact RdQ.then a8 (RdQ.bad hb1)
 ·have hl2:¬ (((rdInt .i32 4 st).2.getD []).length:Int) < (rdInt .i32 4 st).1:=hl
  simp only [if_neg hl]
  repeat ((first|refine qA ?_|apply qB|refine qC ?_|apply qD|apply qE|apply qF|apply qG|apply qH);try simp (maxSteps:=1000000)(disch:=omega) only [go_sem,hb1,ew,hl2])
  exact ⟨rfl,h1,a8⟩

theorem RCompactString_fn {ok:Blocks} {rb:Nat} {st:St} (w:World) (h:Rdr RT ok w rb st) (hr:¬ ok rb) (hg:GloBE w) (hrg:¬ 0=rb) :
  Fn Tryz.prog 51 #[.pointer (some ⟨rb,0,none⟩)] w (RdQ RT ok rb w (strV (rdStr true st).1) (rdStr true st).2):=by
 rw [rdStr_t]
 refine fn_of_W Tryz.func51 rfl Tryz.results51 Tryz.ntmps51 rfl ?_
 repeat ((first|refine qA ?_|apply qB|refine qC ?_|apply qD|apply qE|apply qF|apply qG|apply qH);try simp (maxSteps:=1000000)(disch:=omega) only [go_sem])
 refine (RUvarint_fn w h hr).mono ?_
 rintro _ w1 ⟨rfl,h1,a8⟩
 have ew:=rdUv_64 st
 have ew1:=rdUv_641 st
 repeat ((first|refine qA ?_|apply qB|refine qC ?_|apply qD|apply qE|apply qF|apply qG|apply qH);try simp (maxSteps:=1000000)(disch:=omega) only [go_sem,ew,ew1])
 refine (Span_fn w1 h1.1 hr _).mono ?_
 rintro r2 w2 ⟨hB2,_,_,h2,hn2,hu2⟩
 obtain ⟨a2,c2,rfl,hc2⟩:=hB2.shape
 try simp (maxSteps:=1000000)(disch:=omega) only [go_sem]
 refine wp_string (S:=22) (T:=9) (E:=5) (s:=_) (ok:=ok) (by kernel_rfl) (by kernel_rfl) (by kernel_rfl) (by (try simp (maxSteps:=1000000)(disch:=omega) only [go_sem]);exact hB2) ?_
 simp (maxSteps:=1000000)(disch:=omega) only [go_sem]
 repeat ((first|refine qA ?_|apply qB|refine qC ?_|apply qD|apply qE|apply qF|apply qG|apply qH);try simp (maxSteps:=1000000)(disch:=omega) only [go_sem])
 exact ⟨rfl,⟨h2,hn2 (.inl h1.2)⟩,a8.trans hu2⟩

theorem RCompactNullableString_fn {ok:Blocks} {rb:Nat} {st:St} (w:World) (h:Rdr RT ok w rb st) (hr:¬ ok rb) (hg:GloBE w) (hrg:¬ 0=rb) :
  Fn Tryz.prog 62 #[.pointer (some ⟨rb,0,none⟩)] w fun r w'=>PtrText (fun b=>w.heap.size≤b) w' r (rdNStr true st).1.1 (rdNStr true st).1.2∧RdB RT ok rb w (rdNStr true st).2 w':=by
 have hrl:=h.lt
 unfold rdNStr
 rw [rdStr_t,rdLen_t]
 refine fn_of_W Tryz.func62 rfl Tryz.results62 Tryz.ntmps62 rfl ?_
 repeat ((first|refine qA ?_|apply qB|refine qC ?_|apply qD|apply qE|apply qF|apply qG|apply qH);try simp (maxSteps:=1000000)(disch:=omega) only [go_sem])
 refine (RUvarint_fn w h hr).mono ?_
 rintro _ w1 ⟨rfl,h1,a8⟩
 have ew:=rdUv_64 st
 have ew1:=rdUv_641 st
 have hz1:=a8.size
 by_cases hl:((rdUv st).1:Int) - 1 < 0
 ·rw [if_pos hl]
  repeat ((first|refine qA ?_|apply qB|refine qC ?_|apply qD|apply qE|apply qF|apply qG|apply qH);try simp (maxSteps:=1000000)(disch:=omega) only [go_sem,ew,ew1])
  exact ⟨rfl,h1,a8⟩
 ·rw [if_neg hl]
  repeat ((first|refine qA ?_|apply qB|refine qC ?_|apply qD|apply qE|apply qF|apply qG|apply qH);try simp (maxSteps:=1000000)(disch:=omega) only [go_sem,ew,ew1])
  refine (Span_fn w1 h1.1 hr _).mono ?_
  rintro r2 w2 ⟨hB2,_,_,h2,hn2,hu2⟩
  obtain ⟨a2,c2,rfl,hc2⟩:=hB2.shape
  have hz2:=hu2.size
  try simp (maxSteps:=1000000)(disch:=omega) only [go_sem]
  refine wp_string (S:=22) (T:=9) (E:=5) (s:=_) (ok:=ok) (by kernel_rfl) (by kernel_rfl) (by kernel_rfl) (by (try simp (maxSteps:=1000000)(disch:=omega) only [go_sem]);exact hB2) ?_
  simp (maxSteps:=1000000)(disch:=omega) only [go_sem]
  repeat ((first|refine qA ?_|apply qB|refine qC ?_|apply qD|apply qE|apply qF|apply qG|apply qH);try simp (maxSteps:=1000000)(disch:=omega) only [go_sem])
  have hE:∀ S:List UInt8,Ext w2 (wr (w2.alloc (.cells #[.string ByteArray.empty] 9)) w2.heap.size 0 [strV S]):=fun S=>(Upd.alloc (Upd.refl _ _) _).wr _ _ (.inl (Nat.le_refl _))
  refine ⟨⟨w2.heap.size,0,_,rfl,by show w.heap.size≤_;omega,by simp (maxSteps:=1000000)(disch:=omega) only [go_sem];rfl,rfl⟩,⟨h2.upd (hE _) (fun h=>h) (fun _ _ _ h=>h),(hn2 (.inl h1.2)).upd (hE _) fun h=>h⟩,(a8.trans hu2).trans ((hE _).mono fun _ h=>h.elim)⟩

theorem RCompactArrayLen_fn {ok:Blocks} {rb:Nat} {st:St} (w:World) (h:Rdr RT ok w rb st) (hr:¬ ok rb) (hg:GloBE w) (hrg:¬ 0=rb) :
  Fn Tryz.prog 44 #[.pointer (some ⟨rb,0,none⟩)] w (RdQ RT ok rb w (.int .i32 (rdALen true st).1) (rdALen true st).2):=by
 unfold rdALen
 rw [rdCnt_t]
 refine fn_of_W Tryz.func44 rfl Tryz.results44 Tryz.ntmps44 rfl ?_
 repeat ((first|refine qA ?_|apply qB|refine qC ?_|apply qD|apply qE|apply qF|apply qG|apply qH);try simp (maxSteps:=1000000)(disch:=omega) only [go_sem])
 refine (RUvarint_fn w h hr).mono ?_
 rintro _ w1 ⟨rfl,h1,a8⟩
 have ew:=i32w_64 (IntKind.i32.wrap ((rdUv st).1:Int) - 1)
 obtain ⟨v1,hb1,hB1,aD⟩:=h1.1.ex
 obtain ⟨a1,c1,rfl,hc1⟩:=hB1.shape
 have hlen:((rdUv st).2.getD []).length=stLen (rdUv st).2:=rfl
 by_cases hl:(stLen (rdUv st).2:Int) < IntKind.i32.wrap (IntKind.i32.wrap ((rdUv st).1:Int) - 1)
 ·have hl2:(((rdUv st).2.getD []).length:Int) < IntKind.i32.wrap (IntKind.i32.wrap ((rdUv st).1:Int) - 1):=hl
  simp only [if_pos hl]
  repeat ((first|refine qA ?_|apply qB|refine qC ?_|apply qD|apply qE|apply qF|apply qG|apply qH);try simp (maxSteps:=1000000)(disch:=omega) only [go_sem,hb1,ew,hl2])
  exact RdQ.then a8 (RdQ.bad hb1)
 ·have hl2:¬ (((rdUv st).2.getD []).length:Int) < IntKind.i32.wrap (IntKind.i32.wrap ((rdUv st).1:Int) - 1):=hl
  simp only [if_neg hl]
  repeat ((first|refine qA ?_|apply qB|refine qC ?_|apply qD|apply qE|apply qF|apply qG|apply qH);try simp (maxSteps:=1000000)(disch:=omega) only [go_sem,hb1,ew,hl2])
  exact ⟨rfl,h1,a8⟩

theorem RUuid_fn {ok:Blocks} {rb:Nat} {st:St} (w:World) (h:Rdr RT ok w rb st) (hr:¬ ok rb) :
  Fn Tryz.prog 53 #[.pointer (some ⟨rb,0,none⟩)] w (RdQ RT ok rb w (.agg ((uuidS (rdSpan 16 st).1).map byteV).toArray) (rdSpan 16 st).2):=by
 have hrl:=h.lt
 have hE1:Ext w ((w.alloc (.cells #[.int .u8 0,.int .u8 0,.int .u8 0,.int .u8 0,.int .u8 0,.int .u8 0,.int .u8 0,.int .u8 0,.int .u8 0,.int .u8 0,.int .u8 0,.int .u8 0,.int .u8 0,.int .u8 0,.int .u8 0,.int .u8 0] 82)).alloc (.cells #[.int .u8 0,.int .u8 0,.int .u8 0,.int .u8 0,.int .u8 0,.int .u8 0,.int .u8 0,.int .u8 0,.int .u8 0,.int .u8 0,.int .u8 0,.int .u8 0,.int .u8 0,.int .u8 0,.int .u8 0,.int .u8 0] 82)):=Upd.alloc (Upd.alloc (Upd.refl _ _) _) _
 have hb2:blk ((w.alloc (.cells #[.int .u8 0,.int .u8 0,.int .u8 0,.int .u8 0,.int .u8 0,.int .u8 0,.int .u8 0,.int .u8 0,.int .u8 0,.int .u8 0,.int .u8 0,.int .u8 0,.int .u8 0,.int .u8 0,.int .u8 0,.int .u8 0] 82)).alloc (.cells #[.int .u8 0,.int .u8 0,.int .u8 0,.int .u8 0,.int .u8 0,.int .u8 0,.int .u8 0,.int .u8 0,.int .u8 0,.int .u8 0,.int .u8 0,.int .u8 0,.int .u8 0,.int .u8 0,.int .u8 0,.int .u8 0] 82)) w.heap.size=some (#[.int .u8 0,.int .u8 0,.int .u8 0,.int .u8 0,.int .u8 0,.int .u8 0,.int .u8 0,.int .u8 0,.int .u8 0,.int .u8 0,.int .u8 0,.int .u8 0,.int .u8 0,.int .u8 0,.int .u8 0,.int .u8 0],82,(0,0)):=by simp (maxSteps:=1000000)(disch:=(first|omega|(simp only [qI,qJ,qK]<;>omega)|exact qL _)) only [go_sem]
 have hb3:blk ((w.alloc (.cells #[.int .u8 0,.int .u8 0,.int .u8 0,.int .u8 0,.int .u8 0,.int .u8 0,.int .u8 0,.int .u8 0,.int .u8 0,.int .u8 0,.int .u8 0,.int .u8 0,.int .u8 0,.int .u8 0,.int .u8 0,.int .u8 0] 82)).alloc (.cells #[.int .u8 0,.int .u8 0,.int .u8 0,.int .u8 0,.int .u8 0,.int .u8 0,.int .u8 0,.int .u8 0,.int .u8 0,.int .u8 0,.int .u8 0,.int .u8 0,.int .u8 0,.int .u8 0,.int .u8 0,.int .u8 0] 82)) (w.heap.size+1)=some (#[.int .u8 0,.int .u8 0,.int .u8 0,.int .u8 0,.int .u8 0,.int .u8 0,.int .u8 0,.int .u8 0,.int .u8 0,.int .u8 0,.int .u8 0,.int .u8 0,.int .u8 0,.int .u8 0,.int .u8 0,.int .u8 0],82,(0,0)):=by simp (maxSteps:=1000000)(disch:=(first|omega|(simp only [qI,qJ,qK]<;>omega)|exact qL _)) only [go_sem]
 refine fn_of_W Tryz.func53 rfl Tryz.results53 Tryz.ntmps53 rfl ?_
 repeat ((first|refine qA ?_|apply qB|refine qC ?_|apply qD|apply qE|apply qF|apply qG|apply qH);try simp (maxSteps:=1000000)(disch:=(first|omega|(simp only [qI,qJ,qK]<;>omega)|exact qL _)) only [go_sem])
 generalize ((w.alloc (.cells #[.int .u8 0,.int .u8 0,.int .u8 0,.int .u8 0,.int .u8 0,.int .u8 0,.int .u8 0,.int .u8 0,.int .u8 0,.int .u8 0,.int .u8 0,.int .u8 0,.int .u8 0,.int .u8 0,.int .u8 0,.int .u8 0] 82)).alloc (.cells #[.int .u8 0,.int .u8 0,.int .u8 0,.int .u8 0,.int .u8 0,.int .u8 0,.int .u8 0,.int .u8 0,.int .u8 0,.int .u8 0,.int .u8 0,.int .u8 0,.int .u8 0,.int .u8 0,.int .u8 0,.int .u8 0] 82))=w1 at *
 refine W.drawR (.take 0 (.take 1 (.only 2 (.only 3 .done)))) (fun b=>b=rb∨b=w.heap.size+1) mixed (by kernel_rfl) ?_
 simp (maxSteps:=1000000)(disch:=(first|omega|(simp only [qI,qJ,qK]<;>omega)|exact qL _)) only [go_sem]
 have hEd:Ext w1 w1.drew:=(Upd.refl _ _).drew
 have h':Rdr RT (fun b=>ok b∧b < w.heap.size) w rb st:=h.weaken fun b hb hk=>⟨hk,hb⟩
 refine (Span_fn w1.drew (h'.upd (hE1.trans hEd) (fun h=>h) (fun _ _ _ h=>h)) (fun h=>hr h.1) 16).mono ?_
 rintro r2 w2 ⟨hB2,_,_,h2,hn2,hu2⟩
 obtain ⟨a2,c2,rfl,hc2⟩:=hB2.shape
 refine ⟨hu2.mono fun _ h=>.inl h,?_⟩
 have aB:¬ w.heap.size+1=rb:=by omega
 have aA:¬ w.heap.size=rb:=by omega
 have hb3':=hu2.blk_some (hEd.blk_some hb3 id) aB
 have hb2':=hu2.blk_some (hEd.blk_some hb2 id) aA
 generalize (rdSpan 16 st).1=s at *
 refine wp_copy (E:=5) (s:=s) (ok:=fun b=>ok b∧b < w.heap.size) (by kernel_rfl) (by kernel_rfl) rfl rfl hB2 hb3' (by simp) rfl ?_
 intro v0
 have hcell:wrArr #[.int .u8 0,.int .u8 0,.int .u8 0,.int .u8 0,.int .u8 0,.int .u8 0,.int .u8 0,.int .u8 0,.int .u8 0,.int .u8 0,.int .u8 0,.int .u8 0,.int .u8 0,.int .u8 0,.int .u8 0,.int .u8 0] 0 ((s.take 16).map byteV)=((uuidS s).map byteV).toArray:=by
  have h:=wrArr_append [] ((List.replicate 16 (0:UInt8)).map byteV) ((s.take 16).map byteV) (by simp;omega)
  simp only [List.nil_append,List.length_nil] at h
  refine Eq.trans ?_ (h.trans ?_)
  ·rfl
  ·congr 1
   rw [uuidS,List.map_append]
   congr 1
   rw [List.length_map,← List.map_drop,List.drop_replicate,List.length_take]
   congr 2;omega
 have aE:Upd (fun b=>b=rb) w w2:=((hE1.trans hEd).mono fun _ h=>h.elim).trans hu2
 generalize hw3:wr w2 (w.heap.size+1) 0 _=w3
 have hu3:Upd (fun b=>b=rb∨b=w.heap.size+1) w1.drew w3:=by rw [← hw3];exact (hu2.mono fun _ h=>.inl h).wr _ _ (.inr (.inr rfl))
 have aF:Upd (fun b=>b=rb) w w3:=by rw [← hw3];exact aE.wr _ _ (.inl (by omega))
 have aG:Upd (fun b=>b=w.heap.size∨b=w.heap.size+1) w2 w3:=by rw [← hw3];exact (Upd.refl _ _).wr _ _ (.inr (.inr rfl))
 have hb33:blk w3 (w.heap.size+1)=some (((uuidS s).map byteV).toArray,82,(0,0)):=by
  rw [← hw3,blk_wr_eq,hb3']
  simp only [Option.map_some,hcell]
 have aC:blk w3 w.heap.size=some (#[.int .u8 0,.int .u8 0,.int .u8 0,.int .u8 0,.int .u8 0,.int .u8 0,.int .u8 0,.int .u8 0,.int .u8 0,.int .u8 0,.int .u8 0,.int .u8 0,.int .u8 0,.int .u8 0,.int .u8 0,.int .u8 0],82,(0,0)):=by
  rw [← hw3,blk_wr_ne (by omega)];exact hb2'
 clear hw3
 refine ⟨hu3,?_⟩
 have hl16:((uuidS s).map byteV).length=16:=by rw [List.length_map,uuidS_len]
 have hfl:=flat_bytes (uuidS s)
 generalize (uuidS s).map byteV=X at *
 obtain ⟨x0,x1,x2,x3,x4,x5,x6,x7,x8,x9,x10,x11,x12,x13,x14,x15,rfl⟩:=list16 hl16
 simp only [List.all_cons,List.all_nil,Bool.and_true,Bool.and_eq_true] at hfl
 obtain ⟨f0,f1,f2,f3,f4,f5,f6,f7,f8,f9,f10,f11,f12,f13,f14,f15⟩:=hfl
 have hc16:cellsAt #[x0,x1,x2,x3,x4,x5,x6,x7,x8,x9,x10,x11,x12,x13,x14,x15] 0 16=some (.agg #[x0,x1,x2,x3,x4,x5,x6,x7,x8,x9,x10,x11,x12,x13,x14,x15]):=rfl
 repeat ((first|refine qA ?_|apply qB|refine qC ?_|apply qD|apply qE|apply qF|apply qG|apply qH);try simp (maxSteps:=1000000)(disch:=(first|omega|(simp only [qI,qJ,qK]<;>omega)|exact qL _)) only [go_sem,hb33,aC,hc16,f0,f1,f2,f3,f4,f5,f6,f7,f8,f9,f10,f11,f12,f13,f14,f15])
 have hu34:∀ vs,Upd (fun b=>b=w.heap.size∨b=w.heap.size+1) w2 (wr w3 w.heap.size 0 vs):=fun vs=>aG.wr _ _ (.inr (.inl rfl))
 refine ⟨rfl,⟨(h2.upd (hu34 _) (by omega) fun b _ hk e => ?_).weaken fun b _ hk=>hk.1,(hn2 (.inr (by decide))).upd (hu34 _) (by omega)⟩,aF.wr _ _ (.inl (Nat.le_refl _))⟩
 have:=hk.2;omega

def GloErr (w:World) (ev:Value):Prop:=∃ x,blk w 1=some x∧x.1[0]? = some ev
theorem RComplete_fn {ok:Blocks} {rb:Nat} {st:St} {ev:Value} (w:World) (h:Rdr RT ok w rb st) (hg:GloErr w ev) :
  Fn Tryz.prog 47 #[.pointer (some ⟨rb,0,none⟩)] w fun r w'=>r=errV ev st∧w'=w:=by
 obtain ⟨v,hb,hB,hn⟩:=h.ex
 obtain ⟨xg,hxg,hev⟩:=hg
 refine fn_of_W Tryz.func47 rfl Tryz.results47 Tryz.ntmps47 rfl ?_
 unfold errV
 cases st with
 | none =>
  have hb':blk w rb=some (#[v,.bool true],RT,(0,0)):=hb
  repeat ((first|refine qA ?_|apply qB|refine qC ?_|apply qD|apply qE|apply qF|apply qG|apply qH);try simp (maxSteps:=1000000)(disch:=omega) only [go_sem,hb',hxg,hev])
  all_goals rfl
 | some s =>
  have hb':blk w rb=some (#[v,.bool false],RT,(0,0)):=hb
  repeat ((first|refine qA ?_|apply qB|refine qC ?_|apply qD|apply qE|apply qF|apply qG|apply qH);try simp (maxSteps:=1000000)(disch:=omega) only [go_sem,hb',hxg,hev])
  all_goals rfl

theorem ROk_fn {ok:Blocks} {rb:Nat} {st:St} (w:World) (h:Rdr RT ok w rb st) :
  Fn Tryz.prog 46 #[.pointer (some ⟨rb,0,none⟩)] w fun r w'=>r = .bool st.isSome∧w'=w:=by
 obtain ⟨v,hb,hB,hn⟩:=h.ex
 refine fn_of_W Tryz.func46 rfl Tryz.results46 Tryz.ntmps46 rfl ?_
 cases st with
 | none =>
  have hb':blk w rb=some (#[v,.bool true],RT,(0,0)):=hb
  repeat ((first|refine qA ?_|apply qB|refine qC ?_|apply qD|apply qE|apply qF|apply qG|apply qH);try simp (maxSteps:=1000000)(disch:=omega) only [go_sem,hb'])
  all_goals rfl
 | some s =>
  have hb':blk w rb=some (#[v,.bool false],RT,(0,0)):=hb
  repeat ((first|refine qA ?_|apply qB|refine qC ?_|apply qD|apply qE|apply qF|apply qG|apply qH);try simp (maxSteps:=1000000)(disch:=omega) only [go_sem,hb'])
  all_goals rfl
end Ms

namespace Ms
open Go Go.ChangeMaps
section
variable {P : Program} {ρ:Regs} {w:World} {K:Regs→World→Prop} {d:Option Nat} {type:TypeId} {pos:String} {after:Array Edge} {guard:Option (Nat × Bool)}
theorem wp_mapPut {T k e:TypeId} {m x y:Operand} {r clock i:Nat} {es:Array MapEntry} {n:Int} {v:Value} (hT:P.underlying T=some (.map k e)) (hK:P.underlying k=some (.int .u32)) (hm:ev ρ m = .map (some r)) (hx:ev ρ x = .int .u32 n) (hy:ev ρ y=v)
  (hb:w.heap[r]? = some (.map es clock)) (h1:KeysU es.toList) (hi:i < es.size) (h2:es[i].key = .int .u32 n) (h3:∀ j (hj:j < es.size),j < i→es[j].key≠.int .u32 n)
  (hk:K (put ρ d undef) (Go.ChangeMaps.setBlock w r (.map (es.modify i fun e=>{ e with key:=.int .u32 n,val:=v }) clock))) :
  rawK P { dst:=d,op:=.mapUpdate T m x y,type:=type,pos:=pos,after:=after,guard:=guard } ρ w K:=by
 refine wp_skip ?_ hk
 have g1:(getObj r).run P w = .ok (.map es clock) w:=MapKept.run_getObj_map hb
 have hf:=findNow_hit (i:=0) (k:=i) (es:=es.toList) (n:=n) (by simpa using hi) h1 (by simpa using h2) (fun j hj hji=>by simpa using h3 j (by simpa using hj) hji)
 have g2:(Instr.findKey k (.int .u32 n) es.toList).run P w = .ok (some (i,es[i].val)) w:=by
  simp only [Instr.findKey,Sem.run_bind,run_underlying hK,Result.andThen_ok,hf,Sem.run_pure]
  simp
 have g3:(Instr.checkKey false 10000 k (.int .u32 n)).run P w = .ok () w:=checkKey_int hK false 9999 n w
 have g5:(Instr.keyThatStays (((es[i]?).map (·.key)).getD (.int .u32 n)) (.int .u32 n)).run P w = .ok (.int .u32 n) w:=by
  have:((es[i]?).map (·.key)).getD (.int .u32 n) = .int .u32 n:=by simp [hi,h2]
  rw [this]
  have hs:Instr.sameBits 10000 (.int .u32 n) (.int .u32 n)=true:=by simp [Instr.sameBits]
  simp only [Instr.keyThatStays,hs,if_true,Sem.run_pure]
 have g4:(setObj r (.map (es.modify i fun e=>{ e with key:=.int .u32 n,val:=v }) clock)).run P w = .ok () (Go.ChangeMaps.setBlock w r (.map (es.modify i fun e=>{ e with key:=.int .u32 n,val:=v }) clock)):=by
  simp [setObj,Sem.run,hb,Go.ChangeMaps.setBlock]
 simp only [execOp,hm,hx,hy,Instr.mapUpdate,Sem.run_bind,run_underlying hT,Result.andThen_ok,g1,g2,g3,g4,g5,Sem.run_pure]
end
theorem tagPut_new {u:List TagD} {y:TagD} (h:∀ z∈u,z.1≠y.1):tagPut u y=u++[y]:=by
 unfold tagPut
 rw [if_neg]
 simp only [List.any_eq_true,beq_iff_eq,not_exists,not_and]
 exact h
theorem tagPut_old {u:List TagD} {y:TagD} {i:Nat} (hi:i < u.length) (h:u[i].1=y.1) (hn:(u.map (·.1)).Nodup):tagPut u y=u.set i y:=by
 unfold tagPut
 rw [if_pos (by simp only [List.any_eq_true,beq_iff_eq];exact ⟨_,List.getElem_mem hi,h⟩)]
 apply List.ext_getElem (by simp)
 intro j h1 h2
 simp only [List.length_map] at h1
 rw [List.getElem_map,List.getElem_set]
 by_cases hj:i=j
 ·subst hj;rw [if_pos h,if_pos rfl]
 ·rw [if_neg hj,if_neg]
  intro he
  have hn2:=List.pairwise_iff_getElem.1 (List.nodup_iff_pairwise_ne.1 hn)
  rcases Nat.lt_or_ge i j with h3|h3
  ·have:=hn2 i j (by simpa using hi) (by simpa using h1) h3
   simp only [List.getElem_map] at this
   exact this (by rw [h,he])
  ·have:=hn2 j i (by simpa using h1) (by simpa using hi) (by omega)
   simp only [List.getElem_map] at this
   exact this (by rw [h,he])
theorem tagPut_keys (u:List TagD) (y:TagD) (hn:(u.map (·.1)).Nodup):((tagPut u y).map (·.1)).Nodup:=by
 by_cases h:∀ z∈u,z.1≠y.1
 ·rw [tagPut_new h,List.map_append,List.nodup_append]
  refine ⟨hn,by simp,fun a ha b hb => ?_⟩
  obtain ⟨z,hz,rfl⟩:=List.mem_map.1 ha
  simp only [List.map_cons,List.map_nil,List.mem_singleton] at hb
  rw [hb];exact h z hz
 ·obtain ⟨z,hz,he⟩:∃ z,z∈u∧z.1=y.1:=by
   apply Classical.byContradiction
   intro hc
   exact h fun z hz he=>hc ⟨z,hz,he⟩
  obtain ⟨i,hi,rfl⟩:=List.getElem_of_mem hz
  rw [tagPut_old hi he hn]
  have:(u.set i y).map (·.1)=u.map (·.1):=by
   apply List.ext_getElem (by simp)
   intro j h1 h2
   simp only [List.length_map,List.length_set] at h1
   rw [List.getElem_map,List.getElem_map,List.getElem_set]
   split
   ·rename_i e;subst e;exact he.symm
   ·rfl
  rw [this];exact hn
theorem tagE_set {ok:Blocks} {w:World} {u:List TagD} {es:Array MapEntry} {clock i:Nat} (hsz:es.size=u.length) (h:∀ i (h1:i < u.length) (h2:i < es.size),TagE ok w u[i] es[i]∧es[i].born < clock) (hi:i < u.length) {y:TagD} {v:Value} (hy:y.1 < 2 ^ 32) (hv:BytesV ok w v y.2) :
  (es.modify i fun e=>{ e with key:=.int .u32 y.1,val:=v }).size=(u.set i y).length∧(∀ j (h1:j < (u.set i y).length) (h2:j < (es.modify i fun e=>{ e with key:=.int .u32 y.1,val:=v }).size),TagE ok w (u.set i y)[j] (es.modify i fun e=>{ e with key:=.int .u32 y.1,val:=v })[j]∧(es.modify i fun e=>{ e with key:=.int .u32 y.1,val:=v })[j].born < clock):=by
 refine ⟨by simp [hsz],fun j h1 h2 => ?_⟩
 simp only [List.length_set] at h1
 rw [List.getElem_set,Array.getElem_modify]
 split
 ·rename_i e;subst e
  exact ⟨⟨rfl,hy,hv⟩,(h i h1 (by omega)).2⟩
 ·exact h j h1 (by omega)
theorem inj_set {es:Array MapEntry} {i:Nat} {f:MapEntry→MapEntry} (hf:∀ e,(f e).born=e.born) (h:∀ i j (h1:i < es.size) (h2:j < es.size),es[i].born=es[j].born→i=j) :
  ∀ a b (h1:a < (es.modify i f).size) (h2:b < (es.modify i f).size),(es.modify i f)[a].born=(es.modify i f)[b].born→a=b:=by
 intro a b h1 h2 he
 simp only [Array.size_modify] at h1 h2
 have key:∀ c (hc:c < es.size) (hc2:c < (es.modify i f).size),((es.modify i f)[c]).born=es[c].born:=by
  intro c hc hc2
  rw [Array.getElem_modify]
  split
  ·rw [hf]
  ·rfl
 rw [key a h1 _,key b h2 _] at he
 exact h a b h1 h2 he
end Ms

namespace Ms
open Go

def zs (z:List Value) (n:Nat):List Value:=(List.replicate n z).flatten
theorem zs_succ (z:List Value) (n:Nat):zs z (n+1)=z++zs z n:=by simp [zs,List.replicate_succ]
theorem zs_len (z:List Value) (n:Nat):(zs z n).length=n * z.length:=by simp [zs]
theorem zs_get (z:List Value):∀ (n k:Nat),k < n * z.length→(zs z n)[k]? = z[k % z.length]?
 | 0,k,h=>by simp at h
 | n+1,k,h=>by
  rw [zs_succ]
  have hz:0 < z.length:=by
   rcases Nat.eq_zero_or_pos z.length with h0|h0
   ·rw [h0] at h;simp at h
   ·exact h0
  by_cases hk:k < z.length
  ·rw [List.getElem?_append_left hk,Nat.mod_eq_of_lt hk]
  ·rw [List.getElem?_append_right (by omega),zs_get z n (k - z.length) (by rw [Nat.succ_mul] at h;omega),← Nat.mod_eq_sub_mod (by omega)]
theorem zeroCells_zs (z:Array Value) (n:Nat):(Builtin.zeroCells z n).toList=zs z.toList n:=by
 apply List.ext_getElem?
 intro k
 by_cases hk:k < n * z.size
 ·rw [zs_get _ _ _ (by simpa using hk)]
  have hz:0 < z.size:=by
   rcases Nat.eq_zero_or_pos z.size with h0|h0
   ·rw [h0] at hk;simp at hk
   ·exact h0
  have hm:=Nat.mod_lt k hz
  simp only [Builtin.zeroCells,Array.toList_map,List.getElem?_map,Array.length_toList]
  rw [Array.getElem?_toList,Array.getElem?_eq_getElem (by simpa using hk)]
  simp only [Array.getElem_range,Option.map_some]
  rw [getElem!_pos z (k % z.size) hm,Array.getElem?_toList,Array.getElem?_eq_getElem hm]
 ·rw [List.getElem?_eq_none (by simp [Builtin.zeroCells];omega),List.getElem?_eq_none (by rw [zs_len];simpa using hk)]
section
variable {P : Program}
theorem wp_appendZ {T X E:TypeId} {size bytes:Nat} {zc:List Value} {kx:IntKind} (hT:P.underlying T=some (.slice E)) (hX:P.underlying X=some (.int kx)) (hi:(P.info? E).map (fun i=>(i.size,i.bytes,i.zero.map (·.cells)))=some (size,bytes,some zc.toArray)) (hsz:0 < size)
  {w:World} {ρ:Regs} {d:Option Nat} {x y:Operand} {type:TypeId} {pos:String} {after:Array Edge} {guard:Option (Nat × Bool)} {K:Regs→World→Prop} {a:Option Addr} {m:Nat}
  (hx:ev ρ x = .slice a 0 0) (hy:ev ρ y = .int kx m) (h0:0 < m) (hm:m < 2147483648) (hb:bytes≤16384)
  (hk:∀ q rest,m≤q→K (put ρ d (.slice (some ⟨w.heap.size,0,none⟩) m q)) (w.drew.alloc (.cells (zs zc m++rest).toArray E))) :
  rawK P { dst:=d,op:=.call { callee:=.builtin .append,args:=#[x,y],argTypes:=#[T,X] },type:=type,pos:=pos,after:=after,guard:=guard } ρ w K:=by
 refine ⟨?_⟩
 obtain ⟨ei,a8,aA⟩:=Option.map_eq_some_iff.1 hi
 simp only [Prod.mk.injEq] at aA
 obtain ⟨hs,hby,hz⟩:=aA
 obtain ⟨z,hz1,hz2⟩:=Option.map_eq_some_iff.1 hz
 have hw:IntKind.i64.wrap (m:Int)=m:=i64_wrap (by omega)
 have hmb:(m:Int) * (ei.bytes:Int)≤2 ^ 48:=by
  have:m * ei.bytes≤2147483648 * 16384:=Nat.mul_le_mul (by omega) (by omega)
  have e:((m * ei.bytes:Nat):Int)=(m:Int) * (ei.bytes:Int):=Int.natCast_mul _ _
  rw [← e]
  have:((m * ei.bytes:Nat):Int)≤((2147483648 * 16384:Nat):Int):=by exact_mod_cast this
  omega
 have hnx:Builtin.nextslicecap m 0 * ei.bytes≤2 ^ 48:=by
  have h1:=nextslicecap_le (need:=m) (old:=0) h0
  have:Builtin.nextslicecap m 0 * ei.bytes≤(2 * 2147483648+512) * 16384:=Nat.mul_le_mul (by omega) (by omega)
  omega
 have hne:¬ (m * ei.size=0):=by
  rw [hs]
  exact Nat.ne_of_gt (Nat.mul_pos h0 hsz)
 obtain ⟨q,hq1,hq2⟩:∃ q,m≤q∧(Builtin.append_ #[T,X] type #[.slice a 0 0,.int kx m]).run P w = .ok (.slice (some ⟨w.heap.size,0,none⟩) m q) (w.drew.alloc (.cells (zs zc m++zs zc (q - m)).toArray E)):=by
  have hfc:∀ w:World,(Builtin.firstCells ei.size 0 (.slice a 0 0)).run P w = .ok #[] w:=by
   intro w
   cases a with
   | none=>rfl
   | some a=>simp only [Builtin.firstCells,Nat.zero_mul,loadCells];rfl
  have hzz:∀ n,Builtin.zeroCells z.cells n=(zs zc n).toArray:=fun n=>by
   apply Array.ext'
   rw [zeroCells_zs,hz2]
  refine ⟨(Question.appendCap (0+m) 0 E).cut (w.tape w.drawn (Question.appendCap (0+m) 0 E)),by simp only [Question.cut];omega,?_⟩
  generalize hq:(Question.appendCap (0+m) 0 E).cut (w.tape w.drawn (Question.appendCap (0+m) 0 E))=q
  have hask:(askRoom (q * ei.bytes)).run P w.drew = .ok () w.drew:=by
   unfold askRoom;split<;>rfl
  simp only [Builtin.append_,List.getElem?_toArray,List.getElem?_cons_zero,List.getElem?_cons_succ,Sem.run_bind,run_underlying hT,Result.andThen_ok,run_sizeOf a8,run_underlying hX,Sem.run_pure,if_true,asInt,asIntOf,hw,run_typeInfo a8]
  rw [if_neg (by omega)]
  simp only [Sem.run_bind,Sem.run_pure,Result.andThen_ok,run_typeInfo a8]
  rw [if_neg (by omega)]
  simp only [Sem.run_bind,Sem.run_pure,Result.andThen_ok,Int.toNat_natCast]
  rw [if_neg (show ¬ 0+m≤0 by omega)]
  simp only [Sem.run_bind,run_typeInfo a8,Result.andThen_ok]
  rw [if_neg (by simp [IntKind.max,IntKind.signed,IntKind.bits];omega)]
  simp only [Sem.run_bind,run_typeInfo a8,Result.andThen_ok,Sem.run_pure]
  rw [if_neg (by rw [Nat.zero_add];omega)]
  simp only [Sem.run_bind,Sem.run_pure,Result.andThen_ok,choose]
  rw [run_drew rfl,hq]
  simp only [Sem.run_pure',Sem.run_bind,run_typeInfo a8,Sem.run_pure,Result.andThen_ok,hask,hfc,Bool.not_true,Bool.false_eq_true,if_false,if_neg hne,run_zero a8 hz1,newRow,newObj,Sem.run]
  rw [hzz,hzz,Nat.zero_add]
  simp
  rfl
 have:(execOp (ev ρ) { dst:=d,op:=.call { callee:=.builtin .append,args:=#[x,y],argTypes:=#[T,X] },type:=type,pos:=pos,after:=after,guard:=guard }).run P w = .ok (.value (.slice (some ⟨w.heap.size,0,none⟩) m q)) (w.drew.alloc (.cells (zs zc m++zs zc (q - m)).toArray E)):=by
  simp only [execOp,resolve,Sem.run_bind,Sem.run_pure,Result.andThen_ok,invoke,builtin,List.map_toArray,List.map_cons,List.map_nil,hx,hy,hq2]
 rw [this]
 exact hk q _ hq1
end

theorem el_get {A cs B:List Value} {o:Nat} (ho:o < cs.length):((A++(cs++B)).toArray)[A.length+o]? = cs[o]?:=by
 rw [List.getElem?_toArray,List.getElem?_append_right (by omega),Nat.add_sub_cancel_left,List.getElem?_append_left ho]
theorem el_set {A cs B:List Value} {o:Nat} {v:Value} (ho:o < cs.length):((A++(cs++B)).toArray).setIfInBounds (A.length+o) v=(A++(cs.set o v++B)).toArray:=by
 rw [List.setIfInBounds_toArray,List.set_append_right _ _ (by omega),Nat.add_sub_cancel_left,List.set_append_left _ _ ho]

def exitRQ (i:Nat) (J Qr:Regs→World→Prop):Exit→Regs→World→Prop:=fun e ρ w=>(e = .exit i∧J ρ w)∨(e = .ret∧Qr ρ w)
theorem exitRQ_exit (i:Nat) (J Qr:Regs→World→Prop) (ρ:Regs) (w:World):exitRQ i J Qr (.exit i) ρ w=J ρ w:=by simp [exitRQ]
theorem exitRQ_ret (i:Nat) (J Qr:Regs→World→Prop) (ρ:Regs) (w:World):exitRQ i J Qr .ret ρ w=Qr ρ w:=by simp [exitRQ]
theorem W.exitRJ {P:Program} {n:Nat} {c:Code} {Q:Exit→Regs→World→Prop} {ρ:Regs} {w:World} (i:Nat) (J:Regs→World→Prop) (h:W P n c (exitRQ i J (Q .ret)) ρ w) (hq:∀ ρ w,J ρ w→Q (.exit i) ρ w):W P n c Q ρ w :=
 h.mono fun e ρ w he=>by
  rcases he with ⟨rfl,hj⟩|⟨rfl,hj⟩
  ·exact hq ρ w hj
  ·exact hj

def ReadQ (T:TypeId) (ok:Blocks) (ver:Int) (d:Nat) (fs:List Fld) (vb:Nat) (w:World) (fin:Tree × St) (ev:Value) (r:Value) (w':World):Prop :=
 (fin.2=none→r=ev)∧(fin.2≠none→r = .nilIface∧∃ cells,blk w' vb=some ((.int .i16 ver :: cells).toArray,T,(0,0))∧RepS true d fs (okN ok w.heap.size) w' fin.1 cells)∧Upd (fun b=>b=vb) w w'
theorem ReadQ.bad {T:TypeId} {ok:Blocks} {ver:Int} {d:Nat} {fs:List Fld} {vb:Nat} {w:World} {fin:Tree × St} {ev:Value} {w':World} (h:fin.2=none) (hu:Upd (fun b=>b=vb) w w'):ReadQ T ok ver d fs vb w fin ev ev w' :=
 ⟨fun _=>rfl,fun h'=>absurd h h',hu⟩

def setL (cs:List Value) (o:Nat):List Value→List Value
 | []=>cs
 | v :: vs=>setL (cs.set o v) (o+1) vs
theorem el_sets {A B:List Value}:∀ (vs cs:List Value) (o:Nat),o+vs.length≤cs.length→wrArr ((A++(cs++B)).toArray) (A.length+o) vs=(A++(setL cs o vs++B)).toArray
 | [],cs,o,_=>rfl
 | v :: vs,cs,o,h=>by
  simp only [List.length_cons] at h
  rw [wrArr,el_set (cs:=cs) (by omega),Nat.add_assoc,el_sets vs (cs.set o v) (o+1) (by rw [List.length_set];omega),setL]
theorem el_blk {w:World} {R k o:Nat} {A cs B vs:List Value} {E:TypeId} {fr:Nat × Nat} (hb:blk w R=some ((A++(cs++B)).toArray,E,fr)) (hA:A.length=k) (h:o+vs.length≤cs.length):blk (wr w R (k+o) vs) R=some ((A++(setL cs o vs++B)).toArray,E,fr):=by
 subst hA
 rw [blk_wr_eq,hb,Option.map_some]
 simp only [el_sets vs cs o h]
theorem el_blk0 {w:World} {R k:Nat} {A cs B vs:List Value} {E:TypeId} {fr:Nat × Nat} (hb:blk w R=some ((A++(cs++B)).toArray,E,fr)) (hA:A.length=k) (h:vs.length≤cs.length):blk (wr w R k vs) R=some ((A++(setL cs 0 vs++B)).toArray,E,fr):=by
 have:=el_blk (o:=0) (vs:=vs) hb hA (by omega)
 rw [Nat.add_zero] at this;exact this
theorem el_cell {R k o:Nat} {A cs B:List Value} (hA:A.length=k) (ho:o < cs.length):((A++(cs++B)).toArray)[k+o]? = cs[o]?:=by subst hA;exact el_get ho
theorem el_open {w:World} {R k n:Nat} {E:TypeId} {A cs B:List Value} (hx:blk w R=some ((A++(cs++B)).toArray,E,(0,0))) (hA:A.length=k) (hn:cs.length=n):∃ X:Array Value,X=(A++(cs++B)).toArray∧blk w R=some (X,E,(0,0))∧k+n≤X.size :=
 ⟨_,rfl,hx,by simp only [List.size_toArray,List.length_append,hA,hn];omega⟩
theorem SlR.row {α:Type} {Rl:Rel α} {ok:Blocks} {w:World} {E:TypeId} {fr:Nat × Nat} {r q size:Nat} {css:List (List Value)} {rest:List Value} {xs:List α} (hb:blk w r=some ((css.flatten++rest).toArray,E,fr)) (hok:ok r) (hc:Css size css) (hq:css.length≤q) (ha:All2 (Rl ok w) xs css) :
  SlR ok w size (Rl ok w) (.slice (some ⟨r,0,none⟩) css.length q) xs :=
 ⟨css,⟨_,q,rfl,hq,hc,.inr ⟨_,rfl,rfl,hok,_,hb,fun i hi=>by
  simp only [Nat.zero_add,List.getElem?_toArray]
  exact List.getElem?_append_left hi⟩⟩,ha⟩

theorem rdMany_succ (r:St→Tree × St) (n:Nat) (s:St):rdMany r (n+1) s=((r s).1 :: (rdMany r n (r s).2).1,(rdMany r n (r s).2).2):=rfl
theorem rdMany_step {r:St→Tree × St} {N j:Nat} {s1 s:St} {xs:List Tree} (h:rdMany r N s1=(xs++(rdMany r (N - j) s).1,(rdMany r (N - j) s).2)) (hj:j < N) :
  rdMany r N s1=((xs++[(r s).1])++(rdMany r (N - (j+1)) (r s).2).1,(rdMany r (N - (j+1)) (r s).2).2):=by
 have e:N - j=(N - (j+1))+1:=by omega
 rw [e,rdMany_succ] at h
 rw [h];simp
theorem rdL_st {pt:List Fld→St→Tree × St} {dp:List Fld→Tree} {v:Int} {flex:Bool} {f:Fld} {fs:List Fld} {s:St} (ht:f.tag < 0) (hh:hasS f v=true):rdL pt dp v flex (f :: fs) s=((rdF pt v flex f s).1 :: (rdL pt dp v flex fs (rdF pt v flex f s).2).1,(rdL pt dp v flex fs (rdF pt v flex f s).2).2):=by
 rw [rdL,if_pos ⟨ht,hh⟩]
theorem rdL_no {pt:List Fld→St→Tree × St} {dp:List Fld→Tree} {v:Int} {flex:Bool} {f:Fld} {fs:List Fld} {s:St} (hh:hasS f v=false):rdL pt dp v flex (f :: fs) s=(dfF dp f :: (rdL pt dp v flex fs s).1,(rdL pt dp v flex fs s).2):=by
 rw [rdL,if_neg (by rw [hh];simp)]
section
variable {pt : List Fld→St→Tree × St} {v:Int} {flex:Bool} {f:Fld} {s:St}
theorem rdF_num (k:Int) (hk:f.kind=k) (h:k=1∨k=2∨k=3∨k=4∨k=5∨k=6):rdF pt v flex f s=(.num (rdInt (kindK k) (widthS k) s).1,(rdInt (kindK k) (widthS k) s).2):=by
 unfold rdF rd1
 rw [if_neg (by omega),if_neg (by omega),if_neg (by omega),if_neg (by omega),if_neg (by omega),if_neg (by omega),if_neg (by omega),hk]
theorem rdF_uuid (hk:f.kind=7):rdF pt v flex f s=(.oct false (uuidS (rdSpan 16 s).1),(rdSpan 16 s).2):=by
 unfold rdF rd1;rw [if_neg (by omega),if_neg (by omega),if_neg (by omega),if_pos hk]
theorem rdF_text (hk:f.kind=8) (hm:mayS f v=false):rdF pt v flex f s=(.oct false (rdStr flex s).1,(rdStr flex s).2):=by
 unfold rdF rd1;rw [if_neg (by omega),if_neg (by omega),if_neg (by omega),if_neg (by omega),if_pos hk,hm,if_neg (by decide)]
theorem rdF_ptr (hk:f.kind=8) (hm:mayS f v=true):rdF pt v flex f s=(.oct (rdNStr flex s).1.1 (rdNStr flex s).1.2,(rdNStr flex s).2):=by
 unfold rdF rd1;rw [if_neg (by omega),if_neg (by omega),if_neg (by omega),if_neg (by omega),if_pos hk,hm,if_pos rfl]
end
theorem mayS_no {f:Fld} {v:Int} (h:f.null < 0∨v < f.null):mayS f v=false:=by
 unfold mayS;simp only [Bool.and_eq_false_iff,decide_eq_false_iff_not];omega
theorem mayS_yes {f:Fld} {v:Int} (h1:0≤f.null) (h2:f.null≤v):mayS f v=true:=by
 unfold mayS;simp only [Bool.and_eq_true,decide_eq_true_eq];exact ⟨h1,h2⟩
theorem rd1_num {pt:List Fld→St→Tree × St} {sub:List Fld} {may flex:Bool} {s:St} (k:Int) (h:k=1∨k=2∨k=3∨k=4∨k=5):rd1 pt k sub may flex s=(.num (rdInt (kindK k) (widthS k) s).1,(rdInt (kindK k) (widthS k) s).2):=by
 unfold rd1
 rw [if_neg (by omega),if_neg (by omega),if_neg (by omega),if_neg (by omega),if_neg (by omega)]
theorem rd1_part {pt:List Fld→St→Tree × St} {sub:List Fld} {flex:Bool} {s:St}:rd1 pt 10 sub false flex s=pt sub s:=by
 unfold rd1;rw [if_neg (by omega),if_neg (by omega),if_neg (by omega),if_neg (by omega),if_pos rfl]
theorem wrap_wrap (k:IntKind) (n:Int):k.wrap (k.wrap n)=k.wrap n:=by
 cases k<;>simp [IntKind.wrap,IntKind.bits,IntKind.signed]<;>(try split)<;>(try split)<;>omega
theorem numC_rd (k:Int) (h:k=1∨k=2∨k=3∨k=4∨k=5) (n:Nat) (s:St):numC k (rdInt (kindK k) n s).1 = .int (kindK k) (rdInt (kindK k) n s).1:=by
 unfold rdInt
 rcases h with h|h|h|h|h<;>subst h<;>simp [numC,kindK,wrap_wrap]
theorem RepS.introT {d:Nat} {fs:List Fld} {ok:Blocks} {w:World} {t:Tree} {c:List Value} {v:Value} (h1:RepL (RepS true d) (szS true d) ok w t fs 0 c) (h2:TagsM ok w v t.u):RepS true (d+1) fs ok w t (c++[v]):=RepS.intro rfl h1 h2

structure RowJ (size:Nat) (E:TypeId) (zc:List Value) (L N j:Nat) (va:Value) (css:List (List Value)) (w:World):Prop where
 len:css.length=j
 wid:Css size css
 row:(N=0∧∃ a,va = .slice a 0 0∧∀ x,a=some x→L≤x.block∧x.block < w.heap.size)∨(0 < N∧∃ R q rest,va = .slice (some ⟨R,0,none⟩) N q∧N≤q∧L≤R∧blk w R=some ((css.flatten++(zs zc (N - j)++rest)).toArray,E,(0,0)))
theorem RowJ.empty (size:Nat) (E:TypeId) (zc:List Value) (L:Nat) (w:World):RowJ size E zc L 0 0 (.slice none 0 0) [] w:=⟨rfl,by simp [Css],.inl ⟨rfl,_,rfl,fun _ h=>by cases h⟩⟩
theorem RowJ.start {size:Nat} {E:TypeId} {zc:List Value} {L N R q:Nat} {rest:List Value} {w:World} (h0:0 < N) (hq:N≤q) (hL:L≤R) (hb:blk w R=some ((zs zc N++rest).toArray,E,(0,0))):RowJ size E zc L N 0 (.slice (some ⟨R,0,none⟩) N q) [] w :=
 ⟨rfl,by simp [Css],.inr ⟨h0,R,q,rest,rfl,hq,hL,by simpa using hb⟩⟩
theorem RowJ.upd {size:Nat} {E:TypeId} {zc:List Value} {L N j:Nat} {va:Value} {css:List (List Value)} {w w':World} {S:Nat→Prop} (h:RowJ size E zc L N j va css w) (u:Upd S w w') (hs:∀ b,ownB va b→¬ S b):RowJ size E zc L N j va css w':=by
 refine ⟨h.len,h.wid,?_⟩
 rcases h.row with ⟨h0,a,h1,h2⟩|⟨h0,R,q,rest,h1,h2,h3,h4⟩
 ·exact .inl ⟨h0,a,h1,fun x hx=>⟨(h2 x hx).1,by have:=(h2 x hx).2;have:=u.size;omega⟩⟩
 ·exact .inr ⟨h0,R,q,rest,h1,h2,h3,u.blk_some h4 (hs R ⟨_,_,_,h1,rfl⟩)⟩
theorem RowJ.shape {size:Nat} {E:TypeId} {zc:List Value} {L N j:Nat} {va:Value} {css:List (List Value)} {w:World} (h:RowJ size E zc L N j va css w):∃ a q,va = .slice a N q:=by
 rcases h.row with ⟨rfl,a,rfl,_⟩|⟨_,R,q,rest,rfl,_⟩
 ·exact ⟨_,_,rfl⟩
 ·exact ⟨_,_,rfl⟩
theorem RowJ.next {size:Nat} {E:TypeId} {zc:List Value} {L N j:Nat} {va:Value} {css:List (List Value)} {w:World} (h:RowJ size E zc L N j va css w) (hj:j < N) :
  ∃ R q B,va = .slice (some ⟨R,0,none⟩) N q∧N≤q∧L≤R∧css.flatten.length=j * size∧blk w R=some ((css.flatten++(zc++B)).toArray,E,(0,0)) ∧
   ∀ (w':World) (c:List Value),c.length=size→blk w' R=some ((css.flatten++(c++B)).toArray,E,(0,0))→RowJ size E zc L N (j+1) va (css++[c]) w':=by
 rcases h.row with ⟨h0,_⟩|⟨h0,R,q,rest,h1,h2,h3,h4⟩
 ·omega
 ·have hl:=flatten_len h.wid
  rw [h.len] at hl
  have e:N - j=(N - (j+1))+1:=by omega
  rw [e,zs_succ,List.append_assoc] at h4
  refine ⟨R,q,zs zc (N - (j+1))++rest,h1,h2,h3,hl,h4,fun w' c hc hb=>⟨by simp [h.len],fun cs hm => ?_,.inr ⟨h0,R,q,rest,h1,h2,h3,?_⟩⟩⟩
  ·rcases List.mem_append.1 hm with hm|hm
   ·exact h.wid _ hm
   ·simp only [List.mem_singleton] at hm;rw [hm];exact hc
  ·rw [hb];simp [List.append_assoc]
theorem All2.snoc {α β:Type} {R:α→β→Prop} {xs:List α} {ys:List β} {x:α} {y:β} (h:All2 R xs ys) (hx:R x y):All2 R (xs++[x]) (ys++[y]):=by
 refine ⟨by simp [h.1],fun i h1 h2 => ?_⟩
 simp only [List.length_append,List.length_cons,List.length_nil] at h1 h2
 have h3:=h.1
 by_cases hi:i < xs.length
 ·rw [List.getElem_append_left hi,List.getElem_append_left (by omega)]
  exact h.2 i hi (by omega)
 ·have:i=xs.length:=by omega
  subst this
  rw [List.getElem_append_right (Nat.le_refl _),List.getElem_append_right (by omega)]
  simpa [h3] using hx
theorem RepF_row {tg:Bool} {d:Nat} {f:Fld} {v:Int} {ok:Blocks} {w:World} {size:Nat} {E:TypeId} {zc:List Value} {L N:Nat} {n:Int} {va:Value} {css:List (List Value)} {xs:List Tree} (hk:f.kind=11) (hn:N=0→if nilS f v n=true then va = .slice none 0 0 else ∃ a,va = .slice (some a) 0 0) (hN:N=n.toNat) (hsz:sz1 (szS tg d) f.of f.sub=size)
  (hr:RowJ size E zc L N N va css w) (ha:All2 (Rep1 (RepS tg d) f.of f.sub (fun b=>ok b∧¬ ownB va b) w) xs css) (hL:∀ b,L≤b→ok b):RepF (RepS tg d) (szS tg d) f ok w (.mk 0 [] (nilS f v n) xs []) [va]:=by
 unfold RepF
 rw [if_neg (by omega),if_pos hk]
 refine ⟨va,rfl,?_⟩
 have hl:=hr.len
 rcases hr.row with ⟨h0,_⟩|⟨h0,R,q,rest,rfl,h2,h3,h4⟩
 ·have hv:=hn h0
  by_cases hnl:nilS f v n=true
  ·rw [if_pos hnl] at hv
   show (if nilS f v n=true then _ else _)
   rw [if_pos hnl];exact hv
  ·rw [if_neg hnl] at hv
   obtain ⟨a,rfl⟩:=hv
   show (if nilS f v n=true then _ else _)
   rw [if_neg hnl]
   have hc:css=[]:=List.length_eq_zero_iff.1 (by omega)
   subst hc
   have hx:xs=[]:=List.length_eq_zero_iff.1 ha.1
   subst hx
   exact ⟨⟨[],⟨_,_,rfl,Nat.le_refl _,(fun _ h=>by cases h),.inl rfl⟩,rfl,fun i h=>absurd h (Nat.not_lt_zero i)⟩,_,_,_,rfl⟩
 ·have:nilS f v n=false:=by
   unfold nilS
   split
   ·simp only [Bool.and_eq_false_iff,decide_eq_false_iff_not];omega
   ·simp only [decide_eq_false_iff_not];omega
  show (if nilS f v n=true then _ else _)
  rw [if_neg (by rw [this];decide),hsz]
  refine ⟨?_,_,_,_,rfl⟩
  have h5:All2 (Rep1 (RepS tg d) f.of f.sub ok w) xs css:=ha.imp fun x c hc=>(Rep1_lay f.of f.sub fun _=>RepS_lay tg d _).weaken hc fun b _ hb=>hb.1
  have:=SlR.row (Rl:=Rep1 (RepS tg d) f.of f.sub) (size:=size) (css:=css) (fr:=(0,0)) h4 (hL R h3) hr.wid (by rw [hl];exact h2) h5
  rw [hl] at this
  exact this
theorem nilS_plain {f:Fld} {v n:Int} (h:f.null < 0) (h0:n≤0):nilS f v n=true:=by unfold nilS;rw [if_neg (by omega)];exact decide_eq_true h0
theorem RepF_nil {R:List Fld→Rel Tree} {S:List Fld→Nat} {f:Fld} {ok:Blocks} {w:World} (hk:f.kind=11):RepF R S f ok w (.mk 0 [] true [] []) [.slice none 0 0]:=by
 unfold RepF
 rw [if_neg (by omega),if_pos hk]
 exact ⟨_,rfl,rfl⟩
theorem ownB_row {R n q b:Nat} (h:ownB (.slice (some ⟨R,0,none⟩) n q) b):b=R:=by
 obtain ⟨a,k,c,h1,h2⟩:=h
 simp only [Value.slice.injEq,Option.some.injEq] at h1
 rw [h2,← h1.1]
theorem Rdr.store {T:TypeId} {ok:Blocks} {w:World} {rb B o:Nat} {vs:List Value} {st:St} (h:Rdr T ok w rb st∧NN w rb st) (h1:¬ rb=B) (h2:ok B→False):Rdr T ok (wr w B o vs) rb st∧NN (wr w B o vs) rb st:=by
 have u:Upd (fun b=>b=B) w (wr w B o vs):=(Upd.refl _ _).wr _ _ (.inr rfl)
 exact ⟨h.1.upd u h1 fun b _ hk e=>h2 (e ▸ hk),h.2.upd u h1⟩
theorem Rdr.stored {T:TypeId} {ok:Blocks} {w w':World} {rb B o:Nat} {vs:List Value} {st:St} (hw:wr w B o vs=w') (h:Rdr T ok w rb st∧NN w rb st) (h1:¬ rb=B) (h2:ok B→False):Rdr T ok w' rb st∧NN w' rb st:=hw ▸ Rdr.store h h1 h2
end Ms

namespace Ms
open Go.World renaming size_alloc → qI
open Ms renaming size_wr → qJ,size_drew → qK,not_noB → qL
open W renaming seqF → qA,seq → qB,regF → qC,condK → qD,block → qE,skip → qF,ret → qG,exit → qH
set_option maxRecDepth 8000
open Go Go.Proofs Go.Shelf
attribute [local congr] W_congr WPsq_congr WPp_congr optK_congr addrK_congr intK_congr boolK_congr sliceK_congr tupleK_congr funcK_congr Fn_congr rawK_congr takeK_congr stepK_congr convK_congr aggK_congr

theorem TagsSet_old {tb to r clock i:Nat} {x:Blk} {es:Array MapEntry} (w:World) (hb:blk w tb=some x) (hm:x.1[to]? = some (.map (some r))) (hr:w.heap[r]? = some (.map es clock)) (k:Nat) (vv:Value) (h1:KeysU es.toList) (hi:i < es.size) (h2:es[i].key = .int .u32 k) (h3:∀ j (hj:j < es.size),j < i→es[j].key≠.int .u32 k) :
  Fn Tryz.prog 57 #[.pointer (some ⟨tb,to,none⟩),.int .u32 k,vv] w fun _ w' =>
   w'=Go.ChangeMaps.setBlock w r (.map (es.modify i fun e=>{ e with key:=.int .u32 k,val:=vv }) clock):=by
 refine fn_of_W Tryz.func57 rfl Tryz.results57 Tryz.ntmps57 rfl ?_
 repeat ((first|refine qA ?_|apply qB|refine qC ?_|apply qD|apply qE|apply qF|apply qG|apply qH);try simp (maxSteps:=1000000)(disch:=(first|omega|(simp only [qI,qJ,qK]<;>omega)|exact qL _)) only [go_sem,hb,hm])
 refine wp_mapPut (n:=(k:Int)) (v:=vv) tagsT u32T (by simp (maxSteps:=1000000)(disch:=(first|omega|(simp only [qI,qJ,qK]<;>omega)|exact qL _)) only [go_sem]) (by simp (maxSteps:=1000000)(disch:=(first|omega|(simp only [qI,qJ,qK]<;>omega)|exact qL _)) only [go_sem]) (by simp (maxSteps:=1000000)(disch:=(first|omega|(simp only [qI,qJ,qK]<;>omega)|exact qL _)) only [go_sem]) hr h1 hi h2 h3 ?_
 simp (maxSteps:=1000000)(disch:=(first|omega|(simp only [qI,qJ,qK]<;>omega)|exact qL _)) only [go_sem]
 repeat ((first|refine qA ?_|apply qB|refine qC ?_|apply qD|apply qE|apply qF|apply qG|apply qH);try simp (maxSteps:=1000000)(disch:=(first|omega|(simp only [qI,qJ,qK]<;>omega)|exact qL _)) only [go_sem])

theorem TagsPut_fn {okT:Blocks} {L vb o:Nat} {x:Blk} {m:Value} {u:List TagD} (w:World) (hG:TagsG okT L w m u) (hL:L≤w.heap.size) (hvL:vb < L) (hb:blk w vb=some x) (hm:x.1[o]? = some m) (hth:thaw x.2.2 o 1=true)
  (y:TagD) (vv:Value) (hval:BytesV (fun b=>okT b∧b < L) w vv y.2) (hy:y.1 < 2 ^ 32) (hnd:(u.map (·.1)).Nodup) (hoT:∀ b,okT b→b≠vb) :
  Fn Tryz.prog 57 #[.pointer (some ⟨vb,o,none⟩),.int .u32 y.1,vv] w fun _ w'=>∃ m',blk w' vb=some (x.1.setIfInBounds o (.map m'),x.2)∧TagsG okT L w' (.map m') (tagPut u y)∧Upd (fun b=>b=vb∨m = .map (some b)) w w':=by
 by_cases hnew:∀ z∈u,z.1≠y.1
 ·rw [tagPut_new hnew]
  exact TagsSet_fn w hG hL hvL hb hm hth y vv hval hy hnew hoT
 ·obtain ⟨z,hz,he⟩:∃ z,z∈u∧z.1=y.1:=by
   apply Classical.byContradiction
   intro hc
   exact hnew fun z hz he=>hc ⟨z,hz,he⟩
  obtain ⟨i,hi,rfl⟩:=List.getElem_of_mem hz
  rw [tagPut_old hi he hnd]
  rcases hG with ⟨rfl,rfl⟩|⟨r,es,clock,rfl,g2,g3,g4,g5,g6⟩
  ·simp at hi
  ·have hKU:=tm_keysU g4 g5
   have hkey:∀ j (hj:j < es.size),es[j].key = .int .u32 y.1→j=i:=by
    intro j hj hk
    have h1:=(g5 j (by omega) hj).1.key
    rw [h1] at hk
    simp only [Value.int.injEq,true_and] at hk
    have hk2:u[j].1=u[i].1:=by rw [he];omega
    have hn2:=List.pairwise_iff_getElem.1 (List.nodup_iff_pairwise_ne.1 hnd)
    rcases Nat.lt_trichotomy i j with h3|h3|h3
    ·have:=hn2 i j (by simpa using hi) (by simp;omega) h3
     simp only [List.getElem_map] at this
     exact absurd hk2.symm this
    ·exact h3.symm
    ·have:=hn2 j i (by simp;omega) (by simpa using hi) h3
     simp only [List.getElem_map] at this
     exact absurd hk2 this
   refine (TagsSet_old (i:=i) w hb hm g3 y.1 vv hKU (by omega) ?_ ?_).mono ?_
   ·rw [(g5 i hi (by omega)).1.key,he]
   ·intro j hj hji hk
    have:=hkey j hj hk
    omega
   ·rintro _ w' rfl
    have hU2:Upd (fun b=>b=vb∨Value.map (some r) = .map (some b)) w _:=(Upd.refl _ w).setBlock r (.map (es.modify i fun e=>{ e with key:=.int .u32 y.1,val:=vv }) clock) (.inr (.inr rfl))
    have hkp:Keeps (fun b=>okT b∧b < L) w _:=hU2.keeps fun b hb hk h=>by
     rcases h with h|h
     ·exact hoT b hk.1 h
     ·cases h;have:=hk.2;omega
    have hp:=tagE_set (i:=i) g4 (fun i h1 h2=>⟨(g5 i h1 h2).1.keep hkp,(g5 i h1 h2).2⟩) hi hy (hval.keep hkp)
    refine ⟨some r,?_,.inr ⟨r,_,clock,rfl,g2,setBlock_same _ _ _ (heap_lt g3),hp.1,hp.2,inj_set (fun _=>rfl) g6⟩,hU2⟩
    rw [blk_of_heap (setBlock_ne _ _ _ (by
     intro e
     subst e
     have h8:=blk_lt hb
     unfold blk at hb
     rw [g3] at hb
     cases hb)),hb]
    have e:x.1.setIfInBounds o (.map (some r))=x.1:=by
     apply Array.ext_getElem?
     intro k
     rw [Array.getElem?_setIfInBounds]
     split
     ·rename_i h;subst h
      rw [if_pos (Array.getElem?_eq_some_iff.1 hm).1];exact hm.symm
     ·rfl
    rw [e]

def TagsQ (ok:Blocks) (rb:Nat) (w:World) (st:St) (r:Value) (w':World):Prop :=
 ∃ q,r = .agg #[.map q]∧TagsM (okN ok w.heap.size) w' (.map q) (rdTags st).1∧((rdTags st).1.map (·.1)).Nodup∧RdB RT ok rb w (rdTags st).2 w'
set_option maxHeartbeats 2000000 in
theorem ReadTags_fn {ok:Blocks} {rb:Nat} {st:St} (w:World) (h0:Rdr RT ok w rb st) (hr0:¬ ok rb) :
  Fn Tryz.prog 59 #[.pointer (some ⟨rb,0,none⟩)] w (TagsQ ok rb w st):=by
 have hrl:=h0.lt
 have h:=h0.weaken (ok':=fun b=>ok b∧b < w.heap.size) fun b hb hk=>⟨hk,hb⟩
 have hr:¬ (fun b=>ok b∧b < w.heap.size) rb:=fun h=>hr0 h.1
 have hE1:Ext w ((w.alloc (.cells #[.map none] 68)).alloc (.cells #[.map none] 68)):=Upd.alloc (Upd.alloc (Upd.refl _ _) _) _
 have hb2:blk ((w.alloc (.cells #[.map none] 68)).alloc (.cells #[.map none] 68)) w.heap.size=some (#[.map none],68,(0,0)):=by simp (maxSteps:=1000000)(disch:=(first|omega|(simp only [qI,qJ,qK]<;>omega)|exact qL _)) only [go_sem]
 have hb3:blk ((w.alloc (.cells #[.map none] 68)).alloc (.cells #[.map none] 68)) (w.heap.size+1)=some (#[.map none],68,(0,0)):=by simp (maxSteps:=1000000)(disch:=(first|omega|(simp only [qI,qJ,qK]<;>omega)|exact qL _)) only [go_sem]
 have hz1:((w.alloc (.cells #[.map none] 68)).alloc (.cells #[.map none] 68)).heap.size=w.heap.size+2:=by simp only [World.size_alloc]
 refine fn_of_W Tryz.func59 rfl Tryz.results59 Tryz.ntmps59 rfl ?_
 repeat ((first|refine qA ?_|apply qB|refine qC ?_|apply qD|apply qE|apply qF|apply qG|apply qH);try simp (maxSteps:=1000000)(disch:=(first|omega|(simp only [qI,qJ,qK]<;>omega)|exact qL _)) only [go_sem])
 generalize ((w.alloc (.cells #[.map none] 68)).alloc (.cells #[.map none] 68))=w1 at *
 refine (RUvarint_fn w1 (h.upd hE1 (fun h=>h) (fun _ _ _ h=>h)) hr).mono ?_
 rintro _ w2 ⟨rfl,⟨h2,hn2⟩,hu2⟩
 have hlt:=rdUv_lt st
 have hz2:=hu2.size
 have aD:=hu2.blk_some hb2 (by omega)
 have aE:=hu2.blk_some hb3 (by omega)
 have hU2:Upd (fun b=>b=rb) w w2:=(hE1.mono fun _ h=>h.elim).trans hu2
 repeat ((first|refine qA ?_|apply qB|refine qC ?_|apply qD|apply qE|apply qF|apply qG|apply qH);try simp (maxSteps:=1000000)(disch:=(first|omega|(simp only [qI,qJ,qK]<;>omega)|exact qL _)) only [go_sem])
 refine W.exitJ 0 (fun ρ w'=>∃ q,ρ 2 = .pointer (some ⟨w.heap.size,0,none⟩)∧ρ 3 = .pointer (some ⟨w.heap.size+1,0,none⟩)∧blk w' (w.heap.size+1)=some (#[.map q],68,(0,0))∧blk w' w.heap.size=some (#[.map none],68,(0,0))∧TagsG (fun b=>ok b∧b < w.heap.size) (w.heap.size+2) w' (.map q) (rdTags st).1∧((rdTags st).1.map (·.1)).Nodup∧(Rdr RT (fun b=>ok b∧b < w.heap.size) w' rb (rdTags st).2∧NN w' rb (rdTags st).2)∧Upd (fun b=>b=rb) w w')
  (W.loop (fun ρ w'=>∃ (n:Nat) (u:List TagD) (s:St) (q:Option Nat),n < 4294967296∧ρ 0 = .pointer (some ⟨rb,0,none⟩)∧ρ 2 = .pointer (some ⟨w.heap.size,0,none⟩)∧ρ 3 = .pointer (some ⟨w.heap.size+1,0,none⟩)∧ρ 4 = .int .u32 n∧blk w' (w.heap.size+1)=some (#[.map q],68,(0,0))∧blk w' w.heap.size=some (#[.map none],68,(0,0)) ∧
    TagsG (fun b=>ok b∧b < w.heap.size) (w.heap.size+2) w' (.map q) u∧(u.map (·.1)).Nodup∧(Rdr RT (fun b=>ok b∧b < w.heap.size) w' rb s∧NN w' rb s)∧Upd (fun b=>b=rb) w w'∧rdTagsN n u s=rdTags st)
   (fun ρ _=>(RowKit.intOf (ρ 4)).toNat) ?_ ?_) ?_
 ·refine ⟨(rdUv st).1,[],(rdUv st).2,none,hlt,?_,?_,?_,?_,aE,aD,TagsG.start _ _ _,by simp,⟨h2,hn2⟩,hU2,rfl⟩<;>simp (maxSteps:=1000000)(disch:=(first|omega|(simp only [qI,qJ,qK]<;>omega)|exact qL _)) only [go_sem]
  all_goals rfl
 ·rintro ρ w4 ⟨n,u,s,q,hn,h0',h2',h3',h4',hb3',hb2',hG,hnd,⟨hR,hN⟩,hU,hT⟩
  have hz4:=hU.size
  by_cases hn0:n=0
  ·subst hn0
   have hc:¬ (0:Int) < ((0:Nat):Int):=by omega
   repeat ((first|refine qA ?_|apply qB|refine qC ?_|apply qD|apply qE|apply qF|apply qG|apply qH);try simp (maxSteps:=1000000)(disch:=(first|omega|(simp only [qI,qJ,qK]<;>omega)|exact qL _)) only [go_sem,h4'])
   have hT':(u,s)=rdTags st:=hT
   rw [← hT']
   exact ⟨q,h2',h3',hb3',hb2',hG,hnd,⟨hR,hN⟩,hU⟩
  ·have hlt3:=blk_lt hb3'
   have hlt2:=blk_lt hb2'
   repeat ((first|refine qA ?_|apply qB|refine qC ?_|apply qD|apply qE|apply qF|apply qG|apply qH);try simp (maxSteps:=1000000)(disch:=(first|omega|(simp only [qI,qJ,qK]<;>omega)|exact qL _)) only [go_sem,h0',h4'])
   refine (RUvarint_fn w4 hR hr).mono ?_
   rintro _ w5 ⟨rfl,⟨h5,hn5⟩,hu5⟩
   repeat ((first|refine qA ?_|apply qB|refine qC ?_|apply qD|apply qE|apply qF|apply qG|apply qH);try simp (maxSteps:=1000000)(disch:=(first|omega|(simp only [qI,qJ,qK]<;>omega)|exact qL _)) only [go_sem,h0'])
   refine (RUvarint_fn w5 h5 hr).mono ?_
   rintro _ w6 ⟨rfl,⟨h6,hn6⟩,hu6⟩
   have e64:=rdUv_64 (rdUv s).2
   repeat ((first|refine qA ?_|apply qB|refine qC ?_|apply qD|apply qE|apply qF|apply qG|apply qH);try simp (maxSteps:=1000000)(disch:=(first|omega|(simp only [qI,qJ,qK]<;>omega)|exact qL _)) only [go_sem,h0',e64])
   refine (Span_fn w6 h6 hr _).mono ?_
   rintro r7 w7 ⟨a8,_,_,h7,aF,hu7⟩
   obtain ⟨a7,c7,rfl,hc7⟩:=a8.shape
   have hu47:Upd (fun b=>b=rb) w4 w7:=(hu5.trans hu6).trans hu7
   have hz7:=hu47.size
   have hb7:=hu47.blk_some hb3' (by omega)
   have aB:=hu47.blk_some hb2' (by omega)
   have hG7:=hG.keep (w':=w7) fun b hb hk=>hu47.keep b hb fun e=>by
    rcases hk with hk|hk
    ·exact hr (e ▸ hk.1)
    ·omega
   have hlv:=rdUv_lt s
   repeat ((first|refine qA ?_|apply qB|refine qC ?_|apply qD|apply qE|apply qF|apply qG|apply qH);try simp (maxSteps:=1000000)(disch:=(first|omega|(simp only [qI,qJ,qK]<;>omega)|exact qL _)) only [go_sem,h3'])
   have hm:(#[.map q]:Array Value)[0]? = some (.map q):=rfl
   rw [h3']
   refine (TagsPut_fn (okT:=fun b=>ok b∧b < w.heap.size) (L:=w.heap.size+2) w7 hG7 (by omega) (by omega) hb7 hm (thaw_00 _ _) ((rdUv s).1,(rdSpan (rdUv (rdUv s).2).1 (rdUv (rdUv s).2).2).1) _ (a8.weaken fun b _ hk=>⟨hk,by have:=hk.2;omega⟩) hlv hnd (fun b hk e=>by have:=hk.2;omega)).mono ?_
   rintro _ w8 ⟨m',hb8,hG8,hU8⟩
   have hmap:∀ b,Value.map q = .map (some b)→w.heap.size+2≤b:=fun b hb=>by
    cases hb
    exact (hG7.lt rfl).2
   have aC:=hU8.blk_some aB (by rintro (h|h)<;>first|omega|(have:=hmap _ h;omega))
   have aA:¬ (rb=w.heap.size+1∨Value.map q = .map (some rb)):=by rintro (h|h)<;>first|omega|(have:=hmap _ h;omega)
   have hw1:IntKind.u32.wrap ((n:Int) - 1)=((n - 1:Nat):Int):=by rw [u32_wrap (by omega)];omega
   repeat ((first|refine qA ?_|apply qB|refine qC ?_|apply qD|apply qE|apply qF|apply qG|apply qH);try simp (maxSteps:=1000000)(disch:=(first|omega|(simp only [qI,qJ,qK]<;>omega)|exact qL _)) only [go_sem,h4',hw1])
   obtain ⟨k,rfl⟩:∃ k,n=k+1:=⟨n - 1,by omega⟩
   rw [rdTagsN] at hT
   refine ⟨⟨k,_,_,m',by omega,h0',h2',h3',rfl,hb8,aC,hG8,tagPut_keys _ _ hnd,⟨h7.upd hU8 aA (fun b _ hk e => ?_),(aF (.inl hn6)).upd hU8 aA⟩,?_,hT⟩,?_⟩
   ·rcases e with e|e
    ·have:=hk.2;omega
    ·have:=hmap _ e;have:=hk.2;omega
   ·exact (hU.trans hu47).trans' hU8 fun i hi e=>by
     rcases e with e|e
     ·omega
     ·have:=hmap _ e;omega
   ·simp only [RowKit.intOf];omega
 ·rintro ρ w4 ⟨q,h2',h3',hb3',hb2',hG,hnd,⟨hR,hN⟩,hU⟩
  have hz4:=hU.size
  have hlt3:=blk_lt hb3'
  have hlt2:=blk_lt hb2'
  have hc1:cellsAt #[.map q] 0 1=some (.agg #[.map q]):=rfl
  repeat ((first|refine qA ?_|apply qB|refine qC ?_|apply qD|apply qE|apply qF|apply qG|apply qH);try simp (maxSteps:=1000000)(disch:=(first|omega|(simp only [qI,qJ,qK]<;>omega)|exact qL _)) only [go_sem,h2',h3',hb3',hb2',hc1])
  have hE:Upd (fun b=>b=w.heap.size) w4 (wr w4 w.heap.size 0 [.map q]):=(Upd.refl _ _).wr _ _ (.inr rfl)
  refine ⟨q,rfl,?_,hnd,⟨(hR.upd hE (by omega) (fun b _ hk e=>by have:=hk.2;omega)).weaken fun b _ hk=>hk.1,hN.upd hE (by omega)⟩,hU.trans' hE fun i hi e=>by omega⟩
  exact ((hG.tags (ok':=fun b=>(ok b∧b < w.heap.size)∨w.heap.size+2≤b) (fun b _ hk=>.inl hk) (fun b hb=>.inr hb)).keep (hE.keeps fun b _ hk e=>by
   rcases hk with hk|hk
   ·have:=hk.2;omega
   ·omega)).weaken fun b _ hk=>hk.elim (fun h=>.inl h.1) (fun h=>.inr (by omega))

def Glo (ev:Value) (w:World):Prop:=GloBE w∧GloErr w ev
theorem Glo.lt {ev:Value} {w:World} (h:Glo ev w):0 < w.heap.size∧1 < w.heap.size:=by
 obtain ⟨⟨x,hx⟩,y,hy,_⟩:=h
 exact ⟨blk_lt hx,blk_lt hy⟩
theorem Glo.updS {ev:Value} {w w':World} {S:Nat→Prop} (h:Glo ev w) (u:Upd S w w') (h1:¬ S 0) (h2:¬ S 1):Glo ev w':=by
 obtain ⟨⟨x,hx⟩,y,hy,he⟩:=h
 exact ⟨⟨x,u.blk_some hx h1⟩,y,u.blk_some hy h2,he⟩
end Ms

namespace Ms
open Go

structure LstI (T:TypeId) (r:St→Tree × St) (rel:Rel Tree) (size:Nat) (E:TypeId) (zc:List Value) (L N:Nat) (ok okE:Blocks) (rb:Nat) (wa:World) (sA:St) (va:Value) (j:Nat) (s:St) (xs:List Tree) (css:List (List Value)) (w:World):Prop where
 le:j≤N
 row:RowJ size E zc L N j va css w
 all:All2 (rel (fun b=>okE b∧¬ ownB va b) w) xs css
 rd:Rdr T ok w rb s∧NN w rb s
 upd:Upd (fun b=>b=rb) wa w
 eq:rdMany r N sA=(xs++(rdMany r (N - j) s).1,(rdMany r (N - j) s).2)
section
variable {T : TypeId} {r:St→Tree × St} {rel:Rel Tree} {size:Nat} {E:TypeId} {zc:List Value} {L N:Nat} {ok okE:Blocks} {rb:Nat} {wa:World} {sA:St} {va:Value} {j:Nat} {s:St} {xs:List Tree} {css:List (List Value)} {w w':World}
theorem LstI.start (h:RowJ size E zc L N 0 va [] w) (hr:Rdr T ok w rb sA∧NN w rb sA) (hu:Upd (fun b=>b=rb) wa w):LstI T r rel size E zc L N ok okE rb wa sA va 0 sA [] [] w :=
 ⟨Nat.zero_le _,h,⟨rfl,fun i h=>by simp at h⟩,hr,hu,by simp⟩
theorem RowJ.own (h:RowJ size E zc L N j va css w) {b:Nat} (hb:ownB va b):L≤b∧b < w.heap.size:=by
 obtain ⟨a,n,c,he,rfl⟩:=hb
 rcases h.row with ⟨_,a',h1,h2⟩|⟨_,R,q,rest,h1,_,hL,hbk⟩
 ·rw [he] at h1;cases h1;exact h2 _ rfl
 ·rw [he] at h1;cases h1;exact ⟨hL,blk_lt hbk⟩
theorem LstI.step (hR:Lay rel size) (h:LstI T r rel size E zc L N ok okE rb wa sA va j s xs css w) (hj:j < N) {c:List Value} (row:RowJ size E zc L N (j+1) va (css++[c]) w') (hx:rel (fun b=>okE b∧¬ ownB va b) w' (r s).1 c)
  (u:Upd (fun b=>ownB va b∨b=rb) w w') (rd:Rdr T ok w' rb (r s).2∧NN w' rb (r s).2) (hok:¬ okE rb) (hL:wa.heap.size≤L):LstI T r rel size E zc L N ok okE rb wa sA va (j+1) (r s).2 (xs++[(r s).1]) (css++[c]) w':=by
 refine ⟨hj,row,(h.all.imp fun x y hxy=>hR.keep hxy (u.keeps fun b _ hk e => ?_)).snoc hx,rd,?_,rdMany_step h.eq hj⟩
 ·rcases e with e|e
  ·exact hk.2 e
  ·exact hok (e ▸ hk.1)
 ·refine h.upd.trans' u fun i hi e => ?_
  rcases e with e|e
  ·have:=(h.row.own e).1;omega
  ·exact e
theorem LstI.done (h:LstI T r rel size E zc L N ok okE rb wa sA va N s xs css w):rdMany r N sA=(xs,s):=by
 have:=h.eq
 rw [Nat.sub_self] at this
 simpa [rdMany] using this
theorem LstI.bad (h:LstI T r rel size E zc L N ok okE rb wa sA va j s xs css w) (hj:j < N) (hn:(r none).2=none) (hb:(r s).2=none):(rdMany r N sA).2=none:=by
 rw [rdMany_step h.eq hj,hb]
 exact rdMany_none hn _
end
theorem rdALen_rng (flex:Bool) (st:St) : -2147483648≤(rdALen flex st).1∧(rdALen flex st).1 < 2147483648:=by
 have key:∀ n:Int,-2147483648≤IntKind.i32.wrap n∧IntKind.i32.wrap n < 2147483648:=fun n=>by
  unfold IntKind.wrap;simp [IntKind.bits,IntKind.signed];split<;>omega
 have h2 : -2147483648≤(rdCnt flex st).1∧(rdCnt flex st).1 < 2147483648:=by
  cases flex
  ·rw [rdCnt_f];unfold rdInt;exact key _
  ·rw [rdCnt_t];exact key _
 unfold rdALen
 split
 ·exact ⟨by decide,by decide⟩
 ·exact h2
theorem rdF_listE {pt:List Fld→St→Tree × St} {v:Int} {flex:Bool} {f:Fld} {s e:St} {xs:List Tree} (hk:f.kind=11) (h:rdMany (rd1 pt f.of f.sub false flex) (rdALen flex s).1.toNat (rdALen flex s).2=(xs,e)):rdF pt v flex f s=(.mk 0 [] (nilS f v (rdALen flex s).1) xs [],e):=by
 unfold rdF
 rw [if_pos hk]
 unfold rdList
 rw [h]
def Holds : List (Nat × Value)→Regs→Prop
 | [],_=>True
 | p :: l,ρ=>ρ p.1=p.2∧Holds l ρ
theorem Holds_nil (ρ:Regs):Holds [] ρ=True:=nr rfl
theorem Holds_cons (r:Nat) (v:Value) (l:List (Nat × Value)) (ρ:Regs):Holds ((r,v) :: l) ρ=(ρ r=v∧Holds l ρ):=nr rfl
def RowQ (l:List (Nat × Value)) (ra:Nat) (I:Value→World→Prop) (ρ:Regs) (w:World):Prop:=Holds l ρ∧∃ v,ρ ra=v∧I v w
def LoopQ (l:List (Nat × Value)) (ri:Nat) (I:Nat→World→Prop) (ρ:Regs) (w:World):Prop:=Holds l ρ∧∃ j:Nat,ρ ri = .int .i32 j∧I j w
def EndQ (l:List (Nat × Value)) (I:World→Prop) (ρ:Regs) (w:World):Prop:=Holds l ρ∧I w
theorem slBase_00 (a:Option Addr) (s:Nat):slBase a 0 0 s=a:=by
 unfold slBase
 rw [if_pos rfl]
theorem RowJ.zero {size:Nat} {E:TypeId} {zc:List Value} {L N:Nat} {w:World} {a:Option Addr} (h0:N=0) (h:∀ x,a=some x→L≤x.block∧x.block < w.heap.size):RowJ size E zc L N 0 (.slice a 0 0) [] w:=⟨rfl,by simp [Css],.inl ⟨h0,_,rfl,h⟩⟩
theorem isSome_some {s:St} (h:¬ s=none):s.isSome=true:=by
 cases s with
 | none=>exact absurd rfl h
 | some x=>rfl
theorem errV_none {s:St} {ev:Value} (h:s=none):errV ev s=ev:=by subst h;rfl

theorem beN_append (a b:List UInt8):beN (a++b)=beN a * 256 ^ b.length+beN b:=by
 have:∀ (b:List UInt8) (n:Nat),b.foldl (fun a b=>a * 256+b.toNat) n=n * 256 ^ b.length+beN b:=by
  intro b
  induction b with
  | nil=>intro n;simp [beN]
  | cons x b ih =>
   intro n
   have h1:=ih (n * 256+x.toNat)
   have h2:=ih x.toNat
   have e:beN (x :: b)=x.toNat * 256 ^ b.length+beN b:=by
    show (x :: b).foldl (fun a b=>a * 256+b.toNat) 0=_
    rw [List.foldl_cons,Nat.zero_mul,Nat.zero_add];exact h2
   rw [List.foldl_cons,h1,e,List.length_cons,Nat.pow_succ]
   rw [Nat.add_mul,Nat.mul_assoc,Nat.mul_comm 256,Nat.add_assoc]
 unfold beN
 rw [List.foldl_append]
 exact this b _
theorem emod_mul (x m:Int) (hm:0 < m):x % (m * 256)=m * (x / m % 256)+x % m:=by
 have h1:=Int.emod_add_mul_ediv x m
 have h2:=Int.emod_add_mul_ediv (x / m) 256
 have h3:=Int.emod_nonneg x (show m≠0 by omega)
 have h4:=Int.emod_lt_of_pos x hm
 have h5:=Int.emod_nonneg (x / m) (show (256:Int)≠0 by omega)
 have h6:=Int.emod_lt_of_pos (x / m) (show (0:Int) < 256 by omega)
 generalize x % m=r at *
 generalize x / m=q at *
 generalize q % 256=r' at *
 generalize q / 256=q' at *
 have e:x=(m * r'+r)+m * 256 * q':=by
  rw [← h1,← h2,Int.mul_add,Int.mul_assoc];omega
 rw [e,Int.add_mul_emod_self_left]
 have h7:m * r'≤m * 255:=Int.mul_le_mul_of_nonneg_left (by omega) (by omega)
 have h8:0≤m * r':=Int.mul_nonneg (by omega) h5
 exact Int.emod_eq_of_lt (by omega) (by omega)
theorem beN_fixed (x:Int):∀ k,((beN (fixedS x k):Nat):Int)=x % ((256 ^ k:Nat):Int)
 | 0=>by simp [fixedS,beN,Int.emod_one]
 | k+1=>by
  have ih:=beN_fixed x k
  have e:fixedS x (k+1)=[b8 (x.fdiv (2 ^ (8 * k)))]++fixedS x k:=rfl
  have hp:(2:Int) ^ (8 * k)=((256 ^ k:Nat):Int):=by rw [Int.pow_mul];simp
  have hpos:0 < ((256 ^ k:Nat):Int):=by exact_mod_cast Nat.pow_pos (by omega)
  rw [e,beN_append,beN_1,fixedS_len,Int.natCast_add,Int.natCast_mul,b8_toNat,ih,hp,Int.fdiv_eq_ediv_of_nonneg _ (by omega),Nat.pow_succ,Int.natCast_mul]
  rw [show ((256:Nat):Int)=256 from rfl,emod_mul x _ hpos,Int.mul_comm]
theorem rdN_app (n:Nat) (a r:List UInt8) (h:a.length=n):rdN n (some (a++r))=(a,some r):=by
 rw [rdN_some (by rw [List.length_append];omega)]
 subst h
 simp
theorem rdInt_fixed (k:IntKind) (n:Nat) (x:Int) (r:List UInt8) (h:k.wrap (x % ((256 ^ n:Nat):Int))=k.wrap x):rdInt k n (some (fixedS x n++r))=(k.wrap x,some r):=by
 rw [rdInt,rdN_app n _ r (fixedS_len _ _)]
 simp only
 rw [beN_fixed,h]
theorem rd_i8 (x:Int) (r:List UInt8):rdInt .i8 1 (some (fixedS x 1++r))=(IntKind.i8.wrap x,some r):=rdInt_fixed _ _ _ _ (by unfold IntKind.wrap;simp [IntKind.bits,IntKind.signed])
theorem rd_i16 (x:Int) (r:List UInt8):rdInt .i16 2 (some (fixedS x 2++r))=(IntKind.i16.wrap x,some r):=rdInt_fixed _ _ _ _ (by unfold IntKind.wrap;simp [IntKind.bits,IntKind.signed])
theorem rd_u16 (x:Int) (r:List UInt8):rdInt .u16 2 (some (fixedS x 2++r))=(IntKind.u16.wrap x,some r):=rdInt_fixed _ _ _ _ (by unfold IntKind.wrap;simp [IntKind.bits,IntKind.signed])
theorem rd_i32 (x:Int) (r:List UInt8):rdInt .i32 4 (some (fixedS x 4++r))=(IntKind.i32.wrap x,some r):=rdInt_fixed _ _ _ _ (by unfold IntKind.wrap;simp [IntKind.bits,IntKind.signed])
theorem rd_i64 (x:Int) (r:List UInt8):rdInt .i64 8 (some (fixedS x 8++r))=(IntKind.i64.wrap x,some r):=rdInt_fixed _ _ _ _ (by unfold IntKind.wrap;simp [IntKind.bits,IntKind.signed])

theorem uvD_uvar : ∀ (k n:Nat) (r:List UInt8),n < 16 * 128 ^ k→uvD k (uvarS n++r)=some (n,r)
 | 0,n,r,h=>by
  rw [uvarS_small (by omega)]
  have:(b8 (n:Int)).toNat=n:=by have:=b8_toNat (n:Int);omega
  simp only [List.cons_append,List.nil_append,uvD,this]
  rw [if_pos (by omega)]
 | k+1,n,r,h=>by
  rcases Nat.lt_or_ge 127 n with hn|hn
  ·rw [uvarS_big hn,List.cons_append]
   have hb:(b8 ((n % 128:Nat)+128:Int)).toNat=n % 128+128:=by
    have:=b8_toNat ((n % 128:Nat)+128:Int);omega
   have hq:n / 128 < 16 * 128 ^ k:=by
    rw [Nat.div_lt_iff_lt_mul (by omega)]
    rw [Nat.pow_succ] at h;omega
   simp only [uvD,hb]
   rw [if_neg (by omega),uvD_uvar k (n / 128) r hq,Option.map_some]
   simp only [Option.some.injEq,Prod.mk.injEq,and_true]
   omega
  ·rw [uvarS_small hn]
   have:(b8 (n:Int)).toNat=n:=by have:=b8_toNat (n:Int);omega
   simp only [List.cons_append,List.nil_append,uvD,this]
   rw [if_pos (by omega)]
theorem rdUv_uvar (n:Nat) (r:List UInt8) (h:n < 4294967296):rdUv (some (uvarS n++r))=(n,some r):=by
 unfold rdUv
 simp only [uvD_uvar 4 n r (by omega)]
theorem rdSpan_app (s r:List UInt8):rdSpan (s.length:Int) (some (s++r))=(s,some r):=by
 rw [rdSpan_good (by rw [List.length_append];omega)];simp
theorem rdSpan_16 (s r:List UInt8):rdSpan 16 (some (uuidS s++r))=(uuidS s,some r):=by
 have:=rdSpan_app (uuidS s) r
 rw [uuidS_len] at this;exact this
end Ms

