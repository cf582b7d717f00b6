/- A part of the proof: see the last text. -/
import Derived.Test.YtbbhfngjfihndadDoorC03
import Derived.Test.YtbbhfngjfihndadDoorC04
import Derived.Test.YtbbhfngjfihndadDoorC07
import Derived.Test.YtbbhfngjfihndadDoorAlterPartitionRequestP0
import Derived.Test.YtbbhfngjfihndadDoorAlterPartitionRequestP5
import Derived.Test.YtbbhfngjfihndadDoorAlterPartitionRequestP6
set_option linter.unusedSimpArgs false
set_option linter.unusedVariables false
namespace Ms
open Go.World renaming size_alloc → qI
open Ms renaming size_wr → qJ,size_drew → qK,not_noB → qL
open W renaming seqR → qA,seq → qB,regR → qC,condK → qD,block → qE,skip → qF,ret → qG,exit → qH
open Nat renaming reduceEqDiff → n0,reduceAdd → n1,reduceMul → n2,reduceSub → n3,reduceLT → n4,reduceLeDiff → n5
open Int renaming reduceEq → i0,reduceLT → i1,reduceLE → i2,reduceNeg → i3,reduceAdd → i4,reduceSub → i5,reduceMul → i6,reduceToNat → i7
set_option maxRecDepth 8000
open Go Go.Proofs Go.Shelf
attribute [local congr] W_congr WPsq_congr WPp_congr optK_congr addrK_congr intK_congr boolK_congr sliceK_congr tupleK_congr funcK_congr Fn_congr rawK_congr takeK_congr stepK_congr convK_congr aggK_congr

set_option maxHeartbeats 2000000 in
theorem TellDQ_fn {d:Nat} {ok:Blocks} {ev:Value} (ver:Nat) (hv:ver≤3) (b:Value) (s:List UInt8) (w:World) (hb:BytesV ok w b s) (hG:Glo ev w) (hev:∃ T p,ev = .iface T p) (hs:s.length≤2 ^ 40) (fin:Tree × St) (hfin:fin=rdP (d+4) ver (flexB 0 ver) fs_Q (some s)) (hgood:GoodP (d+4) fs_Q fin.1) :
  Fn Tryd.prog 5 #[.int .i64 ver,b] w fun r w'=>(∃ c T,r = .tuple #[.agg c.toArray,.bool fin.2.isSome]∧TreeC AnyB w' T c∧(fin.2.isSome=true→T=tlP (d+4) fs_Q fin.1))∧Ext w w':=by
 obtain ⟨ba,bc,rfl,_⟩:=hb.shape
 have hgl:=hG.lt
 have ew:IntKind.i16.wrap (ver:Int)=ver:=i16_wrap (by omega)
 have hE0:Ext w (w.alloc (.cells qZ5 27)):=Upd.alloc (Upd.refl _ _) _
 have hz0:(w.alloc (.cells qZ5 27)).heap.size=w.heap.size+1:=World.size_alloc _ _
 have hr0:blk (w.alloc (.cells qZ5 27)) w.heap.size=some (qZ5,27,(0,0)):=blk_alloc_new rfl
 refine fn_of_W Tryd.func5 rfl Tryd.results5 Tryd.ntmps5 rfl ?_
 repeat ((first|refine qA rfl ?_|apply qB|refine qC rfl ?_|apply qD|apply qE|apply qF|apply qG|apply qH);try simp (disch:=(first|omega|(simp only [qI,qJ,qK]<;>omega)|exact qL _)) only [go_sem,↓reduceIte,n0,reduceCtorEq,n1,n2,n3,n4,n5,i0,i1,i2,i3,i4,i5,i6,i7,ew])
 generalize (w.alloc (.cells qZ5 27))=w0 at *
 refine (NewPtrQ_fn w0).mono ?_
 rintro _ w1 ⟨rfl,hb1,hE1⟩
 have hz1:=blk_lt hb1
 repeat ((first|refine qA rfl ?_|apply qB|refine qC rfl ?_|apply qD|apply qE|apply qF|apply qG|apply qH);try simp (disch:=(first|omega|(simp only [qI,qJ,qK]<;>omega)|exact qL _)) only [go_sem,↓reduceIte,n0,reduceCtorEq,n1,n2,n3,n4,n5,i0,i1,i2,i3,i4,i5,i6,i7,ew])
 refine (SetVersionQ_fn w1 (vb:=w0.heap.size) ver hb1).mono ?_
 rintro _ w2 ⟨hb2,hU2⟩
 have hz2:=hU2.size
 have hE2:Ext w0 w2:=hE1.more hU2 fun b hb h=>by omega
 repeat ((first|refine qA rfl ?_|apply qB|refine qC rfl ?_|apply qD|apply qE|apply qF|apply qG|apply qH);try simp (disch:=(first|omega|(simp only [qI,qJ,qK]<;>omega)|exact qL _)) only [go_sem,↓reduceIte,n0,reduceCtorEq,n1,n2,n3,n4,n5,i0,i1,i2,i3,i4,i5,i6,i7,ew])
 refine wp_copyN ap_22_22 (ok:=ok) (s:=s) (v:=.slice ba _ bc) (by first|rfl|simp (disch:=(first|omega|(simp only [qI,qJ,qK]<;>omega)|exact qL _)) only [go_sem,↓reduceIte,n0,reduceCtorEq,n1,n2,n3,n4,n5,i0,i1,i2,i3,i4,i5,i6,i7]) (by first|rfl|simp (disch:=(first|omega|(simp only [qI,qJ,qK]<;>omega)|exact qL _)) only [go_sem,↓reduceIte,n0,reduceCtorEq,n1,n2,n3,n4,n5,i0,i1,i2,i3,i4,i5,i6,i7]) (hb.keep (Ext.keeps (hE0.trans hE2) _)) (by omega) ?_
 intro v3 w3 ho3 hE3 hf3
 have hz3:=hE3.size
 have hb3:=hE3.blk_some hb2 id
 have hE03:Ext w0 w3:=hE2.trans hE3
 have hG3:Glo ev w3:=hG.updS (hE0.trans hE03) id id
 obtain ⟨a3,c3,rfl,_⟩:=ho3.shape
 simp (disch:=(first|omega|(simp only [qI,qJ,qK]<;>omega)|exact qL _)) only [go_sem,↓reduceIte,n0,reduceCtorEq,n1,n2,n3,n4,n5,i0,i1,i2,i3,i4,i5,i6,i7]
 refine (ReadFromQ_fn (d:=d) (ok:=fun b=>b < w3.heap.size∧b≠w0.heap.size) (ev:=ev) (ver:=ver) (by omega) (by omega) w3 _ _ hb3 ((Own.bytes ho3 hf3).weaken fun b hb hk=>⟨hb,by omega⟩) (fun b hb=>hb) hG3 ⟨by omega,by omega⟩).mono ?_
 rw [← hfin]
 rintro r4 w4 ⟨h4n,h4s,hU4⟩
 have hz4:=hU4.size
 have hE4:Ext w0 w4:=hE03.more hU4 fun b hb h=>by omega
 have hr4:=hE4.blk_some hr0 id
 by_cases hst:fin.2=none
 ·obtain rfl:=h4n hst
  obtain ⟨eT,ep,rfl⟩:=hev
  have hso:fin.2.isSome=false:=by rw [hst];rfl
  rw [hso]
  try simp (disch:=(first|omega|(simp only [qI,qJ,qK]<;>omega)|exact qL _)) only [go_sem,↓reduceIte,n0,reduceCtorEq,n1,n2,n3,n4,n5,i0,i1,i2,i3,i4,i5,i6,i7,hr4]
  repeat ((first|refine qA rfl ?_|apply qB|refine qC rfl ?_|apply qD|apply qE|apply qF|apply qG|apply qH);try simp (disch:=(first|omega|(simp only [qI,qJ,qK]<;>omega)|exact qL _)) only [go_sem,↓reduceIte,n0,reduceCtorEq,n1,n2,n3,n4,n5,i0,i1,i2,i3,i4,i5,i6,i7,hr4,cellsAt_five])
  refine ⟨⟨[.int .i64 0,.slice none 0 0,.bool false,.slice none 0 0,.slice none 0 0],.zero,rfl,TreeC.intro rfl (BytesV.nil _ _) (treesN _ _) (tagsN _ _)⟩,(hE0.trans hE4).wr _ _ (.inl (Nat.le_refl _))⟩
 ·obtain ⟨rfl,cells,hb4,hR4⟩:=h4s hst
  have hso:fin.2.isSome=true:=isSome_some hst
  rw [hso]
  repeat (first|simp (disch:=(first|omega|(simp only [qI,qJ,qK]<;>omega)|exact qL _)) only [go_sem,↓reduceIte,n0,reduceCtorEq,n1,n2,n3,n4,n5,i0,i1,i2,i3,i4,i5,i6,i7,hr4]|refine qA rfl ?_|apply qB|refine qC rfl ?_|apply qD|apply qE|apply qF|apply qG|apply qH)
  have hcl:=(RepS_lay true (d+4) fs_Q).flat hR4
  refine (tellQ_fn (d:=d) fin.1 cells w4 hb4 (fun k hk=>by show ((.int .i16 (ver:Int) :: cells).toArray)[1+k]? = cells[k]?;rw [List.getElem?_toArray,Nat.add_comm,List.getElem?_cons_succ]) hR4 hgood).mono ?_
  rintro _ w5 ⟨⟨c5,rfl,hc5⟩,hE5⟩
  obtain ⟨vS,vL,vU,rfl,hn5,hS5,hL5,hU5⟩:=hc5.inv
  have f1:=hS5.flat
  have f2:=SlR.flat hL5
  have f3:=SlR.flat hU5
  have hr5:=hE5.blk_some hr4 id
  try simp (disch:=(first|omega|(simp only [qI,qJ,qK]<;>omega)|exact qL _)) only [go_sem,↓reduceIte,n0,reduceCtorEq,n1,n2,n3,n4,n5,i0,i1,i2,i3,i4,i5,i6,i7,hr5,f1,f2,f3]
  repeat ((first|refine qA rfl ?_|apply qB|refine qC rfl ?_|apply qD|apply qE|apply qF|apply qG|apply qH);try simp (disch:=(first|omega|(simp only [qI,qJ,qK]<;>omega)|exact qL _)) only [go_sem,↓reduceIte,n0,reduceCtorEq,n1,n2,n3,n4,n5,i0,i1,i2,i3,i4,i5,i6,i7,hr5,f1,f2,f3,cellsAt_five])
  have hUw:Upd (fun b=>b=w.heap.size) w5 (wr w5 w.heap.size 0 [.int .i64 (tlP (d+4) fs_Q fin.1).n,vS,.bool (tlP (d+4) fs_Q fin.1).null,vL,vU]):=(Upd.refl _ _).wr _ _ (.inr rfl)
  refine ⟨⟨_,_,rfl,TreeC.weaken (fun _ _ _=>trivial) (TreeC.keep (hUw.keeps (ok:=fun b=>w4.heap.size≤b) fun b _ hk e=>by have hk':w4.heap.size≤b:=hk;omega) hc5),rfl⟩,(hE0.trans (hE4.trans hE5)).wr _ _ (.inl (Nat.le_refl _))⟩

set_option maxHeartbeats 2000000 in
theorem UnsafeDQ_fn {d:Nat} {ok:Blocks} {ev:Value} (ver:Nat) (hv:ver≤3) (b:Value) (s:List UInt8) (w:World) (hb:BytesV ok w b s) (hG:Glo ev w) (hev:∃ T p,ev = .iface T p) (hs:s.length≤2 ^ 40) (fin:Tree × St) (hfin:fin=rdP (d+4) ver (flexB 0 ver) fs_Q (some s)) (hgood:GoodP (d+4) fs_Q fin.1) :
  Fn Tryd.prog 7 #[.int .i64 ver,b] w fun r w'=>(∃ c T,r = .tuple #[.agg c.toArray,.bool fin.2.isSome]∧TreeC AnyB w' T c∧(fin.2.isSome=true→T=tlP (d+4) fs_Q fin.1))∧Ext w w':=by
 obtain ⟨ba,bc,rfl,_⟩:=hb.shape
 have hgl:=hG.lt
 have ew:IntKind.i16.wrap (ver:Int)=ver:=i16_wrap (by omega)
 have hE0:Ext w (w.alloc (.cells qZ5 27)):=Upd.alloc (Upd.refl _ _) _
 have hz0:(w.alloc (.cells qZ5 27)).heap.size=w.heap.size+1:=World.size_alloc _ _
 have hr0:blk (w.alloc (.cells qZ5 27)) w.heap.size=some (qZ5,27,(0,0)):=blk_alloc_new rfl
 refine fn_of_W Tryd.func7 rfl Tryd.results7 Tryd.ntmps7 rfl ?_
 repeat ((first|refine qA rfl ?_|apply qB|refine qC rfl ?_|apply qD|apply qE|apply qF|apply qG|apply qH);try simp (disch:=(first|omega|(simp only [qI,qJ,qK]<;>omega)|exact qL _)) only [go_sem,↓reduceIte,n0,reduceCtorEq,n1,n2,n3,n4,n5,i0,i1,i2,i3,i4,i5,i6,i7,ew])
 generalize (w.alloc (.cells qZ5 27))=w0 at *
 refine (NewPtrQ_fn w0).mono ?_
 rintro _ w1 ⟨rfl,hb1,hE1⟩
 have hz1:=blk_lt hb1
 repeat ((first|refine qA rfl ?_|apply qB|refine qC rfl ?_|apply qD|apply qE|apply qF|apply qG|apply qH);try simp (disch:=(first|omega|(simp only [qI,qJ,qK]<;>omega)|exact qL _)) only [go_sem,↓reduceIte,n0,reduceCtorEq,n1,n2,n3,n4,n5,i0,i1,i2,i3,i4,i5,i6,i7,ew])
 refine (SetVersionQ_fn w1 (vb:=w0.heap.size) ver hb1).mono ?_
 rintro _ w2 ⟨hb2,hU2⟩
 have hz2:=hU2.size
 have hE2:Ext w0 w2:=hE1.more hU2 fun b hb h=>by omega
 repeat ((first|refine qA rfl ?_|apply qB|refine qC rfl ?_|apply qD|apply qE|apply qF|apply qG|apply qH);try simp (disch:=(first|omega|(simp only [qI,qJ,qK]<;>omega)|exact qL _)) only [go_sem,↓reduceIte,n0,reduceCtorEq,n1,n2,n3,n4,n5,i0,i1,i2,i3,i4,i5,i6,i7,ew])
 refine wp_copyN ap_22_22 (ok:=ok) (s:=s) (v:=.slice ba _ bc) (by first|rfl|simp (disch:=(first|omega|(simp only [qI,qJ,qK]<;>omega)|exact qL _)) only [go_sem,↓reduceIte,n0,reduceCtorEq,n1,n2,n3,n4,n5,i0,i1,i2,i3,i4,i5,i6,i7]) (by first|rfl|simp (disch:=(first|omega|(simp only [qI,qJ,qK]<;>omega)|exact qL _)) only [go_sem,↓reduceIte,n0,reduceCtorEq,n1,n2,n3,n4,n5,i0,i1,i2,i3,i4,i5,i6,i7]) (hb.keep (Ext.keeps (hE0.trans hE2) _)) (by omega) ?_
 intro v3 w3 ho3 hE3 hf3
 have hz3:=hE3.size
 have hb3:=hE3.blk_some hb2 id
 have hE03:Ext w0 w3:=hE2.trans hE3
 have hG3:Glo ev w3:=hG.updS (hE0.trans hE03) id id
 obtain ⟨a3,c3,rfl,_⟩:=ho3.shape
 simp (disch:=(first|omega|(simp only [qI,qJ,qK]<;>omega)|exact qL _)) only [go_sem,↓reduceIte,n0,reduceCtorEq,n1,n2,n3,n4,n5,i0,i1,i2,i3,i4,i5,i6,i7]
 refine (UnsafeReadFromQ_fn (d:=d) (ok:=fun b=>b < w3.heap.size∧b≠w0.heap.size) (ev:=ev) (ver:=ver) (by omega) (by omega) w3 _ _ hb3 ((Own.bytes ho3 hf3).weaken fun b hb hk=>⟨hb,by omega⟩) (fun b hb=>hb) hG3 ⟨by omega,by omega⟩).mono ?_
 rw [← hfin]
 rintro r4 w4 ⟨h4n,h4s,hU4⟩
 have hz4:=hU4.size
 have hE4:Ext w0 w4:=hE03.more hU4 fun b hb h=>by omega
 have hr4:=hE4.blk_some hr0 id
 by_cases hst:fin.2=none
 ·obtain rfl:=h4n hst
  obtain ⟨eT,ep,rfl⟩:=hev
  have hso:fin.2.isSome=false:=by rw [hst];rfl
  rw [hso]
  try simp (disch:=(first|omega|(simp only [qI,qJ,qK]<;>omega)|exact qL _)) only [go_sem,↓reduceIte,n0,reduceCtorEq,n1,n2,n3,n4,n5,i0,i1,i2,i3,i4,i5,i6,i7,hr4]
  repeat ((first|refine qA rfl ?_|apply qB|refine qC rfl ?_|apply qD|apply qE|apply qF|apply qG|apply qH);try simp (disch:=(first|omega|(simp only [qI,qJ,qK]<;>omega)|exact qL _)) only [go_sem,↓reduceIte,n0,reduceCtorEq,n1,n2,n3,n4,n5,i0,i1,i2,i3,i4,i5,i6,i7,hr4,cellsAt_five])
  refine ⟨⟨[.int .i64 0,.slice none 0 0,.bool false,.slice none 0 0,.slice none 0 0],.zero,rfl,TreeC.intro rfl (BytesV.nil _ _) (treesN _ _) (tagsN _ _)⟩,(hE0.trans hE4).wr _ _ (.inl (Nat.le_refl _))⟩
 ·obtain ⟨rfl,cells,hb4,hR4⟩:=h4s hst
  have hso:fin.2.isSome=true:=isSome_some hst
  rw [hso]
  repeat (first|simp (disch:=(first|omega|(simp only [qI,qJ,qK]<;>omega)|exact qL _)) only [go_sem,↓reduceIte,n0,reduceCtorEq,n1,n2,n3,n4,n5,i0,i1,i2,i3,i4,i5,i6,i7,hr4]|refine qA rfl ?_|apply qB|refine qC rfl ?_|apply qD|apply qE|apply qF|apply qG|apply qH)
  have hcl:=(RepS_lay true (d+4) fs_Q).flat hR4
  refine (tellQ_fn (d:=d) fin.1 cells w4 hb4 (fun k hk=>by show ((.int .i16 (ver:Int) :: cells).toArray)[1+k]? = cells[k]?;rw [List.getElem?_toArray,Nat.add_comm,List.getElem?_cons_succ]) hR4 hgood).mono ?_
  rintro _ w5 ⟨⟨c5,rfl,hc5⟩,hE5⟩
  obtain ⟨vS,vL,vU,rfl,hn5,hS5,hL5,hU5⟩:=hc5.inv
  have f1:=hS5.flat
  have f2:=SlR.flat hL5
  have f3:=SlR.flat hU5
  have hr5:=hE5.blk_some hr4 id
  try simp (disch:=(first|omega|(simp only [qI,qJ,qK]<;>omega)|exact qL _)) only [go_sem,↓reduceIte,n0,reduceCtorEq,n1,n2,n3,n4,n5,i0,i1,i2,i3,i4,i5,i6,i7,hr5,f1,f2,f3]
  repeat ((first|refine qA rfl ?_|apply qB|refine qC rfl ?_|apply qD|apply qE|apply qF|apply qG|apply qH);try simp (disch:=(first|omega|(simp only [qI,qJ,qK]<;>omega)|exact qL _)) only [go_sem,↓reduceIte,n0,reduceCtorEq,n1,n2,n3,n4,n5,i0,i1,i2,i3,i4,i5,i6,i7,hr5,f1,f2,f3,cellsAt_five])
  have hUw:Upd (fun b=>b=w.heap.size) w5 (wr w5 w.heap.size 0 [.int .i64 (tlP (d+4) fs_Q fin.1).n,vS,.bool (tlP (d+4) fs_Q fin.1).null,vL,vU]):=(Upd.refl _ _).wr _ _ (.inr rfl)
  refine ⟨⟨_,_,rfl,TreeC.weaken (fun _ _ _=>trivial) (TreeC.keep (hUw.keeps (ok:=fun b=>w4.heap.size≤b) fun b _ hk e=>by have hk':w4.heap.size≤b:=hk;omega) hc5),rfl⟩,(hE0.trans (hE4.trans hE5)).wr _ _ (.inl (Nat.le_refl _))⟩


set_option maxHeartbeats 2000000 in
theorem law_UnsafeQ {ok:Blocks} {ev:Value} (n:Nat) (hn:n < 256) (b:Value) (s:List UInt8) (w:World) (hb:BytesV ok w b s) (hG:Glo ev w) (hev:∃ T p,ev = .iface T p) :
  Fn Tryd.prog 3 #[.int .u8 n,b] w fun r w'=>r = .bool true∧Ext w w':=by
 obtain ⟨ba,bc,rfl,_⟩:=hb.shape
 refine fn_of_W Tryd.func3 rfl Tryd.results3 Tryd.ntmps3 rfl ?_
 by_cases hD1:(2147483647:Int) < (s.length:Int)
 ·repeat ((first|refine qA rfl ?_|apply qB|refine qC rfl ?_|apply qD|apply qE|apply qF|apply qG|apply qH);try simp (disch:=(first|omega|(simp only [qI,qJ,qK]<;>omega)|exact qL _)) only [go_sem,↓reduceIte,n0,reduceCtorEq,n1,n2,n3,n4,n5,i0,i1,i2,i3,i4,i5,i6,i7,hD1])
  all_goals exact Upd.refl _ _
 repeat ((first|refine qA rfl ?_|apply qB|refine qC rfl ?_|apply qD|apply qE|apply qF|apply qG|apply qH);try simp (disch:=(first|omega|(simp only [qI,qJ,qK]<;>omega)|exact qL _)) only [go_sem,↓reduceIte,n0,reduceCtorEq,n1,n2,n3,n4,n5,i0,i1,i2,i3,i4,i5,i6,i7,hD1])
 refine (MaxQ_fn w).mono ?_
 rintro _ w1 ⟨rfl,hE1⟩
 by_cases hD2:(1000:Int) < (s.length:Int)
 ·repeat ((first|refine qA rfl ?_|apply qB|refine qC rfl ?_|apply qD|apply qE|apply qF|apply qG|apply qH);try simp (disch:=(first|omega|(simp only [qI,qJ,qK]<;>omega)|exact qL _)) only [go_sem,↓reduceIte,n0,reduceCtorEq,n1,n2,n3,n4,n5,i0,i1,i2,i3,i4,i5,i6,i7,hD2])
  all_goals exact hE1
 repeat ((first|refine qA rfl ?_|apply qB|refine qC rfl ?_|apply qD|apply qE|apply qF|apply qG|apply qH);try simp (disch:=(first|omega|(simp only [qI,qJ,qK]<;>omega)|exact qL _)) only [go_sem,↓reduceIte,n0,reduceCtorEq,n1,n2,n3,n4,n5,i0,i1,i2,i3,i4,i5,i6,i7,hD2])
 refine (version_fn w1 n 3 hn (by decide)).mono ?_
 rintro _ wv ⟨rfl,hwv⟩
 rw [hwv]
 clear hwv wv
 have hv3:n % 4 < 4:=Nat.mod_lt _ (by omega)
 generalize hver:n % 4=ver at *
 obtain ⟨fin,hfin⟩:∃ fin,fin=rdP (1+4) ver (flexB 0 ver) fs_Q (some s):=⟨_,rfl⟩
 have hdf:okDf (1+4) fs_Q=true:=by decide
 repeat ((first|refine qA rfl ?_|apply qB|refine qC rfl ?_|apply qD|apply qE|apply qF|apply qG|apply qH);try simp (disch:=(first|omega|(simp only [qI,qJ,qK]<;>omega)|exact qL _)) only [go_sem,↓reduceIte,n0,reduceCtorEq,n1,n2,n3,n4,n5,i0,i1,i2,i3,i4,i5,i6,i7])
 have hgood:GoodP (1+4) fs_Q fin.1:=by rw [hfin];exact rdP_good ver _ (1+4) fs_Q hdf (some s) (by rw [stLen_some];omega)
 refine (TellDQ_fn (d:=1) (ok:=ok) ver (by omega) _ s w1 (hb.keep (hE1.keeps _)) (hG.updS hE1 id id) hev (by omega) fin hfin hgood).mono ?_
 rintro _ w2 ⟨⟨ca,Ta,rfl,hca,hTa⟩,hE2⟩
 have hE02:=hE1.trans hE2
 obtain ⟨aS,aL,aU,rfl,hna,hSa,hLa,hUa⟩:=hca.inv
 have f1:=hSa.flat
 have f2:=SlR.flat hLa
 have f3:=SlR.flat hUa
 have hE3:Ext w2 (wr (w2.alloc (.cells qZ5 27)) w2.heap.size 0 [.int .i64 Ta.n,aS,.bool Ta.null,aL,aU]):=(Upd.alloc (Upd.refl _ _) _).wr _ _ (.inl (Nat.le_refl _))
 have hb3:blk (wr (w2.alloc (.cells qZ5 27)) w2.heap.size 0 [.int .i64 Ta.n,aS,.bool Ta.null,aL,aU]) w2.heap.size=some (#[.int .i64 Ta.n,aS,.bool Ta.null,aL,aU],27,(0,0)):=by simp (disch:=(first|omega|(simp only [qI,qJ,qK]<;>omega)|exact qL _)) only [go_sem,↓reduceIte,n0,reduceCtorEq,n1,n2,n3,n4,n5,i0,i1,i2,i3,i4,i5,i6,i7]
 repeat (first|simp (disch:=(first|omega|(simp only [qI,qJ,qK]<;>omega)|exact qL _)) only [go_sem,↓reduceIte,n0,reduceCtorEq,n1,n2,n3,n4,n5,i0,i1,i2,i3,i4,i5,i6,i7,f1,f2,f3]|refine qA rfl ?_|apply qB|refine qC rfl ?_|apply qD|apply qE|apply qF|apply qG|apply qH)
 generalize (wr (w2.alloc (.cells qZ5 27)) w2.heap.size 0 [.int .i64 Ta.n,aS,.bool Ta.null,aL,aU])=w3 at *
 have hE03:=hE02.trans hE3
 refine (version_fn w3 n 3 hn (by decide)).mono ?_
 rintro _ wv ⟨rfl,hwv⟩
 rw [hwv,hver]
 clear hwv wv
 repeat ((first|refine qA rfl ?_|apply qB|refine qC rfl ?_|apply qD|apply qE|apply qF|apply qG|apply qH);try simp (disch:=(first|omega|(simp only [qI,qJ,qK]<;>omega)|exact qL _)) only [go_sem,↓reduceIte,n0,reduceCtorEq,n1,n2,n3,n4,n5,i0,i1,i2,i3,i4,i5,i6,i7])
 refine (UnsafeDQ_fn (d:=1) (ok:=ok) ver (by omega) _ s w3 (hb.keep (Ext.keeps hE03 _)) (hG.updS hE03 id id) hev (by omega) fin hfin hgood).mono ?_
 rintro _ w4 ⟨⟨cb,Tb,rfl,hcb,hTb⟩,hE4⟩
 have hE04:=hE03.trans hE4
 obtain ⟨bS,bL,bU,rfl,hnb,hSb,hLb,hUb⟩:=hcb.inv
 have g1:=hSb.flat
 have g2:=SlR.flat hLb
 have g3:=SlR.flat hUb
 have hE5:Ext w4 (wr (w4.alloc (.cells qZ5 27)) w4.heap.size 0 [.int .i64 Tb.n,bS,.bool Tb.null,bL,bU]):=(Upd.alloc (Upd.refl _ _) _).wr _ _ (.inl (Nat.le_refl _))
 have hb5:blk (wr (w4.alloc (.cells qZ5 27)) w4.heap.size 0 [.int .i64 Tb.n,bS,.bool Tb.null,bL,bU]) w4.heap.size=some (#[.int .i64 Tb.n,bS,.bool Tb.null,bL,bU],27,(0,0)):=by simp (disch:=(first|omega|(simp only [qI,qJ,qK]<;>omega)|exact qL _)) only [go_sem,↓reduceIte,n0,reduceCtorEq,n1,n2,n3,n4,n5,i0,i1,i2,i3,i4,i5,i6,i7]
 repeat (first|simp (disch:=(first|omega|(simp only [qI,qJ,qK]<;>omega)|exact qL _)) only [go_sem,↓reduceIte,n0,reduceCtorEq,n1,n2,n3,n4,n5,i0,i1,i2,i3,i4,i5,i6,i7,g1,g2,g3]|refine qA rfl ?_|apply qB|refine qC rfl ?_|apply qD|apply qE|apply qF|apply qG|apply qH)
 generalize (wr (w4.alloc (.cells qZ5 27)) w4.heap.size 0 [.int .i64 Tb.n,bS,.bool Tb.null,bL,bU])=w5 at *
 have hE05:=hE04.trans hE5
 have ha5:=(hE4.trans hE5).blk_some hb3 id
 have la5:=blk_lt ha5
 have lb5:=blk_lt hb5
 refine W.drawR (.take 0 (.take 1 (.take 2 (.take 3 (.take 4 (.take 5 (.take 6 (.take 7 (.take 9 (.only 8 (.only 10 (.only 11 (.take 12 (.take 13 (.only 14 .done))))))))))))))) NoB mixed (by kernel_rfl) ?_
 cases hso:fin.2.isSome with
 | false =>
  simp (disch:=(first|omega|(simp only [qI,qJ,qK]<;>omega)|exact qL _)) only [go_sem,↓reduceIte,n0,reduceCtorEq,n1,n2,n3,n4,n5,i0,i1,i2,i3,i4,i5,i6,i7,hso,ha5,hb5]
  repeat refine ⟨Upd.refl _ _,?_⟩
  repeat ((first|refine qA rfl ?_|apply qB|refine qC rfl ?_|apply qD|apply qE|apply qF|apply qG|apply qH);try simp (disch:=(first|omega|(simp only [qI,qJ,qK]<;>omega)|exact qL _)) only [go_sem,↓reduceIte,n0,reduceCtorEq,n1,n2,n3,n4,n5,i0,i1,i2,i3,i4,i5,i6,i7,hso])
  all_goals exact hE05.drew
 | true =>
  obtain rfl:=hTa hso
  obtain rfl:=hTb hso
  have hsm:Small 32767 (tlP (1+4) fs_Q fin.1):=tlP_small _ _ _ hdf hgood
  generalize tlP (1+4) fs_Q fin.1=T at *
  have hEd:Ext w5 w5.drew:=(Upd.refl _ _).drew
  simp (disch:=(first|omega|(simp only [qI,qJ,qK]<;>omega)|exact qL _)) only [go_sem,↓reduceIte,n0,reduceCtorEq,n1,n2,n3,n4,n5,i0,i1,i2,i3,i4,i5,i6,i7,hso,ha5,hb5,cellsAt_five]
  refine (got_fn hsm.lists AnyB _ w5.drew (TreeC.keep (Ext.keeps (((hE3.trans hE4).trans hE5).drew) _) hca)).mono ?_
  rintro _ w6 ⟨⟨c6,rfl,hc6⟩,hE6⟩
  refine ⟨hE6,?_⟩
  have hb6:=hE6.blk_some (show blk w5.drew w4.heap.size=_ from hb5) id
  try simp (disch:=(first|omega|(simp only [qI,qJ,qK]<;>omega)|exact qL _)) only [go_sem,↓reduceIte,n0,reduceCtorEq,n1,n2,n3,n4,n5,i0,i1,i2,i3,i4,i5,i6,i7,hso,hb6,cellsAt_five]
  refine (got_fn hsm.lists AnyB _ w6 (TreeC.keep (Ext.keeps ((hE5.drew).trans hE6) _) hcb)).mono ?_
  rintro _ w7 ⟨⟨c7,rfl,hc7⟩,hE7⟩
  have hE57:Ext w5.drew w7:=hE6.trans hE7
  refine ⟨hE57,?_⟩
  try simp (disch:=(first|omega|(simp only [qI,qJ,qK]<;>omega)|exact qL _)) only [go_sem,↓reduceIte,n0,reduceCtorEq,n1,n2,n3,n4,n5,i0,i1,i2,i3,i4,i5,i6,i7,hso]
  refine (SameTree_fn hsm AnyB c6 c7 w7 (TreeC.weaken (fun _ _ _=>trivial) (TreeC.keep (Ext.keeps hE7 _) hc6)) (TreeC.weaken (fun _ _ _=>trivial) hc7)).mono ?_
  rintro _ w8 ⟨rfl,hE8⟩
  repeat refine ⟨hE57.trans hE8,?_⟩
  repeat (first|simp (disch:=(first|omega|(simp only [qI,qJ,qK]<;>omega)|exact qL _)) only [go_sem,↓reduceIte,n0,reduceCtorEq,n1,n2,n3,n4,n5,i0,i1,i2,i3,i4,i5,i6,i7,hso]|refine qA rfl ?_|apply qB|refine qC rfl ?_|apply qD|apply qE|apply qF|apply qG|apply qH)
  all_goals exact (hE05.trans hEd).trans (hE57.trans hE8)
end Ms

