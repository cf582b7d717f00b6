/- A part of the proof: see the last text. -/
import Derived.Test.YtpaofegplnfiiaaGreatDoorC05
import Derived.Test.YtpaofegplnfiiaaGreatDoorC06
import Derived.Test.YtpaofegplnfiiaaGreatDoorC09
import Derived.Test.YtpaofegplnfiiaaGreatDoorC10
import Derived.Test.YtpaofegplnfiiaaGreatDoorC11
import Derived.Test.YtpaofegplnfiiaaGreatDoorApiVersionsResponseP0
import Derived.Test.YtpaofegplnfiiaaGreatDoorApiVersionsResponseP3
import Derived.Test.YtpaofegplnfiiaaGreatDoorApiVersionsResponseP4
set_option linter.unusedSimpArgs false
set_option linter.unusedVariables false
namespace Ms
open Go.World renaming size_alloc → qI
open Ms renaming size_wr → qJ,size_drew → qK,not_noB → qL
open W renaming seqR → qA,seq → qB,regR → qC,condK → qD,block → qE,skip → qF,ret → qG,exit → qH
open Nat renaming reduceEqDiff → n0,reduceAdd → n1,reduceMul → n2,reduceSub → n3,reduceLT → n4,reduceLeDiff → n5
open Int renaming reduceEq → i0,reduceLT → i1,reduceLE → i2,reduceNeg → i3,reduceAdd → i4,reduceSub → i5,reduceMul → i6,reduceToNat → i7
set_option maxRecDepth 8000
open Go Go.Proofs Go.Shelf
attribute [local congr] W_congr WPsq_congr WPp_congr optK_congr addrK_congr intK_congr boolK_congr sliceK_congr tupleK_congr funcK_congr Fn_congr rawK_congr takeK_congr stepK_congr convK_congr aggK_congr

set_option maxHeartbeats 2000000 in
theorem TellDQ_fn {d:Nat} {ok:Blocks} {ev:Value} (ver:Nat) (hv:ver≤5) (b:Value) (s:List UInt8) (w:World) (hb:BytesV ok w b s) (hG:Glo ev w) (hev:∃ T p,ev = .iface T p) (hs:s.length≤2 ^ 40) (fin:Tree × St) (hfin:fin=rdM (d+1) ver (flexB 3 ver) fs_Q (some s)) (hgood:GoodP (d+2) fs_Q fin.1) (honce:flexB 3 ver=true→onceM (d+1) ver fs_Q (some s)) :
  Fn Tryz.prog 16 #[.int .i64 ver,b] w fun r w'=>(∃ c T,r = .tuple #[.agg c.toArray,.bool fin.2.isSome]∧TreeC AnyB w' T c∧(fin.2.isSome=true→T=tlP (d+2) fs_Q fin.1))∧Ext w w':=by
 obtain ⟨ba,bc,rfl,_⟩:=hb.shape
 have hgl:=hG.lt
 have ew:IntKind.i16.wrap (ver:Int)=ver:=i16_wrap (by omega)
 have hE0:Ext w (w.alloc (.cells qZ5 37)):=Upd.alloc (Upd.refl _ _) _
 have hz0:(w.alloc (.cells qZ5 37)).heap.size=w.heap.size+1:=World.size_alloc _ _
 have hr0:blk (w.alloc (.cells qZ5 37)) w.heap.size=some (qZ5,37,(0,0)):=blk_alloc_new rfl
 refine fn_of_W Tryz.func16 rfl Tryz.results16 Tryz.ntmps16 rfl ?_
 repeat ((first|refine qA rfl ?_|apply qB|refine qC rfl ?_|apply qD|apply qE|apply qF|apply qG|apply qH);try simp (maxSteps:=1000000)(disch:=(first|omega|(simp only [qI,qJ,qK]<;>omega)|exact qL _)) only [go_sem,↓reduceIte,n0,reduceCtorEq,n1,n2,n3,n4,n5,i0,i1,i2,i3,i4,i5,i6,i7,ew])
 generalize (w.alloc (.cells qZ5 37))=w0 at *
 refine (NewPtrQ_fn w0).mono ?_
 rintro _ w1 ⟨rfl,hb1,hE1⟩
 have hz1:=blk_lt hb1
 repeat ((first|refine qA rfl ?_|apply qB|refine qC rfl ?_|apply qD|apply qE|apply qF|apply qG|apply qH);try simp (maxSteps:=1000000)(disch:=(first|omega|(simp only [qI,qJ,qK]<;>omega)|exact qL _)) only [go_sem,↓reduceIte,n0,reduceCtorEq,n1,n2,n3,n4,n5,i0,i1,i2,i3,i4,i5,i6,i7,ew])
 refine (SetVersionQ_fn w1 (vb:=w0.heap.size) ver hb1).mono ?_
 rintro _ w2 ⟨hb2,hU2⟩
 have hz2:=hU2.size
 have hE2:Ext w0 w2:=hE1.more hU2 fun b hb h=>by omega
 repeat ((first|refine qA rfl ?_|apply qB|refine qC rfl ?_|apply qD|apply qE|apply qF|apply qG|apply qH);try simp (maxSteps:=1000000)(disch:=(first|omega|(simp only [qI,qJ,qK]<;>omega)|exact qL _)) only [go_sem,↓reduceIte,n0,reduceCtorEq,n1,n2,n3,n4,n5,i0,i1,i2,i3,i4,i5,i6,i7,ew])
 refine wp_copyN ap_22_22 (ok:=ok) (s:=s) (v:=.slice ba _ bc) (by first|rfl|simp (maxSteps:=1000000)(disch:=(first|omega|(simp only [qI,qJ,qK]<;>omega)|exact qL _)) only [go_sem,↓reduceIte,n0,reduceCtorEq,n1,n2,n3,n4,n5,i0,i1,i2,i3,i4,i5,i6,i7]) (by first|rfl|simp (maxSteps:=1000000)(disch:=(first|omega|(simp only [qI,qJ,qK]<;>omega)|exact qL _)) only [go_sem,↓reduceIte,n0,reduceCtorEq,n1,n2,n3,n4,n5,i0,i1,i2,i3,i4,i5,i6,i7]) (hb.keep (Ext.keeps (hE0.trans hE2) _)) (by omega) ?_
 intro v3 w3 ho3 hE3 hf3
 have hz3:=hE3.size
 have hb3:=hE3.blk_some hb2 id
 have hE03:Ext w0 w3:=hE2.trans hE3
 have hG3:Glo ev w3:=hG.updS (hE0.trans hE03) id id
 obtain ⟨a3,c3,rfl,_⟩:=ho3.shape
 simp (maxSteps:=1000000)(disch:=(first|omega|(simp only [qI,qJ,qK]<;>omega)|exact qL _)) only [go_sem,↓reduceIte,n0,reduceCtorEq,n1,n2,n3,n4,n5,i0,i1,i2,i3,i4,i5,i6,i7]
 refine (ReadFromQ_fn (d:=d) (ok:=fun b=>b < w3.heap.size∧b≠w0.heap.size) (ev:=ev) (ver:=ver) (by omega) (by omega) w3 _ _ hb3 ((Own.bytes ho3 hf3).weaken fun b hb hk=>⟨hb,by omega⟩) (fun b hb=>hb) hG3 ⟨by omega,by omega⟩ hev honce).mono ?_
 rw [← hfin]
 rintro r4 w4 ⟨h4n,h4s,hU4⟩
 have hz4:=hU4.size
 have hE4:Ext w0 w4:=hE03.more hU4 fun b hb h=>by omega
 have hr4:=hE4.blk_some hr0 id
 by_cases hst:fin.2=none
 ·obtain rfl:=h4n hst
  obtain ⟨eT,ep,rfl⟩:=hev
  have hso:fin.2.isSome=false:=by rw [hst];rfl
  rw [hso]
  try simp (maxSteps:=1000000)(disch:=(first|omega|(simp only [qI,qJ,qK]<;>omega)|exact qL _)) only [go_sem,↓reduceIte,n0,reduceCtorEq,n1,n2,n3,n4,n5,i0,i1,i2,i3,i4,i5,i6,i7,hr4]
  repeat ((first|refine qA rfl ?_|apply qB|refine qC rfl ?_|apply qD|apply qE|apply qF|apply qG|apply qH);try simp (maxSteps:=1000000)(disch:=(first|omega|(simp only [qI,qJ,qK]<;>omega)|exact qL _)) only [go_sem,↓reduceIte,n0,reduceCtorEq,n1,n2,n3,n4,n5,i0,i1,i2,i3,i4,i5,i6,i7,hr4,cellsAt_five])
  refine ⟨⟨[.int .i64 0,.slice none 0 0,.bool false,.slice none 0 0,.slice none 0 0],.zero,rfl,TreeC.intro rfl (BytesV.nil _ _) (treesN _ _) (tagsN _ _)⟩,(hE0.trans hE4).wr _ _ (.inl (Nat.le_refl _))⟩
 ·obtain ⟨rfl,cells,hb4,hR4⟩:=h4s hst
  have hso:fin.2.isSome=true:=isSome_some hst
  rw [hso]
  repeat (first|simp (maxSteps:=1000000)(disch:=(first|omega|(simp only [qI,qJ,qK]<;>omega)|exact qL _)) only [go_sem,↓reduceIte,n0,reduceCtorEq,n1,n2,n3,n4,n5,i0,i1,i2,i3,i4,i5,i6,i7,hr4]|refine qA rfl ?_|apply qB|refine qC rfl ?_|apply qD|apply qE|apply qF|apply qG|apply qH)
  have hcl:=(RepS_lay true (d+2) fs_Q).flat hR4
  refine (tellQ_fn (d:=d) fin.1 cells w4 hb4 (fun k hk=>by show ((.int .i16 (ver:Int) :: cells).toArray)[1+k]? = cells[k]?;rw [List.getElem?_toArray,Nat.add_comm,List.getElem?_cons_succ]) hR4 hgood).mono ?_
  rintro _ w5 ⟨⟨c5,rfl,hc5⟩,hE5⟩
  obtain ⟨vS,vL,vU,rfl,hn5,hS5,hL5,hU5⟩:=hc5.inv
  have f1:=hS5.flat
  have f2:=SlR.flat hL5
  have f3:=SlR.flat hU5
  have hr5:=hE5.blk_some hr4 id
  try simp (maxSteps:=1000000)(disch:=(first|omega|(simp only [qI,qJ,qK]<;>omega)|exact qL _)) only [go_sem,↓reduceIte,n0,reduceCtorEq,n1,n2,n3,n4,n5,i0,i1,i2,i3,i4,i5,i6,i7,hr5,f1,f2,f3]
  repeat ((first|refine qA rfl ?_|apply qB|refine qC rfl ?_|apply qD|apply qE|apply qF|apply qG|apply qH);try simp (maxSteps:=1000000)(disch:=(first|omega|(simp only [qI,qJ,qK]<;>omega)|exact qL _)) only [go_sem,↓reduceIte,n0,reduceCtorEq,n1,n2,n3,n4,n5,i0,i1,i2,i3,i4,i5,i6,i7,hr5,f1,f2,f3,cellsAt_five])
  have hUw:Upd (fun b=>b=w.heap.size) w5 (wr w5 w.heap.size 0 [.int .i64 (tlP (d+2) fs_Q fin.1).n,vS,.bool (tlP (d+2) fs_Q fin.1).null,vL,vU]):=(Upd.refl _ _).wr _ _ (.inr rfl)
  refine ⟨⟨_,_,rfl,TreeC.weaken (fun _ _ _=>trivial) (TreeC.keep (hUw.keeps (ok:=fun b=>w4.heap.size≤b) fun b _ hk e=>by have hk':w4.heap.size≤b:=hk;omega) hc5),rfl⟩,(hE0.trans (hE4.trans hE5)).wr _ _ (.inl (Nat.le_refl _))⟩


theorem tsQ (pt:List Fld→Int→Bool→Tree→List UInt8) (D:Nat) (v:Int) (t:Tree):tagsS pt D fs_Q v true t=([(0,3,fQ_3),(1,4,fQ_4),(2,5,fQ_5),(3,6,fQ_6)]:List (Nat × Nat × Fld)).flatMap (tgO pt D v true t):=by
 have hk:knownS fs_Q=4:=rfl
 unfold tagsS
 rw [hk]
 have h3:usualS D fQ_3 (t.at 3)=true∨usualS D fQ_3 (t.at 3)=false:=by cases usualS D fQ_3 (t.at 3)<;>simp
 have h4:usualS D fQ_4 (t.at 4)=true∨usualS D fQ_4 (t.at 4)=false:=by cases usualS D fQ_4 (t.at 4)<;>simp
 have h5:usualS D fQ_5 (t.at 5)=true∨usualS D fQ_5 (t.at 5)=false:=by cases usualS D fQ_5 (t.at 5)<;>simp
 have h6:usualS D fQ_6 (t.at 6)=true∨usualS D fQ_6 (t.at 6)=false:=by cases usualS D fQ_6 (t.at 6)<;>simp
 all_goals rcases h3 with h3|h3
 all_goals rcases h4 with h4|h4
 all_goals rcases h5 with h5|h5
 all_goals rcases h6 with h6|h6
 all_goals simp [List.range_succ,List.range_zero,List.zipIdx_cons,fs_Q,tgO,h3,h4,h5,h6,show ∀ i,i=i from fun _=>rfl,show fQ_0.tag = -1 from rfl,show fQ_1.tag = -1 from rfl,show fQ_2.tag = -1 from rfl,show fQ_3.tag=0 from rfl,show fQ_4.tag=1 from rfl,show fQ_5.tag=2 from rfl,show fQ_6.tag=3 from rfl]
theorem setQ (pc:List Fld→Tree→Tree) (dp:List Fld→Tree) (D:Nat) (v:Int) (t:Tree):setT pc D v t [(0,3,fQ_3),(1,4,fQ_4),(2,5,fQ_5),(3,6,fQ_6)] (cnL pc dp v t fs_Q 0)=cnT pc dp D v true t fs_Q 0:=by
 have h3:usualS D fQ_3 (t.at 3)=true∨usualS D fQ_3 (t.at 3)=false:=by cases usualS D fQ_3 (t.at 3)<;>simp
 have h4:usualS D fQ_4 (t.at 4)=true∨usualS D fQ_4 (t.at 4)=false:=by cases usualS D fQ_4 (t.at 4)<;>simp
 have h5:usualS D fQ_5 (t.at 5)=true∨usualS D fQ_5 (t.at 5)=false:=by cases usualS D fQ_5 (t.at 5)<;>simp
 have h6:usualS D fQ_6 (t.at 6)=true∨usualS D fQ_6 (t.at 6)=false:=by cases usualS D fQ_6 (t.at 6)<;>simp
 all_goals rcases h3 with h3|h3
 all_goals rcases h4 with h4|h4
 all_goals rcases h5 with h5|h5
 all_goals rcases h6 with h6|h6
 all_goals simp [setT,cnL,cnT,liveS,fs_Q,h3,h4,h5,h6,show fQ_0.tag = -1 from rfl,show fQ_1.tag = -1 from rfl,show fQ_2.tag = -1 from rfl,show fQ_3.tag=0 from rfl,show fQ_4.tag=1 from rfl,show fQ_5.tag=2 from rfl,show fQ_6.tag=3 from rfl]

set_option maxHeartbeats 4000000 in
theorem law_TellQ {ok:Blocks} {ev:Value} (n:Nat) (hn:n < 256) (t:Tree) (ct:List Value) (w:World) (ht:TreeC ok w t ct) (hsm:Small 4611686018427387903 t) (hG:Glo ev w) (hev:∃ T p,ev = .iface T p) {N:Nat} (hN:N≤1048576) (hsz:Sized N t) :
  Fn Tryz.prog 4 #[.int .u8 n,.agg ct.toArray] w fun r w'=>r = .bool true∧Ext w w':=by
 have BH:=TreeC.n64 ht
 obtain ⟨vS,vL,vU,rfl,hn',hS,hL,hU⟩:=ht.inv
 have f1:=hS.flat
 have f2:=SlR.flat hL
 have f3:=SlR.flat hU
 have hE:Ext w (w.alloc (.cells #[.int .i64 t.n,vS,.bool t.null,vL,vU] 26)):=Upd.alloc (Upd.refl _ _) _
 refine fn_of_W Tryz.func4 rfl Tryz.results4 Tryz.ntmps4 rfl ?_
 repeat ((first|refine qA rfl ?_|apply qB|refine qC rfl ?_|apply qD|apply qE|apply qF|apply qG|apply qH);try simp (maxSteps:=1000000)(disch:=(first|omega|(simp only [qI,qJ,qK]<;>omega)|exact qL _)) only [go_sem,↓reduceIte,n0,reduceCtorEq,n1,n2,n3,n4,n5,i0,i1,i2,i3,i4,i5,i6,i7,f1,f2,f3,cellsAt_five])
 have hb:blk (w.alloc (.cells #[.int .i64 t.n,vS,.bool t.null,vL,vU] 26)) w.heap.size=some (#[.int .i64 t.n,vS,.bool t.null,vL,vU],26,(0,0)):=blk_alloc_new rfl
 generalize (w.alloc (.cells #[.int .i64 t.n,vS,.bool t.null,vL,vU] 26))=w1 at *
 refine (zzFits1_fn (ok:=ok) t _ w1 (ht.keep (hE.keeps _)) hsm).mono ?_
 rintro r2 w2 ⟨⟨bb,rfl⟩,hE2⟩
 cases bb with
 | false =>
  simp (maxSteps:=1000000)(disch:=(first|omega|(simp only [qI,qJ,qK]<;>omega)|exact qL _)) only [go_sem,↓reduceIte,n0,reduceCtorEq,n1,n2,n3,n4,n5,i0,i1,i2,i3,i4,i5,i6,i7]
  repeat ((first|refine qA rfl ?_|apply qB|refine qC rfl ?_|apply qD|apply qE|apply qF|apply qG|apply qH);try simp (maxSteps:=1000000)(disch:=(first|omega|(simp only [qI,qJ,qK]<;>omega)|exact qL _)) only [go_sem,↓reduceIte,n0,reduceCtorEq,n1,n2,n3,n4,n5,i0,i1,i2,i3,i4,i5,i6,i7])
  all_goals exact hE.trans hE2
 | true =>
  simp (maxSteps:=1000000)(disch:=(first|omega|(simp only [qI,qJ,qK]<;>omega)|exact qL _)) only [go_sem,↓reduceIte,n0,reduceCtorEq,n1,n2,n3,n4,n5,i0,i1,i2,i3,i4,i5,i6,i7]
  repeat ((first|refine qA rfl ?_|apply qB|refine qC rfl ?_|apply qD|apply qE|apply qF|apply qG|apply qH);try simp (maxSteps:=1000000)(disch:=(first|omega|(simp only [qI,qJ,qK]<;>omega)|exact qL _)) only [go_sem,↓reduceIte,n0,reduceCtorEq,n1,n2,n3,n4,n5,i0,i1,i2,i3,i4,i5,i6,i7])
  refine (MaxQ_fn w2).mono ?_
  rintro _ w2m ⟨rfl,t1⟩
  repeat ((first|refine qA rfl ?_|apply qB|refine qC rfl ?_|apply qD|apply qE|apply qF|apply qG|apply qH);try simp (maxSteps:=1000000)(disch:=(first|omega|(simp only [qI,qJ,qK]<;>omega)|exact qL _)) only [go_sem,↓reduceIte,n0,reduceCtorEq,n1,n2,n3,n4,n5,i0,i1,i2,i3,i4,i5,i6,i7])
  refine (cQ_fn w2m).mono ?_
  rintro r3 w3 ⟨⟨vs,rfl,hF0⟩,hE3⟩
  have hF:FldsV AnyB w3 vs fs_Q:=hF0.weaken fun _ _ _=>trivial
  have fF:=SlR.flat hF
  try simp (maxSteps:=1000000)(disch:=(first|omega|(simp only [qI,qJ,qK]<;>omega)|exact qL _)) only [go_sem,↓reduceIte,n0,reduceCtorEq,n1,n2,n3,n4,n5,i0,i1,i2,i3,i4,i5,i6,i7]
  refine (version_fn w3 n 5 hn (by decide)).mono ?_
  rintro _ w3v ⟨rfl,rfl⟩
  have hE03:Ext w w3v:=((hE.trans hE2).trans t1).trans hE3
  have hb3:=hE3.blk_some (t1.blk_some (hE2.blk_some hb id) id) id
  have hE4:Ext w3v (wr (w3v.alloc (.cells #[.slice none 0 0,.int .i64 0] 31)) w3v.heap.size 0 [vs,.int .i64 3]):=(Upd.alloc (Upd.refl _ _) _).wr _ _ (.inl (Nat.le_refl _))
  have hb4:blk (wr (w3v.alloc (.cells #[.slice none 0 0,.int .i64 0] 31)) w3v.heap.size 0 [vs,.int .i64 3]) w3v.heap.size=some (#[vs,.int .i64 3],31,(0,0)):=by simp (maxSteps:=1000000)(disch:=(first|omega|(simp only [qI,qJ,qK]<;>omega)|exact qL _)) only [go_sem,↓reduceIte,n0,reduceCtorEq,n1,n2,n3,n4,n5,i0,i1,i2,i3,i4,i5,i6,i7]
  try simp (maxSteps:=1000000)(disch:=(first|omega|(simp only [qI,qJ,qK]<;>omega)|exact qL _)) only [go_sem,↓reduceIte,n0,reduceCtorEq,n1,n2,n3,n4,n5,i0,i1,i2,i3,i4,i5,i6,i7,fF]
  generalize (wr (w3v.alloc (.cells #[.slice none 0 0,.int .i64 0] 31)) w3v.heap.size 0 [vs,.int .i64 3])=w4 at *
  have fJ:=hE4.blk_some hb3 id
  have hv3:n % 6 < 6:=Nat.mod_lt _ (by omega)
  generalize n % 6=ver at *
  have hs1:=blk_lt hb4
  have hs2:=blk_lt fJ
  repeat ((first|refine qA rfl ?_|apply qB|refine qC rfl ?_|apply qD|apply qE|apply qF|apply qG|apply qH);try simp (maxSteps:=1000000)(disch:=(first|omega|(simp only [qI,qJ,qK]<;>omega)|exact qL _)) only [go_sem,↓reduceIte,n0,reduceCtorEq,n1,n2,n3,n4,n5,i0,i1,i2,i3,i4,i5,i6,i7,fJ,hb4,cellsAt_five,cellsAt_two])
  have hE04:Ext w w4:=hE03.trans hE4
  have hokF:okF 2 fs_Q=true:=by decide
  have hokR:okRT 1 ver (flexB 3 ver) fs_Q=true:=(by decide:∀ v:Fin 6,okRT 1 ((v.val:Nat):Int) (flexB 3 ((v.val:Nat):Int)) fs_Q=true) ⟨ver,hv3⟩
  have hokT:okTs 2 fs_Q=true:=by decide
  have hdf:okDf (1+2) fs_Q=true:=by decide
  have hts:tagsS (partS 2) 3 fs_Q ver true t=([(0,3,fQ_3),(1,4,fQ_4),(2,5,fQ_5),(3,6,fQ_6)]:List (Nat × Nat × Fld)).flatMap (tgO (partS 2) 3 ver true t):=tsQ _ _ _ _
  have hset:setT (cnP 2 ver true) 3 ver t [(0,3,fQ_3),(1,4,fQ_4),(2,5,fQ_5),(3,6,fQ_6)] (cnL (cnP 2 ver true) (dfP 2) ver t fs_Q 0)=cnT (cnP 2 ver true) (dfP 2) 3 ver true t fs_Q 0:=setQ _ _ _ _ _
  have hlen:∀ p∈([(0,3,fQ_3),(1,4,fQ_4),(2,5,fQ_5),(3,6,fQ_6)]:List (Nat × Nat × Fld)),tagX fs_Q p.1=some p.2∧p.1 < 4294967296∧p.2.2∈fs_Q∧0≤p.2.2.tag∧(fieldS (partS 2) p.2.2 ver true (t.at p.2.1)).length < 4294967296:=by
   intro p hp
   simp only [List.mem_cons,List.not_mem_nil,or_false] at hp
   rcases hp with rfl|rfl|rfl|rfl
   ·refine ⟨rfl,by decide,by simp [fs_Q],by decide,?_⟩
    exact Nat.lt_of_le_of_lt (fieldS_bound (C:=cst 2 fQ_3.sub) (sub:=fQ_3.sub) (fun N x hx=>partS_bound ver true 1 _ N x (by decide) hx) fQ_3 rfl (hsz.at 3)) (Nat.lt_of_le_of_lt (Nat.mul_le_mul_left _ (Nat.succ_le_succ hN)) (by decide))
   ·refine ⟨rfl,by decide,by simp [fs_Q],by decide,?_⟩
    exact Nat.lt_of_le_of_lt (fieldS_bound (C:=cst 2 fQ_4.sub) (sub:=fQ_4.sub) (fun N x hx=>partS_bound ver true 1 _ N x (by decide) hx) fQ_4 rfl (hsz.at 4)) (Nat.lt_of_le_of_lt (Nat.mul_le_mul_left _ (Nat.succ_le_succ hN)) (by decide))
   ·refine ⟨rfl,by decide,by simp [fs_Q],by decide,?_⟩
    exact Nat.lt_of_le_of_lt (fieldS_bound (C:=cst 2 fQ_5.sub) (sub:=fQ_5.sub) (fun N x hx=>partS_bound ver true 1 _ N x (by decide) hx) fQ_5 rfl (hsz.at 5)) (Nat.lt_of_le_of_lt (Nat.mul_le_mul_left _ (Nat.succ_le_succ hN)) (by decide))
   ·refine ⟨rfl,by decide,by simp [fs_Q],by decide,?_⟩
    exact Nat.lt_of_le_of_lt (fieldS_bound (C:=cst 2 fQ_6.sub) (sub:=fQ_6.sub) (fun N x hx=>partS_bound ver true 1 _ N x (by decide) hx) fQ_6 rfl (hsz.at 6)) (Nat.lt_of_le_of_lt (Nat.mul_le_mul_left _ (Nat.succ_le_succ hN)) (by decide))
  have hpl:(partS 3 fs_Q ver (flexB 3 ver) t).length≤2 ^ 40:=Nat.le_trans (partM_bound (d:=1) (by decide) hsz _ hts (fun p hp=>⟨(hlen p hp).2.1,(hlen p hp).2.2.1,(hlen p hp).2.2.2.2⟩) (by decide)) (Nat.le_trans (Nat.mul_le_mul_left _ (Nat.succ_le_succ hN)) (by decide))
  refine (Write_fn (ok:=AnyB) (d:=2) fs_Q 3 ver t vs _ w4 (hF.keep (Ext.keeps hE4 _)) hokF ((ht.weaken fun _ _ _=>trivial).keep (Ext.keeps hE04 _)) hsm hpl).mono ?_
  rintro r5 w5 ⟨ho5,hE5⟩
  have hE05:=hE04.trans hE5
  obtain ⟨a5,c5,rfl,_⟩:=ho5.shape
  repeat ((first|refine qA rfl ?_|apply qB|refine qC rfl ?_|apply qD|apply qE|apply qF|apply qG|apply qH);try simp (maxSteps:=1000000)(disch:=(first|omega|(simp only [qI,qJ,qK]<;>omega)|exact qL _)) only [go_sem,↓reduceIte,n0,reduceCtorEq,n1,n2,n3,n4,n5,i0,i1,i2,i3,i4,i5,i6,i7])
  have hrd:rdM 2 ver (flexB 3 ver) fs_Q (some (partS 3 fs_Q ver (flexB 3 ver) t))=(cnM 2 ver (flexB 3 ver) fs_Q t,some []):=rdM_part hokR hsz _ hts hset hlen (by decide)
  have hgood:GoodP (1+2) fs_Q (cnM 2 ver (flexB 3 ver) fs_Q t):=cnM_good ver _ 2 _ _ hdf
  have honce:(flexB 3 ver)=true→onceM 2 ver fs_Q (some (partS 3 fs_Q ver (flexB 3 ver) t)):=fun h=>by
   rw [h] at hokR ⊢
   exact onceM_part hokR hsz _ hts (fun p hp=>⟨(hlen p hp).2.1,(hlen p hp).2.2.2.2⟩) (by decide) (by decide)
  refine (TellDQ_fn (d:=1) (ok:=AnyB) (ev:=ev) ver (by omega) _ _ w5 (Own.bytes (ok:=AnyB) ho5 fun _ _=>trivial) (hG.updS hE05 id id) hev hpl (cnM 2 ver (flexB 3 ver) fs_Q t,some []) hrd.symm hgood honce).mono ?_
  rintro _ w6 ⟨⟨ca,Ta,rfl,hca,hTa⟩,hE6⟩
  obtain rfl:=hTa rfl
  have hsT:Small 32767 (tlP (1+2) fs_Q (cnM 2 ver (flexB 3 ver) fs_Q t)):=tlP_small _ _ _ hdf hgood
  have htold:ToldP 3 ver (flexB 3 ver) fs_Q t (tlP (1+2) fs_Q (cnM 2 ver (flexB 3 ver) fs_Q t)):=told_cnM ver (flexB 3 ver) 1 fs_Q t hokR hokT BH
  simp only at hca
  generalize tlP (1+2) fs_Q (cnM 2 ver (flexB 3 ver) fs_Q t)=Ta at *
  have hE06:=hE05.trans hE6
  obtain ⟨aS,aL,aU,rfl,hna,hSa,hLa,hUa⟩:=hca.inv
  have g1:=hSa.flat
  have g2:=SlR.flat hLa
  have g3:=SlR.flat hUa
  have hE7:Ext w6 (wr (w6.alloc (.cells qZ5 37)) w6.heap.size 0 [.int .i64 Ta.n,aS,.bool Ta.null,aL,aU]):=(Upd.alloc (Upd.refl _ _) _).wr _ _ (.inl (Nat.le_refl _))
  have hb7:blk (wr (w6.alloc (.cells qZ5 37)) w6.heap.size 0 [.int .i64 Ta.n,aS,.bool Ta.null,aL,aU]) w6.heap.size=some (#[.int .i64 Ta.n,aS,.bool Ta.null,aL,aU],37,(0,0)):=by simp (maxSteps:=1000000)(disch:=(first|omega|(simp only [qI,qJ,qK]<;>omega)|exact qL _)) only [go_sem,↓reduceIte,n0,reduceCtorEq,n1,n2,n3,n4,n5,i0,i1,i2,i3,i4,i5,i6,i7]
  repeat (first|simp (maxSteps:=1000000)(disch:=(first|omega|(simp only [qI,qJ,qK]<;>omega)|exact qL _)) only [go_sem,↓reduceIte,n0,reduceCtorEq,n1,n2,n3,n4,n5,i0,i1,i2,i3,i4,i5,i6,i7,g1,g2,g3,Option.isSome_some]|refine qA rfl ?_|apply qB|refine qC rfl ?_|apply qD|apply qE|apply qF|apply qG|apply qH)
  generalize (wr (w6.alloc (.cells qZ5 37)) w6.heap.size 0 [.int .i64 Ta.n,aS,.bool Ta.null,aL,aU])=w7 at *
  have hE47:=(hE5.trans hE6).trans hE7
  have hE07:=hE04.trans hE47
  have hb47:=hE47.blk_some hb4 id
  have uY:=hE47.blk_some fJ id
  have l1:=blk_lt hb7
  have l2:=blk_lt hb47
  have l3:=blk_lt uY
  refine W.drawR (.take 0 (.take 1 (.take 2 (.take 3 (.take 4 (.take 5 (.take 6 (.take 8 (.take 9 (.only 7 (.only 10 (.only 11 (.take 12 (.only 13 .done)))))))))))))) NoB mixed (by kernel_rfl) ?_
  try simp (maxSteps:=1000000)(disch:=(first|omega|(simp only [qI,qJ,qK]<;>omega)|exact qL _)) only [go_sem,↓reduceIte,n0,reduceCtorEq,n1,n2,n3,n4,n5,i0,i1,i2,i3,i4,i5,i6,i7,fF,f1,f2,f3,g1,g2,g3,hb7,hb47,uY,cellsAt_five,cellsAt_two]
  have hEd:Ext w7 w7.drew:=(Upd.refl _ _).drew
  have hE0d:=hE07.trans hEd
  have hE4d:=hE47.trans hEd
  have hcad:=(hca.keep (Ext.keeps hE7 _)).keep (Ext.keeps hEd _)
  generalize w7.drew=w8 at *
  refine (Flexible_fn vs 3 ver fF w8).mono ?_
  rintro _ w9 ⟨rfl,hE9⟩
  refine ⟨hE9,?_⟩
  try simp (maxSteps:=1000000)(disch:=(first|omega|(simp only [qI,qJ,qK]<;>omega)|exact qL _)) only [go_sem,↓reduceIte,n0,reduceCtorEq,n1,n2,n3,n4,n5,i0,i1,i2,i3,i4,i5,i6,i7]
  refine (got_fn hsT.lists AnyB _ w9 (hcad.keep (Ext.keeps hE9 _))).mono ?_
  rintro _ w10 ⟨⟨c10,rfl,iQ⟩,yD⟩
  have iM:=hE9.trans yD
  refine ⟨iM,?_⟩
  try simp (maxSteps:=1000000)(disch:=(first|omega|(simp only [qI,qJ,qK]<;>omega)|exact qL _)) only [go_sem,↓reduceIte,n0,reduceCtorEq,n1,n2,n3,n4,n5,i0,i1,i2,i3,i4,i5,i6,i7]
  refine (Told_fn ver (flexB 3 ver) 2 fs_Q t Ta vs _ _ w10 (((hF.keep (Ext.keeps hE4 _)).keep (Ext.keeps hE4d _)).keep (Ext.keeps iM _)) hokF (((ht.weaken (ok':=AnyB) fun _ _ _=>trivial).keep (Ext.keeps hE0d _)).keep (Ext.keeps iM _)) (iQ.weaken fun _ _ _=>trivial) hsm (hsT.mono (by decide)) htold).mono ?_
  rintro _ w11 ⟨rfl,nJ⟩
  refine ⟨iM.trans nJ,?_⟩
  try simp (maxSteps:=1000000)(disch:=(first|omega|(simp only [qI,qJ,qK]<;>omega)|exact qL _)) only [go_sem,↓reduceIte,n0,reduceCtorEq,n1,n2,n3,n4,n5,i0,i1,i2,i3,i4,i5,i6,i7]
  try refine ⟨iM.trans nJ,?_⟩
  repeat ((first|refine qA rfl ?_|apply qB|refine qC rfl ?_|apply qD|apply qE|apply qF|apply qG|apply qH);try simp (maxSteps:=1000000)(disch:=(first|omega|(simp only [qI,qJ,qK]<;>omega)|exact qL _)) only [go_sem,↓reduceIte,n0,reduceCtorEq,n1,n2,n3,n4,n5,i0,i1,i2,i3,i4,i5,i6,i7])
  all_goals exact hE0d.trans (iM.trans nJ)
end Ms

