/- A part of the proof: see the last text. -/
import Derived.Test.YtbbhfngjfihndacGreatDoorC05
import Derived.Test.YtbbhfngjfihndacGreatDoorC09
import Derived.Test.YtbbhfngjfihndacGreatDoorC10
set_option linter.unusedSimpArgs false
set_option linter.unusedVariables false
namespace Ms
open Go.World renaming size_alloc → qI
open Ms renaming size_wr → qJ,size_drew → qK,not_noB → qL
open W renaming seqR → qA,seq → qB,regR → qC,condK → qD,block → qE,skip → qF,ret → qG,exit → qH
open Nat renaming reduceEqDiff → n0,reduceAdd → n1,reduceMul → n2,reduceSub → n3,reduceLT → n4,reduceLeDiff → n5
open Int renaming reduceEq → i0,reduceLT → i1,reduceLE → i2,reduceNeg → i3,reduceAdd → i4,reduceSub → i5,reduceMul → i6,reduceToNat → i7
set_option maxRecDepth 8000
set_option maxHeartbeats 24000000
open Go Go.Proofs Go.Shelf
attribute [local congr] W_congr WPsq_congr WPp_congr optK_congr addrK_congr intK_congr boolK_congr sliceK_congr tupleK_congr funcK_congr Fn_congr rawK_congr takeK_congr stepK_congr convK_congr aggK_congr

theorem Told_step {T:List Fld→Tree→Tree→Prop} {D:List Fld→Tree→Prop} {du:Nat} (fs:List Fld) (ver:Int) (flex:Bool) (t g:Tree) (vf:Value) (ct cg:List Value) (w:World) (hf:FldsV AnyB w vf fs) (hfl:fs.length≤1000) (htag:∀ f∈fs,f.tag≤1000) (ht:TreeC AnyB w t ct) (hg:TreeC AnyB w g cg) (hsm:Small 4611686018427387903 t) (hsg:Small 4611686018427387903 g)
  (htold:∀ f∈fs,∀ (x y:Tree) (cf cx cy:List Value) (w':World),FldC AnyB w' f cf→TreeC AnyB w' x cx→TreeC AnyB w' y cy→Small 4611686018427387903 x→Small 4611686018427387903 y→ToldF T ver f x y→Fn Tryz.prog 24 #[.agg cf.toArray,.int .i64 ver,.bool flex,.agg cx.toArray,.agg cy.toArray] w' fun r w''=>r = .bool true∧Ext w' w'')
  (husual:∀ f∈fs,∀ (x:Tree) (cf cx:List Value) (w':World),FldC AnyB w' f cf→TreeC AnyB w' x cx→Small 4611686018427387903 x→Fn Tryz.prog 23 #[.agg cf.toArray,.agg cx.toArray] w' fun r w''=>r = .bool (usualS du f x)∧Ext w' w'')
  (hUsual:∀ f∈fs,∀ (y:Tree) (vs:Value) (cy:List Value) (w':World),FldsV AnyB w' vs [f]→TreeC AnyB w' (.mk 0 [] false [y] []) cy→Small 4611686018427387903 y→DfF D f y→Fn Tryz.prog 25 #[vs,.agg cy.toArray] w' fun r w''=>r = .bool true∧Ext w' w'')
  (hgl:g.l.length=fs.length) (hgu:g.u=(if flex=true then (unknownS fs t.u).map fun u=>(u.1,wholeS u.2) else []))
  (hd:∀ i (h:i < fs.length),if liveS du ver flex fs[i] (t.at i)=true then ToldF T ver fs[i] (t.at i) (g.at i) else DfF D fs[i] (g.at i)) :
  Fn Tryz.prog 10 #[vf,.int .i64 ver,.bool flex,.agg ct.toArray,.agg cg.toArray] w fun r w'=>r = .bool true∧Ext w w':=by
 obtain ⟨bf,cf,rfl,hcf⟩:=SlR.shape hf
 obtain ⟨vS,vL,vU,rfl,hn,hS,hL,hU⟩:=ht.inv
 obtain ⟨gS,gL,gU,rfl,hgn,hgS,hgL,hgU⟩:=hg.inv
 have hl1:=hsm.s
 have hl2:=hsm.l
 have hl4:=hsg.l
 have f1:=hS.flat
 have f2:=SlR.flat hL
 have f3:=SlR.flat hU
 have k1:=hgS.flat
 have k2:=SlR.flat hgL
 have k3:=SlR.flat hgU
 obtain ⟨bG,cG,rfl,hcG⟩:=SlR.shape hgL
 obtain ⟨bU,cU,rfl,hcU⟩:=SlR.shape hgU
 have hgl':((g.l.length:Nat):Int)=(fs.length:Nat):=by rw [hgl]
 have hE:Ext w ((w.alloc (.cells #[.int .i64 t.n,vS,.bool t.null,vL,vU] 26)).alloc (.cells #[.int .i64 g.n,gS,.bool g.null,.slice bG g.l.length cG,.slice bU g.u.length cU] 26)):=Upd.alloc (Upd.alloc (Upd.refl _ _) _) _
 refine fn_of_W Tryz.func10 rfl Tryz.results10 Tryz.ntmps10 rfl ?_
 repeat ((first|refine qA rfl ?_|apply qB|refine qC rfl ?_|apply qD|apply qE|apply qF|apply qG|apply qH);try simp (disch:=(first|omega|(simp only [qI,qJ,qK]<;>omega)|exact qL _)) only [go_sem,↓reduceIte,n0,reduceCtorEq,n1,n2,n3,n4,n5,i0,i1,i2,i3,i4,i5,i6,i7,f1,f2,f3,k1,k2,k3,cellsAt_five,cellsAt_eight,hgl',beq_self_eq_true,bne_self_eq_false,ne_eq,not_true_eq_false,not_false_eq_true])
 have hb1:blk ((w.alloc (.cells #[.int .i64 t.n,vS,.bool t.null,vL,vU] 26)).alloc (.cells #[.int .i64 g.n,gS,.bool g.null,.slice bG g.l.length cG,.slice bU g.u.length cU] 26)) w.heap.size=some (#[.int .i64 t.n,vS,.bool t.null,vL,vU],26,(0,0)):=by simp (disch:=(first|omega|(simp only [qI,qJ,qK]<;>omega)|exact qL _)) only [go_sem,↓reduceIte,n0,reduceCtorEq,n1,n2,n3,n4,n5,i0,i1,i2,i3,i4,i5,i6,i7]
 have hb2:blk ((w.alloc (.cells #[.int .i64 t.n,vS,.bool t.null,vL,vU] 26)).alloc (.cells #[.int .i64 g.n,gS,.bool g.null,.slice bG g.l.length cG,.slice bU g.u.length cU] 26)) (w.heap.size+1)=some (#[.int .i64 g.n,gS,.bool g.null,.slice bG g.l.length cG,.slice bU g.u.length cU],26,(0,0)):=by simp (disch:=(first|omega|(simp only [qI,qJ,qK]<;>omega)|exact qL _)) only [go_sem,↓reduceIte,n0,reduceCtorEq,n1,n2,n3,n4,n5,i0,i1,i2,i3,i4,i5,i6,i7]
 have hz2:((w.alloc (.cells #[.int .i64 t.n,vS,.bool t.null,vL,vU] 26)).alloc (.cells #[.int .i64 g.n,gS,.bool g.null,.slice bG g.l.length cG,.slice bU g.u.length cU] 26)).heap.size=w.heap.size+2:=by simp only [World.size_alloc]
 generalize ((w.alloc (.cells #[.int .i64 t.n,vS,.bool t.null,vL,vU] 26)).alloc (.cells #[.int .i64 g.n,gS,.bool g.null,.slice bG g.l.length cG,.slice bU g.u.length cU] 26))=w2 at *
 refine W.exitJ 0 (EndQ [(0,.slice bf fs.length cf),(1,.int .i64 ver),(2,.bool flex),(8,.pointer (some ⟨w.heap.size,0,none⟩)),(9,.pointer (some ⟨w.heap.size+1,0,none⟩))] (fun w'=>Ext w2 w')) (W.loop (LoopL [(0,.slice bf fs.length cf),(1,.int .i64 ver),(2,.bool flex),(8,.pointer (some ⟨w.heap.size,0,none⟩)),(9,.pointer (some ⟨w.heap.size+1,0,none⟩)),(24,.int .i64 fs.length),(23,.slice bf fs.length cf)] 25 (fun j w'=>j≤fs.length∧Ext w2 w')) (fun ρ _=>fs.length - (RowKit.intOf (ρ 25)).toNat) ?_ ?_) ?_
 ·exact ⟨(by simp (disch:=(first|omega|(simp only [qI,qJ,qK]<;>omega)|exact qL _)) only [go_sem,↓reduceIte,n0,reduceCtorEq,n1,n2,n3,n4,n5,i0,i1,i2,i3,i4,i5,i6,i7,Holds_nil,Holds_cons]),0,(by simp (disch:=(first|omega|(simp only [qI,qJ,qK]<;>omega)|exact qL _)) only [go_sem,↓reduceIte,n0,reduceCtorEq,n1,n2,n3,n4,n5,i0,i1,i2,i3,i4,i5,i6,i7];all_goals rfl),Nat.zero_le _,Upd.refl _ _⟩
 ·skip
  rintro ρ w3 ⟨⟨h0,h1,h2,h8,h9,h24,h23,-⟩,j,h25,hj,hE3⟩
  have hz3:=hE3.size
  have hE03:Ext w w3:=hE.trans hE3
  have hb13:=hE3.blk_some hb1 id
  have hb23:=hE3.blk_some hb2 id
  by_cases hlt:j < fs.length
  ·skip
   have hdj:=hd j hlt
   have hatg:g.at j=g.l[j]'(by omega):=Tree.at_lt (by omega)
   rw [hatg] at hdj
   obtain ⟨_,b,o,x,vs2,hb,hokb,hx,hblt,hxs,hxe,hfl2,hsub2⟩:=FldsV.get hf hlt
   subst hb
   obtain ⟨_,b',o',x',uS',uL',uU',hb',hokb',hx',hblt',hxs',hxe',q1,q2,q3,hc'⟩:=TreesV.get hgL (i:=j) (by omega)
   subst hb'
   have hsg':=hsg.e j (by omega)
   have hx3:blk w3 b=some x:=hE03.blk_some hx id
   have hmem:=List.getElem_mem hlt
   generalize hfj:fs[j] = f at *
   generalize g.l[j]'(by omega)=z at *
   have hE4:Ext w3 (wr (w3.alloc (.cells #[.int .i64 0,.int .i64 0,.int .i64 0,.int .i64 0,.int .i64 0,.int .i64 0,.int .i64 0,.slice none 0 0] 51)) w3.heap.size 0 [.int .i64 f.kind,.int .i64 f.fr,.int .i64 f.to,.int .i64 f.null,.int .i64 f.tag,.int .i64 f.df,.int .i64 f.of,vs2]):=(Upd.alloc (Upd.refl _ _) _).wr _ _ (.inl (Nat.le_refl _))
   have hb4:blk (wr (w3.alloc (.cells #[.int .i64 0,.int .i64 0,.int .i64 0,.int .i64 0,.int .i64 0,.int .i64 0,.int .i64 0,.slice none 0 0] 51)) w3.heap.size 0 [.int .i64 f.kind,.int .i64 f.fr,.int .i64 f.to,.int .i64 f.null,.int .i64 f.tag,.int .i64 f.df,.int .i64 f.of,vs2]) w3.heap.size=some (#[.int .i64 f.kind,.int .i64 f.fr,.int .i64 f.to,.int .i64 f.null,.int .i64 f.tag,.int .i64 f.df,.int .i64 f.of,vs2],51,(0,0)):=by rw [blk_wr_eq,blk_alloc_new rfl];rfl
   have hz4:(wr (w3.alloc (.cells #[.int .i64 0,.int .i64 0,.int .i64 0,.int .i64 0,.int .i64 0,.int .i64 0,.int .i64 0,.slice none 0 0] 51)) w3.heap.size 0 [.int .i64 f.kind,.int .i64 f.fr,.int .i64 f.to,.int .i64 f.null,.int .i64 f.tag,.int .i64 f.df,.int .i64 f.of,vs2]).heap.size=w3.heap.size+1:=by simp only [size_wr,World.size_alloc]
   repeat ((first|refine qA rfl ?_|apply qB|refine qC rfl ?_|apply qD|apply qE|apply qF|apply qG|apply qH);try simp (disch:=(first|omega|(simp only [qI,qJ,qK]<;>omega)|exact qL _)) only [go_sem,↓reduceIte,n0,reduceCtorEq,n1,n2,n3,n4,n5,i0,i1,i2,i3,i4,i5,i6,i7,h25,h24,h23,h8,hx3,hxe,hfl2,hb13,cellsAt_five,cellsAt_eight,Int.toNat_natCast])
   generalize (wr (w3.alloc (.cells #[.int .i64 0,.int .i64 0,.int .i64 0,.int .i64 0,.int .i64 0,.int .i64 0,.int .i64 0,.slice none 0 0] 51)) w3.heap.size 0 [.int .i64 f.kind,.int .i64 f.fr,.int .i64 f.to,.int .i64 f.null,.int .i64 f.tag,.int .i64 f.df,.int .i64 f.of,vs2])=w4 at *
   have hE04:=hE03.trans hE4
   refine (at_fn (ok:=AnyB) t j _ w4 (ht.keep (Ext.keeps hE04 _)) (by omega) (by omega)).mono ?_
   rintro _ w5 ⟨⟨c5,rfl,hc5⟩,hE5⟩
   have hsx:Small 4611686018427387903 (t.at j):=hsm.at j
   generalize t.at j=y at *
   obtain ⟨xS,xL,xU,rfl,hxn,hxS,hxL,hxU⟩:=hc5.inv
   have m1:=hxS.flat
   have m2:=SlR.flat hxL
   have m3:=SlR.flat hxU
   have hz5:=hE5.size
   have hb45:=hE5.blk_some hb4 id
   have hE05:=hE04.trans hE5
   have hE6:Ext w5 (wr (w5.alloc (.cells #[.int .i64 0,.slice none 0 0,.bool false,.slice none 0 0,.slice none 0 0] 26)) w5.heap.size 0 [.int .i64 y.n,xS,.bool y.null,xL,xU]):=(Upd.alloc (Upd.refl _ _) _).wr _ _ (.inl (Nat.le_refl _))
   have hb6:blk (wr (w5.alloc (.cells #[.int .i64 0,.slice none 0 0,.bool false,.slice none 0 0,.slice none 0 0] 26)) w5.heap.size 0 [.int .i64 y.n,xS,.bool y.null,xL,xU]) w5.heap.size=some (#[.int .i64 y.n,xS,.bool y.null,xL,xU],26,(0,0)):=by rw [blk_wr_eq,blk_alloc_new rfl];rfl
   have hz6:(wr (w5.alloc (.cells #[.int .i64 0,.slice none 0 0,.bool false,.slice none 0 0,.slice none 0 0] 26)) w5.heap.size 0 [.int .i64 y.n,xS,.bool y.null,xL,xU]).heap.size=w5.heap.size+1:=by simp only [size_wr,World.size_alloc]
   try simp (disch:=(first|omega|(simp only [qI,qJ,qK]<;>omega)|exact qL _)) only [go_sem,↓reduceIte,n0,reduceCtorEq,n1,n2,n3,n4,n5,i0,i1,i2,i3,i4,i5,i6,i7,m1,m2,m3]
   generalize (wr (w5.alloc (.cells #[.int .i64 0,.slice none 0 0,.bool false,.slice none 0 0,.slice none 0 0] 26)) w5.heap.size 0 [.int .i64 y.n,xS,.bool y.null,xL,xU])=w6 at *
   have hb46:=hE6.blk_some hb45 id
   have hE36:Ext w3 w6:=(hE4.trans hE5).trans hE6
   have hE06:=hE03.trans hE36
   have hfc6:FldC AnyB w6 f _:=FldC.of (hsub2.keep (Ext.keeps hE06 _))
   have hc6:=hc5.keep (Ext.keeps hE6 _)
   repeat refine W.seq ?_
   refine W.normJ (EndQ [(0,.slice (some ⟨b,o,none⟩) fs.length cf),(1,.int .i64 ver),(2,.bool flex),(8,.pointer (some ⟨w.heap.size,0,none⟩)),(9,.pointer (some ⟨w.heap.size+1,0,none⟩)),(24,.int .i64 fs.length),(23,.slice (some ⟨b,o,none⟩) fs.length cf),(25,.int .i64 j),(11,.int .i64 j),(12,.pointer (some ⟨w3.heap.size,0,none⟩)),(13,.pointer (some ⟨w5.heap.size,0,none⟩)),(54,.bool (liveS du ver flex f y))] (fun w'=>Ext w6 w')) ?_ ?_
   ·skip
    by_cases htg:f.tag < 0
    ·skip
     refine W.regO 7 rfl fun O DD hO hDD => ?_
     have hg3:(O[3]?).bind (·.dst)=some 36:=by rw [hO];rfl
     have hg8:(O[8]?).bind (·.dst)=some 41:=by rw [hO];rfl
     have hg12:(O[12]?).bind (·.dst)=some 45:=by rw [hO];rfl
     have hg15:(O[15]?).bind (·.dst)=some 48:=by rw [hO];rfl
     clear hO
     simp only [List.take_succ_cons,List.take_zero,List.cons_append,List.nil_append]
     simp (disch:=(first|omega|(simp only [qI,qJ,qK]<;>omega)|exact qL _)) only [go_sem,↓reduceIte,n0,reduceCtorEq,n1,n2,n3,n4,n5,i0,i1,i2,i3,i4,i5,i6,i7,h0,h1,h2,h8,h9,h24,h23,h25,hg3,hg8,hg12,hg15,hb46,htg,cellsAt_eight]
     refine (Has_fn (ok:=AnyB) f ver _ w6 hfc6).mono ?_
     rintro _ w7 ⟨rfl,hE7⟩
     have htg':¬ 0≤f.tag:=by omega
     have hb47:=hE7.blk_some hb46 id
     cases hh:hasS f ver with
     | true =>
      have hlv:liveS du ver flex f y=true:=by simp [liveS,hh,htg,htg']
      rw [hDD]
      clear hDD
      simp only [List.drop_succ_cons,List.drop_zero]
      simp (disch:=(first|omega|(simp only [qI,qJ,qK]<;>omega)|exact qL _)) only [go_sem,↓reduceIte,n0,reduceCtorEq,n1,n2,n3,n4,n5,i0,i1,i2,i3,i4,i5,i6,i7,h0,h1,h2,h8,h9,h24,h23,h25,hg3,hg8,hg12,hg15,hh,hb47,htg]
      exact ⟨(by simp (disch:=(first|omega|(simp only [qI,qJ,qK]<;>omega)|exact qL _)) only [go_sem,↓reduceIte,n0,reduceCtorEq,n1,n2,n3,n4,n5,i0,i1,i2,i3,i4,i5,i6,i7,Holds_nil,Holds_cons,h0,h1,h2,h8,h9,h24,h23,h25,hlv]),hE7⟩
     | false =>
      have hlv:liveS du ver flex f y=false:=by simp [liveS,hh,htg,htg']
      rw [hDD]
      clear hDD
      simp only [List.drop_succ_cons,List.drop_zero]
      simp (disch:=(first|omega|(simp only [qI,qJ,qK]<;>omega)|exact qL _)) only [go_sem,↓reduceIte,n0,reduceCtorEq,n1,n2,n3,n4,n5,i0,i1,i2,i3,i4,i5,i6,i7,h0,h1,h2,h8,h9,h24,h23,h25,hg3,hg8,hg12,hg15,hh,hb47,htg]
      exact ⟨(by simp (disch:=(first|omega|(simp only [qI,qJ,qK]<;>omega)|exact qL _)) only [go_sem,↓reduceIte,n0,reduceCtorEq,n1,n2,n3,n4,n5,i0,i1,i2,i3,i4,i5,i6,i7,Holds_nil,Holds_cons,h0,h1,h2,h8,h9,h24,h23,h25,hlv]),hE7⟩
    have htg':0≤f.tag:=by omega
    cases flex with
    | false =>
     have hlv:liveS du ver false f y=false:=by simp [liveS,htg,htg']
     refine W.regO 22 rfl fun O DD hO hDD => ?_
     have hg3:(O[3]?).bind (·.dst)=some 36:=by rw [hO];rfl
     have hg8:(O[8]?).bind (·.dst)=some 41:=by rw [hO];rfl
     have hg12:(O[12]?).bind (·.dst)=some 45:=by rw [hO];rfl
     have hg15:(O[15]?).bind (·.dst)=some 48:=by rw [hO];rfl
     clear hO
     simp only [List.take_succ_cons,List.take_zero,List.cons_append,List.nil_append]
     have hDD0:DD=[]:=by rw [hDD];rfl
     subst hDD0
     clear hDD
     simp (disch:=(first|omega|(simp only [qI,qJ,qK]<;>omega)|exact qL _)) only [go_sem,↓reduceIte,n0,reduceCtorEq,n1,n2,n3,n4,n5,i0,i1,i2,i3,i4,i5,i6,i7,h0,h1,h2,h8,h9,h24,h23,h25,hg3,hg8,hg12,hg15,hb46,htg]
     exact ⟨(by simp (disch:=(first|omega|(simp only [qI,qJ,qK]<;>omega)|exact qL _)) only [go_sem,↓reduceIte,n0,reduceCtorEq,n1,n2,n3,n4,n5,i0,i1,i2,i3,i4,i5,i6,i7,Holds_nil,Holds_cons,h0,h1,h2,h8,h9,h24,h23,h25,hlv]),Upd.refl _ _⟩
    | true =>
     refine W.regO 19 rfl fun O DD hO hDD => ?_
     have hg3:(O[3]?).bind (·.dst)=some 36:=by rw [hO];rfl
     have hg8:(O[8]?).bind (·.dst)=some 41:=by rw [hO];rfl
     have hg12:(O[12]?).bind (·.dst)=some 45:=by rw [hO];rfl
     have hg15:(O[15]?).bind (·.dst)=some 48:=by rw [hO];rfl
     clear hO
     simp only [List.take_succ_cons,List.take_zero,List.cons_append,List.nil_append]
     simp (disch:=(first|omega|(simp only [qI,qJ,qK]<;>omega)|exact qL _)) only [go_sem,↓reduceIte,n0,reduceCtorEq,n1,n2,n3,n4,n5,i0,i1,i2,i3,i4,i5,i6,i7,h0,h1,h2,h8,h9,h24,h23,h25,hg3,hg8,hg12,hg15,hb46,hb6,htg,cellsAt_eight,cellsAt_five]
     refine (husual f (hfj ▸ hmem) y _ _ w6 hfc6 hc6 hsx).mono ?_
     rintro _ w7 ⟨rfl,hE7⟩
     cases hh:usualS du f y with
     | true =>
      have hlv:liveS du ver true f y=false:=by simp [liveS,hh,htg,htg']
      rw [hDD]
      clear hDD
      simp only [List.drop_succ_cons,List.drop_zero]
      simp (disch:=(first|omega|(simp only [qI,qJ,qK]<;>omega)|exact qL _)) only [go_sem,↓reduceIte,n0,reduceCtorEq,n1,n2,n3,n4,n5,i0,i1,i2,i3,i4,i5,i6,i7,h0,h1,h2,h8,h9,h24,h23,h25,hg3,hg8,hg12,hg15,hh,htg]
      exact ⟨(by simp (disch:=(first|omega|(simp only [qI,qJ,qK]<;>omega)|exact qL _)) only [go_sem,↓reduceIte,n0,reduceCtorEq,n1,n2,n3,n4,n5,i0,i1,i2,i3,i4,i5,i6,i7,Holds_nil,Holds_cons,h0,h1,h2,h8,h9,h24,h23,h25,hlv]),hE7⟩
     | false =>
      have hlv:liveS du ver true f y=true:=by simp [liveS,hh,htg,htg']
      rw [hDD]
      clear hDD
      simp only [List.drop_succ_cons,List.drop_zero]
      simp (disch:=(first|omega|(simp only [qI,qJ,qK]<;>omega)|exact qL _)) only [go_sem,↓reduceIte,n0,reduceCtorEq,n1,n2,n3,n4,n5,i0,i1,i2,i3,i4,i5,i6,i7,h0,h1,h2,h8,h9,h24,h23,h25,hg3,hg8,hg12,hg15,hh,htg]
      exact ⟨(by simp (disch:=(first|omega|(simp only [qI,qJ,qK]<;>omega)|exact qL _)) only [go_sem,↓reduceIte,n0,reduceCtorEq,n1,n2,n3,n4,n5,i0,i1,i2,i3,i4,i5,i6,i7,Holds_nil,Holds_cons,h0,h1,h2,h8,h9,h24,h23,h25,hlv]),hE7⟩
   clear h0 h1 h2 h8 h9 h24 h23 h25
   rintro ρ w7 ⟨⟨h0,h1,h2,h8,h9,h24,h23,h25,h11,h12,h13,h54,-⟩,hE7⟩
   try simp (disch:=(first|omega|(simp only [qI,qJ,qK]<;>omega)|exact qL _)) only [go_sem,↓reduceIte,n0,reduceCtorEq,n1,n2,n3,n4,n5,i0,i1,i2,i3,i4,i5,i6,i7]
   have hE37:=hE36.trans hE7
   have hE07:=hE03.trans hE37
   have hb47:=hE7.blk_some hb46 id
   have hb67:=hE7.blk_some hb6 id
   have hb27:=hE37.blk_some hb23 id
   have hx7':blk w7 b'=some x':=hE07.blk_some hx' id
   have hz7:=hE7.size
   have hEd:Ext w7 w7.drew:=(Upd.refl _ _).drew
   have hE0d:=hE07.trans hEd
   have hE2d:=(hE3.trans hE37).trans hEd
   cases hlv:liveS du ver flex f y with
   | true =>
    rw [if_pos hlv] at hdj
    repeat ((first|refine qA rfl ?_|apply qB|refine qC rfl ?_|apply qD|apply qE|apply qF|apply qG|apply qH);try simp (disch:=(first|omega|(simp only [qI,qJ,qK]<;>omega)|exact qL _)) only [go_sem,↓reduceIte,n0,reduceCtorEq,n1,n2,n3,n4,n5,i0,i1,i2,i3,i4,i5,i6,i7,h54,hlv])
    refine W.drawR (.take 0 (.take 1 (.take 2 (.take 3 (.take 4 (.take 5 (.take 6 (.take 7 (.take 8 (.only 9 (.take 10 .done))))))))))) NoB mixed (by kernel_rfl) ?_
    try simp (disch:=(first|omega|(simp only [qI,qJ,qK]<;>omega)|exact qL _)) only [go_sem,↓reduceIte,n0,reduceCtorEq,n1,n2,n3,n4,n5,i0,i1,i2,i3,i4,i5,i6,i7,h0,h1,h2,h8,h9,h24,h23,h25,h11,h12,h13,hb47,hb67,hb27,hx7',hxe',q1,q2,q3,cellsAt_five,cellsAt_eight,Int.toNat_natCast]
    refine (htold f (hfj ▸ hmem) y z _ _ _ w7.drew (FldC.of (hsub2.keep (Ext.keeps hE0d _))) (hc6.keep (Ext.keeps (hE7.trans hEd) _)) (hc'.keep (Ext.keeps hE0d _)) hsx hsg' hdj).mono ?_
    rintro _ w8 ⟨rfl,hE8⟩
    refine ⟨hE8,?_⟩
    try simp (disch:=(first|omega|(simp only [qI,qJ,qK]<;>omega)|exact qL _)) only [go_sem,↓reduceIte,n0,reduceCtorEq,n1,n2,n3,n4,n5,i0,i1,i2,i3,i4,i5,i6,i7]
    repeat ((first|refine qA rfl ?_|apply qB|refine qC rfl ?_|apply qD|apply qE|apply qF|apply qG|apply qH);try simp (disch:=(first|omega|(simp only [qI,qJ,qK]<;>omega)|exact qL _)) only [go_sem,↓reduceIte,n0,reduceCtorEq,n1,n2,n3,n4,n5,i0,i1,i2,i3,i4,i5,i6,i7,h25])
    refine ⟨⟨(by simp (disch:=(first|omega|(simp only [qI,qJ,qK]<;>omega)|exact qL _)) only [go_sem,↓reduceIte,n0,reduceCtorEq,n1,n2,n3,n4,n5,i0,i1,i2,i3,i4,i5,i6,i7,Holds_nil,Holds_cons,h0,h1,h2,h8,h9,h24,h23]),j+1,(by simp (disch:=(first|omega|(simp only [qI,qJ,qK]<;>omega)|exact qL _)) only [go_sem,↓reduceIte,n0,reduceCtorEq,n1,n2,n3,n4,n5,i0,i1,i2,i3,i4,i5,i6,i7,h25];all_goals rfl),by omega,hE2d.trans hE8⟩,?_⟩
    try simp (disch:=(first|omega|(simp only [qI,qJ,qK]<;>omega)|exact qL _)) only [go_sem,↓reduceIte,n0,reduceCtorEq,n1,n2,n3,n4,n5,i0,i1,i2,i3,i4,i5,i6,i7,h25]
    simp only [RowKit.intOf]
    omega
   | false =>
    rw [if_neg (by rw [hlv];decide)] at hdj
    repeat ((first|refine qA rfl ?_|apply qB|refine qC rfl ?_|apply qD|apply qE|apply qF|apply qG|apply qH);try simp (disch:=(first|omega|(simp only [qI,qJ,qK]<;>omega)|exact qL _)) only [go_sem,↓reduceIte,n0,reduceCtorEq,n1,n2,n3,n4,n5,i0,i1,i2,i3,i4,i5,i6,i7,h54,hlv])
    refine W.drawR (.take 0 (.take 2 (.take 3 (.take 4 (.take 5 (.take 6 (.two 1 (.only 7 (.only 8 (.only 9 (.take 10 .done)))) 7 (.two 1 (.only 8 (.only 9 (.take 10 .done))) 8 (.only 1 (.only 9 (.take 10 .done))))))))))) NoB mixed (by kernel_rfl) ?_
    try simp (disch:=(first|omega|(simp only [qI,qJ,qK]<;>omega)|exact qL _)) only [go_sem,↓reduceIte,n0,reduceCtorEq,n1,n2,n3,n4,n5,i0,i1,i2,i3,i4,i5,i6,i7,h0,h1,h2,h8,h9,h24,h23,h25,h11,h12,h13,hb47,hb27,hx7',hxe',hfl2,q1,q2,q3,cellsAt_five,cellsAt_eight,Int.toNat_natCast]
    have hsub7:=hsub2.keep (Ext.keeps hE0d _)
    have hc7:=hc'.keep (Ext.keeps hE0d _)
    have hgx:FldC AnyB w7.drew f _:=FldC.of hsub7
    refine ⟨?_,?_⟩
    ·skip
     try simp (disch:=(first|omega|(simp only [qI,qJ,qK]<;>omega)|exact qL _)) only [go_sem,↓reduceIte,n0,reduceCtorEq,n1,n2,n3,n4,n5,i0,i1,i2,i3,i4,i5,i6,i7,hfl2,q1,q2,q3]
     refine ⟨Upd.alloc (Upd.refl _ _) _,?_⟩
     try simp (disch:=(first|omega|(simp only [qI,qJ,qK]<;>omega)|exact qL _)) only [go_sem,↓reduceIte,n0,reduceCtorEq,n1,n2,n3,n4,n5,i0,i1,i2,i3,i4,i5,i6,i7,hfl2,q1,q2,q3]
     refine ⟨Upd.alloc (Upd.alloc (Upd.refl _ _) _) _,?_⟩
     try simp (disch:=(first|omega|(simp only [qI,qJ,qK]<;>omega)|exact qL _)) only [go_sem,↓reduceIte,n0,reduceCtorEq,n1,n2,n3,n4,n5,i0,i1,i2,i3,i4,i5,i6,i7,hfl2,q1,q2,q3]
     refine ⟨Upd.alloc (Upd.alloc (Upd.refl _ _) _) _,?_⟩
     try simp (disch:=(first|omega|(simp only [qI,qJ,qK]<;>omega)|exact qL _)) only [go_sem,↓reduceIte,n0,reduceCtorEq,n1,n2,n3,n4,n5,i0,i1,i2,i3,i4,i5,i6,i7]
     try simp only [List.cons_append,List.nil_append,List.append_nil]
     have hEt:Ext w7.drew (((w7.alloc (.cells #[.int .i64 f.kind,.int .i64 f.fr,.int .i64 f.to,.int .i64 f.null,.int .i64 f.tag,.int .i64 f.df,.int .i64 f.of,vs2] 51)).alloc (.cells #[.int .i64 z.n,uS',.bool z.null,uL',uU'] 26)).drew):=Upd.alloc (Upd.alloc (Upd.refl _ w7.drew) _) _
     have hbF:blk (((w7.alloc (.cells #[.int .i64 f.kind,.int .i64 f.fr,.int .i64 f.to,.int .i64 f.null,.int .i64 f.tag,.int .i64 f.df,.int .i64 f.of,vs2] 51)).alloc (.cells #[.int .i64 z.n,uS',.bool z.null,uL',uU'] 26)).drew) (w7.heap.size)=some (#[.int .i64 f.kind,.int .i64 f.fr,.int .i64 f.to,.int .i64 f.null,.int .i64 f.tag,.int .i64 f.df,.int .i64 f.of,vs2],51,(0,0)):=by simp (disch:=(first|omega|(simp only [qI,qJ,qK]<;>omega)|exact qL _)) only [go_sem,↓reduceIte,n0,reduceCtorEq,n1,n2,n3,n4,n5,i0,i1,i2,i3,i4,i5,i6,i7]
     have hbX:blk (((w7.alloc (.cells #[.int .i64 f.kind,.int .i64 f.fr,.int .i64 f.to,.int .i64 f.null,.int .i64 f.tag,.int .i64 f.df,.int .i64 f.of,vs2] 51)).alloc (.cells #[.int .i64 z.n,uS',.bool z.null,uL',uU'] 26)).drew) (w7.heap.size+1)=some (#[.int .i64 z.n,uS',.bool z.null,uL',uU'],26,(0,0)):=by simp (disch:=(first|omega|(simp only [qI,qJ,qK]<;>omega)|exact qL _)) only [go_sem,↓reduceIte,n0,reduceCtorEq,n1,n2,n3,n4,n5,i0,i1,i2,i3,i4,i5,i6,i7]
     generalize (((w7.alloc (.cells #[.int .i64 f.kind,.int .i64 f.fr,.int .i64 f.to,.int .i64 f.null,.int .i64 f.tag,.int .i64 f.df,.int .i64 f.of,vs2] 51)).alloc (.cells #[.int .i64 z.n,uS',.bool z.null,uL',uU'] 26)).drew)=w8 at *
     have hv8:FldsV AnyB w8 _ [f]:=FldsV.one hbF (hsub7.keep (Ext.keeps hEt _))
     have hl8:TreesV AnyB w8 _ [z]:=TreesV.one hbX (hc7.keep (Ext.keeps hEt _))
     refine (hUsual f (hfj ▸ hmem) z _ _ w8 hv8 (TreeC.intro rfl (BytesV.nil _ _) hl8 (tagsN _ _)) hsg' hdj).mono ?_
     rintro _ w9 ⟨rfl,hE9⟩
     refine ⟨hEt.trans hE9,?_⟩
     try simp (disch:=(first|omega|(simp only [qI,qJ,qK]<;>omega)|exact qL _)) only [go_sem,↓reduceIte,n0,reduceCtorEq,n1,n2,n3,n4,n5,i0,i1,i2,i3,i4,i5,i6,i7]
     repeat ((first|refine qA rfl ?_|apply qB|refine qC rfl ?_|apply qD|apply qE|apply qF|apply qG|apply qH);try simp (disch:=(first|omega|(simp only [qI,qJ,qK]<;>omega)|exact qL _)) only [go_sem,↓reduceIte,n0,reduceCtorEq,n1,n2,n3,n4,n5,i0,i1,i2,i3,i4,i5,i6,i7,h25])
     refine ⟨⟨(by simp (disch:=(first|omega|(simp only [qI,qJ,qK]<;>omega)|exact qL _)) only [go_sem,↓reduceIte,n0,reduceCtorEq,n1,n2,n3,n4,n5,i0,i1,i2,i3,i4,i5,i6,i7,Holds_nil,Holds_cons,h0,h1,h2,h8,h9,h24,h23]),j+1,(by simp (disch:=(first|omega|(simp only [qI,qJ,qK]<;>omega)|exact qL _)) only [go_sem,↓reduceIte,n0,reduceCtorEq,n1,n2,n3,n4,n5,i0,i1,i2,i3,i4,i5,i6,i7,h25];all_goals rfl),by omega,hE2d.trans (hEt.trans hE9)⟩,?_⟩
     try simp (disch:=(first|omega|(simp only [qI,qJ,qK]<;>omega)|exact qL _)) only [go_sem,↓reduceIte,n0,reduceCtorEq,n1,n2,n3,n4,n5,i0,i1,i2,i3,i4,i5,i6,i7,h25]
     simp only [RowKit.intOf]
     omega
    try simp (disch:=(first|omega|(simp only [qI,qJ,qK]<;>omega)|exact qL _)) only [go_sem,↓reduceIte,n0,reduceCtorEq,n1,n2,n3,n4,n5,i0,i1,i2,i3,i4,i5,i6,i7,hfl2,q1,q2,q3]
    refine ⟨Upd.alloc (Upd.refl _ _) _,?_⟩
    try simp (disch:=(first|omega|(simp only [qI,qJ,qK]<;>omega)|exact qL _)) only [go_sem,↓reduceIte,n0,reduceCtorEq,n1,n2,n3,n4,n5,i0,i1,i2,i3,i4,i5,i6,i7,hfl2,q1,q2,q3]
    refine ⟨?_,?_⟩
    ·skip
     try simp (disch:=(first|omega|(simp only [qI,qJ,qK]<;>omega)|exact qL _)) only [go_sem,↓reduceIte,n0,reduceCtorEq,n1,n2,n3,n4,n5,i0,i1,i2,i3,i4,i5,i6,i7,hfl2,q1,q2,q3]
     refine ⟨Upd.alloc (Upd.alloc (Upd.refl _ _) _) _,?_⟩
     try simp (disch:=(first|omega|(simp only [qI,qJ,qK]<;>omega)|exact qL _)) only [go_sem,↓reduceIte,n0,reduceCtorEq,n1,n2,n3,n4,n5,i0,i1,i2,i3,i4,i5,i6,i7,hfl2,q1,q2,q3]
     refine ⟨Upd.alloc (Upd.alloc (Upd.refl _ _) _) _,?_⟩
     try simp (disch:=(first|omega|(simp only [qI,qJ,qK]<;>omega)|exact qL _)) only [go_sem,↓reduceIte,n0,reduceCtorEq,n1,n2,n3,n4,n5,i0,i1,i2,i3,i4,i5,i6,i7]
     try simp only [List.cons_append,List.nil_append,List.append_nil]
     have hEt:Ext w7.drew (((w7.alloc (.cells #[.int .i64 z.n,uS',.bool z.null,uL',uU'] 26)).alloc (.cells #[.int .i64 f.kind,.int .i64 f.fr,.int .i64 f.to,.int .i64 f.null,.int .i64 f.tag,.int .i64 f.df,.int .i64 f.of,vs2] 51)).drew):=Upd.alloc (Upd.alloc (Upd.refl _ w7.drew) _) _
     have hbF:blk (((w7.alloc (.cells #[.int .i64 z.n,uS',.bool z.null,uL',uU'] 26)).alloc (.cells #[.int .i64 f.kind,.int .i64 f.fr,.int .i64 f.to,.int .i64 f.null,.int .i64 f.tag,.int .i64 f.df,.int .i64 f.of,vs2] 51)).drew) (w7.heap.size+1)=some (#[.int .i64 f.kind,.int .i64 f.fr,.int .i64 f.to,.int .i64 f.null,.int .i64 f.tag,.int .i64 f.df,.int .i64 f.of,vs2],51,(0,0)):=by simp (disch:=(first|omega|(simp only [qI,qJ,qK]<;>omega)|exact qL _)) only [go_sem,↓reduceIte,n0,reduceCtorEq,n1,n2,n3,n4,n5,i0,i1,i2,i3,i4,i5,i6,i7]
     have hbX:blk (((w7.alloc (.cells #[.int .i64 z.n,uS',.bool z.null,uL',uU'] 26)).alloc (.cells #[.int .i64 f.kind,.int .i64 f.fr,.int .i64 f.to,.int .i64 f.null,.int .i64 f.tag,.int .i64 f.df,.int .i64 f.of,vs2] 51)).drew) (w7.heap.size)=some (#[.int .i64 z.n,uS',.bool z.null,uL',uU'],26,(0,0)):=by simp (disch:=(first|omega|(simp only [qI,qJ,qK]<;>omega)|exact qL _)) only [go_sem,↓reduceIte,n0,reduceCtorEq,n1,n2,n3,n4,n5,i0,i1,i2,i3,i4,i5,i6,i7]
     generalize (((w7.alloc (.cells #[.int .i64 z.n,uS',.bool z.null,uL',uU'] 26)).alloc (.cells #[.int .i64 f.kind,.int .i64 f.fr,.int .i64 f.to,.int .i64 f.null,.int .i64 f.tag,.int .i64 f.df,.int .i64 f.of,vs2] 51)).drew)=w8 at *
     have hv8:FldsV AnyB w8 _ [f]:=FldsV.one hbF (hsub7.keep (Ext.keeps hEt _))
     have hl8:TreesV AnyB w8 _ [z]:=TreesV.one hbX (hc7.keep (Ext.keeps hEt _))
     refine (hUsual f (hfj ▸ hmem) z _ _ w8 hv8 (TreeC.intro rfl (BytesV.nil _ _) hl8 (tagsN _ _)) hsg' hdj).mono ?_
     rintro _ w9 ⟨rfl,hE9⟩
     refine ⟨hEt.trans hE9,?_⟩
     try simp (disch:=(first|omega|(simp only [qI,qJ,qK]<;>omega)|exact qL _)) only [go_sem,↓reduceIte,n0,reduceCtorEq,n1,n2,n3,n4,n5,i0,i1,i2,i3,i4,i5,i6,i7]
     repeat ((first|refine qA rfl ?_|apply qB|refine qC rfl ?_|apply qD|apply qE|apply qF|apply qG|apply qH);try simp (disch:=(first|omega|(simp only [qI,qJ,qK]<;>omega)|exact qL _)) only [go_sem,↓reduceIte,n0,reduceCtorEq,n1,n2,n3,n4,n5,i0,i1,i2,i3,i4,i5,i6,i7,h25])
     refine ⟨⟨(by simp (disch:=(first|omega|(simp only [qI,qJ,qK]<;>omega)|exact qL _)) only [go_sem,↓reduceIte,n0,reduceCtorEq,n1,n2,n3,n4,n5,i0,i1,i2,i3,i4,i5,i6,i7,Holds_nil,Holds_cons,h0,h1,h2,h8,h9,h24,h23]),j+1,(by simp (disch:=(first|omega|(simp only [qI,qJ,qK]<;>omega)|exact qL _)) only [go_sem,↓reduceIte,n0,reduceCtorEq,n1,n2,n3,n4,n5,i0,i1,i2,i3,i4,i5,i6,i7,h25];all_goals rfl),by omega,hE2d.trans (hEt.trans hE9)⟩,?_⟩
     try simp (disch:=(first|omega|(simp only [qI,qJ,qK]<;>omega)|exact qL _)) only [go_sem,↓reduceIte,n0,reduceCtorEq,n1,n2,n3,n4,n5,i0,i1,i2,i3,i4,i5,i6,i7,h25]
     simp only [RowKit.intOf]
     omega
    try simp (disch:=(first|omega|(simp only [qI,qJ,qK]<;>omega)|exact qL _)) only [go_sem,↓reduceIte,n0,reduceCtorEq,n1,n2,n3,n4,n5,i0,i1,i2,i3,i4,i5,i6,i7,hfl2,q1,q2,q3]
    refine ⟨Upd.alloc (Upd.refl _ _) _,?_⟩
    try simp (disch:=(first|omega|(simp only [qI,qJ,qK]<;>omega)|exact qL _)) only [go_sem,↓reduceIte,n0,reduceCtorEq,n1,n2,n3,n4,n5,i0,i1,i2,i3,i4,i5,i6,i7,hfl2,q1,q2,q3]
    refine ⟨Upd.alloc (Upd.alloc (Upd.refl _ _) _) _,?_⟩
    try simp (disch:=(first|omega|(simp only [qI,qJ,qK]<;>omega)|exact qL _)) only [go_sem,↓reduceIte,n0,reduceCtorEq,n1,n2,n3,n4,n5,i0,i1,i2,i3,i4,i5,i6,i7]
    try simp only [List.cons_append,List.nil_append,List.append_nil]
    have hEt:Ext w7.drew (((w7.alloc (.cells #[.int .i64 z.n,uS',.bool z.null,uL',uU'] 26)).alloc (.cells #[.int .i64 f.kind,.int .i64 f.fr,.int .i64 f.to,.int .i64 f.null,.int .i64 f.tag,.int .i64 f.df,.int .i64 f.of,vs2] 51)).drew):=Upd.alloc (Upd.alloc (Upd.refl _ w7.drew) _) _
    have hbF:blk (((w7.alloc (.cells #[.int .i64 z.n,uS',.bool z.null,uL',uU'] 26)).alloc (.cells #[.int .i64 f.kind,.int .i64 f.fr,.int .i64 f.to,.int .i64 f.null,.int .i64 f.tag,.int .i64 f.df,.int .i64 f.of,vs2] 51)).drew) (w7.heap.size+1)=some (#[.int .i64 f.kind,.int .i64 f.fr,.int .i64 f.to,.int .i64 f.null,.int .i64 f.tag,.int .i64 f.df,.int .i64 f.of,vs2],51,(0,0)):=by simp (disch:=(first|omega|(simp only [qI,qJ,qK]<;>omega)|exact qL _)) only [go_sem,↓reduceIte,n0,reduceCtorEq,n1,n2,n3,n4,n5,i0,i1,i2,i3,i4,i5,i6,i7]
    have hbX:blk (((w7.alloc (.cells #[.int .i64 z.n,uS',.bool z.null,uL',uU'] 26)).alloc (.cells #[.int .i64 f.kind,.int .i64 f.fr,.int .i64 f.to,.int .i64 f.null,.int .i64 f.tag,.int .i64 f.df,.int .i64 f.of,vs2] 51)).drew) (w7.heap.size)=some (#[.int .i64 z.n,uS',.bool z.null,uL',uU'],26,(0,0)):=by simp (disch:=(first|omega|(simp only [qI,qJ,qK]<;>omega)|exact qL _)) only [go_sem,↓reduceIte,n0,reduceCtorEq,n1,n2,n3,n4,n5,i0,i1,i2,i3,i4,i5,i6,i7]
    generalize (((w7.alloc (.cells #[.int .i64 z.n,uS',.bool z.null,uL',uU'] 26)).alloc (.cells #[.int .i64 f.kind,.int .i64 f.fr,.int .i64 f.to,.int .i64 f.null,.int .i64 f.tag,.int .i64 f.df,.int .i64 f.of,vs2] 51)).drew)=w8 at *
    have hv8:FldsV AnyB w8 _ [f]:=FldsV.one hbF (hsub7.keep (Ext.keeps hEt _))
    have hl8:TreesV AnyB w8 _ [z]:=TreesV.one hbX (hc7.keep (Ext.keeps hEt _))
    refine (hUsual f (hfj ▸ hmem) z _ _ w8 hv8 (TreeC.intro rfl (BytesV.nil _ _) hl8 (tagsN _ _)) hsg' hdj).mono ?_
    rintro _ w9 ⟨rfl,hE9⟩
    refine ⟨hEt.trans hE9,?_⟩
    try simp (disch:=(first|omega|(simp only [qI,qJ,qK]<;>omega)|exact qL _)) only [go_sem,↓reduceIte,n0,reduceCtorEq,n1,n2,n3,n4,n5,i0,i1,i2,i3,i4,i5,i6,i7]
    repeat ((first|refine qA rfl ?_|apply qB|refine qC rfl ?_|apply qD|apply qE|apply qF|apply qG|apply qH);try simp (disch:=(first|omega|(simp only [qI,qJ,qK]<;>omega)|exact qL _)) only [go_sem,↓reduceIte,n0,reduceCtorEq,n1,n2,n3,n4,n5,i0,i1,i2,i3,i4,i5,i6,i7,h25])
    refine ⟨⟨(by simp (disch:=(first|omega|(simp only [qI,qJ,qK]<;>omega)|exact qL _)) only [go_sem,↓reduceIte,n0,reduceCtorEq,n1,n2,n3,n4,n5,i0,i1,i2,i3,i4,i5,i6,i7,Holds_nil,Holds_cons,h0,h1,h2,h8,h9,h24,h23]),j+1,(by simp (disch:=(first|omega|(simp only [qI,qJ,qK]<;>omega)|exact qL _)) only [go_sem,↓reduceIte,n0,reduceCtorEq,n1,n2,n3,n4,n5,i0,i1,i2,i3,i4,i5,i6,i7,h25];all_goals rfl),by omega,hE2d.trans (hEt.trans hE9)⟩,?_⟩
    try simp (disch:=(first|omega|(simp only [qI,qJ,qK]<;>omega)|exact qL _)) only [go_sem,↓reduceIte,n0,reduceCtorEq,n1,n2,n3,n4,n5,i0,i1,i2,i3,i4,i5,i6,i7,h25]
    simp only [RowKit.intOf]
    omega
  repeat ((first|refine qA rfl ?_|apply qB|refine qC rfl ?_|apply qD|apply qE|apply qF|apply qG|apply qH);try simp (disch:=(first|omega|(simp only [qI,qJ,qK]<;>omega)|exact qL _)) only [go_sem,↓reduceIte,n0,reduceCtorEq,n1,n2,n3,n4,n5,i0,i1,i2,i3,i4,i5,i6,i7,h25,h24])
  exact ⟨(by simp (disch:=(first|omega|(simp only [qI,qJ,qK]<;>omega)|exact qL _)) only [go_sem,↓reduceIte,n0,reduceCtorEq,n1,n2,n3,n4,n5,i0,i1,i2,i3,i4,i5,i6,i7,Holds_nil,Holds_cons,h0,h1,h2,h8,h9]),hE3⟩
 rintro ρ w3 ⟨⟨h0,h1,h2,h8,h9,-⟩,hE3⟩
 try simp (disch:=(first|omega|(simp only [qI,qJ,qK]<;>omega)|exact qL _)) only [go_sem,↓reduceIte,n0,reduceCtorEq,n1,n2,n3,n4,n5,i0,i1,i2,i3,i4,i5,i6,i7]
 have hE03:=hE.trans hE3
 have hb13:=hE3.blk_some hb1 id
 have hb23:=hE3.blk_some hb2 id
 have hz3:=hE3.size
 repeat ((first|refine qA rfl ?_|apply qB|refine qC rfl ?_|apply qD|apply qE|apply qF|apply qG|apply qH);try simp (disch:=(first|omega|(simp only [qI,qJ,qK]<;>omega)|exact qL _)) only [go_sem,↓reduceIte,n0,reduceCtorEq,n1,n2,n3,n4,n5,i0,i1,i2,i3,i4,i5,i6,i7,h0,h8,hb13])
 refine (unknown_fn (ok:=AnyB) fs _ t.u _ w3 (hf.keep (Ext.keeps hE03 _)) hfl htag (hU.keep (Ext.keeps hE03 _))).mono ?_
 rintro r4 w4 ⟨⟨css,hown,hall⟩,hE4⟩
 have hE04:=hE03.trans hE4
 have hTg:=hown.tags (ha:=hall.imp fun _ _ h=>h.keep (Ext.keeps hE4 _))
 obtain ⟨ba,ca,rfl,hca⟩:=SlR.shape hTg
 have hul:=unknownS_len fs t.u
 have hb24:=hE4.blk_some hb23 id
 have hz4:=hE4.size
 cases flex with
 | false =>
  have hu0:((g.u.length:Nat):Int)=0:=by rw [hgu];rfl
  try simp (disch:=(first|omega|(simp only [qI,qJ,qK]<;>omega)|exact qL _)) only [go_sem,↓reduceIte,n0,reduceCtorEq,n1,n2,n3,n4,n5,i0,i1,i2,i3,i4,i5,i6,i7]
  repeat ((first|refine qA rfl ?_|apply qB|refine qC rfl ?_|apply qD|apply qE|apply qF|apply qG|apply qH);try simp (disch:=(first|omega|(simp only [qI,qJ,qK]<;>omega)|exact qL _)) only [go_sem,↓reduceIte,n0,reduceCtorEq,n1,n2,n3,n4,n5,i0,i1,i2,i3,i4,i5,i6,i7,h2,h9,hb24,hu0])
  refine W.loop (fun ρ w'=>ρ 92 = .int .i64 0∧ρ 91 = .int .i64 0∧w'=w4) (fun _ _=>0) ?_ ?_
  ·refine ⟨?_,?_,rfl⟩<;>(try simp (disch:=(first|omega|(simp only [qI,qJ,qK]<;>omega)|exact qL _)) only [go_sem,↓reduceIte,n0,reduceCtorEq,n1,n2,n3,n4,n5,i0,i1,i2,i3,i4,i5,i6,i7])<;>(try rfl)
  ·rintro ρ w5 ⟨h92,h91,rfl⟩
   repeat ((first|refine qA rfl ?_|apply qB|refine qC rfl ?_|apply qD|apply qE|apply qF|apply qG|apply qH);try simp (disch:=(first|omega|(simp only [qI,qJ,qK]<;>omega)|exact qL _)) only [go_sem,↓reduceIte,n0,reduceCtorEq,n1,n2,n3,n4,n5,i0,i1,i2,i3,i4,i5,i6,i7,h92,h91])
   all_goals exact hE04
 | true =>
  rw [if_pos rfl] at hgu
  have hu0:((g.u.length:Nat):Int)=((unknownS fs t.u).length:Nat):=by rw [hgu,List.length_map]
  try simp (disch:=(first|omega|(simp only [qI,qJ,qK]<;>omega)|exact qL _)) only [go_sem,↓reduceIte,n0,reduceCtorEq,n1,n2,n3,n4,n5,i0,i1,i2,i3,i4,i5,i6,i7]
  repeat ((first|refine qA rfl ?_|apply qB|refine qC rfl ?_|apply qD|apply qE|apply qF|apply qG|apply qH);try simp (disch:=(first|omega|(simp only [qI,qJ,qK]<;>omega)|exact qL _)) only [go_sem,↓reduceIte,n0,reduceCtorEq,n1,n2,n3,n4,n5,i0,i1,i2,i3,i4,i5,i6,i7,h2,h9,hb24,hu0,beq_self_eq_true,bne_self_eq_false,ne_eq,not_true_eq_false,not_false_eq_true])
  generalize hU0:unknownS fs t.u=U at *
  refine W.loop (LoopL [(91,.int .i64 U.length),(90,.slice ba U.length ca),(9,.pointer (some ⟨w.heap.size+1,0,none⟩))] 92 (fun j w'=>j≤U.length∧Ext w4 w')) (fun ρ _=>U.length - (RowKit.intOf (ρ 92)).toNat) ?_ ?_
  ·exact ⟨(by simp (disch:=(first|omega|(simp only [qI,qJ,qK]<;>omega)|exact qL _)) only [go_sem,↓reduceIte,n0,reduceCtorEq,n1,n2,n3,n4,n5,i0,i1,i2,i3,i4,i5,i6,i7,Holds_nil,Holds_cons,h9]),0,(by simp (disch:=(first|omega|(simp only [qI,qJ,qK]<;>omega)|exact qL _)) only [go_sem,↓reduceIte,n0,reduceCtorEq,n1,n2,n3,n4,n5,i0,i1,i2,i3,i4,i5,i6,i7];all_goals rfl),Nat.zero_le _,Upd.refl _ _⟩
  clear h0 h1 h2 h8 h9
  rintro ρ w5 ⟨⟨h91,h90,h9,-⟩,j,h92,hj,hE5⟩
  have hz5:=hE5.size
  have hE05:=hE04.trans hE5
  by_cases hlt:j < U.length
  ·skip
   have hgj:j < g.u.length:=by rw [hgu,List.length_map];exact hlt
   have hel:g.u[j] = (U[j].1,wholeS U[j].2):=by simp only [hgu,List.getElem_map]
   obtain ⟨_,b,o,x,vv,hb,hokb,hx,hblt,hxs,hxe,p0,p1,hfv,hvv,h32⟩:=TagsV.get hTg hlt
   subst hb
   obtain ⟨_,b',o',x',vv',hb',hokb',hx',hblt',hxs',hxe',r0,r1,hfv',hvv',h32'⟩:=TagsV.get hgU hgj
   subst hb'
   rw [hel] at r0 hvv'
   simp only at r0 hvv'
   have hx5:blk w5 b=some x:=hE5.blk_some hx id
   have hx5':blk w5 b'=some x':=hE05.blk_some hx' id
   have hb25:=hE5.blk_some hb24 id
   generalize U[j] = y at *
   have hE6:Ext w5 (wr (w5.alloc (.cells #[.int .u32 0,.slice none 0 0] 66)) w5.heap.size 0 [.int .u32 y.1,vv]):=(Upd.alloc (Upd.refl _ _) _).wr _ _ (.inl (Nat.le_refl _))
   have hb6:blk (wr (w5.alloc (.cells #[.int .u32 0,.slice none 0 0] 66)) w5.heap.size 0 [.int .u32 y.1,vv]) w5.heap.size=some (#[.int .u32 y.1,vv],66,(0,0)):=by rw [blk_wr_eq,blk_alloc_new rfl];rfl
   have hb26:=hE6.blk_some hb25 id
   have hx6':=hE6.blk_some hx5' id
   have hz6:(wr (w5.alloc (.cells #[.int .u32 0,.slice none 0 0] 66)) w5.heap.size 0 [.int .u32 y.1,vv]).heap.size=w5.heap.size+1:=by simp only [size_wr,World.size_alloc]
   repeat ((first|refine qA rfl ?_|apply qB|refine qC rfl ?_|apply qD|apply qE|apply qF|apply qG|apply qH);try simp (disch:=(first|omega|(simp only [qI,qJ,qK]<;>omega)|exact qL _)) only [go_sem,↓reduceIte,n0,reduceCtorEq,n1,n2,n3,n4,n5,i0,i1,i2,i3,i4,i5,i6,i7,h92,h91,h90,hx5,hxe,hfv,cellsAt_two,Int.toNat_natCast])
   generalize (wr (w5.alloc (.cells #[.int .u32 0,.slice none 0 0] 66)) w5.heap.size 0 [.int .u32 y.1,vv])=w6 at *
   refine W.drawO (.take 0 (.take 1 (.take 2 (.take 3 (.take 4 (.take 5 (.take 6 (.take 7 (.take 8 (.take 9 (.take 10 (.take 11 (.take 12 (.take 13 (.take 14 (.take 15 (.take 16 (.take 17 (.only 18 (.only 19 (.take 20 (.take 21 .done)))))))))))))))))))))) 10 NoB mixed (by kernel_rfl) fun DD hDD => ?_
   simp only [Plan.pre]
   simp (disch:=(first|omega|(simp only [qI,qJ,qK]<;>omega)|exact qL _)) only [go_sem,↓reduceIte,n0,reduceCtorEq,n1,n2,n3,n4,n5,i0,i1,i2,i3,i4,i5,i6,i7,h9,hb6,hb26,hx6',r0,r1,Int.toNat_natCast,beq_self_eq_true,bne_self_eq_false,ne_eq,not_true_eq_false,not_false_eq_true]
   rw [hDD]
   clear hDD
   simp only [Plan.drop]
   simp (disch:=(first|omega|(simp only [qI,qJ,qK]<;>omega)|exact qL _)) only [go_sem,↓reduceIte,n0,reduceCtorEq,n1,n2,n3,n4,n5,i0,i1,i2,i3,i4,i5,i6,i7,h9,hb6,hb26,hx6',r0,r1,Int.toNat_natCast,beq_self_eq_true,bne_self_eq_false,ne_eq,not_true_eq_false,not_false_eq_true]
   have hEd:Ext w6 w6.drew:=(Upd.refl _ _).drew
   have hE4d:=(hE5.trans hE6).trans hEd
   have hE0d:=hE04.trans hE4d
   generalize w6.drew=w7 at *
   refine (whole_fn (ok:=AnyB) y.2 _ w7 (hvv.keep (Ext.keeps hE4d _))).mono ?_
   rintro r8 w8 ⟨hr8,hw8⟩
   obtain rfl:=hw8.symm
   refine ⟨Upd.refl _ _,?_⟩
   try simp (disch:=(first|omega|(simp only [qI,qJ,qK]<;>omega)|exact qL _)) only [go_sem,↓reduceIte,n0,reduceCtorEq,n1,n2,n3,n4,n5,i0,i1,i2,i3,i4,i5,i6,i7]
   have hwl:(wholeS y.2).length≤32767:=by simp only [wholeS,List.length_take];omega
   refine (Same_fn (ok:=AnyB) (wholeS y.2) (wholeS y.2) _ _ w7 (hvv'.keep (Ext.keeps hE0d _)) hr8 (by omega)).mono ?_
   rintro _ w9 ⟨rfl,hE9⟩
   have hsame:decide (wholeS y.2=wholeS y.2)=true:=decide_eq_true rfl
   refine ⟨hE9,?_⟩
   try simp (disch:=(first|omega|(simp only [qI,qJ,qK]<;>omega)|exact qL _)) only [go_sem,↓reduceIte,n0,reduceCtorEq,n1,n2,n3,n4,n5,i0,i1,i2,i3,i4,i5,i6,i7,hsame]
   repeat ((first|refine qA rfl ?_|apply qB|refine qC rfl ?_|apply qD|apply qE|apply qF|apply qG|apply qH);try simp (disch:=(first|omega|(simp only [qI,qJ,qK]<;>omega)|exact qL _)) only [go_sem,↓reduceIte,n0,reduceCtorEq,n1,n2,n3,n4,n5,i0,i1,i2,i3,i4,i5,i6,i7,hsame,h92])
   refine ⟨⟨(by simp (disch:=(first|omega|(simp only [qI,qJ,qK]<;>omega)|exact qL _)) only [go_sem,↓reduceIte,n0,reduceCtorEq,n1,n2,n3,n4,n5,i0,i1,i2,i3,i4,i5,i6,i7,Holds_nil,Holds_cons,h91,h90,h9]),j+1,(by simp (disch:=(first|omega|(simp only [qI,qJ,qK]<;>omega)|exact qL _)) only [go_sem,↓reduceIte,n0,reduceCtorEq,n1,n2,n3,n4,n5,i0,i1,i2,i3,i4,i5,i6,i7,h92];all_goals rfl),by omega,hE4d.trans hE9⟩,?_⟩
   try simp (disch:=(first|omega|(simp only [qI,qJ,qK]<;>omega)|exact qL _)) only [go_sem,↓reduceIte,n0,reduceCtorEq,n1,n2,n3,n4,n5,i0,i1,i2,i3,i4,i5,i6,i7,h92]
   simp only [RowKit.intOf]
   omega
  repeat ((first|refine qA rfl ?_|apply qB|refine qC rfl ?_|apply qD|apply qE|apply qF|apply qG|apply qH);try simp (disch:=(first|omega|(simp only [qI,qJ,qK]<;>omega)|exact qL _)) only [go_sem,↓reduceIte,n0,reduceCtorEq,n1,n2,n3,n4,n5,i0,i1,i2,i3,i4,i5,i6,i7,h92,h91])
  all_goals exact hE05

theorem Told_fn (ver:Int) (flex:Bool):∀ (d:Nat) (fs:List Fld) (t g:Tree) (vf:Value) (ct cg:List Value) (w:World),FldsV AnyB w vf fs→okF d fs=true→TreeC AnyB w t ct→TreeC AnyB w g cg→Small 4611686018427387903 t→Small 4611686018427387903 g→ToldP (d+1) ver flex fs t g →
  Fn Tryz.prog 10 #[vf,.int .i64 ver,.bool flex,.agg ct.toArray,.agg cg.toArray] w fun r w'=>r = .bool true∧Ext w w':=by
 intro d
 induction d with
 | zero =>
  intro fs t g vf ct cg w hf hok ht hg hsm hsg hd
  have hnil:fs=[]:=by simpa [okF] using hok
  subst hnil
  exact Told_step (T:=fun _ _ _=>True) (D:=fun _ _=>True) (du:=1) [] ver flex t g vf ct cg w hf (by simp) (fun _ h=>by cases h) ht hg hsm hsg (fun _ h=>by cases h) (fun _ h=>by cases h) (fun _ h=>by cases h) hd.1 hd.2.1 (fun _ h=>by cases h)
 | succ d ih =>
  intro fs t g vf ct cg w hf hok ht hg hsm hsg hd
  refine Told_step (T:=ToldP (d+1) ver flex) (D:=DfP (d+1)) (du:=d+2) fs ver flex t g vf ct cg w hf (okF_len hok) (okF_tag hok) ht hg hsm hsg (fun f hm x y cf cx cy w' h1 h2 h3 h4 h5 h6 => ?_) (fun f hm x cf cx w' h1 h2 h3 => ?_) (fun f hm y vs cy w' h1 h2 h3 h4 => ?_) hd.1 hd.2.1 hd.2.2
  ·obtain ⟨e,he,hB,hok'⟩:=okF_el hok hm
   cases he
   exact told_fn f ver flex x y cf cx cy w' h1 hB h2 h3 h4 h5 (fun x' y' vs cx' cy' w'' k1 k2 k3 k4 k5 k6=>ih f.sub x' y' vs cx' cy' w'' k1 hok' k2 k3 k4 k5 k6) h6
  ·obtain ⟨e,he,hB,hok'⟩:=okF_el hok hm
   cases he
   exact usual_fn (d+1) f x cf cx w' h1 h2 (okF_mono d _ hok') hB h3
  ·exact Usual_fn (d+1) [f] _ vs cy w' h1 (okF_one hok hm) h2 (.mk (by simp) (by simp) (by simp) (fun i h=>by have h0:i=0:=(by simpa using h);subst h0;exact h3) (fun x h=>by cases h)) ⟨rfl,fun i h=>by have h0:i=0:=(by simpa using h);subst h0;exact h4⟩


set_option maxHeartbeats 24000000
open Go Go.Proofs Go.Shelf
attribute [local congr] W_congr WPsq_congr WPp_congr optK_congr addrK_congr intK_congr boolK_congr sliceK_congr tupleK_congr funcK_congr Fn_congr rawK_congr takeK_congr stepK_congr convK_congr aggK_congr

theorem Flexible_fn (vs:Value) (F ver:Int) (hv:flat vs=true) (w:World):Fn Tryz.prog 11 #[.agg #[vs,.int .i64 F],.int .i64 ver] w fun r w'=>r = .bool (flexB F ver)∧Ext w w':=by
 refine fn_of_W Tryz.func11 rfl Tryz.results11 Tryz.ntmps11 rfl ?_
 by_cases h1:0≤F
 ·by_cases h2:F≤ver
  ·repeat ((first|refine qA rfl ?_|apply qB|refine qC rfl ?_|apply qD|apply qE|apply qF|apply qG|apply qH);try simp (disch:=(first|omega|(simp only [qI,qJ,qK]<;>omega)|exact qL _)) only [go_sem,↓reduceIte,n0,reduceCtorEq,n1,n2,n3,n4,n5,i0,i1,i2,i3,i4,i5,i6,i7,hv,cellsAt_two])
   exact ⟨by simp [flexB,h1,h2],Upd.alloc (Upd.refl _ _) _⟩
  ·repeat ((first|refine qA rfl ?_|apply qB|refine qC rfl ?_|apply qD|apply qE|apply qF|apply qG|apply qH);try simp (disch:=(first|omega|(simp only [qI,qJ,qK]<;>omega)|exact qL _)) only [go_sem,↓reduceIte,n0,reduceCtorEq,n1,n2,n3,n4,n5,i0,i1,i2,i3,i4,i5,i6,i7,hv,cellsAt_two])
   exact ⟨by simp [flexB,h2],Upd.alloc (Upd.refl _ _) _⟩
 ·repeat ((first|refine qA rfl ?_|apply qB|refine qC rfl ?_|apply qD|apply qE|apply qF|apply qG|apply qH);try simp (disch:=(first|omega|(simp only [qI,qJ,qK]<;>omega)|exact qL _)) only [go_sem,↓reduceIte,n0,reduceCtorEq,n1,n2,n3,n4,n5,i0,i1,i2,i3,i4,i5,i6,i7,hv,cellsAt_two])
  exact ⟨by simp [flexB,h1],Upd.alloc (Upd.refl _ _) _⟩

end Ms

namespace Ms
open Go

section
variable {pw : List Fld→Int→Bool→Tree→List UInt8} {pc:List Fld→Tree→Tree} {P:List Fld→Tree→Prop} {v:Int} {flex:Bool}
theorem nilS_bool (f:Fld) (b:Bool) (n:Nat):(0≤f.null→nilS f v (if (b && decide (f.null ≥ 0) && decide (v ≥ f.null))=true then -1 else (n:Int))=(b && decide (f.null ≥ 0) && decide (v ≥ f.null))):=by
 intro h
 unfold nilS
 rw [if_pos h]
 have h1:decide (f.null ≥ 0)=true:=by simpa using h
 rw [h1]
 by_cases h2:f.null≤v
 ·have h3:decide (v ≥ f.null)=true:=by simpa using h2
  rw [h3]
  cases b<;>simp
 ·have h3:decide (v ≥ f.null)=false:=by simpa using h2
  rw [h3];simp
theorem nilS_eq (f:Fld) (t:Tree) (n:Nat) (h:0≤f.null):nilS f v (if nullS f v t=true then -1 else (n:Int))=nullS f v t:=nilS_bool f t.null n h
end
theorem cnL_get (pc:List Fld→Tree→Tree) (dp:List Fld→Tree) (v:Int) (t:Tree):∀ (fs:List Fld) (i k:Nat) (h:k < fs.length),(cnL pc dp v t fs i).getD k .zero=if fs[k].tag < 0∧hasS fs[k] v=true then cnF pc v fs[k] (t.at (i+k)) else dfF dp fs[k]
 | f :: fs,i,0,h=>by simp [cnL]
 | f :: fs,i,k+1,h=>by
  have:=cnL_get pc dp v t fs (i+1) k (by simpa using h)
  simp only [cnL,List.getD_cons_succ,List.getElem_cons_succ]
  rw [this,show i+1+k=i+(k+1) by omega]

inductive N64 : Tree→Prop
 | mk {n:Int} {s:List UInt8} {null:Bool} {l:List Tree} {u:List TagD} (hn:IntKind.i64.wrap n=n) (he:∀ x∈l,N64 x):N64 (.mk n s null l u)
theorem N64.n {t:Tree} (h:N64 t):IntKind.i64.wrap t.n=t.n:=by cases h;assumption
theorem N64.l {t:Tree} (h:N64 t):∀ x∈t.l,N64 x:=by cases h;assumption
theorem N64.zero : N64 .zero:=.mk (by decide) (fun _ h=>by cases h)
theorem N64.at {t:Tree} (h:N64 t) (i:Nat):N64 (t.at i):=by
 unfold Tree.at
 rcases Nat.lt_or_ge i t.l.length with hi|hi
 ·rw [List.getD_eq_getElem?_getD,List.getElem?_eq_getElem hi];exact h.l _ (List.getElem_mem hi)
 ·rw [List.getD_eq_getElem?_getD,List.getElem?_eq_none hi];exact N64.zero
theorem TreeC.n64 {ok:Blocks} {w:World} {t:Tree} {cs:List Value} (h:TreeC ok w t cs):N64 t:=by
 induction h with
 | mk hn hS hL hl he hU ih =>
  refine .mk hn fun x hx => ?_
  obtain ⟨i,hi,rfl⟩:=List.getElem_of_mem hx
  exact ih i hi (by omega)

/-! ### What is read is of no great length -/
theorem i64_idem (n:Int):IntKind.i64.wrap (IntKind.i64.wrap n)=IntKind.i64.wrap n:=by
 have : -9223372036854775808≤IntKind.i64.wrap n∧IntKind.i64.wrap n≤9223372036854775807:=by
  unfold IntKind.wrap;simp [IntKind.bits,IntKind.signed];split<;>omega
 exact i64_wrap (by omega)
theorem cn1_good {d:Nat} {v:Int} {flex:Bool} (k:Int) (sub:List Fld) (null:Bool) (x:Tree) (hp:k=10→GoodP d sub (cnP d v flex sub x)):Good1 (GoodP d) k sub (cn1 (cnP d v flex) k sub null x):=by
 unfold cn1
 by_cases h0:k=0
 ·rw [if_pos h0];exact good1_num (by omega) (by omega)
 rw [if_neg h0]
 by_cases h7:k=7
 ·rw [if_pos h7];exact good1_oct (by rw [uuidS_len];omega) (by omega)
 rw [if_neg h7]
 by_cases h8:k=8∨k=9
 ·rw [if_pos h8]
  refine good1_oct ?_ (by omega)
  split
  ·simp
  ·simp only [wholeS,List.length_take];omega
 rw [if_neg h8]
 by_cases h10:k=10
 ·rw [if_pos h10]
  refine ⟨fun h=>by omega,?_,fun _=>hp h10⟩
  cases d<;>simp [cnP,Tree.zero,Tree.s]
 rw [if_neg h10]
 refine good1_num (fun h4 => ?_) h10
 subst h4
 exact i64_idem _
theorem cnF_good {d:Nat} {v:Int} {flex:Bool} (f:Fld) (x:Tree) (hp:f.kind=10∨f.of=10→∀ y,GoodP d f.sub (cnP d v flex f.sub y)):GoodF (GoodP d) f (cnF (cnP d v flex) v f x):=by
 unfold GoodF cnF
 by_cases h11:f.kind=11
 ·rw [if_pos h11,if_pos h11]
  simp only [Tree.l]
  split
  ·exact ⟨by simp,fun y hy=>by cases hy⟩
  ·refine ⟨by simp only [List.length_map,thingsS,List.length_take];omega,fun y hy => ?_⟩
   obtain ⟨z,_,rfl⟩:=List.mem_map.1 hy
   exact cn1_good _ _ _ _ fun h=>hp (.inr h) z
 ·rw [if_neg h11,if_neg h11]
  exact cn1_good _ _ _ _ fun h=>hp (.inl h) x
theorem cnL_all3 {R:Fld→Tree→Prop} {pc:List Fld→Tree→Tree} {dp:List Fld→Tree} {v:Int} {t:Tree}:∀ (fs:List Fld) (i:Nat),(∀ f∈fs,(∀ x,R f (cnF pc v f x))∧R f (dfF dp f))→All3 R fs (cnL pc dp v t fs i)
 | [],_,_=>.nil
 | f :: fs,i,h=>.cons (by split;exact (h f (by simp)).1 _;exact (h f (by simp)).2) (cnL_all3 fs (i+1) fun g hg=>h g (by simp [hg]))
theorem cnP_good (v:Int) (flex:Bool):∀ (d:Nat) (fs:List Fld) (t:Tree),okDf d fs=true→GoodP d fs (cnP d v flex fs t)
 | 0,_,_,_=>trivial
 | d+1,fs,t,h=>by
  refine ⟨?_,?_⟩
  ·have:=goodL_of (G:=GoodP d) (n:=0) (s:=[]) (nl:=false) (u:=if flex=true then (unknownS fs t.u).map fun u=>(u.1,wholeS u.2) else []) [] (cnL_all3 (R:=GoodF (GoodP d)) (pc:=cnP d v flex) (dp:=dfP d) (v:=v) (t:=t) fs 0 fun f hf=>by
    obtain ⟨h4,hs⟩:=okDf_f h hf
    exact ⟨fun x=>cnF_good f x fun hk y=>cnP_good v flex d f.sub y (hs hk),dfF_good (fun hk=>⟨dfP_good d f.sub (hs (.inl hk)),(dfP_sn d f.sub).1⟩) h4⟩)
   exact this
  ·show GoodU (if flex=true then (unknownS fs t.u).map fun u=>(u.1,wholeS u.2) else [])
   split
   ·refine ⟨by rw [List.length_map];exact unknownS_len' fs t.u,?_,fun y hy => ?_⟩
    ·rw [List.map_map]
     have h1:=(unknownS_spec fs t.u).1
     have:(unknownS fs t.u).map ((fun x=>x.1) ∘ fun u=>(u.1,wholeS u.2))=(unknownS fs t.u).map (·.1):=rfl
     rw [this]
     exact List.nodup_iff_pairwise_ne.2 (List.pairwise_map.2 (h1.imp fun h=>by omega))
    ·obtain ⟨z,_,rfl⟩:=List.mem_map.1 hy
     simp only [wholeS,List.length_take];omega
   ·exact ⟨by simp,by simp,fun y hy=>by cases hy⟩

/-! ### It is told as it was -/
theorem tlL_get (tp:List Fld→Tree→Tree) (t:Tree):∀ (fs:List Fld) (i k:Nat) (h:k < fs.length),(tlL tp t fs i).getD k .zero=tlF tp fs[k] (t.at (i+k))
 | f :: fs,i,0,h=>by simp [tlL]
 | f :: fs,i,k+1,h=>by
  have:=tlL_get tp t fs (i+1) k (by simpa using h)
  simp only [tlL,List.getD_cons_succ,List.getElem_cons_succ]
  rw [this,show i+1+k=i+(k+1) by omega]
theorem sortT_rising {u:List TagD} (h:u.Pairwise fun a b=>a.1 < b.1):sortT u=u :=
 List.mergeSort_of_pairwise (h.imp fun h=>by simpa using Nat.le_of_lt h)
def okT : List Fld→Bool
 | fs=>fs.all fun f=>decide (0≤f.null→8≤f.kind)
def okTs : Nat→List Fld→Bool
 | 0,_=>true
 | d+1,fs=>okT fs && fs.all fun f=>okTs d f.sub
theorem mod2_if (n:Int):(if n % 2=1 then (1:Int) else 0)=n % 2:=by split<;>omega
theorem IntKind_idem (k:IntKind) (hk:k = .i8∨k = .i16∨k = .i32∨k = .u16) (n:Int):k.wrap (k.wrap n)=k.wrap n:=by
 rcases hk with h|h|h|h<;>subst h<;>(unfold IntKind.wrap;simp [IntKind.bits,IntKind.signed])<;>(try split)<;>(try split)<;>omega
theorem wrapN_kind (k:Int) (hk:numK k) (n:Int) (h4:IntKind.i64.wrap n=n):wrapN k ((kindK k).wrap n)=numS k n:=by
 rcases hk with h|h|h|h|h<;>subst h<;>simp [wrapN,kindK,numS]
 ·exact IntKind_idem _ (by simp) _
 ·exact IntKind_idem _ (by simp) _
 ·exact IntKind_idem _ (by simp) _
 ·exact h4
 ·exact IntKind_idem _ (by simp) _
theorem Tree.at_mk (n:Int) (s:List UInt8) (b:Bool) (l:List Tree) (u:List TagD) (i:Nat):(Tree.mk n s b l u).at i=l.getD i .zero:=rfl
theorem map_getD {α β:Type} (f:α→β) (l:List α) (i:Nat) (h:i < l.length) (z:β):(l.map f).getD i z=f l[i]:=by
 simp [List.getD_eq_getElem?_getD,h]
section
variable {d : Nat} {v:Int} {flex:Bool}
theorem tl1_told (T:List Fld→Tree→Tree→Prop) (tp:List Fld→Tree→Tree) (k:Int) (sub:List Fld) (x:Tree) (hx:N64 x) (hk:k=0∨numK k∨(7≤k∧k≤10)) (hp:k=10→T sub x (tp sub (cnP d v flex sub x))):Told1 T k sub x (tl1 tp k sub (cn1 (cnP d v flex) k sub false x)):=by
 unfold Told1
 by_cases h8:k=8
 ·subst h8;simp [tl1,cn1,Tree.oct,Tree.s]
 by_cases h9:k=9
 ·subst h9;simp [tl1,cn1,Tree.oct,Tree.s,Tree.null]
 rw [if_neg (by omega)]
 by_cases h7:k=7
 ·subst h7;simp [tl1,cn1,Tree.oct,Tree.s,uuidS_idem]
 rw [if_neg h7]
 by_cases h10:k=10
 ·subst h10;rw [if_pos rfl];simpa [tl1,cn1] using hp rfl
 rw [if_neg h10]
 by_cases h0:k=0
 ·subst h0
  have:(x.n % 2) % 2=x.n % 2:=by omega
  simp [tl1,cn1,Tree.num,Tree.n,numS,mod2_if,this]
 ·have hn:numK k:=by rcases hk with h|h|h<;>first|exact absurd h h0|exact h|omega
  have e:tl1 tp k sub (cn1 (cnP d v flex) k sub false x) = .num (wrapN k ((kindK k).wrap x.n)):=by simp [tl1,cn1,h0,h7,h8,h9,h10,Tree.num,Tree.n]
  rw [e,wrapN_kind k hn x.n hx.n];rfl
theorem tl1_null (k:Int) (sub:List Fld) (x:Tree) (tp:List Fld→Tree→Tree) (h:k=8∨k=10) (hp:∀ x,(tp sub x).null=false):(tl1 tp k sub x).null=false:=by
 rcases h with h|h<;>subst h
 ·simp [tl1,Tree.oct,Tree.null]
 ·simpa [tl1] using hp x
theorem tlP_null (d:Nat) (fs:List Fld) (x:Tree):(tlP d fs x).null=false:=by cases d<;>rfl
theorem tlF_told (T:List Fld→Tree→Tree→Prop) (f:Fld) (x:Tree) (hx:N64 x) (hk:f.kind=11∨f.kind=0∨numK f.kind∨(7≤f.kind∧f.kind≤10)) (ho:f.of=0∨numK f.of∨(7≤f.of∧f.of≤10)) (hn:¬ (f.kind=10∧0≤f.null)) (ht:0≤f.null→8≤f.kind)
  (hp:∀ y,N64 y→T f.sub y (tlP d f.sub (cnP d v flex f.sub y))):ToldF T v f x (tlF (tlP d) f (cnF (cnP d v flex) v f x)):=by
 by_cases h11:f.kind=11
 ·have e:tlF (tlP d) f (cnF (cnP d v flex) v f x) = .mk 0 [] (nilS f v (if nullS f v x=true then -1 else ((thingsS x.l).length:Nat))) ((if nilS f v (if nullS f v x=true then -1 else ((thingsS x.l).length:Nat))=true then [] else (if nullS f v x=true then [] else (thingsS x.l).map (cn1 (cnP d v flex) f.of f.sub false))).map (tl1 (tlP d) f.of f.sub)) []:=by
   unfold tlF cnF
   rw [if_pos h11,if_neg (by omega),if_pos h11];rfl
  rw [e]
  refine ⟨fun h => ?_,fun h => ?_⟩
  ·rcases h with h|h|h
   ·omega
   ·omega
   ·simp only [mayS,Bool.and_eq_true,decide_eq_true_eq] at h
    exact nilS_eq f x _ h.1
  ·rw [if_pos h11,h]
   have hl:(if nilS f v (if (false:Bool)=true then -1 else ((thingsS x.l).length:Nat))=true then [] else (if (false:Bool)=true then ([]:List Tree) else (thingsS x.l).map (cn1 (cnP d v flex) f.of f.sub false)))=(thingsS x.l).map (cn1 (cnP d v flex) f.of f.sub false):=by
    simp only [Bool.false_eq_true,if_false]
    split
    ·rename_i hni
     have:(thingsS x.l).length=0:=by
      unfold nilS at hni
      split at hni
      ·simp only [Bool.and_eq_true,decide_eq_true_eq] at hni;omega
      ·simp only [decide_eq_true_eq] at hni;omega
     rw [List.length_eq_zero_iff.1 this];rfl
    ·rfl
   rw [hl]
   refine ⟨by simp [Tree.l],fun i hi => ?_⟩
   have hat:(Tree.mk 0 [] (nilS f v (if (false:Bool)=true then -1 else ((thingsS x.l).length:Nat))) (((thingsS x.l).map (cn1 (cnP d v flex) f.of f.sub false)).map (tl1 (tlP d) f.of f.sub)) []).at i=tl1 (tlP d) f.of f.sub (cn1 (cnP d v flex) f.of f.sub false (thingsS x.l)[i]):=by
    rw [Tree.at_mk,map_getD _ _ _ (by rw [List.length_map];exact hi),List.getElem_map]
   have hm:N64 (thingsS x.l)[i]:=hx.l _ (List.mem_of_mem_take (List.getElem_mem hi))
   rw [hat]
   exact ⟨fun h=>tl1_null _ _ _ _ h fun y=>tlP_null d f.sub y,tl1_told T (tlP d) f.of f.sub _ hm ho fun _=>hp _ hm⟩
 ·have hk':f.kind=0∨numK f.kind∨(7≤f.kind∧f.kind≤10):=by
   rcases hk with h|h
   ·exact absurd h h11
   ·exact h
  have ec:cnF (cnP d v flex) v f x=cn1 (cnP d v flex) f.kind f.sub (nullS f v x) x:=by simp [cnF,h11]
  rw [ec]
  refine ⟨fun h => ?_,fun h => ?_⟩
  ·by_cases h8:f.kind=8
   ·by_cases hnl:0≤f.null
    ·simp [tlF,cn1,h8,hnl,Tree.oct,Tree.null]
    ·simp [tlF,tl1,cn1,h8,hnl,Tree.oct,Tree.null,nullS]
   by_cases h10:f.kind=10
   ·have hnl:¬ 0≤f.null:=fun h'=>hn ⟨h10,h'⟩
    have e:tlF (tlP d) f (cn1 (cnP d v flex) f.kind f.sub (nullS f v x) x)=tlP d f.sub (cnP d v flex f.sub x):=by simp [tlF,tl1,cn1,h10]
    rw [e,tlP_null];simp [nullS,hnl]
   have hm:mayS f v=true:=by rcases h with h|h|h<;>first|exact absurd h h8|exact absurd h h10|exact h
   simp only [mayS,Bool.and_eq_true,decide_eq_true_eq] at hm
   have h8':=ht hm.1
   have h9:f.kind=9:=by
    rcases hk' with h|h|h
    ·omega
    ·unfold numK at h;omega
    ·omega
   simp [tlF,tl1,cn1,h9,Tree.oct,Tree.null]
  ·rw [if_neg h11,h]
   by_cases h8:f.kind=8∧0≤f.null
   ·have e:tlF (tlP d) f (cn1 (cnP d v flex) f.kind f.sub false x) = .oct false (wholeS x.s):=by simp [tlF,cn1,h8,Tree.oct,Tree.null,Tree.s]
    rw [e];unfold Told1;rw [if_pos (.inl h8.1)];rfl
   ·have e:tlF (tlP d) f (cn1 (cnP d v flex) f.kind f.sub false x)=tl1 (tlP d) f.kind f.sub (cn1 (cnP d v flex) f.kind f.sub false x):=by
     unfold tlF;rw [if_neg h8,if_neg h11]
    rw [e]
    exact tl1_told T (tlP d) f.kind f.sub x hx hk' fun _=>hp x hx
theorem tlF_df (D:List Fld→Tree→Prop) (f:Fld) (hk:f.kind=11∨f.kind=0∨numK f.kind∨(7≤f.kind∧f.kind≤10)) (hn:¬ (f.kind=10∧0≤f.null)) (hp:D f.sub (tlP d f.sub ((dfP d f.sub).setNull false))):DfF D f (tlF (tlP d) f (dfF (dfP d) f)):=by
 unfold DfF
 by_cases h8:f.kind=8
 ·rw [if_pos h8]
  by_cases hnl:0≤f.null<;>simp [tlF,tl1,dfF,h8,hnl,Tree.oct,Tree.null,Tree.s]
 rw [if_neg h8]
 by_cases h7:f.kind=7
 ·rw [if_pos h7];simp [tlF,tl1,dfF,h7,Tree.oct,Tree.s,uuidS_idem]
 rw [if_neg h7]
 by_cases h9:f.kind=9
 ·rw [if_pos (.inl h9)];simp [tlF,tl1,dfF,h9,Tree.oct,Tree.null,Tree.s,Tree.l]
 by_cases h11:f.kind=11
 ·rw [if_pos (.inr h11)];simp [tlF,dfF,h11,Tree.null,Tree.s,Tree.l]
 rw [if_neg (by omega)]
 by_cases h10:f.kind=10
 ·rw [if_pos h10]
  have hnl:¬ 0≤f.null:=fun h=>hn ⟨h10,h⟩
  refine ⟨fun h=>absurd h hnl,fun _ => ?_⟩
  have e:tlF (tlP d) f (dfF (dfP d) f)=tlP d f.sub ((dfP d f.sub).setNull false):=by simp [tlF,tl1,dfF,h10,hnl]
  rw [e];exact hp
 rw [if_neg h10]
 by_cases h0:f.kind=0
 ·simp [tlF,tl1,dfF,h0,Tree.num,Tree.n,numS,mod2_if]
 ·simp [tlF,tl1,dfF,h0,h7,h8,h9,h10,h11,Tree.num,Tree.n,numS]
end
theorem df_told (v:Int) (flex:Bool):∀ (d:Nat) (fs:List Fld),okR d v flex fs=true→DfP (d+1) fs (tlP (d+1) fs ((dfP (d+1) fs).setNull false)):=by
 intro d
 induction d with
 | zero =>
  intro fs h
  have hnil:fs=[]:=by simpa [okR] using h
  subst hnil
  exact ⟨sortT_rising List.Pairwise.nil,fun i h=>by cases h⟩
 | succ d ih =>
  intro fs h
  refine ⟨sortT_rising List.Pairwise.nil,fun i hi => ?_⟩
  obtain ⟨g1,g2,g3,g4,g5,g6⟩:=okR_el h (List.getElem_mem hi)
  have e:(tlP (d+1+1) fs ((dfP (d+1+1) fs).setNull false)).at i=tlF (tlP (d+1)) fs[i] (dfF (dfP (d+1)) fs[i]):=by
   rw [tlP,Tree.at_mk,tlL_get _ _ fs 0 i hi,Nat.zero_add]
   congr 1
   simp only [dfP,Tree.setNull,Tree.at_mk,Tree.l]
   exact map_getD _ _ _ hi _
  rw [e]
  exact tlF_df _ _ g2 g4 (ih fs[i].sub g5)
theorem told_cn (v:Int) (flex:Bool):∀ (d:Nat) (fs:List Fld) (t:Tree),okR d v flex fs=true→okTs d fs=true→N64 t→ToldP (d+1) v flex fs t (tlP (d+1) fs (cnP (d+1) v flex fs t)):=by
 have hu:∀ (d:Nat) (fs:List Fld) (t:Tree),(tlP (d+1) fs (cnP (d+1) v flex fs t)).u=(if flex=true then (unknownS fs t.u).map fun u=>(u.1,wholeS u.2) else []):=fun d fs t=>by
  show sortT (if flex=true then (unknownS fs t.u).map fun u=>(u.1,wholeS u.2) else [])=_
  refine sortT_rising ?_
  split
  ·exact List.pairwise_map.2 (unknownS_spec fs t.u).1
  ·exact List.Pairwise.nil
 have hl:∀ (d:Nat) (fs:List Fld) (t:Tree),(tlP (d+1) fs (cnP (d+1) v flex fs t)).l.length=fs.length:=fun d fs t=>tlL_len _ _ _ _
 intro d
 induction d with
 | zero =>
  intro fs t h _ _
  have hnil:fs=[]:=by simpa [okR] using h
  subst hnil
  exact ⟨hl 0 [] t,hu 0 [] t,fun i h=>by cases h⟩
 | succ d ih =>
  intro fs t h hT hN
  refine ⟨hl _ _ _,hu _ _ _,fun i hi => ?_⟩
  obtain ⟨g1,g2,g3,g4,g5,g6⟩:=okR_el h (List.getElem_mem hi)
  simp only [okTs,okT,Bool.and_eq_true,List.all_eq_true,decide_eq_true_eq] at hT
  have e:(tlP (d+1+1) fs (cnP (d+1+1) v flex fs t)).at i=tlF (tlP (d+1)) fs[i] (if fs[i].tag < 0∧hasS fs[i] v=true then cnF (cnP (d+1) v flex) v fs[i] (t.at i) else dfF (dfP (d+1)) fs[i]):=by
   rw [tlP,Tree.at_mk,tlL_get _ _ fs 0 i hi,Nat.zero_add]
   congr 1
   have:=cnL_get (cnP (d+1) v flex) (dfP (d+1)) v t fs 0 i hi
   rw [Nat.zero_add] at this
   exact this
  rw [e]
  have hlv:liveS (d+1+1) v flex fs[i] (t.at i)=hasS fs[i] v:=by
   have:¬ 0≤fs[i].tag:=by omega
   simp [liveS,g1,this]
  rw [hlv]
  by_cases hh:hasS fs[i] v=true
  ·rw [if_pos hh,if_pos ⟨g1,hh⟩]
   exact tlF_told (d:=d+1) (v:=v) (flex:=flex) _ fs[i] (t.at i) (hN.at i) g2 g3 g4 (hT.1 _ (List.getElem_mem hi)) fun y hy=>ih fs[i].sub y g5 (hT.2 _ (List.getElem_mem hi)) hy
  ·rw [if_neg hh,if_neg fun h=>hh h.2]
   exact tlF_df _ _ g2 g4 (df_told v flex d fs[i].sub g5)
end Ms

