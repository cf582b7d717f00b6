/- A part of the proof: see the last text. -/
import GoSem.ClaimChange
import Derived.JoinedOf
import Derived.Test.YtfeaoncgnhhjbaeGreatDoorCards
import Derived.Test.YtfeaoncgnhhjbaeGreatDoorTie
import Derived.JoinedCond
import Derived.Test.YtfeaoncgnhhjbaeGreatDoorC00
import Derived.Test.YtfeaoncgnhhjbaeGreatDoorC01
import Derived.Test.YtfeaoncgnhhjbaeGreatDoorC02
import Derived.Test.YtfeaoncgnhhjbaeGreatDoorC04
set_option linter.unusedSimpArgs false
set_option linter.unusedVariables false
namespace Ms
open Go.World renaming size_alloc → qI
open Ms renaming size_wr → qJ,size_drew → qK,not_noB → qL
open W renaming seqF → qA,seq → qB,regF → qC,condK → qD,block → qE,skip → qF,ret → qG,exit → qH
set_option maxRecDepth 4000
open Go Go.Proofs
attribute [local congr] W_congr WPsq_congr WPp_congr optK_congr addrK_congr intK_congr boolK_congr sliceK_congr tupleK_congr funcK_congr Fn_congr rawK_congr takeK_congr stepK_congr convK_congr aggK_congr

abbrev PG (w2:World) (N:Nat) (bf:Option Addr) (cf:Nat) (ver:Int) (flex:Bool) (tb:Nat) (ρ:Regs) (w':World):Prop :=
 ρ 0 = .slice bf N cf∧ρ 1 = .int .i64 ver∧ρ 2 = .bool flex∧ρ 7 = .pointer (some ⟨tb,0,none⟩)∧Ext w2 w'

set_option maxHeartbeats 1000000 in
theorem part_fn {ok:Blocks} (pt:List Fld→Int→Bool→Tree→List UInt8) (du:Nat) (fs:List Fld) (ver:Int) (flex:Bool) (t:Tree) (vf:Value) (ct:List Value) (w:World) (hf:FldsV ok w vf fs) (hfl:fs.length≤1000) (htag:∀ f∈fs,f.tag≤1000) (ht:TreeC ok w t ct) (hsm:Small 4611686018427387903 t)
  (hfield:∀ f∈fs,∀ (x:Tree) (cf cx:List Value) (w':World),FldC ok w' f cf→TreeC ok w' x cx→Small 4611686018427387903 x→(fieldS pt f ver flex x).length≤2 ^ 40 →
   Fn Tryz.prog 36 #[.agg cf.toArray,.int .i64 ver,.bool flex,.agg cx.toArray] w' fun r w''=>OwnBy 5 w'.heap.size w'' r (fieldS pt f ver flex x)∧Ext w' w'')
  (husual:∀ f∈fs,∀ (x:Tree) (cf cx:List Value) (w':World),FldC ok w' f cf→TreeC ok w' x cx→Small 4611686018427387903 x →
   Fn Tryz.prog 38 #[.agg cf.toArray,.agg cx.toArray] w' fun r w''=>r = .bool (usualS du f x)∧Ext w' w'')
  (hlen:(partT pt du fs ver flex t).length≤2 ^ 40) :
  Fn Tryz.prog 22 #[vf,.int .i64 ver,.bool flex,.agg ct.toArray] w fun r w'=>OwnBy 5 w.heap.size w' r (partT pt du fs ver flex t)∧Ext w w':=by
 obtain ⟨bf,cf,rfl,hcf⟩:=SlR.shape hf
 obtain ⟨vS,vL,vU,rfl,hn,hS,hL,hU⟩:=ht.inv
 have hl1:=hsm.s
 have hl2:=hsm.l
 have f1:=hS.flat
 have f2:=SlR.flat hL
 have f3:=SlR.flat hU
 have hpl:(plainS pt fs ver flex t).length≤2 ^ 40:=by
  unfold partT at hlen
  split at hlen
  ·simp only [List.length_append] at hlen;omega
  ·exact hlen
 refine fn_of_W Tryz.func22 rfl Tryz.results22 Tryz.ntmps22 rfl ?_
 repeat ((first|refine qA ?_|apply qB|refine qC ?_|apply qD|apply qE|apply qF|apply qG|apply qH);try simp (disch:=(first|omega|(simp only [qI,qJ,qK]<;>omega)|exact qL _)) only [go_sem,f1,f2,f3])
 have hE:Ext w (w.alloc (.cells #[.int .i64 t.n,vS,.bool t.null,vL,vU] 26)):=Upd.alloc (Upd.refl _ _) _
 have hb1:blk (w.alloc (.cells #[.int .i64 t.n,vS,.bool t.null,vL,vU] 26)) w.heap.size=some (#[.int .i64 t.n,vS,.bool t.null,vL,vU],26,(0,0)):=blk_alloc_new rfl
 have hz2:(w.alloc (.cells #[.int .i64 t.n,vS,.bool t.null,vL,vU] 26)).heap.size=w.heap.size+1:=by simp only [World.size_alloc]
 generalize (w.alloc (.cells #[.int .i64 t.n,vS,.bool t.null,vL,vU] 26))=w2 at *
 -- the fields without a tag
 refine W.exitJ 0 (fun ρ w'=>∃ v,ρ 9=v∧ρ 10 = .slice none 0 0∧ρ 11 = .int .i64 0∧PG w2 fs.length bf cf ver flex w.heap.size ρ w'∧OwnBy 5 w2.heap.size w' v (plainS pt fs ver flex t))
  (W.loop (fun ρ w'=>∃ (j:Nat) (v:Value),j≤fs.length∧ρ 23 = .int .i64 j∧ρ 22 = .int .i64 fs.length∧ρ 21 = .slice bf fs.length cf∧ρ 9=v∧ρ 10 = .slice none 0 0∧ρ 11 = .int .i64 0∧PG w2 fs.length bf cf ver flex w.heap.size ρ w'∧OwnBy 5 w2.heap.size w' v (plainP pt fs ver flex t j))
   (fun ρ _=>fs.length - (RowKit.intOf (ρ 23)).toNat) ?_ ?_) ?_
 ·refine ⟨0,_,Nat.zero_le _,?_,?_,?_,rfl,?_,?_,⟨?_,?_,?_,?_,Upd.refl _ _⟩,?_⟩<;>simp (disch:=(first|omega|(simp only [qI,qJ,qK]<;>omega)|exact qL _)) only [go_sem]
  ·rfl
  ·rw [show plainP pt fs ver flex t 0=[] from rfl];exact Own.nil _ _ _ _
 ·rintro ρ w3 ⟨j,v,hj,h23,h22,aJ,h9,h10,h11,⟨h0,h1,h2,h7,hE3⟩,ho⟩
  have hz3:=hE3.size
  have hE03:Ext w w3:=hE.trans hE3
  have hb13:=hE3.blk_some hb1 id
  by_cases hlt:j < fs.length
  ·obtain ⟨_,b,o,x,vs2,hb,hokb,hx,hblt,hxs,hxe,hfl2,hsub2⟩:=FldsV.get hf hlt
   subst hb
   have hx3:blk w3 b=some x:=hE03.blk_some hx id
   have hmem:=List.getElem_mem hlt
   have hsn:=plainP_snoc pt fs ver flex t j hlt
   have hle:=plainP_le pt fs ver flex t (j+1)
   have hE4:Ext w3 (wr (w3.alloc (.cells #[.int .i64 0,.int .i64 0,.int .i64 0,.int .i64 0,.int .i64 0,.int .i64 0,.int .i64 0,.slice none 0 0] 50)) w3.heap.size 0 [.int .i64 fs[j].kind,.int .i64 fs[j].fr,.int .i64 fs[j].to,.int .i64 fs[j].null,.int .i64 fs[j].tag,.int .i64 fs[j].df,.int .i64 fs[j].of,vs2]) :=
    (Upd.alloc (Upd.refl _ _) _).wr _ _ (.inl (Nat.le_refl _))
   generalize fs[j] = g at *
   have hb4:blk (wr (w3.alloc (.cells #[.int .i64 0,.int .i64 0,.int .i64 0,.int .i64 0,.int .i64 0,.int .i64 0,.int .i64 0,.slice none 0 0] 50)) w3.heap.size 0 [.int .i64 g.kind,.int .i64 g.fr,.int .i64 g.to,.int .i64 g.null,.int .i64 g.tag,.int .i64 g.df,.int .i64 g.of,vs2]) w3.heap.size=some (#[.int .i64 g.kind,.int .i64 g.fr,.int .i64 g.to,.int .i64 g.null,.int .i64 g.tag,.int .i64 g.df,.int .i64 g.of,vs2],50,(0,0)):=by
    rw [blk_wr_eq,blk_alloc_new rfl];rfl
   have hz4:(wr (w3.alloc (.cells #[.int .i64 0,.int .i64 0,.int .i64 0,.int .i64 0,.int .i64 0,.int .i64 0,.int .i64 0,.slice none 0 0] 50)) w3.heap.size 0 [.int .i64 g.kind,.int .i64 g.fr,.int .i64 g.to,.int .i64 g.null,.int .i64 g.tag,.int .i64 g.df,.int .i64 g.of,vs2]).heap.size=w3.heap.size+1:=by simp only [size_wr,World.size_alloc]
   by_cases htg:g.tag < 0
   ·repeat ((first|refine qA ?_|apply qB|refine qC ?_|apply qD|apply qE|apply qF|apply qG|apply qH);try simp (disch:=(first|omega|(simp only [qI,qJ,qK]<;>omega)|exact qL _)) only [go_sem,h23,h22,aJ,h1,hx3,hxe,hfl2,cellsAt_eight,Int.toNat_natCast])
    generalize (wr (w3.alloc (.cells #[.int .i64 0,.int .i64 0,.int .i64 0,.int .i64 0,.int .i64 0,.int .i64 0,.int .i64 0,.slice none 0 0] 50)) w3.heap.size 0 [.int .i64 g.kind,.int .i64 g.fr,.int .i64 g.to,.int .i64 g.null,.int .i64 g.tag,.int .i64 g.df,.int .i64 g.of,vs2])=w4 at *
    have hE04:Ext w w4:=hE03.trans hE4
    refine (Has_fn (ok:=ok) g ver _ w4 (FldC.of (hsub2.keep (hE04.keeps _)))).mono ?_
    rintro v5 w5 ⟨rfl,hE5⟩
    have hz5:=hE5.size
    have aB:Ext w3 w5:=hE4.trans hE5
    have hb5:=hE5.blk_some hb4 id
    have hb15:=aB.blk_some hb13 id
    have ho5:=ho.upd aB (fun _ _ h=>h)
    by_cases hh:hasS g ver=true
    ·have hpF:plainF pt ver flex t (g,j)=fieldS pt g ver flex (t.at j):=if_pos ⟨htg,hh⟩
     rw [hpF] at hsn
     have bI:(plainP pt fs ver flex t j).length+(fieldS pt g ver flex (t.at j)).length≤2 ^ 40:=by
      rw [hsn,List.length_append] at hle;omega
     have hnb:∀ b,b < w2.heap.size∨b=w3.heap.size→¬ ownB v b:=fun b hb h=>by
      have:=Own.above ho h
      have:=Own.below ho h
      omega
     simp (disch:=(first|omega|(simp only [qI,qJ,qK]<;>omega)|exact qL _)) only [go_sem,hh]
     repeat ((first|refine qA ?_|apply qB|refine qC ?_|apply qD|apply qE|apply qF|apply qG|apply qH);try simp (disch:=(first|omega|(simp only [qI,qJ,qK]<;>omega)|exact qL _)) only [go_sem,hh])
     refine W.drawR (.take 0 (.take 1 (.take 2 (.take 3 (.take 4 (.take 5 (.only 6 (.only 7 (.only 8 (.only 9 .done)))))))))) (ownB v) mixed (by kernel_rfl) ?_
     simp (disch:=(first|omega|(simp only [qI,qJ,qK]<;>omega)|exact qL _|(refine hnb _ ?_;first|omega|(simp only [World.size_alloc,size_wr,size_drew]<;>omega)))) only [go_sem,h9,h1,h2,h7,hb5,hb15,cellsAt_five,cellsAt_eight]
     have aF:Ext w3 w5.drew:=aB.drew
     have aI:Ext w w5.drew:=hE03.trans aF
     refine (at_fn (ok:=ok) t j _ _ (ht.keep (aI.keeps _)) (by omega) (by omega)).mono ?_
     rintro v6 w6 ⟨⟨c6,rfl,hc6⟩,hE6⟩
     refine ⟨hE6.mono (fun _ h=>h.elim),?_⟩
     have hE06:Ext w w6:=aI.trans hE6
     refine (hfield g hmem (t.at j) _ c6 w6 (FldC.of (hsub2.keep (hE06.keeps _))) hc6 (hsm.at j) (by omega)).mono ?_
     rintro v7 w7 ⟨ho7,hE7⟩
     have aD:Ext w5.drew w7:=hE6.trans hE7
     have aC:Ext w3 w7:=aF.trans aD
     have hz37:=aC.size
     have hz67:=aD.size
     simp only [size_drew] at hz67
     refine ⟨aD.mono (fun _ h=>h.elim),?_⟩
     have ho6:=ho.upd aC (fun _ _ h=>h)
     generalize plainP pt fs ver flex t j=s6 at *
     generalize fieldS pt g ver flex (t.at j)=s7 at *
     refine wp_append ap_22_22 (m:=s7.length) (news:=s7.map byteV) (n:=s6.length) (cs:=s6.map byteV) (v:=v) ?_ rfl ho6 (flat_bytes _) ?_ ?_ ?_ ?_
     ·simp (disch:=(first|omega|(simp only [qI,qJ,qK]<;>omega)|exact qL _)) only [go_sem,h9]
     ·simp (disch:=(first|omega|(simp only [qI,qJ,qK]<;>omega)|exact qL _)) only [go_sem]
      exact (Own.bytes (ok:=AnyB) ho7 fun _ _=>trivial).src
     ·omega
     ·omega
     intro v' w8 ho8 hu hfr
     have hE8:Ext w2 w8:=Ext.own (hE3.trans aC) ho hu
     have hM8:Upd (ownB v) w5.drew w8:=(aD.mono (fun _ h=>h.elim)).trans hu
     simp (disch:=(first|omega|(simp only [qI,qJ,qK]<;>omega)|exact qL _)) only [go_sem]
     refine ⟨hM8,hM8,?_⟩
     repeat ((first|refine qA ?_|apply qB|refine qC ?_|apply qD|apply qE|apply qF|apply qG|apply qH);try simp (disch:=(first|omega|(simp only [qI,qJ,qK]<;>omega)|exact qL _)) only [go_sem,h23])
     refine ⟨⟨j+1,v',by omega,rfl,h22,aJ,rfl,h10,h11,⟨h0,h1,h2,h7,hE8⟩,?_⟩,?_⟩
     ·rw [hsn];exact OwnBy.app (s:=s6) (t:=s7) ho8 rfl
     ·simp only [RowKit.intOf];omega
    ·have hh':hasS g ver=false:=by simpa using hh
     have hpF:plainF pt ver flex t (g,j)=[]:=if_neg fun h=>hh h.2
     rw [hpF,List.append_nil] at hsn
     simp (disch:=(first|omega|(simp only [qI,qJ,qK]<;>omega)|exact qL _)) only [go_sem,hh']
     repeat ((first|refine qA ?_|apply qB|refine qC ?_|apply qD|apply qE|apply qF|apply qG|apply qH);try simp (disch:=(first|omega|(simp only [qI,qJ,qK]<;>omega)|exact qL _)) only [go_sem,hh',h23])
     refine ⟨⟨j+1,v,by omega,rfl,h22,aJ,h9,h10,h11,⟨h0,h1,h2,h7,hE3.trans aB⟩,?_⟩,?_⟩
     ·rw [hsn];exact ho5
     ·simp only [RowKit.intOf];omega
   ·have hpF:plainF pt ver flex t (g,j)=[]:=if_neg fun h=>htg h.1
    rw [hpF,List.append_nil] at hsn
    repeat ((first|refine qA ?_|apply qB|refine qC ?_|apply qD|apply qE|apply qF|apply qG|apply qH);try simp (disch:=(first|omega|(simp only [qI,qJ,qK]<;>omega)|exact qL _)) only [go_sem,h23,h22,aJ,hx3,hxe,hfl2,cellsAt_eight,Int.toNat_natCast])
    refine ⟨⟨j+1,v,by omega,rfl,h9,h10,h11,⟨h0,h1,h2,h7,hE3.trans hE4⟩,?_⟩,?_⟩
    ·rw [hsn];exact ho.upd hE4 (fun _ _ h=>h)
    ·simp only [RowKit.intOf];omega
  ·have hjl:j=fs.length:=by omega
   subst hjl
   rw [plainP_all] at ho
   repeat ((first|refine qA ?_|apply qB|refine qC ?_|apply qD|apply qE|apply qF|apply qG|apply qH);try simp (disch:=(first|omega|(simp only [qI,qJ,qK]<;>omega)|exact qL _)) only [go_sem,h23,h22])
   exact ⟨_,h9,h10,h11,⟨h0,h1,h2,h7,hE3⟩,ho⟩
 ·rintro ρ w3 ⟨v,h9,h10,h11,⟨h0,h1,h2,h7,hE3⟩,ho⟩
  have hz3:=hE3.size
  have hE03:Ext w w3:=hE.trans hE3
  have hb13:=hE3.blk_some hb1 id
  simp (disch:=(first|omega|(simp only [qI,qJ,qK]<;>omega)|exact qL _)) only [go_sem]
  cases flex with
  | false =>
   repeat ((first|refine qA ?_|apply qB|refine qC ?_|apply qD|apply qE|apply qF|apply qG|apply qH);try simp (disch:=(first|omega|(simp only [qI,qJ,qK]<;>omega)|exact qL _)) only [go_sem,h2,h9])
   refine ⟨?_,hE03⟩
   exact ho.mono (by omega)
  | true =>
   -- the known tags
   have hK:=knownS_le (fs:=fs) htag
   have hlenT:((tagsS pt du fs ver true t).flatMap oneTag).length≤2 ^ 40:=by
    unfold partT at hlen
    rw [if_pos rfl] at hlen
    simp only [List.length_append] at hlen;omega
   have hlenU:((tagsS pt du fs ver true t).flatMap oneTag++(unknownS fs t.u).flatMap unkT).length≤2 ^ 40:=by
    unfold partT at hlen
    rw [if_pos rfl] at hlen
    simp only [List.length_append] at hlen ⊢;omega
   repeat ((first|refine qA ?_|apply qB|refine qC ?_|apply qD|apply qE|apply qF|apply qG|apply qH);try simp (disch:=(first|omega|(simp only [qI,qJ,qK]<;>omega)|exact qL _)) only [go_sem,h2,h0])
   refine (known_fn (ok:=ok) fs _ w3 (hf.keep (hE03.keeps _)) hfl htag).mono ?_
   rintro v4 w4 ⟨rfl,hEk⟩
   have hzk:=hEk.size
   repeat ((first|refine qA ?_|apply qB|refine qC ?_|apply qD|apply qE|apply qF|apply qG|apply qH);try simp (disch:=(first|omega|(simp only [qI,qJ,qK]<;>omega)|exact qL _)) only [go_sem])
   refine W.exitJ 2 (fun ρ w'=>∃ vt,ρ 9=v∧ρ 10=vt∧ρ 11 = .int .i64 (tagsS pt du fs ver true t).length∧PG w3 fs.length bf cf ver true w.heap.size ρ w'∧OwnBy 5 w3.heap.size w' vt ((tagsS pt du fs ver true t).flatMap oneTag))
    (W.loop (fun ρ w'=>∃ (k:Nat) (vt:Value),k≤knownS fs∧ρ 52 = .int .i64 k∧ρ 51 = .int .i64 (knownS fs:Nat)∧ρ 9=v∧ρ 10=vt∧ρ 11 = .int .i64 (tagsP pt du fs ver true t k 0).length∧PG w3 fs.length bf cf ver true w.heap.size ρ w'∧OwnBy 5 w3.heap.size w' vt ((tagsP pt du fs ver true t k 0).flatMap oneTag))
     (fun ρ _=>knownS fs - (RowKit.intOf (ρ 52)).toNat) ?_ ?_) ?_
   ·refine ⟨0,_,Nat.zero_le _,?_,?_,?_,rfl,?_,⟨?_,?_,?_,?_,hEk⟩,?_⟩<;>simp (disch:=(first|omega|(simp only [qI,qJ,qK]<;>omega)|exact qL _)) only [go_sem,h0,h1,h2,h7,h9,h10,h11]
    ·rfl
    ·rw [show tagsP pt du fs ver true t 0 0=[] from rfl];rfl
    ·rw [show tagsP pt du fs ver true t 0 0=[] from rfl];exact Own.nil _ _ _ _
   ·rintro ρ w4 ⟨k,vt,hk,aA,a8,h9,h10,h11,⟨h0,h1,h2,h7,hE4⟩,hot⟩
    by_cases hkt:k < knownS fs
    ·repeat ((first|refine qA ?_|apply qB|refine qC ?_|apply qD|apply qE|apply qF|apply qG|apply qH);try simp (disch:=(first|omega|(simp only [qI,qJ,qK]<;>omega)|exact qL _)) only [go_sem,aA,a8,h0])
     refine W.exitJ 4 (fun ρ w'=>∃ vt,ρ 52 = .int .i64 k∧ρ 51 = .int .i64 (knownS fs:Nat)∧ρ 9=v∧ρ 10=vt∧ρ 11 = .int .i64 (tagsP pt du fs ver true t k fs.length).length∧PG w3 fs.length bf cf ver true w.heap.size ρ w'∧OwnBy 5 w3.heap.size w' vt ((tagsP pt du fs ver true t k fs.length).flatMap oneTag))
      (W.loop (fun ρ w'=>∃ (j:Nat) (vt:Value),j≤fs.length∧ρ 57 = .int .i64 j∧ρ 56 = .int .i64 fs.length∧ρ 55 = .slice bf fs.length cf∧ρ 14 = .int .i64 k∧ρ 52 = .int .i64 k∧ρ 51 = .int .i64 (knownS fs:Nat)∧ρ 9=v∧ρ 10=vt∧ρ 11 = .int .i64 (tagsP pt du fs ver true t k j).length∧PG w3 fs.length bf cf ver true w.heap.size ρ w'∧OwnBy 5 w3.heap.size w' vt ((tagsP pt du fs ver true t k j).flatMap oneTag))
       (fun ρ _=>fs.length - (RowKit.intOf (ρ 57)).toNat) ?_ ?_) ?_
     ·refine ⟨0,_,Nat.zero_le _,?_,?_,?_,?_,?_,?_,?_,rfl,?_,⟨?_,?_,?_,?_,hE4⟩,?_⟩<;>simp (disch:=(first|omega|(simp only [qI,qJ,qK]<;>omega)|exact qL _)) only [go_sem,h0,h1,h2,h7,h9,h10,h11,aA,a8]
      ·rfl
      ·exact hot
     ·clear h9 h10 h11 h0 h1 h2 h7 aA a8 hot hE4 vt
      rintro ρ w4 ⟨j,vt,hj,h57,aH,aK,aG,aA,a8,h9,h10,h11,⟨h0,h1,h2,h7,hE4⟩,hot⟩
      have hE04:Ext w w4:=hE03.trans hE4
      have hz4:=hE4.size
      have hb14:=hE4.blk_some hb13 id
      by_cases hlt:j < fs.length
      ·obtain ⟨_,b,o,x,vs2,hb,hokb,hx,hblt,hxs,hxe,hfl2,hsub2⟩:=FldsV.get hf hlt
       subst hb
       have hx4:blk w4 b=some x:=hE04.blk_some hx id
       have hmem:=List.getElem_mem hlt
       have hsn:=tagsP_snoc pt du fs ver true t k j hlt
       have hpre:=tagsP_pre pt du fs ver true t k (j+1) hkt
       have bE:=tagsP_pre pt du fs ver true t k j hkt
       have hcnt:(tagsP pt du fs ver true t k j).length≤2 ^ 40:=by
        obtain ⟨r,hr⟩:=bE
        rw [hr,List.flatMap_append,List.length_append] at hlenT
        have:=oneTag_many (tagsP pt du fs ver true t k j);omega
       generalize fs[j] = g at *
       have hE5:Ext w4 (wr (w4.alloc (.cells #[.int .i64 0,.int .i64 0,.int .i64 0,.int .i64 0,.int .i64 0,.int .i64 0,.int .i64 0,.slice none 0 0] 50)) w4.heap.size 0 [.int .i64 g.kind,.int .i64 g.fr,.int .i64 g.to,.int .i64 g.null,.int .i64 g.tag,.int .i64 g.df,.int .i64 g.of,vs2]):=(Upd.alloc (Upd.refl _ _) _).wr _ _ (.inl (Nat.le_refl _))
       have hb5:blk (wr (w4.alloc (.cells #[.int .i64 0,.int .i64 0,.int .i64 0,.int .i64 0,.int .i64 0,.int .i64 0,.int .i64 0,.slice none 0 0] 50)) w4.heap.size 0 [.int .i64 g.kind,.int .i64 g.fr,.int .i64 g.to,.int .i64 g.null,.int .i64 g.tag,.int .i64 g.df,.int .i64 g.of,vs2]) w4.heap.size=some (#[.int .i64 g.kind,.int .i64 g.fr,.int .i64 g.to,.int .i64 g.null,.int .i64 g.tag,.int .i64 g.df,.int .i64 g.of,vs2],50,(0,0)):=by
        rw [blk_wr_eq,blk_alloc_new rfl];rfl
       have hz5:(wr (w4.alloc (.cells #[.int .i64 0,.int .i64 0,.int .i64 0,.int .i64 0,.int .i64 0,.int .i64 0,.int .i64 0,.slice none 0 0] 50)) w4.heap.size 0 [.int .i64 g.kind,.int .i64 g.fr,.int .i64 g.to,.int .i64 g.null,.int .i64 g.tag,.int .i64 g.df,.int .i64 g.of,vs2]).heap.size=w4.heap.size+1:=by simp only [size_wr,World.size_alloc]
       repeat ((first|refine qA ?_|apply qB|refine qC ?_|apply qD|apply qE|apply qF|apply qG|apply qH);try simp (disch:=(first|omega|(simp only [qI,qJ,qK]<;>omega)|exact qL _)) only [go_sem,h57,aH,aK,hx4,hxe,hfl2,cellsAt_eight,Int.toNat_natCast])
       generalize (wr (w4.alloc (.cells #[.int .i64 0,.int .i64 0,.int .i64 0,.int .i64 0,.int .i64 0,.int .i64 0,.int .i64 0,.slice none 0 0] 50)) w4.heap.size 0 [.int .i64 g.kind,.int .i64 g.fr,.int .i64 g.to,.int .i64 g.null,.int .i64 g.tag,.int .i64 g.df,.int .i64 g.of,vs2])=w5 at *
       have hb15:=hE5.blk_some hb14 id
       have aB:Ext w3 w5:=hE4.trans hE5
       have hE05:Ext w w5:=hE03.trans aB
       have aF:Ext w5 w5.drew:=(Upd.refl _ _).drew
       by_cases htg:g.tag=k
       ·refine W.drawR (.take 0 (.take 1 (.take 2 (.take 3 (.take 4 (.take 5 (.take 6 (.take 7 (.only 8 (.only 9 (.take 10 (.take 11 .done)))))))))))) NoB mixed (by kernel_rfl) ?_
        simp (disch:=(first|omega|(simp only [qI,qJ,qK]<;>omega)|exact qL _)) only [go_sem,aG,h7,hb5,hb15,cellsAt_five,cellsAt_eight]
        have aI:Ext w w5.drew:=hE05.trans aF
        refine (at_fn (ok:=ok) t j _ _ (ht.keep (aI.keeps _)) (by omega) (by omega)).mono ?_
        rintro v6 w6 ⟨⟨c6,rfl,hc6⟩,hE6⟩
        refine ⟨hE6,?_⟩
        have hE06:Ext w w6:=aI.trans hE6
        refine (husual g hmem (t.at j) _ c6 w6 (FldC.of (hsub2.keep (hE06.keeps _))) hc6 (hsm.at j)).mono ?_
        rintro v7 w7 ⟨rfl,hE7⟩
        have aD:Ext w5.drew w7:=hE6.trans hE7
        have aE:Ext w5 w7:=aF.trans aD
        have aC:Ext w3 w7:=aB.trans aE
        have hE07:Ext w w7:=hE03.trans aC
        refine ⟨aD,?_⟩
        by_cases hus:usualS du g (t.at j)=true
        ·have hF:tagF pt du ver true t k (g,j)=none:=if_neg fun h=>by rw [hus] at h;exact absurd h.2 (by simp)
         rw [hF,Option.toList_none,List.append_nil] at hsn
         simp (disch:=(first|omega|(simp only [qI,qJ,qK]<;>omega)|exact qL _)) only [go_sem,hus]
         repeat ((first|refine qA ?_|apply qB|refine qC ?_|apply qD|apply qE|apply qF|apply qG|apply qH);try simp (disch:=(first|omega|(simp only [qI,qJ,qK]<;>omega)|exact qL _)) only [go_sem,hus,h57])
         refine ⟨⟨j+1,vt,by omega,rfl,aH,aK,aG,aA,a8,h9,h10,by rw [hsn];exact h11,⟨h0,h1,h2,h7,aC⟩,?_⟩,?_⟩
         ·rw [hsn];exact hot.upd (hE5.trans aE) (fun _ _ h=>h)
         ·simp only [RowKit.intOf];omega
        ·have hus':usualS du g (t.at j)=false:=by simpa using hus
         have hF:tagF pt du ver true t k (g,j)=some (k,fieldS pt g ver true (t.at j)):=if_pos ⟨htg,hus'⟩
         rw [hF,Option.toList_some] at hsn
         have bJ:((tagsP pt du fs ver true t k j).flatMap oneTag).length+(fieldS pt g ver true (t.at j)).length≤2 ^ 40:=by
          obtain ⟨r,hr⟩:=hpre
          rw [hr,hsn] at hlenT
          simp only [List.flatMap_append,List.flatMap_cons,List.flatMap_nil,List.append_nil,List.length_append,oneTag] at hlenT
          omega
         have hz57:=aE.size
         have bA:=aE.blk_some hb5 id
         have hb17:=aE.blk_some hb15 id
         simp (disch:=(first|omega|(simp only [qI,qJ,qK]<;>omega)|exact qL _)) only [go_sem,hus']
         repeat ((first|refine qA ?_|apply qB|refine qC ?_|apply qD|apply qE|apply qF|apply qG|apply qH);try simp (disch:=(first|omega|(simp only [qI,qJ,qK]<;>omega)|exact qL _)) only [go_sem,hus'])
         refine W.drawR (.take 0 (.take 1 (.take 2 (.take 3 (.take 4 (.only 5 (.only 6 (.only 7 .done)))))))) NoB mixed (by kernel_rfl) ?_
         simp (disch:=(first|omega|(simp only [qI,qJ,qK]<;>omega)|exact qL _)) only [go_sem,h1,h2,h7,bA,hb17,cellsAt_five,cellsAt_eight]
         have hE7d:Ext w7 w7.drew:=(Upd.refl _ _).drew
         have hE07d:Ext w w7.drew:=hE07.trans hE7d
         refine (at_fn (ok:=ok) t j _ _ (ht.keep (hE07d.keeps _)) (by omega) (by omega)).mono ?_
         rintro v8 w8 ⟨⟨c8,rfl,hc8⟩,hE8⟩
         refine ⟨hE8,?_⟩
         have b6:Ext w w8:=hE07d.trans hE8
         refine (hfield g hmem (t.at j) _ c8 w8 (FldC.of (hsub2.keep (b6.keeps _))) hc8 (hsm.at j) (by omega)).mono ?_
         rintro v9 w9 ⟨aM,hE9⟩
         obtain ⟨ab,cb,rfl,hcb⟩:=aM.len
         have aQ:Ext w7.drew w9:=hE8.trans hE9
         have aY:Ext w4 w9:=hE5.trans (aE.trans (hE7d.trans aQ))
         have b9:Ext w3 w9:=hE4.trans aY
         have hz48:w4.heap.size≤w8.heap.size:=(hE5.trans (aE.trans (hE7d.trans hE8))).size
         have aZ:=hot.upd aY (fun _ _ h=>h)
         have hvb:=Own.bytes (ok:=ownB (.slice ab (fieldS pt g ver true (t.at j)).length cb)) aM fun _ h=>h
         have hsep:∀ b,ownB (.slice ab (fieldS pt g ver true (t.at j)).length cb) b→¬ ownB vt b∧b < w9.heap.size:=fun b hb=>by
          refine ⟨fun h => ?_,Own.below aM hb⟩
          have:=Own.above aM hb
          have:=Own.below hot h
          omega
         have ew1:IntKind.u64.wrap (k:Int)=k:=u64_wrap (by omega)
         have ew2:IntKind.u64.wrap ((fieldS pt g ver true (t.at j)).length:Int)=((fieldS pt g ver true (t.at j)).length:Nat):=u64_wrap (by omega)
         refine ⟨aQ,aQ,?_⟩
         repeat ((first|refine qA ?_|apply qB|refine qC ?_|apply qD|apply qE|apply qF|apply qG|apply qH);try simp (disch:=(first|omega|(simp only [qI,qJ,qK]<;>omega)|exact qL _)) only [go_sem,h10,aG,ew1,ew2])
         refine (Uvarint_fn (k) (by omega) _).mono ?_
         rintro va wa ⟨hoa,hEa⟩
         have hza:=hEa.size
         have b5:=uvarS_len 9 (k) (by omega)
         have bH:=uvarS_len 9 (fieldS pt g ver true (t.at j)).length (by omega)
         have hota:=aZ.upd hEa (fun _ _ h=>h)
         have hvba:=hvb.keep (hEa.keeps _)
         have hEta:Ext w3 wa:=b9.trans hEa
         refine wp_append ap_22_22 (m:=(uvarS (k)).length) (news:=(uvarS (k)).map byteV) (n:=((tagsP pt du fs ver true t k j).flatMap oneTag).length) (cs:=((tagsP pt du fs ver true t k j).flatMap oneTag).map byteV) (v:=vt) ?_ rfl hota (flat_bytes _) ?_ ?_ ?_ ?_
         ·simp (disch:=(first|omega|(simp only [qI,qJ,qK]<;>omega)|exact qL _)) only [go_sem,h10,ew1,ew2]
         ·simp (disch:=(first|omega|(simp only [qI,qJ,qK]<;>omega)|exact qL _)) only [go_sem]
          exact (Own.bytes (ok:=AnyB) hoa fun _ _=>trivial).src
         ·have:=hEta.size;omega
         ·omega
         intro vt1 wb hob hub hfrb
         have hzb:=hub.size
         have hob':=OwnBy.app (s:=(tagsP pt du fs ver true t k j).flatMap oneTag) (t:=uvarS (k)) hob rfl
         have hEtb:Ext w3 wb:=Ext.own hEta aZ hub
         have hvbb:=hvba.keep (hub.keeps fun b _ hb=>(hsep b hb).1)
         have aN:∀ b,_→¬ ownB vt1 b:=fun b hb h=>by rcases hfrb b h with h|h;exact (hsep b hb).1 h;have:=(hsep b hb).2;omega
         simp (disch:=(first|omega|(simp only [qI,qJ,qK]<;>omega)|exact qL _)) only [go_sem,h10,ew1,ew2]
         refine (Uvarint_fn (fieldS pt g ver true (t.at j)).length (by omega) _).mono ?_
         rintro vc wc ⟨hoc,hEc⟩
         have hzc:=hEc.size
         have hotc:=hob'.upd hEc (fun _ _ h=>h)
         have hvbc:=hvbb.keep (hEc.keeps _)
         have hEtc:Ext w3 wc:=hEtb.trans hEc
         refine wp_append ap_22_22 (m:=(uvarS (fieldS pt g ver true (t.at j)).length).length) (news:=(uvarS (fieldS pt g ver true (t.at j)).length).map byteV) (n:=((tagsP pt du fs ver true t k j).flatMap oneTag++uvarS (k)).length) (cs:=((tagsP pt du fs ver true t k j).flatMap oneTag++uvarS (k)).map byteV) (v:=vt1) ?_ rfl hotc (flat_bytes _) ?_ ?_ ?_ ?_
         ·simp (disch:=(first|omega|(simp only [qI,qJ,qK]<;>omega)|exact qL _)) only [go_sem]
         ·simp (disch:=(first|omega|(simp only [qI,qJ,qK]<;>omega)|exact qL _)) only [go_sem]
          exact (Own.bytes (ok:=AnyB) hoc fun _ _=>trivial).src
         ·have:=hEtc.size;omega
         ·simp only [List.length_append];omega
         intro vt2 wd hod hud hfrd
         have hzd:=hud.size
         have hod':=OwnBy.app (s:=(tagsP pt du fs ver true t k j).flatMap oneTag++uvarS (k)) (t:=uvarS (fieldS pt g ver true (t.at j)).length) hod rfl
         have hEtd:Ext w3 wd:=Ext.own hEtc hob' hud
         have hvbd:=hvbc.keep (hud.keeps fun b _ hb=>aN b hb)
         simp (disch:=(first|omega|(simp only [qI,qJ,qK]<;>omega)|exact qL _)) only [go_sem]
         refine wp_append ap_22_22 (m:=(fieldS pt g ver true (t.at j)).length) (news:=(fieldS pt g ver true (t.at j)).map byteV) (n:=((tagsP pt du fs ver true t k j).flatMap oneTag++uvarS (k)++uvarS (fieldS pt g ver true (t.at j)).length).length) (cs:=((tagsP pt du fs ver true t k j).flatMap oneTag++uvarS (k)++uvarS (fieldS pt g ver true (t.at j)).length).map byteV) (v:=vt2) ?_ rfl hod' (flat_bytes _) ?_ ?_ ?_ ?_
         ·simp (disch:=(first|omega|(simp only [qI,qJ,qK]<;>omega)|exact qL _)) only [go_sem]
         ·simp (disch:=(first|omega|(simp only [qI,qJ,qK]<;>omega)|exact qL _)) only [go_sem,h10,ew1,ew2]
          exact hvbd.src
         ·have:=hEtd.size;omega
         ·simp only [List.length_append];omega
         intro vt3 we hoe hue hfre
         have hze:=hue.size
         have hoe':=OwnBy.app (s:=(tagsP pt du fs ver true t k j).flatMap oneTag++uvarS (k)++uvarS (fieldS pt g ver true (t.at j)).length) (t:=fieldS pt g ver true (t.at j)) hoe rfl
         have hEte:Ext w3 we:=Ext.own hEtd hod' hue
         have hone:(tagsP pt du fs ver true t k j).flatMap oneTag++uvarS (k)++uvarS (fieldS pt g ver true (t.at j)).length++fieldS pt g ver true (t.at j)=(tagsP pt du fs ver true t k j).flatMap oneTag++oneTag (k,fieldS pt g ver true (t.at j)):=by simp only [oneTag,List.append_assoc]
         rw [hone] at hoe'
         simp (disch:=(first|omega|(simp only [qI,qJ,qK]<;>omega)|exact qL _)) only [go_sem]
         repeat ((first|refine qA ?_|apply qB|refine qC ?_|apply qD|apply qE|apply qF|apply qG|apply qH);try simp (disch:=(first|omega|(simp only [qI,qJ,qK]<;>omega)|exact qL _)) only [go_sem,h57,h11])
         refine ⟨⟨j+1,vt3,by omega,rfl,aH,aK,aG,aA,a8,h9,rfl,?_,⟨h0,h1,h2,h7,hEte⟩,?_⟩,?_⟩
         ·rw [hsn,List.length_append];rfl
         ·rw [hsn]
          simp only [List.flatMap_append,List.flatMap_cons,List.flatMap_nil,List.append_nil]
          exact hoe'
         ·simp only [RowKit.intOf];omega
       ·have hF:tagF pt du ver true t k (g,j)=none:=if_neg fun h=>htg h.1
        rw [hF,Option.toList_none,List.append_nil] at hsn
        refine W.drawR (.take 0 (.take 1 (.take 2 (.take 3 (.take 4 (.take 5 (.take 6 (.take 7 (.only 8 (.only 9 (.take 10 (.take 11 .done)))))))))))) NoB mixed (by kernel_rfl) ?_
        simp (disch:=(first|omega|(simp only [qI,qJ,qK]<;>omega)|exact qL _)) only [go_sem,aG,h7,hb5,hb15,cellsAt_five,cellsAt_eight]
        repeat ((first|refine qA ?_|apply qB|refine qC ?_|apply qD|apply qE|apply qF|apply qG|apply qH);try simp (disch:=(first|omega|(simp only [qI,qJ,qK]<;>omega)|exact qL _)) only [go_sem,h57])
        refine ⟨⟨j+1,vt,by omega,rfl,aH,aK,aG,aA,a8,h9,h10,by rw [hsn];exact h11,⟨h0,h1,h2,h7,aB.trans aF⟩,?_⟩,?_⟩
        ·rw [hsn];exact hot.upd (hE5.trans aF) (fun _ _ h=>h)
        ·simp only [RowKit.intOf];omega
      ·have hjl:j=fs.length:=by omega
       subst hjl
       repeat ((first|refine qA ?_|apply qB|refine qC ?_|apply qD|apply qE|apply qF|apply qG|apply qH);try simp (disch:=(first|omega|(simp only [qI,qJ,qK]<;>omega)|exact qL _)) only [go_sem,h57,aH])
       exact ⟨vt,aA,a8,h9,h10,h11,⟨h0,h1,h2,h7,hE4⟩,hot⟩
     ·clear h9 h10 h11 h0 h1 h2 h7 aA a8 hot hE4 vt
      rintro ρ w4 ⟨vt,aA,a8,h9,h10,h11,⟨h0,h1,h2,h7,hE4⟩,hot⟩
      rw [tagsP_next] at h11 hot
      simp (disch:=(first|omega|(simp only [qI,qJ,qK]<;>omega)|exact qL _)) only [go_sem]
      repeat ((first|refine qA ?_|apply qB|refine qC ?_|apply qD|apply qE|apply qF|apply qG|apply qH);try simp (disch:=(first|omega|(simp only [qI,qJ,qK]<;>omega)|exact qL _)) only [go_sem,aA])
      refine ⟨⟨k+1,vt,by omega,rfl,a8,h9,h10,h11,⟨h0,h1,h2,h7,hE4⟩,hot⟩,?_⟩
      simp only [RowKit.intOf];omega
    ·have hkl:k=knownS fs:=by omega
     subst hkl
     rw [tagsP_all] at h11 hot
     repeat ((first|refine qA ?_|apply qB|refine qC ?_|apply qD|apply qE|apply qF|apply qG|apply qH);try simp (disch:=(first|omega|(simp only [qI,qJ,qK]<;>omega)|exact qL _)) only [go_sem,aA,a8])
     exact ⟨vt,h9,h10,h11,⟨h0,h1,h2,h7,hE4⟩,hot⟩
   ·clear h10 h11 h0 h1 h2 h7 h9
    rintro ρ w4 ⟨vt,h9,h10,h11,⟨h0,h1,h2,h7,hE4⟩,hot⟩
    have hE04:Ext w w4:=hE03.trans hE4
    have hb14:=hE4.blk_some hb13 id
    simp (disch:=(first|omega|(simp only [qI,qJ,qK]<;>omega)|exact qL _)) only [go_sem]
    repeat ((first|refine qA ?_|apply qB|refine qC ?_|apply qD|apply qE|apply qF|apply qG|apply qH);try simp (disch:=(first|omega|(simp only [qI,qJ,qK]<;>omega)|exact qL _)) only [go_sem,h0,h7,hb14])
    refine (unknown_fn (ok:=fun b=>b < w.heap.size) fs _ t.u vU w4 ((hf.weaken fun b h _=>h).keep (hE04.keeps _)) hfl htag ((hU.weaken fun b h _=>h).keep (hE04.keeps _))).mono ?_
    rintro vu w5 ⟨⟨css,hown,hall⟩,hE5⟩
    have hz5:=hE5.size
    have hz4:=hE4.size
    have aB:Ext w3 w5:=hE4.trans hE5
    have aR:=hot.upd hE5 (fun _ _ h=>h)
    have hul:=unknownS_len fs t.u
    have hcl:=hall.1
    have hsepU:∀ b,ownB vu b→¬ ownB vt b:=fun b hb h=>by
     have:=Own.above hown.1 hb
     have:=Own.below hot h
     omega
    have hwlen:∀ x∈unknownS fs t.u,(wholeS x.2).length≤32767:=fun x _=>by simp only [wholeS,List.length_take];omega
    obtain ⟨au,cu,rfl,hcu⟩:=hown.shape
    have htl:(tagsS pt du fs ver true t).length≤2 ^ 40:=by
     have:=oneTag_many (tagsS pt du fs ver true t);omega
    repeat ((first|refine qA ?_|apply qB|refine qC ?_|apply qD|apply qE|apply qF|apply qG|apply qH);try simp (disch:=(first|omega|(simp only [qI,qJ,qK]<;>omega)|exact qL _)) only [go_sem])
    rw [← hcl] at hsepU hown hcu
    rw [← hcl]
    generalize hUU:unknownS fs t.u=U at *
    generalize hTT:tagsS pt du fs ver true t=T at *
    refine W.exitJ 6 (fun ρ w'=>∃ vt,ρ 9=v∧ρ 10=vt∧ρ 11 = .int .i64 (T.length+U.length:Nat)∧Ext w3 w'∧OwnBy 5 w3.heap.size w' vt (T.flatMap oneTag++U.flatMap unkT))
     (W.loop (fun ρ w'=>∃ (j:Nat) (vt:Value),j≤U.length∧ρ 102 = .int .i64 j∧ρ 101 = .int .i64 U.length∧ρ 100 = .slice au U.length cu∧ρ 9=v∧ρ 10=vt∧ρ 11 = .int .i64 (T.length+j:Nat)∧Ext w3 w' ∧
       OwnE w4.heap.size w' 63 2 (.slice au U.length cu) css∧(∀ b,ownB (.slice au U.length cu) b→¬ ownB vt b)∧OwnBy 5 w3.heap.size w' vt (T.flatMap oneTag++(U.take j).flatMap unkT))
      (fun ρ _=>U.length - (RowKit.intOf (ρ 102)).toNat) ?_ ?_) ?_
    ·refine ⟨0,vt,Nat.zero_le _,?_,?_,?_,?_,?_,?_,aB,hown,hsepU,?_⟩<;>try simp (disch:=(first|omega|(simp only [qI,qJ,qK]<;>omega)|exact qL _)) only [go_sem,h9,h10,h11]
     ·rfl
     ·rw [List.take_zero,List.flatMap_nil,List.append_nil];exact aR
    ·clear h9 h10 h11 h0 h1 h2 h7 hot aR hsepU hown hb14 aB
     rintro ρ w6 ⟨j,vt,hj,aP,aO,aV,h9,h10,h11,hE6,hown,hsepU,hot⟩
     have hz6:=hE6.size
     by_cases hlt:j < U.length
     ·obtain ⟨g,cap,x,hv,hcap,hBg,hgl,hgb,hg1,hg2,hg3⟩:=hown.view (by omega)
      rw [← hcl] at hv
      cases hv
      obtain ⟨vv,hcs,hbv,h32⟩:=hall.2 j hlt (by omega)
      have hx2:=hg2 j (by omega)
      have hx3:=hg1 j (by omega)
      rw [hcs] at hx2
      have hfv:=hbv.flat
      have hwl:=hwlen U[j] (List.getElem_mem hlt)
      have hsn:(U.take (j+1)).flatMap unkT=(U.take j).flatMap unkT++unkT U[j]:=by
       rw [List.take_succ_eq_append_getElem hlt]
       simp only [List.flatMap_append,List.flatMap_cons,List.flatMap_nil,List.append_nil]
      have hle:(T.flatMap oneTag++(U.take j).flatMap unkT).length+(wholeS U[j].2).length≤2 ^ 40:=by
       have h:U.flatMap unkT=(U.take (j+1)).flatMap unkT++(U.drop (j+1)).flatMap unkT:=by
        rw [← List.flatMap_append,List.take_append_drop]
       rw [h,hsn] at hlenU
       simp only [List.length_append,unkT,oneTag] at hlenU ⊢
       omega
      have hE7:Ext w6 (wr (w6.alloc (.cells #[.int .u32 0,.slice none 0 0] 63)) w6.heap.size 0 [.int .u32 U[j].1,vv]):=(Upd.alloc (Upd.refl _ _) _).wr _ _ (.inl (Nat.le_refl _))
      have hb7:blk (wr (w6.alloc (.cells #[.int .u32 0,.slice none 0 0] 63)) w6.heap.size 0 [.int .u32 U[j].1,vv]) w6.heap.size=some (#[.int .u32 U[j].1,vv],63,(0,0)):=by
       rw [blk_wr_eq,blk_alloc_new rfl];rfl
      repeat ((first|refine qA ?_|apply qB|refine qC ?_|apply qD|apply qE|apply qF|apply qG|apply qH);try simp (disch:=(first|omega|(simp only [qI,qJ,qK]<;>omega)|exact qL _)) only [go_sem,aP,aO,aV,hgb,hx2,hx3.1,hfv,cellsAt_two,Int.toNat_natCast])
      generalize (wr (w6.alloc (.cells #[.int .u32 0,.slice none 0 0] 63)) w6.heap.size 0 [.int .u32 U[j].1,vv])=w7 at *
      have aC:Ext w3 w7:=hE6.trans hE7
      have hE07:Ext w w7:=hE03.trans aC
      have hE47:Keeps (fun b=>b < w.heap.size) w4 w7:=fun b hb hk=>by
       have h1:=hE04.keep b hk id
       have h2:=hE07.keep b hk id
       rw [h1,h2]
      refine (whole_fn (ok:=fun b=>b < w.heap.size) U[j].2 vv w7 (hbv.keep hE47)).mono ?_
      rintro vw w7' ⟨hvw,hw7⟩
      obtain rfl:=hw7.symm
      obtain ⟨ab,cb,rfl,hcb⟩:=hvw.shape
      have aT:=hot.upd hE7 (fun _ _ h=>h)
      have bD:=hown.upd hE7 (fun _ _ h=>h)
      have hz7:=hE7.size
      have bC:(T.flatMap oneTag++(U.take (j+1)).flatMap unkT)=T.flatMap oneTag++(U.take j).flatMap unkT++oneTag (U[j].1,wholeS U[j].2):=by
       rw [hsn,List.append_assoc];rfl
      generalize T.flatMap oneTag++(U.take j).flatMap unkT=sT at *
      have hsep:∀ b,b < w.heap.size→¬ ownB vt b∧b < w7.heap.size:=fun b hb=>⟨fun h=>by have:=Own.above aT h;omega,by omega⟩
      have ew0:IntKind.u64.wrap (U[j].1:Int)=U[j].1:=u64_wrap (by omega)
      have ew2:IntKind.u64.wrap ((wholeS U[j].2).length:Int)=((wholeS U[j].2).length:Nat):=u64_wrap (by omega)
      repeat ((first|refine qA ?_|apply qB|refine qC ?_|apply qD|apply qE|apply qF|apply qG|apply qH);try simp (disch:=(first|omega|(simp only [qI,qJ,qK]<;>omega)|exact qL _)) only [go_sem,hb7,h10,ew0,ew2])
      refine (Uvarint_fn (U[j].1) (by omega) _).mono ?_
      rintro va wa ⟨hoa,hEa⟩
      have hza:=hEa.size
      have b5:=uvarS_len 9 (U[j].1) (by omega)
      have bH:=uvarS_len 9 (wholeS U[j].2).length (by omega)
      have hota:=aT.upd hEa (fun _ _ h=>h)
      have hvba:=hvw.keep (hEa.keeps _)
      have hEta:Ext w3 wa:=aC.trans hEa
      refine wp_append ap_22_22 (m:=(uvarS (U[j].1)).length) (news:=(uvarS (U[j].1)).map byteV) (n:=(sT).length) (cs:=(sT).map byteV) (v:=vt) ?_ rfl hota (flat_bytes _) ?_ ?_ ?_ ?_
      ·simp (disch:=(first|omega|(simp only [qI,qJ,qK]<;>omega)|exact qL _)) only [go_sem,h10,ew0,ew2]
      ·simp (disch:=(first|omega|(simp only [qI,qJ,qK]<;>omega)|exact qL _)) only [go_sem]
       exact (Own.bytes (ok:=AnyB) hoa fun _ _=>trivial).src
      ·have:=hEta.size;omega
      ·omega
      intro vt1 wb hob hub hfrb
      have hzb:=hub.size
      have hob':=OwnBy.app (s:=sT) (t:=uvarS (U[j].1)) hob rfl
      have hEtb:Ext w3 wb:=Ext.own hEta aT hub
      have hvbb:=hvba.keep (hub.keeps fun b _ hb=>(hsep b hb).1)
      have aN:∀ b,_→¬ ownB vt1 b:=fun b hb h=>by rcases hfrb b h with h|h;exact (hsep b hb).1 h;have:=(hsep b hb).2;omega
      simp (disch:=(first|omega|(simp only [qI,qJ,qK]<;>omega)|exact qL _)) only [go_sem,h10,ew0,ew2]
      refine (Uvarint_fn (wholeS U[j].2).length (by omega) _).mono ?_
      rintro vc wc ⟨hoc,hEc⟩
      have hzc:=hEc.size
      have hotc:=hob'.upd hEc (fun _ _ h=>h)
      have hvbc:=hvbb.keep (hEc.keeps _)
      have hEtc:Ext w3 wc:=hEtb.trans hEc
      refine wp_append ap_22_22 (m:=(uvarS (wholeS U[j].2).length).length) (news:=(uvarS (wholeS U[j].2).length).map byteV) (n:=(sT++uvarS (U[j].1)).length) (cs:=(sT++uvarS (U[j].1)).map byteV) (v:=vt1) ?_ rfl hotc (flat_bytes _) ?_ ?_ ?_ ?_
      ·simp (disch:=(first|omega|(simp only [qI,qJ,qK]<;>omega)|exact qL _)) only [go_sem]
      ·simp (disch:=(first|omega|(simp only [qI,qJ,qK]<;>omega)|exact qL _)) only [go_sem]
       exact (Own.bytes (ok:=AnyB) hoc fun _ _=>trivial).src
      ·have:=hEtc.size;omega
      ·simp only [List.length_append];omega
      intro vt2 wd hod hud hfrd
      have hzd:=hud.size
      have hod':=OwnBy.app (s:=sT++uvarS (U[j].1)) (t:=uvarS (wholeS U[j].2).length) hod rfl
      have hEtd:Ext w3 wd:=Ext.own hEtc hob' hud
      have hvbd:=hvbc.keep (hud.keeps fun b _ hb=>aN b hb)
      simp (disch:=(first|omega|(simp only [qI,qJ,qK]<;>omega)|exact qL _)) only [go_sem]
      refine wp_append ap_22_22 (m:=(wholeS U[j].2).length) (news:=(wholeS U[j].2).map byteV) (n:=(sT++uvarS (U[j].1)++uvarS (wholeS U[j].2).length).length) (cs:=(sT++uvarS (U[j].1)++uvarS (wholeS U[j].2).length).map byteV) (v:=vt2) ?_ rfl hod' (flat_bytes _) ?_ ?_ ?_ ?_
      ·simp (disch:=(first|omega|(simp only [qI,qJ,qK]<;>omega)|exact qL _)) only [go_sem]
      ·simp (disch:=(first|omega|(simp only [qI,qJ,qK]<;>omega)|exact qL _)) only [go_sem,h10,ew0,ew2]
       exact hvbd.src
      ·have:=hEtd.size;omega
      ·simp only [List.length_append];omega
      intro vt3 we hoe hue hfre
      have hze:=hue.size
      have hoe':=OwnBy.app (s:=sT++uvarS (U[j].1)++uvarS (wholeS U[j].2).length) (t:=wholeS U[j].2) hoe rfl
      have hEte:Ext w3 we:=Ext.own hEtd hod' hue
      have hone:sT++uvarS (U[j].1)++uvarS (wholeS U[j].2).length++wholeS U[j].2=sT++oneTag (U[j].1,wholeS U[j].2):=by simp only [oneTag,List.append_assoc]
      rw [hone] at hoe'
      simp (disch:=(first|omega|(simp only [qI,qJ,qK]<;>omega)|exact qL _)) only [go_sem]
      have bF:∀ b,ownB (.slice (some ⟨g,0,none⟩) U.length cu) b→¬ ownB vt3 b:=fun b hb h=>by
       have h6:=Own.below hown.1 hb
       rcases hfre b h with h|h
       ·rcases hfrd b h with h|h
        ·rcases hfrb b h with h|h
         ·exact hsepU b hb h
         ·omega
        ·omega
       ·omega
      have hownE:OwnE w4.heap.size we 63 2 (.slice (some ⟨g,0,none⟩) U.length cu) css :=
       ((((bD.upd hEa (fun _ _ h=>h)).upd hub (fun b hb=>hsepU b hb)).upd hEc (fun _ _ h=>h)).upd hud (fun b hb h=>by
        have h6:=Own.below hown.1 hb
        rcases hfrb b h with h|h
        ·exact hsepU b hb h
        ·omega)).upd hue (fun b hb h=>by
        have h6:=Own.below hown.1 hb
        rcases hfrd b h with h|h
        ·rcases hfrb b h with h|h
         ·exact hsepU b hb h
         ·omega
        ·omega)
      repeat ((first|refine qA ?_|apply qB|refine qC ?_|apply qD|apply qE|apply qF|apply qG|apply qH);try simp (disch:=(first|omega|(simp only [qI,qJ,qK]<;>omega)|exact qL _)) only [go_sem,h11,aP])
      refine ⟨⟨j+1,vt3,by omega,rfl,aO,aV,h9,rfl,rfl,hEte,hownE,bF,?_⟩,?_⟩
      ·rw [bC];exact hoe'
      ·simp only [RowKit.intOf];omega
     ·have hjl:j=U.length:=by omega
      subst hjl
      rw [List.take_length] at hot
      repeat ((first|refine qA ?_|apply qB|refine qC ?_|apply qD|apply qE|apply qF|apply qG|apply qH);try simp (disch:=(first|omega|(simp only [qI,qJ,qK]<;>omega)|exact qL _)) only [go_sem,aP,aO])
      exact ⟨vt,h9,h10,h11,hE6,hot⟩
    ·clear h9 h10 h11 h0 h1 h2 h7 hot aR hsepU hown hb14 aB
     rintro ρ w6 ⟨vt,h9,h10,h11,hE6,hot⟩
     have hz6:=hE6.size
     have hU':=unknownS_len fs t.u
     have ho6:=ho.upd hE6 (fun _ _ h=>h)
     have hE26:Ext w2 w6:=hE3.trans hE6
     have ew:IntKind.u64.wrap ((T.length+U.length:Nat):Int)=(T.length+U.length:Nat):=u64_wrap (by omega)
     simp (disch:=(first|omega|(simp only [qI,qJ,qK]<;>omega)|exact qL _)) only [go_sem]
     have hpt:partT pt du fs ver true t=plainS pt fs ver true t++uvarS (T.length+U.length)++(T.flatMap oneTag++U.flatMap unkT):=by
      unfold partT
      rw [if_pos rfl,hTT,hUU,List.append_assoc]
     have hbelow:∀ b,ownB v b→b < w3.heap.size:=fun b hb=>Own.below ho hb
     rw [hpt] at hlen ⊢
     generalize plainS pt fs ver true t=sP at *
     generalize T.flatMap oneTag++U.flatMap unkT=sT at *
     have hvt:=Own.bytes (ok:=ownB vt) hot fun _ h=>h
     have hsep:∀ b,ownB vt b→¬ ownB v b∧b < w6.heap.size:=fun b hb=>by
      refine ⟨fun h => ?_,Own.below hot hb⟩
      have:=Own.above hot hb
      have:=hbelow b h
      omega
     obtain ⟨at',ct',rfl,hct'⟩:=hot.len
     have b5:=uvarS_len 9 (T.length+U.length) (by omega)
     repeat ((first|refine qA ?_|apply qB|refine qC ?_|apply qD|apply qE|apply qF|apply qG|apply qH);try simp (disch:=(first|omega|(simp only [qI,qJ,qK]<;>omega)|exact qL _)) only [go_sem,h9,h11,ew])
     refine (Uvarint_fn (T.length+U.length) (by omega) _).mono ?_
     rintro va wa ⟨hoa,hEa⟩
     have hza:=hEa.size
     have aW:Ext w2 wa:=hE26.trans hEa
     have bB:=Own.upd ho6 hEa (fun _ _ h=>h)
     have hvta:=hvt.keep (hEa.keeps _)
     refine wp_append ap_22_22 (m:=(uvarS (T.length+U.length)).length) (news:=(uvarS (T.length+U.length)).map byteV) (n:=sP.length) (cs:=sP.map byteV) (v:=v) ?_ rfl bB (flat_bytes _) ?_ ?_ ?_ ?_
     ·simp (disch:=(first|omega|(simp only [qI,qJ,qK]<;>omega)|exact qL _)) only [go_sem]
     ·simp (disch:=(first|omega|(simp only [qI,qJ,qK]<;>omega)|exact qL _)) only [go_sem]
      exact (Own.bytes (ok:=AnyB) hoa fun _ _=>trivial).src
     ·have:=aW.size;omega
     ·omega
     intro v1 wb hob hub hfrb
     have hzb:=hub.size
     have hob':=OwnBy.app (s:=sP) (t:=uvarS (T.length+U.length)) hob rfl
     have aX:Ext w2 wb:=Ext.own aW ho6 hub
     have hvtb:=hvta.keep (hub.keeps fun b _ hb=>(hsep b hb).1)
     have aN:∀ b,ownB (.slice at' sT.length ct') b→¬ ownB v1 b:=fun b hb h=>by
      rcases hfrb b h with h|h
      ·exact (hsep b hb).1 h
      ·have:=(hsep b hb).2;omega
     simp (disch:=(first|omega|(simp only [qI,qJ,qK]<;>omega)|exact qL _)) only [go_sem,h10]
     refine wp_append ap_22_22 (m:=sT.length) (news:=sT.map byteV) (n:=(sP++uvarS (T.length+U.length)).length) (cs:=(sP++uvarS (T.length+U.length)).map byteV) (v:=v1) ?_ rfl hob' (flat_bytes _) ?_ ?_ ?_ ?_
     ·simp (disch:=(first|omega|(simp only [qI,qJ,qK]<;>omega)|exact qL _)) only [go_sem]
     ·simp (disch:=(first|omega|(simp only [qI,qJ,qK]<;>omega)|exact qL _)) only [go_sem,h10]
      exact hvtb.src
     ·have:=aX.size;omega
     ·simp only [List.length_append] at hlen ⊢;omega
     intro v2 wc hoc huc hfrc
     have hoc':=OwnBy.app (s:=sP++uvarS (T.length+U.length)) (t:=sT) hoc rfl
     have b7:Ext w2 wc:=Ext.own aX hob' huc
     simp (disch:=(first|omega|(simp only [qI,qJ,qK]<;>omega)|exact qL _)) only [go_sem]
     repeat ((first|refine qA ?_|apply qB|refine qC ?_|apply qD|apply qE|apply qF|apply qG|apply qH);try simp (disch:=(first|omega|(simp only [qI,qJ,qK]<;>omega)|exact qL _)) only [go_sem])
     exact ⟨hoc'.mono (by omega),hE.trans b7⟩

theorem part_ok {ok:Blocks}:∀ d,PartOk ok d (partS (d+1)):=by
 intro d
 induction d with
 | zero =>
  intro fs ver flex t vs ct w h1 h2 h3 h4 h5
  have hnil:fs=[]:=by simpa [okF] using h2
  subst hnil
  rw [partS_eq] at h5 ⊢
  exact part_fn (partS 0) 1 [] ver flex t vs ct w h1 (by simp) (fun f h=>by simp at h) h3 h4 (fun f h=>by simp at h) (fun f h=>by simp at h) h5
 | succ d ih =>
  intro fs ver flex t vs ct w h1 h2 h3 h4 h5
  rw [partS_eq] at h5 ⊢
  refine part_fn (partS (d+1)) (d+2) fs ver flex t vs ct w h1 (okF_len h2) (okF_tag h2) h3 h4 ?_ ?_ h5
  ·intro f hf x cf cx w' g1 g2 g3 g4
   obtain ⟨e,he,hB,hok⟩:=okF_el h2 hf
   cases he
   exact field_fn ih f ver flex x cf cx w' g1 hok g2 g3 g4
  ·intro f hf x cf cx w' g1 g2 g3
   obtain ⟨e,he,hB,hok⟩:=okF_el h2 hf
   cases he
   exact usual_fn (d+1) f x cf cx w' g1 g2 (okF_mono d _ hok) hB g3
end Ms

namespace Ms
def flexB (flex ver:Int):Bool:=decide (0≤flex) && decide (flex≤ver)
end Ms

namespace Ms
open Go.World renaming size_alloc → qI
open Ms renaming size_wr → qJ,size_drew → qK,not_noB → qL
open W renaming seqF → qA,seq → qB,regF → qC,condK → qD,block → qE,skip → qF,ret → qG,exit → qH
set_option maxRecDepth 4000
open Go Go.Proofs
attribute [local congr] W_congr WPsq_congr WPp_congr optK_congr addrK_congr intK_congr boolK_congr sliceK_congr tupleK_congr funcK_congr Fn_congr rawK_congr takeK_congr stepK_congr convK_congr aggK_congr

theorem FldsV.lit {w:World} {b:Nat} {fr:Nat × Nat} {T:TypeId} {fs:List Fld} {css:List (List Value)} (h:blk w b=some (css.flatten.toArray,T,fr)) (hl:∀ cs∈css,cs.length=8) (ha:All2 (FldC AnyB w) fs css) :
  FldsV AnyB w (.slice (some ⟨b,0,none⟩) fs.length fs.length) fs:=by
 refine ⟨css,⟨some ⟨b,0,none⟩,fs.length,by rw [ha.1],by rw [ha.1];exact Nat.le_refl _,hl,.inr ⟨_,rfl,rfl,trivial,_,h,fun i hi => ?_⟩⟩,ha⟩
 simp only [Nat.zero_add,List.getElem?_toArray]
theorem FldsV.nil (w:World):FldsV AnyB w (.slice none 0 0) []:=⟨[],⟨none,0,rfl,Nat.le_refl _,by simp,.inl rfl⟩,rfl,fun i h=>by simp at h⟩

theorem Write_fn {ok:Blocks} {d:Nat} (fs:List Fld) (flex ver:Int) (t:Tree) (vs:Value) (ct:List Value) (w:World) (hf:FldsV ok w vs fs) (hok:okF d fs=true) (ht:TreeC ok w t ct) (hsm:Small 4611686018427387903 t) (hlen:(partS (d+1) fs ver (flexB flex ver) t).length≤2 ^ 40) :
  Fn Tryz.prog 9 #[.agg #[vs,.int .i64 flex],.int .i64 ver,.agg ct.toArray] w fun r w'=>OwnBy 5 w.heap.size w' r (partS (d+1) fs ver (flexB flex ver) t)∧Ext w w':=by
 obtain ⟨vS,vL,vU,rfl,hn,hS,hL,hU⟩:=ht.inv
 have f0:=SlR.flat hf
 have f1:=hS.flat
 have f2:=SlR.flat hL
 have f3:=SlR.flat hU
 have hE:Ext w ((w.alloc (.cells #[vs,.int .i64 flex] 31)).alloc (.cells #[.int .i64 t.n,vS,.bool t.null,vL,vU] 26)):=Upd.alloc (Upd.alloc (Upd.refl _ _) _) _
 refine fn_of_W Tryz.func9 rfl Tryz.results9 Tryz.ntmps9 rfl ?_
 by_cases h1:0≤flex
 ·by_cases h2:flex≤ver
  ·have e:flexB flex ver=true:=by simp [flexB,h1,h2]
   rw [e] at hlen ⊢
   repeat ((first|refine qA ?_|apply qB|refine qC ?_|apply qD|apply qE|apply qF|apply qG|apply qH);try simp (disch:=(first|omega|(simp only [qI,qJ,qK]<;>omega)|exact qL _)) only [go_sem,f0,f1,f2,f3,cellsAt_five,cellsAt_two])
   refine (part_ok (ok:=ok) d fs ver true t vs _ _ (hf.keep (hE.keeps _)) hok (ht.keep (hE.keeps _)) hsm hlen).mono ?_
   rintro r w' ⟨ho,he⟩
   repeat ((first|refine qA ?_|apply qB|refine qC ?_|apply qD|apply qE|apply qF|apply qG|apply qH);try simp (disch:=(first|omega|(simp only [qI,qJ,qK]<;>omega)|exact qL _)) only [go_sem])
   exact ⟨ho.mono (by simp only [World.size_alloc];omega),hE.trans he⟩
  ·have e:flexB flex ver=false:=by simp [flexB,h2]
   rw [e] at hlen ⊢
   repeat ((first|refine qA ?_|apply qB|refine qC ?_|apply qD|apply qE|apply qF|apply qG|apply qH);try simp (disch:=(first|omega|(simp only [qI,qJ,qK]<;>omega)|exact qL _)) only [go_sem,f0,f1,f2,f3,cellsAt_five,cellsAt_two])
   refine (part_ok (ok:=ok) d fs ver false t vs _ _ (hf.keep (hE.keeps _)) hok (ht.keep (hE.keeps _)) hsm hlen).mono ?_
   rintro r w' ⟨ho,he⟩
   repeat ((first|refine qA ?_|apply qB|refine qC ?_|apply qD|apply qE|apply qF|apply qG|apply qH);try simp (disch:=(first|omega|(simp only [qI,qJ,qK]<;>omega)|exact qL _)) only [go_sem])
   exact ⟨ho.mono (by simp only [World.size_alloc];omega),hE.trans he⟩
 ·have e:flexB flex ver=false:=by simp [flexB,h1]
  rw [e] at hlen ⊢
  repeat ((first|refine qA ?_|apply qB|refine qC ?_|apply qD|apply qE|apply qF|apply qG|apply qH);try simp (disch:=(first|omega|(simp only [qI,qJ,qK]<;>omega)|exact qL _)) only [go_sem,f0,f1,f2,f3,cellsAt_five,cellsAt_two])
  refine (part_ok (ok:=ok) d fs ver false t vs _ _ (hf.keep (hE.keeps _)) hok (ht.keep (hE.keeps _)) hsm hlen).mono ?_
  rintro r w' ⟨ho,he⟩
  repeat ((first|refine qA ?_|apply qB|refine qC ?_|apply qD|apply qE|apply qF|apply qG|apply qH);try simp (disch:=(first|omega|(simp only [qI,qJ,qK]<;>omega)|exact qL _)) only [go_sem])
  exact ⟨ho.mono (by simp only [World.size_alloc];omega),hE.trans he⟩

theorem zzFits3_fn {ok:Blocks} (t:TagD) (ct:List Value) (w:World) (ht:TagC ok w t ct):Fn Tryz.prog 25 #[.agg ct.toArray] w fun r w'=>(∃ b,r = .bool b)∧Ext w w':=by
 obtain ⟨vv,rfl,hb,h32⟩:=ht
 obtain ⟨bv,cv,rfl,hcv⟩:=hb.shape
 have hE:Ext w (w.alloc (.cells #[.int .u32 t.1,.slice bv t.2.length cv] 63)):=Upd.alloc (Upd.refl _ _) _
 refine fn_of_W Tryz.func25 rfl Tryz.results25 Tryz.ntmps25 rfl ?_
 by_cases h1:(2147483647:Int) < (t.2.length:Int)
 ·repeat ((first|refine qA ?_|apply qB|refine qC ?_|apply qD|apply qE|apply qF|apply qG|apply qH);try simp (disch:=(first|omega|(simp only [qI,qJ,qK]<;>omega)|exact qL _)) only [go_sem])
  exact ⟨⟨_,rfl⟩,hE⟩
 ·repeat ((first|refine qA ?_|apply qB|refine qC ?_|apply qD|apply qE|apply qF|apply qG|apply qH);try simp (disch:=(first|omega|(simp only [qI,qJ,qK]<;>omega)|exact qL _)) only [go_sem])
  exact ⟨⟨_,rfl⟩,hE⟩

theorem zzFits2_fn {ok:Blocks} (l:List TagD) (vl:Value) (w:World) (hl:TagsV ok w vl l) (hlen:l.length≤4611686018427387903):Fn Tryz.prog 12 #[vl] w fun r w'=>(∃ b,r = .bool b)∧Ext w w':=by
 obtain ⟨base,cap,rfl,hcap⟩:=SlR.shape hl
 refine fn_of_W Tryz.func12 rfl Tryz.results12 Tryz.ntmps12 rfl ?_
 by_cases h1:(2147483647:Int) < (l.length:Int)
 ·repeat ((first|refine qA ?_|apply qB|refine qC ?_|apply qD|apply qE|apply qF|apply qG|apply qH);try simp (disch:=(first|omega|(simp only [qI,qJ,qK]<;>omega)|exact qL _)) only [go_sem])
  exact ⟨⟨_,rfl⟩,Upd.refl _ _⟩
 ·repeat ((first|refine qA ?_|apply qB|refine qC ?_|apply qD|apply qE|apply qF|apply qG|apply qH);try simp (disch:=(first|omega|(simp only [qI,qJ,qK]<;>omega)|exact qL _)) only [go_sem])
  refine W.loop (fun ρ w'=>∃ j:Nat,j≤l.length∧ρ 10 = .int .i64 j∧ρ 9 = .int .i64 l.length∧ρ 8 = .slice base l.length cap∧Ext w w')
   (fun ρ _=>l.length - (RowKit.intOf (ρ 10)).toNat) ?_ ?_
  ·refine ⟨0,Nat.zero_le _,?_,?_,?_,Upd.refl _ _⟩<;>simp (disch:=(first|omega|(simp only [qI,qJ,qK]<;>omega)|exact qL _)) only [go_sem]
   all_goals rfl
  ·rintro ρ w1 ⟨j,hj,h10,h9,h8,hext⟩
   by_cases hlt:j < l.length
   ·obtain ⟨_,b,o,x,vv,hb,hokb,hx,hblt,hxs,hxe,_,_,hfv,hbv,h32⟩:=TagsV.get hl hlt
    subst hb
    have hx1:blk w1 b=some x:=hext.blk_some hx id
    generalize l[j] = u at *
    have hE2:Ext w1 (wr (w1.alloc (.cells #[.int .u32 0,.slice none 0 0] 63)) w1.heap.size 0 [.int .u32 u.1,vv]):=(Upd.alloc (Upd.refl _ _) _).wr _ _ (.inl (Nat.le_refl _))
    have hb2:blk (wr (w1.alloc (.cells #[.int .u32 0,.slice none 0 0] 63)) w1.heap.size 0 [.int .u32 u.1,vv]) w1.heap.size=some (#[.int .u32 u.1,vv],63,(0,0)):=by simp (disch:=(first|omega|(simp only [qI,qJ,qK]<;>omega)|exact qL _)) only [go_sem]
    repeat ((first|refine qA ?_|apply qB|refine qC ?_|apply qD|apply qE|apply qF|apply qG|apply qH);try simp (disch:=(first|omega|(simp only [qI,qJ,qK]<;>omega)|exact qL _)) only [go_sem,h10,h9,h8,hx1,hxe,hfv,cellsAt_two,Int.toNat_natCast])
    generalize (wr (w1.alloc (.cells #[.int .u32 0,.slice none 0 0] 63)) w1.heap.size 0 [.int .u32 u.1,vv])=w2 at *
    refine (zzFits3_fn (ok:=ok) u _ w2 ⟨vv,rfl,hbv.keep (Ext.keeps (hext.trans hE2) _),h32⟩).mono ?_
    rintro r w3 ⟨⟨bb,rfl⟩,hE3⟩
    have hE03:Ext w w3:=(hext.trans hE2).trans hE3
    cases bb with
    | true =>
     simp (disch:=(first|omega|(simp only [qI,qJ,qK]<;>omega)|exact qL _)) only [go_sem]
     repeat ((first|refine qA ?_|apply qB|refine qC ?_|apply qD|apply qE|apply qF|apply qG|apply qH);try simp (disch:=(first|omega|(simp only [qI,qJ,qK]<;>omega)|exact qL _)) only [go_sem,h10])
     refine ⟨⟨j+1,by omega,rfl,h9,h8,hE03⟩,?_⟩
     simp only [RowKit.intOf];omega
    | false =>
     simp (disch:=(first|omega|(simp only [qI,qJ,qK]<;>omega)|exact qL _)) only [go_sem]
     repeat ((first|refine qA ?_|apply qB|refine qC ?_|apply qD|apply qE|apply qF|apply qG|apply qH);try simp (disch:=(first|omega|(simp only [qI,qJ,qK]<;>omega)|exact qL _)) only [go_sem,h10])
     exact ⟨⟨_,rfl⟩,hE03⟩
   ·repeat ((first|refine qA ?_|apply qB|refine qC ?_|apply qD|apply qE|apply qF|apply qG|apply qH);try simp (disch:=(first|omega|(simp only [qI,qJ,qK]<;>omega)|exact qL _)) only [go_sem,h10,h9])
    exact ⟨⟨_,rfl⟩,hext⟩

theorem zzFits1_fn {ok:Blocks} (t:Tree) (ct:List Value) (w:World) (ht:TreeC ok w t ct) (hsm:Small 4611686018427387903 t):Fn Tryz.prog 4 #[.agg ct.toArray] w fun r w'=>(∃ b,r = .bool b)∧Ext w w':=by
 obtain ⟨vS,vL,vU,rfl,hn,hS,hL,hU⟩:=ht.inv
 obtain ⟨bS,cS,rfl,hcS⟩:=hS.shape
 obtain ⟨bl,cl,rfl,hcl⟩:=SlR.shape hL
 have f3:=SlR.flat hU
 have hE:Ext w (w.alloc (.cells #[.int .i64 t.n,.slice bS t.s.length cS,.bool t.null,.slice bl t.l.length cl,vU] 26)):=Upd.alloc (Upd.refl _ _) _
 refine fn_of_W Tryz.func4 rfl Tryz.results4 Tryz.ntmps4 rfl ?_
 by_cases h1:(2147483647:Int) < (t.s.length:Int)
 ·repeat ((first|refine qA ?_|apply qB|refine qC ?_|apply qD|apply qE|apply qF|apply qG|apply qH);try simp (disch:=(first|omega|(simp only [qI,qJ,qK]<;>omega)|exact qL _)) only [go_sem,f3])
  exact ⟨⟨_,rfl⟩,hE⟩
 by_cases h2:(2147483647:Int) < (t.l.length:Int)
 ·repeat ((first|refine qA ?_|apply qB|refine qC ?_|apply qD|apply qE|apply qF|apply qG|apply qH);try simp (disch:=(first|omega|(simp only [qI,qJ,qK]<;>omega)|exact qL _)) only [go_sem,f3])
  exact ⟨⟨_,rfl⟩,hE⟩
 repeat ((first|refine qA ?_|apply qB|refine qC ?_|apply qD|apply qE|apply qF|apply qG|apply qH);try simp (disch:=(first|omega|(simp only [qI,qJ,qK]<;>omega)|exact qL _)) only [go_sem,f3])
 refine (zzFits2_fn (ok:=ok) t.u vU _ (hU.keep (hE.keeps _)) hsm.u).mono ?_
 rintro r w3 ⟨⟨bb,rfl⟩,hE3⟩
 cases bb with
 | true =>
  simp (disch:=(first|omega|(simp only [qI,qJ,qK]<;>omega)|exact qL _)) only [go_sem]
  repeat ((first|refine qA ?_|apply qB|refine qC ?_|apply qD|apply qE|apply qF|apply qG|apply qH);try simp (disch:=(first|omega|(simp only [qI,qJ,qK]<;>omega)|exact qL _)) only [go_sem])
  exact ⟨⟨_,rfl⟩,hE.trans hE3⟩
 | false =>
  simp (disch:=(first|omega|(simp only [qI,qJ,qK]<;>omega)|exact qL _)) only [go_sem]
  repeat ((first|refine qA ?_|apply qB|refine qC ?_|apply qD|apply qE|apply qF|apply qG|apply qH);try simp (disch:=(first|omega|(simp only [qI,qJ,qK]<;>omega)|exact qL _)) only [go_sem])
  exact ⟨⟨_,rfl⟩,hE.trans hE3⟩
end Ms

namespace Ms
open Go

inductive Sized : Nat→Tree→Prop
 | mk {N:Nat} {n:Int} {s:List UInt8} {null:Bool} {l:List Tree} {u:List TagD} (ns:List Nat) (hl:ns.length=l.length) (he:∀ i (h1:i < l.length) (h2:i < ns.length),Sized ns[i] l[i])
   (hk:∀ x∈u,x.1 < 4294967296) (hN:1+s.length+ns.sum+(u.map fun x=>x.2.length+1).sum≤N):Sized N (.mk n s null l u)
theorem Sized.zero : Sized 1 .zero:=.mk [] rfl (fun i h=>by simp at h) (fun x h=>by simp at h) (by simp)
theorem Sized.mono {N M:Nat} {t:Tree} (h:Sized N t) (hm:N≤M):Sized M t:=by
 cases h with
 | mk ns hl he hk hN=>exact .mk ns hl he hk (by omega)
theorem Sized.pos {N:Nat} {t:Tree} (h:Sized N t):1≤N:=by
 cases h with
 | mk ns hl he hk hN=>omega
theorem Sized.s {N:Nat} {t:Tree} (h:Sized N t):t.s.length≤N:=by
 cases h with
 | mk ns hl he hk hN=>simp only [Tree.s];omega
theorem sum_get_le {ns:List Nat} {i:Nat} (h:i < ns.length):ns[i]≤ns.sum:=by
 induction ns generalizing i with
 | nil=>simp at h
 | cons a ns ih =>
  cases i with
  | zero=>simp
  | succ i =>
   have:=ih (i:=i) (by simpa using h)
   simp only [List.getElem_cons_succ,List.sum_cons];omega
theorem Sized.at {N:Nat} {t:Tree} (h:Sized N t) (i:Nat):Sized N (t.at i):=by
 have hp:=h.pos
 by_cases hi:i < t.l.length
 ·have e:t.at i=t.l[i]:=by simp [Tree.at,hi]
  rw [e]
  cases h with
  | mk ns hl he hk hN =>
   simp only [Tree.l] at hi ⊢
   have:=sum_get_le (ns:=ns) (i:=i) (by omega)
   exact (he i hi (by omega)).mono (by omega)
 ·have e:t.at i = .zero:=by simp [Tree.at,hi]
  rw [e];exact Sized.zero.mono hp

theorem ite_len {α:Type} (b:Bool) (l:List α):(if b=true then [] else l).length≤l.length:=by
 cases b<;>simp
def cst : Nat→List Fld→Nat
 | 0,_=>0
 | d+1,fs=>(fs.map fun f=>2 * cst d f.sub+40).sum+60

theorem countedS_le (flex null:Bool) (n k:Nat) (hk:k≤8) (hn:n < 4611686018427387904):(countedS flex null n k).length≤10:=by
 unfold countedS
 split
 ·simp
 ·split
  ·exact uvarS_len 9 (n+1) (by omega)
  ·split<;>rw [fixedS_len]<;>omega
section
variable {pt : List Fld→Int→Bool→Tree→List UInt8} {v:Int} {flex:Bool} {sub:List Fld} {C:Nat} (hp:∀ N x,Sized N x→(pt sub v flex x).length≤C * (N+1))
include hp
theorem valueS_bound (kind:Int) (null:Bool) {N:Nat} {t:Tree} (h:Sized N t):(valueS pt kind sub null v flex t).length≤(C+16) * (N+1):=by
 have hs:=h.s
 have hw:(wholeS t.s).length≤N:=by simp only [wholeS,List.length_take];omega
 have hw2:=wholeS_len t.s
 have e:(C+16) * (N+1)=C * (N+1)+(16 * N+16):=by rw [Nat.add_mul,Nat.mul_add 16]
 rw [e]
 have hp':=hp N t h
 generalize C * (N+1)=A at *
 unfold valueS
 have hi:=ite_len null (wholeS t.s)
 split
 ·simp only [List.length_cons,List.length_nil];omega
 ·split
  ·simp only [List.length_append,List.length_take,List.length_replicate];omega
  ·split
   ·rw [List.length_append]
    have:=countedS_le flex null (if null=true then [] else wholeS t.s).length 2 (by omega) (by omega)
    omega
   ·split
    ·rw [List.length_append]
     have:=countedS_le flex null (if null=true then [] else wholeS t.s).length 4 (by omega) (by omega)
     omega
    ·split
     ·omega
     ·rw [fixedS_len];have:=widthS_le kind;omega
theorem values_bound (kind:Int):∀ (ns:List Nat) (l:List Tree),ns.length=l.length→(∀ i (h1:i < l.length) (h2:i < ns.length),Sized ns[i] l[i])→(l.flatMap fun x=>valueS pt kind sub false v flex x).length≤2 * (C+16) * ns.sum
 | [],[],_,_=>by simp
 | [],_ :: _,h,_=>by simp at h
 | _ :: _,[],h,_=>by simp at h
 | n :: ns,x :: l,h,he=>by
  have h0:=he 0 (by simp) (by simp)
  simp only [List.getElem_cons_zero] at h0
  have h1:=valueS_bound hp kind false h0
  have h2:=values_bound kind ns l (by simpa using h) fun i g1 g2=>by
   have:=he (i+1) (by simpa using g1) (by simpa using g2)
   simpa using this
  have hpos:=h0.pos
  rw [List.flatMap_cons,List.length_append,List.sum_cons,Nat.mul_add]
  have:(C+16) * (n+1)≤2 * (C+16) * n:=by
   rw [Nat.mul_comm 2,Nat.mul_assoc]
   exact Nat.mul_le_mul_left _ (by omega)
  omega
omit hp in
theorem take_sized {N:Nat} {t:Tree} (h:Sized N t) (k:Nat):∃ ns:List Nat,ns.length=(t.l.take k).length∧(∀ i (h1:i < (t.l.take k).length) (h2:i < ns.length),Sized ns[i] (t.l.take k)[i])∧ns.sum≤N:=by
 cases h with
 | mk ns hl he hk hN =>
  refine ⟨ns.take k,by simp [Tree.l,hl],fun i h1 h2 => ?_,?_⟩
  ·simp only [List.length_take,Tree.l] at h1 h2
   simp only [List.getElem_take,Tree.l]
   exact he i (by omega) (by omega)
  ·have:(ns.take k).sum≤ns.sum:=by
    have:=congrArg List.sum (List.take_append_drop k ns)
    rw [List.sum_append] at this;omega
   omega
theorem fieldS_bound (f:Fld) (hf:f.sub=sub) {N:Nat} {t:Tree} (h:Sized N t):(fieldS pt f v flex t).length≤(2 * C+40) * (N+1):=by
 subst hf
 have e:(2 * C+40) * (N+1)=2 * (C * (N+1))+(40 * N+40):=by rw [Nat.add_mul,Nat.mul_assoc,Nat.mul_add 40]
 have hv:=fun k null=>valueS_bound hp k null h
 have e2:(C+16) * (N+1)=C * (N+1)+(16 * N+16):=by rw [Nat.add_mul,Nat.mul_add 16]
 rw [e2] at hv
 rw [e]
 unfold fieldS
 split
 ·rw [List.length_append]
  have hth:(thingsS t.l).length≤32767:=by simp only [thingsS,List.length_take];omega
  have hi:=ite_len (nullS f v t) (thingsS t.l)
  have h1:=countedS_le flex (nullS f v t) (if nullS f v t=true then [] else thingsS t.l).length 4 (by omega) (by omega)
  have h2:((if nullS f v t=true then [] else thingsS t.l).flatMap fun x=>valueS pt f.of f.sub false v flex x).length≤2 * (C+16) * N:=by
   split
   ·simp
   ·obtain ⟨ns,g1,g2,g3⟩:=take_sized h 32767
    exact Nat.le_trans (values_bound hp f.of ns (thingsS t.l) g1 g2) (Nat.mul_le_mul_left _ g3)
  have e3:2 * (C+16) * N=2 * (C * N)+32 * N:=by rw [Nat.mul_assoc,Nat.add_mul,Nat.mul_add,← Nat.mul_assoc 2 16]
  have e4:C * (N+1)=C * N+C:=by rw [Nat.mul_add,Nat.mul_one]
  omega
 ·split
  ·split
   ·rw [fixedS_len];omega
   ·rw [List.length_append,fixedS_len];have:=hp N t h;omega
  ·have:=hv f.kind (nullS f v t);omega
end
theorem tags_bound (fs:List Fld) (u:List TagD) (hk:∀ x∈u,x.1 < 4294967296):((unknownS fs u).flatMap unkT).length≤20 * (u.map fun x=>x.2.length+1).sum:=by
 have h1:∀ (l:List TagD),(∀ x∈l,x.1 < 4294967296)→(l.flatMap unkT).length≤20 * (l.map fun x=>x.2.length+1).sum:=by
  intro l
  induction l with
  | nil=>intro _;simp
  | cons x l ih =>
   intro h
   have:=ih fun y hy=>h y (by simp [hy])
   have h1:=uvarS_len 9 x.1 (by have:=h x (by simp);omega)
   have hw:(wholeS x.2).length≤x.2.length:=by simp only [wholeS,List.length_take];omega
   have hw2:=wholeS_len x.2
   have h2:=uvarS_len 9 (wholeS x.2).length (by omega)
   simp only [List.flatMap_cons,List.length_append,List.map_cons,List.sum_cons,unkT,oneTag] at this ⊢
   omega
 have h2:∀ (l out:List TagD),((l.foldl (insTag (knownS fs)) out).map fun x=>x.2.length+1).sum≤(out.map fun x=>x.2.length+1).sum+(l.map fun x=>x.2.length+1).sum:=by
  intro l
  induction l with
  | nil=>intro out;simp
  | cons t l ih =>
   intro out
   have h3:=ih (insTag (knownS fs) out t)
   have h4:((insTag (knownS fs) out t).map fun x=>x.2.length+1).sum≤(out.map fun x=>x.2.length+1).sum+(t.2.length+1):=by
    unfold insTag
    split
    ·omega
    ·have:=congrArg (fun l=>(l.map fun x:TagD=>x.2.length+1).sum) (List.takeWhile_append_dropWhile (p:=fun x:TagD=>decide (x.1 < t.1)) (l:=out))
     simp only [List.map_append,List.sum_append,List.map_cons,List.sum_cons] at this ⊢
     omega
   simp only [List.foldl_cons,List.map_cons,List.sum_cons]
   omega
 have h3:=h2 (u.take 32767) []
 have h4:((u.take 32767).map fun x=>x.2.length+1).sum≤(u.map fun x=>x.2.length+1).sum:=by
  have:=congrArg (fun l=>(l.map fun x:TagD=>x.2.length+1).sum) (List.take_append_drop 32767 u)
  simp only [List.map_append,List.sum_append] at this
  omega
 have h5:=h1 (unknownS fs u) fun x hx=>hk x ((unknownS_spec fs u).2 x hx).1
 have h6:(unknownS fs u)=(u.take 32767).foldl (insTag (knownS fs)) []:=rfl
 rw [← h6] at h3
 simp only [List.map_nil,List.sum_nil] at h3
 omega
def okBd : Nat→List Fld→Bool
 | 0,fs=>fs.isEmpty
 | d+1,fs=>fs.all fun f=>decide (f.tag < 0) && okBd d f.sub
theorem okBd_el {d:Nat} {fs:List Fld} (h:okBd d fs=true) {g:Fld} (hg:g∈fs):∃ e,d=e+1∧g.tag < 0∧okBd e g.sub=true:=by
 cases d with
 | zero=>simp only [okBd,List.isEmpty_iff] at h;subst h;simp at hg
 | succ d =>
  simp only [okBd,Bool.and_eq_true,List.all_eq_true,decide_eq_true_eq] at h
  exact ⟨d,rfl,(h g hg).1,(h g hg).2⟩
theorem partS_boundB (v:Int) (flex:Bool) (d:Nat):∀ fs N t,okBd d fs=true→Sized N t→(partS (d+1) fs v flex t).length≤cst (d+1) fs * (N+1):=by
 induction d with
 | zero =>
  intro fs N t h hs
  have hnil:fs=[]:=by simpa [okBd] using h
  subst hnil
  have hu:(t.u.map fun x=>x.2.length+1).sum≤N∧∀ x∈t.u,x.1 < 4294967296:=by
   cases hs with
   | mk ns hl he hk hN=>exact ⟨by simp only [Tree.u];omega,hk⟩
  have h1:=tags_bound [] t.u hu.2
  have h2:=unknownS_len' [] t.u
  have h3:=uvarS_len 9 ((tagsS (partS 0) 1 [] v flex t).length+(unknownS [] t.u).length) (by
   have:tagsS (partS 0) 1 [] v flex t=[]:=rfl
   rw [this];simp only [List.length_nil];omega)
  rw [partS_eq]
  unfold partT
  have e1:plainS (partS 0) [] v flex t=[]:=rfl
  have e2:tagsS (partS 0) 1 [] v flex t=[]:=rfl
  have e3:cst 1 [] = 60:=rfl
  rw [e1,e3]
  split
  ·simp only [e2,List.length_append,List.length_nil,List.flatMap_nil] at h3 ⊢;omega
  ·simp
 | succ d ih =>
  intro fs N t h hs
  have htag:∀ f∈fs,f.tag < 0:=fun f hf=>by obtain ⟨_,_,h1,_⟩:=okBd_el h hf;exact h1
  have hk:=knownS_none htag
  have hu:(t.u.map fun x=>x.2.length+1).sum≤N∧∀ x∈t.u,x.1 < 4294967296:=by
   cases hs with
   | mk ns hl he hk hN=>exact ⟨by simp only [Tree.u];omega,hk⟩
  have h1:=tags_bound fs t.u hu.2
  have h2:=unknownS_len' fs t.u
  have e2:tagsS (partS (d+1)) (d+2) fs v flex t=[]:=by rw [tagsS,hk];rfl
  have h3:=uvarS_len 9 (unknownS fs t.u).length (by omega)
  have hplain:∀ (l:List Fld) (i:Nat),(∀ f∈l,f∈fs)→((l.zipIdx i).flatMap (plainF (partS (d+1)) v flex t)).length≤(l.map fun f=>2 * cst (d+1) f.sub+40).sum * (N+1):=by
   intro l
   induction l with
   | nil=>intro i _;simp
   | cons f l ihl =>
    intro i hm
    have g1:=ihl (i+1) fun g hg=>hm g (by simp [hg])
    obtain ⟨e',he',_,hsub⟩:=okBd_el h (hm f (by simp))
    cases he'
    have g2:(plainF (partS (d+1)) v flex t (f,i)).length≤(2 * cst (d+1) f.sub+40) * (N+1):=by
     unfold plainF
     split
     ·exact fieldS_bound (C:=cst (d+1) f.sub) (fun M x hx=>ih f.sub M x hsub hx) f rfl (hs.at i)
     ·simp
    simp only [List.zipIdx_cons,List.flatMap_cons,List.length_append,List.map_cons,List.sum_cons,Nat.add_mul] at g1 g2 ⊢
    omega
  have g:=hplain fs 0 fun f hf=>hf
  have e4:plainS (partS (d+1)) fs v flex t=(fs.zipIdx 0).flatMap (plainF (partS (d+1)) v flex t):=rfl
  have e5:cst (d+2) fs=(fs.map fun f=>2 * cst (d+1) f.sub+40).sum+60:=rfl
  rw [partS_eq]
  unfold partT
  rw [e5,Nat.add_mul,e4,e2]
  split
  ·simp only [List.length_append,List.length_nil,List.flatMap_nil,Nat.zero_add];omega
  ·omega

variable {P : Program}
theorem wp_copyN {T X E:TypeId} (F:AppT P T X E 1 1) {w:World} {ρ:Regs} {d:Option Nat} {x y:Operand} {type:TypeId} {pos:String} {after:Array Edge} {guard:Option (Nat × Bool)} {K:Regs→World→Prop} {v:Value} {s:List UInt8} {ok:Blocks}
  (hx:ev ρ x = .slice none 0 0) (hy:ev ρ y=v) (hv:BytesV ok w v s) (hl:s.length≤2 ^ 45)
  (hk:∀ v' w',OwnBy E w.heap.size w' v' s→Ext w w'→(∀ b,ownB v' b→w.heap.size≤b)→K (put ρ d v') w') :
  rawK P { dst:=d,op:=.call { callee:=.builtin .append,args:=#[x,y],argTypes:=#[T,X] },type:=type,pos:=pos,after:=after,guard:=guard } ρ w K:=by
 refine wp_append F (B:=w.heap.size) (n:=0) (cs:=[]) (m:=s.length) (news:=s.map byteV) hx hy (Own.nil _ _ _ _) rfl hv.src (Nat.le_refl _) (by omega) ?_
 intro v' w' h1 h2 h3
 refine hk v' w' ?_ (h2.mono ?_) ?_
 ·rw [List.nil_append,Nat.zero_add] at h1;exact h1
 ·rintro b ⟨a,n,c,h,_⟩;cases h
 ·intro b hb
  rcases h3 b hb with ⟨a,n,c,h,_⟩|h
  ·cases h
  ·exact h

theorem iface_of {P:Program} {w:World} {t:TypeId} {m:Array (String × TypeId)} {fuel:Nat} {cs:List Value} {n:String} {d:DataW Unit} {p:List MemPlace} (hu:P.underlying t=some (.interface m))
  (h:DataW.trod (fun _=>()) P w 0 (fun _=>true) false fuel t cs=some (.iface n d,p)):∃ u v,cs=[.iface u v]:=by
 cases fuel with
 | zero=>simp [DataW.trod] at h
 | succ fuel =>
  unfold DataW.trod at h
  rw [hu] at h
  match cs with
  | []=>simp at h
  | [v]=>cases v<;>simp at h<;>exact ⟨_,_,rfl⟩
  | _ :: _ :: _=>simp at h

structure Bulk {H:Type} (bk:DataW H→Nat) (ba:List (DataW H)→Nat):Prop where
 pos:∀ d,1≤bk d
 slice:∀ e s,bk (.slice e s)=ba e+ba s+1
 agg:∀ p,bk (.agg p)=ba p+1
 nil:ba [] = 0
 cons:∀ d r,ba (d :: r)=bk d+ba r
theorem Bulk.sum {H:Type} {bk:DataW H→Nat} {ba:List (DataW H)→Nat} (h:Bulk bk ba):∀ l,ba l=(l.map bk).sum
 | []=>h.nil
 | d :: r=>by rw [h.cons,List.map_cons,List.sum_cons,h.sum r]
theorem Bulk.len {H:Type} {bk:DataW H→Nat} {ba:List (DataW H)→Nat} (h:Bulk bk ba):∀ l,l.length≤ba l
 | []=>by simp
 | d :: r=>by have:=h.len r;have:=h.pos d;rw [h.cons,List.length_cons];omega
theorem Bulk.mem {H:Type} {bk:DataW H→Nat} {ba:List (DataW H)→Nat} (h:Bulk bk ba) {d:DataW H}:∀ {l},d∈l→bk d≤ba l
 | [],hm=>by cases hm
 | x :: r,hm=>by
  rw [h.cons]
  rcases List.mem_cons.1 hm with rfl|hm
  ·omega
  ·have:=h.mem hm;omega
theorem sum_le : ∀ {xs ys:List Nat},xs.length=ys.length→(∀ i (h1:i < xs.length) (h2:i < ys.length),xs[i]≤ys[i])→xs.sum≤ys.sum
 | [],[],_,_=>Nat.le_refl _
 | x :: xs,y :: ys,h,hp=>by
  have h0:=hp 0 (by simp) (by simp)
  have:=sum_le (xs:=xs) (ys:=ys) (by simpa using h) fun i h1 h2=>by
   have:=hp (i+1) (by simpa using h1) (by simpa using h2)
   simpa using this
  simp only [List.getElem_cons_zero] at h0
  simp only [List.sum_cons];omega
 | [],_ :: _,h,_=>by simp at h
 | _ :: _,[],h,_=>by simp at h
section
variable {H : Type} {enc:TypeId × Value→H} {P:Program} {w:World} {base:Nat} {spare:Nat→Bool} {held:Bool}
variable {bk : DataW H→Nat} {ba:List (DataW H)→Nat} (hbk:Bulk bk ba)
include hbk
theorem open_bytesB {y S:TypeId} (hy:P.underlying y=some (.int .u8)) (cy:P.cellsOf y=1) (b_y:P.bytesOf y=1) (hS:P.underlying S=some (.slice y)) {fuel:Nat} {cs:List Value} {x:DataW H × List MemPlace} (h:DataW.trod enc P w base spare held fuel S cs=some x) (hf:Fits P S x.1) :
  ∃ v s,cs=[v]∧BytesV AnyB w v s∧s.length≤140737488351232∧s.length+1≤bk x.1:=by
 rcases DataW.trod_slice hS h with ⟨rfl,rfl⟩|⟨a,len,cap,elems,rest,n,rfl,rfl,rfl,h1,h2,h3,h4,h5,h6,h7⟩
 ·exact ⟨_,[],rfl,⟨none,0,rfl,Nat.le_refl _,by simp,.inl rfl⟩,by simp,by have:=hbk.pos DataW.nil;simpa using this⟩
 ·have hfs:=fits_slice hS hf
  simp only [List.length_map,b_y,reachBytes] at hfs
  obtain ⟨css,hc1,hc2,a8⟩:=sl_elems (w:=w) (base:=base) (size:=1) (by omega) (a:=a) (len:=len) (cap:=cap) h2 (R:=fun i cs=>∃ b,ByteC b cs) (fun i hi=>by
   have:=h5 i hi
   rw [cy,List.getElem?_eq_getElem (by omega)] at this
   obtain ⟨cs,hcs,ht⟩:=Option.bind_eq_some_iff.1 this
   obtain ⟨n',rfl,hw⟩:=trod_int' hy ht
   refine ⟨_,hcs,UInt8.ofNat n'.toNat,?_⟩
   simp only [Lit.wf,Bool.and_eq_true,decide_eq_true_eq,IntKind.min,IntKind.max,IntKind.signed,IntKind.bits] at hw
   unfold ByteC byteV
   congr 2
   simp only [UInt8.toNat_ofNat']
   simp at hw
   omega)
  obtain ⟨s,hs1,hs2⟩:=all_choice (n:=css.length) (R:=fun i b=>∀ hi:i < css.length,ByteC b css[i]) (fun i hi=>by obtain ⟨b,hb⟩:=a8 i hi;exact ⟨b,fun _=>hb⟩)
  refine ⟨_,s,rfl,?_,by omega,by
   rw [hbk.slice]
   have:=hbk.len (elems.map (·.1))
   rw [List.length_map] at this
   omega⟩
  have:css=s.map fun b=>[byteV b]:=by
   apply List.ext_getElem
   ·simp [hs1]
   ·intro i g1 g2
    simp only [List.getElem_map]
    exact hs2 i (by omega) g1
  rw [this] at hc1
  exact hc1

variable {y B N K S G U T L:TypeId}
theorem open_tagB (F:TreeTy P y B N K S G U T L) {fuel:Nat} {cs:List Value} {x:DataW H × List MemPlace} (h:DataW.trod enc P w base spare held fuel G cs=some x) (hf:Fits P G x.1) :
  ∃ u,TagC AnyB w u cs∧u.2.length≤140737488351232∧u.2.length+1≤bk x.1:=by
 obtain ⟨fs,hfs,hl⟩:=F.uG
 obtain ⟨xs,n,rfl,rfl,h1,h2,h3⟩:=DataW.trod_struct hfs h
 have hff:=fits_struct hfs hf
 obtain ⟨f0,g0,e0,o0⟩:=struct_get hl 0 K 0 rfl
 obtain ⟨f1,g1,e1,o1⟩:=struct_get hl 1 S 1 rfl
 have hsz:xs.length=2:=by rw [h2];simpa using congrArg List.length hl
 have k0:=h3 0 f0 g0
 have k1:=h3 1 f1 g1
 rw [e0,o0,F.cK,List.getElem?_eq_getElem (by omega)] at k0
 rw [e1,o1,F.cS,List.getElem?_eq_getElem (by omega)] at k1
 obtain ⟨m,hm,hw⟩:=trod_int' F.uK k0
 obtain ⟨v,s,hv,hb,hsl,hsb⟩:=open_bytesB hbk F.uy F.cy F.b_y F.uS k1 (by
  have:=hff 1 f1 (xs[1].1) g1 (by simp [List.getElem?_eq_getElem (show 1 < xs.length by omega)])
  rw [e1] at this;exact this)
 rw [F.cG] at h1
 obtain ⟨c0,c1,rfl⟩:∃ a b,cs=[a,b]:=by
  match cs,h1 with
  | [a,b],_=>exact ⟨_,_,rfl⟩
 ·simp only [List.drop_zero,List.take_succ_cons,List.take_zero,List.drop_succ_cons,List.cons.injEq,and_true] at hm hv
  subst hm;subst hv
  simp only [Lit.wf,Bool.and_eq_true,decide_eq_true_eq,IntKind.min,IntKind.max,IntKind.signed,IntKind.bits] at hw
  simp at hw
  refine ⟨(m.toNat,s),⟨c1,?_,hb,by simp only;omega⟩,hsl,?_⟩
  ·simp only [List.cons.injEq,Value.int.injEq,true_and,and_true]
   omega
  ·rw [hbk.agg]
   have h8:=hbk.mem (l:=xs.map (·.1)) (List.mem_map.2 ⟨_,List.getElem_mem (show 1 < xs.length by omega),rfl⟩)
   simp only
   omega

theorem open_treeB (F:TreeTy P y B N K S G U T L):∀ (fuel:Nat) {cs:List Value} {x:DataW H × List MemPlace},DataW.trod enc P w base spare held fuel T cs=some x→Fits P T x.1 →
  ∃ t,TreeC AnyB w t cs∧Small 140737488351232 t∧Sized (bk x.1) t:=by
 intro fuel
 induction fuel using Nat.strongRecOn with
 | _ fuel ih =>
 intro cs x h hf
 obtain ⟨fs,hfs,hl⟩:=F.uT
 obtain ⟨xs,n,rfl,rfl,h1,h2,h3⟩:=DataW.trod_struct hfs h
 have hff:=fits_struct hfs hf
 obtain ⟨f0,g0,e0,o0⟩:=struct_get hl 0 N 0 rfl
 obtain ⟨f1,g1,e1,o1⟩:=struct_get hl 1 S 1 rfl
 obtain ⟨f2,g2,e2,o2⟩:=struct_get hl 2 B 2 rfl
 obtain ⟨f3,g3,e3,o3⟩:=struct_get hl 3 L 3 rfl
 obtain ⟨f4,g4,e4,o4⟩:=struct_get hl 4 U 4 rfl
 have hsz:xs.length=5:=by rw [h2];simpa using congrArg List.length hl
 have k0:=h3 0 f0 g0
 have k1:=h3 1 f1 g1
 have k2:=h3 2 f2 g2
 have k3:=h3 3 f3 g3
 have k4:=h3 4 f4 g4
 rw [e0,o0,F.cN,List.getElem?_eq_getElem (by omega)] at k0
 rw [e1,o1,F.cS,List.getElem?_eq_getElem (by omega)] at k1
 rw [e2,o2,F.cB,List.getElem?_eq_getElem (by omega)] at k2
 rw [e3,o3,F.cL,List.getElem?_eq_getElem (by omega)] at k3
 rw [e4,o4,F.cU,List.getElem?_eq_getElem (by omega)] at k4
 have fit:∀ i (hi:i < xs.length) f t,fs[i]? = some f→f.type=t→Fits P t xs[i].1:=fun i hi f t hg he=>by
  have:=hff i f (xs[i].1) hg (by simp [List.getElem?_eq_getElem hi])
  rw [he] at this;exact this
 obtain ⟨m,hm,hw⟩:=trod_int' F.uN k0
 obtain ⟨v,s,hv,hb,hsl,hsb⟩:=open_bytesB hbk F.uy F.cy F.b_y F.uS k1 (fit 1 (by omega) f1 S g1 e1)
 obtain ⟨bb,hbb⟩:=trod_bool' F.uB k2
 have fL:=fit 3 (by omega) f3 L g3 e3
 have fU:=fit 4 (by omega) f4 U g4 e4
 have hLx:∃ vL l,((cs.drop 3).take 1)=[vL]∧TreesV AnyB w vL l∧l.length≤140737488351232∧(∀ i (hi:i < l.length),Small 140737488351232 l[i])∧∃ ns:List Nat,ns.length=l.length∧(∀ i (h1:i < l.length) (h2:i < ns.length),Sized ns[i] l[i])∧ns.sum+1≤bk xs[3].1:=by
  rcases DataW.trod_slice F.uL k3 with ⟨hc,hx⟩|⟨a,len,cap,elems,rest,n',hn',hc,hx,q1,q2,q3,q4,q5,q6,q7⟩
  ·exact ⟨_,[],hc,⟨[],⟨none,0,rfl,Nat.le_refl _,by simp,.inl rfl⟩,rfl,fun i h=>by simp at h⟩,by simp,fun i h=>by simp at h,[],rfl,fun i h=>by simp at h,by simpa using hbk.pos _⟩
  ·rw [hx] at fL
   have hfs:=fits_slice F.uL fL
   simp only [List.length_map,F.bT,reachBytes] at hfs
   obtain ⟨css,hc1,hc2,a8⟩:=sl_elems (w:=w) (base:=base) (size:=5) (by omega) (a:=a) (len:=len) (cap:=cap) q2 (R:=fun i cs=>∃ t,TreeC AnyB w t cs∧Small 140737488351232 t∧∀ hi:i < elems.length,Sized (bk (elems[i]).1) t) (fun i hi=>by
    have:=q5 i hi
    rw [F.cT,List.getElem?_eq_getElem (by omega)] at this
    obtain ⟨cs',hcs,ht⟩:=Option.bind_eq_some_iff.1 this
    obtain ⟨t,g1,g2,g3⟩:=ih n' (by omega) ht (hfs.2 _ (List.mem_map.2 ⟨_,List.getElem_mem _,rfl⟩))
    exact ⟨_,hcs,t,g1,g2,fun _=>g3⟩)
   obtain ⟨l,hs1,hs2⟩:=all_choice (n:=css.length) (R:=fun i t=>∀ hi:i < css.length,TreeC AnyB w t css[i]∧Small 140737488351232 t∧∀ hi:i < elems.length,Sized (bk (elems[i]).1) t) (fun i hi=>by obtain ⟨t,ht⟩:=a8 i hi;exact ⟨t,fun _=>ht⟩)
   refine ⟨_,l,hc,⟨css,hc1,hs1,fun i g1 g2=>(hs2 i g1 g2).1⟩,by omega,fun i hi=>(hs2 i hi (by omega)).2.1,elems.map fun e=>bk e.1,by simp only [List.length_map];omega,fun i h1 h2 => ?_,?_⟩
   ·simp only [List.getElem_map]
    exact (hs2 i h1 (by omega)).2.2 (by simpa using h2)
   ·rw [hx,hbk.slice,hbk.sum,List.map_map]
    exact Nat.succ_le_succ (Nat.le_add_right _ _)
 have hUx:∃ vU u,((cs.drop 4).take 1)=[vU]∧TagsV AnyB w vU u∧u.length≤140737488351232∧(∀ x∈u,x.2.length≤140737488351232)∧(u.map fun x=>x.2.length+1).sum+1≤bk xs[4].1:=by
  rcases DataW.trod_slice F.uU k4 with ⟨hc,hx⟩|⟨a,len,cap,elems,rest,n',hn',hc,hx,q1,q2,q3,q4,q5,q6,q7⟩
  ·exact ⟨_,[],hc,⟨[],⟨none,0,rfl,Nat.le_refl _,by simp,.inl rfl⟩,rfl,fun i h=>by simp at h⟩,by simp,fun x h=>by simp at h,by simpa using hbk.pos _⟩
  ·rw [hx] at fU
   have hfs:=fits_slice F.uU fU
   simp only [List.length_map,F.bG,reachBytes] at hfs
   obtain ⟨css,hc1,hc2,a8⟩:=sl_elems (w:=w) (base:=base) (size:=2) (by omega) (a:=a) (len:=len) (cap:=cap) q2 (R:=fun i cs=>∃ t,TagC AnyB w t cs∧t.2.length≤140737488351232∧∀ hi:i < elems.length,t.2.length+1≤bk (elems[i]).1) (fun i hi=>by
    have:=q5 i hi
    rw [F.cG,List.getElem?_eq_getElem (by omega)] at this
    obtain ⟨cs',hcs,ht⟩:=Option.bind_eq_some_iff.1 this
    obtain ⟨t,g1,g2,g3⟩:=open_tagB hbk F ht (hfs.2 _ (List.mem_map.2 ⟨_,List.getElem_mem _,rfl⟩))
    exact ⟨_,hcs,t,g1,g2,fun _=>g3⟩)
   obtain ⟨l,hs1,hs2⟩:=all_choice (n:=css.length) (R:=fun i t=>∀ hi:i < css.length,TagC AnyB w t css[i]∧t.2.length≤140737488351232∧∀ hi:i < elems.length,t.2.length+1≤bk (elems[i]).1) (fun i hi=>by obtain ⟨t,ht⟩:=a8 i hi;exact ⟨t,fun _=>ht⟩)
   refine ⟨_,l,hc,⟨css,hc1,hs1,fun i g1 g2=>(hs2 i g1 g2).1⟩,by omega,fun x hx => ?_,?_⟩
   ·obtain ⟨i,hi,rfl⟩:=List.getElem_of_mem hx
    exact (hs2 i hi (by omega)).2.1
   ·have hsum:=sum_le (xs:=l.map fun x=>x.2.length+1) (ys:=elems.map fun e=>bk e.1) (by simp only [List.length_map];omega) fun i h1 h2=>by
     simp only [List.getElem_map]
     exact (hs2 i (by simpa using h1) (by simp at h1;omega)).2.2 (by simpa using h2)
    rw [hx,hbk.slice,hbk.sum,List.map_map]
    exact Nat.succ_le_succ (Nat.le_trans hsum (Nat.le_add_right _ _))
 obtain ⟨vL,l,hLc,hLv,hLl,hLe,ns,aA,aB,aC⟩:=hLx
 obtain ⟨vU,u,hUc,hUv,hUl,hUe,hUs⟩:=hUx
 rw [F.cT] at h1
 obtain ⟨c0,c1,c2,c3,c4,rfl⟩:∃ a b c d e,cs=[a,b,c,d,e]:=by
  match cs,h1 with
  | [a,b,c,d,e],_=>exact ⟨_,_,_,_,_,rfl⟩
 ·obtain rfl:c0 = .int .i64 m:=by simpa using hm
  obtain rfl:c1=v:=by simpa using hv
  obtain rfl:c2 = .bool bb:=by simpa using hbb
  obtain rfl:c3=vL:=by simpa using hLc
  obtain rfl:c4=vU:=by simpa using hUc
  refine ⟨.mk m s bb l u,TreeC.intro (wf_wrap_eq hw) hb hLv hUv,.mk hsl hLl hUl hLe hUe,.mk ns aA aB (fun x hx => ?_) ?_⟩
  ·obtain ⟨css,_,h8,h9⟩:=hUv
   obtain ⟨i,hi,rfl⟩:=List.getElem_of_mem hx
   obtain ⟨_,_,_,h10⟩:=h9 i hi (by omega)
   exact h10
  ·rw [hbk.agg]
   obtain ⟨x0,x1,x2,x3,x4,rfl⟩:∃ a b c d e,xs=[a,b,c,d,e]:=by
    match xs,hsz with
    | [a,b,c,d,e],_=>exact ⟨_,_,_,_,_,rfl⟩
   simp only [List.map_cons,List.map_nil,hbk.cons,hbk.nil]
   simp only [List.getElem_cons_zero,List.getElem_cons_succ] at hsb aC hUs
   have:=hbk.pos x0.1
   omega
end

theorem words_ne : ∀ a:List Char,wordsSigns a≠[]
 | []=>by simp [wordsSigns]
 | c :: r=>by
  unfold wordsSigns
  split
  ·simp
  ·simp
  ·split<;>simp
theorem words_app : ∀ (a r:List Char),wordsSigns (a++' ' :: r)=wordsSigns a++wordsSigns r
 | [],r=>by
  rw [List.nil_append]
  conv=>lhs;unfold wordsSigns
  simp [wordsSigns]
 | c :: a,r=>by
  have ih:=words_app a r
  have hn:=words_ne a
  by_cases hc:c=' '
  ·subst hc
   have e:∀ l,wordsSigns (' ' :: l)=[] :: wordsSigns l:=fun l=>by rw [wordsSigns]
   rw [List.cons_append,e,e,ih];rfl
  ·rw [List.cons_append]
   have e:∀ l,wordsSigns (c :: l)=match wordsSigns l with|w :: ws=>(c :: w) :: ws|[]=>[[c]]:=fun l=>by
    conv=>lhs;unfold wordsSigns
    split
    ·rename_i h;cases h
    ·rename_i h;cases h;exact absurd rfl hc
    ·rename_i h;cases h;rfl
   rw [e,e,ih]
   cases hw:wordsSigns a with
   | nil=>exact absurd hw hn
   | cons w ws=>rfl
def cutHead : List (List Char)→Bool
 | [h,s,c] => h == "harness".toList && isSumSigns s && c == "cut".toList
 | _=>false
def Cut (P : Program) : Prop := ∃ W,behindMainWord (wordsSigns P.initOrder.toList) = "cut".toList :: W
theorem cut_of {P:Program} (k:Nat) (hs:P.initOrder.toList=P.initOrder.toList.take k++' ' :: P.initOrder.toList.drop (k+1)) (hA:cutHead (wordsSigns (P.initOrder.toList.take k))=true):Cut P:=by
 unfold Cut
 rw [hs,words_app]
 generalize wordsSigns (P.initOrder.toList.take k)=A at hA
 generalize wordsSigns (P.initOrder.toList.drop (k+1))=W
 match A,hA with
 | [h,s,c],hA =>
  unfold cutHead at hA
  simp only [Bool.and_eq_true] at hA
  obtain ⟨⟨h1,h2⟩,h3⟩:=hA
  refine ⟨W,?_⟩
  have hc : c = "cut".toList := eq_of_beq h3
  subst hc
  show behindMainWord (h :: s :: ("cut".toList :: W)) = _
  unfold behindMainWord
  simp only [h1,h2,Bool.true_or,Bool.and_self,if_true]
theorem strip_cut (W : List (List Char)) : stripLifts liftWords ("cut".toList :: W) = ([],"cut".toList :: W) := rfl
theorem headLifts_of {P:Program} (h:Cut P):P.headLifts=[]:=by
 obtain ⟨W,h⟩:=h
 unfold Program.headLifts
 rw [h,strip_cut]
 rfl
theorem mayEnter_of {P:Program} (h:Cut P) (h1:P.laysLater=false) (h2:P.bearsReflect=false) (h3:P.doorFits [] = true):P.mayEnter=true:=by
 obtain ⟨W,h⟩:=h
 unfold Program.mayEnter
 rw [h]
 simp only [strip_cut,h1,h2,h3]
 rfl
theorem liftsFinal_of {P:Program} (h:Cut P):P.liftsFinal=false:=by
 have hl:=headLifts_of h
 obtain ⟨W,h⟩:=h
 unfold Program.liftsFinal
 rw [h,hl]
 rfl
theorem make_of {P:Program} (h:Cut P):P.make=some .cut:=by
 obtain ⟨W,h⟩:=h
 unfold Program.make
 rw [h]
 rfl
end Ms

namespace Go.Proofs.YtfeaoncgnhhjbaeGreatDoor
theorem isCut : Ms.Cut Tryz.pinned.checked.prog:=Ms.cut_of 76 (by kernel_rfl) (by kernel_rfl)
theorem laysLater0 : Tryz.pinned.checked.prog.laysLater=false:=by kernel_rfl
theorem bears0 : Tryz.pinned.checked.prog.bearsReflect=false:=by kernel_rfl
theorem doors0 : Tryz.pinned.checked.prog.doorFits [] = true:=by kernel_rfl
theorem enters0 : Tryz.pinned.checked.prog.mayEnter=true:=Ms.mayEnter_of isCut laysLater0 bears0 doors0
theorem lifts0 : Tryz.pinned.checked.prog.liftsFinal=false:=Ms.liftsFinal_of isCut
theorem make0 : Tryz.pinned.checked.prog.make=some .cut:=Ms.make_of isCut
theorem hears0 : Tryz.pinned.checked.prog.stopsHeard=true:=by kernel_rfl
theorem laid0 : laidOutB Tryz.pinned.checked.prog=true:=by kernel_rfl
theorem rowed0 : mapsRowed Tryz.pinned.checked.prog=true:=by kernel_rfl
end Go.Proofs.YtfeaoncgnhhjbaeGreatDoor

