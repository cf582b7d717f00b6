/- A part of the proof: see the last text. -/
import Derived.Test.YtfeaoncgnhhjbaeGreatDoorC01
import Derived.Test.YtfeaoncgnhhjbaeGreatDoorC03
set_option linter.unusedSimpArgs false
set_option linter.unusedVariables false
namespace Ms
open Go.World renaming size_alloc → qI
open Ms renaming size_wr → qJ,size_drew → qK,not_noB → qL
open W renaming seqF → qA,seq → qB,regF → qC,condK → qD,block → qE,skip → qF,ret → qG,exit → qH
set_option maxRecDepth 4000
open Go Go.Proofs
attribute [local congr] W_congr WPsq_congr WPp_congr optK_congr addrK_congr intK_congr boolK_congr sliceK_congr tupleK_congr funcK_congr Fn_congr rawK_congr takeK_congr stepK_congr convK_congr aggK_congr

theorem countedS_len (flex null:Bool) (n k:Nat) (hk:k≤8) (hn:n < 4611686018427387904):(countedS flex null n k).length≤10:=by
 unfold countedS
 split
 ·simp
 ·split
  ·exact uvarS_len 9 (n+1) (by omega)
  ·split<;>rw [fixedS_len]<;>omega

theorem value_k0 {ok:Blocks} (pt:List Fld→Int→Bool→Tree→List UInt8) (kind:Int) (sub:List Fld) (null:Bool) (ver:Int) (flex:Bool) (t:Tree) (vs:Value) (ct:List Value) (w:World) (hs:FldsV ok w vs sub) (ht:TreeC ok w t ct) (hsm:Small 4611686018427387903 t)
  (hlen:(valueS pt kind sub null ver flex t).length≤2 ^ 40) (h0:kind=0) :
  Fn Tryz.prog 75 #[.int .i64 kind,vs,.bool null,.int .i64 ver,.bool flex,.agg ct.toArray] w fun r w'=>OwnBy 5 w.heap.size w' r (valueS pt kind sub null ver flex t)∧Ext w w':=by
 obtain ⟨vS,vL,vU,rfl,hn,hS,hL,hU⟩:=ht.inv
 have hl1:=hsm.s
 have hl2:=hsm.l
 have f1:=hS.flat
 have f2:=SlR.flat hL
 have f3:=SlR.flat hU
 obtain ⟨bS,cS,rfl,hcS⟩:=hS.shape
 have hE:Ext w (w.alloc (.cells #[.int .i64 t.n,.slice bS t.s.length cS,.bool t.null,vL,vU] 26)):=Upd.alloc (Upd.refl _ _) _
 refine fn_of_W Tryz.func75 rfl Tryz.results75 Tryz.ntmps75 rfl ?_
 subst h0
 repeat ((first|refine qA ?_|apply qB|refine qC ?_|apply qD|apply qE|apply qF|apply qG|apply qH);try simp (disch:=(first|omega|(simp only [qI,qJ,qK]<;>omega)|exact qL _)) only [go_sem,f1,f2,f3,and1,u8_byte])
 refine ⟨?_,hE.alloc _⟩
 have e:(((t.n % 2).toNat:Nat):Int)=t.n % 2:=by omega
 rw [e]
 exact Own.blk (n:=1) (cs:=[byteV (b8 (t.n % 2))]) (blk_alloc_new (by simp only [World.size_alloc])) rfl (by omega)

theorem value_k8 {ok:Blocks} (pt:List Fld→Int→Bool→Tree→List UInt8) (kind:Int) (sub:List Fld) (null:Bool) (ver:Int) (flex:Bool) (t:Tree) (vs:Value) (ct:List Value) (w:World) (hs:FldsV ok w vs sub) (ht:TreeC ok w t ct) (hsm:Small 4611686018427387903 t)
  (hlen:(valueS pt kind sub null ver flex t).length≤2 ^ 40) (h8:kind=8) :
  Fn Tryz.prog 75 #[.int .i64 kind,vs,.bool null,.int .i64 ver,.bool flex,.agg ct.toArray] w fun r w'=>OwnBy 5 w.heap.size w' r (valueS pt kind sub null ver flex t)∧Ext w w':=by
 obtain ⟨vS,vL,vU,rfl,hn,hS,hL,hU⟩:=ht.inv
 have hl1:=hsm.s
 have hl2:=hsm.l
 have f1:=hS.flat
 have f2:=SlR.flat hL
 have f3:=SlR.flat hU
 obtain ⟨bS,cS,rfl,hcS⟩:=hS.shape
 have hE:Ext w (w.alloc (.cells #[.int .i64 t.n,.slice bS t.s.length cS,.bool t.null,vL,vU] 26)):=Upd.alloc (Upd.refl _ _) _
 refine fn_of_W Tryz.func75 rfl Tryz.results75 Tryz.ntmps75 rfl ?_
 subst h8
 have hwl:(wholeS t.s).length≤32767:=by simp only [wholeS,List.length_take];omega
 repeat ((first|refine qA ?_|apply qB|refine qC ?_|apply qD|apply qE|apply qF|apply qG|apply qH);try simp (disch:=(first|omega|(simp only [qI,qJ,qK]<;>omega)|exact qL _)) only [go_sem,f1,f2,f3])
 refine (whole_fn t.s _ _ (hS.keep (hE.keeps _))).mono ?_
 rintro v1 w1 ⟨hw1,rfl⟩
 obtain ⟨b1,c1,rfl,hc1⟩:=hw1.shape
 cases null with
 | true =>
  repeat ((first|refine qA ?_|apply qB|refine qC ?_|apply qD|apply qE|apply qF|apply qG|apply qH);try simp (disch:=(first|omega|(simp only [qI,qJ,qK]<;>omega)|exact qL _)) only [go_sem])
  refine (counted_fn flex true 0 2 (by omega) (by omega) _).mono ?_
  rintro v2 w2 ⟨ho,he⟩
  have hcl:=countedS_len flex true 0 2 (by omega) (by omega)
  refine wp_append ap_22_22 (m:=0) (news:=[]) (n:=(countedS flex true 0 2).length) (cs:=(countedS flex true 0 2).map byteV) (v:=v2) ?_ rfl (ho.mono (B':=w.heap.size) (by simp only [World.size_alloc];omega)) (flat_bytes _) ⟨rfl,rfl,.inl ⟨none,0,0,rfl,rfl,.inl rfl⟩⟩ ?_ ?_ ?_
  ·simp (disch:=(first|omega|(simp only [qI,qJ,qK]<;>omega)|exact qL _)) only [go_sem]
  ·have:=he.size;simp only [World.size_alloc] at this;omega
  ·omega
  intro v' w4 ho4 hu hfr
  simp (disch:=(first|omega|(simp only [qI,qJ,qK]<;>omega)|exact qL _)) only [go_sem]
  repeat ((first|refine qA ?_|apply qB|refine qC ?_|apply qD|apply qE|apply qF|apply qG|apply qH);try simp (disch:=(first|omega|(simp only [qI,qJ,qK]<;>omega)|exact qL _)) only [go_sem])
  refine ⟨?_,?_⟩
  ·simp only [valueS]
   exact OwnBy.app (s:=countedS flex true 0 2) (t:=[]) ho4 rfl
  ·exact Ext.own (hE.trans he) (ho.mono (B':=w.heap.size) (by simp only [World.size_alloc];omega)) hu
 | false =>
  repeat ((first|refine qA ?_|apply qB|refine qC ?_|apply qD|apply qE|apply qF|apply qG|apply qH);try simp (disch:=(first|omega|(simp only [qI,qJ,qK]<;>omega)|exact qL _)) only [go_sem])
  refine (counted_fn flex false (wholeS t.s).length 2 (by omega) (by omega) _).mono ?_
  rintro v2 w2 ⟨ho,he⟩
  have hcl:=countedS_len flex false (wholeS t.s).length 2 (by omega) (by omega)
  have hsz:=he.size
  simp only [World.size_alloc] at hsz
  refine wp_append ap_22_22 (m:=(wholeS t.s).length) (news:=(wholeS t.s).map byteV) (n:=(countedS flex false (wholeS t.s).length 2).length) (cs:=(countedS flex false (wholeS t.s).length 2).map byteV) (v:=v2) ?_ rfl (ho.mono (B':=w.heap.size) (by simp only [World.size_alloc];omega)) (flat_bytes _) ?_ ?_ ?_ ?_
  ·simp (disch:=(first|omega|(simp only [qI,qJ,qK]<;>omega)|exact qL _)) only [go_sem]
  ·have:=(hw1.keep (he.keeps _)).src
   simp (disch:=(first|omega|(simp only [qI,qJ,qK]<;>omega)|exact qL _)) only [go_sem]
   exact this
  ·omega
  ·omega
  intro v' w4 ho4 hu hfr
  simp (disch:=(first|omega|(simp only [qI,qJ,qK]<;>omega)|exact qL _)) only [go_sem]
  repeat ((first|refine qA ?_|apply qB|refine qC ?_|apply qD|apply qE|apply qF|apply qG|apply qH);try simp (disch:=(first|omega|(simp only [qI,qJ,qK]<;>omega)|exact qL _)) only [go_sem])
  refine ⟨?_,?_⟩
  ·simp only [valueS]
   exact OwnBy.app (s:=countedS flex false (wholeS t.s).length 2) (t:=wholeS t.s) ho4 rfl
  ·exact Ext.own (hE.trans he) (ho.mono (B':=w.heap.size) (by simp only [World.size_alloc];omega)) hu

theorem value_k9 {ok:Blocks} (pt:List Fld→Int→Bool→Tree→List UInt8) (kind:Int) (sub:List Fld) (null:Bool) (ver:Int) (flex:Bool) (t:Tree) (vs:Value) (ct:List Value) (w:World) (hs:FldsV ok w vs sub) (ht:TreeC ok w t ct) (hsm:Small 4611686018427387903 t)
  (hlen:(valueS pt kind sub null ver flex t).length≤2 ^ 40) (h9:kind=9) :
  Fn Tryz.prog 75 #[.int .i64 kind,vs,.bool null,.int .i64 ver,.bool flex,.agg ct.toArray] w fun r w'=>OwnBy 5 w.heap.size w' r (valueS pt kind sub null ver flex t)∧Ext w w':=by
 obtain ⟨vS,vL,vU,rfl,hn,hS,hL,hU⟩:=ht.inv
 have hl1:=hsm.s
 have hl2:=hsm.l
 have f1:=hS.flat
 have f2:=SlR.flat hL
 have f3:=SlR.flat hU
 obtain ⟨bS,cS,rfl,hcS⟩:=hS.shape
 have hE:Ext w (w.alloc (.cells #[.int .i64 t.n,.slice bS t.s.length cS,.bool t.null,vL,vU] 26)):=Upd.alloc (Upd.refl _ _) _
 refine fn_of_W Tryz.func75 rfl Tryz.results75 Tryz.ntmps75 rfl ?_
 subst h9
 have hwl:(wholeS t.s).length≤32767:=by simp only [wholeS,List.length_take];omega
 repeat ((first|refine qA ?_|apply qB|refine qC ?_|apply qD|apply qE|apply qF|apply qG|apply qH);try simp (disch:=(first|omega|(simp only [qI,qJ,qK]<;>omega)|exact qL _)) only [go_sem,f1,f2,f3])
 refine (whole_fn t.s _ _ (hS.keep (hE.keeps _))).mono ?_
 rintro v1 w1 ⟨hw1,rfl⟩
 obtain ⟨b1,c1,rfl,hc1⟩:=hw1.shape
 cases null with
 | true =>
  repeat ((first|refine qA ?_|apply qB|refine qC ?_|apply qD|apply qE|apply qF|apply qG|apply qH);try simp (disch:=(first|omega|(simp only [qI,qJ,qK]<;>omega)|exact qL _)) only [go_sem])
  refine (counted_fn flex true 0 4 (by omega) (by omega) _).mono ?_
  rintro v2 w2 ⟨ho,he⟩
  have hcl:=countedS_len flex true 0 4 (by omega) (by omega)
  refine wp_append ap_22_22 (m:=0) (news:=[]) (n:=(countedS flex true 0 4).length) (cs:=(countedS flex true 0 4).map byteV) (v:=v2) ?_ rfl (ho.mono (B':=w.heap.size) (by simp only [World.size_alloc];omega)) (flat_bytes _) ⟨rfl,rfl,.inl ⟨none,0,0,rfl,rfl,.inl rfl⟩⟩ ?_ ?_ ?_
  ·simp (disch:=(first|omega|(simp only [qI,qJ,qK]<;>omega)|exact qL _)) only [go_sem]
  ·have:=he.size;simp only [World.size_alloc] at this;omega
  ·omega
  intro v' w4 ho4 hu hfr
  simp (disch:=(first|omega|(simp only [qI,qJ,qK]<;>omega)|exact qL _)) only [go_sem]
  repeat ((first|refine qA ?_|apply qB|refine qC ?_|apply qD|apply qE|apply qF|apply qG|apply qH);try simp (disch:=(first|omega|(simp only [qI,qJ,qK]<;>omega)|exact qL _)) only [go_sem])
  refine ⟨?_,?_⟩
  ·simp only [valueS]
   exact OwnBy.app (s:=countedS flex true 0 4) (t:=[]) ho4 rfl
  ·exact Ext.own (hE.trans he) (ho.mono (B':=w.heap.size) (by simp only [World.size_alloc];omega)) hu
 | false =>
  repeat ((first|refine qA ?_|apply qB|refine qC ?_|apply qD|apply qE|apply qF|apply qG|apply qH);try simp (disch:=(first|omega|(simp only [qI,qJ,qK]<;>omega)|exact qL _)) only [go_sem])
  refine (counted_fn flex false (wholeS t.s).length 4 (by omega) (by omega) _).mono ?_
  rintro v2 w2 ⟨ho,he⟩
  have hcl:=countedS_len flex false (wholeS t.s).length 4 (by omega) (by omega)
  have hsz:=he.size
  simp only [World.size_alloc] at hsz
  refine wp_append ap_22_22 (m:=(wholeS t.s).length) (news:=(wholeS t.s).map byteV) (n:=(countedS flex false (wholeS t.s).length 4).length) (cs:=(countedS flex false (wholeS t.s).length 4).map byteV) (v:=v2) ?_ rfl (ho.mono (B':=w.heap.size) (by simp only [World.size_alloc];omega)) (flat_bytes _) ?_ ?_ ?_ ?_
  ·simp (disch:=(first|omega|(simp only [qI,qJ,qK]<;>omega)|exact qL _)) only [go_sem]
  ·have:=(hw1.keep (he.keeps _)).src
   simp (disch:=(first|omega|(simp only [qI,qJ,qK]<;>omega)|exact qL _)) only [go_sem]
   exact this
  ·omega
  ·omega
  intro v' w4 ho4 hu hfr
  simp (disch:=(first|omega|(simp only [qI,qJ,qK]<;>omega)|exact qL _)) only [go_sem]
  repeat ((first|refine qA ?_|apply qB|refine qC ?_|apply qD|apply qE|apply qF|apply qG|apply qH);try simp (disch:=(first|omega|(simp only [qI,qJ,qK]<;>omega)|exact qL _)) only [go_sem])
  refine ⟨?_,?_⟩
  ·simp only [valueS]
   exact OwnBy.app (s:=countedS flex false (wholeS t.s).length 4) (t:=wholeS t.s) ho4 rfl
  ·exact Ext.own (hE.trans he) (ho.mono (B':=w.heap.size) (by simp only [World.size_alloc];omega)) hu

theorem value_k10 {ok:Blocks} (pt:List Fld→Int→Bool→Tree→List UInt8) (kind:Int) (sub:List Fld) (null:Bool) (ver:Int) (flex:Bool) (t:Tree) (vs:Value) (ct:List Value) (w:World) (hs:FldsV ok w vs sub) (ht:TreeC ok w t ct) (hsm:Small 4611686018427387903 t)
  (hlen:(valueS pt kind sub null ver flex t).length≤2 ^ 40) (h10:kind=10) (hpart:∀ w',Ext w w'→Fn Tryz.prog 22 #[vs,.int .i64 ver,.bool flex,.agg ct.toArray] w' fun r w''=>OwnBy 5 w'.heap.size w'' r (pt sub ver flex t)∧Ext w' w'') :
  Fn Tryz.prog 75 #[.int .i64 kind,vs,.bool null,.int .i64 ver,.bool flex,.agg ct.toArray] w fun r w'=>OwnBy 5 w.heap.size w' r (valueS pt kind sub null ver flex t)∧Ext w w':=by
 obtain ⟨vS,vL,vU,rfl,hn,hS,hL,hU⟩:=ht.inv
 have hl1:=hsm.s
 have hl2:=hsm.l
 have f1:=hS.flat
 have f2:=SlR.flat hL
 have f3:=SlR.flat hU
 obtain ⟨bS,cS,rfl,hcS⟩:=hS.shape
 have hE:Ext w (w.alloc (.cells #[.int .i64 t.n,.slice bS t.s.length cS,.bool t.null,vL,vU] 26)):=Upd.alloc (Upd.refl _ _) _
 refine fn_of_W Tryz.func75 rfl Tryz.results75 Tryz.ntmps75 rfl ?_
 subst h10
 repeat ((first|refine qA ?_|apply qB|refine qC ?_|apply qD|apply qE|apply qF|apply qG|apply qH);try simp (disch:=(first|omega|(simp only [qI,qJ,qK]<;>omega)|exact qL _)) only [go_sem,f1,f2,f3,cellsAt_five])
 refine (hpart _ hE).mono ?_
 rintro v5 w5 ⟨ho5,he5⟩
 repeat ((first|refine qA ?_|apply qB|refine qC ?_|apply qD|apply qE|apply qF|apply qG|apply qH);try simp (disch:=(first|omega|(simp only [qI,qJ,qK]<;>omega)|exact qL _)) only [go_sem])
 refine ⟨?_,hE.trans he5⟩
 simp only [valueS]
 exact ho5.mono (by simp only [World.size_alloc];omega)

theorem value_k7 {ok:Blocks} (pt:List Fld→Int→Bool→Tree→List UInt8) (kind:Int) (sub:List Fld) (null:Bool) (ver:Int) (flex:Bool) (t:Tree) (vs:Value) (ct:List Value) (w:World) (hs:FldsV ok w vs sub) (ht:TreeC ok w t ct) (hsm:Small 4611686018427387903 t)
  (hlen:(valueS pt kind sub null ver flex t).length≤2 ^ 40) (h7:kind=7) :
  Fn Tryz.prog 75 #[.int .i64 kind,vs,.bool null,.int .i64 ver,.bool flex,.agg ct.toArray] w fun r w'=>OwnBy 5 w.heap.size w' r (valueS pt kind sub null ver flex t)∧Ext w w':=by
 obtain ⟨vS,vL,vU,rfl,hn,hS,hL,hU⟩:=ht.inv
 have hl1:=hsm.s
 have hl2:=hsm.l
 have f1:=hS.flat
 have f2:=SlR.flat hL
 have f3:=SlR.flat hU
 obtain ⟨bS,cS,rfl,hcS⟩:=hS.shape
 have hE:Ext w (w.alloc (.cells #[.int .i64 t.n,.slice bS t.s.length cS,.bool t.null,vL,vU] 26)):=Upd.alloc (Upd.refl _ _) _
 refine fn_of_W Tryz.func75 rfl Tryz.results75 Tryz.ntmps75 rfl ?_
 subst h7
 repeat ((first|refine qA ?_|apply qB|refine qC ?_|apply qD|apply qE|apply qF|apply qG|apply qH);try simp (disch:=(first|omega|(simp only [qI,qJ,qK]<;>omega)|exact qL _)) only [go_sem,f1,f2,f3])
 refine wp_make (T:=22) (E:=5) (size:=1) (bytes:=1) (z:=.int .u8 0) (by kernel_rfl) (by kernel_rfl) (kl:=.i64) (kc:=.i64) (l:=16) (c:=16) ?_ ?_ (by omega) (by omega) (by omega) ?_
 ·rfl
 ·rfl
 rw [show (Value.int .u8 0).cells=#[Value.int .u8 0] from rfl,made_one]
 have hw3:Ext w ((w.alloc (.cells #[.int .i64 t.n,.slice bS t.s.length cS,.bool t.null,vL,vU] 26)).alloc (.cells (List.replicate (16 * 1) (Value.int IntKind.u8 0)).toArray 5)):=hE.alloc _
 have hsz:(w.alloc (.cells #[.int .i64 t.n,.slice bS t.s.length cS,.bool t.null,vL,vU] 26)).heap.size=w.heap.size+1:=by simp only [World.size_alloc]
 simp (disch:=(first|omega|(simp only [qI,qJ,qK]<;>omega)|exact qL _)) only [go_sem]
 repeat ((first|refine qA ?_|apply qB|refine qC ?_|apply qD|apply qE|apply qF|apply qG|apply qH);try simp (disch:=(first|omega|(simp only [qI,qJ,qK]<;>omega)|exact qL _)) only [go_sem,f1,f2,f3])
 refine wp_copy (E:=5) (n:=16) (b:=w.heap.size+1) (cap:=16) (m:=t.s.length) (c:=cS) (base:=bS) (s:=t.s) (xb:=((List.replicate 16 (Value.int .u8 0)).toArray,5,(0,0))) (by kernel_rfl) (by kernel_rfl) ?_ ?_ (hS.keep (hw3.keeps _)) ?_ ?_ rfl ?_
 ·simp (disch:=(first|omega|(simp only [qI,qJ,qK]<;>omega)|exact qL _)) only [go_sem]
 ·simp (disch:=(first|omega|(simp only [qI,qJ,qK]<;>omega)|exact qL _)) only [go_sem]
 ·rw [blk_alloc_new (by omega)]
 ·simp
 intro v
 simp (disch:=(first|omega|(simp only [qI,qJ,qK]<;>omega)|exact qL _)) only [go_sem]
 repeat ((first|refine qA ?_|apply qB|refine qC ?_|apply qD|apply qE|apply qF|apply qG|apply qH);try simp (disch:=(first|omega|(simp only [qI,qJ,qK]<;>omega)|exact qL _)) only [go_sem,f1,f2,f3])
 refine ⟨?_,hw3.wr _ _ (.inl (by omega))⟩
 have e:valueS pt 7 sub null ver flex t=t.s.take 16++List.replicate (16 - t.s.length) 0:=by simp [valueS]
 have hl16:(t.s.take 16++List.replicate (16 - t.s.length) 0).length=16:=by
  simp only [List.length_append,List.length_take,List.length_replicate];omega
 rw [e]
 have hb:=blk_wr_eq (w:=(w.alloc (.cells #[.int .i64 t.n,.slice bS t.s.length cS,.bool t.null,vL,vU] 26)).alloc (.cells (List.replicate 16 (Value.int IntKind.u8 0)).toArray 5)) (b:=w.heap.size+1) (o:=0) (vs:=(t.s.take 16).map byteV)
 rw [blk_alloc_new (by omega),Option.map_some] at hb
 have ha:wrArr (List.replicate 16 (Value.int IntKind.u8 0)).toArray 0 ((t.s.take 16).map byteV)=((t.s.take 16++List.replicate (16 - t.s.length) 0).map byteV).toArray:=by
  apply Array.ext_getElem?
  intro k
  rw [wrArr_get]
  simp only [List.size_toArray,List.length_replicate,List.getElem?_toArray,List.length_map,List.length_take,List.map_append,List.map_replicate]
  have hb0:byteV 0=Value.int IntKind.u8 0:=rfl
  rw [hb0]
  simp only [List.getElem?_append,List.length_map,List.length_take,List.getElem?_replicate]
  by_cases h1:k < min 16 t.s.length
  ·rw [if_pos (by omega),if_pos h1];rfl
  ·rw [if_neg (by omega),if_neg h1]
   by_cases h2:k < 16
   ·rw [if_pos h2,if_pos (by omega)]
   ·rw [if_neg h2,if_neg (by omega)]
 rw [ha] at hb
 have:=Own.blk (B:=w.heap.size) (size:=1) (n:=16) hb (by rw [List.length_map,hl16]) (by omega)
 show Own _ _ _ 1 _ (t.s.take 16++List.replicate (16 - t.s.length) 0).length _
 rw [hl16]
 exact this

theorem value_kd {ok:Blocks} (pt:List Fld→Int→Bool→Tree→List UInt8) (kind:Int) (sub:List Fld) (null:Bool) (ver:Int) (flex:Bool) (t:Tree) (vs:Value) (ct:List Value) (w:World) (hs:FldsV ok w vs sub) (ht:TreeC ok w t ct) (hsm:Small 4611686018427387903 t)
  (hlen:(valueS pt kind sub null ver flex t).length≤2 ^ 40) (h0:kind≠0) (h7:kind≠7) (h8:kind≠8) (h9:kind≠9) (h10:kind≠10) :
  Fn Tryz.prog 75 #[.int .i64 kind,vs,.bool null,.int .i64 ver,.bool flex,.agg ct.toArray] w fun r w'=>OwnBy 5 w.heap.size w' r (valueS pt kind sub null ver flex t)∧Ext w w':=by
 obtain ⟨vS,vL,vU,rfl,hn,hS,hL,hU⟩:=ht.inv
 have hl1:=hsm.s
 have hl2:=hsm.l
 have f1:=hS.flat
 have f2:=SlR.flat hL
 have f3:=SlR.flat hU
 obtain ⟨bS,cS,rfl,hcS⟩:=hS.shape
 have hE:Ext w (w.alloc (.cells #[.int .i64 t.n,.slice bS t.s.length cS,.bool t.null,vL,vU] 26)):=Upd.alloc (Upd.refl _ _) _
 refine fn_of_W Tryz.func75 rfl Tryz.results75 Tryz.ntmps75 rfl ?_
 repeat ((first|refine qA ?_|apply qB|refine qC ?_|apply qD|apply qE|apply qF|apply qG|apply qH);try simp (disch:=(first|omega|(simp only [qI,qJ,qK]<;>omega)|exact qL _)) only [go_sem,f1,f2,f3])
 refine W.drawR (.take 0 (.take 1 (.take 2 (.only 3 (.only 4 (.only 5 .done)))))) NoB mixed (by kernel_rfl) ?_
 simp (disch:=(first|omega|(simp only [qI,qJ,qK]<;>omega)|exact qL _)) only [go_sem,f1,f2,f3]
 have hw4:=hE.drew
 refine (Width_fn kind _).mono ?_
 rintro _ _ ⟨rfl,rfl⟩
 refine ⟨Upd.refl _ _,?_⟩
 refine (Fixed_fn t.n (widthS kind) (widthS_le _) _).mono ?_
 rintro v5 w5 ⟨ho5,he5⟩
 refine ⟨he5,he5,?_⟩
 repeat ((first|refine qA ?_|apply qB|refine qC ?_|apply qD|apply qE|apply qF|apply qG|apply qH);try simp (disch:=(first|omega|(simp only [qI,qJ,qK]<;>omega)|exact qL _)) only [go_sem])
 refine ⟨?_,hw4.trans he5⟩
 have e:valueS pt kind sub null ver flex t=fixedS t.n (widthS kind):=by simp [valueS,h0,h7,h8,h9,h10]
 rw [e]
 exact ho5.mono (by simp only [size_drew,World.size_alloc];omega)

theorem value_fn {ok:Blocks} (pt:List Fld→Int→Bool→Tree→List UInt8) (kind:Int) (sub:List Fld) (null:Bool) (ver:Int) (flex:Bool) (t:Tree) (vs:Value) (ct:List Value) (w:World) (hs:FldsV ok w vs sub) (ht:TreeC ok w t ct) (hsm:Small 4611686018427387903 t)
  (hlen:(valueS pt kind sub null ver flex t).length≤2 ^ 40)
  (hpart:kind=10→∀ w',Ext w w'→Fn Tryz.prog 22 #[vs,.int .i64 ver,.bool flex,.agg ct.toArray] w' fun r w''=>OwnBy 5 w'.heap.size w'' r (pt sub ver flex t)∧Ext w' w'') :
  Fn Tryz.prog 75 #[.int .i64 kind,vs,.bool null,.int .i64 ver,.bool flex,.agg ct.toArray] w fun r w'=>OwnBy 5 w.heap.size w' r (valueS pt kind sub null ver flex t)∧Ext w w':=by
 by_cases h0:kind=0
 ·exact value_k0 pt kind sub null ver flex t vs ct w hs ht hsm hlen h0
 by_cases h7:kind=7
 ·exact value_k7 pt kind sub null ver flex t vs ct w hs ht hsm hlen h7
 by_cases h8:kind=8
 ·exact value_k8 pt kind sub null ver flex t vs ct w hs ht hsm hlen h8
 by_cases h9:kind=9
 ·exact value_k9 pt kind sub null ver flex t vs ct w hs ht hsm hlen h9
 by_cases h10:kind=10
 ·exact value_k10 pt kind sub null ver flex t vs ct w hs ht hsm hlen h10 (hpart h10)
 exact value_kd pt kind sub null ver flex t vs ct w hs ht hsm hlen h0 h7 h8 h9 h10

def PartOk (ok:Blocks) (d:Nat) (pt:List Fld→Int→Bool→Tree→List UInt8):Prop :=
 ∀ (fs:List Fld) (ver:Int) (flex:Bool) (t:Tree) (vs:Value) (ct:List Value) (w:World),FldsV ok w vs fs→okF d fs=true→TreeC ok w t ct→Small 4611686018427387903 t→(pt fs ver flex t).length≤2 ^ 40 →
  Fn Tryz.prog 22 #[vs,.int .i64 ver,.bool flex,.agg ct.toArray] w fun r w'=>OwnBy 5 w.heap.size w' r (pt fs ver flex t)∧Ext w w'

theorem value_ok {ok:Blocks} {d:Nat} {pt:List Fld→Int→Bool→Tree→List UInt8} (hp:PartOk ok d pt) (kind:Int) (sub:List Fld) (null:Bool) (ver:Int) (flex:Bool) (t:Tree) (vs:Value) (ct:List Value) (w:World) (hs:FldsV ok w vs sub) (hok:okF d sub=true) (ht:TreeC ok w t ct) (hsm:Small 4611686018427387903 t)
  (hlen:(valueS pt kind sub null ver flex t).length≤2 ^ 40) :
  Fn Tryz.prog 75 #[.int .i64 kind,vs,.bool null,.int .i64 ver,.bool flex,.agg ct.toArray] w fun r w'=>OwnBy 5 w.heap.size w' r (valueS pt kind sub null ver flex t)∧Ext w w':=by
 refine value_fn pt kind sub null ver flex t vs ct w hs ht hsm hlen ?_
 intro h10 w' he
 subst h10
 have e:(valueS pt 10 sub null ver flex t)=pt sub ver flex t:=by simp [valueS]
 rw [e] at hlen
 exact hp sub ver flex t vs ct w' (hs.keep (he.keeps _)) hok (ht.keep (he.keeps _)) hsm hlen

theorem field_kd {ok:Blocks} {d:Nat} {pt:List Fld→Int→Bool→Tree→List UInt8} (hp:PartOk ok d pt) (f:Fld) (ver:Int) (flex:Bool) (t:Tree) (cf ct:List Value) (w:World) (hf:FldC ok w f cf) (hok:okF d f.sub=true) (ht:TreeC ok w t ct) (hsm:Small 4611686018427387903 t)
  (hlen:(fieldS pt f ver flex t).length≤2 ^ 40) (h11:f.kind≠11) (h10:¬ (f.kind=10∧0≤f.null)) :
  Fn Tryz.prog 36 #[.agg cf.toArray,.int .i64 ver,.bool flex,.agg ct.toArray] w fun r w'=>OwnBy 5 w.heap.size w' r (fieldS pt f ver flex t)∧Ext w w':=by
 obtain ⟨vs,rfl,hsub⟩:=hf.inv
 obtain ⟨vS,vL,vU,rfl,hn,hS,hL,hU⟩:=ht.inv
 have hl1:=hsm.s
 have hl2:=hsm.l
 have f0:=SlR.flat hsub
 have f1:=hS.flat
 have f2:=SlR.flat hL
 have f3:=SlR.flat hU
 have hE:Ext w ((w.alloc (.cells #[.int .i64 f.kind,.int .i64 f.fr,.int .i64 f.to,.int .i64 f.null,.int .i64 f.tag,.int .i64 f.df,.int .i64 f.of,vs] 50)).alloc (.cells #[.int .i64 t.n,vS,.bool t.null,vL,vU] 26)):=Upd.alloc (Upd.alloc (Upd.refl _ _) _) _
 refine fn_of_W Tryz.func36 rfl Tryz.results36 Tryz.ntmps36 rfl ?_
 repeat ((first|refine qA ?_|apply qB|refine qC ?_|apply qD|apply qE|apply qF|apply qG|apply qH);try simp (disch:=(first|omega|(simp only [qI,qJ,qK]<;>omega)|exact qL _)) only [go_sem,f0,f1,f2,f3,cellsAt_five,cellsAt_eight])
 have hb0:blk ((w.alloc (.cells #[.int .i64 f.kind,.int .i64 f.fr,.int .i64 f.to,.int .i64 f.null,.int .i64 f.tag,.int .i64 f.df,.int .i64 f.of,vs] 50)).alloc (.cells #[.int .i64 t.n,vS,.bool t.null,vL,vU] 26)) w.heap.size=some (#[.int .i64 f.kind,.int .i64 f.fr,.int .i64 f.to,.int .i64 f.null,.int .i64 f.tag,.int .i64 f.df,.int .i64 f.of,vs],50,(0,0)):=by
  rw [blk_alloc_old (by simp only [World.size_alloc];omega),blk_alloc_new rfl]
 have hb1:blk ((w.alloc (.cells #[.int .i64 f.kind,.int .i64 f.fr,.int .i64 f.to,.int .i64 f.null,.int .i64 f.tag,.int .i64 f.df,.int .i64 f.of,vs] 50)).alloc (.cells #[.int .i64 t.n,vS,.bool t.null,vL,vU] 26)) (w.heap.size+1)=some (#[.int .i64 t.n,vS,.bool t.null,vL,vU],26,(0,0)):=by
  rw [blk_alloc_new (by simp only [World.size_alloc])]
 have hz2:((w.alloc (.cells #[.int .i64 f.kind,.int .i64 f.fr,.int .i64 f.to,.int .i64 f.null,.int .i64 f.tag,.int .i64 f.df,.int .i64 f.of,vs] 50)).alloc (.cells #[.int .i64 t.n,vS,.bool t.null,vL,vU] 26)).heap.size=w.heap.size+2:=by simp only [World.size_alloc]
 generalize ((w.alloc (.cells #[.int .i64 f.kind,.int .i64 f.fr,.int .i64 f.to,.int .i64 f.null,.int .i64 f.tag,.int .i64 f.df,.int .i64 f.of,vs] 50)).alloc (.cells #[.int .i64 t.n,vS,.bool t.null,vL,vU] 26))=w2 at *
 refine (Null_fn f ver t _ _ w2 (FldC.of (hsub.keep (hE.keeps _))) (ht.keep (hE.keeps _))).mono ?_
 rintro v3 w3 ⟨rfl,hE3⟩
 have hE03:Ext w w3:=hE.trans hE3
 have hz3:=hE3.size
 have hb03:=hE3.blk_some hb0 id
 have hb13:=hE3.blk_some hb1 id
 have e:fieldS pt f ver flex t=valueS pt f.kind f.sub (nullS f ver t) ver flex t:=by simp [fieldS,h11,h10]
 rw [e] at hlen ⊢
 by_cases hk:f.kind=10
 ·have hn0:¬ 0≤f.null:=fun h=>h10 ⟨hk,h⟩
  have g1:(f.kind == 10)=true:=by simp [hk]
  repeat ((first|refine qA ?_|apply qB|refine qC ?_|apply qD|apply qE|apply qF|apply qG|apply qH);try simp (disch:=(first|omega|(simp only [qI,qJ,qK]<;>omega)|exact qL _)) only [go_sem,hb03,hb13,cellsAt_five])
  refine (value_ok hp f.kind f.sub (nullS f ver t) ver flex t vs _ w3 (hsub.keep (hE03.keeps _)) hok (ht.keep (hE03.keeps _)) hsm hlen).mono ?_
  rintro v4 w4 ⟨ho4,hE4⟩
  repeat ((first|refine qA ?_|apply qB|refine qC ?_|apply qD|apply qE|apply qF|apply qG|apply qH);try simp (disch:=(first|omega|(simp only [qI,qJ,qK]<;>omega)|exact qL _)) only [go_sem])
  exact ⟨ho4.mono (by omega),hE03.trans hE4⟩
 ·repeat ((first|refine qA ?_|apply qB|refine qC ?_|apply qD|apply qE|apply qF|apply qG|apply qH);try simp (disch:=(first|omega|(simp only [qI,qJ,qK]<;>omega)|exact qL _)) only [go_sem,hb03,hb13,cellsAt_five])
  refine (value_ok hp f.kind f.sub (nullS f ver t) ver flex t vs _ w3 (hsub.keep (hE03.keeps _)) hok (ht.keep (hE03.keeps _)) hsm hlen).mono ?_
  rintro v4 w4 ⟨ho4,hE4⟩
  repeat ((first|refine qA ?_|apply qB|refine qC ?_|apply qD|apply qE|apply qF|apply qG|apply qH);try simp (disch:=(first|omega|(simp only [qI,qJ,qK]<;>omega)|exact qL _)) only [go_sem])
  exact ⟨ho4.mono (by omega),hE03.trans hE4⟩

theorem field_k10 {ok:Blocks} {d:Nat} {pt:List Fld→Int→Bool→Tree→List UInt8} (hp:PartOk ok d pt) (f:Fld) (ver:Int) (flex:Bool) (t:Tree) (cf ct:List Value) (w:World) (hf:FldC ok w f cf) (hok:okF d f.sub=true) (ht:TreeC ok w t ct) (hsm:Small 4611686018427387903 t)
  (hlen:(fieldS pt f ver flex t).length≤2 ^ 40) (h10:f.kind=10) (hn0:0≤f.null) :
  Fn Tryz.prog 36 #[.agg cf.toArray,.int .i64 ver,.bool flex,.agg ct.toArray] w fun r w'=>OwnBy 5 w.heap.size w' r (fieldS pt f ver flex t)∧Ext w w':=by
 obtain ⟨vs,rfl,hsub⟩:=hf.inv
 obtain ⟨vS,vL,vU,rfl,hn,hS,hL,hU⟩:=ht.inv
 have hl1:=hsm.s
 have hl2:=hsm.l
 have f0:=SlR.flat hsub
 have f1:=hS.flat
 have f2:=SlR.flat hL
 have f3:=SlR.flat hU
 have hE:Ext w ((w.alloc (.cells #[.int .i64 f.kind,.int .i64 f.fr,.int .i64 f.to,.int .i64 f.null,.int .i64 f.tag,.int .i64 f.df,.int .i64 f.of,vs] 50)).alloc (.cells #[.int .i64 t.n,vS,.bool t.null,vL,vU] 26)):=Upd.alloc (Upd.alloc (Upd.refl _ _) _) _
 refine fn_of_W Tryz.func36 rfl Tryz.results36 Tryz.ntmps36 rfl ?_
 repeat ((first|refine qA ?_|apply qB|refine qC ?_|apply qD|apply qE|apply qF|apply qG|apply qH);try simp (disch:=(first|omega|(simp only [qI,qJ,qK]<;>omega)|exact qL _)) only [go_sem,f0,f1,f2,f3,cellsAt_five,cellsAt_eight])
 have hb0:blk ((w.alloc (.cells #[.int .i64 f.kind,.int .i64 f.fr,.int .i64 f.to,.int .i64 f.null,.int .i64 f.tag,.int .i64 f.df,.int .i64 f.of,vs] 50)).alloc (.cells #[.int .i64 t.n,vS,.bool t.null,vL,vU] 26)) w.heap.size=some (#[.int .i64 f.kind,.int .i64 f.fr,.int .i64 f.to,.int .i64 f.null,.int .i64 f.tag,.int .i64 f.df,.int .i64 f.of,vs],50,(0,0)):=by
  rw [blk_alloc_old (by simp only [World.size_alloc];omega),blk_alloc_new rfl]
 have hb1:blk ((w.alloc (.cells #[.int .i64 f.kind,.int .i64 f.fr,.int .i64 f.to,.int .i64 f.null,.int .i64 f.tag,.int .i64 f.df,.int .i64 f.of,vs] 50)).alloc (.cells #[.int .i64 t.n,vS,.bool t.null,vL,vU] 26)) (w.heap.size+1)=some (#[.int .i64 t.n,vS,.bool t.null,vL,vU],26,(0,0)):=by
  rw [blk_alloc_new (by simp only [World.size_alloc])]
 have hz2:((w.alloc (.cells #[.int .i64 f.kind,.int .i64 f.fr,.int .i64 f.to,.int .i64 f.null,.int .i64 f.tag,.int .i64 f.df,.int .i64 f.of,vs] 50)).alloc (.cells #[.int .i64 t.n,vS,.bool t.null,vL,vU] 26)).heap.size=w.heap.size+2:=by simp only [World.size_alloc]
 generalize ((w.alloc (.cells #[.int .i64 f.kind,.int .i64 f.fr,.int .i64 f.to,.int .i64 f.null,.int .i64 f.tag,.int .i64 f.df,.int .i64 f.of,vs] 50)).alloc (.cells #[.int .i64 t.n,vS,.bool t.null,vL,vU] 26))=w2 at *
 refine (Null_fn f ver t _ _ w2 (FldC.of (hsub.keep (hE.keeps _))) (ht.keep (hE.keeps _))).mono ?_
 rintro v3 w3 ⟨rfl,hE3⟩
 have hE03:Ext w w3:=hE.trans hE3
 have hz3:=hE3.size
 have hb03:=hE3.blk_some hb0 id
 have hb13:=hE3.blk_some hb1 id
 have h11:f.kind≠11:=by omega
 cases hnul:nullS f ver t with
 | true =>
  repeat ((first|refine qA ?_|apply qB|refine qC ?_|apply qD|apply qE|apply qF|apply qG|apply qH);try simp (disch:=(first|omega|(simp only [qI,qJ,qK]<;>omega)|exact qL _)) only [go_sem,hb03,hb13,hnul])
  refine (Fixed_fn (-1) 1 (by omega) _).mono ?_
  rintro v4 w4 ⟨ho4,hE4⟩
  repeat ((first|refine qA ?_|apply qB|refine qC ?_|apply qD|apply qE|apply qF|apply qG|apply qH);try simp (disch:=(first|omega|(simp only [qI,qJ,qK]<;>omega)|exact qL _)) only [go_sem])
  refine ⟨?_,hE03.trans hE4⟩
  simp only [fieldS,h10,hn0,hnul]
  exact ho4.mono (by omega)
 | false =>
  repeat ((first|refine qA ?_|apply qB|refine qC ?_|apply qD|apply qE|apply qF|apply qG|apply qH);try simp (disch:=(first|omega|(simp only [qI,qJ,qK]<;>omega)|exact qL _)) only [go_sem,hb03,hb13,hnul])
  have hlp:(pt f.sub ver flex t).length≤2 ^ 40:=by
   simp [fieldS,h10,hn0,hnul] at hlen;omega
  refine W.drawR (.take 1 (.take 2 (.take 3 (.take 4 (.take 5 (.only 0 (.only 6 (.only 7 (.only 8 .done))))))))) NoB mixed (by kernel_rfl) ?_
  simp (disch:=(first|omega|(simp only [qI,qJ,qK]<;>omega)|exact qL _)) only [go_sem,hb03,hb13,cellsAt_five]
  have aC:Ext w w3.drew:=hE03.drew
  refine (Fixed_fn 1 1 (by omega) _).mono ?_
  rintro v4 w4 ⟨ho4,hE4⟩
  have hE04:Ext w w4:=aC.trans hE4
  have aI:=hE4.size
  simp only [size_drew] at aI
  refine ⟨hE4,?_⟩
  refine (hp f.sub ver flex t vs _ w4 (hsub.keep (hE04.keeps _)) hok (ht.keep (hE04.keeps _)) hsm hlp).mono ?_
  rintro v5 w5 ⟨ho5,hE5⟩
  have aM:=hE5.size
  have aG:=ho4.upd hE5 (fun _ _ h=>h)
  refine ⟨hE4.trans hE5,?_⟩
  refine wp_append ap_22_22 (m:=(pt f.sub ver flex t).length) (news:=(pt f.sub ver flex t).map byteV) (n:=(fixedS 1 1).length) (cs:=(fixedS 1 1).map byteV) (v:=v4) ?_ rfl (aG.mono (B':=w.heap.size) (by simp only [size_drew];omega)) (flat_bytes _) ?_ ?_ ?_ ?_
  ·simp (disch:=(first|omega|(simp only [qI,qJ,qK]<;>omega)|exact qL _)) only [go_sem]
  ·simp (disch:=(first|omega|(simp only [qI,qJ,qK]<;>omega)|exact qL _)) only [go_sem]
   exact (Own.bytes (ok:=AnyB) ho5 fun _ _=>trivial).src
  ·omega
  ·rw [fixedS_len];omega
  intro v' w6 ho6 hu hfr
  have aA:Upd NoB w3.drew w6:=Ext.own (hE4.trans hE5) ho4 hu
  simp (disch:=(first|omega|(simp only [qI,qJ,qK]<;>omega)|exact qL _)) only [go_sem]
  refine ⟨aA,aA,?_⟩
  repeat ((first|refine qA ?_|apply qB|refine qC ?_|apply qD|apply qE|apply qF|apply qG|apply qH);try simp (disch:=(first|omega|(simp only [qI,qJ,qK]<;>omega)|exact qL _)) only [go_sem])
  refine ⟨?_,aC.trans aA⟩
  simp only [fieldS,h10,hn0,hnul]
  exact OwnBy.app (s:=fixedS 1 1) (t:=pt f.sub ver flex t) ho6 (by simp)

theorem field_k11 {ok:Blocks} {d:Nat} {pt:List Fld→Int→Bool→Tree→List UInt8} (hp:PartOk ok d pt) (f:Fld) (ver:Int) (flex:Bool) (t:Tree) (cf ct:List Value) (w:World) (hf:FldC ok w f cf) (hok:okF d f.sub=true) (ht:TreeC ok w t ct) (hsm:Small 4611686018427387903 t)
  (hlen:(fieldS pt f ver flex t).length≤2 ^ 40) (h11:f.kind=11) :
  Fn Tryz.prog 36 #[.agg cf.toArray,.int .i64 ver,.bool flex,.agg ct.toArray] w fun r w'=>OwnBy 5 w.heap.size w' r (fieldS pt f ver flex t)∧Ext w w':=by
 obtain ⟨vs,rfl,hsub⟩:=hf.inv
 obtain ⟨vS,vL,vU,rfl,hn,hS,hL,hU⟩:=ht.inv
 have hl1:=hsm.s
 have hl2:=hsm.l
 have f0:=SlR.flat hsub
 have f1:=hS.flat
 have f2:=SlR.flat hL
 have f3:=SlR.flat hU
 have hE:Ext w ((w.alloc (.cells #[.int .i64 f.kind,.int .i64 f.fr,.int .i64 f.to,.int .i64 f.null,.int .i64 f.tag,.int .i64 f.df,.int .i64 f.of,vs] 50)).alloc (.cells #[.int .i64 t.n,vS,.bool t.null,vL,vU] 26)):=Upd.alloc (Upd.alloc (Upd.refl _ _) _) _
 refine fn_of_W Tryz.func36 rfl Tryz.results36 Tryz.ntmps36 rfl ?_
 repeat ((first|refine qA ?_|apply qB|refine qC ?_|apply qD|apply qE|apply qF|apply qG|apply qH);try simp (disch:=(first|omega|(simp only [qI,qJ,qK]<;>omega)|exact qL _)) only [go_sem,f0,f1,f2,f3,cellsAt_five,cellsAt_eight])
 have hb0:blk ((w.alloc (.cells #[.int .i64 f.kind,.int .i64 f.fr,.int .i64 f.to,.int .i64 f.null,.int .i64 f.tag,.int .i64 f.df,.int .i64 f.of,vs] 50)).alloc (.cells #[.int .i64 t.n,vS,.bool t.null,vL,vU] 26)) w.heap.size=some (#[.int .i64 f.kind,.int .i64 f.fr,.int .i64 f.to,.int .i64 f.null,.int .i64 f.tag,.int .i64 f.df,.int .i64 f.of,vs],50,(0,0)):=by
  rw [blk_alloc_old (by simp only [World.size_alloc];omega),blk_alloc_new rfl]
 have hb1:blk ((w.alloc (.cells #[.int .i64 f.kind,.int .i64 f.fr,.int .i64 f.to,.int .i64 f.null,.int .i64 f.tag,.int .i64 f.df,.int .i64 f.of,vs] 50)).alloc (.cells #[.int .i64 t.n,vS,.bool t.null,vL,vU] 26)) (w.heap.size+1)=some (#[.int .i64 t.n,vS,.bool t.null,vL,vU],26,(0,0)):=by
  rw [blk_alloc_new (by simp only [World.size_alloc])]
 have hz2:((w.alloc (.cells #[.int .i64 f.kind,.int .i64 f.fr,.int .i64 f.to,.int .i64 f.null,.int .i64 f.tag,.int .i64 f.df,.int .i64 f.of,vs] 50)).alloc (.cells #[.int .i64 t.n,vS,.bool t.null,vL,vU] 26)).heap.size=w.heap.size+2:=by simp only [World.size_alloc]
 generalize ((w.alloc (.cells #[.int .i64 f.kind,.int .i64 f.fr,.int .i64 f.to,.int .i64 f.null,.int .i64 f.tag,.int .i64 f.df,.int .i64 f.of,vs] 50)).alloc (.cells #[.int .i64 t.n,vS,.bool t.null,vL,vU] 26))=w2 at *
 refine (Null_fn f ver t _ _ w2 (FldC.of (hsub.keep (hE.keeps _))) (ht.keep (hE.keeps _))).mono ?_
 rintro v3 w3 ⟨rfl,hE3⟩
 have hE03:Ext w w3:=hE.trans hE3
 have hz3:=hE3.size
 have hb03:=hE3.blk_some hb0 id
 have hb13:=hE3.blk_some hb1 id
 obtain ⟨vl0,cl0,rfl,aK⟩:=SlR.shape hL
 repeat ((first|refine qA ?_|apply qB|refine qC ?_|apply qD|apply qE|apply qF|apply qG|apply qH);try simp (disch:=(first|omega|(simp only [qI,qJ,qK]<;>omega)|exact qL _)) only [go_sem,hb03,hb13])
 refine (things_fn t.l _ w3 (hL.keep (hE03.keeps _))).mono ?_
 rintro v4 w4 ⟨aD,aJ⟩
 obtain rfl:=aJ.symm
 obtain ⟨bl,cl,rfl,hcl⟩:=SlR.shape aD
 have hlt:(thingsS t.l).length≤32767:=by simp only [thingsS,List.length_take];omega
 have hsml:∀ x∈thingsS t.l,Small 4611686018427387903 x:=fun x hx=>by
  obtain ⟨i,hi,rfl⟩:=List.getElem_of_mem (List.mem_of_mem_take hx)
  exact hsm.e i hi
 cases hnul:nullS f ver t with
 | true =>
  repeat ((first|refine qA ?_|apply qB|refine qC ?_|apply qD|apply qE|apply qF|apply qG|apply qH);try simp (disch:=(first|omega|(simp only [qI,qJ,qK]<;>omega)|exact qL _)) only [go_sem,hnul])
  refine (counted_fn flex true 0 4 (by omega) (by omega) _).mono ?_
  rintro v5 w5 ⟨ho5,hE5⟩
  have aF:=countedS_len flex true 0 4 (by omega) (by omega)
  repeat ((first|refine qA ?_|apply qB|refine qC ?_|apply qD|apply qE|apply qF|apply qG|apply qH);try simp (disch:=(first|omega|(simp only [qI,qJ,qK]<;>omega)|exact qL _)) only [go_sem])
  refine W.exitJ 0 (fun ρ' w'=>ρ' 11=v5∧w'=w5) (W.loop (fun ρ' w'=>ρ' 11=v5∧w'=w5∧ρ' 31 = .int .i64 0∧ρ' 30 = .int .i64 0) (fun _ _=>0) ?_ ?_) ?_
  ·refine ⟨?_,rfl,?_,?_⟩<;>simp (disch:=(first|omega|(simp only [qI,qJ,qK]<;>omega)|exact qL _)) only [go_sem]
   all_goals rfl
  ·rintro ρ6 w6 ⟨h6,rfl,h31,a8⟩
   repeat ((first|refine qA ?_|apply qB|refine qC ?_|apply qD|apply qE|apply qF|apply qG|apply qH);try simp (disch:=(first|omega|(simp only [qI,qJ,qK]<;>omega)|exact qL _)) only [go_sem,h31,a8])
   exact h6
  ·rintro ρ6 w6 ⟨h6,rfl⟩
   simp (disch:=(first|omega|(simp only [qI,qJ,qK]<;>omega)|exact qL _)) only [go_sem]
   repeat ((first|refine qA ?_|apply qB|refine qC ?_|apply qD|apply qE|apply qF|apply qG|apply qH);try simp (disch:=(first|omega|(simp only [qI,qJ,qK]<;>omega)|exact qL _)) only [go_sem,h6])
   refine ⟨?_,hE03.trans hE5⟩
   have e:fieldS pt f ver flex t=countedS flex true 0 4:=by simp [fieldS,h11,hnul]
   rw [e]
   exact ho5.mono (by omega)
 | false =>
  repeat ((first|refine qA ?_|apply qB|refine qC ?_|apply qD|apply qE|apply qF|apply qG|apply qH);try simp (disch:=(first|omega|(simp only [qI,qJ,qK]<;>omega)|exact qL _)) only [go_sem,hnul])
  refine (counted_fn flex false (thingsS t.l).length 4 (by omega) (by omega) _).mono ?_
  rintro v5 w5 ⟨ho5,hE5⟩
  have aF:=countedS_len flex false (thingsS t.l).length 4 (by omega) (by omega)
  have hz5:=hE5.size
  have e:fieldS pt f ver flex t=countedS flex false (thingsS t.l).length 4++(thingsS t.l).flatMap fun x=>valueS pt f.of f.sub false ver flex x:=by simp [fieldS,h11,hnul]
  rw [e] at hlen ⊢
  repeat ((first|refine qA ?_|apply qB|refine qC ?_|apply qD|apply qE|apply qF|apply qG|apply qH);try simp (disch:=(first|omega|(simp only [qI,qJ,qK]<;>omega)|exact qL _)) only [go_sem])
  have hb05:=hE5.blk_some hb03 id
  generalize thingsS t.l=L at *
  generalize countedS flex false L.length 4=hd at *
  refine W.loop (fun ρ w'=>∃ (j:Nat) (v:Value),j≤L.length∧ρ 31 = .int .i64 j∧ρ 30 = .int .i64 L.length∧ρ 10 = .slice bl L.length cl∧ρ 4 = .pointer (some ⟨w.heap.size,0,none⟩)∧ρ 1 = .int .i64 ver∧ρ 2 = .bool flex∧ρ 11=v ∧
    OwnBy 5 w3.heap.size w' v (hd++(L.take j).flatMap fun x=>valueS pt f.of f.sub false ver flex x)∧Ext w3 w')
   (fun ρ _=>L.length - (RowKit.intOf (ρ 31)).toNat) ?_ ?_
  ·refine ⟨0,v5,Nat.zero_le _,?_,?_,?_,?_,?_,?_,?_,?_,hE5⟩
   ·simp (disch:=(first|omega|(simp only [qI,qJ,qK]<;>omega)|exact qL _)) only [go_sem]
    rfl
   iterate 6 (· simp (disch:=(first|omega|(simp only [qI,qJ,qK]<;>omega)|exact qL _)) only [go_sem])
   ·simpa using ho5
  ·rintro ρ6 w6 ⟨j,v6,hj,h31,a8,h10,h4,h1,h2,h11',ho6,hE6⟩
   have hz6:=hE6.size
   by_cases hlt2:j < L.length
   ·obtain ⟨_,b,o,x,vS',vL',vU',hb,hokb,hx,hblt,hxs,hxe,g1,g2,g3,hc⟩:=TreesV.get aD hlt2
    subst hb
    have hx6:blk w6 b=some x:=hE6.blk_some hx id
    have aE:blk w6 w.heap.size=_:=hE6.blk_some hb03 id
    have hcat:(hd++(L.take (j+1)).flatMap fun x=>valueS pt f.of f.sub false ver flex x)=(hd++(L.take j).flatMap fun x=>valueS pt f.of f.sub false ver flex x)++valueS pt f.of f.sub false ver flex L[j]:=by
     rw [List.take_succ_eq_append_getElem hlt2]
     simp only [List.flatMap_append,List.flatMap_cons,List.flatMap_nil,List.append_nil,List.append_assoc]
    have hle:((hd++(L.take j).flatMap fun x=>valueS pt f.of f.sub false ver flex x).length+(valueS pt f.of f.sub false ver flex L[j]).length)≤2 ^ 40:=by
     have h:(L.flatMap fun x=>valueS pt f.of f.sub false ver flex x)=((L.take (j+1)).flatMap fun x=>valueS pt f.of f.sub false ver flex x)++((L.drop (j+1)).flatMap fun x=>valueS pt f.of f.sub false ver flex x):=by
      rw [← List.flatMap_append,List.take_append_drop]
     rw [h,← List.append_assoc,hcat] at hlen
     simp only [List.length_append] at hlen ⊢;omega
    have hnb:∀ b,b < w3.heap.size→¬ ownB v6 b:=fun b hb h=>by have:=Own.above ho6 h;omega
    repeat ((first|refine qA ?_|apply qB|refine qC ?_|apply qD|apply qE|apply qF|apply qG|apply qH);try simp (disch:=(first|omega|(simp only [qI,qJ,qK]<;>omega)|exact qL _)) only [go_sem,h31,a8])
    refine W.drawR (.take 0 (.take 1 (.take 2 (.take 3 (.take 4 (.take 5 (.take 6 (.take 7 (.take 8 (.take 9 (.take 10 (.only 11 (.only 12 (.only 13 .done)))))))))))))) (ownB v6) mixed (by kernel_rfl) ?_
    simp (disch:=(first|omega|(simp only [qI,qJ,qK]<;>omega)|exact qL _|(refine hnb _ ?_;first|omega|(simp only [World.size_alloc,size_wr,size_drew]<;>omega)))) only [go_sem,h31,h10,h4,h1,h2,h11',hx6,hxe,aE,Int.toNat_natCast]
    have aB:Ext w3 w6.drew:=hE6.drew
    have hE06:Ext w w6.drew:=hE03.trans aB
    refine (value_ok hp f.of f.sub false ver flex L[j] vs _ _ (hsub.keep (hE06.keeps _)) hok (hc.keep (aB.keeps _)) (hsml _ (List.getElem_mem hlt2)) (by omega)).mono ?_
    rintro v7 w7 ⟨ho7,hE7⟩
    refine ⟨hE7.mono (fun _ h=>h.elim),?_⟩
    have hz7:=hE7.size
    simp only [size_drew] at hz7
    have aH:=(ho6.upd (Upd.refl (fun _=>False) _).drew (fun _ _ h=>h)).upd hE7 (fun _ _ h=>h)
    generalize hs6:(hd++(L.take j).flatMap fun x=>valueS pt f.of f.sub false ver flex x)=s6 at *
    generalize hs7:valueS pt f.of f.sub false ver flex L[j] = s7 at *
    refine wp_append ap_22_22 (m:=s7.length) (news:=s7.map byteV) (n:=s6.length) (cs:=s6.map byteV) (v:=v6) ?_ rfl aH (flat_bytes _) ?_ ?_ ?_ ?_
    ·simp (disch:=(first|omega|(simp only [qI,qJ,qK]<;>omega)|exact qL _)) only [go_sem,h11']
    ·simp (disch:=(first|omega|(simp only [qI,qJ,qK]<;>omega)|exact qL _)) only [go_sem]
     exact (Own.bytes (ok:=AnyB) ho7 fun _ _=>trivial).src
    ·omega
    ·omega
    intro v' w8 ho8 hu hfr
    have hE8:Ext w3 w8:=Ext.own (aB.trans hE7) ho6 hu
    have hM8:Upd (ownB v6) w6.drew w8:=(hE7.mono (fun _ h=>h.elim)).trans hu
    simp (disch:=(first|omega|(simp only [qI,qJ,qK]<;>omega)|exact qL _)) only [go_sem]
    refine ⟨hM8,hM8,?_⟩
    repeat ((first|refine qA ?_|apply qB|refine qC ?_|apply qD|apply qE|apply qF|apply qG|apply qH);try simp (disch:=(first|omega|(simp only [qI,qJ,qK]<;>omega)|exact qL _)) only [go_sem,h31])
    refine ⟨⟨j+1,_,by omega,rfl,a8,h10,h4,h1,h2,rfl,?_,hE8⟩,?_⟩
    ·rw [hcat]
     exact OwnBy.app (s:=s6) (t:=s7) ho8 rfl
    ·simp only [RowKit.intOf];omega
   ·have hjl:j=L.length:=by omega
    subst hjl
    rw [List.take_length] at ho6
    repeat ((first|refine qA ?_|apply qB|refine qC ?_|apply qD|apply qE|apply qF|apply qG|apply qH);try simp (disch:=(first|omega|(simp only [qI,qJ,qK]<;>omega)|exact qL _)) only [go_sem,h31,a8,h11'])
    exact ⟨ho6.mono (by omega),hE03.trans hE6⟩

theorem field_fn {ok:Blocks} {d:Nat} {pt:List Fld→Int→Bool→Tree→List UInt8} (hp:PartOk ok d pt) (f:Fld) (ver:Int) (flex:Bool) (t:Tree) (cf ct:List Value) (w:World) (hf:FldC ok w f cf) (hok:okF d f.sub=true) (ht:TreeC ok w t ct) (hsm:Small 4611686018427387903 t)
  (hlen:(fieldS pt f ver flex t).length≤2 ^ 40) :
  Fn Tryz.prog 36 #[.agg cf.toArray,.int .i64 ver,.bool flex,.agg ct.toArray] w fun r w'=>OwnBy 5 w.heap.size w' r (fieldS pt f ver flex t)∧Ext w w':=by
 by_cases h11:f.kind=11
 ·exact field_k11 hp f ver flex t cf ct w hf hok ht hsm hlen h11
 by_cases h10:f.kind=10∧0≤f.null
 ·exact field_k10 hp f ver flex t cf ct w hf hok ht hsm hlen h10.1 h10.2
 exact field_kd hp f ver flex t cf ct w hf hok ht hsm hlen h11 h10
end Ms

