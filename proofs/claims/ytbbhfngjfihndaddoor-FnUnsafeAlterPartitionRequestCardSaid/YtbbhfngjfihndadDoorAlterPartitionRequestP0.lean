/- A part of the proof: see the last text. -/
import Derived.Test.YtbbhfngjfihndadDoorC04
import Derived.Test.YtbbhfngjfihndadDoorC06
import Derived.Test.YtbbhfngjfihndadDoorC07
set_option linter.unusedSimpArgs false
set_option linter.unusedVariables false
namespace Ms
open Nat renaming reduceEqDiff → n0,reduceAdd → n1,reduceMul → n2,reduceSub → n3,reduceLT → n4,reduceLeDiff → n5
open Int renaming reduceEq → i0,reduceLT → i1,reduceLE → i2,reduceNeg → i3,reduceAdd → i4,reduceSub → i5,reduceMul → i6,reduceToNat → i7
set_option maxRecDepth 4000
open Go Go.Proofs
theorem ap_22_22 : AppT Tryd.prog 22 22 5 1 1:=AppT.of (by kernel_rfl)
theorem ap_24_24 : AppT Tryd.prog 24 24 27 5 88:=AppT.of (by kernel_rfl)
theorem ap_25_25 : AppT Tryd.prog 25 25 51 2 32:=AppT.of (by kernel_rfl)
theorem ca_10 : callable Tryd.prog 10=true:=nr (by kernel_rfl)
theorem ca_11 : callable Tryd.prog 11=true:=nr (by kernel_rfl)
theorem ca_12 : callable Tryd.prog 12=true:=nr (by kernel_rfl)
theorem ca_13 : callable Tryd.prog 13=true:=nr (by kernel_rfl)
theorem ca_14 : callable Tryd.prog 14=true:=nr (by kernel_rfl)
theorem ca_15 : callable Tryd.prog 15=true:=nr (by kernel_rfl)
theorem ca_17 : callable Tryd.prog 17=true:=nr (by kernel_rfl)
theorem ca_18 : callable Tryd.prog 18=true:=nr (by kernel_rfl)
theorem ca_19 : callable Tryd.prog 19=true:=nr (by kernel_rfl)
theorem ca_20 : callable Tryd.prog 20=true:=nr (by kernel_rfl)
theorem ca_21 : callable Tryd.prog 21=true:=nr (by kernel_rfl)
theorem ca_22 : callable Tryd.prog 22=true:=nr (by kernel_rfl)
theorem ca_24 : callable Tryd.prog 24=true:=nr (by kernel_rfl)
theorem ca_25 : callable Tryd.prog 25=true:=nr (by kernel_rfl)
theorem ca_26 : callable Tryd.prog 26=true:=nr (by kernel_rfl)
theorem ca_27 : callable Tryd.prog 27=true:=nr (by kernel_rfl)
theorem ca_28 : callable Tryd.prog 28=true:=nr (by kernel_rfl)
theorem ca_29 : callable Tryd.prog 29=true:=nr (by kernel_rfl)
theorem ca_30 : callable Tryd.prog 30=true:=nr (by kernel_rfl)
theorem ca_31 : callable Tryd.prog 31=true:=nr (by kernel_rfl)
theorem ca_32 : callable Tryd.prog 32=true:=nr (by kernel_rfl)
theorem ca_33 : callable Tryd.prog 33=true:=nr (by kernel_rfl)
theorem ca_34 : callable Tryd.prog 34=true:=nr (by kernel_rfl)
theorem ca_35 : callable Tryd.prog 35=true:=nr (by kernel_rfl)
theorem ca_36 : callable Tryd.prog 36=true:=nr (by kernel_rfl)
theorem ca_37 : callable Tryd.prog 37=true:=nr (by kernel_rfl)
theorem ca_38 : callable Tryd.prog 38=true:=nr (by kernel_rfl)
theorem ca_39 : callable Tryd.prog 39=true:=nr (by kernel_rfl)
theorem ca_4 : callable Tryd.prog 4=true:=nr (by kernel_rfl)
theorem ca_40 : callable Tryd.prog 40=true:=nr (by kernel_rfl)
theorem ca_5 : callable Tryd.prog 5=true:=nr (by kernel_rfl)
theorem ca_50 : callable Tryd.prog 50=true:=nr (by kernel_rfl)
theorem ca_51 : callable Tryd.prog 51=true:=nr (by kernel_rfl)
theorem ca_6 : callable Tryd.prog 6=true:=nr (by kernel_rfl)
theorem ca_60 : callable Tryd.prog 60=true:=nr (by kernel_rfl)
theorem ca_7 : callable Tryd.prog 7=true:=nr (by kernel_rfl)
theorem es_52 : elemSize Tryd.prog 52=some 19:=nr (by kernel_rfl)
theorem es_62 : elemSize Tryd.prog 62=some 7:=nr (by kernel_rfl)
theorem es_77 : elemSize Tryd.prog 77=some 1:=nr (by kernel_rfl)
theorem es_78 : elemSize Tryd.prog 78=some 3:=nr (by kernel_rfl)
theorem fo_57_0 : fieldOff Tryd.prog 57 0=some 0:=nr (by kernel_rfl)
theorem fo_57_1 : fieldOff Tryd.prog 57 1=some 1:=nr (by kernel_rfl)
theorem fo_57_2 : fieldOff Tryd.prog 57 2=some 2:=nr (by kernel_rfl)
theorem fo_57_3 : fieldOff Tryd.prog 57 3=some 3:=nr (by kernel_rfl)
theorem fo_57_4 : fieldOff Tryd.prog 57 4=some 4:=nr (by kernel_rfl)
theorem fo_64_0 : fieldOff Tryd.prog 64 0=some 0:=nr (by kernel_rfl)
theorem fo_64_1 : fieldOff Tryd.prog 64 1=some 1:=nr (by kernel_rfl)
theorem fo_64_2 : fieldOff Tryd.prog 64 2=some 17:=nr (by kernel_rfl)
theorem fo_64_3 : fieldOff Tryd.prog 64 3=some 18:=nr (by kernel_rfl)
theorem fo_81_0 : fieldOff Tryd.prog 81 0=some 0:=nr (by kernel_rfl)
theorem fo_81_1 : fieldOff Tryd.prog 81 1=some 1:=nr (by kernel_rfl)
theorem fo_81_2 : fieldOff Tryd.prog 81 2=some 2:=nr (by kernel_rfl)
theorem fo_81_3 : fieldOff Tryd.prog 81 3=some 3:=nr (by kernel_rfl)
theorem fo_81_4 : fieldOff Tryd.prog 81 4=some 4:=nr (by kernel_rfl)
theorem fo_81_5 : fieldOff Tryd.prog 81 5=some 5:=nr (by kernel_rfl)
theorem fo_81_6 : fieldOff Tryd.prog 81 6=some 6:=nr (by kernel_rfl)
theorem fo_84_0 : fieldOff Tryd.prog 84 0=some 0:=nr (by kernel_rfl)
theorem fo_84_1 : fieldOff Tryd.prog 84 1=some 1:=nr (by kernel_rfl)
theorem fo_84_2 : fieldOff Tryd.prog 84 2=some 2:=nr (by kernel_rfl)
theorem if_44 : isIfaceT Tryd.prog 44=true:=nr (by kernel_rfl)
theorem kn_3 : knownT Tryd.prog 3=true:=nr (by kernel_rfl)
theorem kn_79 : knownT Tryd.prog 79=true:=nr (by kernel_rfl)
theorem kn_9 : knownT Tryd.prog 9=true:=nr (by kernel_rfl)
theorem ld_21 (w:World) (b o:Nat):loadOf Tryd.prog 21 w ⟨b,o,none⟩=(blk w b).bind fun x=>x.1[o]?:=loadOf_one (by kernel_rfl) w b o
theorem ld_38 (w:World) (b o:Nat):loadOf Tryd.prog 38 w ⟨b,o,none⟩=(blk w b).bind fun x=>x.1[o]?:=loadOf_one (by kernel_rfl) w b o
theorem ld_52 (w:World) (b o:Nat):loadOf Tryd.prog 52 w ⟨b,o,none⟩=(blk w b).bind fun x=>x.1[o]?:=loadOf_one (by kernel_rfl) w b o
theorem ld_62 (w:World) (b o:Nat):loadOf Tryd.prog 62 w ⟨b,o,none⟩=(blk w b).bind fun x=>x.1[o]?:=loadOf_one (by kernel_rfl) w b o
theorem ld_77 (w:World) (b o:Nat):loadOf Tryd.prog 77 w ⟨b,o,none⟩=(blk w b).bind fun x=>x.1[o]?:=loadOf_one (by kernel_rfl) w b o
theorem ld_78 (w:World) (b o:Nat):loadOf Tryd.prog 78 w ⟨b,o,none⟩=(blk w b).bind fun x=>x.1[o]?:=loadOf_one (by kernel_rfl) w b o
theorem ld_79 (w:World) (b o:Nat):loadOf Tryd.prog 79 w ⟨b,o,none⟩=(blk w b).bind fun x=>x.1[o]?:=loadOf_one (by kernel_rfl) w b o
theorem ld_9 (w:World) (b o:Nat):loadOf Tryd.prog 9 w ⟨b,o,none⟩=(blk w b).bind fun x=>x.1[o]?:=loadOf_one (by kernel_rfl) w b o
theorem pl_27 : placesOf Tryd.prog 27=some [(0,1),(1,1),(2,1),(3,1),(4,1)]:=nr (by kernel_rfl)
theorem pl_51 : placesOf Tryd.prog 51=some [(0,1),(1,1)]:=nr (by kernel_rfl)
theorem pl_69 : placesOf Tryd.prog 69=some [(0,1),(1,1)]:=nr (by kernel_rfl)
theorem se_24 : slElem Tryd.prog 24=some (27,5):=nr (by kernel_rfl)
theorem se_25 : slElem Tryd.prog 25=some (51,2):=nr (by kernel_rfl)
theorem sl_52 : isSliceT Tryd.prog 52=true:=nr (by kernel_rfl)
theorem sl_62 : isSliceT Tryd.prog 62=true:=nr (by kernel_rfl)
theorem sl_77 : isSliceT Tryd.prog 77=true:=nr (by kernel_rfl)
theorem sl_78 : isSliceT Tryd.prog 78=true:=nr (by kernel_rfl)
theorem sz_2 (w:World) (b o:Nat) (v:Value):storeOf Tryd.prog 2 w ⟨b,o,none⟩ v=(blk w b).bind fun x=>stO w b o v x 1:=storeOf_n (by kernel_rfl) w b o v
theorem sz_21 (w:World) (b o:Nat) (v:Value):storeOf Tryd.prog 21 w ⟨b,o,none⟩ v=(blk w b).bind fun x=>stO w b o v x 1:=storeOf_n (by kernel_rfl) w b o v
theorem sz_24 (w:World) (b o:Nat) (v:Value):storeOf Tryd.prog 24 w ⟨b,o,none⟩ v=(blk w b).bind fun x=>stO w b o v x 1:=storeOf_n (by kernel_rfl) w b o v
theorem sz_25 (w:World) (b o:Nat) (v:Value):storeOf Tryd.prog 25 w ⟨b,o,none⟩ v=(blk w b).bind fun x=>stO w b o v x 1:=storeOf_n (by kernel_rfl) w b o v
theorem sz_38 (w:World) (b o:Nat) (v:Value):storeOf Tryd.prog 38 w ⟨b,o,none⟩ v=(blk w b).bind fun x=>stO w b o v x 1:=storeOf_n (by kernel_rfl) w b o v
theorem sz_52 (w:World) (b o:Nat) (v:Value):storeOf Tryd.prog 52 w ⟨b,o,none⟩ v=(blk w b).bind fun x=>stO w b o v x 1:=storeOf_n (by kernel_rfl) w b o v
theorem sz_62 (w:World) (b o:Nat) (v:Value):storeOf Tryd.prog 62 w ⟨b,o,none⟩ v=(blk w b).bind fun x=>stO w b o v x 1:=storeOf_n (by kernel_rfl) w b o v
theorem sz_69 (w:World) (b o:Nat) (v:Value):storeOf Tryd.prog 69 w ⟨b,o,none⟩ v=(blk w b).bind fun x=>stO w b o v x 2:=storeOf_n (by kernel_rfl) w b o v
theorem sz_77 (w:World) (b o:Nat) (v:Value):storeOf Tryd.prog 77 w ⟨b,o,none⟩ v=(blk w b).bind fun x=>stO w b o v x 1:=storeOf_n (by kernel_rfl) w b o v
theorem sz_78 (w:World) (b o:Nat) (v:Value):storeOf Tryd.prog 78 w ⟨b,o,none⟩ v=(blk w b).bind fun x=>stO w b o v x 1:=storeOf_n (by kernel_rfl) w b o v
theorem sz_79 (w:World) (b o:Nat) (v:Value):storeOf Tryd.prog 79 w ⟨b,o,none⟩ v=(blk w b).bind fun x=>stO w b o v x 1:=storeOf_n (by kernel_rfl) w b o v
theorem sz_9 (w:World) (b o:Nat) (v:Value):storeOf Tryd.prog 9 w ⟨b,o,none⟩ v=(blk w b).bind fun x=>stO w b o v x 1:=storeOf_n (by kernel_rfl) w b o v
theorem z_4 : zeroOf Tryd.prog 4=some #[.bool false]:=nr (by kernel_rfl)
theorem z_57 : zeroOf Tryd.prog 57=some #[.int .i16 0,.int .i32 0,.int .i64 0,.slice none 0 0,.map none]:=nr (by kernel_rfl)
theorem z_69 : zeroOf Tryd.prog 69=some #[.slice none 0 0,.bool false]:=nr (by kernel_rfl)
attribute [go_sem] ca_10 ca_11 ca_12 ca_13 ca_14 ca_15 ca_17 ca_18 ca_19 ca_20 ca_21 ca_22 ca_24 ca_25 ca_26 ca_27 ca_28 ca_29 ca_30 ca_31 ca_32 ca_33 ca_34 ca_35 ca_36 ca_37 ca_38 ca_39 ca_4 ca_40 ca_5 ca_50 ca_51 ca_6 ca_60 ca_7 es_52 es_62 es_77 es_78 fo_57_0 fo_57_1 fo_57_2 fo_57_3 fo_57_4 fo_64_0 fo_64_1 fo_64_2 fo_64_3 fo_81_0 fo_81_1 fo_81_2 fo_81_3 fo_81_4 fo_81_5 fo_81_6 fo_84_0 fo_84_1 fo_84_2 if_44 kn_3 kn_79 kn_9 ld_21 ld_38 ld_52 ld_62 ld_77 ld_78 ld_79 ld_9 pl_27 pl_51 pl_69 se_24 se_25 sl_52 sl_62 sl_77 sl_78 sz_2 sz_21 sz_24 sz_25 sz_38 sz_52 sz_62 sz_69 sz_77 sz_78 sz_79 sz_9 z_4 z_57 z_69
end Ms

namespace Ms
open Go
abbrev qZ5 : Array Value:=#[.int .i64 0,.slice none 0 0,.bool false,.slice none 0 0,.slice none 0 0]
end Ms

namespace Ms
open Go.World renaming size_alloc → qI
open Ms renaming size_wr → qJ,size_drew → qK,not_noB → qL
open W renaming seqR → qA,seq → qB,regR → qC,condK → qD,block → qE,skip → qF,ret → qG,exit → qH
open Nat renaming reduceEqDiff → n0,reduceAdd → n1,reduceMul → n2,reduceSub → n3,reduceLT → n4,reduceLeDiff → n5
open Int renaming reduceEq → i0,reduceLT → i1,reduceLE → i2,reduceNeg → i3,reduceAdd → i4,reduceSub → i5,reduceMul → i6,reduceToNat → i7
set_option maxRecDepth 8000
open Go Go.Proofs Go.Shelf
attribute [local congr] W_congr WPsq_congr WPp_congr optK_congr addrK_congr intK_congr boolK_congr sliceK_congr tupleK_congr funcK_congr Fn_congr rawK_congr takeK_congr stepK_congr convK_congr aggK_congr

def fX0_0 : Fld:=.mk 3 0 (-1) (-1) (-1) 0 0 []
def fX0_1 : Fld:=.mk 4 0 (-1) (-1) (-1) (-1) 0 []
def fs_X0 : List Fld:=[fX0_0,fX0_1]
def fX1_0 : Fld:=.mk 3 0 (-1) (-1) (-1) 0 0 []
def fX1_1 : Fld:=.mk 3 0 (-1) (-1) (-1) 0 0 []
def fX1_2 : Fld:=.mk 11 0 2 (-1) (-1) 0 3 []
def fX1_3 : Fld:=.mk 11 3 (-1) (-1) (-1) 0 10 fs_X0
def fX1_4 : Fld:=.mk 1 1 (-1) (-1) (-1) 0 0 []
def fX1_5 : Fld:=.mk 3 0 (-1) (-1) (-1) 0 0 []
def fs_X1 : List Fld:=[fX1_0,fX1_1,fX1_2,fX1_3,fX1_4,fX1_5]
def fX2_0 : Fld:=.mk 8 0 1 (-1) (-1) 0 0 []
def fX2_1 : Fld:=.mk 7 2 (-1) (-1) (-1) 0 0 []
def fX2_2 : Fld:=.mk 11 0 (-1) (-1) (-1) 0 10 fs_X1
def fs_X2 : List Fld:=[fX2_0,fX2_1,fX2_2]
def fQ_0 : Fld:=.mk 3 0 (-1) (-1) (-1) 0 0 []
def fQ_1 : Fld:=.mk 4 0 (-1) (-1) (-1) (-1) 0 []
def fQ_2 : Fld:=.mk 11 0 (-1) (-1) (-1) 0 10 fs_X2
def fs_Q : List Fld:=[fQ_0,fQ_1,fQ_2]

theorem DefaultQ_fn (w:World) {vb:Nat} {c0 c1 c2 c3 c4:Value} (hb:blk w vb=some (#[c0,c1,c2,c3,c4],57,(0,0))) :
  Fn Tryd.prog 17 #[.pointer (some ⟨vb,0,none⟩)] w fun _ w'=>blk w' vb=some (#[c0,c1,.int .i64 (-1),c3,c4],57,(0,0))∧Upd (fun b=>b=vb) w w':=by
 have hvl:=blk_lt hb
 refine fn_of_W Tryd.func17 rfl Tryd.results17 Tryd.ntmps17 rfl ?_
 repeat ((first|refine qA rfl ?_|apply qB|refine qC rfl ?_|apply qD|apply qE|apply qF|apply qG|apply qH);try simp (disch:=(first|omega|(simp only [qI,qJ,qK]<;>omega)|exact qL _)) only [go_sem,↓reduceIte,n0,reduceCtorEq,n1,n2,n3,n4,n5,i0,i1,i2,i3,i4,i5,i6,i7,hb])
 first|(refine (Upd.wr (Upd.refl _ _) _ _ ?_)<;>exact .inr rfl)|(refine ⟨by simp (disch:=(first|omega|(simp only [qI,qJ,qK]<;>omega)|exact qL _)) only [go_sem,↓reduceIte,n0,reduceCtorEq,n1,n2,n3,n4,n5,i0,i1,i2,i3,i4,i5,i6,i7,hb],?_⟩;refine (Upd.wr (Upd.refl _ _) _ _ ?_)<;>exact .inr rfl)

theorem NewPtrQ_fn (w:World):Fn Tryd.prog 10 #[] w fun r w'=>r = .pointer (some ⟨w.heap.size,0,none⟩)∧blk w' w.heap.size=some (#[.int .i16 0,.int .i32 0,.int .i64 (-1),.slice none 0 0,.map none],57,(0,0))∧Ext w w':=by
 refine fn_of_W Tryd.func10 rfl Tryd.results10 Tryd.ntmps10 rfl ?_
 repeat ((first|refine qA rfl ?_|apply qB|refine qC rfl ?_|apply qD|apply qE|apply qF|apply qG|apply qH);try simp (disch:=(first|omega|(simp only [qI,qJ,qK]<;>omega)|exact qL _)) only [go_sem,↓reduceIte,n0,reduceCtorEq,n1,n2,n3,n4,n5,i0,i1,i2,i3,i4,i5,i6,i7])
 refine (DefaultQ_fn _ (blk_alloc_new rfl)).mono ?_
 rintro _ w1 ⟨hb1,hU1⟩
 have hz:=World.size_alloc w (.cells #[.int .i16 0,.int .i32 0,.int .i64 0,.slice none 0 0,.map none] 57)
 repeat ((first|refine qA rfl ?_|apply qB|refine qC rfl ?_|apply qD|apply qE|apply qF|apply qG|apply qH);try simp (disch:=(first|omega|(simp only [qI,qJ,qK]<;>omega)|exact qL _)) only [go_sem,↓reduceIte,n0,reduceCtorEq,n1,n2,n3,n4,n5,i0,i1,i2,i3,i4,i5,i6,i7])
 exact ⟨hb1,(Upd.alloc (Upd.refl _ _) _:Ext w _).more hU1 fun b hb h=>by omega⟩

theorem SetVersionQ_fn (w:World) {vb:Nat} {c0 c1 c2 c3 c4:Value} (n:Int) (hb:blk w vb=some (#[c0,c1,c2,c3,c4],57,(0,0))) :
  Fn Tryd.prog 12 #[.pointer (some ⟨vb,0,none⟩),.int .i16 n] w fun _ w'=>blk w' vb=some (#[.int .i16 n,c1,c2,c3,c4],57,(0,0))∧Upd (fun b=>b=vb) w w':=by
 have hvl:=blk_lt hb
 refine fn_of_W Tryd.func12 rfl Tryd.results12 Tryd.ntmps12 rfl ?_
 repeat ((first|refine qA rfl ?_|apply qB|refine qC rfl ?_|apply qD|apply qE|apply qF|apply qG|apply qH);try simp (disch:=(first|omega|(simp only [qI,qJ,qK]<;>omega)|exact qL _)) only [go_sem,↓reduceIte,n0,reduceCtorEq,n1,n2,n3,n4,n5,i0,i1,i2,i3,i4,i5,i6,i7,hb])
 first|exact Upd.wr (Upd.refl _ _) _ _ (.inr rfl)|exact ⟨by simp (disch:=(first|omega|(simp only [qI,qJ,qK]<;>omega)|exact qL _)) only [go_sem,↓reduceIte,n0,reduceCtorEq,n1,n2,n3,n4,n5,i0,i1,i2,i3,i4,i5,i6,i7,hb],Upd.wr (Upd.refl _ _) _ _ (.inr rfl)⟩

theorem MaxQ_fn (w:World):Fn Tryd.prog 4 #[] w fun r w'=>r = .int .i64 3∧Ext w w':=by
 refine fn_of_W Tryd.func4 rfl Tryd.results4 Tryd.ntmps4 rfl ?_
 repeat ((first|refine qA rfl ?_|apply qB|refine qC rfl ?_|apply qD|apply qE|apply qF|apply qG|apply qH);try simp (disch:=(first|omega|(simp only [qI,qJ,qK]<;>omega)|exact qL _)) only [go_sem,↓reduceIte,n0,reduceCtorEq,n1,n2,n3,n4,n5,i0,i1,i2,i3,i4,i5,i6,i7])
 refine (NewPtrQ_fn w).mono ?_
 rintro _ w1 ⟨rfl,hb1,hE1⟩
 repeat ((first|refine qA rfl ?_|apply qB|refine qC rfl ?_|apply qD|apply qE|apply qF|apply qG|apply qH);try simp (disch:=(first|omega|(simp only [qI,qJ,qK]<;>omega)|exact qL _)) only [go_sem,↓reduceIte,n0,reduceCtorEq,n1,n2,n3,n4,n5,i0,i1,i2,i3,i4,i5,i6,i7])
 have hm:Fn Tryd.prog 11 #[.pointer (some ⟨w.heap.size,0,none⟩)] w1 fun r w'=>r = .int .i16 3∧w'=w1:=by
  refine fn_of_W Tryd.func11 rfl Tryd.results11 Tryd.ntmps11 rfl ?_
  repeat ((first|refine qA rfl ?_|apply qB|refine qC rfl ?_|apply qD|apply qE|apply qF|apply qG|apply qH);try simp (disch:=(first|omega|(simp only [qI,qJ,qK]<;>omega)|exact qL _)) only [go_sem,↓reduceIte,n0,reduceCtorEq,n1,n2,n3,n4,n5,i0,i1,i2,i3,i4,i5,i6,i7])
 refine hm.mono ?_
 rintro _ w2 ⟨rfl,rfl⟩
 have ew:IntKind.i64.wrap (3:Int)=3:=i64_wrap (by decide)
 repeat ((first|refine qA rfl ?_|apply qB|refine qC rfl ?_|apply qD|apply qE|apply qF|apply qG|apply qH);try simp (disch:=(first|omega|(simp only [qI,qJ,qK]<;>omega)|exact qL _)) only [go_sem,↓reduceIte,n0,reduceCtorEq,n1,n2,n3,n4,n5,i0,i1,i2,i3,i4,i5,i6,i7,ew])
 exact hE1

theorem utQ_52 : Tryd.prog.underlying 52=some (.slice 64):=by kernel_rfl
theorem utQ_21 : Tryd.prog.underlying 21=some (.int .i32):=by kernel_rfl
theorem inQ_64 : (Tryd.prog.info? 64).map (fun i=>(i.size,i.bytes,i.zero.map (·.cells)))=some (19,64,some #[.string ByteArray.empty,.int .u8 0,.int .u8 0,.int .u8 0,.int .u8 0,.int .u8 0,.int .u8 0,.int .u8 0,.int .u8 0,.int .u8 0,.int .u8 0,.int .u8 0,.int .u8 0,.int .u8 0,.int .u8 0,.int .u8 0,.int .u8 0,.slice none 0 0,.map none]):=by kernel_rfl
theorem utQ_62 : Tryd.prog.underlying 62=some (.slice 81):=by kernel_rfl
theorem inQ_81 : (Tryd.prog.info? 81).map (fun i=>(i.size,i.bytes,i.zero.map (·.cells)))=some (7,72,some #[.int .i32 0,.int .i32 0,.slice none 0 0,.slice none 0 0,.int .i8 0,.int .i32 0,.map none]):=by kernel_rfl
theorem utQ_77 : Tryd.prog.underlying 77=some (.slice 21):=by kernel_rfl
theorem inQ_21 : (Tryd.prog.info? 21).map (fun i=>(i.size,i.bytes,i.zero.map (·.cells)))=some (1,4,some #[.int .i32 0]):=by kernel_rfl
theorem utQ_78 : Tryd.prog.underlying 78=some (.slice 84):=by kernel_rfl
theorem inQ_84 : (Tryd.prog.info? 84).map (fun i=>(i.size,i.bytes,i.zero.map (·.cells)))=some (3,24,some #[.int .i32 0,.int .i64 0,.map none]):=by kernel_rfl

theorem DefaultEX2_fn (w:World) {R k:Nat} {A B:List Value} {c0 c1 c2 c3 c4 c5 c6 c7 c8 c9 c10 c11 c12 c13 c14 c15 c16 c17 c18:Value} {E:TypeId} (hb:blk w R=some ((A++([c0,c1,c2,c3,c4,c5,c6,c7,c8,c9,c10,c11,c12,c13,c14,c15,c16,c17,c18]++B)).toArray,E,(0,0))) (hA:A.length=k) :
  Fn Tryd.prog 29 #[.pointer (some ⟨R,k,none⟩)] w fun _ w'=>blk w' R=some ((A++([c0,c1,c2,c3,c4,c5,c6,c7,c8,c9,c10,c11,c12,c13,c14,c15,c16,c17,c18]++B)).toArray,E,(0,0))∧Upd (fun b=>b=R) w w':=by
 have hRl:=blk_lt hb
 obtain ⟨X,hX⟩:∃ X:Array Value,X=(A++(([c0,c1,c2,c3,c4,c5,c6,c7,c8,c9,c10,c11,c12,c13,c14,c15,c16,c17,c18]:List Value)++B)).toArray:=⟨_,rfl⟩
 have hXs:k+19≤X.size:=by rw [hX];simp only [List.size_toArray,List.length_append,List.length_cons,List.length_nil,hA];omega
 have hb':blk w R=some (X,E,(0,0)):=by rw [hX];exact hb
 refine fn_of_W Tryd.func29 rfl Tryd.results29 Tryd.ntmps29 rfl ?_
 repeat ((first|refine qA rfl ?_|apply qB|refine qC rfl ?_|apply qD|apply qE|apply qF|apply qG|apply qH);try simp (disch:=(first|omega|(simp only [qI,qJ,qK]<;>omega)|exact qL _)) only [go_sem,↓reduceIte,n0,reduceCtorEq,n1,n2,n3,n4,n5,i0,i1,i2,i3,i4,i5,i6,i7,hb',Array.size_setIfInBounds])
 first|exact ⟨hb,Upd.refl _ _⟩|exact Upd.refl _ _|(rw [hX];exact ⟨rfl,Upd.refl _ _⟩)

theorem DefaultEX1_fn (w:World) {R k:Nat} {A B:List Value} {c0 c1 c2 c3 c4 c5 c6:Value} {E:TypeId} (hb:blk w R=some ((A++([c0,c1,c2,c3,c4,c5,c6]++B)).toArray,E,(0,0))) (hA:A.length=k) :
  Fn Tryd.prog 35 #[.pointer (some ⟨R,k,none⟩)] w fun _ w'=>blk w' R=some ((A++([c0,c1,c2,c3,c4,c5,c6]++B)).toArray,E,(0,0))∧Upd (fun b=>b=R) w w':=by
 have hRl:=blk_lt hb
 obtain ⟨X,hX⟩:∃ X:Array Value,X=(A++(([c0,c1,c2,c3,c4,c5,c6]:List Value)++B)).toArray:=⟨_,rfl⟩
 have hXs:k+7≤X.size:=by rw [hX];simp only [List.size_toArray,List.length_append,List.length_cons,List.length_nil,hA];omega
 have hb':blk w R=some (X,E,(0,0)):=by rw [hX];exact hb
 refine fn_of_W Tryd.func35 rfl Tryd.results35 Tryd.ntmps35 rfl ?_
 repeat ((first|refine qA rfl ?_|apply qB|refine qC rfl ?_|apply qD|apply qE|apply qF|apply qG|apply qH);try simp (disch:=(first|omega|(simp only [qI,qJ,qK]<;>omega)|exact qL _)) only [go_sem,↓reduceIte,n0,reduceCtorEq,n1,n2,n3,n4,n5,i0,i1,i2,i3,i4,i5,i6,i7,hb',Array.size_setIfInBounds])
 first|exact ⟨hb,Upd.refl _ _⟩|exact Upd.refl _ _|(rw [hX];exact ⟨rfl,Upd.refl _ _⟩)

theorem DefaultEX0_fn (w:World) {R k:Nat} {A B:List Value} {c0 c1 c2:Value} {E:TypeId} (hb:blk w R=some ((A++([c0,c1,c2]++B)).toArray,E,(0,0))) (hA:A.length=k) :
  Fn Tryd.prog 36 #[.pointer (some ⟨R,k,none⟩)] w fun _ w'=>blk w' R=some ((A++([c0,.int .i64 (-1),c2]++B)).toArray,E,(0,0))∧Upd (fun b=>b=R) w w':=by
 have hRl:=blk_lt hb
 obtain ⟨X,hX⟩:∃ X:Array Value,X=(A++(([c0,c1,c2]:List Value)++B)).toArray:=⟨_,rfl⟩
 have hXs:k+3≤X.size:=by rw [hX];simp only [List.size_toArray,List.length_append,List.length_cons,List.length_nil,hA];omega
 have hb':blk w R=some (X,E,(0,0)):=by rw [hX];exact hb
 refine fn_of_W Tryd.func36 rfl Tryd.results36 Tryd.ntmps36 rfl ?_
 have hq0:k+1+1≤X.size:=by omega
 have hp0:k+2≤X.size:=by omega
 repeat ((first|refine qA rfl ?_|apply qB|refine qC rfl ?_|apply qD|apply qE|apply qF|apply qG|apply qH);try simp (disch:=(first|omega|(simp only [qI,qJ,qK]<;>omega)|exact qL _)) only [go_sem,↓reduceIte,n0,reduceCtorEq,n1,n2,n3,n4,n5,i0,i1,i2,i3,i4,i5,i6,i7,hb',Array.size_setIfInBounds,hq0,hp0])
 have h0:=el_blk (o:=1) (vs:=[.int .i64 (-1)]) hb hA (Nat.le_of_ble_eq_true rfl)
 first|exact ⟨h0,(Upd.wr (Upd.refl (fun b=>b=R) _) _ _ (.inr rfl))⟩|(refine ⟨?_,(Upd.wr (Upd.refl (fun b=>b=R) _) _ _ (.inr rfl))⟩;simp only [blk_wr_eq,hb',Option.map_some] at h0;exact h0)
end Ms

