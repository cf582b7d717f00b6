/- A part of the proof: see the last text. -/
import Derived.Test.YtbbhfngjfihndacGreatDoorC06
import Derived.Test.YtbbhfngjfihndacGreatDoorC08
import Derived.Test.YtbbhfngjfihndacGreatDoorC11
set_option linter.unusedSimpArgs false
set_option linter.unusedVariables false
namespace Ms
open Nat renaming reduceEqDiff → n0,reduceAdd → n1,reduceMul → n2,reduceSub → n3,reduceLT → n4,reduceLeDiff → n5
open Int renaming reduceEq → i0,reduceLT → i1,reduceLE → i2,reduceNeg → i3,reduceAdd → i4,reduceSub → i5,reduceMul → i6,reduceToNat → i7
set_option maxRecDepth 4000
open Go Go.Proofs
theorem ap_34_34 : AppT Tryz.prog 34 34 37 5 88:=AppT.of (by kernel_rfl)
theorem ap_35_35 : AppT Tryz.prog 35 35 69 2 32:=AppT.of (by kernel_rfl)
theorem ca_11 : callable Tryz.prog 11=true:=nr (by kernel_rfl)
theorem ca_14 : callable Tryz.prog 14=true:=nr (by kernel_rfl)
theorem ca_15 : callable Tryz.prog 15=true:=nr (by kernel_rfl)
theorem ca_16 : callable Tryz.prog 16=true:=nr (by kernel_rfl)
theorem ca_17 : callable Tryz.prog 17=true:=nr (by kernel_rfl)
theorem ca_18 : callable Tryz.prog 18=true:=nr (by kernel_rfl)
theorem ca_19 : callable Tryz.prog 19=true:=nr (by kernel_rfl)
theorem ca_30 : callable Tryz.prog 30=true:=nr (by kernel_rfl)
theorem ca_31 : callable Tryz.prog 31=true:=nr (by kernel_rfl)
theorem ca_32 : callable Tryz.prog 32=true:=nr (by kernel_rfl)
theorem ca_33 : callable Tryz.prog 33=true:=nr (by kernel_rfl)
theorem ca_34 : callable Tryz.prog 34=true:=nr (by kernel_rfl)
theorem ca_35 : callable Tryz.prog 35=true:=nr (by kernel_rfl)
theorem ca_36 : callable Tryz.prog 36=true:=nr (by kernel_rfl)
theorem ca_4 : callable Tryz.prog 4=true:=nr (by kernel_rfl)
theorem ca_45 : callable Tryz.prog 45=true:=nr (by kernel_rfl)
theorem ca_46 : callable Tryz.prog 46=true:=nr (by kernel_rfl)
theorem ca_47 : callable Tryz.prog 47=true:=nr (by kernel_rfl)
theorem ca_48 : callable Tryz.prog 48=true:=nr (by kernel_rfl)
theorem ca_5 : callable Tryz.prog 5=true:=nr (by kernel_rfl)
theorem ca_50 : callable Tryz.prog 50=true:=nr (by kernel_rfl)
theorem ca_51 : callable Tryz.prog 51=true:=nr (by kernel_rfl)
theorem ca_52 : callable Tryz.prog 52=true:=nr (by kernel_rfl)
theorem ca_53 : callable Tryz.prog 53=true:=nr (by kernel_rfl)
theorem ca_54 : callable Tryz.prog 54=true:=nr (by kernel_rfl)
theorem ca_55 : callable Tryz.prog 55=true:=nr (by kernel_rfl)
theorem ca_56 : callable Tryz.prog 56=true:=nr (by kernel_rfl)
theorem ca_57 : callable Tryz.prog 57=true:=nr (by kernel_rfl)
theorem ca_58 : callable Tryz.prog 58=true:=nr (by kernel_rfl)
theorem ca_59 : callable Tryz.prog 59=true:=nr (by kernel_rfl)
theorem ca_6 : callable Tryz.prog 6=true:=nr (by kernel_rfl)
theorem ca_60 : callable Tryz.prog 60=true:=nr (by kernel_rfl)
theorem ca_61 : callable Tryz.prog 61=true:=nr (by kernel_rfl)
theorem ca_7 : callable Tryz.prog 7=true:=nr (by kernel_rfl)
theorem ca_8 : callable Tryz.prog 8=true:=nr (by kernel_rfl)
theorem ca_9 : callable Tryz.prog 9=true:=nr (by kernel_rfl)
theorem es_72 : elemSize Tryz.prog 72=some 1:=nr (by kernel_rfl)
theorem es_73 : elemSize Tryz.prog 73=some 18:=nr (by kernel_rfl)
theorem es_84 : elemSize Tryz.prog 84=some 1:=nr (by kernel_rfl)
theorem fo_78_0 : fieldOff Tryz.prog 78 0=some 0:=nr (by kernel_rfl)
theorem fo_78_1 : fieldOff Tryz.prog 78 1=some 1:=nr (by kernel_rfl)
theorem fo_78_10 : fieldOff Tryz.prog 78 10=some 10:=nr (by kernel_rfl)
theorem fo_78_11 : fieldOff Tryz.prog 78 11=some 11:=nr (by kernel_rfl)
theorem fo_78_2 : fieldOff Tryz.prog 78 2=some 2:=nr (by kernel_rfl)
theorem fo_78_3 : fieldOff Tryz.prog 78 3=some 3:=nr (by kernel_rfl)
theorem fo_78_4 : fieldOff Tryz.prog 78 4=some 4:=nr (by kernel_rfl)
theorem fo_78_5 : fieldOff Tryz.prog 78 5=some 5:=nr (by kernel_rfl)
theorem fo_78_6 : fieldOff Tryz.prog 78 6=some 6:=nr (by kernel_rfl)
theorem fo_78_7 : fieldOff Tryz.prog 78 7=some 7:=nr (by kernel_rfl)
theorem fo_78_8 : fieldOff Tryz.prog 78 8=some 8:=nr (by kernel_rfl)
theorem fo_78_9 : fieldOff Tryz.prog 78 9=some 9:=nr (by kernel_rfl)
theorem fo_86_0 : fieldOff Tryz.prog 86 0=some 0:=nr (by kernel_rfl)
theorem fo_86_1 : fieldOff Tryz.prog 86 1=some 16:=nr (by kernel_rfl)
theorem fo_86_2 : fieldOff Tryz.prog 86 2=some 17:=nr (by kernel_rfl)
theorem if_55 : isIfaceT Tryz.prog 55=true:=nr (by kernel_rfl)
theorem ld_21 (w:World) (b o:Nat):loadOf Tryz.prog 21 w ⟨b,o,none⟩=(blk w b).bind fun x=>x.1[o]?:=loadOf_one (by kernel_rfl) w b o
theorem ld_31 (w:World) (b o:Nat):loadOf Tryz.prog 31 w ⟨b,o,none⟩=(blk w b).bind fun x=>cellsAt x.1 o 2:=loadOf_agg (by kernel_rfl) w b o
theorem ld_46 (w:World) (b o:Nat):loadOf Tryz.prog 46 w ⟨b,o,none⟩=(blk w b).bind fun x=>x.1[o]?:=loadOf_one (by kernel_rfl) w b o
theorem ld_71 (w:World) (b o:Nat):loadOf Tryz.prog 71 w ⟨b,o,none⟩=(blk w b).bind fun x=>x.1[o]?:=loadOf_one (by kernel_rfl) w b o
theorem ld_72 (w:World) (b o:Nat):loadOf Tryz.prog 72 w ⟨b,o,none⟩=(blk w b).bind fun x=>x.1[o]?:=loadOf_one (by kernel_rfl) w b o
theorem ld_73 (w:World) (b o:Nat):loadOf Tryz.prog 73 w ⟨b,o,none⟩=(blk w b).bind fun x=>x.1[o]?:=loadOf_one (by kernel_rfl) w b o
theorem ld_84 (w:World) (b o:Nat):loadOf Tryz.prog 84 w ⟨b,o,none⟩=(blk w b).bind fun x=>x.1[o]?:=loadOf_one (by kernel_rfl) w b o
theorem pl_100 : placesOf Tryz.prog 100=some [(0,1),(1,1)]:=nr (by kernel_rfl)
theorem pl_31 : placesOf Tryz.prog 31=some [(0,1),(1,1)]:=nr (by kernel_rfl)
theorem pl_51 : placesOf Tryz.prog 51=some [(0,1),(1,1),(2,1),(3,1),(4,1),(5,1),(6,1),(7,1)]:=nr (by kernel_rfl)
theorem pl_69 : placesOf Tryz.prog 69=some [(0,1),(1,1)]:=nr (by kernel_rfl)
theorem se_34 : slElem Tryz.prog 34=some (37,5):=nr (by kernel_rfl)
theorem se_35 : slElem Tryz.prog 35=some (69,2):=nr (by kernel_rfl)
theorem se_72 : slElem Tryz.prog 72=some (9,1):=nr (by kernel_rfl)
theorem se_73 : slElem Tryz.prog 73=some (86,18):=nr (by kernel_rfl)
theorem sl_72 : isSliceT Tryz.prog 72=true:=nr (by kernel_rfl)
theorem sl_73 : isSliceT Tryz.prog 73=true:=nr (by kernel_rfl)
theorem sl_84 : isSliceT Tryz.prog 84=true:=nr (by kernel_rfl)
theorem sz_100 (w:World) (b o:Nat) (v:Value):storeOf Tryz.prog 100 w ⟨b,o,none⟩ v=(blk w b).bind fun x=>stO w b o v x 2:=storeOf_n (by kernel_rfl) w b o v
theorem sz_21 (w:World) (b o:Nat) (v:Value):storeOf Tryz.prog 21 w ⟨b,o,none⟩ v=(blk w b).bind fun x=>stO w b o v x 1:=storeOf_n (by kernel_rfl) w b o v
theorem sz_31 (w:World) (b o:Nat) (v:Value):storeOf Tryz.prog 31 w ⟨b,o,none⟩ v=(blk w b).bind fun x=>stO w b o v x 2:=storeOf_n (by kernel_rfl) w b o v
theorem sz_34 (w:World) (b o:Nat) (v:Value):storeOf Tryz.prog 34 w ⟨b,o,none⟩ v=(blk w b).bind fun x=>stO w b o v x 1:=storeOf_n (by kernel_rfl) w b o v
theorem sz_35 (w:World) (b o:Nat) (v:Value):storeOf Tryz.prog 35 w ⟨b,o,none⟩ v=(blk w b).bind fun x=>stO w b o v x 1:=storeOf_n (by kernel_rfl) w b o v
theorem sz_46 (w:World) (b o:Nat) (v:Value):storeOf Tryz.prog 46 w ⟨b,o,none⟩ v=(blk w b).bind fun x=>stO w b o v x 1:=storeOf_n (by kernel_rfl) w b o v
theorem sz_71 (w:World) (b o:Nat) (v:Value):storeOf Tryz.prog 71 w ⟨b,o,none⟩ v=(blk w b).bind fun x=>stO w b o v x 1:=storeOf_n (by kernel_rfl) w b o v
theorem sz_72 (w:World) (b o:Nat) (v:Value):storeOf Tryz.prog 72 w ⟨b,o,none⟩ v=(blk w b).bind fun x=>stO w b o v x 1:=storeOf_n (by kernel_rfl) w b o v
theorem sz_73 (w:World) (b o:Nat) (v:Value):storeOf Tryz.prog 73 w ⟨b,o,none⟩ v=(blk w b).bind fun x=>stO w b o v x 1:=storeOf_n (by kernel_rfl) w b o v
theorem sz_84 (w:World) (b o:Nat) (v:Value):storeOf Tryz.prog 84 w ⟨b,o,none⟩ v=(blk w b).bind fun x=>stO w b o v x 1:=storeOf_n (by kernel_rfl) w b o v
theorem z_100 : zeroOf Tryz.prog 100=some #[.slice none 0 0,.bool false]:=nr (by kernel_rfl)
theorem z_31 : zeroOf Tryz.prog 31=some #[.slice none 0 0,.int .i64 0]:=nr (by kernel_rfl)
theorem z_4 : zeroOf Tryz.prog 4=some #[.bool false]:=nr (by kernel_rfl)
theorem z_78 : zeroOf Tryz.prog 78=some #[.int .i16 0,.string ByteArray.empty,.string ByteArray.empty,.int .i32 0,.pointer none,.pointer none,.int .i32 0,.slice none 0 0,.pointer none,.pointer none,.slice none 0 0,.map none]:=nr (by kernel_rfl)
attribute [go_sem] ca_11 ca_14 ca_15 ca_16 ca_17 ca_18 ca_19 ca_30 ca_31 ca_32 ca_33 ca_34 ca_35 ca_36 ca_4 ca_45 ca_46 ca_47 ca_48 ca_5 ca_50 ca_51 ca_52 ca_53 ca_54 ca_55 ca_56 ca_57 ca_58 ca_59 ca_6 ca_60 ca_61 ca_7 ca_8 ca_9 es_72 es_73 es_84 fo_78_0 fo_78_1 fo_78_10 fo_78_11 fo_78_2 fo_78_3 fo_78_4 fo_78_5 fo_78_6 fo_78_7 fo_78_8 fo_78_9 fo_86_0 fo_86_1 fo_86_2 if_55 ld_21 ld_31 ld_46 ld_71 ld_72 ld_73 ld_84 pl_100 pl_31 pl_51 pl_69 se_34 se_35 se_72 se_73 sl_72 sl_73 sl_84 sz_100 sz_21 sz_31 sz_34 sz_35 sz_46 sz_71 sz_72 sz_73 sz_84 z_100 z_31 z_4 z_78
end Ms

namespace Ms
open Go
abbrev qZ5 : Array Value:=#[.int .i64 0,.slice none 0 0,.bool false,.slice none 0 0,.slice none 0 0]
end Ms

namespace Ms
open Go.World renaming size_alloc → qI
open Ms renaming size_wr → qJ,size_drew → qK,not_noB → qL
open W renaming seqR → qA,seq → qB,regR → qC,condK → qD,block → qE,skip → qF,ret → qG,exit → qH
open Nat renaming reduceEqDiff → n0,reduceAdd → n1,reduceMul → n2,reduceSub → n3,reduceLT → n4,reduceLeDiff → n5
open Int renaming reduceEq → i0,reduceLT → i1,reduceLE → i2,reduceNeg → i3,reduceAdd → i4,reduceSub → i5,reduceMul → i6,reduceToNat → i7
set_option maxRecDepth 8000
open Go Go.Proofs Go.Shelf
attribute [local congr] W_congr WPsq_congr WPp_congr optK_congr addrK_congr intK_congr boolK_congr sliceK_congr tupleK_congr funcK_congr Fn_congr rawK_congr takeK_congr stepK_congr convK_congr aggK_congr

def fX0_0 : Fld:=.mk 7 0 (-1) (-1) (-1) 0 0 []
def fX0_1 : Fld:=.mk 11 0 (-1) (-1) (-1) 0 3 []
def fs_X0 : List Fld:=[fX0_0,fX0_1]
def fQ_0 : Fld:=.mk 8 0 (-1) (-1) (-1) 0 0 []
def fQ_1 : Fld:=.mk 8 0 (-1) (-1) (-1) 0 0 []
def fQ_2 : Fld:=.mk 3 0 (-1) (-1) (-1) 0 0 []
def fQ_3 : Fld:=.mk 8 0 (-1) 0 (-1) 0 0 []
def fQ_4 : Fld:=.mk 8 0 (-1) 0 (-1) 0 0 []
def fQ_5 : Fld:=.mk 3 0 (-1) (-1) (-1) (-1) 0 []
def fQ_6 : Fld:=.mk 11 0 (-1) 0 (-1) 0 8 []
def fQ_7 : Fld:=.mk 8 1 (-1) 1 (-1) 0 0 []
def fQ_8 : Fld:=.mk 8 0 (-1) 0 (-1) 0 0 []
def fQ_9 : Fld:=.mk 11 0 (-1) 0 (-1) 0 10 fs_X0
def fs_Q : List Fld:=[fQ_0,fQ_1,fQ_2,fQ_3,fQ_4,fQ_5,fQ_6,fQ_7,fQ_8,fQ_9]

set_option maxHeartbeats 4000000 in
theorem cX0_fn (w:World):Fn Tryz.prog 16 #[] w fun r w'=>FldsV (fun b=>w.heap.size≤b) w' r fs_X0∧Ext w w':=by
 refine fn_of_W Tryz.func16 rfl Tryz.results16 Tryz.ntmps16 rfl ?_
 repeat ((first|refine qA rfl ?_|apply qB|refine qC rfl ?_|apply qD|apply qE|apply qF|apply qG|apply qH);try simp (disch:=(first|omega|(simp only [qI,qJ,qK]<;>omega)|exact qL _)) only [go_sem,↓reduceIte,n0,reduceCtorEq,n1,n2,n3,n4,n5,i0,i1,i2,i3,i4,i5,i6,i7,fill_fld,fillN_nil,fillN_int,fillN_slice])
 repeat ((first|refine qA rfl ?_|apply qB|refine qC rfl ?_|apply qD|apply qE|apply qF|apply qG|apply qH);try simp (disch:=(first|omega|(simp only [qI,qJ,qK]<;>omega)|exact qL _)) only [go_sem,↓reduceIte,n0,reduceCtorEq,n1,n2,n3,n4,n5,i0,i1,i2,i3,i4,i5,i6,i7,fill_fld,fillN_nil,fillN_int,fillN_slice])
 exact ⟨FldsV.litO (fs:=fs_X0) (css:=[[.int .i64 7,.int .i64 0,.int .i64 (-1),.int .i64 (-1),.int .i64 (-1),.int .i64 0,.int .i64 0,.slice none 0 0],[.int .i64 11,.int .i64 0,.int .i64 (-1),.int .i64 (-1),.int .i64 (-1),.int .i64 0,.int .i64 3,.slice none 0 0]]) (T:=51) (fr:=(0,0)) (by first|omega|(simp only [World.size_alloc];omega)) (by first|(simp (disch:=(first|omega|(simp only [qI,qJ,qK]<;>omega)|exact qL _)) only [go_sem,↓reduceIte,n0,reduceCtorEq,n1,n2,n3,n4,n5,i0,i1,i2,i3,i4,i5,i6,i7];rfl)|rfl) (by simp) (All2.cons (FldC.intro (kind:=7) (FldsV.none _ _)) (All2.cons (FldC.intro (kind:=11) (FldsV.none _ _)) All2.nil)),(Upd.alloc (Upd.refl _ w) _)⟩

set_option maxHeartbeats 4000000 in
theorem cQ_fn (w:World):Fn Tryz.prog 6 #[] w fun r w'=>(∃ vs,r = .agg #[vs,.int .i64 0]∧FldsV (fun b=>w.heap.size≤b) w' vs fs_Q)∧Ext w w':=by
 refine fn_of_W Tryz.func6 rfl Tryz.results6 Tryz.ntmps6 rfl ?_
 repeat ((first|refine qA rfl ?_|apply qB|refine qC rfl ?_|apply qD|apply qE|apply qF|apply qG|apply qH);try simp (disch:=(first|omega|(simp only [qI,qJ,qK]<;>omega)|exact qL _)) only [go_sem,↓reduceIte,n0,reduceCtorEq,n1,n2,n3,n4,n5,i0,i1,i2,i3,i4,i5,i6,i7,fill_fld,fillN_nil,fillN_int,fillN_slice])
 have hz0:(w.alloc (.cells #[.slice none 0 0,.int .i64 0] 31)).heap.size=w.heap.size+1:=World.size_alloc _ _
 refine (cX0_fn _).mono ?_
 rintro r1 w1 ⟨hF1,hE1⟩
 obtain ⟨b1,k1,rfl,_⟩:=SlR.shape hF1
 have hz1:=hE1.size
 have hD1:Ext w w1:=Upd.trans (Upd.alloc (Upd.refl _ _) _) hE1
 have hb1:blk w1 w.heap.size=some (#[.slice none 0 0,.int .i64 0],31,(0,0)):=hE1.blk_some (blk_alloc_new rfl) id
 simp (disch:=(first|omega|(simp only [qI,qJ,qK]<;>omega)|exact qL _)) only [go_sem,↓reduceIte,n0,reduceCtorEq,n1,n2,n3,n4,n5,i0,i1,i2,i3,i4,i5,i6,i7,fill_fld,fillN_nil,fillN_int,fillN_slice,hb1]
 have hvl:=blk_lt hb1
 repeat ((first|refine qA rfl ?_|apply qB|refine qC rfl ?_|apply qD|apply qE|apply qF|apply qG|apply qH);try simp (disch:=(first|omega|(simp only [qI,qJ,qK]<;>omega)|exact qL _)) only [go_sem,↓reduceIte,n0,reduceCtorEq,n1,n2,n3,n4,n5,i0,i1,i2,i3,i4,i5,i6,i7,fill_fld,fillN_nil,fillN_int,fillN_slice,hb1])
 exact ⟨⟨_,rfl,FldsV.litO (fs:=fs_Q) (css:=[[.int .i64 8,.int .i64 0,.int .i64 (-1),.int .i64 (-1),.int .i64 (-1),.int .i64 0,.int .i64 0,.slice none 0 0],[.int .i64 8,.int .i64 0,.int .i64 (-1),.int .i64 (-1),.int .i64 (-1),.int .i64 0,.int .i64 0,.slice none 0 0],[.int .i64 3,.int .i64 0,.int .i64 (-1),.int .i64 (-1),.int .i64 (-1),.int .i64 0,.int .i64 0,.slice none 0 0],[.int .i64 8,.int .i64 0,.int .i64 (-1),.int .i64 0,.int .i64 (-1),.int .i64 0,.int .i64 0,.slice none 0 0],[.int .i64 8,.int .i64 0,.int .i64 (-1),.int .i64 0,.int .i64 (-1),.int .i64 0,.int .i64 0,.slice none 0 0],[.int .i64 3,.int .i64 0,.int .i64 (-1),.int .i64 (-1),.int .i64 (-1),.int .i64 (-1),.int .i64 0,.slice none 0 0],[.int .i64 11,.int .i64 0,.int .i64 (-1),.int .i64 0,.int .i64 (-1),.int .i64 0,.int .i64 8,.slice none 0 0],[.int .i64 8,.int .i64 1,.int .i64 (-1),.int .i64 1,.int .i64 (-1),.int .i64 0,.int .i64 0,.slice none 0 0],[.int .i64 8,.int .i64 0,.int .i64 (-1),.int .i64 0,.int .i64 (-1),.int .i64 0,.int .i64 0,.slice none 0 0],[.int .i64 11,.int .i64 0,.int .i64 (-1),.int .i64 0,.int .i64 (-1),.int .i64 0,.int .i64 10,.slice b1 fs_X0.length k1]]) (T:=51) (fr:=(0,0)) (by first|omega|(simp only [World.size_alloc];omega)) (by first|(simp (disch:=(first|omega|(simp only [qI,qJ,qK]<;>omega)|exact qL _)) only [go_sem,↓reduceIte,n0,reduceCtorEq,n1,n2,n3,n4,n5,i0,i1,i2,i3,i4,i5,i6,i7];rfl)|rfl) (by simp) (All2.cons (FldC.intro (kind:=8) (FldsV.none _ _)) (All2.cons (FldC.intro (kind:=8) (FldsV.none _ _)) (All2.cons (FldC.intro (kind:=3) (FldsV.none _ _)) (All2.cons (FldC.intro (kind:=8) (FldsV.none _ _)) (All2.cons (FldC.intro (kind:=8) (FldsV.none _ _)) (All2.cons (FldC.intro (kind:=3) (FldsV.none _ _)) (All2.cons (FldC.intro (kind:=11) (FldsV.none _ _)) (All2.cons (FldC.intro (kind:=8) (FldsV.none _ _)) (All2.cons (FldC.intro (kind:=8) (FldsV.none _ _)) (All2.cons (FldC.intro (kind:=11) (hF1.stay (B:=w.heap.size) (Upd.wr (Upd.alloc (Upd.refl _ _) _) _ _ (.inr rfl)) (by omega) (fun b hb=>by omega))) All2.nil))))))))))⟩,(Upd.wr (Upd.alloc hD1 _) _ _ (.inl (Nat.le_refl _)))⟩

theorem DefaultQ_fn (w:World) {vb:Nat} {c0 c1 c2 c3 c4 c5 c6 c7 c8 c9 c10 c11:Value} (hb:blk w vb=some (#[c0,c1,c2,c3,c4,c5,c6,c7,c8,c9,c10,c11],78,(0,0))) :
  Fn Tryz.prog 30 #[.pointer (some ⟨vb,0,none⟩)] w fun _ w'=>blk w' vb=some (#[c0,c1,c2,c3,c4,c5,.int .i32 (-1),c7,c8,c9,c10,c11],78,(0,0))∧Upd (fun b=>b=vb) w w':=by
 have hvl:=blk_lt hb
 refine fn_of_W Tryz.func30 rfl Tryz.results30 Tryz.ntmps30 rfl ?_
 repeat ((first|refine qA rfl ?_|apply qB|refine qC rfl ?_|apply qD|apply qE|apply qF|apply qG|apply qH);try simp (disch:=(first|omega|(simp only [qI,qJ,qK]<;>omega)|exact qL _)) only [go_sem,↓reduceIte,n0,reduceCtorEq,n1,n2,n3,n4,n5,i0,i1,i2,i3,i4,i5,i6,i7,hb])
 first|(refine (Upd.wr (Upd.refl _ _) _ _ ?_)<;>exact .inr rfl)|(refine ⟨by simp (disch:=(first|omega|(simp only [qI,qJ,qK]<;>omega)|exact qL _)) only [go_sem,↓reduceIte,n0,reduceCtorEq,n1,n2,n3,n4,n5,i0,i1,i2,i3,i4,i5,i6,i7,hb],?_⟩;refine (Upd.wr (Upd.refl _ _) _ _ ?_)<;>exact .inr rfl)

theorem NewPtrQ_fn (w:World):Fn Tryz.prog 14 #[] w fun r w'=>r = .pointer (some ⟨w.heap.size,0,none⟩)∧blk w' w.heap.size=some (#[.int .i16 0,.string ByteArray.empty,.string ByteArray.empty,.int .i32 0,.pointer none,.pointer none,.int .i32 (-1),.slice none 0 0,.pointer none,.pointer none,.slice none 0 0,.map none],78,(0,0))∧Ext w w':=by
 refine fn_of_W Tryz.func14 rfl Tryz.results14 Tryz.ntmps14 rfl ?_
 repeat ((first|refine qA rfl ?_|apply qB|refine qC rfl ?_|apply qD|apply qE|apply qF|apply qG|apply qH);try simp (disch:=(first|omega|(simp only [qI,qJ,qK]<;>omega)|exact qL _)) only [go_sem,↓reduceIte,n0,reduceCtorEq,n1,n2,n3,n4,n5,i0,i1,i2,i3,i4,i5,i6,i7])
 refine (DefaultQ_fn _ (blk_alloc_new rfl)).mono ?_
 rintro _ w1 ⟨hb1,hU1⟩
 have hz:=World.size_alloc w (.cells #[.int .i16 0,.string ByteArray.empty,.string ByteArray.empty,.int .i32 0,.pointer none,.pointer none,.int .i32 0,.slice none 0 0,.pointer none,.pointer none,.slice none 0 0,.map none] 78)
 repeat ((first|refine qA rfl ?_|apply qB|refine qC rfl ?_|apply qD|apply qE|apply qF|apply qG|apply qH);try simp (disch:=(first|omega|(simp only [qI,qJ,qK]<;>omega)|exact qL _)) only [go_sem,↓reduceIte,n0,reduceCtorEq,n1,n2,n3,n4,n5,i0,i1,i2,i3,i4,i5,i6,i7])
 exact ⟨hb1,(Upd.alloc (Upd.refl _ _) _:Ext w _).more hU1 fun b hb h=>by omega⟩

theorem SetVersionQ_fn (w:World) {vb:Nat} {c0 c1 c2 c3 c4 c5 c6 c7 c8 c9 c10 c11:Value} (n:Int) (hb:blk w vb=some (#[c0,c1,c2,c3,c4,c5,c6,c7,c8,c9,c10,c11],78,(0,0))) :
  Fn Tryz.prog 17 #[.pointer (some ⟨vb,0,none⟩),.int .i16 n] w fun _ w'=>blk w' vb=some (#[.int .i16 n,c1,c2,c3,c4,c5,c6,c7,c8,c9,c10,c11],78,(0,0))∧Upd (fun b=>b=vb) w w':=by
 have hvl:=blk_lt hb
 refine fn_of_W Tryz.func17 rfl Tryz.results17 Tryz.ntmps17 rfl ?_
 repeat ((first|refine qA rfl ?_|apply qB|refine qC rfl ?_|apply qD|apply qE|apply qF|apply qG|apply qH);try simp (disch:=(first|omega|(simp only [qI,qJ,qK]<;>omega)|exact qL _)) only [go_sem,↓reduceIte,n0,reduceCtorEq,n1,n2,n3,n4,n5,i0,i1,i2,i3,i4,i5,i6,i7,hb])
 first|exact Upd.wr (Upd.refl _ _) _ _ (.inr rfl)|exact ⟨by simp (disch:=(first|omega|(simp only [qI,qJ,qK]<;>omega)|exact qL _)) only [go_sem,↓reduceIte,n0,reduceCtorEq,n1,n2,n3,n4,n5,i0,i1,i2,i3,i4,i5,i6,i7,hb],Upd.wr (Upd.refl _ _) _ _ (.inr rfl)⟩

theorem MaxQ_fn (w:World):Fn Tryz.prog 5 #[] w fun r w'=>r = .int .i64 1∧Ext w w':=by
 refine fn_of_W Tryz.func5 rfl Tryz.results5 Tryz.ntmps5 rfl ?_
 repeat ((first|refine qA rfl ?_|apply qB|refine qC rfl ?_|apply qD|apply qE|apply qF|apply qG|apply qH);try simp (disch:=(first|omega|(simp only [qI,qJ,qK]<;>omega)|exact qL _)) only [go_sem,↓reduceIte,n0,reduceCtorEq,n1,n2,n3,n4,n5,i0,i1,i2,i3,i4,i5,i6,i7])
 refine (NewPtrQ_fn w).mono ?_
 rintro _ w1 ⟨rfl,hb1,hE1⟩
 repeat ((first|refine qA rfl ?_|apply qB|refine qC rfl ?_|apply qD|apply qE|apply qF|apply qG|apply qH);try simp (disch:=(first|omega|(simp only [qI,qJ,qK]<;>omega)|exact qL _)) only [go_sem,↓reduceIte,n0,reduceCtorEq,n1,n2,n3,n4,n5,i0,i1,i2,i3,i4,i5,i6,i7])
 have hm:Fn Tryz.prog 15 #[.pointer (some ⟨w.heap.size,0,none⟩)] w1 fun r w'=>r = .int .i16 1∧w'=w1:=by
  refine fn_of_W Tryz.func15 rfl Tryz.results15 Tryz.ntmps15 rfl ?_
  repeat ((first|refine qA rfl ?_|apply qB|refine qC rfl ?_|apply qD|apply qE|apply qF|apply qG|apply qH);try simp (disch:=(first|omega|(simp only [qI,qJ,qK]<;>omega)|exact qL _)) only [go_sem,↓reduceIte,n0,reduceCtorEq,n1,n2,n3,n4,n5,i0,i1,i2,i3,i4,i5,i6,i7])
 refine hm.mono ?_
 rintro _ w2 ⟨rfl,rfl⟩
 have ew:IntKind.i64.wrap (1:Int)=1:=i64_wrap (by decide)
 repeat ((first|refine qA rfl ?_|apply qB|refine qC rfl ?_|apply qD|apply qE|apply qF|apply qG|apply qH);try simp (disch:=(first|omega|(simp only [qI,qJ,qK]<;>omega)|exact qL _)) only [go_sem,↓reduceIte,n0,reduceCtorEq,n1,n2,n3,n4,n5,i0,i1,i2,i3,i4,i5,i6,i7,ew])
 exact hE1

theorem utQ_72 : Tryz.prog.underlying 72=some (.slice 9):=by kernel_rfl
theorem utQ_21 : Tryz.prog.underlying 21=some (.int .i32):=by kernel_rfl
theorem inQ_9 : (Tryz.prog.info? 9).map (fun i=>(i.size,i.bytes,i.zero.map (·.cells)))=some (1,16,some #[.string ByteArray.empty]):=by kernel_rfl
theorem utQ_73 : Tryz.prog.underlying 73=some (.slice 86):=by kernel_rfl
theorem inQ_86 : (Tryz.prog.info? 86).map (fun i=>(i.size,i.bytes,i.zero.map (·.cells)))=some (18,48,some #[.int .u8 0,.int .u8 0,.int .u8 0,.int .u8 0,.int .u8 0,.int .u8 0,.int .u8 0,.int .u8 0,.int .u8 0,.int .u8 0,.int .u8 0,.int .u8 0,.int .u8 0,.int .u8 0,.int .u8 0,.int .u8 0,.slice none 0 0,.map none]):=by kernel_rfl
theorem utQ_84 : Tryz.prog.underlying 84=some (.slice 21):=by kernel_rfl
theorem inQ_21 : (Tryz.prog.info? 21).map (fun i=>(i.size,i.bytes,i.zero.map (·.cells)))=some (1,4,some #[.int .i32 0]):=by kernel_rfl

theorem DefaultEX0_fn (w:World) {R k:Nat} {A B:List Value} {c0 c1 c2 c3 c4 c5 c6 c7 c8 c9 c10 c11 c12 c13 c14 c15 c16 c17:Value} {E:TypeId} (hb:blk w R=some ((A++([c0,c1,c2,c3,c4,c5,c6,c7,c8,c9,c10,c11,c12,c13,c14,c15,c16,c17]++B)).toArray,E,(0,0))) (hA:A.length=k) :
  Fn Tryz.prog 58 #[.pointer (some ⟨R,k,none⟩)] w fun _ w'=>blk w' R=some ((A++([c0,c1,c2,c3,c4,c5,c6,c7,c8,c9,c10,c11,c12,c13,c14,c15,c16,c17]++B)).toArray,E,(0,0))∧Upd (fun b=>b=R) w w':=by
 have hRl:=blk_lt hb
 obtain ⟨X,hX⟩:∃ X:Array Value,X=(A++(([c0,c1,c2,c3,c4,c5,c6,c7,c8,c9,c10,c11,c12,c13,c14,c15,c16,c17]:List Value)++B)).toArray:=⟨_,rfl⟩
 have hXs:k+18≤X.size:=by rw [hX];simp only [List.size_toArray,List.length_append,List.length_cons,List.length_nil,hA];omega
 have hb':blk w R=some (X,E,(0,0)):=by rw [hX];exact hb
 refine fn_of_W Tryz.func58 rfl Tryz.results58 Tryz.ntmps58 rfl ?_
 repeat ((first|refine qA rfl ?_|apply qB|refine qC rfl ?_|apply qD|apply qE|apply qF|apply qG|apply qH);try simp (disch:=(first|omega|(simp only [qI,qJ,qK]<;>omega)|exact qL _)) only [go_sem,↓reduceIte,n0,reduceCtorEq,n1,n2,n3,n4,n5,i0,i1,i2,i3,i4,i5,i6,i7,hb',Array.size_setIfInBounds])
 first|exact ⟨hb,Upd.refl _ _⟩|exact Upd.refl _ _|(rw [hX];exact ⟨rfl,Upd.refl _ _⟩)
end Ms

