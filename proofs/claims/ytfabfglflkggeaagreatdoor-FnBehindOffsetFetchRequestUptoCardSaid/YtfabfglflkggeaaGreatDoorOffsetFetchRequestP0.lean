/- A part of the proof: see the last text. -/
import Derived.Test.YtfabfglflkggeaaGreatDoorC07
import Derived.Test.YtfabfglflkggeaaGreatDoorC09
import Derived.Test.YtfabfglflkggeaaGreatDoorC10
set_option linter.unusedSimpArgs false
set_option linter.unusedVariables false
namespace Ms
open Nat renaming reduceEqDiff → n0,reduceAdd → n1,reduceMul → n2,reduceSub → n3,reduceLT → n4,reduceLeDiff → n5
open Int renaming reduceEq → i0,reduceLT → i1,reduceLE → i2,reduceNeg → i3,reduceAdd → i4,reduceSub → i5,reduceMul → i6,reduceToNat → i7
set_option maxRecDepth 4000
open Go Go.Proofs
theorem ca_12 : callable Tryz.prog 12=true:=nr (by kernel_rfl)
theorem ca_13 : callable Tryz.prog 13=true:=nr (by kernel_rfl)
theorem ca_14 : callable Tryz.prog 14=true:=nr (by kernel_rfl)
theorem ca_15 : callable Tryz.prog 15=true:=nr (by kernel_rfl)
theorem ca_17 : callable Tryz.prog 17=true:=nr (by kernel_rfl)
theorem ca_18 : callable Tryz.prog 18=true:=nr (by kernel_rfl)
theorem ca_19 : callable Tryz.prog 19=true:=nr (by kernel_rfl)
theorem ca_21 : callable Tryz.prog 21=true:=nr (by kernel_rfl)
theorem ca_22 : callable Tryz.prog 22=true:=nr (by kernel_rfl)
theorem ca_31 : callable Tryz.prog 31=true:=nr (by kernel_rfl)
theorem ca_34 : callable Tryz.prog 34=true:=nr (by kernel_rfl)
theorem ca_35 : callable Tryz.prog 35=true:=nr (by kernel_rfl)
theorem ca_36 : callable Tryz.prog 36=true:=nr (by kernel_rfl)
theorem ca_37 : callable Tryz.prog 37=true:=nr (by kernel_rfl)
theorem ca_4 : callable Tryz.prog 4=true:=nr (by kernel_rfl)
theorem ca_40 : callable Tryz.prog 40=true:=nr (by kernel_rfl)
theorem ca_41 : callable Tryz.prog 41=true:=nr (by kernel_rfl)
theorem ca_42 : callable Tryz.prog 42=true:=nr (by kernel_rfl)
theorem ca_43 : callable Tryz.prog 43=true:=nr (by kernel_rfl)
theorem ca_44 : callable Tryz.prog 44=true:=nr (by kernel_rfl)
theorem ca_45 : callable Tryz.prog 45=true:=nr (by kernel_rfl)
theorem ca_5 : callable Tryz.prog 5=true:=nr (by kernel_rfl)
theorem ca_52 : callable Tryz.prog 52=true:=nr (by kernel_rfl)
theorem ca_53 : callable Tryz.prog 53=true:=nr (by kernel_rfl)
theorem ca_54 : callable Tryz.prog 54=true:=nr (by kernel_rfl)
theorem ca_55 : callable Tryz.prog 55=true:=nr (by kernel_rfl)
theorem ca_56 : callable Tryz.prog 56=true:=nr (by kernel_rfl)
theorem ca_57 : callable Tryz.prog 57=true:=nr (by kernel_rfl)
theorem ca_58 : callable Tryz.prog 58=true:=nr (by kernel_rfl)
theorem ca_59 : callable Tryz.prog 59=true:=nr (by kernel_rfl)
theorem ca_6 : callable Tryz.prog 6=true:=nr (by kernel_rfl)
theorem ca_60 : callable Tryz.prog 60=true:=nr (by kernel_rfl)
theorem ca_62 : callable Tryz.prog 62=true:=nr (by kernel_rfl)
theorem ca_63 : callable Tryz.prog 63=true:=nr (by kernel_rfl)
theorem ca_64 : callable Tryz.prog 64=true:=nr (by kernel_rfl)
theorem ca_65 : callable Tryz.prog 65=true:=nr (by kernel_rfl)
theorem ca_66 : callable Tryz.prog 66=true:=nr (by kernel_rfl)
theorem ca_67 : callable Tryz.prog 67=true:=nr (by kernel_rfl)
theorem ca_68 : callable Tryz.prog 68=true:=nr (by kernel_rfl)
theorem ca_69 : callable Tryz.prog 69=true:=nr (by kernel_rfl)
theorem ca_7 : callable Tryz.prog 7=true:=nr (by kernel_rfl)
theorem ca_70 : callable Tryz.prog 70=true:=nr (by kernel_rfl)
theorem ca_8 : callable Tryz.prog 8=true:=nr (by kernel_rfl)
theorem ca_9 : callable Tryz.prog 9=true:=nr (by kernel_rfl)
theorem es_57 : elemSize Tryz.prog 57=some 3:=nr (by kernel_rfl)
theorem es_58 : elemSize Tryz.prog 58=some 5:=nr (by kernel_rfl)
theorem es_77 : elemSize Tryz.prog 77=some 1:=nr (by kernel_rfl)
theorem es_84 : elemSize Tryz.prog 84=some 19:=nr (by kernel_rfl)
theorem fo_63_0 : fieldOff Tryz.prog 63 0=some 0:=nr (by kernel_rfl)
theorem fo_63_1 : fieldOff Tryz.prog 63 1=some 1:=nr (by kernel_rfl)
theorem fo_63_2 : fieldOff Tryz.prog 63 2=some 2:=nr (by kernel_rfl)
theorem fo_63_3 : fieldOff Tryz.prog 63 3=some 3:=nr (by kernel_rfl)
theorem fo_63_4 : fieldOff Tryz.prog 63 4=some 4:=nr (by kernel_rfl)
theorem fo_63_5 : fieldOff Tryz.prog 63 5=some 5:=nr (by kernel_rfl)
theorem fo_79_0 : fieldOff Tryz.prog 79 0=some 0:=nr (by kernel_rfl)
theorem fo_79_1 : fieldOff Tryz.prog 79 1=some 1:=nr (by kernel_rfl)
theorem fo_79_2 : fieldOff Tryz.prog 79 2=some 2:=nr (by kernel_rfl)
theorem fo_86_0 : fieldOff Tryz.prog 86 0=some 0:=nr (by kernel_rfl)
theorem fo_86_1 : fieldOff Tryz.prog 86 1=some 1:=nr (by kernel_rfl)
theorem fo_86_2 : fieldOff Tryz.prog 86 2=some 2:=nr (by kernel_rfl)
theorem fo_86_3 : fieldOff Tryz.prog 86 3=some 3:=nr (by kernel_rfl)
theorem fo_86_4 : fieldOff Tryz.prog 86 4=some 4:=nr (by kernel_rfl)
theorem fo_91_0 : fieldOff Tryz.prog 91 0=some 0:=nr (by kernel_rfl)
theorem fo_91_1 : fieldOff Tryz.prog 91 1=some 1:=nr (by kernel_rfl)
theorem fo_91_2 : fieldOff Tryz.prog 91 2=some 17:=nr (by kernel_rfl)
theorem fo_91_3 : fieldOff Tryz.prog 91 3=some 18:=nr (by kernel_rfl)
theorem if_50 : isIfaceT Tryz.prog 50=true:=nr (by kernel_rfl)
theorem ld_21 (w:World) (b o:Nat):loadOf Tryz.prog 21 w ⟨b,o,none⟩=(blk w b).bind fun x=>x.1[o]?:=loadOf_one (by kernel_rfl) w b o
theorem ld_31 (w:World) (b o:Nat):loadOf Tryz.prog 31 w ⟨b,o,none⟩=(blk w b).bind fun x=>cellsAt x.1 o 2:=loadOf_agg (by kernel_rfl) w b o
theorem ld_40 (w:World) (b o:Nat):loadOf Tryz.prog 40 w ⟨b,o,none⟩=(blk w b).bind fun x=>x.1[o]?:=loadOf_one (by kernel_rfl) w b o
theorem ld_57 (w:World) (b o:Nat):loadOf Tryz.prog 57 w ⟨b,o,none⟩=(blk w b).bind fun x=>x.1[o]?:=loadOf_one (by kernel_rfl) w b o
theorem ld_58 (w:World) (b o:Nat):loadOf Tryz.prog 58 w ⟨b,o,none⟩=(blk w b).bind fun x=>x.1[o]?:=loadOf_one (by kernel_rfl) w b o
theorem ld_77 (w:World) (b o:Nat):loadOf Tryz.prog 77 w ⟨b,o,none⟩=(blk w b).bind fun x=>x.1[o]?:=loadOf_one (by kernel_rfl) w b o
theorem ld_83 (w:World) (b o:Nat):loadOf Tryz.prog 83 w ⟨b,o,none⟩=(blk w b).bind fun x=>x.1[o]?:=loadOf_one (by kernel_rfl) w b o
theorem ld_84 (w:World) (b o:Nat):loadOf Tryz.prog 84 w ⟨b,o,none⟩=(blk w b).bind fun x=>x.1[o]?:=loadOf_one (by kernel_rfl) w b o
theorem pl_102 : placesOf Tryz.prog 102=some [(0,1),(1,1)]:=nr (by kernel_rfl)
theorem pl_31 : placesOf Tryz.prog 31=some [(0,1),(1,1)]:=nr (by kernel_rfl)
theorem pl_45 : placesOf Tryz.prog 45=some [(0,1),(1,1),(2,1),(3,1),(4,1),(5,1),(6,1),(7,1)]:=nr (by kernel_rfl)
theorem se_29 : slElem Tryz.prog 29=some (45,8):=nr (by kernel_rfl)
theorem se_57 : slElem Tryz.prog 57=some (79,3):=nr (by kernel_rfl)
theorem se_84 : slElem Tryz.prog 84=some (91,19):=nr (by kernel_rfl)
theorem sl_57 : isSliceT Tryz.prog 57=true:=nr (by kernel_rfl)
theorem sl_58 : isSliceT Tryz.prog 58=true:=nr (by kernel_rfl)
theorem sl_77 : isSliceT Tryz.prog 77=true:=nr (by kernel_rfl)
theorem sl_84 : isSliceT Tryz.prog 84=true:=nr (by kernel_rfl)
theorem sz_102 (w:World) (b o:Nat) (v:Value):storeOf Tryz.prog 102 w ⟨b,o,none⟩ v=(blk w b).bind fun x=>stO w b o v x 2:=storeOf_n (by kernel_rfl) w b o v
theorem sz_21 (w:World) (b o:Nat) (v:Value):storeOf Tryz.prog 21 w ⟨b,o,none⟩ v=(blk w b).bind fun x=>stO w b o v x 1:=storeOf_n (by kernel_rfl) w b o v
theorem sz_31 (w:World) (b o:Nat) (v:Value):storeOf Tryz.prog 31 w ⟨b,o,none⟩ v=(blk w b).bind fun x=>stO w b o v x 2:=storeOf_n (by kernel_rfl) w b o v
theorem sz_40 (w:World) (b o:Nat) (v:Value):storeOf Tryz.prog 40 w ⟨b,o,none⟩ v=(blk w b).bind fun x=>stO w b o v x 1:=storeOf_n (by kernel_rfl) w b o v
theorem sz_57 (w:World) (b o:Nat) (v:Value):storeOf Tryz.prog 57 w ⟨b,o,none⟩ v=(blk w b).bind fun x=>stO w b o v x 1:=storeOf_n (by kernel_rfl) w b o v
theorem sz_58 (w:World) (b o:Nat) (v:Value):storeOf Tryz.prog 58 w ⟨b,o,none⟩ v=(blk w b).bind fun x=>stO w b o v x 1:=storeOf_n (by kernel_rfl) w b o v
theorem sz_77 (w:World) (b o:Nat) (v:Value):storeOf Tryz.prog 77 w ⟨b,o,none⟩ v=(blk w b).bind fun x=>stO w b o v x 1:=storeOf_n (by kernel_rfl) w b o v
theorem sz_83 (w:World) (b o:Nat) (v:Value):storeOf Tryz.prog 83 w ⟨b,o,none⟩ v=(blk w b).bind fun x=>stO w b o v x 1:=storeOf_n (by kernel_rfl) w b o v
theorem sz_84 (w:World) (b o:Nat) (v:Value):storeOf Tryz.prog 84 w ⟨b,o,none⟩ v=(blk w b).bind fun x=>stO w b o v x 1:=storeOf_n (by kernel_rfl) w b o v
theorem z_102 : zeroOf Tryz.prog 102=some #[.slice none 0 0,.bool false]:=nr (by kernel_rfl)
theorem z_31 : zeroOf Tryz.prog 31=some #[.slice none 0 0,.int .i64 0]:=nr (by kernel_rfl)
theorem z_63 : zeroOf Tryz.prog 63=some #[.int .i16 0,.string ByteArray.empty,.slice none 0 0,.slice none 0 0,.bool false,.map none]:=nr (by kernel_rfl)
attribute [go_sem] ca_12 ca_13 ca_14 ca_15 ca_17 ca_18 ca_19 ca_21 ca_22 ca_31 ca_34 ca_35 ca_36 ca_37 ca_4 ca_40 ca_41 ca_42 ca_43 ca_44 ca_45 ca_5 ca_52 ca_53 ca_54 ca_55 ca_56 ca_57 ca_58 ca_59 ca_6 ca_60 ca_62 ca_63 ca_64 ca_65 ca_66 ca_67 ca_68 ca_69 ca_7 ca_70 ca_8 ca_9 es_57 es_58 es_77 es_84 fo_63_0 fo_63_1 fo_63_2 fo_63_3 fo_63_4 fo_63_5 fo_79_0 fo_79_1 fo_79_2 fo_86_0 fo_86_1 fo_86_2 fo_86_3 fo_86_4 fo_91_0 fo_91_1 fo_91_2 fo_91_3 if_50 ld_21 ld_31 ld_40 ld_57 ld_58 ld_77 ld_83 ld_84 pl_102 pl_31 pl_45 se_29 se_57 se_84 sl_57 sl_58 sl_77 sl_84 sz_102 sz_21 sz_31 sz_40 sz_57 sz_58 sz_77 sz_83 sz_84 z_102 z_31 z_63
end Ms

namespace Ms
open Go
end Ms

namespace Ms
attribute [go_sem] exitRQ_ret exitRQ_exit Int.toNat_natCast Nat.mul_one
end Ms

namespace Ms
open Go.World renaming size_alloc → qI
open Ms renaming size_wr → qJ,size_drew → qK,not_noB → qL
open W renaming seqF → qA,seq → qB,regF → qC,condK → qD,block → qE,skip → qF,ret → qG,exit → qH
open Nat renaming reduceEqDiff → n0,reduceAdd → n1,reduceMul → n2,reduceSub → n3,reduceLT → n4,reduceLeDiff → n5
open Int renaming reduceEq → i0,reduceLT → i1,reduceLE → i2,reduceNeg → i3,reduceAdd → i4,reduceSub → i5,reduceMul → i6,reduceToNat → i7
set_option maxRecDepth 8000
open Go Go.Proofs Go.Shelf
attribute [local congr] W_congr WPsq_congr WPp_congr optK_congr addrK_congr intK_congr boolK_congr sliceK_congr tupleK_congr funcK_congr Fn_congr rawK_congr takeK_congr stepK_congr convK_congr aggK_congr

def fX2_0 : Fld:=.mk 8 0 (-1) (-1) (-1) 0 0 []
def fX2_1 : Fld:=.mk 11 0 (-1) (-1) (-1) 0 3 []
def fs_X2 : List Fld:=[fX2_0,fX2_1]
def fX0_0 : Fld:=.mk 8 8 9 (-1) (-1) 0 0 []
def fX0_1 : Fld:=.mk 7 10 (-1) (-1) (-1) 0 0 []
def fX0_2 : Fld:=.mk 11 0 (-1) (-1) (-1) 0 3 []
def fs_X0 : List Fld:=[fX0_0,fX0_1,fX0_2]
def fX1_0 : Fld:=.mk 8 0 (-1) (-1) (-1) 0 0 []
def fX1_1 : Fld:=.mk 8 9 (-1) 9 (-1) 0 0 []
def fX1_2 : Fld:=.mk 3 9 (-1) (-1) (-1) (-1) 0 []
def fX1_3 : Fld:=.mk 11 0 (-1) (-1) (-1) 0 10 fs_X0
def fs_X1 : List Fld:=[fX1_0,fX1_1,fX1_2,fX1_3]
def fQ_0 : Fld:=.mk 8 0 7 (-1) (-1) 0 0 []
def fQ_1 : Fld:=.mk 11 0 7 2 (-1) 0 10 fs_X2
def fQ_2 : Fld:=.mk 11 8 (-1) (-1) (-1) 0 10 fs_X1
def fQ_3 : Fld:=.mk 0 7 (-1) (-1) (-1) 0 0 []
def fs_Q : List Fld:=[fQ_0,fQ_1,fQ_2,fQ_3]

set_option maxHeartbeats 4000000 in
theorem cX2_fn (w:World):Fn Tryz.prog 14 #[] w fun r w'=>FldsV (fun b=>w.heap.size≤b) w' r fs_X2∧Ext w w':=by
 refine fn_of_W Tryz.func14 rfl Tryz.results14 Tryz.ntmps14 rfl ?_
 repeat ((first|refine qA ?_|apply qB|refine qC ?_|apply qD|apply qE|apply qF|apply qG|apply qH);try simp (maxSteps:=1000000)(disch:=(first|omega|(simp only [qI,qJ,qK]<;>omega)|exact qL _)) only [go_sem,↓reduceIte,n0,reduceCtorEq,n1,n2,n3,n4,n5,i0,i1,i2,i3,i4,i5,i6,i7,fill_fld,fillN_nil,fillN_int,fillN_slice])
 repeat ((first|refine qA ?_|apply qB|refine qC ?_|apply qD|apply qE|apply qF|apply qG|apply qH);try simp (maxSteps:=1000000)(disch:=(first|omega|(simp only [qI,qJ,qK]<;>omega)|exact qL _)) only [go_sem,↓reduceIte,n0,reduceCtorEq,n1,n2,n3,n4,n5,i0,i1,i2,i3,i4,i5,i6,i7,fill_fld,fillN_nil,fillN_int,fillN_slice])
 exact ⟨FldsV.litO (fs:=fs_X2) (css:=[[.int .i64 8,.int .i64 0,.int .i64 (-1),.int .i64 (-1),.int .i64 (-1),.int .i64 0,.int .i64 0,.slice none 0 0],[.int .i64 11,.int .i64 0,.int .i64 (-1),.int .i64 (-1),.int .i64 (-1),.int .i64 0,.int .i64 3,.slice none 0 0]]) (T:=45) (fr:=(0,0)) (by first|omega|(simp only [World.size_alloc];omega)) (by first|(simp (maxSteps:=1000000)(disch:=(first|omega|(simp only [qI,qJ,qK]<;>omega)|exact qL _)) only [go_sem,↓reduceIte,n0,reduceCtorEq,n1,n2,n3,n4,n5,i0,i1,i2,i3,i4,i5,i6,i7];rfl)|rfl) (by simp) (All2.cons (FldC.intro (kind:=8) (FldsV.none _ _)) (All2.cons (FldC.intro (kind:=11) (FldsV.none _ _)) All2.nil)),(Upd.alloc (Upd.refl _ w) _)⟩

set_option maxHeartbeats 4000000 in
theorem cX0_fn (w:World):Fn Tryz.prog 22 #[] w fun r w'=>FldsV (fun b=>w.heap.size≤b) w' r fs_X0∧Ext w w':=by
 refine fn_of_W Tryz.func22 rfl Tryz.results22 Tryz.ntmps22 rfl ?_
 repeat ((first|refine qA ?_|apply qB|refine qC ?_|apply qD|apply qE|apply qF|apply qG|apply qH);try simp (maxSteps:=1000000)(disch:=(first|omega|(simp only [qI,qJ,qK]<;>omega)|exact qL _)) only [go_sem,↓reduceIte,n0,reduceCtorEq,n1,n2,n3,n4,n5,i0,i1,i2,i3,i4,i5,i6,i7,fill_fld,fillN_nil,fillN_int,fillN_slice])
 repeat ((first|refine qA ?_|apply qB|refine qC ?_|apply qD|apply qE|apply qF|apply qG|apply qH);try simp (maxSteps:=1000000)(disch:=(first|omega|(simp only [qI,qJ,qK]<;>omega)|exact qL _)) only [go_sem,↓reduceIte,n0,reduceCtorEq,n1,n2,n3,n4,n5,i0,i1,i2,i3,i4,i5,i6,i7,fill_fld,fillN_nil,fillN_int,fillN_slice])
 exact ⟨FldsV.litO (fs:=fs_X0) (css:=[[.int .i64 8,.int .i64 8,.int .i64 9,.int .i64 (-1),.int .i64 (-1),.int .i64 0,.int .i64 0,.slice none 0 0],[.int .i64 7,.int .i64 10,.int .i64 (-1),.int .i64 (-1),.int .i64 (-1),.int .i64 0,.int .i64 0,.slice none 0 0],[.int .i64 11,.int .i64 0,.int .i64 (-1),.int .i64 (-1),.int .i64 (-1),.int .i64 0,.int .i64 3,.slice none 0 0]]) (T:=45) (fr:=(0,0)) (by first|omega|(simp only [World.size_alloc];omega)) (by first|(simp (maxSteps:=1000000)(disch:=(first|omega|(simp only [qI,qJ,qK]<;>omega)|exact qL _)) only [go_sem,↓reduceIte,n0,reduceCtorEq,n1,n2,n3,n4,n5,i0,i1,i2,i3,i4,i5,i6,i7];rfl)|rfl) (by simp) (All2.cons (FldC.intro (kind:=8) (FldsV.none _ _)) (All2.cons (FldC.intro (kind:=7) (FldsV.none _ _)) (All2.cons (FldC.intro (kind:=11) (FldsV.none _ _)) All2.nil))),(Upd.alloc (Upd.refl _ w) _)⟩

set_option maxHeartbeats 4000000 in
theorem cX1_fn (w:World):Fn Tryz.prog 15 #[] w fun r w'=>FldsV (fun b=>w.heap.size≤b) w' r fs_X1∧Ext w w':=by
 refine fn_of_W Tryz.func15 rfl Tryz.results15 Tryz.ntmps15 rfl ?_
 repeat ((first|refine qA ?_|apply qB|refine qC ?_|apply qD|apply qE|apply qF|apply qG|apply qH);try simp (maxSteps:=1000000)(disch:=(first|omega|(simp only [qI,qJ,qK]<;>omega)|exact qL _)) only [go_sem,↓reduceIte,n0,reduceCtorEq,n1,n2,n3,n4,n5,i0,i1,i2,i3,i4,i5,i6,i7,fill_fld,fillN_nil,fillN_int,fillN_slice])
 refine (cX0_fn _).mono ?_
 rintro r1 w1 ⟨hF1,hE1⟩
 obtain ⟨b1,k1,rfl,_⟩:=SlR.shape hF1
 have hz1:=hE1.size
 have hD1:Ext w w1:=Upd.trans (Upd.refl _ w) hE1
 simp (maxSteps:=1000000)(disch:=(first|omega|(simp only [qI,qJ,qK]<;>omega)|exact qL _)) only [go_sem,↓reduceIte,n0,reduceCtorEq,n1,n2,n3,n4,n5,i0,i1,i2,i3,i4,i5,i6,i7,fill_fld,fillN_nil,fillN_int,fillN_slice]
 repeat ((first|refine qA ?_|apply qB|refine qC ?_|apply qD|apply qE|apply qF|apply qG|apply qH);try simp (maxSteps:=1000000)(disch:=(first|omega|(simp only [qI,qJ,qK]<;>omega)|exact qL _)) only [go_sem,↓reduceIte,n0,reduceCtorEq,n1,n2,n3,n4,n5,i0,i1,i2,i3,i4,i5,i6,i7,fill_fld,fillN_nil,fillN_int,fillN_slice])
 exact ⟨FldsV.litO (fs:=fs_X1) (css:=[[.int .i64 8,.int .i64 0,.int .i64 (-1),.int .i64 (-1),.int .i64 (-1),.int .i64 0,.int .i64 0,.slice none 0 0],[.int .i64 8,.int .i64 9,.int .i64 (-1),.int .i64 9,.int .i64 (-1),.int .i64 0,.int .i64 0,.slice none 0 0],[.int .i64 3,.int .i64 9,.int .i64 (-1),.int .i64 (-1),.int .i64 (-1),.int .i64 (-1),.int .i64 0,.slice none 0 0],[.int .i64 11,.int .i64 0,.int .i64 (-1),.int .i64 (-1),.int .i64 (-1),.int .i64 0,.int .i64 10,.slice b1 fs_X0.length k1]]) (T:=45) (fr:=(0,0)) (by first|omega|(simp only [World.size_alloc];omega)) (by first|(simp (maxSteps:=1000000)(disch:=(first|omega|(simp only [qI,qJ,qK]<;>omega)|exact qL _)) only [go_sem,↓reduceIte,n0,reduceCtorEq,n1,n2,n3,n4,n5,i0,i1,i2,i3,i4,i5,i6,i7];rfl)|rfl) (by simp) (All2.cons (FldC.intro (kind:=8) (FldsV.none _ _)) (All2.cons (FldC.intro (kind:=8) (FldsV.none _ _)) (All2.cons (FldC.intro (kind:=3) (FldsV.none _ _)) (All2.cons (FldC.intro (kind:=11) ((hF1.keep (Upd.keeps (S:=fun _=>False) (Upd.alloc (Upd.refl _ _) _) fun _ _ _ h=>h)).weaken fun b _ hb=>by have hq:_≤b:=hb;omega)) All2.nil)))),(Upd.alloc hD1 _)⟩

set_option maxHeartbeats 4000000 in
theorem cQ_fn (w:World):Fn Tryz.prog 6 #[] w fun r w'=>(∃ vs,r = .agg #[vs,.int .i64 6]∧FldsV (fun b=>w.heap.size≤b) w' vs fs_Q)∧Ext w w':=by
 refine fn_of_W Tryz.func6 rfl Tryz.results6 Tryz.ntmps6 rfl ?_
 repeat ((first|refine qA ?_|apply qB|refine qC ?_|apply qD|apply qE|apply qF|apply qG|apply qH);try simp (maxSteps:=1000000)(disch:=(first|omega|(simp only [qI,qJ,qK]<;>omega)|exact qL _)) only [go_sem,↓reduceIte,n0,reduceCtorEq,n1,n2,n3,n4,n5,i0,i1,i2,i3,i4,i5,i6,i7,fill_fld,fillN_nil,fillN_int,fillN_slice])
 have hz0:(w.alloc (.cells #[.slice none 0 0,.int .i64 0] 31)).heap.size=w.heap.size+1:=World.size_alloc _ _
 refine (cX2_fn _).mono ?_
 rintro r1 w1 ⟨hF1,hE1⟩
 obtain ⟨b1,k1,rfl,_⟩:=SlR.shape hF1
 have hz1:=hE1.size
 have hD1:Ext w w1:=Upd.trans (Upd.alloc (Upd.refl _ _) _) hE1
 have hb1:blk w1 w.heap.size=some (#[.slice none 0 0,.int .i64 0],31,(0,0)):=hE1.blk_some (blk_alloc_new rfl) id
 simp (maxSteps:=1000000)(disch:=(first|omega|(simp only [qI,qJ,qK]<;>omega)|exact qL _)) only [go_sem,↓reduceIte,n0,reduceCtorEq,n1,n2,n3,n4,n5,i0,i1,i2,i3,i4,i5,i6,i7,fill_fld,fillN_nil,fillN_int,fillN_slice,hb1]
 refine (cX1_fn _).mono ?_
 rintro r2 w2 ⟨hF2,hE2⟩
 obtain ⟨b2,k2,rfl,_⟩:=SlR.shape hF2
 have hz2:=hE2.size
 have hD2:Ext w w2:=Upd.trans hD1 hE2
 have hb2:blk w2 w.heap.size=some (#[.slice none 0 0,.int .i64 0],31,(0,0)):=hE2.blk_some hb1 id
 simp (maxSteps:=1000000)(disch:=(first|omega|(simp only [qI,qJ,qK]<;>omega)|exact qL _)) only [go_sem,↓reduceIte,n0,reduceCtorEq,n1,n2,n3,n4,n5,i0,i1,i2,i3,i4,i5,i6,i7,fill_fld,fillN_nil,fillN_int,fillN_slice,hb2]
 have hvl:=blk_lt hb2
 repeat ((first|refine qA ?_|apply qB|refine qC ?_|apply qD|apply qE|apply qF|apply qG|apply qH);try simp (maxSteps:=1000000)(disch:=(first|omega|(simp only [qI,qJ,qK]<;>omega)|exact qL _)) only [go_sem,↓reduceIte,n0,reduceCtorEq,n1,n2,n3,n4,n5,i0,i1,i2,i3,i4,i5,i6,i7,fill_fld,fillN_nil,fillN_int,fillN_slice,hb2])
 exact ⟨⟨_,rfl,FldsV.litO (fs:=fs_Q) (css:=[[.int .i64 8,.int .i64 0,.int .i64 7,.int .i64 (-1),.int .i64 (-1),.int .i64 0,.int .i64 0,.slice none 0 0],[.int .i64 11,.int .i64 0,.int .i64 7,.int .i64 2,.int .i64 (-1),.int .i64 0,.int .i64 10,.slice b1 fs_X2.length k1],[.int .i64 11,.int .i64 8,.int .i64 (-1),.int .i64 (-1),.int .i64 (-1),.int .i64 0,.int .i64 10,.slice b2 fs_X1.length k2],[.int .i64 0,.int .i64 7,.int .i64 (-1),.int .i64 (-1),.int .i64 (-1),.int .i64 0,.int .i64 0,.slice none 0 0]]) (T:=45) (fr:=(0,0)) (by first|omega|(simp only [World.size_alloc];omega)) (by first|(simp (maxSteps:=1000000)(disch:=(first|omega|(simp only [qI,qJ,qK]<;>omega)|exact qL _)) only [go_sem,↓reduceIte,n0,reduceCtorEq,n1,n2,n3,n4,n5,i0,i1,i2,i3,i4,i5,i6,i7];rfl)|rfl) (by simp) (All2.cons (FldC.intro (kind:=8) (FldsV.none _ _)) (All2.cons (FldC.intro (kind:=11) (hF1.stay (B:=w.heap.size) (Upd.trans (hE2.mono fun _ h=>h.elim) (Upd.wr (Upd.alloc (Upd.refl _ _) _) _ _ (.inr rfl))) (by omega) (fun b hb=>by omega))) (All2.cons (FldC.intro (kind:=11) (hF2.stay (B:=w.heap.size) (Upd.wr (Upd.alloc (Upd.refl _ _) _) _ _ (.inr rfl)) (by omega) (fun b hb=>by omega))) (All2.cons (FldC.intro (kind:=0) (FldsV.none _ _)) All2.nil))))⟩,(Upd.wr (Upd.alloc hD2 _) _ _ (.inl (Nat.le_refl _)))⟩

theorem DefaultQ_fn (w:World) {vb:Nat} {c0 c1 c2 c3 c4 c5:Value} (hb:blk w vb=some (#[c0,c1,c2,c3,c4,c5],63,(0,0))) :
  Fn Tryz.prog 21 #[.pointer (some ⟨vb,0,none⟩)] w fun _ w'=>blk w' vb=some (#[c0,c1,c2,c3,c4,c5],63,(0,0))∧Upd (fun b=>b=vb) w w':=by
 have hvl:=blk_lt hb
 refine fn_of_W Tryz.func21 rfl Tryz.results21 Tryz.ntmps21 rfl ?_
 repeat ((first|refine qA ?_|apply qB|refine qC ?_|apply qD|apply qE|apply qF|apply qG|apply qH);try simp (maxSteps:=1000000)(disch:=(first|omega|(simp only [qI,qJ,qK]<;>omega)|exact qL _)) only [go_sem,↓reduceIte,n0,reduceCtorEq,n1,n2,n3,n4,n5,i0,i1,i2,i3,i4,i5,i6,i7,hb])
 first|exact Upd.refl _ _|exact ⟨hb,Upd.refl _ _⟩

theorem NewPtrQ_fn (w:World):Fn Tryz.prog 12 #[] w fun r w'=>r = .pointer (some ⟨w.heap.size,0,none⟩)∧blk w' w.heap.size=some (#[.int .i16 0,.string ByteArray.empty,.slice none 0 0,.slice none 0 0,.bool false,.map none],63,(0,0))∧Ext w w':=by
 refine fn_of_W Tryz.func12 rfl Tryz.results12 Tryz.ntmps12 rfl ?_
 repeat ((first|refine qA ?_|apply qB|refine qC ?_|apply qD|apply qE|apply qF|apply qG|apply qH);try simp (maxSteps:=1000000)(disch:=(first|omega|(simp only [qI,qJ,qK]<;>omega)|exact qL _)) only [go_sem,↓reduceIte,n0,reduceCtorEq,n1,n2,n3,n4,n5,i0,i1,i2,i3,i4,i5,i6,i7])
 refine (DefaultQ_fn _ (blk_alloc_new rfl)).mono ?_
 rintro _ w1 ⟨hb1,hU1⟩
 have hz:=World.size_alloc w (.cells #[.int .i16 0,.string ByteArray.empty,.slice none 0 0,.slice none 0 0,.bool false,.map none] 63)
 repeat ((first|refine qA ?_|apply qB|refine qC ?_|apply qD|apply qE|apply qF|apply qG|apply qH);try simp (maxSteps:=1000000)(disch:=(first|omega|(simp only [qI,qJ,qK]<;>omega)|exact qL _)) only [go_sem,↓reduceIte,n0,reduceCtorEq,n1,n2,n3,n4,n5,i0,i1,i2,i3,i4,i5,i6,i7])
 exact ⟨hb1,(Upd.alloc (Upd.refl _ _) _:Ext w _).more hU1 fun b hb h=>by omega⟩

theorem SetVersionQ_fn (w:World) {vb:Nat} {c0 c1 c2 c3 c4 c5:Value} (n:Int) (hb:blk w vb=some (#[c0,c1,c2,c3,c4,c5],63,(0,0))) :
  Fn Tryz.prog 17 #[.pointer (some ⟨vb,0,none⟩),.int .i16 n] w fun _ w'=>blk w' vb=some (#[.int .i16 n,c1,c2,c3,c4,c5],63,(0,0))∧Upd (fun b=>b=vb) w w':=by
 have hvl:=blk_lt hb
 refine fn_of_W Tryz.func17 rfl Tryz.results17 Tryz.ntmps17 rfl ?_
 repeat ((first|refine qA ?_|apply qB|refine qC ?_|apply qD|apply qE|apply qF|apply qG|apply qH);try simp (maxSteps:=1000000)(disch:=(first|omega|(simp only [qI,qJ,qK]<;>omega)|exact qL _)) only [go_sem,↓reduceIte,n0,reduceCtorEq,n1,n2,n3,n4,n5,i0,i1,i2,i3,i4,i5,i6,i7,hb])
 first|exact Upd.wr (Upd.refl _ _) _ _ (.inr rfl)|exact ⟨by simp (maxSteps:=1000000)(disch:=(first|omega|(simp only [qI,qJ,qK]<;>omega)|exact qL _)) only [go_sem,↓reduceIte,n0,reduceCtorEq,n1,n2,n3,n4,n5,i0,i1,i2,i3,i4,i5,i6,i7,hb],Upd.wr (Upd.refl _ _) _ _ (.inr rfl)⟩

theorem MaxQ_fn (w:World):Fn Tryz.prog 5 #[] w fun r w'=>r = .int .i64 10∧Ext w w':=by
 refine fn_of_W Tryz.func5 rfl Tryz.results5 Tryz.ntmps5 rfl ?_
 repeat ((first|refine qA ?_|apply qB|refine qC ?_|apply qD|apply qE|apply qF|apply qG|apply qH);try simp (maxSteps:=1000000)(disch:=(first|omega|(simp only [qI,qJ,qK]<;>omega)|exact qL _)) only [go_sem,↓reduceIte,n0,reduceCtorEq,n1,n2,n3,n4,n5,i0,i1,i2,i3,i4,i5,i6,i7])
 refine (NewPtrQ_fn w).mono ?_
 rintro _ w1 ⟨rfl,hb1,hE1⟩
 repeat ((first|refine qA ?_|apply qB|refine qC ?_|apply qD|apply qE|apply qF|apply qG|apply qH);try simp (maxSteps:=1000000)(disch:=(first|omega|(simp only [qI,qJ,qK]<;>omega)|exact qL _)) only [go_sem,↓reduceIte,n0,reduceCtorEq,n1,n2,n3,n4,n5,i0,i1,i2,i3,i4,i5,i6,i7])
 have hm:Fn Tryz.prog 13 #[.pointer (some ⟨w.heap.size,0,none⟩)] w1 fun r w'=>r = .int .i16 10∧w'=w1:=by
  refine fn_of_W Tryz.func13 rfl Tryz.results13 Tryz.ntmps13 rfl ?_
  repeat ((first|refine qA ?_|apply qB|refine qC ?_|apply qD|apply qE|apply qF|apply qG|apply qH);try simp (maxSteps:=1000000)(disch:=(first|omega|(simp only [qI,qJ,qK]<;>omega)|exact qL _)) only [go_sem,↓reduceIte,n0,reduceCtorEq,n1,n2,n3,n4,n5,i0,i1,i2,i3,i4,i5,i6,i7])
 refine hm.mono ?_
 rintro _ w2 ⟨rfl,rfl⟩
 have ew:IntKind.i64.wrap (10:Int)=10:=i64_wrap (by decide)
 repeat ((first|refine qA ?_|apply qB|refine qC ?_|apply qD|apply qE|apply qF|apply qG|apply qH);try simp (maxSteps:=1000000)(disch:=(first|omega|(simp only [qI,qJ,qK]<;>omega)|exact qL _)) only [go_sem,↓reduceIte,n0,reduceCtorEq,n1,n2,n3,n4,n5,i0,i1,i2,i3,i4,i5,i6,i7,ew])
 exact hE1

def frX1_3 : Fld:=.mk 11 0 (-1) 0 (-1) 0 10 fs_X0
def fsr_X1 : List Fld:=[fX1_0,fX1_1,fX1_2,frX1_3]
def frQ_2 : Fld:=.mk 11 8 (-1) (-1) (-1) 0 10 fsr_X1
def fsr_Q : List Fld:=[fQ_0,fQ_1,frQ_2,fQ_3]

theorem utQ_57 : Tryz.prog.underlying 57=some (.slice 79):=by kernel_rfl
theorem utQ_21 : Tryz.prog.underlying 21=some (.int .i32):=by kernel_rfl
theorem inQ_79 : (Tryz.prog.info? 79).map (fun i=>(i.size,i.bytes,i.zero.map (·.cells)))=some (3,48,some #[.string ByteArray.empty,.slice none 0 0,.map none]):=by kernel_rfl
theorem utQ_77 : Tryz.prog.underlying 77=some (.slice 21):=by kernel_rfl
theorem inQ_21 : (Tryz.prog.info? 21).map (fun i=>(i.size,i.bytes,i.zero.map (·.cells)))=some (1,4,some #[.int .i32 0]):=by kernel_rfl
theorem utQ_58 : Tryz.prog.underlying 58=some (.slice 86):=by kernel_rfl
theorem inQ_86 : (Tryz.prog.info? 86).map (fun i=>(i.size,i.bytes,i.zero.map (·.cells)))=some (5,64,some #[.string ByteArray.empty,.pointer none,.int .i32 0,.slice none 0 0,.map none]):=by kernel_rfl
theorem utQ_84 : Tryz.prog.underlying 84=some (.slice 91):=by kernel_rfl
theorem inQ_91 : (Tryz.prog.info? 91).map (fun i=>(i.size,i.bytes,i.zero.map (·.cells)))=some (19,64,some #[.string ByteArray.empty,.int .u8 0,.int .u8 0,.int .u8 0,.int .u8 0,.int .u8 0,.int .u8 0,.int .u8 0,.int .u8 0,.int .u8 0,.int .u8 0,.int .u8 0,.int .u8 0,.int .u8 0,.int .u8 0,.int .u8 0,.int .u8 0,.slice none 0 0,.map none]):=by kernel_rfl

theorem DefaultEX2_fn (w:World) {R k:Nat} {A B:List Value} {c0 c1 c2:Value} {E:TypeId} (hb:blk w R=some ((A++([c0,c1,c2]++B)).toArray,E,(0,0))) (hA:A.length=k) :
  Fn Tryz.prog 60 #[.pointer (some ⟨R,k,none⟩)] w fun _ w'=>blk w' R=some ((A++([c0,c1,c2]++B)).toArray,E,(0,0))∧Upd (fun b=>b=R) w w':=by
 have hRl:=blk_lt hb
 obtain ⟨X,hX⟩:∃ X:Array Value,X=(A++(([c0,c1,c2]:List Value)++B)).toArray:=⟨_,rfl⟩
 have hXs:k+3≤X.size:=by rw [hX];simp only [List.size_toArray,List.length_append,List.length_cons,List.length_nil,hA];omega
 have hb':blk w R=some (X,E,(0,0)):=by rw [hX];exact hb
 refine fn_of_W Tryz.func60 rfl Tryz.results60 Tryz.ntmps60 rfl ?_
 repeat ((first|refine qA ?_|apply qB|refine qC ?_|apply qD|apply qE|apply qF|apply qG|apply qH);try simp (maxSteps:=1000000)(disch:=(first|omega|(simp only [qI,qJ,qK]<;>omega)|exact qL _)) only [go_sem,↓reduceIte,n0,reduceCtorEq,n1,n2,n3,n4,n5,i0,i1,i2,i3,i4,i5,i6,i7,hb',Array.size_setIfInBounds])
 first|exact ⟨hb,Upd.refl _ _⟩|exact Upd.refl _ _|(rw [hX];exact ⟨rfl,Upd.refl _ _⟩)

theorem DefaultEX1_fn (w:World) {R k:Nat} {A B:List Value} {c0 c1 c2 c3 c4:Value} {E:TypeId} (hb:blk w R=some ((A++([c0,c1,c2,c3,c4]++B)).toArray,E,(0,0))) (hA:A.length=k) :
  Fn Tryz.prog 63 #[.pointer (some ⟨R,k,none⟩)] w fun _ w'=>blk w' R=some ((A++([c0,c1,.int .i32 (-1),c3,c4]++B)).toArray,E,(0,0))∧Upd (fun b=>b=R) w w':=by
 have hRl:=blk_lt hb
 obtain ⟨X,hX⟩:∃ X:Array Value,X=(A++(([c0,c1,c2,c3,c4]:List Value)++B)).toArray:=⟨_,rfl⟩
 have hXs:k+5≤X.size:=by rw [hX];simp only [List.size_toArray,List.length_append,List.length_cons,List.length_nil,hA];omega
 have hb':blk w R=some (X,E,(0,0)):=by rw [hX];exact hb
 refine fn_of_W Tryz.func63 rfl Tryz.results63 Tryz.ntmps63 rfl ?_
 have hq0:k+2+1≤X.size:=by omega
 have hp0:k+3≤X.size:=by omega
 repeat ((first|refine qA ?_|apply qB|refine qC ?_|apply qD|apply qE|apply qF|apply qG|apply qH);try simp (maxSteps:=1000000)(disch:=(first|omega|(simp only [qI,qJ,qK]<;>omega)|exact qL _)) only [go_sem,↓reduceIte,n0,reduceCtorEq,n1,n2,n3,n4,n5,i0,i1,i2,i3,i4,i5,i6,i7,hb',Array.size_setIfInBounds,hq0,hp0])
 have h0:=el_blk (o:=2) (vs:=[.int .i32 (-1)]) hb hA (Nat.le_of_ble_eq_true rfl)
 first|exact ⟨h0,(Upd.wr (Upd.refl (fun b=>b=R) _) _ _ (.inr rfl))⟩|(refine ⟨?_,(Upd.wr (Upd.refl (fun b=>b=R) _) _ _ (.inr rfl))⟩;simp only [blk_wr_eq,hb',Option.map_some] at h0;exact h0)

theorem DefaultEX0_fn (w:World) {R k:Nat} {A B:List Value} {c0 c1 c2 c3 c4 c5 c6 c7 c8 c9 c10 c11 c12 c13 c14 c15 c16 c17 c18:Value} {E:TypeId} (hb:blk w R=some ((A++([c0,c1,c2,c3,c4,c5,c6,c7,c8,c9,c10,c11,c12,c13,c14,c15,c16,c17,c18]++B)).toArray,E,(0,0))) (hA:A.length=k) :
  Fn Tryz.prog 68 #[.pointer (some ⟨R,k,none⟩)] w fun _ w'=>blk w' R=some ((A++([c0,c1,c2,c3,c4,c5,c6,c7,c8,c9,c10,c11,c12,c13,c14,c15,c16,c17,c18]++B)).toArray,E,(0,0))∧Upd (fun b=>b=R) w w':=by
 have hRl:=blk_lt hb
 obtain ⟨X,hX⟩:∃ X:Array Value,X=(A++(([c0,c1,c2,c3,c4,c5,c6,c7,c8,c9,c10,c11,c12,c13,c14,c15,c16,c17,c18]:List Value)++B)).toArray:=⟨_,rfl⟩
 have hXs:k+19≤X.size:=by rw [hX];simp only [List.size_toArray,List.length_append,List.length_cons,List.length_nil,hA];omega
 have hb':blk w R=some (X,E,(0,0)):=by rw [hX];exact hb
 refine fn_of_W Tryz.func68 rfl Tryz.results68 Tryz.ntmps68 rfl ?_
 repeat ((first|refine qA ?_|apply qB|refine qC ?_|apply qD|apply qE|apply qF|apply qG|apply qH);try simp (maxSteps:=1000000)(disch:=(first|omega|(simp only [qI,qJ,qK]<;>omega)|exact qL _)) only [go_sem,↓reduceIte,n0,reduceCtorEq,n1,n2,n3,n4,n5,i0,i1,i2,i3,i4,i5,i6,i7,hb',Array.size_setIfInBounds])
 first|exact ⟨hb,Upd.refl _ _⟩|exact Upd.refl _ _|(rw [hX];exact ⟨rfl,Upd.refl _ _⟩)

set_option maxHeartbeats 4000000 in
theorem readQ_0 {d:Nat} {ok:Blocks} {ver:Int} {ev:Value} (hlo:0≤ver) (hhi:ver≤1) (w:World) {vb:Nat} (src:Value) (s:List UInt8) (hv:blk w vb=some (#[.int .i16 ver,.string ByteArray.empty,.slice none 0 0,.slice none 0 0,.bool false,.map none],63,(0,0))) (hsrc:BytesV ok w src s) (iC:∀ b,ok b→b < w.heap.size∧b≠vb) (hG:Glo ev w) (hgv:¬ 1=vb∧¬ 0=vb) :
  Fn Tryz.prog 31 #[.pointer (some ⟨vb,0,none⟩),src,.bool false] w (ReadQ 63 ok ver (d+3) fsr_Q vb w (rdP (d+3) ver false fsr_Q (some s)) ev):=by
 have hvl:=blk_lt hv
 have hgs:=hG.lt
 obtain ⟨sa,sc,rfl,_⟩:=hsrc.shape
 refine fn_of_W Tryz.func31 rfl Tryz.results31 Tryz.ntmps31 rfl ?_
 repeat ((first|refine qA ?_|apply qB|refine qC ?_|apply qD|apply qE|apply qF|apply qG|apply qH);try simp (disch:=omega) only [go_sem,↓reduceIte,n0,reduceCtorEq,n1,n2,i3,i4,i5,i6,i7,hv])
 refine (DefaultQ_fn w hv).mono ?_
 rintro _ w0 ⟨hv0,hu0⟩
 have hz0:=hu0.size
 have pS:BytesV ok w0 (.slice sa s.length sc) s:=hsrc.keep (hu0.keeps fun b _ hk e=>(iC b hk).2 e)
 obtain ⟨rb,hrb⟩:∃ r,r=w0.heap.size:=⟨_,rfl⟩
 have hE1:Ext w0 (wr (w0.alloc (.cells #[.slice none 0 0,.bool false] 102)) w0.heap.size 0 [.slice sa s.length sc,.bool false]):=(Upd.alloc (Upd.refl _ _) _).wr _ _ (.inl (Nat.le_refl _))
 have hz1:(wr (w0.alloc (.cells #[.slice none 0 0,.bool false] 102)) w0.heap.size 0 [.slice sa s.length sc,.bool false]).heap.size=w0.heap.size+1:=by rw [size_wr,World.size_alloc]
 have hR1:Rdr RT ok (wr (w0.alloc (.cells #[.slice none 0 0,.bool false] 102)) w0.heap.size 0 [.slice sa s.length sc,.bool false]) w0.heap.size (some s):=Rdr.good (v:=.slice sa s.length sc) (by simp (disch:=omega) only [go_sem,↓reduceIte,n0,reduceCtorEq,n1,n2,i3,i4,i5,i6,i7]) (pS.keep (hE1.keeps _))
 have hv_1:=hE1.blk_some hv0 id
 repeat ((first|refine qA ?_|apply qB|refine qC ?_|apply qD|apply qE|apply qF|apply qG|apply qH);try simp (disch:=omega) only [go_sem,↓reduceIte,n0,reduceCtorEq,n1,n2,i3,i4,i5,i6,i7,hv0])
 generalize (wr (w0.alloc (.cells #[.slice none 0 0,.bool false] 102)) w0.heap.size 0 [.slice sa s.length sc,.bool false])=w1 at *
 rw [← hrb] at hR1
 try rw [← hrb]
 have hok:∀ b,ok b→b < w.heap.size∧b≠vb:=iC
 have hrok:¬ ok rb:=fun h=>by have:=(hok rb h).1;omega
 have hbase:Upd (fun b=>b=vb) w w1:=hu0.trans (hE1.mono fun _ h=>h.elim)
 have hG1:Glo ev w1:=hG.updS hbase hgv.1 hgv.2
 have hgrb:¬ 1=rb:=by omega
 have bW:¬ (1=vb∨1=rb):=fun h=>h.elim hgv.1 fun h=>by omega
 have bX:¬ (0=vb∨0=rb):=fun h=>h.elim hgv.2 fun h=>by omega
 obtain ⟨s0,hs0⟩:∃ s':St,s'=some s:=⟨_,rfl⟩
 rw [← hs0] at hR1 ⊢
 have hU1:Upd (fun b=>b=vb∨b=rb) w1 w1:=Upd.refl _ _
 have hoM:∀ b,(ok b∨w1.heap.size≤b)→¬ (b=vb∨b=rb):=fun b hk h=>by
  rcases hk with hk|hk
  ·have:=hok b hk;rcases h with h|h<;>omega
  ·rcases h with h|h<;>omega
 have hq1:Rdr RT ok w1 rb s0:=hR1
 obtain ⟨FB,hFB⟩:∃ P:Prop,P=((rdP (d+3) ver false fsr_Q s0).2=none):=⟨_,rfl⟩
 have hb_0:(rdL (rdP (d+2) ver false) (dfP (d+2)) ver false [fQ_0,fQ_1,frQ_2,fQ_3] s0).2=none→FB:=fun h=>Eq.mpr hFB (rdP_bad h)
 have hh_0:hasS fQ_0 ver=true:=hasS_t (by show (0:Int)≤ver;omega) (by show (7:Int) < 0∨ver≤(7:Int);omega)
 obtain ⟨x_0,hx_0⟩:∃ x,x=(rdF (rdP (d+2) ver false) ver false fQ_0 s0).1:=⟨_,rfl⟩
 repeat ((first|refine qA ?_|apply qB|refine qC ?_|apply qD|apply qE|apply qF|apply qG|apply qH);try simp (disch:=omega) only [go_sem,↓reduceIte,n0,reduceCtorEq,n1,n2,i3,i4,i5,i6,i7,hv_1])
 have hmay:mayS fQ_0 ver=false:=mayS_no (by show (-1:Int) < 0∨ver < (-1:Int);omega)
 have hrd:rdF (rdP (d+2) ver false) ver false fQ_0 s0=_:=rdF_text rfl hmay
 refine (RString_fn w1 hq1 hrok hG1.1 hgrb).mono ?_
 rintro _ w2 ⟨rfl,hq2,hu2⟩
 have hv_2:=hu2.blk_some hv_1 (by omega)
 have hV2:Upd (fun b=>b=vb∨b=rb) w1 w2:=hu2.mono (fun _ h=>.inr h)
 have hU2:Upd (fun b=>b=vb∨b=rb) w1 w2:=hU1.trans hV2
 have hz2:=hV2.size
 have hG2:Glo ev w2:=hG1.updS hU2 bW bX
 have hst:(rdF (rdP (d+2) ver false) ver false fQ_0 s0).2=(rdStr false s0).2:=by first|(rw [hrd];rfl)|rw [hrd]
 obtain ⟨s1,hs1⟩:∃ s,s=(rdF (rdP (d+2) ver false) ver false fQ_0 s0).2:=⟨_,rfl⟩
 rw [← hst,← hs1] at hq2
 clear hst
 repeat ((first|refine qA ?_|apply qB|refine qC ?_|apply qD|apply qE|apply qF|apply qG|apply qH);try simp (disch:=omega) only [go_sem,↓reduceIte,n0,reduceCtorEq,n1,n2,i3,i4,i5,i6,i7,hv_2])
 generalize hw3:wr w2 vb 1 [strV (rdStr false s0).1] = w3
 have hS3:Upd (fun b=>b=vb∨b=rb) w2 w3:=by rw [← hw3];exact (Upd.refl _ _).wr _ _ (.inr (.inl rfl))
 have hv_3:blk w3 vb=some (#[.int .i16 ver,strV (rdStr false s0).1,.slice none 0 0,.slice none 0 0,.bool false,.map none],63,(0,0)):=by rw [← hw3,blk_wr_eq,hv_2];rfl
 have hV3:=hS3
 have hU3:Upd (fun b=>b=vb∨b=rb) w1 w3:=hU2.trans hV3
 have hz3:=hV3.size
 have hG3:Glo ev w3:=hG1.updS hU3 bW bX
 have hq3:=Rdr.stored hw3 hq2 (by omega) fun h=>by have:=(hok _ h).1;first|omega|exact (hok _ h).2 rfl
 clear hw3
 have hf_0:RepF (RepS true (d+2)) (szS true (d+2)) fQ_0 (fun b=>ok b∨w1.heap.size≤b) w3 (x_0) [strV (rdStr false s0).1]:=(RepF_text rfl (by decide)).2 (by rw [hx_0,hrd];rfl)
 clear hrd
 have hb_1:(rdL (rdP (d+2) ver false) (dfP (d+2)) ver false [fQ_1,frQ_2,fQ_3] s1).2=none→FB:=fun h=>hb_0 (by rw [rdL_st (by decide) hh_0,← hs1];exact h)
 have hh_1:hasS fQ_1 ver=true:=hasS_t (by show (0:Int)≤ver;omega) (by show (7:Int) < 0∨ver≤(7:Int);omega)
 obtain ⟨x_1,hx_1⟩:∃ x,x=(rdF (rdP (d+2) ver false) ver false fQ_1 s1).1:=⟨_,rfl⟩
 repeat ((first|refine qA ?_|apply qB|refine qC ?_|apply qD|apply qE|apply qF|apply qG|apply qH);try simp (disch:=omega) only [go_sem,↓reduceIte,n0,reduceCtorEq,n1,n2,i3,i4,i5,i6,i7,hv_3])
 refine (RArrayLen_fn w3 hq3.1 hrok hG3.1 hgrb).mono ?_
 rintro _ w4 ⟨rfl,hq4,hu4⟩
 have hv_4:=hu4.blk_some hv_3 (by omega)
 have hV4:Upd (fun b=>b=vb∨b=rb) w3 w4:=hu4.mono (fun _ h=>.inr h)
 have hU4:Upd (fun b=>b=vb∨b=rb) w1 w4:=hU3.trans hV4
 have hz4:=hV4.size
 have hG4:Glo ev w4:=hG1.updS hU4 bW bX
 obtain ⟨s2,hs2⟩:∃ s,s=(rdALen false s1).2:=⟨_,rfl⟩
 rw [← hs2] at hq4
 have FF:=rdALen_rng false s1
 generalize hy0:(rdALen false s1).1=y0 at *
 obtain ⟨N0,hN0⟩:∃ N,N=y0.toNat:=⟨_,rfl⟩
 have rL:(rdMany (rd1 (rdP (d+2) ver false) fQ_1.of fQ_1.sub false false) N0 s2).2=none→FB:=fun h=>hb_1 (by rw [rdL_st (by decide) hh_1];exact rdL_bad (rdF_listbad rfl (by rw [hy0,← hN0,← hs2];exact h)))
 repeat ((first|refine W.seqR rfl ?_|refine W.seq ?_|refine W.regR rfl ?_|refine W.block ?_|refine W.skip ?_|refine W.ret ?_|refine W.exit ?_);try simp (disch:=omega) only [go_sem,↓reduceIte,n0,reduceCtorEq,n1,n2,i3,i4,i5,i6,i7,hv_4])
 refine W.normJ (RowQ [(2,.bool false),(7,.pointer (some ⟨rb,0,none⟩)),(8,.int .i16 ver),(9,.bool false),(10,.pointer (some ⟨vb,0,none⟩)),(14,.int .i32 y0)] 13 (fun va w'=>∃ a0,va = .slice a0 0 0∧Ext w4 w'∧(∀ x,a0=some x→w4.heap.size≤x.block∧x.block < w'.heap.size)∧(N0=0→if nilS fQ_1 ver y0=true then va = .slice none 0 0 else ∃ a,va = .slice (some a) 0 0))) ?_ ?_
 ·repeat ((first|refine qA ?_|apply qB|refine qC ?_|apply qD|apply qE|apply qF|apply qG|apply qH);try simp (disch:=omega) only [go_sem,↓reduceIte,n0,reduceCtorEq,n1,n2,i3,i4,i5,i6,i7,hv_4])
  exact ⟨(by simp (disch:=omega) only [go_sem,↓reduceIte,n0,reduceCtorEq,n1,n2,i3,i4,i5,i6,i7,Holds_nil,Holds_cons]),.slice (some ⟨w4.heap.size,0,none⟩) 0 0,(by simp (disch:=omega) only [go_sem,↓reduceIte,n0,reduceCtorEq,n1,n2,i3,i4,i5,i6,i7]),some ⟨w4.heap.size,0,none⟩,rfl,(Upd.alloc (Upd.refl _ _) _:Ext _ _),(fun x hx=>by cases hx;exact ⟨Nat.le_refl _,by simp only [World.size_alloc];omega⟩),(fun _=>by rw [nilS_early (by decide) (by show ver < (2:Int);omega)];exact ⟨_,rfl⟩)⟩
 rintro ρ w5 ⟨⟨dE,dF,dG,dH,dC,dD,-⟩,va,bY,a0,rfl,mU,xI,xV⟩
 have lU:Upd (fun b=>b=rb) w4 w5:=mU.mono fun _ h=>h.elim
 have hq5:=And.intro (hq4.1.upd mU (fun h=>h) (fun _ _ _ h=>h)) (hq4.2.upd mU fun h=>h)
 have hv_5:=lU.blk_some hv_4 (by omega)
 have hV5:Upd (fun b=>b=vb∨b=rb) w4 w5:=lU.mono (fun _ h=>.inr h)
 have hU5:Upd (fun b=>b=vb∨b=rb) w1 w5:=hU4.trans hV5
 have hz5:=hV5.size
 have hG5:Glo ev w5:=hG1.updS hU5 bW bX
 repeat ((first|refine W.seqR rfl ?_|refine W.seq ?_|refine W.regR rfl ?_|refine W.block ?_|refine W.skip ?_|refine W.ret ?_|refine W.exit ?_);try simp (disch:=omega) only [go_sem,↓reduceIte,n0,reduceCtorEq,n1,n2,i3,i4,i5,i6,i7,hv_5,dE,dF,dG,dH,dC,dD,bY])
 refine (ROk_fn w5 hq5.1).mono ?_
 rintro _ wz ⟨rfl,hez⟩
 rw [hez]
 clear hez wz
 by_cases lP:s2=none
 ·have hso:s2.isSome=false:=by rw [lP];rfl
  repeat (first|simp (disch:=omega) only [go_sem,↓reduceIte,n0,reduceCtorEq,n1,n2,i3,i4,i5,i6,i7,hv_5,dE,dF,dG,dH,dC,dD,bY,hso]|refine qA ?_|apply qB|refine qC ?_|apply qD|apply qE|apply qF|apply qG|apply qH)
  refine (RComplete_fn w5 hq5.1 hG5.2).mono ?_
  rintro _ wz ⟨rfl,hez⟩
  rw [hez]
  repeat (first|simp (disch:=omega) only [go_sem,↓reduceIte,n0,reduceCtorEq,n1,n2,i3,i4,i5,i6,i7,hv_5,dE,dF,dG,dH,dC,dD,bY]|refine qA ?_|apply qB|refine qC ?_|apply qD|apply qE|apply qF|apply qG|apply qH)
  rw [errV_none lP]
  exact ReadQ.bad (Eq.mp hFB (rL (by rw [lP];exact rdMany_none rd1P_none _))) (hbase.trans' hU5 fun i hi h=>h.elim id fun h=>by omega)
 have lR:s2.isSome=true:=isSome_some lP
 try simp (disch:=omega) only [go_sem,↓reduceIte,n0,reduceCtorEq,n1,n2,i3,i4,i5,i6,i7,hv_5,dE,dF,dG,dH,dC,dD,bY,lR]
 repeat ((first|refine W.seqR rfl ?_|refine W.seq ?_|refine W.regR rfl ?_|refine W.block ?_|refine W.skip ?_|refine W.ret ?_|refine W.exit ?_);try simp (disch:=omega) only [go_sem,↓reduceIte,n0,reduceCtorEq,n1,n2,i3,i4,i5,i6,i7,hv_5,dE,dF,dG,dH,dC,dD,bY,lR])
 refine W.condK ?_
 try simp (disch:=omega) only [go_sem,↓reduceIte,n0,reduceCtorEq,n1,n2,i3,i4,i5,i6,i7,hv_5,dE,dF,dG,dH,dC,dD,bY,lR]
 repeat ((first|refine W.seqR rfl ?_|refine W.seq ?_|refine W.regR rfl ?_|refine W.block ?_|refine W.skip ?_|refine W.ret ?_|refine W.exit ?_);try simp (disch:=omega) only [go_sem,↓reduceIte,n0,reduceCtorEq,n1,n2,i3,i4,i5,i6,i7,hv_5,dE,dF,dG,dH,dC,dD,bY,lR,slBase_00])
 refine W.normJ (RowQ [(2,.bool false),(7,.pointer (some ⟨rb,0,none⟩)),(8,.int .i16 ver),(9,.bool false),(10,.pointer (some ⟨vb,0,none⟩)),(14,.int .i32 y0)] 13 (fun va w'=>LstI RT (rd1 (rdP (d+2) ver false) fQ_1.of fQ_1.sub false false) (Rep1 (RepS true (d+2)) fQ_1.of fQ_1.sub) 3 79 [.string ByteArray.empty,.slice none 0 0,.map none] w4.heap.size N0 ok (fun b=>ok b∨w1.heap.size≤b) rb w4 s2 va 0 s2 [] [] w'∧(N0=0→if nilS fQ_1 ver y0=true then va = .slice none 0 0 else ∃ a,va = .slice (some a) 0 0))) ?_ ?_
 ·by_cases hy0:(0:Int) < y0
  ·have hyv:Value.int .i32 y0 = .int .i32 ((N0:Nat):Int):=by rw [show y0=((N0:Nat):Int) by omega]
   repeat ((first|refine qA ?_|apply qB|refine qC ?_|apply qD|apply qE|apply qF|apply qG|apply qH);try simp (disch:=omega) only [go_sem,↓reduceIte,n0,reduceCtorEq,n1,n2,i3,i4,i5,i6,i7,hv_5,dE,dF,dG,dH,dC,dD,bY])
   refine wp_appendZ (m:=N0) utQ_57 utQ_21 inQ_79 (by decide) (by first|rfl|simp (disch:=omega) only [go_sem,↓reduceIte,n0,reduceCtorEq,n1,n2,i3,i4,i5,i6,i7,dE,dF,dG,dH,dC,dD,bY]) (by first|exact hyv|(simp (disch:=omega) only [go_sem,↓reduceIte,n0,reduceCtorEq,n1,n2,i3,i4,i5,i6,i7,dE,dF,dG,dH,dC,dD,bY];exact hyv)) (by omega) (by omega) (by decide) ?_
   intro q rest hq1
   have hEw:Ext w5 (w5.drew.alloc (.cells (zs [.string ByteArray.empty,.slice none 0 0,.map none] N0++rest).toArray 79)):=(Upd.refl _ _).drew.alloc _
   repeat (first|simp (disch:=omega) only [go_sem,↓reduceIte,n0,reduceCtorEq,n1,n2,i3,i4,i5,i6,i7,hv_5,dE,dF,dG,dH,dC,dD,bY]|refine qA ?_|apply qB|refine qC ?_|apply qD|apply qE|apply qF|apply qG|apply qH)
   exact ⟨(by simp (disch:=omega) only [go_sem,↓reduceIte,n0,reduceCtorEq,n1,n2,i3,i4,i5,i6,i7,Holds_nil,Holds_cons,dE,dF,dG,dH,dC,dD,bY]),.slice (some ⟨w5.heap.size,0,none⟩) N0 q,(by simp (disch:=omega) only [go_sem,↓reduceIte,n0,reduceCtorEq,n1,n2,i3,i4,i5,i6,i7,dE,dF,dG,dH,dC,dD,bY]),LstI.start (RowJ.start (by omega) hq1 (by show w4.heap.size≤w5.drew.heap.size;rw [size_drew];omega) (blk_alloc_new rfl)) ⟨hq5.1.upd hEw (fun h=>h) (fun _ _ _ h=>h),hq5.2.upd hEw fun h=>h⟩ (lU.trans (hEw.mono fun _ h=>h.elim)),fun h0=>by omega⟩
  ·repeat ((first|refine qA ?_|apply qB|refine qC ?_|apply qD|apply qE|apply qF|apply qG|apply qH);try simp (disch:=omega) only [go_sem,↓reduceIte,n0,reduceCtorEq,n1,n2,i3,i4,i5,i6,i7,hv_5,dE,dF,dG,dH,dC,dD,bY])
   exact ⟨(by simp (disch:=omega) only [go_sem,↓reduceIte,n0,reduceCtorEq,n1,n2,i3,i4,i5,i6,i7,Holds_nil,Holds_cons,dE,dF,dG,dH,dC,dD,bY]),.slice a0 0 0,(by simp (disch:=omega) only [go_sem,↓reduceIte,n0,reduceCtorEq,n1,n2,i3,i4,i5,i6,i7,dE,dF,dG,dH,dC,dD,bY,slBase_00]),LstI.start (RowJ.zero (by omega) xI) hq5 (lU),xV⟩
 rintro ρ w6 ⟨⟨nE,nF,nG,nH,nC,nD,-⟩,va0,bY,hL0,rM⟩
 repeat ((first|refine qA ?_|apply qB|refine qC ?_|apply qD|apply qE|apply qF|apply qG|apply qH);try simp (disch:=omega) only [go_sem,↓reduceIte,n0,reduceCtorEq,n1,n2,i3,i4,i5,i6,i7,hv_5,nE,nF,nG,nH,nC,nD,bY])
 refine W.exitRJ 0 (EndQ [(2,.bool false),(7,.pointer (some ⟨rb,0,none⟩)),(8,.int .i16 ver),(9,.bool false),(10,.pointer (some ⟨vb,0,none⟩)),(14,.int .i32 y0),(13,va0)] (fun w'=>∃ s xs css,LstI RT (rd1 (rdP (d+2) ver false) fQ_1.of fQ_1.sub false false) (Rep1 (RepS true (d+2)) fQ_1.of fQ_1.sub) 3 79 [.string ByteArray.empty,.slice none 0 0,.map none] w4.heap.size N0 ok (fun b=>ok b∨w1.heap.size≤b) rb w4 s2 va0 N0 s xs css w')) (W.loop (LoopQ [(2,.bool false),(7,.pointer (some ⟨rb,0,none⟩)),(8,.int .i16 ver),(9,.bool false),(10,.pointer (some ⟨vb,0,none⟩)),(14,.int .i32 y0),(13,va0)] 15 (fun j w'=>∃ s xs css,LstI RT (rd1 (rdP (d+2) ver false) fQ_1.of fQ_1.sub false false) (Rep1 (RepS true (d+2)) fQ_1.of fQ_1.sub) 3 79 [.string ByteArray.empty,.slice none 0 0,.map none] w4.heap.size N0 ok (fun b=>ok b∨w1.heap.size≤b) rb w4 s2 va0 j s xs css w')) (fun ρ _=>N0 - (RowKit.intOf (ρ 15)).toNat) ?_ ?_) ?_
 ·exact ⟨(by simp (disch:=omega) only [go_sem,↓reduceIte,n0,reduceCtorEq,n1,n2,i3,i4,i5,i6,i7,Holds_nil,Holds_cons,nE,nF,nG,nH,nC,nD,bY]),0,(by simp (disch:=omega) only [go_sem,↓reduceIte,n0,reduceCtorEq,n1,n2,i3,i4,i5,i6,i7,nE,nF,nG,nH,nC,nD,bY];all_goals rfl),s2,[],[],hL0⟩
 ·rintro ρ w7 ⟨⟨cD,cE,cF,cH,cA,cC,nS,-⟩,j1,cI,s3,xs0,css0,hL0⟩
  have hj0:=hL0.le
  have hq7:=hL0.rd
  have hU7:Upd (fun b=>b=vb∨b=rb) w1 w7:=hU4.trans' hL0.upd fun i _ h=>.inr h
  have hz7:=hL0.upd.size
  have hG7:Glo ev w7:=hG1.updS hU7 bW bX
  by_cases n7:j1 < N0
  ·obtain ⟨R1,q1,B1,fJ,yL,yJ,hA1,eY,lJ⟩:=hL0.row.next n7
   have yN:=blk_lt eY
   generalize css0.flatten=A1 at hA1 eY lJ
   replace bY:ρ 13 = .slice (some ⟨R1,0,none⟩) N0 q1:=nS.trans fJ
   have fG:∀ b,ownB va0 b→w4.heap.size≤b∧b < w7.heap.size:=fun b h=>hL0.row.own h
   have dL:∀ b,(fun b=>(ok b∨w1.heap.size≤b)∧¬ ownB va0 b) b→¬ (b=R1∨b=rb):=fun b hk h=>h.elim (fun e=>hk.2 ⟨_,_,_,fJ,e⟩) (fun e=>hoM b hk.1 (.inr e))
   obtain ⟨X7,hX7,pV,yX⟩:=el_open (n:=3) eY hA1 rfl
   repeat ((first|refine qA ?_|apply qB|refine qC ?_|apply qD|apply qE|apply qF|apply qG|apply qH);try simp (disch:=omega) only [go_sem,↓reduceIte,n0,reduceCtorEq,n1,n2,i3,i4,i5,i6,i7,pV,cD,cE,cF,cH,cA,cC,bY,cI])
   refine (DefaultEX2_fn w7 eY hA1).mono ?_
   rintro _ w8 ⟨fA,hu8⟩
   have hq8:=And.intro (hq7.1.upd hu8 (by omega) (fun b _ hk e=>by have:=(hok b hk).1;omega)) (hq7.2.upd hu8 (by omega))
   have hV8:Upd (fun b=>b=R1∨b=rb) w7 w8:=hu8.mono (fun _ h=>.inl h)
   have hU8:Upd (fun b=>b=vb∨b=rb) w1 w8:=hU7.trans' hV8 fun i hi h=>h.elim (fun h=>by omega) .inr
   have hz8:=hV8.size
   have hG8:Glo ev w8:=hG1.updS hU8 bW bX
   obtain ⟨X8,hX8,nW,yY⟩:=el_open (n:=3) fA hA1 rfl
   have xJ:(rdL (rdP (d+1) ver false) (dfP (d+1)) ver false [fX2_0,fX2_1] s3).2=none→FB:=fun h=>rL (hL0.bad n7 rd1P_none (by show (rd1 (rdP (d+2) ver false) 10 fs_X2 false false s3).2=none;rw [rd1_part];exact rdP_bad h))
   have rJ:hasS fX2_0 ver=true:=hasS_t (by show (0:Int)≤ver;omega) (by show (-1:Int) < 0∨ver≤(-1:Int);omega)
   obtain ⟨xe0_0,tL⟩:∃ x,x=(rdF (rdP (d+1) ver false) ver false fX2_0 s3).1:=⟨_,rfl⟩
   repeat ((first|refine qA ?_|apply qB|refine qC ?_|apply qD|apply qE|apply qF|apply qG|apply qH);try simp (disch:=omega) only [go_sem,↓reduceIte,n0,reduceCtorEq,n1,n2,i3,i4,i5,i6,i7,nW,cD,cE,cF,cH,cA,cC,bY,cI])
   have hmay:mayS fX2_0 ver=false:=mayS_no (by show (-1:Int) < 0∨ver < (-1:Int);omega)
   have hrd:rdF (rdP (d+1) ver false) ver false fX2_0 s3=_:=rdF_text rfl hmay
   refine (RString_fn w8 hq8.1 hrok hG8.1 hgrb).mono ?_
   rintro _ w9 ⟨rfl,hq9,hu9⟩
   have gE:=hu9.blk_some fA (by omega)
   have hV9:Upd (fun b=>b=R1∨b=rb) w8 w9:=hu9.mono (fun _ h=>.inr h)
   have hU9:Upd (fun b=>b=vb∨b=rb) w1 w9:=hU8.trans' hV9 fun i hi h=>h.elim (fun h=>by omega) .inr
   have hz9:=hV9.size
   have hG9:Glo ev w9:=hG1.updS hU9 bW bX
   obtain ⟨X9,hX9,kP,yZ⟩:=el_open (n:=3) gE hA1 rfl
   have hst:(rdF (rdP (d+1) ver false) ver false fX2_0 s3).2=(rdStr false s3).2:=by first|(rw [hrd];rfl)|rw [hrd]
   obtain ⟨s4,hs4⟩:∃ s,s=(rdF (rdP (d+1) ver false) ver false fX2_0 s3).2:=⟨_,rfl⟩
   rw [← hst,← hs4] at hq9
   clear hst
   have yA:j1 * 3+1≤X9.size:=by omega
   have xQ:X9[j1 * 3+1]? = some (.slice none 0 0):=by rw [hX9];exact el_cell (R:=0) hA1 (Nat.le_of_ble_eq_true rfl)
   repeat ((first|refine qA ?_|apply qB|refine qC ?_|apply qD|apply qE|apply qF|apply qG|apply qH);try simp (disch:=omega) only [go_sem,↓reduceIte,n0,reduceCtorEq,n1,n2,i3,i4,i5,i6,i7,kP,cD,cE,cF,cH,cA,cC,bY,cI,yA,xQ,Array.getElem?_setIfInBounds_ne])
   generalize lV:wr w9 R1 (j1 * 3) [strV (rdStr false s3).1] = w10
   have wX:Upd (fun b=>b=R1∨b=rb) w9 w10:=by rw [← lV];exact (Upd.refl _ _).wr _ _ (.inr (.inl rfl))
   have jL:blk w10 R1=some ((A1++(([strV (rdStr false s3).1,.slice none 0 0,.map none]:List Value)++B1)).toArray,79,(0,0)):=by rw [← lV];exact el_blk0 gE hA1 (Nat.le_of_ble_eq_true rfl)
   have gF:=wX
   have m8:Upd (fun b=>b=vb∨b=rb) w1 w10:=hU9.trans' gF fun i hi h=>h.elim (fun h=>by omega) .inr
   have CZ:=gF.size
   have tT:Glo ev w10:=hG1.updS m8 bW bX
   have pL:=Rdr.stored lV hq9 (by omega) fun h=>by have:=(hok _ h).1;first|omega|exact (hok _ h).2 rfl
   obtain ⟨X10,qX,tJ,AM⟩:=el_open (n:=3) jL hA1 rfl
   clear lV
   have xL:RepF (RepS true (d+1)) (szS true (d+1)) fX2_0 (fun b=>(ok b∨w1.heap.size≤b)∧¬ ownB va0 b) w10 (xe0_0) [strV (rdStr false s3).1]:=(RepF_text rfl (by decide)).2 (by rw [tL,hrd];rfl)
   clear hrd
   have xK:(rdL (rdP (d+1) ver false) (dfP (d+1)) ver false [fX2_1] s4).2=none→FB:=fun h=>xJ (by rw [rdL_st (by decide) rJ,← hs4];exact h)
   have rK:hasS fX2_1 ver=true:=hasS_t (by show (0:Int)≤ver;omega) (by show (-1:Int) < 0∨ver≤(-1:Int);omega)
   obtain ⟨xe0_1,tM⟩:∃ x,x=(rdF (rdP (d+1) ver false) ver false fX2_1 s4).1:=⟨_,rfl⟩
   have xP:X10[j1 * 3+1]? = some (.slice none 0 0):=by rw [qX];exact el_cell (R:=0) hA1 (Nat.le_of_ble_eq_true rfl)
   repeat ((first|refine qA ?_|apply qB|refine qC ?_|apply qD|apply qE|apply qF|apply qG|apply qH);try simp (disch:=omega) only [go_sem,↓reduceIte,n0,reduceCtorEq,n1,n2,i3,i4,i5,i6,i7,tJ,cD,cE,cF,cH,cA,cC,bY,cI,xP])
   refine (RArrayLen_fn w10 pL.1 hrok tT.1 hgrb).mono ?_
   rintro _ w11 ⟨rfl,fH,tF⟩
   have kT:=tF.blk_some jL (by omega)
   have gG:Upd (fun b=>b=R1∨b=rb) w10 w11:=tF.mono (fun _ h=>.inr h)
   have iA:Upd (fun b=>b=vb∨b=rb) w1 w11:=m8.trans' gG fun i hi h=>h.elim (fun h=>by omega) .inr
   have zI:=gG.size
   have pW:Glo ev w11:=hG1.updS iA bW bX
   obtain ⟨X11,uQ,dM,yS⟩:=el_open (n:=3) kT hA1 rfl
   obtain ⟨s5,hs5⟩:∃ s,s=(rdALen false s4).2:=⟨_,rfl⟩
   rw [← hs5] at fH
   have FG:=rdALen_rng false s4
   generalize hy1:(rdALen false s4).1=y1 at *
   obtain ⟨N1,hN1⟩:∃ N,N=y1.toNat:=⟨_,rfl⟩
   have xO:(rdMany (rd1 (rdP (d+1) ver false) fX2_1.of fX2_1.sub false false) N1 s5).2=none→FB:=fun h=>xK (by rw [rdL_st (by decide) rK];exact rdL_bad (rdF_listbad rfl (by rw [hy1,← hN1,← hs5];exact h)))
   repeat ((first|refine W.seqR rfl ?_|refine W.seq ?_|refine W.regR rfl ?_|refine W.block ?_|refine W.skip ?_|refine W.ret ?_|refine W.exit ?_);try simp (disch:=omega) only [go_sem,↓reduceIte,n0,reduceCtorEq,n1,n2,i3,i4,i5,i6,i7,dM,cD,cE,cF,cH,cA,cC,bY,cI])
   refine (ROk_fn w11 fH.1).mono ?_
   rintro _ wz ⟨rfl,hez⟩
   rw [hez]
   clear hez wz
   by_cases lQ:s5=none
   ·have hso:s5.isSome=false:=by rw [lQ];rfl
    repeat (first|simp (disch:=omega) only [go_sem,↓reduceIte,n0,reduceCtorEq,n1,n2,i3,i4,i5,i6,i7,dM,cD,cE,cF,cH,cA,cC,bY,cI,hso]|refine qA ?_|apply qB|refine qC ?_|apply qD|apply qE|apply qF|apply qG|apply qH)
    refine (RComplete_fn w11 fH.1 pW.2).mono ?_
    rintro _ wz ⟨rfl,hez⟩
    rw [hez]
    repeat (first|simp (disch:=omega) only [go_sem,↓reduceIte,n0,reduceCtorEq,n1,n2,i3,i4,i5,i6,i7,dM,cD,cE,cF,cH,cA,cC,bY,cI]|refine qA ?_|apply qB|refine qC ?_|apply qD|apply qE|apply qF|apply qG|apply qH)
    rw [errV_none lQ]
    exact ReadQ.bad (Eq.mp hFB (xO (by rw [lQ];exact rdMany_none rd1P_none _))) (hbase.trans' iA fun i hi h=>h.elim id fun h=>by omega)
   have lS:s5.isSome=true:=isSome_some lQ
   try simp (disch:=omega) only [go_sem,↓reduceIte,n0,reduceCtorEq,n1,n2,i3,i4,i5,i6,i7,dM,cD,cE,cF,cH,cA,cC,bY,cI,lS]
   repeat ((first|refine W.seqR rfl ?_|refine W.seq ?_|refine W.regR rfl ?_|refine W.block ?_|refine W.skip ?_|refine W.ret ?_|refine W.exit ?_);try simp (disch:=omega) only [go_sem,↓reduceIte,n0,reduceCtorEq,n1,n2,i3,i4,i5,i6,i7,dM,cD,cE,cF,cH,cA,cC,bY,cI,lS])
   refine W.condK ?_
   try simp (disch:=omega) only [go_sem,↓reduceIte,n0,reduceCtorEq,n1,n2,i3,i4,i5,i6,i7,dM,cD,cE,cF,cH,cA,cC,bY,cI,lS]
   repeat ((first|refine W.seqR rfl ?_|refine W.seq ?_|refine W.regR rfl ?_|refine W.block ?_|refine W.skip ?_|refine W.ret ?_|refine W.exit ?_);try simp (disch:=omega) only [go_sem,↓reduceIte,n0,reduceCtorEq,n1,n2,i3,i4,i5,i6,i7,dM,cD,cE,cF,cH,cA,cC,bY,cI,lS,slBase_00])
   refine W.normJ (RowQ [(2,.bool false),(7,.pointer (some ⟨rb,0,none⟩)),(8,.int .i16 ver),(9,.bool false),(10,.pointer (some ⟨vb,0,none⟩)),(14,.int .i32 y0),(13,.slice (some ⟨R1,0,none⟩) N0 q1),(15,.int .i32 j1),(17,.pointer (some ⟨R1,j1 * 3,none⟩)),(21,.int .i32 y1)] 20 (fun va w'=>LstI RT (rd1 (rdP (d+1) ver false) fX2_1.of fX2_1.sub false false) (Rep1 (RepS true (d+1)) fX2_1.of fX2_1.sub) 1 21 [.int .i32 0] w11.heap.size N1 ok (fun b=>(ok b∨w1.heap.size≤b)∧¬ ownB va0 b) rb w11 s5 va 0 s5 [] [] w'∧(N1=0→if nilS fX2_1 ver y1=true then va = .slice none 0 0 else ∃ a,va = .slice (some a) 0 0))) ?_ ?_
   ·by_cases hy0:(0:Int) < y1
    ·have hyv:Value.int .i32 y1 = .int .i32 ((N1:Nat):Int):=by rw [show y1=((N1:Nat):Int) by omega]
     repeat ((first|refine qA ?_|apply qB|refine qC ?_|apply qD|apply qE|apply qF|apply qG|apply qH);try simp (disch:=omega) only [go_sem,↓reduceIte,n0,reduceCtorEq,n1,n2,i3,i4,i5,i6,i7,dM,cD,cE,cF,cH,cA,cC,bY,cI])
     refine wp_appendZ (m:=N1) utQ_77 utQ_21 inQ_21 (by decide) (by first|rfl|simp (disch:=omega) only [go_sem,↓reduceIte,n0,reduceCtorEq,n1,n2,i3,i4,i5,i6,i7,cD,cE,cF,cH,cA,cC,bY,cI]) (by first|exact hyv|(simp (disch:=omega) only [go_sem,↓reduceIte,n0,reduceCtorEq,n1,n2,i3,i4,i5,i6,i7,cD,cE,cF,cH,cA,cC,bY,cI];exact hyv)) (by omega) (by omega) (by decide) ?_
     intro q rest hq1
     have hEw:Ext w11 (w11.drew.alloc (.cells (zs [.int .i32 0] N1++rest).toArray 21)):=(Upd.refl _ _).drew.alloc _
     repeat (first|simp (disch:=omega) only [go_sem,↓reduceIte,n0,reduceCtorEq,n1,n2,i3,i4,i5,i6,i7,dM,cD,cE,cF,cH,cA,cC,bY,cI]|refine qA ?_|apply qB|refine qC ?_|apply qD|apply qE|apply qF|apply qG|apply qH)
     exact ⟨(by simp (disch:=omega) only [go_sem,↓reduceIte,n0,reduceCtorEq,n1,n2,i3,i4,i5,i6,i7,Holds_nil,Holds_cons,cD,cE,cF,cH,cA,cC,bY,cI]),.slice (some ⟨w11.heap.size,0,none⟩) N1 q,(by simp (disch:=omega) only [go_sem,↓reduceIte,n0,reduceCtorEq,n1,n2,i3,i4,i5,i6,i7,cD,cE,cF,cH,cA,cC,bY,cI]),LstI.start (RowJ.start (by omega) hq1 (by show w11.heap.size≤w11.drew.heap.size;rw [size_drew];omega) (blk_alloc_new rfl)) ⟨fH.1.upd hEw (fun h=>h) (fun _ _ _ h=>h),fH.2.upd hEw fun h=>h⟩ (hEw.mono fun _ h=>h.elim),fun h0=>by omega⟩
    ·repeat ((first|refine qA ?_|apply qB|refine qC ?_|apply qD|apply qE|apply qF|apply qG|apply qH);try simp (disch:=omega) only [go_sem,↓reduceIte,n0,reduceCtorEq,n1,n2,i3,i4,i5,i6,i7,dM,cD,cE,cF,cH,cA,cC,bY,cI])
     exact ⟨(by simp (disch:=omega) only [go_sem,↓reduceIte,n0,reduceCtorEq,n1,n2,i3,i4,i5,i6,i7,Holds_nil,Holds_cons,cD,cE,cF,cH,cA,cC,bY,cI]),.slice none 0 0,(by simp (disch:=omega) only [go_sem,↓reduceIte,n0,reduceCtorEq,n1,n2,i3,i4,i5,i6,i7,cD,cE,cF,cH,cA,cC,bY,cI,slBase_00]),LstI.start (RowJ.zero (by omega) (fun _ h=>by cases h)) fH (Upd.refl _ _),fun _=>by rw [nilS_plain (by decide) (by omega)];exact rfl⟩
   rintro ρ w12 ⟨⟨nN,nP,nQ,nR,nI,nK,nJ,nL,nM,nO,-⟩,va1,eD,hL1,rN⟩
   repeat ((first|refine qA ?_|apply qB|refine qC ?_|apply qD|apply qE|apply qF|apply qG|apply qH);try simp (disch:=omega) only [go_sem,↓reduceIte,n0,reduceCtorEq,n1,n2,i3,i4,i5,i6,i7,dM,nN,nP,nQ,nR,nI,nK,nJ,nL,nM,nO,eD])
   refine W.exitRJ 2 (EndQ [(2,.bool false),(7,.pointer (some ⟨rb,0,none⟩)),(8,.int .i16 ver),(9,.bool false),(10,.pointer (some ⟨vb,0,none⟩)),(14,.int .i32 y0),(13,.slice (some ⟨R1,0,none⟩) N0 q1),(15,.int .i32 j1),(17,.pointer (some ⟨R1,j1 * 3,none⟩)),(21,.int .i32 y1),(20,va1)] (fun w'=>∃ s xs css,LstI RT (rd1 (rdP (d+1) ver false) fX2_1.of fX2_1.sub false false) (Rep1 (RepS true (d+1)) fX2_1.of fX2_1.sub) 1 21 [.int .i32 0] w11.heap.size N1 ok (fun b=>(ok b∨w1.heap.size≤b)∧¬ ownB va0 b) rb w11 s5 va1 N1 s xs css w')) (W.loop (LoopQ [(2,.bool false),(7,.pointer (some ⟨rb,0,none⟩)),(8,.int .i16 ver),(9,.bool false),(10,.pointer (some ⟨vb,0,none⟩)),(14,.int .i32 y0),(13,.slice (some ⟨R1,0,none⟩) N0 q1),(15,.int .i32 j1),(17,.pointer (some ⟨R1,j1 * 3,none⟩)),(21,.int .i32 y1),(20,va1)] 22 (fun j w'=>∃ s xs css,LstI RT (rd1 (rdP (d+1) ver false) fX2_1.of fX2_1.sub false false) (Rep1 (RepS true (d+1)) fX2_1.of fX2_1.sub) 1 21 [.int .i32 0] w11.heap.size N1 ok (fun b=>(ok b∨w1.heap.size≤b)∧¬ ownB va0 b) rb w11 s5 va1 j s xs css w')) (fun ρ _=>N1 - (RowKit.intOf (ρ 22)).toNat) ?_ ?_) ?_
   ·exact ⟨(by simp (disch:=omega) only [go_sem,↓reduceIte,n0,reduceCtorEq,n1,n2,i3,i4,i5,i6,i7,Holds_nil,Holds_cons,nN,nP,nQ,nR,nI,nK,nJ,nL,nM,nO,eD]),0,(by simp (disch:=omega) only [go_sem,↓reduceIte,n0,reduceCtorEq,n1,n2,i3,i4,i5,i6,i7,nN,nP,nQ,nR,nI,nK,nJ,nL,nM,nO,eD];all_goals rfl),s5,[],[],hL1⟩
   ·rintro ρ w13 ⟨⟨eP,eR,eS,eT,eK,eM,eL,eN,eO,eQ,nT,-⟩,j2,eV,s6,xs1,css1,hL1⟩
    have hj1:=hL1.le
    have kS:=hL1.rd
    have lA:Upd (fun b=>b=vb∨b=rb) w1 w13:=iA.trans' hL1.upd fun i _ h=>.inr h
    have zJ:=hL1.upd.size
    have pX:Glo ev w13:=hG1.updS lA bW bX
    by_cases eJ:j2 < N1
    ·obtain ⟨R2,q2,B2,fK,yM,yK,hA2,hZ,lK⟩:=hL1.row.next eJ
     have yO:=blk_lt hZ
     generalize css1.flatten=A2 at hA2 hZ lK
     rw [Nat.mul_one] at hA2
     replace eD:ρ 20 = .slice (some ⟨R2,0,none⟩) N1 q2:=nT.trans fK
     have hown2:∀ b,ownB va1 b→w11.heap.size≤b∧b < w13.heap.size:=fun b h=>hL1.row.own h
     have iI:∀ b,(fun b=>(fun b=>(ok b∨w1.heap.size≤b)∧¬ ownB va0 b) b∧¬ ownB va1 b) b→¬ (b=R2∨b=rb):=fun b hk h=>h.elim (fun e=>hk.2 ⟨_,_,_,fK,e⟩) (fun e=>dL b hk.1 (.inr e))
     obtain ⟨X13,xH,fR,yU⟩:=el_open (n:=1) hZ hA2 rfl
     repeat ((first|refine qA ?_|apply qB|refine qC ?_|apply qD|apply qE|apply qF|apply qG|apply qH);try simp (disch:=omega) only [go_sem,↓reduceIte,n0,reduceCtorEq,n1,n2,i3,i4,i5,i6,i7,fR,eP,eR,eS,eT,eK,eM,eL,eN,eO,eQ,eD,eV])
     refine (Int32_fn w13 kS.1 hrok pX.1 hgrb).mono ?_
     rintro _ w14 ⟨rfl,pM,tG⟩
     have m7:=tG.blk_some hZ (by omega)
     have lC:Upd (fun b=>b=R2∨b=rb) w13 w14:=tG.mono (fun _ h=>.inr h)
     have nX:Upd (fun b=>b=vb∨b=rb) w1 w14:=lA.trans' lC fun i hi h=>h.elim (fun h=>by omega) .inr
     have E9:=lC.size
     have zW:Glo ev w14:=hG1.updS nX bW bX
     obtain ⟨X14,AF,u9,DI⟩:=el_open (n:=1) m7 hA2 rfl
     obtain ⟨s7,hs7⟩:∃ s,s=(rdInt .i32 4 s6).2:=⟨_,rfl⟩
     rw [← hs7] at pM
     have hrE:(rd1 (rdP (d+1) ver false) fX2_1.of fX2_1.sub false false) s6=((.num (rdInt .i32 4 s6).1),s7):=by rw [hs7];exact rd1_num 3 (by decide)
     have y8:j2+1≤X14.size:=by omega
     repeat ((first|refine qA ?_|apply qB|refine qC ?_|apply qD|apply qE|apply qF|apply qG|apply qH);try simp (disch:=omega) only [go_sem,↓reduceIte,n0,reduceCtorEq,n1,n2,i3,i4,i5,i6,i7,u9,eP,eR,eS,eT,eK,eM,eL,eN,eO,eQ,eD,eV,y8])
     generalize lW:wr w14 R2 (j2) [.int .i32 (rdInt .i32 4 s6).1] = w15
     have wY:Upd (fun b=>b=R2∨b=rb) w14 w15:=by rw [← lW];exact (Upd.refl _ _).wr _ _ (.inr (.inl rfl))
     have jR:blk w15 R2=some ((A2++(([.int .i32 (rdInt .i32 4 s6).1]:List Value)++B2)).toArray,21,(0,0)):=by rw [← lW];exact el_blk0 m7 hA2 (Nat.le_of_ble_eq_true rfl)
     have lD:=wY
     have lZ:Upd (fun b=>b=vb∨b=rb) w1 w15:=nX.trans' lD fun i hi h=>h.elim (fun h=>by omega) .inr
     have zK:=lD.size
     have wT:Glo ev w15:=hG1.updS lZ bW bX
     have lL:=Rdr.stored lW pM (by omega) fun h=>by have:=(hok _ h).1;first|omega|exact (hok _ h).2 rfl
     obtain ⟨X15,yR,iJ,yV⟩:=el_open (n:=1) jR hA2 rfl
     clear lW
     have hxE:(Rep1 (RepS true (d+1)) fX2_1.of fX2_1.sub) (fun b=>(fun b=>(ok b∨w1.heap.size≤b)∧¬ ownB va0 b) b∧¬ ownB va1 b) w15 (.num (rdInt .i32 4 s6).1) [.int .i32 (rdInt .i32 4 s6).1]:=(Rep1_num (by decide)).2 (congrArg (fun x=>[x]) (numC_rd 3 (by decide) 4 s6).symm)
     repeat ((first|refine qA ?_|apply qB|refine qC ?_|apply qD|apply qE|apply qF|apply qG|apply qH);try simp (disch:=omega) only [go_sem,↓reduceIte,n0,reduceCtorEq,n1,n2,i3,i4,i5,i6,i7,iJ,eP,eR,eS,eT,eK,eM,eL,eN,eO,eQ,eD,eV])
     have hTk:Upd (fun b=>b=R2∨b=rb) w13 w15:=(lC.trans lD)
     have hL':=hL1.step (Rep1_lay _ _ fun _=>RepS_lay true _ _) eJ (lK w15 [.int .i32 (rdInt .i32 4 s6).1] rfl jR) (by rw [hrE];exact hxE) (hTk.mono fun b h=>h.imp (fun e=>⟨_,_,_,fK,e⟩) id) (by rw [hrE];exact lL) (fun h=>dL rb h (.inr rfl)) (Nat.le_refl _)
     have hij:IntKind.i32.wrap ((j2:Int)+1)=((j2+1:Nat):Int):=by rw [i32_wrap (by omega)];omega
     repeat ((first|refine qA ?_|apply qB|refine qC ?_|apply qD|apply qE|apply qF|apply qG|apply qH);try simp (disch:=omega) only [go_sem,↓reduceIte,n0,reduceCtorEq,n1,n2,i3,i4,i5,i6,i7,iJ,eP,eR,eS,eT,eK,eM,eL,eN,eO,eQ,eD,eV,hij])
     refine ⟨⟨(by simp (disch:=omega) only [go_sem,↓reduceIte,n0,reduceCtorEq,n1,n2,i3,i4,i5,i6,i7,Holds_nil,Holds_cons,eP,eR,eS,eT,eK,eM,eL,eN,eO,eQ,eD,eV];exact fK.symm),j2+1,(by simp (disch:=omega) only [go_sem,↓reduceIte,n0,reduceCtorEq,n1,n2,i3,i4,i5,i6,i7,eP,eR,eS,eT,eK,eM,eL,eN,eO,eQ,eD,eV,hij];all_goals rfl),_,_,_,hL'⟩,?_⟩
     try simp (disch:=omega) only [go_sem,↓reduceIte,n0,reduceCtorEq,n1,n2,i3,i4,i5,i6,i7,eP,eR,eS,eT,eK,eM,eL,eN,eO,eQ,eD,eV]
     simp only [RowKit.intOf]
     omega
    ·have hjN:j2=N1:=by omega
     rw [hjN] at hL1
     repeat ((first|refine qA ?_|apply qB|refine qC ?_|apply qD|apply qE|apply qF|apply qG|apply qH);try simp (disch:=omega) only [go_sem,↓reduceIte,n0,reduceCtorEq,n1,n2,i3,i4,i5,i6,i7,eP,eR,eS,eT,eK,eM,eL,eN,eO,eQ,nT,eV])
     exact ⟨(by simp (disch:=omega) only [go_sem,↓reduceIte,n0,reduceCtorEq,n1,n2,i3,i4,i5,i6,i7,Holds_nil,Holds_cons,eP,eR,eS,eT,eK,eM,eL,eN,eO,eQ,nT,eV]),s6,xs1,css1,hL1⟩
   rintro ρ w16 ⟨⟨g8,gB,gC,gD,fW,fY,fX,fZ,g7,gA,g9,-⟩,s8,xs1,css1,hL1⟩
   have rO:=hL1.rd
   have lT:=hL1.upd
   have m6:=lT.blk_some kT (by omega)
   have gH:Upd (fun b=>b=R1∨b=rb) w11 w16:=lT.mono (fun _ h=>.inr h)
   have m9:Upd (fun b=>b=vb∨b=rb) w1 w16:=iA.trans' gH fun i hi h=>h.elim (fun h=>by omega) .inr
   have D0:=gH.size
   have yI:Glo ev w16:=hG1.updS m9 bW bX
   obtain ⟨X16,AG,tK,AN⟩:=el_open (n:=3) m6 hA1 rfl
   have tD:rdF (rdP (d+1) ver false) ver false fX2_1 s4=(.mk 0 [] (nilS fX2_1 ver y1) xs1 [],s8):=by
    have h:=rdF_listE (pt:=(rdP (d+1) ver false)) (v:=ver) (flex:=false) (f:=fX2_1) (s:=s4) (xs:=xs1) (e:=s8) rfl (by rw [hy1,← hN1,← hs5];exact hL1.done)
    rw [hy1] at h;exact h
   have hs8:s8=(rdF (rdP (d+1) ver false) ver false fX2_1 s4).2:=by rw [tD]
   obtain ⟨aa1,qq1,yC⟩:=hL1.row.shape
   subst yC
   have y9:j1 * 3+2≤X16.size:=by omega
   repeat ((first|refine qA ?_|apply qB|refine qC ?_|apply qD|apply qE|apply qF|apply qG|apply qH);try simp (disch:=omega) only [go_sem,↓reduceIte,n0,reduceCtorEq,n1,n2,i3,i4,i5,i6,i7,tK,g8,gB,gC,gD,fW,fY,fX,fZ,g7,gA,g9,y9])
   generalize lX:wr w16 R1 (j1 * 3+1) [.slice aa1 N1 qq1] = w17
   have wZ:Upd (fun b=>b=R1∨b=rb) w16 w17:=by rw [← lX];exact (Upd.refl _ _).wr _ _ (.inr (.inl rfl))
   have nU:blk w17 R1=some ((A1++(([strV (rdStr false s3).1,.slice aa1 N1 qq1,.map none]:List Value)++B1)).toArray,79,(0,0)):=by rw [← lX];exact el_blk (o:=1) m6 hA1 (Nat.le_of_ble_eq_true rfl)
   have fM:=wZ
   have m4:Upd (fun b=>b=vb∨b=rb) w1 w17:=m9.trans' fM fun i hi h=>h.elim (fun h=>by omega) .inr
   have zL:=fM.size
   have wU:Glo ev w17:=hG1.updS m4 bW bX
   have mS:=Rdr.stored lX rO (by omega) fun h=>by have:=(hok _ h).1;first|omega|exact (hok _ h).2 rfl
   obtain ⟨X17,uR,nV,yW⟩:=el_open (n:=3) nU hA1 rfl
   clear lX
   have xM:RepF (RepS true (d+1)) (szS true (d+1)) fX2_1 (fun b=>(ok b∨w1.heap.size≤b)∧¬ ownB va0 b) w17 (xe0_1) [.slice aa1 N1 qq1]:=by rw [tM,tD];exact RepF.keepS (RepF_row rfl rN hN1 rfl hL1.row hL1.all (fun b hb=>⟨.inr (by omega),fun ho=>by have:=(fG _ ho).2;omega⟩)) (fM.keeps fun b _ hk e=>dL b hk e)
   clear hL1 rN
   have xT:rdL (rdP (d+1) ver false) (dfP (d+1)) ver false [] s8=([],s8):=rfl
   have xS:rdL (rdP (d+1) ver false) (dfP (d+1)) ver false [fX2_1] s4=([xe0_1],s8):=by rw [rdL_st (by decide) rK,← tM,← hs8,xT]
   have xR:rdL (rdP (d+1) ver false) (dfP (d+1)) ver false [fX2_0,fX2_1] s3=([xe0_0,xe0_1],s8):=by rw [rdL_st (by decide) rJ,← tL,← hs4,xS]
   have tV:rdP (d+2) ver false fs_X2 s3=(.mk 0 [] false [xe0_0,xe0_1] [],s8):=rdP_f xR
   have xB:TagsM (fun b=>(ok b∨w1.heap.size≤b)∧¬ ownB va0 b) w17 (.map none) []:=.inl ⟨rfl,rfl⟩
   have qR:Upd (fun b=>b=R1∨b=rb) w17 w17:=Upd.refl _ _
   have wQ:Upd (fun b=>b=R1∨b=rb) w16 w17:=fM.trans qR
   have wP:Upd (fun b=>b=R1∨b=rb) w11 w17:=gH.trans wQ
   have qQ:Upd (fun b=>b=R1∨b=rb) w10 w17:=gG.trans wP
   have wS:Upd (fun b=>b=R1∨b=rb) w9 w17:=gF.trans qQ
   have wR:Upd (fun b=>b=R1∨b=rb) w8 w17:=hV9.trans wS
   have EG:Upd (fun b=>b=R1∨b=rb) w7 w17:=hV8.trans wR
   have wW:RepS true (d+2) fs_X2 (fun b=>(ok b∨w1.heap.size≤b)∧¬ ownB va0 b) w17 (.mk 0 [] false [xe0_0,xe0_1] []) [strV (rdStr false s3).1,.slice aa1 N1 qq1,.map none]:=RepS.introT (c:=[strV (rdStr false s3).1,.slice aa1 N1 qq1]) (RepL.cons1 (xL.keepS (qQ.keeps fun b _ hk e=>dL b hk e)) (RepL.cons1 (xM.keepS (qR.keeps fun b _ hk e=>dL b hk e)) RepL.nil)) xB
   have hrE:(rd1 (rdP (d+2) ver false) fQ_1.of fQ_1.sub false false) s3=((.mk 0 [] false [xe0_0,xe0_1] []),s8):=by rw [show (rd1 (rdP (d+2) ver false) fQ_1.of fQ_1.sub false false) s3=_ from rd1_part];exact tV
   have hxE:(Rep1 (RepS true (d+2)) fQ_1.of fQ_1.sub) (fun b=>(ok b∨w1.heap.size≤b)∧¬ ownB va0 b) w17 (.mk 0 [] false [xe0_0,xe0_1] []) [strV (rdStr false s3).1,.slice aa1 N1 qq1,.map none]:=Rep1_part.2 wW
   repeat ((first|refine qA ?_|apply qB|refine qC ?_|apply qD|apply qE|apply qF|apply qG|apply qH);try simp (disch:=omega) only [go_sem,↓reduceIte,n0,reduceCtorEq,n1,n2,i3,i4,i5,i6,i7,nV,g8,gB,gC,gD,fW,fY,fX,fZ,g7,gA,g9])
   have hTk:Upd (fun b=>b=R1∨b=rb) w7 w17:=(((((hV8.trans hV9).trans gF).trans gG).trans gH).trans fM)
   have hL':=hL0.step (Rep1_lay _ _ fun _=>RepS_lay true _ _) n7 (lJ w17 [strV (rdStr false s3).1,.slice aa1 N1 qq1,.map none] rfl nU) (by rw [hrE];exact hxE) (hTk.mono fun b h=>h.imp (fun e=>⟨_,_,_,fJ,e⟩) id) (by rw [hrE];exact mS) (fun h=>hoM rb h (.inr rfl)) (Nat.le_refl _)
   have hij:IntKind.i32.wrap ((j1:Int)+1)=((j1+1:Nat):Int):=by rw [i32_wrap (by omega)];omega
   repeat ((first|refine qA ?_|apply qB|refine qC ?_|apply qD|apply qE|apply qF|apply qG|apply qH);try simp (disch:=omega) only [go_sem,↓reduceIte,n0,reduceCtorEq,n1,n2,i3,i4,i5,i6,i7,nV,g8,gB,gC,gD,fW,fY,fX,fZ,g7,gA,g9,hij])
   refine ⟨⟨(by simp (disch:=omega) only [go_sem,↓reduceIte,n0,reduceCtorEq,n1,n2,i3,i4,i5,i6,i7,Holds_nil,Holds_cons,g8,gB,gC,gD,fW,fY,fX,fZ,g7,gA,g9];exact fJ.symm),j1+1,(by simp (disch:=omega) only [go_sem,↓reduceIte,n0,reduceCtorEq,n1,n2,i3,i4,i5,i6,i7,g8,gB,gC,gD,fW,fY,fX,fZ,g7,gA,g9,hij];all_goals rfl),_,_,_,hL'⟩,?_⟩
   try simp (disch:=omega) only [go_sem,↓reduceIte,n0,reduceCtorEq,n1,n2,i3,i4,i5,i6,i7,g8,gB,gC,gD,fW,fY,fX,fZ,g7,gA,g9]
   simp only [RowKit.intOf]
   omega
  ·have hjN:j1=N0:=by omega
   rw [hjN] at hL0
   repeat ((first|refine qA ?_|apply qB|refine qC ?_|apply qD|apply qE|apply qF|apply qG|apply qH);try simp (disch:=omega) only [go_sem,↓reduceIte,n0,reduceCtorEq,n1,n2,i3,i4,i5,i6,i7,cD,cE,cF,cH,cA,cC,nS,cI])
   exact ⟨(by simp (disch:=omega) only [go_sem,↓reduceIte,n0,reduceCtorEq,n1,n2,i3,i4,i5,i6,i7,Holds_nil,Holds_cons,cD,cE,cF,cH,cA,cC,nS,cI]),s3,xs0,css0,hL0⟩
 rintro ρ w18 ⟨⟨l3,l4,l5,l6,kY,l0,kZ,-⟩,s9,xs0,css0,hL0⟩
 have mT:=hL0.rd
 have mO:=hL0.upd
 have hv_18:=mO.blk_some hv_4 (by omega)
 have fS:Upd (fun b=>b=vb∨b=rb) w4 w18:=mO.mono (fun _ h=>.inr h)
 have lB:Upd (fun b=>b=vb∨b=rb) w1 w18:=hU4.trans fS
 have zM:=fS.size
 have wV:Glo ev w18:=hG1.updS lB bW bX
 have tC:rdF (rdP (d+2) ver false) ver false fQ_1 s1=(.mk 0 [] (nilS fQ_1 ver y0) xs0 [],s9):=by
  have h:=rdF_listE (pt:=(rdP (d+2) ver false)) (v:=ver) (flex:=false) (f:=fQ_1) (s:=s1) (xs:=xs0) (e:=s9) rfl (by rw [hy0,← hN0,← hs2];exact hL0.done)
  rw [hy0] at h;exact h
 have hs9:s9=(rdF (rdP (d+2) ver false) ver false fQ_1 s1).2:=by rw [tC]
 obtain ⟨aa0,qq0,yB⟩:=hL0.row.shape
 subst yB
 repeat ((first|refine qA ?_|apply qB|refine qC ?_|apply qD|apply qE|apply qF|apply qG|apply qH);try simp (disch:=omega) only [go_sem,↓reduceIte,n0,reduceCtorEq,n1,n2,i3,i4,i5,i6,i7,hv_18,l3,l4,l5,l6,kY,l0,kZ])
 generalize hO:wr w18 vb 2 [.slice aa0 N0 qq0] = w19
 have qT:Upd (fun b=>b=vb∨b=rb) w18 w19:=by rw [← hO];exact (Upd.refl _ _).wr _ _ (.inr (.inl rfl))
 have hv_19:blk w19 vb=some (#[.int .i16 ver,strV (rdStr false s0).1,.slice aa0 N0 qq0,.slice none 0 0,.bool false,.map none],63,(0,0)):=by rw [← hO,blk_wr_eq,hv_18];rfl
 have fB:=qT
 have lM:Upd (fun b=>b=vb∨b=rb) w1 w19:=lB.trans fB
 have zN:=fB.size
 have tO:Glo ev w19:=hG1.updS lM bW bX
 have m5:=Rdr.stored hO mT (by omega) fun h=>by have:=(hok _ h).1;first|omega|exact (hok _ h).2 rfl
 clear hO
 have hf_1:RepF (RepS true (d+2)) (szS true (d+2)) fQ_1 (fun b=>ok b∨w1.heap.size≤b) w19 (x_1) [.slice aa0 N0 qq0]:=by rw [hx_1,tC];exact RepF.keepS (RepF_row rfl rM hN0 rfl hL0.row hL0.all (fun b hb=>.inr (by omega))) (fB.keeps fun b _ hk e=>(hoM b hk) e)
 clear hL0 rM
 have hb_2:(rdL (rdP (d+2) ver false) (dfP (d+2)) ver false [frQ_2,fQ_3] s9).2=none→FB:=fun h=>hb_1 (by rw [rdL_st (by decide) hh_1,← hs9];exact h)
 obtain ⟨x_2,hx_2⟩:∃ x,x=dfF (dfP (d+2)) frQ_2:=⟨_,rfl⟩
 have hf_2:RepF (RepS true (d+2)) (szS true (d+2)) frQ_2 (fun b=>ok b∨w1.heap.size≤b) w19 (x_2) [.slice none 0 0]:=by rw [hx_2];exact RepF_nil rfl
 have hh_2:hasS frQ_2 ver=false:=hasS_f (by show ver < 8∨(0≤(-1:Int)∧(-1:Int) < ver);omega)
 have hb_3:(rdL (rdP (d+2) ver false) (dfP (d+2)) ver false [fQ_3] s9).2=none→FB:=fun h=>hb_2 (by rw [rdL_no hh_2];exact h)
 obtain ⟨x_3,hx_3⟩:∃ x,x=dfF (dfP (d+2)) fQ_3:=⟨_,rfl⟩
 have hf_3:RepF (RepS true (d+2)) (szS true (d+2)) fQ_3 (fun b=>ok b∨w1.heap.size≤b) w19 (x_3) [.bool false]:=by rw [hx_3];exact (RepF_num (by decide)).2 rfl
 have hh_3:hasS fQ_3 ver=false:=hasS_f (by show ver < 7∨(0≤(-1:Int)∧(-1:Int) < ver);omega)
 have hl_4:rdL (rdP (d+2) ver false) (dfP (d+2)) ver false [] s9=([],s9):=rfl
 have hl_3:rdL (rdP (d+2) ver false) (dfP (d+2)) ver false [fQ_3] s9=([x_3],s9):=by rw [rdL_no hh_3,← hx_3,hl_4]
 have hl_2:rdL (rdP (d+2) ver false) (dfP (d+2)) ver false [frQ_2,fQ_3] s9=([x_2,x_3],s9):=by rw [rdL_no hh_2,← hx_2,hl_3]
 have hl_1:rdL (rdP (d+2) ver false) (dfP (d+2)) ver false [fQ_1,frQ_2,fQ_3] s1=([x_1,x_2,x_3],s9):=by rw [rdL_st (by decide) hh_1,← hx_1,← hs9,hl_2]
 have hl_0:rdL (rdP (d+2) ver false) (dfP (d+2)) ver false [fQ_0,fQ_1,frQ_2,fQ_3] s0=([x_0,x_1,x_2,x_3],s9):=by rw [rdL_st (by decide) hh_0,← hx_0,← hs1,hl_1]
 have hfin:rdP (d+3) ver false fsr_Q s0=(.mk 0 [] false [x_0,x_1,x_2,x_3] [],s9):=rdP_f hl_0
 have hTg:TagsM (fun b=>ok b∨w1.heap.size≤b) w19 (.map none) []:=.inl ⟨rfl,rfl⟩
 have hC_19:Upd (fun b=>b=vb∨b=rb) w19 w19:=Upd.refl _ _
 have hC_18:Upd (fun b=>b=vb∨b=rb) w18 w19:=fB.trans hC_19
 have hC_4:Upd (fun b=>b=vb∨b=rb) w4 w19:=fS.trans hC_18
 have hC_3:Upd (fun b=>b=vb∨b=rb) w3 w19:=hV4.trans hC_4
 have hC_2:Upd (fun b=>b=vb∨b=rb) w2 w19:=hV3.trans hC_3
 have hC_1:Upd (fun b=>b=vb∨b=rb) w1 w19:=hV2.trans hC_2
 have hR:RepS true (d+3) fsr_Q (fun b=>ok b∨w1.heap.size≤b) w19 (.mk 0 [] false [x_0,x_1,x_2,x_3] []) [strV (rdStr false s0).1,.slice aa0 N0 qq0,.slice none 0 0,.bool false,.map none]:=RepS.introT (c:=[strV (rdStr false s0).1,.slice aa0 N0 qq0,.slice none 0 0,.bool false]) (RepL.cons1 (hf_0.keepS (hC_3.keeps fun b _ hk e=>(hoM b hk) e)) (RepL.cons1 (hf_1.keepS (hC_19.keeps fun b _ hk e=>(hoM b hk) e)) (RepL.cons1 (hf_2.keepS (hC_19.keeps fun b _ hk e=>(hoM b hk) e)) (RepL.cons1 (hf_3.keepS (hC_19.keeps fun b _ hk e=>(hoM b hk) e)) RepL.nil)))) hTg
 repeat ((first|refine qA ?_|apply qB|refine qC ?_|apply qD|apply qE|apply qF|apply qG|apply qH);try simp (disch:=omega) only [go_sem,↓reduceIte,n0,reduceCtorEq,n1,n2,i3,i4,i5,i6,i7,hv_19,l3,l4,l5,l6,kY,l0,kZ])
 refine (RComplete_fn w19 m5.1 tO.2).mono ?_
 rintro _ wz ⟨rfl,hez⟩
 rw [hez]
 repeat ((first|refine qA ?_|apply qB|refine qC ?_|apply qD|apply qE|apply qF|apply qG|apply qH);try simp (disch:=omega) only [go_sem,↓reduceIte,n0,reduceCtorEq,n1,n2,i3,i4,i5,i6,i7,hv_19,l3,l4,l5,l6,kY,l0,kZ])
 rw [hfin]
 refine ⟨fun h => ?_,fun h=>⟨?_,[strV (rdStr false s0).1,.slice aa0 N0 qq0,.slice none 0 0,.bool false,.map none],hv_19,?_⟩,?_⟩
 ·have h':s9=none:=h
  rw [h'];rfl
 ·cases hsn:s9 with
  | none=>exact absurd hsn h
  | some x=>rfl
 ·exact (RepS_lay true (d+3) fsr_Q).weaken hR fun b _ hk=>hk.imp id fun h=>by omega
 ·exact hbase.trans' lM fun i hi h=>h.elim id fun h=>by omega
end Ms

