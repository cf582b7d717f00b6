/- A part of the proof: see the last text. -/
import Derived.Test.YtpaofegplnfiiaaGreatDoorC06
import Derived.Test.YtpaofegplnfiiaaGreatDoorC08
import Derived.Test.YtpaofegplnfiiaaGreatDoorC09
import Derived.Test.YtpaofegplnfiiaaGreatDoorC11
set_option linter.unusedSimpArgs false
set_option linter.unusedVariables false
namespace Ms
open Nat renaming reduceEqDiff → n0,reduceAdd → n1,reduceMul → n2,reduceSub → n3,reduceLT → n4,reduceLeDiff → n5
open Int renaming reduceEq → i0,reduceLT → i1,reduceLE → i2,reduceNeg → i3,reduceAdd → i4,reduceSub → i5,reduceMul → i6,reduceToNat → i7
set_option maxRecDepth 4000
open Go Go.Proofs
theorem ap_34_34 : AppT Tryz.prog 34 34 37 5 88:=AppT.of (by kernel_rfl)
theorem ap_35_35 : AppT Tryz.prog 35 35 69 2 32:=AppT.of (by kernel_rfl)
theorem ca_10 : callable Tryz.prog 10=true:=nr (by kernel_rfl)
theorem ca_103 : callable Tryz.prog 103=true:=nr (by kernel_rfl)
theorem ca_12 : callable Tryz.prog 12=true:=nr (by kernel_rfl)
theorem ca_18 : callable Tryz.prog 18=true:=nr (by kernel_rfl)
theorem ca_19 : callable Tryz.prog 19=true:=nr (by kernel_rfl)
theorem ca_20 : callable Tryz.prog 20=true:=nr (by kernel_rfl)
theorem ca_21 : callable Tryz.prog 21=true:=nr (by kernel_rfl)
theorem ca_22 : callable Tryz.prog 22=true:=nr (by kernel_rfl)
theorem ca_23 : callable Tryz.prog 23=true:=nr (by kernel_rfl)
theorem ca_24 : callable Tryz.prog 24=true:=nr (by kernel_rfl)
theorem ca_43 : callable Tryz.prog 43=true:=nr (by kernel_rfl)
theorem ca_44 : callable Tryz.prog 44=true:=nr (by kernel_rfl)
theorem ca_45 : callable Tryz.prog 45=true:=nr (by kernel_rfl)
theorem ca_46 : callable Tryz.prog 46=true:=nr (by kernel_rfl)
theorem ca_47 : callable Tryz.prog 47=true:=nr (by kernel_rfl)
theorem ca_48 : callable Tryz.prog 48=true:=nr (by kernel_rfl)
theorem ca_49 : callable Tryz.prog 49=true:=nr (by kernel_rfl)
theorem ca_5 : callable Tryz.prog 5=true:=nr (by kernel_rfl)
theorem ca_50 : callable Tryz.prog 50=true:=nr (by kernel_rfl)
theorem ca_6 : callable Tryz.prog 6=true:=nr (by kernel_rfl)
theorem ca_64 : callable Tryz.prog 64=true:=nr (by kernel_rfl)
theorem ca_67 : callable Tryz.prog 67=true:=nr (by kernel_rfl)
theorem ca_68 : callable Tryz.prog 68=true:=nr (by kernel_rfl)
theorem ca_69 : callable Tryz.prog 69=true:=nr (by kernel_rfl)
theorem ca_7 : callable Tryz.prog 7=true:=nr (by kernel_rfl)
theorem ca_70 : callable Tryz.prog 70=true:=nr (by kernel_rfl)
theorem ca_71 : callable Tryz.prog 71=true:=nr (by kernel_rfl)
theorem ca_72 : callable Tryz.prog 72=true:=nr (by kernel_rfl)
theorem ca_73 : callable Tryz.prog 73=true:=nr (by kernel_rfl)
theorem ca_74 : callable Tryz.prog 74=true:=nr (by kernel_rfl)
theorem ca_75 : callable Tryz.prog 75=true:=nr (by kernel_rfl)
theorem ca_76 : callable Tryz.prog 76=true:=nr (by kernel_rfl)
theorem ca_78 : callable Tryz.prog 78=true:=nr (by kernel_rfl)
theorem ca_79 : callable Tryz.prog 79=true:=nr (by kernel_rfl)
theorem ca_8 : callable Tryz.prog 8=true:=nr (by kernel_rfl)
theorem ca_83 : callable Tryz.prog 83=true:=nr (by kernel_rfl)
theorem ca_84 : callable Tryz.prog 84=true:=nr (by kernel_rfl)
theorem ca_85 : callable Tryz.prog 85=true:=nr (by kernel_rfl)
theorem ca_86 : callable Tryz.prog 86=true:=nr (by kernel_rfl)
theorem ca_87 : callable Tryz.prog 87=true:=nr (by kernel_rfl)
theorem ca_9 : callable Tryz.prog 9=true:=nr (by kernel_rfl)
theorem es_74 : elemSize Tryz.prog 74=some 3:=nr (by kernel_rfl)
theorem es_75 : elemSize Tryz.prog 75=some 4:=nr (by kernel_rfl)
theorem es_84 : elemSize Tryz.prog 84=some 6:=nr (by kernel_rfl)
theorem fo_130_0 : fieldOff Tryz.prog 130 0=some 0:=nr (by kernel_rfl)
theorem fo_130_1 : fieldOff Tryz.prog 130 1=some 1:=nr (by kernel_rfl)
theorem fo_130_2 : fieldOff Tryz.prog 130 2=some 2:=nr (by kernel_rfl)
theorem fo_130_3 : fieldOff Tryz.prog 130 3=some 3:=nr (by kernel_rfl)
theorem fo_130_4 : fieldOff Tryz.prog 130 4=some 4:=nr (by kernel_rfl)
theorem fo_130_5 : fieldOff Tryz.prog 130 5=some 5:=nr (by kernel_rfl)
theorem fo_80_0 : fieldOff Tryz.prog 80 0=some 0:=nr (by kernel_rfl)
theorem fo_80_1 : fieldOff Tryz.prog 80 1=some 1:=nr (by kernel_rfl)
theorem fo_80_2 : fieldOff Tryz.prog 80 2=some 2:=nr (by kernel_rfl)
theorem fo_80_3 : fieldOff Tryz.prog 80 3=some 3:=nr (by kernel_rfl)
theorem fo_80_4 : fieldOff Tryz.prog 80 4=some 4:=nr (by kernel_rfl)
theorem fo_86_0 : fieldOff Tryz.prog 86 0=some 0:=nr (by kernel_rfl)
theorem fo_86_1 : fieldOff Tryz.prog 86 1=some 1:=nr (by kernel_rfl)
theorem fo_86_2 : fieldOff Tryz.prog 86 2=some 2:=nr (by kernel_rfl)
theorem fo_91_0 : fieldOff Tryz.prog 91 0=some 0:=nr (by kernel_rfl)
theorem fo_91_1 : fieldOff Tryz.prog 91 1=some 1:=nr (by kernel_rfl)
theorem fo_91_2 : fieldOff Tryz.prog 91 2=some 2:=nr (by kernel_rfl)
theorem fo_91_3 : fieldOff Tryz.prog 91 3=some 3:=nr (by kernel_rfl)
theorem if_55 : isIfaceT Tryz.prog 55=true:=nr (by kernel_rfl)
theorem kn_9 : knownT Tryz.prog 9=true:=nr (by kernel_rfl)
theorem ld_21 (w:World) (b o:Nat):loadOf Tryz.prog 21 w ⟨b,o,none⟩=(blk w b).bind fun x=>x.1[o]?:=loadOf_one (by kernel_rfl) w b o
theorem ld_31 (w:World) (b o:Nat):loadOf Tryz.prog 31 w ⟨b,o,none⟩=(blk w b).bind fun x=>cellsAt x.1 o 2:=loadOf_agg (by kernel_rfl) w b o
theorem ld_46 (w:World) (b o:Nat):loadOf Tryz.prog 46 w ⟨b,o,none⟩=(blk w b).bind fun x=>x.1[o]?:=loadOf_one (by kernel_rfl) w b o
theorem ld_74 (w:World) (b o:Nat):loadOf Tryz.prog 74 w ⟨b,o,none⟩=(blk w b).bind fun x=>x.1[o]?:=loadOf_one (by kernel_rfl) w b o
theorem ld_75 (w:World) (b o:Nat):loadOf Tryz.prog 75 w ⟨b,o,none⟩=(blk w b).bind fun x=>x.1[o]?:=loadOf_one (by kernel_rfl) w b o
theorem ld_84 (w:World) (b o:Nat):loadOf Tryz.prog 84 w ⟨b,o,none⟩=(blk w b).bind fun x=>x.1[o]?:=loadOf_one (by kernel_rfl) w b o
theorem ld_89 (w:World) (b o:Nat):loadOf Tryz.prog 89 w ⟨b,o,none⟩=(blk w b).bind fun x=>x.1[o]?:=loadOf_one (by kernel_rfl) w b o
theorem ld_9 (w:World) (b o:Nat):loadOf Tryz.prog 9 w ⟨b,o,none⟩=(blk w b).bind fun x=>x.1[o]?:=loadOf_one (by kernel_rfl) w b o
theorem pl_123 : placesOf Tryz.prog 123=some [(0,1),(1,1)]:=nr (by kernel_rfl)
theorem pl_31 : placesOf Tryz.prog 31=some [(0,1),(1,1)]:=nr (by kernel_rfl)
theorem pl_51 : placesOf Tryz.prog 51=some [(0,1),(1,1),(2,1),(3,1),(4,1),(5,1),(6,1),(7,1)]:=nr (by kernel_rfl)
theorem pl_69 : placesOf Tryz.prog 69=some [(0,1),(1,1)]:=nr (by kernel_rfl)
theorem se_34 : slElem Tryz.prog 34=some (37,5):=nr (by kernel_rfl)
theorem se_35 : slElem Tryz.prog 35=some (69,2):=nr (by kernel_rfl)
theorem sl_74 : isSliceT Tryz.prog 74=true:=nr (by kernel_rfl)
theorem sl_75 : isSliceT Tryz.prog 75=true:=nr (by kernel_rfl)
theorem sl_84 : isSliceT Tryz.prog 84=true:=nr (by kernel_rfl)
theorem sz_123 (w:World) (b o:Nat) (v:Value):storeOf Tryz.prog 123 w ⟨b,o,none⟩ v=(blk w b).bind fun x=>stO w b o v x 2:=storeOf_n (by kernel_rfl) w b o v
theorem sz_21 (w:World) (b o:Nat) (v:Value):storeOf Tryz.prog 21 w ⟨b,o,none⟩ v=(blk w b).bind fun x=>stO w b o v x 1:=storeOf_n (by kernel_rfl) w b o v
theorem sz_31 (w:World) (b o:Nat) (v:Value):storeOf Tryz.prog 31 w ⟨b,o,none⟩ v=(blk w b).bind fun x=>stO w b o v x 2:=storeOf_n (by kernel_rfl) w b o v
theorem sz_34 (w:World) (b o:Nat) (v:Value):storeOf Tryz.prog 34 w ⟨b,o,none⟩ v=(blk w b).bind fun x=>stO w b o v x 1:=storeOf_n (by kernel_rfl) w b o v
theorem sz_35 (w:World) (b o:Nat) (v:Value):storeOf Tryz.prog 35 w ⟨b,o,none⟩ v=(blk w b).bind fun x=>stO w b o v x 1:=storeOf_n (by kernel_rfl) w b o v
theorem sz_46 (w:World) (b o:Nat) (v:Value):storeOf Tryz.prog 46 w ⟨b,o,none⟩ v=(blk w b).bind fun x=>stO w b o v x 1:=storeOf_n (by kernel_rfl) w b o v
theorem sz_74 (w:World) (b o:Nat) (v:Value):storeOf Tryz.prog 74 w ⟨b,o,none⟩ v=(blk w b).bind fun x=>stO w b o v x 1:=storeOf_n (by kernel_rfl) w b o v
theorem sz_75 (w:World) (b o:Nat) (v:Value):storeOf Tryz.prog 75 w ⟨b,o,none⟩ v=(blk w b).bind fun x=>stO w b o v x 1:=storeOf_n (by kernel_rfl) w b o v
theorem sz_84 (w:World) (b o:Nat) (v:Value):storeOf Tryz.prog 84 w ⟨b,o,none⟩ v=(blk w b).bind fun x=>stO w b o v x 1:=storeOf_n (by kernel_rfl) w b o v
theorem sz_89 (w:World) (b o:Nat) (v:Value):storeOf Tryz.prog 89 w ⟨b,o,none⟩ v=(blk w b).bind fun x=>stO w b o v x 1:=storeOf_n (by kernel_rfl) w b o v
theorem sz_9 (w:World) (b o:Nat) (v:Value):storeOf Tryz.prog 9 w ⟨b,o,none⟩ v=(blk w b).bind fun x=>stO w b o v x 1:=storeOf_n (by kernel_rfl) w b o v
theorem z_123 : zeroOf Tryz.prog 123=some #[.slice none 0 0,.bool false]:=nr (by kernel_rfl)
theorem z_31 : zeroOf Tryz.prog 31=some #[.slice none 0 0,.int .i64 0]:=nr (by kernel_rfl)
theorem z_4 : zeroOf Tryz.prog 4=some #[.bool false]:=nr (by kernel_rfl)
theorem z_80 : zeroOf Tryz.prog 80=some #[.int .i16 0,.int .i16 0,.slice none 0 0,.slice none 0 0,.map none]:=nr (by kernel_rfl)
attribute [go_sem] ca_10 ca_103 ca_12 ca_18 ca_19 ca_20 ca_21 ca_22 ca_23 ca_24 ca_43 ca_44 ca_45 ca_46 ca_47 ca_48 ca_49 ca_5 ca_50 ca_6 ca_64 ca_67 ca_68 ca_69 ca_7 ca_70 ca_71 ca_72 ca_73 ca_74 ca_75 ca_76 ca_78 ca_79 ca_8 ca_83 ca_84 ca_85 ca_86 ca_87 ca_9 es_74 es_75 es_84 fo_130_0 fo_130_1 fo_130_2 fo_130_3 fo_130_4 fo_130_5 fo_80_0 fo_80_1 fo_80_2 fo_80_3 fo_80_4 fo_86_0 fo_86_1 fo_86_2 fo_91_0 fo_91_1 fo_91_2 fo_91_3 if_55 kn_9 ld_21 ld_31 ld_46 ld_74 ld_75 ld_84 ld_89 ld_9 pl_123 pl_31 pl_51 pl_69 se_34 se_35 sl_74 sl_75 sl_84 sz_123 sz_21 sz_31 sz_34 sz_35 sz_46 sz_74 sz_75 sz_84 sz_89 sz_9 z_123 z_31 z_4 z_80
end Ms

namespace Ms
open Go
abbrev qZ5 : Array Value:=#[.int .i64 0,.slice none 0 0,.bool false,.slice none 0 0,.slice none 0 0]
end Ms

namespace Ms
attribute [go_sem] exitRQ_ret exitRQ_exit Int.toNat_natCast Nat.mul_one
end Ms

namespace Ms
open Go.World renaming size_alloc → qI
open Ms renaming size_wr → qJ,size_drew → qK,not_noB → qL
open W renaming seqR → qA,seq → qB,regR → qC,condK → qD,block → qE,skip → qF,ret → qG,exit → qH
open Nat renaming reduceEqDiff → n0,reduceAdd → n1,reduceMul → n2,reduceSub → n3,reduceLT → n4,reduceLeDiff → n5
open Int renaming reduceEq → i0,reduceLT → i1,reduceLE → i2,reduceNeg → i3,reduceAdd → i4,reduceSub → i5,reduceMul → i6,reduceToNat → i7
set_option maxRecDepth 8000
open Go Go.Proofs Go.Shelf
attribute [local congr] W_congr WPsq_congr WPp_congr optK_congr addrK_congr intK_congr boolK_congr sliceK_congr tupleK_congr funcK_congr Fn_congr rawK_congr takeK_congr stepK_congr convK_congr aggK_congr

def fX2_0 : Fld:=.mk 3 0 (-1) (-1) (-1) 0 0 []
def fX2_1 : Fld:=.mk 2 0 (-1) (-1) (-1) 0 0 []
def fX2_2 : Fld:=.mk 3 0 (-1) (-1) (-1) 0 0 []
def fX2_3 : Fld:=.mk 3 0 (-1) (-1) (-1) 0 0 []
def fX2_4 : Fld:=.mk 0 0 (-1) (-1) (-1) 0 0 []
def fs_X2 : List Fld:=[fX2_0,fX2_1,fX2_2,fX2_3,fX2_4]
def fX6_0 : Fld:=.mk 8 0 (-1) (-1) (-1) 0 0 []
def fX6_1 : Fld:=.mk 11 0 (-1) (-1) (-1) 0 10 fs_X2
def fs_X6 : List Fld:=[fX6_0,fX6_1]
def fX4_0 : Fld:=.mk 3 1 (-1) (-1) (-1) 0 0 []
def fX4_1 : Fld:=.mk 8 1 (-1) (-1) (-1) 0 0 []
def fX4_2 : Fld:=.mk 5 1 (-1) (-1) (-1) 0 0 []
def fs_X4 : List Fld:=[fX4_0,fX4_1,fX4_2]
def fQ_0 : Fld:=.mk 2 0 (-1) (-1) (-1) 0 0 []
def fQ_1 : Fld:=.mk 11 0 (-1) (-1) (-1) 0 10 fs_X6
def fQ_2 : Fld:=.mk 11 0 (-1) (-1) 0 0 10 fs_X4
def fs_Q : List Fld:=[fQ_0,fQ_1,fQ_2]

set_option maxHeartbeats 4000000 in
theorem cX2_fn (w:World):Fn Tryz.prog 44 #[] w fun r w'=>FldsV (fun b=>w.heap.size≤b) w' r fs_X2∧Ext w w':=by
 refine fn_of_W Tryz.func44 rfl Tryz.results44 Tryz.ntmps44 rfl ?_
 repeat ((first|refine qA rfl ?_|apply qB|refine qC rfl ?_|apply qD|apply qE|apply qF|apply qG|apply qH);try simp (maxSteps:=1000000)(disch:=(first|omega|(simp only [qI,qJ,qK]<;>omega)|exact qL _)) only [go_sem,↓reduceIte,n0,reduceCtorEq,n1,n2,n3,n4,n5,i0,i1,i2,i3,i4,i5,i6,i7,fill_fld,fillN_nil,fillN_int,fillN_slice])
 repeat ((first|refine qA rfl ?_|apply qB|refine qC rfl ?_|apply qD|apply qE|apply qF|apply qG|apply qH);try simp (maxSteps:=1000000)(disch:=(first|omega|(simp only [qI,qJ,qK]<;>omega)|exact qL _)) only [go_sem,↓reduceIte,n0,reduceCtorEq,n1,n2,n3,n4,n5,i0,i1,i2,i3,i4,i5,i6,i7,fill_fld,fillN_nil,fillN_int,fillN_slice])
 exact ⟨FldsV.litO (fs:=fs_X2) (css:=[[.int .i64 3,.int .i64 0,.int .i64 (-1),.int .i64 (-1),.int .i64 (-1),.int .i64 0,.int .i64 0,.slice none 0 0],[.int .i64 2,.int .i64 0,.int .i64 (-1),.int .i64 (-1),.int .i64 (-1),.int .i64 0,.int .i64 0,.slice none 0 0],[.int .i64 3,.int .i64 0,.int .i64 (-1),.int .i64 (-1),.int .i64 (-1),.int .i64 0,.int .i64 0,.slice none 0 0],[.int .i64 3,.int .i64 0,.int .i64 (-1),.int .i64 (-1),.int .i64 (-1),.int .i64 0,.int .i64 0,.slice none 0 0],[.int .i64 0,.int .i64 0,.int .i64 (-1),.int .i64 (-1),.int .i64 (-1),.int .i64 0,.int .i64 0,.slice none 0 0]]) (T:=51) (fr:=(0,0)) (by first|omega|(simp only [World.size_alloc];omega)) (by first|(simp (maxSteps:=1000000)(disch:=(first|omega|(simp only [qI,qJ,qK]<;>omega)|exact qL _)) only [go_sem,↓reduceIte,n0,reduceCtorEq,n1,n2,n3,n4,n5,i0,i1,i2,i3,i4,i5,i6,i7];rfl)|rfl) (by simp) (All2.cons (FldC.intro (kind:=3) (FldsV.none _ _)) (All2.cons (FldC.intro (kind:=2) (FldsV.none _ _)) (All2.cons (FldC.intro (kind:=3) (FldsV.none _ _)) (All2.cons (FldC.intro (kind:=3) (FldsV.none _ _)) (All2.cons (FldC.intro (kind:=0) (FldsV.none _ _)) All2.nil))))),(Upd.alloc (Upd.refl _ w) _)⟩

set_option maxHeartbeats 4000000 in
theorem cX6_fn (w:World):Fn Tryz.prog 20 #[] w fun r w'=>FldsV (fun b=>w.heap.size≤b) w' r fs_X6∧Ext w w':=by
 refine fn_of_W Tryz.func20 rfl Tryz.results20 Tryz.ntmps20 rfl ?_
 repeat ((first|refine qA rfl ?_|apply qB|refine qC rfl ?_|apply qD|apply qE|apply qF|apply qG|apply qH);try simp (maxSteps:=1000000)(disch:=(first|omega|(simp only [qI,qJ,qK]<;>omega)|exact qL _)) only [go_sem,↓reduceIte,n0,reduceCtorEq,n1,n2,n3,n4,n5,i0,i1,i2,i3,i4,i5,i6,i7,fill_fld,fillN_nil,fillN_int,fillN_slice])
 refine (cX2_fn _).mono ?_
 rintro r1 w1 ⟨hF1,hE1⟩
 obtain ⟨b1,k1,rfl,_⟩:=SlR.shape hF1
 have hz1:=hE1.size
 have hD1:Ext w w1:=Upd.trans (Upd.refl _ w) hE1
 simp (maxSteps:=1000000)(disch:=(first|omega|(simp only [qI,qJ,qK]<;>omega)|exact qL _)) only [go_sem,↓reduceIte,n0,reduceCtorEq,n1,n2,n3,n4,n5,i0,i1,i2,i3,i4,i5,i6,i7,fill_fld,fillN_nil,fillN_int,fillN_slice]
 repeat ((first|refine qA rfl ?_|apply qB|refine qC rfl ?_|apply qD|apply qE|apply qF|apply qG|apply qH);try simp (maxSteps:=1000000)(disch:=(first|omega|(simp only [qI,qJ,qK]<;>omega)|exact qL _)) only [go_sem,↓reduceIte,n0,reduceCtorEq,n1,n2,n3,n4,n5,i0,i1,i2,i3,i4,i5,i6,i7,fill_fld,fillN_nil,fillN_int,fillN_slice])
 exact ⟨FldsV.litO (fs:=fs_X6) (css:=[[.int .i64 8,.int .i64 0,.int .i64 (-1),.int .i64 (-1),.int .i64 (-1),.int .i64 0,.int .i64 0,.slice none 0 0],[.int .i64 11,.int .i64 0,.int .i64 (-1),.int .i64 (-1),.int .i64 (-1),.int .i64 0,.int .i64 10,.slice b1 fs_X2.length k1]]) (T:=51) (fr:=(0,0)) (by first|omega|(simp only [World.size_alloc];omega)) (by first|(simp (maxSteps:=1000000)(disch:=(first|omega|(simp only [qI,qJ,qK]<;>omega)|exact qL _)) only [go_sem,↓reduceIte,n0,reduceCtorEq,n1,n2,n3,n4,n5,i0,i1,i2,i3,i4,i5,i6,i7];rfl)|rfl) (by simp) (All2.cons (FldC.intro (kind:=8) (FldsV.none _ _)) (All2.cons (FldC.intro (kind:=11) ((hF1.keep (Upd.keeps (S:=fun _=>False) (Upd.alloc (Upd.refl _ _) _) fun _ _ _ h=>h)).weaken fun b _ hb=>by have hq:_≤b:=hb;omega)) All2.nil)),(Upd.alloc hD1 _)⟩

set_option maxHeartbeats 4000000 in
theorem cX4_fn (w:World):Fn Tryz.prog 21 #[] w fun r w'=>FldsV (fun b=>w.heap.size≤b) w' r fs_X4∧Ext w w':=by
 refine fn_of_W Tryz.func21 rfl Tryz.results21 Tryz.ntmps21 rfl ?_
 repeat ((first|refine qA rfl ?_|apply qB|refine qC rfl ?_|apply qD|apply qE|apply qF|apply qG|apply qH);try simp (maxSteps:=1000000)(disch:=(first|omega|(simp only [qI,qJ,qK]<;>omega)|exact qL _)) only [go_sem,↓reduceIte,n0,reduceCtorEq,n1,n2,n3,n4,n5,i0,i1,i2,i3,i4,i5,i6,i7,fill_fld,fillN_nil,fillN_int,fillN_slice])
 repeat ((first|refine qA rfl ?_|apply qB|refine qC rfl ?_|apply qD|apply qE|apply qF|apply qG|apply qH);try simp (maxSteps:=1000000)(disch:=(first|omega|(simp only [qI,qJ,qK]<;>omega)|exact qL _)) only [go_sem,↓reduceIte,n0,reduceCtorEq,n1,n2,n3,n4,n5,i0,i1,i2,i3,i4,i5,i6,i7,fill_fld,fillN_nil,fillN_int,fillN_slice])
 exact ⟨FldsV.litO (fs:=fs_X4) (css:=[[.int .i64 3,.int .i64 1,.int .i64 (-1),.int .i64 (-1),.int .i64 (-1),.int .i64 0,.int .i64 0,.slice none 0 0],[.int .i64 8,.int .i64 1,.int .i64 (-1),.int .i64 (-1),.int .i64 (-1),.int .i64 0,.int .i64 0,.slice none 0 0],[.int .i64 5,.int .i64 1,.int .i64 (-1),.int .i64 (-1),.int .i64 (-1),.int .i64 0,.int .i64 0,.slice none 0 0]]) (T:=51) (fr:=(0,0)) (by first|omega|(simp only [World.size_alloc];omega)) (by first|(simp (maxSteps:=1000000)(disch:=(first|omega|(simp only [qI,qJ,qK]<;>omega)|exact qL _)) only [go_sem,↓reduceIte,n0,reduceCtorEq,n1,n2,n3,n4,n5,i0,i1,i2,i3,i4,i5,i6,i7];rfl)|rfl) (by simp) (All2.cons (FldC.intro (kind:=3) (FldsV.none _ _)) (All2.cons (FldC.intro (kind:=8) (FldsV.none _ _)) (All2.cons (FldC.intro (kind:=5) (FldsV.none _ _)) All2.nil))),(Upd.alloc (Upd.refl _ w) _)⟩

set_option maxHeartbeats 4000000 in
theorem cQ_fn (w:World):Fn Tryz.prog 7 #[] w fun r w'=>(∃ vs,r = .agg #[vs,.int .i64 0]∧FldsV (fun b=>w.heap.size≤b) w' vs fs_Q)∧Ext w w':=by
 refine fn_of_W Tryz.func7 rfl Tryz.results7 Tryz.ntmps7 rfl ?_
 repeat ((first|refine qA rfl ?_|apply qB|refine qC rfl ?_|apply qD|apply qE|apply qF|apply qG|apply qH);try simp (maxSteps:=1000000)(disch:=(first|omega|(simp only [qI,qJ,qK]<;>omega)|exact qL _)) only [go_sem,↓reduceIte,n0,reduceCtorEq,n1,n2,n3,n4,n5,i0,i1,i2,i3,i4,i5,i6,i7,fill_fld,fillN_nil,fillN_int,fillN_slice])
 have hz0:(w.alloc (.cells #[.slice none 0 0,.int .i64 0] 31)).heap.size=w.heap.size+1:=World.size_alloc _ _
 refine (cX6_fn _).mono ?_
 rintro r1 w1 ⟨hF1,hE1⟩
 obtain ⟨b1,k1,rfl,_⟩:=SlR.shape hF1
 have hz1:=hE1.size
 have hD1:Ext w w1:=Upd.trans (Upd.alloc (Upd.refl _ _) _) hE1
 have hb1:blk w1 w.heap.size=some (#[.slice none 0 0,.int .i64 0],31,(0,0)):=hE1.blk_some (blk_alloc_new rfl) id
 simp (maxSteps:=1000000)(disch:=(first|omega|(simp only [qI,qJ,qK]<;>omega)|exact qL _)) only [go_sem,↓reduceIte,n0,reduceCtorEq,n1,n2,n3,n4,n5,i0,i1,i2,i3,i4,i5,i6,i7,fill_fld,fillN_nil,fillN_int,fillN_slice,hb1]
 refine (cX4_fn _).mono ?_
 rintro r2 w2 ⟨hF2,hE2⟩
 obtain ⟨b2,k2,rfl,_⟩:=SlR.shape hF2
 have hz2:=hE2.size
 have hD2:Ext w w2:=Upd.trans hD1 hE2
 have hb2:blk w2 w.heap.size=some (#[.slice none 0 0,.int .i64 0],31,(0,0)):=hE2.blk_some hb1 id
 simp (maxSteps:=1000000)(disch:=(first|omega|(simp only [qI,qJ,qK]<;>omega)|exact qL _)) only [go_sem,↓reduceIte,n0,reduceCtorEq,n1,n2,n3,n4,n5,i0,i1,i2,i3,i4,i5,i6,i7,fill_fld,fillN_nil,fillN_int,fillN_slice,hb2]
 have hvl:=blk_lt hb2
 repeat ((first|refine qA rfl ?_|apply qB|refine qC rfl ?_|apply qD|apply qE|apply qF|apply qG|apply qH);try simp (maxSteps:=1000000)(disch:=(first|omega|(simp only [qI,qJ,qK]<;>omega)|exact qL _)) only [go_sem,↓reduceIte,n0,reduceCtorEq,n1,n2,n3,n4,n5,i0,i1,i2,i3,i4,i5,i6,i7,fill_fld,fillN_nil,fillN_int,fillN_slice,hb2])
 exact ⟨⟨_,rfl,FldsV.litO (fs:=fs_Q) (css:=[[.int .i64 2,.int .i64 0,.int .i64 (-1),.int .i64 (-1),.int .i64 (-1),.int .i64 0,.int .i64 0,.slice none 0 0],[.int .i64 11,.int .i64 0,.int .i64 (-1),.int .i64 (-1),.int .i64 (-1),.int .i64 0,.int .i64 10,.slice b1 fs_X6.length k1],[.int .i64 11,.int .i64 0,.int .i64 (-1),.int .i64 (-1),.int .i64 0,.int .i64 0,.int .i64 10,.slice b2 fs_X4.length k2]]) (T:=51) (fr:=(0,0)) (by first|omega|(simp only [World.size_alloc];omega)) (by first|(simp (maxSteps:=1000000)(disch:=(first|omega|(simp only [qI,qJ,qK]<;>omega)|exact qL _)) only [go_sem,↓reduceIte,n0,reduceCtorEq,n1,n2,n3,n4,n5,i0,i1,i2,i3,i4,i5,i6,i7];rfl)|rfl) (by simp) (All2.cons (FldC.intro (kind:=2) (FldsV.none _ _)) (All2.cons (FldC.intro (kind:=11) (hF1.stay (B:=w.heap.size) (Upd.trans (hE2.mono fun _ h=>h.elim) (Upd.wr (Upd.alloc (Upd.refl _ _) _) _ _ (.inr rfl))) (by omega) (fun b hb=>by omega))) (All2.cons (FldC.intro (kind:=11) (hF2.stay (B:=w.heap.size) (Upd.wr (Upd.alloc (Upd.refl _ _) _) _ _ (.inr rfl)) (by omega) (fun b hb=>by omega))) All2.nil)))⟩,(Upd.wr (Upd.alloc hD2 _) _ _ (.inl (Nat.le_refl _)))⟩

theorem DefaultQ_fn (w:World) {vb:Nat} {c0 c1 c2 c3 c4:Value} (hb:blk w vb=some (#[c0,c1,c2,c3,c4],80,(0,0))) :
  Fn Tryz.prog 43 #[.pointer (some ⟨vb,0,none⟩)] w fun _ w'=>blk w' vb=some (#[c0,c1,c2,c3,c4],80,(0,0))∧Upd (fun b=>b=vb) w w':=by
 have hvl:=blk_lt hb
 refine fn_of_W Tryz.func43 rfl Tryz.results43 Tryz.ntmps43 rfl ?_
 repeat ((first|refine qA rfl ?_|apply qB|refine qC rfl ?_|apply qD|apply qE|apply qF|apply qG|apply qH);try simp (maxSteps:=1000000)(disch:=(first|omega|(simp only [qI,qJ,qK]<;>omega)|exact qL _)) only [go_sem,↓reduceIte,n0,reduceCtorEq,n1,n2,n3,n4,n5,i0,i1,i2,i3,i4,i5,i6,i7,hb])
 first|exact Upd.refl _ _|exact ⟨hb,Upd.refl _ _⟩

theorem NewPtrQ_fn (w:World):Fn Tryz.prog 18 #[] w fun r w'=>r = .pointer (some ⟨w.heap.size,0,none⟩)∧blk w' w.heap.size=some (#[.int .i16 0,.int .i16 0,.slice none 0 0,.slice none 0 0,.map none],80,(0,0))∧Ext w w':=by
 refine fn_of_W Tryz.func18 rfl Tryz.results18 Tryz.ntmps18 rfl ?_
 repeat ((first|refine qA rfl ?_|apply qB|refine qC rfl ?_|apply qD|apply qE|apply qF|apply qG|apply qH);try simp (maxSteps:=1000000)(disch:=(first|omega|(simp only [qI,qJ,qK]<;>omega)|exact qL _)) only [go_sem,↓reduceIte,n0,reduceCtorEq,n1,n2,n3,n4,n5,i0,i1,i2,i3,i4,i5,i6,i7])
 refine (DefaultQ_fn _ (blk_alloc_new rfl)).mono ?_
 rintro _ w1 ⟨hb1,hU1⟩
 have hz:=World.size_alloc w (.cells #[.int .i16 0,.int .i16 0,.slice none 0 0,.slice none 0 0,.map none] 80)
 repeat ((first|refine qA rfl ?_|apply qB|refine qC rfl ?_|apply qD|apply qE|apply qF|apply qG|apply qH);try simp (maxSteps:=1000000)(disch:=(first|omega|(simp only [qI,qJ,qK]<;>omega)|exact qL _)) only [go_sem,↓reduceIte,n0,reduceCtorEq,n1,n2,n3,n4,n5,i0,i1,i2,i3,i4,i5,i6,i7])
 exact ⟨hb1,(Upd.alloc (Upd.refl _ _) _:Ext w _).more hU1 fun b hb h=>by omega⟩

theorem SetVersionQ_fn (w:World) {vb:Nat} {c0 c1 c2 c3 c4:Value} (n:Int) (hb:blk w vb=some (#[c0,c1,c2,c3,c4],80,(0,0))) :
  Fn Tryz.prog 22 #[.pointer (some ⟨vb,0,none⟩),.int .i16 n] w fun _ w'=>blk w' vb=some (#[.int .i16 n,c1,c2,c3,c4],80,(0,0))∧Upd (fun b=>b=vb) w w':=by
 have hvl:=blk_lt hb
 refine fn_of_W Tryz.func22 rfl Tryz.results22 Tryz.ntmps22 rfl ?_
 repeat ((first|refine qA rfl ?_|apply qB|refine qC rfl ?_|apply qD|apply qE|apply qF|apply qG|apply qH);try simp (maxSteps:=1000000)(disch:=(first|omega|(simp only [qI,qJ,qK]<;>omega)|exact qL _)) only [go_sem,↓reduceIte,n0,reduceCtorEq,n1,n2,n3,n4,n5,i0,i1,i2,i3,i4,i5,i6,i7,hb])
 first|exact Upd.wr (Upd.refl _ _) _ _ (.inr rfl)|exact ⟨by simp (maxSteps:=1000000)(disch:=(first|omega|(simp only [qI,qJ,qK]<;>omega)|exact qL _)) only [go_sem,↓reduceIte,n0,reduceCtorEq,n1,n2,n3,n4,n5,i0,i1,i2,i3,i4,i5,i6,i7,hb],Upd.wr (Upd.refl _ _) _ _ (.inr rfl)⟩

theorem MaxQ_fn (w:World):Fn Tryz.prog 6 #[] w fun r w'=>r = .int .i64 2∧Ext w w':=by
 refine fn_of_W Tryz.func6 rfl Tryz.results6 Tryz.ntmps6 rfl ?_
 repeat ((first|refine qA rfl ?_|apply qB|refine qC rfl ?_|apply qD|apply qE|apply qF|apply qG|apply qH);try simp (maxSteps:=1000000)(disch:=(first|omega|(simp only [qI,qJ,qK]<;>omega)|exact qL _)) only [go_sem,↓reduceIte,n0,reduceCtorEq,n1,n2,n3,n4,n5,i0,i1,i2,i3,i4,i5,i6,i7])
 refine (NewPtrQ_fn w).mono ?_
 rintro _ w1 ⟨rfl,hb1,hE1⟩
 repeat ((first|refine qA rfl ?_|apply qB|refine qC rfl ?_|apply qD|apply qE|apply qF|apply qG|apply qH);try simp (maxSteps:=1000000)(disch:=(first|omega|(simp only [qI,qJ,qK]<;>omega)|exact qL _)) only [go_sem,↓reduceIte,n0,reduceCtorEq,n1,n2,n3,n4,n5,i0,i1,i2,i3,i4,i5,i6,i7])
 have hm:Fn Tryz.prog 19 #[.pointer (some ⟨w.heap.size,0,none⟩)] w1 fun r w'=>r = .int .i16 2∧w'=w1:=by
  refine fn_of_W Tryz.func19 rfl Tryz.results19 Tryz.ntmps19 rfl ?_
  repeat ((first|refine qA rfl ?_|apply qB|refine qC rfl ?_|apply qD|apply qE|apply qF|apply qG|apply qH);try simp (maxSteps:=1000000)(disch:=(first|omega|(simp only [qI,qJ,qK]<;>omega)|exact qL _)) only [go_sem,↓reduceIte,n0,reduceCtorEq,n1,n2,n3,n4,n5,i0,i1,i2,i3,i4,i5,i6,i7])
 refine hm.mono ?_
 rintro _ w2 ⟨rfl,rfl⟩
 have ew:IntKind.i64.wrap (2:Int)=2:=i64_wrap (by decide)
 repeat ((first|refine qA rfl ?_|apply qB|refine qC rfl ?_|apply qD|apply qE|apply qF|apply qG|apply qH);try simp (maxSteps:=1000000)(disch:=(first|omega|(simp only [qI,qJ,qK]<;>omega)|exact qL _)) only [go_sem,↓reduceIte,n0,reduceCtorEq,n1,n2,n3,n4,n5,i0,i1,i2,i3,i4,i5,i6,i7,ew])
 exact hE1

theorem utQ_74 : Tryz.prog.underlying 74=some (.slice 86):=by kernel_rfl
theorem utQ_21 : Tryz.prog.underlying 21=some (.int .i32):=by kernel_rfl
theorem inQ_86 : (Tryz.prog.info? 86).map (fun i=>(i.size,i.bytes,i.zero.map (·.cells)))=some (3,48,some #[.string ByteArray.empty,.slice none 0 0,.map none]):=by kernel_rfl
theorem utQ_84 : Tryz.prog.underlying 84=some (.slice 130):=by kernel_rfl
theorem inQ_130 : (Tryz.prog.info? 130).map (fun i=>(i.size,i.bytes,i.zero.map (·.cells)))=some (6,32,some #[.int .i32 0,.int .i16 0,.int .i32 0,.int .i32 0,.bool false,.map none]):=by kernel_rfl
theorem utQ_75 : Tryz.prog.underlying 75=some (.slice 91):=by kernel_rfl
theorem inQ_91 : (Tryz.prog.info? 91).map (fun i=>(i.size,i.bytes,i.zero.map (·.cells)))=some (4,40,some #[.int .i32 0,.string ByteArray.empty,.int .u16 0,.map none]):=by kernel_rfl

theorem DefaultEX6_fn (w:World) {R k:Nat} {A B:List Value} {c0 c1 c2:Value} {E:TypeId} (hb:blk w R=some ((A++([c0,c1,c2]++B)).toArray,E,(0,0))) (hA:A.length=k) :
  Fn Tryz.prog 71 #[.pointer (some ⟨R,k,none⟩)] w fun _ w'=>blk w' R=some ((A++([c0,c1,c2]++B)).toArray,E,(0,0))∧Upd (fun b=>b=R) w w':=by
 have hRl:=blk_lt hb
 obtain ⟨X,hX⟩:∃ X:Array Value,X=(A++(([c0,c1,c2]:List Value)++B)).toArray:=⟨_,rfl⟩
 have hXs:k+3≤X.size:=by rw [hX];simp only [List.size_toArray,List.length_append,List.length_cons,List.length_nil,hA];omega
 have hb':blk w R=some (X,E,(0,0)):=by rw [hX];exact hb
 refine fn_of_W Tryz.func71 rfl Tryz.results71 Tryz.ntmps71 rfl ?_
 repeat ((first|refine qA rfl ?_|apply qB|refine qC rfl ?_|apply qD|apply qE|apply qF|apply qG|apply qH);try simp (maxSteps:=1000000)(disch:=(first|omega|(simp only [qI,qJ,qK]<;>omega)|exact qL _)) only [go_sem,↓reduceIte,n0,reduceCtorEq,n1,n2,n3,n4,n5,i0,i1,i2,i3,i4,i5,i6,i7,hb',Array.size_setIfInBounds])
 first|exact ⟨hb,Upd.refl _ _⟩|exact Upd.refl _ _|(rw [hX];exact ⟨rfl,Upd.refl _ _⟩)

theorem DefaultEX2_fn (w:World) {R k:Nat} {A B:List Value} {c0 c1 c2 c3 c4 c5:Value} {E:TypeId} (hb:blk w R=some ((A++([c0,c1,c2,c3,c4,c5]++B)).toArray,E,(0,0))) (hA:A.length=k) :
  Fn Tryz.prog 76 #[.pointer (some ⟨R,k,none⟩)] w fun _ w'=>blk w' R=some ((A++([c0,c1,c2,c3,c4,c5]++B)).toArray,E,(0,0))∧Upd (fun b=>b=R) w w':=by
 have hRl:=blk_lt hb
 obtain ⟨X,hX⟩:∃ X:Array Value,X=(A++(([c0,c1,c2,c3,c4,c5]:List Value)++B)).toArray:=⟨_,rfl⟩
 have hXs:k+6≤X.size:=by rw [hX];simp only [List.size_toArray,List.length_append,List.length_cons,List.length_nil,hA];omega
 have hb':blk w R=some (X,E,(0,0)):=by rw [hX];exact hb
 refine fn_of_W Tryz.func76 rfl Tryz.results76 Tryz.ntmps76 rfl ?_
 repeat ((first|refine qA rfl ?_|apply qB|refine qC rfl ?_|apply qD|apply qE|apply qF|apply qG|apply qH);try simp (maxSteps:=1000000)(disch:=(first|omega|(simp only [qI,qJ,qK]<;>omega)|exact qL _)) only [go_sem,↓reduceIte,n0,reduceCtorEq,n1,n2,n3,n4,n5,i0,i1,i2,i3,i4,i5,i6,i7,hb',Array.size_setIfInBounds])
 first|exact ⟨hb,Upd.refl _ _⟩|exact Upd.refl _ _|(rw [hX];exact ⟨rfl,Upd.refl _ _⟩)

theorem DefaultEX4_fn (w:World) {R k:Nat} {A B:List Value} {c0 c1 c2 c3:Value} {E:TypeId} (hb:blk w R=some ((A++([c0,c1,c2,c3]++B)).toArray,E,(0,0))) (hA:A.length=k) :
  Fn Tryz.prog 83 #[.pointer (some ⟨R,k,none⟩)] w fun _ w'=>blk w' R=some ((A++([c0,c1,c2,c3]++B)).toArray,E,(0,0))∧Upd (fun b=>b=R) w w':=by
 have hRl:=blk_lt hb
 obtain ⟨X,hX⟩:∃ X:Array Value,X=(A++(([c0,c1,c2,c3]:List Value)++B)).toArray:=⟨_,rfl⟩
 have hXs:k+4≤X.size:=by rw [hX];simp only [List.size_toArray,List.length_append,List.length_cons,List.length_nil,hA];omega
 have hb':blk w R=some (X,E,(0,0)):=by rw [hX];exact hb
 refine fn_of_W Tryz.func83 rfl Tryz.results83 Tryz.ntmps83 rfl ?_
 repeat ((first|refine qA rfl ?_|apply qB|refine qC rfl ?_|apply qD|apply qE|apply qF|apply qG|apply qH);try simp (maxSteps:=1000000)(disch:=(first|omega|(simp only [qI,qJ,qK]<;>omega)|exact qL _)) only [go_sem,↓reduceIte,n0,reduceCtorEq,n1,n2,n3,n4,n5,i0,i1,i2,i3,i4,i5,i6,i7,hb',Array.size_setIfInBounds])
 first|exact ⟨hb,Upd.refl _ _⟩|exact Upd.refl _ _|(rw [hX];exact ⟨rfl,Upd.refl _ _⟩)
end Ms

