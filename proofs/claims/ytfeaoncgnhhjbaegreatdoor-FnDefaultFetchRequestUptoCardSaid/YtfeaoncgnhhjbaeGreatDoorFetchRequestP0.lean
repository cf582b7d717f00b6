/- A part of the proof: see the last text. -/
import Derived.Test.YtfeaoncgnhhjbaeGreatDoorC06
import Derived.Test.YtfeaoncgnhhjbaeGreatDoorC08
import Derived.Test.YtfeaoncgnhhjbaeGreatDoorC10
import Derived.Test.YtfeaoncgnhhjbaeGreatDoorC11
set_option linter.unusedSimpArgs false
set_option linter.unusedVariables false
namespace Ms
set_option maxRecDepth 4000
open Go Go.Proofs
theorem ap_34_34 : AppT Tryz.prog 34 34 37 5 88:=AppT.of (by kernel_rfl)
theorem ap_35_35 : AppT Tryz.prog 35 35 62 2 32:=AppT.of (by kernel_rfl)
theorem ca_10 : callable Tryz.prog 10=true:=nr (by kernel_rfl)
theorem ca_13 : callable Tryz.prog 13=true:=nr (by kernel_rfl)
theorem ca_14 : callable Tryz.prog 14=true:=nr (by kernel_rfl)
theorem ca_15 : callable Tryz.prog 15=true:=nr (by kernel_rfl)
theorem ca_16 : callable Tryz.prog 16=true:=nr (by kernel_rfl)
theorem ca_17 : callable Tryz.prog 17=true:=nr (by kernel_rfl)
theorem ca_18 : callable Tryz.prog 18=true:=nr (by kernel_rfl)
theorem ca_19 : callable Tryz.prog 19=true:=nr (by kernel_rfl)
theorem ca_20 : callable Tryz.prog 20=true:=nr (by kernel_rfl)
theorem ca_21 : callable Tryz.prog 21=true:=nr (by kernel_rfl)
theorem ca_26 : callable Tryz.prog 26=true:=nr (by kernel_rfl)
theorem ca_27 : callable Tryz.prog 27=true:=nr (by kernel_rfl)
theorem ca_28 : callable Tryz.prog 28=true:=nr (by kernel_rfl)
theorem ca_29 : callable Tryz.prog 29=true:=nr (by kernel_rfl)
theorem ca_30 : callable Tryz.prog 30=true:=nr (by kernel_rfl)
theorem ca_31 : callable Tryz.prog 31=true:=nr (by kernel_rfl)
theorem ca_32 : callable Tryz.prog 32=true:=nr (by kernel_rfl)
theorem ca_33 : callable Tryz.prog 33=true:=nr (by kernel_rfl)
theorem ca_34 : callable Tryz.prog 34=true:=nr (by kernel_rfl)
theorem ca_4 : callable Tryz.prog 4=true:=nr (by kernel_rfl)
theorem ca_43 : callable Tryz.prog 43=true:=nr (by kernel_rfl)
theorem ca_44 : callable Tryz.prog 44=true:=nr (by kernel_rfl)
theorem ca_45 : callable Tryz.prog 45=true:=nr (by kernel_rfl)
theorem ca_46 : callable Tryz.prog 46=true:=nr (by kernel_rfl)
theorem ca_47 : callable Tryz.prog 47=true:=nr (by kernel_rfl)
theorem ca_48 : callable Tryz.prog 48=true:=nr (by kernel_rfl)
theorem ca_49 : callable Tryz.prog 49=true:=nr (by kernel_rfl)
theorem ca_5 : callable Tryz.prog 5=true:=nr (by kernel_rfl)
theorem ca_50 : callable Tryz.prog 50=true:=nr (by kernel_rfl)
theorem ca_51 : callable Tryz.prog 51=true:=nr (by kernel_rfl)
theorem ca_52 : callable Tryz.prog 52=true:=nr (by kernel_rfl)
theorem ca_53 : callable Tryz.prog 53=true:=nr (by kernel_rfl)
theorem ca_54 : callable Tryz.prog 54=true:=nr (by kernel_rfl)
theorem ca_55 : callable Tryz.prog 55=true:=nr (by kernel_rfl)
theorem ca_59 : callable Tryz.prog 59=true:=nr (by kernel_rfl)
theorem ca_6 : callable Tryz.prog 6=true:=nr (by kernel_rfl)
theorem ca_60 : callable Tryz.prog 60=true:=nr (by kernel_rfl)
theorem ca_61 : callable Tryz.prog 61=true:=nr (by kernel_rfl)
theorem ca_62 : callable Tryz.prog 62=true:=nr (by kernel_rfl)
theorem ca_63 : callable Tryz.prog 63=true:=nr (by kernel_rfl)
theorem ca_64 : callable Tryz.prog 64=true:=nr (by kernel_rfl)
theorem ca_65 : callable Tryz.prog 65=true:=nr (by kernel_rfl)
theorem ca_66 : callable Tryz.prog 66=true:=nr (by kernel_rfl)
theorem ca_67 : callable Tryz.prog 67=true:=nr (by kernel_rfl)
theorem ca_68 : callable Tryz.prog 68=true:=nr (by kernel_rfl)
theorem ca_69 : callable Tryz.prog 69=true:=nr (by kernel_rfl)
theorem ca_7 : callable Tryz.prog 7=true:=nr (by kernel_rfl)
theorem ca_8 : callable Tryz.prog 8=true:=nr (by kernel_rfl)
theorem ca_84 : callable Tryz.prog 84=true:=nr (by kernel_rfl)
theorem ca_9 : callable Tryz.prog 9=true:=nr (by kernel_rfl)
theorem es_72 : elemSize Tryz.prog 72=some 19:=nr (by kernel_rfl)
theorem es_73 : elemSize Tryz.prog 73=some 19:=nr (by kernel_rfl)
theorem es_83 : elemSize Tryz.prog 83=some 24:=nr (by kernel_rfl)
theorem es_88 : elemSize Tryz.prog 88=some 1:=nr (by kernel_rfl)
theorem fo_113_0 : fieldOff Tryz.prog 113 0=some 0:=nr (by kernel_rfl)
theorem fo_113_1 : fieldOff Tryz.prog 113 1=some 1:=nr (by kernel_rfl)
theorem fo_113_2 : fieldOff Tryz.prog 113 2=some 2:=nr (by kernel_rfl)
theorem fo_113_3 : fieldOff Tryz.prog 113 3=some 3:=nr (by kernel_rfl)
theorem fo_113_4 : fieldOff Tryz.prog 113 4=some 4:=nr (by kernel_rfl)
theorem fo_113_5 : fieldOff Tryz.prog 113 5=some 5:=nr (by kernel_rfl)
theorem fo_113_6 : fieldOff Tryz.prog 113 6=some 6:=nr (by kernel_rfl)
theorem fo_113_7 : fieldOff Tryz.prog 113 7=some 22:=nr (by kernel_rfl)
theorem fo_113_8 : fieldOff Tryz.prog 113 8=some 23:=nr (by kernel_rfl)
theorem fo_70_0 : fieldOff Tryz.prog 70 0=some 0:=nr (by kernel_rfl)
theorem fo_70_1 : fieldOff Tryz.prog 70 1=some 1:=nr (by kernel_rfl)
theorem fo_70_2 : fieldOff Tryz.prog 70 2=some 2:=nr (by kernel_rfl)
theorem fo_75_0 : fieldOff Tryz.prog 75 0=some 0:=nr (by kernel_rfl)
theorem fo_75_1 : fieldOff Tryz.prog 75 1=some 1:=nr (by kernel_rfl)
theorem fo_75_10 : fieldOff Tryz.prog 75 10=some 12:=nr (by kernel_rfl)
theorem fo_75_11 : fieldOff Tryz.prog 75 11=some 13:=nr (by kernel_rfl)
theorem fo_75_12 : fieldOff Tryz.prog 75 12=some 14:=nr (by kernel_rfl)
theorem fo_75_13 : fieldOff Tryz.prog 75 13=some 15:=nr (by kernel_rfl)
theorem fo_75_2 : fieldOff Tryz.prog 75 2=some 2:=nr (by kernel_rfl)
theorem fo_75_3 : fieldOff Tryz.prog 75 3=some 3:=nr (by kernel_rfl)
theorem fo_75_4 : fieldOff Tryz.prog 75 4=some 6:=nr (by kernel_rfl)
theorem fo_75_5 : fieldOff Tryz.prog 75 5=some 7:=nr (by kernel_rfl)
theorem fo_75_6 : fieldOff Tryz.prog 75 6=some 8:=nr (by kernel_rfl)
theorem fo_75_7 : fieldOff Tryz.prog 75 7=some 9:=nr (by kernel_rfl)
theorem fo_75_8 : fieldOff Tryz.prog 75 8=some 10:=nr (by kernel_rfl)
theorem fo_75_9 : fieldOff Tryz.prog 75 9=some 11:=nr (by kernel_rfl)
theorem fo_85_0 : fieldOff Tryz.prog 85 0=some 0:=nr (by kernel_rfl)
theorem fo_85_1 : fieldOff Tryz.prog 85 1=some 1:=nr (by kernel_rfl)
theorem fo_85_2 : fieldOff Tryz.prog 85 2=some 17:=nr (by kernel_rfl)
theorem fo_85_3 : fieldOff Tryz.prog 85 3=some 18:=nr (by kernel_rfl)
theorem fo_90_0 : fieldOff Tryz.prog 90 0=some 0:=nr (by kernel_rfl)
theorem fo_90_1 : fieldOff Tryz.prog 90 1=some 1:=nr (by kernel_rfl)
theorem fo_90_2 : fieldOff Tryz.prog 90 2=some 17:=nr (by kernel_rfl)
theorem fo_90_3 : fieldOff Tryz.prog 90 3=some 18:=nr (by kernel_rfl)
theorem if_54 : isIfaceT Tryz.prog 54=true:=nr (by kernel_rfl)
theorem ld_21 (w:World) (b o:Nat):loadOf Tryz.prog 21 w ⟨b,o,none⟩=(blk w b).bind fun x=>x.1[o]?:=loadOf_one (by kernel_rfl) w b o
theorem ld_31 (w:World) (b o:Nat):loadOf Tryz.prog 31 w ⟨b,o,none⟩=(blk w b).bind fun x=>cellsAt x.1 o 2:=loadOf_agg (by kernel_rfl) w b o
theorem ld_45 (w:World) (b o:Nat):loadOf Tryz.prog 45 w ⟨b,o,none⟩=(blk w b).bind fun x=>x.1[o]?:=loadOf_one (by kernel_rfl) w b o
theorem ld_65 (w:World) (b o:Nat):loadOf Tryz.prog 65 w ⟨b,o,none⟩=(blk w b).bind fun x=>x.1[o]?:=loadOf_one (by kernel_rfl) w b o
theorem ld_71 (w:World) (b o:Nat):loadOf Tryz.prog 71 w ⟨b,o,none⟩=(blk w b).bind fun x=>x.1[o]?:=loadOf_one (by kernel_rfl) w b o
theorem ld_72 (w:World) (b o:Nat):loadOf Tryz.prog 72 w ⟨b,o,none⟩=(blk w b).bind fun x=>x.1[o]?:=loadOf_one (by kernel_rfl) w b o
theorem ld_73 (w:World) (b o:Nat):loadOf Tryz.prog 73 w ⟨b,o,none⟩=(blk w b).bind fun x=>x.1[o]?:=loadOf_one (by kernel_rfl) w b o
theorem ld_83 (w:World) (b o:Nat):loadOf Tryz.prog 83 w ⟨b,o,none⟩=(blk w b).bind fun x=>x.1[o]?:=loadOf_one (by kernel_rfl) w b o
theorem ld_88 (w:World) (b o:Nat):loadOf Tryz.prog 88 w ⟨b,o,none⟩=(blk w b).bind fun x=>x.1[o]?:=loadOf_one (by kernel_rfl) w b o
theorem pl_104 : placesOf Tryz.prog 104=some [(0,1),(1,1)]:=nr (by kernel_rfl)
theorem pl_31 : placesOf Tryz.prog 31=some [(0,1),(1,1)]:=nr (by kernel_rfl)
theorem pl_50 : placesOf Tryz.prog 50=some [(0,1),(1,1),(2,1),(3,1),(4,1),(5,1),(6,1),(7,1)]:=nr (by kernel_rfl)
theorem pl_62 : placesOf Tryz.prog 62=some [(0,1),(1,1)]:=nr (by kernel_rfl)
theorem se_29 : slElem Tryz.prog 29=some (50,8):=nr (by kernel_rfl)
theorem se_34 : slElem Tryz.prog 34=some (37,5):=nr (by kernel_rfl)
theorem se_35 : slElem Tryz.prog 35=some (62,2):=nr (by kernel_rfl)
theorem sl_72 : isSliceT Tryz.prog 72=true:=nr (by kernel_rfl)
theorem sl_73 : isSliceT Tryz.prog 73=true:=nr (by kernel_rfl)
theorem sl_83 : isSliceT Tryz.prog 83=true:=nr (by kernel_rfl)
theorem sl_88 : isSliceT Tryz.prog 88=true:=nr (by kernel_rfl)
theorem sz_104 (w:World) (b o:Nat) (v:Value):storeOf Tryz.prog 104 w ⟨b,o,none⟩ v=(blk w b).bind fun x=>stO w b o v x 2:=storeOf_n (by kernel_rfl) w b o v
theorem sz_2 (w:World) (b o:Nat) (v:Value):storeOf Tryz.prog 2 w ⟨b,o,none⟩ v=(blk w b).bind fun x=>stO w b o v x 1:=storeOf_n (by kernel_rfl) w b o v
theorem sz_21 (w:World) (b o:Nat) (v:Value):storeOf Tryz.prog 21 w ⟨b,o,none⟩ v=(blk w b).bind fun x=>stO w b o v x 1:=storeOf_n (by kernel_rfl) w b o v
theorem sz_31 (w:World) (b o:Nat) (v:Value):storeOf Tryz.prog 31 w ⟨b,o,none⟩ v=(blk w b).bind fun x=>stO w b o v x 2:=storeOf_n (by kernel_rfl) w b o v
theorem sz_34 (w:World) (b o:Nat) (v:Value):storeOf Tryz.prog 34 w ⟨b,o,none⟩ v=(blk w b).bind fun x=>stO w b o v x 1:=storeOf_n (by kernel_rfl) w b o v
theorem sz_35 (w:World) (b o:Nat) (v:Value):storeOf Tryz.prog 35 w ⟨b,o,none⟩ v=(blk w b).bind fun x=>stO w b o v x 1:=storeOf_n (by kernel_rfl) w b o v
theorem sz_45 (w:World) (b o:Nat) (v:Value):storeOf Tryz.prog 45 w ⟨b,o,none⟩ v=(blk w b).bind fun x=>stO w b o v x 1:=storeOf_n (by kernel_rfl) w b o v
theorem sz_65 (w:World) (b o:Nat) (v:Value):storeOf Tryz.prog 65 w ⟨b,o,none⟩ v=(blk w b).bind fun x=>stO w b o v x 1:=storeOf_n (by kernel_rfl) w b o v
theorem sz_71 (w:World) (b o:Nat) (v:Value):storeOf Tryz.prog 71 w ⟨b,o,none⟩ v=(blk w b).bind fun x=>stO w b o v x 1:=storeOf_n (by kernel_rfl) w b o v
theorem sz_72 (w:World) (b o:Nat) (v:Value):storeOf Tryz.prog 72 w ⟨b,o,none⟩ v=(blk w b).bind fun x=>stO w b o v x 1:=storeOf_n (by kernel_rfl) w b o v
theorem sz_73 (w:World) (b o:Nat) (v:Value):storeOf Tryz.prog 73 w ⟨b,o,none⟩ v=(blk w b).bind fun x=>stO w b o v x 1:=storeOf_n (by kernel_rfl) w b o v
theorem sz_83 (w:World) (b o:Nat) (v:Value):storeOf Tryz.prog 83 w ⟨b,o,none⟩ v=(blk w b).bind fun x=>stO w b o v x 1:=storeOf_n (by kernel_rfl) w b o v
theorem sz_88 (w:World) (b o:Nat) (v:Value):storeOf Tryz.prog 88 w ⟨b,o,none⟩ v=(blk w b).bind fun x=>stO w b o v x 1:=storeOf_n (by kernel_rfl) w b o v
theorem z_104 : zeroOf Tryz.prog 104=some #[.slice none 0 0,.bool false]:=nr (by kernel_rfl)
theorem z_31 : zeroOf Tryz.prog 31=some #[.slice none 0 0,.int .i64 0]:=nr (by kernel_rfl)
theorem z_4 : zeroOf Tryz.prog 4=some #[.bool false]:=nr (by kernel_rfl)
theorem z_75 : zeroOf Tryz.prog 75=some #[.int .i16 0,.pointer none,.int .i32 0,.int .i32 0,.int .i64 0,.map none,.int .i32 0,.int .i32 0,.int .i32 0,.int .i8 0,.int .i32 0,.int .i32 0,.slice none 0 0,.slice none 0 0,.string ByteArray.empty,.map none]:=nr (by kernel_rfl)
attribute [go_sem] ca_10 ca_13 ca_14 ca_15 ca_16 ca_17 ca_18 ca_19 ca_20 ca_21 ca_26 ca_27 ca_28 ca_29 ca_30 ca_31 ca_32 ca_33 ca_34 ca_4 ca_43 ca_44 ca_45 ca_46 ca_47 ca_48 ca_49 ca_5 ca_50 ca_51 ca_52 ca_53 ca_54 ca_55 ca_59 ca_6 ca_60 ca_61 ca_62 ca_63 ca_64 ca_65 ca_66 ca_67 ca_68 ca_69 ca_7 ca_8 ca_84 ca_9 es_72 es_73 es_83 es_88 fo_113_0 fo_113_1 fo_113_2 fo_113_3 fo_113_4 fo_113_5 fo_113_6 fo_113_7 fo_113_8 fo_70_0 fo_70_1 fo_70_2 fo_75_0 fo_75_1 fo_75_10 fo_75_11 fo_75_12 fo_75_13 fo_75_2 fo_75_3 fo_75_4 fo_75_5 fo_75_6 fo_75_7 fo_75_8 fo_75_9 fo_85_0 fo_85_1 fo_85_2 fo_85_3 fo_90_0 fo_90_1 fo_90_2 fo_90_3 if_54 ld_21 ld_31 ld_45 ld_65 ld_71 ld_72 ld_73 ld_83 ld_88 pl_104 pl_31 pl_50 pl_62 se_29 se_34 se_35 sl_72 sl_73 sl_83 sl_88 sz_104 sz_2 sz_21 sz_31 sz_34 sz_35 sz_45 sz_65 sz_71 sz_72 sz_73 sz_83 sz_88 z_104 z_31 z_4 z_75
end Ms

namespace Ms
open Go
abbrev qZ5 : Array Value:=#[.int .i64 0,.slice none 0 0,.bool false,.slice none 0 0,.slice none 0 0]
end Ms

namespace Ms
attribute [go_sem] exitRQ_ret exitRQ_exit Int.toNat_natCast Nat.mul_one
end Ms

namespace Ms
open Go
abbrev zS : Value:=.slice none 0 0
abbrev zB : Value:=.bool false
abbrev zI : Value:=.int .i64 0
abbrev zZ : Value:=.int .u8 0
abbrev zT : Value:=.string ByteArray.empty
abbrev zM : Value:=.int .i32 (-1)
end Ms

namespace Ms
open Go.World renaming size_alloc → qI
open Ms renaming size_wr → qJ,size_drew → qK,not_noB → qL
open W renaming seqF → qA,seq → qB,regF → qC,condK → qD,block → qE,skip → qF,ret → qG,exit → qH
set_option maxRecDepth 8000
open Go Go.Proofs Go.Shelf
attribute [local congr] W_congr WPsq_congr WPp_congr optK_congr addrK_congr intK_congr boolK_congr sliceK_congr tupleK_congr funcK_congr Fn_congr rawK_congr takeK_congr stepK_congr convK_congr aggK_congr

def fX2_0 : Fld:=.mk 3 0 (-1) (-1) (-1) (-1) 0 []
def fX2_1 : Fld:=.mk 4 0 (-1) (-1) (-1) (-1) 0 []
def fs_X2 : List Fld:=[fX2_0,fX2_1]
def fX0_0 : Fld:=.mk 3 0 (-1) (-1) (-1) 0 0 []
def fX0_1 : Fld:=.mk 3 9 (-1) (-1) (-1) (-1) 0 []
def fX0_2 : Fld:=.mk 4 0 (-1) (-1) (-1) 0 0 []
def fX0_3 : Fld:=.mk 3 12 (-1) (-1) (-1) (-1) 0 []
def fX0_4 : Fld:=.mk 4 5 (-1) (-1) (-1) (-1) 0 []
def fX0_5 : Fld:=.mk 3 0 (-1) (-1) (-1) 0 0 []
def fX0_6 : Fld:=.mk 7 0 (-1) (-1) 0 0 0 []
def fX0_7 : Fld:=.mk 4 0 (-1) (-1) 1 9223372036854775807 0 []
def fs_X0 : List Fld:=[fX0_0,fX0_1,fX0_2,fX0_3,fX0_4,fX0_5,fX0_6,fX0_7]
def fX3_0 : Fld:=.mk 8 0 12 (-1) (-1) 0 0 []
def fX3_1 : Fld:=.mk 7 13 (-1) (-1) (-1) 0 0 []
def fX3_2 : Fld:=.mk 11 0 (-1) (-1) (-1) 0 10 fs_X0
def fs_X3 : List Fld:=[fX3_0,fX3_1,fX3_2]
def fX1_0 : Fld:=.mk 8 7 12 (-1) (-1) 0 0 []
def fX1_1 : Fld:=.mk 7 13 (-1) (-1) (-1) 0 0 []
def fX1_2 : Fld:=.mk 11 0 (-1) (-1) (-1) 0 3 []
def fs_X1 : List Fld:=[fX1_0,fX1_1,fX1_2]
def fQ_0 : Fld:=.mk 8 0 (-1) 0 0 0 0 []
def fQ_1 : Fld:=.mk 3 0 14 (-1) (-1) (-1) 0 []
def fQ_2 : Fld:=.mk 10 0 (-1) (-1) 1 0 0 fs_X2
def fQ_3 : Fld:=.mk 3 0 (-1) (-1) (-1) 0 0 []
def fQ_4 : Fld:=.mk 3 0 (-1) (-1) (-1) 0 0 []
def fQ_5 : Fld:=.mk 3 3 (-1) (-1) (-1) 2147483647 0 []
def fQ_6 : Fld:=.mk 1 4 (-1) (-1) (-1) 0 0 []
def fQ_7 : Fld:=.mk 3 7 (-1) (-1) (-1) 0 0 []
def fQ_8 : Fld:=.mk 3 7 (-1) (-1) (-1) (-1) 0 []
def fQ_9 : Fld:=.mk 11 0 (-1) (-1) (-1) 0 10 fs_X3
def fQ_10 : Fld:=.mk 11 7 (-1) (-1) (-1) 0 10 fs_X1
def fQ_11 : Fld:=.mk 8 11 (-1) (-1) (-1) 0 0 []
def fs_Q : List Fld:=[fQ_0,fQ_1,fQ_2,fQ_3,fQ_4,fQ_5,fQ_6,fQ_7,fQ_8,fQ_9,fQ_10,fQ_11]

set_option maxHeartbeats 4000000 in
theorem cX2_fn (w:World):Fn Tryz.prog 15 #[] w fun r w'=>FldsV (fun b=>w.heap.size≤b) w' r fs_X2∧Ext w w':=by
 refine fn_of_W Tryz.func15 rfl Tryz.results15 Tryz.ntmps15 rfl ?_
 repeat ((first|refine qA ?_|apply qB|refine qC ?_|apply qD|apply qE|apply qF|apply qG|apply qH);try simp (maxSteps:=1000000)(disch:=(first|omega|(simp only [qI,qJ,qK]<;>omega)|exact qL _)) only [go_sem,fill_fld,fillN_nil,fillN_int,fillN_slice])
 repeat ((first|refine qA ?_|apply qB|refine qC ?_|apply qD|apply qE|apply qF|apply qG|apply qH);try simp (maxSteps:=1000000)(disch:=(first|omega|(simp only [qI,qJ,qK]<;>omega)|exact qL _)) only [go_sem,fill_fld,fillN_nil,fillN_int,fillN_slice])
 exact ⟨FldsV.litO (fs:=fs_X2) (css:=[[.int .i64 3,.int .i64 0,.int .i64 (-1),.int .i64 (-1),.int .i64 (-1),.int .i64 (-1),.int .i64 0,.slice none 0 0],[.int .i64 4,.int .i64 0,.int .i64 (-1),.int .i64 (-1),.int .i64 (-1),.int .i64 (-1),.int .i64 0,.slice none 0 0]]) (T:=50) (fr:=(0,0)) (by first|omega|(simp only [World.size_alloc];omega)) (by first|(simp (maxSteps:=1000000)(disch:=(first|omega|(simp only [qI,qJ,qK]<;>omega)|exact qL _)) only [go_sem];rfl)|rfl) (by simp) (All2.cons (FldC.intro (kind:=3) (FldsV.none _ _)) (All2.cons (FldC.intro (kind:=4) (FldsV.none _ _)) All2.nil)),(Upd.alloc (Upd.refl _ w) _)⟩

set_option maxHeartbeats 4000000 in
theorem cX0_fn (w:World):Fn Tryz.prog 26 #[] w fun r w'=>FldsV (fun b=>w.heap.size≤b) w' r fs_X0∧Ext w w':=by
 refine fn_of_W Tryz.func26 rfl Tryz.results26 Tryz.ntmps26 rfl ?_
 repeat ((first|refine qA ?_|apply qB|refine qC ?_|apply qD|apply qE|apply qF|apply qG|apply qH);try simp (maxSteps:=1000000)(disch:=(first|omega|(simp only [qI,qJ,qK]<;>omega)|exact qL _)) only [go_sem,fill_fld,fillN_nil,fillN_int,fillN_slice])
 repeat ((first|refine qA ?_|apply qB|refine qC ?_|apply qD|apply qE|apply qF|apply qG|apply qH);try simp (maxSteps:=1000000)(disch:=(first|omega|(simp only [qI,qJ,qK]<;>omega)|exact qL _)) only [go_sem,fill_fld,fillN_nil,fillN_int,fillN_slice])
 exact ⟨FldsV.litO (fs:=fs_X0) (css:=[[.int .i64 3,.int .i64 0,.int .i64 (-1),.int .i64 (-1),.int .i64 (-1),.int .i64 0,.int .i64 0,.slice none 0 0],[.int .i64 3,.int .i64 9,.int .i64 (-1),.int .i64 (-1),.int .i64 (-1),.int .i64 (-1),.int .i64 0,.slice none 0 0],[.int .i64 4,.int .i64 0,.int .i64 (-1),.int .i64 (-1),.int .i64 (-1),.int .i64 0,.int .i64 0,.slice none 0 0],[.int .i64 3,.int .i64 12,.int .i64 (-1),.int .i64 (-1),.int .i64 (-1),.int .i64 (-1),.int .i64 0,.slice none 0 0],[.int .i64 4,.int .i64 5,.int .i64 (-1),.int .i64 (-1),.int .i64 (-1),.int .i64 (-1),.int .i64 0,.slice none 0 0],[.int .i64 3,.int .i64 0,.int .i64 (-1),.int .i64 (-1),.int .i64 (-1),.int .i64 0,.int .i64 0,.slice none 0 0],[.int .i64 7,.int .i64 0,.int .i64 (-1),.int .i64 (-1),.int .i64 0,.int .i64 0,.int .i64 0,.slice none 0 0],[.int .i64 4,.int .i64 0,.int .i64 (-1),.int .i64 (-1),.int .i64 1,.int .i64 9223372036854775807,.int .i64 0,.slice none 0 0]]) (T:=50) (fr:=(0,0)) (by first|omega|(simp only [World.size_alloc];omega)) (by first|(simp (maxSteps:=1000000)(disch:=(first|omega|(simp only [qI,qJ,qK]<;>omega)|exact qL _)) only [go_sem];rfl)|rfl) (by simp) (All2.cons (FldC.intro (kind:=3) (FldsV.none _ _)) (All2.cons (FldC.intro (kind:=3) (FldsV.none _ _)) (All2.cons (FldC.intro (kind:=4) (FldsV.none _ _)) (All2.cons (FldC.intro (kind:=3) (FldsV.none _ _)) (All2.cons (FldC.intro (kind:=4) (FldsV.none _ _)) (All2.cons (FldC.intro (kind:=3) (FldsV.none _ _)) (All2.cons (FldC.intro (kind:=7) (FldsV.none _ _)) (All2.cons (FldC.intro (kind:=4) (FldsV.none _ _)) All2.nil)))))))),(Upd.alloc (Upd.refl _ w) _)⟩

set_option maxHeartbeats 4000000 in
theorem cX3_fn (w:World):Fn Tryz.prog 16 #[] w fun r w'=>FldsV (fun b=>w.heap.size≤b) w' r fs_X3∧Ext w w':=by
 refine fn_of_W Tryz.func16 rfl Tryz.results16 Tryz.ntmps16 rfl ?_
 repeat ((first|refine qA ?_|apply qB|refine qC ?_|apply qD|apply qE|apply qF|apply qG|apply qH);try simp (maxSteps:=1000000)(disch:=(first|omega|(simp only [qI,qJ,qK]<;>omega)|exact qL _)) only [go_sem,fill_fld,fillN_nil,fillN_int,fillN_slice])
 refine (cX0_fn _).mono ?_
 rintro r1 w1 ⟨hF1,hE1⟩
 obtain ⟨b1,k1,rfl,_⟩:=SlR.shape hF1
 have hz1:=hE1.size
 have hD1:Ext w w1:=Upd.trans (Upd.refl _ w) hE1
 simp (maxSteps:=1000000)(disch:=(first|omega|(simp only [qI,qJ,qK]<;>omega)|exact qL _)) only [go_sem,fill_fld,fillN_nil,fillN_int,fillN_slice]
 repeat ((first|refine qA ?_|apply qB|refine qC ?_|apply qD|apply qE|apply qF|apply qG|apply qH);try simp (maxSteps:=1000000)(disch:=(first|omega|(simp only [qI,qJ,qK]<;>omega)|exact qL _)) only [go_sem,fill_fld,fillN_nil,fillN_int,fillN_slice])
 exact ⟨FldsV.litO (fs:=fs_X3) (css:=[[.int .i64 8,.int .i64 0,.int .i64 12,.int .i64 (-1),.int .i64 (-1),.int .i64 0,.int .i64 0,.slice none 0 0],[.int .i64 7,.int .i64 13,.int .i64 (-1),.int .i64 (-1),.int .i64 (-1),.int .i64 0,.int .i64 0,.slice none 0 0],[.int .i64 11,.int .i64 0,.int .i64 (-1),.int .i64 (-1),.int .i64 (-1),.int .i64 0,.int .i64 10,.slice b1 fs_X0.length k1]]) (T:=50) (fr:=(0,0)) (by first|omega|(simp only [World.size_alloc];omega)) (by first|(simp (maxSteps:=1000000)(disch:=(first|omega|(simp only [qI,qJ,qK]<;>omega)|exact qL _)) only [go_sem];rfl)|rfl) (by simp) (All2.cons (FldC.intro (kind:=8) (FldsV.none _ _)) (All2.cons (FldC.intro (kind:=7) (FldsV.none _ _)) (All2.cons (FldC.intro (kind:=11) ((hF1.keep (Upd.keeps (S:=fun _=>False) (Upd.alloc (Upd.refl _ _) _) fun _ _ _ h=>h)).weaken fun b _ hb=>by have hq:_≤b:=hb;omega)) All2.nil))),(Upd.alloc hD1 _)⟩

set_option maxHeartbeats 4000000 in
theorem cX1_fn (w:World):Fn Tryz.prog 17 #[] w fun r w'=>FldsV (fun b=>w.heap.size≤b) w' r fs_X1∧Ext w w':=by
 refine fn_of_W Tryz.func17 rfl Tryz.results17 Tryz.ntmps17 rfl ?_
 repeat ((first|refine qA ?_|apply qB|refine qC ?_|apply qD|apply qE|apply qF|apply qG|apply qH);try simp (maxSteps:=1000000)(disch:=(first|omega|(simp only [qI,qJ,qK]<;>omega)|exact qL _)) only [go_sem,fill_fld,fillN_nil,fillN_int,fillN_slice])
 repeat ((first|refine qA ?_|apply qB|refine qC ?_|apply qD|apply qE|apply qF|apply qG|apply qH);try simp (maxSteps:=1000000)(disch:=(first|omega|(simp only [qI,qJ,qK]<;>omega)|exact qL _)) only [go_sem,fill_fld,fillN_nil,fillN_int,fillN_slice])
 exact ⟨FldsV.litO (fs:=fs_X1) (css:=[[.int .i64 8,.int .i64 7,.int .i64 12,.int .i64 (-1),.int .i64 (-1),.int .i64 0,.int .i64 0,.slice none 0 0],[.int .i64 7,.int .i64 13,.int .i64 (-1),.int .i64 (-1),.int .i64 (-1),.int .i64 0,.int .i64 0,.slice none 0 0],[.int .i64 11,.int .i64 0,.int .i64 (-1),.int .i64 (-1),.int .i64 (-1),.int .i64 0,.int .i64 3,.slice none 0 0]]) (T:=50) (fr:=(0,0)) (by first|omega|(simp only [World.size_alloc];omega)) (by first|(simp (maxSteps:=1000000)(disch:=(first|omega|(simp only [qI,qJ,qK]<;>omega)|exact qL _)) only [go_sem];rfl)|rfl) (by simp) (All2.cons (FldC.intro (kind:=8) (FldsV.none _ _)) (All2.cons (FldC.intro (kind:=7) (FldsV.none _ _)) (All2.cons (FldC.intro (kind:=11) (FldsV.none _ _)) All2.nil))),(Upd.alloc (Upd.refl _ w) _)⟩

set_option maxHeartbeats 4000000 in
theorem cQ_fn (w:World):Fn Tryz.prog 6 #[] w fun r w'=>(∃ vs,r = .agg #[vs,.int .i64 12]∧FldsV (fun b=>w.heap.size≤b) w' vs fs_Q)∧Ext w w':=by
 refine fn_of_W Tryz.func6 rfl Tryz.results6 Tryz.ntmps6 rfl ?_
 repeat ((first|refine qA ?_|apply qB|refine qC ?_|apply qD|apply qE|apply qF|apply qG|apply qH);try simp (maxSteps:=1000000)(disch:=(first|omega|(simp only [qI,qJ,qK]<;>omega)|exact qL _)) only [go_sem,fill_fld,fillN_nil,fillN_int,fillN_slice])
 have hz0:(w.alloc (.cells #[.slice none 0 0,.int .i64 0] 31)).heap.size=w.heap.size+1:=World.size_alloc _ _
 refine (cX2_fn _).mono ?_
 rintro r1 w1 ⟨hF1,hE1⟩
 obtain ⟨b1,k1,rfl,_⟩:=SlR.shape hF1
 have hz1:=hE1.size
 have hD1:Ext w w1:=Upd.trans (Upd.alloc (Upd.refl _ _) _) hE1
 have hb1:blk w1 w.heap.size=some (#[.slice none 0 0,.int .i64 0],31,(0,0)):=hE1.blk_some (blk_alloc_new rfl) id
 simp (maxSteps:=1000000)(disch:=(first|omega|(simp only [qI,qJ,qK]<;>omega)|exact qL _)) only [go_sem,fill_fld,fillN_nil,fillN_int,fillN_slice,hb1]
 refine (cX3_fn _).mono ?_
 rintro r2 w2 ⟨hF2,hE2⟩
 obtain ⟨b2,k2,rfl,_⟩:=SlR.shape hF2
 have hz2:=hE2.size
 have hD2:Ext w w2:=Upd.trans hD1 hE2
 have hb2:blk w2 w.heap.size=some (#[.slice none 0 0,.int .i64 0],31,(0,0)):=hE2.blk_some hb1 id
 simp (maxSteps:=1000000)(disch:=(first|omega|(simp only [qI,qJ,qK]<;>omega)|exact qL _)) only [go_sem,fill_fld,fillN_nil,fillN_int,fillN_slice,hb2]
 refine (cX1_fn _).mono ?_
 rintro r3 w3 ⟨hF3,hE3⟩
 obtain ⟨b3,k3,rfl,_⟩:=SlR.shape hF3
 have hz3:=hE3.size
 have hD3:Ext w w3:=Upd.trans hD2 hE3
 have hb3:blk w3 w.heap.size=some (#[.slice none 0 0,.int .i64 0],31,(0,0)):=hE3.blk_some hb2 id
 simp (maxSteps:=1000000)(disch:=(first|omega|(simp only [qI,qJ,qK]<;>omega)|exact qL _)) only [go_sem,fill_fld,fillN_nil,fillN_int,fillN_slice,hb3]
 have hvl:=blk_lt hb3
 repeat ((first|refine qA ?_|apply qB|refine qC ?_|apply qD|apply qE|apply qF|apply qG|apply qH);try simp (maxSteps:=1000000)(disch:=(first|omega|(simp only [qI,qJ,qK]<;>omega)|exact qL _)) only [go_sem,fill_fld,fillN_nil,fillN_int,fillN_slice,hb3])
 exact ⟨⟨_,rfl,FldsV.litO (fs:=fs_Q) (css:=[[.int .i64 8,.int .i64 0,.int .i64 (-1),.int .i64 0,.int .i64 0,.int .i64 0,.int .i64 0,.slice none 0 0],[.int .i64 3,.int .i64 0,.int .i64 14,.int .i64 (-1),.int .i64 (-1),.int .i64 (-1),.int .i64 0,.slice none 0 0],[.int .i64 10,.int .i64 0,.int .i64 (-1),.int .i64 (-1),.int .i64 1,.int .i64 0,.int .i64 0,.slice b1 fs_X2.length k1],[.int .i64 3,.int .i64 0,.int .i64 (-1),.int .i64 (-1),.int .i64 (-1),.int .i64 0,.int .i64 0,.slice none 0 0],[.int .i64 3,.int .i64 0,.int .i64 (-1),.int .i64 (-1),.int .i64 (-1),.int .i64 0,.int .i64 0,.slice none 0 0],[.int .i64 3,.int .i64 3,.int .i64 (-1),.int .i64 (-1),.int .i64 (-1),.int .i64 2147483647,.int .i64 0,.slice none 0 0],[.int .i64 1,.int .i64 4,.int .i64 (-1),.int .i64 (-1),.int .i64 (-1),.int .i64 0,.int .i64 0,.slice none 0 0],[.int .i64 3,.int .i64 7,.int .i64 (-1),.int .i64 (-1),.int .i64 (-1),.int .i64 0,.int .i64 0,.slice none 0 0],[.int .i64 3,.int .i64 7,.int .i64 (-1),.int .i64 (-1),.int .i64 (-1),.int .i64 (-1),.int .i64 0,.slice none 0 0],[.int .i64 11,.int .i64 0,.int .i64 (-1),.int .i64 (-1),.int .i64 (-1),.int .i64 0,.int .i64 10,.slice b2 fs_X3.length k2],[.int .i64 11,.int .i64 7,.int .i64 (-1),.int .i64 (-1),.int .i64 (-1),.int .i64 0,.int .i64 10,.slice b3 fs_X1.length k3],[.int .i64 8,.int .i64 11,.int .i64 (-1),.int .i64 (-1),.int .i64 (-1),.int .i64 0,.int .i64 0,.slice none 0 0]]) (T:=50) (fr:=(0,0)) (by first|omega|(simp only [World.size_alloc];omega)) (by first|(simp (maxSteps:=1000000)(disch:=(first|omega|(simp only [qI,qJ,qK]<;>omega)|exact qL _)) only [go_sem];rfl)|rfl) (by simp) (All2.cons (FldC.intro (kind:=8) (FldsV.none _ _)) (All2.cons (FldC.intro (kind:=3) (FldsV.none _ _)) (All2.cons (FldC.intro (kind:=10) (hF1.stay (B:=w.heap.size) (Upd.trans (hE2.mono fun _ h=>h.elim) (Upd.trans (hE3.mono fun _ h=>h.elim) (Upd.wr (Upd.alloc (Upd.refl _ _) _) _ _ (.inr rfl)))) (by omega) (fun b hb=>by omega))) (All2.cons (FldC.intro (kind:=3) (FldsV.none _ _)) (All2.cons (FldC.intro (kind:=3) (FldsV.none _ _)) (All2.cons (FldC.intro (kind:=3) (FldsV.none _ _)) (All2.cons (FldC.intro (kind:=1) (FldsV.none _ _)) (All2.cons (FldC.intro (kind:=3) (FldsV.none _ _)) (All2.cons (FldC.intro (kind:=3) (FldsV.none _ _)) (All2.cons (FldC.intro (kind:=11) (hF2.stay (B:=w.heap.size) (Upd.trans (hE3.mono fun _ h=>h.elim) (Upd.wr (Upd.alloc (Upd.refl _ _) _) _ _ (.inr rfl))) (by omega) (fun b hb=>by omega))) (All2.cons (FldC.intro (kind:=11) (hF3.stay (B:=w.heap.size) (Upd.wr (Upd.alloc (Upd.refl _ _) _) _ _ (.inr rfl)) (by omega) (fun b hb=>by omega))) (All2.cons (FldC.intro (kind:=8) (FldsV.none _ _)) All2.nil))))))))))))⟩,(Upd.wr (Upd.alloc hD3 _) _ _ (.inl (Nat.le_refl _)))⟩

theorem DefaultQ_fn (w:World) {vb:Nat} {c0 c1 c2 c3 c4 c5 c6 c7 c8 c9 c10 c11 c12 c13 c14 c15:Value} (hb:blk w vb=some (#[c0,c1,c2,c3,c4,c5,c6,c7,c8,c9,c10,c11,c12,c13,c14,c15],75,(0,0))) :
  Fn Tryz.prog 20 #[.pointer (some ⟨vb,0,none⟩)] w fun _ w'=>blk w' vb=some (#[c0,.pointer none,.int .i32 (-1),.int .i32 (-1),.int .i64 (-1),c5,c6,c7,.int .i32 2147483647,c9,c10,.int .i32 (-1),c12,c13,c14,c15],75,(0,0))∧Upd (fun b=>b=vb) w w':=by
 have hvl:=blk_lt hb
 refine fn_of_W Tryz.func20 rfl Tryz.results20 Tryz.ntmps20 rfl ?_
 repeat ((first|refine qA ?_|apply qB|refine qC ?_|apply qD|apply qE|apply qF|apply qG|apply qH);try simp (maxSteps:=1000000)(disch:=(first|omega|(simp only [qI,qJ,qK]<;>omega)|exact qL _)) only [go_sem,hb])
 first|(refine (Upd.wr (Upd.wr (Upd.wr (Upd.wr (Upd.wr (Upd.wr (Upd.refl _ _) _ _ ?_) _ _ ?_) _ _ ?_) _ _ ?_) _ _ ?_) _ _ ?_)<;>exact .inr rfl)|(refine ⟨by simp (maxSteps:=1000000)(disch:=(first|omega|(simp only [qI,qJ,qK]<;>omega)|exact qL _)) only [go_sem,hb],?_⟩;refine (Upd.wr (Upd.wr (Upd.wr (Upd.wr (Upd.wr (Upd.wr (Upd.refl _ _) _ _ ?_) _ _ ?_) _ _ ?_) _ _ ?_) _ _ ?_) _ _ ?_)<;>exact .inr rfl)

theorem NewPtrQ_fn (w:World):Fn Tryz.prog 13 #[] w fun r w'=>r = .pointer (some ⟨w.heap.size,0,none⟩)∧blk w' w.heap.size=some (#[.int .i16 0,.pointer none,.int .i32 (-1),.int .i32 (-1),.int .i64 (-1),.map none,.int .i32 0,.int .i32 0,.int .i32 2147483647,.int .i8 0,.int .i32 0,.int .i32 (-1),.slice none 0 0,.slice none 0 0,.string ByteArray.empty,.map none],75,(0,0))∧Ext w w':=by
 refine fn_of_W Tryz.func13 rfl Tryz.results13 Tryz.ntmps13 rfl ?_
 repeat ((first|refine qA ?_|apply qB|refine qC ?_|apply qD|apply qE|apply qF|apply qG|apply qH);try simp (maxSteps:=1000000)(disch:=(first|omega|(simp only [qI,qJ,qK]<;>omega)|exact qL _)) only [go_sem])
 refine (DefaultQ_fn _ (blk_alloc_new rfl)).mono ?_
 rintro _ w1 ⟨hb1,hU1⟩
 have hz:=World.size_alloc w (.cells #[.int .i16 0,.pointer none,.int .i32 0,.int .i32 0,.int .i64 0,.map none,.int .i32 0,.int .i32 0,.int .i32 0,.int .i8 0,.int .i32 0,.int .i32 0,.slice none 0 0,.slice none 0 0,.string ByteArray.empty,.map none] 75)
 repeat ((first|refine qA ?_|apply qB|refine qC ?_|apply qD|apply qE|apply qF|apply qG|apply qH);try simp (maxSteps:=1000000)(disch:=(first|omega|(simp only [qI,qJ,qK]<;>omega)|exact qL _)) only [go_sem])
 exact ⟨hb1,(Upd.alloc (Upd.refl _ _) _:Ext w _).more hU1 fun b hb h=>by omega⟩

theorem SetVersionQ_fn (w:World) {vb:Nat} {c0 c1 c2 c3 c4 c5 c6 c7 c8 c9 c10 c11 c12 c13 c14 c15:Value} (n:Int) (hb:blk w vb=some (#[c0,c1,c2,c3,c4,c5,c6,c7,c8,c9,c10,c11,c12,c13,c14,c15],75,(0,0))) :
  Fn Tryz.prog 18 #[.pointer (some ⟨vb,0,none⟩),.int .i16 n] w fun _ w'=>blk w' vb=some (#[.int .i16 n,c1,c2,c3,c4,c5,c6,c7,c8,c9,c10,c11,c12,c13,c14,c15],75,(0,0))∧Upd (fun b=>b=vb) w w':=by
 have hvl:=blk_lt hb
 refine fn_of_W Tryz.func18 rfl Tryz.results18 Tryz.ntmps18 rfl ?_
 repeat ((first|refine qA ?_|apply qB|refine qC ?_|apply qD|apply qE|apply qF|apply qG|apply qH);try simp (maxSteps:=1000000)(disch:=(first|omega|(simp only [qI,qJ,qK]<;>omega)|exact qL _)) only [go_sem,hb])
 first|exact Upd.wr (Upd.refl _ _) _ _ (.inr rfl)|exact ⟨by simp (maxSteps:=1000000)(disch:=(first|omega|(simp only [qI,qJ,qK]<;>omega)|exact qL _)) only [go_sem,hb],Upd.wr (Upd.refl _ _) _ _ (.inr rfl)⟩

theorem MaxQ_fn (w:World):Fn Tryz.prog 5 #[] w fun r w'=>r = .int .i64 18∧Ext w w':=by
 refine fn_of_W Tryz.func5 rfl Tryz.results5 Tryz.ntmps5 rfl ?_
 repeat ((first|refine qA ?_|apply qB|refine qC ?_|apply qD|apply qE|apply qF|apply qG|apply qH);try simp (maxSteps:=1000000)(disch:=(first|omega|(simp only [qI,qJ,qK]<;>omega)|exact qL _)) only [go_sem])
 refine (NewPtrQ_fn w).mono ?_
 rintro _ w1 ⟨rfl,hb1,hE1⟩
 repeat ((first|refine qA ?_|apply qB|refine qC ?_|apply qD|apply qE|apply qF|apply qG|apply qH);try simp (maxSteps:=1000000)(disch:=(first|omega|(simp only [qI,qJ,qK]<;>omega)|exact qL _)) only [go_sem])
 have hm:Fn Tryz.prog 14 #[.pointer (some ⟨w.heap.size,0,none⟩)] w1 fun r w'=>r = .int .i16 18∧w'=w1:=by
  refine fn_of_W Tryz.func14 rfl Tryz.results14 Tryz.ntmps14 rfl ?_
  repeat ((first|refine qA ?_|apply qB|refine qC ?_|apply qD|apply qE|apply qF|apply qG|apply qH);try simp (maxSteps:=1000000)(disch:=(first|omega|(simp only [qI,qJ,qK]<;>omega)|exact qL _)) only [go_sem])
 refine hm.mono ?_
 rintro _ w2 ⟨rfl,rfl⟩
 have ew:IntKind.i64.wrap (18:Int)=18:=i64_wrap (by decide)
 repeat ((first|refine qA ?_|apply qB|refine qC ?_|apply qD|apply qE|apply qF|apply qG|apply qH);try simp (maxSteps:=1000000)(disch:=(first|omega|(simp only [qI,qJ,qK]<;>omega)|exact qL _)) only [go_sem,ew])
 exact hE1

theorem utQ_72 : Tryz.prog.underlying 72=some (.slice 85):=by kernel_rfl
theorem utQ_21 : Tryz.prog.underlying 21=some (.int .i32):=by kernel_rfl
theorem inQ_85 : (Tryz.prog.info? 85).map (fun i=>(i.size,i.bytes,i.zero.map (·.cells)))=some (19,64,some #[.string ByteArray.empty,.int .u8 0,.int .u8 0,.int .u8 0,.int .u8 0,.int .u8 0,.int .u8 0,.int .u8 0,.int .u8 0,.int .u8 0,.int .u8 0,.int .u8 0,.int .u8 0,.int .u8 0,.int .u8 0,.int .u8 0,.int .u8 0,.slice none 0 0,.map none]):=by kernel_rfl
theorem utQ_83 : Tryz.prog.underlying 83=some (.slice 113):=by kernel_rfl
theorem inQ_113 : (Tryz.prog.info? 113).map (fun i=>(i.size,i.bytes,i.zero.map (·.cells)))=some (24,72,some #[.int .i32 0,.int .i32 0,.int .i64 0,.int .i32 0,.int .i64 0,.int .i32 0,.int .u8 0,.int .u8 0,.int .u8 0,.int .u8 0,.int .u8 0,.int .u8 0,.int .u8 0,.int .u8 0,.int .u8 0,.int .u8 0,.int .u8 0,.int .u8 0,.int .u8 0,.int .u8 0,.int .u8 0,.int .u8 0,.int .i64 0,.map none]):=by kernel_rfl
theorem utQ_73 : Tryz.prog.underlying 73=some (.slice 90):=by kernel_rfl
theorem inQ_90 : (Tryz.prog.info? 90).map (fun i=>(i.size,i.bytes,i.zero.map (·.cells)))=some (19,64,some #[.string ByteArray.empty,.int .u8 0,.int .u8 0,.int .u8 0,.int .u8 0,.int .u8 0,.int .u8 0,.int .u8 0,.int .u8 0,.int .u8 0,.int .u8 0,.int .u8 0,.int .u8 0,.int .u8 0,.int .u8 0,.int .u8 0,.int .u8 0,.slice none 0 0,.map none]):=by kernel_rfl
theorem utQ_88 : Tryz.prog.underlying 88=some (.slice 21):=by kernel_rfl
theorem inQ_21 : (Tryz.prog.info? 21).map (fun i=>(i.size,i.bytes,i.zero.map (·.cells)))=some (1,4,some #[.int .i32 0]):=by kernel_rfl

theorem DefaultEX2_fn (w:World) {R k:Nat} {A B:List Value} {c0 c1 c2:Value} {E:TypeId} (hb:blk w R=some ((A++([c0,c1,c2]++B)).toArray,E,(0,0))) (hA:A.length=k) :
  Fn Tryz.prog 65 #[.pointer (some ⟨R,k,none⟩)] w fun _ w'=>blk w' R=some ((A++([.int .i32 (-1),.int .i64 (-1),c2]++B)).toArray,E,(0,0))∧Upd (fun b=>b=R) w w':=by
 have hRl:=blk_lt hb
 obtain ⟨X,hX⟩:∃ X:Array Value,X=(A++(([c0,c1,c2]:List Value)++B)).toArray:=⟨_,rfl⟩
 have hXs:k+3≤X.size:=by rw [hX];simp only [List.size_toArray,List.length_append,List.length_cons,List.length_nil,hA];omega
 have hb':blk w R=some (X,E,(0,0)):=by rw [hX];exact hb
 refine fn_of_W Tryz.func65 rfl Tryz.results65 Tryz.ntmps65 rfl ?_
 have hq0:k+1≤X.size:=by omega
 have hq1:k+1+1≤X.size:=by omega
 have hp0:k+1≤X.size:=by omega
 have hp1:k+2≤X.size:=by omega
 repeat ((first|refine qA ?_|apply qB|refine qC ?_|apply qD|apply qE|apply qF|apply qG|apply qH);try simp (maxSteps:=1000000)(disch:=(first|omega|(simp only [qI,qJ,qK]<;>omega)|exact qL _)) only [go_sem,hb',Array.size_setIfInBounds,hq0,hp0,hq1,hp1])
 have h0:=el_blk0 (vs:=[.int .i32 (-1)]) hb hA (Nat.le_of_ble_eq_true rfl)
 have h1:=el_blk (o:=1) (vs:=[.int .i64 (-1)]) h0 hA (Nat.le_of_ble_eq_true rfl)
 first|exact ⟨h1,(Upd.wr (Upd.wr (Upd.refl (fun b=>b=R) _) _ _ (.inr rfl)) _ _ (.inr rfl))⟩|(refine ⟨?_,(Upd.wr (Upd.wr (Upd.refl (fun b=>b=R) _) _ _ (.inr rfl)) _ _ (.inr rfl))⟩;simp only [blk_wr_eq,hb',Option.map_some] at h1;exact h1)

theorem DefaultEX3_fn (w:World) {R k:Nat} {A B:List Value} {c0 c1 c2 c3 c4 c5 c6 c7 c8 c9 c10 c11 c12 c13 c14 c15 c16 c17 c18:Value} {E:TypeId} (hb:blk w R=some ((A++([c0,c1,c2,c3,c4,c5,c6,c7,c8,c9,c10,c11,c12,c13,c14,c15,c16,c17,c18]++B)).toArray,E,(0,0))) (hA:A.length=k) :
  Fn Tryz.prog 48 #[.pointer (some ⟨R,k,none⟩)] w fun _ w'=>blk w' R=some ((A++([c0,c1,c2,c3,c4,c5,c6,c7,c8,c9,c10,c11,c12,c13,c14,c15,c16,c17,c18]++B)).toArray,E,(0,0))∧Upd (fun b=>b=R) w w':=by
 have hRl:=blk_lt hb
 obtain ⟨X,hX⟩:∃ X:Array Value,X=(A++(([c0,c1,c2,c3,c4,c5,c6,c7,c8,c9,c10,c11,c12,c13,c14,c15,c16,c17,c18]:List Value)++B)).toArray:=⟨_,rfl⟩
 have hXs:k+19≤X.size:=by rw [hX];simp only [List.size_toArray,List.length_append,List.length_cons,List.length_nil,hA];omega
 have hb':blk w R=some (X,E,(0,0)):=by rw [hX];exact hb
 refine fn_of_W Tryz.func48 rfl Tryz.results48 Tryz.ntmps48 rfl ?_
 repeat ((first|refine qA ?_|apply qB|refine qC ?_|apply qD|apply qE|apply qF|apply qG|apply qH);try simp (maxSteps:=1000000)(disch:=(first|omega|(simp only [qI,qJ,qK]<;>omega)|exact qL _)) only [go_sem,hb',Array.size_setIfInBounds])
 first|exact ⟨hb,Upd.refl _ _⟩|exact Upd.refl _ _|(rw [hX];exact ⟨rfl,Upd.refl _ _⟩)

theorem DefaultEX0_fn (w:World) {R k:Nat} {A B:List Value} {c0 c1 c2 c3 c4 c5 c6 c7 c8 c9 c10 c11 c12 c13 c14 c15 c16 c17 c18 c19 c20 c21 c22 c23:Value} {E:TypeId} (hb:blk w R=some ((A++([c0,c1,c2,c3,c4,c5,c6,c7,c8,c9,c10,c11,c12,c13,c14,c15,c16,c17,c18,c19,c20,c21,c22,c23]++B)).toArray,E,(0,0))) (hA:A.length=k) :
  Fn Tryz.prog 54 #[.pointer (some ⟨R,k,none⟩)] w fun _ w'=>blk w' R=some ((A++([c0,.int .i32 (-1),c2,.int .i32 (-1),.int .i64 (-1),c5,c6,c7,c8,c9,c10,c11,c12,c13,c14,c15,c16,c17,c18,c19,c20,c21,.int .i64 9223372036854775807,c23]++B)).toArray,E,(0,0))∧Upd (fun b=>b=R) w w':=by
 have hRl:=blk_lt hb
 obtain ⟨X,hX⟩:∃ X:Array Value,X=(A++(([c0,c1,c2,c3,c4,c5,c6,c7,c8,c9,c10,c11,c12,c13,c14,c15,c16,c17,c18,c19,c20,c21,c22,c23]:List Value)++B)).toArray:=⟨_,rfl⟩
 have hXs:k+24≤X.size:=by rw [hX];simp only [List.size_toArray,List.length_append,List.length_cons,List.length_nil,hA];omega
 have hb':blk w R=some (X,E,(0,0)):=by rw [hX];exact hb
 refine fn_of_W Tryz.func54 rfl Tryz.results54 Tryz.ntmps54 rfl ?_
 have hq0:k+1+1≤X.size:=by omega
 have hq1:k+3+1≤X.size:=by omega
 have hq2:k+4+1≤X.size:=by omega
 have hq3:k+22+1≤X.size:=by omega
 have hp0:k+2≤X.size:=by omega
 have hp1:k+4≤X.size:=by omega
 have hp2:k+5≤X.size:=by omega
 have hp3:k+23≤X.size:=by omega
 repeat ((first|refine qA ?_|apply qB|refine qC ?_|apply qD|apply qE|apply qF|apply qG|apply qH);try simp (maxSteps:=1000000)(disch:=(first|omega|(simp only [qI,qJ,qK]<;>omega)|exact qL _)) only [go_sem,hb',Array.size_setIfInBounds,hq0,hp0,hq1,hp1,hq2,hp2,hq3,hp3])
 have h0:=el_blk (o:=1) (vs:=[.int .i32 (-1)]) hb hA (Nat.le_of_ble_eq_true rfl)
 have h1:=el_blk (o:=3) (vs:=[.int .i32 (-1)]) h0 hA (Nat.le_of_ble_eq_true rfl)
 have h2:=el_blk (o:=4) (vs:=[.int .i64 (-1)]) h1 hA (Nat.le_of_ble_eq_true rfl)
 have h3:=el_blk (o:=22) (vs:=[.int .i64 9223372036854775807]) h2 hA (Nat.le_of_ble_eq_true rfl)
 first|exact ⟨h3,(Upd.wr (Upd.wr (Upd.wr (Upd.wr (Upd.refl (fun b=>b=R) _) _ _ (.inr rfl)) _ _ (.inr rfl)) _ _ (.inr rfl)) _ _ (.inr rfl))⟩|(refine ⟨?_,(Upd.wr (Upd.wr (Upd.wr (Upd.wr (Upd.refl (fun b=>b=R) _) _ _ (.inr rfl)) _ _ (.inr rfl)) _ _ (.inr rfl)) _ _ (.inr rfl))⟩;simp only [blk_wr_eq,hb',Option.map_some] at h3;exact h3)

theorem DefaultEX1_fn (w:World) {R k:Nat} {A B:List Value} {c0 c1 c2 c3 c4 c5 c6 c7 c8 c9 c10 c11 c12 c13 c14 c15 c16 c17 c18:Value} {E:TypeId} (hb:blk w R=some ((A++([c0,c1,c2,c3,c4,c5,c6,c7,c8,c9,c10,c11,c12,c13,c14,c15,c16,c17,c18]++B)).toArray,E,(0,0))) (hA:A.length=k) :
  Fn Tryz.prog 60 #[.pointer (some ⟨R,k,none⟩)] w fun _ w'=>blk w' R=some ((A++([c0,c1,c2,c3,c4,c5,c6,c7,c8,c9,c10,c11,c12,c13,c14,c15,c16,c17,c18]++B)).toArray,E,(0,0))∧Upd (fun b=>b=R) w w':=by
 have hRl:=blk_lt hb
 obtain ⟨X,hX⟩:∃ X:Array Value,X=(A++(([c0,c1,c2,c3,c4,c5,c6,c7,c8,c9,c10,c11,c12,c13,c14,c15,c16,c17,c18]:List Value)++B)).toArray:=⟨_,rfl⟩
 have hXs:k+19≤X.size:=by rw [hX];simp only [List.size_toArray,List.length_append,List.length_cons,List.length_nil,hA];omega
 have hb':blk w R=some (X,E,(0,0)):=by rw [hX];exact hb
 refine fn_of_W Tryz.func60 rfl Tryz.results60 Tryz.ntmps60 rfl ?_
 repeat ((first|refine qA ?_|apply qB|refine qC ?_|apply qD|apply qE|apply qF|apply qG|apply qH);try simp (maxSteps:=1000000)(disch:=(first|omega|(simp only [qI,qJ,qK]<;>omega)|exact qL _)) only [go_sem,hb',Array.size_setIfInBounds])
 first|exact ⟨hb,Upd.refl _ _⟩|exact Upd.refl _ _|(rw [hX];exact ⟨rfl,Upd.refl _ _⟩)
end Ms

