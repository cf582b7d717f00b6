/- A part of the proof: see the last text. -/
import Derived.Test.YtfeaoncgnhhjbaaGreatDoorC07
import Derived.Test.YtfeaoncgnhhjbaaGreatDoorC09
import Derived.Test.YtfeaoncgnhhjbaaGreatDoorC10
set_option linter.unusedSimpArgs false
set_option linter.unusedVariables false
namespace Ms
open Nat renaming reduceEqDiff → n0,reduceAdd → n1,reduceMul → n2,reduceSub → n3,reduceLT → n4,reduceLeDiff → n5
open Int renaming reduceEq → i0,reduceLT → i1,reduceLE → i2,reduceNeg → i3,reduceAdd → i4,reduceSub → i5,reduceMul → i6,reduceToNat → i7
set_option maxRecDepth 4000
open Go Go.Proofs
theorem ca_12 : callable Tryz.prog 12 = true := nr (by kernel_rfl)
theorem ca_13 : callable Tryz.prog 13 = true := nr (by kernel_rfl)
theorem ca_14 : callable Tryz.prog 14 = true := nr (by kernel_rfl)
theorem ca_15 : callable Tryz.prog 15 = true := nr (by kernel_rfl)
theorem ca_17 : callable Tryz.prog 17 = true := nr (by kernel_rfl)
theorem ca_18 : callable Tryz.prog 18 = true := nr (by kernel_rfl)
theorem ca_19 : callable Tryz.prog 19 = true := nr (by kernel_rfl)
theorem ca_21 : callable Tryz.prog 21 = true := nr (by kernel_rfl)
theorem ca_22 : callable Tryz.prog 22 = true := nr (by kernel_rfl)
theorem ca_31 : callable Tryz.prog 31 = true := nr (by kernel_rfl)
theorem ca_33 : callable Tryz.prog 33 = true := nr (by kernel_rfl)
theorem ca_34 : callable Tryz.prog 34 = true := nr (by kernel_rfl)
theorem ca_36 : callable Tryz.prog 36 = true := nr (by kernel_rfl)
theorem ca_37 : callable Tryz.prog 37 = true := nr (by kernel_rfl)
theorem ca_38 : callable Tryz.prog 38 = true := nr (by kernel_rfl)
theorem ca_39 : callable Tryz.prog 39 = true := nr (by kernel_rfl)
theorem ca_4 : callable Tryz.prog 4 = true := nr (by kernel_rfl)
theorem ca_40 : callable Tryz.prog 40 = true := nr (by kernel_rfl)
theorem ca_41 : callable Tryz.prog 41 = true := nr (by kernel_rfl)
theorem ca_43 : callable Tryz.prog 43 = true := nr (by kernel_rfl)
theorem ca_44 : callable Tryz.prog 44 = true := nr (by kernel_rfl)
theorem ca_5 : callable Tryz.prog 5 = true := nr (by kernel_rfl)
theorem ca_54 : callable Tryz.prog 54 = true := nr (by kernel_rfl)
theorem ca_55 : callable Tryz.prog 55 = true := nr (by kernel_rfl)
theorem ca_56 : callable Tryz.prog 56 = true := nr (by kernel_rfl)
theorem ca_57 : callable Tryz.prog 57 = true := nr (by kernel_rfl)
theorem ca_58 : callable Tryz.prog 58 = true := nr (by kernel_rfl)
theorem ca_6 : callable Tryz.prog 6 = true := nr (by kernel_rfl)
theorem ca_60 : callable Tryz.prog 60 = true := nr (by kernel_rfl)
theorem ca_61 : callable Tryz.prog 61 = true := nr (by kernel_rfl)
theorem ca_62 : callable Tryz.prog 62 = true := nr (by kernel_rfl)
theorem ca_63 : callable Tryz.prog 63 = true := nr (by kernel_rfl)
theorem ca_64 : callable Tryz.prog 64 = true := nr (by kernel_rfl)
theorem ca_65 : callable Tryz.prog 65 = true := nr (by kernel_rfl)
theorem ca_66 : callable Tryz.prog 66 = true := nr (by kernel_rfl)
theorem ca_67 : callable Tryz.prog 67 = true := nr (by kernel_rfl)
theorem ca_68 : callable Tryz.prog 68 = true := nr (by kernel_rfl)
theorem ca_69 : callable Tryz.prog 69 = true := nr (by kernel_rfl)
theorem ca_7 : callable Tryz.prog 7 = true := nr (by kernel_rfl)
theorem ca_70 : callable Tryz.prog 70 = true := nr (by kernel_rfl)
theorem ca_71 : callable Tryz.prog 71 = true := nr (by kernel_rfl)
theorem ca_72 : callable Tryz.prog 72 = true := nr (by kernel_rfl)
theorem ca_73 : callable Tryz.prog 73 = true := nr (by kernel_rfl)
theorem ca_8 : callable Tryz.prog 8 = true := nr (by kernel_rfl)
theorem ca_9 : callable Tryz.prog 9 = true := nr (by kernel_rfl)
theorem es_57 : elemSize Tryz.prog 57 = some 22 := nr (by kernel_rfl)
theorem es_78 : elemSize Tryz.prog 78 = some 10 := nr (by kernel_rfl)
theorem es_86 : elemSize Tryz.prog 86 = some 1 := nr (by kernel_rfl)
theorem fo_63_0 : fieldOff Tryz.prog 63 0 = some 0 := nr (by kernel_rfl)
theorem fo_63_1 : fieldOff Tryz.prog 63 1 = some 1 := nr (by kernel_rfl)
theorem fo_63_2 : fieldOff Tryz.prog 63 2 = some 2 := nr (by kernel_rfl)
theorem fo_63_3 : fieldOff Tryz.prog 63 3 = some 3 := nr (by kernel_rfl)
theorem fo_63_4 : fieldOff Tryz.prog 63 4 = some 4 := nr (by kernel_rfl)
theorem fo_80_0 : fieldOff Tryz.prog 80 0 = some 0 := nr (by kernel_rfl)
theorem fo_80_1 : fieldOff Tryz.prog 80 1 = some 1 := nr (by kernel_rfl)
theorem fo_80_2 : fieldOff Tryz.prog 80 2 = some 2 := nr (by kernel_rfl)
theorem fo_80_3 : fieldOff Tryz.prog 80 3 = some 18 := nr (by kernel_rfl)
theorem fo_80_4 : fieldOff Tryz.prog 80 4 = some 19 := nr (by kernel_rfl)
theorem fo_80_5 : fieldOff Tryz.prog 80 5 = some 20 := nr (by kernel_rfl)
theorem fo_80_6 : fieldOff Tryz.prog 80 6 = some 21 := nr (by kernel_rfl)
theorem fo_88_0 : fieldOff Tryz.prog 88 0 = some 0 := nr (by kernel_rfl)
theorem fo_88_1 : fieldOff Tryz.prog 88 1 = some 1 := nr (by kernel_rfl)
theorem fo_88_2 : fieldOff Tryz.prog 88 2 = some 2 := nr (by kernel_rfl)
theorem fo_88_3 : fieldOff Tryz.prog 88 3 = some 3 := nr (by kernel_rfl)
theorem fo_88_4 : fieldOff Tryz.prog 88 4 = some 4 := nr (by kernel_rfl)
theorem fo_88_5 : fieldOff Tryz.prog 88 5 = some 5 := nr (by kernel_rfl)
theorem fo_88_6 : fieldOff Tryz.prog 88 6 = some 6 := nr (by kernel_rfl)
theorem fo_88_7 : fieldOff Tryz.prog 88 7 = some 7 := nr (by kernel_rfl)
theorem fo_88_8 : fieldOff Tryz.prog 88 8 = some 8 := nr (by kernel_rfl)
theorem fo_88_9 : fieldOff Tryz.prog 88 9 = some 9 := nr (by kernel_rfl)
theorem fo_92_0 : fieldOff Tryz.prog 92 0 = some 0 := nr (by kernel_rfl)
theorem fo_92_1 : fieldOff Tryz.prog 92 1 = some 1 := nr (by kernel_rfl)
theorem fo_92_2 : fieldOff Tryz.prog 92 2 = some 2 := nr (by kernel_rfl)
theorem if_50 : isIfaceT Tryz.prog 50 = true := nr (by kernel_rfl)
theorem ld_21 (w : World) (b o : Nat) : loadOf Tryz.prog 21 w ⟨b,o,none⟩ = (blk w b).bind fun x => x.1[o]? := loadOf_one (by kernel_rfl) w b o
theorem ld_31 (w : World) (b o : Nat) : loadOf Tryz.prog 31 w ⟨b,o,none⟩ = (blk w b).bind fun x => cellsAt x.1 o 2 := loadOf_agg (by kernel_rfl) w b o
theorem ld_40 (w : World) (b o : Nat) : loadOf Tryz.prog 40 w ⟨b,o,none⟩ = (blk w b).bind fun x => x.1[o]? := loadOf_one (by kernel_rfl) w b o
theorem ld_57 (w : World) (b o : Nat) : loadOf Tryz.prog 57 w ⟨b,o,none⟩ = (blk w b).bind fun x => x.1[o]? := loadOf_one (by kernel_rfl) w b o
theorem ld_58 (w : World) (b o : Nat) : loadOf Tryz.prog 58 w ⟨b,o,none⟩ = (blk w b).bind fun x => x.1[o]? := loadOf_one (by kernel_rfl) w b o
theorem ld_76 (w : World) (b o : Nat) : loadOf Tryz.prog 76 w ⟨b,o,none⟩ = (blk w b).bind fun x => x.1[o]? := loadOf_one (by kernel_rfl) w b o
theorem ld_78 (w : World) (b o : Nat) : loadOf Tryz.prog 78 w ⟨b,o,none⟩ = (blk w b).bind fun x => x.1[o]? := loadOf_one (by kernel_rfl) w b o
theorem ld_86 (w : World) (b o : Nat) : loadOf Tryz.prog 86 w ⟨b,o,none⟩ = (blk w b).bind fun x => x.1[o]? := loadOf_one (by kernel_rfl) w b o
theorem pl_103 : placesOf Tryz.prog 103 = some [(0,1),(1,1)] := nr (by kernel_rfl)
theorem pl_31 : placesOf Tryz.prog 31 = some [(0,1),(1,1)] := nr (by kernel_rfl)
theorem pl_45 : placesOf Tryz.prog 45 = some [(0,1),(1,1),(2,1),(3,1),(4,1),(5,1),(6,1),(7,1)] := nr (by kernel_rfl)
theorem pt_58 : isPtrT Tryz.prog 58 = true := nr (by kernel_rfl)
theorem se_29 : slElem Tryz.prog 29 = some (45,8) := nr (by kernel_rfl)
theorem se_86 : slElem Tryz.prog 86 = some (21,1) := nr (by kernel_rfl)
theorem sl_57 : isSliceT Tryz.prog 57 = true := nr (by kernel_rfl)
theorem sl_78 : isSliceT Tryz.prog 78 = true := nr (by kernel_rfl)
theorem sl_86 : isSliceT Tryz.prog 86 = true := nr (by kernel_rfl)
theorem sz_103 (w : World) (b o : Nat) (v : Value) : storeOf Tryz.prog 103 w ⟨b,o,none⟩ v = (blk w b).bind fun x => stO w b o v x 2 := storeOf_n (by kernel_rfl) w b o v
theorem sz_21 (w : World) (b o : Nat) (v : Value) : storeOf Tryz.prog 21 w ⟨b,o,none⟩ v = (blk w b).bind fun x => stO w b o v x 1 := storeOf_n (by kernel_rfl) w b o v
theorem sz_31 (w : World) (b o : Nat) (v : Value) : storeOf Tryz.prog 31 w ⟨b,o,none⟩ v = (blk w b).bind fun x => stO w b o v x 2 := storeOf_n (by kernel_rfl) w b o v
theorem sz_40 (w : World) (b o : Nat) (v : Value) : storeOf Tryz.prog 40 w ⟨b,o,none⟩ v = (blk w b).bind fun x => stO w b o v x 1 := storeOf_n (by kernel_rfl) w b o v
theorem sz_57 (w : World) (b o : Nat) (v : Value) : storeOf Tryz.prog 57 w ⟨b,o,none⟩ v = (blk w b).bind fun x => stO w b o v x 1 := storeOf_n (by kernel_rfl) w b o v
theorem sz_58 (w : World) (b o : Nat) (v : Value) : storeOf Tryz.prog 58 w ⟨b,o,none⟩ v = (blk w b).bind fun x => stO w b o v x 1 := storeOf_n (by kernel_rfl) w b o v
theorem sz_76 (w : World) (b o : Nat) (v : Value) : storeOf Tryz.prog 76 w ⟨b,o,none⟩ v = (blk w b).bind fun x => stO w b o v x 1 := storeOf_n (by kernel_rfl) w b o v
theorem sz_78 (w : World) (b o : Nat) (v : Value) : storeOf Tryz.prog 78 w ⟨b,o,none⟩ v = (blk w b).bind fun x => stO w b o v x 1 := storeOf_n (by kernel_rfl) w b o v
theorem sz_86 (w : World) (b o : Nat) (v : Value) : storeOf Tryz.prog 86 w ⟨b,o,none⟩ v = (blk w b).bind fun x => stO w b o v x 1 := storeOf_n (by kernel_rfl) w b o v
theorem z_103 : zeroOf Tryz.prog 103 = some #[.slice none 0 0,.bool false] := nr (by kernel_rfl)
theorem z_31 : zeroOf Tryz.prog 31 = some #[.slice none 0 0,.int .i64 0] := nr (by kernel_rfl)
theorem z_63 : zeroOf Tryz.prog 63 = some #[.int .i16 0,.int .i32 0,.slice none 0 0,.pointer none,.map none] := nr (by kernel_rfl)
theorem z_92 : zeroOf Tryz.prog 92 = some #[.string ByteArray.empty,.int .i32 0,.map none] := nr (by kernel_rfl)
attribute [go_sem] ca_12 ca_13 ca_14 ca_15 ca_17 ca_18 ca_19 ca_21 ca_22 ca_31 ca_33 ca_34 ca_36 ca_37 ca_38 ca_39 ca_4 ca_40 ca_41 ca_43 ca_44 ca_5 ca_54 ca_55 ca_56 ca_57 ca_58 ca_6 ca_60 ca_61 ca_62 ca_63 ca_64 ca_65 ca_66 ca_67 ca_68 ca_69 ca_7 ca_70 ca_71 ca_72 ca_73 ca_8 ca_9 es_57 es_78 es_86 fo_63_0 fo_63_1 fo_63_2 fo_63_3 fo_63_4 fo_80_0 fo_80_1 fo_80_2 fo_80_3 fo_80_4 fo_80_5 fo_80_6 fo_88_0 fo_88_1 fo_88_2 fo_88_3 fo_88_4 fo_88_5 fo_88_6 fo_88_7 fo_88_8 fo_88_9 fo_92_0 fo_92_1 fo_92_2 if_50 ld_21 ld_31 ld_40 ld_57 ld_58 ld_76 ld_78 ld_86 pl_103 pl_31 pl_45 pt_58 se_29 se_86 sl_57 sl_78 sl_86 sz_103 sz_21 sz_31 sz_40 sz_57 sz_58 sz_76 sz_78 sz_86 z_103 z_31 z_63 z_92
end Ms

namespace Ms
open Go
abbrev qZ5 : Array Value := #[.int .i64 0,.slice none 0 0,.bool false,.slice none 0 0,.slice none 0 0]
end Ms

namespace Ms
open Go.World renaming size_alloc → qI
open Ms renaming size_wr → qJ,size_drew → qK,not_noB → qL
open W renaming seqR → qA,seq → qB,regR → qC,condK → qD,block → qE,skip → qF,ret → qG,exit → qH
open Nat renaming reduceEqDiff → n0,reduceAdd → n1,reduceMul → n2,reduceSub → n3,reduceLT → n4,reduceLeDiff → n5
open Int renaming reduceEq → i0,reduceLT → i1,reduceLE → i2,reduceNeg → i3,reduceAdd → i4,reduceSub → i5,reduceMul → i6,reduceToNat → i7
set_option maxRecDepth 8000
open Go Go.Proofs Go.Shelf
attribute [local congr] W_congr WPsq_congr WPp_congr optK_congr addrK_congr intK_congr boolK_congr sliceK_congr tupleK_congr funcK_congr Fn_congr rawK_congr takeK_congr stepK_congr convK_congr aggK_congr

def fX0_0 : Fld := .mk 2 0 (-1) (-1) (-1) 0 0 []
def fX0_1 : Fld := .mk 3 0 (-1) (-1) (-1) 0 0 []
def fX0_2 : Fld := .mk 3 0 (-1) (-1) (-1) 0 0 []
def fX0_3 : Fld := .mk 3 0 (-1) (-1) (-1) (-1) 0 []
def fX0_4 : Fld := .mk 11 0 (-1) (-1) (-1) 0 3 []
def fX0_5 : Fld := .mk 11 0 (-1) (-1) (-1) 0 3 []
def fX0_6 : Fld := .mk 11 0 (-1) (-1) (-1) 0 3 []
def fX0_7 : Fld := .mk 11 0 (-1) (-1) (-1) 0 3 []
def fX0_8 : Fld := .mk 11 0 (-1) (-1) (-1) 0 3 []
def fs_X0 : List Fld := [fX0_0,fX0_1,fX0_2,fX0_3,fX0_4,fX0_5,fX0_6,fX0_7,fX0_8]
def fX2_0 : Fld := .mk 2 0 (-1) (-1) (-1) 0 0 []
def fX2_1 : Fld := .mk 8 0 (-1) 0 (-1) 0 0 []
def fX2_2 : Fld := .mk 7 0 (-1) (-1) (-1) 0 0 []
def fX2_3 : Fld := .mk 0 0 (-1) (-1) (-1) 0 0 []
def fX2_4 : Fld := .mk 11 0 (-1) (-1) (-1) 0 10 fs_X0
def fX2_5 : Fld := .mk 3 0 (-1) (-1) (-1) (-2147483648) 0 []
def fs_X2 : List Fld := [fX2_0,fX2_1,fX2_2,fX2_3,fX2_4,fX2_5]
def fX1_0 : Fld := .mk 8 0 (-1) (-1) (-1) 0 0 []
def fX1_1 : Fld := .mk 3 0 (-1) (-1) (-1) 0 0 []
def fs_X1 : List Fld := [fX1_0,fX1_1]
def fQ_0 : Fld := .mk 3 0 (-1) (-1) (-1) 0 0 []
def fQ_1 : Fld := .mk 11 0 (-1) (-1) (-1) 0 10 fs_X2
def fQ_2 : Fld := .mk 10 0 (-1) 0 (-1) 0 0 fs_X1
def fs_Q : List Fld := [fQ_0,fQ_1,fQ_2]

set_option maxHeartbeats 4000000 in
theorem cX0_fn (w : World) : Fn Tryz.prog 22 #[] w fun r w' => FldsV (fun b => w.heap.size ≤ b) w' r fs_X0 ∧ Ext w w' := by
  refine fn_of_W Tryz.func22 rfl Tryz.results22 Tryz.ntmps22 rfl ?_
  repeat ((first | refine qA rfl ?_|apply qB|refine qC rfl ?_|apply qD|apply qE|apply qF|apply qG|apply qH);try simp (maxSteps:=1000000)(disch:=(first|omega|(simp only [qI,qJ,qK]<;>omega)|exact qL _)) only [go_sem,↓reduceIte,n0,reduceCtorEq,n1,n2,n3,n4,n5,i0,i1,i2,i3,i4,i5,i6,i7,fill_fld,fillN_nil,fillN_int,fillN_slice])
  repeat ((first | refine qA rfl ?_|apply qB|refine qC rfl ?_|apply qD|apply qE|apply qF|apply qG|apply qH);try simp (maxSteps:=1000000)(disch:=(first|omega|(simp only [qI,qJ,qK]<;>omega)|exact qL _)) only [go_sem,↓reduceIte,n0,reduceCtorEq,n1,n2,n3,n4,n5,i0,i1,i2,i3,i4,i5,i6,i7,fill_fld,fillN_nil,fillN_int,fillN_slice])
  exact ⟨FldsV.litO (fs := fs_X0) (css := [[.int .i64 2,.int .i64 0,.int .i64 (-1),.int .i64 (-1),.int .i64 (-1),.int .i64 0,.int .i64 0,.slice none 0 0],[.int .i64 3,.int .i64 0,.int .i64 (-1),.int .i64 (-1),.int .i64 (-1),.int .i64 0,.int .i64 0,.slice none 0 0],[.int .i64 3,.int .i64 0,.int .i64 (-1),.int .i64 (-1),.int .i64 (-1),.int .i64 0,.int .i64 0,.slice none 0 0],[.int .i64 3,.int .i64 0,.int .i64 (-1),.int .i64 (-1),.int .i64 (-1),.int .i64 (-1),.int .i64 0,.slice none 0 0],[.int .i64 11,.int .i64 0,.int .i64 (-1),.int .i64 (-1),.int .i64 (-1),.int .i64 0,.int .i64 3,.slice none 0 0],[.int .i64 11,.int .i64 0,.int .i64 (-1),.int .i64 (-1),.int .i64 (-1),.int .i64 0,.int .i64 3,.slice none 0 0],[.int .i64 11,.int .i64 0,.int .i64 (-1),.int .i64 (-1),.int .i64 (-1),.int .i64 0,.int .i64 3,.slice none 0 0],[.int .i64 11,.int .i64 0,.int .i64 (-1),.int .i64 (-1),.int .i64 (-1),.int .i64 0,.int .i64 3,.slice none 0 0],[.int .i64 11,.int .i64 0,.int .i64 (-1),.int .i64 (-1),.int .i64 (-1),.int .i64 0,.int .i64 3,.slice none 0 0]]) (T := 45) (fr := (0,0)) (by first | omega | (simp only [World.size_alloc];omega)) (by first | (simp (maxSteps:=1000000)(disch:=(first|omega|(simp only [qI,qJ,qK]<;>omega)|exact qL _)) only [go_sem,↓reduceIte,n0,reduceCtorEq,n1,n2,n3,n4,n5,i0,i1,i2,i3,i4,i5,i6,i7];rfl) | rfl) (by simp) (All2.cons (FldC.intro (kind := 2) (FldsV.none _ _)) (All2.cons (FldC.intro (kind := 3) (FldsV.none _ _)) (All2.cons (FldC.intro (kind := 3) (FldsV.none _ _)) (All2.cons (FldC.intro (kind := 3) (FldsV.none _ _)) (All2.cons (FldC.intro (kind := 11) (FldsV.none _ _)) (All2.cons (FldC.intro (kind := 11) (FldsV.none _ _)) (All2.cons (FldC.intro (kind := 11) (FldsV.none _ _)) (All2.cons (FldC.intro (kind := 11) (FldsV.none _ _)) (All2.cons (FldC.intro (kind := 11) (FldsV.none _ _)) All2.nil))))))))),(Upd.alloc (Upd.refl _ w) _)⟩

set_option maxHeartbeats 4000000 in
theorem cX2_fn (w : World) : Fn Tryz.prog 14 #[] w fun r w' => FldsV (fun b => w.heap.size ≤ b) w' r fs_X2 ∧ Ext w w' := by
  refine fn_of_W Tryz.func14 rfl Tryz.results14 Tryz.ntmps14 rfl ?_
  repeat ((first | refine qA rfl ?_|apply qB|refine qC rfl ?_|apply qD|apply qE|apply qF|apply qG|apply qH);try simp (maxSteps:=1000000)(disch:=(first|omega|(simp only [qI,qJ,qK]<;>omega)|exact qL _)) only [go_sem,↓reduceIte,n0,reduceCtorEq,n1,n2,n3,n4,n5,i0,i1,i2,i3,i4,i5,i6,i7,fill_fld,fillN_nil,fillN_int,fillN_slice])
  refine (cX0_fn _).mono ?_
  rintro r1 w1 ⟨hF1,hE1⟩
  obtain ⟨b1,k1,rfl,_⟩ := SlR.shape hF1
  have hz1 := hE1.size
  have hD1 : Ext w w1 := Upd.trans (Upd.refl _ w) hE1
  simp (maxSteps:=1000000)(disch:=(first|omega|(simp only [qI,qJ,qK]<;>omega)|exact qL _)) only [go_sem,↓reduceIte,n0,reduceCtorEq,n1,n2,n3,n4,n5,i0,i1,i2,i3,i4,i5,i6,i7,fill_fld,fillN_nil,fillN_int,fillN_slice]
  repeat ((first | refine qA rfl ?_|apply qB|refine qC rfl ?_|apply qD|apply qE|apply qF|apply qG|apply qH);try simp (maxSteps:=1000000)(disch:=(first|omega|(simp only [qI,qJ,qK]<;>omega)|exact qL _)) only [go_sem,↓reduceIte,n0,reduceCtorEq,n1,n2,n3,n4,n5,i0,i1,i2,i3,i4,i5,i6,i7,fill_fld,fillN_nil,fillN_int,fillN_slice])
  exact ⟨FldsV.litO (fs := fs_X2) (css := [[.int .i64 2,.int .i64 0,.int .i64 (-1),.int .i64 (-1),.int .i64 (-1),.int .i64 0,.int .i64 0,.slice none 0 0],[.int .i64 8,.int .i64 0,.int .i64 (-1),.int .i64 0,.int .i64 (-1),.int .i64 0,.int .i64 0,.slice none 0 0],[.int .i64 7,.int .i64 0,.int .i64 (-1),.int .i64 (-1),.int .i64 (-1),.int .i64 0,.int .i64 0,.slice none 0 0],[.int .i64 0,.int .i64 0,.int .i64 (-1),.int .i64 (-1),.int .i64 (-1),.int .i64 0,.int .i64 0,.slice none 0 0],[.int .i64 11,.int .i64 0,.int .i64 (-1),.int .i64 (-1),.int .i64 (-1),.int .i64 0,.int .i64 10,.slice b1 fs_X0.length k1],[.int .i64 3,.int .i64 0,.int .i64 (-1),.int .i64 (-1),.int .i64 (-1),.int .i64 (-2147483648),.int .i64 0,.slice none 0 0]]) (T := 45) (fr := (0,0)) (by first | omega | (simp only [World.size_alloc];omega)) (by first | (simp (maxSteps:=1000000)(disch:=(first|omega|(simp only [qI,qJ,qK]<;>omega)|exact qL _)) only [go_sem,↓reduceIte,n0,reduceCtorEq,n1,n2,n3,n4,n5,i0,i1,i2,i3,i4,i5,i6,i7];rfl) | rfl) (by simp) (All2.cons (FldC.intro (kind := 2) (FldsV.none _ _)) (All2.cons (FldC.intro (kind := 8) (FldsV.none _ _)) (All2.cons (FldC.intro (kind := 7) (FldsV.none _ _)) (All2.cons (FldC.intro (kind := 0) (FldsV.none _ _)) (All2.cons (FldC.intro (kind := 11) ((hF1.keep (Upd.keeps (S := fun _ => False) (Upd.alloc (Upd.refl _ _) _) fun _ _ _ h => h)).weaken fun b _ hb => by have hq : _ ≤ b := hb;omega)) (All2.cons (FldC.intro (kind := 3) (FldsV.none _ _)) All2.nil)))))),(Upd.alloc hD1 _)⟩

set_option maxHeartbeats 4000000 in
theorem cX1_fn (w : World) : Fn Tryz.prog 15 #[] w fun r w' => FldsV (fun b => w.heap.size ≤ b) w' r fs_X1 ∧ Ext w w' := by
  refine fn_of_W Tryz.func15 rfl Tryz.results15 Tryz.ntmps15 rfl ?_
  repeat ((first | refine qA rfl ?_|apply qB|refine qC rfl ?_|apply qD|apply qE|apply qF|apply qG|apply qH);try simp (maxSteps:=1000000)(disch:=(first|omega|(simp only [qI,qJ,qK]<;>omega)|exact qL _)) only [go_sem,↓reduceIte,n0,reduceCtorEq,n1,n2,n3,n4,n5,i0,i1,i2,i3,i4,i5,i6,i7,fill_fld,fillN_nil,fillN_int,fillN_slice])
  repeat ((first | refine qA rfl ?_|apply qB|refine qC rfl ?_|apply qD|apply qE|apply qF|apply qG|apply qH);try simp (maxSteps:=1000000)(disch:=(first|omega|(simp only [qI,qJ,qK]<;>omega)|exact qL _)) only [go_sem,↓reduceIte,n0,reduceCtorEq,n1,n2,n3,n4,n5,i0,i1,i2,i3,i4,i5,i6,i7,fill_fld,fillN_nil,fillN_int,fillN_slice])
  exact ⟨FldsV.litO (fs := fs_X1) (css := [[.int .i64 8,.int .i64 0,.int .i64 (-1),.int .i64 (-1),.int .i64 (-1),.int .i64 0,.int .i64 0,.slice none 0 0],[.int .i64 3,.int .i64 0,.int .i64 (-1),.int .i64 (-1),.int .i64 (-1),.int .i64 0,.int .i64 0,.slice none 0 0]]) (T := 45) (fr := (0,0)) (by first | omega | (simp only [World.size_alloc];omega)) (by first | (simp (maxSteps:=1000000)(disch:=(first|omega|(simp only [qI,qJ,qK]<;>omega)|exact qL _)) only [go_sem,↓reduceIte,n0,reduceCtorEq,n1,n2,n3,n4,n5,i0,i1,i2,i3,i4,i5,i6,i7];rfl) | rfl) (by simp) (All2.cons (FldC.intro (kind := 8) (FldsV.none _ _)) (All2.cons (FldC.intro (kind := 3) (FldsV.none _ _)) All2.nil)),(Upd.alloc (Upd.refl _ w) _)⟩

set_option maxHeartbeats 4000000 in
theorem cQ_fn (w : World) : Fn Tryz.prog 6 #[] w fun r w' => (∃ vs,r = .agg #[vs,.int .i64 0] ∧ FldsV (fun b => w.heap.size ≤ b) w' vs fs_Q) ∧ Ext w w' := by
  refine fn_of_W Tryz.func6 rfl Tryz.results6 Tryz.ntmps6 rfl ?_
  repeat ((first | refine qA rfl ?_|apply qB|refine qC rfl ?_|apply qD|apply qE|apply qF|apply qG|apply qH);try simp (maxSteps:=1000000)(disch:=(first|omega|(simp only [qI,qJ,qK]<;>omega)|exact qL _)) only [go_sem,↓reduceIte,n0,reduceCtorEq,n1,n2,n3,n4,n5,i0,i1,i2,i3,i4,i5,i6,i7,fill_fld,fillN_nil,fillN_int,fillN_slice])
  have hz0 : (w.alloc (.cells #[.slice none 0 0,.int .i64 0] 31)).heap.size = w.heap.size + 1 := World.size_alloc _ _
  refine (cX2_fn _).mono ?_
  rintro r1 w1 ⟨hF1,hE1⟩
  obtain ⟨b1,k1,rfl,_⟩ := SlR.shape hF1
  have hz1 := hE1.size
  have hD1 : Ext w w1 := Upd.trans (Upd.alloc (Upd.refl _ _) _) hE1
  have hb1 : blk w1 w.heap.size = some (#[.slice none 0 0,.int .i64 0],31,(0,0)) := hE1.blk_some (blk_alloc_new rfl) id
  simp (maxSteps:=1000000)(disch:=(first|omega|(simp only [qI,qJ,qK]<;>omega)|exact qL _)) only [go_sem,↓reduceIte,n0,reduceCtorEq,n1,n2,n3,n4,n5,i0,i1,i2,i3,i4,i5,i6,i7,fill_fld,fillN_nil,fillN_int,fillN_slice,hb1]
  refine (cX1_fn _).mono ?_
  rintro r2 w2 ⟨hF2,hE2⟩
  obtain ⟨b2,k2,rfl,_⟩ := SlR.shape hF2
  have hz2 := hE2.size
  have hD2 : Ext w w2 := Upd.trans hD1 hE2
  have hb2 : blk w2 w.heap.size = some (#[.slice none 0 0,.int .i64 0],31,(0,0)) := hE2.blk_some hb1 id
  simp (maxSteps:=1000000)(disch:=(first|omega|(simp only [qI,qJ,qK]<;>omega)|exact qL _)) only [go_sem,↓reduceIte,n0,reduceCtorEq,n1,n2,n3,n4,n5,i0,i1,i2,i3,i4,i5,i6,i7,fill_fld,fillN_nil,fillN_int,fillN_slice,hb2]
  have hvl := blk_lt hb2
  repeat ((first | refine qA rfl ?_|apply qB|refine qC rfl ?_|apply qD|apply qE|apply qF|apply qG|apply qH);try simp (maxSteps:=1000000)(disch:=(first|omega|(simp only [qI,qJ,qK]<;>omega)|exact qL _)) only [go_sem,↓reduceIte,n0,reduceCtorEq,n1,n2,n3,n4,n5,i0,i1,i2,i3,i4,i5,i6,i7,fill_fld,fillN_nil,fillN_int,fillN_slice,hb2])
  exact ⟨⟨_,rfl,FldsV.litO (fs := fs_Q) (css := [[.int .i64 3,.int .i64 0,.int .i64 (-1),.int .i64 (-1),.int .i64 (-1),.int .i64 0,.int .i64 0,.slice none 0 0],[.int .i64 11,.int .i64 0,.int .i64 (-1),.int .i64 (-1),.int .i64 (-1),.int .i64 0,.int .i64 10,.slice b1 fs_X2.length k1],[.int .i64 10,.int .i64 0,.int .i64 (-1),.int .i64 0,.int .i64 (-1),.int .i64 0,.int .i64 0,.slice b2 fs_X1.length k2]]) (T := 45) (fr := (0,0)) (by first | omega | (simp only [World.size_alloc];omega)) (by first | (simp (maxSteps:=1000000)(disch:=(first|omega|(simp only [qI,qJ,qK]<;>omega)|exact qL _)) only [go_sem,↓reduceIte,n0,reduceCtorEq,n1,n2,n3,n4,n5,i0,i1,i2,i3,i4,i5,i6,i7];rfl) | rfl) (by simp) (All2.cons (FldC.intro (kind := 3) (FldsV.none _ _)) (All2.cons (FldC.intro (kind := 11) (hF1.stay (B := w.heap.size) (Upd.trans (hE2.mono fun _ h => h.elim) (Upd.wr (Upd.alloc (Upd.refl _ _) _) _ _ (.inr rfl))) (by omega) (fun b hb => by omega))) (All2.cons (FldC.intro (kind := 10) (hF2.stay (B := w.heap.size) (Upd.wr (Upd.alloc (Upd.refl _ _) _) _ _ (.inr rfl)) (by omega) (fun b hb => by omega))) All2.nil)))⟩,(Upd.wr (Upd.alloc hD2 _) _ _ (.inl (Nat.le_refl _)))⟩

theorem DefaultQ_fn (w : World) {vb : Nat} {c0 c1 c2 c3 c4 : Value} (hb : blk w vb = some (#[c0,c1,c2,c3,c4],63,(0,0))) :
    Fn Tryz.prog 21 #[.pointer (some ⟨vb,0,none⟩)] w fun _ w' => blk w' vb = some (#[c0,c1,c2,c3,c4],63,(0,0)) ∧ Upd (fun b => b = vb) w w' := by
  have hvl := blk_lt hb
  refine fn_of_W Tryz.func21 rfl Tryz.results21 Tryz.ntmps21 rfl ?_
  repeat ((first | refine qA rfl ?_|apply qB|refine qC rfl ?_|apply qD|apply qE|apply qF|apply qG|apply qH);try simp (maxSteps:=1000000)(disch:=(first|omega|(simp only [qI,qJ,qK]<;>omega)|exact qL _)) only [go_sem,↓reduceIte,n0,reduceCtorEq,n1,n2,n3,n4,n5,i0,i1,i2,i3,i4,i5,i6,i7,hb])
  first | exact Upd.refl _ _ | exact ⟨hb,Upd.refl _ _⟩

theorem NewPtrQ_fn (w : World) : Fn Tryz.prog 12 #[] w fun r w' => r = .pointer (some ⟨w.heap.size,0,none⟩) ∧ blk w' w.heap.size = some (#[.int .i16 0,.int .i32 0,.slice none 0 0,.pointer none,.map none],63,(0,0)) ∧ Ext w w' := by
  refine fn_of_W Tryz.func12 rfl Tryz.results12 Tryz.ntmps12 rfl ?_
  repeat ((first | refine qA rfl ?_|apply qB|refine qC rfl ?_|apply qD|apply qE|apply qF|apply qG|apply qH);try simp (maxSteps:=1000000)(disch:=(first|omega|(simp only [qI,qJ,qK]<;>omega)|exact qL _)) only [go_sem,↓reduceIte,n0,reduceCtorEq,n1,n2,n3,n4,n5,i0,i1,i2,i3,i4,i5,i6,i7])
  refine (DefaultQ_fn _ (blk_alloc_new rfl)).mono ?_
  rintro _ w1 ⟨hb1,hU1⟩
  have hz := World.size_alloc w (.cells #[.int .i16 0,.int .i32 0,.slice none 0 0,.pointer none,.map none] 63)
  repeat ((first | refine qA rfl ?_|apply qB|refine qC rfl ?_|apply qD|apply qE|apply qF|apply qG|apply qH);try simp (maxSteps:=1000000)(disch:=(first|omega|(simp only [qI,qJ,qK]<;>omega)|exact qL _)) only [go_sem,↓reduceIte,n0,reduceCtorEq,n1,n2,n3,n4,n5,i0,i1,i2,i3,i4,i5,i6,i7])
  exact ⟨hb1,(Upd.alloc (Upd.refl _ _) _ : Ext w _).more hU1 fun b hb h => by omega⟩

theorem SetVersionQ_fn (w : World) {vb : Nat} {c0 c1 c2 c3 c4 : Value} (n : Int) (hb : blk w vb = some (#[c0,c1,c2,c3,c4],63,(0,0))) :
    Fn Tryz.prog 17 #[.pointer (some ⟨vb,0,none⟩),.int .i16 n] w fun _ w' => blk w' vb = some (#[.int .i16 n,c1,c2,c3,c4],63,(0,0)) ∧ Upd (fun b => b = vb) w w' := by
  have hvl := blk_lt hb
  refine fn_of_W Tryz.func17 rfl Tryz.results17 Tryz.ntmps17 rfl ?_
  repeat ((first | refine qA rfl ?_|apply qB|refine qC rfl ?_|apply qD|apply qE|apply qF|apply qG|apply qH);try simp (maxSteps:=1000000)(disch:=(first|omega|(simp only [qI,qJ,qK]<;>omega)|exact qL _)) only [go_sem,↓reduceIte,n0,reduceCtorEq,n1,n2,n3,n4,n5,i0,i1,i2,i3,i4,i5,i6,i7,hb])
  first | exact Upd.wr (Upd.refl _ _) _ _ (.inr rfl) | exact ⟨by simp (maxSteps:=1000000)(disch:=(first|omega|(simp only [qI,qJ,qK]<;>omega)|exact qL _)) only [go_sem,↓reduceIte,n0,reduceCtorEq,n1,n2,n3,n4,n5,i0,i1,i2,i3,i4,i5,i6,i7,hb],Upd.wr (Upd.refl _ _) _ _ (.inr rfl)⟩

theorem MaxQ_fn (w : World) : Fn Tryz.prog 5 #[] w fun r w' => r = .int .i64 0 ∧ Ext w w' := by
  refine fn_of_W Tryz.func5 rfl Tryz.results5 Tryz.ntmps5 rfl ?_
  repeat ((first | refine qA rfl ?_|apply qB|refine qC rfl ?_|apply qD|apply qE|apply qF|apply qG|apply qH);try simp (maxSteps:=1000000)(disch:=(first|omega|(simp only [qI,qJ,qK]<;>omega)|exact qL _)) only [go_sem,↓reduceIte,n0,reduceCtorEq,n1,n2,n3,n4,n5,i0,i1,i2,i3,i4,i5,i6,i7])
  refine (NewPtrQ_fn w).mono ?_
  rintro _ w1 ⟨rfl,hb1,hE1⟩
  repeat ((first | refine qA rfl ?_|apply qB|refine qC rfl ?_|apply qD|apply qE|apply qF|apply qG|apply qH);try simp (maxSteps:=1000000)(disch:=(first|omega|(simp only [qI,qJ,qK]<;>omega)|exact qL _)) only [go_sem,↓reduceIte,n0,reduceCtorEq,n1,n2,n3,n4,n5,i0,i1,i2,i3,i4,i5,i6,i7])
  have hm : Fn Tryz.prog 13 #[.pointer (some ⟨w.heap.size,0,none⟩)] w1 fun r w' => r = .int .i16 0 ∧ w' = w1 := by
    refine fn_of_W Tryz.func13 rfl Tryz.results13 Tryz.ntmps13 rfl ?_
    repeat ((first | refine qA rfl ?_|apply qB|refine qC rfl ?_|apply qD|apply qE|apply qF|apply qG|apply qH);try simp (maxSteps:=1000000)(disch:=(first|omega|(simp only [qI,qJ,qK]<;>omega)|exact qL _)) only [go_sem,↓reduceIte,n0,reduceCtorEq,n1,n2,n3,n4,n5,i0,i1,i2,i3,i4,i5,i6,i7])
  refine hm.mono ?_
  rintro _ w2 ⟨rfl,rfl⟩
  have ew : IntKind.i64.wrap (0 : Int) = 0 := i64_wrap (by decide)
  repeat ((first | refine qA rfl ?_|apply qB|refine qC rfl ?_|apply qD|apply qE|apply qF|apply qG|apply qH);try simp (maxSteps:=1000000)(disch:=(first|omega|(simp only [qI,qJ,qK]<;>omega)|exact qL _)) only [go_sem,↓reduceIte,n0,reduceCtorEq,n1,n2,n3,n4,n5,i0,i1,i2,i3,i4,i5,i6,i7,ew])
  exact hE1

def frX0_6 : Fld := .mk 11 0 (-1) 0 (-1) 0 3 []
def frX0_7 : Fld := .mk 11 0 (-1) 0 (-1) 0 3 []
def fsr_X0 : List Fld := [fX0_0,fX0_1,fX0_2,fX0_3,fX0_4,fX0_5,frX0_6,frX0_7,fX0_8]
def frX2_4 : Fld := .mk 11 0 (-1) (-1) (-1) 0 10 fsr_X0
def fsr_X2 : List Fld := [fX2_0,fX2_1,fX2_2,fX2_3,frX2_4,fX2_5]
def frQ_1 : Fld := .mk 11 0 (-1) (-1) (-1) 0 10 fsr_X2
def fsr_Q : List Fld := [fQ_0,frQ_1,fQ_2]

theorem utQ_57 : Tryz.prog.underlying 57 = some (.slice 80) := by kernel_rfl
theorem utQ_21 : Tryz.prog.underlying 21 = some (.int .i32) := by kernel_rfl
theorem inQ_80 : (Tryz.prog.info? 80).map (fun i => (i.size,i.bytes,i.zero.map (·.cells))) = some (22,80,some #[.int .i16 0,.pointer none,.int .u8 0,.int .u8 0,.int .u8 0,.int .u8 0,.int .u8 0,.int .u8 0,.int .u8 0,.int .u8 0,.int .u8 0,.int .u8 0,.int .u8 0,.int .u8 0,.int .u8 0,.int .u8 0,.int .u8 0,.int .u8 0,.bool false,.slice none 0 0,.int .i32 0,.map none]) := by kernel_rfl
theorem utQ_78 : Tryz.prog.underlying 78 = some (.slice 88) := by kernel_rfl
theorem inQ_88 : (Tryz.prog.info? 88).map (fun i => (i.size,i.bytes,i.zero.map (·.cells))) = some (10,144,some #[.int .i16 0,.int .i32 0,.int .i32 0,.int .i32 0,.slice none 0 0,.slice none 0 0,.slice none 0 0,.slice none 0 0,.slice none 0 0,.map none]) := by kernel_rfl
theorem utQ_86 : Tryz.prog.underlying 86 = some (.slice 21) := by kernel_rfl
theorem inQ_21 : (Tryz.prog.info? 21).map (fun i => (i.size,i.bytes,i.zero.map (·.cells))) = some (1,4,some #[.int .i32 0]) := by kernel_rfl

theorem DefaultEX2_fn (w : World) {R k : Nat} {A B : List Value} {c0 c1 c2 c3 c4 c5 c6 c7 c8 c9 c10 c11 c12 c13 c14 c15 c16 c17 c18 c19 c20 c21 : Value} {E : TypeId} (hb : blk w R = some ((A ++ ([c0,c1,c2,c3,c4,c5,c6,c7,c8,c9,c10,c11,c12,c13,c14,c15,c16,c17,c18,c19,c20,c21] ++ B)).toArray,E,(0,0))) (hA : A.length = k) :
    Fn Tryz.prog 58 #[.pointer (some ⟨R,k,none⟩)] w fun _ w' => blk w' R = some ((A ++ ([c0,c1,c2,c3,c4,c5,c6,c7,c8,c9,c10,c11,c12,c13,c14,c15,c16,c17,c18,c19,.int .i32 (-2147483648),c21] ++ B)).toArray,E,(0,0)) ∧ Upd (fun b => b = R) w w' := by
  have hRl := blk_lt hb
  obtain ⟨X,hX⟩ : ∃ X : Array Value,X = (A ++ (([c0,c1,c2,c3,c4,c5,c6,c7,c8,c9,c10,c11,c12,c13,c14,c15,c16,c17,c18,c19,c20,c21] : List Value) ++ B)).toArray := ⟨_,rfl⟩
  have hXs : k + 22 ≤ X.size := by rw [hX];simp only [List.size_toArray,List.length_append,List.length_cons,List.length_nil,hA];omega
  have hb' : blk w R = some (X,E,(0,0)) := by rw [hX];exact hb
  refine fn_of_W Tryz.func58 rfl Tryz.results58 Tryz.ntmps58 rfl ?_
  have hq0 : k + 20 + 1 ≤ X.size := by omega
  have hp0 : k + 21 ≤ X.size := by omega
  repeat ((first | refine qA rfl ?_|apply qB|refine qC rfl ?_|apply qD|apply qE|apply qF|apply qG|apply qH);try simp (maxSteps:=1000000)(disch:=(first|omega|(simp only [qI,qJ,qK]<;>omega)|exact qL _)) only [go_sem,↓reduceIte,n0,reduceCtorEq,n1,n2,n3,n4,n5,i0,i1,i2,i3,i4,i5,i6,i7,hb',Array.size_setIfInBounds,hq0,hp0])
  have h0 := el_blk (o := 20) (vs := [.int .i32 (-2147483648)]) hb hA (Nat.le_of_ble_eq_true rfl)
  first | exact ⟨h0,(Upd.wr (Upd.refl (fun b => b = R) _) _ _ (.inr rfl))⟩ | (refine ⟨?_,(Upd.wr (Upd.refl (fun b => b = R) _) _ _ (.inr rfl))⟩;simp only [blk_wr_eq,hb',Option.map_some] at h0;exact h0)

theorem DefaultEX0_fn (w : World) {R k : Nat} {A B : List Value} {c0 c1 c2 c3 c4 c5 c6 c7 c8 c9 : Value} {E : TypeId} (hb : blk w R = some ((A ++ ([c0,c1,c2,c3,c4,c5,c6,c7,c8,c9] ++ B)).toArray,E,(0,0))) (hA : A.length = k) :
    Fn Tryz.prog 66 #[.pointer (some ⟨R,k,none⟩)] w fun _ w' => blk w' R = some ((A ++ ([c0,c1,c2,.int .i32 (-1),c4,c5,c6,c7,c8,c9] ++ B)).toArray,E,(0,0)) ∧ Upd (fun b => b = R) w w' := by
  have hRl := blk_lt hb
  obtain ⟨X,hX⟩ : ∃ X : Array Value,X = (A ++ (([c0,c1,c2,c3,c4,c5,c6,c7,c8,c9] : List Value) ++ B)).toArray := ⟨_,rfl⟩
  have hXs : k + 10 ≤ X.size := by rw [hX];simp only [List.size_toArray,List.length_append,List.length_cons,List.length_nil,hA];omega
  have hb' : blk w R = some (X,E,(0,0)) := by rw [hX];exact hb
  refine fn_of_W Tryz.func66 rfl Tryz.results66 Tryz.ntmps66 rfl ?_
  have hq0 : k + 3 + 1 ≤ X.size := by omega
  have hp0 : k + 4 ≤ X.size := by omega
  repeat ((first | refine qA rfl ?_|apply qB|refine qC rfl ?_|apply qD|apply qE|apply qF|apply qG|apply qH);try simp (maxSteps:=1000000)(disch:=(first|omega|(simp only [qI,qJ,qK]<;>omega)|exact qL _)) only [go_sem,↓reduceIte,n0,reduceCtorEq,n1,n2,n3,n4,n5,i0,i1,i2,i3,i4,i5,i6,i7,hb',Array.size_setIfInBounds,hq0,hp0])
  have h0 := el_blk (o := 3) (vs := [.int .i32 (-1)]) hb hA (Nat.le_of_ble_eq_true rfl)
  first | exact ⟨h0,(Upd.wr (Upd.refl (fun b => b = R) _) _ _ (.inr rfl))⟩ | (refine ⟨?_,(Upd.wr (Upd.refl (fun b => b = R) _) _ _ (.inr rfl))⟩;simp only [blk_wr_eq,hb',Option.map_some] at h0;exact h0)

theorem DefaultPX1_fn (w : World) {R k : Nat} {x : Blk} (hb : blk w R = some x) :
    Fn Tryz.prog 69 #[.pointer (some ⟨R,k,none⟩)] w fun _ w' => True ∧ w' = w := by
  refine fn_of_W Tryz.func69 rfl Tryz.results69 Tryz.ntmps69 rfl ?_
  repeat ((first | refine qA rfl ?_|apply qB|refine qC rfl ?_|apply qD|apply qE|apply qF|apply qG|apply qH);try simp (maxSteps:=1000000)(disch:=(first|omega|(simp only [qI,qJ,qK]<;>omega)|exact qL _)) only [go_sem,↓reduceIte,n0,reduceCtorEq,n1,n2,n3,n4,n5,i0,i1,i2,i3,i4,i5,i6,i7,hb])
  all_goals first | rfl | exact ⟨trivial,rfl⟩ | trivial
end Ms

