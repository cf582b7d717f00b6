/- A part of the proof: see the last text. -/
import Derived.Test.YtbbhfngjfihndaaGreatDoorC07
import Derived.Test.YtbbhfngjfihndaaGreatDoorC09
import Derived.Test.YtbbhfngjfihndaaGreatDoorC11
set_option linter.unusedSimpArgs false
set_option linter.unusedVariables false
namespace Ms
open Nat renaming reduceEqDiff → n0,reduceAdd → n1,reduceMul → n2,reduceSub → n3,reduceLT → n4,reduceLeDiff → n5
open Int renaming reduceEq → i0,reduceLT → i1,reduceLE → i2,reduceNeg → i3,reduceAdd → i4,reduceSub → i5,reduceMul → i6,reduceToNat → i7
set_option maxRecDepth 4000
open Go Go.Proofs
theorem ca_10 : callable Tryz.prog 10 = true := nr (by kernel_rfl)
theorem ca_101 : callable Tryz.prog 101 = true := nr (by kernel_rfl)
theorem ca_102 : callable Tryz.prog 102 = true := nr (by kernel_rfl)
theorem ca_103 : callable Tryz.prog 103 = true := nr (by kernel_rfl)
theorem ca_12 : callable Tryz.prog 12 = true := nr (by kernel_rfl)
theorem ca_13 : callable Tryz.prog 13 = true := nr (by kernel_rfl)
theorem ca_15 : callable Tryz.prog 15 = true := nr (by kernel_rfl)
theorem ca_16 : callable Tryz.prog 16 = true := nr (by kernel_rfl)
theorem ca_17 : callable Tryz.prog 17 = true := nr (by kernel_rfl)
theorem ca_18 : callable Tryz.prog 18 = true := nr (by kernel_rfl)
theorem ca_20 : callable Tryz.prog 20 = true := nr (by kernel_rfl)
theorem ca_21 : callable Tryz.prog 21 = true := nr (by kernel_rfl)
theorem ca_22 : callable Tryz.prog 22 = true := nr (by kernel_rfl)
theorem ca_25 : callable Tryz.prog 25 = true := nr (by kernel_rfl)
theorem ca_26 : callable Tryz.prog 26 = true := nr (by kernel_rfl)
theorem ca_35 : callable Tryz.prog 35 = true := nr (by kernel_rfl)
theorem ca_4 : callable Tryz.prog 4 = true := nr (by kernel_rfl)
theorem ca_44 : callable Tryz.prog 44 = true := nr (by kernel_rfl)
theorem ca_45 : callable Tryz.prog 45 = true := nr (by kernel_rfl)
theorem ca_46 : callable Tryz.prog 46 = true := nr (by kernel_rfl)
theorem ca_47 : callable Tryz.prog 47 = true := nr (by kernel_rfl)
theorem ca_48 : callable Tryz.prog 48 = true := nr (by kernel_rfl)
theorem ca_5 : callable Tryz.prog 5 = true := nr (by kernel_rfl)
theorem ca_50 : callable Tryz.prog 50 = true := nr (by kernel_rfl)
theorem ca_51 : callable Tryz.prog 51 = true := nr (by kernel_rfl)
theorem ca_52 : callable Tryz.prog 52 = true := nr (by kernel_rfl)
theorem ca_53 : callable Tryz.prog 53 = true := nr (by kernel_rfl)
theorem ca_54 : callable Tryz.prog 54 = true := nr (by kernel_rfl)
theorem ca_56 : callable Tryz.prog 56 = true := nr (by kernel_rfl)
theorem ca_57 : callable Tryz.prog 57 = true := nr (by kernel_rfl)
theorem ca_58 : callable Tryz.prog 58 = true := nr (by kernel_rfl)
theorem ca_59 : callable Tryz.prog 59 = true := nr (by kernel_rfl)
theorem ca_6 : callable Tryz.prog 6 = true := nr (by kernel_rfl)
theorem ca_7 : callable Tryz.prog 7 = true := nr (by kernel_rfl)
theorem ca_8 : callable Tryz.prog 8 = true := nr (by kernel_rfl)
theorem ca_9 : callable Tryz.prog 9 = true := nr (by kernel_rfl)
theorem ca_96 : callable Tryz.prog 96 = true := nr (by kernel_rfl)
theorem ca_97 : callable Tryz.prog 97 = true := nr (by kernel_rfl)
theorem ca_98 : callable Tryz.prog 98 = true := nr (by kernel_rfl)
theorem ca_99 : callable Tryz.prog 99 = true := nr (by kernel_rfl)
theorem es_101 : elemSize Tryz.prog 101 = some 1 := nr (by kernel_rfl)
theorem es_107 : elemSize Tryz.prog 107 = some 3 := nr (by kernel_rfl)
theorem es_63 : elemSize Tryz.prog 63 = some 3 := nr (by kernel_rfl)
theorem es_64 : elemSize Tryz.prog 64 = some 6 := nr (by kernel_rfl)
theorem fo_103_0 : fieldOff Tryz.prog 103 0 = some 0 := nr (by kernel_rfl)
theorem fo_103_1 : fieldOff Tryz.prog 103 1 = some 1 := nr (by kernel_rfl)
theorem fo_103_2 : fieldOff Tryz.prog 103 2 = some 2 := nr (by kernel_rfl)
theorem fo_109_0 : fieldOff Tryz.prog 109 0 = some 0 := nr (by kernel_rfl)
theorem fo_109_1 : fieldOff Tryz.prog 109 1 = some 1 := nr (by kernel_rfl)
theorem fo_109_2 : fieldOff Tryz.prog 109 2 = some 2 := nr (by kernel_rfl)
theorem fo_109_3 : fieldOff Tryz.prog 109 3 = some 3 := nr (by kernel_rfl)
theorem fo_109_4 : fieldOff Tryz.prog 109 4 = some 4 := nr (by kernel_rfl)
theorem fo_109_5 : fieldOff Tryz.prog 109 5 = some 5 := nr (by kernel_rfl)
theorem fo_111_0 : fieldOff Tryz.prog 111 0 = some 0 := nr (by kernel_rfl)
theorem fo_111_1 : fieldOff Tryz.prog 111 1 = some 1 := nr (by kernel_rfl)
theorem fo_111_2 : fieldOff Tryz.prog 111 2 = some 2 := nr (by kernel_rfl)
theorem fo_69_0 : fieldOff Tryz.prog 69 0 = some 0 := nr (by kernel_rfl)
theorem fo_69_1 : fieldOff Tryz.prog 69 1 = some 1 := nr (by kernel_rfl)
theorem fo_69_2 : fieldOff Tryz.prog 69 2 = some 2 := nr (by kernel_rfl)
theorem fo_69_3 : fieldOff Tryz.prog 69 3 = some 3 := nr (by kernel_rfl)
theorem fo_69_4 : fieldOff Tryz.prog 69 4 = some 4 := nr (by kernel_rfl)
theorem fo_69_5 : fieldOff Tryz.prog 69 5 = some 5 := nr (by kernel_rfl)
theorem fo_69_6 : fieldOff Tryz.prog 69 6 = some 6 := nr (by kernel_rfl)
theorem if_55 : isIfaceT Tryz.prog 55 = true := nr (by kernel_rfl)
theorem kn_46 : knownT Tryz.prog 46 = true := nr (by kernel_rfl)
theorem kn_9 : knownT Tryz.prog 9 = true := nr (by kernel_rfl)
theorem ld_101 (w : World) (b o : Nat) : loadOf Tryz.prog 101 w ⟨b,o,none⟩ = (blk w b).bind fun x => x.1[o]? := loadOf_one (by kernel_rfl) w b o
theorem ld_107 (w : World) (b o : Nat) : loadOf Tryz.prog 107 w ⟨b,o,none⟩ = (blk w b).bind fun x => x.1[o]? := loadOf_one (by kernel_rfl) w b o
theorem ld_21 (w : World) (b o : Nat) : loadOf Tryz.prog 21 w ⟨b,o,none⟩ = (blk w b).bind fun x => x.1[o]? := loadOf_one (by kernel_rfl) w b o
theorem ld_23 (w : World) (b o : Nat) : loadOf Tryz.prog 23 w ⟨b,o,none⟩ = (blk w b).bind fun x => cellsAt x.1 o 2 := loadOf_agg (by kernel_rfl) w b o
theorem ld_34 (w : World) (b o : Nat) : loadOf Tryz.prog 34 w ⟨b,o,none⟩ = (blk w b).bind fun x => cellsAt x.1 o 2 := loadOf_agg (by kernel_rfl) w b o
theorem ld_45 (w : World) (b o : Nat) : loadOf Tryz.prog 45 w ⟨b,o,none⟩ = (blk w b).bind fun x => x.1[o]? := loadOf_one (by kernel_rfl) w b o
theorem ld_63 (w : World) (b o : Nat) : loadOf Tryz.prog 63 w ⟨b,o,none⟩ = (blk w b).bind fun x => x.1[o]? := loadOf_one (by kernel_rfl) w b o
theorem ld_64 (w : World) (b o : Nat) : loadOf Tryz.prog 64 w ⟨b,o,none⟩ = (blk w b).bind fun x => x.1[o]? := loadOf_one (by kernel_rfl) w b o
theorem nif_46 : isIfaceT Tryz.prog 46 = false := nr (by kernel_rfl)
theorem pl_34 : placesOf Tryz.prog 34 = some [(0,1),(1,1)] := nr (by kernel_rfl)
theorem pl_50 : placesOf Tryz.prog 50 = some [(0,1),(1,1),(2,1),(3,1),(4,1),(5,1),(6,1),(7,1)] := nr (by kernel_rfl)
theorem pl_94 : placesOf Tryz.prog 94 = some [(0,1),(1,1)] := nr (by kernel_rfl)
theorem se_32 : slElem Tryz.prog 32 = some (50,8) := nr (by kernel_rfl)
theorem sl_101 : isSliceT Tryz.prog 101 = true := nr (by kernel_rfl)
theorem sl_107 : isSliceT Tryz.prog 107 = true := nr (by kernel_rfl)
theorem sl_63 : isSliceT Tryz.prog 63 = true := nr (by kernel_rfl)
theorem sl_64 : isSliceT Tryz.prog 64 = true := nr (by kernel_rfl)
theorem sz_101 (w : World) (b o : Nat) (v : Value) : storeOf Tryz.prog 101 w ⟨b,o,none⟩ v = (blk w b).bind fun x => stO w b o v x 1 := storeOf_n (by kernel_rfl) w b o v
theorem sz_107 (w : World) (b o : Nat) (v : Value) : storeOf Tryz.prog 107 w ⟨b,o,none⟩ v = (blk w b).bind fun x => stO w b o v x 1 := storeOf_n (by kernel_rfl) w b o v
theorem sz_2 (w : World) (b o : Nat) (v : Value) : storeOf Tryz.prog 2 w ⟨b,o,none⟩ v = (blk w b).bind fun x => stO w b o v x 1 := storeOf_n (by kernel_rfl) w b o v
theorem sz_21 (w : World) (b o : Nat) (v : Value) : storeOf Tryz.prog 21 w ⟨b,o,none⟩ v = (blk w b).bind fun x => stO w b o v x 1 := storeOf_n (by kernel_rfl) w b o v
theorem sz_34 (w : World) (b o : Nat) (v : Value) : storeOf Tryz.prog 34 w ⟨b,o,none⟩ v = (blk w b).bind fun x => stO w b o v x 2 := storeOf_n (by kernel_rfl) w b o v
theorem sz_45 (w : World) (b o : Nat) (v : Value) : storeOf Tryz.prog 45 w ⟨b,o,none⟩ v = (blk w b).bind fun x => stO w b o v x 1 := storeOf_n (by kernel_rfl) w b o v
theorem sz_63 (w : World) (b o : Nat) (v : Value) : storeOf Tryz.prog 63 w ⟨b,o,none⟩ v = (blk w b).bind fun x => stO w b o v x 1 := storeOf_n (by kernel_rfl) w b o v
theorem sz_64 (w : World) (b o : Nat) (v : Value) : storeOf Tryz.prog 64 w ⟨b,o,none⟩ v = (blk w b).bind fun x => stO w b o v x 1 := storeOf_n (by kernel_rfl) w b o v
theorem sz_9 (w : World) (b o : Nat) (v : Value) : storeOf Tryz.prog 9 w ⟨b,o,none⟩ v = (blk w b).bind fun x => stO w b o v x 1 := storeOf_n (by kernel_rfl) w b o v
theorem sz_94 (w : World) (b o : Nat) (v : Value) : storeOf Tryz.prog 94 w ⟨b,o,none⟩ v = (blk w b).bind fun x => stO w b o v x 2 := storeOf_n (by kernel_rfl) w b o v
theorem z_34 : zeroOf Tryz.prog 34 = some #[.slice none 0 0,.int .i64 0] := nr (by kernel_rfl)
theorem z_69 : zeroOf Tryz.prog 69 = some #[.int .i16 0,.string ByteArray.empty,.int .i64 0,.int .i16 0,.slice none 0 0,.slice none 0 0,.map none] := nr (by kernel_rfl)
theorem z_94 : zeroOf Tryz.prog 94 = some #[.slice none 0 0,.bool false] := nr (by kernel_rfl)
attribute [go_sem] ca_10 ca_101 ca_102 ca_103 ca_12 ca_13 ca_15 ca_16 ca_17 ca_18 ca_20 ca_21 ca_22 ca_25 ca_26 ca_35 ca_4 ca_44 ca_45 ca_46 ca_47 ca_48 ca_5 ca_50 ca_51 ca_52 ca_53 ca_54 ca_56 ca_57 ca_58 ca_59 ca_6 ca_7 ca_8 ca_9 ca_96 ca_97 ca_98 ca_99 es_101 es_107 es_63 es_64 fo_103_0 fo_103_1 fo_103_2 fo_109_0 fo_109_1 fo_109_2 fo_109_3 fo_109_4 fo_109_5 fo_111_0 fo_111_1 fo_111_2 fo_69_0 fo_69_1 fo_69_2 fo_69_3 fo_69_4 fo_69_5 fo_69_6 if_55 kn_46 kn_9 ld_101 ld_107 ld_21 ld_23 ld_34 ld_45 ld_63 ld_64 nif_46 pl_34 pl_50 pl_94 se_32 sl_101 sl_107 sl_63 sl_64 sz_101 sz_107 sz_2 sz_21 sz_34 sz_45 sz_63 sz_64 sz_9 sz_94 z_34 z_69 z_94
end Ms

namespace Ms
open Go
abbrev qZ5 : Array Value := #[.int .i64 0,.slice none 0 0,.bool false,.slice none 0 0,.slice none 0 0]
end Ms

namespace Ms
open Go.World renaming size_alloc → qI
open Ms renaming size_wr → qJ,size_drew → qK,not_noB → qL
open W renaming seqR → qA,seq → qB,regR → qC,condK → qD,block → qE,skip → qF,ret → qG,exit → qH
open Nat renaming reduceEqDiff → n0,reduceAdd → n1,reduceMul → n2,reduceSub → n3,reduceLT → n4,reduceLeDiff → n5
open Int renaming reduceEq → i0,reduceLT → i1,reduceLE → i2,reduceNeg → i3,reduceAdd → i4,reduceSub → i5,reduceMul → i6,reduceToNat → i7
set_option maxRecDepth 8000
open Go Go.Proofs Go.Shelf
attribute [local congr] W_congr WPsq_congr WPp_congr optK_congr addrK_congr intK_congr boolK_congr sliceK_congr tupleK_congr funcK_congr Fn_congr rawK_congr takeK_congr stepK_congr convK_congr aggK_congr

def fX2_0 : Fld := .mk 8 0 (-1) (-1) (-1) 0 0 []
def fX2_1 : Fld := .mk 11 0 (-1) (-1) (-1) 0 3 []
def fs_X2 : List Fld := [fX2_0,fX2_1]
def fX0_0 : Fld := .mk 8 0 (-1) (-1) (-1) 0 0 []
def fX0_1 : Fld := .mk 11 0 (-1) (-1) (-1) 0 3 []
def fs_X0 : List Fld := [fX0_0,fX0_1]
def fX1_0 : Fld := .mk 8 0 (-1) (-1) (-1) 0 0 []
def fX1_1 : Fld := .mk 4 0 (-1) (-1) (-1) 0 0 []
def fX1_2 : Fld := .mk 2 0 (-1) (-1) (-1) 0 0 []
def fX1_3 : Fld := .mk 0 0 (-1) (-1) (-1) 0 0 []
def fX1_4 : Fld := .mk 11 0 (-1) (-1) (-1) 0 10 fs_X0
def fs_X1 : List Fld := [fX1_0,fX1_1,fX1_2,fX1_3,fX1_4]
def fQ_0 : Fld := .mk 8 0 3 (-1) (-1) 0 0 []
def fQ_1 : Fld := .mk 4 0 3 (-1) (-1) 0 0 []
def fQ_2 : Fld := .mk 2 0 3 (-1) (-1) 0 0 []
def fQ_3 : Fld := .mk 11 0 3 (-1) (-1) 0 10 fs_X2
def fQ_4 : Fld := .mk 11 4 (-1) (-1) (-1) 0 10 fs_X1
def fs_Q : List Fld := [fQ_0,fQ_1,fQ_2,fQ_3,fQ_4]

set_option maxHeartbeats 4000000 in
theorem cX2_fn (w : World) : Fn Tryz.prog 17 #[] w fun r w' => FldsV (fun b => w.heap.size ≤ b) w' r fs_X2 ∧ Ext w w' := by
  refine fn_of_W Tryz.func17 rfl Tryz.results17 Tryz.ntmps17 rfl ?_
  repeat ((first | refine qA rfl ?_|apply qB|refine qC rfl ?_|apply qD|apply qE|apply qF|apply qG|apply qH);try simp (maxSteps:=1000000)(disch:=(first|omega|(simp only [qI,qJ,qK]<;>omega)|exact qL _)) only [go_sem,↓reduceIte,n0,reduceCtorEq,n1,n2,n3,n4,n5,i0,i1,i2,i3,i4,i5,i6,i7,fill_fld,fillN_nil,fillN_int,fillN_slice])
  repeat ((first | refine qA rfl ?_|apply qB|refine qC rfl ?_|apply qD|apply qE|apply qF|apply qG|apply qH);try simp (maxSteps:=1000000)(disch:=(first|omega|(simp only [qI,qJ,qK]<;>omega)|exact qL _)) only [go_sem,↓reduceIte,n0,reduceCtorEq,n1,n2,n3,n4,n5,i0,i1,i2,i3,i4,i5,i6,i7,fill_fld,fillN_nil,fillN_int,fillN_slice])
  exact ⟨FldsV.litO (fs := fs_X2) (css := [[.int .i64 8,.int .i64 0,.int .i64 (-1),.int .i64 (-1),.int .i64 (-1),.int .i64 0,.int .i64 0,.slice none 0 0],[.int .i64 11,.int .i64 0,.int .i64 (-1),.int .i64 (-1),.int .i64 (-1),.int .i64 0,.int .i64 3,.slice none 0 0]]) (T := 50) (fr := (0,0)) (by first | omega | (simp only [World.size_alloc];omega)) (by first | (simp (maxSteps:=1000000)(disch:=(first|omega|(simp only [qI,qJ,qK]<;>omega)|exact qL _)) only [go_sem,↓reduceIte,n0,reduceCtorEq,n1,n2,n3,n4,n5,i0,i1,i2,i3,i4,i5,i6,i7];rfl) | rfl) (by simp) (All2.cons (FldC.intro (kind := 8) (FldsV.none _ _)) (All2.cons (FldC.intro (kind := 11) (FldsV.none _ _)) All2.nil)),(Upd.alloc (Upd.refl _ w) _)⟩

set_option maxHeartbeats 4000000 in
theorem cX0_fn (w : World) : Fn Tryz.prog 26 #[] w fun r w' => FldsV (fun b => w.heap.size ≤ b) w' r fs_X0 ∧ Ext w w' := by
  refine fn_of_W Tryz.func26 rfl Tryz.results26 Tryz.ntmps26 rfl ?_
  repeat ((first | refine qA rfl ?_|apply qB|refine qC rfl ?_|apply qD|apply qE|apply qF|apply qG|apply qH);try simp (maxSteps:=1000000)(disch:=(first|omega|(simp only [qI,qJ,qK]<;>omega)|exact qL _)) only [go_sem,↓reduceIte,n0,reduceCtorEq,n1,n2,n3,n4,n5,i0,i1,i2,i3,i4,i5,i6,i7,fill_fld,fillN_nil,fillN_int,fillN_slice])
  repeat ((first | refine qA rfl ?_|apply qB|refine qC rfl ?_|apply qD|apply qE|apply qF|apply qG|apply qH);try simp (maxSteps:=1000000)(disch:=(first|omega|(simp only [qI,qJ,qK]<;>omega)|exact qL _)) only [go_sem,↓reduceIte,n0,reduceCtorEq,n1,n2,n3,n4,n5,i0,i1,i2,i3,i4,i5,i6,i7,fill_fld,fillN_nil,fillN_int,fillN_slice])
  exact ⟨FldsV.litO (fs := fs_X0) (css := [[.int .i64 8,.int .i64 0,.int .i64 (-1),.int .i64 (-1),.int .i64 (-1),.int .i64 0,.int .i64 0,.slice none 0 0],[.int .i64 11,.int .i64 0,.int .i64 (-1),.int .i64 (-1),.int .i64 (-1),.int .i64 0,.int .i64 3,.slice none 0 0]]) (T := 50) (fr := (0,0)) (by first | omega | (simp only [World.size_alloc];omega)) (by first | (simp (maxSteps:=1000000)(disch:=(first|omega|(simp only [qI,qJ,qK]<;>omega)|exact qL _)) only [go_sem,↓reduceIte,n0,reduceCtorEq,n1,n2,n3,n4,n5,i0,i1,i2,i3,i4,i5,i6,i7];rfl) | rfl) (by simp) (All2.cons (FldC.intro (kind := 8) (FldsV.none _ _)) (All2.cons (FldC.intro (kind := 11) (FldsV.none _ _)) All2.nil)),(Upd.alloc (Upd.refl _ w) _)⟩

set_option maxHeartbeats 4000000 in
theorem cX1_fn (w : World) : Fn Tryz.prog 18 #[] w fun r w' => FldsV (fun b => w.heap.size ≤ b) w' r fs_X1 ∧ Ext w w' := by
  refine fn_of_W Tryz.func18 rfl Tryz.results18 Tryz.ntmps18 rfl ?_
  repeat ((first | refine qA rfl ?_|apply qB|refine qC rfl ?_|apply qD|apply qE|apply qF|apply qG|apply qH);try simp (maxSteps:=1000000)(disch:=(first|omega|(simp only [qI,qJ,qK]<;>omega)|exact qL _)) only [go_sem,↓reduceIte,n0,reduceCtorEq,n1,n2,n3,n4,n5,i0,i1,i2,i3,i4,i5,i6,i7,fill_fld,fillN_nil,fillN_int,fillN_slice])
  refine (cX0_fn _).mono ?_
  rintro r1 w1 ⟨hF1,hE1⟩
  obtain ⟨b1,k1,rfl,_⟩ := SlR.shape hF1
  have hz1 := hE1.size
  have hD1 : Ext w w1 := Upd.trans (Upd.refl _ w) hE1
  simp (maxSteps:=1000000)(disch:=(first|omega|(simp only [qI,qJ,qK]<;>omega)|exact qL _)) only [go_sem,↓reduceIte,n0,reduceCtorEq,n1,n2,n3,n4,n5,i0,i1,i2,i3,i4,i5,i6,i7,fill_fld,fillN_nil,fillN_int,fillN_slice]
  repeat ((first | refine qA rfl ?_|apply qB|refine qC rfl ?_|apply qD|apply qE|apply qF|apply qG|apply qH);try simp (maxSteps:=1000000)(disch:=(first|omega|(simp only [qI,qJ,qK]<;>omega)|exact qL _)) only [go_sem,↓reduceIte,n0,reduceCtorEq,n1,n2,n3,n4,n5,i0,i1,i2,i3,i4,i5,i6,i7,fill_fld,fillN_nil,fillN_int,fillN_slice])
  exact ⟨FldsV.litO (fs := fs_X1) (css := [[.int .i64 8,.int .i64 0,.int .i64 (-1),.int .i64 (-1),.int .i64 (-1),.int .i64 0,.int .i64 0,.slice none 0 0],[.int .i64 4,.int .i64 0,.int .i64 (-1),.int .i64 (-1),.int .i64 (-1),.int .i64 0,.int .i64 0,.slice none 0 0],[.int .i64 2,.int .i64 0,.int .i64 (-1),.int .i64 (-1),.int .i64 (-1),.int .i64 0,.int .i64 0,.slice none 0 0],[.int .i64 0,.int .i64 0,.int .i64 (-1),.int .i64 (-1),.int .i64 (-1),.int .i64 0,.int .i64 0,.slice none 0 0],[.int .i64 11,.int .i64 0,.int .i64 (-1),.int .i64 (-1),.int .i64 (-1),.int .i64 0,.int .i64 10,.slice b1 fs_X0.length k1]]) (T := 50) (fr := (0,0)) (by first | omega | (simp only [World.size_alloc];omega)) (by first | (simp (maxSteps:=1000000)(disch:=(first|omega|(simp only [qI,qJ,qK]<;>omega)|exact qL _)) only [go_sem,↓reduceIte,n0,reduceCtorEq,n1,n2,n3,n4,n5,i0,i1,i2,i3,i4,i5,i6,i7];rfl) | rfl) (by simp) (All2.cons (FldC.intro (kind := 8) (FldsV.none _ _)) (All2.cons (FldC.intro (kind := 4) (FldsV.none _ _)) (All2.cons (FldC.intro (kind := 2) (FldsV.none _ _)) (All2.cons (FldC.intro (kind := 0) (FldsV.none _ _)) (All2.cons (FldC.intro (kind := 11) ((hF1.keep (Upd.keeps (S := fun _ => False) (Upd.alloc (Upd.refl _ _) _) fun _ _ _ h => h)).weaken fun b _ hb => by have hq : _ ≤ b := hb;omega)) All2.nil))))),(Upd.alloc hD1 _)⟩

set_option maxHeartbeats 4000000 in
theorem cQ_fn (w : World) : Fn Tryz.prog 7 #[] w fun r w' => (∃ vs,r = .agg #[vs,.int .i64 3] ∧ FldsV (fun b => w.heap.size ≤ b) w' vs fs_Q) ∧ Ext w w' := by
  refine fn_of_W Tryz.func7 rfl Tryz.results7 Tryz.ntmps7 rfl ?_
  repeat ((first | refine qA rfl ?_|apply qB|refine qC rfl ?_|apply qD|apply qE|apply qF|apply qG|apply qH);try simp (maxSteps:=1000000)(disch:=(first|omega|(simp only [qI,qJ,qK]<;>omega)|exact qL _)) only [go_sem,↓reduceIte,n0,reduceCtorEq,n1,n2,n3,n4,n5,i0,i1,i2,i3,i4,i5,i6,i7,fill_fld,fillN_nil,fillN_int,fillN_slice])
  have hz0 : (w.alloc (.cells #[.slice none 0 0,.int .i64 0] 34)).heap.size = w.heap.size + 1 := World.size_alloc _ _
  refine (cX2_fn _).mono ?_
  rintro r1 w1 ⟨hF1,hE1⟩
  obtain ⟨b1,k1,rfl,_⟩ := SlR.shape hF1
  have hz1 := hE1.size
  have hD1 : Ext w w1 := Upd.trans (Upd.alloc (Upd.refl _ _) _) hE1
  have hb1 : blk w1 w.heap.size = some (#[.slice none 0 0,.int .i64 0],34,(0,0)) := hE1.blk_some (blk_alloc_new rfl) id
  simp (maxSteps:=1000000)(disch:=(first|omega|(simp only [qI,qJ,qK]<;>omega)|exact qL _)) only [go_sem,↓reduceIte,n0,reduceCtorEq,n1,n2,n3,n4,n5,i0,i1,i2,i3,i4,i5,i6,i7,fill_fld,fillN_nil,fillN_int,fillN_slice,hb1]
  refine (cX1_fn _).mono ?_
  rintro r2 w2 ⟨hF2,hE2⟩
  obtain ⟨b2,k2,rfl,_⟩ := SlR.shape hF2
  have hz2 := hE2.size
  have hD2 : Ext w w2 := Upd.trans hD1 hE2
  have hb2 : blk w2 w.heap.size = some (#[.slice none 0 0,.int .i64 0],34,(0,0)) := hE2.blk_some hb1 id
  simp (maxSteps:=1000000)(disch:=(first|omega|(simp only [qI,qJ,qK]<;>omega)|exact qL _)) only [go_sem,↓reduceIte,n0,reduceCtorEq,n1,n2,n3,n4,n5,i0,i1,i2,i3,i4,i5,i6,i7,fill_fld,fillN_nil,fillN_int,fillN_slice,hb2]
  have hvl := blk_lt hb2
  repeat ((first | refine qA rfl ?_|apply qB|refine qC rfl ?_|apply qD|apply qE|apply qF|apply qG|apply qH);try simp (maxSteps:=1000000)(disch:=(first|omega|(simp only [qI,qJ,qK]<;>omega)|exact qL _)) only [go_sem,↓reduceIte,n0,reduceCtorEq,n1,n2,n3,n4,n5,i0,i1,i2,i3,i4,i5,i6,i7,fill_fld,fillN_nil,fillN_int,fillN_slice,hb2])
  exact ⟨⟨_,rfl,FldsV.litO (fs := fs_Q) (css := [[.int .i64 8,.int .i64 0,.int .i64 3,.int .i64 (-1),.int .i64 (-1),.int .i64 0,.int .i64 0,.slice none 0 0],[.int .i64 4,.int .i64 0,.int .i64 3,.int .i64 (-1),.int .i64 (-1),.int .i64 0,.int .i64 0,.slice none 0 0],[.int .i64 2,.int .i64 0,.int .i64 3,.int .i64 (-1),.int .i64 (-1),.int .i64 0,.int .i64 0,.slice none 0 0],[.int .i64 11,.int .i64 0,.int .i64 3,.int .i64 (-1),.int .i64 (-1),.int .i64 0,.int .i64 10,.slice b1 fs_X2.length k1],[.int .i64 11,.int .i64 4,.int .i64 (-1),.int .i64 (-1),.int .i64 (-1),.int .i64 0,.int .i64 10,.slice b2 fs_X1.length k2]]) (T := 50) (fr := (0,0)) (by first | omega | (simp only [World.size_alloc];omega)) (by first | (simp (maxSteps:=1000000)(disch:=(first|omega|(simp only [qI,qJ,qK]<;>omega)|exact qL _)) only [go_sem,↓reduceIte,n0,reduceCtorEq,n1,n2,n3,n4,n5,i0,i1,i2,i3,i4,i5,i6,i7];rfl) | rfl) (by simp) (All2.cons (FldC.intro (kind := 8) (FldsV.none _ _)) (All2.cons (FldC.intro (kind := 4) (FldsV.none _ _)) (All2.cons (FldC.intro (kind := 2) (FldsV.none _ _)) (All2.cons (FldC.intro (kind := 11) (hF1.stay (B := w.heap.size) (Upd.trans (hE2.mono fun _ h => h.elim) (Upd.wr (Upd.alloc (Upd.refl _ _) _) _ _ (.inr rfl))) (by omega) (fun b hb => by omega))) (All2.cons (FldC.intro (kind := 11) (hF2.stay (B := w.heap.size) (Upd.wr (Upd.alloc (Upd.refl _ _) _) _ _ (.inr rfl)) (by omega) (fun b hb => by omega))) All2.nil)))))⟩,(Upd.wr (Upd.alloc hD2 _) _ _ (.inl (Nat.le_refl _)))⟩

theorem DefaultQ_fn (w : World) {vb : Nat} {c0 c1 c2 c3 c4 c5 c6 : Value} (hb : blk w vb = some (#[c0,c1,c2,c3,c4,c5,c6],69,(0,0))) :
    Fn Tryz.prog 25 #[.pointer (some ⟨vb,0,none⟩)] w fun _ w' => blk w' vb = some (#[c0,c1,c2,c3,c4,c5,c6],69,(0,0)) ∧ Upd (fun b => b = vb) w w' := by
  have hvl := blk_lt hb
  refine fn_of_W Tryz.func25 rfl Tryz.results25 Tryz.ntmps25 rfl ?_
  repeat ((first | refine qA rfl ?_|apply qB|refine qC rfl ?_|apply qD|apply qE|apply qF|apply qG|apply qH);try simp (maxSteps:=1000000)(disch:=(first|omega|(simp only [qI,qJ,qK]<;>omega)|exact qL _)) only [go_sem,↓reduceIte,n0,reduceCtorEq,n1,n2,n3,n4,n5,i0,i1,i2,i3,i4,i5,i6,i7,hb])
  first | exact Upd.refl _ _ | exact ⟨hb,Upd.refl _ _⟩

theorem NewPtrQ_fn (w : World) : Fn Tryz.prog 15 #[] w fun r w' => r = .pointer (some ⟨w.heap.size,0,none⟩) ∧ blk w' w.heap.size = some (#[.int .i16 0,.string ByteArray.empty,.int .i64 0,.int .i16 0,.slice none 0 0,.slice none 0 0,.map none],69,(0,0)) ∧ Ext w w' := by
  refine fn_of_W Tryz.func15 rfl Tryz.results15 Tryz.ntmps15 rfl ?_
  repeat ((first | refine qA rfl ?_|apply qB|refine qC rfl ?_|apply qD|apply qE|apply qF|apply qG|apply qH);try simp (maxSteps:=1000000)(disch:=(first|omega|(simp only [qI,qJ,qK]<;>omega)|exact qL _)) only [go_sem,↓reduceIte,n0,reduceCtorEq,n1,n2,n3,n4,n5,i0,i1,i2,i3,i4,i5,i6,i7])
  refine (DefaultQ_fn _ (blk_alloc_new rfl)).mono ?_
  rintro _ w1 ⟨hb1,hU1⟩
  have hz := World.size_alloc w (.cells #[.int .i16 0,.string ByteArray.empty,.int .i64 0,.int .i16 0,.slice none 0 0,.slice none 0 0,.map none] 69)
  repeat ((first | refine qA rfl ?_|apply qB|refine qC rfl ?_|apply qD|apply qE|apply qF|apply qG|apply qH);try simp (maxSteps:=1000000)(disch:=(first|omega|(simp only [qI,qJ,qK]<;>omega)|exact qL _)) only [go_sem,↓reduceIte,n0,reduceCtorEq,n1,n2,n3,n4,n5,i0,i1,i2,i3,i4,i5,i6,i7])
  exact ⟨hb1,(Upd.alloc (Upd.refl _ _) _ : Ext w _).more hU1 fun b hb h => by omega⟩

theorem SetVersionQ_fn (w : World) {vb : Nat} {c0 c1 c2 c3 c4 c5 c6 : Value} (n : Int) (hb : blk w vb = some (#[c0,c1,c2,c3,c4,c5,c6],69,(0,0))) :
    Fn Tryz.prog 20 #[.pointer (some ⟨vb,0,none⟩),.int .i16 n] w fun _ w' => blk w' vb = some (#[.int .i16 n,c1,c2,c3,c4,c5,c6],69,(0,0)) ∧ Upd (fun b => b = vb) w w' := by
  have hvl := blk_lt hb
  refine fn_of_W Tryz.func20 rfl Tryz.results20 Tryz.ntmps20 rfl ?_
  repeat ((first | refine qA rfl ?_|apply qB|refine qC rfl ?_|apply qD|apply qE|apply qF|apply qG|apply qH);try simp (maxSteps:=1000000)(disch:=(first|omega|(simp only [qI,qJ,qK]<;>omega)|exact qL _)) only [go_sem,↓reduceIte,n0,reduceCtorEq,n1,n2,n3,n4,n5,i0,i1,i2,i3,i4,i5,i6,i7,hb])
  first | exact Upd.wr (Upd.refl _ _) _ _ (.inr rfl) | exact ⟨by simp (maxSteps:=1000000)(disch:=(first|omega|(simp only [qI,qJ,qK]<;>omega)|exact qL _)) only [go_sem,↓reduceIte,n0,reduceCtorEq,n1,n2,n3,n4,n5,i0,i1,i2,i3,i4,i5,i6,i7,hb],Upd.wr (Upd.refl _ _) _ _ (.inr rfl)⟩

theorem MaxQ_fn (w : World) : Fn Tryz.prog 6 #[] w fun r w' => r = .int .i64 5 ∧ Ext w w' := by
  refine fn_of_W Tryz.func6 rfl Tryz.results6 Tryz.ntmps6 rfl ?_
  repeat ((first | refine qA rfl ?_|apply qB|refine qC rfl ?_|apply qD|apply qE|apply qF|apply qG|apply qH);try simp (maxSteps:=1000000)(disch:=(first|omega|(simp only [qI,qJ,qK]<;>omega)|exact qL _)) only [go_sem,↓reduceIte,n0,reduceCtorEq,n1,n2,n3,n4,n5,i0,i1,i2,i3,i4,i5,i6,i7])
  refine (NewPtrQ_fn w).mono ?_
  rintro _ w1 ⟨rfl,hb1,hE1⟩
  repeat ((first | refine qA rfl ?_|apply qB|refine qC rfl ?_|apply qD|apply qE|apply qF|apply qG|apply qH);try simp (maxSteps:=1000000)(disch:=(first|omega|(simp only [qI,qJ,qK]<;>omega)|exact qL _)) only [go_sem,↓reduceIte,n0,reduceCtorEq,n1,n2,n3,n4,n5,i0,i1,i2,i3,i4,i5,i6,i7])
  have hm : Fn Tryz.prog 16 #[.pointer (some ⟨w.heap.size,0,none⟩)] w1 fun r w' => r = .int .i16 5 ∧ w' = w1 := by
    refine fn_of_W Tryz.func16 rfl Tryz.results16 Tryz.ntmps16 rfl ?_
    repeat ((first | refine qA rfl ?_|apply qB|refine qC rfl ?_|apply qD|apply qE|apply qF|apply qG|apply qH);try simp (maxSteps:=1000000)(disch:=(first|omega|(simp only [qI,qJ,qK]<;>omega)|exact qL _)) only [go_sem,↓reduceIte,n0,reduceCtorEq,n1,n2,n3,n4,n5,i0,i1,i2,i3,i4,i5,i6,i7])
  refine hm.mono ?_
  rintro _ w2 ⟨rfl,rfl⟩
  have ew : IntKind.i64.wrap (5 : Int) = 5 := i64_wrap (by decide)
  repeat ((first | refine qA rfl ?_|apply qB|refine qC rfl ?_|apply qD|apply qE|apply qF|apply qG|apply qH);try simp (maxSteps:=1000000)(disch:=(first|omega|(simp only [qI,qJ,qK]<;>omega)|exact qL _)) only [go_sem,↓reduceIte,n0,reduceCtorEq,n1,n2,n3,n4,n5,i0,i1,i2,i3,i4,i5,i6,i7,ew])
  exact hE1

theorem utQ_63 : Tryz.prog.underlying 63 = some (.slice 103) := by kernel_rfl
theorem utQ_21 : Tryz.prog.underlying 21 = some (.int .i32) := by kernel_rfl
theorem inQ_103 : (Tryz.prog.info? 103).map (fun i => (i.size,i.bytes,i.zero.map (·.cells))) = some (3,48,some #[.string ByteArray.empty,.slice none 0 0,.map none]) := by kernel_rfl
theorem utQ_101 : Tryz.prog.underlying 101 = some (.slice 21) := by kernel_rfl
theorem inQ_21 : (Tryz.prog.info? 21).map (fun i => (i.size,i.bytes,i.zero.map (·.cells))) = some (1,4,some #[.int .i32 0]) := by kernel_rfl
theorem utQ_64 : Tryz.prog.underlying 64 = some (.slice 109) := by kernel_rfl
theorem inQ_109 : (Tryz.prog.info? 109).map (fun i => (i.size,i.bytes,i.zero.map (·.cells))) = some (6,64,some #[.string ByteArray.empty,.int .i64 0,.int .i16 0,.bool false,.slice none 0 0,.map none]) := by kernel_rfl
theorem utQ_107 : Tryz.prog.underlying 107 = some (.slice 111) := by kernel_rfl
theorem inQ_111 : (Tryz.prog.info? 111).map (fun i => (i.size,i.bytes,i.zero.map (·.cells))) = some (3,48,some #[.string ByteArray.empty,.slice none 0 0,.map none]) := by kernel_rfl

theorem DefaultEX2_fn (w : World) {R k : Nat} {A B : List Value} {c0 c1 c2 : Value} {E : TypeId} (hb : blk w R = some ((A ++ ([c0,c1,c2] ++ B)).toArray,E,(0,0))) (hA : A.length = k) :
    Fn Tryz.prog 54 #[.pointer (some ⟨R,k,none⟩)] w fun _ w' => blk w' R = some ((A ++ ([c0,c1,c2] ++ B)).toArray,E,(0,0)) ∧ Upd (fun b => b = R) w w' := by
  have hRl := blk_lt hb
  obtain ⟨X,hX⟩ : ∃ X : Array Value,X = (A ++ (([c0,c1,c2] : List Value) ++ B)).toArray := ⟨_,rfl⟩
  have hXs : k + 3 ≤ X.size := by rw [hX];simp only [List.size_toArray,List.length_append,List.length_cons,List.length_nil,hA];omega
  have hb' : blk w R = some (X,E,(0,0)) := by rw [hX];exact hb
  refine fn_of_W Tryz.func54 rfl Tryz.results54 Tryz.ntmps54 rfl ?_
  repeat ((first | refine qA rfl ?_|apply qB|refine qC rfl ?_|apply qD|apply qE|apply qF|apply qG|apply qH);try simp (maxSteps:=1000000)(disch:=(first|omega|(simp only [qI,qJ,qK]<;>omega)|exact qL _)) only [go_sem,↓reduceIte,n0,reduceCtorEq,n1,n2,n3,n4,n5,i0,i1,i2,i3,i4,i5,i6,i7,hb',Array.size_setIfInBounds])
  first | exact ⟨hb,Upd.refl _ _⟩ | exact Upd.refl _ _ | (rw [hX];exact ⟨rfl,Upd.refl _ _⟩)

theorem DefaultEX1_fn (w : World) {R k : Nat} {A B : List Value} {c0 c1 c2 c3 c4 c5 : Value} {E : TypeId} (hb : blk w R = some ((A ++ ([c0,c1,c2,c3,c4,c5] ++ B)).toArray,E,(0,0))) (hA : A.length = k) :
    Fn Tryz.prog 57 #[.pointer (some ⟨R,k,none⟩)] w fun _ w' => blk w' R = some ((A ++ ([c0,c1,c2,c3,c4,c5] ++ B)).toArray,E,(0,0)) ∧ Upd (fun b => b = R) w w' := by
  have hRl := blk_lt hb
  obtain ⟨X,hX⟩ : ∃ X : Array Value,X = (A ++ (([c0,c1,c2,c3,c4,c5] : List Value) ++ B)).toArray := ⟨_,rfl⟩
  have hXs : k + 6 ≤ X.size := by rw [hX];simp only [List.size_toArray,List.length_append,List.length_cons,List.length_nil,hA];omega
  have hb' : blk w R = some (X,E,(0,0)) := by rw [hX];exact hb
  refine fn_of_W Tryz.func57 rfl Tryz.results57 Tryz.ntmps57 rfl ?_
  repeat ((first | refine qA rfl ?_|apply qB|refine qC rfl ?_|apply qD|apply qE|apply qF|apply qG|apply qH);try simp (maxSteps:=1000000)(disch:=(first|omega|(simp only [qI,qJ,qK]<;>omega)|exact qL _)) only [go_sem,↓reduceIte,n0,reduceCtorEq,n1,n2,n3,n4,n5,i0,i1,i2,i3,i4,i5,i6,i7,hb',Array.size_setIfInBounds])
  first | exact ⟨hb,Upd.refl _ _⟩ | exact Upd.refl _ _ | (rw [hX];exact ⟨rfl,Upd.refl _ _⟩)

theorem DefaultEX0_fn (w : World) {R k : Nat} {A B : List Value} {c0 c1 c2 : Value} {E : TypeId} (hb : blk w R = some ((A ++ ([c0,c1,c2] ++ B)).toArray,E,(0,0))) (hA : A.length = k) :
    Fn Tryz.prog 59 #[.pointer (some ⟨R,k,none⟩)] w fun _ w' => blk w' R = some ((A ++ ([c0,c1,c2] ++ B)).toArray,E,(0,0)) ∧ Upd (fun b => b = R) w w' := by
  have hRl := blk_lt hb
  obtain ⟨X,hX⟩ : ∃ X : Array Value,X = (A ++ (([c0,c1,c2] : List Value) ++ B)).toArray := ⟨_,rfl⟩
  have hXs : k + 3 ≤ X.size := by rw [hX];simp only [List.size_toArray,List.length_append,List.length_cons,List.length_nil,hA];omega
  have hb' : blk w R = some (X,E,(0,0)) := by rw [hX];exact hb
  refine fn_of_W Tryz.func59 rfl Tryz.results59 Tryz.ntmps59 rfl ?_
  repeat ((first | refine qA rfl ?_|apply qB|refine qC rfl ?_|apply qD|apply qE|apply qF|apply qG|apply qH);try simp (maxSteps:=1000000)(disch:=(first|omega|(simp only [qI,qJ,qK]<;>omega)|exact qL _)) only [go_sem,↓reduceIte,n0,reduceCtorEq,n1,n2,n3,n4,n5,i0,i1,i2,i3,i4,i5,i6,i7,hb',Array.size_setIfInBounds])
  first | exact ⟨hb,Upd.refl _ _⟩ | exact Upd.refl _ _ | (rw [hX];exact ⟨rfl,Upd.refl _ _⟩)

set_option maxHeartbeats 4000000 in
theorem readQ_0 {d : Nat} {ok : Blocks} {ver : Int} {ev : Value} (hlo : 0 ≤ ver) (hhi : ver ≤ 2) (w : World) {vb : Nat} (src : Value) (s : List UInt8) (hv : blk w vb = some (#[.int .i16 ver,.string ByteArray.empty,.int .i64 0,.int .i16 0,.slice none 0 0,.slice none 0 0,.map none],69,(0,0))) (hsrc : BytesV ok w src s) (hok0 : ∀ b,ok b → b < w.heap.size ∧ b ≠ vb) (hG : Glo ev w) (hgv : ¬ 0 = vb ∧ ¬ 1 = vb) :
    Fn Tryz.prog 35 #[.pointer (some ⟨vb,0,none⟩),src,.bool false] w (ReadQ 69 ok ver (d + 3) fs_Q vb w (rdP (d + 3) ver false fs_Q (some s)) ev) := by
  have hvl := blk_lt hv
  have hgs := hG.lt
  obtain ⟨sa,sc,rfl,_⟩ := hsrc.shape
  refine fn_of_W Tryz.func35 rfl Tryz.results35 Tryz.ntmps35 rfl ?_
  repeat ((first | refine qA rfl ?_|apply qB|refine qC rfl ?_|apply qD|apply qE|apply qF|apply qG|apply qH);try simp (maxSteps:=1000000)(disch:=(first|omega|(simp only [qI,qJ,qK]<;>omega)|exact qL _)) only [go_sem,↓reduceIte,n0,reduceCtorEq,n1,n2,n3,n4,n5,i0,i1,i2,i3,i4,i5,i6,i7,hv])
  refine (DefaultQ_fn w hv).mono ?_
  rintro _ w0 ⟨hv0,hu0⟩
  have hz0 := hu0.size
  have hsrc0 : BytesV ok w0 (.slice sa s.length sc) s := hsrc.keep (hu0.keeps fun b _ hk e => (hok0 b hk).2 e)
  obtain ⟨rb,hrb⟩ : ∃ r,r = w0.heap.size := ⟨_,rfl⟩
  have hE1 : Ext w0 (wr (w0.alloc (.cells #[.slice none 0 0,.bool false] 94)) w0.heap.size 0 [.slice sa s.length sc,.bool false]) := (Upd.alloc (Upd.refl _ _) _).wr _ _ (.inl (Nat.le_refl _))
  have hz1 : (wr (w0.alloc (.cells #[.slice none 0 0,.bool false] 94)) w0.heap.size 0 [.slice sa s.length sc,.bool false]).heap.size = w0.heap.size + 1 := by rw [size_wr,World.size_alloc]
  have hR1 : Rdr RT ok (wr (w0.alloc (.cells #[.slice none 0 0,.bool false] 94)) w0.heap.size 0 [.slice sa s.length sc,.bool false]) w0.heap.size (some s) := Rdr.good (v := .slice sa s.length sc) (by simp (maxSteps:=1000000)(disch:=(first|omega|(simp only [qI,qJ,qK]<;>omega)|exact qL _)) only [go_sem,↓reduceIte,n0,reduceCtorEq,n1,n2,n3,n4,n5,i0,i1,i2,i3,i4,i5,i6,i7]) (hsrc0.keep (hE1.keeps _))
  have hv_1 := hE1.blk_some hv0 id
  repeat ((first | refine qA rfl ?_|apply qB|refine qC rfl ?_|apply qD|apply qE|apply qF|apply qG|apply qH);try simp (maxSteps:=1000000)(disch:=(first|omega|(simp only [qI,qJ,qK]<;>omega)|exact qL _)) only [go_sem,↓reduceIte,n0,reduceCtorEq,n1,n2,n3,n4,n5,i0,i1,i2,i3,i4,i5,i6,i7,hv0])
  generalize (wr (w0.alloc (.cells #[.slice none 0 0,.bool false] 94)) w0.heap.size 0 [.slice sa s.length sc,.bool false]) = w1 at *
  rw [← hrb] at hR1
  try rw [← hrb]
  have hok : ∀ b,ok b → b < w.heap.size ∧ b ≠ vb := hok0
  have hrok : ¬ ok rb := fun h => by have := (hok rb h).1;omega
  have hbase : Upd (fun b => b = vb) w w1 := hu0.trans (hE1.mono fun _ h => h.elim)
  have hG1 : Glo ev w1 := hG.updS hbase hgv.1 hgv.2
  have hgrb : ¬ 0 = rb := by omega
  have hgM1 : ¬ (0 = vb ∨ 0 = rb) := fun h => h.elim hgv.1 fun h => by omega
  have hgM2 : ¬ (1 = vb ∨ 1 = rb) := fun h => h.elim hgv.2 fun h => by omega
  obtain ⟨s0,hs0⟩ : ∃ s' : St,s' = some s := ⟨_,rfl⟩
  rw [← hs0] at hR1 ⊢
  have hU1 : Upd (fun b => b = vb ∨ b = rb) w1 w1 := Upd.refl _ _
  have hoM : ∀ b,(ok b ∨ w1.heap.size ≤ b) → ¬ (b = vb ∨ b = rb) := fun b hk h => by
    rcases hk with hk | hk
    · have := hok b hk;rcases h with h | h <;> omega
    · rcases h with h | h <;> omega
  have hq1 : Rdr RT ok w1 rb s0 := hR1
  obtain ⟨FB,hFB⟩ : ∃ P : Prop,P = ((rdP (d + 3) ver false fs_Q s0).2 = none) := ⟨_,rfl⟩
  have hb_0 : (rdL (rdP (d + 2) ver false) (dfP (d + 2)) ver false [fQ_0,fQ_1,fQ_2,fQ_3,fQ_4] s0).2 = none → FB := fun h => Eq.mpr hFB (rdP_bad h)
  have hh_0 : hasS fQ_0 ver = true := hasS_t (by show (0 : Int) ≤ ver;omega) (by show (3 : Int) < 0 ∨ ver ≤ (3 : Int);omega)
  obtain ⟨x_0,hx_0⟩ : ∃ x,x = (rdF (rdP (d + 2) ver false) ver false fQ_0 s0).1 := ⟨_,rfl⟩
  repeat ((first | refine qA rfl ?_|apply qB|refine qC rfl ?_|apply qD|apply qE|apply qF|apply qG|apply qH);try simp (maxSteps:=1000000)(disch:=(first|omega|(simp only [qI,qJ,qK]<;>omega)|exact qL _)) only [go_sem,↓reduceIte,n0,reduceCtorEq,n1,n2,n3,n4,n5,i0,i1,i2,i3,i4,i5,i6,i7,hv_1])
  have hmay : mayS fQ_0 ver = false := mayS_no (by show (-1 : Int) < 0 ∨ ver < (-1 : Int);omega)
  have hrd : rdF (rdP (d + 2) ver false) ver false fQ_0 s0 = _ := rdF_text rfl hmay
  refine (RString_fn w1 hq1 hrok hG1.1 hgrb).mono ?_
  rintro _ w2 ⟨rfl,hq2,hu2⟩
  have hv_2 := hu2.blk_some hv_1 (by omega)
  have hV2 : Upd (fun b => b = vb ∨ b = rb) w1 w2 := hu2.mono (fun _ h => .inr h)
  have hU2 : Upd (fun b => b = vb ∨ b = rb) w1 w2 := hU1.trans hV2
  have hz2 := hV2.size
  have hG2 : Glo ev w2 := hG1.updS hU2 hgM1 hgM2
  have hst : (rdF (rdP (d + 2) ver false) ver false fQ_0 s0).2 = (rdStr false s0).2 := by first | (rw [hrd];rfl) | rw [hrd]
  obtain ⟨s1,hs1⟩ : ∃ s,s = (rdF (rdP (d + 2) ver false) ver false fQ_0 s0).2 := ⟨_,rfl⟩
  rw [← hst,← hs1] at hq2
  clear hst
  repeat ((first | refine qA rfl ?_|apply qB|refine qC rfl ?_|apply qD|apply qE|apply qF|apply qG|apply qH);try simp (maxSteps:=1000000)(disch:=(first|omega|(simp only [qI,qJ,qK]<;>omega)|exact qL _)) only [go_sem,↓reduceIte,n0,reduceCtorEq,n1,n2,n3,n4,n5,i0,i1,i2,i3,i4,i5,i6,i7,hv_2])
  generalize hw3 : wr w2 vb 1 [strV (rdStr false s0).1] = w3
  have hS3 : Upd (fun b => b = vb ∨ b = rb) w2 w3 := by rw [← hw3];exact (Upd.refl _ _).wr _ _ (.inr (.inl rfl))
  have hv_3 : blk w3 vb = some (#[.int .i16 ver,strV (rdStr false s0).1,.int .i64 0,.int .i16 0,.slice none 0 0,.slice none 0 0,.map none],69,(0,0)) := by rw [← hw3,blk_wr_eq,hv_2];rfl
  have hV3 := hS3
  have hU3 : Upd (fun b => b = vb ∨ b = rb) w1 w3 := hU2.trans hV3
  have hz3 := hV3.size
  have hG3 : Glo ev w3 := hG1.updS hU3 hgM1 hgM2
  have hq3 : Rdr RT ok w3 rb s1 ∧ NN w3 rb s1 := by
    have hn : ∀ x,x = w3 → (Rdr RT ok x rb s1 ∧ NN x rb s1) := fun x hx => by
      rw [hx,← hw3]
      exact Rdr.store hq2 (by omega) (fun h => by have := (hok _ h).1;first | omega | exact (hok _ h).2 rfl)
    exact hn _ rfl
  clear hw3
  have hf_0 : RepF (RepS true (d + 2)) (szS true (d + 2)) fQ_0 (fun b => ok b ∨ w1.heap.size ≤ b) w3 (x_0) [strV (rdStr false s0).1] := (RepF_text rfl (by decide)).2 (by rw [hx_0,hrd];rfl)
  clear hrd
  have hb_1 : (rdL (rdP (d + 2) ver false) (dfP (d + 2)) ver false [fQ_1,fQ_2,fQ_3,fQ_4] s1).2 = none → FB := fun h => hb_0 (by rw [rdL_st (by decide) hh_0,← hs1];exact h)
  have hh_1 : hasS fQ_1 ver = true := hasS_t (by show (0 : Int) ≤ ver;omega) (by show (3 : Int) < 0 ∨ ver ≤ (3 : Int);omega)
  obtain ⟨x_1,hx_1⟩ : ∃ x,x = (rdF (rdP (d + 2) ver false) ver false fQ_1 s1).1 := ⟨_,rfl⟩
  repeat ((first | refine qA rfl ?_|apply qB|refine qC rfl ?_|apply qD|apply qE|apply qF|apply qG|apply qH);try simp (maxSteps:=1000000)(disch:=(first|omega|(simp only [qI,qJ,qK]<;>omega)|exact qL _)) only [go_sem,↓reduceIte,n0,reduceCtorEq,n1,n2,n3,n4,n5,i0,i1,i2,i3,i4,i5,i6,i7,hv_3])
  have hrd : rdF (rdP (d + 2) ver false) ver false fQ_1 s1 = _ := rdF_num 4 rfl (by decide)
  refine (Int64_fn w3 hq3.1 hrok hG3.1 hgrb).mono ?_
  rintro _ w4 ⟨rfl,hq4,hu4⟩
  have hv_4 := hu4.blk_some hv_3 (by omega)
  have hV4 : Upd (fun b => b = vb ∨ b = rb) w3 w4 := hu4.mono (fun _ h => .inr h)
  have hU4 : Upd (fun b => b = vb ∨ b = rb) w1 w4 := hU3.trans hV4
  have hz4 := hV4.size
  have hG4 : Glo ev w4 := hG1.updS hU4 hgM1 hgM2
  have hst : (rdF (rdP (d + 2) ver false) ver false fQ_1 s1).2 = (rdInt .i64 8 s1).2 := by first | (rw [hrd];rfl) | rw [hrd]
  obtain ⟨s2,hs2⟩ : ∃ s,s = (rdF (rdP (d + 2) ver false) ver false fQ_1 s1).2 := ⟨_,rfl⟩
  rw [← hst,← hs2] at hq4
  clear hst
  repeat ((first | refine qA rfl ?_|apply qB|refine qC rfl ?_|apply qD|apply qE|apply qF|apply qG|apply qH);try simp (maxSteps:=1000000)(disch:=(first|omega|(simp only [qI,qJ,qK]<;>omega)|exact qL _)) only [go_sem,↓reduceIte,n0,reduceCtorEq,n1,n2,n3,n4,n5,i0,i1,i2,i3,i4,i5,i6,i7,hv_4])
  generalize hw5 : wr w4 vb 2 [.int .i64 (rdInt .i64 8 s1).1] = w5
  have hS5 : Upd (fun b => b = vb ∨ b = rb) w4 w5 := by rw [← hw5];exact (Upd.refl _ _).wr _ _ (.inr (.inl rfl))
  have hv_5 : blk w5 vb = some (#[.int .i16 ver,strV (rdStr false s0).1,.int .i64 (rdInt .i64 8 s1).1,.int .i16 0,.slice none 0 0,.slice none 0 0,.map none],69,(0,0)) := by rw [← hw5,blk_wr_eq,hv_4];rfl
  have hV5 := hS5
  have hU5 : Upd (fun b => b = vb ∨ b = rb) w1 w5 := hU4.trans hV5
  have hz5 := hV5.size
  have hG5 : Glo ev w5 := hG1.updS hU5 hgM1 hgM2
  have hq5 : Rdr RT ok w5 rb s2 ∧ NN w5 rb s2 := by
    have hn : ∀ x,x = w5 → (Rdr RT ok x rb s2 ∧ NN x rb s2) := fun x hx => by
      rw [hx,← hw5]
      exact Rdr.store hq4 (by omega) (fun h => by have := (hok _ h).1;first | omega | exact (hok _ h).2 rfl)
    exact hn _ rfl
  clear hw5
  have hf_1 : RepF (RepS true (d + 2)) (szS true (d + 2)) fQ_1 (fun b => ok b ∨ w1.heap.size ≤ b) w5 (x_1) [.int .i64 (rdInt .i64 8 s1).1] := (RepF_num (by decide)).2 (by rw [hx_1,hrd];exact congrArg (fun x => [x]) (numC_rd 4 (by decide) 8 s1).symm)
  clear hrd
  have hb_2 : (rdL (rdP (d + 2) ver false) (dfP (d + 2)) ver false [fQ_2,fQ_3,fQ_4] s2).2 = none → FB := fun h => hb_1 (by rw [rdL_st (by decide) hh_1,← hs2];exact h)
  have hh_2 : hasS fQ_2 ver = true := hasS_t (by show (0 : Int) ≤ ver;omega) (by show (3 : Int) < 0 ∨ ver ≤ (3 : Int);omega)
  obtain ⟨x_2,hx_2⟩ : ∃ x,x = (rdF (rdP (d + 2) ver false) ver false fQ_2 s2).1 := ⟨_,rfl⟩
  repeat ((first | refine qA rfl ?_|apply qB|refine qC rfl ?_|apply qD|apply qE|apply qF|apply qG|apply qH);try simp (maxSteps:=1000000)(disch:=(first|omega|(simp only [qI,qJ,qK]<;>omega)|exact qL _)) only [go_sem,↓reduceIte,n0,reduceCtorEq,n1,n2,n3,n4,n5,i0,i1,i2,i3,i4,i5,i6,i7,hv_5])
  have hrd : rdF (rdP (d + 2) ver false) ver false fQ_2 s2 = _ := rdF_num 2 rfl (by decide)
  refine (Int16_fn w5 hq5.1 hrok hG5.1 hgrb).mono ?_
  rintro _ w6 ⟨rfl,hq6,hu6⟩
  have hv_6 := hu6.blk_some hv_5 (by omega)
  have hV6 : Upd (fun b => b = vb ∨ b = rb) w5 w6 := hu6.mono (fun _ h => .inr h)
  have hU6 : Upd (fun b => b = vb ∨ b = rb) w1 w6 := hU5.trans hV6
  have hz6 := hV6.size
  have hG6 : Glo ev w6 := hG1.updS hU6 hgM1 hgM2
  have hst : (rdF (rdP (d + 2) ver false) ver false fQ_2 s2).2 = (rdInt .i16 2 s2).2 := by first | (rw [hrd];rfl) | rw [hrd]
  obtain ⟨s3,hs3⟩ : ∃ s,s = (rdF (rdP (d + 2) ver false) ver false fQ_2 s2).2 := ⟨_,rfl⟩
  rw [← hst,← hs3] at hq6
  clear hst
  repeat ((first | refine qA rfl ?_|apply qB|refine qC rfl ?_|apply qD|apply qE|apply qF|apply qG|apply qH);try simp (maxSteps:=1000000)(disch:=(first|omega|(simp only [qI,qJ,qK]<;>omega)|exact qL _)) only [go_sem,↓reduceIte,n0,reduceCtorEq,n1,n2,n3,n4,n5,i0,i1,i2,i3,i4,i5,i6,i7,hv_6])
  generalize hw7 : wr w6 vb 3 [.int .i16 (rdInt .i16 2 s2).1] = w7
  have hS7 : Upd (fun b => b = vb ∨ b = rb) w6 w7 := by rw [← hw7];exact (Upd.refl _ _).wr _ _ (.inr (.inl rfl))
  have hv_7 : blk w7 vb = some (#[.int .i16 ver,strV (rdStr false s0).1,.int .i64 (rdInt .i64 8 s1).1,.int .i16 (rdInt .i16 2 s2).1,.slice none 0 0,.slice none 0 0,.map none],69,(0,0)) := by rw [← hw7,blk_wr_eq,hv_6];rfl
  have hV7 := hS7
  have hU7 : Upd (fun b => b = vb ∨ b = rb) w1 w7 := hU6.trans hV7
  have hz7 := hV7.size
  have hG7 : Glo ev w7 := hG1.updS hU7 hgM1 hgM2
  have hq7 : Rdr RT ok w7 rb s3 ∧ NN w7 rb s3 := by
    have hn : ∀ x,x = w7 → (Rdr RT ok x rb s3 ∧ NN x rb s3) := fun x hx => by
      rw [hx,← hw7]
      exact Rdr.store hq6 (by omega) (fun h => by have := (hok _ h).1;first | omega | exact (hok _ h).2 rfl)
    exact hn _ rfl
  clear hw7
  have hf_2 : RepF (RepS true (d + 2)) (szS true (d + 2)) fQ_2 (fun b => ok b ∨ w1.heap.size ≤ b) w7 (x_2) [.int .i16 (rdInt .i16 2 s2).1] := (RepF_num (by decide)).2 (by rw [hx_2,hrd];exact congrArg (fun x => [x]) (numC_rd 2 (by decide) 2 s2).symm)
  clear hrd
  have hb_3 : (rdL (rdP (d + 2) ver false) (dfP (d + 2)) ver false [fQ_3,fQ_4] s3).2 = none → FB := fun h => hb_2 (by rw [rdL_st (by decide) hh_2,← hs3];exact h)
  have hh_3 : hasS fQ_3 ver = true := hasS_t (by show (0 : Int) ≤ ver;omega) (by show (3 : Int) < 0 ∨ ver ≤ (3 : Int);omega)
  obtain ⟨x_3,hx_3⟩ : ∃ x,x = (rdF (rdP (d + 2) ver false) ver false fQ_3 s3).1 := ⟨_,rfl⟩
  repeat ((first | refine qA rfl ?_|apply qB|refine qC rfl ?_|apply qD|apply qE|apply qF|apply qG|apply qH);try simp (maxSteps:=1000000)(disch:=(first|omega|(simp only [qI,qJ,qK]<;>omega)|exact qL _)) only [go_sem,↓reduceIte,n0,reduceCtorEq,n1,n2,n3,n4,n5,i0,i1,i2,i3,i4,i5,i6,i7,hv_7])
  refine (RArrayLen_fn w7 hq7.1 hrok hG7.1 hgrb).mono ?_
  rintro _ w8 ⟨rfl,hq8,hu8⟩
  have hv_8 := hu8.blk_some hv_7 (by omega)
  have hV8 : Upd (fun b => b = vb ∨ b = rb) w7 w8 := hu8.mono (fun _ h => .inr h)
  have hU8 : Upd (fun b => b = vb ∨ b = rb) w1 w8 := hU7.trans hV8
  have hz8 := hV8.size
  have hG8 : Glo ev w8 := hG1.updS hU8 hgM1 hgM2
  obtain ⟨s4,hs4⟩ : ∃ s,s = (rdALen false s3).2 := ⟨_,rfl⟩
  rw [← hs4] at hq8
  have hyr0 := rdALen_rng false s3
  generalize hy0 : (rdALen false s3).1 = y0 at *
  obtain ⟨N0,hN0⟩ : ∃ N,N = y0.toNat := ⟨_,rfl⟩
  have hlb0 : (rdMany (rd1 (rdP (d + 2) ver false) fQ_3.of fQ_3.sub false false) N0 s4).2 = none → FB := fun h => hb_3 (by rw [rdL_st (by decide) hh_3];exact rdL_bad (rdF_listbad rfl (by rw [hy0,← hN0,← hs4];exact h)))
  repeat ((first | refine W.seqR rfl ?_ | refine W.seq ?_ | refine W.regR rfl ?_ | refine W.block ?_ | refine W.skip ?_ | refine W.ret ?_ | refine W.exit ?_);try simp (maxSteps:=1000000)(disch:=(first|omega|(simp only [qI,qJ,qK]<;>omega)|exact qL _)) only [go_sem,↓reduceIte,n0,reduceCtorEq,n1,n2,n3,n4,n5,i0,i1,i2,i3,i4,i5,i6,i7,hv_8])
  refine (ROk_fn w8 hq8.1).mono ?_
  rintro _ wz ⟨rfl,hez⟩
  rw [hez]
  clear hez wz
  by_cases hsn0 : s4 = none
  · have hso : s4.isSome = false := by rw [hsn0];rfl
    repeat (first|simp (maxSteps:=1000000)(disch:=(first|omega|(simp only [qI,qJ,qK]<;>omega)|exact qL _)) only [go_sem,↓reduceIte,n0,reduceCtorEq,n1,n2,n3,n4,n5,i0,i1,i2,i3,i4,i5,i6,i7,hv_8,hso]|refine qA rfl ?_|apply qB|refine qC rfl ?_|apply qD|apply qE|apply qF|apply qG|apply qH)
    refine (RComplete_fn w8 hq8.1 hG8.2).mono ?_
    rintro _ wz ⟨rfl,hez⟩
    rw [hez]
    repeat (first|simp (maxSteps:=1000000)(disch:=(first|omega|(simp only [qI,qJ,qK]<;>omega)|exact qL _)) only [go_sem,↓reduceIte,n0,reduceCtorEq,n1,n2,n3,n4,n5,i0,i1,i2,i3,i4,i5,i6,i7,hv_8]|refine qA rfl ?_|apply qB|refine qC rfl ?_|apply qD|apply qE|apply qF|apply qG|apply qH)
    rw [errV_none hsn0]
    exact ReadQ.bad (Eq.mp hFB (hlb0 (by rw [hsn0];exact rdMany_none rd1P_none _))) (hbase.trans' hU8 fun i hi h => h.elim id fun h => by omega)
  have hso0 : s4.isSome = true := isSome_some hsn0
  try simp (maxSteps:=1000000)(disch:=(first|omega|(simp only [qI,qJ,qK]<;>omega)|exact qL _)) only [go_sem,↓reduceIte,n0,reduceCtorEq,n1,n2,n3,n4,n5,i0,i1,i2,i3,i4,i5,i6,i7,hv_8,hso0]
  repeat ((first | refine W.seqR rfl ?_ | refine W.seq ?_ | refine W.regR rfl ?_ | refine W.block ?_ | refine W.skip ?_ | refine W.ret ?_ | refine W.exit ?_);try simp (maxSteps:=1000000)(disch:=(first|omega|(simp only [qI,qJ,qK]<;>omega)|exact qL _)) only [go_sem,↓reduceIte,n0,reduceCtorEq,n1,n2,n3,n4,n5,i0,i1,i2,i3,i4,i5,i6,i7,hv_8,hso0])
  refine W.condK ?_
  try simp (maxSteps:=1000000)(disch:=(first|omega|(simp only [qI,qJ,qK]<;>omega)|exact qL _)) only [go_sem,↓reduceIte,n0,reduceCtorEq,n1,n2,n3,n4,n5,i0,i1,i2,i3,i4,i5,i6,i7,hv_8,hso0]
  repeat ((first | refine W.seqR rfl ?_ | refine W.seq ?_ | refine W.regR rfl ?_ | refine W.block ?_ | refine W.skip ?_ | refine W.ret ?_ | refine W.exit ?_);try simp (maxSteps:=1000000)(disch:=(first|omega|(simp only [qI,qJ,qK]<;>omega)|exact qL _)) only [go_sem,↓reduceIte,n0,reduceCtorEq,n1,n2,n3,n4,n5,i0,i1,i2,i3,i4,i5,i6,i7,hv_8,hso0,slBase_00])
  refine W.normJ (RowQ [(2,.bool false),(7,.pointer (some ⟨rb,0,none⟩)),(8,.int .i16 ver),(9,.bool false),(10,.pointer (some ⟨vb,0,none⟩)),(16,.int .i32 y0)] 15 (fun va w' => LstI RT (rd1 (rdP (d + 2) ver false) fQ_3.of fQ_3.sub false false) (Rep1 (RepS true (d + 2)) fQ_3.of fQ_3.sub) 3 103 [.string ByteArray.empty,.slice none 0 0,.map none] w8.heap.size N0 ok (fun b => ok b ∨ w1.heap.size ≤ b) rb w8 s4 va 0 s4 [] [] w' ∧ (N0 = 0 → if nilS fQ_3 ver y0 = true then va = .slice none 0 0 else ∃ a,va = .slice (some a) 0 0))) ?_ ?_
  · by_cases hy0 : (0 : Int) < y0
    · have hyv : Value.int .i32 y0 = .int .i32 ((N0 : Nat) : Int) := by rw [show y0 = ((N0 : Nat) : Int) by omega]
      repeat ((first | refine qA rfl ?_|apply qB|refine qC rfl ?_|apply qD|apply qE|apply qF|apply qG|apply qH);try simp (maxSteps:=1000000)(disch:=(first|omega|(simp only [qI,qJ,qK]<;>omega)|exact qL _)) only [go_sem,↓reduceIte,n0,reduceCtorEq,n1,n2,n3,n4,n5,i0,i1,i2,i3,i4,i5,i6,i7,hv_8])
      refine wp_appendZ (m := N0) utQ_63 utQ_21 inQ_103 (by decide) (by first | rfl | simp (maxSteps:=1000000)(disch:=(first|omega|(simp only [qI,qJ,qK]<;>omega)|exact qL _)) only [go_sem,↓reduceIte,n0,reduceCtorEq,n1,n2,n3,n4,n5,i0,i1,i2,i3,i4,i5,i6,i7]) (by first | exact hyv | (simp (maxSteps:=1000000)(disch:=(first|omega|(simp only [qI,qJ,qK]<;>omega)|exact qL _)) only [go_sem,↓reduceIte,n0,reduceCtorEq,n1,n2,n3,n4,n5,i0,i1,i2,i3,i4,i5,i6,i7];exact hyv)) (by omega) (by omega) (by decide) ?_
      intro q rest hq1
      have hEw : Ext w8 (w8.drew.alloc (.cells (zs [.string ByteArray.empty,.slice none 0 0,.map none] N0 ++ rest).toArray 103)) := (Upd.refl _ _).drew.alloc _
      repeat (first|simp (maxSteps:=1000000)(disch:=(first|omega|(simp only [qI,qJ,qK]<;>omega)|exact qL _)) only [go_sem,↓reduceIte,n0,reduceCtorEq,n1,n2,n3,n4,n5,i0,i1,i2,i3,i4,i5,i6,i7,hv_8]|refine qA rfl ?_|apply qB|refine qC rfl ?_|apply qD|apply qE|apply qF|apply qG|apply qH)
      exact ⟨(by simp (maxSteps:=1000000)(disch:=(first|omega|(simp only [qI,qJ,qK]<;>omega)|exact qL _)) only [go_sem,↓reduceIte,n0,reduceCtorEq,n1,n2,n3,n4,n5,i0,i1,i2,i3,i4,i5,i6,i7,Holds_nil,Holds_cons]),.slice (some ⟨w8.heap.size,0,none⟩) N0 q,(by simp (maxSteps:=1000000)(disch:=(first|omega|(simp only [qI,qJ,qK]<;>omega)|exact qL _)) only [go_sem,↓reduceIte,n0,reduceCtorEq,n1,n2,n3,n4,n5,i0,i1,i2,i3,i4,i5,i6,i7]),LstI.start (RowJ.start (by omega) hq1 (by show w8.heap.size ≤ w8.drew.heap.size;rw [size_drew];omega) (blk_alloc_new rfl)) ⟨hq8.1.upd hEw (fun h => h) (fun _ _ _ h => h),hq8.2.upd hEw fun h => h⟩ (hEw.mono fun _ h => h.elim),fun h0 => by omega⟩
    · repeat ((first | refine qA rfl ?_|apply qB|refine qC rfl ?_|apply qD|apply qE|apply qF|apply qG|apply qH);try simp (maxSteps:=1000000)(disch:=(first|omega|(simp only [qI,qJ,qK]<;>omega)|exact qL _)) only [go_sem,↓reduceIte,n0,reduceCtorEq,n1,n2,n3,n4,n5,i0,i1,i2,i3,i4,i5,i6,i7,hv_8])
      exact ⟨(by simp (maxSteps:=1000000)(disch:=(first|omega|(simp only [qI,qJ,qK]<;>omega)|exact qL _)) only [go_sem,↓reduceIte,n0,reduceCtorEq,n1,n2,n3,n4,n5,i0,i1,i2,i3,i4,i5,i6,i7,Holds_nil,Holds_cons]),.slice none 0 0,(by simp (maxSteps:=1000000)(disch:=(first|omega|(simp only [qI,qJ,qK]<;>omega)|exact qL _)) only [go_sem,↓reduceIte,n0,reduceCtorEq,n1,n2,n3,n4,n5,i0,i1,i2,i3,i4,i5,i6,i7,slBase_00]),LstI.start (RowJ.zero (by omega) (fun _ h => by cases h)) hq8 (Upd.refl _ _),fun _ => by rw [nilS_plain (by decide) (by omega)];exact rfl⟩
  rintro ρ w9 ⟨⟨hrb0_2,hrb0_7,hrb0_8,hrb0_9,hrb0_10,hrb0_16,-⟩,va0,hra0,hL0,hnc0⟩
  repeat ((first | refine qA rfl ?_|apply qB|refine qC rfl ?_|apply qD|apply qE|apply qF|apply qG|apply qH);try simp (maxSteps:=1000000)(disch:=(first|omega|(simp only [qI,qJ,qK]<;>omega)|exact qL _)) only [go_sem,↓reduceIte,n0,reduceCtorEq,n1,n2,n3,n4,n5,i0,i1,i2,i3,i4,i5,i6,i7,hv_8,hrb0_2,hrb0_7,hrb0_8,hrb0_9,hrb0_10,hrb0_16,hra0,exitRQ_ret,exitRQ_exit,Int.toNat_natCast,Nat.mul_one])
  refine W.exitRJ 0 (EndQ [(2,.bool false),(7,.pointer (some ⟨rb,0,none⟩)),(8,.int .i16 ver),(9,.bool false),(10,.pointer (some ⟨vb,0,none⟩)),(16,.int .i32 y0),(15,va0)] (fun w' => ∃ s xs css,LstI RT (rd1 (rdP (d + 2) ver false) fQ_3.of fQ_3.sub false false) (Rep1 (RepS true (d + 2)) fQ_3.of fQ_3.sub) 3 103 [.string ByteArray.empty,.slice none 0 0,.map none] w8.heap.size N0 ok (fun b => ok b ∨ w1.heap.size ≤ b) rb w8 s4 va0 N0 s xs css w')) (W.loop (LoopQ [(2,.bool false),(7,.pointer (some ⟨rb,0,none⟩)),(8,.int .i16 ver),(9,.bool false),(10,.pointer (some ⟨vb,0,none⟩)),(16,.int .i32 y0),(15,va0)] 17 (fun j w' => ∃ s xs css,LstI RT (rd1 (rdP (d + 2) ver false) fQ_3.of fQ_3.sub false false) (Rep1 (RepS true (d + 2)) fQ_3.of fQ_3.sub) 3 103 [.string ByteArray.empty,.slice none 0 0,.map none] w8.heap.size N0 ok (fun b => ok b ∨ w1.heap.size ≤ b) rb w8 s4 va0 j s xs css w')) (fun ρ _ => N0 - (RowKit.intOf (ρ 17)).toNat) ?_ ?_) ?_
  · exact ⟨(by simp (maxSteps:=1000000)(disch:=(first|omega|(simp only [qI,qJ,qK]<;>omega)|exact qL _)) only [go_sem,↓reduceIte,n0,reduceCtorEq,n1,n2,n3,n4,n5,i0,i1,i2,i3,i4,i5,i6,i7,Holds_nil,Holds_cons,hrb0_2,hrb0_7,hrb0_8,hrb0_9,hrb0_10,hrb0_16,hra0]),0,(by simp (maxSteps:=1000000)(disch:=(first|omega|(simp only [qI,qJ,qK]<;>omega)|exact qL _)) only [go_sem,↓reduceIte,n0,reduceCtorEq,n1,n2,n3,n4,n5,i0,i1,i2,i3,i4,i5,i6,i7,hrb0_2,hrb0_7,hrb0_8,hrb0_9,hrb0_10,hrb0_16,hra0];all_goals rfl),s4,[],[],hL0⟩
  · rintro ρ w10 ⟨⟨hrc0_2,hrc0_7,hrc0_8,hrc0_9,hrc0_10,hrc0_16,hrc0_15,-⟩,j1,hri0,s5,xs0,css0,hL0⟩
    have hj0 := hL0.le
    have hq10 := hL0.rd
    have hU10 : Upd (fun b => b = vb ∨ b = rb) w1 w10 := hU8.trans' hL0.upd fun i _ h => .inr h
    have hz10 := hL0.upd.size
    have hG10 : Glo ev w10 := hG1.updS hU10 hgM1 hgM2
    by_cases hlt0 : j1 < N0
    · obtain ⟨R1,q1,B1,hva1,hNq1,hLR1,hA1,hx1_10,hnext1⟩ := hL0.row.next hlt0
      have hRl1 := blk_lt hx1_10
      generalize css0.flatten = A1 at hA1 hx1_10 hnext1
      replace hra0 : ρ 15 = .slice (some ⟨R1,0,none⟩) N0 q1 := hrc0_15.trans hva1
      have hown1 : ∀ b,ownB va0 b → w8.heap.size ≤ b ∧ b < w10.heap.size := fun b h => hL0.row.own h
      have hoM1 : ∀ b,(fun b => (ok b ∨ w1.heap.size ≤ b) ∧ ¬ ownB va0 b) b → ¬ (b = R1 ∨ b = rb) := fun b hk h => h.elim (fun e => hk.2 ⟨_,_,_,hva1,e⟩) (fun e => hoM b hk.1 (.inr e))
      obtain ⟨X10,hX10⟩ : ∃ X : Array Value,X = (A1 ++ (([.string ByteArray.empty,.slice none 0 0,.map none] : List Value) ++ B1)).toArray := ⟨_,rfl⟩
      have hxb10 : blk w10 R1 = some (X10,103,(0,0)) := by rw [hX10];exact hx1_10
      have hXs10 : j1 * 3 + 3 ≤ X10.size := by rw [hX10];simp only [List.size_toArray,List.length_append,List.length_cons,List.length_nil,hA1];omega
      repeat ((first | refine qA rfl ?_|apply qB|refine qC rfl ?_|apply qD|apply qE|apply qF|apply qG|apply qH);try simp (maxSteps:=1000000)(disch:=(first|omega|(simp only [qI,qJ,qK]<;>omega)|exact qL _)) only [go_sem,↓reduceIte,n0,reduceCtorEq,n1,n2,n3,n4,n5,i0,i1,i2,i3,i4,i5,i6,i7,hxb10,hrc0_2,hrc0_7,hrc0_8,hrc0_9,hrc0_10,hrc0_16,hra0,hri0,exitRQ_ret,exitRQ_exit,Int.toNat_natCast,Nat.mul_one])
      refine (DefaultEX2_fn w10 hx1_10 hA1).mono ?_
      rintro _ w11 ⟨hx1_11,hu11⟩
      have hq11 := And.intro (hq10.1.upd hu11 (by omega) (fun b _ hk e => by have := (hok b hk).1;omega)) (hq10.2.upd hu11 (by omega))
      have hV11 : Upd (fun b => b = R1 ∨ b = rb) w10 w11 := hu11.mono (fun _ h => .inl h)
      have hU11 : Upd (fun b => b = vb ∨ b = rb) w1 w11 := hU10.trans' hV11 fun i hi h => h.elim (fun h => by omega) .inr
      have hz11 := hV11.size
      have hG11 : Glo ev w11 := hG1.updS hU11 hgM1 hgM2
      obtain ⟨X11,hX11⟩ : ∃ X : Array Value,X = (A1 ++ (([.string ByteArray.empty,.slice none 0 0,.map none] : List Value) ++ B1)).toArray := ⟨_,rfl⟩
      have hxb11 : blk w11 R1 = some (X11,103,(0,0)) := by rw [hX11];exact hx1_11
      have hXs11 : j1 * 3 + 3 ≤ X11.size := by rw [hX11];simp only [List.size_toArray,List.length_append,List.length_cons,List.length_nil,hA1];omega
      have hbe0_0 : (rdL (rdP (d + 1) ver false) (dfP (d + 1)) ver false [fX2_0,fX2_1] s5).2 = none → FB := fun h => hlb0 (hL0.bad hlt0 rd1P_none (by show (rd1 (rdP (d + 2) ver false) 10 fs_X2 false false s5).2 = none;rw [rd1_part];exact rdP_bad h))
      have hhe0_0 : hasS fX2_0 ver = true := hasS_t (by show (0 : Int) ≤ ver;omega) (by show (-1 : Int) < 0 ∨ ver ≤ (-1 : Int);omega)
      obtain ⟨xe0_0,hxe0_0⟩ : ∃ x,x = (rdF (rdP (d + 1) ver false) ver false fX2_0 s5).1 := ⟨_,rfl⟩
      repeat ((first | refine qA rfl ?_|apply qB|refine qC rfl ?_|apply qD|apply qE|apply qF|apply qG|apply qH);try simp (maxSteps:=1000000)(disch:=(first|omega|(simp only [qI,qJ,qK]<;>omega)|exact qL _)) only [go_sem,↓reduceIte,n0,reduceCtorEq,n1,n2,n3,n4,n5,i0,i1,i2,i3,i4,i5,i6,i7,hxb11,hrc0_2,hrc0_7,hrc0_8,hrc0_9,hrc0_10,hrc0_16,hra0,hri0,exitRQ_ret,exitRQ_exit,Int.toNat_natCast,Nat.mul_one])
      have hmay : mayS fX2_0 ver = false := mayS_no (by show (-1 : Int) < 0 ∨ ver < (-1 : Int);omega)
      have hrd : rdF (rdP (d + 1) ver false) ver false fX2_0 s5 = _ := rdF_text rfl hmay
      refine (RString_fn w11 hq11.1 hrok hG11.1 hgrb).mono ?_
      rintro _ w12 ⟨rfl,hq12,hu12⟩
      have hx1_12 := hu12.blk_some hx1_11 (by omega)
      have hV12 : Upd (fun b => b = R1 ∨ b = rb) w11 w12 := hu12.mono (fun _ h => .inr h)
      have hU12 : Upd (fun b => b = vb ∨ b = rb) w1 w12 := hU11.trans' hV12 fun i hi h => h.elim (fun h => by omega) .inr
      have hz12 := hV12.size
      have hG12 : Glo ev w12 := hG1.updS hU12 hgM1 hgM2
      obtain ⟨X12,hX12⟩ : ∃ X : Array Value,X = (A1 ++ (([.string ByteArray.empty,.slice none 0 0,.map none] : List Value) ++ B1)).toArray := ⟨_,rfl⟩
      have hxb12 : blk w12 R1 = some (X12,103,(0,0)) := by rw [hX12];exact hx1_12
      have hXs12 : j1 * 3 + 3 ≤ X12.size := by rw [hX12];simp only [List.size_toArray,List.length_append,List.length_cons,List.length_nil,hA1];omega
      have hst : (rdF (rdP (d + 1) ver false) ver false fX2_0 s5).2 = (rdStr false s5).2 := by first | (rw [hrd];rfl) | rw [hrd]
      obtain ⟨s6,hs6⟩ : ∃ s,s = (rdF (rdP (d + 1) ver false) ver false fX2_0 s5).2 := ⟨_,rfl⟩
      rw [← hst,← hs6] at hq12
      clear hst
      have hst12_0 : j1 * 3 + 1 ≤ X12.size := by omega
      have hld12_1 : X12[j1 * 3 + 1]? = some (.slice none 0 0) := by rw [hX12];exact el_cell (R := 0) hA1 (Nat.le_of_ble_eq_true rfl)
      repeat ((first | refine qA rfl ?_|apply qB|refine qC rfl ?_|apply qD|apply qE|apply qF|apply qG|apply qH);try simp (maxSteps:=1000000)(disch:=(first|omega|(simp only [qI,qJ,qK]<;>omega)|exact qL _)) only [go_sem,↓reduceIte,n0,reduceCtorEq,n1,n2,n3,n4,n5,i0,i1,i2,i3,i4,i5,i6,i7,hxb12,hrc0_2,hrc0_7,hrc0_8,hrc0_9,hrc0_10,hrc0_16,hra0,hri0,exitRQ_ret,exitRQ_exit,Int.toNat_natCast,Nat.mul_one,hst12_0,hld12_1,Array.getElem?_setIfInBounds_ne])
      generalize hw13 : wr w12 R1 (j1 * 3) [strV (rdStr false s5).1] = w13
      have hS13 : Upd (fun b => b = R1 ∨ b = rb) w12 w13 := by rw [← hw13];exact (Upd.refl _ _).wr _ _ (.inr (.inl rfl))
      have hx1_13 : blk w13 R1 = some ((A1 ++ (([strV (rdStr false s5).1,.slice none 0 0,.map none] : List Value) ++ B1)).toArray,103,(0,0)) := by rw [← hw13];exact el_blk0 hx1_12 hA1 (Nat.le_of_ble_eq_true rfl)
      have hV13 := hS13
      have hU13 : Upd (fun b => b = vb ∨ b = rb) w1 w13 := hU12.trans' hV13 fun i hi h => h.elim (fun h => by omega) .inr
      have hz13 := hV13.size
      have hG13 : Glo ev w13 := hG1.updS hU13 hgM1 hgM2
      have hq13 : Rdr RT ok w13 rb s6 ∧ NN w13 rb s6 := by
        have hn : ∀ x,x = w13 → (Rdr RT ok x rb s6 ∧ NN x rb s6) := fun x hx => by
          rw [hx,← hw13]
          exact Rdr.store hq12 (by omega) (fun h => by have := (hok _ h).1;first | omega | exact (hok _ h).2 rfl)
        exact hn _ rfl
      obtain ⟨X13,hX13⟩ : ∃ X : Array Value,X = (A1 ++ (([strV (rdStr false s5).1,.slice none 0 0,.map none] : List Value) ++ B1)).toArray := ⟨_,rfl⟩
      have hxb13 : blk w13 R1 = some (X13,103,(0,0)) := by rw [hX13];exact hx1_13
      have hXs13 : j1 * 3 + 3 ≤ X13.size := by rw [hX13];simp only [List.size_toArray,List.length_append,List.length_cons,List.length_nil,hA1];omega
      clear hw13
      have hfe0_0 : RepF (RepS true (d + 1)) (szS true (d + 1)) fX2_0 (fun b => (ok b ∨ w1.heap.size ≤ b) ∧ ¬ ownB va0 b) w13 (xe0_0) [strV (rdStr false s5).1] := (RepF_text rfl (by decide)).2 (by rw [hxe0_0,hrd];rfl)
      clear hrd
      have hbe0_1 : (rdL (rdP (d + 1) ver false) (dfP (d + 1)) ver false [fX2_1] s6).2 = none → FB := fun h => hbe0_0 (by rw [rdL_st (by decide) hhe0_0,← hs6];exact h)
      have hhe0_1 : hasS fX2_1 ver = true := hasS_t (by show (0 : Int) ≤ ver;omega) (by show (-1 : Int) < 0 ∨ ver ≤ (-1 : Int);omega)
      obtain ⟨xe0_1,hxe0_1⟩ : ∃ x,x = (rdF (rdP (d + 1) ver false) ver false fX2_1 s6).1 := ⟨_,rfl⟩
      have hld13_1 : X13[j1 * 3 + 1]? = some (.slice none 0 0) := by rw [hX13];exact el_cell (R := 0) hA1 (Nat.le_of_ble_eq_true rfl)
      repeat ((first | refine qA rfl ?_|apply qB|refine qC rfl ?_|apply qD|apply qE|apply qF|apply qG|apply qH);try simp (maxSteps:=1000000)(disch:=(first|omega|(simp only [qI,qJ,qK]<;>omega)|exact qL _)) only [go_sem,↓reduceIte,n0,reduceCtorEq,n1,n2,n3,n4,n5,i0,i1,i2,i3,i4,i5,i6,i7,hxb13,hrc0_2,hrc0_7,hrc0_8,hrc0_9,hrc0_10,hrc0_16,hra0,hri0,exitRQ_ret,exitRQ_exit,Int.toNat_natCast,Nat.mul_one,hld13_1])
      refine (RArrayLen_fn w13 hq13.1 hrok hG13.1 hgrb).mono ?_
      rintro _ w14 ⟨rfl,hq14,hu14⟩
      have hx1_14 := hu14.blk_some hx1_13 (by omega)
      have hV14 : Upd (fun b => b = R1 ∨ b = rb) w13 w14 := hu14.mono (fun _ h => .inr h)
      have hU14 : Upd (fun b => b = vb ∨ b = rb) w1 w14 := hU13.trans' hV14 fun i hi h => h.elim (fun h => by omega) .inr
      have hz14 := hV14.size
      have hG14 : Glo ev w14 := hG1.updS hU14 hgM1 hgM2
      obtain ⟨X14,hX14⟩ : ∃ X : Array Value,X = (A1 ++ (([strV (rdStr false s5).1,.slice none 0 0,.map none] : List Value) ++ B1)).toArray := ⟨_,rfl⟩
      have hxb14 : blk w14 R1 = some (X14,103,(0,0)) := by rw [hX14];exact hx1_14
      have hXs14 : j1 * 3 + 3 ≤ X14.size := by rw [hX14];simp only [List.size_toArray,List.length_append,List.length_cons,List.length_nil,hA1];omega
      obtain ⟨s7,hs7⟩ : ∃ s,s = (rdALen false s6).2 := ⟨_,rfl⟩
      rw [← hs7] at hq14
      have hyr1 := rdALen_rng false s6
      generalize hy1 : (rdALen false s6).1 = y1 at *
      obtain ⟨N1,hN1⟩ : ∃ N,N = y1.toNat := ⟨_,rfl⟩
      have hlb1 : (rdMany (rd1 (rdP (d + 1) ver false) fX2_1.of fX2_1.sub false false) N1 s7).2 = none → FB := fun h => hbe0_1 (by rw [rdL_st (by decide) hhe0_1];exact rdL_bad (rdF_listbad rfl (by rw [hy1,← hN1,← hs7];exact h)))
      repeat ((first | refine W.seqR rfl ?_ | refine W.seq ?_ | refine W.regR rfl ?_ | refine W.block ?_ | refine W.skip ?_ | refine W.ret ?_ | refine W.exit ?_);try simp (maxSteps:=1000000)(disch:=(first|omega|(simp only [qI,qJ,qK]<;>omega)|exact qL _)) only [go_sem,↓reduceIte,n0,reduceCtorEq,n1,n2,n3,n4,n5,i0,i1,i2,i3,i4,i5,i6,i7,hxb14,hrc0_2,hrc0_7,hrc0_8,hrc0_9,hrc0_10,hrc0_16,hra0,hri0,exitRQ_ret,exitRQ_exit,Int.toNat_natCast,Nat.mul_one])
      refine (ROk_fn w14 hq14.1).mono ?_
      rintro _ wz ⟨rfl,hez⟩
      rw [hez]
      clear hez wz
      by_cases hsn1 : s7 = none
      · have hso : s7.isSome = false := by rw [hsn1];rfl
        repeat (first|simp (maxSteps:=1000000)(disch:=(first|omega|(simp only [qI,qJ,qK]<;>omega)|exact qL _)) only [go_sem,↓reduceIte,n0,reduceCtorEq,n1,n2,n3,n4,n5,i0,i1,i2,i3,i4,i5,i6,i7,hxb14,hrc0_2,hrc0_7,hrc0_8,hrc0_9,hrc0_10,hrc0_16,hra0,hri0,exitRQ_ret,exitRQ_exit,Int.toNat_natCast,Nat.mul_one,hso]|refine qA rfl ?_|apply qB|refine qC rfl ?_|apply qD|apply qE|apply qF|apply qG|apply qH)
        refine (RComplete_fn w14 hq14.1 hG14.2).mono ?_
        rintro _ wz ⟨rfl,hez⟩
        rw [hez]
        repeat (first|simp (maxSteps:=1000000)(disch:=(first|omega|(simp only [qI,qJ,qK]<;>omega)|exact qL _)) only [go_sem,↓reduceIte,n0,reduceCtorEq,n1,n2,n3,n4,n5,i0,i1,i2,i3,i4,i5,i6,i7,hxb14,hrc0_2,hrc0_7,hrc0_8,hrc0_9,hrc0_10,hrc0_16,hra0,hri0,exitRQ_ret,exitRQ_exit,Int.toNat_natCast,Nat.mul_one]|refine qA rfl ?_|apply qB|refine qC rfl ?_|apply qD|apply qE|apply qF|apply qG|apply qH)
        rw [errV_none hsn1]
        exact ReadQ.bad (Eq.mp hFB (hlb1 (by rw [hsn1];exact rdMany_none rd1P_none _))) (hbase.trans' hU14 fun i hi h => h.elim id fun h => by omega)
      have hso1 : s7.isSome = true := isSome_some hsn1
      try simp (maxSteps:=1000000)(disch:=(first|omega|(simp only [qI,qJ,qK]<;>omega)|exact qL _)) only [go_sem,↓reduceIte,n0,reduceCtorEq,n1,n2,n3,n4,n5,i0,i1,i2,i3,i4,i5,i6,i7,hxb14,hrc0_2,hrc0_7,hrc0_8,hrc0_9,hrc0_10,hrc0_16,hra0,hri0,exitRQ_ret,exitRQ_exit,Int.toNat_natCast,Nat.mul_one,hso1]
      repeat ((first | refine W.seqR rfl ?_ | refine W.seq ?_ | refine W.regR rfl ?_ | refine W.block ?_ | refine W.skip ?_ | refine W.ret ?_ | refine W.exit ?_);try simp (maxSteps:=1000000)(disch:=(first|omega|(simp only [qI,qJ,qK]<;>omega)|exact qL _)) only [go_sem,↓reduceIte,n0,reduceCtorEq,n1,n2,n3,n4,n5,i0,i1,i2,i3,i4,i5,i6,i7,hxb14,hrc0_2,hrc0_7,hrc0_8,hrc0_9,hrc0_10,hrc0_16,hra0,hri0,exitRQ_ret,exitRQ_exit,Int.toNat_natCast,Nat.mul_one,hso1])
      refine W.condK ?_
      try simp (maxSteps:=1000000)(disch:=(first|omega|(simp only [qI,qJ,qK]<;>omega)|exact qL _)) only [go_sem,↓reduceIte,n0,reduceCtorEq,n1,n2,n3,n4,n5,i0,i1,i2,i3,i4,i5,i6,i7,hxb14,hrc0_2,hrc0_7,hrc0_8,hrc0_9,hrc0_10,hrc0_16,hra0,hri0,exitRQ_ret,exitRQ_exit,Int.toNat_natCast,Nat.mul_one,hso1]
      repeat ((first | refine W.seqR rfl ?_ | refine W.seq ?_ | refine W.regR rfl ?_ | refine W.block ?_ | refine W.skip ?_ | refine W.ret ?_ | refine W.exit ?_);try simp (maxSteps:=1000000)(disch:=(first|omega|(simp only [qI,qJ,qK]<;>omega)|exact qL _)) only [go_sem,↓reduceIte,n0,reduceCtorEq,n1,n2,n3,n4,n5,i0,i1,i2,i3,i4,i5,i6,i7,hxb14,hrc0_2,hrc0_7,hrc0_8,hrc0_9,hrc0_10,hrc0_16,hra0,hri0,exitRQ_ret,exitRQ_exit,Int.toNat_natCast,Nat.mul_one,hso1,slBase_00])
      refine W.normJ (RowQ [(2,.bool false),(7,.pointer (some ⟨rb,0,none⟩)),(8,.int .i16 ver),(9,.bool false),(10,.pointer (some ⟨vb,0,none⟩)),(16,.int .i32 y0),(15,.slice (some ⟨R1,0,none⟩) N0 q1),(17,.int .i32 j1),(19,.pointer (some ⟨R1,j1 * 3,none⟩)),(23,.int .i32 y1)] 22 (fun va w' => LstI RT (rd1 (rdP (d + 1) ver false) fX2_1.of fX2_1.sub false false) (Rep1 (RepS true (d + 1)) fX2_1.of fX2_1.sub) 1 21 [.int .i32 0] w14.heap.size N1 ok (fun b => (ok b ∨ w1.heap.size ≤ b) ∧ ¬ ownB va0 b) rb w14 s7 va 0 s7 [] [] w' ∧ (N1 = 0 → if nilS fX2_1 ver y1 = true then va = .slice none 0 0 else ∃ a,va = .slice (some a) 0 0))) ?_ ?_
      · by_cases hy0 : (0 : Int) < y1
        · have hyv : Value.int .i32 y1 = .int .i32 ((N1 : Nat) : Int) := by rw [show y1 = ((N1 : Nat) : Int) by omega]
          repeat ((first | refine qA rfl ?_|apply qB|refine qC rfl ?_|apply qD|apply qE|apply qF|apply qG|apply qH);try simp (maxSteps:=1000000)(disch:=(first|omega|(simp only [qI,qJ,qK]<;>omega)|exact qL _)) only [go_sem,↓reduceIte,n0,reduceCtorEq,n1,n2,n3,n4,n5,i0,i1,i2,i3,i4,i5,i6,i7,hxb14,hrc0_2,hrc0_7,hrc0_8,hrc0_9,hrc0_10,hrc0_16,hra0,hri0,exitRQ_ret,exitRQ_exit,Int.toNat_natCast,Nat.mul_one])
          refine wp_appendZ (m := N1) utQ_101 utQ_21 inQ_21 (by decide) (by first | rfl | simp (maxSteps:=1000000)(disch:=(first|omega|(simp only [qI,qJ,qK]<;>omega)|exact qL _)) only [go_sem,↓reduceIte,n0,reduceCtorEq,n1,n2,n3,n4,n5,i0,i1,i2,i3,i4,i5,i6,i7,hrc0_2,hrc0_7,hrc0_8,hrc0_9,hrc0_10,hrc0_16,hra0,hri0]) (by first | exact hyv | (simp (maxSteps:=1000000)(disch:=(first|omega|(simp only [qI,qJ,qK]<;>omega)|exact qL _)) only [go_sem,↓reduceIte,n0,reduceCtorEq,n1,n2,n3,n4,n5,i0,i1,i2,i3,i4,i5,i6,i7,hrc0_2,hrc0_7,hrc0_8,hrc0_9,hrc0_10,hrc0_16,hra0,hri0];exact hyv)) (by omega) (by omega) (by decide) ?_
          intro q rest hq1
          have hEw : Ext w14 (w14.drew.alloc (.cells (zs [.int .i32 0] N1 ++ rest).toArray 21)) := (Upd.refl _ _).drew.alloc _
          repeat (first|simp (maxSteps:=1000000)(disch:=(first|omega|(simp only [qI,qJ,qK]<;>omega)|exact qL _)) only [go_sem,↓reduceIte,n0,reduceCtorEq,n1,n2,n3,n4,n5,i0,i1,i2,i3,i4,i5,i6,i7,hxb14,hrc0_2,hrc0_7,hrc0_8,hrc0_9,hrc0_10,hrc0_16,hra0,hri0,exitRQ_ret,exitRQ_exit,Int.toNat_natCast,Nat.mul_one]|refine qA rfl ?_|apply qB|refine qC rfl ?_|apply qD|apply qE|apply qF|apply qG|apply qH)
          exact ⟨(by simp (maxSteps:=1000000)(disch:=(first|omega|(simp only [qI,qJ,qK]<;>omega)|exact qL _)) only [go_sem,↓reduceIte,n0,reduceCtorEq,n1,n2,n3,n4,n5,i0,i1,i2,i3,i4,i5,i6,i7,Holds_nil,Holds_cons,hrc0_2,hrc0_7,hrc0_8,hrc0_9,hrc0_10,hrc0_16,hra0,hri0]),.slice (some ⟨w14.heap.size,0,none⟩) N1 q,(by simp (maxSteps:=1000000)(disch:=(first|omega|(simp only [qI,qJ,qK]<;>omega)|exact qL _)) only [go_sem,↓reduceIte,n0,reduceCtorEq,n1,n2,n3,n4,n5,i0,i1,i2,i3,i4,i5,i6,i7,hrc0_2,hrc0_7,hrc0_8,hrc0_9,hrc0_10,hrc0_16,hra0,hri0]),LstI.start (RowJ.start (by omega) hq1 (by show w14.heap.size ≤ w14.drew.heap.size;rw [size_drew];omega) (blk_alloc_new rfl)) ⟨hq14.1.upd hEw (fun h => h) (fun _ _ _ h => h),hq14.2.upd hEw fun h => h⟩ (hEw.mono fun _ h => h.elim),fun h0 => by omega⟩
        · repeat ((first | refine qA rfl ?_|apply qB|refine qC rfl ?_|apply qD|apply qE|apply qF|apply qG|apply qH);try simp (maxSteps:=1000000)(disch:=(first|omega|(simp only [qI,qJ,qK]<;>omega)|exact qL _)) only [go_sem,↓reduceIte,n0,reduceCtorEq,n1,n2,n3,n4,n5,i0,i1,i2,i3,i4,i5,i6,i7,hxb14,hrc0_2,hrc0_7,hrc0_8,hrc0_9,hrc0_10,hrc0_16,hra0,hri0,exitRQ_ret,exitRQ_exit,Int.toNat_natCast,Nat.mul_one])
          exact ⟨(by simp (maxSteps:=1000000)(disch:=(first|omega|(simp only [qI,qJ,qK]<;>omega)|exact qL _)) only [go_sem,↓reduceIte,n0,reduceCtorEq,n1,n2,n3,n4,n5,i0,i1,i2,i3,i4,i5,i6,i7,Holds_nil,Holds_cons,hrc0_2,hrc0_7,hrc0_8,hrc0_9,hrc0_10,hrc0_16,hra0,hri0]),.slice none 0 0,(by simp (maxSteps:=1000000)(disch:=(first|omega|(simp only [qI,qJ,qK]<;>omega)|exact qL _)) only [go_sem,↓reduceIte,n0,reduceCtorEq,n1,n2,n3,n4,n5,i0,i1,i2,i3,i4,i5,i6,i7,hrc0_2,hrc0_7,hrc0_8,hrc0_9,hrc0_10,hrc0_16,hra0,hri0,slBase_00]),LstI.start (RowJ.zero (by omega) (fun _ h => by cases h)) hq14 (Upd.refl _ _),fun _ => by rw [nilS_plain (by decide) (by omega)];exact rfl⟩
      rintro ρ w15 ⟨⟨hrb1_2,hrb1_7,hrb1_8,hrb1_9,hrb1_10,hrb1_16,hrb1_15,hrb1_17,hrb1_19,hrb1_23,-⟩,va1,hra1,hL1,hnc1⟩
      repeat ((first | refine qA rfl ?_|apply qB|refine qC rfl ?_|apply qD|apply qE|apply qF|apply qG|apply qH);try simp (maxSteps:=1000000)(disch:=(first|omega|(simp only [qI,qJ,qK]<;>omega)|exact qL _)) only [go_sem,↓reduceIte,n0,reduceCtorEq,n1,n2,n3,n4,n5,i0,i1,i2,i3,i4,i5,i6,i7,hxb14,hrb1_2,hrb1_7,hrb1_8,hrb1_9,hrb1_10,hrb1_16,hrb1_15,hrb1_17,hrb1_19,hrb1_23,hra1,exitRQ_ret,exitRQ_exit,Int.toNat_natCast,Nat.mul_one])
      refine W.exitRJ 2 (EndQ [(2,.bool false),(7,.pointer (some ⟨rb,0,none⟩)),(8,.int .i16 ver),(9,.bool false),(10,.pointer (some ⟨vb,0,none⟩)),(16,.int .i32 y0),(15,.slice (some ⟨R1,0,none⟩) N0 q1),(17,.int .i32 j1),(19,.pointer (some ⟨R1,j1 * 3,none⟩)),(23,.int .i32 y1),(22,va1)] (fun w' => ∃ s xs css,LstI RT (rd1 (rdP (d + 1) ver false) fX2_1.of fX2_1.sub false false) (Rep1 (RepS true (d + 1)) fX2_1.of fX2_1.sub) 1 21 [.int .i32 0] w14.heap.size N1 ok (fun b => (ok b ∨ w1.heap.size ≤ b) ∧ ¬ ownB va0 b) rb w14 s7 va1 N1 s xs css w')) (W.loop (LoopQ [(2,.bool false),(7,.pointer (some ⟨rb,0,none⟩)),(8,.int .i16 ver),(9,.bool false),(10,.pointer (some ⟨vb,0,none⟩)),(16,.int .i32 y0),(15,.slice (some ⟨R1,0,none⟩) N0 q1),(17,.int .i32 j1),(19,.pointer (some ⟨R1,j1 * 3,none⟩)),(23,.int .i32 y1),(22,va1)] 24 (fun j w' => ∃ s xs css,LstI RT (rd1 (rdP (d + 1) ver false) fX2_1.of fX2_1.sub false false) (Rep1 (RepS true (d + 1)) fX2_1.of fX2_1.sub) 1 21 [.int .i32 0] w14.heap.size N1 ok (fun b => (ok b ∨ w1.heap.size ≤ b) ∧ ¬ ownB va0 b) rb w14 s7 va1 j s xs css w')) (fun ρ _ => N1 - (RowKit.intOf (ρ 24)).toNat) ?_ ?_) ?_
      · exact ⟨(by simp (maxSteps:=1000000)(disch:=(first|omega|(simp only [qI,qJ,qK]<;>omega)|exact qL _)) only [go_sem,↓reduceIte,n0,reduceCtorEq,n1,n2,n3,n4,n5,i0,i1,i2,i3,i4,i5,i6,i7,Holds_nil,Holds_cons,hrb1_2,hrb1_7,hrb1_8,hrb1_9,hrb1_10,hrb1_16,hrb1_15,hrb1_17,hrb1_19,hrb1_23,hra1]),0,(by simp (maxSteps:=1000000)(disch:=(first|omega|(simp only [qI,qJ,qK]<;>omega)|exact qL _)) only [go_sem,↓reduceIte,n0,reduceCtorEq,n1,n2,n3,n4,n5,i0,i1,i2,i3,i4,i5,i6,i7,hrb1_2,hrb1_7,hrb1_8,hrb1_9,hrb1_10,hrb1_16,hrb1_15,hrb1_17,hrb1_19,hrb1_23,hra1];all_goals rfl),s7,[],[],hL1⟩
      · rintro ρ w16 ⟨⟨hrc1_2,hrc1_7,hrc1_8,hrc1_9,hrc1_10,hrc1_16,hrc1_15,hrc1_17,hrc1_19,hrc1_23,hrc1_22,-⟩,j2,hri1,s8,xs1,css1,hL1⟩
        have hj1 := hL1.le
        have hq16 := hL1.rd
        have hU16 : Upd (fun b => b = vb ∨ b = rb) w1 w16 := hU14.trans' hL1.upd fun i _ h => .inr h
        have hz16 := hL1.upd.size
        have hG16 : Glo ev w16 := hG1.updS hU16 hgM1 hgM2
        by_cases hlt1 : j2 < N1
        · obtain ⟨R2,q2,B2,hva2,hNq2,hLR2,hA2,hx2_16,hnext2⟩ := hL1.row.next hlt1
          have hRl2 := blk_lt hx2_16
          generalize css1.flatten = A2 at hA2 hx2_16 hnext2
          rw [Nat.mul_one] at hA2
          replace hra1 : ρ 22 = .slice (some ⟨R2,0,none⟩) N1 q2 := hrc1_22.trans hva2
          have hown2 : ∀ b,ownB va1 b → w14.heap.size ≤ b ∧ b < w16.heap.size := fun b h => hL1.row.own h
          have hoM2 : ∀ b,(fun b => (fun b => (ok b ∨ w1.heap.size ≤ b) ∧ ¬ ownB va0 b) b ∧ ¬ ownB va1 b) b → ¬ (b = R2 ∨ b = rb) := fun b hk h => h.elim (fun e => hk.2 ⟨_,_,_,hva2,e⟩) (fun e => hoM1 b hk.1 (.inr e))
          obtain ⟨X16,hX16⟩ : ∃ X : Array Value,X = (A2 ++ (([.int .i32 0] : List Value) ++ B2)).toArray := ⟨_,rfl⟩
          have hxb16 : blk w16 R2 = some (X16,21,(0,0)) := by rw [hX16];exact hx2_16
          have hXs16 : j2 + 1 ≤ X16.size := by rw [hX16];simp only [List.size_toArray,List.length_append,List.length_cons,List.length_nil,hA2];omega
          repeat ((first | refine qA rfl ?_|apply qB|refine qC rfl ?_|apply qD|apply qE|apply qF|apply qG|apply qH);try simp (maxSteps:=1000000)(disch:=(first|omega|(simp only [qI,qJ,qK]<;>omega)|exact qL _)) only [go_sem,↓reduceIte,n0,reduceCtorEq,n1,n2,n3,n4,n5,i0,i1,i2,i3,i4,i5,i6,i7,hxb16,hrc1_2,hrc1_7,hrc1_8,hrc1_9,hrc1_10,hrc1_16,hrc1_15,hrc1_17,hrc1_19,hrc1_23,hra1,hri1,exitRQ_ret,exitRQ_exit,Int.toNat_natCast,Nat.mul_one])
          refine (Int32_fn w16 hq16.1 hrok hG16.1 hgrb).mono ?_
          rintro _ w17 ⟨rfl,hq17,hu17⟩
          have hx2_17 := hu17.blk_some hx2_16 (by omega)
          have hV17 : Upd (fun b => b = R2 ∨ b = rb) w16 w17 := hu17.mono (fun _ h => .inr h)
          have hU17 : Upd (fun b => b = vb ∨ b = rb) w1 w17 := hU16.trans' hV17 fun i hi h => h.elim (fun h => by omega) .inr
          have hz17 := hV17.size
          have hG17 : Glo ev w17 := hG1.updS hU17 hgM1 hgM2
          obtain ⟨X17,hX17⟩ : ∃ X : Array Value,X = (A2 ++ (([.int .i32 0] : List Value) ++ B2)).toArray := ⟨_,rfl⟩
          have hxb17 : blk w17 R2 = some (X17,21,(0,0)) := by rw [hX17];exact hx2_17
          have hXs17 : j2 + 1 ≤ X17.size := by rw [hX17];simp only [List.size_toArray,List.length_append,List.length_cons,List.length_nil,hA2];omega
          obtain ⟨s9,hs9⟩ : ∃ s,s = (rdInt .i32 4 s8).2 := ⟨_,rfl⟩
          rw [← hs9] at hq17
          have hrE : (rd1 (rdP (d + 1) ver false) fX2_1.of fX2_1.sub false false) s8 = ((.num (rdInt .i32 4 s8).1),s9) := by rw [hs9];exact rd1_num 3 (by decide)
          have hst17_0 : j2 + 1 ≤ X17.size := by omega
          repeat ((first | refine qA rfl ?_|apply qB|refine qC rfl ?_|apply qD|apply qE|apply qF|apply qG|apply qH);try simp (maxSteps:=1000000)(disch:=(first|omega|(simp only [qI,qJ,qK]<;>omega)|exact qL _)) only [go_sem,↓reduceIte,n0,reduceCtorEq,n1,n2,n3,n4,n5,i0,i1,i2,i3,i4,i5,i6,i7,hxb17,hrc1_2,hrc1_7,hrc1_8,hrc1_9,hrc1_10,hrc1_16,hrc1_15,hrc1_17,hrc1_19,hrc1_23,hra1,hri1,exitRQ_ret,exitRQ_exit,Int.toNat_natCast,Nat.mul_one,hst17_0])
          generalize hw18 : wr w17 R2 (j2) [.int .i32 (rdInt .i32 4 s8).1] = w18
          have hS18 : Upd (fun b => b = R2 ∨ b = rb) w17 w18 := by rw [← hw18];exact (Upd.refl _ _).wr _ _ (.inr (.inl rfl))
          have hx2_18 : blk w18 R2 = some ((A2 ++ (([.int .i32 (rdInt .i32 4 s8).1] : List Value) ++ B2)).toArray,21,(0,0)) := by rw [← hw18];exact el_blk0 hx2_17 hA2 (Nat.le_of_ble_eq_true rfl)
          have hV18 := hS18
          have hU18 : Upd (fun b => b = vb ∨ b = rb) w1 w18 := hU17.trans' hV18 fun i hi h => h.elim (fun h => by omega) .inr
          have hz18 := hV18.size
          have hG18 : Glo ev w18 := hG1.updS hU18 hgM1 hgM2
          have hq18 : Rdr RT ok w18 rb s9 ∧ NN w18 rb s9 := by
            have hn : ∀ x,x = w18 → (Rdr RT ok x rb s9 ∧ NN x rb s9) := fun x hx => by
              rw [hx,← hw18]
              exact Rdr.store hq17 (by omega) (fun h => by have := (hok _ h).1;first | omega | exact (hok _ h).2 rfl)
            exact hn _ rfl
          obtain ⟨X18,hX18⟩ : ∃ X : Array Value,X = (A2 ++ (([.int .i32 (rdInt .i32 4 s8).1] : List Value) ++ B2)).toArray := ⟨_,rfl⟩
          have hxb18 : blk w18 R2 = some (X18,21,(0,0)) := by rw [hX18];exact hx2_18
          have hXs18 : j2 + 1 ≤ X18.size := by rw [hX18];simp only [List.size_toArray,List.length_append,List.length_cons,List.length_nil,hA2];omega
          clear hw18
          have hxE : (Rep1 (RepS true (d + 1)) fX2_1.of fX2_1.sub) (fun b => (fun b => (ok b ∨ w1.heap.size ≤ b) ∧ ¬ ownB va0 b) b ∧ ¬ ownB va1 b) w18 (.num (rdInt .i32 4 s8).1) [.int .i32 (rdInt .i32 4 s8).1] := (Rep1_num (by decide)).2 (congrArg (fun x => [x]) (numC_rd 3 (by decide) 4 s8).symm)
          repeat ((first | refine qA rfl ?_|apply qB|refine qC rfl ?_|apply qD|apply qE|apply qF|apply qG|apply qH);try simp (maxSteps:=1000000)(disch:=(first|omega|(simp only [qI,qJ,qK]<;>omega)|exact qL _)) only [go_sem,↓reduceIte,n0,reduceCtorEq,n1,n2,n3,n4,n5,i0,i1,i2,i3,i4,i5,i6,i7,hxb18,hrc1_2,hrc1_7,hrc1_8,hrc1_9,hrc1_10,hrc1_16,hrc1_15,hrc1_17,hrc1_19,hrc1_23,hra1,hri1,exitRQ_ret,exitRQ_exit,Int.toNat_natCast,Nat.mul_one])
          have hTk : Upd (fun b => b = R2 ∨ b = rb) w16 w18 := (hV17.trans hV18)
          have hL' := hL1.step (Rep1_lay _ _ fun _ => RepS_lay true _ _) hlt1 (hnext2 w18 [.int .i32 (rdInt .i32 4 s8).1] rfl hx2_18) (by rw [hrE];exact hxE) (hTk.mono fun b h => h.imp (fun e => ⟨_,_,_,hva2,e⟩) id) (by rw [hrE];exact hq18) (fun h => hoM1 rb h (.inr rfl)) (Nat.le_refl _)
          have hij : IntKind.i32.wrap ((j2 : Int) + 1) = ((j2 + 1 : Nat) : Int) := by rw [i32_wrap (by omega)];omega
          repeat ((first | refine qA rfl ?_|apply qB|refine qC rfl ?_|apply qD|apply qE|apply qF|apply qG|apply qH);try simp (maxSteps:=1000000)(disch:=(first|omega|(simp only [qI,qJ,qK]<;>omega)|exact qL _)) only [go_sem,↓reduceIte,n0,reduceCtorEq,n1,n2,n3,n4,n5,i0,i1,i2,i3,i4,i5,i6,i7,hxb18,hrc1_2,hrc1_7,hrc1_8,hrc1_9,hrc1_10,hrc1_16,hrc1_15,hrc1_17,hrc1_19,hrc1_23,hra1,hri1,exitRQ_ret,exitRQ_exit,Int.toNat_natCast,Nat.mul_one,hij])
          refine ⟨⟨(by simp (maxSteps:=1000000)(disch:=(first|omega|(simp only [qI,qJ,qK]<;>omega)|exact qL _)) only [go_sem,↓reduceIte,n0,reduceCtorEq,n1,n2,n3,n4,n5,i0,i1,i2,i3,i4,i5,i6,i7,Holds_nil,Holds_cons,hrc1_2,hrc1_7,hrc1_8,hrc1_9,hrc1_10,hrc1_16,hrc1_15,hrc1_17,hrc1_19,hrc1_23,hra1,hri1];exact hva2.symm),j2 + 1,(by simp (maxSteps:=1000000)(disch:=(first|omega|(simp only [qI,qJ,qK]<;>omega)|exact qL _)) only [go_sem,↓reduceIte,n0,reduceCtorEq,n1,n2,n3,n4,n5,i0,i1,i2,i3,i4,i5,i6,i7,hrc1_2,hrc1_7,hrc1_8,hrc1_9,hrc1_10,hrc1_16,hrc1_15,hrc1_17,hrc1_19,hrc1_23,hra1,hri1,hij];all_goals rfl),_,_,_,hL'⟩,?_⟩
          try simp (maxSteps:=1000000)(disch:=(first|omega|(simp only [qI,qJ,qK]<;>omega)|exact qL _)) only [go_sem,↓reduceIte,n0,reduceCtorEq,n1,n2,n3,n4,n5,i0,i1,i2,i3,i4,i5,i6,i7,hrc1_2,hrc1_7,hrc1_8,hrc1_9,hrc1_10,hrc1_16,hrc1_15,hrc1_17,hrc1_19,hrc1_23,hra1,hri1]
          simp only [RowKit.intOf]
          omega
        · have hjN : j2 = N1 := by omega
          rw [hjN] at hL1
          repeat ((first | refine qA rfl ?_|apply qB|refine qC rfl ?_|apply qD|apply qE|apply qF|apply qG|apply qH);try simp (maxSteps:=1000000)(disch:=(first|omega|(simp only [qI,qJ,qK]<;>omega)|exact qL _)) only [go_sem,↓reduceIte,n0,reduceCtorEq,n1,n2,n3,n4,n5,i0,i1,i2,i3,i4,i5,i6,i7,hrc1_2,hrc1_7,hrc1_8,hrc1_9,hrc1_10,hrc1_16,hrc1_15,hrc1_17,hrc1_19,hrc1_23,hrc1_22,hri1,exitRQ_ret,exitRQ_exit])
          exact ⟨(by simp (maxSteps:=1000000)(disch:=(first|omega|(simp only [qI,qJ,qK]<;>omega)|exact qL _)) only [go_sem,↓reduceIte,n0,reduceCtorEq,n1,n2,n3,n4,n5,i0,i1,i2,i3,i4,i5,i6,i7,Holds_nil,Holds_cons,hrc1_2,hrc1_7,hrc1_8,hrc1_9,hrc1_10,hrc1_16,hrc1_15,hrc1_17,hrc1_19,hrc1_23,hrc1_22,hri1]),s8,xs1,css1,hL1⟩
      rintro ρ w19 ⟨⟨hrd1_2,hrd1_7,hrd1_8,hrd1_9,hrd1_10,hrd1_16,hrd1_15,hrd1_17,hrd1_19,hrd1_23,hrd1_22,-⟩,s10,xs1,css1,hL1⟩
      have hq19 := hL1.rd
      have hu19 := hL1.upd
      have hx1_19 := hu19.blk_some hx1_14 (by omega)
      have hV19 : Upd (fun b => b = R1 ∨ b = rb) w14 w19 := hu19.mono (fun _ h => .inr h)
      have hU19 : Upd (fun b => b = vb ∨ b = rb) w1 w19 := hU14.trans' hV19 fun i hi h => h.elim (fun h => by omega) .inr
      have hz19 := hV19.size
      have hG19 : Glo ev w19 := hG1.updS hU19 hgM1 hgM2
      obtain ⟨X19,hX19⟩ : ∃ X : Array Value,X = (A1 ++ (([strV (rdStr false s5).1,.slice none 0 0,.map none] : List Value) ++ B1)).toArray := ⟨_,rfl⟩
      have hxb19 : blk w19 R1 = some (X19,103,(0,0)) := by rw [hX19];exact hx1_19
      have hXs19 : j1 * 3 + 3 ≤ X19.size := by rw [hX19];simp only [List.size_toArray,List.length_append,List.length_cons,List.length_nil,hA1];omega
      have hrd1 : rdF (rdP (d + 1) ver false) ver false fX2_1 s6 = (.mk 0 [] (nilS fX2_1 ver y1) xs1 [],s10) := by
        have h := rdF_listE (pt := (rdP (d + 1) ver false)) (v := ver) (flex := false) (f := fX2_1) (s := s6) (xs := xs1) (e := s10) rfl (by rw [hy1,← hN1,← hs7];exact hL1.done)
        rw [hy1] at h;exact h
      have hs10 : s10 = (rdF (rdP (d + 1) ver false) ver false fX2_1 s6).2 := by rw [hrd1]
      obtain ⟨aa1,qq1,hvs1⟩ := hL1.row.shape
      subst hvs1
      have hst19_1 : j1 * 3 + 2 ≤ X19.size := by omega
      repeat ((first | refine qA rfl ?_|apply qB|refine qC rfl ?_|apply qD|apply qE|apply qF|apply qG|apply qH);try simp (maxSteps:=1000000)(disch:=(first|omega|(simp only [qI,qJ,qK]<;>omega)|exact qL _)) only [go_sem,↓reduceIte,n0,reduceCtorEq,n1,n2,n3,n4,n5,i0,i1,i2,i3,i4,i5,i6,i7,hxb19,hrd1_2,hrd1_7,hrd1_8,hrd1_9,hrd1_10,hrd1_16,hrd1_15,hrd1_17,hrd1_19,hrd1_23,hrd1_22,exitRQ_ret,exitRQ_exit,Int.toNat_natCast,Nat.mul_one,hst19_1])
      generalize hw20 : wr w19 R1 (j1 * 3 + 1) [.slice aa1 N1 qq1] = w20
      have hS20 : Upd (fun b => b = R1 ∨ b = rb) w19 w20 := by rw [← hw20];exact (Upd.refl _ _).wr _ _ (.inr (.inl rfl))
      have hx1_20 : blk w20 R1 = some ((A1 ++ (([strV (rdStr false s5).1,.slice aa1 N1 qq1,.map none] : List Value) ++ B1)).toArray,103,(0,0)) := by rw [← hw20];exact el_blk (o := 1) hx1_19 hA1 (Nat.le_of_ble_eq_true rfl)
      have hV20 := hS20
      have hU20 : Upd (fun b => b = vb ∨ b = rb) w1 w20 := hU19.trans' hV20 fun i hi h => h.elim (fun h => by omega) .inr
      have hz20 := hV20.size
      have hG20 : Glo ev w20 := hG1.updS hU20 hgM1 hgM2
      have hq20 : Rdr RT ok w20 rb s10 ∧ NN w20 rb s10 := by
        have hn : ∀ x,x = w20 → (Rdr RT ok x rb s10 ∧ NN x rb s10) := fun x hx => by
          rw [hx,← hw20]
          exact Rdr.store hq19 (by omega) (fun h => by have := (hok _ h).1;first | omega | exact (hok _ h).2 rfl)
        exact hn _ rfl
      obtain ⟨X20,hX20⟩ : ∃ X : Array Value,X = (A1 ++ (([strV (rdStr false s5).1,.slice aa1 N1 qq1,.map none] : List Value) ++ B1)).toArray := ⟨_,rfl⟩
      have hxb20 : blk w20 R1 = some (X20,103,(0,0)) := by rw [hX20];exact hx1_20
      have hXs20 : j1 * 3 + 3 ≤ X20.size := by rw [hX20];simp only [List.size_toArray,List.length_append,List.length_cons,List.length_nil,hA1];omega
      clear hw20
      have hfe0_1 : RepF (RepS true (d + 1)) (szS true (d + 1)) fX2_1 (fun b => (ok b ∨ w1.heap.size ≤ b) ∧ ¬ ownB va0 b) w20 (xe0_1) [.slice aa1 N1 qq1] := by rw [hxe0_1,hrd1];exact RepF.keepS (RepF_row rfl hnc1 hN1 rfl hL1.row hL1.all (fun b hb => ⟨.inr (by omega),fun ho => by have := (hown1 _ ho).2;omega⟩)) (hV20.keeps fun b _ hk e => hoM1 b hk e)
      clear hL1 hnc1
      have hle0_2 : rdL (rdP (d + 1) ver false) (dfP (d + 1)) ver false [] s10 = ([],s10) := rfl
      have hle0_1 : rdL (rdP (d + 1) ver false) (dfP (d + 1)) ver false [fX2_1] s6 = ([xe0_1],s10) := by rw [rdL_st (by decide) hhe0_1,← hxe0_1,← hs10,hle0_2]
      have hle0_0 : rdL (rdP (d + 1) ver false) (dfP (d + 1)) ver false [fX2_0,fX2_1] s5 = ([xe0_0,xe0_1],s10) := by rw [rdL_st (by decide) hhe0_0,← hxe0_0,← hs6,hle0_1]
      have hfine0 : rdP (d + 2) ver false fs_X2 s5 = (.mk 0 [] false [xe0_0,xe0_1] [],s10) := rdP_f hle0_0
      have hTge0 : TagsM (fun b => (ok b ∨ w1.heap.size ≤ b) ∧ ¬ ownB va0 b) w20 (.map none) [] := .inl ⟨rfl,rfl⟩
      have hCe0_20 : Upd (fun b => b = R1 ∨ b = rb) w20 w20 := Upd.refl _ _
      have hCe0_19 : Upd (fun b => b = R1 ∨ b = rb) w19 w20 := hV20.trans hCe0_20
      have hCe0_14 : Upd (fun b => b = R1 ∨ b = rb) w14 w20 := hV19.trans hCe0_19
      have hCe0_13 : Upd (fun b => b = R1 ∨ b = rb) w13 w20 := hV14.trans hCe0_14
      have hCe0_12 : Upd (fun b => b = R1 ∨ b = rb) w12 w20 := hV13.trans hCe0_13
      have hCe0_11 : Upd (fun b => b = R1 ∨ b = rb) w11 w20 := hV12.trans hCe0_12
      have hCe0_10 : Upd (fun b => b = R1 ∨ b = rb) w10 w20 := hV11.trans hCe0_11
      have hRe0 : RepS true (d + 2) fs_X2 (fun b => (ok b ∨ w1.heap.size ≤ b) ∧ ¬ ownB va0 b) w20 (.mk 0 [] false [xe0_0,xe0_1] []) [strV (rdStr false s5).1,.slice aa1 N1 qq1,.map none] := RepS.introT (c := [strV (rdStr false s5).1,.slice aa1 N1 qq1]) (RepL.cons1 (hfe0_0.keepS (hCe0_13.keeps fun b _ hk e => hoM1 b hk e)) (RepL.cons1 (hfe0_1.keepS (hCe0_20.keeps fun b _ hk e => hoM1 b hk e)) RepL.nil)) hTge0
      have hrE : (rd1 (rdP (d + 2) ver false) fQ_3.of fQ_3.sub false false) s5 = ((.mk 0 [] false [xe0_0,xe0_1] []),s10) := by rw [show (rd1 (rdP (d + 2) ver false) fQ_3.of fQ_3.sub false false) s5 = _ from rd1_part];exact hfine0
      have hxE : (Rep1 (RepS true (d + 2)) fQ_3.of fQ_3.sub) (fun b => (ok b ∨ w1.heap.size ≤ b) ∧ ¬ ownB va0 b) w20 (.mk 0 [] false [xe0_0,xe0_1] []) [strV (rdStr false s5).1,.slice aa1 N1 qq1,.map none] := Rep1_part.2 hRe0
      repeat ((first | refine qA rfl ?_|apply qB|refine qC rfl ?_|apply qD|apply qE|apply qF|apply qG|apply qH);try simp (maxSteps:=1000000)(disch:=(first|omega|(simp only [qI,qJ,qK]<;>omega)|exact qL _)) only [go_sem,↓reduceIte,n0,reduceCtorEq,n1,n2,n3,n4,n5,i0,i1,i2,i3,i4,i5,i6,i7,hxb20,hrd1_2,hrd1_7,hrd1_8,hrd1_9,hrd1_10,hrd1_16,hrd1_15,hrd1_17,hrd1_19,hrd1_23,hrd1_22,exitRQ_ret,exitRQ_exit,Int.toNat_natCast,Nat.mul_one])
      have hTk : Upd (fun b => b = R1 ∨ b = rb) w10 w20 := (((((hV11.trans hV12).trans hV13).trans hV14).trans hV19).trans hV20)
      have hL' := hL0.step (Rep1_lay _ _ fun _ => RepS_lay true _ _) hlt0 (hnext1 w20 [strV (rdStr false s5).1,.slice aa1 N1 qq1,.map none] rfl hx1_20) (by rw [hrE];exact hxE) (hTk.mono fun b h => h.imp (fun e => ⟨_,_,_,hva1,e⟩) id) (by rw [hrE];exact hq20) (fun h => hoM rb h (.inr rfl)) (Nat.le_refl _)
      have hij : IntKind.i32.wrap ((j1 : Int) + 1) = ((j1 + 1 : Nat) : Int) := by rw [i32_wrap (by omega)];omega
      repeat ((first | refine qA rfl ?_|apply qB|refine qC rfl ?_|apply qD|apply qE|apply qF|apply qG|apply qH);try simp (maxSteps:=1000000)(disch:=(first|omega|(simp only [qI,qJ,qK]<;>omega)|exact qL _)) only [go_sem,↓reduceIte,n0,reduceCtorEq,n1,n2,n3,n4,n5,i0,i1,i2,i3,i4,i5,i6,i7,hxb20,hrd1_2,hrd1_7,hrd1_8,hrd1_9,hrd1_10,hrd1_16,hrd1_15,hrd1_17,hrd1_19,hrd1_23,hrd1_22,exitRQ_ret,exitRQ_exit,Int.toNat_natCast,Nat.mul_one,hij])
      refine ⟨⟨(by simp (maxSteps:=1000000)(disch:=(first|omega|(simp only [qI,qJ,qK]<;>omega)|exact qL _)) only [go_sem,↓reduceIte,n0,reduceCtorEq,n1,n2,n3,n4,n5,i0,i1,i2,i3,i4,i5,i6,i7,Holds_nil,Holds_cons,hrd1_2,hrd1_7,hrd1_8,hrd1_9,hrd1_10,hrd1_16,hrd1_15,hrd1_17,hrd1_19,hrd1_23,hrd1_22];exact hva1.symm),j1 + 1,(by simp (maxSteps:=1000000)(disch:=(first|omega|(simp only [qI,qJ,qK]<;>omega)|exact qL _)) only [go_sem,↓reduceIte,n0,reduceCtorEq,n1,n2,n3,n4,n5,i0,i1,i2,i3,i4,i5,i6,i7,hrd1_2,hrd1_7,hrd1_8,hrd1_9,hrd1_10,hrd1_16,hrd1_15,hrd1_17,hrd1_19,hrd1_23,hrd1_22,hij];all_goals rfl),_,_,_,hL'⟩,?_⟩
      try simp (maxSteps:=1000000)(disch:=(first|omega|(simp only [qI,qJ,qK]<;>omega)|exact qL _)) only [go_sem,↓reduceIte,n0,reduceCtorEq,n1,n2,n3,n4,n5,i0,i1,i2,i3,i4,i5,i6,i7,hrd1_2,hrd1_7,hrd1_8,hrd1_9,hrd1_10,hrd1_16,hrd1_15,hrd1_17,hrd1_19,hrd1_23,hrd1_22]
      simp only [RowKit.intOf]
      omega
    · have hjN : j1 = N0 := by omega
      rw [hjN] at hL0
      repeat ((first | refine qA rfl ?_|apply qB|refine qC rfl ?_|apply qD|apply qE|apply qF|apply qG|apply qH);try simp (maxSteps:=1000000)(disch:=(first|omega|(simp only [qI,qJ,qK]<;>omega)|exact qL _)) only [go_sem,↓reduceIte,n0,reduceCtorEq,n1,n2,n3,n4,n5,i0,i1,i2,i3,i4,i5,i6,i7,hrc0_2,hrc0_7,hrc0_8,hrc0_9,hrc0_10,hrc0_16,hrc0_15,hri0,exitRQ_ret,exitRQ_exit])
      exact ⟨(by simp (maxSteps:=1000000)(disch:=(first|omega|(simp only [qI,qJ,qK]<;>omega)|exact qL _)) only [go_sem,↓reduceIte,n0,reduceCtorEq,n1,n2,n3,n4,n5,i0,i1,i2,i3,i4,i5,i6,i7,Holds_nil,Holds_cons,hrc0_2,hrc0_7,hrc0_8,hrc0_9,hrc0_10,hrc0_16,hrc0_15,hri0]),s5,xs0,css0,hL0⟩
  rintro ρ w21 ⟨⟨hrd0_2,hrd0_7,hrd0_8,hrd0_9,hrd0_10,hrd0_16,hrd0_15,-⟩,s11,xs0,css0,hL0⟩
  have hq21 := hL0.rd
  have hu21 := hL0.upd
  have hv_21 := hu21.blk_some hv_8 (by omega)
  have hV21 : Upd (fun b => b = vb ∨ b = rb) w8 w21 := hu21.mono (fun _ h => .inr h)
  have hU21 : Upd (fun b => b = vb ∨ b = rb) w1 w21 := hU8.trans hV21
  have hz21 := hV21.size
  have hG21 : Glo ev w21 := hG1.updS hU21 hgM1 hgM2
  have hrd0 : rdF (rdP (d + 2) ver false) ver false fQ_3 s3 = (.mk 0 [] (nilS fQ_3 ver y0) xs0 [],s11) := by
    have h := rdF_listE (pt := (rdP (d + 2) ver false)) (v := ver) (flex := false) (f := fQ_3) (s := s3) (xs := xs0) (e := s11) rfl (by rw [hy0,← hN0,← hs4];exact hL0.done)
    rw [hy0] at h;exact h
  have hs11 : s11 = (rdF (rdP (d + 2) ver false) ver false fQ_3 s3).2 := by rw [hrd0]
  obtain ⟨aa0,qq0,hvs0⟩ := hL0.row.shape
  subst hvs0
  repeat ((first | refine qA rfl ?_|apply qB|refine qC rfl ?_|apply qD|apply qE|apply qF|apply qG|apply qH);try simp (maxSteps:=1000000)(disch:=(first|omega|(simp only [qI,qJ,qK]<;>omega)|exact qL _)) only [go_sem,↓reduceIte,n0,reduceCtorEq,n1,n2,n3,n4,n5,i0,i1,i2,i3,i4,i5,i6,i7,hv_21,hrd0_2,hrd0_7,hrd0_8,hrd0_9,hrd0_10,hrd0_16,hrd0_15])
  generalize hw22 : wr w21 vb 4 [.slice aa0 N0 qq0] = w22
  have hS22 : Upd (fun b => b = vb ∨ b = rb) w21 w22 := by rw [← hw22];exact (Upd.refl _ _).wr _ _ (.inr (.inl rfl))
  have hv_22 : blk w22 vb = some (#[.int .i16 ver,strV (rdStr false s0).1,.int .i64 (rdInt .i64 8 s1).1,.int .i16 (rdInt .i16 2 s2).1,.slice aa0 N0 qq0,.slice none 0 0,.map none],69,(0,0)) := by rw [← hw22,blk_wr_eq,hv_21];rfl
  have hV22 := hS22
  have hU22 : Upd (fun b => b = vb ∨ b = rb) w1 w22 := hU21.trans hV22
  have hz22 := hV22.size
  have hG22 : Glo ev w22 := hG1.updS hU22 hgM1 hgM2
  have hq22 : Rdr RT ok w22 rb s11 ∧ NN w22 rb s11 := by
    have hn : ∀ x,x = w22 → (Rdr RT ok x rb s11 ∧ NN x rb s11) := fun x hx => by
      rw [hx,← hw22]
      exact Rdr.store hq21 (by omega) (fun h => by have := (hok _ h).1;first | omega | exact (hok _ h).2 rfl)
    exact hn _ rfl
  clear hw22
  have hf_3 : RepF (RepS true (d + 2)) (szS true (d + 2)) fQ_3 (fun b => ok b ∨ w1.heap.size ≤ b) w22 (x_3) [.slice aa0 N0 qq0] := by rw [hx_3,hrd0];exact RepF.keepS (RepF_row rfl hnc0 hN0 rfl hL0.row hL0.all (fun b hb => .inr (by omega))) (hV22.keeps fun b _ hk e => (hoM b hk) e)
  clear hL0 hnc0
  have hb_4 : (rdL (rdP (d + 2) ver false) (dfP (d + 2)) ver false [fQ_4] s11).2 = none → FB := fun h => hb_3 (by rw [rdL_st (by decide) hh_3,← hs11];exact h)
  obtain ⟨x_4,hx_4⟩ : ∃ x,x = dfF (dfP (d + 2)) fQ_4 := ⟨_,rfl⟩
  have hf_4 : RepF (RepS true (d + 2)) (szS true (d + 2)) fQ_4 (fun b => ok b ∨ w1.heap.size ≤ b) w22 (x_4) [.slice none 0 0] := by rw [hx_4];exact RepF_nil rfl
  have hh_4 : hasS fQ_4 ver = false := hasS_f (by show ver < 4 ∨ (0 ≤ (-1 : Int) ∧ (-1 : Int) < ver);omega)
  have hl_5 : rdL (rdP (d + 2) ver false) (dfP (d + 2)) ver false [] s11 = ([],s11) := rfl
  have hl_4 : rdL (rdP (d + 2) ver false) (dfP (d + 2)) ver false [fQ_4] s11 = ([x_4],s11) := by rw [rdL_no hh_4,← hx_4,hl_5]
  have hl_3 : rdL (rdP (d + 2) ver false) (dfP (d + 2)) ver false [fQ_3,fQ_4] s3 = ([x_3,x_4],s11) := by rw [rdL_st (by decide) hh_3,← hx_3,← hs11,hl_4]
  have hl_2 : rdL (rdP (d + 2) ver false) (dfP (d + 2)) ver false [fQ_2,fQ_3,fQ_4] s2 = ([x_2,x_3,x_4],s11) := by rw [rdL_st (by decide) hh_2,← hx_2,← hs3,hl_3]
  have hl_1 : rdL (rdP (d + 2) ver false) (dfP (d + 2)) ver false [fQ_1,fQ_2,fQ_3,fQ_4] s1 = ([x_1,x_2,x_3,x_4],s11) := by rw [rdL_st (by decide) hh_1,← hx_1,← hs2,hl_2]
  have hl_0 : rdL (rdP (d + 2) ver false) (dfP (d + 2)) ver false [fQ_0,fQ_1,fQ_2,fQ_3,fQ_4] s0 = ([x_0,x_1,x_2,x_3,x_4],s11) := by rw [rdL_st (by decide) hh_0,← hx_0,← hs1,hl_1]
  have hfin : rdP (d + 3) ver false fs_Q s0 = (.mk 0 [] false [x_0,x_1,x_2,x_3,x_4] [],s11) := rdP_f hl_0
  have hTg : TagsM (fun b => ok b ∨ w1.heap.size ≤ b) w22 (.map none) [] := .inl ⟨rfl,rfl⟩
  have hC_22 : Upd (fun b => b = vb ∨ b = rb) w22 w22 := Upd.refl _ _
  have hC_21 : Upd (fun b => b = vb ∨ b = rb) w21 w22 := hV22.trans hC_22
  have hC_8 : Upd (fun b => b = vb ∨ b = rb) w8 w22 := hV21.trans hC_21
  have hC_7 : Upd (fun b => b = vb ∨ b = rb) w7 w22 := hV8.trans hC_8
  have hC_6 : Upd (fun b => b = vb ∨ b = rb) w6 w22 := hV7.trans hC_7
  have hC_5 : Upd (fun b => b = vb ∨ b = rb) w5 w22 := hV6.trans hC_6
  have hC_4 : Upd (fun b => b = vb ∨ b = rb) w4 w22 := hV5.trans hC_5
  have hC_3 : Upd (fun b => b = vb ∨ b = rb) w3 w22 := hV4.trans hC_4
  have hC_2 : Upd (fun b => b = vb ∨ b = rb) w2 w22 := hV3.trans hC_3
  have hC_1 : Upd (fun b => b = vb ∨ b = rb) w1 w22 := hV2.trans hC_2
  have hR : RepS true (d + 3) fs_Q (fun b => ok b ∨ w1.heap.size ≤ b) w22 (.mk 0 [] false [x_0,x_1,x_2,x_3,x_4] []) [strV (rdStr false s0).1,.int .i64 (rdInt .i64 8 s1).1,.int .i16 (rdInt .i16 2 s2).1,.slice aa0 N0 qq0,.slice none 0 0,.map none] := RepS.introT (c := [strV (rdStr false s0).1,.int .i64 (rdInt .i64 8 s1).1,.int .i16 (rdInt .i16 2 s2).1,.slice aa0 N0 qq0,.slice none 0 0]) (RepL.cons1 (hf_0.keepS (hC_3.keeps fun b _ hk e => (hoM b hk) e)) (RepL.cons1 (hf_1.keepS (hC_5.keeps fun b _ hk e => (hoM b hk) e)) (RepL.cons1 (hf_2.keepS (hC_7.keeps fun b _ hk e => (hoM b hk) e)) (RepL.cons1 (hf_3.keepS (hC_22.keeps fun b _ hk e => (hoM b hk) e)) (RepL.cons1 (hf_4.keepS (hC_22.keeps fun b _ hk e => (hoM b hk) e)) RepL.nil))))) hTg
  repeat ((first | refine qA rfl ?_|apply qB|refine qC rfl ?_|apply qD|apply qE|apply qF|apply qG|apply qH);try simp (maxSteps:=1000000)(disch:=(first|omega|(simp only [qI,qJ,qK]<;>omega)|exact qL _)) only [go_sem,↓reduceIte,n0,reduceCtorEq,n1,n2,n3,n4,n5,i0,i1,i2,i3,i4,i5,i6,i7,hv_22,hrd0_2,hrd0_7,hrd0_8,hrd0_9,hrd0_10,hrd0_16,hrd0_15])
  refine (RComplete_fn w22 hq22.1 hG22.2).mono ?_
  rintro _ wz ⟨rfl,hez⟩
  rw [hez]
  repeat ((first | refine qA rfl ?_|apply qB|refine qC rfl ?_|apply qD|apply qE|apply qF|apply qG|apply qH);try simp (maxSteps:=1000000)(disch:=(first|omega|(simp only [qI,qJ,qK]<;>omega)|exact qL _)) only [go_sem,↓reduceIte,n0,reduceCtorEq,n1,n2,n3,n4,n5,i0,i1,i2,i3,i4,i5,i6,i7,hv_22,hrd0_2,hrd0_7,hrd0_8,hrd0_9,hrd0_10,hrd0_16,hrd0_15])
  rw [hfin]
  refine ⟨fun h => ?_,fun h => ⟨?_,[strV (rdStr false s0).1,.int .i64 (rdInt .i64 8 s1).1,.int .i16 (rdInt .i16 2 s2).1,.slice aa0 N0 qq0,.slice none 0 0,.map none],hv_22,?_⟩,?_⟩
  · have h' : s11 = none := h
    rw [h'];rfl
  · cases hsn : s11 with
    | none => exact absurd hsn h
    | some x => rfl
  · exact (RepS_lay true (d + 3) fs_Q).weaken hR fun b _ hk => hk.imp id fun h => by omega
  · exact hbase.trans' hU22 fun i hi h => h.elim id fun h => by omega
end Ms

