/- A part of the proof: see the last text. -/
import Derived.Test.YtanfebeopfbamaaGreatDoorC07
import Derived.Test.YtanfebeopfbamaaGreatDoorC09
import Derived.Test.YtanfebeopfbamaaGreatDoorC10
set_option linter.unusedSimpArgs false
set_option linter.unusedVariables false
namespace Ms
open Nat renaming reduceEqDiff → n0,reduceAdd → n1,reduceMul → n2,reduceSub → n3,reduceLT → n4,reduceLeDiff → n5
open Int renaming reduceEq → i0,reduceLT → i1,reduceLE → i2,reduceNeg → i3,reduceAdd → i4,reduceSub → i5,reduceMul → i6,reduceToNat → i7
set_option maxRecDepth 4000
open Go Go.Proofs
theorem ca_12 : callable Tryz.prog 12 = true := nr (by kernel_rfl)
theorem ca_13 : callable Tryz.prog 13 = true := nr (by kernel_rfl)
theorem ca_14 : callable Tryz.prog 14 = true := nr (by kernel_rfl)
theorem ca_23 : callable Tryz.prog 23 = true := nr (by kernel_rfl)
theorem ca_24 : callable Tryz.prog 24 = true := nr (by kernel_rfl)
theorem ca_25 : callable Tryz.prog 25 = true := nr (by kernel_rfl)
theorem ca_26 : callable Tryz.prog 26 = true := nr (by kernel_rfl)
theorem ca_27 : callable Tryz.prog 27 = true := nr (by kernel_rfl)
theorem ca_28 : callable Tryz.prog 28 = true := nr (by kernel_rfl)
theorem ca_42 : callable Tryz.prog 42 = true := nr (by kernel_rfl)
theorem ca_43 : callable Tryz.prog 43 = true := nr (by kernel_rfl)
theorem ca_46 : callable Tryz.prog 46 = true := nr (by kernel_rfl)
theorem ca_47 : callable Tryz.prog 47 = true := nr (by kernel_rfl)
theorem ca_49 : callable Tryz.prog 49 = true := nr (by kernel_rfl)
theorem ca_5 : callable Tryz.prog 5 = true := nr (by kernel_rfl)
theorem ca_50 : callable Tryz.prog 50 = true := nr (by kernel_rfl)
theorem ca_51 : callable Tryz.prog 51 = true := nr (by kernel_rfl)
theorem ca_53 : callable Tryz.prog 53 = true := nr (by kernel_rfl)
theorem ca_54 : callable Tryz.prog 54 = true := nr (by kernel_rfl)
theorem ca_55 : callable Tryz.prog 55 = true := nr (by kernel_rfl)
theorem ca_56 : callable Tryz.prog 56 = true := nr (by kernel_rfl)
theorem ca_59 : callable Tryz.prog 59 = true := nr (by kernel_rfl)
theorem ca_60 : callable Tryz.prog 60 = true := nr (by kernel_rfl)
theorem ca_67 : callable Tryz.prog 67 = true := nr (by kernel_rfl)
theorem ca_68 : callable Tryz.prog 68 = true := nr (by kernel_rfl)
theorem ca_69 : callable Tryz.prog 69 = true := nr (by kernel_rfl)
theorem ca_70 : callable Tryz.prog 70 = true := nr (by kernel_rfl)
theorem ca_73 : callable Tryz.prog 73 = true := nr (by kernel_rfl)
theorem ca_74 : callable Tryz.prog 74 = true := nr (by kernel_rfl)
theorem ca_75 : callable Tryz.prog 75 = true := nr (by kernel_rfl)
theorem ca_76 : callable Tryz.prog 76 = true := nr (by kernel_rfl)
theorem ca_77 : callable Tryz.prog 77 = true := nr (by kernel_rfl)
theorem ca_78 : callable Tryz.prog 78 = true := nr (by kernel_rfl)
theorem ca_79 : callable Tryz.prog 79 = true := nr (by kernel_rfl)
theorem ca_8 : callable Tryz.prog 8 = true := nr (by kernel_rfl)
theorem ca_80 : callable Tryz.prog 80 = true := nr (by kernel_rfl)
theorem ca_81 : callable Tryz.prog 81 = true := nr (by kernel_rfl)
theorem ca_83 : callable Tryz.prog 83 = true := nr (by kernel_rfl)
theorem ca_9 : callable Tryz.prog 9 = true := nr (by kernel_rfl)
theorem ca_92 : callable Tryz.prog 92 = true := nr (by kernel_rfl)
theorem ca_93 : callable Tryz.prog 93 = true := nr (by kernel_rfl)
theorem ca_94 : callable Tryz.prog 94 = true := nr (by kernel_rfl)
theorem es_100 : elemSize Tryz.prog 100 = some 3 := nr (by kernel_rfl)
theorem es_101 : elemSize Tryz.prog 101 = some 3 := nr (by kernel_rfl)
theorem es_93 : elemSize Tryz.prog 93 = some 3 := nr (by kernel_rfl)
theorem fo_103_0 : fieldOff Tryz.prog 103 0 = some 0 := nr (by kernel_rfl)
theorem fo_103_1 : fieldOff Tryz.prog 103 1 = some 1 := nr (by kernel_rfl)
theorem fo_103_2 : fieldOff Tryz.prog 103 2 = some 2 := nr (by kernel_rfl)
theorem fo_105_0 : fieldOff Tryz.prog 105 0 = some 0 := nr (by kernel_rfl)
theorem fo_105_1 : fieldOff Tryz.prog 105 1 = some 1 := nr (by kernel_rfl)
theorem fo_105_2 : fieldOff Tryz.prog 105 2 = some 2 := nr (by kernel_rfl)
theorem fo_108_0 : fieldOff Tryz.prog 108 0 = some 0 := nr (by kernel_rfl)
theorem fo_108_1 : fieldOff Tryz.prog 108 1 = some 1 := nr (by kernel_rfl)
theorem fo_108_2 : fieldOff Tryz.prog 108 2 = some 2 := nr (by kernel_rfl)
theorem fo_95_0 : fieldOff Tryz.prog 95 0 = some 0 := nr (by kernel_rfl)
theorem fo_95_1 : fieldOff Tryz.prog 95 1 = some 1 := nr (by kernel_rfl)
theorem fo_95_2 : fieldOff Tryz.prog 95 2 = some 2 := nr (by kernel_rfl)
theorem fo_95_3 : fieldOff Tryz.prog 95 3 = some 3 := nr (by kernel_rfl)
theorem fo_95_4 : fieldOff Tryz.prog 95 4 = some 4 := nr (by kernel_rfl)
theorem fo_95_5 : fieldOff Tryz.prog 95 5 = some 5 := nr (by kernel_rfl)
theorem if_50 : isIfaceT Tryz.prog 50 = true := nr (by kernel_rfl)
theorem ld_100 (w : World) (b o : Nat) : loadOf Tryz.prog 100 w ⟨b,o,none⟩ = (blk w b).bind fun x => x.1[o]? := loadOf_one (by kernel_rfl) w b o
theorem ld_101 (w : World) (b o : Nat) : loadOf Tryz.prog 101 w ⟨b,o,none⟩ = (blk w b).bind fun x => x.1[o]? := loadOf_one (by kernel_rfl) w b o
theorem ld_21 (w : World) (b o : Nat) : loadOf Tryz.prog 21 w ⟨b,o,none⟩ = (blk w b).bind fun x => x.1[o]? := loadOf_one (by kernel_rfl) w b o
theorem ld_31 (w : World) (b o : Nat) : loadOf Tryz.prog 31 w ⟨b,o,none⟩ = (blk w b).bind fun x => cellsAt x.1 o 2 := loadOf_agg (by kernel_rfl) w b o
theorem ld_40 (w : World) (b o : Nat) : loadOf Tryz.prog 40 w ⟨b,o,none⟩ = (blk w b).bind fun x => x.1[o]? := loadOf_one (by kernel_rfl) w b o
theorem ld_81 (w : World) (b o : Nat) : loadOf Tryz.prog 81 w ⟨b,o,none⟩ = (blk w b).bind fun x => x.1[o]? := loadOf_one (by kernel_rfl) w b o
theorem ld_88 (w : World) (b o : Nat) : loadOf Tryz.prog 88 w ⟨b,o,none⟩ = (blk w b).bind fun x => x.1[o]? := loadOf_one (by kernel_rfl) w b o
theorem ld_93 (w : World) (b o : Nat) : loadOf Tryz.prog 93 w ⟨b,o,none⟩ = (blk w b).bind fun x => x.1[o]? := loadOf_one (by kernel_rfl) w b o
theorem pl_117 : placesOf Tryz.prog 117 = some [(0,1),(1,1)] := nr (by kernel_rfl)
theorem pl_31 : placesOf Tryz.prog 31 = some [(0,1),(1,1)] := nr (by kernel_rfl)
theorem pl_46 : placesOf Tryz.prog 46 = some [(0,1),(1,1),(2,1),(3,1),(4,1),(5,1),(6,1),(7,1)] := nr (by kernel_rfl)
theorem se_29 : slElem Tryz.prog 29 = some (46,8) := nr (by kernel_rfl)
theorem se_93 : slElem Tryz.prog 93 = some (103,3) := nr (by kernel_rfl)
theorem sl_100 : isSliceT Tryz.prog 100 = true := nr (by kernel_rfl)
theorem sl_101 : isSliceT Tryz.prog 101 = true := nr (by kernel_rfl)
theorem sl_93 : isSliceT Tryz.prog 93 = true := nr (by kernel_rfl)
theorem sz_100 (w : World) (b o : Nat) (v : Value) : storeOf Tryz.prog 100 w ⟨b,o,none⟩ v = (blk w b).bind fun x => stO w b o v x 1 := storeOf_n (by kernel_rfl) w b o v
theorem sz_101 (w : World) (b o : Nat) (v : Value) : storeOf Tryz.prog 101 w ⟨b,o,none⟩ v = (blk w b).bind fun x => stO w b o v x 1 := storeOf_n (by kernel_rfl) w b o v
theorem sz_117 (w : World) (b o : Nat) (v : Value) : storeOf Tryz.prog 117 w ⟨b,o,none⟩ v = (blk w b).bind fun x => stO w b o v x 2 := storeOf_n (by kernel_rfl) w b o v
theorem sz_21 (w : World) (b o : Nat) (v : Value) : storeOf Tryz.prog 21 w ⟨b,o,none⟩ v = (blk w b).bind fun x => stO w b o v x 1 := storeOf_n (by kernel_rfl) w b o v
theorem sz_31 (w : World) (b o : Nat) (v : Value) : storeOf Tryz.prog 31 w ⟨b,o,none⟩ v = (blk w b).bind fun x => stO w b o v x 2 := storeOf_n (by kernel_rfl) w b o v
theorem sz_40 (w : World) (b o : Nat) (v : Value) : storeOf Tryz.prog 40 w ⟨b,o,none⟩ v = (blk w b).bind fun x => stO w b o v x 1 := storeOf_n (by kernel_rfl) w b o v
theorem sz_81 (w : World) (b o : Nat) (v : Value) : storeOf Tryz.prog 81 w ⟨b,o,none⟩ v = (blk w b).bind fun x => stO w b o v x 1 := storeOf_n (by kernel_rfl) w b o v
theorem sz_88 (w : World) (b o : Nat) (v : Value) : storeOf Tryz.prog 88 w ⟨b,o,none⟩ v = (blk w b).bind fun x => stO w b o v x 1 := storeOf_n (by kernel_rfl) w b o v
theorem sz_93 (w : World) (b o : Nat) (v : Value) : storeOf Tryz.prog 93 w ⟨b,o,none⟩ v = (blk w b).bind fun x => stO w b o v x 1 := storeOf_n (by kernel_rfl) w b o v
theorem z_117 : zeroOf Tryz.prog 117 = some #[.slice none 0 0,.bool false] := nr (by kernel_rfl)
theorem z_31 : zeroOf Tryz.prog 31 = some #[.slice none 0 0,.int .i64 0] := nr (by kernel_rfl)
theorem z_95 : zeroOf Tryz.prog 95 = some #[.int .i16 0,.int .i32 0,.int .i16 0,.pointer none,.slice none 0 0,.map none] := nr (by kernel_rfl)
attribute [go_sem] ca_12 ca_13 ca_14 ca_23 ca_24 ca_25 ca_26 ca_27 ca_28 ca_42 ca_43 ca_46 ca_47 ca_49 ca_5 ca_50 ca_51 ca_53 ca_54 ca_55 ca_56 ca_59 ca_60 ca_67 ca_68 ca_69 ca_70 ca_73 ca_74 ca_75 ca_76 ca_77 ca_78 ca_79 ca_8 ca_80 ca_81 ca_83 ca_9 ca_92 ca_93 ca_94 es_100 es_101 es_93 fo_103_0 fo_103_1 fo_103_2 fo_105_0 fo_105_1 fo_105_2 fo_108_0 fo_108_1 fo_108_2 fo_95_0 fo_95_1 fo_95_2 fo_95_3 fo_95_4 fo_95_5 if_50 ld_100 ld_101 ld_21 ld_31 ld_40 ld_81 ld_88 ld_93 pl_117 pl_31 pl_46 se_29 se_93 sl_100 sl_101 sl_93 sz_100 sz_101 sz_117 sz_21 sz_31 sz_40 sz_81 sz_88 sz_93 z_117 z_31 z_95
end Ms

namespace Ms
open Go
abbrev qZ5 : Array Value := #[.int .i64 0,.slice none 0 0,.bool false,.slice none 0 0,.slice none 0 0]
end Ms

namespace Ms
open Go.World renaming size_alloc → qI
open Ms renaming size_wr → qJ,size_drew → qK,not_noB → qL
open W renaming seqR → qA,seq → qB,regR → qC,condK → qD,block → qE,skip → qF,ret → qG,exit → qH
open Nat renaming reduceEqDiff → n0,reduceAdd → n1,reduceMul → n2,reduceSub → n3,reduceLT → n4,reduceLeDiff → n5
open Int renaming reduceEq → i0,reduceLT → i1,reduceLE → i2,reduceNeg → i3,reduceAdd → i4,reduceSub → i5,reduceMul → i6,reduceToNat → i7
set_option maxRecDepth 8000
open Go Go.Proofs Go.Shelf
attribute [local congr] W_congr WPsq_congr WPp_congr optK_congr addrK_congr intK_congr boolK_congr sliceK_congr tupleK_congr funcK_congr Fn_congr rawK_congr takeK_congr stepK_congr convK_congr aggK_congr

def fX0_0 : Fld := .mk 8 0 (-1) (-1) (-1) 0 0 []
def fX0_1 : Fld := .mk 8 0 (-1) 0 (-1) 0 0 []
def fs_X0 : List Fld := [fX0_0,fX0_1]
def fX1_0 : Fld := .mk 8 0 (-1) (-1) (-1) 0 0 []
def fX1_1 : Fld := .mk 6 0 (-1) (-1) (-1) 0 0 []
def fs_X1 : List Fld := [fX1_0,fX1_1]
def fX2_0 : Fld := .mk 11 0 (-1) (-1) (-1) 0 10 fs_X0
def fX2_1 : Fld := .mk 11 0 (-1) (-1) (-1) 0 10 fs_X1
def fs_X2 : List Fld := [fX2_0,fX2_1]
def fQ_0 : Fld := .mk 3 0 (-1) (-1) (-1) 0 0 []
def fQ_1 : Fld := .mk 2 0 (-1) (-1) (-1) 0 0 []
def fQ_2 : Fld := .mk 8 0 (-1) 0 (-1) 0 0 []
def fQ_3 : Fld := .mk 11 0 (-1) 0 (-1) 0 10 fs_X2
def fs_Q : List Fld := [fQ_0,fQ_1,fQ_2,fQ_3]

set_option maxHeartbeats 4000000 in
theorem cX0_fn (w : World) : Fn Tryz.prog 54 #[] w fun r w' => FldsV (fun b => w.heap.size ≤ b) w' r fs_X0 ∧ Ext w w' := by
  refine fn_of_W Tryz.func54 rfl Tryz.results54 Tryz.ntmps54 rfl ?_
  repeat ((first | refine qA rfl ?_|apply qB|refine qC rfl ?_|apply qD|apply qE|apply qF|apply qG|apply qH);try simp (maxSteps:=1000000)(disch:=(first|omega|(simp only [qI,qJ,qK]<;>omega)|exact qL _)) only [go_sem,↓reduceIte,n0,reduceCtorEq,n1,n2,n3,n4,n5,i0,i1,i2,i3,i4,i5,i6,i7,fill_fld,fillN_nil,fillN_int,fillN_slice])
  repeat ((first | refine qA rfl ?_|apply qB|refine qC rfl ?_|apply qD|apply qE|apply qF|apply qG|apply qH);try simp (maxSteps:=1000000)(disch:=(first|omega|(simp only [qI,qJ,qK]<;>omega)|exact qL _)) only [go_sem,↓reduceIte,n0,reduceCtorEq,n1,n2,n3,n4,n5,i0,i1,i2,i3,i4,i5,i6,i7,fill_fld,fillN_nil,fillN_int,fillN_slice])
  exact ⟨FldsV.litO (fs := fs_X0) (css := [[.int .i64 8,.int .i64 0,.int .i64 (-1),.int .i64 (-1),.int .i64 (-1),.int .i64 0,.int .i64 0,.slice none 0 0],[.int .i64 8,.int .i64 0,.int .i64 (-1),.int .i64 0,.int .i64 (-1),.int .i64 0,.int .i64 0,.slice none 0 0]]) (T := 46) (fr := (0,0)) (by first | omega | (simp only [World.size_alloc];omega)) (by first | (simp (maxSteps:=1000000)(disch:=(first|omega|(simp only [qI,qJ,qK]<;>omega)|exact qL _)) only [go_sem,↓reduceIte,n0,reduceCtorEq,n1,n2,n3,n4,n5,i0,i1,i2,i3,i4,i5,i6,i7];rfl) | rfl) (by simp) (All2.cons (FldC.intro (kind := 8) (FldsV.none _ _)) (All2.cons (FldC.intro (kind := 8) (FldsV.none _ _)) All2.nil)),(Upd.alloc (Upd.refl _ w) _)⟩

set_option maxHeartbeats 4000000 in
theorem cX1_fn (w : World) : Fn Tryz.prog 55 #[] w fun r w' => FldsV (fun b => w.heap.size ≤ b) w' r fs_X1 ∧ Ext w w' := by
  refine fn_of_W Tryz.func55 rfl Tryz.results55 Tryz.ntmps55 rfl ?_
  repeat ((first | refine qA rfl ?_|apply qB|refine qC rfl ?_|apply qD|apply qE|apply qF|apply qG|apply qH);try simp (maxSteps:=1000000)(disch:=(first|omega|(simp only [qI,qJ,qK]<;>omega)|exact qL _)) only [go_sem,↓reduceIte,n0,reduceCtorEq,n1,n2,n3,n4,n5,i0,i1,i2,i3,i4,i5,i6,i7,fill_fld,fillN_nil,fillN_int,fillN_slice])
  repeat ((first | refine qA rfl ?_|apply qB|refine qC rfl ?_|apply qD|apply qE|apply qF|apply qG|apply qH);try simp (maxSteps:=1000000)(disch:=(first|omega|(simp only [qI,qJ,qK]<;>omega)|exact qL _)) only [go_sem,↓reduceIte,n0,reduceCtorEq,n1,n2,n3,n4,n5,i0,i1,i2,i3,i4,i5,i6,i7,fill_fld,fillN_nil,fillN_int,fillN_slice])
  exact ⟨FldsV.litO (fs := fs_X1) (css := [[.int .i64 8,.int .i64 0,.int .i64 (-1),.int .i64 (-1),.int .i64 (-1),.int .i64 0,.int .i64 0,.slice none 0 0],[.int .i64 6,.int .i64 0,.int .i64 (-1),.int .i64 (-1),.int .i64 (-1),.int .i64 0,.int .i64 0,.slice none 0 0]]) (T := 46) (fr := (0,0)) (by first | omega | (simp only [World.size_alloc];omega)) (by first | (simp (maxSteps:=1000000)(disch:=(first|omega|(simp only [qI,qJ,qK]<;>omega)|exact qL _)) only [go_sem,↓reduceIte,n0,reduceCtorEq,n1,n2,n3,n4,n5,i0,i1,i2,i3,i4,i5,i6,i7];rfl) | rfl) (by simp) (All2.cons (FldC.intro (kind := 8) (FldsV.none _ _)) (All2.cons (FldC.intro (kind := 6) (FldsV.none _ _)) All2.nil)),(Upd.alloc (Upd.refl _ w) _)⟩

set_option maxHeartbeats 4000000 in
theorem cX2_fn (w : World) : Fn Tryz.prog 25 #[] w fun r w' => FldsV (fun b => w.heap.size ≤ b) w' r fs_X2 ∧ Ext w w' := by
  refine fn_of_W Tryz.func25 rfl Tryz.results25 Tryz.ntmps25 rfl ?_
  repeat ((first | refine qA rfl ?_|apply qB|refine qC rfl ?_|apply qD|apply qE|apply qF|apply qG|apply qH);try simp (maxSteps:=1000000)(disch:=(first|omega|(simp only [qI,qJ,qK]<;>omega)|exact qL _)) only [go_sem,↓reduceIte,n0,reduceCtorEq,n1,n2,n3,n4,n5,i0,i1,i2,i3,i4,i5,i6,i7,fill_fld,fillN_nil,fillN_int,fillN_slice])
  refine (cX0_fn _).mono ?_
  rintro r1 w1 ⟨hF1,hE1⟩
  obtain ⟨b1,k1,rfl,_⟩ := SlR.shape hF1
  have hz1 := hE1.size
  have hD1 : Ext w w1 := Upd.trans (Upd.refl _ w) hE1
  simp (maxSteps:=1000000)(disch:=(first|omega|(simp only [qI,qJ,qK]<;>omega)|exact qL _)) only [go_sem,↓reduceIte,n0,reduceCtorEq,n1,n2,n3,n4,n5,i0,i1,i2,i3,i4,i5,i6,i7,fill_fld,fillN_nil,fillN_int,fillN_slice]
  refine (cX1_fn _).mono ?_
  rintro r2 w2 ⟨hF2,hE2⟩
  obtain ⟨b2,k2,rfl,_⟩ := SlR.shape hF2
  have hz2 := hE2.size
  have hD2 : Ext w w2 := Upd.trans hD1 hE2
  simp (maxSteps:=1000000)(disch:=(first|omega|(simp only [qI,qJ,qK]<;>omega)|exact qL _)) only [go_sem,↓reduceIte,n0,reduceCtorEq,n1,n2,n3,n4,n5,i0,i1,i2,i3,i4,i5,i6,i7,fill_fld,fillN_nil,fillN_int,fillN_slice]
  repeat ((first | refine qA rfl ?_|apply qB|refine qC rfl ?_|apply qD|apply qE|apply qF|apply qG|apply qH);try simp (maxSteps:=1000000)(disch:=(first|omega|(simp only [qI,qJ,qK]<;>omega)|exact qL _)) only [go_sem,↓reduceIte,n0,reduceCtorEq,n1,n2,n3,n4,n5,i0,i1,i2,i3,i4,i5,i6,i7,fill_fld,fillN_nil,fillN_int,fillN_slice])
  exact ⟨FldsV.litO (fs := fs_X2) (css := [[.int .i64 11,.int .i64 0,.int .i64 (-1),.int .i64 (-1),.int .i64 (-1),.int .i64 0,.int .i64 10,.slice b1 fs_X0.length k1],[.int .i64 11,.int .i64 0,.int .i64 (-1),.int .i64 (-1),.int .i64 (-1),.int .i64 0,.int .i64 10,.slice b2 fs_X1.length k2]]) (T := 46) (fr := (0,0)) (by first | omega | (simp only [World.size_alloc];omega)) (by first | (simp (maxSteps:=1000000)(disch:=(first|omega|(simp only [qI,qJ,qK]<;>omega)|exact qL _)) only [go_sem,↓reduceIte,n0,reduceCtorEq,n1,n2,n3,n4,n5,i0,i1,i2,i3,i4,i5,i6,i7];rfl) | rfl) (by simp) (All2.cons (FldC.intro (kind := 11) ((hF1.keep (Upd.keeps (S := fun _ => False) (Upd.trans (hE2.mono fun _ h => h.elim) (Upd.alloc (Upd.refl _ _) _)) fun _ _ _ h => h)).weaken fun b _ hb => by have hq : _ ≤ b := hb;omega)) (All2.cons (FldC.intro (kind := 11) ((hF2.keep (Upd.keeps (S := fun _ => False) (Upd.alloc (Upd.refl _ _) _) fun _ _ _ h => h)).weaken fun b _ hb => by have hq : _ ≤ b := hb;omega)) All2.nil)),(Upd.alloc hD2 _)⟩

set_option maxHeartbeats 4000000 in
theorem cQ_fn (w : World) : Fn Tryz.prog 13 #[] w fun r w' => (∃ vs,r = .agg #[vs,.int .i64 1] ∧ FldsV (fun b => w.heap.size ≤ b) w' vs fs_Q) ∧ Ext w w' := by
  refine fn_of_W Tryz.func13 rfl Tryz.results13 Tryz.ntmps13 rfl ?_
  repeat ((first | refine qA rfl ?_|apply qB|refine qC rfl ?_|apply qD|apply qE|apply qF|apply qG|apply qH);try simp (maxSteps:=1000000)(disch:=(first|omega|(simp only [qI,qJ,qK]<;>omega)|exact qL _)) only [go_sem,↓reduceIte,n0,reduceCtorEq,n1,n2,n3,n4,n5,i0,i1,i2,i3,i4,i5,i6,i7,fill_fld,fillN_nil,fillN_int,fillN_slice])
  have hz0 : (w.alloc (.cells #[.slice none 0 0,.int .i64 0] 31)).heap.size = w.heap.size + 1 := World.size_alloc _ _
  refine (cX2_fn _).mono ?_
  rintro r1 w1 ⟨hF1,hE1⟩
  obtain ⟨b1,k1,rfl,_⟩ := SlR.shape hF1
  have hz1 := hE1.size
  have hD1 : Ext w w1 := Upd.trans (Upd.alloc (Upd.refl _ _) _) hE1
  have hb1 : blk w1 w.heap.size = some (#[.slice none 0 0,.int .i64 0],31,(0,0)) := hE1.blk_some (blk_alloc_new rfl) id
  simp (maxSteps:=1000000)(disch:=(first|omega|(simp only [qI,qJ,qK]<;>omega)|exact qL _)) only [go_sem,↓reduceIte,n0,reduceCtorEq,n1,n2,n3,n4,n5,i0,i1,i2,i3,i4,i5,i6,i7,fill_fld,fillN_nil,fillN_int,fillN_slice,hb1]
  have hvl := blk_lt hb1
  repeat ((first | refine qA rfl ?_|apply qB|refine qC rfl ?_|apply qD|apply qE|apply qF|apply qG|apply qH);try simp (maxSteps:=1000000)(disch:=(first|omega|(simp only [qI,qJ,qK]<;>omega)|exact qL _)) only [go_sem,↓reduceIte,n0,reduceCtorEq,n1,n2,n3,n4,n5,i0,i1,i2,i3,i4,i5,i6,i7,fill_fld,fillN_nil,fillN_int,fillN_slice,hb1])
  exact ⟨⟨_,rfl,FldsV.litO (fs := fs_Q) (css := [[.int .i64 3,.int .i64 0,.int .i64 (-1),.int .i64 (-1),.int .i64 (-1),.int .i64 0,.int .i64 0,.slice none 0 0],[.int .i64 2,.int .i64 0,.int .i64 (-1),.int .i64 (-1),.int .i64 (-1),.int .i64 0,.int .i64 0,.slice none 0 0],[.int .i64 8,.int .i64 0,.int .i64 (-1),.int .i64 0,.int .i64 (-1),.int .i64 0,.int .i64 0,.slice none 0 0],[.int .i64 11,.int .i64 0,.int .i64 (-1),.int .i64 0,.int .i64 (-1),.int .i64 0,.int .i64 10,.slice b1 fs_X2.length k1]]) (T := 46) (fr := (0,0)) (by first | omega | (simp only [World.size_alloc];omega)) (by first | (simp (maxSteps:=1000000)(disch:=(first|omega|(simp only [qI,qJ,qK]<;>omega)|exact qL _)) only [go_sem,↓reduceIte,n0,reduceCtorEq,n1,n2,n3,n4,n5,i0,i1,i2,i3,i4,i5,i6,i7];rfl) | rfl) (by simp) (All2.cons (FldC.intro (kind := 3) (FldsV.none _ _)) (All2.cons (FldC.intro (kind := 2) (FldsV.none _ _)) (All2.cons (FldC.intro (kind := 8) (FldsV.none _ _)) (All2.cons (FldC.intro (kind := 11) (hF1.stay (B := w.heap.size) (Upd.wr (Upd.alloc (Upd.refl _ _) _) _ _ (.inr rfl)) (by omega) (fun b hb => by omega))) All2.nil))))⟩,(Upd.wr (Upd.alloc hD1 _) _ _ (.inl (Nat.le_refl _)))⟩

theorem DefaultQ_fn (w : World) {vb : Nat} {c0 c1 c2 c3 c4 c5 : Value} (hb : blk w vb = some (#[c0,c1,c2,c3,c4,c5],95,(0,0))) :
    Fn Tryz.prog 53 #[.pointer (some ⟨vb,0,none⟩)] w fun _ w' => blk w' vb = some (#[c0,c1,c2,c3,c4,c5],95,(0,0)) ∧ Upd (fun b => b = vb) w w' := by
  have hvl := blk_lt hb
  refine fn_of_W Tryz.func53 rfl Tryz.results53 Tryz.ntmps53 rfl ?_
  repeat ((first | refine qA rfl ?_|apply qB|refine qC rfl ?_|apply qD|apply qE|apply qF|apply qG|apply qH);try simp (maxSteps:=1000000)(disch:=(first|omega|(simp only [qI,qJ,qK]<;>omega)|exact qL _)) only [go_sem,↓reduceIte,n0,reduceCtorEq,n1,n2,n3,n4,n5,i0,i1,i2,i3,i4,i5,i6,i7,hb])
  first | exact Upd.refl _ _ | exact ⟨hb,Upd.refl _ _⟩

theorem NewPtrQ_fn (w : World) : Fn Tryz.prog 23 #[] w fun r w' => r = .pointer (some ⟨w.heap.size,0,none⟩) ∧ blk w' w.heap.size = some (#[.int .i16 0,.int .i32 0,.int .i16 0,.pointer none,.slice none 0 0,.map none],95,(0,0)) ∧ Ext w w' := by
  refine fn_of_W Tryz.func23 rfl Tryz.results23 Tryz.ntmps23 rfl ?_
  repeat ((first | refine qA rfl ?_|apply qB|refine qC rfl ?_|apply qD|apply qE|apply qF|apply qG|apply qH);try simp (maxSteps:=1000000)(disch:=(first|omega|(simp only [qI,qJ,qK]<;>omega)|exact qL _)) only [go_sem,↓reduceIte,n0,reduceCtorEq,n1,n2,n3,n4,n5,i0,i1,i2,i3,i4,i5,i6,i7])
  refine (DefaultQ_fn _ (blk_alloc_new rfl)).mono ?_
  rintro _ w1 ⟨hb1,hU1⟩
  have hz := World.size_alloc w (.cells #[.int .i16 0,.int .i32 0,.int .i16 0,.pointer none,.slice none 0 0,.map none] 95)
  repeat ((first | refine qA rfl ?_|apply qB|refine qC rfl ?_|apply qD|apply qE|apply qF|apply qG|apply qH);try simp (maxSteps:=1000000)(disch:=(first|omega|(simp only [qI,qJ,qK]<;>omega)|exact qL _)) only [go_sem,↓reduceIte,n0,reduceCtorEq,n1,n2,n3,n4,n5,i0,i1,i2,i3,i4,i5,i6,i7])
  exact ⟨hb1,(Upd.alloc (Upd.refl _ _) _ : Ext w _).more hU1 fun b hb h => by omega⟩

theorem SetVersionQ_fn (w : World) {vb : Nat} {c0 c1 c2 c3 c4 c5 : Value} (n : Int) (hb : blk w vb = some (#[c0,c1,c2,c3,c4,c5],95,(0,0))) :
    Fn Tryz.prog 26 #[.pointer (some ⟨vb,0,none⟩),.int .i16 n] w fun _ w' => blk w' vb = some (#[.int .i16 n,c1,c2,c3,c4,c5],95,(0,0)) ∧ Upd (fun b => b = vb) w w' := by
  have hvl := blk_lt hb
  refine fn_of_W Tryz.func26 rfl Tryz.results26 Tryz.ntmps26 rfl ?_
  repeat ((first | refine qA rfl ?_|apply qB|refine qC rfl ?_|apply qD|apply qE|apply qF|apply qG|apply qH);try simp (maxSteps:=1000000)(disch:=(first|omega|(simp only [qI,qJ,qK]<;>omega)|exact qL _)) only [go_sem,↓reduceIte,n0,reduceCtorEq,n1,n2,n3,n4,n5,i0,i1,i2,i3,i4,i5,i6,i7,hb])
  first | exact Upd.wr (Upd.refl _ _) _ _ (.inr rfl) | exact ⟨by simp (maxSteps:=1000000)(disch:=(first|omega|(simp only [qI,qJ,qK]<;>omega)|exact qL _)) only [go_sem,↓reduceIte,n0,reduceCtorEq,n1,n2,n3,n4,n5,i0,i1,i2,i3,i4,i5,i6,i7,hb],Upd.wr (Upd.refl _ _) _ _ (.inr rfl)⟩

theorem MaxQ_fn (w : World) : Fn Tryz.prog 12 #[] w fun r w' => r = .int .i64 1 ∧ Ext w w' := by
  refine fn_of_W Tryz.func12 rfl Tryz.results12 Tryz.ntmps12 rfl ?_
  repeat ((first | refine qA rfl ?_|apply qB|refine qC rfl ?_|apply qD|apply qE|apply qF|apply qG|apply qH);try simp (maxSteps:=1000000)(disch:=(first|omega|(simp only [qI,qJ,qK]<;>omega)|exact qL _)) only [go_sem,↓reduceIte,n0,reduceCtorEq,n1,n2,n3,n4,n5,i0,i1,i2,i3,i4,i5,i6,i7])
  refine (NewPtrQ_fn w).mono ?_
  rintro _ w1 ⟨rfl,hb1,hE1⟩
  repeat ((first | refine qA rfl ?_|apply qB|refine qC rfl ?_|apply qD|apply qE|apply qF|apply qG|apply qH);try simp (maxSteps:=1000000)(disch:=(first|omega|(simp only [qI,qJ,qK]<;>omega)|exact qL _)) only [go_sem,↓reduceIte,n0,reduceCtorEq,n1,n2,n3,n4,n5,i0,i1,i2,i3,i4,i5,i6,i7])
  have hm : Fn Tryz.prog 24 #[.pointer (some ⟨w.heap.size,0,none⟩)] w1 fun r w' => r = .int .i16 1 ∧ w' = w1 := by
    refine fn_of_W Tryz.func24 rfl Tryz.results24 Tryz.ntmps24 rfl ?_
    repeat ((first | refine qA rfl ?_|apply qB|refine qC rfl ?_|apply qD|apply qE|apply qF|apply qG|apply qH);try simp (maxSteps:=1000000)(disch:=(first|omega|(simp only [qI,qJ,qK]<;>omega)|exact qL _)) only [go_sem,↓reduceIte,n0,reduceCtorEq,n1,n2,n3,n4,n5,i0,i1,i2,i3,i4,i5,i6,i7])
  refine hm.mono ?_
  rintro _ w2 ⟨rfl,rfl⟩
  have ew : IntKind.i64.wrap (1 : Int) = 1 := i64_wrap (by decide)
  repeat ((first | refine qA rfl ?_|apply qB|refine qC rfl ?_|apply qD|apply qE|apply qF|apply qG|apply qH);try simp (maxSteps:=1000000)(disch:=(first|omega|(simp only [qI,qJ,qK]<;>omega)|exact qL _)) only [go_sem,↓reduceIte,n0,reduceCtorEq,n1,n2,n3,n4,n5,i0,i1,i2,i3,i4,i5,i6,i7,ew])
  exact hE1

theorem utQ_93 : Tryz.prog.underlying 93 = some (.slice 103) := by kernel_rfl
theorem utQ_21 : Tryz.prog.underlying 21 = some (.int .i32) := by kernel_rfl
theorem inQ_103 : (Tryz.prog.info? 103).map (fun i => (i.size,i.bytes,i.zero.map (·.cells))) = some (3,56,some #[.slice none 0 0,.slice none 0 0,.map none]) := by kernel_rfl
theorem utQ_100 : Tryz.prog.underlying 100 = some (.slice 105) := by kernel_rfl
theorem inQ_105 : (Tryz.prog.info? 105).map (fun i => (i.size,i.bytes,i.zero.map (·.cells))) = some (3,32,some #[.string ByteArray.empty,.pointer none,.map none]) := by kernel_rfl
theorem utQ_101 : Tryz.prog.underlying 101 = some (.slice 108) := by kernel_rfl
theorem inQ_108 : (Tryz.prog.info? 108).map (fun i => (i.size,i.bytes,i.zero.map (·.cells))) = some (3,32,some #[.string ByteArray.empty,.float .f64 0,.map none]) := by kernel_rfl

theorem DefaultEX2_fn (w : World) {R k : Nat} {A B : List Value} {c0 c1 c2 : Value} {E : TypeId} (hb : blk w R = some ((A ++ ([c0,c1,c2] ++ B)).toArray,E,(0,0))) (hA : A.length = k) :
    Fn Tryz.prog 92 #[.pointer (some ⟨R,k,none⟩)] w fun _ w' => blk w' R = some ((A ++ ([c0,c1,c2] ++ B)).toArray,E,(0,0)) ∧ Upd (fun b => b = R) w w' := by
  have hRl := blk_lt hb
  obtain ⟨X,hX⟩ : ∃ X : Array Value,X = (A ++ (([c0,c1,c2] : List Value) ++ B)).toArray := ⟨_,rfl⟩
  have hXs : k + 3 ≤ X.size := by rw [hX];simp only [List.size_toArray,List.length_append,List.length_cons,List.length_nil,hA];omega
  have hb' : blk w R = some (X,E,(0,0)) := by rw [hX];exact hb
  refine fn_of_W Tryz.func92 rfl Tryz.results92 Tryz.ntmps92 rfl ?_
  repeat ((first | refine qA rfl ?_|apply qB|refine qC rfl ?_|apply qD|apply qE|apply qF|apply qG|apply qH);try simp (maxSteps:=1000000)(disch:=(first|omega|(simp only [qI,qJ,qK]<;>omega)|exact qL _)) only [go_sem,↓reduceIte,n0,reduceCtorEq,n1,n2,n3,n4,n5,i0,i1,i2,i3,i4,i5,i6,i7,hb',Array.size_setIfInBounds])
  first | exact ⟨hb,Upd.refl _ _⟩ | exact Upd.refl _ _ | (rw [hX];exact ⟨rfl,Upd.refl _ _⟩)

theorem DefaultEX0_fn (w : World) {R k : Nat} {A B : List Value} {c0 c1 c2 : Value} {E : TypeId} (hb : blk w R = some ((A ++ ([c0,c1,c2] ++ B)).toArray,E,(0,0))) (hA : A.length = k) :
    Fn Tryz.prog 93 #[.pointer (some ⟨R,k,none⟩)] w fun _ w' => blk w' R = some ((A ++ ([c0,c1,c2] ++ B)).toArray,E,(0,0)) ∧ Upd (fun b => b = R) w w' := by
  have hRl := blk_lt hb
  obtain ⟨X,hX⟩ : ∃ X : Array Value,X = (A ++ (([c0,c1,c2] : List Value) ++ B)).toArray := ⟨_,rfl⟩
  have hXs : k + 3 ≤ X.size := by rw [hX];simp only [List.size_toArray,List.length_append,List.length_cons,List.length_nil,hA];omega
  have hb' : blk w R = some (X,E,(0,0)) := by rw [hX];exact hb
  refine fn_of_W Tryz.func93 rfl Tryz.results93 Tryz.ntmps93 rfl ?_
  repeat ((first | refine qA rfl ?_|apply qB|refine qC rfl ?_|apply qD|apply qE|apply qF|apply qG|apply qH);try simp (maxSteps:=1000000)(disch:=(first|omega|(simp only [qI,qJ,qK]<;>omega)|exact qL _)) only [go_sem,↓reduceIte,n0,reduceCtorEq,n1,n2,n3,n4,n5,i0,i1,i2,i3,i4,i5,i6,i7,hb',Array.size_setIfInBounds])
  first | exact ⟨hb,Upd.refl _ _⟩ | exact Upd.refl _ _ | (rw [hX];exact ⟨rfl,Upd.refl _ _⟩)

theorem DefaultEX1_fn (w : World) {R k : Nat} {A B : List Value} {c0 c1 c2 : Value} {E : TypeId} (hb : blk w R = some ((A ++ ([c0,c1,c2] ++ B)).toArray,E,(0,0))) (hA : A.length = k) :
    Fn Tryz.prog 94 #[.pointer (some ⟨R,k,none⟩)] w fun _ w' => blk w' R = some ((A ++ ([c0,c1,c2] ++ B)).toArray,E,(0,0)) ∧ Upd (fun b => b = R) w w' := by
  have hRl := blk_lt hb
  obtain ⟨X,hX⟩ : ∃ X : Array Value,X = (A ++ (([c0,c1,c2] : List Value) ++ B)).toArray := ⟨_,rfl⟩
  have hXs : k + 3 ≤ X.size := by rw [hX];simp only [List.size_toArray,List.length_append,List.length_cons,List.length_nil,hA];omega
  have hb' : blk w R = some (X,E,(0,0)) := by rw [hX];exact hb
  refine fn_of_W Tryz.func94 rfl Tryz.results94 Tryz.ntmps94 rfl ?_
  repeat ((first | refine qA rfl ?_|apply qB|refine qC rfl ?_|apply qD|apply qE|apply qF|apply qG|apply qH);try simp (maxSteps:=1000000)(disch:=(first|omega|(simp only [qI,qJ,qK]<;>omega)|exact qL _)) only [go_sem,↓reduceIte,n0,reduceCtorEq,n1,n2,n3,n4,n5,i0,i1,i2,i3,i4,i5,i6,i7,hb',Array.size_setIfInBounds])
  first | exact ⟨hb,Upd.refl _ _⟩ | exact Upd.refl _ _ | (rw [hX];exact ⟨rfl,Upd.refl _ _⟩)
end Ms

