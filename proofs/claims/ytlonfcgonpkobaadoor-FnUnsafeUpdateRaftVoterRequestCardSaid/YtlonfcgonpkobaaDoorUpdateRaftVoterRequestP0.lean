/- A part of the proof: see the last text. -/
import Derived.Test.YtlonfcgonpkobaaDoorC03
import Derived.Test.YtlonfcgonpkobaaDoorC04
import Derived.Test.YtlonfcgonpkobaaDoorC06
import Derived.Test.YtlonfcgonpkobaaDoorC07
set_option linter.unusedSimpArgs false
set_option linter.unusedVariables false
namespace Ms
open Nat renaming reduceEqDiff → n0,reduceAdd → n1,reduceMul → n2,reduceSub → n3,reduceLT → n4,reduceLeDiff → n5
open Int renaming reduceEq → i0,reduceLT → i1,reduceLE → i2,reduceNeg → i3,reduceAdd → i4,reduceSub → i5,reduceMul → i6,reduceToNat → i7
set_option maxRecDepth 4000
open Go Go.Proofs
theorem ap_22_22 : AppT Tryd.prog 22 22 5 1 1 := AppT.of (by kernel_rfl)
theorem ap_24_24 : AppT Tryd.prog 24 24 27 5 88 := AppT.of (by kernel_rfl)
theorem ap_25_25 : AppT Tryd.prog 25 25 51 2 32 := AppT.of (by kernel_rfl)
theorem ca_10 : callable Tryd.prog 10 = true := nr (by kernel_rfl)
theorem ca_11 : callable Tryd.prog 11 = true := nr (by kernel_rfl)
theorem ca_12 : callable Tryd.prog 12 = true := nr (by kernel_rfl)
theorem ca_13 : callable Tryd.prog 13 = true := nr (by kernel_rfl)
theorem ca_14 : callable Tryd.prog 14 = true := nr (by kernel_rfl)
theorem ca_15 : callable Tryd.prog 15 = true := nr (by kernel_rfl)
theorem ca_17 : callable Tryd.prog 17 = true := nr (by kernel_rfl)
theorem ca_18 : callable Tryd.prog 18 = true := nr (by kernel_rfl)
theorem ca_19 : callable Tryd.prog 19 = true := nr (by kernel_rfl)
theorem ca_20 : callable Tryd.prog 20 = true := nr (by kernel_rfl)
theorem ca_21 : callable Tryd.prog 21 = true := nr (by kernel_rfl)
theorem ca_22 : callable Tryd.prog 22 = true := nr (by kernel_rfl)
theorem ca_23 : callable Tryd.prog 23 = true := nr (by kernel_rfl)
theorem ca_24 : callable Tryd.prog 24 = true := nr (by kernel_rfl)
theorem ca_25 : callable Tryd.prog 25 = true := nr (by kernel_rfl)
theorem ca_26 : callable Tryd.prog 26 = true := nr (by kernel_rfl)
theorem ca_27 : callable Tryd.prog 27 = true := nr (by kernel_rfl)
theorem ca_28 : callable Tryd.prog 28 = true := nr (by kernel_rfl)
theorem ca_30 : callable Tryd.prog 30 = true := nr (by kernel_rfl)
theorem ca_31 : callable Tryd.prog 31 = true := nr (by kernel_rfl)
theorem ca_32 : callable Tryd.prog 32 = true := nr (by kernel_rfl)
theorem ca_33 : callable Tryd.prog 33 = true := nr (by kernel_rfl)
theorem ca_34 : callable Tryd.prog 34 = true := nr (by kernel_rfl)
theorem ca_35 : callable Tryd.prog 35 = true := nr (by kernel_rfl)
theorem ca_36 : callable Tryd.prog 36 = true := nr (by kernel_rfl)
theorem ca_37 : callable Tryd.prog 37 = true := nr (by kernel_rfl)
theorem ca_38 : callable Tryd.prog 38 = true := nr (by kernel_rfl)
theorem ca_39 : callable Tryd.prog 39 = true := nr (by kernel_rfl)
theorem ca_4 : callable Tryd.prog 4 = true := nr (by kernel_rfl)
theorem ca_40 : callable Tryd.prog 40 = true := nr (by kernel_rfl)
theorem ca_41 : callable Tryd.prog 41 = true := nr (by kernel_rfl)
theorem ca_42 : callable Tryd.prog 42 = true := nr (by kernel_rfl)
theorem ca_44 : callable Tryd.prog 44 = true := nr (by kernel_rfl)
theorem ca_45 : callable Tryd.prog 45 = true := nr (by kernel_rfl)
theorem ca_5 : callable Tryd.prog 5 = true := nr (by kernel_rfl)
theorem ca_6 : callable Tryd.prog 6 = true := nr (by kernel_rfl)
theorem ca_7 : callable Tryd.prog 7 = true := nr (by kernel_rfl)
theorem es_54 : elemSize Tryd.prog 54 = some 4 := nr (by kernel_rfl)
theorem fo_59_0 : fieldOff Tryd.prog 59 0 = some 0 := nr (by kernel_rfl)
theorem fo_59_1 : fieldOff Tryd.prog 59 1 = some 1 := nr (by kernel_rfl)
theorem fo_59_2 : fieldOff Tryd.prog 59 2 = some 2 := nr (by kernel_rfl)
theorem fo_61_0 : fieldOff Tryd.prog 61 0 = some 0 := nr (by kernel_rfl)
theorem fo_61_1 : fieldOff Tryd.prog 61 1 = some 1 := nr (by kernel_rfl)
theorem fo_61_2 : fieldOff Tryd.prog 61 2 = some 2 := nr (by kernel_rfl)
theorem fo_61_3 : fieldOff Tryd.prog 61 3 = some 3 := nr (by kernel_rfl)
theorem fo_61_4 : fieldOff Tryd.prog 61 4 = some 4 := nr (by kernel_rfl)
theorem fo_61_5 : fieldOff Tryd.prog 61 5 = some 20 := nr (by kernel_rfl)
theorem fo_61_6 : fieldOff Tryd.prog 61 6 = some 21 := nr (by kernel_rfl)
theorem fo_61_7 : fieldOff Tryd.prog 61 7 = some 24 := nr (by kernel_rfl)
theorem fo_68_0 : fieldOff Tryd.prog 68 0 = some 0 := nr (by kernel_rfl)
theorem fo_68_1 : fieldOff Tryd.prog 68 1 = some 1 := nr (by kernel_rfl)
theorem fo_68_2 : fieldOff Tryd.prog 68 2 = some 2 := nr (by kernel_rfl)
theorem fo_68_3 : fieldOff Tryd.prog 68 3 = some 3 := nr (by kernel_rfl)
theorem if_44 : isIfaceT Tryd.prog 44 = true := nr (by kernel_rfl)
theorem it_2 : intT Tryd.prog 2 = some .i64 := nr (by kernel_rfl)
theorem kn_3 : knownT Tryd.prog 3 = true := nr (by kernel_rfl)
theorem ld_21 (w : World) (b o : Nat) : loadOf Tryd.prog 21 w ⟨b,o,none⟩ = (blk w b).bind fun x => x.1[o]? := loadOf_one (by kernel_rfl) w b o
theorem ld_38 (w : World) (b o : Nat) : loadOf Tryd.prog 38 w ⟨b,o,none⟩ = (blk w b).bind fun x => x.1[o]? := loadOf_one (by kernel_rfl) w b o
theorem ld_52 (w : World) (b o : Nat) : loadOf Tryd.prog 52 w ⟨b,o,none⟩ = (blk w b).bind fun x => x.1[o]? := loadOf_one (by kernel_rfl) w b o
theorem ld_54 (w : World) (b o : Nat) : loadOf Tryd.prog 54 w ⟨b,o,none⟩ = (blk w b).bind fun x => x.1[o]? := loadOf_one (by kernel_rfl) w b o
theorem ld_66 (w : World) (b o : Nat) : loadOf Tryd.prog 66 w ⟨b,o,none⟩ = (blk w b).bind fun x => x.1[o]? := loadOf_one (by kernel_rfl) w b o
theorem pl_51 : placesOf Tryd.prog 51 = some [(0,1),(1,1)] := nr (by kernel_rfl)
theorem pl_75 : placesOf Tryd.prog 75 = some [(0,1),(1,1)] := nr (by kernel_rfl)
theorem se_24 : slElem Tryd.prog 24 = some (27,5) := nr (by kernel_rfl)
theorem se_25 : slElem Tryd.prog 25 = some (51,2) := nr (by kernel_rfl)
theorem sl_54 : isSliceT Tryd.prog 54 = true := nr (by kernel_rfl)
theorem sz_21 (w : World) (b o : Nat) (v : Value) : storeOf Tryd.prog 21 w ⟨b,o,none⟩ v = (blk w b).bind fun x => stO w b o v x 1 := storeOf_n (by kernel_rfl) w b o v
theorem sz_24 (w : World) (b o : Nat) (v : Value) : storeOf Tryd.prog 24 w ⟨b,o,none⟩ v = (blk w b).bind fun x => stO w b o v x 1 := storeOf_n (by kernel_rfl) w b o v
theorem sz_25 (w : World) (b o : Nat) (v : Value) : storeOf Tryd.prog 25 w ⟨b,o,none⟩ v = (blk w b).bind fun x => stO w b o v x 1 := storeOf_n (by kernel_rfl) w b o v
theorem sz_38 (w : World) (b o : Nat) (v : Value) : storeOf Tryd.prog 38 w ⟨b,o,none⟩ v = (blk w b).bind fun x => stO w b o v x 1 := storeOf_n (by kernel_rfl) w b o v
theorem sz_52 (w : World) (b o : Nat) (v : Value) : storeOf Tryd.prog 52 w ⟨b,o,none⟩ v = (blk w b).bind fun x => stO w b o v x 1 := storeOf_n (by kernel_rfl) w b o v
theorem sz_54 (w : World) (b o : Nat) (v : Value) : storeOf Tryd.prog 54 w ⟨b,o,none⟩ v = (blk w b).bind fun x => stO w b o v x 1 := storeOf_n (by kernel_rfl) w b o v
theorem sz_66 (w : World) (b o : Nat) (v : Value) : storeOf Tryd.prog 66 w ⟨b,o,none⟩ v = (blk w b).bind fun x => stO w b o v x 1 := storeOf_n (by kernel_rfl) w b o v
theorem sz_75 (w : World) (b o : Nat) (v : Value) : storeOf Tryd.prog 75 w ⟨b,o,none⟩ v = (blk w b).bind fun x => stO w b o v x 2 := storeOf_n (by kernel_rfl) w b o v
theorem z_4 : zeroOf Tryd.prog 4 = some #[.bool false] := nr (by kernel_rfl)
theorem z_61 : zeroOf Tryd.prog 61 = some #[.int .i16 0,.pointer none,.int .i32 0,.int .i32 0,.int .u8 0,.int .u8 0,.int .u8 0,.int .u8 0,.int .u8 0,.int .u8 0,.int .u8 0,.int .u8 0,.int .u8 0,.int .u8 0,.int .u8 0,.int .u8 0,.int .u8 0,.int .u8 0,.int .u8 0,.int .u8 0,.slice none 0 0,.int .i16 0,.int .i16 0,.map none,.map none] := nr (by kernel_rfl)
theorem z_75 : zeroOf Tryd.prog 75 = some #[.slice none 0 0,.bool false] := nr (by kernel_rfl)
attribute [go_sem] ca_10 ca_11 ca_12 ca_13 ca_14 ca_15 ca_17 ca_18 ca_19 ca_20 ca_21 ca_22 ca_23 ca_24 ca_25 ca_26 ca_27 ca_28 ca_30 ca_31 ca_32 ca_33 ca_34 ca_35 ca_36 ca_37 ca_38 ca_39 ca_4 ca_40 ca_41 ca_42 ca_44 ca_45 ca_5 ca_6 ca_7 es_54 fo_59_0 fo_59_1 fo_59_2 fo_61_0 fo_61_1 fo_61_2 fo_61_3 fo_61_4 fo_61_5 fo_61_6 fo_61_7 fo_68_0 fo_68_1 fo_68_2 fo_68_3 if_44 it_2 kn_3 ld_21 ld_38 ld_52 ld_54 ld_66 pl_51 pl_75 se_24 se_25 sl_54 sz_21 sz_24 sz_25 sz_38 sz_52 sz_54 sz_66 sz_75 z_4 z_61 z_75
end Ms

namespace Ms
open Go.World renaming size_alloc → qI
open Ms renaming size_wr → qJ,size_drew → qK,not_noB → qL
open W renaming seqR → qA,seq → qB,regR → qC,condK → qD,block → qE,skip → qF,ret → qG,exit → qH
open Nat renaming reduceEqDiff → n0,reduceAdd → n1,reduceMul → n2,reduceSub → n3,reduceLT → n4,reduceLeDiff → n5
open Int renaming reduceEq → i0,reduceLT → i1,reduceLE → i2,reduceNeg → i3,reduceAdd → i4,reduceSub → i5,reduceMul → i6,reduceToNat → i7
set_option maxRecDepth 8000
open Go Go.Proofs Go.Shelf
attribute [local congr] W_congr WPsq_congr WPp_congr optK_congr addrK_congr intK_congr boolK_congr sliceK_congr tupleK_congr funcK_congr Fn_congr rawK_congr takeK_congr stepK_congr convK_congr aggK_congr

def fX1_0 : Fld := .mk 8 0 (-1) (-1) (-1) 0 0 []
def fX1_1 : Fld := .mk 8 0 (-1) (-1) (-1) 0 0 []
def fX1_2 : Fld := .mk 5 0 (-1) (-1) (-1) 0 0 []
def fs_X1 : List Fld := [fX1_0,fX1_1,fX1_2]
def fX0_0 : Fld := .mk 2 0 (-1) (-1) (-1) 0 0 []
def fX0_1 : Fld := .mk 2 0 (-1) (-1) (-1) 0 0 []
def fs_X0 : List Fld := [fX0_0,fX0_1]
def fUpdateRaftVoterRequest_0 : Fld := .mk 8 0 (-1) 0 (-1) 0 0 []
def fUpdateRaftVoterRequest_1 : Fld := .mk 3 0 (-1) (-1) (-1) 0 0 []
def fUpdateRaftVoterRequest_2 : Fld := .mk 3 0 (-1) (-1) (-1) 0 0 []
def fUpdateRaftVoterRequest_3 : Fld := .mk 7 0 (-1) (-1) (-1) 0 0 []
def fUpdateRaftVoterRequest_4 : Fld := .mk 11 0 (-1) (-1) (-1) 0 10 fs_X1
def fUpdateRaftVoterRequest_5 : Fld := .mk 10 0 (-1) (-1) (-1) 0 0 fs_X0
def fs_UpdateRaftVoterRequest : List Fld := [fUpdateRaftVoterRequest_0,fUpdateRaftVoterRequest_1,fUpdateRaftVoterRequest_2,fUpdateRaftVoterRequest_3,fUpdateRaftVoterRequest_4,fUpdateRaftVoterRequest_5]

theorem DefaultUpdateRaftVoterRequest_fn (w : World) {vb : Nat} {c0 c1 c2 c3 c4 c5 c6 c7 c8 c9 c10 c11 c12 c13 c14 c15 c16 c17 c18 c19 c20 c21 c22 c23 c24 : Value} (hb : blk w vb = some (#[c0,c1,c2,c3,c4,c5,c6,c7,c8,c9,c10,c11,c12,c13,c14,c15,c16,c17,c18,c19,c20,c21,c22,c23,c24],61,(0,0))) :
    Fn Tryd.prog 17 #[.pointer (some ⟨vb,0,none⟩)] w fun _ w' => blk w' vb = some (#[c0,c1,c2,c3,c4,c5,c6,c7,c8,c9,c10,c11,c12,c13,c14,c15,c16,c17,c18,c19,c20,c21,c22,c23,c24],61,(0,0)) ∧ Upd (fun b => b = vb) w w' := by
  have hvl := blk_lt hb
  refine fn_of_W Tryd.func17 rfl Tryd.results17 Tryd.ntmps17 rfl ?_
  repeat ((first | refine qA rfl ?_|refine qB ?_|refine qC rfl ?_|refine qD ?_|refine qE ?_|refine qF ?_|refine qG ?_|refine qH ?_);try simp (maxSteps:=1000000)(disch:=(first|omega|(simp only [qI,qJ,qK]<;>omega)|exact qL _)) only [go_sem,↓reduceIte,n0,reduceCtorEq,n1,n2,n3,n4,n5,i0,i1,i2,i3,i4,i5,i6,i7,hb])
  first | exact Upd.refl _ _ | exact ⟨hb,Upd.refl _ _⟩

theorem NewPtrUpdateRaftVoterRequest_fn (w : World) : Fn Tryd.prog 10 #[] w fun r w' => r = .pointer (some ⟨w.heap.size,0,none⟩) ∧ blk w' w.heap.size = some (#[.int .i16 0,.pointer none,.int .i32 0,.int .i32 0,.int .u8 0,.int .u8 0,.int .u8 0,.int .u8 0,.int .u8 0,.int .u8 0,.int .u8 0,.int .u8 0,.int .u8 0,.int .u8 0,.int .u8 0,.int .u8 0,.int .u8 0,.int .u8 0,.int .u8 0,.int .u8 0,.slice none 0 0,.int .i16 0,.int .i16 0,.map none,.map none],61,(0,0)) ∧ Ext w w' := by
  refine fn_of_W Tryd.func10 rfl Tryd.results10 Tryd.ntmps10 rfl ?_
  repeat ((first | refine qA rfl ?_|refine qB ?_|refine qC rfl ?_|refine qD ?_|refine qE ?_|refine qF ?_|refine qG ?_|refine qH ?_);try simp (maxSteps:=1000000)(disch:=(first|omega|(simp only [qI,qJ,qK]<;>omega)|exact qL _)) only [go_sem,↓reduceIte,n0,reduceCtorEq,n1,n2,n3,n4,n5,i0,i1,i2,i3,i4,i5,i6,i7])
  refine (DefaultUpdateRaftVoterRequest_fn _ (blk_alloc_new rfl)).mono ?_
  rintro _ w1 ⟨hb1,hU1⟩
  have hz := World.size_alloc w (.cells #[.int .i16 0,.pointer none,.int .i32 0,.int .i32 0,.int .u8 0,.int .u8 0,.int .u8 0,.int .u8 0,.int .u8 0,.int .u8 0,.int .u8 0,.int .u8 0,.int .u8 0,.int .u8 0,.int .u8 0,.int .u8 0,.int .u8 0,.int .u8 0,.int .u8 0,.int .u8 0,.slice none 0 0,.int .i16 0,.int .i16 0,.map none,.map none] 61)
  repeat ((first | refine qA rfl ?_|refine qB ?_|refine qC rfl ?_|refine qD ?_|refine qE ?_|refine qF ?_|refine qG ?_|refine qH ?_);try simp (maxSteps:=1000000)(disch:=(first|omega|(simp only [qI,qJ,qK]<;>omega)|exact qL _)) only [go_sem,↓reduceIte,n0,reduceCtorEq,n1,n2,n3,n4,n5,i0,i1,i2,i3,i4,i5,i6,i7])
  exact ⟨hb1,(Upd.alloc (Upd.refl _ _) _ : Ext w _).more hU1 fun b hb h => by omega⟩

theorem SetVersionUpdateRaftVoterRequest_fn (w : World) {vb : Nat} {c0 c1 c2 c3 c4 c5 c6 c7 c8 c9 c10 c11 c12 c13 c14 c15 c16 c17 c18 c19 c20 c21 c22 c23 c24 : Value} (n : Int) (hb : blk w vb = some (#[c0,c1,c2,c3,c4,c5,c6,c7,c8,c9,c10,c11,c12,c13,c14,c15,c16,c17,c18,c19,c20,c21,c22,c23,c24],61,(0,0))) :
    Fn Tryd.prog 12 #[.pointer (some ⟨vb,0,none⟩),.int .i16 n] w fun _ w' => blk w' vb = some (#[.int .i16 n,c1,c2,c3,c4,c5,c6,c7,c8,c9,c10,c11,c12,c13,c14,c15,c16,c17,c18,c19,c20,c21,c22,c23,c24],61,(0,0)) ∧ Upd (fun b => b = vb) w w' := by
  have hvl := blk_lt hb
  refine fn_of_W Tryd.func12 rfl Tryd.results12 Tryd.ntmps12 rfl ?_
  repeat ((first | refine qA rfl ?_|refine qB ?_|refine qC rfl ?_|refine qD ?_|refine qE ?_|refine qF ?_|refine qG ?_|refine qH ?_);try simp (maxSteps:=1000000)(disch:=(first|omega|(simp only [qI,qJ,qK]<;>omega)|exact qL _)) only [go_sem,↓reduceIte,n0,reduceCtorEq,n1,n2,n3,n4,n5,i0,i1,i2,i3,i4,i5,i6,i7,hb])
  first | exact Upd.wr (Upd.refl _ _) _ _ (.inr rfl) | exact ⟨by simp (maxSteps:=1000000)(disch:=(first|omega|(simp only [qI,qJ,qK]<;>omega)|exact qL _)) only [go_sem,↓reduceIte,n0,reduceCtorEq,n1,n2,n3,n4,n5,i0,i1,i2,i3,i4,i5,i6,i7,hb],Upd.wr (Upd.refl _ _) _ _ (.inr rfl)⟩

theorem MaxUpdateRaftVoterRequest_fn (w : World) : Fn Tryd.prog 4 #[] w fun r w' => r = .int .i64 0 ∧ Ext w w' := by
  refine fn_of_W Tryd.func4 rfl Tryd.results4 Tryd.ntmps4 rfl ?_
  repeat ((first | refine qA rfl ?_|refine qB ?_|refine qC rfl ?_|refine qD ?_|refine qE ?_|refine qF ?_|refine qG ?_|refine qH ?_);try simp (maxSteps:=1000000)(disch:=(first|omega|(simp only [qI,qJ,qK]<;>omega)|exact qL _)) only [go_sem,↓reduceIte,n0,reduceCtorEq,n1,n2,n3,n4,n5,i0,i1,i2,i3,i4,i5,i6,i7])
  refine (NewPtrUpdateRaftVoterRequest_fn w).mono ?_
  rintro _ w1 ⟨rfl,hb1,hE1⟩
  repeat ((first | refine qA rfl ?_|refine qB ?_|refine qC rfl ?_|refine qD ?_|refine qE ?_|refine qF ?_|refine qG ?_|refine qH ?_);try simp (maxSteps:=1000000)(disch:=(first|omega|(simp only [qI,qJ,qK]<;>omega)|exact qL _)) only [go_sem,↓reduceIte,n0,reduceCtorEq,n1,n2,n3,n4,n5,i0,i1,i2,i3,i4,i5,i6,i7])
  have hm : Fn Tryd.prog 11 #[.pointer (some ⟨w.heap.size,0,none⟩)] w1 fun r w' => r = .int .i16 0 ∧ w' = w1 := by
    refine fn_of_W Tryd.func11 rfl Tryd.results11 Tryd.ntmps11 rfl ?_
    repeat ((first | refine qA rfl ?_|refine qB ?_|refine qC rfl ?_|refine qD ?_|refine qE ?_|refine qF ?_|refine qG ?_|refine qH ?_);try simp (maxSteps:=1000000)(disch:=(first|omega|(simp only [qI,qJ,qK]<;>omega)|exact qL _)) only [go_sem,↓reduceIte,n0,reduceCtorEq,n1,n2,n3,n4,n5,i0,i1,i2,i3,i4,i5,i6,i7])
  refine hm.mono ?_
  rintro _ w2 ⟨rfl,rfl⟩
  have ew : IntKind.i64.wrap (0 : Int) = 0 := i64_wrap (by decide)
  repeat ((first | refine qA rfl ?_|refine qB ?_|refine qC rfl ?_|refine qD ?_|refine qE ?_|refine qF ?_|refine qG ?_|refine qH ?_);try simp (maxSteps:=1000000)(disch:=(first|omega|(simp only [qI,qJ,qK]<;>omega)|exact qL _)) only [go_sem,↓reduceIte,n0,reduceCtorEq,n1,n2,n3,n4,n5,i0,i1,i2,i3,i4,i5,i6,i7,ew])
  exact hE1
end Ms

namespace Ms
open Go.World renaming size_alloc → qI
open Ms renaming size_wr → qJ,size_drew → qK,not_noB → qL
open W renaming seqR → qA,seq → qB,regR → qC,condK → qD,block → qE,skip → qF,ret → qG,exit → qH
open Nat renaming reduceEqDiff → n0,reduceAdd → n1,reduceMul → n2,reduceSub → n3,reduceLT → n4,reduceLeDiff → n5
open Int renaming reduceEq → i0,reduceLT → i1,reduceLE → i2,reduceNeg → i3,reduceAdd → i4,reduceSub → i5,reduceMul → i6,reduceToNat → i7
set_option maxRecDepth 8000
open Go Go.Proofs Go.Shelf
attribute [local congr] W_congr WPsq_congr WPp_congr optK_congr addrK_congr intK_congr boolK_congr sliceK_congr tupleK_congr funcK_congr Fn_congr rawK_congr takeK_congr stepK_congr convK_congr aggK_congr

theorem utUpdateRaftVoterRequest_54 : Tryd.prog.underlying 54 = some (.slice 68) := by kernel_rfl
theorem utUpdateRaftVoterRequest_21 : Tryd.prog.underlying 21 = some (.int .i32) := by kernel_rfl
theorem inUpdateRaftVoterRequest_68 : (Tryd.prog.info? 68).map (fun i => (i.size,i.bytes,i.zero.map (·.cells))) = some (4,48,some #[.string ByteArray.empty,.string ByteArray.empty,.int .u16 0,.map none]) := by kernel_rfl

theorem DefaultEX1_fn (w : World) {R k : Nat} {A B : List Value} {c0 c1 c2 c3 : Value} {E : TypeId} (hb : blk w R = some ((A ++ ([c0,c1,c2,c3] ++ B)).toArray,E,(0,0))) (hA : A.length = k) :
    Fn Tryd.prog 35 #[.pointer (some ⟨R,k,none⟩)] w fun _ w' => blk w' R = some ((A ++ ([c0,c1,c2,c3] ++ B)).toArray,E,(0,0)) ∧ Upd (fun b => b = R) w w' := by
  have hRl := blk_lt hb
  obtain ⟨X,hX⟩ : ∃ X : Array Value,X = (A ++ (([c0,c1,c2,c3] : List Value) ++ B)).toArray := ⟨_,rfl⟩
  have hXs : k + 4 ≤ X.size := by rw [hX];simp only [List.size_toArray,List.length_append,List.length_cons,List.length_nil,hA];omega
  have hb' : blk w R = some (X,E,(0,0)) := by rw [hX];exact hb
  refine fn_of_W Tryd.func35 rfl Tryd.results35 Tryd.ntmps35 rfl ?_
  repeat ((first | refine qA rfl ?_|refine qB ?_|refine qC rfl ?_|refine qD ?_|refine qE ?_|refine qF ?_|refine qG ?_|refine qH ?_);try simp (maxSteps:=1000000)(disch:=(first|omega|(simp only [qI,qJ,qK]<;>omega)|exact qL _)) only [go_sem,↓reduceIte,n0,reduceCtorEq,n1,n2,n3,n4,n5,i0,i1,i2,i3,i4,i5,i6,i7,hb',Array.size_setIfInBounds])
  first | exact ⟨hb,Upd.refl _ _⟩ | exact Upd.refl _ _ | (rw [hX];exact ⟨rfl,Upd.refl _ _⟩)

theorem DefaultPX0_fn (w : World) {R k : Nat} {x : Blk} (hb : blk w R = some x) :
    Fn Tryd.prog 42 #[.pointer (some ⟨R,k,none⟩)] w fun _ w' => True ∧ w' = w := by
  refine fn_of_W Tryd.func42 rfl Tryd.results42 Tryd.ntmps42 rfl ?_
  repeat ((first | refine qA rfl ?_|refine qB ?_|refine qC rfl ?_|refine qD ?_|refine qE ?_|refine qF ?_|refine qG ?_|refine qH ?_);try simp (maxSteps:=1000000)(disch:=(first|omega|(simp only [qI,qJ,qK]<;>omega)|exact qL _)) only [go_sem,↓reduceIte,n0,reduceCtorEq,n1,n2,n3,n4,n5,i0,i1,i2,i3,i4,i5,i6,i7,hb])
  all_goals first | rfl | exact ⟨trivial,rfl⟩ | trivial
end Ms

namespace Ms
open Go.World renaming size_alloc → qI
open Ms renaming size_wr → qJ,size_drew → qK,not_noB → qL
open W renaming seqR → qA,seq → qB,regR → qC,condK → qD,block → qE,skip → qF,ret → qG,exit → qH
open Nat renaming reduceEqDiff → n0,reduceAdd → n1,reduceMul → n2,reduceSub → n3,reduceLT → n4,reduceLeDiff → n5
open Int renaming reduceEq → i0,reduceLT → i1,reduceLE → i2,reduceNeg → i3,reduceAdd → i4,reduceSub → i5,reduceMul → i6,reduceToNat → i7
set_option maxRecDepth 8000
open Go Go.Proofs Go.Shelf
attribute [local congr] W_congr WPsq_congr WPp_congr optK_congr addrK_congr intK_congr boolK_congr sliceK_congr tupleK_congr funcK_congr Fn_congr rawK_congr takeK_congr stepK_congr convK_congr aggK_congr

set_option maxHeartbeats 24000000 in
theorem readUpdateRaftVoterRequest_0b {un : Bool} {d : Nat} {ok : Blocks} {ver : Int} {ev : Value} (hlo : 0 ≤ ver) (hhi : ver ≤ 0) (w : World) {vb : Nat} (src : Value) (s : List UInt8) (hv : blk w vb = some (#[.int .i16 ver,.pointer none,.int .i32 0,.int .i32 0,.int .u8 0,.int .u8 0,.int .u8 0,.int .u8 0,.int .u8 0,.int .u8 0,.int .u8 0,.int .u8 0,.int .u8 0,.int .u8 0,.int .u8 0,.int .u8 0,.int .u8 0,.int .u8 0,.int .u8 0,.int .u8 0,.slice none 0 0,.int .i16 0,.int .i16 0,.map none,.map none],61,(0,0))) (hsrc : BytesV ok w src s) (hok0 : ∀ b,ok b → b < w.heap.size ∧ b ≠ vb) (hG : Glo ev w) (hgv : ¬ 0 = vb ∧ ¬ 1 = vb) :
    Fn Tryd.prog 18 #[.pointer (some ⟨vb,0,none⟩),src,.bool un] w (ReadQ 61 ok ver (d + 2) fs_UpdateRaftVoterRequest vb w (rdP (d + 2) ver true fs_UpdateRaftVoterRequest (some s)) ev) := by
  have hcs : ((un = true) = True ∧ (un = false) = False) ∨ ((un = true) = False ∧ (un = false) = True) := by cases un <;> simp
  rcases hcs with ⟨hun,hun'⟩ | ⟨hun,hun'⟩
  all_goals
    have hvl := blk_lt hv
    have hgs := hG.lt
    obtain ⟨sa,sc,rfl,_⟩ := hsrc.shape
    refine fn_of_W Tryd.func18 rfl Tryd.results18 Tryd.ntmps18 rfl ?_
    repeat ((first | refine qA rfl ?_|refine qB ?_|refine qC rfl ?_|refine qD ?_|refine qE ?_|refine qF ?_|refine qG ?_|refine qH ?_);try simp (maxSteps:=1000000)(disch:=(first|omega|(simp only [qI,qJ,qK]<;>omega)|exact qL _)) only [go_sem,↓reduceIte,n0,reduceCtorEq,n1,n2,n3,n4,n5,i0,i1,i2,i3,i4,i5,i6,i7,hv])
    refine (DefaultUpdateRaftVoterRequest_fn w hv).mono ?_
    rintro _ w0 ⟨hv0,hu0⟩
    have hz0 := hu0.size
    have hsrc0 : BytesV ok w0 (.slice sa s.length sc) s := hsrc.keep (hu0.keeps fun b _ hk e => (hok0 b hk).2 e)
    obtain ⟨rb,hrb⟩ : ∃ r,r = w0.heap.size := ⟨_,rfl⟩
    have hE1 : Ext w0 (wr (w0.alloc (.cells #[.slice none 0 0,.bool false] 75)) w0.heap.size 0 [.slice sa s.length sc,.bool false]) := (Upd.alloc (Upd.refl _ _) _).wr _ _ (.inl (Nat.le_refl _))
    have hz1 : (wr (w0.alloc (.cells #[.slice none 0 0,.bool false] 75)) w0.heap.size 0 [.slice sa s.length sc,.bool false]).heap.size = w0.heap.size + 1 := by rw [size_wr,World.size_alloc]
    have hR1 : Rdr RT ok (wr (w0.alloc (.cells #[.slice none 0 0,.bool false] 75)) w0.heap.size 0 [.slice sa s.length sc,.bool false]) w0.heap.size (some s) := Rdr.good (v := .slice sa s.length sc) (by simp (maxSteps:=1000000)(disch:=(first|omega|(simp only [qI,qJ,qK]<;>omega)|exact qL _)) only [go_sem,↓reduceIte,n0,reduceCtorEq,n1,n2,n3,n4,n5,i0,i1,i2,i3,i4,i5,i6,i7]) (hsrc0.keep (hE1.keeps _))
    have hv_1 := hE1.blk_some hv0 id
    repeat ((first | refine qA rfl ?_|refine qB ?_|refine qC rfl ?_|refine qD ?_|refine qE ?_|refine qF ?_|refine qG ?_|refine qH ?_);try simp (maxSteps:=1000000)(disch:=(first|omega|(simp only [qI,qJ,qK]<;>omega)|exact qL _)) only [go_sem,↓reduceIte,n0,reduceCtorEq,n1,n2,n3,n4,n5,i0,i1,i2,i3,i4,i5,i6,i7,hv0])
    generalize (wr (w0.alloc (.cells #[.slice none 0 0,.bool false] 75)) w0.heap.size 0 [.slice sa s.length sc,.bool false]) = w1 at *
    rw [← hrb] at hR1
    try rw [← hrb]
    have hok : ∀ b,ok b → b < w.heap.size ∧ b ≠ vb := hok0
    have hrok : ¬ ok rb := fun h => by have := (hok rb h).1;omega
    have hbase : Upd (fun b => b = vb) w w1 := hu0.trans (hE1.mono fun _ h => h.elim)
    have hG1 : Glo ev w1 := hG.updS hbase hgv.1 hgv.2
    have hgrb : ¬ 0 = rb := by omega
    have hgM1 : ¬ (0 = vb ∨ 0 = rb) := fun h => h.elim hgv.1 fun h => by omega
    have hgM2 : ¬ (1 = vb ∨ 1 = rb) := fun h => h.elim hgv.2 fun h => by omega
    obtain ⟨s0,hs0⟩ : ∃ s' : St,s' = some s := ⟨_,rfl⟩
    rw [← hs0] at hR1 ⊢
    have hU1 : Upd (fun b => b = vb ∨ b = rb) w1 w1 := Upd.refl _ _
    have hoM : ∀ b,(ok b ∨ w1.heap.size ≤ b) → ¬ (b = vb ∨ b = rb) := fun b hk h => by
      rcases hk with hk | hk
      · have := hok b hk;rcases h with h | h <;> omega
      · rcases h with h | h <;> omega
    have hq1 : Rdr RT ok w1 rb s0 := hR1
    obtain ⟨FB,hFB⟩ : ∃ P : Prop,P = ((rdP (d + 2) ver true fs_UpdateRaftVoterRequest s0).2 = none) := ⟨_,rfl⟩
    have hb_0 : (rdL (rdP (d + 1) ver true) (dfP (d + 1)) ver true [fUpdateRaftVoterRequest_0,fUpdateRaftVoterRequest_1,fUpdateRaftVoterRequest_2,fUpdateRaftVoterRequest_3,fUpdateRaftVoterRequest_4,fUpdateRaftVoterRequest_5] s0).2 = none → FB := fun h => Eq.mpr hFB (rdP_bad h)
    have hh_0 : hasS fUpdateRaftVoterRequest_0 ver = true := hasS_t (by show (0 : Int) ≤ ver;omega) (by show (-1 : Int) < 0 ∨ ver ≤ (-1 : Int);omega)
    obtain ⟨x_0,hx_0⟩ : ∃ x,x = (rdF (rdP (d + 1) ver true) ver true fUpdateRaftVoterRequest_0 s0).1 := ⟨_,rfl⟩
    repeat ((first | refine qA rfl ?_|refine qB ?_|refine qC rfl ?_|refine qD ?_|refine qE ?_|refine qF ?_|refine qG ?_|refine qH ?_);try simp (maxSteps:=1000000)(disch:=(first|omega|(simp only [qI,qJ,qK]<;>omega)|exact qL _)) only [go_sem,↓reduceIte,n0,reduceCtorEq,n1,n2,n3,n4,n5,i0,i1,i2,i3,i4,i5,i6,i7,hv_1,hun,hun'])
    try simp (maxSteps:=1000000)(disch:=(first|omega|(simp only [qI,qJ,qK]<;>omega)|exact qL _)) only [go_sem,↓reduceIte,n0,reduceCtorEq,n1,n2,n3,n4,n5,i0,i1,i2,i3,i4,i5,i6,i7,hv_1,hun,hun']
    repeat ((first | refine qA rfl ?_|refine qB ?_|refine qC rfl ?_|refine qD ?_|refine qE ?_|refine qF ?_|refine qG ?_|refine qH ?_);try simp (maxSteps:=1000000)(disch:=(first|omega|(simp only [qI,qJ,qK]<;>omega)|exact qL _)) only [go_sem,↓reduceIte,n0,reduceCtorEq,n1,n2,n3,n4,n5,i0,i1,i2,i3,i4,i5,i6,i7,hv_1,hun,hun'])
    have hmay : mayS fUpdateRaftVoterRequest_0 ver = true := mayS_yes (by decide) (by show (0 : Int) ≤ ver;omega)
    have hrd : rdF (rdP (d + 1) ver true) ver true fUpdateRaftVoterRequest_0 s0 = _ := rdF_ptr rfl hmay
    first | refine (RUnsafeCompactNullableString_fn w1 hq1 hrok hG1.1 hgrb).mono ?_ | refine (RCompactNullableString_fn w1 hq1 hrok hG1.1 hgrb).mono ?_
    rintro r2 w2 ⟨hp2,hq2,hu2⟩
    obtain ⟨ap2,rfl⟩ := hp2.shape
    have hv_2 := hu2.blk_some hv_1 (by omega)
    have hV2 : Upd (fun b => b = vb ∨ b = rb) w1 w2 := hu2.mono (fun _ h => .inr h)
    have hU2 : Upd (fun b => b = vb ∨ b = rb) w1 w2 := hU1.trans hV2
    have hz2 := hV2.size
    have hG2 : Glo ev w2 := hG1.updS hU2 hgM1 hgM2
    have hst : (rdF (rdP (d + 1) ver true) ver true fUpdateRaftVoterRequest_0 s0).2 = (rdNStr true s0).2 := by first | (rw [hrd];rfl) | rw [hrd]
    obtain ⟨s1,hs1⟩ : ∃ s,s = (rdF (rdP (d + 1) ver true) ver true fUpdateRaftVoterRequest_0 s0).2 := ⟨_,rfl⟩
    rw [← hst,← hs1] at hq2
    clear hst
    repeat ((first | refine qA rfl ?_|refine qB ?_|refine qC rfl ?_|refine qD ?_|refine qE ?_|refine qF ?_|refine qG ?_|refine qH ?_);try simp (maxSteps:=1000000)(disch:=(first|omega|(simp only [qI,qJ,qK]<;>omega)|exact qL _)) only [go_sem,↓reduceIte,n0,reduceCtorEq,n1,n2,n3,n4,n5,i0,i1,i2,i3,i4,i5,i6,i7,hv_2,hun,hun'])
    generalize hw3 : wr w2 vb 1 [.pointer ap2] = w3
    have hS3 : Upd (fun b => b = vb ∨ b = rb) w2 w3 := by rw [← hw3];exact (Upd.refl _ _).wr _ _ (.inr (.inl rfl))
    have hv_3 : blk w3 vb = some (#[.int .i16 ver,.pointer ap2,.int .i32 0,.int .i32 0,.int .u8 0,.int .u8 0,.int .u8 0,.int .u8 0,.int .u8 0,.int .u8 0,.int .u8 0,.int .u8 0,.int .u8 0,.int .u8 0,.int .u8 0,.int .u8 0,.int .u8 0,.int .u8 0,.int .u8 0,.int .u8 0,.slice none 0 0,.int .i16 0,.int .i16 0,.map none,.map none],61,(0,0)) := by rw [← hw3,blk_wr_eq,hv_2];rfl
    have hV3 := hS3
    have hU3 : Upd (fun b => b = vb ∨ b = rb) w1 w3 := hU2.trans hV3
    have hz3 := hV3.size
    have hG3 : Glo ev w3 := hG1.updS hU3 hgM1 hgM2
    have hq3 : Rdr RT ok w3 rb s1 ∧ NN w3 rb s1 := by
      have hn : ∀ x,x = w3 → (Rdr RT ok x rb s1 ∧ NN x rb s1) := fun x hx => by
        rw [hx,← hw3]
        exact Rdr.store hq2 (by omega) (fun h => by have := (hok _ h).1;first | omega | exact (hok _ h).2 rfl)
      exact hn _ rfl
    clear hw3
    have hf_0 : RepF (RepS true (d + 1)) (szS true (d + 1)) fUpdateRaftVoterRequest_0 (fun b => ok b ∨ w1.heap.size ≤ b) w3 (x_0) [.pointer ap2] := (RepF_ptr rfl (by decide)).2 ⟨_,rfl,by rw [hx_0,hrd];exact (hp2.weaken fun b _ hk => by have hk' : w1.heap.size ≤ b := hk;exact .inr (by omega)).keep (hV3.keeps fun b _ hk e => (hoM b hk) e)⟩
    clear hrd
    have hb_1 : (rdL (rdP (d + 1) ver true) (dfP (d + 1)) ver true [fUpdateRaftVoterRequest_1,fUpdateRaftVoterRequest_2,fUpdateRaftVoterRequest_3,fUpdateRaftVoterRequest_4,fUpdateRaftVoterRequest_5] s1).2 = none → FB := fun h => hb_0 (by rw [rdL_st (by decide) hh_0,← hs1];exact h)
    have hh_1 : hasS fUpdateRaftVoterRequest_1 ver = true := hasS_t (by show (0 : Int) ≤ ver;omega) (by show (-1 : Int) < 0 ∨ ver ≤ (-1 : Int);omega)
    obtain ⟨x_1,hx_1⟩ : ∃ x,x = (rdF (rdP (d + 1) ver true) ver true fUpdateRaftVoterRequest_1 s1).1 := ⟨_,rfl⟩
    repeat ((first | refine qA rfl ?_|refine qB ?_|refine qC rfl ?_|refine qD ?_|refine qE ?_|refine qF ?_|refine qG ?_|refine qH ?_);try simp (maxSteps:=1000000)(disch:=(first|omega|(simp only [qI,qJ,qK]<;>omega)|exact qL _)) only [go_sem,↓reduceIte,n0,reduceCtorEq,n1,n2,n3,n4,n5,i0,i1,i2,i3,i4,i5,i6,i7,hv_3,hun,hun'])
    have hrd : rdF (rdP (d + 1) ver true) ver true fUpdateRaftVoterRequest_1 s1 = _ := rdF_num 3 rfl (by decide)
    refine (Int32_fn w3 hq3.1 hrok hG3.1 hgrb).mono ?_
    rintro _ w4 ⟨rfl,hq4,hu4⟩
    have hv_4 := hu4.blk_some hv_3 (by omega)
    have hV4 : Upd (fun b => b = vb ∨ b = rb) w3 w4 := hu4.mono (fun _ h => .inr h)
    have hU4 : Upd (fun b => b = vb ∨ b = rb) w1 w4 := hU3.trans hV4
    have hz4 := hV4.size
    have hG4 : Glo ev w4 := hG1.updS hU4 hgM1 hgM2
    have hst : (rdF (rdP (d + 1) ver true) ver true fUpdateRaftVoterRequest_1 s1).2 = (rdInt .i32 4 s1).2 := by first | (rw [hrd];rfl) | rw [hrd]
    obtain ⟨s2,hs2⟩ : ∃ s,s = (rdF (rdP (d + 1) ver true) ver true fUpdateRaftVoterRequest_1 s1).2 := ⟨_,rfl⟩
    rw [← hst,← hs2] at hq4
    clear hst
    repeat ((first | refine qA rfl ?_|refine qB ?_|refine qC rfl ?_|refine qD ?_|refine qE ?_|refine qF ?_|refine qG ?_|refine qH ?_);try simp (maxSteps:=1000000)(disch:=(first|omega|(simp only [qI,qJ,qK]<;>omega)|exact qL _)) only [go_sem,↓reduceIte,n0,reduceCtorEq,n1,n2,n3,n4,n5,i0,i1,i2,i3,i4,i5,i6,i7,hv_4,hun,hun'])
    generalize hw5 : wr w4 vb 2 [.int .i32 (rdInt .i32 4 s1).1] = w5
    have hS5 : Upd (fun b => b = vb ∨ b = rb) w4 w5 := by rw [← hw5];exact (Upd.refl _ _).wr _ _ (.inr (.inl rfl))
    have hv_5 : blk w5 vb = some (#[.int .i16 ver,.pointer ap2,.int .i32 (rdInt .i32 4 s1).1,.int .i32 0,.int .u8 0,.int .u8 0,.int .u8 0,.int .u8 0,.int .u8 0,.int .u8 0,.int .u8 0,.int .u8 0,.int .u8 0,.int .u8 0,.int .u8 0,.int .u8 0,.int .u8 0,.int .u8 0,.int .u8 0,.int .u8 0,.slice none 0 0,.int .i16 0,.int .i16 0,.map none,.map none],61,(0,0)) := by rw [← hw5,blk_wr_eq,hv_4];rfl
    have hV5 := hS5
    have hU5 : Upd (fun b => b = vb ∨ b = rb) w1 w5 := hU4.trans hV5
    have hz5 := hV5.size
    have hG5 : Glo ev w5 := hG1.updS hU5 hgM1 hgM2
    have hq5 : Rdr RT ok w5 rb s2 ∧ NN w5 rb s2 := by
      have hn : ∀ x,x = w5 → (Rdr RT ok x rb s2 ∧ NN x rb s2) := fun x hx => by
        rw [hx,← hw5]
        exact Rdr.store hq4 (by omega) (fun h => by have := (hok _ h).1;first | omega | exact (hok _ h).2 rfl)
      exact hn _ rfl
    clear hw5
    have hf_1 : RepF (RepS true (d + 1)) (szS true (d + 1)) fUpdateRaftVoterRequest_1 (fun b => ok b ∨ w1.heap.size ≤ b) w5 (x_1) [.int .i32 (rdInt .i32 4 s1).1] := (RepF_num (by decide)).2 (by rw [hx_1,hrd];exact congrArg (fun x => [x]) (numC_rd 3 (by decide) 4 s1).symm)
    clear hrd
    have hb_2 : (rdL (rdP (d + 1) ver true) (dfP (d + 1)) ver true [fUpdateRaftVoterRequest_2,fUpdateRaftVoterRequest_3,fUpdateRaftVoterRequest_4,fUpdateRaftVoterRequest_5] s2).2 = none → FB := fun h => hb_1 (by rw [rdL_st (by decide) hh_1,← hs2];exact h)
    have hh_2 : hasS fUpdateRaftVoterRequest_2 ver = true := hasS_t (by show (0 : Int) ≤ ver;omega) (by show (-1 : Int) < 0 ∨ ver ≤ (-1 : Int);omega)
    obtain ⟨x_2,hx_2⟩ : ∃ x,x = (rdF (rdP (d + 1) ver true) ver true fUpdateRaftVoterRequest_2 s2).1 := ⟨_,rfl⟩
    repeat ((first | refine qA rfl ?_|refine qB ?_|refine qC rfl ?_|refine qD ?_|refine qE ?_|refine qF ?_|refine qG ?_|refine qH ?_);try simp (maxSteps:=1000000)(disch:=(first|omega|(simp only [qI,qJ,qK]<;>omega)|exact qL _)) only [go_sem,↓reduceIte,n0,reduceCtorEq,n1,n2,n3,n4,n5,i0,i1,i2,i3,i4,i5,i6,i7,hv_5,hun,hun'])
    have hrd : rdF (rdP (d + 1) ver true) ver true fUpdateRaftVoterRequest_2 s2 = _ := rdF_num 3 rfl (by decide)
    refine (Int32_fn w5 hq5.1 hrok hG5.1 hgrb).mono ?_
    rintro _ w6 ⟨rfl,hq6,hu6⟩
    have hv_6 := hu6.blk_some hv_5 (by omega)
    have hV6 : Upd (fun b => b = vb ∨ b = rb) w5 w6 := hu6.mono (fun _ h => .inr h)
    have hU6 : Upd (fun b => b = vb ∨ b = rb) w1 w6 := hU5.trans hV6
    have hz6 := hV6.size
    have hG6 : Glo ev w6 := hG1.updS hU6 hgM1 hgM2
    have hst : (rdF (rdP (d + 1) ver true) ver true fUpdateRaftVoterRequest_2 s2).2 = (rdInt .i32 4 s2).2 := by first | (rw [hrd];rfl) | rw [hrd]
    obtain ⟨s3,hs3⟩ : ∃ s,s = (rdF (rdP (d + 1) ver true) ver true fUpdateRaftVoterRequest_2 s2).2 := ⟨_,rfl⟩
    rw [← hst,← hs3] at hq6
    clear hst
    repeat ((first | refine qA rfl ?_|refine qB ?_|refine qC rfl ?_|refine qD ?_|refine qE ?_|refine qF ?_|refine qG ?_|refine qH ?_);try simp (maxSteps:=1000000)(disch:=(first|omega|(simp only [qI,qJ,qK]<;>omega)|exact qL _)) only [go_sem,↓reduceIte,n0,reduceCtorEq,n1,n2,n3,n4,n5,i0,i1,i2,i3,i4,i5,i6,i7,hv_6,hun,hun'])
    generalize hw7 : wr w6 vb 3 [.int .i32 (rdInt .i32 4 s2).1] = w7
    have hS7 : Upd (fun b => b = vb ∨ b = rb) w6 w7 := by rw [← hw7];exact (Upd.refl _ _).wr _ _ (.inr (.inl rfl))
    have hv_7 : blk w7 vb = some (#[.int .i16 ver,.pointer ap2,.int .i32 (rdInt .i32 4 s1).1,.int .i32 (rdInt .i32 4 s2).1,.int .u8 0,.int .u8 0,.int .u8 0,.int .u8 0,.int .u8 0,.int .u8 0,.int .u8 0,.int .u8 0,.int .u8 0,.int .u8 0,.int .u8 0,.int .u8 0,.int .u8 0,.int .u8 0,.int .u8 0,.int .u8 0,.slice none 0 0,.int .i16 0,.int .i16 0,.map none,.map none],61,(0,0)) := by rw [← hw7,blk_wr_eq,hv_6];rfl
    have hV7 := hS7
    have hU7 : Upd (fun b => b = vb ∨ b = rb) w1 w7 := hU6.trans hV7
    have hz7 := hV7.size
    have hG7 : Glo ev w7 := hG1.updS hU7 hgM1 hgM2
    have hq7 : Rdr RT ok w7 rb s3 ∧ NN w7 rb s3 := by
      have hn : ∀ x,x = w7 → (Rdr RT ok x rb s3 ∧ NN x rb s3) := fun x hx => by
        rw [hx,← hw7]
        exact Rdr.store hq6 (by omega) (fun h => by have := (hok _ h).1;first | omega | exact (hok _ h).2 rfl)
      exact hn _ rfl
    clear hw7
    have hf_2 : RepF (RepS true (d + 1)) (szS true (d + 1)) fUpdateRaftVoterRequest_2 (fun b => ok b ∨ w1.heap.size ≤ b) w7 (x_2) [.int .i32 (rdInt .i32 4 s2).1] := (RepF_num (by decide)).2 (by rw [hx_2,hrd];exact congrArg (fun x => [x]) (numC_rd 3 (by decide) 4 s2).symm)
    clear hrd
    have hb_3 : (rdL (rdP (d + 1) ver true) (dfP (d + 1)) ver true [fUpdateRaftVoterRequest_3,fUpdateRaftVoterRequest_4,fUpdateRaftVoterRequest_5] s3).2 = none → FB := fun h => hb_2 (by rw [rdL_st (by decide) hh_2,← hs3];exact h)
    have hh_3 : hasS fUpdateRaftVoterRequest_3 ver = true := hasS_t (by show (0 : Int) ≤ ver;omega) (by show (-1 : Int) < 0 ∨ ver ≤ (-1 : Int);omega)
    obtain ⟨x_3,hx_3⟩ : ∃ x,x = (rdF (rdP (d + 1) ver true) ver true fUpdateRaftVoterRequest_3 s3).1 := ⟨_,rfl⟩
    repeat ((first | refine qA rfl ?_|refine qB ?_|refine qC rfl ?_|refine qD ?_|refine qE ?_|refine qF ?_|refine qG ?_|refine qH ?_);try simp (maxSteps:=1000000)(disch:=(first|omega|(simp only [qI,qJ,qK]<;>omega)|exact qL _)) only [go_sem,↓reduceIte,n0,reduceCtorEq,n1,n2,n3,n4,n5,i0,i1,i2,i3,i4,i5,i6,i7,hv_7,hun,hun'])
    have hrd : rdF (rdP (d + 1) ver true) ver true fUpdateRaftVoterRequest_3 s3 = _ := rdF_uuid rfl
    refine (RUuid_fn w7 hq7.1 hrok).mono ?_
    rintro _ w8 ⟨rfl,hq8,hu8⟩
    have hv_8 := hu8.blk_some hv_7 (by omega)
    have hV8 : Upd (fun b => b = vb ∨ b = rb) w7 w8 := hu8.mono (fun _ h => .inr h)
    have hU8 : Upd (fun b => b = vb ∨ b = rb) w1 w8 := hU7.trans hV8
    have hz8 := hV8.size
    have hG8 : Glo ev w8 := hG1.updS hU8 hgM1 hgM2
    have hst : (rdF (rdP (d + 1) ver true) ver true fUpdateRaftVoterRequest_3 s3).2 = (rdSpan 16 s3).2 := by first | (rw [hrd];rfl) | rw [hrd]
    obtain ⟨s4,hs4⟩ : ∃ s,s = (rdF (rdP (d + 1) ver true) ver true fUpdateRaftVoterRequest_3 s3).2 := ⟨_,rfl⟩
    rw [← hst,← hs4] at hq8
    clear hst
    have hl16 : ((uuidS (rdSpan 16 s3).1).map byteV).length = 16 := by rw [List.length_map,uuidS_len]
    have hx16 := flat_bytes (uuidS (rdSpan 16 s3).1)
    have hxe : x_3 = .oct false (uuidS (rdSpan 16 s3).1) := by rw [hx_3,hrd]
    have hxc : (uuidS (x_3).s).map byteV = (uuidS (rdSpan 16 s3).1).map byteV := by rw [hxe];show (uuidS (uuidS _)).map byteV = _;rw [uuidS_idem]
    generalize (uuidS (rdSpan 16 s3).1).map byteV = Xu at *
    obtain ⟨u3_0,u3_1,u3_2,u3_3,u3_4,u3_5,u3_6,u3_7,u3_8,u3_9,u3_10,u3_11,u3_12,u3_13,u3_14,u3_15,rfl⟩ := list16 hl16
    simp only [List.all_cons,List.all_nil,Bool.and_true,Bool.and_eq_true] at hx16
    obtain ⟨fu3_0,fu3_1,fu3_2,fu3_3,fu3_4,fu3_5,fu3_6,fu3_7,fu3_8,fu3_9,fu3_10,fu3_11,fu3_12,fu3_13,fu3_14,fu3_15⟩ := hx16
    have hcz : cellsAt #[u3_0,u3_1,u3_2,u3_3,u3_4,u3_5,u3_6,u3_7,u3_8,u3_9,u3_10,u3_11,u3_12,u3_13,u3_14,u3_15] 0 16 = some (.agg #[u3_0,u3_1,u3_2,u3_3,u3_4,u3_5,u3_6,u3_7,u3_8,u3_9,u3_10,u3_11,u3_12,u3_13,u3_14,u3_15]) := cellsAt_full rfl
    try simp (maxSteps:=1000000)(disch:=(first|omega|(simp only [qI,qJ,qK]<;>omega)|exact qL _)) only [go_sem,↓reduceIte,n0,reduceCtorEq,n1,n2,n3,n4,n5,i0,i1,i2,i3,i4,i5,i6,i7,hv_8,hun,hun',hcz,fu3_0,fu3_1,fu3_2,fu3_3,fu3_4,fu3_5,fu3_6,fu3_7,fu3_8,fu3_9,fu3_10,fu3_11,fu3_12,fu3_13,fu3_14,fu3_15]
    repeat ((first | refine qA rfl ?_|refine qB ?_|refine qC rfl ?_|refine qD ?_|refine qE ?_|refine qF ?_|refine qG ?_|refine qH ?_);try simp (maxSteps:=1000000)(disch:=(first|omega|(simp only [qI,qJ,qK]<;>omega)|exact qL _)) only [go_sem,↓reduceIte,n0,reduceCtorEq,n1,n2,n3,n4,n5,i0,i1,i2,i3,i4,i5,i6,i7,hv_8,hun,hun',hcz,fu3_0,fu3_1,fu3_2,fu3_3,fu3_4,fu3_5,fu3_6,fu3_7,fu3_8,fu3_9,fu3_10,fu3_11,fu3_12,fu3_13,fu3_14,fu3_15])
    have hEu : Ext w8 (wr (w8.alloc (.cells #[.int .u8 0,.int .u8 0,.int .u8 0,.int .u8 0,.int .u8 0,.int .u8 0,.int .u8 0,.int .u8 0,.int .u8 0,.int .u8 0,.int .u8 0,.int .u8 0,.int .u8 0,.int .u8 0,.int .u8 0,.int .u8 0] 53)) w8.heap.size 0 [u3_0,u3_1,u3_2,u3_3,u3_4,u3_5,u3_6,u3_7,u3_8,u3_9,u3_10,u3_11,u3_12,u3_13,u3_14,u3_15]) := (Upd.alloc (Upd.refl _ _) _).wr _ _ (.inl (Nat.le_refl _))
    have hq9 := And.intro (hq8.1.upd hEu (fun h => h) (fun _ _ _ h => h)) (hq8.2.upd hEu fun h => h)
    have hu9 : Upd (fun b => b = rb) w8 (wr (w8.alloc (.cells #[.int .u8 0,.int .u8 0,.int .u8 0,.int .u8 0,.int .u8 0,.int .u8 0,.int .u8 0,.int .u8 0,.int .u8 0,.int .u8 0,.int .u8 0,.int .u8 0,.int .u8 0,.int .u8 0,.int .u8 0,.int .u8 0] 53)) w8.heap.size 0 [u3_0,u3_1,u3_2,u3_3,u3_4,u3_5,u3_6,u3_7,u3_8,u3_9,u3_10,u3_11,u3_12,u3_13,u3_14,u3_15]) := hEu.mono fun _ h => h.elim
    clear hEu
    generalize (wr (w8.alloc (.cells #[.int .u8 0,.int .u8 0,.int .u8 0,.int .u8 0,.int .u8 0,.int .u8 0,.int .u8 0,.int .u8 0,.int .u8 0,.int .u8 0,.int .u8 0,.int .u8 0,.int .u8 0,.int .u8 0,.int .u8 0,.int .u8 0] 53)) w8.heap.size 0 [u3_0,u3_1,u3_2,u3_3,u3_4,u3_5,u3_6,u3_7,u3_8,u3_9,u3_10,u3_11,u3_12,u3_13,u3_14,u3_15]) = w9 at *
    have hv_9 := hu9.blk_some hv_8 (by omega)
    have hV9 : Upd (fun b => b = vb ∨ b = rb) w8 w9 := hu9.mono (fun _ h => .inr h)
    have hU9 : Upd (fun b => b = vb ∨ b = rb) w1 w9 := hU8.trans hV9
    have hz9 := hV9.size
    have hG9 : Glo ev w9 := hG1.updS hU9 hgM1 hgM2
    generalize hw10 : wr w9 vb 4 [u3_0,u3_1,u3_2,u3_3,u3_4,u3_5,u3_6,u3_7,u3_8,u3_9,u3_10,u3_11,u3_12,u3_13,u3_14,u3_15] = w10
    have hS10 : Upd (fun b => b = vb ∨ b = rb) w9 w10 := by rw [← hw10];exact (Upd.refl _ _).wr _ _ (.inr (.inl rfl))
    have hv_10 : blk w10 vb = some (#[.int .i16 ver,.pointer ap2,.int .i32 (rdInt .i32 4 s1).1,.int .i32 (rdInt .i32 4 s2).1,u3_0,u3_1,u3_2,u3_3,u3_4,u3_5,u3_6,u3_7,u3_8,u3_9,u3_10,u3_11,u3_12,u3_13,u3_14,u3_15,.slice none 0 0,.int .i16 0,.int .i16 0,.map none,.map none],61,(0,0)) := by rw [← hw10,blk_wr_eq,hv_9];simp only [Option.map_some,wrArr_cons,wrArr_nil,List.setIfInBounds_toArray,List.set_cons_zero,List.set_cons_succ,Nat.reduceAdd]
    have hV10 := hS10
    have hU10 : Upd (fun b => b = vb ∨ b = rb) w1 w10 := hU9.trans hV10
    have hz10 := hV10.size
    have hG10 : Glo ev w10 := hG1.updS hU10 hgM1 hgM2
    have hq10 : Rdr RT ok w10 rb s4 ∧ NN w10 rb s4 := by
      have hn : ∀ x,x = w10 → (Rdr RT ok x rb s4 ∧ NN x rb s4) := fun x hx => by
        rw [hx,← hw10]
        exact Rdr.store hq9 (by omega) (fun h => by have := (hok _ h).1;first | omega | exact (hok _ h).2 rfl)
      exact hn _ rfl
    clear hw10
    have hf_3 : RepF (RepS true (d + 1)) (szS true (d + 1)) fUpdateRaftVoterRequest_3 (fun b => ok b ∨ w1.heap.size ≤ b) w10 (x_3) [u3_0,u3_1,u3_2,u3_3,u3_4,u3_5,u3_6,u3_7,u3_8,u3_9,u3_10,u3_11,u3_12,u3_13,u3_14,u3_15] := (RepF_uuid rfl).2 hxc.symm
    clear hrd
    have hb_4 : (rdL (rdP (d + 1) ver true) (dfP (d + 1)) ver true [fUpdateRaftVoterRequest_4,fUpdateRaftVoterRequest_5] s4).2 = none → FB := fun h => hb_3 (by rw [rdL_st (by decide) hh_3,← hs4];exact h)
    have hh_4 : hasS fUpdateRaftVoterRequest_4 ver = true := hasS_t (by show (0 : Int) ≤ ver;omega) (by show (-1 : Int) < 0 ∨ ver ≤ (-1 : Int);omega)
    obtain ⟨x_4,hx_4⟩ : ∃ x,x = (rdF (rdP (d + 1) ver true) ver true fUpdateRaftVoterRequest_4 s4).1 := ⟨_,rfl⟩
    repeat ((first | refine qA rfl ?_|refine qB ?_|refine qC rfl ?_|refine qD ?_|refine qE ?_|refine qF ?_|refine qG ?_|refine qH ?_);try simp (maxSteps:=1000000)(disch:=(first|omega|(simp only [qI,qJ,qK]<;>omega)|exact qL _)) only [go_sem,↓reduceIte,n0,reduceCtorEq,n1,n2,n3,n4,n5,i0,i1,i2,i3,i4,i5,i6,i7,hv_10,hun,hun'])
    refine (RCompactArrayLen_fn w10 hq10.1 hrok hG10.1 hgrb).mono ?_
    rintro _ w11 ⟨rfl,hq11,hu11⟩
    have hv_11 := hu11.blk_some hv_10 (by omega)
    have hV11 : Upd (fun b => b = vb ∨ b = rb) w10 w11 := hu11.mono (fun _ h => .inr h)
    have hU11 : Upd (fun b => b = vb ∨ b = rb) w1 w11 := hU10.trans hV11
    have hz11 := hV11.size
    have hG11 : Glo ev w11 := hG1.updS hU11 hgM1 hgM2
    obtain ⟨s5,hs5⟩ : ∃ s,s = (rdALen true s4).2 := ⟨_,rfl⟩
    rw [← hs5] at hq11
    have hyr0 := rdALen_rng true s4
    generalize hy0 : (rdALen true s4).1 = y0 at *
    obtain ⟨N0,hN0⟩ : ∃ N,N = y0.toNat := ⟨_,rfl⟩
    have hlb0 : (rdMany (rd1 (rdP (d + 1) ver true) fUpdateRaftVoterRequest_4.of fUpdateRaftVoterRequest_4.sub false true) N0 s5).2 = none → FB := fun h => hb_4 (by rw [rdL_st (by decide) hh_4];exact rdL_bad (rdF_listbad rfl (by rw [hy0,← hN0,← hs5];exact h)))
    repeat ((first | refine W.seqR rfl ?_ | refine W.seq ?_ | refine W.regR rfl ?_ | refine W.block ?_ | refine W.skip ?_ | refine W.ret ?_ | refine W.exit ?_);try simp (maxSteps:=1000000)(disch:=(first|omega|(simp only [qI,qJ,qK]<;>omega)|exact qL _)) only [go_sem,↓reduceIte,n0,reduceCtorEq,n1,n2,n3,n4,n5,i0,i1,i2,i3,i4,i5,i6,i7,hv_11,hun,hun'])
    refine (ROk_fn w11 hq11.1).mono ?_
    rintro _ wz ⟨rfl,hez⟩
    rw [hez]
    clear hez wz
    by_cases hsn0 : s5 = none
    · have hso : s5.isSome = false := by rw [hsn0];rfl
      try simp (maxSteps:=1000000)(disch:=(first|omega|(simp only [qI,qJ,qK]<;>omega)|exact qL _)) only [go_sem,↓reduceIte,n0,reduceCtorEq,n1,n2,n3,n4,n5,i0,i1,i2,i3,i4,i5,i6,i7,hv_11,hun,hun',hso]
      repeat ((first | refine qA rfl ?_|refine qB ?_|refine qC rfl ?_|refine qD ?_|refine qE ?_|refine qF ?_|refine qG ?_|refine qH ?_);try simp (maxSteps:=1000000)(disch:=(first|omega|(simp only [qI,qJ,qK]<;>omega)|exact qL _)) only [go_sem,↓reduceIte,n0,reduceCtorEq,n1,n2,n3,n4,n5,i0,i1,i2,i3,i4,i5,i6,i7,hv_11,hun,hun',hso])
      refine (RComplete_fn w11 hq11.1 hG11.2).mono ?_
      rintro _ wz ⟨rfl,hez⟩
      rw [hez]
      try simp (maxSteps:=1000000)(disch:=(first|omega|(simp only [qI,qJ,qK]<;>omega)|exact qL _)) only [go_sem,↓reduceIte,n0,reduceCtorEq,n1,n2,n3,n4,n5,i0,i1,i2,i3,i4,i5,i6,i7,hv_11,hun,hun']
      repeat ((first | refine qA rfl ?_|refine qB ?_|refine qC rfl ?_|refine qD ?_|refine qE ?_|refine qF ?_|refine qG ?_|refine qH ?_);try simp (maxSteps:=1000000)(disch:=(first|omega|(simp only [qI,qJ,qK]<;>omega)|exact qL _)) only [go_sem,↓reduceIte,n0,reduceCtorEq,n1,n2,n3,n4,n5,i0,i1,i2,i3,i4,i5,i6,i7,hv_11,hun,hun'])
      rw [errV_none hsn0]
      exact ReadQ.bad (Eq.mp hFB (hlb0 (by rw [hsn0];exact rdMany_none rd1P_none _))) (hbase.trans' hU11 fun i hi h => h.elim id fun h => by omega)
    have hso0 : s5.isSome = true := isSome_some hsn0
    try simp (maxSteps:=1000000)(disch:=(first|omega|(simp only [qI,qJ,qK]<;>omega)|exact qL _)) only [go_sem,↓reduceIte,n0,reduceCtorEq,n1,n2,n3,n4,n5,i0,i1,i2,i3,i4,i5,i6,i7,hv_11,hun,hun',hso0]
    repeat ((first | refine W.seqR rfl ?_ | refine W.seq ?_ | refine W.regR rfl ?_ | refine W.block ?_ | refine W.skip ?_ | refine W.ret ?_ | refine W.exit ?_);try simp (maxSteps:=1000000)(disch:=(first|omega|(simp only [qI,qJ,qK]<;>omega)|exact qL _)) only [go_sem,↓reduceIte,n0,reduceCtorEq,n1,n2,n3,n4,n5,i0,i1,i2,i3,i4,i5,i6,i7,hv_11,hun,hun',hso0])
    refine W.condK ?_
    try simp (maxSteps:=1000000)(disch:=(first|omega|(simp only [qI,qJ,qK]<;>omega)|exact qL _)) only [go_sem,↓reduceIte,n0,reduceCtorEq,n1,n2,n3,n4,n5,i0,i1,i2,i3,i4,i5,i6,i7,hv_11,hun,hun',hso0]
    repeat ((first | refine W.seqR rfl ?_ | refine W.seq ?_ | refine W.regR rfl ?_ | refine W.block ?_ | refine W.skip ?_ | refine W.ret ?_ | refine W.exit ?_);try simp (maxSteps:=1000000)(disch:=(first|omega|(simp only [qI,qJ,qK]<;>omega)|exact qL _)) only [go_sem,↓reduceIte,n0,reduceCtorEq,n1,n2,n3,n4,n5,i0,i1,i2,i3,i4,i5,i6,i7,hv_11,hun,hun',hso0,slBase_00])
    refine W.normJ (RowQ [(2,.bool un),(7,.pointer (some ⟨rb,0,none⟩)),(8,.int .i16 ver),(9,.bool true),(10,.pointer (some ⟨vb,0,none⟩)),(17,.int .i32 y0)] 16 (fun va w' => LstI RT (rd1 (rdP (d + 1) ver true) fUpdateRaftVoterRequest_4.of fUpdateRaftVoterRequest_4.sub false true) (Rep1 (RepS true (d + 1)) fUpdateRaftVoterRequest_4.of fUpdateRaftVoterRequest_4.sub) 4 68 [.string ByteArray.empty,.string ByteArray.empty,.int .u16 0,.map none] w11.heap.size N0 ok (fun b => ok b ∨ w1.heap.size ≤ b) rb w11 s5 va 0 s5 [] [] w' ∧ (N0 = 0 → if nilS fUpdateRaftVoterRequest_4 ver y0 = true then va = .slice none 0 0 else ∃ a,va = .slice (some a) 0 0))) ?_ ?_
    · by_cases hy0 : (0 : Int) < y0
      · have hyv : Value.int .i32 y0 = .int .i32 ((N0 : Nat) : Int) := by rw [show y0 = ((N0 : Nat) : Int) by omega]
        repeat ((first | refine qA rfl ?_|refine qB ?_|refine qC rfl ?_|refine qD ?_|refine qE ?_|refine qF ?_|refine qG ?_|refine qH ?_);try simp (maxSteps:=1000000)(disch:=(first|omega|(simp only [qI,qJ,qK]<;>omega)|exact qL _)) only [go_sem,↓reduceIte,n0,reduceCtorEq,n1,n2,n3,n4,n5,i0,i1,i2,i3,i4,i5,i6,i7,hv_11,hun,hun'])
        refine wp_appendZ (m := N0) utUpdateRaftVoterRequest_54 utUpdateRaftVoterRequest_21 inUpdateRaftVoterRequest_68 (by decide) (by first | rfl | simp (maxSteps:=1000000)(disch:=(first|omega|(simp only [qI,qJ,qK]<;>omega)|exact qL _)) only [go_sem,↓reduceIte,n0,reduceCtorEq,n1,n2,n3,n4,n5,i0,i1,i2,i3,i4,i5,i6,i7]) (by first | exact hyv | (simp (maxSteps:=1000000)(disch:=(first|omega|(simp only [qI,qJ,qK]<;>omega)|exact qL _)) only [go_sem,↓reduceIte,n0,reduceCtorEq,n1,n2,n3,n4,n5,i0,i1,i2,i3,i4,i5,i6,i7];exact hyv)) (by omega) (by omega) (by decide) ?_
        intro q rest hq1
        have hEw : Ext w11 (w11.drew.alloc (.cells (zs [.string ByteArray.empty,.string ByteArray.empty,.int .u16 0,.map none] N0 ++ rest).toArray 68)) := (Upd.refl _ _).drew.alloc _
        try simp (maxSteps:=1000000)(disch:=(first|omega|(simp only [qI,qJ,qK]<;>omega)|exact qL _)) only [go_sem,↓reduceIte,n0,reduceCtorEq,n1,n2,n3,n4,n5,i0,i1,i2,i3,i4,i5,i6,i7,hv_11,hun,hun']
        repeat ((first | refine qA rfl ?_|refine qB ?_|refine qC rfl ?_|refine qD ?_|refine qE ?_|refine qF ?_|refine qG ?_|refine qH ?_);try simp (maxSteps:=1000000)(disch:=(first|omega|(simp only [qI,qJ,qK]<;>omega)|exact qL _)) only [go_sem,↓reduceIte,n0,reduceCtorEq,n1,n2,n3,n4,n5,i0,i1,i2,i3,i4,i5,i6,i7,hv_11,hun,hun'])
        exact ⟨(by simp (maxSteps:=1000000)(disch:=(first|omega|(simp only [qI,qJ,qK]<;>omega)|exact qL _)) only [go_sem,↓reduceIte,n0,reduceCtorEq,n1,n2,n3,n4,n5,i0,i1,i2,i3,i4,i5,i6,i7,Holds_nil,Holds_cons]),.slice (some ⟨w11.heap.size,0,none⟩) N0 q,(by simp (maxSteps:=1000000)(disch:=(first|omega|(simp only [qI,qJ,qK]<;>omega)|exact qL _)) only [go_sem,↓reduceIte,n0,reduceCtorEq,n1,n2,n3,n4,n5,i0,i1,i2,i3,i4,i5,i6,i7]),LstI.start (RowJ.start (by omega) hq1 (by show w11.heap.size ≤ w11.drew.heap.size;rw [size_drew];omega) (blk_alloc_new rfl)) ⟨hq11.1.upd hEw (fun h => h) (fun _ _ _ h => h),hq11.2.upd hEw fun h => h⟩ (hEw.mono fun _ h => h.elim),fun h0 => by omega⟩
      · repeat ((first | refine qA rfl ?_|refine qB ?_|refine qC rfl ?_|refine qD ?_|refine qE ?_|refine qF ?_|refine qG ?_|refine qH ?_);try simp (maxSteps:=1000000)(disch:=(first|omega|(simp only [qI,qJ,qK]<;>omega)|exact qL _)) only [go_sem,↓reduceIte,n0,reduceCtorEq,n1,n2,n3,n4,n5,i0,i1,i2,i3,i4,i5,i6,i7,hv_11,hun,hun'])
        exact ⟨(by simp (maxSteps:=1000000)(disch:=(first|omega|(simp only [qI,qJ,qK]<;>omega)|exact qL _)) only [go_sem,↓reduceIte,n0,reduceCtorEq,n1,n2,n3,n4,n5,i0,i1,i2,i3,i4,i5,i6,i7,Holds_nil,Holds_cons]),.slice none 0 0,(by simp (maxSteps:=1000000)(disch:=(first|omega|(simp only [qI,qJ,qK]<;>omega)|exact qL _)) only [go_sem,↓reduceIte,n0,reduceCtorEq,n1,n2,n3,n4,n5,i0,i1,i2,i3,i4,i5,i6,i7,slBase_00]),LstI.start (RowJ.zero (by omega) (fun _ h => by cases h)) hq11 (Upd.refl _ _),fun _ => by rw [nilS_plain (by decide) (by omega)];exact rfl⟩
    rintro ρ w12 ⟨⟨hrb0_2,hrb0_7,hrb0_8,hrb0_9,hrb0_10,hrb0_17,-⟩,va0,hra0,hL0,hnc0⟩
    repeat ((first | refine qA rfl ?_|refine qB ?_|refine qC rfl ?_|refine qD ?_|refine qE ?_|refine qF ?_|refine qG ?_|refine qH ?_);try simp (maxSteps:=1000000)(disch:=(first|omega|(simp only [qI,qJ,qK]<;>omega)|exact qL _)) only [go_sem,↓reduceIte,n0,reduceCtorEq,n1,n2,n3,n4,n5,i0,i1,i2,i3,i4,i5,i6,i7,hv_11,hrb0_2,hrb0_7,hrb0_8,hrb0_9,hrb0_10,hrb0_17,hra0,exitRQ_ret,exitRQ_exit,Int.toNat_natCast,Nat.mul_one,hun,hun'])
    refine W.exitRJ 0 (EndQ [(2,.bool un),(7,.pointer (some ⟨rb,0,none⟩)),(8,.int .i16 ver),(9,.bool true),(10,.pointer (some ⟨vb,0,none⟩)),(17,.int .i32 y0),(16,va0)] (fun w' => ∃ s xs css,LstI RT (rd1 (rdP (d + 1) ver true) fUpdateRaftVoterRequest_4.of fUpdateRaftVoterRequest_4.sub false true) (Rep1 (RepS true (d + 1)) fUpdateRaftVoterRequest_4.of fUpdateRaftVoterRequest_4.sub) 4 68 [.string ByteArray.empty,.string ByteArray.empty,.int .u16 0,.map none] w11.heap.size N0 ok (fun b => ok b ∨ w1.heap.size ≤ b) rb w11 s5 va0 N0 s xs css w')) (W.loop (LoopQ [(2,.bool un),(7,.pointer (some ⟨rb,0,none⟩)),(8,.int .i16 ver),(9,.bool true),(10,.pointer (some ⟨vb,0,none⟩)),(17,.int .i32 y0),(16,va0)] 18 (fun j w' => ∃ s xs css,LstI RT (rd1 (rdP (d + 1) ver true) fUpdateRaftVoterRequest_4.of fUpdateRaftVoterRequest_4.sub false true) (Rep1 (RepS true (d + 1)) fUpdateRaftVoterRequest_4.of fUpdateRaftVoterRequest_4.sub) 4 68 [.string ByteArray.empty,.string ByteArray.empty,.int .u16 0,.map none] w11.heap.size N0 ok (fun b => ok b ∨ w1.heap.size ≤ b) rb w11 s5 va0 j s xs css w')) (fun ρ _ => N0 - (RowKit.intOf (ρ 18)).toNat) ?_ ?_) ?_
    · exact ⟨(by simp (maxSteps:=1000000)(disch:=(first|omega|(simp only [qI,qJ,qK]<;>omega)|exact qL _)) only [go_sem,↓reduceIte,n0,reduceCtorEq,n1,n2,n3,n4,n5,i0,i1,i2,i3,i4,i5,i6,i7,Holds_nil,Holds_cons,hrb0_2,hrb0_7,hrb0_8,hrb0_9,hrb0_10,hrb0_17,hra0]),0,(by simp (maxSteps:=1000000)(disch:=(first|omega|(simp only [qI,qJ,qK]<;>omega)|exact qL _)) only [go_sem,↓reduceIte,n0,reduceCtorEq,n1,n2,n3,n4,n5,i0,i1,i2,i3,i4,i5,i6,i7,hrb0_2,hrb0_7,hrb0_8,hrb0_9,hrb0_10,hrb0_17,hra0];all_goals rfl),s5,[],[],hL0⟩
    · rintro ρ w13 ⟨⟨hrc0_2,hrc0_7,hrc0_8,hrc0_9,hrc0_10,hrc0_17,hrc0_16,-⟩,j1,hri0,s6,xs0,css0,hL0⟩
      have hj0 := hL0.le
      have hq13 := hL0.rd
      have hU13 : Upd (fun b => b = vb ∨ b = rb) w1 w13 := hU11.trans' hL0.upd fun i _ h => .inr h
      have hz13 := hL0.upd.size
      have hG13 : Glo ev w13 := hG1.updS hU13 hgM1 hgM2
      by_cases hlt0 : j1 < N0
      · obtain ⟨R1,q1,B1,hva1,hNq1,hLR1,hA1,hx1_13,hnext1⟩ := hL0.row.next hlt0
        have hRl1 := blk_lt hx1_13
        generalize css0.flatten = A1 at hA1 hx1_13 hnext1
        replace hra0 : ρ 16 = .slice (some ⟨R1,0,none⟩) N0 q1 := hrc0_16.trans hva1
        have hown1 : ∀ b,ownB va0 b → w11.heap.size ≤ b ∧ b < w13.heap.size := fun b h => hL0.row.own h
        have hoM1 : ∀ b,(fun b => (ok b ∨ w1.heap.size ≤ b) ∧ ¬ ownB va0 b) b → ¬ (b = R1 ∨ b = rb) := fun b hk h => h.elim (fun e => hk.2 ⟨_,_,_,hva1,e⟩) (fun e => hoM b hk.1 (.inr e))
        obtain ⟨X13,hX13⟩ : ∃ X : Array Value,X = (A1 ++ (([.string ByteArray.empty,.string ByteArray.empty,.int .u16 0,.map none] : List Value) ++ B1)).toArray := ⟨_,rfl⟩
        have hxb13 : blk w13 R1 = some (X13,68,(0,0)) := by rw [hX13];exact hx1_13
        have hXs13 : j1 * 4 + 4 ≤ X13.size := by rw [hX13];simp only [List.size_toArray,List.length_append,List.length_cons,List.length_nil,hA1];omega
        repeat ((first | refine qA rfl ?_|refine qB ?_|refine qC rfl ?_|refine qD ?_|refine qE ?_|refine qF ?_|refine qG ?_|refine qH ?_);try simp (maxSteps:=1000000)(disch:=(first|omega|(simp only [qI,qJ,qK]<;>omega)|exact qL _)) only [go_sem,↓reduceIte,n0,reduceCtorEq,n1,n2,n3,n4,n5,i0,i1,i2,i3,i4,i5,i6,i7,hxb13,hrc0_2,hrc0_7,hrc0_8,hrc0_9,hrc0_10,hrc0_17,hra0,hri0,exitRQ_ret,exitRQ_exit,Int.toNat_natCast,Nat.mul_one,hun,hun'])
        refine (DefaultEX1_fn w13 hx1_13 hA1).mono ?_
        rintro _ w14 ⟨hx1_14,hu14⟩
        have hq14 := And.intro (hq13.1.upd hu14 (by omega) (fun b _ hk e => by have := (hok b hk).1;omega)) (hq13.2.upd hu14 (by omega))
        have hV14 : Upd (fun b => b = R1 ∨ b = rb) w13 w14 := hu14.mono (fun _ h => .inl h)
        have hU14 : Upd (fun b => b = vb ∨ b = rb) w1 w14 := hU13.trans' hV14 fun i hi h => h.elim (fun h => by omega) .inr
        have hz14 := hV14.size
        have hG14 : Glo ev w14 := hG1.updS hU14 hgM1 hgM2
        obtain ⟨X14,hX14⟩ : ∃ X : Array Value,X = (A1 ++ (([.string ByteArray.empty,.string ByteArray.empty,.int .u16 0,.map none] : List Value) ++ B1)).toArray := ⟨_,rfl⟩
        have hxb14 : blk w14 R1 = some (X14,68,(0,0)) := by rw [hX14];exact hx1_14
        have hXs14 : j1 * 4 + 4 ≤ X14.size := by rw [hX14];simp only [List.size_toArray,List.length_append,List.length_cons,List.length_nil,hA1];omega
        have hbe0_0 : (rdL (rdP d ver true) (dfP d) ver true [fX1_0,fX1_1,fX1_2] s6).2 = none → FB := fun h => hlb0 (hL0.bad hlt0 rd1P_none (by show (rd1 (rdP (d + 1) ver true) 10 fs_X1 false true s6).2 = none;rw [rd1_part];exact rdP_bad h))
        have hhe0_0 : hasS fX1_0 ver = true := hasS_t (by show (0 : Int) ≤ ver;omega) (by show (-1 : Int) < 0 ∨ ver ≤ (-1 : Int);omega)
        obtain ⟨xe0_0,hxe0_0⟩ : ∃ x,x = (rdF (rdP d ver true) ver true fX1_0 s6).1 := ⟨_,rfl⟩
        repeat ((first | refine qA rfl ?_|refine qB ?_|refine qC rfl ?_|refine qD ?_|refine qE ?_|refine qF ?_|refine qG ?_|refine qH ?_);try simp (maxSteps:=1000000)(disch:=(first|omega|(simp only [qI,qJ,qK]<;>omega)|exact qL _)) only [go_sem,↓reduceIte,n0,reduceCtorEq,n1,n2,n3,n4,n5,i0,i1,i2,i3,i4,i5,i6,i7,hxb14,hrc0_2,hrc0_7,hrc0_8,hrc0_9,hrc0_10,hrc0_17,hra0,hri0,exitRQ_ret,exitRQ_exit,Int.toNat_natCast,Nat.mul_one,hun,hun'])
        have hmay : mayS fX1_0 ver = false := mayS_no (by show (-1 : Int) < 0 ∨ ver < (-1 : Int);omega)
        have hrd : rdF (rdP d ver true) ver true fX1_0 s6 = _ := rdF_text rfl hmay
        first | refine (RUnsafeCompactString_fn w14 hq14.1 hrok hG14.1 hgrb).mono ?_ | refine (RCompactString_fn w14 hq14.1 hrok hG14.1 hgrb).mono ?_
        rintro _ w15 ⟨rfl,hq15,hu15⟩
        have hx1_15 := hu15.blk_some hx1_14 (by omega)
        have hV15 : Upd (fun b => b = R1 ∨ b = rb) w14 w15 := hu15.mono (fun _ h => .inr h)
        have hU15 : Upd (fun b => b = vb ∨ b = rb) w1 w15 := hU14.trans' hV15 fun i hi h => h.elim (fun h => by omega) .inr
        have hz15 := hV15.size
        have hG15 : Glo ev w15 := hG1.updS hU15 hgM1 hgM2
        obtain ⟨X15,hX15⟩ : ∃ X : Array Value,X = (A1 ++ (([.string ByteArray.empty,.string ByteArray.empty,.int .u16 0,.map none] : List Value) ++ B1)).toArray := ⟨_,rfl⟩
        have hxb15 : blk w15 R1 = some (X15,68,(0,0)) := by rw [hX15];exact hx1_15
        have hXs15 : j1 * 4 + 4 ≤ X15.size := by rw [hX15];simp only [List.size_toArray,List.length_append,List.length_cons,List.length_nil,hA1];omega
        have hst : (rdF (rdP d ver true) ver true fX1_0 s6).2 = (rdStr true s6).2 := by first | (rw [hrd];rfl) | rw [hrd]
        obtain ⟨s7,hs7⟩ : ∃ s,s = (rdF (rdP d ver true) ver true fX1_0 s6).2 := ⟨_,rfl⟩
        rw [← hst,← hs7] at hq15
        clear hst
        have hst15_0 : j1 * 4 + 1 ≤ X15.size := by omega
        repeat ((first | refine qA rfl ?_|refine qB ?_|refine qC rfl ?_|refine qD ?_|refine qE ?_|refine qF ?_|refine qG ?_|refine qH ?_);try simp (maxSteps:=1000000)(disch:=(first|omega|(simp only [qI,qJ,qK]<;>omega)|exact qL _)) only [go_sem,↓reduceIte,n0,reduceCtorEq,n1,n2,n3,n4,n5,i0,i1,i2,i3,i4,i5,i6,i7,hxb15,hrc0_2,hrc0_7,hrc0_8,hrc0_9,hrc0_10,hrc0_17,hra0,hri0,exitRQ_ret,exitRQ_exit,Int.toNat_natCast,Nat.mul_one,hun,hun',hst15_0])
        generalize hw16 : wr w15 R1 (j1 * 4) [strV (rdStr true s6).1] = w16
        have hS16 : Upd (fun b => b = R1 ∨ b = rb) w15 w16 := by rw [← hw16];exact (Upd.refl _ _).wr _ _ (.inr (.inl rfl))
        have hx1_16 : blk w16 R1 = some ((A1 ++ (([strV (rdStr true s6).1,.string ByteArray.empty,.int .u16 0,.map none] : List Value) ++ B1)).toArray,68,(0,0)) := by rw [← hw16];exact el_blk0 hx1_15 hA1 (Nat.le_of_ble_eq_true rfl)
        have hV16 := hS16
        have hU16 : Upd (fun b => b = vb ∨ b = rb) w1 w16 := hU15.trans' hV16 fun i hi h => h.elim (fun h => by omega) .inr
        have hz16 := hV16.size
        have hG16 : Glo ev w16 := hG1.updS hU16 hgM1 hgM2
        have hq16 : Rdr RT ok w16 rb s7 ∧ NN w16 rb s7 := by
          have hn : ∀ x,x = w16 → (Rdr RT ok x rb s7 ∧ NN x rb s7) := fun x hx => by
            rw [hx,← hw16]
            exact Rdr.store hq15 (by omega) (fun h => by have := (hok _ h).1;first | omega | exact (hok _ h).2 rfl)
          exact hn _ rfl
        obtain ⟨X16,hX16⟩ : ∃ X : Array Value,X = (A1 ++ (([strV (rdStr true s6).1,.string ByteArray.empty,.int .u16 0,.map none] : List Value) ++ B1)).toArray := ⟨_,rfl⟩
        have hxb16 : blk w16 R1 = some (X16,68,(0,0)) := by rw [hX16];exact hx1_16
        have hXs16 : j1 * 4 + 4 ≤ X16.size := by rw [hX16];simp only [List.size_toArray,List.length_append,List.length_cons,List.length_nil,hA1];omega
        clear hw16
        have hfe0_0 : RepF (RepS true d) (szS true d) fX1_0 (fun b => (ok b ∨ w1.heap.size ≤ b) ∧ ¬ ownB va0 b) w16 (xe0_0) [strV (rdStr true s6).1] := (RepF_text rfl (by decide)).2 (by rw [hxe0_0,hrd];rfl)
        clear hrd
        have hbe0_1 : (rdL (rdP d ver true) (dfP d) ver true [fX1_1,fX1_2] s7).2 = none → FB := fun h => hbe0_0 (by rw [rdL_st (by decide) hhe0_0,← hs7];exact h)
        have hhe0_1 : hasS fX1_1 ver = true := hasS_t (by show (0 : Int) ≤ ver;omega) (by show (-1 : Int) < 0 ∨ ver ≤ (-1 : Int);omega)
        obtain ⟨xe0_1,hxe0_1⟩ : ∃ x,x = (rdF (rdP d ver true) ver true fX1_1 s7).1 := ⟨_,rfl⟩
        repeat ((first | refine qA rfl ?_|refine qB ?_|refine qC rfl ?_|refine qD ?_|refine qE ?_|refine qF ?_|refine qG ?_|refine qH ?_);try simp (maxSteps:=1000000)(disch:=(first|omega|(simp only [qI,qJ,qK]<;>omega)|exact qL _)) only [go_sem,↓reduceIte,n0,reduceCtorEq,n1,n2,n3,n4,n5,i0,i1,i2,i3,i4,i5,i6,i7,hxb16,hrc0_2,hrc0_7,hrc0_8,hrc0_9,hrc0_10,hrc0_17,hra0,hri0,exitRQ_ret,exitRQ_exit,Int.toNat_natCast,Nat.mul_one,hun,hun'])
        have hmay : mayS fX1_1 ver = false := mayS_no (by show (-1 : Int) < 0 ∨ ver < (-1 : Int);omega)
        have hrd : rdF (rdP d ver true) ver true fX1_1 s7 = _ := rdF_text rfl hmay
        first | refine (RUnsafeCompactString_fn w16 hq16.1 hrok hG16.1 hgrb).mono ?_ | refine (RCompactString_fn w16 hq16.1 hrok hG16.1 hgrb).mono ?_
        rintro _ w17 ⟨rfl,hq17,hu17⟩
        have hx1_17 := hu17.blk_some hx1_16 (by omega)
        have hV17 : Upd (fun b => b = R1 ∨ b = rb) w16 w17 := hu17.mono (fun _ h => .inr h)
        have hU17 : Upd (fun b => b = vb ∨ b = rb) w1 w17 := hU16.trans' hV17 fun i hi h => h.elim (fun h => by omega) .inr
        have hz17 := hV17.size
        have hG17 : Glo ev w17 := hG1.updS hU17 hgM1 hgM2
        obtain ⟨X17,hX17⟩ : ∃ X : Array Value,X = (A1 ++ (([strV (rdStr true s6).1,.string ByteArray.empty,.int .u16 0,.map none] : List Value) ++ B1)).toArray := ⟨_,rfl⟩
        have hxb17 : blk w17 R1 = some (X17,68,(0,0)) := by rw [hX17];exact hx1_17
        have hXs17 : j1 * 4 + 4 ≤ X17.size := by rw [hX17];simp only [List.size_toArray,List.length_append,List.length_cons,List.length_nil,hA1];omega
        have hst : (rdF (rdP d ver true) ver true fX1_1 s7).2 = (rdStr true s7).2 := by first | (rw [hrd];rfl) | rw [hrd]
        obtain ⟨s8,hs8⟩ : ∃ s,s = (rdF (rdP d ver true) ver true fX1_1 s7).2 := ⟨_,rfl⟩
        rw [← hst,← hs8] at hq17
        clear hst
        have hst17_1 : j1 * 4 + 2 ≤ X17.size := by omega
        repeat ((first | refine qA rfl ?_|refine qB ?_|refine qC rfl ?_|refine qD ?_|refine qE ?_|refine qF ?_|refine qG ?_|refine qH ?_);try simp (maxSteps:=1000000)(disch:=(first|omega|(simp only [qI,qJ,qK]<;>omega)|exact qL _)) only [go_sem,↓reduceIte,n0,reduceCtorEq,n1,n2,n3,n4,n5,i0,i1,i2,i3,i4,i5,i6,i7,hxb17,hrc0_2,hrc0_7,hrc0_8,hrc0_9,hrc0_10,hrc0_17,hra0,hri0,exitRQ_ret,exitRQ_exit,Int.toNat_natCast,Nat.mul_one,hun,hun',hst17_1])
        generalize hw18 : wr w17 R1 (j1 * 4 + 1) [strV (rdStr true s7).1] = w18
        have hS18 : Upd (fun b => b = R1 ∨ b = rb) w17 w18 := by rw [← hw18];exact (Upd.refl _ _).wr _ _ (.inr (.inl rfl))
        have hx1_18 : blk w18 R1 = some ((A1 ++ (([strV (rdStr true s6).1,strV (rdStr true s7).1,.int .u16 0,.map none] : List Value) ++ B1)).toArray,68,(0,0)) := by rw [← hw18];exact el_blk (o := 1) hx1_17 hA1 (Nat.le_of_ble_eq_true rfl)
        have hV18 := hS18
        have hU18 : Upd (fun b => b = vb ∨ b = rb) w1 w18 := hU17.trans' hV18 fun i hi h => h.elim (fun h => by omega) .inr
        have hz18 := hV18.size
        have hG18 : Glo ev w18 := hG1.updS hU18 hgM1 hgM2
        have hq18 : Rdr RT ok w18 rb s8 ∧ NN w18 rb s8 := by
          have hn : ∀ x,x = w18 → (Rdr RT ok x rb s8 ∧ NN x rb s8) := fun x hx => by
            rw [hx,← hw18]
            exact Rdr.store hq17 (by omega) (fun h => by have := (hok _ h).1;first | omega | exact (hok _ h).2 rfl)
          exact hn _ rfl
        obtain ⟨X18,hX18⟩ : ∃ X : Array Value,X = (A1 ++ (([strV (rdStr true s6).1,strV (rdStr true s7).1,.int .u16 0,.map none] : List Value) ++ B1)).toArray := ⟨_,rfl⟩
        have hxb18 : blk w18 R1 = some (X18,68,(0,0)) := by rw [hX18];exact hx1_18
        have hXs18 : j1 * 4 + 4 ≤ X18.size := by rw [hX18];simp only [List.size_toArray,List.length_append,List.length_cons,List.length_nil,hA1];omega
        clear hw18
        have hfe0_1 : RepF (RepS true d) (szS true d) fX1_1 (fun b => (ok b ∨ w1.heap.size ≤ b) ∧ ¬ ownB va0 b) w18 (xe0_1) [strV (rdStr true s7).1] := (RepF_text rfl (by decide)).2 (by rw [hxe0_1,hrd];rfl)
        clear hrd
        have hbe0_2 : (rdL (rdP d ver true) (dfP d) ver true [fX1_2] s8).2 = none → FB := fun h => hbe0_1 (by rw [rdL_st (by decide) hhe0_1,← hs8];exact h)
        have hhe0_2 : hasS fX1_2 ver = true := hasS_t (by show (0 : Int) ≤ ver;omega) (by show (-1 : Int) < 0 ∨ ver ≤ (-1 : Int);omega)
        obtain ⟨xe0_2,hxe0_2⟩ : ∃ x,x = (rdF (rdP d ver true) ver true fX1_2 s8).1 := ⟨_,rfl⟩
        repeat ((first | refine qA rfl ?_|refine qB ?_|refine qC rfl ?_|refine qD ?_|refine qE ?_|refine qF ?_|refine qG ?_|refine qH ?_);try simp (maxSteps:=1000000)(disch:=(first|omega|(simp only [qI,qJ,qK]<;>omega)|exact qL _)) only [go_sem,↓reduceIte,n0,reduceCtorEq,n1,n2,n3,n4,n5,i0,i1,i2,i3,i4,i5,i6,i7,hxb18,hrc0_2,hrc0_7,hrc0_8,hrc0_9,hrc0_10,hrc0_17,hra0,hri0,exitRQ_ret,exitRQ_exit,Int.toNat_natCast,Nat.mul_one,hun,hun'])
        have hrd : rdF (rdP d ver true) ver true fX1_2 s8 = _ := rdF_num 5 rfl (by decide)
        refine (Uint16_fn w18 hq18.1 hrok hG18.1 hgrb).mono ?_
        rintro _ w19 ⟨rfl,hq19,hu19⟩
        have hx1_19 := hu19.blk_some hx1_18 (by omega)
        have hV19 : Upd (fun b => b = R1 ∨ b = rb) w18 w19 := hu19.mono (fun _ h => .inr h)
        have hU19 : Upd (fun b => b = vb ∨ b = rb) w1 w19 := hU18.trans' hV19 fun i hi h => h.elim (fun h => by omega) .inr
        have hz19 := hV19.size
        have hG19 : Glo ev w19 := hG1.updS hU19 hgM1 hgM2
        obtain ⟨X19,hX19⟩ : ∃ X : Array Value,X = (A1 ++ (([strV (rdStr true s6).1,strV (rdStr true s7).1,.int .u16 0,.map none] : List Value) ++ B1)).toArray := ⟨_,rfl⟩
        have hxb19 : blk w19 R1 = some (X19,68,(0,0)) := by rw [hX19];exact hx1_19
        have hXs19 : j1 * 4 + 4 ≤ X19.size := by rw [hX19];simp only [List.size_toArray,List.length_append,List.length_cons,List.length_nil,hA1];omega
        have hst : (rdF (rdP d ver true) ver true fX1_2 s8).2 = (rdInt .u16 2 s8).2 := by first | (rw [hrd];rfl) | rw [hrd]
        obtain ⟨s9,hs9⟩ : ∃ s,s = (rdF (rdP d ver true) ver true fX1_2 s8).2 := ⟨_,rfl⟩
        rw [← hst,← hs9] at hq19
        clear hst
        have hst19_2 : j1 * 4 + 3 ≤ X19.size := by omega
        repeat ((first | refine qA rfl ?_|refine qB ?_|refine qC rfl ?_|refine qD ?_|refine qE ?_|refine qF ?_|refine qG ?_|refine qH ?_);try simp (maxSteps:=1000000)(disch:=(first|omega|(simp only [qI,qJ,qK]<;>omega)|exact qL _)) only [go_sem,↓reduceIte,n0,reduceCtorEq,n1,n2,n3,n4,n5,i0,i1,i2,i3,i4,i5,i6,i7,hxb19,hrc0_2,hrc0_7,hrc0_8,hrc0_9,hrc0_10,hrc0_17,hra0,hri0,exitRQ_ret,exitRQ_exit,Int.toNat_natCast,Nat.mul_one,hun,hun',hst19_2])
        generalize hw20 : wr w19 R1 (j1 * 4 + 2) [.int .u16 (rdInt .u16 2 s8).1] = w20
        have hS20 : Upd (fun b => b = R1 ∨ b = rb) w19 w20 := by rw [← hw20];exact (Upd.refl _ _).wr _ _ (.inr (.inl rfl))
        have hx1_20 : blk w20 R1 = some ((A1 ++ (([strV (rdStr true s6).1,strV (rdStr true s7).1,.int .u16 (rdInt .u16 2 s8).1,.map none] : List Value) ++ B1)).toArray,68,(0,0)) := by rw [← hw20];exact el_blk (o := 2) hx1_19 hA1 (Nat.le_of_ble_eq_true rfl)
        have hV20 := hS20
        have hU20 : Upd (fun b => b = vb ∨ b = rb) w1 w20 := hU19.trans' hV20 fun i hi h => h.elim (fun h => by omega) .inr
        have hz20 := hV20.size
        have hG20 : Glo ev w20 := hG1.updS hU20 hgM1 hgM2
        have hq20 : Rdr RT ok w20 rb s9 ∧ NN w20 rb s9 := by
          have hn : ∀ x,x = w20 → (Rdr RT ok x rb s9 ∧ NN x rb s9) := fun x hx => by
            rw [hx,← hw20]
            exact Rdr.store hq19 (by omega) (fun h => by have := (hok _ h).1;first | omega | exact (hok _ h).2 rfl)
          exact hn _ rfl
        obtain ⟨X20,hX20⟩ : ∃ X : Array Value,X = (A1 ++ (([strV (rdStr true s6).1,strV (rdStr true s7).1,.int .u16 (rdInt .u16 2 s8).1,.map none] : List Value) ++ B1)).toArray := ⟨_,rfl⟩
        have hxb20 : blk w20 R1 = some (X20,68,(0,0)) := by rw [hX20];exact hx1_20
        have hXs20 : j1 * 4 + 4 ≤ X20.size := by rw [hX20];simp only [List.size_toArray,List.length_append,List.length_cons,List.length_nil,hA1];omega
        clear hw20
        have hfe0_2 : RepF (RepS true d) (szS true d) fX1_2 (fun b => (ok b ∨ w1.heap.size ≤ b) ∧ ¬ ownB va0 b) w20 (xe0_2) [.int .u16 (rdInt .u16 2 s8).1] := (RepF_num (by decide)).2 (by rw [hxe0_2,hrd];exact congrArg (fun x => [x]) (numC_rd 5 (by decide) 2 s8).symm)
        clear hrd
        have hle0_3 : rdL (rdP d ver true) (dfP d) ver true [] s9 = ([],s9) := rfl
        have hle0_2 : rdL (rdP d ver true) (dfP d) ver true [fX1_2] s8 = ([xe0_2],s9) := by rw [rdL_st (by decide) hhe0_2,← hxe0_2,← hs9,hle0_3]
        have hle0_1 : rdL (rdP d ver true) (dfP d) ver true [fX1_1,fX1_2] s7 = ([xe0_1,xe0_2],s9) := by rw [rdL_st (by decide) hhe0_1,← hxe0_1,← hs8,hle0_2]
        have hle0_0 : rdL (rdP d ver true) (dfP d) ver true [fX1_0,fX1_1,fX1_2] s6 = ([xe0_0,xe0_1,xe0_2],s9) := by rw [rdL_st (by decide) hhe0_0,← hxe0_0,← hs7,hle0_1]
        have hfine0 : rdP (d + 1) ver true fs_X1 s6 = (.mk 0 [] false [xe0_0,xe0_1,xe0_2] (rdTags s9).1,(rdTags s9).2) := rdP_t hle0_0
        repeat ((first | refine qA rfl ?_|refine qB ?_|refine qC rfl ?_|refine qD ?_|refine qE ?_|refine qF ?_|refine qG ?_|refine qH ?_);try simp (maxSteps:=1000000)(disch:=(first|omega|(simp only [qI,qJ,qK]<;>omega)|exact qL _)) only [go_sem,↓reduceIte,n0,reduceCtorEq,n1,n2,n3,n4,n5,i0,i1,i2,i3,i4,i5,i6,i7,hxb20,hrc0_2,hrc0_7,hrc0_8,hrc0_9,hrc0_10,hrc0_17,hra0,hri0,exitRQ_ret,exitRQ_exit,Int.toNat_natCast,Nat.mul_one,hun,hun'])
        refine (ReadTags_fn w20 hq20.1 hrok).mono ?_
        rintro _ w21 ⟨qme0,rfl,hT21,hTn,hq21,hu21⟩
        have hx1_21 := hu21.blk_some hx1_20 (by omega)
        have hV21 : Upd (fun b => b = R1 ∨ b = rb) w20 w21 := hu21.mono (fun _ h => .inr h)
        have hU21 : Upd (fun b => b = vb ∨ b = rb) w1 w21 := hU20.trans' hV21 fun i hi h => h.elim (fun h => by omega) .inr
        have hz21 := hV21.size
        have hG21 : Glo ev w21 := hG1.updS hU21 hgM1 hgM2
        obtain ⟨X21,hX21⟩ : ∃ X : Array Value,X = (A1 ++ (([strV (rdStr true s6).1,strV (rdStr true s7).1,.int .u16 (rdInt .u16 2 s8).1,.map none] : List Value) ++ B1)).toArray := ⟨_,rfl⟩
        have hxb21 : blk w21 R1 = some (X21,68,(0,0)) := by rw [hX21];exact hx1_21
        have hXs21 : j1 * 4 + 4 ≤ X21.size := by rw [hX21];simp only [List.size_toArray,List.length_append,List.length_cons,List.length_nil,hA1];omega
        obtain ⟨s10,hs10⟩ : ∃ s,s = (rdTags s9).2 := ⟨_,rfl⟩
        rw [← hs10] at hq21 hfine0
        have hst21_3 : j1 * 4 + 4 ≤ X21.size := by omega
        try simp (maxSteps:=1000000)(disch:=(first|omega|(simp only [qI,qJ,qK]<;>omega)|exact qL _)) only [go_sem,↓reduceIte,n0,reduceCtorEq,n1,n2,n3,n4,n5,i0,i1,i2,i3,i4,i5,i6,i7,hxb21,hrc0_2,hrc0_7,hrc0_8,hrc0_9,hrc0_10,hrc0_17,hra0,hri0,exitRQ_ret,exitRQ_exit,Int.toNat_natCast,Nat.mul_one,hun,hun',hst21_3]
        repeat ((first | refine qA rfl ?_|refine qB ?_|refine qC rfl ?_|refine qD ?_|refine qE ?_|refine qF ?_|refine qG ?_|refine qH ?_);try simp (maxSteps:=1000000)(disch:=(first|omega|(simp only [qI,qJ,qK]<;>omega)|exact qL _)) only [go_sem,↓reduceIte,n0,reduceCtorEq,n1,n2,n3,n4,n5,i0,i1,i2,i3,i4,i5,i6,i7,hxb21,hrc0_2,hrc0_7,hrc0_8,hrc0_9,hrc0_10,hrc0_17,hra0,hri0,exitRQ_ret,exitRQ_exit,Int.toNat_natCast,Nat.mul_one,hun,hun',hst21_3])
        generalize hw22 : wr w21 R1 (j1 * 4 + 3) [.map qme0] = w22
        have hS22 : Upd (fun b => b = R1 ∨ b = rb) w21 w22 := by rw [← hw22];exact (Upd.refl _ _).wr _ _ (.inr (.inl rfl))
        have hx1_22 : blk w22 R1 = some ((A1 ++ (([strV (rdStr true s6).1,strV (rdStr true s7).1,.int .u16 (rdInt .u16 2 s8).1,.map qme0] : List Value) ++ B1)).toArray,68,(0,0)) := by rw [← hw22];exact el_blk (o := 3) hx1_21 hA1 (Nat.le_of_ble_eq_true rfl)
        have hV22 := hS22
        have hU22 : Upd (fun b => b = vb ∨ b = rb) w1 w22 := hU21.trans' hV22 fun i hi h => h.elim (fun h => by omega) .inr
        have hz22 := hV22.size
        have hG22 : Glo ev w22 := hG1.updS hU22 hgM1 hgM2
        have hq22 : Rdr RT ok w22 rb s10 ∧ NN w22 rb s10 := by
          have hn : ∀ x,x = w22 → (Rdr RT ok x rb s10 ∧ NN x rb s10) := fun x hx => by
            rw [hx,← hw22]
            exact Rdr.store hq21 (by omega) (fun h => by have := (hok _ h).1;first | omega | exact (hok _ h).2 rfl)
          exact hn _ rfl
        obtain ⟨X22,hX22⟩ : ∃ X : Array Value,X = (A1 ++ (([strV (rdStr true s6).1,strV (rdStr true s7).1,.int .u16 (rdInt .u16 2 s8).1,.map qme0] : List Value) ++ B1)).toArray := ⟨_,rfl⟩
        have hxb22 : blk w22 R1 = some (X22,68,(0,0)) := by rw [hX22];exact hx1_22
        have hXs22 : j1 * 4 + 4 ≤ X22.size := by rw [hX22];simp only [List.size_toArray,List.length_append,List.length_cons,List.length_nil,hA1];omega
        clear hw22
        have hTge0 : TagsM (fun b => (ok b ∨ w1.heap.size ≤ b) ∧ ¬ ownB va0 b) w22 (.map qme0) (rdTags s9).1 := (hT21.weaken fun b _ hk => hk.elim (fun hk => ⟨.inl hk,fun ho => by have := (hown1 b ho).1;have := (hok b hk).1;omega⟩) (fun h => by have h' : w20.heap.size ≤ b := h;exact ⟨.inr (by omega),fun ho => by have := (hown1 _ ho).2;omega⟩)).keep (hV22.keeps fun b _ hk e => hoM1 b hk e)
        have hCe0_22 : Upd (fun b => b = R1 ∨ b = rb) w22 w22 := Upd.refl _ _
        have hCe0_21 : Upd (fun b => b = R1 ∨ b = rb) w21 w22 := hV22.trans hCe0_22
        have hCe0_20 : Upd (fun b => b = R1 ∨ b = rb) w20 w22 := hV21.trans hCe0_21
        have hCe0_19 : Upd (fun b => b = R1 ∨ b = rb) w19 w22 := hV20.trans hCe0_20
        have hCe0_18 : Upd (fun b => b = R1 ∨ b = rb) w18 w22 := hV19.trans hCe0_19
        have hCe0_17 : Upd (fun b => b = R1 ∨ b = rb) w17 w22 := hV18.trans hCe0_18
        have hCe0_16 : Upd (fun b => b = R1 ∨ b = rb) w16 w22 := hV17.trans hCe0_17
        have hCe0_15 : Upd (fun b => b = R1 ∨ b = rb) w15 w22 := hV16.trans hCe0_16
        have hCe0_14 : Upd (fun b => b = R1 ∨ b = rb) w14 w22 := hV15.trans hCe0_15
        have hCe0_13 : Upd (fun b => b = R1 ∨ b = rb) w13 w22 := hV14.trans hCe0_14
        have hRe0 : RepS true (d + 1) fs_X1 (fun b => (ok b ∨ w1.heap.size ≤ b) ∧ ¬ ownB va0 b) w22 (.mk 0 [] false [xe0_0,xe0_1,xe0_2] (rdTags s9).1) [strV (rdStr true s6).1,strV (rdStr true s7).1,.int .u16 (rdInt .u16 2 s8).1,.map qme0] := RepS.introT (c := [strV (rdStr true s6).1,strV (rdStr true s7).1,.int .u16 (rdInt .u16 2 s8).1]) (RepL.cons1 (hfe0_0.keepS (hCe0_16.keeps fun b _ hk e => hoM1 b hk e)) (RepL.cons1 (hfe0_1.keepS (hCe0_18.keeps fun b _ hk e => hoM1 b hk e)) (RepL.cons1 (hfe0_2.keepS (hCe0_20.keeps fun b _ hk e => hoM1 b hk e)) RepL.nil))) hTge0
        have hrE : (rd1 (rdP (d + 1) ver true) fUpdateRaftVoterRequest_4.of fUpdateRaftVoterRequest_4.sub false true) s6 = ((.mk 0 [] false [xe0_0,xe0_1,xe0_2] (rdTags s9).1),s10) := by rw [show (rd1 (rdP (d + 1) ver true) fUpdateRaftVoterRequest_4.of fUpdateRaftVoterRequest_4.sub false true) s6 = _ from rd1_part];exact hfine0
        have hxE : (Rep1 (RepS true (d + 1)) fUpdateRaftVoterRequest_4.of fUpdateRaftVoterRequest_4.sub) (fun b => (ok b ∨ w1.heap.size ≤ b) ∧ ¬ ownB va0 b) w22 (.mk 0 [] false [xe0_0,xe0_1,xe0_2] (rdTags s9).1) [strV (rdStr true s6).1,strV (rdStr true s7).1,.int .u16 (rdInt .u16 2 s8).1,.map qme0] := Rep1_part.2 hRe0
        repeat ((first | refine qA rfl ?_|refine qB ?_|refine qC rfl ?_|refine qD ?_|refine qE ?_|refine qF ?_|refine qG ?_|refine qH ?_);try simp (maxSteps:=1000000)(disch:=(first|omega|(simp only [qI,qJ,qK]<;>omega)|exact qL _)) only [go_sem,↓reduceIte,n0,reduceCtorEq,n1,n2,n3,n4,n5,i0,i1,i2,i3,i4,i5,i6,i7,hxb22,hrc0_2,hrc0_7,hrc0_8,hrc0_9,hrc0_10,hrc0_17,hra0,hri0,exitRQ_ret,exitRQ_exit,Int.toNat_natCast,Nat.mul_one,hun,hun'])
        have hTk : Upd (fun b => b = R1 ∨ b = rb) w13 w22 := ((((((((hV14.trans hV15).trans hV16).trans hV17).trans hV18).trans hV19).trans hV20).trans hV21).trans hV22)
        have hL' := hL0.step (Rep1_lay _ _ fun _ => RepS_lay true _ _) hlt0 (hnext1 w22 [strV (rdStr true s6).1,strV (rdStr true s7).1,.int .u16 (rdInt .u16 2 s8).1,.map qme0] rfl hx1_22) (by rw [hrE];exact hxE) (hTk.mono fun b h => h.imp (fun e => ⟨_,_,_,hva1,e⟩) id) (by rw [hrE];exact hq22) (fun h => hoM rb h (.inr rfl)) (Nat.le_refl _)
        have hij : IntKind.i32.wrap ((j1 : Int) + 1) = ((j1 + 1 : Nat) : Int) := by rw [i32_wrap (by omega)];omega
        repeat ((first | refine qA rfl ?_|refine qB ?_|refine qC rfl ?_|refine qD ?_|refine qE ?_|refine qF ?_|refine qG ?_|refine qH ?_);try simp (maxSteps:=1000000)(disch:=(first|omega|(simp only [qI,qJ,qK]<;>omega)|exact qL _)) only [go_sem,↓reduceIte,n0,reduceCtorEq,n1,n2,n3,n4,n5,i0,i1,i2,i3,i4,i5,i6,i7,hxb22,hrc0_2,hrc0_7,hrc0_8,hrc0_9,hrc0_10,hrc0_17,hra0,hri0,exitRQ_ret,exitRQ_exit,Int.toNat_natCast,Nat.mul_one,hun,hun',hij])
        refine ⟨⟨(by simp (maxSteps:=1000000)(disch:=(first|omega|(simp only [qI,qJ,qK]<;>omega)|exact qL _)) only [go_sem,↓reduceIte,n0,reduceCtorEq,n1,n2,n3,n4,n5,i0,i1,i2,i3,i4,i5,i6,i7,Holds_nil,Holds_cons,hrc0_2,hrc0_7,hrc0_8,hrc0_9,hrc0_10,hrc0_17,hra0,hri0];exact hva1.symm),j1 + 1,(by simp (maxSteps:=1000000)(disch:=(first|omega|(simp only [qI,qJ,qK]<;>omega)|exact qL _)) only [go_sem,↓reduceIte,n0,reduceCtorEq,n1,n2,n3,n4,n5,i0,i1,i2,i3,i4,i5,i6,i7,hrc0_2,hrc0_7,hrc0_8,hrc0_9,hrc0_10,hrc0_17,hra0,hri0,hij];all_goals rfl),_,_,_,hL'⟩,?_⟩
        try simp (maxSteps:=1000000)(disch:=(first|omega|(simp only [qI,qJ,qK]<;>omega)|exact qL _)) only [go_sem,↓reduceIte,n0,reduceCtorEq,n1,n2,n3,n4,n5,i0,i1,i2,i3,i4,i5,i6,i7,hrc0_2,hrc0_7,hrc0_8,hrc0_9,hrc0_10,hrc0_17,hra0,hri0]
        simp only [RowKit.intOf]
        omega
      · have hjN : j1 = N0 := by omega
        rw [hjN] at hL0
        repeat ((first | refine qA rfl ?_|refine qB ?_|refine qC rfl ?_|refine qD ?_|refine qE ?_|refine qF ?_|refine qG ?_|refine qH ?_);try simp (maxSteps:=1000000)(disch:=(first|omega|(simp only [qI,qJ,qK]<;>omega)|exact qL _)) only [go_sem,↓reduceIte,n0,reduceCtorEq,n1,n2,n3,n4,n5,i0,i1,i2,i3,i4,i5,i6,i7,hrc0_2,hrc0_7,hrc0_8,hrc0_9,hrc0_10,hrc0_17,hrc0_16,hri0,exitRQ_ret,exitRQ_exit])
        exact ⟨(by simp (maxSteps:=1000000)(disch:=(first|omega|(simp only [qI,qJ,qK]<;>omega)|exact qL _)) only [go_sem,↓reduceIte,n0,reduceCtorEq,n1,n2,n3,n4,n5,i0,i1,i2,i3,i4,i5,i6,i7,Holds_nil,Holds_cons,hrc0_2,hrc0_7,hrc0_8,hrc0_9,hrc0_10,hrc0_17,hrc0_16,hri0]),s6,xs0,css0,hL0⟩
    rintro ρ w23 ⟨⟨hrd0_2,hrd0_7,hrd0_8,hrd0_9,hrd0_10,hrd0_17,hrd0_16,-⟩,s11,xs0,css0,hL0⟩
    have hq23 := hL0.rd
    have hu23 := hL0.upd
    have hv_23 := hu23.blk_some hv_11 (by omega)
    have hV23 : Upd (fun b => b = vb ∨ b = rb) w11 w23 := hu23.mono (fun _ h => .inr h)
    have hU23 : Upd (fun b => b = vb ∨ b = rb) w1 w23 := hU11.trans hV23
    have hz23 := hV23.size
    have hG23 : Glo ev w23 := hG1.updS hU23 hgM1 hgM2
    have hrd0 : rdF (rdP (d + 1) ver true) ver true fUpdateRaftVoterRequest_4 s4 = (.mk 0 [] (nilS fUpdateRaftVoterRequest_4 ver y0) xs0 [],s11) := by
      have h := rdF_listE (pt := (rdP (d + 1) ver true)) (v := ver) (flex := true) (f := fUpdateRaftVoterRequest_4) (s := s4) (xs := xs0) (e := s11) rfl (by rw [hy0,← hN0,← hs5];exact hL0.done)
      rw [hy0] at h;exact h
    have hs11 : s11 = (rdF (rdP (d + 1) ver true) ver true fUpdateRaftVoterRequest_4 s4).2 := by rw [hrd0]
    obtain ⟨aa0,qq0,hvs0⟩ := hL0.row.shape
    subst hvs0
    repeat ((first | refine qA rfl ?_|refine qB ?_|refine qC rfl ?_|refine qD ?_|refine qE ?_|refine qF ?_|refine qG ?_|refine qH ?_);try simp (maxSteps:=1000000)(disch:=(first|omega|(simp only [qI,qJ,qK]<;>omega)|exact qL _)) only [go_sem,↓reduceIte,n0,reduceCtorEq,n1,n2,n3,n4,n5,i0,i1,i2,i3,i4,i5,i6,i7,hv_23,hrd0_2,hrd0_7,hrd0_8,hrd0_9,hrd0_10,hrd0_17,hrd0_16,hun,hun'])
    generalize hw24 : wr w23 vb 20 [.slice aa0 N0 qq0] = w24
    have hS24 : Upd (fun b => b = vb ∨ b = rb) w23 w24 := by rw [← hw24];exact (Upd.refl _ _).wr _ _ (.inr (.inl rfl))
    have hv_24 : blk w24 vb = some (#[.int .i16 ver,.pointer ap2,.int .i32 (rdInt .i32 4 s1).1,.int .i32 (rdInt .i32 4 s2).1,u3_0,u3_1,u3_2,u3_3,u3_4,u3_5,u3_6,u3_7,u3_8,u3_9,u3_10,u3_11,u3_12,u3_13,u3_14,u3_15,.slice aa0 N0 qq0,.int .i16 0,.int .i16 0,.map none,.map none],61,(0,0)) := by rw [← hw24,blk_wr_eq,hv_23];rfl
    have hV24 := hS24
    have hU24 : Upd (fun b => b = vb ∨ b = rb) w1 w24 := hU23.trans hV24
    have hz24 := hV24.size
    have hG24 : Glo ev w24 := hG1.updS hU24 hgM1 hgM2
    have hq24 : Rdr RT ok w24 rb s11 ∧ NN w24 rb s11 := by
      have hn : ∀ x,x = w24 → (Rdr RT ok x rb s11 ∧ NN x rb s11) := fun x hx => by
        rw [hx,← hw24]
        exact Rdr.store hq23 (by omega) (fun h => by have := (hok _ h).1;first | omega | exact (hok _ h).2 rfl)
      exact hn _ rfl
    clear hw24
    have hf_4 : RepF (RepS true (d + 1)) (szS true (d + 1)) fUpdateRaftVoterRequest_4 (fun b => ok b ∨ w1.heap.size ≤ b) w24 (x_4) [.slice aa0 N0 qq0] := by rw [hx_4,hrd0];exact RepF.keepS (RepF_row rfl hnc0 hN0 rfl hL0.row hL0.all (fun b hb => .inr (by omega))) (hV24.keeps fun b _ hk e => (hoM b hk) e)
    clear hL0 hnc0
    have hb_5 : (rdL (rdP (d + 1) ver true) (dfP (d + 1)) ver true [fUpdateRaftVoterRequest_5] s11).2 = none → FB := fun h => hb_4 (by rw [rdL_st (by decide) hh_4,← hs11];exact h)
    have hh_5 : hasS fUpdateRaftVoterRequest_5 ver = true := hasS_t (by show (0 : Int) ≤ ver;omega) (by show (-1 : Int) < 0 ∨ ver ≤ (-1 : Int);omega)
    obtain ⟨x_5,hx_5⟩ : ∃ x,x = (rdF (rdP (d + 1) ver true) ver true fUpdateRaftVoterRequest_5 s11).1 := ⟨_,rfl⟩
    repeat ((first | refine qA rfl ?_|refine qB ?_|refine qC rfl ?_|refine qD ?_|refine qE ?_|refine qF ?_|refine qG ?_|refine qH ?_);try simp (maxSteps:=1000000)(disch:=(first|omega|(simp only [qI,qJ,qK]<;>omega)|exact qL _)) only [go_sem,↓reduceIte,n0,reduceCtorEq,n1,n2,n3,n4,n5,i0,i1,i2,i3,i4,i5,i6,i7,hv_24,hrd0_2,hrd0_7,hrd0_8,hrd0_9,hrd0_10,hrd0_17,hrd0_16,hun,hun'])
    refine (DefaultPX0_fn w24 hv_24).mono ?_
    rintro _ wz ⟨-,hez⟩
    rw [hez]
    clear hez wz
    have hbp5_0 : (rdL (rdP d ver true) (dfP d) ver true [fX0_0,fX0_1] s11).2 = none → FB := fun h => hb_5 (by rw [rdL_st (by decide) hh_5];exact rdL_bad (by rw [rdF_part rfl];exact rdP_bad h))
    have hhp5_0 : hasS fX0_0 ver = true := hasS_t (by show (0 : Int) ≤ ver;omega) (by show (-1 : Int) < 0 ∨ ver ≤ (-1 : Int);omega)
    obtain ⟨xp5_0,hxp5_0⟩ : ∃ x,x = (rdF (rdP d ver true) ver true fX0_0 s11).1 := ⟨_,rfl⟩
    repeat ((first | refine qA rfl ?_|refine qB ?_|refine qC rfl ?_|refine qD ?_|refine qE ?_|refine qF ?_|refine qG ?_|refine qH ?_);try simp (maxSteps:=1000000)(disch:=(first|omega|(simp only [qI,qJ,qK]<;>omega)|exact qL _)) only [go_sem,↓reduceIte,n0,reduceCtorEq,n1,n2,n3,n4,n5,i0,i1,i2,i3,i4,i5,i6,i7,hv_24,hrd0_2,hrd0_7,hrd0_8,hrd0_9,hrd0_10,hrd0_17,hrd0_16,hun,hun'])
    have hrd : rdF (rdP d ver true) ver true fX0_0 s11 = _ := rdF_num 2 rfl (by decide)
    refine (Int16_fn w24 hq24.1 hrok hG24.1 hgrb).mono ?_
    rintro _ w25 ⟨rfl,hq25,hu25⟩
    have hv_25 := hu25.blk_some hv_24 (by omega)
    have hV25 : Upd (fun b => b = vb ∨ b = rb) w24 w25 := hu25.mono (fun _ h => .inr h)
    have hU25 : Upd (fun b => b = vb ∨ b = rb) w1 w25 := hU24.trans hV25
    have hz25 := hV25.size
    have hG25 : Glo ev w25 := hG1.updS hU25 hgM1 hgM2
    have hst : (rdF (rdP d ver true) ver true fX0_0 s11).2 = (rdInt .i16 2 s11).2 := by first | (rw [hrd];rfl) | rw [hrd]
    obtain ⟨s12,hs12⟩ : ∃ s,s = (rdF (rdP d ver true) ver true fX0_0 s11).2 := ⟨_,rfl⟩
    rw [← hst,← hs12] at hq25
    clear hst
    repeat ((first | refine qA rfl ?_|refine qB ?_|refine qC rfl ?_|refine qD ?_|refine qE ?_|refine qF ?_|refine qG ?_|refine qH ?_);try simp (maxSteps:=1000000)(disch:=(first|omega|(simp only [qI,qJ,qK]<;>omega)|exact qL _)) only [go_sem,↓reduceIte,n0,reduceCtorEq,n1,n2,n3,n4,n5,i0,i1,i2,i3,i4,i5,i6,i7,hv_25,hrd0_2,hrd0_7,hrd0_8,hrd0_9,hrd0_10,hrd0_17,hrd0_16,hun,hun'])
    generalize hw26 : wr w25 vb 21 [.int .i16 (rdInt .i16 2 s11).1] = w26
    have hS26 : Upd (fun b => b = vb ∨ b = rb) w25 w26 := by rw [← hw26];exact (Upd.refl _ _).wr _ _ (.inr (.inl rfl))
    have hv_26 : blk w26 vb = some (#[.int .i16 ver,.pointer ap2,.int .i32 (rdInt .i32 4 s1).1,.int .i32 (rdInt .i32 4 s2).1,u3_0,u3_1,u3_2,u3_3,u3_4,u3_5,u3_6,u3_7,u3_8,u3_9,u3_10,u3_11,u3_12,u3_13,u3_14,u3_15,.slice aa0 N0 qq0,.int .i16 (rdInt .i16 2 s11).1,.int .i16 0,.map none,.map none],61,(0,0)) := by rw [← hw26,blk_wr_eq,hv_25];rfl
    have hV26 := hS26
    have hU26 : Upd (fun b => b = vb ∨ b = rb) w1 w26 := hU25.trans hV26
    have hz26 := hV26.size
    have hG26 : Glo ev w26 := hG1.updS hU26 hgM1 hgM2
    have hq26 : Rdr RT ok w26 rb s12 ∧ NN w26 rb s12 := by
      have hn : ∀ x,x = w26 → (Rdr RT ok x rb s12 ∧ NN x rb s12) := fun x hx => by
        rw [hx,← hw26]
        exact Rdr.store hq25 (by omega) (fun h => by have := (hok _ h).1;first | omega | exact (hok _ h).2 rfl)
      exact hn _ rfl
    clear hw26
    have hfp5_0 : RepF (RepS true d) (szS true d) fX0_0 (fun b => ok b ∨ w1.heap.size ≤ b) w26 (xp5_0) [.int .i16 (rdInt .i16 2 s11).1] := (RepF_num (by decide)).2 (by rw [hxp5_0,hrd];exact congrArg (fun x => [x]) (numC_rd 2 (by decide) 2 s11).symm)
    clear hrd
    have hbp5_1 : (rdL (rdP d ver true) (dfP d) ver true [fX0_1] s12).2 = none → FB := fun h => hbp5_0 (by rw [rdL_st (by decide) hhp5_0,← hs12];exact h)
    have hhp5_1 : hasS fX0_1 ver = true := hasS_t (by show (0 : Int) ≤ ver;omega) (by show (-1 : Int) < 0 ∨ ver ≤ (-1 : Int);omega)
    obtain ⟨xp5_1,hxp5_1⟩ : ∃ x,x = (rdF (rdP d ver true) ver true fX0_1 s12).1 := ⟨_,rfl⟩
    repeat ((first | refine qA rfl ?_|refine qB ?_|refine qC rfl ?_|refine qD ?_|refine qE ?_|refine qF ?_|refine qG ?_|refine qH ?_);try simp (maxSteps:=1000000)(disch:=(first|omega|(simp only [qI,qJ,qK]<;>omega)|exact qL _)) only [go_sem,↓reduceIte,n0,reduceCtorEq,n1,n2,n3,n4,n5,i0,i1,i2,i3,i4,i5,i6,i7,hv_26,hrd0_2,hrd0_7,hrd0_8,hrd0_9,hrd0_10,hrd0_17,hrd0_16,hun,hun'])
    have hrd : rdF (rdP d ver true) ver true fX0_1 s12 = _ := rdF_num 2 rfl (by decide)
    refine (Int16_fn w26 hq26.1 hrok hG26.1 hgrb).mono ?_
    rintro _ w27 ⟨rfl,hq27,hu27⟩
    have hv_27 := hu27.blk_some hv_26 (by omega)
    have hV27 : Upd (fun b => b = vb ∨ b = rb) w26 w27 := hu27.mono (fun _ h => .inr h)
    have hU27 : Upd (fun b => b = vb ∨ b = rb) w1 w27 := hU26.trans hV27
    have hz27 := hV27.size
    have hG27 : Glo ev w27 := hG1.updS hU27 hgM1 hgM2
    have hst : (rdF (rdP d ver true) ver true fX0_1 s12).2 = (rdInt .i16 2 s12).2 := by first | (rw [hrd];rfl) | rw [hrd]
    obtain ⟨s13,hs13⟩ : ∃ s,s = (rdF (rdP d ver true) ver true fX0_1 s12).2 := ⟨_,rfl⟩
    rw [← hst,← hs13] at hq27
    clear hst
    repeat ((first | refine qA rfl ?_|refine qB ?_|refine qC rfl ?_|refine qD ?_|refine qE ?_|refine qF ?_|refine qG ?_|refine qH ?_);try simp (maxSteps:=1000000)(disch:=(first|omega|(simp only [qI,qJ,qK]<;>omega)|exact qL _)) only [go_sem,↓reduceIte,n0,reduceCtorEq,n1,n2,n3,n4,n5,i0,i1,i2,i3,i4,i5,i6,i7,hv_27,hrd0_2,hrd0_7,hrd0_8,hrd0_9,hrd0_10,hrd0_17,hrd0_16,hun,hun'])
    generalize hw28 : wr w27 vb 22 [.int .i16 (rdInt .i16 2 s12).1] = w28
    have hS28 : Upd (fun b => b = vb ∨ b = rb) w27 w28 := by rw [← hw28];exact (Upd.refl _ _).wr _ _ (.inr (.inl rfl))
    have hv_28 : blk w28 vb = some (#[.int .i16 ver,.pointer ap2,.int .i32 (rdInt .i32 4 s1).1,.int .i32 (rdInt .i32 4 s2).1,u3_0,u3_1,u3_2,u3_3,u3_4,u3_5,u3_6,u3_7,u3_8,u3_9,u3_10,u3_11,u3_12,u3_13,u3_14,u3_15,.slice aa0 N0 qq0,.int .i16 (rdInt .i16 2 s11).1,.int .i16 (rdInt .i16 2 s12).1,.map none,.map none],61,(0,0)) := by rw [← hw28,blk_wr_eq,hv_27];rfl
    have hV28 := hS28
    have hU28 : Upd (fun b => b = vb ∨ b = rb) w1 w28 := hU27.trans hV28
    have hz28 := hV28.size
    have hG28 : Glo ev w28 := hG1.updS hU28 hgM1 hgM2
    have hq28 : Rdr RT ok w28 rb s13 ∧ NN w28 rb s13 := by
      have hn : ∀ x,x = w28 → (Rdr RT ok x rb s13 ∧ NN x rb s13) := fun x hx => by
        rw [hx,← hw28]
        exact Rdr.store hq27 (by omega) (fun h => by have := (hok _ h).1;first | omega | exact (hok _ h).2 rfl)
      exact hn _ rfl
    clear hw28
    have hfp5_1 : RepF (RepS true d) (szS true d) fX0_1 (fun b => ok b ∨ w1.heap.size ≤ b) w28 (xp5_1) [.int .i16 (rdInt .i16 2 s12).1] := (RepF_num (by decide)).2 (by rw [hxp5_1,hrd];exact congrArg (fun x => [x]) (numC_rd 2 (by decide) 2 s12).symm)
    clear hrd
    have hlp5_2 : rdL (rdP d ver true) (dfP d) ver true [] s13 = ([],s13) := rfl
    have hlp5_1 : rdL (rdP d ver true) (dfP d) ver true [fX0_1] s12 = ([xp5_1],s13) := by rw [rdL_st (by decide) hhp5_1,← hxp5_1,← hs13,hlp5_2]
    have hlp5_0 : rdL (rdP d ver true) (dfP d) ver true [fX0_0,fX0_1] s11 = ([xp5_0,xp5_1],s13) := by rw [rdL_st (by decide) hhp5_0,← hxp5_0,← hs12,hlp5_1]
    have hfinp5 : rdP (d + 1) ver true fs_X0 s11 = (.mk 0 [] false [xp5_0,xp5_1] (rdTags s13).1,(rdTags s13).2) := rdP_t hlp5_0
    repeat ((first | refine qA rfl ?_|refine qB ?_|refine qC rfl ?_|refine qD ?_|refine qE ?_|refine qF ?_|refine qG ?_|refine qH ?_);try simp (maxSteps:=1000000)(disch:=(first|omega|(simp only [qI,qJ,qK]<;>omega)|exact qL _)) only [go_sem,↓reduceIte,n0,reduceCtorEq,n1,n2,n3,n4,n5,i0,i1,i2,i3,i4,i5,i6,i7,hv_28,hrd0_2,hrd0_7,hrd0_8,hrd0_9,hrd0_10,hrd0_17,hrd0_16,hun,hun'])
    refine (ReadTags_fn w28 hq28.1 hrok).mono ?_
    rintro _ w29 ⟨qmp5,rfl,hT29,hTn,hq29,hu29⟩
    have hv_29 := hu29.blk_some hv_28 (by omega)
    have hV29 : Upd (fun b => b = vb ∨ b = rb) w28 w29 := hu29.mono (fun _ h => .inr h)
    have hU29 : Upd (fun b => b = vb ∨ b = rb) w1 w29 := hU28.trans hV29
    have hz29 := hV29.size
    have hG29 : Glo ev w29 := hG1.updS hU29 hgM1 hgM2
    obtain ⟨s14,hs14⟩ : ∃ s,s = (rdTags s13).2 := ⟨_,rfl⟩
    rw [← hs14] at hq29 hfinp5
    try simp (maxSteps:=1000000)(disch:=(first|omega|(simp only [qI,qJ,qK]<;>omega)|exact qL _)) only [go_sem,↓reduceIte,n0,reduceCtorEq,n1,n2,n3,n4,n5,i0,i1,i2,i3,i4,i5,i6,i7,hv_29,hrd0_2,hrd0_7,hrd0_8,hrd0_9,hrd0_10,hrd0_17,hrd0_16,hun,hun']
    repeat ((first | refine qA rfl ?_|refine qB ?_|refine qC rfl ?_|refine qD ?_|refine qE ?_|refine qF ?_|refine qG ?_|refine qH ?_);try simp (maxSteps:=1000000)(disch:=(first|omega|(simp only [qI,qJ,qK]<;>omega)|exact qL _)) only [go_sem,↓reduceIte,n0,reduceCtorEq,n1,n2,n3,n4,n5,i0,i1,i2,i3,i4,i5,i6,i7,hv_29,hrd0_2,hrd0_7,hrd0_8,hrd0_9,hrd0_10,hrd0_17,hrd0_16,hun,hun'])
    generalize hw30 : wr w29 vb 23 [.map qmp5] = w30
    have hS30 : Upd (fun b => b = vb ∨ b = rb) w29 w30 := by rw [← hw30];exact (Upd.refl _ _).wr _ _ (.inr (.inl rfl))
    have hv_30 : blk w30 vb = some (#[.int .i16 ver,.pointer ap2,.int .i32 (rdInt .i32 4 s1).1,.int .i32 (rdInt .i32 4 s2).1,u3_0,u3_1,u3_2,u3_3,u3_4,u3_5,u3_6,u3_7,u3_8,u3_9,u3_10,u3_11,u3_12,u3_13,u3_14,u3_15,.slice aa0 N0 qq0,.int .i16 (rdInt .i16 2 s11).1,.int .i16 (rdInt .i16 2 s12).1,.map qmp5,.map none],61,(0,0)) := by rw [← hw30,blk_wr_eq,hv_29];rfl
    have hV30 := hS30
    have hU30 : Upd (fun b => b = vb ∨ b = rb) w1 w30 := hU29.trans hV30
    have hz30 := hV30.size
    have hG30 : Glo ev w30 := hG1.updS hU30 hgM1 hgM2
    have hq30 : Rdr RT ok w30 rb s14 ∧ NN w30 rb s14 := by
      have hn : ∀ x,x = w30 → (Rdr RT ok x rb s14 ∧ NN x rb s14) := fun x hx => by
        rw [hx,← hw30]
        exact Rdr.store hq29 (by omega) (fun h => by have := (hok _ h).1;first | omega | exact (hok _ h).2 rfl)
      exact hn _ rfl
    clear hw30
    have hTgp5 : TagsM (fun b => ok b ∨ w1.heap.size ≤ b) w30 (.map qmp5) (rdTags s13).1 := (hT29.weaken fun b _ hk => hk.elim (fun hk => .inl hk) (fun h => by have h' : w28.heap.size ≤ b := h;exact .inr (by omega))).keep (hV30.keeps fun b _ hk e => (hoM b hk) e)
    have hCp5_30 : Upd (fun b => b = vb ∨ b = rb) w30 w30 := Upd.refl _ _
    have hCp5_29 : Upd (fun b => b = vb ∨ b = rb) w29 w30 := hV30.trans hCp5_30
    have hCp5_28 : Upd (fun b => b = vb ∨ b = rb) w28 w30 := hV29.trans hCp5_29
    have hCp5_27 : Upd (fun b => b = vb ∨ b = rb) w27 w30 := hV28.trans hCp5_28
    have hCp5_26 : Upd (fun b => b = vb ∨ b = rb) w26 w30 := hV27.trans hCp5_27
    have hCp5_25 : Upd (fun b => b = vb ∨ b = rb) w25 w30 := hV26.trans hCp5_26
    have hCp5_24 : Upd (fun b => b = vb ∨ b = rb) w24 w30 := hV25.trans hCp5_25
    have hCp5_23 : Upd (fun b => b = vb ∨ b = rb) w23 w30 := hV24.trans hCp5_24
    have hCp5_11 : Upd (fun b => b = vb ∨ b = rb) w11 w30 := hV23.trans hCp5_23
    have hCp5_10 : Upd (fun b => b = vb ∨ b = rb) w10 w30 := hV11.trans hCp5_11
    have hCp5_9 : Upd (fun b => b = vb ∨ b = rb) w9 w30 := hV10.trans hCp5_10
    have hCp5_8 : Upd (fun b => b = vb ∨ b = rb) w8 w30 := hV9.trans hCp5_9
    have hCp5_7 : Upd (fun b => b = vb ∨ b = rb) w7 w30 := hV8.trans hCp5_8
    have hCp5_6 : Upd (fun b => b = vb ∨ b = rb) w6 w30 := hV7.trans hCp5_7
    have hCp5_5 : Upd (fun b => b = vb ∨ b = rb) w5 w30 := hV6.trans hCp5_6
    have hCp5_4 : Upd (fun b => b = vb ∨ b = rb) w4 w30 := hV5.trans hCp5_5
    have hCp5_3 : Upd (fun b => b = vb ∨ b = rb) w3 w30 := hV4.trans hCp5_4
    have hCp5_2 : Upd (fun b => b = vb ∨ b = rb) w2 w30 := hV3.trans hCp5_3
    have hCp5_1 : Upd (fun b => b = vb ∨ b = rb) w1 w30 := hV2.trans hCp5_2
    have hRp5 : RepS true (d + 1) fs_X0 (fun b => ok b ∨ w1.heap.size ≤ b) w30 (.mk 0 [] false [xp5_0,xp5_1] (rdTags s13).1) [.int .i16 (rdInt .i16 2 s11).1,.int .i16 (rdInt .i16 2 s12).1,.map qmp5] := RepS.introT (c := [.int .i16 (rdInt .i16 2 s11).1,.int .i16 (rdInt .i16 2 s12).1]) (RepL.cons1 (hfp5_0.keepS (hCp5_26.keeps fun b _ hk e => (hoM b hk) e)) (RepL.cons1 (hfp5_1.keepS (hCp5_28.keeps fun b _ hk e => (hoM b hk) e)) RepL.nil)) hTgp5
    have hrdp5 : rdF (rdP (d + 1) ver true) ver true fUpdateRaftVoterRequest_5 s11 = ((.mk 0 [] false [xp5_0,xp5_1] (rdTags s13).1),s14) := by rw [rdF_part rfl];exact hfinp5
    have hs_p5 : s14 = (rdF (rdP (d + 1) ver true) ver true fUpdateRaftVoterRequest_5 s11).2 := by rw [hrdp5]
    have hf_5 : RepF (RepS true (d + 1)) (szS true (d + 1)) fUpdateRaftVoterRequest_5 (fun b => ok b ∨ w1.heap.size ≤ b) w30 (x_5) [.int .i16 (rdInt .i16 2 s11).1,.int .i16 (rdInt .i16 2 s12).1,.map qmp5] := by rw [hx_5,hrdp5];exact (RepF_part rfl).2 hRp5
    have hl_6 : rdL (rdP (d + 1) ver true) (dfP (d + 1)) ver true [] s14 = ([],s14) := rfl
    have hl_5 : rdL (rdP (d + 1) ver true) (dfP (d + 1)) ver true [fUpdateRaftVoterRequest_5] s11 = ([x_5],s14) := by rw [rdL_st (by decide) hh_5,← hx_5,← hs_p5,hl_6]
    have hl_4 : rdL (rdP (d + 1) ver true) (dfP (d + 1)) ver true [fUpdateRaftVoterRequest_4,fUpdateRaftVoterRequest_5] s4 = ([x_4,x_5],s14) := by rw [rdL_st (by decide) hh_4,← hx_4,← hs11,hl_5]
    have hl_3 : rdL (rdP (d + 1) ver true) (dfP (d + 1)) ver true [fUpdateRaftVoterRequest_3,fUpdateRaftVoterRequest_4,fUpdateRaftVoterRequest_5] s3 = ([x_3,x_4,x_5],s14) := by rw [rdL_st (by decide) hh_3,← hx_3,← hs4,hl_4]
    have hl_2 : rdL (rdP (d + 1) ver true) (dfP (d + 1)) ver true [fUpdateRaftVoterRequest_2,fUpdateRaftVoterRequest_3,fUpdateRaftVoterRequest_4,fUpdateRaftVoterRequest_5] s2 = ([x_2,x_3,x_4,x_5],s14) := by rw [rdL_st (by decide) hh_2,← hx_2,← hs3,hl_3]
    have hl_1 : rdL (rdP (d + 1) ver true) (dfP (d + 1)) ver true [fUpdateRaftVoterRequest_1,fUpdateRaftVoterRequest_2,fUpdateRaftVoterRequest_3,fUpdateRaftVoterRequest_4,fUpdateRaftVoterRequest_5] s1 = ([x_1,x_2,x_3,x_4,x_5],s14) := by rw [rdL_st (by decide) hh_1,← hx_1,← hs2,hl_2]
    have hl_0 : rdL (rdP (d + 1) ver true) (dfP (d + 1)) ver true [fUpdateRaftVoterRequest_0,fUpdateRaftVoterRequest_1,fUpdateRaftVoterRequest_2,fUpdateRaftVoterRequest_3,fUpdateRaftVoterRequest_4,fUpdateRaftVoterRequest_5] s0 = ([x_0,x_1,x_2,x_3,x_4,x_5],s14) := by rw [rdL_st (by decide) hh_0,← hx_0,← hs1,hl_1]
    have hfin : rdP (d + 2) ver true fs_UpdateRaftVoterRequest s0 = (.mk 0 [] false [x_0,x_1,x_2,x_3,x_4,x_5] (rdTags s14).1,(rdTags s14).2) := rdP_t hl_0
    repeat ((first | refine qA rfl ?_|refine qB ?_|refine qC rfl ?_|refine qD ?_|refine qE ?_|refine qF ?_|refine qG ?_|refine qH ?_);try simp (maxSteps:=1000000)(disch:=(first|omega|(simp only [qI,qJ,qK]<;>omega)|exact qL _)) only [go_sem,↓reduceIte,n0,reduceCtorEq,n1,n2,n3,n4,n5,i0,i1,i2,i3,i4,i5,i6,i7,hv_30,hrd0_2,hrd0_7,hrd0_8,hrd0_9,hrd0_10,hrd0_17,hrd0_16,hun,hun'])
    refine (ReadTags_fn w30 hq30.1 hrok).mono ?_
    rintro _ w31 ⟨qm,rfl,hT31,hTn,hq31,hu31⟩
    have hv_31 := hu31.blk_some hv_30 (by omega)
    have hV31 : Upd (fun b => b = vb ∨ b = rb) w30 w31 := hu31.mono (fun _ h => .inr h)
    have hU31 : Upd (fun b => b = vb ∨ b = rb) w1 w31 := hU30.trans hV31
    have hz31 := hV31.size
    have hG31 : Glo ev w31 := hG1.updS hU31 hgM1 hgM2
    obtain ⟨s15,hs15⟩ : ∃ s,s = (rdTags s14).2 := ⟨_,rfl⟩
    rw [← hs15] at hq31 hfin
    try simp (maxSteps:=1000000)(disch:=(first|omega|(simp only [qI,qJ,qK]<;>omega)|exact qL _)) only [go_sem,↓reduceIte,n0,reduceCtorEq,n1,n2,n3,n4,n5,i0,i1,i2,i3,i4,i5,i6,i7,hv_31,hrd0_2,hrd0_7,hrd0_8,hrd0_9,hrd0_10,hrd0_17,hrd0_16,hun,hun']
    repeat ((first | refine qA rfl ?_|refine qB ?_|refine qC rfl ?_|refine qD ?_|refine qE ?_|refine qF ?_|refine qG ?_|refine qH ?_);try simp (maxSteps:=1000000)(disch:=(first|omega|(simp only [qI,qJ,qK]<;>omega)|exact qL _)) only [go_sem,↓reduceIte,n0,reduceCtorEq,n1,n2,n3,n4,n5,i0,i1,i2,i3,i4,i5,i6,i7,hv_31,hrd0_2,hrd0_7,hrd0_8,hrd0_9,hrd0_10,hrd0_17,hrd0_16,hun,hun'])
    generalize hw32 : wr w31 vb 24 [.map qm] = w32
    have hS32 : Upd (fun b => b = vb ∨ b = rb) w31 w32 := by rw [← hw32];exact (Upd.refl _ _).wr _ _ (.inr (.inl rfl))
    have hv_32 : blk w32 vb = some (#[.int .i16 ver,.pointer ap2,.int .i32 (rdInt .i32 4 s1).1,.int .i32 (rdInt .i32 4 s2).1,u3_0,u3_1,u3_2,u3_3,u3_4,u3_5,u3_6,u3_7,u3_8,u3_9,u3_10,u3_11,u3_12,u3_13,u3_14,u3_15,.slice aa0 N0 qq0,.int .i16 (rdInt .i16 2 s11).1,.int .i16 (rdInt .i16 2 s12).1,.map qmp5,.map qm],61,(0,0)) := by rw [← hw32,blk_wr_eq,hv_31];rfl
    have hV32 := hS32
    have hU32 : Upd (fun b => b = vb ∨ b = rb) w1 w32 := hU31.trans hV32
    have hz32 := hV32.size
    have hG32 : Glo ev w32 := hG1.updS hU32 hgM1 hgM2
    have hq32 : Rdr RT ok w32 rb s15 ∧ NN w32 rb s15 := by
      have hn : ∀ x,x = w32 → (Rdr RT ok x rb s15 ∧ NN x rb s15) := fun x hx => by
        rw [hx,← hw32]
        exact Rdr.store hq31 (by omega) (fun h => by have := (hok _ h).1;first | omega | exact (hok _ h).2 rfl)
      exact hn _ rfl
    clear hw32
    have hTg : TagsM (fun b => ok b ∨ w1.heap.size ≤ b) w32 (.map qm) (rdTags s14).1 := (hT31.weaken fun b _ hk => hk.elim (fun hk => .inl hk) (fun h => by have h' : w30.heap.size ≤ b := h;exact .inr (by omega))).keep (hV32.keeps fun b _ hk e => (hoM b hk) e)
    have hC_32 : Upd (fun b => b = vb ∨ b = rb) w32 w32 := Upd.refl _ _
    have hC_31 : Upd (fun b => b = vb ∨ b = rb) w31 w32 := hV32.trans hC_32
    have hC_30 : Upd (fun b => b = vb ∨ b = rb) w30 w32 := hV31.trans hC_31
    have hC_29 : Upd (fun b => b = vb ∨ b = rb) w29 w32 := hV30.trans hC_30
    have hC_28 : Upd (fun b => b = vb ∨ b = rb) w28 w32 := hV29.trans hC_29
    have hC_27 : Upd (fun b => b = vb ∨ b = rb) w27 w32 := hV28.trans hC_28
    have hC_26 : Upd (fun b => b = vb ∨ b = rb) w26 w32 := hV27.trans hC_27
    have hC_25 : Upd (fun b => b = vb ∨ b = rb) w25 w32 := hV26.trans hC_26
    have hC_24 : Upd (fun b => b = vb ∨ b = rb) w24 w32 := hV25.trans hC_25
    have hC_23 : Upd (fun b => b = vb ∨ b = rb) w23 w32 := hV24.trans hC_24
    have hC_11 : Upd (fun b => b = vb ∨ b = rb) w11 w32 := hV23.trans hC_23
    have hC_10 : Upd (fun b => b = vb ∨ b = rb) w10 w32 := hV11.trans hC_11
    have hC_9 : Upd (fun b => b = vb ∨ b = rb) w9 w32 := hV10.trans hC_10
    have hC_8 : Upd (fun b => b = vb ∨ b = rb) w8 w32 := hV9.trans hC_9
    have hC_7 : Upd (fun b => b = vb ∨ b = rb) w7 w32 := hV8.trans hC_8
    have hC_6 : Upd (fun b => b = vb ∨ b = rb) w6 w32 := hV7.trans hC_7
    have hC_5 : Upd (fun b => b = vb ∨ b = rb) w5 w32 := hV6.trans hC_6
    have hC_4 : Upd (fun b => b = vb ∨ b = rb) w4 w32 := hV5.trans hC_5
    have hC_3 : Upd (fun b => b = vb ∨ b = rb) w3 w32 := hV4.trans hC_4
    have hC_2 : Upd (fun b => b = vb ∨ b = rb) w2 w32 := hV3.trans hC_3
    have hC_1 : Upd (fun b => b = vb ∨ b = rb) w1 w32 := hV2.trans hC_2
    have hR : RepS true (d + 2) fs_UpdateRaftVoterRequest (fun b => ok b ∨ w1.heap.size ≤ b) w32 (.mk 0 [] false [x_0,x_1,x_2,x_3,x_4,x_5] (rdTags s14).1) [.pointer ap2,.int .i32 (rdInt .i32 4 s1).1,.int .i32 (rdInt .i32 4 s2).1,u3_0,u3_1,u3_2,u3_3,u3_4,u3_5,u3_6,u3_7,u3_8,u3_9,u3_10,u3_11,u3_12,u3_13,u3_14,u3_15,.slice aa0 N0 qq0,.int .i16 (rdInt .i16 2 s11).1,.int .i16 (rdInt .i16 2 s12).1,.map qmp5,.map qm] := RepS.introT (c := [.pointer ap2,.int .i32 (rdInt .i32 4 s1).1,.int .i32 (rdInt .i32 4 s2).1,u3_0,u3_1,u3_2,u3_3,u3_4,u3_5,u3_6,u3_7,u3_8,u3_9,u3_10,u3_11,u3_12,u3_13,u3_14,u3_15,.slice aa0 N0 qq0,.int .i16 (rdInt .i16 2 s11).1,.int .i16 (rdInt .i16 2 s12).1,.map qmp5]) (RepL.cons1 (hf_0.keepS (hC_3.keeps fun b _ hk e => (hoM b hk) e)) (RepL.cons1 (hf_1.keepS (hC_5.keeps fun b _ hk e => (hoM b hk) e)) (RepL.cons1 (hf_2.keepS (hC_7.keeps fun b _ hk e => (hoM b hk) e)) (RepL.cons16 (hf_3.keepS (hC_10.keeps fun b _ hk e => (hoM b hk) e)) (RepL.cons1 (hf_4.keepS (hC_24.keeps fun b _ hk e => (hoM b hk) e)) (RepL.cons (c := [.int .i16 (rdInt .i16 2 s11).1,.int .i16 (rdInt .i16 2 s12).1,.map qmp5]) (hf_5.keepS (hC_30.keeps fun b _ hk e => (hoM b hk) e)) RepL.nil)))))) hTg
    repeat ((first | refine qA rfl ?_|refine qB ?_|refine qC rfl ?_|refine qD ?_|refine qE ?_|refine qF ?_|refine qG ?_|refine qH ?_);try simp (maxSteps:=1000000)(disch:=(first|omega|(simp only [qI,qJ,qK]<;>omega)|exact qL _)) only [go_sem,↓reduceIte,n0,reduceCtorEq,n1,n2,n3,n4,n5,i0,i1,i2,i3,i4,i5,i6,i7,hv_32,hrd0_2,hrd0_7,hrd0_8,hrd0_9,hrd0_10,hrd0_17,hrd0_16,hun,hun'])
    refine (RComplete_fn w32 hq32.1 hG32.2).mono ?_
    rintro _ wz ⟨rfl,hez⟩
    rw [hez]
    repeat ((first | refine qA rfl ?_|refine qB ?_|refine qC rfl ?_|refine qD ?_|refine qE ?_|refine qF ?_|refine qG ?_|refine qH ?_);try simp (maxSteps:=1000000)(disch:=(first|omega|(simp only [qI,qJ,qK]<;>omega)|exact qL _)) only [go_sem,↓reduceIte,n0,reduceCtorEq,n1,n2,n3,n4,n5,i0,i1,i2,i3,i4,i5,i6,i7,hv_32,hrd0_2,hrd0_7,hrd0_8,hrd0_9,hrd0_10,hrd0_17,hrd0_16,hun,hun'])
    rw [hfin]
    refine ⟨fun h => ?_,fun h => ⟨?_,[.pointer ap2,.int .i32 (rdInt .i32 4 s1).1,.int .i32 (rdInt .i32 4 s2).1,u3_0,u3_1,u3_2,u3_3,u3_4,u3_5,u3_6,u3_7,u3_8,u3_9,u3_10,u3_11,u3_12,u3_13,u3_14,u3_15,.slice aa0 N0 qq0,.int .i16 (rdInt .i16 2 s11).1,.int .i16 (rdInt .i16 2 s12).1,.map qmp5,.map qm],hv_32,?_⟩,?_⟩
    · have h' : s15 = none := h
      rw [h'];rfl
    · cases hsn : s15 with
      | none => exact absurd hsn h
      | some x => rfl
    · exact (RepS_lay true (d + 2) fs_UpdateRaftVoterRequest).weaken hR fun b _ hk => hk.imp id fun h => by omega
    · exact hbase.trans' hU32 fun i hi h => h.elim id fun h => by omega
end Ms

namespace Ms
open Go.World renaming size_alloc → qI
open Ms renaming size_wr → qJ,size_drew → qK,not_noB → qL
open W renaming seqR → qA,seq → qB,regR → qC,condK → qD,block → qE,skip → qF,ret → qG,exit → qH
open Nat renaming reduceEqDiff → n0,reduceAdd → n1,reduceMul → n2,reduceSub → n3,reduceLT → n4,reduceLeDiff → n5
open Int renaming reduceEq → i0,reduceLT → i1,reduceLE → i2,reduceNeg → i3,reduceAdd → i4,reduceSub → i5,reduceMul → i6,reduceToNat → i7
set_option maxRecDepth 8000
open Go Go.Proofs Go.Shelf
attribute [local congr] W_congr WPsq_congr WPp_congr optK_congr addrK_congr intK_congr boolK_congr sliceK_congr tupleK_congr funcK_congr Fn_congr rawK_congr takeK_congr stepK_congr convK_congr aggK_congr

theorem ReadFromUpdateRaftVoterRequest_fn {d : Nat} {ok : Blocks} {ver : Int} {ev : Value} (hlo : 0 ≤ ver) (hhi : ver ≤ 0) (w : World) {vb : Nat} (src : Value) (s : List UInt8) (hv : blk w vb = some (#[.int .i16 ver,.pointer none,.int .i32 0,.int .i32 0,.int .u8 0,.int .u8 0,.int .u8 0,.int .u8 0,.int .u8 0,.int .u8 0,.int .u8 0,.int .u8 0,.int .u8 0,.int .u8 0,.int .u8 0,.int .u8 0,.int .u8 0,.int .u8 0,.int .u8 0,.int .u8 0,.slice none 0 0,.int .i16 0,.int .i16 0,.map none,.map none],61,(0,0))) (hsrc : BytesV ok w src s) (hok0 : ∀ b,ok b → b < w.heap.size ∧ b ≠ vb) (hG : Glo ev w) (hgv : ¬ 0 = vb ∧ ¬ 1 = vb) :
    Fn Tryd.prog 13 #[.pointer (some ⟨vb,0,none⟩),src] w (ReadQ 61 ok ver (d + 2) fs_UpdateRaftVoterRequest vb w (rdP (d + 2) ver (flexB 0 ver) fs_UpdateRaftVoterRequest (some s)) ev) := by
  obtain ⟨sa,sc,rfl,_⟩ := hsrc.shape
  refine fn_of_W Tryd.func13 rfl Tryd.results13 Tryd.ntmps13 rfl ?_
  repeat ((first | refine qA rfl ?_|refine qB ?_|refine qC rfl ?_|refine qD ?_|refine qE ?_|refine qF ?_|refine qG ?_|refine qH ?_);try simp (maxSteps:=1000000)(disch:=(first|omega|(simp only [qI,qJ,qK]<;>omega)|exact qL _)) only [go_sem,↓reduceIte,n0,reduceCtorEq,n1,n2,n3,n4,n5,i0,i1,i2,i3,i4,i5,i6,i7])
  have hcl : (0 ≤ ver ∧ ver ≤ 0) := by omega
  rcases hcl with ⟨h1,h2⟩
  · have hfl : flexB 0 ver = true := by simp only [flexB,Bool.and_eq_true,decide_eq_true_eq];omega
    rw [hfl]
    refine (readUpdateRaftVoterRequest_0b (d := d) (un := false) h1 h2 w _ s hv hsrc hok0 hG hgv).mono ?_
    rintro r5 w5 h5
    repeat ((first | refine qA rfl ?_|refine qB ?_|refine qC rfl ?_|refine qD ?_|refine qE ?_|refine qF ?_|refine qG ?_|refine qH ?_);try simp (maxSteps:=1000000)(disch:=(first|omega|(simp only [qI,qJ,qK]<;>omega)|exact qL _)) only [go_sem,↓reduceIte,n0,reduceCtorEq,n1,n2,n3,n4,n5,i0,i1,i2,i3,i4,i5,i6,i7])
    all_goals exact h5

theorem UnsafeReadFromUpdateRaftVoterRequest_fn {d : Nat} {ok : Blocks} {ver : Int} {ev : Value} (hlo : 0 ≤ ver) (hhi : ver ≤ 0) (w : World) {vb : Nat} (src : Value) (s : List UInt8) (hv : blk w vb = some (#[.int .i16 ver,.pointer none,.int .i32 0,.int .i32 0,.int .u8 0,.int .u8 0,.int .u8 0,.int .u8 0,.int .u8 0,.int .u8 0,.int .u8 0,.int .u8 0,.int .u8 0,.int .u8 0,.int .u8 0,.int .u8 0,.int .u8 0,.int .u8 0,.int .u8 0,.int .u8 0,.slice none 0 0,.int .i16 0,.int .i16 0,.map none,.map none],61,(0,0))) (hsrc : BytesV ok w src s) (hok0 : ∀ b,ok b → b < w.heap.size ∧ b ≠ vb) (hG : Glo ev w) (hgv : ¬ 0 = vb ∧ ¬ 1 = vb) :
    Fn Tryd.prog 15 #[.pointer (some ⟨vb,0,none⟩),src] w (ReadQ 61 ok ver (d + 2) fs_UpdateRaftVoterRequest vb w (rdP (d + 2) ver (flexB 0 ver) fs_UpdateRaftVoterRequest (some s)) ev) := by
  obtain ⟨sa,sc,rfl,_⟩ := hsrc.shape
  refine fn_of_W Tryd.func15 rfl Tryd.results15 Tryd.ntmps15 rfl ?_
  repeat ((first | refine qA rfl ?_|refine qB ?_|refine qC rfl ?_|refine qD ?_|refine qE ?_|refine qF ?_|refine qG ?_|refine qH ?_);try simp (maxSteps:=1000000)(disch:=(first|omega|(simp only [qI,qJ,qK]<;>omega)|exact qL _)) only [go_sem,↓reduceIte,n0,reduceCtorEq,n1,n2,n3,n4,n5,i0,i1,i2,i3,i4,i5,i6,i7])
  have hcl : (0 ≤ ver ∧ ver ≤ 0) := by omega
  rcases hcl with ⟨h1,h2⟩
  · have hfl : flexB 0 ver = true := by simp only [flexB,Bool.and_eq_true,decide_eq_true_eq];omega
    rw [hfl]
    refine (readUpdateRaftVoterRequest_0b (d := d) (un := true) h1 h2 w _ s hv hsrc hok0 hG hgv).mono ?_
    rintro r5 w5 h5
    repeat ((first | refine qA rfl ?_|refine qB ?_|refine qC rfl ?_|refine qD ?_|refine qE ?_|refine qF ?_|refine qG ?_|refine qH ?_);try simp (maxSteps:=1000000)(disch:=(first|omega|(simp only [qI,qJ,qK]<;>omega)|exact qL _)) only [go_sem,↓reduceIte,n0,reduceCtorEq,n1,n2,n3,n4,n5,i0,i1,i2,i3,i4,i5,i6,i7])
    all_goals exact h5

end Ms

