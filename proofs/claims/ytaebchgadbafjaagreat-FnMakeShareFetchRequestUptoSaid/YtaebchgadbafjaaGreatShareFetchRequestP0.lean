/- A part of the proof: see the last text. -/
import Derived.Test.YtaebchgadbafjaaGreatC08
set_option linter.unusedSimpArgs false
set_option linter.unusedVariables false
namespace Ms
open Nat renaming reduceEqDiff → n0,reduceAdd → n1,reduceMul → n2,reduceSub → n3,reduceLT → n4,reduceLeDiff → n5
open Int renaming reduceEq → i0,reduceLT → i1,reduceLE → i2,reduceNeg → i3,reduceAdd → i4,reduceSub → i5,reduceMul → i6,reduceToNat → i7
set_option maxRecDepth 4000
open Go Go.Proofs
theorem ap_54_54 : AppT Tryz.prog 54 54 78 18 48 := AppT.of (by kernel_rfl)
theorem ap_55_55 : AppT Tryz.prog 55 55 82 18 48 := AppT.of (by kernel_rfl)
theorem ap_76_76 : AppT Tryz.prog 76 76 95 4 40 := AppT.of (by kernel_rfl)
theorem ap_80_80 : AppT Tryz.prog 80 80 21 1 4 := AppT.of (by kernel_rfl)
theorem ap_93_93 : AppT Tryz.prog 93 93 99 4 48 := AppT.of (by kernel_rfl)
theorem ap_97_97 : AppT Tryz.prog 97 97 53 1 1 := AppT.of (by kernel_rfl)
theorem ca_12 : callable Tryz.prog 12 = true := nr (by kernel_rfl)
theorem ca_14 : callable Tryz.prog 14 = true := nr (by kernel_rfl)
theorem ca_15 : callable Tryz.prog 15 = true := nr (by kernel_rfl)
theorem ca_16 : callable Tryz.prog 16 = true := nr (by kernel_rfl)
theorem ca_17 : callable Tryz.prog 17 = true := nr (by kernel_rfl)
theorem ca_18 : callable Tryz.prog 18 = true := nr (by kernel_rfl)
theorem ca_19 : callable Tryz.prog 19 = true := nr (by kernel_rfl)
theorem ca_20 : callable Tryz.prog 20 = true := nr (by kernel_rfl)
theorem ca_27 : callable Tryz.prog 27 = true := nr (by kernel_rfl)
theorem ca_28 : callable Tryz.prog 28 = true := nr (by kernel_rfl)
theorem ca_29 : callable Tryz.prog 29 = true := nr (by kernel_rfl)
theorem ca_30 : callable Tryz.prog 30 = true := nr (by kernel_rfl)
theorem ca_31 : callable Tryz.prog 31 = true := nr (by kernel_rfl)
theorem ca_32 : callable Tryz.prog 32 = true := nr (by kernel_rfl)
theorem ca_33 : callable Tryz.prog 33 = true := nr (by kernel_rfl)
theorem ca_34 : callable Tryz.prog 34 = true := nr (by kernel_rfl)
theorem ca_35 : callable Tryz.prog 35 = true := nr (by kernel_rfl)
theorem ca_37 : callable Tryz.prog 37 = true := nr (by kernel_rfl)
theorem ca_38 : callable Tryz.prog 38 = true := nr (by kernel_rfl)
theorem ca_39 : callable Tryz.prog 39 = true := nr (by kernel_rfl)
theorem ca_4 : callable Tryz.prog 4 = true := nr (by kernel_rfl)
theorem ca_40 : callable Tryz.prog 40 = true := nr (by kernel_rfl)
theorem ca_41 : callable Tryz.prog 41 = true := nr (by kernel_rfl)
theorem ca_42 : callable Tryz.prog 42 = true := nr (by kernel_rfl)
theorem ca_44 : callable Tryz.prog 44 = true := nr (by kernel_rfl)
theorem ca_45 : callable Tryz.prog 45 = true := nr (by kernel_rfl)
theorem ca_5 : callable Tryz.prog 5 = true := nr (by kernel_rfl)
theorem ca_53 : callable Tryz.prog 53 = true := nr (by kernel_rfl)
theorem ca_54 : callable Tryz.prog 54 = true := nr (by kernel_rfl)
theorem ca_55 : callable Tryz.prog 55 = true := nr (by kernel_rfl)
theorem ca_6 : callable Tryz.prog 6 = true := nr (by kernel_rfl)
theorem ca_68 : callable Tryz.prog 68 = true := nr (by kernel_rfl)
theorem ca_7 : callable Tryz.prog 7 = true := nr (by kernel_rfl)
theorem ca_9 : callable Tryz.prog 9 = true := nr (by kernel_rfl)
theorem es_37 : elemSize Tryz.prog 37 = some 2 := nr (by kernel_rfl)
theorem es_54 : elemSize Tryz.prog 54 = some 18 := nr (by kernel_rfl)
theorem es_55 : elemSize Tryz.prog 55 = some 18 := nr (by kernel_rfl)
theorem es_76 : elemSize Tryz.prog 76 = some 4 := nr (by kernel_rfl)
theorem es_80 : elemSize Tryz.prog 80 = some 1 := nr (by kernel_rfl)
theorem es_93 : elemSize Tryz.prog 93 = some 4 := nr (by kernel_rfl)
theorem es_97 : elemSize Tryz.prog 97 = some 1 := nr (by kernel_rfl)
theorem fo_39_0 : fieldOff Tryz.prog 39 0 = some 0 := nr (by kernel_rfl)
theorem fo_60_0 : fieldOff Tryz.prog 60 0 = some 0 := nr (by kernel_rfl)
theorem fo_60_1 : fieldOff Tryz.prog 60 1 = some 1 := nr (by kernel_rfl)
theorem fo_60_10 : fieldOff Tryz.prog 60 10 = some 10 := nr (by kernel_rfl)
theorem fo_60_11 : fieldOff Tryz.prog 60 11 = some 11 := nr (by kernel_rfl)
theorem fo_60_12 : fieldOff Tryz.prog 60 12 = some 12 := nr (by kernel_rfl)
theorem fo_60_13 : fieldOff Tryz.prog 60 13 = some 13 := nr (by kernel_rfl)
theorem fo_60_2 : fieldOff Tryz.prog 60 2 = some 2 := nr (by kernel_rfl)
theorem fo_60_3 : fieldOff Tryz.prog 60 3 = some 3 := nr (by kernel_rfl)
theorem fo_60_4 : fieldOff Tryz.prog 60 4 = some 4 := nr (by kernel_rfl)
theorem fo_60_5 : fieldOff Tryz.prog 60 5 = some 5 := nr (by kernel_rfl)
theorem fo_60_6 : fieldOff Tryz.prog 60 6 = some 6 := nr (by kernel_rfl)
theorem fo_60_7 : fieldOff Tryz.prog 60 7 = some 7 := nr (by kernel_rfl)
theorem fo_60_8 : fieldOff Tryz.prog 60 8 = some 8 := nr (by kernel_rfl)
theorem fo_60_9 : fieldOff Tryz.prog 60 9 = some 9 := nr (by kernel_rfl)
theorem fo_67_0 : fieldOff Tryz.prog 67 0 = some 0 := nr (by kernel_rfl)
theorem fo_67_1 : fieldOff Tryz.prog 67 1 = some 1 := nr (by kernel_rfl)
theorem fo_78_0 : fieldOff Tryz.prog 78 0 = some 0 := nr (by kernel_rfl)
theorem fo_78_1 : fieldOff Tryz.prog 78 1 = some 16 := nr (by kernel_rfl)
theorem fo_78_2 : fieldOff Tryz.prog 78 2 = some 17 := nr (by kernel_rfl)
theorem fo_82_0 : fieldOff Tryz.prog 82 0 = some 0 := nr (by kernel_rfl)
theorem fo_82_1 : fieldOff Tryz.prog 82 1 = some 16 := nr (by kernel_rfl)
theorem fo_82_2 : fieldOff Tryz.prog 82 2 = some 17 := nr (by kernel_rfl)
theorem fo_95_0 : fieldOff Tryz.prog 95 0 = some 0 := nr (by kernel_rfl)
theorem fo_95_1 : fieldOff Tryz.prog 95 1 = some 1 := nr (by kernel_rfl)
theorem fo_95_2 : fieldOff Tryz.prog 95 2 = some 2 := nr (by kernel_rfl)
theorem fo_95_3 : fieldOff Tryz.prog 95 3 = some 3 := nr (by kernel_rfl)
theorem fo_99_0 : fieldOff Tryz.prog 99 0 = some 0 := nr (by kernel_rfl)
theorem fo_99_1 : fieldOff Tryz.prog 99 1 = some 1 := nr (by kernel_rfl)
theorem fo_99_2 : fieldOff Tryz.prog 99 2 = some 2 := nr (by kernel_rfl)
theorem fo_99_3 : fieldOff Tryz.prog 99 3 = some 3 := nr (by kernel_rfl)
theorem fv_39_0 (cs : Array Value) : fieldV Tryz.prog 39 0 cs = cs[0]? := fieldV_one (by kernel_rfl) cs
theorem fv_39_1 (cs : Array Value) : fieldV Tryz.prog 39 1 cs = cs[1]? := fieldV_one (by kernel_rfl) cs
theorem fv_39_2 (cs : Array Value) : fieldV Tryz.prog 39 2 cs = cs[2]? := fieldV_one (by kernel_rfl) cs
theorem fv_39_3 (cs : Array Value) : fieldV Tryz.prog 39 3 cs = cs[3]? := fieldV_one (by kernel_rfl) cs
theorem it_53 : intT Tryz.prog 53 = some .i8 := nr (by kernel_rfl)
theorem ld_21 (w : World) (b o : Nat) : loadOf Tryz.prog 21 w ⟨b,o,none⟩ = (blk w b).bind fun x => x.1[o]? := loadOf_one (by kernel_rfl) w b o
theorem ld_31 (w : World) (b o : Nat) : loadOf Tryz.prog 31 w ⟨b,o,none⟩ = (blk w b).bind fun x => cellsAt x.1 o 2 := loadOf_agg (by kernel_rfl) w b o
theorem ld_45 (w : World) (b o : Nat) : loadOf Tryz.prog 45 w ⟨b,o,none⟩ = (blk w b).bind fun x => x.1[o]? := loadOf_one (by kernel_rfl) w b o
theorem ld_52 (w : World) (b o : Nat) : loadOf Tryz.prog 52 w ⟨b,o,none⟩ = (blk w b).bind fun x => x.1[o]? := loadOf_one (by kernel_rfl) w b o
theorem ld_53 (w : World) (b o : Nat) : loadOf Tryz.prog 53 w ⟨b,o,none⟩ = (blk w b).bind fun x => x.1[o]? := loadOf_one (by kernel_rfl) w b o
theorem ld_54 (w : World) (b o : Nat) : loadOf Tryz.prog 54 w ⟨b,o,none⟩ = (blk w b).bind fun x => x.1[o]? := loadOf_one (by kernel_rfl) w b o
theorem ld_55 (w : World) (b o : Nat) : loadOf Tryz.prog 55 w ⟨b,o,none⟩ = (blk w b).bind fun x => x.1[o]? := loadOf_one (by kernel_rfl) w b o
theorem ld_67 (w : World) (b o : Nat) : loadOf Tryz.prog 67 w ⟨b,o,none⟩ = (blk w b).bind fun x => cellsAt x.1 o 2 := loadOf_agg (by kernel_rfl) w b o
theorem ld_76 (w : World) (b o : Nat) : loadOf Tryz.prog 76 w ⟨b,o,none⟩ = (blk w b).bind fun x => x.1[o]? := loadOf_one (by kernel_rfl) w b o
theorem ld_78 (w : World) (b o : Nat) : loadOf Tryz.prog 78 w ⟨b,o,none⟩ = (blk w b).bind fun x => cellsAt x.1 o 18 := loadOf_agg (by kernel_rfl) w b o
theorem ld_80 (w : World) (b o : Nat) : loadOf Tryz.prog 80 w ⟨b,o,none⟩ = (blk w b).bind fun x => x.1[o]? := loadOf_one (by kernel_rfl) w b o
theorem ld_82 (w : World) (b o : Nat) : loadOf Tryz.prog 82 w ⟨b,o,none⟩ = (blk w b).bind fun x => cellsAt x.1 o 18 := loadOf_agg (by kernel_rfl) w b o
theorem ld_93 (w : World) (b o : Nat) : loadOf Tryz.prog 93 w ⟨b,o,none⟩ = (blk w b).bind fun x => x.1[o]? := loadOf_one (by kernel_rfl) w b o
theorem ld_95 (w : World) (b o : Nat) : loadOf Tryz.prog 95 w ⟨b,o,none⟩ = (blk w b).bind fun x => cellsAt x.1 o 4 := loadOf_agg (by kernel_rfl) w b o
theorem ld_97 (w : World) (b o : Nat) : loadOf Tryz.prog 97 w ⟨b,o,none⟩ = (blk w b).bind fun x => x.1[o]? := loadOf_one (by kernel_rfl) w b o
theorem ld_99 (w : World) (b o : Nat) : loadOf Tryz.prog 99 w ⟨b,o,none⟩ = (blk w b).bind fun x => cellsAt x.1 o 4 := loadOf_agg (by kernel_rfl) w b o
theorem pl_31 : placesOf Tryz.prog 31 = some [(0,1),(1,1)] := nr (by kernel_rfl)
theorem pl_50 : placesOf Tryz.prog 50 = some [(0,1),(1,1),(2,1),(3,1),(4,1),(5,1),(6,1),(7,1)] := nr (by kernel_rfl)
theorem pl_60 : placesOf Tryz.prog 60 = some [(0,1),(1,1),(2,1),(3,1),(4,1),(5,1),(6,1),(7,1),(8,1),(9,1),(10,1),(11,1),(12,1),(13,1)] := nr (by kernel_rfl)
theorem se_29 : slElem Tryz.prog 29 = some (50,8) := nr (by kernel_rfl)
theorem se_54 : slElem Tryz.prog 54 = some (78,18) := nr (by kernel_rfl)
theorem se_55 : slElem Tryz.prog 55 = some (82,18) := nr (by kernel_rfl)
theorem se_76 : slElem Tryz.prog 76 = some (95,4) := nr (by kernel_rfl)
theorem se_80 : slElem Tryz.prog 80 = some (21,1) := nr (by kernel_rfl)
theorem se_93 : slElem Tryz.prog 93 = some (99,4) := nr (by kernel_rfl)
theorem se_97 : slElem Tryz.prog 97 = some (53,1) := nr (by kernel_rfl)
theorem sl_37 : isSliceT Tryz.prog 37 = true := nr (by kernel_rfl)
theorem sl_54 : isSliceT Tryz.prog 54 = true := nr (by kernel_rfl)
theorem sl_55 : isSliceT Tryz.prog 55 = true := nr (by kernel_rfl)
theorem sl_76 : isSliceT Tryz.prog 76 = true := nr (by kernel_rfl)
theorem sl_80 : isSliceT Tryz.prog 80 = true := nr (by kernel_rfl)
theorem sl_93 : isSliceT Tryz.prog 93 = true := nr (by kernel_rfl)
theorem sl_97 : isSliceT Tryz.prog 97 = true := nr (by kernel_rfl)
theorem sz_2 (w : World) (b o : Nat) (v : Value) : storeOf Tryz.prog 2 w ⟨b,o,none⟩ v = (blk w b).bind fun x => stO w b o v x 1 := storeOf_n (by kernel_rfl) w b o v
theorem sz_21 (w : World) (b o : Nat) (v : Value) : storeOf Tryz.prog 21 w ⟨b,o,none⟩ v = (blk w b).bind fun x => stO w b o v x 1 := storeOf_n (by kernel_rfl) w b o v
theorem sz_31 (w : World) (b o : Nat) (v : Value) : storeOf Tryz.prog 31 w ⟨b,o,none⟩ v = (blk w b).bind fun x => stO w b o v x 2 := storeOf_n (by kernel_rfl) w b o v
theorem sz_45 (w : World) (b o : Nat) (v : Value) : storeOf Tryz.prog 45 w ⟨b,o,none⟩ v = (blk w b).bind fun x => stO w b o v x 1 := storeOf_n (by kernel_rfl) w b o v
theorem sz_52 (w : World) (b o : Nat) (v : Value) : storeOf Tryz.prog 52 w ⟨b,o,none⟩ v = (blk w b).bind fun x => stO w b o v x 1 := storeOf_n (by kernel_rfl) w b o v
theorem sz_53 (w : World) (b o : Nat) (v : Value) : storeOf Tryz.prog 53 w ⟨b,o,none⟩ v = (blk w b).bind fun x => stO w b o v x 1 := storeOf_n (by kernel_rfl) w b o v
theorem sz_54 (w : World) (b o : Nat) (v : Value) : storeOf Tryz.prog 54 w ⟨b,o,none⟩ v = (blk w b).bind fun x => stO w b o v x 1 := storeOf_n (by kernel_rfl) w b o v
theorem sz_55 (w : World) (b o : Nat) (v : Value) : storeOf Tryz.prog 55 w ⟨b,o,none⟩ v = (blk w b).bind fun x => stO w b o v x 1 := storeOf_n (by kernel_rfl) w b o v
theorem sz_67 (w : World) (b o : Nat) (v : Value) : storeOf Tryz.prog 67 w ⟨b,o,none⟩ v = (blk w b).bind fun x => stO w b o v x 2 := storeOf_n (by kernel_rfl) w b o v
theorem sz_76 (w : World) (b o : Nat) (v : Value) : storeOf Tryz.prog 76 w ⟨b,o,none⟩ v = (blk w b).bind fun x => stO w b o v x 1 := storeOf_n (by kernel_rfl) w b o v
theorem sz_78 (w : World) (b o : Nat) (v : Value) : storeOf Tryz.prog 78 w ⟨b,o,none⟩ v = (blk w b).bind fun x => stO w b o v x 18 := storeOf_n (by kernel_rfl) w b o v
theorem sz_80 (w : World) (b o : Nat) (v : Value) : storeOf Tryz.prog 80 w ⟨b,o,none⟩ v = (blk w b).bind fun x => stO w b o v x 1 := storeOf_n (by kernel_rfl) w b o v
theorem sz_82 (w : World) (b o : Nat) (v : Value) : storeOf Tryz.prog 82 w ⟨b,o,none⟩ v = (blk w b).bind fun x => stO w b o v x 18 := storeOf_n (by kernel_rfl) w b o v
theorem sz_93 (w : World) (b o : Nat) (v : Value) : storeOf Tryz.prog 93 w ⟨b,o,none⟩ v = (blk w b).bind fun x => stO w b o v x 1 := storeOf_n (by kernel_rfl) w b o v
theorem sz_95 (w : World) (b o : Nat) (v : Value) : storeOf Tryz.prog 95 w ⟨b,o,none⟩ v = (blk w b).bind fun x => stO w b o v x 4 := storeOf_n (by kernel_rfl) w b o v
theorem sz_97 (w : World) (b o : Nat) (v : Value) : storeOf Tryz.prog 97 w ⟨b,o,none⟩ v = (blk w b).bind fun x => stO w b o v x 1 := storeOf_n (by kernel_rfl) w b o v
theorem sz_99 (w : World) (b o : Nat) (v : Value) : storeOf Tryz.prog 99 w ⟨b,o,none⟩ v = (blk w b).bind fun x => stO w b o v x 4 := storeOf_n (by kernel_rfl) w b o v
theorem z_31 : zeroOf Tryz.prog 31 = some #[.slice none 0 0,.int .i64 0] := nr (by kernel_rfl)
theorem z_60 : zeroOf Tryz.prog 60 = some #[.int .i16 0,.pointer none,.pointer none,.int .i32 0,.int .i32 0,.int .i32 0,.int .i32 0,.int .i32 0,.int .i32 0,.int .i8 0,.bool false,.slice none 0 0,.slice none 0 0,.map none] := nr (by kernel_rfl)
theorem z_78 : zeroOf Tryz.prog 78 = some #[.int .u8 0,.int .u8 0,.int .u8 0,.int .u8 0,.int .u8 0,.int .u8 0,.int .u8 0,.int .u8 0,.int .u8 0,.int .u8 0,.int .u8 0,.int .u8 0,.int .u8 0,.int .u8 0,.int .u8 0,.int .u8 0,.slice none 0 0,.map none] := nr (by kernel_rfl)
theorem z_82 : zeroOf Tryz.prog 82 = some #[.int .u8 0,.int .u8 0,.int .u8 0,.int .u8 0,.int .u8 0,.int .u8 0,.int .u8 0,.int .u8 0,.int .u8 0,.int .u8 0,.int .u8 0,.int .u8 0,.int .u8 0,.int .u8 0,.int .u8 0,.int .u8 0,.slice none 0 0,.map none] := nr (by kernel_rfl)
theorem z_95 : zeroOf Tryz.prog 95 = some #[.int .i32 0,.int .i32 0,.slice none 0 0,.map none] := nr (by kernel_rfl)
theorem z_99 : zeroOf Tryz.prog 99 = some #[.int .i64 0,.int .i64 0,.slice none 0 0,.map none] := nr (by kernel_rfl)
attribute [go_sem] ca_12 ca_14 ca_15 ca_16 ca_17 ca_18 ca_19 ca_20 ca_27 ca_28 ca_29 ca_30 ca_31 ca_32 ca_33 ca_34 ca_35 ca_37 ca_38 ca_39 ca_4 ca_40 ca_41 ca_42 ca_44 ca_45 ca_5 ca_53 ca_54 ca_55 ca_6 ca_68 ca_7 ca_9 es_37 es_54 es_55 es_76 es_80 es_93 es_97 fo_39_0 fo_60_0 fo_60_1 fo_60_10 fo_60_11 fo_60_12 fo_60_13 fo_60_2 fo_60_3 fo_60_4 fo_60_5 fo_60_6 fo_60_7 fo_60_8 fo_60_9 fo_67_0 fo_67_1 fo_78_0 fo_78_1 fo_78_2 fo_82_0 fo_82_1 fo_82_2 fo_95_0 fo_95_1 fo_95_2 fo_95_3 fo_99_0 fo_99_1 fo_99_2 fo_99_3 fv_39_0 fv_39_1 fv_39_2 fv_39_3 it_53 ld_21 ld_31 ld_45 ld_52 ld_53 ld_54 ld_55 ld_67 ld_76 ld_78 ld_80 ld_82 ld_93 ld_95 ld_97 ld_99 pl_31 pl_50 pl_60 se_29 se_54 se_55 se_76 se_80 se_93 se_97 sl_37 sl_54 sl_55 sl_76 sl_80 sl_93 sl_97 sz_2 sz_21 sz_31 sz_45 sz_52 sz_53 sz_54 sz_55 sz_67 sz_76 sz_78 sz_80 sz_82 sz_93 sz_95 sz_97 sz_99 z_31 z_60 z_78 z_82 z_95 z_99
end Ms

