/- A part of the proof: see the last text. -/
import Derived.Test.YtaebchgadbafjaaC08
set_option linter.unusedSimpArgs false
set_option linter.unusedVariables false
namespace Ms
open Nat renaming reduceEqDiff → n0, reduceAdd → n1, reduceMul → n2, reduceSub → n3, reduceLT → n4, reduceLeDiff → n5
open Int renaming reduceEq → i0, reduceLT → i1, reduceLE → i2, reduceNeg → i3, reduceAdd → i4, reduceSub → i5, reduceMul → i6, reduceToNat → i7
set_option maxRecDepth 4000
open Go Go.Proofs
theorem ap_102_102 : AppT Try.prog 102 102 176 3 48 := AppT.of (by kernel_rfl)
theorem ap_174_174 : AppT Try.prog 174 174 181 7 64 := AppT.of (by kernel_rfl)
theorem ap_72_72 : AppT Try.prog 72 72 2 1 8 := AppT.of (by kernel_rfl)
theorem ca_116 : callable Try.prog 116 = true := nr (by kernel_rfl)
theorem ca_118 : callable Try.prog 118 = true := nr (by kernel_rfl)
theorem ca_121 : callable Try.prog 121 = true := nr (by kernel_rfl)
theorem ca_122 : callable Try.prog 122 = true := nr (by kernel_rfl)
theorem ca_128 : callable Try.prog 128 = true := nr (by kernel_rfl)
theorem ca_129 : callable Try.prog 129 = true := nr (by kernel_rfl)
theorem ca_13 : callable Try.prog 13 = true := nr (by kernel_rfl)
theorem ca_139 : callable Try.prog 139 = true := nr (by kernel_rfl)
theorem ca_153 : callable Try.prog 153 = true := nr (by kernel_rfl)
theorem ca_154 : callable Try.prog 154 = true := nr (by kernel_rfl)
theorem ca_155 : callable Try.prog 155 = true := nr (by kernel_rfl)
theorem ca_16 : callable Try.prog 16 = true := nr (by kernel_rfl)
theorem ca_180 : callable Try.prog 180 = true := nr (by kernel_rfl)
theorem ca_21 : callable Try.prog 21 = true := nr (by kernel_rfl)
theorem ca_37 : callable Try.prog 37 = true := nr (by kernel_rfl)
theorem ca_38 : callable Try.prog 38 = true := nr (by kernel_rfl)
theorem ca_39 : callable Try.prog 39 = true := nr (by kernel_rfl)
theorem ca_89 : callable Try.prog 89 = true := nr (by kernel_rfl)
theorem ca_90 : callable Try.prog 90 = true := nr (by kernel_rfl)
theorem ca_91 : callable Try.prog 91 = true := nr (by kernel_rfl)
theorem ca_92 : callable Try.prog 92 = true := nr (by kernel_rfl)
theorem ca_93 : callable Try.prog 93 = true := nr (by kernel_rfl)
theorem ca_94 : callable Try.prog 94 = true := nr (by kernel_rfl)
theorem es_102 : elemSize Try.prog 102 = some 3 := nr (by kernel_rfl)
theorem es_174 : elemSize Try.prog 174 = some 7 := nr (by kernel_rfl)
theorem es_37 : elemSize Try.prog 37 = some 2 := nr (by kernel_rfl)
theorem es_72 : elemSize Try.prog 72 = some 1 := nr (by kernel_rfl)
theorem fo_104_0 : fieldOff Try.prog 104 0 = some 0 := nr (by kernel_rfl)
theorem fo_104_1 : fieldOff Try.prog 104 1 = some 1 := nr (by kernel_rfl)
theorem fo_104_2 : fieldOff Try.prog 104 2 = some 2 := nr (by kernel_rfl)
theorem fo_104_3 : fieldOff Try.prog 104 3 = some 3 := nr (by kernel_rfl)
theorem fo_176_0 : fieldOff Try.prog 176 0 = some 0 := nr (by kernel_rfl)
theorem fo_176_1 : fieldOff Try.prog 176 1 = some 1 := nr (by kernel_rfl)
theorem fo_176_2 : fieldOff Try.prog 176 2 = some 2 := nr (by kernel_rfl)
theorem fo_181_0 : fieldOff Try.prog 181 0 = some 0 := nr (by kernel_rfl)
theorem fo_181_1 : fieldOff Try.prog 181 1 = some 1 := nr (by kernel_rfl)
theorem fo_181_2 : fieldOff Try.prog 181 2 = some 2 := nr (by kernel_rfl)
theorem fo_181_3 : fieldOff Try.prog 181 3 = some 3 := nr (by kernel_rfl)
theorem fo_181_4 : fieldOff Try.prog 181 4 = some 4 := nr (by kernel_rfl)
theorem fo_181_5 : fieldOff Try.prog 181 5 = some 5 := nr (by kernel_rfl)
theorem fo_181_6 : fieldOff Try.prog 181 6 = some 6 := nr (by kernel_rfl)
theorem fo_39_0 : fieldOff Try.prog 39 0 = some 0 := nr (by kernel_rfl)
theorem fo_64_0 : fieldOff Try.prog 64 0 = some 0 := nr (by kernel_rfl)
theorem fo_64_1 : fieldOff Try.prog 64 1 = some 1 := nr (by kernel_rfl)
theorem fv_39_0 (cs : Array Value) : fieldV Try.prog 39 0 cs = cs[0]? := fieldV_one (by kernel_rfl) cs
theorem fv_39_1 (cs : Array Value) : fieldV Try.prog 39 1 cs = cs[1]? := fieldV_one (by kernel_rfl) cs
theorem fv_39_2 (cs : Array Value) : fieldV Try.prog 39 2 cs = cs[2]? := fieldV_one (by kernel_rfl) cs
theorem fv_39_3 (cs : Array Value) : fieldV Try.prog 39 3 cs = cs[3]? := fieldV_one (by kernel_rfl) cs
theorem ld_102 (w : World) (b o : Nat) : loadOf Try.prog 102 w ⟨b, o, none⟩ = (blk w b).bind fun x => x.1[o]? := loadOf_one (by kernel_rfl) w b o
theorem ld_174 (w : World) (b o : Nat) : loadOf Try.prog 174 w ⟨b, o, none⟩ = (blk w b).bind fun x => x.1[o]? := loadOf_one (by kernel_rfl) w b o
theorem ld_176 (w : World) (b o : Nat) : loadOf Try.prog 176 w ⟨b, o, none⟩ = (blk w b).bind fun x => cellsAt x.1 o 3 := loadOf_agg (by kernel_rfl) w b o
theorem ld_181 (w : World) (b o : Nat) : loadOf Try.prog 181 w ⟨b, o, none⟩ = (blk w b).bind fun x => cellsAt x.1 o 7 := loadOf_agg (by kernel_rfl) w b o
theorem ld_21 (w : World) (b o : Nat) : loadOf Try.prog 21 w ⟨b, o, none⟩ = (blk w b).bind fun x => x.1[o]? := loadOf_one (by kernel_rfl) w b o
theorem ld_31 (w : World) (b o : Nat) : loadOf Try.prog 31 w ⟨b, o, none⟩ = (blk w b).bind fun x => cellsAt x.1 o 2 := loadOf_agg (by kernel_rfl) w b o
theorem ld_45 (w : World) (b o : Nat) : loadOf Try.prog 45 w ⟨b, o, none⟩ = (blk w b).bind fun x => x.1[o]? := loadOf_one (by kernel_rfl) w b o
theorem ld_64 (w : World) (b o : Nat) : loadOf Try.prog 64 w ⟨b, o, none⟩ = (blk w b).bind fun x => cellsAt x.1 o 2 := loadOf_agg (by kernel_rfl) w b o
theorem ld_72 (w : World) (b o : Nat) : loadOf Try.prog 72 w ⟨b, o, none⟩ = (blk w b).bind fun x => x.1[o]? := loadOf_one (by kernel_rfl) w b o
theorem pl_104 : placesOf Try.prog 104 = some [(0, 1), (1, 1), (2, 1), (3, 1)] := nr (by kernel_rfl)
theorem pl_31 : placesOf Try.prog 31 = some [(0, 1), (1, 1)] := nr (by kernel_rfl)
theorem pl_50 : placesOf Try.prog 50 = some [(0, 1), (1, 1), (2, 1), (3, 1), (4, 1), (5, 1), (6, 1), (7, 1)] := nr (by kernel_rfl)
theorem se_102 : slElem Try.prog 102 = some (176, 3) := nr (by kernel_rfl)
theorem se_174 : slElem Try.prog 174 = some (181, 7) := nr (by kernel_rfl)
theorem se_29 : slElem Try.prog 29 = some (50, 8) := nr (by kernel_rfl)
theorem se_72 : slElem Try.prog 72 = some (2, 1) := nr (by kernel_rfl)
theorem sl_102 : isSliceT Try.prog 102 = true := nr (by kernel_rfl)
theorem sl_174 : isSliceT Try.prog 174 = true := nr (by kernel_rfl)
theorem sl_37 : isSliceT Try.prog 37 = true := nr (by kernel_rfl)
theorem sl_72 : isSliceT Try.prog 72 = true := nr (by kernel_rfl)
theorem sz_102 (w : World) (b o : Nat) (v : Value) : storeOf Try.prog 102 w ⟨b, o, none⟩ v = (blk w b).bind fun x => stO w b o v x 1 := storeOf_n (by kernel_rfl) w b o v
theorem sz_174 (w : World) (b o : Nat) (v : Value) : storeOf Try.prog 174 w ⟨b, o, none⟩ v = (blk w b).bind fun x => stO w b o v x 1 := storeOf_n (by kernel_rfl) w b o v
theorem sz_176 (w : World) (b o : Nat) (v : Value) : storeOf Try.prog 176 w ⟨b, o, none⟩ v = (blk w b).bind fun x => stO w b o v x 3 := storeOf_n (by kernel_rfl) w b o v
theorem sz_181 (w : World) (b o : Nat) (v : Value) : storeOf Try.prog 181 w ⟨b, o, none⟩ v = (blk w b).bind fun x => stO w b o v x 7 := storeOf_n (by kernel_rfl) w b o v
theorem sz_2 (w : World) (b o : Nat) (v : Value) : storeOf Try.prog 2 w ⟨b, o, none⟩ v = (blk w b).bind fun x => stO w b o v x 1 := storeOf_n (by kernel_rfl) w b o v
theorem sz_21 (w : World) (b o : Nat) (v : Value) : storeOf Try.prog 21 w ⟨b, o, none⟩ v = (blk w b).bind fun x => stO w b o v x 1 := storeOf_n (by kernel_rfl) w b o v
theorem sz_31 (w : World) (b o : Nat) (v : Value) : storeOf Try.prog 31 w ⟨b, o, none⟩ v = (blk w b).bind fun x => stO w b o v x 2 := storeOf_n (by kernel_rfl) w b o v
theorem sz_45 (w : World) (b o : Nat) (v : Value) : storeOf Try.prog 45 w ⟨b, o, none⟩ v = (blk w b).bind fun x => stO w b o v x 1 := storeOf_n (by kernel_rfl) w b o v
theorem sz_64 (w : World) (b o : Nat) (v : Value) : storeOf Try.prog 64 w ⟨b, o, none⟩ v = (blk w b).bind fun x => stO w b o v x 2 := storeOf_n (by kernel_rfl) w b o v
theorem sz_72 (w : World) (b o : Nat) (v : Value) : storeOf Try.prog 72 w ⟨b, o, none⟩ v = (blk w b).bind fun x => stO w b o v x 1 := storeOf_n (by kernel_rfl) w b o v
theorem z_104 : zeroOf Try.prog 104 = some #[.int .i16 0, .int .i32 0, .slice none 0 0, .map none] := nr (by kernel_rfl)
theorem z_176 : zeroOf Try.prog 176 = some #[.string ByteArray.empty, .slice none 0 0, .map none] := nr (by kernel_rfl)
theorem z_181 : zeroOf Try.prog 181 = some #[.int .i32 0, .int .i16 0, .slice none 0 0, .int .i64 0, .int .i64 0, .int .i32 0, .map none] := nr (by kernel_rfl)
theorem z_31 : zeroOf Try.prog 31 = some #[.slice none 0 0, .int .i64 0] := nr (by kernel_rfl)
attribute [go_sem] ca_116 ca_118 ca_121 ca_122 ca_128 ca_129 ca_13 ca_139 ca_153 ca_154 ca_155 ca_16 ca_180 ca_21 ca_37 ca_38 ca_39 ca_89 ca_90 ca_91 ca_92 ca_93 ca_94 es_102 es_174 es_37 es_72 fo_104_0 fo_104_1 fo_104_2 fo_104_3 fo_176_0 fo_176_1 fo_176_2 fo_181_0 fo_181_1 fo_181_2 fo_181_3 fo_181_4 fo_181_5 fo_181_6 fo_39_0 fo_64_0 fo_64_1 fv_39_0 fv_39_1 fv_39_2 fv_39_3 ld_102 ld_174 ld_176 ld_181 ld_21 ld_31 ld_45 ld_64 ld_72 pl_104 pl_31 pl_50 se_102 se_174 se_29 se_72 sl_102 sl_174 sl_37 sl_72 sz_102 sz_174 sz_176 sz_181 sz_2 sz_21 sz_31 sz_45 sz_64 sz_72 z_104 z_176 z_181 z_31
end Ms

