/- A part of the proof: see the last text. -/
import Derived.Test.YtaebchgadbafjaaC08
set_option linter.unusedSimpArgs false
set_option linter.unusedVariables false
namespace Ms
open Nat renaming reduceEqDiff → n0, reduceAdd → n1, reduceMul → n2, reduceSub → n3, reduceLT → n4, reduceLeDiff → n5
open Int renaming reduceEq → i0, reduceLT → i1, reduceLE → i2, reduceNeg → i3, reduceAdd → i4, reduceSub → i5, reduceMul → i6, reduceToNat → i7
set_option maxRecDepth 4000
open Go Go.Proofs
theorem ap_114_114 : AppT Try.prog 114 114 194 3 48 := AppT.of (by kernel_rfl)
theorem ap_115_115 : AppT Try.prog 115 115 198 4 48 := AppT.of (by kernel_rfl)
theorem ap_192_192 : AppT Try.prog 192 192 203 20 40 := AppT.of (by kernel_rfl)
theorem ca_101 : callable Try.prog 101 = true := nr (by kernel_rfl)
theorem ca_102 : callable Try.prog 102 = true := nr (by kernel_rfl)
theorem ca_103 : callable Try.prog 103 = true := nr (by kernel_rfl)
theorem ca_104 : callable Try.prog 104 = true := nr (by kernel_rfl)
theorem ca_105 : callable Try.prog 105 = true := nr (by kernel_rfl)
theorem ca_106 : callable Try.prog 106 = true := nr (by kernel_rfl)
theorem ca_107 : callable Try.prog 107 = true := nr (by kernel_rfl)
theorem ca_116 : callable Try.prog 116 = true := nr (by kernel_rfl)
theorem ca_118 : callable Try.prog 118 = true := nr (by kernel_rfl)
theorem ca_121 : callable Try.prog 121 = true := nr (by kernel_rfl)
theorem ca_122 : callable Try.prog 122 = true := nr (by kernel_rfl)
theorem ca_125 : callable Try.prog 125 = true := nr (by kernel_rfl)
theorem ca_126 : callable Try.prog 126 = true := nr (by kernel_rfl)
theorem ca_128 : callable Try.prog 128 = true := nr (by kernel_rfl)
theorem ca_129 : callable Try.prog 129 = true := nr (by kernel_rfl)
theorem ca_13 : callable Try.prog 13 = true := nr (by kernel_rfl)
theorem ca_138 : callable Try.prog 138 = true := nr (by kernel_rfl)
theorem ca_152 : callable Try.prog 152 = true := nr (by kernel_rfl)
theorem ca_16 : callable Try.prog 16 = true := nr (by kernel_rfl)
theorem ca_160 : callable Try.prog 160 = true := nr (by kernel_rfl)
theorem ca_161 : callable Try.prog 161 = true := nr (by kernel_rfl)
theorem ca_162 : callable Try.prog 162 = true := nr (by kernel_rfl)
theorem ca_163 : callable Try.prog 163 = true := nr (by kernel_rfl)
theorem ca_179 : callable Try.prog 179 = true := nr (by kernel_rfl)
theorem ca_182 : callable Try.prog 182 = true := nr (by kernel_rfl)
theorem ca_21 : callable Try.prog 21 = true := nr (by kernel_rfl)
theorem ca_43 : callable Try.prog 43 = true := nr (by kernel_rfl)
theorem ca_44 : callable Try.prog 44 = true := nr (by kernel_rfl)
theorem ca_45 : callable Try.prog 45 = true := nr (by kernel_rfl)
theorem es_114 : elemSize Try.prog 114 = some 3 := nr (by kernel_rfl)
theorem es_115 : elemSize Try.prog 115 = some 4 := nr (by kernel_rfl)
theorem es_192 : elemSize Try.prog 192 = some 20 := nr (by kernel_rfl)
theorem es_37 : elemSize Try.prog 37 = some 2 := nr (by kernel_rfl)
theorem fo_117_0 : fieldOff Try.prog 117 0 = some 0 := nr (by kernel_rfl)
theorem fo_117_1 : fieldOff Try.prog 117 1 = some 1 := nr (by kernel_rfl)
theorem fo_117_2 : fieldOff Try.prog 117 2 = some 2 := nr (by kernel_rfl)
theorem fo_117_3 : fieldOff Try.prog 117 3 = some 3 := nr (by kernel_rfl)
theorem fo_117_4 : fieldOff Try.prog 117 4 = some 4 := nr (by kernel_rfl)
theorem fo_117_5 : fieldOff Try.prog 117 5 = some 5 := nr (by kernel_rfl)
theorem fo_194_0 : fieldOff Try.prog 194 0 = some 0 := nr (by kernel_rfl)
theorem fo_194_1 : fieldOff Try.prog 194 1 = some 1 := nr (by kernel_rfl)
theorem fo_194_2 : fieldOff Try.prog 194 2 = some 2 := nr (by kernel_rfl)
theorem fo_198_0 : fieldOff Try.prog 198 0 = some 0 := nr (by kernel_rfl)
theorem fo_198_1 : fieldOff Try.prog 198 1 = some 1 := nr (by kernel_rfl)
theorem fo_198_2 : fieldOff Try.prog 198 2 = some 2 := nr (by kernel_rfl)
theorem fo_198_3 : fieldOff Try.prog 198 3 = some 3 := nr (by kernel_rfl)
theorem fo_203_0 : fieldOff Try.prog 203 0 = some 0 := nr (by kernel_rfl)
theorem fo_203_1 : fieldOff Try.prog 203 1 = some 1 := nr (by kernel_rfl)
theorem fo_203_2 : fieldOff Try.prog 203 2 = some 17 := nr (by kernel_rfl)
theorem fo_203_3 : fieldOff Try.prog 203 3 = some 18 := nr (by kernel_rfl)
theorem fo_203_4 : fieldOff Try.prog 203 4 = some 19 := nr (by kernel_rfl)
theorem fo_64_0 : fieldOff Try.prog 64 0 = some 0 := nr (by kernel_rfl)
theorem fo_64_1 : fieldOff Try.prog 64 1 = some 1 := nr (by kernel_rfl)
theorem fv_39_0 (cs : Array Value) : fieldV Try.prog 39 0 cs = cs[0]? := fieldV_one (by kernel_rfl) cs
theorem fv_39_1 (cs : Array Value) : fieldV Try.prog 39 1 cs = cs[1]? := fieldV_one (by kernel_rfl) cs
theorem fv_39_2 (cs : Array Value) : fieldV Try.prog 39 2 cs = cs[2]? := fieldV_one (by kernel_rfl) cs
theorem fv_39_3 (cs : Array Value) : fieldV Try.prog 39 3 cs = cs[3]? := fieldV_one (by kernel_rfl) cs
theorem ld_114 (w : World) (b o : Nat) : loadOf Try.prog 114 w ⟨b, o, none⟩ = (blk w b).bind fun x => x.1[o]? := loadOf_one (by kernel_rfl) w b o
theorem ld_115 (w : World) (b o : Nat) : loadOf Try.prog 115 w ⟨b, o, none⟩ = (blk w b).bind fun x => x.1[o]? := loadOf_one (by kernel_rfl) w b o
theorem ld_192 (w : World) (b o : Nat) : loadOf Try.prog 192 w ⟨b, o, none⟩ = (blk w b).bind fun x => x.1[o]? := loadOf_one (by kernel_rfl) w b o
theorem ld_194 (w : World) (b o : Nat) : loadOf Try.prog 194 w ⟨b, o, none⟩ = (blk w b).bind fun x => cellsAt x.1 o 3 := loadOf_agg (by kernel_rfl) w b o
theorem ld_196 (w : World) (b o : Nat) : loadOf Try.prog 196 w ⟨b, o, none⟩ = (blk w b).bind fun x => x.1[o]? := loadOf_one (by kernel_rfl) w b o
theorem ld_198 (w : World) (b o : Nat) : loadOf Try.prog 198 w ⟨b, o, none⟩ = (blk w b).bind fun x => cellsAt x.1 o 4 := loadOf_agg (by kernel_rfl) w b o
theorem ld_203 (w : World) (b o : Nat) : loadOf Try.prog 203 w ⟨b, o, none⟩ = (blk w b).bind fun x => cellsAt x.1 o 20 := loadOf_agg (by kernel_rfl) w b o
theorem ld_21 (w : World) (b o : Nat) : loadOf Try.prog 21 w ⟨b, o, none⟩ = (blk w b).bind fun x => x.1[o]? := loadOf_one (by kernel_rfl) w b o
theorem ld_31 (w : World) (b o : Nat) : loadOf Try.prog 31 w ⟨b, o, none⟩ = (blk w b).bind fun x => cellsAt x.1 o 2 := loadOf_agg (by kernel_rfl) w b o
theorem ld_45 (w : World) (b o : Nat) : loadOf Try.prog 45 w ⟨b, o, none⟩ = (blk w b).bind fun x => x.1[o]? := loadOf_one (by kernel_rfl) w b o
theorem ld_64 (w : World) (b o : Nat) : loadOf Try.prog 64 w ⟨b, o, none⟩ = (blk w b).bind fun x => cellsAt x.1 o 2 := loadOf_agg (by kernel_rfl) w b o
theorem ld_73 (w : World) (b o : Nat) : loadOf Try.prog 73 w ⟨b, o, none⟩ = (blk w b).bind fun x => x.1[o]? := loadOf_one (by kernel_rfl) w b o
theorem pl_117 : placesOf Try.prog 117 = some [(0, 1), (1, 1), (2, 1), (3, 1), (4, 1), (5, 1)] := nr (by kernel_rfl)
theorem pl_31 : placesOf Try.prog 31 = some [(0, 1), (1, 1)] := nr (by kernel_rfl)
theorem pl_50 : placesOf Try.prog 50 = some [(0, 1), (1, 1), (2, 1), (3, 1), (4, 1), (5, 1), (6, 1), (7, 1)] := nr (by kernel_rfl)
theorem se_114 : slElem Try.prog 114 = some (194, 3) := nr (by kernel_rfl)
theorem se_115 : slElem Try.prog 115 = some (198, 4) := nr (by kernel_rfl)
theorem se_192 : slElem Try.prog 192 = some (203, 20) := nr (by kernel_rfl)
theorem se_29 : slElem Try.prog 29 = some (50, 8) := nr (by kernel_rfl)
theorem sl_114 : isSliceT Try.prog 114 = true := nr (by kernel_rfl)
theorem sl_115 : isSliceT Try.prog 115 = true := nr (by kernel_rfl)
theorem sl_192 : isSliceT Try.prog 192 = true := nr (by kernel_rfl)
theorem sl_37 : isSliceT Try.prog 37 = true := nr (by kernel_rfl)
theorem sz_114 (w : World) (b o : Nat) (v : Value) : storeOf Try.prog 114 w ⟨b, o, none⟩ v = (blk w b).bind fun x => stO w b o v x 1 := storeOf_n (by kernel_rfl) w b o v
theorem sz_115 (w : World) (b o : Nat) (v : Value) : storeOf Try.prog 115 w ⟨b, o, none⟩ v = (blk w b).bind fun x => stO w b o v x 1 := storeOf_n (by kernel_rfl) w b o v
theorem sz_192 (w : World) (b o : Nat) (v : Value) : storeOf Try.prog 192 w ⟨b, o, none⟩ v = (blk w b).bind fun x => stO w b o v x 1 := storeOf_n (by kernel_rfl) w b o v
theorem sz_194 (w : World) (b o : Nat) (v : Value) : storeOf Try.prog 194 w ⟨b, o, none⟩ v = (blk w b).bind fun x => stO w b o v x 3 := storeOf_n (by kernel_rfl) w b o v
theorem sz_196 (w : World) (b o : Nat) (v : Value) : storeOf Try.prog 196 w ⟨b, o, none⟩ v = (blk w b).bind fun x => stO w b o v x 1 := storeOf_n (by kernel_rfl) w b o v
theorem sz_198 (w : World) (b o : Nat) (v : Value) : storeOf Try.prog 198 w ⟨b, o, none⟩ v = (blk w b).bind fun x => stO w b o v x 4 := storeOf_n (by kernel_rfl) w b o v
theorem sz_203 (w : World) (b o : Nat) (v : Value) : storeOf Try.prog 203 w ⟨b, o, none⟩ v = (blk w b).bind fun x => stO w b o v x 20 := storeOf_n (by kernel_rfl) w b o v
theorem sz_21 (w : World) (b o : Nat) (v : Value) : storeOf Try.prog 21 w ⟨b, o, none⟩ v = (blk w b).bind fun x => stO w b o v x 1 := storeOf_n (by kernel_rfl) w b o v
theorem sz_31 (w : World) (b o : Nat) (v : Value) : storeOf Try.prog 31 w ⟨b, o, none⟩ v = (blk w b).bind fun x => stO w b o v x 2 := storeOf_n (by kernel_rfl) w b o v
theorem sz_45 (w : World) (b o : Nat) (v : Value) : storeOf Try.prog 45 w ⟨b, o, none⟩ v = (blk w b).bind fun x => stO w b o v x 1 := storeOf_n (by kernel_rfl) w b o v
theorem sz_64 (w : World) (b o : Nat) (v : Value) : storeOf Try.prog 64 w ⟨b, o, none⟩ v = (blk w b).bind fun x => stO w b o v x 2 := storeOf_n (by kernel_rfl) w b o v
theorem sz_73 (w : World) (b o : Nat) (v : Value) : storeOf Try.prog 73 w ⟨b, o, none⟩ v = (blk w b).bind fun x => stO w b o v x 1 := storeOf_n (by kernel_rfl) w b o v
theorem z_117 : zeroOf Try.prog 117 = some #[.int .i16 0, .pointer none, .int .i32 0, .slice none 0 0, .slice none 0 0, .map none] := nr (by kernel_rfl)
theorem z_194 : zeroOf Try.prog 194 = some #[.string ByteArray.empty, .slice none 0 0, .map none] := nr (by kernel_rfl)
theorem z_198 : zeroOf Try.prog 198 = some #[.string ByteArray.empty, .string ByteArray.empty, .int .u16 0, .map none] := nr (by kernel_rfl)
theorem z_203 : zeroOf Try.prog 203 = some #[.int .i32 0, .int .u8 0, .int .u8 0, .int .u8 0, .int .u8 0, .int .u8 0, .int .u8 0, .int .u8 0, .int .u8 0, .int .u8 0, .int .u8 0, .int .u8 0, .int .u8 0, .int .u8 0, .int .u8 0, .int .u8 0, .int .u8 0, .int .i32 0, .int .i32 0, .map none] := nr (by kernel_rfl)
theorem z_31 : zeroOf Try.prog 31 = some #[.slice none 0 0, .int .i64 0] := nr (by kernel_rfl)
attribute [go_sem] ca_101 ca_102 ca_103 ca_104 ca_105 ca_106 ca_107 ca_116 ca_118 ca_121 ca_122 ca_125 ca_126 ca_128 ca_129 ca_13 ca_138 ca_152 ca_16 ca_160 ca_161 ca_162 ca_163 ca_179 ca_182 ca_21 ca_43 ca_44 ca_45 es_114 es_115 es_192 es_37 fo_117_0 fo_117_1 fo_117_2 fo_117_3 fo_117_4 fo_117_5 fo_194_0 fo_194_1 fo_194_2 fo_198_0 fo_198_1 fo_198_2 fo_198_3 fo_203_0 fo_203_1 fo_203_2 fo_203_3 fo_203_4 fo_64_0 fo_64_1 fv_39_0 fv_39_1 fv_39_2 fv_39_3 ld_114 ld_115 ld_192 ld_194 ld_196 ld_198 ld_203 ld_21 ld_31 ld_45 ld_64 ld_73 pl_117 pl_31 pl_50 se_114 se_115 se_192 se_29 sl_114 sl_115 sl_192 sl_37 sz_114 sz_115 sz_192 sz_194 sz_196 sz_198 sz_203 sz_21 sz_31 sz_45 sz_64 sz_73 z_117 z_194 z_198 z_203 z_31
end Ms

