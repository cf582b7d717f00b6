/- A part of the proof: see the last text. -/
import Derived.Test.YtaebchgadbafjaaC08
set_option linter.unusedSimpArgs false
set_option linter.unusedVariables false
namespace Ms
open Nat renaming reduceEqDiff → n0, reduceAdd → n1, reduceMul → n2, reduceSub → n3, reduceLT → n4, reduceLeDiff → n5
open Int renaming reduceEq → i0, reduceLT → i1, reduceLE → i2, reduceNeg → i3, reduceAdd → i4, reduceSub → i5, reduceMul → i6, reduceToNat → i7
set_option maxRecDepth 4000
open Go Go.Proofs
theorem ap_121_121 : AppT Try.prog 121 121 209 6 80 := AppT.of (by kernel_rfl)
theorem ap_182_182 : AppT Try.prog 182 182 21 1 4 := AppT.of (by kernel_rfl)
theorem ap_206_206 : AppT Try.prog 206 206 214 3 40 := AppT.of (by kernel_rfl)
theorem ap_207_207 : AppT Try.prog 207 207 217 3 32 := AppT.of (by kernel_rfl)
theorem ca_108 : callable Try.prog 108 = true := nr (by kernel_rfl)
theorem ca_109 : callable Try.prog 109 = true := nr (by kernel_rfl)
theorem ca_110 : callable Try.prog 110 = true := nr (by kernel_rfl)
theorem ca_111 : callable Try.prog 111 = true := nr (by kernel_rfl)
theorem ca_112 : callable Try.prog 112 = true := nr (by kernel_rfl)
theorem ca_113 : callable Try.prog 113 = true := nr (by kernel_rfl)
theorem ca_116 : callable Try.prog 116 = true := nr (by kernel_rfl)
theorem ca_118 : callable Try.prog 118 = true := nr (by kernel_rfl)
theorem ca_121 : callable Try.prog 121 = true := nr (by kernel_rfl)
theorem ca_122 : callable Try.prog 122 = true := nr (by kernel_rfl)
theorem ca_125 : callable Try.prog 125 = true := nr (by kernel_rfl)
theorem ca_126 : callable Try.prog 126 = true := nr (by kernel_rfl)
theorem ca_128 : callable Try.prog 128 = true := nr (by kernel_rfl)
theorem ca_129 : callable Try.prog 129 = true := nr (by kernel_rfl)
theorem ca_13 : callable Try.prog 13 = true := nr (by kernel_rfl)
theorem ca_138 : callable Try.prog 138 = true := nr (by kernel_rfl)
theorem ca_159 : callable Try.prog 159 = true := nr (by kernel_rfl)
theorem ca_16 : callable Try.prog 16 = true := nr (by kernel_rfl)
theorem ca_165 : callable Try.prog 165 = true := nr (by kernel_rfl)
theorem ca_166 : callable Try.prog 166 = true := nr (by kernel_rfl)
theorem ca_167 : callable Try.prog 167 = true := nr (by kernel_rfl)
theorem ca_168 : callable Try.prog 168 = true := nr (by kernel_rfl)
theorem ca_183 : callable Try.prog 183 = true := nr (by kernel_rfl)
theorem ca_184 : callable Try.prog 184 = true := nr (by kernel_rfl)
theorem ca_21 : callable Try.prog 21 = true := nr (by kernel_rfl)
theorem ca_46 : callable Try.prog 46 = true := nr (by kernel_rfl)
theorem ca_47 : callable Try.prog 47 = true := nr (by kernel_rfl)
theorem ca_48 : callable Try.prog 48 = true := nr (by kernel_rfl)
theorem es_121 : elemSize Try.prog 121 = some 6 := nr (by kernel_rfl)
theorem es_182 : elemSize Try.prog 182 = some 1 := nr (by kernel_rfl)
theorem es_206 : elemSize Try.prog 206 = some 3 := nr (by kernel_rfl)
theorem es_207 : elemSize Try.prog 207 = some 3 := nr (by kernel_rfl)
theorem es_37 : elemSize Try.prog 37 = some 2 := nr (by kernel_rfl)
theorem fo_123_0 : fieldOff Try.prog 123 0 = some 0 := nr (by kernel_rfl)
theorem fo_123_1 : fieldOff Try.prog 123 1 = some 1 := nr (by kernel_rfl)
theorem fo_123_2 : fieldOff Try.prog 123 2 = some 2 := nr (by kernel_rfl)
theorem fo_123_3 : fieldOff Try.prog 123 3 = some 3 := nr (by kernel_rfl)
theorem fo_123_4 : fieldOff Try.prog 123 4 = some 4 := nr (by kernel_rfl)
theorem fo_209_0 : fieldOff Try.prog 209 0 = some 0 := nr (by kernel_rfl)
theorem fo_209_1 : fieldOff Try.prog 209 1 = some 1 := nr (by kernel_rfl)
theorem fo_209_2 : fieldOff Try.prog 209 2 = some 2 := nr (by kernel_rfl)
theorem fo_209_3 : fieldOff Try.prog 209 3 = some 3 := nr (by kernel_rfl)
theorem fo_209_4 : fieldOff Try.prog 209 4 = some 4 := nr (by kernel_rfl)
theorem fo_209_5 : fieldOff Try.prog 209 5 = some 5 := nr (by kernel_rfl)
theorem fo_214_0 : fieldOff Try.prog 214 0 = some 0 := nr (by kernel_rfl)
theorem fo_214_1 : fieldOff Try.prog 214 1 = some 1 := nr (by kernel_rfl)
theorem fo_214_2 : fieldOff Try.prog 214 2 = some 2 := nr (by kernel_rfl)
theorem fo_217_0 : fieldOff Try.prog 217 0 = some 0 := nr (by kernel_rfl)
theorem fo_217_1 : fieldOff Try.prog 217 1 = some 1 := nr (by kernel_rfl)
theorem fo_217_2 : fieldOff Try.prog 217 2 = some 2 := nr (by kernel_rfl)
theorem fo_39_0 : fieldOff Try.prog 39 0 = some 0 := nr (by kernel_rfl)
theorem fo_64_0 : fieldOff Try.prog 64 0 = some 0 := nr (by kernel_rfl)
theorem fo_64_1 : fieldOff Try.prog 64 1 = some 1 := nr (by kernel_rfl)
theorem fv_39_0 (cs : Array Value) : fieldV Try.prog 39 0 cs = cs[0]? := fieldV_one (by kernel_rfl) cs
theorem fv_39_1 (cs : Array Value) : fieldV Try.prog 39 1 cs = cs[1]? := fieldV_one (by kernel_rfl) cs
theorem fv_39_2 (cs : Array Value) : fieldV Try.prog 39 2 cs = cs[2]? := fieldV_one (by kernel_rfl) cs
theorem fv_39_3 (cs : Array Value) : fieldV Try.prog 39 3 cs = cs[3]? := fieldV_one (by kernel_rfl) cs
theorem ld_121 (w : World) (b o : Nat) : loadOf Try.prog 121 w ⟨b, o, none⟩ = (blk w b).bind fun x => x.1[o]? := loadOf_one (by kernel_rfl) w b o
theorem ld_182 (w : World) (b o : Nat) : loadOf Try.prog 182 w ⟨b, o, none⟩ = (blk w b).bind fun x => x.1[o]? := loadOf_one (by kernel_rfl) w b o
theorem ld_206 (w : World) (b o : Nat) : loadOf Try.prog 206 w ⟨b, o, none⟩ = (blk w b).bind fun x => x.1[o]? := loadOf_one (by kernel_rfl) w b o
theorem ld_207 (w : World) (b o : Nat) : loadOf Try.prog 207 w ⟨b, o, none⟩ = (blk w b).bind fun x => x.1[o]? := loadOf_one (by kernel_rfl) w b o
theorem ld_209 (w : World) (b o : Nat) : loadOf Try.prog 209 w ⟨b, o, none⟩ = (blk w b).bind fun x => cellsAt x.1 o 6 := loadOf_agg (by kernel_rfl) w b o
theorem ld_21 (w : World) (b o : Nat) : loadOf Try.prog 21 w ⟨b, o, none⟩ = (blk w b).bind fun x => x.1[o]? := loadOf_one (by kernel_rfl) w b o
theorem ld_214 (w : World) (b o : Nat) : loadOf Try.prog 214 w ⟨b, o, none⟩ = (blk w b).bind fun x => cellsAt x.1 o 3 := loadOf_agg (by kernel_rfl) w b o
theorem ld_217 (w : World) (b o : Nat) : loadOf Try.prog 217 w ⟨b, o, none⟩ = (blk w b).bind fun x => cellsAt x.1 o 3 := loadOf_agg (by kernel_rfl) w b o
theorem ld_31 (w : World) (b o : Nat) : loadOf Try.prog 31 w ⟨b, o, none⟩ = (blk w b).bind fun x => cellsAt x.1 o 2 := loadOf_agg (by kernel_rfl) w b o
theorem ld_45 (w : World) (b o : Nat) : loadOf Try.prog 45 w ⟨b, o, none⟩ = (blk w b).bind fun x => x.1[o]? := loadOf_one (by kernel_rfl) w b o
theorem ld_64 (w : World) (b o : Nat) : loadOf Try.prog 64 w ⟨b, o, none⟩ = (blk w b).bind fun x => cellsAt x.1 o 2 := loadOf_agg (by kernel_rfl) w b o
theorem ld_73 (w : World) (b o : Nat) : loadOf Try.prog 73 w ⟨b, o, none⟩ = (blk w b).bind fun x => x.1[o]? := loadOf_one (by kernel_rfl) w b o
theorem pl_123 : placesOf Try.prog 123 = some [(0, 1), (1, 1), (2, 1), (3, 1), (4, 1)] := nr (by kernel_rfl)
theorem pl_31 : placesOf Try.prog 31 = some [(0, 1), (1, 1)] := nr (by kernel_rfl)
theorem pl_50 : placesOf Try.prog 50 = some [(0, 1), (1, 1), (2, 1), (3, 1), (4, 1), (5, 1), (6, 1), (7, 1)] := nr (by kernel_rfl)
theorem se_121 : slElem Try.prog 121 = some (209, 6) := nr (by kernel_rfl)
theorem se_182 : slElem Try.prog 182 = some (21, 1) := nr (by kernel_rfl)
theorem se_206 : slElem Try.prog 206 = some (214, 3) := nr (by kernel_rfl)
theorem se_207 : slElem Try.prog 207 = some (217, 3) := nr (by kernel_rfl)
theorem se_29 : slElem Try.prog 29 = some (50, 8) := nr (by kernel_rfl)
theorem sl_121 : isSliceT Try.prog 121 = true := nr (by kernel_rfl)
theorem sl_182 : isSliceT Try.prog 182 = true := nr (by kernel_rfl)
theorem sl_206 : isSliceT Try.prog 206 = true := nr (by kernel_rfl)
theorem sl_207 : isSliceT Try.prog 207 = true := nr (by kernel_rfl)
theorem sl_37 : isSliceT Try.prog 37 = true := nr (by kernel_rfl)
theorem sz_121 (w : World) (b o : Nat) (v : Value) : storeOf Try.prog 121 w ⟨b, o, none⟩ v = (blk w b).bind fun x => stO w b o v x 1 := storeOf_n (by kernel_rfl) w b o v
theorem sz_182 (w : World) (b o : Nat) (v : Value) : storeOf Try.prog 182 w ⟨b, o, none⟩ v = (blk w b).bind fun x => stO w b o v x 1 := storeOf_n (by kernel_rfl) w b o v
theorem sz_206 (w : World) (b o : Nat) (v : Value) : storeOf Try.prog 206 w ⟨b, o, none⟩ v = (blk w b).bind fun x => stO w b o v x 1 := storeOf_n (by kernel_rfl) w b o v
theorem sz_207 (w : World) (b o : Nat) (v : Value) : storeOf Try.prog 207 w ⟨b, o, none⟩ v = (blk w b).bind fun x => stO w b o v x 1 := storeOf_n (by kernel_rfl) w b o v
theorem sz_209 (w : World) (b o : Nat) (v : Value) : storeOf Try.prog 209 w ⟨b, o, none⟩ v = (blk w b).bind fun x => stO w b o v x 6 := storeOf_n (by kernel_rfl) w b o v
theorem sz_21 (w : World) (b o : Nat) (v : Value) : storeOf Try.prog 21 w ⟨b, o, none⟩ v = (blk w b).bind fun x => stO w b o v x 1 := storeOf_n (by kernel_rfl) w b o v
theorem sz_214 (w : World) (b o : Nat) (v : Value) : storeOf Try.prog 214 w ⟨b, o, none⟩ v = (blk w b).bind fun x => stO w b o v x 3 := storeOf_n (by kernel_rfl) w b o v
theorem sz_217 (w : World) (b o : Nat) (v : Value) : storeOf Try.prog 217 w ⟨b, o, none⟩ v = (blk w b).bind fun x => stO w b o v x 3 := storeOf_n (by kernel_rfl) w b o v
theorem sz_31 (w : World) (b o : Nat) (v : Value) : storeOf Try.prog 31 w ⟨b, o, none⟩ v = (blk w b).bind fun x => stO w b o v x 2 := storeOf_n (by kernel_rfl) w b o v
theorem sz_45 (w : World) (b o : Nat) (v : Value) : storeOf Try.prog 45 w ⟨b, o, none⟩ v = (blk w b).bind fun x => stO w b o v x 1 := storeOf_n (by kernel_rfl) w b o v
theorem sz_64 (w : World) (b o : Nat) (v : Value) : storeOf Try.prog 64 w ⟨b, o, none⟩ v = (blk w b).bind fun x => stO w b o v x 2 := storeOf_n (by kernel_rfl) w b o v
theorem sz_73 (w : World) (b o : Nat) (v : Value) : storeOf Try.prog 73 w ⟨b, o, none⟩ v = (blk w b).bind fun x => stO w b o v x 1 := storeOf_n (by kernel_rfl) w b o v
theorem z_123 : zeroOf Try.prog 123 = some #[.int .i16 0, .slice none 0 0, .int .i32 0, .bool false, .map none] := nr (by kernel_rfl)
theorem z_209 : zeroOf Try.prog 209 = some #[.string ByteArray.empty, .int .i32 0, .int .i16 0, .slice none 0 0, .slice none 0 0, .map none] := nr (by kernel_rfl)
theorem z_214 : zeroOf Try.prog 214 = some #[.int .i32 0, .slice none 0 0, .map none] := nr (by kernel_rfl)
theorem z_217 : zeroOf Try.prog 217 = some #[.string ByteArray.empty, .pointer none, .map none] := nr (by kernel_rfl)
theorem z_31 : zeroOf Try.prog 31 = some #[.slice none 0 0, .int .i64 0] := nr (by kernel_rfl)
attribute [go_sem] ca_108 ca_109 ca_110 ca_111 ca_112 ca_113 ca_116 ca_118 ca_121 ca_122 ca_125 ca_126 ca_128 ca_129 ca_13 ca_138 ca_159 ca_16 ca_165 ca_166 ca_167 ca_168 ca_183 ca_184 ca_21 ca_46 ca_47 ca_48 es_121 es_182 es_206 es_207 es_37 fo_123_0 fo_123_1 fo_123_2 fo_123_3 fo_123_4 fo_209_0 fo_209_1 fo_209_2 fo_209_3 fo_209_4 fo_209_5 fo_214_0 fo_214_1 fo_214_2 fo_217_0 fo_217_1 fo_217_2 fo_39_0 fo_64_0 fo_64_1 fv_39_0 fv_39_1 fv_39_2 fv_39_3 ld_121 ld_182 ld_206 ld_207 ld_209 ld_21 ld_214 ld_217 ld_31 ld_45 ld_64 ld_73 pl_123 pl_31 pl_50 se_121 se_182 se_206 se_207 se_29 sl_121 sl_182 sl_206 sl_207 sl_37 sz_121 sz_182 sz_206 sz_207 sz_209 sz_21 sz_214 sz_217 sz_31 sz_45 sz_64 sz_73 z_123 z_209 z_214 z_217 z_31
end Ms

