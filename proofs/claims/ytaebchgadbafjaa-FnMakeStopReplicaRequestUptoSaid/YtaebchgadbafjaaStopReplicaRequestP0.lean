/- A part of the proof: see the last text. -/
import Derived.Test.YtaebchgadbafjaaC08
set_option linter.unusedSimpArgs false
set_option linter.unusedVariables false
namespace Ms
open Nat renaming reduceEqDiff → n0, reduceAdd → n1, reduceMul → n2, reduceSub → n3, reduceLT → n4, reduceLeDiff → n5
open Int renaming reduceEq → i0, reduceLT → i1, reduceLE → i2, reduceNeg → i3, reduceAdd → i4, reduceSub → i5, reduceMul → i6, reduceToNat → i7
set_option maxRecDepth 4000
open Go Go.Proofs
theorem ap_108_108 : AppT Try.prog 108 108 185 5 80 := AppT.of (by kernel_rfl)
theorem ap_182_182 : AppT Try.prog 182 182 21 1 4 := AppT.of (by kernel_rfl)
theorem ap_183_183 : AppT Try.prog 183 183 191 4 24 := AppT.of (by kernel_rfl)
theorem ca_100 : callable Try.prog 100 = true := nr (by kernel_rfl)
theorem ca_116 : callable Try.prog 116 = true := nr (by kernel_rfl)
theorem ca_118 : callable Try.prog 118 = true := nr (by kernel_rfl)
theorem ca_121 : callable Try.prog 121 = true := nr (by kernel_rfl)
theorem ca_122 : callable Try.prog 122 = true := nr (by kernel_rfl)
theorem ca_128 : callable Try.prog 128 = true := nr (by kernel_rfl)
theorem ca_129 : callable Try.prog 129 = true := nr (by kernel_rfl)
theorem ca_13 : callable Try.prog 13 = true := nr (by kernel_rfl)
theorem ca_139 : callable Try.prog 139 = true := nr (by kernel_rfl)
theorem ca_156 : callable Try.prog 156 = true := nr (by kernel_rfl)
theorem ca_157 : callable Try.prog 157 = true := nr (by kernel_rfl)
theorem ca_158 : callable Try.prog 158 = true := nr (by kernel_rfl)
theorem ca_159 : callable Try.prog 159 = true := nr (by kernel_rfl)
theorem ca_16 : callable Try.prog 16 = true := nr (by kernel_rfl)
theorem ca_181 : callable Try.prog 181 = true := nr (by kernel_rfl)
theorem ca_21 : callable Try.prog 21 = true := nr (by kernel_rfl)
theorem ca_40 : callable Try.prog 40 = true := nr (by kernel_rfl)
theorem ca_41 : callable Try.prog 41 = true := nr (by kernel_rfl)
theorem ca_42 : callable Try.prog 42 = true := nr (by kernel_rfl)
theorem ca_95 : callable Try.prog 95 = true := nr (by kernel_rfl)
theorem ca_96 : callable Try.prog 96 = true := nr (by kernel_rfl)
theorem ca_97 : callable Try.prog 97 = true := nr (by kernel_rfl)
theorem ca_98 : callable Try.prog 98 = true := nr (by kernel_rfl)
theorem ca_99 : callable Try.prog 99 = true := nr (by kernel_rfl)
theorem es_108 : elemSize Try.prog 108 = some 5 := nr (by kernel_rfl)
theorem es_182 : elemSize Try.prog 182 = some 1 := nr (by kernel_rfl)
theorem es_183 : elemSize Try.prog 183 = some 4 := nr (by kernel_rfl)
theorem es_37 : elemSize Try.prog 37 = some 2 := nr (by kernel_rfl)
theorem fo_110_0 : fieldOff Try.prog 110 0 = some 0 := nr (by kernel_rfl)
theorem fo_110_1 : fieldOff Try.prog 110 1 = some 1 := nr (by kernel_rfl)
theorem fo_110_2 : fieldOff Try.prog 110 2 = some 2 := nr (by kernel_rfl)
theorem fo_110_3 : fieldOff Try.prog 110 3 = some 3 := nr (by kernel_rfl)
theorem fo_110_4 : fieldOff Try.prog 110 4 = some 4 := nr (by kernel_rfl)
theorem fo_110_5 : fieldOff Try.prog 110 5 = some 5 := nr (by kernel_rfl)
theorem fo_110_6 : fieldOff Try.prog 110 6 = some 6 := nr (by kernel_rfl)
theorem fo_110_7 : fieldOff Try.prog 110 7 = some 7 := nr (by kernel_rfl)
theorem fo_185_0 : fieldOff Try.prog 185 0 = some 0 := nr (by kernel_rfl)
theorem fo_185_1 : fieldOff Try.prog 185 1 = some 1 := nr (by kernel_rfl)
theorem fo_185_2 : fieldOff Try.prog 185 2 = some 2 := nr (by kernel_rfl)
theorem fo_185_3 : fieldOff Try.prog 185 3 = some 3 := nr (by kernel_rfl)
theorem fo_185_4 : fieldOff Try.prog 185 4 = some 4 := nr (by kernel_rfl)
theorem fo_191_0 : fieldOff Try.prog 191 0 = some 0 := nr (by kernel_rfl)
theorem fo_191_1 : fieldOff Try.prog 191 1 = some 1 := nr (by kernel_rfl)
theorem fo_191_2 : fieldOff Try.prog 191 2 = some 2 := nr (by kernel_rfl)
theorem fo_191_3 : fieldOff Try.prog 191 3 = some 3 := nr (by kernel_rfl)
theorem fo_39_0 : fieldOff Try.prog 39 0 = some 0 := nr (by kernel_rfl)
theorem fo_64_0 : fieldOff Try.prog 64 0 = some 0 := nr (by kernel_rfl)
theorem fo_64_1 : fieldOff Try.prog 64 1 = some 1 := nr (by kernel_rfl)
theorem fv_39_0 (cs : Array Value) : fieldV Try.prog 39 0 cs = cs[0]? := fieldV_one (by kernel_rfl) cs
theorem fv_39_1 (cs : Array Value) : fieldV Try.prog 39 1 cs = cs[1]? := fieldV_one (by kernel_rfl) cs
theorem fv_39_2 (cs : Array Value) : fieldV Try.prog 39 2 cs = cs[2]? := fieldV_one (by kernel_rfl) cs
theorem fv_39_3 (cs : Array Value) : fieldV Try.prog 39 3 cs = cs[3]? := fieldV_one (by kernel_rfl) cs
theorem ld_108 (w : World) (b o : Nat) : loadOf Try.prog 108 w ⟨b, o, none⟩ = (blk w b).bind fun x => x.1[o]? := loadOf_one (by kernel_rfl) w b o
theorem ld_182 (w : World) (b o : Nat) : loadOf Try.prog 182 w ⟨b, o, none⟩ = (blk w b).bind fun x => x.1[o]? := loadOf_one (by kernel_rfl) w b o
theorem ld_183 (w : World) (b o : Nat) : loadOf Try.prog 183 w ⟨b, o, none⟩ = (blk w b).bind fun x => x.1[o]? := loadOf_one (by kernel_rfl) w b o
theorem ld_185 (w : World) (b o : Nat) : loadOf Try.prog 185 w ⟨b, o, none⟩ = (blk w b).bind fun x => cellsAt x.1 o 5 := loadOf_agg (by kernel_rfl) w b o
theorem ld_191 (w : World) (b o : Nat) : loadOf Try.prog 191 w ⟨b, o, none⟩ = (blk w b).bind fun x => cellsAt x.1 o 4 := loadOf_agg (by kernel_rfl) w b o
theorem ld_21 (w : World) (b o : Nat) : loadOf Try.prog 21 w ⟨b, o, none⟩ = (blk w b).bind fun x => x.1[o]? := loadOf_one (by kernel_rfl) w b o
theorem ld_31 (w : World) (b o : Nat) : loadOf Try.prog 31 w ⟨b, o, none⟩ = (blk w b).bind fun x => cellsAt x.1 o 2 := loadOf_agg (by kernel_rfl) w b o
theorem ld_45 (w : World) (b o : Nat) : loadOf Try.prog 45 w ⟨b, o, none⟩ = (blk w b).bind fun x => x.1[o]? := loadOf_one (by kernel_rfl) w b o
theorem ld_64 (w : World) (b o : Nat) : loadOf Try.prog 64 w ⟨b, o, none⟩ = (blk w b).bind fun x => cellsAt x.1 o 2 := loadOf_agg (by kernel_rfl) w b o
theorem pl_110 : placesOf Try.prog 110 = some [(0, 1), (1, 1), (2, 1), (3, 1), (4, 1), (5, 1), (6, 1), (7, 1)] := nr (by kernel_rfl)
theorem pl_31 : placesOf Try.prog 31 = some [(0, 1), (1, 1)] := nr (by kernel_rfl)
theorem pl_50 : placesOf Try.prog 50 = some [(0, 1), (1, 1), (2, 1), (3, 1), (4, 1), (5, 1), (6, 1), (7, 1)] := nr (by kernel_rfl)
theorem se_108 : slElem Try.prog 108 = some (185, 5) := nr (by kernel_rfl)
theorem se_182 : slElem Try.prog 182 = some (21, 1) := nr (by kernel_rfl)
theorem se_183 : slElem Try.prog 183 = some (191, 4) := nr (by kernel_rfl)
theorem se_29 : slElem Try.prog 29 = some (50, 8) := nr (by kernel_rfl)
theorem sl_108 : isSliceT Try.prog 108 = true := nr (by kernel_rfl)
theorem sl_182 : isSliceT Try.prog 182 = true := nr (by kernel_rfl)
theorem sl_183 : isSliceT Try.prog 183 = true := nr (by kernel_rfl)
theorem sl_37 : isSliceT Try.prog 37 = true := nr (by kernel_rfl)
theorem sz_108 (w : World) (b o : Nat) (v : Value) : storeOf Try.prog 108 w ⟨b, o, none⟩ v = (blk w b).bind fun x => stO w b o v x 1 := storeOf_n (by kernel_rfl) w b o v
theorem sz_182 (w : World) (b o : Nat) (v : Value) : storeOf Try.prog 182 w ⟨b, o, none⟩ v = (blk w b).bind fun x => stO w b o v x 1 := storeOf_n (by kernel_rfl) w b o v
theorem sz_183 (w : World) (b o : Nat) (v : Value) : storeOf Try.prog 183 w ⟨b, o, none⟩ v = (blk w b).bind fun x => stO w b o v x 1 := storeOf_n (by kernel_rfl) w b o v
theorem sz_185 (w : World) (b o : Nat) (v : Value) : storeOf Try.prog 185 w ⟨b, o, none⟩ v = (blk w b).bind fun x => stO w b o v x 5 := storeOf_n (by kernel_rfl) w b o v
theorem sz_191 (w : World) (b o : Nat) (v : Value) : storeOf Try.prog 191 w ⟨b, o, none⟩ v = (blk w b).bind fun x => stO w b o v x 4 := storeOf_n (by kernel_rfl) w b o v
theorem sz_2 (w : World) (b o : Nat) (v : Value) : storeOf Try.prog 2 w ⟨b, o, none⟩ v = (blk w b).bind fun x => stO w b o v x 1 := storeOf_n (by kernel_rfl) w b o v
theorem sz_21 (w : World) (b o : Nat) (v : Value) : storeOf Try.prog 21 w ⟨b, o, none⟩ v = (blk w b).bind fun x => stO w b o v x 1 := storeOf_n (by kernel_rfl) w b o v
theorem sz_31 (w : World) (b o : Nat) (v : Value) : storeOf Try.prog 31 w ⟨b, o, none⟩ v = (blk w b).bind fun x => stO w b o v x 2 := storeOf_n (by kernel_rfl) w b o v
theorem sz_45 (w : World) (b o : Nat) (v : Value) : storeOf Try.prog 45 w ⟨b, o, none⟩ v = (blk w b).bind fun x => stO w b o v x 1 := storeOf_n (by kernel_rfl) w b o v
theorem sz_64 (w : World) (b o : Nat) (v : Value) : storeOf Try.prog 64 w ⟨b, o, none⟩ v = (blk w b).bind fun x => stO w b o v x 2 := storeOf_n (by kernel_rfl) w b o v
theorem z_110 : zeroOf Try.prog 110 = some #[.int .i16 0, .int .i32 0, .int .i32 0, .bool false, .int .i64 0, .bool false, .slice none 0 0, .map none] := nr (by kernel_rfl)
theorem z_185 : zeroOf Try.prog 185 = some #[.string ByteArray.empty, .int .i32 0, .slice none 0 0, .slice none 0 0, .map none] := nr (by kernel_rfl)
theorem z_191 : zeroOf Try.prog 191 = some #[.int .i32 0, .int .i32 0, .bool false, .map none] := nr (by kernel_rfl)
theorem z_31 : zeroOf Try.prog 31 = some #[.slice none 0 0, .int .i64 0] := nr (by kernel_rfl)
attribute [go_sem] ca_100 ca_116 ca_118 ca_121 ca_122 ca_128 ca_129 ca_13 ca_139 ca_156 ca_157 ca_158 ca_159 ca_16 ca_181 ca_21 ca_40 ca_41 ca_42 ca_95 ca_96 ca_97 ca_98 ca_99 es_108 es_182 es_183 es_37 fo_110_0 fo_110_1 fo_110_2 fo_110_3 fo_110_4 fo_110_5 fo_110_6 fo_110_7 fo_185_0 fo_185_1 fo_185_2 fo_185_3 fo_185_4 fo_191_0 fo_191_1 fo_191_2 fo_191_3 fo_39_0 fo_64_0 fo_64_1 fv_39_0 fv_39_1 fv_39_2 fv_39_3 ld_108 ld_182 ld_183 ld_185 ld_191 ld_21 ld_31 ld_45 ld_64 pl_110 pl_31 pl_50 se_108 se_182 se_183 se_29 sl_108 sl_182 sl_183 sl_37 sz_108 sz_182 sz_183 sz_185 sz_191 sz_2 sz_21 sz_31 sz_45 sz_64 z_110 z_185 z_191 z_31
end Ms

