/- A part of the proof: see the last text. -/
import Derived.Test.YtohokpilmncmkaaMsOwn
import Derived.Test.YtohokpilmncmkaaMsA
import Derived.Test.YtohokpilmncmkaaProg
import Derived.KernelRfl
set_option linter.unusedSimpArgs false
set_option linter.unusedVariables false
namespace Ms
open Go Go.Proofs
theorem ap_22_22 : AppT Try.prog 22 22 5 1 1 := AppT.of (by kernel_rfl)
theorem ap_22_9 : AppT Try.prog 22 9 5 1 1 := AppT.of (by kernel_rfl)
theorem ap_23_23 : AppT Try.prog 23 23 26 5 88 := AppT.of (by kernel_rfl)
theorem ap_24_24 : AppT Try.prog 24 24 53 2 32 := AppT.of (by kernel_rfl)
theorem ap_34_34 : AppT Try.prog 34 34 37 5 88 := AppT.of (by kernel_rfl)
theorem ap_35_35 : AppT Try.prog 35 35 54 2 32 := AppT.of (by kernel_rfl)
theorem ca_10 : callable Try.prog 10 = true := nr (by kernel_rfl)
theorem ca_11 : callable Try.prog 11 = true := nr (by kernel_rfl)
theorem ca_12 : callable Try.prog 12 = true := nr (by kernel_rfl)
theorem ca_13 : callable Try.prog 13 = true := nr (by kernel_rfl)
theorem ca_14 : callable Try.prog 14 = true := nr (by kernel_rfl)
theorem ca_15 : callable Try.prog 15 = true := nr (by kernel_rfl)
theorem ca_16 : callable Try.prog 16 = true := nr (by kernel_rfl)
theorem ca_17 : callable Try.prog 17 = true := nr (by kernel_rfl)
theorem ca_18 : callable Try.prog 18 = true := nr (by kernel_rfl)
theorem ca_19 : callable Try.prog 19 = true := nr (by kernel_rfl)
theorem ca_20 : callable Try.prog 20 = true := nr (by kernel_rfl)
theorem ca_21 : callable Try.prog 21 = true := nr (by kernel_rfl)
theorem ca_22 : callable Try.prog 22 = true := nr (by kernel_rfl)
theorem ca_23 : callable Try.prog 23 = true := nr (by kernel_rfl)
theorem ca_24 : callable Try.prog 24 = true := nr (by kernel_rfl)
theorem ca_25 : callable Try.prog 25 = true := nr (by kernel_rfl)
theorem ca_26 : callable Try.prog 26 = true := nr (by kernel_rfl)
theorem ca_27 : callable Try.prog 27 = true := nr (by kernel_rfl)
theorem ca_28 : callable Try.prog 28 = true := nr (by kernel_rfl)
theorem ca_29 : callable Try.prog 29 = true := nr (by kernel_rfl)
theorem ca_30 : callable Try.prog 30 = true := nr (by kernel_rfl)
theorem ca_31 : callable Try.prog 31 = true := nr (by kernel_rfl)
theorem ca_32 : callable Try.prog 32 = true := nr (by kernel_rfl)
theorem ca_33 : callable Try.prog 33 = true := nr (by kernel_rfl)
theorem ca_34 : callable Try.prog 34 = true := nr (by kernel_rfl)
theorem ca_35 : callable Try.prog 35 = true := nr (by kernel_rfl)
theorem ca_4 : callable Try.prog 4 = true := nr (by kernel_rfl)
theorem ca_5 : callable Try.prog 5 = true := nr (by kernel_rfl)
theorem ca_6 : callable Try.prog 6 = true := nr (by kernel_rfl)
theorem ca_7 : callable Try.prog 7 = true := nr (by kernel_rfl)
theorem ca_8 : callable Try.prog 8 = true := nr (by kernel_rfl)
theorem ca_9 : callable Try.prog 9 = true := nr (by kernel_rfl)
theorem es_22 : elemSize Try.prog 22 = some 1 := nr (by kernel_rfl)
theorem es_23 : elemSize Try.prog 23 = some 5 := nr (by kernel_rfl)
theorem es_24 : elemSize Try.prog 24 = some 2 := nr (by kernel_rfl)
theorem es_28 : elemSize Try.prog 28 = some 8 := nr (by kernel_rfl)
theorem es_34 : elemSize Try.prog 34 = some 5 := nr (by kernel_rfl)
theorem fo_26_0 : fieldOff Try.prog 26 0 = some 0 := nr (by kernel_rfl)
theorem fo_26_1 : fieldOff Try.prog 26 1 = some 1 := nr (by kernel_rfl)
theorem fo_26_2 : fieldOff Try.prog 26 2 = some 2 := nr (by kernel_rfl)
theorem fo_26_3 : fieldOff Try.prog 26 3 = some 3 := nr (by kernel_rfl)
theorem fo_26_4 : fieldOff Try.prog 26 4 = some 4 := nr (by kernel_rfl)
theorem fo_30_0 : fieldOff Try.prog 30 0 = some 0 := nr (by kernel_rfl)
theorem fo_30_1 : fieldOff Try.prog 30 1 = some 1 := nr (by kernel_rfl)
theorem fo_37_3 : fieldOff Try.prog 37 3 = some 3 := nr (by kernel_rfl)
theorem fo_37_4 : fieldOff Try.prog 37 4 = some 4 := nr (by kernel_rfl)
theorem fo_44_0 : fieldOff Try.prog 44 0 = some 0 := nr (by kernel_rfl)
theorem fo_44_1 : fieldOff Try.prog 44 1 = some 1 := nr (by kernel_rfl)
theorem fo_44_2 : fieldOff Try.prog 44 2 = some 2 := nr (by kernel_rfl)
theorem fo_44_3 : fieldOff Try.prog 44 3 = some 3 := nr (by kernel_rfl)
theorem fo_44_4 : fieldOff Try.prog 44 4 = some 4 := nr (by kernel_rfl)
theorem fo_44_5 : fieldOff Try.prog 44 5 = some 5 := nr (by kernel_rfl)
theorem fo_44_6 : fieldOff Try.prog 44 6 = some 6 := nr (by kernel_rfl)
theorem fo_44_7 : fieldOff Try.prog 44 7 = some 7 := nr (by kernel_rfl)
theorem fo_48_0 : fieldOff Try.prog 48 0 = some 0 := nr (by kernel_rfl)
theorem fo_48_1 : fieldOff Try.prog 48 1 = some 1 := nr (by kernel_rfl)
theorem fo_53_0 : fieldOff Try.prog 53 0 = some 0 := nr (by kernel_rfl)
theorem fo_53_1 : fieldOff Try.prog 53 1 = some 1 := nr (by kernel_rfl)
theorem fv_37_1 (cs : Array Value) : fieldV Try.prog 37 1 cs = cs[1]? := fieldV_one (by kernel_rfl) cs
theorem it_3 : intT Try.prog 3 = some .i64 := nr (by kernel_rfl)
theorem it_46 : intT Try.prog 46 = some .i16 := nr (by kernel_rfl)
theorem it_5 : intT Try.prog 5 = some .u8 := nr (by kernel_rfl)
theorem it_51 : intT Try.prog 51 = some .u32 := nr (by kernel_rfl)
theorem it_68 : intT Try.prog 68 = some .u16 := nr (by kernel_rfl)
theorem it_73 : intT Try.prog 73 = some .u64 := nr (by kernel_rfl)
theorem kn_2 : knownT Try.prog 2 = true := nr (by kernel_rfl)
theorem kn_22 : knownT Try.prog 22 = true := nr (by kernel_rfl)
theorem kn_3 : knownT Try.prog 3 = true := nr (by kernel_rfl)
theorem kn_46 : knownT Try.prog 46 = true := nr (by kernel_rfl)
theorem kn_5 : knownT Try.prog 5 = true := nr (by kernel_rfl)
theorem kn_51 : knownT Try.prog 51 = true := nr (by kernel_rfl)
theorem kn_68 : knownT Try.prog 68 = true := nr (by kernel_rfl)
theorem kn_73 : knownT Try.prog 73 = true := nr (by kernel_rfl)
theorem ld_2 (w : World) (b o : Nat) : loadOf Try.prog 2 w ⟨b, o, none⟩ = (blk w b).bind fun x => x.1[o]? := loadOf_one (by kernel_rfl) w b o
theorem ld_22 (w : World) (b o : Nat) : loadOf Try.prog 22 w ⟨b, o, none⟩ = (blk w b).bind fun x => x.1[o]? := loadOf_one (by kernel_rfl) w b o
theorem ld_23 (w : World) (b o : Nat) : loadOf Try.prog 23 w ⟨b, o, none⟩ = (blk w b).bind fun x => x.1[o]? := loadOf_one (by kernel_rfl) w b o
theorem ld_24 (w : World) (b o : Nat) : loadOf Try.prog 24 w ⟨b, o, none⟩ = (blk w b).bind fun x => x.1[o]? := loadOf_one (by kernel_rfl) w b o
theorem ld_26 (w : World) (b o : Nat) : loadOf Try.prog 26 w ⟨b, o, none⟩ = (blk w b).bind fun x => cellsAt x.1 o 5 := loadOf_agg (by kernel_rfl) w b o
theorem ld_28 (w : World) (b o : Nat) : loadOf Try.prog 28 w ⟨b, o, none⟩ = (blk w b).bind fun x => x.1[o]? := loadOf_one (by kernel_rfl) w b o
theorem ld_3 (w : World) (b o : Nat) : loadOf Try.prog 3 w ⟨b, o, none⟩ = (blk w b).bind fun x => x.1[o]? := loadOf_one (by kernel_rfl) w b o
theorem ld_30 (w : World) (b o : Nat) : loadOf Try.prog 30 w ⟨b, o, none⟩ = (blk w b).bind fun x => cellsAt x.1 o 2 := loadOf_agg (by kernel_rfl) w b o
theorem ld_34 (w : World) (b o : Nat) : loadOf Try.prog 34 w ⟨b, o, none⟩ = (blk w b).bind fun x => x.1[o]? := loadOf_one (by kernel_rfl) w b o
theorem ld_35 (w : World) (b o : Nat) : loadOf Try.prog 35 w ⟨b, o, none⟩ = (blk w b).bind fun x => x.1[o]? := loadOf_one (by kernel_rfl) w b o
theorem ld_37 (w : World) (b o : Nat) : loadOf Try.prog 37 w ⟨b, o, none⟩ = (blk w b).bind fun x => cellsAt x.1 o 5 := loadOf_agg (by kernel_rfl) w b o
theorem ld_4 (w : World) (b o : Nat) : loadOf Try.prog 4 w ⟨b, o, none⟩ = (blk w b).bind fun x => x.1[o]? := loadOf_one (by kernel_rfl) w b o
theorem ld_44 (w : World) (b o : Nat) : loadOf Try.prog 44 w ⟨b, o, none⟩ = (blk w b).bind fun x => cellsAt x.1 o 8 := loadOf_agg (by kernel_rfl) w b o
theorem ld_46 (w : World) (b o : Nat) : loadOf Try.prog 46 w ⟨b, o, none⟩ = (blk w b).bind fun x => x.1[o]? := loadOf_one (by kernel_rfl) w b o
theorem ld_5 (w : World) (b o : Nat) : loadOf Try.prog 5 w ⟨b, o, none⟩ = (blk w b).bind fun x => x.1[o]? := loadOf_one (by kernel_rfl) w b o
theorem ld_51 (w : World) (b o : Nat) : loadOf Try.prog 51 w ⟨b, o, none⟩ = (blk w b).bind fun x => x.1[o]? := loadOf_one (by kernel_rfl) w b o
theorem ld_53 (w : World) (b o : Nat) : loadOf Try.prog 53 w ⟨b, o, none⟩ = (blk w b).bind fun x => cellsAt x.1 o 2 := loadOf_agg (by kernel_rfl) w b o
theorem ld_9 (w : World) (b o : Nat) : loadOf Try.prog 9 w ⟨b, o, none⟩ = (blk w b).bind fun x => x.1[o]? := loadOf_one (by kernel_rfl) w b o
theorem pl_26 : placesOf Try.prog 26 = some [(0, 1), (1, 1), (2, 1), (3, 1), (4, 1)] := nr (by kernel_rfl)
theorem pl_30 : placesOf Try.prog 30 = some [(0, 1), (1, 1)] := nr (by kernel_rfl)
theorem pl_37 : placesOf Try.prog 37 = some [(0, 1), (1, 1), (2, 1), (3, 1), (4, 1)] := nr (by kernel_rfl)
theorem pl_44 : placesOf Try.prog 44 = some [(0, 1), (1, 1), (2, 1), (3, 1), (4, 1), (5, 1), (6, 1), (7, 1)] := nr (by kernel_rfl)
theorem pl_48 : placesOf Try.prog 48 = some [(0, 1), (1, 1)] := nr (by kernel_rfl)
theorem pl_53 : placesOf Try.prog 53 = some [(0, 1), (1, 1)] := nr (by kernel_rfl)
theorem pl_54 : placesOf Try.prog 54 = some [(0, 1), (1, 1)] := nr (by kernel_rfl)
theorem se_22 : slElem Try.prog 22 = some (5, 1) := nr (by kernel_rfl)
theorem se_23 : slElem Try.prog 23 = some (26, 5) := nr (by kernel_rfl)
theorem se_24 : slElem Try.prog 24 = some (53, 2) := nr (by kernel_rfl)
theorem se_28 : slElem Try.prog 28 = some (44, 8) := nr (by kernel_rfl)
theorem se_34 : slElem Try.prog 34 = some (37, 5) := nr (by kernel_rfl)
theorem se_35 : slElem Try.prog 35 = some (54, 2) := nr (by kernel_rfl)
theorem sl_22 : isSliceT Try.prog 22 = true := nr (by kernel_rfl)
theorem sl_23 : isSliceT Try.prog 23 = true := nr (by kernel_rfl)
theorem sl_24 : isSliceT Try.prog 24 = true := nr (by kernel_rfl)
theorem sl_28 : isSliceT Try.prog 28 = true := nr (by kernel_rfl)
theorem sl_34 : isSliceT Try.prog 34 = true := nr (by kernel_rfl)
theorem st_9 : isStrT Try.prog 9 = true := nr (by kernel_rfl)
theorem sz_23 (w : World) (b o : Nat) (v : Value) : storeOf Try.prog 23 w ⟨b, o, none⟩ v = (blk w b).bind fun x => stO w b o v x 1 := storeOf_n (by kernel_rfl) w b o v
theorem sz_24 (w : World) (b o : Nat) (v : Value) : storeOf Try.prog 24 w ⟨b, o, none⟩ v = (blk w b).bind fun x => stO w b o v x 1 := storeOf_n (by kernel_rfl) w b o v
theorem sz_26 (w : World) (b o : Nat) (v : Value) : storeOf Try.prog 26 w ⟨b, o, none⟩ v = (blk w b).bind fun x => stO w b o v x 5 := storeOf_n (by kernel_rfl) w b o v
theorem sz_3 (w : World) (b o : Nat) (v : Value) : storeOf Try.prog 3 w ⟨b, o, none⟩ v = (blk w b).bind fun x => stO w b o v x 1 := storeOf_n (by kernel_rfl) w b o v
theorem sz_30 (w : World) (b o : Nat) (v : Value) : storeOf Try.prog 30 w ⟨b, o, none⟩ v = (blk w b).bind fun x => stO w b o v x 2 := storeOf_n (by kernel_rfl) w b o v
theorem sz_34 (w : World) (b o : Nat) (v : Value) : storeOf Try.prog 34 w ⟨b, o, none⟩ v = (blk w b).bind fun x => stO w b o v x 1 := storeOf_n (by kernel_rfl) w b o v
theorem sz_35 (w : World) (b o : Nat) (v : Value) : storeOf Try.prog 35 w ⟨b, o, none⟩ v = (blk w b).bind fun x => stO w b o v x 1 := storeOf_n (by kernel_rfl) w b o v
theorem sz_37 (w : World) (b o : Nat) (v : Value) : storeOf Try.prog 37 w ⟨b, o, none⟩ v = (blk w b).bind fun x => stO w b o v x 5 := storeOf_n (by kernel_rfl) w b o v
theorem sz_4 (w : World) (b o : Nat) (v : Value) : storeOf Try.prog 4 w ⟨b, o, none⟩ v = (blk w b).bind fun x => stO w b o v x 1 := storeOf_n (by kernel_rfl) w b o v
theorem sz_44 (w : World) (b o : Nat) (v : Value) : storeOf Try.prog 44 w ⟨b, o, none⟩ v = (blk w b).bind fun x => stO w b o v x 8 := storeOf_n (by kernel_rfl) w b o v
theorem sz_53 (w : World) (b o : Nat) (v : Value) : storeOf Try.prog 53 w ⟨b, o, none⟩ v = (blk w b).bind fun x => stO w b o v x 2 := storeOf_n (by kernel_rfl) w b o v
theorem sz_9 (w : World) (b o : Nat) (v : Value) : storeOf Try.prog 9 w ⟨b, o, none⟩ v = (blk w b).bind fun x => stO w b o v x 1 := storeOf_n (by kernel_rfl) w b o v
theorem z_26 : zeroOf Try.prog 26 = some #[.int .i64 0, .slice none 0 0, .bool false, .slice none 0 0, .slice none 0 0] := nr (by kernel_rfl)
theorem z_30 : zeroOf Try.prog 30 = some #[.slice none 0 0, .int .i64 0] := nr (by kernel_rfl)
theorem z_37 : zeroOf Try.prog 37 = some #[.int .i64 0, .slice none 0 0, .bool false, .slice none 0 0, .slice none 0 0] := nr (by kernel_rfl)
theorem z_44 : zeroOf Try.prog 44 = some #[.int .i64 0, .int .i64 0, .int .i64 0, .int .i64 0, .int .i64 0, .int .i64 0, .int .i64 0, .slice none 0 0] := nr (by kernel_rfl)
theorem z_48 : zeroOf Try.prog 48 = some #[.int .i16 0, .string ByteArray.empty] := nr (by kernel_rfl)
theorem z_53 : zeroOf Try.prog 53 = some #[.int .u32 0, .slice none 0 0] := nr (by kernel_rfl)
theorem z_54 : zeroOf Try.prog 54 = some #[.int .u32 0, .slice none 0 0] := nr (by kernel_rfl)
theorem mixed : Try.prog.follows .mixedOrders = true := by kernel_rfl
end Ms
