/- A part of the proof: see the last text. -/
import Derived.Test.YtcicbihkpkbbnaaGreatDoorC07
import Derived.Test.YtcicbihkpkbbnaaGreatDoorC09
import Derived.Test.YtcicbihkpkbbnaaGreatDoorC10
set_option linter.unusedSimpArgs false
set_option linter.unusedVariables false
namespace Ms
open Nat renaming reduceEqDiff → n0, reduceAdd → n1, reduceMul → n2, reduceSub → n3, reduceLT → n4, reduceLeDiff → n5
open Int renaming reduceEq → i0, reduceLT → i1, reduceLE → i2, reduceNeg → i3, reduceAdd → i4, reduceSub → i5, reduceMul → i6, reduceToNat → i7
set_option maxRecDepth 4000
open Go Go.Proofs
theorem ca_12 : callable Tryz.prog 12 = true := nr (by kernel_rfl)
theorem ca_13 : callable Tryz.prog 13 = true := nr (by kernel_rfl)
theorem ca_14 : callable Tryz.prog 14 = true := nr (by kernel_rfl)
theorem ca_16 : callable Tryz.prog 16 = true := nr (by kernel_rfl)
theorem ca_17 : callable Tryz.prog 17 = true := nr (by kernel_rfl)
theorem ca_18 : callable Tryz.prog 18 = true := nr (by kernel_rfl)
theorem ca_20 : callable Tryz.prog 20 = true := nr (by kernel_rfl)
theorem ca_21 : callable Tryz.prog 21 = true := nr (by kernel_rfl)
theorem ca_30 : callable Tryz.prog 30 = true := nr (by kernel_rfl)
theorem ca_32 : callable Tryz.prog 32 = true := nr (by kernel_rfl)
theorem ca_33 : callable Tryz.prog 33 = true := nr (by kernel_rfl)
theorem ca_37 : callable Tryz.prog 37 = true := nr (by kernel_rfl)
theorem ca_38 : callable Tryz.prog 38 = true := nr (by kernel_rfl)
theorem ca_39 : callable Tryz.prog 39 = true := nr (by kernel_rfl)
theorem ca_4 : callable Tryz.prog 4 = true := nr (by kernel_rfl)
theorem ca_41 : callable Tryz.prog 41 = true := nr (by kernel_rfl)
theorem ca_42 : callable Tryz.prog 42 = true := nr (by kernel_rfl)
theorem ca_43 : callable Tryz.prog 43 = true := nr (by kernel_rfl)
theorem ca_5 : callable Tryz.prog 5 = true := nr (by kernel_rfl)
theorem ca_51 : callable Tryz.prog 51 = true := nr (by kernel_rfl)
theorem ca_52 : callable Tryz.prog 52 = true := nr (by kernel_rfl)
theorem ca_53 : callable Tryz.prog 53 = true := nr (by kernel_rfl)
theorem ca_54 : callable Tryz.prog 54 = true := nr (by kernel_rfl)
theorem ca_55 : callable Tryz.prog 55 = true := nr (by kernel_rfl)
theorem ca_56 : callable Tryz.prog 56 = true := nr (by kernel_rfl)
theorem ca_57 : callable Tryz.prog 57 = true := nr (by kernel_rfl)
theorem ca_58 : callable Tryz.prog 58 = true := nr (by kernel_rfl)
theorem ca_59 : callable Tryz.prog 59 = true := nr (by kernel_rfl)
theorem ca_6 : callable Tryz.prog 6 = true := nr (by kernel_rfl)
theorem ca_60 : callable Tryz.prog 60 = true := nr (by kernel_rfl)
theorem ca_62 : callable Tryz.prog 62 = true := nr (by kernel_rfl)
theorem ca_63 : callable Tryz.prog 63 = true := nr (by kernel_rfl)
theorem ca_64 : callable Tryz.prog 64 = true := nr (by kernel_rfl)
theorem ca_65 : callable Tryz.prog 65 = true := nr (by kernel_rfl)
theorem ca_66 : callable Tryz.prog 66 = true := nr (by kernel_rfl)
theorem ca_67 : callable Tryz.prog 67 = true := nr (by kernel_rfl)
theorem ca_68 : callable Tryz.prog 68 = true := nr (by kernel_rfl)
theorem ca_7 : callable Tryz.prog 7 = true := nr (by kernel_rfl)
theorem ca_8 : callable Tryz.prog 8 = true := nr (by kernel_rfl)
theorem ca_9 : callable Tryz.prog 9 = true := nr (by kernel_rfl)
theorem es_57 : elemSize Tryz.prog 57 = some 3 := nr (by kernel_rfl)
theorem es_75 : elemSize Tryz.prog 75 = some 5 := nr (by kernel_rfl)
theorem es_81 : elemSize Tryz.prog 81 = some 7 := nr (by kernel_rfl)
theorem fo_62_0 : fieldOff Tryz.prog 62 0 = some 0 := nr (by kernel_rfl)
theorem fo_62_1 : fieldOff Tryz.prog 62 1 = some 1 := nr (by kernel_rfl)
theorem fo_62_2 : fieldOff Tryz.prog 62 2 = some 2 := nr (by kernel_rfl)
theorem fo_62_3 : fieldOff Tryz.prog 62 3 = some 3 := nr (by kernel_rfl)
theorem fo_77_0 : fieldOff Tryz.prog 77 0 = some 0 := nr (by kernel_rfl)
theorem fo_77_1 : fieldOff Tryz.prog 77 1 = some 1 := nr (by kernel_rfl)
theorem fo_77_2 : fieldOff Tryz.prog 77 2 = some 2 := nr (by kernel_rfl)
theorem fo_83_0 : fieldOff Tryz.prog 83 0 = some 0 := nr (by kernel_rfl)
theorem fo_83_1 : fieldOff Tryz.prog 83 1 = some 1 := nr (by kernel_rfl)
theorem fo_83_2 : fieldOff Tryz.prog 83 2 = some 2 := nr (by kernel_rfl)
theorem fo_83_3 : fieldOff Tryz.prog 83 3 = some 3 := nr (by kernel_rfl)
theorem fo_83_4 : fieldOff Tryz.prog 83 4 = some 4 := nr (by kernel_rfl)
theorem fo_88_0 : fieldOff Tryz.prog 88 0 = some 0 := nr (by kernel_rfl)
theorem fo_88_1 : fieldOff Tryz.prog 88 1 = some 1 := nr (by kernel_rfl)
theorem fo_88_2 : fieldOff Tryz.prog 88 2 = some 2 := nr (by kernel_rfl)
theorem fo_88_3 : fieldOff Tryz.prog 88 3 = some 3 := nr (by kernel_rfl)
theorem fo_88_4 : fieldOff Tryz.prog 88 4 = some 4 := nr (by kernel_rfl)
theorem fo_88_5 : fieldOff Tryz.prog 88 5 = some 5 := nr (by kernel_rfl)
theorem fo_88_6 : fieldOff Tryz.prog 88 6 = some 6 := nr (by kernel_rfl)
theorem if_50 : isIfaceT Tryz.prog 50 = true := nr (by kernel_rfl)
theorem ld_21 (w : World) (b o : Nat) : loadOf Tryz.prog 21 w ⟨b, o, none⟩ = (blk w b).bind fun x => x.1[o]? := loadOf_one (by kernel_rfl) w b o
theorem ld_31 (w : World) (b o : Nat) : loadOf Tryz.prog 31 w ⟨b, o, none⟩ = (blk w b).bind fun x => cellsAt x.1 o 2 := loadOf_agg (by kernel_rfl) w b o
theorem ld_40 (w : World) (b o : Nat) : loadOf Tryz.prog 40 w ⟨b, o, none⟩ = (blk w b).bind fun x => x.1[o]? := loadOf_one (by kernel_rfl) w b o
theorem ld_57 (w : World) (b o : Nat) : loadOf Tryz.prog 57 w ⟨b, o, none⟩ = (blk w b).bind fun x => x.1[o]? := loadOf_one (by kernel_rfl) w b o
theorem ld_75 (w : World) (b o : Nat) : loadOf Tryz.prog 75 w ⟨b, o, none⟩ = (blk w b).bind fun x => x.1[o]? := loadOf_one (by kernel_rfl) w b o
theorem ld_80 (w : World) (b o : Nat) : loadOf Tryz.prog 80 w ⟨b, o, none⟩ = (blk w b).bind fun x => x.1[o]? := loadOf_one (by kernel_rfl) w b o
theorem ld_81 (w : World) (b o : Nat) : loadOf Tryz.prog 81 w ⟨b, o, none⟩ = (blk w b).bind fun x => x.1[o]? := loadOf_one (by kernel_rfl) w b o
theorem pl_31 : placesOf Tryz.prog 31 = some [(0, 1), (1, 1)] := nr (by kernel_rfl)
theorem pl_45 : placesOf Tryz.prog 45 = some [(0, 1), (1, 1), (2, 1), (3, 1), (4, 1), (5, 1), (6, 1), (7, 1)] := nr (by kernel_rfl)
theorem pl_99 : placesOf Tryz.prog 99 = some [(0, 1), (1, 1)] := nr (by kernel_rfl)
theorem se_29 : slElem Tryz.prog 29 = some (45, 8) := nr (by kernel_rfl)
theorem sl_57 : isSliceT Tryz.prog 57 = true := nr (by kernel_rfl)
theorem sl_75 : isSliceT Tryz.prog 75 = true := nr (by kernel_rfl)
theorem sl_81 : isSliceT Tryz.prog 81 = true := nr (by kernel_rfl)
theorem sz_2 (w : World) (b o : Nat) (v : Value) : storeOf Tryz.prog 2 w ⟨b, o, none⟩ v = (blk w b).bind fun x => stO w b o v x 1 := storeOf_n (by kernel_rfl) w b o v
theorem sz_21 (w : World) (b o : Nat) (v : Value) : storeOf Tryz.prog 21 w ⟨b, o, none⟩ v = (blk w b).bind fun x => stO w b o v x 1 := storeOf_n (by kernel_rfl) w b o v
theorem sz_31 (w : World) (b o : Nat) (v : Value) : storeOf Tryz.prog 31 w ⟨b, o, none⟩ v = (blk w b).bind fun x => stO w b o v x 2 := storeOf_n (by kernel_rfl) w b o v
theorem sz_40 (w : World) (b o : Nat) (v : Value) : storeOf Tryz.prog 40 w ⟨b, o, none⟩ v = (blk w b).bind fun x => stO w b o v x 1 := storeOf_n (by kernel_rfl) w b o v
theorem sz_57 (w : World) (b o : Nat) (v : Value) : storeOf Tryz.prog 57 w ⟨b, o, none⟩ v = (blk w b).bind fun x => stO w b o v x 1 := storeOf_n (by kernel_rfl) w b o v
theorem sz_75 (w : World) (b o : Nat) (v : Value) : storeOf Tryz.prog 75 w ⟨b, o, none⟩ v = (blk w b).bind fun x => stO w b o v x 1 := storeOf_n (by kernel_rfl) w b o v
theorem sz_80 (w : World) (b o : Nat) (v : Value) : storeOf Tryz.prog 80 w ⟨b, o, none⟩ v = (blk w b).bind fun x => stO w b o v x 1 := storeOf_n (by kernel_rfl) w b o v
theorem sz_81 (w : World) (b o : Nat) (v : Value) : storeOf Tryz.prog 81 w ⟨b, o, none⟩ v = (blk w b).bind fun x => stO w b o v x 1 := storeOf_n (by kernel_rfl) w b o v
theorem sz_99 (w : World) (b o : Nat) (v : Value) : storeOf Tryz.prog 99 w ⟨b, o, none⟩ v = (blk w b).bind fun x => stO w b o v x 2 := storeOf_n (by kernel_rfl) w b o v
theorem z_31 : zeroOf Tryz.prog 31 = some #[.slice none 0 0, .int .i64 0] := nr (by kernel_rfl)
theorem z_62 : zeroOf Tryz.prog 62 = some #[.int .i16 0, .int .i32 0, .slice none 0 0, .map none] := nr (by kernel_rfl)
theorem z_99 : zeroOf Tryz.prog 99 = some #[.slice none 0 0, .bool false] := nr (by kernel_rfl)
attribute [go_sem] ca_12 ca_13 ca_14 ca_16 ca_17 ca_18 ca_20 ca_21 ca_30 ca_32 ca_33 ca_37 ca_38 ca_39 ca_4 ca_41 ca_42 ca_43 ca_5 ca_51 ca_52 ca_53 ca_54 ca_55 ca_56 ca_57 ca_58 ca_59 ca_6 ca_60 ca_62 ca_63 ca_64 ca_65 ca_66 ca_67 ca_68 ca_7 ca_8 ca_9 es_57 es_75 es_81 fo_62_0 fo_62_1 fo_62_2 fo_62_3 fo_77_0 fo_77_1 fo_77_2 fo_83_0 fo_83_1 fo_83_2 fo_83_3 fo_83_4 fo_88_0 fo_88_1 fo_88_2 fo_88_3 fo_88_4 fo_88_5 fo_88_6 if_50 ld_21 ld_31 ld_40 ld_57 ld_75 ld_80 ld_81 pl_31 pl_45 pl_99 se_29 sl_57 sl_75 sl_81 sz_2 sz_21 sz_31 sz_40 sz_57 sz_75 sz_80 sz_81 sz_99 z_31 z_62 z_99
end Ms

namespace Ms
open Nat renaming reduceEqDiff → n0, reduceAdd → n1, reduceMul → n2, reduceSub → n3, reduceLT → n4, reduceLeDiff → n5
open Int renaming reduceEq → i0, reduceLT → i1, reduceLE → i2, reduceNeg → i3, reduceAdd → i4, reduceSub → i5, reduceMul → i6, reduceToNat → i7
set_option maxRecDepth 8000
open Go Go.Proofs Go.Shelf
attribute [local congr] W_congr WPsq_congr WPp_congr optK_congr addrK_congr intK_congr boolK_congr sliceK_congr tupleK_congr funcK_congr Fn_congr rawK_congr takeK_congr stepK_congr convK_congr aggK_congr

def fDescribeProducersResponseTopicPartitionActiveProducer_0 : Fld := .mk 4 0 (-1) (-1) (-1) 0 0 []
def fDescribeProducersResponseTopicPartitionActiveProducer_1 : Fld := .mk 3 0 (-1) (-1) (-1) 0 0 []
def fDescribeProducersResponseTopicPartitionActiveProducer_2 : Fld := .mk 3 0 (-1) (-1) (-1) (-1) 0 []
def fDescribeProducersResponseTopicPartitionActiveProducer_3 : Fld := .mk 4 0 (-1) (-1) (-1) (-1) 0 []
def fDescribeProducersResponseTopicPartitionActiveProducer_4 : Fld := .mk 3 0 (-1) (-1) (-1) 0 0 []
def fDescribeProducersResponseTopicPartitionActiveProducer_5 : Fld := .mk 4 0 (-1) (-1) (-1) (-1) 0 []
def fs_DescribeProducersResponseTopicPartitionActiveProducer : List Fld := [fDescribeProducersResponseTopicPartitionActiveProducer_0, fDescribeProducersResponseTopicPartitionActiveProducer_1, fDescribeProducersResponseTopicPartitionActiveProducer_2, fDescribeProducersResponseTopicPartitionActiveProducer_3, fDescribeProducersResponseTopicPartitionActiveProducer_4, fDescribeProducersResponseTopicPartitionActiveProducer_5]
def fDescribeProducersResponseTopicPartition_0 : Fld := .mk 3 0 (-1) (-1) (-1) 0 0 []
def fDescribeProducersResponseTopicPartition_1 : Fld := .mk 2 0 (-1) (-1) (-1) 0 0 []
def fDescribeProducersResponseTopicPartition_2 : Fld := .mk 8 0 (-1) 0 (-1) 0 0 []
def fDescribeProducersResponseTopicPartition_3 : Fld := .mk 11 0 (-1) (-1) (-1) 0 10 fs_DescribeProducersResponseTopicPartitionActiveProducer
def fs_DescribeProducersResponseTopicPartition : List Fld := [fDescribeProducersResponseTopicPartition_0, fDescribeProducersResponseTopicPartition_1, fDescribeProducersResponseTopicPartition_2, fDescribeProducersResponseTopicPartition_3]
def fDescribeProducersResponseTopic_0 : Fld := .mk 8 0 (-1) (-1) (-1) 0 0 []
def fDescribeProducersResponseTopic_1 : Fld := .mk 11 0 (-1) (-1) (-1) 0 10 fs_DescribeProducersResponseTopicPartition
def fs_DescribeProducersResponseTopic : List Fld := [fDescribeProducersResponseTopic_0, fDescribeProducersResponseTopic_1]
def fDescribeProducersResponse_0 : Fld := .mk 3 0 (-1) (-1) (-1) 0 0 []
def fDescribeProducersResponse_1 : Fld := .mk 11 0 (-1) (-1) (-1) 0 10 fs_DescribeProducersResponseTopic
def fs_DescribeProducersResponse : List Fld := [fDescribeProducersResponse_0, fDescribeProducersResponse_1]

set_option maxHeartbeats 4000000 in
theorem cDescribeProducersResponseTopicPartitionActiveProducer_fn (w : World) : Fn Tryz.prog 43 #[] w fun r w' => FldsV (fun b => w.heap.size ≤ b) w' r fs_DescribeProducersResponseTopicPartitionActiveProducer ∧ Ext w w' := by
  refine fn_of_W Tryz.func43 rfl Tryz.results43 Tryz.ntmps43 rfl ?_
  repeat ((first | refine W.seqR rfl ?_ | refine W.seq ?_ | refine W.regR rfl ?_ | refine W.condK ?_ | refine W.block ?_ | refine W.skip ?_ | refine W.ret ?_ | refine W.exit ?_); try simp (maxSteps := 1000000) (disch := (first | omega | (simp only [World.size_alloc, size_wr, size_drew] <;> omega) | exact not_noB _)) only [go_sem, ↓reduceIte, n0, reduceCtorEq, n1, n2, n3, n4, n5, i0, i1, i2, i3, i4, i5, i6, i7, fill_fld, fillN_nil, fillN_int, fillN_slice])
  repeat ((first | refine W.seqR rfl ?_ | refine W.seq ?_ | refine W.regR rfl ?_ | refine W.condK ?_ | refine W.block ?_ | refine W.skip ?_ | refine W.ret ?_ | refine W.exit ?_); try simp (maxSteps := 1000000) (disch := (first | omega | (simp only [World.size_alloc, size_wr, size_drew] <;> omega) | exact not_noB _)) only [go_sem, ↓reduceIte, n0, reduceCtorEq, n1, n2, n3, n4, n5, i0, i1, i2, i3, i4, i5, i6, i7, fill_fld, fillN_nil, fillN_int, fillN_slice])
  exact ⟨FldsV.litO (fs := fs_DescribeProducersResponseTopicPartitionActiveProducer) (css := [[.int .i64 4, .int .i64 0, .int .i64 (-1), .int .i64 (-1), .int .i64 (-1), .int .i64 0, .int .i64 0, .slice none 0 0], [.int .i64 3, .int .i64 0, .int .i64 (-1), .int .i64 (-1), .int .i64 (-1), .int .i64 0, .int .i64 0, .slice none 0 0], [.int .i64 3, .int .i64 0, .int .i64 (-1), .int .i64 (-1), .int .i64 (-1), .int .i64 (-1), .int .i64 0, .slice none 0 0], [.int .i64 4, .int .i64 0, .int .i64 (-1), .int .i64 (-1), .int .i64 (-1), .int .i64 (-1), .int .i64 0, .slice none 0 0], [.int .i64 3, .int .i64 0, .int .i64 (-1), .int .i64 (-1), .int .i64 (-1), .int .i64 0, .int .i64 0, .slice none 0 0], [.int .i64 4, .int .i64 0, .int .i64 (-1), .int .i64 (-1), .int .i64 (-1), .int .i64 (-1), .int .i64 0, .slice none 0 0]]) (T := 45) (fr := (0, 0)) (by first | omega | (simp only [World.size_alloc]; omega)) (by first | (simp (maxSteps := 1000000) (disch := (first | omega | (simp only [World.size_alloc, size_wr, size_drew] <;> omega) | exact not_noB _)) only [go_sem, ↓reduceIte, n0, reduceCtorEq, n1, n2, n3, n4, n5, i0, i1, i2, i3, i4, i5, i6, i7]; rfl) | rfl) (by simp) (All2.cons (FldC.intro (kind := 4) (FldsV.none _ _)) (All2.cons (FldC.intro (kind := 3) (FldsV.none _ _)) (All2.cons (FldC.intro (kind := 3) (FldsV.none _ _)) (All2.cons (FldC.intro (kind := 4) (FldsV.none _ _)) (All2.cons (FldC.intro (kind := 3) (FldsV.none _ _)) (All2.cons (FldC.intro (kind := 4) (FldsV.none _ _)) All2.nil)))))), (Upd.alloc (Upd.refl _ w) _)⟩

set_option maxHeartbeats 4000000 in
theorem cDescribeProducersResponseTopicPartition_fn (w : World) : Fn Tryz.prog 21 #[] w fun r w' => FldsV (fun b => w.heap.size ≤ b) w' r fs_DescribeProducersResponseTopicPartition ∧ Ext w w' := by
  refine fn_of_W Tryz.func21 rfl Tryz.results21 Tryz.ntmps21 rfl ?_
  repeat ((first | refine W.seqR rfl ?_ | refine W.seq ?_ | refine W.regR rfl ?_ | refine W.condK ?_ | refine W.block ?_ | refine W.skip ?_ | refine W.ret ?_ | refine W.exit ?_); try simp (maxSteps := 1000000) (disch := (first | omega | (simp only [World.size_alloc, size_wr, size_drew] <;> omega) | exact not_noB _)) only [go_sem, ↓reduceIte, n0, reduceCtorEq, n1, n2, n3, n4, n5, i0, i1, i2, i3, i4, i5, i6, i7, fill_fld, fillN_nil, fillN_int, fillN_slice])
  refine (cDescribeProducersResponseTopicPartitionActiveProducer_fn _).mono ?_
  rintro r1 w1 ⟨hF1, hE1⟩
  obtain ⟨b1, k1, rfl, _⟩ := SlR.shape hF1
  have hz1 := hE1.size
  have hD1 : Ext w w1 := Upd.trans (Upd.refl _ w) hE1
  simp (maxSteps := 1000000) (disch := (first | omega | (simp only [World.size_alloc, size_wr, size_drew] <;> omega) | exact not_noB _)) only [go_sem, ↓reduceIte, n0, reduceCtorEq, n1, n2, n3, n4, n5, i0, i1, i2, i3, i4, i5, i6, i7, fill_fld, fillN_nil, fillN_int, fillN_slice]
  repeat ((first | refine W.seqR rfl ?_ | refine W.seq ?_ | refine W.regR rfl ?_ | refine W.condK ?_ | refine W.block ?_ | refine W.skip ?_ | refine W.ret ?_ | refine W.exit ?_); try simp (maxSteps := 1000000) (disch := (first | omega | (simp only [World.size_alloc, size_wr, size_drew] <;> omega) | exact not_noB _)) only [go_sem, ↓reduceIte, n0, reduceCtorEq, n1, n2, n3, n4, n5, i0, i1, i2, i3, i4, i5, i6, i7, fill_fld, fillN_nil, fillN_int, fillN_slice])
  exact ⟨FldsV.litO (fs := fs_DescribeProducersResponseTopicPartition) (css := [[.int .i64 3, .int .i64 0, .int .i64 (-1), .int .i64 (-1), .int .i64 (-1), .int .i64 0, .int .i64 0, .slice none 0 0], [.int .i64 2, .int .i64 0, .int .i64 (-1), .int .i64 (-1), .int .i64 (-1), .int .i64 0, .int .i64 0, .slice none 0 0], [.int .i64 8, .int .i64 0, .int .i64 (-1), .int .i64 0, .int .i64 (-1), .int .i64 0, .int .i64 0, .slice none 0 0], [.int .i64 11, .int .i64 0, .int .i64 (-1), .int .i64 (-1), .int .i64 (-1), .int .i64 0, .int .i64 10, .slice b1 fs_DescribeProducersResponseTopicPartitionActiveProducer.length k1]]) (T := 45) (fr := (0, 0)) (by first | omega | (simp only [World.size_alloc]; omega)) (by first | (simp (maxSteps := 1000000) (disch := (first | omega | (simp only [World.size_alloc, size_wr, size_drew] <;> omega) | exact not_noB _)) only [go_sem, ↓reduceIte, n0, reduceCtorEq, n1, n2, n3, n4, n5, i0, i1, i2, i3, i4, i5, i6, i7]; rfl) | rfl) (by simp) (All2.cons (FldC.intro (kind := 3) (FldsV.none _ _)) (All2.cons (FldC.intro (kind := 2) (FldsV.none _ _)) (All2.cons (FldC.intro (kind := 8) (FldsV.none _ _)) (All2.cons (FldC.intro (kind := 11) ((hF1.keep (Upd.keeps (S := fun _ => False) (Upd.alloc (Upd.refl _ _) _) fun _ _ _ h => h)).weaken fun b _ hb => by have hq : _ ≤ b := hb; omega)) All2.nil)))), (Upd.alloc hD1 _)⟩

set_option maxHeartbeats 4000000 in
theorem cDescribeProducersResponseTopic_fn (w : World) : Fn Tryz.prog 14 #[] w fun r w' => FldsV (fun b => w.heap.size ≤ b) w' r fs_DescribeProducersResponseTopic ∧ Ext w w' := by
  refine fn_of_W Tryz.func14 rfl Tryz.results14 Tryz.ntmps14 rfl ?_
  repeat ((first | refine W.seqR rfl ?_ | refine W.seq ?_ | refine W.regR rfl ?_ | refine W.condK ?_ | refine W.block ?_ | refine W.skip ?_ | refine W.ret ?_ | refine W.exit ?_); try simp (maxSteps := 1000000) (disch := (first | omega | (simp only [World.size_alloc, size_wr, size_drew] <;> omega) | exact not_noB _)) only [go_sem, ↓reduceIte, n0, reduceCtorEq, n1, n2, n3, n4, n5, i0, i1, i2, i3, i4, i5, i6, i7, fill_fld, fillN_nil, fillN_int, fillN_slice])
  refine (cDescribeProducersResponseTopicPartition_fn _).mono ?_
  rintro r1 w1 ⟨hF1, hE1⟩
  obtain ⟨b1, k1, rfl, _⟩ := SlR.shape hF1
  have hz1 := hE1.size
  have hD1 : Ext w w1 := Upd.trans (Upd.refl _ w) hE1
  simp (maxSteps := 1000000) (disch := (first | omega | (simp only [World.size_alloc, size_wr, size_drew] <;> omega) | exact not_noB _)) only [go_sem, ↓reduceIte, n0, reduceCtorEq, n1, n2, n3, n4, n5, i0, i1, i2, i3, i4, i5, i6, i7, fill_fld, fillN_nil, fillN_int, fillN_slice]
  repeat ((first | refine W.seqR rfl ?_ | refine W.seq ?_ | refine W.regR rfl ?_ | refine W.condK ?_ | refine W.block ?_ | refine W.skip ?_ | refine W.ret ?_ | refine W.exit ?_); try simp (maxSteps := 1000000) (disch := (first | omega | (simp only [World.size_alloc, size_wr, size_drew] <;> omega) | exact not_noB _)) only [go_sem, ↓reduceIte, n0, reduceCtorEq, n1, n2, n3, n4, n5, i0, i1, i2, i3, i4, i5, i6, i7, fill_fld, fillN_nil, fillN_int, fillN_slice])
  exact ⟨FldsV.litO (fs := fs_DescribeProducersResponseTopic) (css := [[.int .i64 8, .int .i64 0, .int .i64 (-1), .int .i64 (-1), .int .i64 (-1), .int .i64 0, .int .i64 0, .slice none 0 0], [.int .i64 11, .int .i64 0, .int .i64 (-1), .int .i64 (-1), .int .i64 (-1), .int .i64 0, .int .i64 10, .slice b1 fs_DescribeProducersResponseTopicPartition.length k1]]) (T := 45) (fr := (0, 0)) (by first | omega | (simp only [World.size_alloc]; omega)) (by first | (simp (maxSteps := 1000000) (disch := (first | omega | (simp only [World.size_alloc, size_wr, size_drew] <;> omega) | exact not_noB _)) only [go_sem, ↓reduceIte, n0, reduceCtorEq, n1, n2, n3, n4, n5, i0, i1, i2, i3, i4, i5, i6, i7]; rfl) | rfl) (by simp) (All2.cons (FldC.intro (kind := 8) (FldsV.none _ _)) (All2.cons (FldC.intro (kind := 11) ((hF1.keep (Upd.keeps (S := fun _ => False) (Upd.alloc (Upd.refl _ _) _) fun _ _ _ h => h)).weaken fun b _ hb => by have hq : _ ≤ b := hb; omega)) All2.nil)), (Upd.alloc hD1 _)⟩

set_option maxHeartbeats 4000000 in
theorem cDescribeProducersResponse_fn (w : World) : Fn Tryz.prog 6 #[] w fun r w' => (∃ vs, r = .agg #[vs, .int .i64 0] ∧ FldsV (fun b => w.heap.size ≤ b) w' vs fs_DescribeProducersResponse) ∧ Ext w w' := by
  refine fn_of_W Tryz.func6 rfl Tryz.results6 Tryz.ntmps6 rfl ?_
  repeat ((first | refine W.seqR rfl ?_ | refine W.seq ?_ | refine W.regR rfl ?_ | refine W.condK ?_ | refine W.block ?_ | refine W.skip ?_ | refine W.ret ?_ | refine W.exit ?_); try simp (maxSteps := 1000000) (disch := (first | omega | (simp only [World.size_alloc, size_wr, size_drew] <;> omega) | exact not_noB _)) only [go_sem, ↓reduceIte, n0, reduceCtorEq, n1, n2, n3, n4, n5, i0, i1, i2, i3, i4, i5, i6, i7, fill_fld, fillN_nil, fillN_int, fillN_slice])
  have hz0 : (w.alloc (.cells #[.slice none 0 0, .int .i64 0] 31)).heap.size = w.heap.size + 1 := World.size_alloc _ _
  refine (cDescribeProducersResponseTopic_fn _).mono ?_
  rintro r1 w1 ⟨hF1, hE1⟩
  obtain ⟨b1, k1, rfl, _⟩ := SlR.shape hF1
  have hz1 := hE1.size
  have hD1 : Ext w w1 := Upd.trans (Upd.alloc (Upd.refl _ _) _) hE1
  have hb1 : blk w1 w.heap.size = some (#[.slice none 0 0, .int .i64 0], 31, (0, 0)) := hE1.blk_some (blk_alloc_new rfl) id
  simp (maxSteps := 1000000) (disch := (first | omega | (simp only [World.size_alloc, size_wr, size_drew] <;> omega) | exact not_noB _)) only [go_sem, ↓reduceIte, n0, reduceCtorEq, n1, n2, n3, n4, n5, i0, i1, i2, i3, i4, i5, i6, i7, fill_fld, fillN_nil, fillN_int, fillN_slice, hb1]
  have hvl := blk_lt hb1
  repeat ((first | refine W.seqR rfl ?_ | refine W.seq ?_ | refine W.regR rfl ?_ | refine W.condK ?_ | refine W.block ?_ | refine W.skip ?_ | refine W.ret ?_ | refine W.exit ?_); try simp (maxSteps := 1000000) (disch := (first | omega | (simp only [World.size_alloc, size_wr, size_drew] <;> omega) | exact not_noB _)) only [go_sem, ↓reduceIte, n0, reduceCtorEq, n1, n2, n3, n4, n5, i0, i1, i2, i3, i4, i5, i6, i7, fill_fld, fillN_nil, fillN_int, fillN_slice, hb1])
  exact ⟨⟨_, rfl, FldsV.litO (fs := fs_DescribeProducersResponse) (css := [[.int .i64 3, .int .i64 0, .int .i64 (-1), .int .i64 (-1), .int .i64 (-1), .int .i64 0, .int .i64 0, .slice none 0 0], [.int .i64 11, .int .i64 0, .int .i64 (-1), .int .i64 (-1), .int .i64 (-1), .int .i64 0, .int .i64 10, .slice b1 fs_DescribeProducersResponseTopic.length k1]]) (T := 45) (fr := (0, 0)) (by first | omega | (simp only [World.size_alloc]; omega)) (by first | (simp (maxSteps := 1000000) (disch := (first | omega | (simp only [World.size_alloc, size_wr, size_drew] <;> omega) | exact not_noB _)) only [go_sem, ↓reduceIte, n0, reduceCtorEq, n1, n2, n3, n4, n5, i0, i1, i2, i3, i4, i5, i6, i7]; rfl) | rfl) (by simp) (All2.cons (FldC.intro (kind := 3) (FldsV.none _ _)) (All2.cons (FldC.intro (kind := 11) (hF1.stay (B := w.heap.size) (Upd.wr (Upd.alloc (Upd.refl _ _) _) _ _ (.inr rfl)) (by omega) (fun b hb => by omega))) All2.nil))⟩, (Upd.wr (Upd.alloc hD1 _) _ _ (.inl (Nat.le_refl _)))⟩

theorem DefaultDescribeProducersResponse_fn (w : World) {vb : Nat} {c0 c1 c2 c3 : Value} (hb : blk w vb = some (#[c0, c1, c2, c3], 62, (0, 0))) :
    Fn Tryz.prog 20 #[.pointer (some ⟨vb, 0, none⟩)] w fun _ w' => blk w' vb = some (#[c0, c1, c2, c3], 62, (0, 0)) ∧ Upd (fun b => b = vb) w w' := by
  have hvl := blk_lt hb
  refine fn_of_W Tryz.func20 rfl Tryz.results20 Tryz.ntmps20 rfl ?_
  repeat ((first | refine W.seqR rfl ?_ | refine W.seq ?_ | refine W.regR rfl ?_ | refine W.condK ?_ | refine W.block ?_ | refine W.skip ?_ | refine W.ret ?_ | refine W.exit ?_); try simp (maxSteps := 1000000) (disch := (first | omega | (simp only [World.size_alloc, size_wr, size_drew] <;> omega) | exact not_noB _)) only [go_sem, ↓reduceIte, n0, reduceCtorEq, n1, n2, n3, n4, n5, i0, i1, i2, i3, i4, i5, i6, i7, hb])
  first | exact Upd.refl _ _ | exact ⟨hb, Upd.refl _ _⟩

theorem NewPtrDescribeProducersResponse_fn (w : World) : Fn Tryz.prog 12 #[] w fun r w' => r = .pointer (some ⟨w.heap.size, 0, none⟩) ∧ blk w' w.heap.size = some (#[.int .i16 0, .int .i32 0, .slice none 0 0, .map none], 62, (0, 0)) ∧ Ext w w' := by
  refine fn_of_W Tryz.func12 rfl Tryz.results12 Tryz.ntmps12 rfl ?_
  repeat ((first | refine W.seqR rfl ?_ | refine W.seq ?_ | refine W.regR rfl ?_ | refine W.condK ?_ | refine W.block ?_ | refine W.skip ?_ | refine W.ret ?_ | refine W.exit ?_); try simp (maxSteps := 1000000) (disch := (first | omega | (simp only [World.size_alloc, size_wr, size_drew] <;> omega) | exact not_noB _)) only [go_sem, ↓reduceIte, n0, reduceCtorEq, n1, n2, n3, n4, n5, i0, i1, i2, i3, i4, i5, i6, i7])
  refine (DefaultDescribeProducersResponse_fn _ (blk_alloc_new rfl)).mono ?_
  rintro _ w1 ⟨hb1, hU1⟩
  have hz := World.size_alloc w (.cells #[.int .i16 0, .int .i32 0, .slice none 0 0, .map none] 62)
  repeat ((first | refine W.seqR rfl ?_ | refine W.seq ?_ | refine W.regR rfl ?_ | refine W.condK ?_ | refine W.block ?_ | refine W.skip ?_ | refine W.ret ?_ | refine W.exit ?_); try simp (maxSteps := 1000000) (disch := (first | omega | (simp only [World.size_alloc, size_wr, size_drew] <;> omega) | exact not_noB _)) only [go_sem, ↓reduceIte, n0, reduceCtorEq, n1, n2, n3, n4, n5, i0, i1, i2, i3, i4, i5, i6, i7])
  exact ⟨hb1, (Upd.alloc (Upd.refl _ _) _ : Ext w _).more hU1 fun b hb h => by omega⟩

theorem SetVersionDescribeProducersResponse_fn (w : World) {vb : Nat} {c0 c1 c2 c3 : Value} (n : Int) (hb : blk w vb = some (#[c0, c1, c2, c3], 62, (0, 0))) :
    Fn Tryz.prog 16 #[.pointer (some ⟨vb, 0, none⟩), .int .i16 n] w fun _ w' => blk w' vb = some (#[.int .i16 n, c1, c2, c3], 62, (0, 0)) ∧ Upd (fun b => b = vb) w w' := by
  have hvl := blk_lt hb
  refine fn_of_W Tryz.func16 rfl Tryz.results16 Tryz.ntmps16 rfl ?_
  repeat ((first | refine W.seqR rfl ?_ | refine W.seq ?_ | refine W.regR rfl ?_ | refine W.condK ?_ | refine W.block ?_ | refine W.skip ?_ | refine W.ret ?_ | refine W.exit ?_); try simp (maxSteps := 1000000) (disch := (first | omega | (simp only [World.size_alloc, size_wr, size_drew] <;> omega) | exact not_noB _)) only [go_sem, ↓reduceIte, n0, reduceCtorEq, n1, n2, n3, n4, n5, i0, i1, i2, i3, i4, i5, i6, i7, hb])
  first | exact Upd.wr (Upd.refl _ _) _ _ (.inr rfl) | exact ⟨by simp (maxSteps := 1000000) (disch := (first | omega | (simp only [World.size_alloc, size_wr, size_drew] <;> omega) | exact not_noB _)) only [go_sem, ↓reduceIte, n0, reduceCtorEq, n1, n2, n3, n4, n5, i0, i1, i2, i3, i4, i5, i6, i7, hb], Upd.wr (Upd.refl _ _) _ _ (.inr rfl)⟩

theorem MaxDescribeProducersResponse_fn (w : World) : Fn Tryz.prog 5 #[] w fun r w' => r = .int .i64 0 ∧ Ext w w' := by
  refine fn_of_W Tryz.func5 rfl Tryz.results5 Tryz.ntmps5 rfl ?_
  repeat ((first | refine W.seqR rfl ?_ | refine W.seq ?_ | refine W.regR rfl ?_ | refine W.condK ?_ | refine W.block ?_ | refine W.skip ?_ | refine W.ret ?_ | refine W.exit ?_); try simp (maxSteps := 1000000) (disch := (first | omega | (simp only [World.size_alloc, size_wr, size_drew] <;> omega) | exact not_noB _)) only [go_sem, ↓reduceIte, n0, reduceCtorEq, n1, n2, n3, n4, n5, i0, i1, i2, i3, i4, i5, i6, i7])
  refine (NewPtrDescribeProducersResponse_fn w).mono ?_
  rintro _ w1 ⟨rfl, hb1, hE1⟩
  repeat ((first | refine W.seqR rfl ?_ | refine W.seq ?_ | refine W.regR rfl ?_ | refine W.condK ?_ | refine W.block ?_ | refine W.skip ?_ | refine W.ret ?_ | refine W.exit ?_); try simp (maxSteps := 1000000) (disch := (first | omega | (simp only [World.size_alloc, size_wr, size_drew] <;> omega) | exact not_noB _)) only [go_sem, ↓reduceIte, n0, reduceCtorEq, n1, n2, n3, n4, n5, i0, i1, i2, i3, i4, i5, i6, i7])
  have hm : Fn Tryz.prog 13 #[.pointer (some ⟨w.heap.size, 0, none⟩)] w1 fun r w' => r = .int .i16 0 ∧ w' = w1 := by
    refine fn_of_W Tryz.func13 rfl Tryz.results13 Tryz.ntmps13 rfl ?_
    repeat ((first | refine W.seqR rfl ?_ | refine W.seq ?_ | refine W.regR rfl ?_ | refine W.condK ?_ | refine W.block ?_ | refine W.skip ?_ | refine W.ret ?_ | refine W.exit ?_); try simp (maxSteps := 1000000) (disch := (first | omega | (simp only [World.size_alloc, size_wr, size_drew] <;> omega) | exact not_noB _)) only [go_sem, ↓reduceIte, n0, reduceCtorEq, n1, n2, n3, n4, n5, i0, i1, i2, i3, i4, i5, i6, i7])
  refine hm.mono ?_
  rintro _ w2 ⟨rfl, rfl⟩
  have ew : IntKind.i64.wrap (0 : Int) = 0 := i64_wrap (by decide)
  repeat ((first | refine W.seqR rfl ?_ | refine W.seq ?_ | refine W.regR rfl ?_ | refine W.condK ?_ | refine W.block ?_ | refine W.skip ?_ | refine W.ret ?_ | refine W.exit ?_); try simp (maxSteps := 1000000) (disch := (first | omega | (simp only [World.size_alloc, size_wr, size_drew] <;> omega) | exact not_noB _)) only [go_sem, ↓reduceIte, n0, reduceCtorEq, n1, n2, n3, n4, n5, i0, i1, i2, i3, i4, i5, i6, i7, ew])
  exact hE1
end Ms

namespace Ms
open Go

/-- A list on the way: j of N things are read. -/
structure LstI (T : TypeId) (r : St → Tree × St) (rel : Rel Tree) (size : Nat) (E : TypeId) (zc : List Value) (L N : Nat) (ok okE : Blocks) (rb : Nat) (wa : World) (sA : St) (va : Value) (j : Nat) (s : St) (xs : List Tree) (css : List (List Value)) (w : World) : Prop where
  le : j ≤ N
  row : RowJ size E zc L N j va css w
  all : All2 (rel (fun b => okE b ∧ ¬ ownB va b) w) xs css
  rd : Rdr T ok w rb s ∧ NN w rb s
  upd : Upd (fun b => b = rb) wa w
  eq : rdMany r N sA = (xs ++ (rdMany r (N - j) s).1, (rdMany r (N - j) s).2)
section
variable {T : TypeId} {r : St → Tree × St} {rel : Rel Tree} {size : Nat} {E : TypeId} {zc : List Value} {L N : Nat} {ok okE : Blocks} {rb : Nat} {wa : World} {sA : St} {va : Value} {j : Nat} {s : St} {xs : List Tree} {css : List (List Value)} {w w' : World}
theorem LstI.start (h : RowJ size E zc L N 0 va [] w) (hr : Rdr T ok w rb sA ∧ NN w rb sA) (hu : Upd (fun b => b = rb) wa w) : LstI T r rel size E zc L N ok okE rb wa sA va 0 sA [] [] w :=
  ⟨Nat.zero_le _, h, ⟨rfl, fun i h => by simp at h⟩, hr, hu, by simp⟩
theorem RowJ.own (h : RowJ size E zc L N j va css w) {b : Nat} (hb : ownB va b) : L ≤ b ∧ b < w.heap.size := by
  obtain ⟨a, n, c, he, rfl⟩ := hb
  rcases h.row with ⟨_, a', h1, h2⟩ | ⟨_, R, q, rest, h1, _, hL, hbk⟩
  · rw [he] at h1; cases h1; exact h2 _ rfl
  · rw [he] at h1; cases h1; exact ⟨hL, blk_lt hbk⟩
theorem LstI.step (hR : Lay rel size) (h : LstI T r rel size E zc L N ok okE rb wa sA va j s xs css w) (hj : j < N) {c : List Value} (row : RowJ size E zc L N (j + 1) va (css ++ [c]) w') (hx : rel (fun b => okE b ∧ ¬ ownB va b) w' (r s).1 c)
    (u : Upd (fun b => ownB va b ∨ b = rb) w w') (rd : Rdr T ok w' rb (r s).2 ∧ NN w' rb (r s).2) (hok : ¬ okE rb) (hL : wa.heap.size ≤ L) : LstI T r rel size E zc L N ok okE rb wa sA va (j + 1) (r s).2 (xs ++ [(r s).1]) (css ++ [c]) w' := by
  refine ⟨hj, row, (h.all.imp fun x y hxy => hR.keep hxy (u.keeps fun b _ hk e => ?_)).snoc hx, rd, ?_, rdMany_step h.eq hj⟩
  · rcases e with e | e
    · exact hk.2 e
    · exact hok (e ▸ hk.1)
  · refine h.upd.trans' u fun i hi e => ?_
    rcases e with e | e
    · have := (h.row.own e).1; omega
    · exact e
theorem LstI.done (h : LstI T r rel size E zc L N ok okE rb wa sA va N s xs css w) : rdMany r N sA = (xs, s) := by
  have := h.eq
  rw [Nat.sub_self] at this
  simpa [rdMany] using this
theorem LstI.bad (h : LstI T r rel size E zc L N ok okE rb wa sA va j s xs css w) (hj : j < N) (hn : (r none).2 = none) (hb : (r s).2 = none) : (rdMany r N sA).2 = none := by
  rw [rdMany_step h.eq hj, hb]
  exact rdMany_none hn _
end
theorem rdP_bad {d : Nat} {v : Int} {flex : Bool} {fs : List Fld} {s : St} (h : (rdL (rdP d v flex) (dfP d) v flex fs s).2 = none) : (rdP (d + 1) v flex fs s).2 = none := by
  rw [rdP]
  split
  · rw [h]; exact rdTags_none
  · exact h
theorem rdL_bad {d : Nat} {v : Int} {flex : Bool} {f : Fld} {fs : List Fld} {s : St} (h : (rdF (rdP d v flex) v flex f s).2 = none) : (rdL (rdP d v flex) (dfP d) v flex fs (rdF (rdP d v flex) v flex f s).2).2 = none := by
  rw [h]; exact rdL_none (rdP_none v flex d) v flex fs
theorem rdF_listbad {d : Nat} {v : Int} {flex : Bool} {f : Fld} {s : St} (hk : f.kind = 11) (h : (rdMany (rd1 (rdP d v flex) f.of f.sub false flex) (rdALen flex s).1.toNat (rdALen flex s).2).2 = none) : (rdF (rdP d v flex) v flex f s).2 = none := by
  unfold rdF
  rw [if_pos hk]
  exact h
theorem rd1P_none {d : Nat} {v : Int} {flex : Bool} {k : Int} {sub : List Fld} : (rd1 (rdP d v flex) k sub false flex none).2 = none := rd1_none (rdP_none v flex d) _ _ _ _
theorem rdALen_rng (flex : Bool) (st : St) : -2147483648 ≤ (rdALen flex st).1 ∧ (rdALen flex st).1 < 2147483648 := by
  have key : ∀ n : Int, -2147483648 ≤ IntKind.i32.wrap n ∧ IntKind.i32.wrap n < 2147483648 := fun n => by
    unfold IntKind.wrap; simp [IntKind.bits, IntKind.signed]; split <;> omega
  have h2 : -2147483648 ≤ (rdCnt flex st).1 ∧ (rdCnt flex st).1 < 2147483648 := by
    cases flex
    · rw [rdCnt_f]; unfold rdInt; exact key _
    · rw [rdCnt_t]; exact key _
  unfold rdALen
  split
  · exact ⟨by decide, by decide⟩
  · exact h2
theorem rdF_listE {pt : List Fld → St → Tree × St} {v : Int} {flex : Bool} {f : Fld} {s e : St} {xs : List Tree} (hk : f.kind = 11) (h : rdMany (rd1 pt f.of f.sub false flex) (rdALen flex s).1.toNat (rdALen flex s).2 = (xs, e)) : rdF pt v flex f s = (.mk 0 [] (nilS f v (rdALen flex s).1) xs [], e) := by
  unfold rdF
  rw [if_pos hk]
  unfold rdList
  rw [h]
/-- What registers hold. -/
def Holds : List (Nat × Value) → Regs → Prop
  | [], _ => True
  | p :: l, ρ => ρ p.1 = p.2 ∧ Holds l ρ
theorem Holds_nil (ρ : Regs) : Holds [] ρ = True := nr rfl
theorem Holds_cons (r : Nat) (v : Value) (l : List (Nat × Value)) (ρ : Regs) : Holds ((r, v) :: l) ρ = (ρ r = v ∧ Holds l ρ) := nr rfl
/-- Registers, and one more that holds something. -/
def RowQ (l : List (Nat × Value)) (ra : Nat) (I : Value → World → Prop) (ρ : Regs) (w : World) : Prop := Holds l ρ ∧ ∃ v, ρ ra = v ∧ I v w
def LoopQ (l : List (Nat × Value)) (ri : Nat) (I : Nat → World → Prop) (ρ : Regs) (w : World) : Prop := Holds l ρ ∧ ∃ j : Nat, ρ ri = .int .i32 j ∧ I j w
def EndQ (l : List (Nat × Value)) (I : World → Prop) (ρ : Regs) (w : World) : Prop := Holds l ρ ∧ I w
theorem slBase_00 (a : Option Addr) (s : Nat) : slBase a 0 0 s = a := by
  unfold slBase
  rw [if_pos rfl]
theorem RowJ.zero {size : Nat} {E : TypeId} {zc : List Value} {L N : Nat} {w : World} {a : Option Addr} (h0 : N = 0) (h : ∀ x, a = some x → L ≤ x.block ∧ x.block < w.heap.size) : RowJ size E zc L N 0 (.slice a 0 0) [] w := ⟨rfl, by simp [Css], .inl ⟨h0, _, rfl, h⟩⟩
theorem isSome_some {s : St} (h : ¬ s = none) : s.isSome = true := by
  cases s with
  | none => exact absurd rfl h
  | some x => rfl
theorem errV_none {s : St} {ev : Value} (h : s = none) : errV ev s = ev := by subst h; rfl
end Ms

namespace Ms
open Nat renaming reduceEqDiff → n0, reduceAdd → n1, reduceMul → n2, reduceSub → n3, reduceLT → n4, reduceLeDiff → n5
open Int renaming reduceEq → i0, reduceLT → i1, reduceLE → i2, reduceNeg → i3, reduceAdd → i4, reduceSub → i5, reduceMul → i6, reduceToNat → i7
set_option maxRecDepth 8000
open Go Go.Proofs Go.Shelf
attribute [local congr] W_congr WPsq_congr WPp_congr optK_congr addrK_congr intK_congr boolK_congr sliceK_congr tupleK_congr funcK_congr Fn_congr rawK_congr takeK_congr stepK_congr convK_congr aggK_congr

theorem utDescribeProducersResponse_57 : Tryz.prog.underlying 57 = some (.slice 77) := by kernel_rfl
theorem utDescribeProducersResponse_21 : Tryz.prog.underlying 21 = some (.int .i32) := by kernel_rfl
theorem inDescribeProducersResponse_77 : (Tryz.prog.info? 77).map (fun i => (i.size, i.bytes, i.zero.map (·.cells))) = some (3, 48, some #[.string ByteArray.empty, .slice none 0 0, .map none]) := by kernel_rfl
theorem utDescribeProducersResponse_75 : Tryz.prog.underlying 75 = some (.slice 83) := by kernel_rfl
theorem inDescribeProducersResponse_83 : (Tryz.prog.info? 83).map (fun i => (i.size, i.bytes, i.zero.map (·.cells))) = some (5, 48, some #[.int .i32 0, .int .i16 0, .pointer none, .slice none 0 0, .map none]) := by kernel_rfl
theorem utDescribeProducersResponse_81 : Tryz.prog.underlying 81 = some (.slice 88) := by kernel_rfl
theorem inDescribeProducersResponse_88 : (Tryz.prog.info? 88).map (fun i => (i.size, i.bytes, i.zero.map (·.cells))) = some (7, 48, some #[.int .i64 0, .int .i32 0, .int .i32 0, .int .i64 0, .int .i32 0, .int .i64 0, .map none]) := by kernel_rfl

theorem DefaultEDescribeProducersResponseTopic_fn (w : World) {R k : Nat} {A B : List Value} {c0 c1 c2 : Value} {E : TypeId} (hb : blk w R = some ((A ++ ([c0, c1, c2] ++ B)).toArray, E, (0, 0))) (hA : A.length = k) :
    Fn Tryz.prog 55 #[.pointer (some ⟨R, k, none⟩)] w fun _ w' => blk w' R = some ((A ++ ([c0, c1, c2] ++ B)).toArray, E, (0, 0)) ∧ Upd (fun b => b = R) w w' := by
  have hRl := blk_lt hb
  obtain ⟨X, hX⟩ : ∃ X : Array Value, X = (A ++ (([c0, c1, c2] : List Value) ++ B)).toArray := ⟨_, rfl⟩
  have hXs : k + 3 ≤ X.size := by rw [hX]; simp only [List.size_toArray, List.length_append, List.length_cons, List.length_nil, hA]; omega
  have hb' : blk w R = some (X, E, (0, 0)) := by rw [hX]; exact hb
  refine fn_of_W Tryz.func55 rfl Tryz.results55 Tryz.ntmps55 rfl ?_
  repeat ((first | refine W.seqR rfl ?_ | refine W.seq ?_ | refine W.regR rfl ?_ | refine W.condK ?_ | refine W.block ?_ | refine W.skip ?_ | refine W.ret ?_ | refine W.exit ?_); try simp (maxSteps := 1000000) (disch := (first | omega | (simp only [World.size_alloc, size_wr, size_drew] <;> omega) | exact not_noB _)) only [go_sem, ↓reduceIte, n0, reduceCtorEq, n1, n2, n3, n4, n5, i0, i1, i2, i3, i4, i5, i6, i7, hb', Array.size_setIfInBounds])
  first | exact ⟨hb, Upd.refl _ _⟩ | exact Upd.refl _ _ | (rw [hX]; exact ⟨rfl, Upd.refl _ _⟩)

theorem DefaultEDescribeProducersResponseTopicPartition_fn (w : World) {R k : Nat} {A B : List Value} {c0 c1 c2 c3 c4 : Value} {E : TypeId} (hb : blk w R = some ((A ++ ([c0, c1, c2, c3, c4] ++ B)).toArray, E, (0, 0))) (hA : A.length = k) :
    Fn Tryz.prog 60 #[.pointer (some ⟨R, k, none⟩)] w fun _ w' => blk w' R = some ((A ++ ([c0, c1, c2, c3, c4] ++ B)).toArray, E, (0, 0)) ∧ Upd (fun b => b = R) w w' := by
  have hRl := blk_lt hb
  obtain ⟨X, hX⟩ : ∃ X : Array Value, X = (A ++ (([c0, c1, c2, c3, c4] : List Value) ++ B)).toArray := ⟨_, rfl⟩
  have hXs : k + 5 ≤ X.size := by rw [hX]; simp only [List.size_toArray, List.length_append, List.length_cons, List.length_nil, hA]; omega
  have hb' : blk w R = some (X, E, (0, 0)) := by rw [hX]; exact hb
  refine fn_of_W Tryz.func60 rfl Tryz.results60 Tryz.ntmps60 rfl ?_
  repeat ((first | refine W.seqR rfl ?_ | refine W.seq ?_ | refine W.regR rfl ?_ | refine W.condK ?_ | refine W.block ?_ | refine W.skip ?_ | refine W.ret ?_ | refine W.exit ?_); try simp (maxSteps := 1000000) (disch := (first | omega | (simp only [World.size_alloc, size_wr, size_drew] <;> omega) | exact not_noB _)) only [go_sem, ↓reduceIte, n0, reduceCtorEq, n1, n2, n3, n4, n5, i0, i1, i2, i3, i4, i5, i6, i7, hb', Array.size_setIfInBounds])
  first | exact ⟨hb, Upd.refl _ _⟩ | exact Upd.refl _ _ | (rw [hX]; exact ⟨rfl, Upd.refl _ _⟩)

theorem DefaultEDescribeProducersResponseTopicPartitionActiveProducer_fn (w : World) {R k : Nat} {A B : List Value} {c0 c1 c2 c3 c4 c5 c6 : Value} {E : TypeId} (hb : blk w R = some ((A ++ ([c0, c1, c2, c3, c4, c5, c6] ++ B)).toArray, E, (0, 0))) (hA : A.length = k) :
    Fn Tryz.prog 66 #[.pointer (some ⟨R, k, none⟩)] w fun _ w' => blk w' R = some ((A ++ ([c0, c1, .int .i32 (-1), .int .i64 (-1), c4, .int .i64 (-1), c6] ++ B)).toArray, E, (0, 0)) ∧ Upd (fun b => b = R) w w' := by
  have hRl := blk_lt hb
  obtain ⟨X, hX⟩ : ∃ X : Array Value, X = (A ++ (([c0, c1, c2, c3, c4, c5, c6] : List Value) ++ B)).toArray := ⟨_, rfl⟩
  have hXs : k + 7 ≤ X.size := by rw [hX]; simp only [List.size_toArray, List.length_append, List.length_cons, List.length_nil, hA]; omega
  have hb' : blk w R = some (X, E, (0, 0)) := by rw [hX]; exact hb
  refine fn_of_W Tryz.func66 rfl Tryz.results66 Tryz.ntmps66 rfl ?_
  have hq0 : k + 2 + 1 ≤ X.size := by omega
  have hq1 : k + 3 + 1 ≤ X.size := by omega
  have hq2 : k + 5 + 1 ≤ X.size := by omega
  have hp0 : k + 3 ≤ X.size := by omega
  have hp1 : k + 4 ≤ X.size := by omega
  have hp2 : k + 6 ≤ X.size := by omega
  repeat ((first | refine W.seqR rfl ?_ | refine W.seq ?_ | refine W.regR rfl ?_ | refine W.condK ?_ | refine W.block ?_ | refine W.skip ?_ | refine W.ret ?_ | refine W.exit ?_); try simp (maxSteps := 1000000) (disch := (first | omega | (simp only [World.size_alloc, size_wr, size_drew] <;> omega) | exact not_noB _)) only [go_sem, ↓reduceIte, n0, reduceCtorEq, n1, n2, n3, n4, n5, i0, i1, i2, i3, i4, i5, i6, i7, hb', Array.size_setIfInBounds, hq0, hp0, hq1, hp1, hq2, hp2])
  have h0 := el_blk (o := 2) (vs := [.int .i32 (-1)]) hb hA (Nat.le_of_ble_eq_true rfl)
  have h1 := el_blk (o := 3) (vs := [.int .i64 (-1)]) h0 hA (Nat.le_of_ble_eq_true rfl)
  have h2 := el_blk (o := 5) (vs := [.int .i64 (-1)]) h1 hA (Nat.le_of_ble_eq_true rfl)
  first | exact ⟨h2, (Upd.wr (Upd.wr (Upd.wr (Upd.refl (fun b => b = R) _) _ _ (.inr rfl)) _ _ (.inr rfl)) _ _ (.inr rfl))⟩ | (refine ⟨?_, (Upd.wr (Upd.wr (Upd.wr (Upd.refl (fun b => b = R) _) _ _ (.inr rfl)) _ _ (.inr rfl)) _ _ (.inr rfl))⟩; simp only [blk_wr_eq, hb', Option.map_some] at h2; exact h2)
end Ms

