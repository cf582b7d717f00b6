/- A part of the proof: see the last text. -/
import Derived.Test.YtkoeaaababfjkaaGreatDoorC07
import Derived.Test.YtkoeaaababfjkaaGreatDoorC09
import Derived.Test.YtkoeaaababfjkaaGreatDoorC10
set_option linter.unusedSimpArgs false
set_option linter.unusedVariables false
namespace Ms
open Nat renaming reduceEqDiff → n0, reduceAdd → n1, reduceMul → n2, reduceSub → n3, reduceLT → n4, reduceLeDiff → n5
open Int renaming reduceEq → i0, reduceLT → i1, reduceLE → i2, reduceNeg → i3, reduceAdd → i4, reduceSub → i5, reduceMul → i6, reduceToNat → i7
set_option maxRecDepth 4000
open Go Go.Proofs
theorem ca_10 : callable Tryz.prog 10 = true := nr (by kernel_rfl)
theorem ca_100 : callable Tryz.prog 100 = true := nr (by kernel_rfl)
theorem ca_101 : callable Tryz.prog 101 = true := nr (by kernel_rfl)
theorem ca_104 : callable Tryz.prog 104 = true := nr (by kernel_rfl)
theorem ca_105 : callable Tryz.prog 105 = true := nr (by kernel_rfl)
theorem ca_13 : callable Tryz.prog 13 = true := nr (by kernel_rfl)
theorem ca_134 : callable Tryz.prog 134 = true := nr (by kernel_rfl)
theorem ca_135 : callable Tryz.prog 135 = true := nr (by kernel_rfl)
theorem ca_14 : callable Tryz.prog 14 = true := nr (by kernel_rfl)
theorem ca_142 : callable Tryz.prog 142 = true := nr (by kernel_rfl)
theorem ca_143 : callable Tryz.prog 143 = true := nr (by kernel_rfl)
theorem ca_144 : callable Tryz.prog 144 = true := nr (by kernel_rfl)
theorem ca_145 : callable Tryz.prog 145 = true := nr (by kernel_rfl)
theorem ca_146 : callable Tryz.prog 146 = true := nr (by kernel_rfl)
theorem ca_147 : callable Tryz.prog 147 = true := nr (by kernel_rfl)
theorem ca_148 : callable Tryz.prog 148 = true := nr (by kernel_rfl)
theorem ca_149 : callable Tryz.prog 149 = true := nr (by kernel_rfl)
theorem ca_20 : callable Tryz.prog 20 = true := nr (by kernel_rfl)
theorem ca_21 : callable Tryz.prog 21 = true := nr (by kernel_rfl)
theorem ca_22 : callable Tryz.prog 22 = true := nr (by kernel_rfl)
theorem ca_47 : callable Tryz.prog 47 = true := nr (by kernel_rfl)
theorem ca_48 : callable Tryz.prog 48 = true := nr (by kernel_rfl)
theorem ca_49 : callable Tryz.prog 49 = true := nr (by kernel_rfl)
theorem ca_50 : callable Tryz.prog 50 = true := nr (by kernel_rfl)
theorem ca_51 : callable Tryz.prog 51 = true := nr (by kernel_rfl)
theorem ca_52 : callable Tryz.prog 52 = true := nr (by kernel_rfl)
theorem ca_93 : callable Tryz.prog 93 = true := nr (by kernel_rfl)
theorem ca_94 : callable Tryz.prog 94 = true := nr (by kernel_rfl)
theorem ca_98 : callable Tryz.prog 98 = true := nr (by kernel_rfl)
theorem ca_99 : callable Tryz.prog 99 = true := nr (by kernel_rfl)
theorem es_92 : elemSize Tryz.prog 92 = some 3 := nr (by kernel_rfl)
theorem es_97 : elemSize Tryz.prog 97 = some 1 := nr (by kernel_rfl)
theorem fo_94_0 : fieldOff Tryz.prog 94 0 = some 0 := nr (by kernel_rfl)
theorem fo_94_1 : fieldOff Tryz.prog 94 1 = some 1 := nr (by kernel_rfl)
theorem fo_94_2 : fieldOff Tryz.prog 94 2 = some 2 := nr (by kernel_rfl)
theorem fo_99_0 : fieldOff Tryz.prog 99 0 = some 0 := nr (by kernel_rfl)
theorem fo_99_1 : fieldOff Tryz.prog 99 1 = some 1 := nr (by kernel_rfl)
theorem fo_99_2 : fieldOff Tryz.prog 99 2 = some 2 := nr (by kernel_rfl)
theorem if_49 : isIfaceT Tryz.prog 49 = true := nr (by kernel_rfl)
theorem ld_21 (w : World) (b o : Nat) : loadOf Tryz.prog 21 w ⟨b, o, none⟩ = (blk w b).bind fun x => x.1[o]? := loadOf_one (by kernel_rfl) w b o
theorem ld_31 (w : World) (b o : Nat) : loadOf Tryz.prog 31 w ⟨b, o, none⟩ = (blk w b).bind fun x => cellsAt x.1 o 2 := loadOf_agg (by kernel_rfl) w b o
theorem ld_40 (w : World) (b o : Nat) : loadOf Tryz.prog 40 w ⟨b, o, none⟩ = (blk w b).bind fun x => x.1[o]? := loadOf_one (by kernel_rfl) w b o
theorem ld_92 (w : World) (b o : Nat) : loadOf Tryz.prog 92 w ⟨b, o, none⟩ = (blk w b).bind fun x => x.1[o]? := loadOf_one (by kernel_rfl) w b o
theorem ld_97 (w : World) (b o : Nat) : loadOf Tryz.prog 97 w ⟨b, o, none⟩ = (blk w b).bind fun x => x.1[o]? := loadOf_one (by kernel_rfl) w b o
theorem pl_153 : placesOf Tryz.prog 153 = some [(0, 1), (1, 1)] := nr (by kernel_rfl)
theorem pl_31 : placesOf Tryz.prog 31 = some [(0, 1), (1, 1)] := nr (by kernel_rfl)
theorem pl_45 : placesOf Tryz.prog 45 = some [(0, 1), (1, 1), (2, 1), (3, 1), (4, 1), (5, 1), (6, 1), (7, 1)] := nr (by kernel_rfl)
theorem se_29 : slElem Tryz.prog 29 = some (45, 8) := nr (by kernel_rfl)
theorem se_92 : slElem Tryz.prog 92 = some (99, 3) := nr (by kernel_rfl)
theorem sl_92 : isSliceT Tryz.prog 92 = true := nr (by kernel_rfl)
theorem sl_97 : isSliceT Tryz.prog 97 = true := nr (by kernel_rfl)
theorem sz_153 (w : World) (b o : Nat) (v : Value) : storeOf Tryz.prog 153 w ⟨b, o, none⟩ v = (blk w b).bind fun x => stO w b o v x 2 := storeOf_n (by kernel_rfl) w b o v
theorem sz_21 (w : World) (b o : Nat) (v : Value) : storeOf Tryz.prog 21 w ⟨b, o, none⟩ v = (blk w b).bind fun x => stO w b o v x 1 := storeOf_n (by kernel_rfl) w b o v
theorem sz_31 (w : World) (b o : Nat) (v : Value) : storeOf Tryz.prog 31 w ⟨b, o, none⟩ v = (blk w b).bind fun x => stO w b o v x 2 := storeOf_n (by kernel_rfl) w b o v
theorem sz_40 (w : World) (b o : Nat) (v : Value) : storeOf Tryz.prog 40 w ⟨b, o, none⟩ v = (blk w b).bind fun x => stO w b o v x 1 := storeOf_n (by kernel_rfl) w b o v
theorem sz_92 (w : World) (b o : Nat) (v : Value) : storeOf Tryz.prog 92 w ⟨b, o, none⟩ v = (blk w b).bind fun x => stO w b o v x 1 := storeOf_n (by kernel_rfl) w b o v
theorem sz_97 (w : World) (b o : Nat) (v : Value) : storeOf Tryz.prog 97 w ⟨b, o, none⟩ v = (blk w b).bind fun x => stO w b o v x 1 := storeOf_n (by kernel_rfl) w b o v
theorem z_153 : zeroOf Tryz.prog 153 = some #[.slice none 0 0, .bool false] := nr (by kernel_rfl)
theorem z_31 : zeroOf Tryz.prog 31 = some #[.slice none 0 0, .int .i64 0] := nr (by kernel_rfl)
theorem z_94 : zeroOf Tryz.prog 94 = some #[.int .i16 0, .slice none 0 0, .map none] := nr (by kernel_rfl)
attribute [go_sem] ca_10 ca_100 ca_101 ca_104 ca_105 ca_13 ca_134 ca_135 ca_14 ca_142 ca_143 ca_144 ca_145 ca_146 ca_147 ca_148 ca_149 ca_20 ca_21 ca_22 ca_47 ca_48 ca_49 ca_50 ca_51 ca_52 ca_93 ca_94 ca_98 ca_99 es_92 es_97 fo_94_0 fo_94_1 fo_94_2 fo_99_0 fo_99_1 fo_99_2 if_49 ld_21 ld_31 ld_40 ld_92 ld_97 pl_153 pl_31 pl_45 se_29 se_92 sl_92 sl_97 sz_153 sz_21 sz_31 sz_40 sz_92 sz_97 z_153 z_31 z_94
end Ms

namespace Ms
open Nat renaming reduceEqDiff → n0, reduceAdd → n1, reduceMul → n2, reduceSub → n3, reduceLT → n4, reduceLeDiff → n5
open Int renaming reduceEq → i0, reduceLT → i1, reduceLE → i2, reduceNeg → i3, reduceAdd → i4, reduceSub → i5, reduceMul → i6, reduceToNat → i7
set_option maxRecDepth 8000
open Go Go.Proofs Go.Shelf
attribute [local congr] W_congr WPsq_congr WPp_congr optK_congr addrK_congr intK_congr boolK_congr sliceK_congr tupleK_congr funcK_congr Fn_congr rawK_congr takeK_congr stepK_congr convK_congr aggK_congr

def fDescribeLogDirsRequestTopic_0 : Fld := .mk 8 0 (-1) (-1) (-1) 0 0 []
def fDescribeLogDirsRequestTopic_1 : Fld := .mk 11 0 (-1) (-1) (-1) 0 3 []
def fs_DescribeLogDirsRequestTopic : List Fld := [fDescribeLogDirsRequestTopic_0, fDescribeLogDirsRequestTopic_1]
def fDescribeLogDirsRequest_0 : Fld := .mk 11 0 (-1) 0 (-1) 0 10 fs_DescribeLogDirsRequestTopic
def fs_DescribeLogDirsRequest : List Fld := [fDescribeLogDirsRequest_0]

set_option maxHeartbeats 4000000 in
theorem cDescribeLogDirsRequestTopic_fn (w : World) : Fn Tryz.prog 49 #[] w fun r w' => FldsV (fun b => w.heap.size ≤ b) w' r fs_DescribeLogDirsRequestTopic ∧ Ext w w' := by
  refine fn_of_W Tryz.func49 rfl Tryz.results49 Tryz.ntmps49 rfl ?_
  repeat ((first | refine W.seqR rfl ?_ | refine W.seq ?_ | refine W.regR rfl ?_ | refine W.condK ?_ | refine W.block ?_ | refine W.skip ?_ | refine W.ret ?_ | refine W.exit ?_); try simp (maxSteps := 1000000) (disch := (first | omega | (simp only [World.size_alloc, size_wr, size_drew] <;> omega) | exact not_noB _)) only [go_sem, ↓reduceIte, n0, reduceCtorEq, n1, n2, n3, n4, n5, i0, i1, i2, i3, i4, i5, i6, i7, fill_fld, fillN_nil, fillN_int, fillN_slice])
  repeat ((first | refine W.seqR rfl ?_ | refine W.seq ?_ | refine W.regR rfl ?_ | refine W.condK ?_ | refine W.block ?_ | refine W.skip ?_ | refine W.ret ?_ | refine W.exit ?_); try simp (maxSteps := 1000000) (disch := (first | omega | (simp only [World.size_alloc, size_wr, size_drew] <;> omega) | exact not_noB _)) only [go_sem, ↓reduceIte, n0, reduceCtorEq, n1, n2, n3, n4, n5, i0, i1, i2, i3, i4, i5, i6, i7, fill_fld, fillN_nil, fillN_int, fillN_slice])
  exact ⟨FldsV.litO (fs := fs_DescribeLogDirsRequestTopic) (css := [[.int .i64 8, .int .i64 0, .int .i64 (-1), .int .i64 (-1), .int .i64 (-1), .int .i64 0, .int .i64 0, .slice none 0 0], [.int .i64 11, .int .i64 0, .int .i64 (-1), .int .i64 (-1), .int .i64 (-1), .int .i64 0, .int .i64 3, .slice none 0 0]]) (T := 45) (fr := (0, 0)) (by first | omega | (simp only [World.size_alloc]; omega)) (by first | (simp (maxSteps := 1000000) (disch := (first | omega | (simp only [World.size_alloc, size_wr, size_drew] <;> omega) | exact not_noB _)) only [go_sem, ↓reduceIte, n0, reduceCtorEq, n1, n2, n3, n4, n5, i0, i1, i2, i3, i4, i5, i6, i7]; rfl) | rfl) (by simp) (All2.cons (FldC.intro (kind := 8) (FldsV.none _ _)) (All2.cons (FldC.intro (kind := 11) (FldsV.none _ _)) All2.nil)), (Upd.alloc (Upd.refl _ w) _)⟩

set_option maxHeartbeats 4000000 in
theorem cDescribeLogDirsRequest_fn (w : World) : Fn Tryz.prog 21 #[] w fun r w' => (∃ vs, r = .agg #[vs, .int .i64 2] ∧ FldsV (fun b => w.heap.size ≤ b) w' vs fs_DescribeLogDirsRequest) ∧ Ext w w' := by
  refine fn_of_W Tryz.func21 rfl Tryz.results21 Tryz.ntmps21 rfl ?_
  repeat ((first | refine W.seqR rfl ?_ | refine W.seq ?_ | refine W.regR rfl ?_ | refine W.condK ?_ | refine W.block ?_ | refine W.skip ?_ | refine W.ret ?_ | refine W.exit ?_); try simp (maxSteps := 1000000) (disch := (first | omega | (simp only [World.size_alloc, size_wr, size_drew] <;> omega) | exact not_noB _)) only [go_sem, ↓reduceIte, n0, reduceCtorEq, n1, n2, n3, n4, n5, i0, i1, i2, i3, i4, i5, i6, i7, fill_fld, fillN_nil, fillN_int, fillN_slice])
  have hz0 : (w.alloc (.cells #[.slice none 0 0, .int .i64 0] 31)).heap.size = w.heap.size + 1 := World.size_alloc _ _
  refine (cDescribeLogDirsRequestTopic_fn _).mono ?_
  rintro r1 w1 ⟨hF1, hE1⟩
  obtain ⟨b1, k1, rfl, _⟩ := SlR.shape hF1
  have hz1 := hE1.size
  have hD1 : Ext w w1 := Upd.trans (Upd.alloc (Upd.refl _ _) _) hE1
  have hb1 : blk w1 w.heap.size = some (#[.slice none 0 0, .int .i64 0], 31, (0, 0)) := hE1.blk_some (blk_alloc_new rfl) id
  simp (maxSteps := 1000000) (disch := (first | omega | (simp only [World.size_alloc, size_wr, size_drew] <;> omega) | exact not_noB _)) only [go_sem, ↓reduceIte, n0, reduceCtorEq, n1, n2, n3, n4, n5, i0, i1, i2, i3, i4, i5, i6, i7, fill_fld, fillN_nil, fillN_int, fillN_slice, hb1]
  have hvl := blk_lt hb1
  repeat ((first | refine W.seqR rfl ?_ | refine W.seq ?_ | refine W.regR rfl ?_ | refine W.condK ?_ | refine W.block ?_ | refine W.skip ?_ | refine W.ret ?_ | refine W.exit ?_); try simp (maxSteps := 1000000) (disch := (first | omega | (simp only [World.size_alloc, size_wr, size_drew] <;> omega) | exact not_noB _)) only [go_sem, ↓reduceIte, n0, reduceCtorEq, n1, n2, n3, n4, n5, i0, i1, i2, i3, i4, i5, i6, i7, fill_fld, fillN_nil, fillN_int, fillN_slice, hb1])
  exact ⟨⟨_, rfl, FldsV.litO (fs := fs_DescribeLogDirsRequest) (css := [[.int .i64 11, .int .i64 0, .int .i64 (-1), .int .i64 0, .int .i64 (-1), .int .i64 0, .int .i64 10, .slice b1 fs_DescribeLogDirsRequestTopic.length k1]]) (T := 45) (fr := (0, 0)) (by first | omega | (simp only [World.size_alloc]; omega)) (by first | (simp (maxSteps := 1000000) (disch := (first | omega | (simp only [World.size_alloc, size_wr, size_drew] <;> omega) | exact not_noB _)) only [go_sem, ↓reduceIte, n0, reduceCtorEq, n1, n2, n3, n4, n5, i0, i1, i2, i3, i4, i5, i6, i7]; rfl) | rfl) (by simp) (All2.cons (FldC.intro (kind := 11) (hF1.stay (B := w.heap.size) (Upd.wr (Upd.alloc (Upd.refl _ _) _) _ _ (.inr rfl)) (by omega) (fun b hb => by omega))) All2.nil)⟩, (Upd.wr (Upd.alloc hD1 _) _ _ (.inl (Nat.le_refl _)))⟩

theorem DefaultDescribeLogDirsRequest_fn (w : World) {vb : Nat} {c0 c1 c2 : Value} (hb : blk w vb = some (#[c0, c1, c2], 94, (0, 0))) :
    Fn Tryz.prog 98 #[.pointer (some ⟨vb, 0, none⟩)] w fun _ w' => blk w' vb = some (#[c0, c1, c2], 94, (0, 0)) ∧ Upd (fun b => b = vb) w w' := by
  have hvl := blk_lt hb
  refine fn_of_W Tryz.func98 rfl Tryz.results98 Tryz.ntmps98 rfl ?_
  repeat ((first | refine W.seqR rfl ?_ | refine W.seq ?_ | refine W.regR rfl ?_ | refine W.condK ?_ | refine W.block ?_ | refine W.skip ?_ | refine W.ret ?_ | refine W.exit ?_); try simp (maxSteps := 1000000) (disch := (first | omega | (simp only [World.size_alloc, size_wr, size_drew] <;> omega) | exact not_noB _)) only [go_sem, ↓reduceIte, n0, reduceCtorEq, n1, n2, n3, n4, n5, i0, i1, i2, i3, i4, i5, i6, i7, hb])
  first | exact Upd.refl _ _ | exact ⟨hb, Upd.refl _ _⟩

theorem NewPtrDescribeLogDirsRequest_fn (w : World) : Fn Tryz.prog 47 #[] w fun r w' => r = .pointer (some ⟨w.heap.size, 0, none⟩) ∧ blk w' w.heap.size = some (#[.int .i16 0, .slice none 0 0, .map none], 94, (0, 0)) ∧ Ext w w' := by
  refine fn_of_W Tryz.func47 rfl Tryz.results47 Tryz.ntmps47 rfl ?_
  repeat ((first | refine W.seqR rfl ?_ | refine W.seq ?_ | refine W.regR rfl ?_ | refine W.condK ?_ | refine W.block ?_ | refine W.skip ?_ | refine W.ret ?_ | refine W.exit ?_); try simp (maxSteps := 1000000) (disch := (first | omega | (simp only [World.size_alloc, size_wr, size_drew] <;> omega) | exact not_noB _)) only [go_sem, ↓reduceIte, n0, reduceCtorEq, n1, n2, n3, n4, n5, i0, i1, i2, i3, i4, i5, i6, i7])
  refine (DefaultDescribeLogDirsRequest_fn _ (blk_alloc_new rfl)).mono ?_
  rintro _ w1 ⟨hb1, hU1⟩
  have hz := World.size_alloc w (.cells #[.int .i16 0, .slice none 0 0, .map none] 94)
  repeat ((first | refine W.seqR rfl ?_ | refine W.seq ?_ | refine W.regR rfl ?_ | refine W.condK ?_ | refine W.block ?_ | refine W.skip ?_ | refine W.ret ?_ | refine W.exit ?_); try simp (maxSteps := 1000000) (disch := (first | omega | (simp only [World.size_alloc, size_wr, size_drew] <;> omega) | exact not_noB _)) only [go_sem, ↓reduceIte, n0, reduceCtorEq, n1, n2, n3, n4, n5, i0, i1, i2, i3, i4, i5, i6, i7])
  exact ⟨hb1, (Upd.alloc (Upd.refl _ _) _ : Ext w _).more hU1 fun b hb h => by omega⟩

theorem SetVersionDescribeLogDirsRequest_fn (w : World) {vb : Nat} {c0 c1 c2 : Value} (n : Int) (hb : blk w vb = some (#[c0, c1, c2], 94, (0, 0))) :
    Fn Tryz.prog 50 #[.pointer (some ⟨vb, 0, none⟩), .int .i16 n] w fun _ w' => blk w' vb = some (#[.int .i16 n, c1, c2], 94, (0, 0)) ∧ Upd (fun b => b = vb) w w' := by
  have hvl := blk_lt hb
  refine fn_of_W Tryz.func50 rfl Tryz.results50 Tryz.ntmps50 rfl ?_
  repeat ((first | refine W.seqR rfl ?_ | refine W.seq ?_ | refine W.regR rfl ?_ | refine W.condK ?_ | refine W.block ?_ | refine W.skip ?_ | refine W.ret ?_ | refine W.exit ?_); try simp (maxSteps := 1000000) (disch := (first | omega | (simp only [World.size_alloc, size_wr, size_drew] <;> omega) | exact not_noB _)) only [go_sem, ↓reduceIte, n0, reduceCtorEq, n1, n2, n3, n4, n5, i0, i1, i2, i3, i4, i5, i6, i7, hb])
  first | exact Upd.wr (Upd.refl _ _) _ _ (.inr rfl) | exact ⟨by simp (maxSteps := 1000000) (disch := (first | omega | (simp only [World.size_alloc, size_wr, size_drew] <;> omega) | exact not_noB _)) only [go_sem, ↓reduceIte, n0, reduceCtorEq, n1, n2, n3, n4, n5, i0, i1, i2, i3, i4, i5, i6, i7, hb], Upd.wr (Upd.refl _ _) _ _ (.inr rfl)⟩

theorem MaxDescribeLogDirsRequest_fn (w : World) : Fn Tryz.prog 20 #[] w fun r w' => r = .int .i64 5 ∧ Ext w w' := by
  refine fn_of_W Tryz.func20 rfl Tryz.results20 Tryz.ntmps20 rfl ?_
  repeat ((first | refine W.seqR rfl ?_ | refine W.seq ?_ | refine W.regR rfl ?_ | refine W.condK ?_ | refine W.block ?_ | refine W.skip ?_ | refine W.ret ?_ | refine W.exit ?_); try simp (maxSteps := 1000000) (disch := (first | omega | (simp only [World.size_alloc, size_wr, size_drew] <;> omega) | exact not_noB _)) only [go_sem, ↓reduceIte, n0, reduceCtorEq, n1, n2, n3, n4, n5, i0, i1, i2, i3, i4, i5, i6, i7])
  refine (NewPtrDescribeLogDirsRequest_fn w).mono ?_
  rintro _ w1 ⟨rfl, hb1, hE1⟩
  repeat ((first | refine W.seqR rfl ?_ | refine W.seq ?_ | refine W.regR rfl ?_ | refine W.condK ?_ | refine W.block ?_ | refine W.skip ?_ | refine W.ret ?_ | refine W.exit ?_); try simp (maxSteps := 1000000) (disch := (first | omega | (simp only [World.size_alloc, size_wr, size_drew] <;> omega) | exact not_noB _)) only [go_sem, ↓reduceIte, n0, reduceCtorEq, n1, n2, n3, n4, n5, i0, i1, i2, i3, i4, i5, i6, i7])
  have hm : Fn Tryz.prog 48 #[.pointer (some ⟨w.heap.size, 0, none⟩)] w1 fun r w' => r = .int .i16 5 ∧ w' = w1 := by
    refine fn_of_W Tryz.func48 rfl Tryz.results48 Tryz.ntmps48 rfl ?_
    repeat ((first | refine W.seqR rfl ?_ | refine W.seq ?_ | refine W.regR rfl ?_ | refine W.condK ?_ | refine W.block ?_ | refine W.skip ?_ | refine W.ret ?_ | refine W.exit ?_); try simp (maxSteps := 1000000) (disch := (first | omega | (simp only [World.size_alloc, size_wr, size_drew] <;> omega) | exact not_noB _)) only [go_sem, ↓reduceIte, n0, reduceCtorEq, n1, n2, n3, n4, n5, i0, i1, i2, i3, i4, i5, i6, i7])
  refine hm.mono ?_
  rintro _ w2 ⟨rfl, rfl⟩
  have ew : IntKind.i64.wrap (5 : Int) = 5 := i64_wrap (by decide)
  repeat ((first | refine W.seqR rfl ?_ | refine W.seq ?_ | refine W.regR rfl ?_ | refine W.condK ?_ | refine W.block ?_ | refine W.skip ?_ | refine W.ret ?_ | refine W.exit ?_); try simp (maxSteps := 1000000) (disch := (first | omega | (simp only [World.size_alloc, size_wr, size_drew] <;> omega) | exact not_noB _)) only [go_sem, ↓reduceIte, n0, reduceCtorEq, n1, n2, n3, n4, n5, i0, i1, i2, i3, i4, i5, i6, i7, ew])
  exact hE1
end Ms

namespace Ms
open Go

/-- A list on the way: j of N things are read. -/
structure LstI (T : TypeId) (r : St → Tree × St) (rel : Rel Tree) (size : Nat) (E : TypeId) (zc : List Value) (L N : Nat) (ok okE : Blocks) (rb : Nat) (wa : World) (sA : St) (va : Value) (j : Nat) (s : St) (xs : List Tree) (css : List (List Value)) (w : World) : Prop where
  le : j ≤ N
  row : RowJ size E zc L N j va css w
  all : All2 (rel (fun b => okE b ∧ ¬ ownB va b) w) xs css
  rd : Rdr T ok w rb s ∧ NN w rb s
  upd : Upd (fun b => b = rb) wa w
  eq : rdMany r N sA = (xs ++ (rdMany r (N - j) s).1, (rdMany r (N - j) s).2)
section
variable {T : TypeId} {r : St → Tree × St} {rel : Rel Tree} {size : Nat} {E : TypeId} {zc : List Value} {L N : Nat} {ok okE : Blocks} {rb : Nat} {wa : World} {sA : St} {va : Value} {j : Nat} {s : St} {xs : List Tree} {css : List (List Value)} {w w' : World}
theorem LstI.start (h : RowJ size E zc L N 0 va [] w) (hr : Rdr T ok w rb sA ∧ NN w rb sA) (hu : Upd (fun b => b = rb) wa w) : LstI T r rel size E zc L N ok okE rb wa sA va 0 sA [] [] w :=
  ⟨Nat.zero_le _, h, ⟨rfl, fun i h => by simp at h⟩, hr, hu, by simp⟩
theorem RowJ.own (h : RowJ size E zc L N j va css w) {b : Nat} (hb : ownB va b) : L ≤ b ∧ b < w.heap.size := by
  obtain ⟨a, n, c, he, rfl⟩ := hb
  rcases h.row with ⟨_, a', h1, h2⟩ | ⟨_, R, q, rest, h1, _, hL, hbk⟩
  · rw [he] at h1; cases h1; exact h2 _ rfl
  · rw [he] at h1; cases h1; exact ⟨hL, blk_lt hbk⟩
theorem LstI.step (hR : Lay rel size) (h : LstI T r rel size E zc L N ok okE rb wa sA va j s xs css w) (hj : j < N) {c : List Value} (row : RowJ size E zc L N (j + 1) va (css ++ [c]) w') (hx : rel (fun b => okE b ∧ ¬ ownB va b) w' (r s).1 c)
    (u : Upd (fun b => ownB va b ∨ b = rb) w w') (rd : Rdr T ok w' rb (r s).2 ∧ NN w' rb (r s).2) (hok : ¬ okE rb) (hL : wa.heap.size ≤ L) : LstI T r rel size E zc L N ok okE rb wa sA va (j + 1) (r s).2 (xs ++ [(r s).1]) (css ++ [c]) w' := by
  refine ⟨hj, row, (h.all.imp fun x y hxy => hR.keep hxy (u.keeps fun b _ hk e => ?_)).snoc hx, rd, ?_, rdMany_step h.eq hj⟩
  · rcases e with e | e
    · exact hk.2 e
    · exact hok (e ▸ hk.1)
  · refine h.upd.trans' u fun i hi e => ?_
    rcases e with e | e
    · have := (h.row.own e).1; omega
    · exact e
theorem LstI.done (h : LstI T r rel size E zc L N ok okE rb wa sA va N s xs css w) : rdMany r N sA = (xs, s) := by
  have := h.eq
  rw [Nat.sub_self] at this
  simpa [rdMany] using this
theorem LstI.bad (h : LstI T r rel size E zc L N ok okE rb wa sA va j s xs css w) (hj : j < N) (hn : (r none).2 = none) (hb : (r s).2 = none) : (rdMany r N sA).2 = none := by
  rw [rdMany_step h.eq hj, hb]
  exact rdMany_none hn _
end
theorem rdP_bad {d : Nat} {v : Int} {flex : Bool} {fs : List Fld} {s : St} (h : (rdL (rdP d v flex) (dfP d) v flex fs s).2 = none) : (rdP (d + 1) v flex fs s).2 = none := by
  rw [rdP]
  split
  · rw [h]; exact rdTags_none
  · exact h
theorem rdL_bad {d : Nat} {v : Int} {flex : Bool} {f : Fld} {fs : List Fld} {s : St} (h : (rdF (rdP d v flex) v flex f s).2 = none) : (rdL (rdP d v flex) (dfP d) v flex fs (rdF (rdP d v flex) v flex f s).2).2 = none := by
  rw [h]; exact rdL_none (rdP_none v flex d) v flex fs
theorem rdF_listbad {d : Nat} {v : Int} {flex : Bool} {f : Fld} {s : St} (hk : f.kind = 11) (h : (rdMany (rd1 (rdP d v flex) f.of f.sub false flex) (rdALen flex s).1.toNat (rdALen flex s).2).2 = none) : (rdF (rdP d v flex) v flex f s).2 = none := by
  unfold rdF
  rw [if_pos hk]
  exact h
theorem rd1P_none {d : Nat} {v : Int} {flex : Bool} {k : Int} {sub : List Fld} : (rd1 (rdP d v flex) k sub false flex none).2 = none := rd1_none (rdP_none v flex d) _ _ _ _
theorem rdALen_rng (flex : Bool) (st : St) : -2147483648 ≤ (rdALen flex st).1 ∧ (rdALen flex st).1 < 2147483648 := by
  have key : ∀ n : Int, -2147483648 ≤ IntKind.i32.wrap n ∧ IntKind.i32.wrap n < 2147483648 := fun n => by
    unfold IntKind.wrap; simp [IntKind.bits, IntKind.signed]; split <;> omega
  have h2 : -2147483648 ≤ (rdCnt flex st).1 ∧ (rdCnt flex st).1 < 2147483648 := by
    cases flex
    · rw [rdCnt_f]; unfold rdInt; exact key _
    · rw [rdCnt_t]; exact key _
  unfold rdALen
  split
  · exact ⟨by decide, by decide⟩
  · exact h2
theorem rdF_listE {pt : List Fld → St → Tree × St} {v : Int} {flex : Bool} {f : Fld} {s e : St} {xs : List Tree} (hk : f.kind = 11) (h : rdMany (rd1 pt f.of f.sub false flex) (rdALen flex s).1.toNat (rdALen flex s).2 = (xs, e)) : rdF pt v flex f s = (.mk 0 [] (nilS f v (rdALen flex s).1) xs [], e) := by
  unfold rdF
  rw [if_pos hk]
  unfold rdList
  rw [h]
/-- What registers hold. -/
def Holds : List (Nat × Value) → Regs → Prop
  | [], _ => True
  | p :: l, ρ => ρ p.1 = p.2 ∧ Holds l ρ
theorem Holds_nil (ρ : Regs) : Holds [] ρ = True := nr rfl
theorem Holds_cons (r : Nat) (v : Value) (l : List (Nat × Value)) (ρ : Regs) : Holds ((r, v) :: l) ρ = (ρ r = v ∧ Holds l ρ) := nr rfl
/-- Registers, and one more that holds something. -/
def RowQ (l : List (Nat × Value)) (ra : Nat) (I : Value → World → Prop) (ρ : Regs) (w : World) : Prop := Holds l ρ ∧ ∃ v, ρ ra = v ∧ I v w
def LoopQ (l : List (Nat × Value)) (ri : Nat) (I : Nat → World → Prop) (ρ : Regs) (w : World) : Prop := Holds l ρ ∧ ∃ j : Nat, ρ ri = .int .i32 j ∧ I j w
def EndQ (l : List (Nat × Value)) (I : World → Prop) (ρ : Regs) (w : World) : Prop := Holds l ρ ∧ I w
theorem slBase_00 (a : Option Addr) (s : Nat) : slBase a 0 0 s = a := by
  unfold slBase
  rw [if_pos rfl]
theorem RowJ.zero {size : Nat} {E : TypeId} {zc : List Value} {L N : Nat} {w : World} {a : Option Addr} (h0 : N = 0) (h : ∀ x, a = some x → L ≤ x.block ∧ x.block < w.heap.size) : RowJ size E zc L N 0 (.slice a 0 0) [] w := ⟨rfl, by simp [Css], .inl ⟨h0, _, rfl, h⟩⟩
theorem isSome_some {s : St} (h : ¬ s = none) : s.isSome = true := by
  cases s with
  | none => exact absurd rfl h
  | some x => rfl
theorem errV_none {s : St} {ev : Value} (h : s = none) : errV ev s = ev := by subst h; rfl
end Ms

namespace Ms
open Nat renaming reduceEqDiff → n0, reduceAdd → n1, reduceMul → n2, reduceSub → n3, reduceLT → n4, reduceLeDiff → n5
open Int renaming reduceEq → i0, reduceLT → i1, reduceLE → i2, reduceNeg → i3, reduceAdd → i4, reduceSub → i5, reduceMul → i6, reduceToNat → i7
set_option maxRecDepth 8000
open Go Go.Proofs Go.Shelf
attribute [local congr] W_congr WPsq_congr WPp_congr optK_congr addrK_congr intK_congr boolK_congr sliceK_congr tupleK_congr funcK_congr Fn_congr rawK_congr takeK_congr stepK_congr convK_congr aggK_congr

theorem utDescribeLogDirsRequest_92 : Tryz.prog.underlying 92 = some (.slice 99) := by kernel_rfl
theorem utDescribeLogDirsRequest_21 : Tryz.prog.underlying 21 = some (.int .i32) := by kernel_rfl
theorem inDescribeLogDirsRequest_99 : (Tryz.prog.info? 99).map (fun i => (i.size, i.bytes, i.zero.map (·.cells))) = some (3, 48, some #[.string ByteArray.empty, .slice none 0 0, .map none]) := by kernel_rfl
theorem utDescribeLogDirsRequest_97 : Tryz.prog.underlying 97 = some (.slice 21) := by kernel_rfl
theorem inDescribeLogDirsRequest_21 : (Tryz.prog.info? 21).map (fun i => (i.size, i.bytes, i.zero.map (·.cells))) = some (1, 4, some #[.int .i32 0]) := by kernel_rfl

theorem DefaultEDescribeLogDirsRequestTopic_fn (w : World) {R k : Nat} {A B : List Value} {c0 c1 c2 : Value} {E : TypeId} (hb : blk w R = some ((A ++ ([c0, c1, c2] ++ B)).toArray, E, (0, 0))) (hA : A.length = k) :
    Fn Tryz.prog 145 #[.pointer (some ⟨R, k, none⟩)] w fun _ w' => blk w' R = some ((A ++ ([c0, c1, c2] ++ B)).toArray, E, (0, 0)) ∧ Upd (fun b => b = R) w w' := by
  have hRl := blk_lt hb
  obtain ⟨X, hX⟩ : ∃ X : Array Value, X = (A ++ (([c0, c1, c2] : List Value) ++ B)).toArray := ⟨_, rfl⟩
  have hXs : k + 3 ≤ X.size := by rw [hX]; simp only [List.size_toArray, List.length_append, List.length_cons, List.length_nil, hA]; omega
  have hb' : blk w R = some (X, E, (0, 0)) := by rw [hX]; exact hb
  refine fn_of_W Tryz.func145 rfl Tryz.results145 Tryz.ntmps145 rfl ?_
  repeat ((first | refine W.seqR rfl ?_ | refine W.seq ?_ | refine W.regR rfl ?_ | refine W.condK ?_ | refine W.block ?_ | refine W.skip ?_ | refine W.ret ?_ | refine W.exit ?_); try simp (maxSteps := 1000000) (disch := (first | omega | (simp only [World.size_alloc, size_wr, size_drew] <;> omega) | exact not_noB _)) only [go_sem, ↓reduceIte, n0, reduceCtorEq, n1, n2, n3, n4, n5, i0, i1, i2, i3, i4, i5, i6, i7, hb', Array.size_setIfInBounds])
  first | exact ⟨hb, Upd.refl _ _⟩ | exact Upd.refl _ _ | (rw [hX]; exact ⟨rfl, Upd.refl _ _⟩)
end Ms

namespace Ms
open Nat renaming reduceEqDiff → n0, reduceAdd → n1, reduceMul → n2, reduceSub → n3, reduceLT → n4, reduceLeDiff → n5
open Int renaming reduceEq → i0, reduceLT → i1, reduceLE → i2, reduceNeg → i3, reduceAdd → i4, reduceSub → i5, reduceMul → i6, reduceToNat → i7
set_option maxRecDepth 8000
open Go Go.Proofs Go.Shelf
attribute [local congr] W_congr WPsq_congr WPp_congr optK_congr addrK_congr intK_congr boolK_congr sliceK_congr tupleK_congr funcK_congr Fn_congr rawK_congr takeK_congr stepK_congr convK_congr aggK_congr

set_option maxHeartbeats 4000000 in
theorem readDescribeLogDirsRequest_0 {d : Nat} {ok : Blocks} {ver : Int} {ev : Value} (hlo : 0 ≤ ver) (hhi : ver ≤ 1) (w : World) {vb : Nat} (src : Value) (s : List UInt8) (hv : blk w vb = some (#[.int .i16 ver, .slice none 0 0, .map none], 94, (0, 0))) (hsrc : BytesV ok w src s) (hok0 : ∀ b, ok b → b < w.heap.size ∧ b ≠ vb) (hG : Glo ev w) (hgv : ¬ 0 = vb ∧ ¬ 1 = vb) :
    Fn Tryz.prog 99 #[.pointer (some ⟨vb, 0, none⟩), src, .bool false] w (ReadQ 94 ok ver (d + 2) fs_DescribeLogDirsRequest vb w (rdP (d + 2) ver false fs_DescribeLogDirsRequest (some s)) ev) := by
  have hvl := blk_lt hv
  have hgs := hG.lt
  obtain ⟨sa, sc, rfl, _⟩ := hsrc.shape
  refine fn_of_W Tryz.func99 rfl Tryz.results99 Tryz.ntmps99 rfl ?_
  repeat ((first | refine W.seqR rfl ?_ | refine W.seq ?_ | refine W.regR rfl ?_ | refine W.condK ?_ | refine W.block ?_ | refine W.skip ?_ | refine W.ret ?_ | refine W.exit ?_); try simp (maxSteps := 1000000) (disch := (first | omega | (simp only [World.size_alloc, size_wr, size_drew] <;> omega) | exact not_noB _)) only [go_sem, ↓reduceIte, n0, reduceCtorEq, n1, n2, n3, n4, n5, i0, i1, i2, i3, i4, i5, i6, i7, hv])
  refine (DefaultDescribeLogDirsRequest_fn w hv).mono ?_
  rintro _ w0 ⟨hv0, hu0⟩
  have hz0 := hu0.size
  have hsrc0 : BytesV ok w0 (.slice sa s.length sc) s := hsrc.keep (hu0.keeps fun b _ hk e => (hok0 b hk).2 e)
  obtain ⟨rb, hrb⟩ : ∃ r, r = w0.heap.size := ⟨_, rfl⟩
  have hE1 : Ext w0 (wr (w0.alloc (.cells #[.slice none 0 0, .bool false] 153)) w0.heap.size 0 [.slice sa s.length sc, .bool false]) := (Upd.alloc (Upd.refl _ _) _).wr _ _ (.inl (Nat.le_refl _))
  have hz1 : (wr (w0.alloc (.cells #[.slice none 0 0, .bool false] 153)) w0.heap.size 0 [.slice sa s.length sc, .bool false]).heap.size = w0.heap.size + 1 := by rw [size_wr, World.size_alloc]
  have hR1 : Rdr RT ok (wr (w0.alloc (.cells #[.slice none 0 0, .bool false] 153)) w0.heap.size 0 [.slice sa s.length sc, .bool false]) w0.heap.size (some s) := Rdr.good (v := .slice sa s.length sc) (by simp (maxSteps := 1000000) (disch := (first | omega | (simp only [World.size_alloc, size_wr, size_drew] <;> omega) | exact not_noB _)) only [go_sem, ↓reduceIte, n0, reduceCtorEq, n1, n2, n3, n4, n5, i0, i1, i2, i3, i4, i5, i6, i7]) (hsrc0.keep (hE1.keeps _))
  have hv_1 := hE1.blk_some hv0 id
  repeat ((first | refine W.seqR rfl ?_ | refine W.seq ?_ | refine W.regR rfl ?_ | refine W.condK ?_ | refine W.block ?_ | refine W.skip ?_ | refine W.ret ?_ | refine W.exit ?_); try simp (maxSteps := 1000000) (disch := (first | omega | (simp only [World.size_alloc, size_wr, size_drew] <;> omega) | exact not_noB _)) only [go_sem, ↓reduceIte, n0, reduceCtorEq, n1, n2, n3, n4, n5, i0, i1, i2, i3, i4, i5, i6, i7, hv0])
  generalize (wr (w0.alloc (.cells #[.slice none 0 0, .bool false] 153)) w0.heap.size 0 [.slice sa s.length sc, .bool false]) = w1 at *
  rw [← hrb] at hR1
  try rw [← hrb]
  have hok : ∀ b, ok b → b < w.heap.size ∧ b ≠ vb := hok0
  have hrok : ¬ ok rb := fun h => by have := (hok rb h).1; omega
  have hbase : Upd (fun b => b = vb) w w1 := hu0.trans (hE1.mono fun _ h => h.elim)
  have hG1 : Glo ev w1 := hG.updS hbase hgv.1 hgv.2
  have hgrb : ¬ 0 = rb := by omega
  have hgM1 : ¬ (0 = vb ∨ 0 = rb) := fun h => h.elim hgv.1 fun h => by omega
  have hgM2 : ¬ (1 = vb ∨ 1 = rb) := fun h => h.elim hgv.2 fun h => by omega
  obtain ⟨s0, hs0⟩ : ∃ s' : St, s' = some s := ⟨_, rfl⟩
  rw [← hs0] at hR1 ⊢
  have hU1 : Upd (fun b => b = vb ∨ b = rb) w1 w1 := Upd.refl _ _
  have hoM : ∀ b, (ok b ∨ w1.heap.size ≤ b) → ¬ (b = vb ∨ b = rb) := fun b hk h => by
    rcases hk with hk | hk
    · have := hok b hk; rcases h with h | h <;> omega
    · rcases h with h | h <;> omega
  have hq1 : Rdr RT ok w1 rb s0 := hR1
  obtain ⟨FB, hFB⟩ : ∃ P : Prop, P = ((rdP (d + 2) ver false fs_DescribeLogDirsRequest s0).2 = none) := ⟨_, rfl⟩
  have hb_0 : (rdL (rdP (d + 1) ver false) (dfP (d + 1)) ver false [fDescribeLogDirsRequest_0] s0).2 = none → FB := fun h => Eq.mpr hFB (rdP_bad h)
  have hh_0 : hasS fDescribeLogDirsRequest_0 ver = true := hasS_t (by show (0 : Int) ≤ ver; omega) (by show (-1 : Int) < 0 ∨ ver ≤ (-1 : Int); omega)
  obtain ⟨x_0, hx_0⟩ : ∃ x, x = (rdF (rdP (d + 1) ver false) ver false fDescribeLogDirsRequest_0 s0).1 := ⟨_, rfl⟩
  repeat ((first | refine W.seqR rfl ?_ | refine W.seq ?_ | refine W.regR rfl ?_ | refine W.condK ?_ | refine W.block ?_ | refine W.skip ?_ | refine W.ret ?_ | refine W.exit ?_); try simp (maxSteps := 1000000) (disch := (first | omega | (simp only [World.size_alloc, size_wr, size_drew] <;> omega) | exact not_noB _)) only [go_sem, ↓reduceIte, n0, reduceCtorEq, n1, n2, n3, n4, n5, i0, i1, i2, i3, i4, i5, i6, i7, hv_1])
  refine (RArrayLen_fn w1 hq1 hrok hG1.1 hgrb).mono ?_
  rintro _ w2 ⟨rfl, hq2, hu2⟩
  have hv_2 := hu2.blk_some hv_1 (by omega)
  have hV2 : Upd (fun b => b = vb ∨ b = rb) w1 w2 := hu2.mono (fun _ h => .inr h)
  have hU2 : Upd (fun b => b = vb ∨ b = rb) w1 w2 := hU1.trans hV2
  have hz2 := hV2.size
  have hG2 : Glo ev w2 := hG1.updS hU2 hgM1 hgM2
  obtain ⟨s1, hs1⟩ : ∃ s, s = (rdALen false s0).2 := ⟨_, rfl⟩
  rw [← hs1] at hq2
  have hyr0 := rdALen_rng false s0
  generalize hy0 : (rdALen false s0).1 = y0 at *
  obtain ⟨N0, hN0⟩ : ∃ N, N = y0.toNat := ⟨_, rfl⟩
  have hlb0 : (rdMany (rd1 (rdP (d + 1) ver false) fDescribeLogDirsRequest_0.of fDescribeLogDirsRequest_0.sub false false) N0 s1).2 = none → FB := fun h => hb_0 (by rw [rdL_st (by decide) hh_0]; exact rdL_bad (rdF_listbad rfl (by rw [hy0, ← hN0, ← hs1]; exact h)))
  repeat ((first | refine W.seqR rfl ?_ | refine W.seq ?_ | refine W.regR rfl ?_ | refine W.block ?_ | refine W.skip ?_ | refine W.ret ?_ | refine W.exit ?_); try simp (maxSteps := 1000000) (disch := (first | omega | (simp only [World.size_alloc, size_wr, size_drew] <;> omega) | exact not_noB _)) only [go_sem, ↓reduceIte, n0, reduceCtorEq, n1, n2, n3, n4, n5, i0, i1, i2, i3, i4, i5, i6, i7, hv_2])
  refine W.normJ (RowQ [(2, .bool false), (7, .pointer (some ⟨rb, 0, none⟩)), (8, .int .i16 ver), (9, .bool false), (10, .pointer (some ⟨vb, 0, none⟩)), (13, .int .i32 y0)] 12 (fun va w' => ∃ a0, va = .slice a0 0 0 ∧ Ext w2 w' ∧ (∀ x, a0 = some x → w2.heap.size ≤ x.block ∧ x.block < w'.heap.size) ∧ (N0 = 0 → if nilS fDescribeLogDirsRequest_0 ver y0 = true then va = .slice none 0 0 else ∃ a, va = .slice (some a) 0 0))) ?_ ?_
  · by_cases hye : y0 = 0
    · repeat ((first | refine W.seqR rfl ?_ | refine W.seq ?_ | refine W.regR rfl ?_ | refine W.condK ?_ | refine W.block ?_ | refine W.skip ?_ | refine W.ret ?_ | refine W.exit ?_); try simp (maxSteps := 1000000) (disch := (first | omega | (simp only [World.size_alloc, size_wr, size_drew] <;> omega) | exact not_noB _)) only [go_sem, ↓reduceIte, n0, reduceCtorEq, n1, n2, n3, n4, n5, i0, i1, i2, i3, i4, i5, i6, i7, hv_2, hye])
      exact ⟨(by simp (maxSteps := 1000000) (disch := (first | omega | (simp only [World.size_alloc, size_wr, size_drew] <;> omega) | exact not_noB _)) only [go_sem, ↓reduceIte, n0, reduceCtorEq, n1, n2, n3, n4, n5, i0, i1, i2, i3, i4, i5, i6, i7, Holds_nil, Holds_cons, hye]), .slice (some ⟨w2.heap.size, 0, none⟩) 0 0, (by simp (maxSteps := 1000000) (disch := (first | omega | (simp only [World.size_alloc, size_wr, size_drew] <;> omega) | exact not_noB _)) only [go_sem, ↓reduceIte, n0, reduceCtorEq, n1, n2, n3, n4, n5, i0, i1, i2, i3, i4, i5, i6, i7]), some ⟨w2.heap.size, 0, none⟩, rfl, (Upd.alloc (Upd.refl _ _) _ : Ext _ _), (fun x hx => by cases hx; exact ⟨Nat.le_refl _, by simp only [World.size_alloc]; omega⟩), (fun _ => by rw [nilS_may (by decide) (by show (0 : Int) ≤ ver; omega), decide_eq_false (by omega)]; exact ⟨_, rfl⟩)⟩
    · repeat ((first | refine W.seqR rfl ?_ | refine W.seq ?_ | refine W.regR rfl ?_ | refine W.condK ?_ | refine W.block ?_ | refine W.skip ?_ | refine W.ret ?_ | refine W.exit ?_); try simp (maxSteps := 1000000) (disch := (first | omega | (simp only [World.size_alloc, size_wr, size_drew] <;> omega) | exact not_noB _)) only [go_sem, ↓reduceIte, n0, reduceCtorEq, n1, n2, n3, n4, n5, i0, i1, i2, i3, i4, i5, i6, i7, hv_2, hye])
      exact ⟨(by simp (maxSteps := 1000000) (disch := (first | omega | (simp only [World.size_alloc, size_wr, size_drew] <;> omega) | exact not_noB _)) only [go_sem, ↓reduceIte, n0, reduceCtorEq, n1, n2, n3, n4, n5, i0, i1, i2, i3, i4, i5, i6, i7, Holds_nil, Holds_cons, hye]), .slice none 0 0, (by simp (maxSteps := 1000000) (disch := (first | omega | (simp only [World.size_alloc, size_wr, size_drew] <;> omega) | exact not_noB _)) only [go_sem, ↓reduceIte, n0, reduceCtorEq, n1, n2, n3, n4, n5, i0, i1, i2, i3, i4, i5, i6, i7]), none, rfl, Upd.refl _ _, (fun x hx => by cases hx), (fun _ => by rw [nilS_may (by decide) (by show (0 : Int) ≤ ver; omega), decide_eq_true (by omega)]; exact rfl)⟩
  rintro ρ w3 ⟨⟨hrn0_2, hrn0_7, hrn0_8, hrn0_9, hrn0_10, hrn0_13, -⟩, va, hra0, a0, rfl, hEn0, hab0, hnl0⟩
  have hun3 : Upd (fun b => b = rb) w2 w3 := hEn0.mono fun _ h => h.elim
  have hq3 := And.intro (hq2.1.upd hEn0 (fun h => h) (fun _ _ _ h => h)) (hq2.2.upd hEn0 fun h => h)
  have hv_3 := hun3.blk_some hv_2 (by omega)
  have hV3 : Upd (fun b => b = vb ∨ b = rb) w2 w3 := hun3.mono (fun _ h => .inr h)
  have hU3 : Upd (fun b => b = vb ∨ b = rb) w1 w3 := hU2.trans hV3
  have hz3 := hV3.size
  have hG3 : Glo ev w3 := hG1.updS hU3 hgM1 hgM2
  repeat ((first | refine W.seqR rfl ?_ | refine W.seq ?_ | refine W.regR rfl ?_ | refine W.block ?_ | refine W.skip ?_ | refine W.ret ?_ | refine W.exit ?_); try simp (maxSteps := 1000000) (disch := (first | omega | (simp only [World.size_alloc, size_wr, size_drew] <;> omega) | exact not_noB _)) only [go_sem, ↓reduceIte, n0, reduceCtorEq, n1, n2, n3, n4, n5, i0, i1, i2, i3, i4, i5, i6, i7, hv_3, hrn0_2, hrn0_7, hrn0_8, hrn0_9, hrn0_10, hrn0_13, hra0])
  refine (ROk_fn w3 hq3.1).mono ?_
  rintro _ wz ⟨rfl, hez⟩
  rw [hez]
  clear hez wz
  by_cases hsn0 : s1 = none
  · have hso : s1.isSome = false := by rw [hsn0]; rfl
    try simp (maxSteps := 1000000) (disch := (first | omega | (simp only [World.size_alloc, size_wr, size_drew] <;> omega) | exact not_noB _)) only [go_sem, ↓reduceIte, n0, reduceCtorEq, n1, n2, n3, n4, n5, i0, i1, i2, i3, i4, i5, i6, i7, hv_3, hrn0_2, hrn0_7, hrn0_8, hrn0_9, hrn0_10, hrn0_13, hra0, hso]
    repeat ((first | refine W.seqR rfl ?_ | refine W.seq ?_ | refine W.regR rfl ?_ | refine W.condK ?_ | refine W.block ?_ | refine W.skip ?_ | refine W.ret ?_ | refine W.exit ?_); try simp (maxSteps := 1000000) (disch := (first | omega | (simp only [World.size_alloc, size_wr, size_drew] <;> omega) | exact not_noB _)) only [go_sem, ↓reduceIte, n0, reduceCtorEq, n1, n2, n3, n4, n5, i0, i1, i2, i3, i4, i5, i6, i7, hv_3, hrn0_2, hrn0_7, hrn0_8, hrn0_9, hrn0_10, hrn0_13, hra0, hso])
    refine (RComplete_fn w3 hq3.1 hG3.2).mono ?_
    rintro _ wz ⟨rfl, hez⟩
    rw [hez]
    try simp (maxSteps := 1000000) (disch := (first | omega | (simp only [World.size_alloc, size_wr, size_drew] <;> omega) | exact not_noB _)) only [go_sem, ↓reduceIte, n0, reduceCtorEq, n1, n2, n3, n4, n5, i0, i1, i2, i3, i4, i5, i6, i7, hv_3, hrn0_2, hrn0_7, hrn0_8, hrn0_9, hrn0_10, hrn0_13, hra0]
    repeat ((first | refine W.seqR rfl ?_ | refine W.seq ?_ | refine W.regR rfl ?_ | refine W.condK ?_ | refine W.block ?_ | refine W.skip ?_ | refine W.ret ?_ | refine W.exit ?_); try simp (maxSteps := 1000000) (disch := (first | omega | (simp only [World.size_alloc, size_wr, size_drew] <;> omega) | exact not_noB _)) only [go_sem, ↓reduceIte, n0, reduceCtorEq, n1, n2, n3, n4, n5, i0, i1, i2, i3, i4, i5, i6, i7, hv_3, hrn0_2, hrn0_7, hrn0_8, hrn0_9, hrn0_10, hrn0_13, hra0])
    rw [errV_none hsn0]
    exact ReadQ.bad (Eq.mp hFB (hlb0 (by rw [hsn0]; exact rdMany_none rd1P_none _))) (hbase.trans' hU3 fun i hi h => h.elim id fun h => by omega)
  have hso0 : s1.isSome = true := isSome_some hsn0
  try simp (maxSteps := 1000000) (disch := (first | omega | (simp only [World.size_alloc, size_wr, size_drew] <;> omega) | exact not_noB _)) only [go_sem, ↓reduceIte, n0, reduceCtorEq, n1, n2, n3, n4, n5, i0, i1, i2, i3, i4, i5, i6, i7, hv_3, hrn0_2, hrn0_7, hrn0_8, hrn0_9, hrn0_10, hrn0_13, hra0, hso0]
  repeat ((first | refine W.seqR rfl ?_ | refine W.seq ?_ | refine W.regR rfl ?_ | refine W.block ?_ | refine W.skip ?_ | refine W.ret ?_ | refine W.exit ?_); try simp (maxSteps := 1000000) (disch := (first | omega | (simp only [World.size_alloc, size_wr, size_drew] <;> omega) | exact not_noB _)) only [go_sem, ↓reduceIte, n0, reduceCtorEq, n1, n2, n3, n4, n5, i0, i1, i2, i3, i4, i5, i6, i7, hv_3, hrn0_2, hrn0_7, hrn0_8, hrn0_9, hrn0_10, hrn0_13, hra0, hso0])
  refine W.condK ?_
  try simp (maxSteps := 1000000) (disch := (first | omega | (simp only [World.size_alloc, size_wr, size_drew] <;> omega) | exact not_noB _)) only [go_sem, ↓reduceIte, n0, reduceCtorEq, n1, n2, n3, n4, n5, i0, i1, i2, i3, i4, i5, i6, i7, hv_3, hrn0_2, hrn0_7, hrn0_8, hrn0_9, hrn0_10, hrn0_13, hra0, hso0]
  repeat ((first | refine W.seqR rfl ?_ | refine W.seq ?_ | refine W.regR rfl ?_ | refine W.block ?_ | refine W.skip ?_ | refine W.ret ?_ | refine W.exit ?_); try simp (maxSteps := 1000000) (disch := (first | omega | (simp only [World.size_alloc, size_wr, size_drew] <;> omega) | exact not_noB _)) only [go_sem, ↓reduceIte, n0, reduceCtorEq, n1, n2, n3, n4, n5, i0, i1, i2, i3, i4, i5, i6, i7, hv_3, hrn0_2, hrn0_7, hrn0_8, hrn0_9, hrn0_10, hrn0_13, hra0, hso0, slBase_00])
  refine W.normJ (RowQ [(2, .bool false), (7, .pointer (some ⟨rb, 0, none⟩)), (8, .int .i16 ver), (9, .bool false), (10, .pointer (some ⟨vb, 0, none⟩)), (13, .int .i32 y0)] 12 (fun va w' => LstI RT (rd1 (rdP (d + 1) ver false) fDescribeLogDirsRequest_0.of fDescribeLogDirsRequest_0.sub false false) (Rep1 (RepS true (d + 1)) fDescribeLogDirsRequest_0.of fDescribeLogDirsRequest_0.sub) 3 99 [.string ByteArray.empty, .slice none 0 0, .map none] w2.heap.size N0 ok (fun b => ok b ∨ w1.heap.size ≤ b) rb w2 s1 va 0 s1 [] [] w' ∧ (N0 = 0 → if nilS fDescribeLogDirsRequest_0 ver y0 = true then va = .slice none 0 0 else ∃ a, va = .slice (some a) 0 0))) ?_ ?_
  · by_cases hy0 : (0 : Int) < y0
    · have hyv : Value.int .i32 y0 = .int .i32 ((N0 : Nat) : Int) := by rw [show y0 = ((N0 : Nat) : Int) by omega]
      repeat ((first | refine W.seqR rfl ?_ | refine W.seq ?_ | refine W.regR rfl ?_ | refine W.condK ?_ | refine W.block ?_ | refine W.skip ?_ | refine W.ret ?_ | refine W.exit ?_); try simp (maxSteps := 1000000) (disch := (first | omega | (simp only [World.size_alloc, size_wr, size_drew] <;> omega) | exact not_noB _)) only [go_sem, ↓reduceIte, n0, reduceCtorEq, n1, n2, n3, n4, n5, i0, i1, i2, i3, i4, i5, i6, i7, hv_3, hrn0_2, hrn0_7, hrn0_8, hrn0_9, hrn0_10, hrn0_13, hra0])
      refine wp_appendZ (m := N0) utDescribeLogDirsRequest_92 utDescribeLogDirsRequest_21 inDescribeLogDirsRequest_99 (by decide) (by first | rfl | simp (maxSteps := 1000000) (disch := (first | omega | (simp only [World.size_alloc, size_wr, size_drew] <;> omega) | exact not_noB _)) only [go_sem, ↓reduceIte, n0, reduceCtorEq, n1, n2, n3, n4, n5, i0, i1, i2, i3, i4, i5, i6, i7, hrn0_2, hrn0_7, hrn0_8, hrn0_9, hrn0_10, hrn0_13, hra0]) (by first | exact hyv | (simp (maxSteps := 1000000) (disch := (first | omega | (simp only [World.size_alloc, size_wr, size_drew] <;> omega) | exact not_noB _)) only [go_sem, ↓reduceIte, n0, reduceCtorEq, n1, n2, n3, n4, n5, i0, i1, i2, i3, i4, i5, i6, i7, hrn0_2, hrn0_7, hrn0_8, hrn0_9, hrn0_10, hrn0_13, hra0]; exact hyv)) (by omega) (by omega) (by decide) ?_
      intro q rest hq1
      have hEw : Ext w3 (w3.drew.alloc (.cells (zs [.string ByteArray.empty, .slice none 0 0, .map none] N0 ++ rest).toArray 99)) := (Upd.refl _ _).drew.alloc _
      try simp (maxSteps := 1000000) (disch := (first | omega | (simp only [World.size_alloc, size_wr, size_drew] <;> omega) | exact not_noB _)) only [go_sem, ↓reduceIte, n0, reduceCtorEq, n1, n2, n3, n4, n5, i0, i1, i2, i3, i4, i5, i6, i7, hv_3, hrn0_2, hrn0_7, hrn0_8, hrn0_9, hrn0_10, hrn0_13, hra0]
      repeat ((first | refine W.seqR rfl ?_ | refine W.seq ?_ | refine W.regR rfl ?_ | refine W.condK ?_ | refine W.block ?_ | refine W.skip ?_ | refine W.ret ?_ | refine W.exit ?_); try simp (maxSteps := 1000000) (disch := (first | omega | (simp only [World.size_alloc, size_wr, size_drew] <;> omega) | exact not_noB _)) only [go_sem, ↓reduceIte, n0, reduceCtorEq, n1, n2, n3, n4, n5, i0, i1, i2, i3, i4, i5, i6, i7, hv_3, hrn0_2, hrn0_7, hrn0_8, hrn0_9, hrn0_10, hrn0_13, hra0])
      exact ⟨(by simp (maxSteps := 1000000) (disch := (first | omega | (simp only [World.size_alloc, size_wr, size_drew] <;> omega) | exact not_noB _)) only [go_sem, ↓reduceIte, n0, reduceCtorEq, n1, n2, n3, n4, n5, i0, i1, i2, i3, i4, i5, i6, i7, Holds_nil, Holds_cons, hrn0_2, hrn0_7, hrn0_8, hrn0_9, hrn0_10, hrn0_13, hra0]), .slice (some ⟨w3.heap.size, 0, none⟩) N0 q, (by simp (maxSteps := 1000000) (disch := (first | omega | (simp only [World.size_alloc, size_wr, size_drew] <;> omega) | exact not_noB _)) only [go_sem, ↓reduceIte, n0, reduceCtorEq, n1, n2, n3, n4, n5, i0, i1, i2, i3, i4, i5, i6, i7, hrn0_2, hrn0_7, hrn0_8, hrn0_9, hrn0_10, hrn0_13, hra0]), LstI.start (RowJ.start (by omega) hq1 (by show w2.heap.size ≤ w3.drew.heap.size; rw [size_drew]; omega) (blk_alloc_new rfl)) ⟨hq3.1.upd hEw (fun h => h) (fun _ _ _ h => h), hq3.2.upd hEw fun h => h⟩ (hun3.trans (hEw.mono fun _ h => h.elim)), fun h0 => by omega⟩
    · repeat ((first | refine W.seqR rfl ?_ | refine W.seq ?_ | refine W.regR rfl ?_ | refine W.condK ?_ | refine W.block ?_ | refine W.skip ?_ | refine W.ret ?_ | refine W.exit ?_); try simp (maxSteps := 1000000) (disch := (first | omega | (simp only [World.size_alloc, size_wr, size_drew] <;> omega) | exact not_noB _)) only [go_sem, ↓reduceIte, n0, reduceCtorEq, n1, n2, n3, n4, n5, i0, i1, i2, i3, i4, i5, i6, i7, hv_3, hrn0_2, hrn0_7, hrn0_8, hrn0_9, hrn0_10, hrn0_13, hra0])
      exact ⟨(by simp (maxSteps := 1000000) (disch := (first | omega | (simp only [World.size_alloc, size_wr, size_drew] <;> omega) | exact not_noB _)) only [go_sem, ↓reduceIte, n0, reduceCtorEq, n1, n2, n3, n4, n5, i0, i1, i2, i3, i4, i5, i6, i7, Holds_nil, Holds_cons, hrn0_2, hrn0_7, hrn0_8, hrn0_9, hrn0_10, hrn0_13, hra0]), .slice a0 0 0, (by simp (maxSteps := 1000000) (disch := (first | omega | (simp only [World.size_alloc, size_wr, size_drew] <;> omega) | exact not_noB _)) only [go_sem, ↓reduceIte, n0, reduceCtorEq, n1, n2, n3, n4, n5, i0, i1, i2, i3, i4, i5, i6, i7, hrn0_2, hrn0_7, hrn0_8, hrn0_9, hrn0_10, hrn0_13, hra0, slBase_00]), LstI.start (RowJ.zero (by omega) hab0) hq3 (hun3), hnl0⟩
  rintro ρ w4 ⟨⟨hrb0_2, hrb0_7, hrb0_8, hrb0_9, hrb0_10, hrb0_13, -⟩, va0, hra0, hL0, hnc0⟩
  repeat ((first | refine W.seqR rfl ?_ | refine W.seq ?_ | refine W.regR rfl ?_ | refine W.condK ?_ | refine W.block ?_ | refine W.skip ?_ | refine W.ret ?_ | refine W.exit ?_); try simp (maxSteps := 1000000) (disch := (first | omega | (simp only [World.size_alloc, size_wr, size_drew] <;> omega) | exact not_noB _)) only [go_sem, ↓reduceIte, n0, reduceCtorEq, n1, n2, n3, n4, n5, i0, i1, i2, i3, i4, i5, i6, i7, hv_3, hrb0_2, hrb0_7, hrb0_8, hrb0_9, hrb0_10, hrb0_13, hra0, exitRQ_ret, exitRQ_exit, Int.toNat_natCast, Nat.mul_one])
  refine W.exitRJ 0 (EndQ [(2, .bool false), (7, .pointer (some ⟨rb, 0, none⟩)), (8, .int .i16 ver), (9, .bool false), (10, .pointer (some ⟨vb, 0, none⟩)), (13, .int .i32 y0), (12, va0)] (fun w' => ∃ s xs css, LstI RT (rd1 (rdP (d + 1) ver false) fDescribeLogDirsRequest_0.of fDescribeLogDirsRequest_0.sub false false) (Rep1 (RepS true (d + 1)) fDescribeLogDirsRequest_0.of fDescribeLogDirsRequest_0.sub) 3 99 [.string ByteArray.empty, .slice none 0 0, .map none] w2.heap.size N0 ok (fun b => ok b ∨ w1.heap.size ≤ b) rb w2 s1 va0 N0 s xs css w')) (W.loop (LoopQ [(2, .bool false), (7, .pointer (some ⟨rb, 0, none⟩)), (8, .int .i16 ver), (9, .bool false), (10, .pointer (some ⟨vb, 0, none⟩)), (13, .int .i32 y0), (12, va0)] 14 (fun j w' => ∃ s xs css, LstI RT (rd1 (rdP (d + 1) ver false) fDescribeLogDirsRequest_0.of fDescribeLogDirsRequest_0.sub false false) (Rep1 (RepS true (d + 1)) fDescribeLogDirsRequest_0.of fDescribeLogDirsRequest_0.sub) 3 99 [.string ByteArray.empty, .slice none 0 0, .map none] w2.heap.size N0 ok (fun b => ok b ∨ w1.heap.size ≤ b) rb w2 s1 va0 j s xs css w')) (fun ρ _ => N0 - (RowKit.intOf (ρ 14)).toNat) ?_ ?_) ?_
  · exact ⟨(by simp (maxSteps := 1000000) (disch := (first | omega | (simp only [World.size_alloc, size_wr, size_drew] <;> omega) | exact not_noB _)) only [go_sem, ↓reduceIte, n0, reduceCtorEq, n1, n2, n3, n4, n5, i0, i1, i2, i3, i4, i5, i6, i7, Holds_nil, Holds_cons, hrb0_2, hrb0_7, hrb0_8, hrb0_9, hrb0_10, hrb0_13, hra0]), 0, (by simp (maxSteps := 1000000) (disch := (first | omega | (simp only [World.size_alloc, size_wr, size_drew] <;> omega) | exact not_noB _)) only [go_sem, ↓reduceIte, n0, reduceCtorEq, n1, n2, n3, n4, n5, i0, i1, i2, i3, i4, i5, i6, i7, hrb0_2, hrb0_7, hrb0_8, hrb0_9, hrb0_10, hrb0_13, hra0]; all_goals rfl), s1, [], [], hL0⟩
  · rintro ρ w5 ⟨⟨hrc0_2, hrc0_7, hrc0_8, hrc0_9, hrc0_10, hrc0_13, hrc0_12, -⟩, j1, hri0, s2, xs0, css0, hL0⟩
    have hj0 := hL0.le
    have hq5 := hL0.rd
    have hU5 : Upd (fun b => b = vb ∨ b = rb) w1 w5 := hU2.trans' hL0.upd fun i _ h => .inr h
    have hz5 := hL0.upd.size
    have hG5 : Glo ev w5 := hG1.updS hU5 hgM1 hgM2
    by_cases hlt0 : j1 < N0
    · obtain ⟨R1, q1, B1, hva1, hNq1, hLR1, hA1, hx1_5, hnext1⟩ := hL0.row.next hlt0
      have hRl1 := blk_lt hx1_5
      generalize css0.flatten = A1 at hA1 hx1_5 hnext1
      replace hra0 : ρ 12 = .slice (some ⟨R1, 0, none⟩) N0 q1 := hrc0_12.trans hva1
      have hown1 : ∀ b, ownB va0 b → w2.heap.size ≤ b ∧ b < w5.heap.size := fun b h => hL0.row.own h
      have hoM1 : ∀ b, (fun b => (ok b ∨ w1.heap.size ≤ b) ∧ ¬ ownB va0 b) b → ¬ (b = R1 ∨ b = rb) := fun b hk h => h.elim (fun e => hk.2 ⟨_, _, _, hva1, e⟩) (fun e => hoM b hk.1 (.inr e))
      obtain ⟨X5, hX5⟩ : ∃ X : Array Value, X = (A1 ++ (([.string ByteArray.empty, .slice none 0 0, .map none] : List Value) ++ B1)).toArray := ⟨_, rfl⟩
      have hxb5 : blk w5 R1 = some (X5, 99, (0, 0)) := by rw [hX5]; exact hx1_5
      have hXs5 : j1 * 3 + 3 ≤ X5.size := by rw [hX5]; simp only [List.size_toArray, List.length_append, List.length_cons, List.length_nil, hA1]; omega
      repeat ((first | refine W.seqR rfl ?_ | refine W.seq ?_ | refine W.regR rfl ?_ | refine W.condK ?_ | refine W.block ?_ | refine W.skip ?_ | refine W.ret ?_ | refine W.exit ?_); try simp (maxSteps := 1000000) (disch := (first | omega | (simp only [World.size_alloc, size_wr, size_drew] <;> omega) | exact not_noB _)) only [go_sem, ↓reduceIte, n0, reduceCtorEq, n1, n2, n3, n4, n5, i0, i1, i2, i3, i4, i5, i6, i7, hxb5, hrc0_2, hrc0_7, hrc0_8, hrc0_9, hrc0_10, hrc0_13, hra0, hri0, exitRQ_ret, exitRQ_exit, Int.toNat_natCast, Nat.mul_one])
      refine (DefaultEDescribeLogDirsRequestTopic_fn w5 hx1_5 hA1).mono ?_
      rintro _ w6 ⟨hx1_6, hu6⟩
      have hq6 := And.intro (hq5.1.upd hu6 (by omega) (fun b _ hk e => by have := (hok b hk).1; omega)) (hq5.2.upd hu6 (by omega))
      have hV6 : Upd (fun b => b = R1 ∨ b = rb) w5 w6 := hu6.mono (fun _ h => .inl h)
      have hU6 : Upd (fun b => b = vb ∨ b = rb) w1 w6 := hU5.trans' hV6 fun i hi h => h.elim (fun h => by omega) .inr
      have hz6 := hV6.size
      have hG6 : Glo ev w6 := hG1.updS hU6 hgM1 hgM2
      obtain ⟨X6, hX6⟩ : ∃ X : Array Value, X = (A1 ++ (([.string ByteArray.empty, .slice none 0 0, .map none] : List Value) ++ B1)).toArray := ⟨_, rfl⟩
      have hxb6 : blk w6 R1 = some (X6, 99, (0, 0)) := by rw [hX6]; exact hx1_6
      have hXs6 : j1 * 3 + 3 ≤ X6.size := by rw [hX6]; simp only [List.size_toArray, List.length_append, List.length_cons, List.length_nil, hA1]; omega
      have hbe0_0 : (rdL (rdP d ver false) (dfP d) ver false [fDescribeLogDirsRequestTopic_0, fDescribeLogDirsRequestTopic_1] s2).2 = none → FB := fun h => hlb0 (hL0.bad hlt0 rd1P_none (by show (rd1 (rdP (d + 1) ver false) 10 fs_DescribeLogDirsRequestTopic false false s2).2 = none; rw [rd1_part]; exact rdP_bad h))
      have hhe0_0 : hasS fDescribeLogDirsRequestTopic_0 ver = true := hasS_t (by show (0 : Int) ≤ ver; omega) (by show (-1 : Int) < 0 ∨ ver ≤ (-1 : Int); omega)
      obtain ⟨xe0_0, hxe0_0⟩ : ∃ x, x = (rdF (rdP d ver false) ver false fDescribeLogDirsRequestTopic_0 s2).1 := ⟨_, rfl⟩
      repeat ((first | refine W.seqR rfl ?_ | refine W.seq ?_ | refine W.regR rfl ?_ | refine W.condK ?_ | refine W.block ?_ | refine W.skip ?_ | refine W.ret ?_ | refine W.exit ?_); try simp (maxSteps := 1000000) (disch := (first | omega | (simp only [World.size_alloc, size_wr, size_drew] <;> omega) | exact not_noB _)) only [go_sem, ↓reduceIte, n0, reduceCtorEq, n1, n2, n3, n4, n5, i0, i1, i2, i3, i4, i5, i6, i7, hxb6, hrc0_2, hrc0_7, hrc0_8, hrc0_9, hrc0_10, hrc0_13, hra0, hri0, exitRQ_ret, exitRQ_exit, Int.toNat_natCast, Nat.mul_one])
      have hmay : mayS fDescribeLogDirsRequestTopic_0 ver = false := mayS_no (by show (-1 : Int) < 0 ∨ ver < (-1 : Int); omega)
      have hrd : rdF (rdP d ver false) ver false fDescribeLogDirsRequestTopic_0 s2 = _ := rdF_text rfl hmay
      refine (RString_fn w6 hq6.1 hrok hG6.1 hgrb).mono ?_
      rintro _ w7 ⟨rfl, hq7, hu7⟩
      have hx1_7 := hu7.blk_some hx1_6 (by omega)
      have hV7 : Upd (fun b => b = R1 ∨ b = rb) w6 w7 := hu7.mono (fun _ h => .inr h)
      have hU7 : Upd (fun b => b = vb ∨ b = rb) w1 w7 := hU6.trans' hV7 fun i hi h => h.elim (fun h => by omega) .inr
      have hz7 := hV7.size
      have hG7 : Glo ev w7 := hG1.updS hU7 hgM1 hgM2
      obtain ⟨X7, hX7⟩ : ∃ X : Array Value, X = (A1 ++ (([.string ByteArray.empty, .slice none 0 0, .map none] : List Value) ++ B1)).toArray := ⟨_, rfl⟩
      have hxb7 : blk w7 R1 = some (X7, 99, (0, 0)) := by rw [hX7]; exact hx1_7
      have hXs7 : j1 * 3 + 3 ≤ X7.size := by rw [hX7]; simp only [List.size_toArray, List.length_append, List.length_cons, List.length_nil, hA1]; omega
      have hst : (rdF (rdP d ver false) ver false fDescribeLogDirsRequestTopic_0 s2).2 = (rdStr false s2).2 := by first | (rw [hrd]; rfl) | rw [hrd]
      obtain ⟨s3, hs3⟩ : ∃ s, s = (rdF (rdP d ver false) ver false fDescribeLogDirsRequestTopic_0 s2).2 := ⟨_, rfl⟩
      rw [← hst, ← hs3] at hq7
      clear hst
      have hst7_0 : j1 * 3 + 1 ≤ X7.size := by omega
      have hld7_1 : X7[j1 * 3 + 1]? = some (.slice none 0 0) := by rw [hX7]; exact el_cell (R := 0) hA1 (Nat.le_of_ble_eq_true rfl)
      repeat ((first | refine W.seqR rfl ?_ | refine W.seq ?_ | refine W.regR rfl ?_ | refine W.condK ?_ | refine W.block ?_ | refine W.skip ?_ | refine W.ret ?_ | refine W.exit ?_); try simp (maxSteps := 1000000) (disch := (first | omega | (simp only [World.size_alloc, size_wr, size_drew] <;> omega) | exact not_noB _)) only [go_sem, ↓reduceIte, n0, reduceCtorEq, n1, n2, n3, n4, n5, i0, i1, i2, i3, i4, i5, i6, i7, hxb7, hrc0_2, hrc0_7, hrc0_8, hrc0_9, hrc0_10, hrc0_13, hra0, hri0, exitRQ_ret, exitRQ_exit, Int.toNat_natCast, Nat.mul_one, hst7_0, hld7_1, Array.getElem?_setIfInBounds_ne])
      generalize hw8 : wr w7 R1 (j1 * 3) [strV (rdStr false s2).1] = w8
      have hS8 : Upd (fun b => b = R1 ∨ b = rb) w7 w8 := by rw [← hw8]; exact (Upd.refl _ _).wr _ _ (.inr (.inl rfl))
      have hx1_8 : blk w8 R1 = some ((A1 ++ (([strV (rdStr false s2).1, .slice none 0 0, .map none] : List Value) ++ B1)).toArray, 99, (0, 0)) := by rw [← hw8]; exact el_blk0 hx1_7 hA1 (Nat.le_of_ble_eq_true rfl)
      have hV8 := hS8
      have hU8 : Upd (fun b => b = vb ∨ b = rb) w1 w8 := hU7.trans' hV8 fun i hi h => h.elim (fun h => by omega) .inr
      have hz8 := hV8.size
      have hG8 : Glo ev w8 := hG1.updS hU8 hgM1 hgM2
      have hq8 : Rdr RT ok w8 rb s3 ∧ NN w8 rb s3 := by
        have hn : ∀ x, x = w8 → (Rdr RT ok x rb s3 ∧ NN x rb s3) := fun x hx => by
          rw [hx, ← hw8]
          exact Rdr.store hq7 (by omega) (fun h => by have := (hok _ h).1; first | omega | exact (hok _ h).2 rfl)
        exact hn _ rfl
      obtain ⟨X8, hX8⟩ : ∃ X : Array Value, X = (A1 ++ (([strV (rdStr false s2).1, .slice none 0 0, .map none] : List Value) ++ B1)).toArray := ⟨_, rfl⟩
      have hxb8 : blk w8 R1 = some (X8, 99, (0, 0)) := by rw [hX8]; exact hx1_8
      have hXs8 : j1 * 3 + 3 ≤ X8.size := by rw [hX8]; simp only [List.size_toArray, List.length_append, List.length_cons, List.length_nil, hA1]; omega
      clear hw8
      have hfe0_0 : RepF (RepS true d) (szS true d) fDescribeLogDirsRequestTopic_0 (fun b => (ok b ∨ w1.heap.size ≤ b) ∧ ¬ ownB va0 b) w8 (xe0_0) [strV (rdStr false s2).1] := (RepF_text rfl (by decide)).2 (by rw [hxe0_0, hrd]; rfl)
      clear hrd
      have hbe0_1 : (rdL (rdP d ver false) (dfP d) ver false [fDescribeLogDirsRequestTopic_1] s3).2 = none → FB := fun h => hbe0_0 (by rw [rdL_st (by decide) hhe0_0, ← hs3]; exact h)
      have hhe0_1 : hasS fDescribeLogDirsRequestTopic_1 ver = true := hasS_t (by show (0 : Int) ≤ ver; omega) (by show (-1 : Int) < 0 ∨ ver ≤ (-1 : Int); omega)
      obtain ⟨xe0_1, hxe0_1⟩ : ∃ x, x = (rdF (rdP d ver false) ver false fDescribeLogDirsRequestTopic_1 s3).1 := ⟨_, rfl⟩
      have hld8_1 : X8[j1 * 3 + 1]? = some (.slice none 0 0) := by rw [hX8]; exact el_cell (R := 0) hA1 (Nat.le_of_ble_eq_true rfl)
      repeat ((first | refine W.seqR rfl ?_ | refine W.seq ?_ | refine W.regR rfl ?_ | refine W.condK ?_ | refine W.block ?_ | refine W.skip ?_ | refine W.ret ?_ | refine W.exit ?_); try simp (maxSteps := 1000000) (disch := (first | omega | (simp only [World.size_alloc, size_wr, size_drew] <;> omega) | exact not_noB _)) only [go_sem, ↓reduceIte, n0, reduceCtorEq, n1, n2, n3, n4, n5, i0, i1, i2, i3, i4, i5, i6, i7, hxb8, hrc0_2, hrc0_7, hrc0_8, hrc0_9, hrc0_10, hrc0_13, hra0, hri0, exitRQ_ret, exitRQ_exit, Int.toNat_natCast, Nat.mul_one, hld8_1])
      refine (RArrayLen_fn w8 hq8.1 hrok hG8.1 hgrb).mono ?_
      rintro _ w9 ⟨rfl, hq9, hu9⟩
      have hx1_9 := hu9.blk_some hx1_8 (by omega)
      have hV9 : Upd (fun b => b = R1 ∨ b = rb) w8 w9 := hu9.mono (fun _ h => .inr h)
      have hU9 : Upd (fun b => b = vb ∨ b = rb) w1 w9 := hU8.trans' hV9 fun i hi h => h.elim (fun h => by omega) .inr
      have hz9 := hV9.size
      have hG9 : Glo ev w9 := hG1.updS hU9 hgM1 hgM2
      obtain ⟨X9, hX9⟩ : ∃ X : Array Value, X = (A1 ++ (([strV (rdStr false s2).1, .slice none 0 0, .map none] : List Value) ++ B1)).toArray := ⟨_, rfl⟩
      have hxb9 : blk w9 R1 = some (X9, 99, (0, 0)) := by rw [hX9]; exact hx1_9
      have hXs9 : j1 * 3 + 3 ≤ X9.size := by rw [hX9]; simp only [List.size_toArray, List.length_append, List.length_cons, List.length_nil, hA1]; omega
      obtain ⟨s4, hs4⟩ : ∃ s, s = (rdALen false s3).2 := ⟨_, rfl⟩
      rw [← hs4] at hq9
      have hyr1 := rdALen_rng false s3
      generalize hy1 : (rdALen false s3).1 = y1 at *
      obtain ⟨N1, hN1⟩ : ∃ N, N = y1.toNat := ⟨_, rfl⟩
      have hlb1 : (rdMany (rd1 (rdP d ver false) fDescribeLogDirsRequestTopic_1.of fDescribeLogDirsRequestTopic_1.sub false false) N1 s4).2 = none → FB := fun h => hbe0_1 (by rw [rdL_st (by decide) hhe0_1]; exact rdL_bad (rdF_listbad rfl (by rw [hy1, ← hN1, ← hs4]; exact h)))
      repeat ((first | refine W.seqR rfl ?_ | refine W.seq ?_ | refine W.regR rfl ?_ | refine W.block ?_ | refine W.skip ?_ | refine W.ret ?_ | refine W.exit ?_); try simp (maxSteps := 1000000) (disch := (first | omega | (simp only [World.size_alloc, size_wr, size_drew] <;> omega) | exact not_noB _)) only [go_sem, ↓reduceIte, n0, reduceCtorEq, n1, n2, n3, n4, n5, i0, i1, i2, i3, i4, i5, i6, i7, hxb9, hrc0_2, hrc0_7, hrc0_8, hrc0_9, hrc0_10, hrc0_13, hra0, hri0, exitRQ_ret, exitRQ_exit, Int.toNat_natCast, Nat.mul_one])
      refine (ROk_fn w9 hq9.1).mono ?_
      rintro _ wz ⟨rfl, hez⟩
      rw [hez]
      clear hez wz
      by_cases hsn1 : s4 = none
      · have hso : s4.isSome = false := by rw [hsn1]; rfl
        try simp (maxSteps := 1000000) (disch := (first | omega | (simp only [World.size_alloc, size_wr, size_drew] <;> omega) | exact not_noB _)) only [go_sem, ↓reduceIte, n0, reduceCtorEq, n1, n2, n3, n4, n5, i0, i1, i2, i3, i4, i5, i6, i7, hxb9, hrc0_2, hrc0_7, hrc0_8, hrc0_9, hrc0_10, hrc0_13, hra0, hri0, exitRQ_ret, exitRQ_exit, Int.toNat_natCast, Nat.mul_one, hso]
        repeat ((first | refine W.seqR rfl ?_ | refine W.seq ?_ | refine W.regR rfl ?_ | refine W.condK ?_ | refine W.block ?_ | refine W.skip ?_ | refine W.ret ?_ | refine W.exit ?_); try simp (maxSteps := 1000000) (disch := (first | omega | (simp only [World.size_alloc, size_wr, size_drew] <;> omega) | exact not_noB _)) only [go_sem, ↓reduceIte, n0, reduceCtorEq, n1, n2, n3, n4, n5, i0, i1, i2, i3, i4, i5, i6, i7, hxb9, hrc0_2, hrc0_7, hrc0_8, hrc0_9, hrc0_10, hrc0_13, hra0, hri0, exitRQ_ret, exitRQ_exit, Int.toNat_natCast, Nat.mul_one, hso])
        refine (RComplete_fn w9 hq9.1 hG9.2).mono ?_
        rintro _ wz ⟨rfl, hez⟩
        rw [hez]
        try simp (maxSteps := 1000000) (disch := (first | omega | (simp only [World.size_alloc, size_wr, size_drew] <;> omega) | exact not_noB _)) only [go_sem, ↓reduceIte, n0, reduceCtorEq, n1, n2, n3, n4, n5, i0, i1, i2, i3, i4, i5, i6, i7, hxb9, hrc0_2, hrc0_7, hrc0_8, hrc0_9, hrc0_10, hrc0_13, hra0, hri0, exitRQ_ret, exitRQ_exit, Int.toNat_natCast, Nat.mul_one]
        repeat ((first | refine W.seqR rfl ?_ | refine W.seq ?_ | refine W.regR rfl ?_ | refine W.condK ?_ | refine W.block ?_ | refine W.skip ?_ | refine W.ret ?_ | refine W.exit ?_); try simp (maxSteps := 1000000) (disch := (first | omega | (simp only [World.size_alloc, size_wr, size_drew] <;> omega) | exact not_noB _)) only [go_sem, ↓reduceIte, n0, reduceCtorEq, n1, n2, n3, n4, n5, i0, i1, i2, i3, i4, i5, i6, i7, hxb9, hrc0_2, hrc0_7, hrc0_8, hrc0_9, hrc0_10, hrc0_13, hra0, hri0, exitRQ_ret, exitRQ_exit, Int.toNat_natCast, Nat.mul_one])
        rw [errV_none hsn1]
        exact ReadQ.bad (Eq.mp hFB (hlb1 (by rw [hsn1]; exact rdMany_none rd1P_none _))) (hbase.trans' hU9 fun i hi h => h.elim id fun h => by omega)
      have hso1 : s4.isSome = true := isSome_some hsn1
      try simp (maxSteps := 1000000) (disch := (first | omega | (simp only [World.size_alloc, size_wr, size_drew] <;> omega) | exact not_noB _)) only [go_sem, ↓reduceIte, n0, reduceCtorEq, n1, n2, n3, n4, n5, i0, i1, i2, i3, i4, i5, i6, i7, hxb9, hrc0_2, hrc0_7, hrc0_8, hrc0_9, hrc0_10, hrc0_13, hra0, hri0, exitRQ_ret, exitRQ_exit, Int.toNat_natCast, Nat.mul_one, hso1]
      repeat ((first | refine W.seqR rfl ?_ | refine W.seq ?_ | refine W.regR rfl ?_ | refine W.block ?_ | refine W.skip ?_ | refine W.ret ?_ | refine W.exit ?_); try simp (maxSteps := 1000000) (disch := (first | omega | (simp only [World.size_alloc, size_wr, size_drew] <;> omega) | exact not_noB _)) only [go_sem, ↓reduceIte, n0, reduceCtorEq, n1, n2, n3, n4, n5, i0, i1, i2, i3, i4, i5, i6, i7, hxb9, hrc0_2, hrc0_7, hrc0_8, hrc0_9, hrc0_10, hrc0_13, hra0, hri0, exitRQ_ret, exitRQ_exit, Int.toNat_natCast, Nat.mul_one, hso1])
      refine W.condK ?_
      try simp (maxSteps := 1000000) (disch := (first | omega | (simp only [World.size_alloc, size_wr, size_drew] <;> omega) | exact not_noB _)) only [go_sem, ↓reduceIte, n0, reduceCtorEq, n1, n2, n3, n4, n5, i0, i1, i2, i3, i4, i5, i6, i7, hxb9, hrc0_2, hrc0_7, hrc0_8, hrc0_9, hrc0_10, hrc0_13, hra0, hri0, exitRQ_ret, exitRQ_exit, Int.toNat_natCast, Nat.mul_one, hso1]
      repeat ((first | refine W.seqR rfl ?_ | refine W.seq ?_ | refine W.regR rfl ?_ | refine W.block ?_ | refine W.skip ?_ | refine W.ret ?_ | refine W.exit ?_); try simp (maxSteps := 1000000) (disch := (first | omega | (simp only [World.size_alloc, size_wr, size_drew] <;> omega) | exact not_noB _)) only [go_sem, ↓reduceIte, n0, reduceCtorEq, n1, n2, n3, n4, n5, i0, i1, i2, i3, i4, i5, i6, i7, hxb9, hrc0_2, hrc0_7, hrc0_8, hrc0_9, hrc0_10, hrc0_13, hra0, hri0, exitRQ_ret, exitRQ_exit, Int.toNat_natCast, Nat.mul_one, hso1, slBase_00])
      refine W.normJ (RowQ [(2, .bool false), (7, .pointer (some ⟨rb, 0, none⟩)), (8, .int .i16 ver), (9, .bool false), (10, .pointer (some ⟨vb, 0, none⟩)), (13, .int .i32 y0), (12, .slice (some ⟨R1, 0, none⟩) N0 q1), (14, .int .i32 j1), (16, .pointer (some ⟨R1, j1 * 3, none⟩)), (20, .int .i32 y1)] 19 (fun va w' => LstI RT (rd1 (rdP d ver false) fDescribeLogDirsRequestTopic_1.of fDescribeLogDirsRequestTopic_1.sub false false) (Rep1 (RepS true d) fDescribeLogDirsRequestTopic_1.of fDescribeLogDirsRequestTopic_1.sub) 1 21 [.int .i32 0] w9.heap.size N1 ok (fun b => (ok b ∨ w1.heap.size ≤ b) ∧ ¬ ownB va0 b) rb w9 s4 va 0 s4 [] [] w' ∧ (N1 = 0 → if nilS fDescribeLogDirsRequestTopic_1 ver y1 = true then va = .slice none 0 0 else ∃ a, va = .slice (some a) 0 0))) ?_ ?_
      · by_cases hy0 : (0 : Int) < y1
        · have hyv : Value.int .i32 y1 = .int .i32 ((N1 : Nat) : Int) := by rw [show y1 = ((N1 : Nat) : Int) by omega]
          repeat ((first | refine W.seqR rfl ?_ | refine W.seq ?_ | refine W.regR rfl ?_ | refine W.condK ?_ | refine W.block ?_ | refine W.skip ?_ | refine W.ret ?_ | refine W.exit ?_); try simp (maxSteps := 1000000) (disch := (first | omega | (simp only [World.size_alloc, size_wr, size_drew] <;> omega) | exact not_noB _)) only [go_sem, ↓reduceIte, n0, reduceCtorEq, n1, n2, n3, n4, n5, i0, i1, i2, i3, i4, i5, i6, i7, hxb9, hrc0_2, hrc0_7, hrc0_8, hrc0_9, hrc0_10, hrc0_13, hra0, hri0, exitRQ_ret, exitRQ_exit, Int.toNat_natCast, Nat.mul_one])
          refine wp_appendZ (m := N1) utDescribeLogDirsRequest_97 utDescribeLogDirsRequest_21 inDescribeLogDirsRequest_21 (by decide) (by first | rfl | simp (maxSteps := 1000000) (disch := (first | omega | (simp only [World.size_alloc, size_wr, size_drew] <;> omega) | exact not_noB _)) only [go_sem, ↓reduceIte, n0, reduceCtorEq, n1, n2, n3, n4, n5, i0, i1, i2, i3, i4, i5, i6, i7, hrc0_2, hrc0_7, hrc0_8, hrc0_9, hrc0_10, hrc0_13, hra0, hri0]) (by first | exact hyv | (simp (maxSteps := 1000000) (disch := (first | omega | (simp only [World.size_alloc, size_wr, size_drew] <;> omega) | exact not_noB _)) only [go_sem, ↓reduceIte, n0, reduceCtorEq, n1, n2, n3, n4, n5, i0, i1, i2, i3, i4, i5, i6, i7, hrc0_2, hrc0_7, hrc0_8, hrc0_9, hrc0_10, hrc0_13, hra0, hri0]; exact hyv)) (by omega) (by omega) (by decide) ?_
          intro q rest hq1
          have hEw : Ext w9 (w9.drew.alloc (.cells (zs [.int .i32 0] N1 ++ rest).toArray 21)) := (Upd.refl _ _).drew.alloc _
          try simp (maxSteps := 1000000) (disch := (first | omega | (simp only [World.size_alloc, size_wr, size_drew] <;> omega) | exact not_noB _)) only [go_sem, ↓reduceIte, n0, reduceCtorEq, n1, n2, n3, n4, n5, i0, i1, i2, i3, i4, i5, i6, i7, hxb9, hrc0_2, hrc0_7, hrc0_8, hrc0_9, hrc0_10, hrc0_13, hra0, hri0, exitRQ_ret, exitRQ_exit, Int.toNat_natCast, Nat.mul_one]
          repeat ((first | refine W.seqR rfl ?_ | refine W.seq ?_ | refine W.regR rfl ?_ | refine W.condK ?_ | refine W.block ?_ | refine W.skip ?_ | refine W.ret ?_ | refine W.exit ?_); try simp (maxSteps := 1000000) (disch := (first | omega | (simp only [World.size_alloc, size_wr, size_drew] <;> omega) | exact not_noB _)) only [go_sem, ↓reduceIte, n0, reduceCtorEq, n1, n2, n3, n4, n5, i0, i1, i2, i3, i4, i5, i6, i7, hxb9, hrc0_2, hrc0_7, hrc0_8, hrc0_9, hrc0_10, hrc0_13, hra0, hri0, exitRQ_ret, exitRQ_exit, Int.toNat_natCast, Nat.mul_one])
          exact ⟨(by simp (maxSteps := 1000000) (disch := (first | omega | (simp only [World.size_alloc, size_wr, size_drew] <;> omega) | exact not_noB _)) only [go_sem, ↓reduceIte, n0, reduceCtorEq, n1, n2, n3, n4, n5, i0, i1, i2, i3, i4, i5, i6, i7, Holds_nil, Holds_cons, hrc0_2, hrc0_7, hrc0_8, hrc0_9, hrc0_10, hrc0_13, hra0, hri0]), .slice (some ⟨w9.heap.size, 0, none⟩) N1 q, (by simp (maxSteps := 1000000) (disch := (first | omega | (simp only [World.size_alloc, size_wr, size_drew] <;> omega) | exact not_noB _)) only [go_sem, ↓reduceIte, n0, reduceCtorEq, n1, n2, n3, n4, n5, i0, i1, i2, i3, i4, i5, i6, i7, hrc0_2, hrc0_7, hrc0_8, hrc0_9, hrc0_10, hrc0_13, hra0, hri0]), LstI.start (RowJ.start (by omega) hq1 (by show w9.heap.size ≤ w9.drew.heap.size; rw [size_drew]; omega) (blk_alloc_new rfl)) ⟨hq9.1.upd hEw (fun h => h) (fun _ _ _ h => h), hq9.2.upd hEw fun h => h⟩ (hEw.mono fun _ h => h.elim), fun h0 => by omega⟩
        · repeat ((first | refine W.seqR rfl ?_ | refine W.seq ?_ | refine W.regR rfl ?_ | refine W.condK ?_ | refine W.block ?_ | refine W.skip ?_ | refine W.ret ?_ | refine W.exit ?_); try simp (maxSteps := 1000000) (disch := (first | omega | (simp only [World.size_alloc, size_wr, size_drew] <;> omega) | exact not_noB _)) only [go_sem, ↓reduceIte, n0, reduceCtorEq, n1, n2, n3, n4, n5, i0, i1, i2, i3, i4, i5, i6, i7, hxb9, hrc0_2, hrc0_7, hrc0_8, hrc0_9, hrc0_10, hrc0_13, hra0, hri0, exitRQ_ret, exitRQ_exit, Int.toNat_natCast, Nat.mul_one])
          exact ⟨(by simp (maxSteps := 1000000) (disch := (first | omega | (simp only [World.size_alloc, size_wr, size_drew] <;> omega) | exact not_noB _)) only [go_sem, ↓reduceIte, n0, reduceCtorEq, n1, n2, n3, n4, n5, i0, i1, i2, i3, i4, i5, i6, i7, Holds_nil, Holds_cons, hrc0_2, hrc0_7, hrc0_8, hrc0_9, hrc0_10, hrc0_13, hra0, hri0]), .slice none 0 0, (by simp (maxSteps := 1000000) (disch := (first | omega | (simp only [World.size_alloc, size_wr, size_drew] <;> omega) | exact not_noB _)) only [go_sem, ↓reduceIte, n0, reduceCtorEq, n1, n2, n3, n4, n5, i0, i1, i2, i3, i4, i5, i6, i7, hrc0_2, hrc0_7, hrc0_8, hrc0_9, hrc0_10, hrc0_13, hra0, hri0, slBase_00]), LstI.start (RowJ.zero (by omega) (fun _ h => by cases h)) hq9 (Upd.refl _ _), fun _ => by rw [nilS_plain (by decide) (by omega)]; exact rfl⟩
      rintro ρ w10 ⟨⟨hrb1_2, hrb1_7, hrb1_8, hrb1_9, hrb1_10, hrb1_13, hrb1_12, hrb1_14, hrb1_16, hrb1_20, -⟩, va1, hra1, hL1, hnc1⟩
      repeat ((first | refine W.seqR rfl ?_ | refine W.seq ?_ | refine W.regR rfl ?_ | refine W.condK ?_ | refine W.block ?_ | refine W.skip ?_ | refine W.ret ?_ | refine W.exit ?_); try simp (maxSteps := 1000000) (disch := (first | omega | (simp only [World.size_alloc, size_wr, size_drew] <;> omega) | exact not_noB _)) only [go_sem, ↓reduceIte, n0, reduceCtorEq, n1, n2, n3, n4, n5, i0, i1, i2, i3, i4, i5, i6, i7, hxb9, hrb1_2, hrb1_7, hrb1_8, hrb1_9, hrb1_10, hrb1_13, hrb1_12, hrb1_14, hrb1_16, hrb1_20, hra1, exitRQ_ret, exitRQ_exit, Int.toNat_natCast, Nat.mul_one])
      refine W.exitRJ 2 (EndQ [(2, .bool false), (7, .pointer (some ⟨rb, 0, none⟩)), (8, .int .i16 ver), (9, .bool false), (10, .pointer (some ⟨vb, 0, none⟩)), (13, .int .i32 y0), (12, .slice (some ⟨R1, 0, none⟩) N0 q1), (14, .int .i32 j1), (16, .pointer (some ⟨R1, j1 * 3, none⟩)), (20, .int .i32 y1), (19, va1)] (fun w' => ∃ s xs css, LstI RT (rd1 (rdP d ver false) fDescribeLogDirsRequestTopic_1.of fDescribeLogDirsRequestTopic_1.sub false false) (Rep1 (RepS true d) fDescribeLogDirsRequestTopic_1.of fDescribeLogDirsRequestTopic_1.sub) 1 21 [.int .i32 0] w9.heap.size N1 ok (fun b => (ok b ∨ w1.heap.size ≤ b) ∧ ¬ ownB va0 b) rb w9 s4 va1 N1 s xs css w')) (W.loop (LoopQ [(2, .bool false), (7, .pointer (some ⟨rb, 0, none⟩)), (8, .int .i16 ver), (9, .bool false), (10, .pointer (some ⟨vb, 0, none⟩)), (13, .int .i32 y0), (12, .slice (some ⟨R1, 0, none⟩) N0 q1), (14, .int .i32 j1), (16, .pointer (some ⟨R1, j1 * 3, none⟩)), (20, .int .i32 y1), (19, va1)] 21 (fun j w' => ∃ s xs css, LstI RT (rd1 (rdP d ver false) fDescribeLogDirsRequestTopic_1.of fDescribeLogDirsRequestTopic_1.sub false false) (Rep1 (RepS true d) fDescribeLogDirsRequestTopic_1.of fDescribeLogDirsRequestTopic_1.sub) 1 21 [.int .i32 0] w9.heap.size N1 ok (fun b => (ok b ∨ w1.heap.size ≤ b) ∧ ¬ ownB va0 b) rb w9 s4 va1 j s xs css w')) (fun ρ _ => N1 - (RowKit.intOf (ρ 21)).toNat) ?_ ?_) ?_
      · exact ⟨(by simp (maxSteps := 1000000) (disch := (first | omega | (simp only [World.size_alloc, size_wr, size_drew] <;> omega) | exact not_noB _)) only [go_sem, ↓reduceIte, n0, reduceCtorEq, n1, n2, n3, n4, n5, i0, i1, i2, i3, i4, i5, i6, i7, Holds_nil, Holds_cons, hrb1_2, hrb1_7, hrb1_8, hrb1_9, hrb1_10, hrb1_13, hrb1_12, hrb1_14, hrb1_16, hrb1_20, hra1]), 0, (by simp (maxSteps := 1000000) (disch := (first | omega | (simp only [World.size_alloc, size_wr, size_drew] <;> omega) | exact not_noB _)) only [go_sem, ↓reduceIte, n0, reduceCtorEq, n1, n2, n3, n4, n5, i0, i1, i2, i3, i4, i5, i6, i7, hrb1_2, hrb1_7, hrb1_8, hrb1_9, hrb1_10, hrb1_13, hrb1_12, hrb1_14, hrb1_16, hrb1_20, hra1]; all_goals rfl), s4, [], [], hL1⟩
      · rintro ρ w11 ⟨⟨hrc1_2, hrc1_7, hrc1_8, hrc1_9, hrc1_10, hrc1_13, hrc1_12, hrc1_14, hrc1_16, hrc1_20, hrc1_19, -⟩, j2, hri1, s5, xs1, css1, hL1⟩
        have hj1 := hL1.le
        have hq11 := hL1.rd
        have hU11 : Upd (fun b => b = vb ∨ b = rb) w1 w11 := hU9.trans' hL1.upd fun i _ h => .inr h
        have hz11 := hL1.upd.size
        have hG11 : Glo ev w11 := hG1.updS hU11 hgM1 hgM2
        by_cases hlt1 : j2 < N1
        · obtain ⟨R2, q2, B2, hva2, hNq2, hLR2, hA2, hx2_11, hnext2⟩ := hL1.row.next hlt1
          have hRl2 := blk_lt hx2_11
          generalize css1.flatten = A2 at hA2 hx2_11 hnext2
          rw [Nat.mul_one] at hA2
          replace hra1 : ρ 19 = .slice (some ⟨R2, 0, none⟩) N1 q2 := hrc1_19.trans hva2
          have hown2 : ∀ b, ownB va1 b → w9.heap.size ≤ b ∧ b < w11.heap.size := fun b h => hL1.row.own h
          have hoM2 : ∀ b, (fun b => (fun b => (ok b ∨ w1.heap.size ≤ b) ∧ ¬ ownB va0 b) b ∧ ¬ ownB va1 b) b → ¬ (b = R2 ∨ b = rb) := fun b hk h => h.elim (fun e => hk.2 ⟨_, _, _, hva2, e⟩) (fun e => hoM1 b hk.1 (.inr e))
          obtain ⟨X11, hX11⟩ : ∃ X : Array Value, X = (A2 ++ (([.int .i32 0] : List Value) ++ B2)).toArray := ⟨_, rfl⟩
          have hxb11 : blk w11 R2 = some (X11, 21, (0, 0)) := by rw [hX11]; exact hx2_11
          have hXs11 : j2 + 1 ≤ X11.size := by rw [hX11]; simp only [List.size_toArray, List.length_append, List.length_cons, List.length_nil, hA2]; omega
          repeat ((first | refine W.seqR rfl ?_ | refine W.seq ?_ | refine W.regR rfl ?_ | refine W.condK ?_ | refine W.block ?_ | refine W.skip ?_ | refine W.ret ?_ | refine W.exit ?_); try simp (maxSteps := 1000000) (disch := (first | omega | (simp only [World.size_alloc, size_wr, size_drew] <;> omega) | exact not_noB _)) only [go_sem, ↓reduceIte, n0, reduceCtorEq, n1, n2, n3, n4, n5, i0, i1, i2, i3, i4, i5, i6, i7, hxb11, hrc1_2, hrc1_7, hrc1_8, hrc1_9, hrc1_10, hrc1_13, hrc1_12, hrc1_14, hrc1_16, hrc1_20, hra1, hri1, exitRQ_ret, exitRQ_exit, Int.toNat_natCast, Nat.mul_one])
          refine (Int32_fn w11 hq11.1 hrok hG11.1 hgrb).mono ?_
          rintro _ w12 ⟨rfl, hq12, hu12⟩
          have hx2_12 := hu12.blk_some hx2_11 (by omega)
          have hV12 : Upd (fun b => b = R2 ∨ b = rb) w11 w12 := hu12.mono (fun _ h => .inr h)
          have hU12 : Upd (fun b => b = vb ∨ b = rb) w1 w12 := hU11.trans' hV12 fun i hi h => h.elim (fun h => by omega) .inr
          have hz12 := hV12.size
          have hG12 : Glo ev w12 := hG1.updS hU12 hgM1 hgM2
          obtain ⟨X12, hX12⟩ : ∃ X : Array Value, X = (A2 ++ (([.int .i32 0] : List Value) ++ B2)).toArray := ⟨_, rfl⟩
          have hxb12 : blk w12 R2 = some (X12, 21, (0, 0)) := by rw [hX12]; exact hx2_12
          have hXs12 : j2 + 1 ≤ X12.size := by rw [hX12]; simp only [List.size_toArray, List.length_append, List.length_cons, List.length_nil, hA2]; omega
          obtain ⟨s6, hs6⟩ : ∃ s, s = (rdInt .i32 4 s5).2 := ⟨_, rfl⟩
          rw [← hs6] at hq12
          have hrE : (rd1 (rdP d ver false) fDescribeLogDirsRequestTopic_1.of fDescribeLogDirsRequestTopic_1.sub false false) s5 = ((.num (rdInt .i32 4 s5).1), s6) := by rw [hs6]; exact rd1_num 3 (by decide)
          have hst12_0 : j2 + 1 ≤ X12.size := by omega
          repeat ((first | refine W.seqR rfl ?_ | refine W.seq ?_ | refine W.regR rfl ?_ | refine W.condK ?_ | refine W.block ?_ | refine W.skip ?_ | refine W.ret ?_ | refine W.exit ?_); try simp (maxSteps := 1000000) (disch := (first | omega | (simp only [World.size_alloc, size_wr, size_drew] <;> omega) | exact not_noB _)) only [go_sem, ↓reduceIte, n0, reduceCtorEq, n1, n2, n3, n4, n5, i0, i1, i2, i3, i4, i5, i6, i7, hxb12, hrc1_2, hrc1_7, hrc1_8, hrc1_9, hrc1_10, hrc1_13, hrc1_12, hrc1_14, hrc1_16, hrc1_20, hra1, hri1, exitRQ_ret, exitRQ_exit, Int.toNat_natCast, Nat.mul_one, hst12_0])
          generalize hw13 : wr w12 R2 (j2) [.int .i32 (rdInt .i32 4 s5).1] = w13
          have hS13 : Upd (fun b => b = R2 ∨ b = rb) w12 w13 := by rw [← hw13]; exact (Upd.refl _ _).wr _ _ (.inr (.inl rfl))
          have hx2_13 : blk w13 R2 = some ((A2 ++ (([.int .i32 (rdInt .i32 4 s5).1] : List Value) ++ B2)).toArray, 21, (0, 0)) := by rw [← hw13]; exact el_blk0 hx2_12 hA2 (Nat.le_of_ble_eq_true rfl)
          have hV13 := hS13
          have hU13 : Upd (fun b => b = vb ∨ b = rb) w1 w13 := hU12.trans' hV13 fun i hi h => h.elim (fun h => by omega) .inr
          have hz13 := hV13.size
          have hG13 : Glo ev w13 := hG1.updS hU13 hgM1 hgM2
          have hq13 : Rdr RT ok w13 rb s6 ∧ NN w13 rb s6 := by
            have hn : ∀ x, x = w13 → (Rdr RT ok x rb s6 ∧ NN x rb s6) := fun x hx => by
              rw [hx, ← hw13]
              exact Rdr.store hq12 (by omega) (fun h => by have := (hok _ h).1; first | omega | exact (hok _ h).2 rfl)
            exact hn _ rfl
          obtain ⟨X13, hX13⟩ : ∃ X : Array Value, X = (A2 ++ (([.int .i32 (rdInt .i32 4 s5).1] : List Value) ++ B2)).toArray := ⟨_, rfl⟩
          have hxb13 : blk w13 R2 = some (X13, 21, (0, 0)) := by rw [hX13]; exact hx2_13
          have hXs13 : j2 + 1 ≤ X13.size := by rw [hX13]; simp only [List.size_toArray, List.length_append, List.length_cons, List.length_nil, hA2]; omega
          clear hw13
          have hxE : (Rep1 (RepS true d) fDescribeLogDirsRequestTopic_1.of fDescribeLogDirsRequestTopic_1.sub) (fun b => (fun b => (ok b ∨ w1.heap.size ≤ b) ∧ ¬ ownB va0 b) b ∧ ¬ ownB va1 b) w13 (.num (rdInt .i32 4 s5).1) [.int .i32 (rdInt .i32 4 s5).1] := (Rep1_num (by decide)).2 (congrArg (fun x => [x]) (numC_rd 3 (by decide) 4 s5).symm)
          repeat ((first | refine W.seqR rfl ?_ | refine W.seq ?_ | refine W.regR rfl ?_ | refine W.condK ?_ | refine W.block ?_ | refine W.skip ?_ | refine W.ret ?_ | refine W.exit ?_); try simp (maxSteps := 1000000) (disch := (first | omega | (simp only [World.size_alloc, size_wr, size_drew] <;> omega) | exact not_noB _)) only [go_sem, ↓reduceIte, n0, reduceCtorEq, n1, n2, n3, n4, n5, i0, i1, i2, i3, i4, i5, i6, i7, hxb13, hrc1_2, hrc1_7, hrc1_8, hrc1_9, hrc1_10, hrc1_13, hrc1_12, hrc1_14, hrc1_16, hrc1_20, hra1, hri1, exitRQ_ret, exitRQ_exit, Int.toNat_natCast, Nat.mul_one])
          have hTk : Upd (fun b => b = R2 ∨ b = rb) w11 w13 := (hV12.trans hV13)
          have hL' := hL1.step (Rep1_lay _ _ fun _ => RepS_lay true _ _) hlt1 (hnext2 w13 [.int .i32 (rdInt .i32 4 s5).1] rfl hx2_13) (by rw [hrE]; exact hxE) (hTk.mono fun b h => h.imp (fun e => ⟨_, _, _, hva2, e⟩) id) (by rw [hrE]; exact hq13) (fun h => hoM1 rb h (.inr rfl)) (Nat.le_refl _)
          have hij : IntKind.i32.wrap ((j2 : Int) + 1) = ((j2 + 1 : Nat) : Int) := by rw [i32_wrap (by omega)]; omega
          repeat ((first | refine W.seqR rfl ?_ | refine W.seq ?_ | refine W.regR rfl ?_ | refine W.condK ?_ | refine W.block ?_ | refine W.skip ?_ | refine W.ret ?_ | refine W.exit ?_); try simp (maxSteps := 1000000) (disch := (first | omega | (simp only [World.size_alloc, size_wr, size_drew] <;> omega) | exact not_noB _)) only [go_sem, ↓reduceIte, n0, reduceCtorEq, n1, n2, n3, n4, n5, i0, i1, i2, i3, i4, i5, i6, i7, hxb13, hrc1_2, hrc1_7, hrc1_8, hrc1_9, hrc1_10, hrc1_13, hrc1_12, hrc1_14, hrc1_16, hrc1_20, hra1, hri1, exitRQ_ret, exitRQ_exit, Int.toNat_natCast, Nat.mul_one, hij])
          refine ⟨⟨(by simp (maxSteps := 1000000) (disch := (first | omega | (simp only [World.size_alloc, size_wr, size_drew] <;> omega) | exact not_noB _)) only [go_sem, ↓reduceIte, n0, reduceCtorEq, n1, n2, n3, n4, n5, i0, i1, i2, i3, i4, i5, i6, i7, Holds_nil, Holds_cons, hrc1_2, hrc1_7, hrc1_8, hrc1_9, hrc1_10, hrc1_13, hrc1_12, hrc1_14, hrc1_16, hrc1_20, hra1, hri1]; exact hva2.symm), j2 + 1, (by simp (maxSteps := 1000000) (disch := (first | omega | (simp only [World.size_alloc, size_wr, size_drew] <;> omega) | exact not_noB _)) only [go_sem, ↓reduceIte, n0, reduceCtorEq, n1, n2, n3, n4, n5, i0, i1, i2, i3, i4, i5, i6, i7, hrc1_2, hrc1_7, hrc1_8, hrc1_9, hrc1_10, hrc1_13, hrc1_12, hrc1_14, hrc1_16, hrc1_20, hra1, hri1, hij]; all_goals rfl), _, _, _, hL'⟩, ?_⟩
          try simp (maxSteps := 1000000) (disch := (first | omega | (simp only [World.size_alloc, size_wr, size_drew] <;> omega) | exact not_noB _)) only [go_sem, ↓reduceIte, n0, reduceCtorEq, n1, n2, n3, n4, n5, i0, i1, i2, i3, i4, i5, i6, i7, hrc1_2, hrc1_7, hrc1_8, hrc1_9, hrc1_10, hrc1_13, hrc1_12, hrc1_14, hrc1_16, hrc1_20, hra1, hri1]
          simp only [RowKit.intOf]
          omega
        · have hjN : j2 = N1 := by omega
          rw [hjN] at hL1
          repeat ((first | refine W.seqR rfl ?_ | refine W.seq ?_ | refine W.regR rfl ?_ | refine W.condK ?_ | refine W.block ?_ | refine W.skip ?_ | refine W.ret ?_ | refine W.exit ?_); try simp (maxSteps := 1000000) (disch := (first | omega | (simp only [World.size_alloc, size_wr, size_drew] <;> omega) | exact not_noB _)) only [go_sem, ↓reduceIte, n0, reduceCtorEq, n1, n2, n3, n4, n5, i0, i1, i2, i3, i4, i5, i6, i7, hrc1_2, hrc1_7, hrc1_8, hrc1_9, hrc1_10, hrc1_13, hrc1_12, hrc1_14, hrc1_16, hrc1_20, hrc1_19, hri1, exitRQ_ret, exitRQ_exit])
          exact ⟨(by simp (maxSteps := 1000000) (disch := (first | omega | (simp only [World.size_alloc, size_wr, size_drew] <;> omega) | exact not_noB _)) only [go_sem, ↓reduceIte, n0, reduceCtorEq, n1, n2, n3, n4, n5, i0, i1, i2, i3, i4, i5, i6, i7, Holds_nil, Holds_cons, hrc1_2, hrc1_7, hrc1_8, hrc1_9, hrc1_10, hrc1_13, hrc1_12, hrc1_14, hrc1_16, hrc1_20, hrc1_19, hri1]), s5, xs1, css1, hL1⟩
      rintro ρ w14 ⟨⟨hrd1_2, hrd1_7, hrd1_8, hrd1_9, hrd1_10, hrd1_13, hrd1_12, hrd1_14, hrd1_16, hrd1_20, hrd1_19, -⟩, s7, xs1, css1, hL1⟩
      have hq14 := hL1.rd
      have hu14 := hL1.upd
      have hx1_14 := hu14.blk_some hx1_9 (by omega)
      have hV14 : Upd (fun b => b = R1 ∨ b = rb) w9 w14 := hu14.mono (fun _ h => .inr h)
      have hU14 : Upd (fun b => b = vb ∨ b = rb) w1 w14 := hU9.trans' hV14 fun i hi h => h.elim (fun h => by omega) .inr
      have hz14 := hV14.size
      have hG14 : Glo ev w14 := hG1.updS hU14 hgM1 hgM2
      obtain ⟨X14, hX14⟩ : ∃ X : Array Value, X = (A1 ++ (([strV (rdStr false s2).1, .slice none 0 0, .map none] : List Value) ++ B1)).toArray := ⟨_, rfl⟩
      have hxb14 : blk w14 R1 = some (X14, 99, (0, 0)) := by rw [hX14]; exact hx1_14
      have hXs14 : j1 * 3 + 3 ≤ X14.size := by rw [hX14]; simp only [List.size_toArray, List.length_append, List.length_cons, List.length_nil, hA1]; omega
      have hrd1 : rdF (rdP d ver false) ver false fDescribeLogDirsRequestTopic_1 s3 = (.mk 0 [] (nilS fDescribeLogDirsRequestTopic_1 ver y1) xs1 [], s7) := by
        have h := rdF_listE (pt := (rdP d ver false)) (v := ver) (flex := false) (f := fDescribeLogDirsRequestTopic_1) (s := s3) (xs := xs1) (e := s7) rfl (by rw [hy1, ← hN1, ← hs4]; exact hL1.done)
        rw [hy1] at h; exact h
      have hs7 : s7 = (rdF (rdP d ver false) ver false fDescribeLogDirsRequestTopic_1 s3).2 := by rw [hrd1]
      obtain ⟨aa1, qq1, hvs1⟩ := hL1.row.shape
      subst hvs1
      have hst14_1 : j1 * 3 + 2 ≤ X14.size := by omega
      repeat ((first | refine W.seqR rfl ?_ | refine W.seq ?_ | refine W.regR rfl ?_ | refine W.condK ?_ | refine W.block ?_ | refine W.skip ?_ | refine W.ret ?_ | refine W.exit ?_); try simp (maxSteps := 1000000) (disch := (first | omega | (simp only [World.size_alloc, size_wr, size_drew] <;> omega) | exact not_noB _)) only [go_sem, ↓reduceIte, n0, reduceCtorEq, n1, n2, n3, n4, n5, i0, i1, i2, i3, i4, i5, i6, i7, hxb14, hrd1_2, hrd1_7, hrd1_8, hrd1_9, hrd1_10, hrd1_13, hrd1_12, hrd1_14, hrd1_16, hrd1_20, hrd1_19, exitRQ_ret, exitRQ_exit, Int.toNat_natCast, Nat.mul_one, hst14_1])
      generalize hw15 : wr w14 R1 (j1 * 3 + 1) [.slice aa1 N1 qq1] = w15
      have hS15 : Upd (fun b => b = R1 ∨ b = rb) w14 w15 := by rw [← hw15]; exact (Upd.refl _ _).wr _ _ (.inr (.inl rfl))
      have hx1_15 : blk w15 R1 = some ((A1 ++ (([strV (rdStr false s2).1, .slice aa1 N1 qq1, .map none] : List Value) ++ B1)).toArray, 99, (0, 0)) := by rw [← hw15]; exact el_blk (o := 1) hx1_14 hA1 (Nat.le_of_ble_eq_true rfl)
      have hV15 := hS15
      have hU15 : Upd (fun b => b = vb ∨ b = rb) w1 w15 := hU14.trans' hV15 fun i hi h => h.elim (fun h => by omega) .inr
      have hz15 := hV15.size
      have hG15 : Glo ev w15 := hG1.updS hU15 hgM1 hgM2
      have hq15 : Rdr RT ok w15 rb s7 ∧ NN w15 rb s7 := by
        have hn : ∀ x, x = w15 → (Rdr RT ok x rb s7 ∧ NN x rb s7) := fun x hx => by
          rw [hx, ← hw15]
          exact Rdr.store hq14 (by omega) (fun h => by have := (hok _ h).1; first | omega | exact (hok _ h).2 rfl)
        exact hn _ rfl
      obtain ⟨X15, hX15⟩ : ∃ X : Array Value, X = (A1 ++ (([strV (rdStr false s2).1, .slice aa1 N1 qq1, .map none] : List Value) ++ B1)).toArray := ⟨_, rfl⟩
      have hxb15 : blk w15 R1 = some (X15, 99, (0, 0)) := by rw [hX15]; exact hx1_15
      have hXs15 : j1 * 3 + 3 ≤ X15.size := by rw [hX15]; simp only [List.size_toArray, List.length_append, List.length_cons, List.length_nil, hA1]; omega
      clear hw15
      have hfe0_1 : RepF (RepS true d) (szS true d) fDescribeLogDirsRequestTopic_1 (fun b => (ok b ∨ w1.heap.size ≤ b) ∧ ¬ ownB va0 b) w15 (xe0_1) [.slice aa1 N1 qq1] := by rw [hxe0_1, hrd1]; exact RepF.keepS (RepF_row rfl hnc1 hN1 rfl hL1.row hL1.all (fun b hb => ⟨.inr (by omega), fun ho => by have := (hown1 _ ho).2; omega⟩)) (hV15.keeps fun b _ hk e => hoM1 b hk e)
      clear hL1 hnc1
      have hle0_2 : rdL (rdP d ver false) (dfP d) ver false [] s7 = ([], s7) := rfl
      have hle0_1 : rdL (rdP d ver false) (dfP d) ver false [fDescribeLogDirsRequestTopic_1] s3 = ([xe0_1], s7) := by rw [rdL_st (by decide) hhe0_1, ← hxe0_1, ← hs7, hle0_2]
      have hle0_0 : rdL (rdP d ver false) (dfP d) ver false [fDescribeLogDirsRequestTopic_0, fDescribeLogDirsRequestTopic_1] s2 = ([xe0_0, xe0_1], s7) := by rw [rdL_st (by decide) hhe0_0, ← hxe0_0, ← hs3, hle0_1]
      have hfine0 : rdP (d + 1) ver false fs_DescribeLogDirsRequestTopic s2 = (.mk 0 [] false [xe0_0, xe0_1] [], s7) := rdP_f hle0_0
      have hTge0 : TagsM (fun b => (ok b ∨ w1.heap.size ≤ b) ∧ ¬ ownB va0 b) w15 (.map none) [] := .inl ⟨rfl, rfl⟩
      have hCe0_15 : Upd (fun b => b = R1 ∨ b = rb) w15 w15 := Upd.refl _ _
      have hCe0_14 : Upd (fun b => b = R1 ∨ b = rb) w14 w15 := hV15.trans hCe0_15
      have hCe0_9 : Upd (fun b => b = R1 ∨ b = rb) w9 w15 := hV14.trans hCe0_14
      have hCe0_8 : Upd (fun b => b = R1 ∨ b = rb) w8 w15 := hV9.trans hCe0_9
      have hCe0_7 : Upd (fun b => b = R1 ∨ b = rb) w7 w15 := hV8.trans hCe0_8
      have hCe0_6 : Upd (fun b => b = R1 ∨ b = rb) w6 w15 := hV7.trans hCe0_7
      have hCe0_5 : Upd (fun b => b = R1 ∨ b = rb) w5 w15 := hV6.trans hCe0_6
      have hRe0 : RepS true (d + 1) fs_DescribeLogDirsRequestTopic (fun b => (ok b ∨ w1.heap.size ≤ b) ∧ ¬ ownB va0 b) w15 (.mk 0 [] false [xe0_0, xe0_1] []) [strV (rdStr false s2).1, .slice aa1 N1 qq1, .map none] := RepS.introT (c := [strV (rdStr false s2).1, .slice aa1 N1 qq1]) (RepL.cons1 (hfe0_0.keepS (hCe0_8.keeps fun b _ hk e => hoM1 b hk e)) (RepL.cons1 (hfe0_1.keepS (hCe0_15.keeps fun b _ hk e => hoM1 b hk e)) RepL.nil)) hTge0
      have hrE : (rd1 (rdP (d + 1) ver false) fDescribeLogDirsRequest_0.of fDescribeLogDirsRequest_0.sub false false) s2 = ((.mk 0 [] false [xe0_0, xe0_1] []), s7) := by rw [show (rd1 (rdP (d + 1) ver false) fDescribeLogDirsRequest_0.of fDescribeLogDirsRequest_0.sub false false) s2 = _ from rd1_part]; exact hfine0
      have hxE : (Rep1 (RepS true (d + 1)) fDescribeLogDirsRequest_0.of fDescribeLogDirsRequest_0.sub) (fun b => (ok b ∨ w1.heap.size ≤ b) ∧ ¬ ownB va0 b) w15 (.mk 0 [] false [xe0_0, xe0_1] []) [strV (rdStr false s2).1, .slice aa1 N1 qq1, .map none] := Rep1_part.2 hRe0
      repeat ((first | refine W.seqR rfl ?_ | refine W.seq ?_ | refine W.regR rfl ?_ | refine W.condK ?_ | refine W.block ?_ | refine W.skip ?_ | refine W.ret ?_ | refine W.exit ?_); try simp (maxSteps := 1000000) (disch := (first | omega | (simp only [World.size_alloc, size_wr, size_drew] <;> omega) | exact not_noB _)) only [go_sem, ↓reduceIte, n0, reduceCtorEq, n1, n2, n3, n4, n5, i0, i1, i2, i3, i4, i5, i6, i7, hxb15, hrd1_2, hrd1_7, hrd1_8, hrd1_9, hrd1_10, hrd1_13, hrd1_12, hrd1_14, hrd1_16, hrd1_20, hrd1_19, exitRQ_ret, exitRQ_exit, Int.toNat_natCast, Nat.mul_one])
      have hTk : Upd (fun b => b = R1 ∨ b = rb) w5 w15 := (((((hV6.trans hV7).trans hV8).trans hV9).trans hV14).trans hV15)
      have hL' := hL0.step (Rep1_lay _ _ fun _ => RepS_lay true _ _) hlt0 (hnext1 w15 [strV (rdStr false s2).1, .slice aa1 N1 qq1, .map none] rfl hx1_15) (by rw [hrE]; exact hxE) (hTk.mono fun b h => h.imp (fun e => ⟨_, _, _, hva1, e⟩) id) (by rw [hrE]; exact hq15) (fun h => hoM rb h (.inr rfl)) (Nat.le_refl _)
      have hij : IntKind.i32.wrap ((j1 : Int) + 1) = ((j1 + 1 : Nat) : Int) := by rw [i32_wrap (by omega)]; omega
      repeat ((first | refine W.seqR rfl ?_ | refine W.seq ?_ | refine W.regR rfl ?_ | refine W.condK ?_ | refine W.block ?_ | refine W.skip ?_ | refine W.ret ?_ | refine W.exit ?_); try simp (maxSteps := 1000000) (disch := (first | omega | (simp only [World.size_alloc, size_wr, size_drew] <;> omega) | exact not_noB _)) only [go_sem, ↓reduceIte, n0, reduceCtorEq, n1, n2, n3, n4, n5, i0, i1, i2, i3, i4, i5, i6, i7, hxb15, hrd1_2, hrd1_7, hrd1_8, hrd1_9, hrd1_10, hrd1_13, hrd1_12, hrd1_14, hrd1_16, hrd1_20, hrd1_19, exitRQ_ret, exitRQ_exit, Int.toNat_natCast, Nat.mul_one, hij])
      refine ⟨⟨(by simp (maxSteps := 1000000) (disch := (first | omega | (simp only [World.size_alloc, size_wr, size_drew] <;> omega) | exact not_noB _)) only [go_sem, ↓reduceIte, n0, reduceCtorEq, n1, n2, n3, n4, n5, i0, i1, i2, i3, i4, i5, i6, i7, Holds_nil, Holds_cons, hrd1_2, hrd1_7, hrd1_8, hrd1_9, hrd1_10, hrd1_13, hrd1_12, hrd1_14, hrd1_16, hrd1_20, hrd1_19]; exact hva1.symm), j1 + 1, (by simp (maxSteps := 1000000) (disch := (first | omega | (simp only [World.size_alloc, size_wr, size_drew] <;> omega) | exact not_noB _)) only [go_sem, ↓reduceIte, n0, reduceCtorEq, n1, n2, n3, n4, n5, i0, i1, i2, i3, i4, i5, i6, i7, hrd1_2, hrd1_7, hrd1_8, hrd1_9, hrd1_10, hrd1_13, hrd1_12, hrd1_14, hrd1_16, hrd1_20, hrd1_19, hij]; all_goals rfl), _, _, _, hL'⟩, ?_⟩
      try simp (maxSteps := 1000000) (disch := (first | omega | (simp only [World.size_alloc, size_wr, size_drew] <;> omega) | exact not_noB _)) only [go_sem, ↓reduceIte, n0, reduceCtorEq, n1, n2, n3, n4, n5, i0, i1, i2, i3, i4, i5, i6, i7, hrd1_2, hrd1_7, hrd1_8, hrd1_9, hrd1_10, hrd1_13, hrd1_12, hrd1_14, hrd1_16, hrd1_20, hrd1_19]
      simp only [RowKit.intOf]
      omega
    · have hjN : j1 = N0 := by omega
      rw [hjN] at hL0
      repeat ((first | refine W.seqR rfl ?_ | refine W.seq ?_ | refine W.regR rfl ?_ | refine W.condK ?_ | refine W.block ?_ | refine W.skip ?_ | refine W.ret ?_ | refine W.exit ?_); try simp (maxSteps := 1000000) (disch := (first | omega | (simp only [World.size_alloc, size_wr, size_drew] <;> omega) | exact not_noB _)) only [go_sem, ↓reduceIte, n0, reduceCtorEq, n1, n2, n3, n4, n5, i0, i1, i2, i3, i4, i5, i6, i7, hrc0_2, hrc0_7, hrc0_8, hrc0_9, hrc0_10, hrc0_13, hrc0_12, hri0, exitRQ_ret, exitRQ_exit])
      exact ⟨(by simp (maxSteps := 1000000) (disch := (first | omega | (simp only [World.size_alloc, size_wr, size_drew] <;> omega) | exact not_noB _)) only [go_sem, ↓reduceIte, n0, reduceCtorEq, n1, n2, n3, n4, n5, i0, i1, i2, i3, i4, i5, i6, i7, Holds_nil, Holds_cons, hrc0_2, hrc0_7, hrc0_8, hrc0_9, hrc0_10, hrc0_13, hrc0_12, hri0]), s2, xs0, css0, hL0⟩
  rintro ρ w16 ⟨⟨hrd0_2, hrd0_7, hrd0_8, hrd0_9, hrd0_10, hrd0_13, hrd0_12, -⟩, s8, xs0, css0, hL0⟩
  have hq16 := hL0.rd
  have hu16 := hL0.upd
  have hv_16 := hu16.blk_some hv_2 (by omega)
  have hV16 : Upd (fun b => b = vb ∨ b = rb) w2 w16 := hu16.mono (fun _ h => .inr h)
  have hU16 : Upd (fun b => b = vb ∨ b = rb) w1 w16 := hU2.trans hV16
  have hz16 := hV16.size
  have hG16 : Glo ev w16 := hG1.updS hU16 hgM1 hgM2
  have hrd0 : rdF (rdP (d + 1) ver false) ver false fDescribeLogDirsRequest_0 s0 = (.mk 0 [] (nilS fDescribeLogDirsRequest_0 ver y0) xs0 [], s8) := by
    have h := rdF_listE (pt := (rdP (d + 1) ver false)) (v := ver) (flex := false) (f := fDescribeLogDirsRequest_0) (s := s0) (xs := xs0) (e := s8) rfl (by rw [hy0, ← hN0, ← hs1]; exact hL0.done)
    rw [hy0] at h; exact h
  have hs8 : s8 = (rdF (rdP (d + 1) ver false) ver false fDescribeLogDirsRequest_0 s0).2 := by rw [hrd0]
  obtain ⟨aa0, qq0, hvs0⟩ := hL0.row.shape
  subst hvs0
  repeat ((first | refine W.seqR rfl ?_ | refine W.seq ?_ | refine W.regR rfl ?_ | refine W.condK ?_ | refine W.block ?_ | refine W.skip ?_ | refine W.ret ?_ | refine W.exit ?_); try simp (maxSteps := 1000000) (disch := (first | omega | (simp only [World.size_alloc, size_wr, size_drew] <;> omega) | exact not_noB _)) only [go_sem, ↓reduceIte, n0, reduceCtorEq, n1, n2, n3, n4, n5, i0, i1, i2, i3, i4, i5, i6, i7, hv_16, hrd0_2, hrd0_7, hrd0_8, hrd0_9, hrd0_10, hrd0_13, hrd0_12])
  generalize hw17 : wr w16 vb 1 [.slice aa0 N0 qq0] = w17
  have hS17 : Upd (fun b => b = vb ∨ b = rb) w16 w17 := by rw [← hw17]; exact (Upd.refl _ _).wr _ _ (.inr (.inl rfl))
  have hv_17 : blk w17 vb = some (#[.int .i16 ver, .slice aa0 N0 qq0, .map none], 94, (0, 0)) := by rw [← hw17, blk_wr_eq, hv_16]; rfl
  have hV17 := hS17
  have hU17 : Upd (fun b => b = vb ∨ b = rb) w1 w17 := hU16.trans hV17
  have hz17 := hV17.size
  have hG17 : Glo ev w17 := hG1.updS hU17 hgM1 hgM2
  have hq17 : Rdr RT ok w17 rb s8 ∧ NN w17 rb s8 := by
    have hn : ∀ x, x = w17 → (Rdr RT ok x rb s8 ∧ NN x rb s8) := fun x hx => by
      rw [hx, ← hw17]
      exact Rdr.store hq16 (by omega) (fun h => by have := (hok _ h).1; first | omega | exact (hok _ h).2 rfl)
    exact hn _ rfl
  clear hw17
  have hf_0 : RepF (RepS true (d + 1)) (szS true (d + 1)) fDescribeLogDirsRequest_0 (fun b => ok b ∨ w1.heap.size ≤ b) w17 (x_0) [.slice aa0 N0 qq0] := by rw [hx_0, hrd0]; exact RepF.keepS (RepF_row rfl hnc0 hN0 rfl hL0.row hL0.all (fun b hb => .inr (by omega))) (hV17.keeps fun b _ hk e => (hoM b hk) e)
  clear hL0 hnc0
  have hl_1 : rdL (rdP (d + 1) ver false) (dfP (d + 1)) ver false [] s8 = ([], s8) := rfl
  have hl_0 : rdL (rdP (d + 1) ver false) (dfP (d + 1)) ver false [fDescribeLogDirsRequest_0] s0 = ([x_0], s8) := by rw [rdL_st (by decide) hh_0, ← hx_0, ← hs8, hl_1]
  have hfin : rdP (d + 2) ver false fs_DescribeLogDirsRequest s0 = (.mk 0 [] false [x_0] [], s8) := rdP_f hl_0
  have hTg : TagsM (fun b => ok b ∨ w1.heap.size ≤ b) w17 (.map none) [] := .inl ⟨rfl, rfl⟩
  have hC_17 : Upd (fun b => b = vb ∨ b = rb) w17 w17 := Upd.refl _ _
  have hC_16 : Upd (fun b => b = vb ∨ b = rb) w16 w17 := hV17.trans hC_17
  have hC_2 : Upd (fun b => b = vb ∨ b = rb) w2 w17 := hV16.trans hC_16
  have hC_1 : Upd (fun b => b = vb ∨ b = rb) w1 w17 := hV2.trans hC_2
  have hR : RepS true (d + 2) fs_DescribeLogDirsRequest (fun b => ok b ∨ w1.heap.size ≤ b) w17 (.mk 0 [] false [x_0] []) [.slice aa0 N0 qq0, .map none] := RepS.introT (c := [.slice aa0 N0 qq0]) (RepL.cons1 (hf_0.keepS (hC_17.keeps fun b _ hk e => (hoM b hk) e)) RepL.nil) hTg
  repeat ((first | refine W.seqR rfl ?_ | refine W.seq ?_ | refine W.regR rfl ?_ | refine W.condK ?_ | refine W.block ?_ | refine W.skip ?_ | refine W.ret ?_ | refine W.exit ?_); try simp (maxSteps := 1000000) (disch := (first | omega | (simp only [World.size_alloc, size_wr, size_drew] <;> omega) | exact not_noB _)) only [go_sem, ↓reduceIte, n0, reduceCtorEq, n1, n2, n3, n4, n5, i0, i1, i2, i3, i4, i5, i6, i7, hv_17, hrd0_2, hrd0_7, hrd0_8, hrd0_9, hrd0_10, hrd0_13, hrd0_12])
  refine (RComplete_fn w17 hq17.1 hG17.2).mono ?_
  rintro _ wz ⟨rfl, hez⟩
  rw [hez]
  repeat ((first | refine W.seqR rfl ?_ | refine W.seq ?_ | refine W.regR rfl ?_ | refine W.condK ?_ | refine W.block ?_ | refine W.skip ?_ | refine W.ret ?_ | refine W.exit ?_); try simp (maxSteps := 1000000) (disch := (first | omega | (simp only [World.size_alloc, size_wr, size_drew] <;> omega) | exact not_noB _)) only [go_sem, ↓reduceIte, n0, reduceCtorEq, n1, n2, n3, n4, n5, i0, i1, i2, i3, i4, i5, i6, i7, hv_17, hrd0_2, hrd0_7, hrd0_8, hrd0_9, hrd0_10, hrd0_13, hrd0_12])
  rw [hfin]
  refine ⟨fun h => ?_, fun h => ⟨?_, [.slice aa0 N0 qq0, .map none], hv_17, ?_⟩, ?_⟩
  · have h' : s8 = none := h
    rw [h']; rfl
  · cases hsn : s8 with
    | none => exact absurd hsn h
    | some x => rfl
  · exact (RepS_lay true (d + 2) fs_DescribeLogDirsRequest).weaken hR fun b _ hk => hk.imp id fun h => by omega
  · exact hbase.trans' hU17 fun i hi h => h.elim id fun h => by omega
end Ms

