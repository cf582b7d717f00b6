/- A part of the proof: see the last text. -/
import Derived.Test.YtaebchgadbafjaaC08
import Derived.Test.YtaebchgadbafjaaStopReplicaRequestP0
import Derived.Test.YtaebchgadbafjaaStopReplicaRequestP1
set_option linter.unusedSimpArgs false
set_option linter.unusedVariables false
namespace Ms
open Nat renaming reduceEqDiff → n0, reduceAdd → n1, reduceMul → n2, reduceSub → n3, reduceLT → n4, reduceLeDiff → n5
open Int renaming reduceEq → i0, reduceLT → i1, reduceLE → i2, reduceNeg → i3, reduceAdd → i4, reduceSub → i5, reduceMul → i6, reduceToNat → i7
set_option maxRecDepth 8000
open Go Go.Proofs Go.Shelf
attribute [local congr] W_congr WPsq_congr WPp_congr optK_congr addrK_congr intK_congr boolK_congr sliceK_congr tupleK_congr funcK_congr Fn_congr rawK_congr takeK_congr stepK_congr convK_congr aggK_congr

set_option maxHeartbeats 4000000 in
theorem cStopReplicaRequestTopicPartitionState_fn (w : World) : Fn Try.prog 157 #[] w fun r w' => FldsV (fun b => w.heap.size ≤ b) w' r fs_StopReplicaRequestTopicPartitionState ∧ Ext w w' := by
  refine fn_of_W Try.func157 rfl Try.results157 Try.ntmps157 rfl ?_
  repeat ((first | refine W.seqR rfl ?_ | refine W.seq ?_ | refine W.regR rfl ?_ | refine W.condK ?_ | refine W.block ?_ | refine W.skip ?_ | refine W.ret ?_ | refine W.exit ?_); try simp (maxSteps := 1000000) (disch := (first | omega | (simp only [World.size_alloc, size_wr, size_drew] <;> omega) | exact not_noB _)) only [go_sem, ↓reduceIte, n0, reduceCtorEq, n1, n2, n3, n4, n5, i0, i1, i2, i3, i4, i5, i6, i7, fill_fld, fillN_nil, fillN_int, fillN_slice])
  repeat ((first | refine W.seqR rfl ?_ | refine W.seq ?_ | refine W.regR rfl ?_ | refine W.condK ?_ | refine W.block ?_ | refine W.skip ?_ | refine W.ret ?_ | refine W.exit ?_); try simp (maxSteps := 1000000) (disch := (first | omega | (simp only [World.size_alloc, size_wr, size_drew] <;> omega) | exact not_noB _)) only [go_sem, ↓reduceIte, n0, reduceCtorEq, n1, n2, n3, n4, n5, i0, i1, i2, i3, i4, i5, i6, i7, fill_fld, fillN_nil, fillN_int, fillN_slice])
  exact ⟨FldsV.litO (fs := fs_StopReplicaRequestTopicPartitionState) (css := [[.int .i64 3, .int .i64 0, .int .i64 (-1), .int .i64 (-1), .int .i64 (-1), .int .i64 0, .int .i64 0, .slice none 0 0], [.int .i64 3, .int .i64 0, .int .i64 (-1), .int .i64 (-1), .int .i64 (-1), .int .i64 (-1), .int .i64 0, .slice none 0 0], [.int .i64 0, .int .i64 0, .int .i64 (-1), .int .i64 (-1), .int .i64 (-1), .int .i64 0, .int .i64 0, .slice none 0 0]]) (T := 50) (fr := (0, 0)) (by first | omega | (simp only [World.size_alloc]; omega)) (by first | (simp (maxSteps := 1000000) (disch := (first | omega | (simp only [World.size_alloc, size_wr, size_drew] <;> omega) | exact not_noB _)) only [go_sem, ↓reduceIte, n0, reduceCtorEq, n1, n2, n3, n4, n5, i0, i1, i2, i3, i4, i5, i6, i7]; rfl) | rfl) (by simp) (All2.cons (FldC.intro (kind := 3) (FldsV.none _ _)) (All2.cons (FldC.intro (kind := 3) (FldsV.none _ _)) (All2.cons (FldC.intro (kind := 0) (FldsV.none _ _)) All2.nil))), (Upd.alloc (Upd.refl _ w) _)⟩

set_option maxHeartbeats 4000000 in
theorem cStopReplicaRequestTopic_fn (w : World) : Fn Try.prog 97 #[] w fun r w' => FldsV (fun b => w.heap.size ≤ b) w' r fs_StopReplicaRequestTopic ∧ Ext w w' := by
  refine fn_of_W Try.func97 rfl Try.results97 Try.ntmps97 rfl ?_
  repeat ((first | refine W.seqR rfl ?_ | refine W.seq ?_ | refine W.regR rfl ?_ | refine W.condK ?_ | refine W.block ?_ | refine W.skip ?_ | refine W.ret ?_ | refine W.exit ?_); try simp (maxSteps := 1000000) (disch := (first | omega | (simp only [World.size_alloc, size_wr, size_drew] <;> omega) | exact not_noB _)) only [go_sem, ↓reduceIte, n0, reduceCtorEq, n1, n2, n3, n4, n5, i0, i1, i2, i3, i4, i5, i6, i7, fill_fld, fillN_nil, fillN_int, fillN_slice])
  refine (cStopReplicaRequestTopicPartitionState_fn _).mono ?_
  rintro r1 w1 ⟨hF1, hE1⟩
  obtain ⟨b1, k1, rfl, _⟩ := SlR.shape hF1
  have hz1 := hE1.size
  have hD1 : Ext w w1 := Upd.trans (Upd.refl _ w) hE1
  simp (maxSteps := 1000000) (disch := (first | omega | (simp only [World.size_alloc, size_wr, size_drew] <;> omega) | exact not_noB _)) only [go_sem, ↓reduceIte, n0, reduceCtorEq, n1, n2, n3, n4, n5, i0, i1, i2, i3, i4, i5, i6, i7, fill_fld, fillN_nil, fillN_int, fillN_slice]
  repeat ((first | refine W.seqR rfl ?_ | refine W.seq ?_ | refine W.regR rfl ?_ | refine W.condK ?_ | refine W.block ?_ | refine W.skip ?_ | refine W.ret ?_ | refine W.exit ?_); try simp (maxSteps := 1000000) (disch := (first | omega | (simp only [World.size_alloc, size_wr, size_drew] <;> omega) | exact not_noB _)) only [go_sem, ↓reduceIte, n0, reduceCtorEq, n1, n2, n3, n4, n5, i0, i1, i2, i3, i4, i5, i6, i7, fill_fld, fillN_nil, fillN_int, fillN_slice])
  exact ⟨FldsV.litO (fs := fs_StopReplicaRequestTopic) (css := [[.int .i64 8, .int .i64 0, .int .i64 (-1), .int .i64 (-1), .int .i64 (-1), .int .i64 0, .int .i64 0, .slice none 0 0], [.int .i64 3, .int .i64 0, .int .i64 0, .int .i64 (-1), .int .i64 (-1), .int .i64 0, .int .i64 0, .slice none 0 0], [.int .i64 11, .int .i64 1, .int .i64 2, .int .i64 (-1), .int .i64 (-1), .int .i64 0, .int .i64 3, .slice none 0 0], [.int .i64 11, .int .i64 3, .int .i64 (-1), .int .i64 (-1), .int .i64 (-1), .int .i64 0, .int .i64 10, .slice b1 fs_StopReplicaRequestTopicPartitionState.length k1]]) (T := 50) (fr := (0, 0)) (by first | omega | (simp only [World.size_alloc]; omega)) (by first | (simp (maxSteps := 1000000) (disch := (first | omega | (simp only [World.size_alloc, size_wr, size_drew] <;> omega) | exact not_noB _)) only [go_sem, ↓reduceIte, n0, reduceCtorEq, n1, n2, n3, n4, n5, i0, i1, i2, i3, i4, i5, i6, i7]; rfl) | rfl) (by simp) (All2.cons (FldC.intro (kind := 8) (FldsV.none _ _)) (All2.cons (FldC.intro (kind := 3) (FldsV.none _ _)) (All2.cons (FldC.intro (kind := 11) (FldsV.none _ _)) (All2.cons (FldC.intro (kind := 11) ((hF1.keep (Upd.keeps (S := fun _ => False) (Upd.alloc (Upd.refl _ _) _) fun _ _ _ h => h)).weaken fun b _ hb => by have hq : _ ≤ b := hb; omega)) All2.nil)))), (Upd.alloc hD1 _)⟩

set_option maxHeartbeats 4000000 in
theorem cStopReplicaRequest_fn (w : World) : Fn Try.prog 41 #[] w fun r w' => (∃ vs, r = .agg #[vs, .int .i64 2] ∧ FldsV (fun b => w.heap.size ≤ b) w' vs fs_StopReplicaRequest) ∧ Ext w w' := by
  refine fn_of_W Try.func41 rfl Try.results41 Try.ntmps41 rfl ?_
  repeat ((first | refine W.seqR rfl ?_ | refine W.seq ?_ | refine W.regR rfl ?_ | refine W.condK ?_ | refine W.block ?_ | refine W.skip ?_ | refine W.ret ?_ | refine W.exit ?_); try simp (maxSteps := 1000000) (disch := (first | omega | (simp only [World.size_alloc, size_wr, size_drew] <;> omega) | exact not_noB _)) only [go_sem, ↓reduceIte, n0, reduceCtorEq, n1, n2, n3, n4, n5, i0, i1, i2, i3, i4, i5, i6, i7, fill_fld, fillN_nil, fillN_int, fillN_slice])
  have hz0 : (w.alloc (.cells #[.slice none 0 0, .int .i64 0] 31)).heap.size = w.heap.size + 1 := World.size_alloc _ _
  refine (cStopReplicaRequestTopic_fn _).mono ?_
  rintro r1 w1 ⟨hF1, hE1⟩
  obtain ⟨b1, k1, rfl, _⟩ := SlR.shape hF1
  have hz1 := hE1.size
  have hD1 : Ext w w1 := Upd.trans (Upd.alloc (Upd.refl _ _) _) hE1
  have hb1 : blk w1 w.heap.size = some (#[.slice none 0 0, .int .i64 0], 31, (0, 0)) := hE1.blk_some (blk_alloc_new rfl) id
  simp (maxSteps := 1000000) (disch := (first | omega | (simp only [World.size_alloc, size_wr, size_drew] <;> omega) | exact not_noB _)) only [go_sem, ↓reduceIte, n0, reduceCtorEq, n1, n2, n3, n4, n5, i0, i1, i2, i3, i4, i5, i6, i7, fill_fld, fillN_nil, fillN_int, fillN_slice, hb1]
  have hvl := blk_lt hb1
  repeat ((first | refine W.seqR rfl ?_ | refine W.seq ?_ | refine W.regR rfl ?_ | refine W.condK ?_ | refine W.block ?_ | refine W.skip ?_ | refine W.ret ?_ | refine W.exit ?_); try simp (maxSteps := 1000000) (disch := (first | omega | (simp only [World.size_alloc, size_wr, size_drew] <;> omega) | exact not_noB _)) only [go_sem, ↓reduceIte, n0, reduceCtorEq, n1, n2, n3, n4, n5, i0, i1, i2, i3, i4, i5, i6, i7, fill_fld, fillN_nil, fillN_int, fillN_slice, hb1])
  exact ⟨⟨_, rfl, FldsV.litO (fs := fs_StopReplicaRequest) (css := [[.int .i64 3, .int .i64 0, .int .i64 (-1), .int .i64 (-1), .int .i64 (-1), .int .i64 0, .int .i64 0, .slice none 0 0], [.int .i64 3, .int .i64 0, .int .i64 (-1), .int .i64 (-1), .int .i64 (-1), .int .i64 0, .int .i64 0, .slice none 0 0], [.int .i64 0, .int .i64 4, .int .i64 (-1), .int .i64 (-1), .int .i64 (-1), .int .i64 0, .int .i64 0, .slice none 0 0], [.int .i64 4, .int .i64 1, .int .i64 (-1), .int .i64 (-1), .int .i64 (-1), .int .i64 (-1), .int .i64 0, .slice none 0 0], [.int .i64 0, .int .i64 0, .int .i64 2, .int .i64 (-1), .int .i64 (-1), .int .i64 0, .int .i64 0, .slice none 0 0], [.int .i64 11, .int .i64 0, .int .i64 (-1), .int .i64 (-1), .int .i64 (-1), .int .i64 0, .int .i64 10, .slice b1 fs_StopReplicaRequestTopic.length k1]]) (T := 50) (fr := (0, 0)) (by first | omega | (simp only [World.size_alloc]; omega)) (by first | (simp (maxSteps := 1000000) (disch := (first | omega | (simp only [World.size_alloc, size_wr, size_drew] <;> omega) | exact not_noB _)) only [go_sem, ↓reduceIte, n0, reduceCtorEq, n1, n2, n3, n4, n5, i0, i1, i2, i3, i4, i5, i6, i7]; rfl) | rfl) (by simp) (All2.cons (FldC.intro (kind := 3) (FldsV.none _ _)) (All2.cons (FldC.intro (kind := 3) (FldsV.none _ _)) (All2.cons (FldC.intro (kind := 0) (FldsV.none _ _)) (All2.cons (FldC.intro (kind := 4) (FldsV.none _ _)) (All2.cons (FldC.intro (kind := 0) (FldsV.none _ _)) (All2.cons (FldC.intro (kind := 11) (hF1.stay (B := w.heap.size) (Upd.wr (Upd.alloc (Upd.refl _ _) _) _ _ (.inr rfl)) (by omega) (fun b hb => by omega))) All2.nil))))))⟩, (Upd.wr (Upd.alloc hD1 _) _ _ (.inl (Nat.le_refl _)))⟩

theorem DefaultStopReplicaRequest_fn (w : World) {vb : Nat} {c0 c1 c2 c3 c4 c5 c6 c7 : Value} (hb : blk w vb = some (#[c0, c1, c2, c3, c4, c5, c6, c7], 110, (0, 0))) :
    Fn Try.prog 156 #[.pointer (some ⟨vb, 0, none⟩)] w fun _ w' => blk w' vb = some (#[c0, c1, c2, c3, .int .i64 (-1), c5, c6, c7], 110, (0, 0)) ∧ Upd (fun b => b = vb) w w' := by
  have hvl := blk_lt hb
  refine fn_of_W Try.func156 rfl Try.results156 Try.ntmps156 rfl ?_
  repeat ((first | refine W.seqR rfl ?_ | refine W.seq ?_ | refine W.regR rfl ?_ | refine W.condK ?_ | refine W.block ?_ | refine W.skip ?_ | refine W.ret ?_ | refine W.exit ?_); try simp (maxSteps := 1000000) (disch := (first | omega | (simp only [World.size_alloc, size_wr, size_drew] <;> omega) | exact not_noB _)) only [go_sem, ↓reduceIte, n0, reduceCtorEq, n1, n2, n3, n4, n5, i0, i1, i2, i3, i4, i5, i6, i7, hb])
  first | exact (Upd.wr (Upd.refl _ _) _ _ (.inr rfl)) | exact ⟨by simp (maxSteps := 1000000) (disch := (first | omega | (simp only [World.size_alloc, size_wr, size_drew] <;> omega) | exact not_noB _)) only [go_sem, ↓reduceIte, n0, reduceCtorEq, n1, n2, n3, n4, n5, i0, i1, i2, i3, i4, i5, i6, i7, hb], (Upd.wr (Upd.refl _ _) _ _ (.inr rfl))⟩

theorem NewPtrStopReplicaRequest_fn (w : World) : Fn Try.prog 95 #[] w fun r w' => r = .pointer (some ⟨w.heap.size, 0, none⟩) ∧ blk w' w.heap.size = some (#[.int .i16 0, .int .i32 0, .int .i32 0, .bool false, .int .i64 (-1), .bool false, .slice none 0 0, .map none], 110, (0, 0)) ∧ Ext w w' := by
  refine fn_of_W Try.func95 rfl Try.results95 Try.ntmps95 rfl ?_
  repeat ((first | refine W.seqR rfl ?_ | refine W.seq ?_ | refine W.regR rfl ?_ | refine W.condK ?_ | refine W.block ?_ | refine W.skip ?_ | refine W.ret ?_ | refine W.exit ?_); try simp (maxSteps := 1000000) (disch := (first | omega | (simp only [World.size_alloc, size_wr, size_drew] <;> omega) | exact not_noB _)) only [go_sem, ↓reduceIte, n0, reduceCtorEq, n1, n2, n3, n4, n5, i0, i1, i2, i3, i4, i5, i6, i7])
  refine (DefaultStopReplicaRequest_fn _ (blk_alloc_new rfl)).mono ?_
  rintro _ w1 ⟨hb1, hU1⟩
  have hz := World.size_alloc w (.cells #[.int .i16 0, .int .i32 0, .int .i32 0, .bool false, .int .i64 0, .bool false, .slice none 0 0, .map none] 110)
  repeat ((first | refine W.seqR rfl ?_ | refine W.seq ?_ | refine W.regR rfl ?_ | refine W.condK ?_ | refine W.block ?_ | refine W.skip ?_ | refine W.ret ?_ | refine W.exit ?_); try simp (maxSteps := 1000000) (disch := (first | omega | (simp only [World.size_alloc, size_wr, size_drew] <;> omega) | exact not_noB _)) only [go_sem, ↓reduceIte, n0, reduceCtorEq, n1, n2, n3, n4, n5, i0, i1, i2, i3, i4, i5, i6, i7])
  exact ⟨hb1, (Upd.alloc (Upd.refl _ _) _ : Ext w _).more hU1 fun b hb h => by omega⟩

theorem SetVersionStopReplicaRequest_fn (w : World) {vb : Nat} {c0 c1 c2 c3 c4 c5 c6 c7 : Value} (n : Int) (hb : blk w vb = some (#[c0, c1, c2, c3, c4, c5, c6, c7], 110, (0, 0))) :
    Fn Try.prog 98 #[.pointer (some ⟨vb, 0, none⟩), .int .i16 n] w fun _ w' => blk w' vb = some (#[.int .i16 n, c1, c2, c3, c4, c5, c6, c7], 110, (0, 0)) ∧ Upd (fun b => b = vb) w w' := by
  have hvl := blk_lt hb
  refine fn_of_W Try.func98 rfl Try.results98 Try.ntmps98 rfl ?_
  repeat ((first | refine W.seqR rfl ?_ | refine W.seq ?_ | refine W.regR rfl ?_ | refine W.condK ?_ | refine W.block ?_ | refine W.skip ?_ | refine W.ret ?_ | refine W.exit ?_); try simp (maxSteps := 1000000) (disch := (first | omega | (simp only [World.size_alloc, size_wr, size_drew] <;> omega) | exact not_noB _)) only [go_sem, ↓reduceIte, n0, reduceCtorEq, n1, n2, n3, n4, n5, i0, i1, i2, i3, i4, i5, i6, i7, hb])
  first | exact Upd.wr (Upd.refl _ _) _ _ (.inr rfl) | exact ⟨by simp (maxSteps := 1000000) (disch := (first | omega | (simp only [World.size_alloc, size_wr, size_drew] <;> omega) | exact not_noB _)) only [go_sem, ↓reduceIte, n0, reduceCtorEq, n1, n2, n3, n4, n5, i0, i1, i2, i3, i4, i5, i6, i7, hb], Upd.wr (Upd.refl _ _) _ _ (.inr rfl)⟩

theorem MaxStopReplicaRequest_fn (w : World) : Fn Try.prog 40 #[] w fun r w' => r = .int .i64 4 ∧ Ext w w' := by
  refine fn_of_W Try.func40 rfl Try.results40 Try.ntmps40 rfl ?_
  repeat ((first | refine W.seqR rfl ?_ | refine W.seq ?_ | refine W.regR rfl ?_ | refine W.condK ?_ | refine W.block ?_ | refine W.skip ?_ | refine W.ret ?_ | refine W.exit ?_); try simp (maxSteps := 1000000) (disch := (first | omega | (simp only [World.size_alloc, size_wr, size_drew] <;> omega) | exact not_noB _)) only [go_sem, ↓reduceIte, n0, reduceCtorEq, n1, n2, n3, n4, n5, i0, i1, i2, i3, i4, i5, i6, i7])
  refine (NewPtrStopReplicaRequest_fn w).mono ?_
  rintro _ w1 ⟨rfl, hb1, hE1⟩
  repeat ((first | refine W.seqR rfl ?_ | refine W.seq ?_ | refine W.regR rfl ?_ | refine W.condK ?_ | refine W.block ?_ | refine W.skip ?_ | refine W.ret ?_ | refine W.exit ?_); try simp (maxSteps := 1000000) (disch := (first | omega | (simp only [World.size_alloc, size_wr, size_drew] <;> omega) | exact not_noB _)) only [go_sem, ↓reduceIte, n0, reduceCtorEq, n1, n2, n3, n4, n5, i0, i1, i2, i3, i4, i5, i6, i7])
  have hm : Fn Try.prog 96 #[.pointer (some ⟨w.heap.size, 0, none⟩)] w1 fun r w' => r = .int .i16 4 ∧ w' = w1 := by
    refine fn_of_W Try.func96 rfl Try.results96 Try.ntmps96 rfl ?_
    repeat ((first | refine W.seqR rfl ?_ | refine W.seq ?_ | refine W.regR rfl ?_ | refine W.condK ?_ | refine W.block ?_ | refine W.skip ?_ | refine W.ret ?_ | refine W.exit ?_); try simp (maxSteps := 1000000) (disch := (first | omega | (simp only [World.size_alloc, size_wr, size_drew] <;> omega) | exact not_noB _)) only [go_sem, ↓reduceIte, n0, reduceCtorEq, n1, n2, n3, n4, n5, i0, i1, i2, i3, i4, i5, i6, i7])
  refine hm.mono ?_
  rintro _ w2 ⟨rfl, rfl⟩
  have ew : IntKind.i64.wrap (4 : Int) = 4 := i64_wrap (by decide)
  repeat ((first | refine W.seqR rfl ?_ | refine W.seq ?_ | refine W.regR rfl ?_ | refine W.condK ?_ | refine W.block ?_ | refine W.skip ?_ | refine W.ret ?_ | refine W.exit ?_); try simp (maxSteps := 1000000) (disch := (first | omega | (simp only [World.size_alloc, size_wr, size_drew] <;> omega) | exact not_noB _)) only [go_sem, ↓reduceIte, n0, reduceCtorEq, n1, n2, n3, n4, n5, i0, i1, i2, i3, i4, i5, i6, i7, ew])
  exact hE1
end Ms

namespace Ms
open Nat renaming reduceEqDiff → n0, reduceAdd → n1, reduceMul → n2, reduceSub → n3, reduceLT → n4, reduceLeDiff → n5
open Int renaming reduceEq → i0, reduceLT → i1, reduceLE → i2, reduceNeg → i3, reduceAdd → i4, reduceSub → i5, reduceMul → i6, reduceToNat → i7
set_option maxRecDepth 8000
open Go Go.Proofs Go.Shelf
attribute [local congr] W_congr WPsq_congr WPp_congr optK_congr addrK_congr intK_congr boolK_congr sliceK_congr tupleK_congr funcK_congr Fn_congr rawK_congr takeK_congr stepK_congr convK_congr aggK_congr

set_option maxHeartbeats 4000000 in
theorem appStopReplicaRequest_0 {d B : Nat} {okM : Blocks} {ver : Int} (hlo : 0 ≤ ver) (hhi : ver ≤ 0) (t : Tree) (cells : List Value) (v : Value) (s : List UInt8) (w : World) {vb : Nat} (ho : OwnBy 5 B w v s) (hB : B ≤ w.heap.size) (hvb : blk w vb = some ((.int .i16 ver :: cells).toArray, 110, (0, 0)))
    (hR : RepS true (d + 3) fs_StopReplicaRequest okM w t cells) (hfit : FitP ver (d + 3) fs_StopReplicaRequest t) (hd : ∀ b, b < w.heap.size → okM b → ¬ ownB v b) (hdv : ¬ ownB v vb) (hlen : s.length + (partS (d + 3) fs_StopReplicaRequest ver false t).length ≤ 2 ^ 41) :
    Fn Try.prog 100 #[.pointer (some ⟨vb, 0, none⟩), v] w fun r w' => AppR 5 B w v s (partS (d + 3) fs_StopReplicaRequest ver false t) r w' := by
  obtain ⟨⟨g_0, g_1, g_2, g_3, g_4, g_5, -⟩, hfu⟩ := hfit
  replace g_0 : FitF (FitP ver (d + 2)) ver fStopReplicaRequest_0 (t.at 0) := g_0
  replace g_1 : FitF (FitP ver (d + 2)) ver fStopReplicaRequest_1 (t.at 1) := g_1
  replace g_2 : FitF (FitP ver (d + 2)) ver fStopReplicaRequest_2 (t.at 2) := g_2
  replace g_3 : FitF (FitP ver (d + 2)) ver fStopReplicaRequest_3 (t.at 3) := g_3
  replace g_4 : FitF (FitP ver (d + 2)) ver fStopReplicaRequest_4 (t.at 4) := g_4
  replace g_5 : FitF (FitP ver (d + 2)) ver fStopReplicaRequest_5 (t.at 5) := g_5
  obtain ⟨cs, q, hcs, hL, hT⟩ := hR.inv
  obtain ⟨c_0, e_0, rfl, h_0, c_1, e_1, rfl, h_1, c_2, e_2, rfl, h_2, c_3, e_3, rfl, h_3, c_4, e_4, rfl, h_4, c_5, e_5, rfl, h_5, rfl⟩ := hL
  replace h_0 : RepF (RepS true (d + 2)) (szS true (d + 2)) fStopReplicaRequest_0 okM w (t.at 0) c_0 := h_0
  replace h_1 : RepF (RepS true (d + 2)) (szS true (d + 2)) fStopReplicaRequest_1 okM w (t.at 1) c_1 := h_1
  replace h_2 : RepF (RepS true (d + 2)) (szS true (d + 2)) fStopReplicaRequest_2 okM w (t.at 2) c_2 := h_2
  replace h_3 : RepF (RepS true (d + 2)) (szS true (d + 2)) fStopReplicaRequest_3 okM w (t.at 3) c_3 := h_3
  replace h_4 : RepF (RepS true (d + 2)) (szS true (d + 2)) fStopReplicaRequest_4 okM w (t.at 4) c_4 := h_4
  replace h_5 : RepF (RepS true (d + 2)) (szS true (d + 2)) fStopReplicaRequest_5 okM w (t.at 5) c_5 := h_5
  obtain rfl := (RepF_num (by decide)).1 h_0
  obtain rfl := (RepF_num (by decide)).1 h_1
  obtain rfl := (RepF_num (by decide)).1 h_2
  obtain rfl := (RepF_num (by decide)).1 h_3
  obtain rfl := (RepF_num (by decide)).1 h_4
  have hn_5 := g_5.notnull (by decide)
  obtain ⟨p_5, rfl, hs_5, -⟩ := (RepF_list rfl hn_5).1 h_5
  obtain ⟨ab_5, ac_5, rfl, _⟩ := SlR.shape hs_5
  have hll_5 := (g_5.list rfl).1
  obtain ⟨qm, rfl⟩ := hT.shape
  have hv : blk w vb = some (#[.int .i16 ver, .int .i32 (IntKind.i32.wrap (t.at 0).n), .int .i32 (IntKind.i32.wrap (t.at 1).n), .bool (decide ((t.at 2).n % 2 = 1)), .int .i64 (t.at 3).n, .bool (decide ((t.at 4).n % 2 = 1)), .slice ab_5 (t.at 5).l.length ac_5, .map qm], 110, (0, 0)) := by rw [hvb, hcs]; rfl
  clear hvb hcs
  have hh_0 : hasS fStopReplicaRequest_0 ver = true := hasS_t (by show (0 : Int) ≤ ver; omega) (by show (-1 : Int) < 0 ∨ ver ≤ (-1 : Int); omega)
  obtain ⟨X_0, hXX_0⟩ : ∃ X, X = fixedS (t.at 0).n 4 := ⟨_, rfl⟩
  have hh_1 : hasS fStopReplicaRequest_1 ver = true := hasS_t (by show (0 : Int) ≤ ver; omega) (by show (-1 : Int) < 0 ∨ ver ≤ (-1 : Int); omega)
  obtain ⟨X_1, hXX_1⟩ : ∃ X, X = fixedS (t.at 1).n 4 := ⟨_, rfl⟩
  have hh_2 : hasS fStopReplicaRequest_2 ver = false := hasS_f (by show ver < 4 ∨ (0 ≤ (-1 : Int) ∧ (-1 : Int) < ver); omega)
  have hh_3 : hasS fStopReplicaRequest_3 ver = false := hasS_f (by show ver < 1 ∨ (0 ≤ (-1 : Int) ∧ (-1 : Int) < ver); omega)
  have hh_4 : hasS fStopReplicaRequest_4 ver = true := hasS_t (by show (0 : Int) ≤ ver; omega) (by show (2 : Int) < 0 ∨ ver ≤ (2 : Int); omega)
  obtain ⟨X_4, hXX_4⟩ : ∃ X, X = [if decide ((t.at 4).n % 2 = 1) = true then (1 : UInt8) else 0] := ⟨_, rfl⟩
  have hh_5 : hasS fStopReplicaRequest_5 ver = true := hasS_t (by show (0 : Int) ≤ ver; omega) (by show (-1 : Int) < 0 ∨ ver ≤ (-1 : Int); omega)
  obtain ⟨XL_5, hXL_5⟩ : ∃ X, X = fixedS (t.at 5).l.length 4 := ⟨_, rfl⟩
  obtain ⟨XE_5, hXE_5⟩ : ∃ X, X = (t.at 5).l.flatMap (fun x => partS (d + 2) fs_StopReplicaRequestTopic ver false x) := ⟨_, rfl⟩
  have hP : partS (d + 3) fs_StopReplicaRequest ver false t = X_0 ++ (X_1 ++ (X_4 ++ ((XL_5 ++ XE_5) ++ []))) := partS_no (plainL_has (by decide) hh_0 ((fieldS_num 3 rfl (by decide)).trans hXX_0.symm) (plainL_has (by decide) hh_1 ((fieldS_num 3 rfl (by decide)).trans hXX_1.symm) (plainL_not hh_2 (plainL_not hh_3 (plainL_has (by decide) hh_4 ((fieldS_bool rfl).trans hXX_4.symm) (plainL_has (by decide) hh_5 ((fieldS_list_f (g := (fun x => partS (d + 2) fs_StopReplicaRequestTopic ver false x)) g_5 rfl (by decide) (fun x _ => valueS_part)).trans (by rw [hXL_5, hXE_5])) rfl))))))
  rw [hP] at hlen
  simp only [List.length_append, List.length_nil] at hlen
  have hdK : ∀ {r : Value} {w' : World} {add : List UInt8}, AppR 5 B w v s add r w' → ∀ b, b < w'.heap.size → OkS okM w.heap.size b → ¬ ownB r b := fun h b _ hk ho => (h.frame b ho).elim (hd b hk.2 hk.1) (fun h => by have := hk.2; omega)
  have ownK : ∀ {r : Value} {w' : World} {add : List UInt8} {b : Nat}, AppR 5 B w v s add r w' → b < w.heap.size → ¬ ownB v b → ¬ ownB r b := fun h hb hn ho => (h.frame _ ho).elim hn (fun h => by omega)
  have ha0 : AppR 5 B w v s [] v w := AppR.refl ho
  obtain ⟨w0, hw0⟩ : ∃ w0, w0 = w := ⟨_, rfl⟩
  have hB0 := hB
  have hv_0 := hv
  refine fn_of_W Try.func100 rfl Try.results100 Try.ntmps100 rfl ?_
  repeat ((first | refine W.seqR rfl ?_ | refine W.seq ?_ | refine W.regR rfl ?_ | refine W.condK ?_ | refine W.block ?_ | refine W.skip ?_ | refine W.ret ?_ | refine W.exit ?_); try simp (maxSteps := 1000000) (disch := (first | omega | (simp only [World.size_alloc, size_wr, size_drew] <;> omega) | exact not_noB _)) only [go_sem, ↓reduceIte, n0, reduceCtorEq, n1, n2, n3, n4, n5, i0, i1, i2, i3, i4, i5, i6, i7, hv_0])
  refine (AppendInt32_fn _ _ _ ha0.own hB0 _ (by simp only [List.length_append, List.length_nil]; omega)).mono ?_
  rintro r1 w1 hc1
  rw [wrap32, ← hXX_0] at hc1
  have ha1 := ha0.trans hc1
  have hB1 : B ≤ w1.heap.size := Nat.le_trans hB ha1.upd.size
  have hv_1 := ha1.upd.blk_some hv hdv
  repeat ((first | refine W.seqR rfl ?_ | refine W.seq ?_ | refine W.regR rfl ?_ | refine W.condK ?_ | refine W.block ?_ | refine W.skip ?_ | refine W.ret ?_ | refine W.exit ?_); try simp (maxSteps := 1000000) (disch := (first | omega | (simp only [World.size_alloc, size_wr, size_drew] <;> omega) | exact not_noB _)) only [go_sem, ↓reduceIte, n0, reduceCtorEq, n1, n2, n3, n4, n5, i0, i1, i2, i3, i4, i5, i6, i7, hv_1])
  refine (AppendInt32_fn _ _ _ ha1.own hB1 _ (by simp only [List.length_append, List.length_nil]; omega)).mono ?_
  rintro r2 w2 hc2
  rw [wrap32, ← hXX_1] at hc2
  have ha2 := ha1.trans hc2
  have hB2 : B ≤ w2.heap.size := Nat.le_trans hB ha2.upd.size
  have hv_2 := ha2.upd.blk_some hv hdv
  repeat ((first | refine W.seqR rfl ?_ | refine W.seq ?_ | refine W.regR rfl ?_ | refine W.condK ?_ | refine W.block ?_ | refine W.skip ?_ | refine W.ret ?_ | refine W.exit ?_); try simp (maxSteps := 1000000) (disch := (first | omega | (simp only [World.size_alloc, size_wr, size_drew] <;> omega) | exact not_noB _)) only [go_sem, ↓reduceIte, n0, reduceCtorEq, n1, n2, n3, n4, n5, i0, i1, i2, i3, i4, i5, i6, i7, hv_2])
  refine (AppendBool_fn _ _ _ ha2.own hB2 _ (by simp only [List.length_append, List.length_nil]; omega)).mono ?_
  rintro r3 w3 hc3
  rw [← hXX_4] at hc3
  have ha3 := ha2.trans hc3
  have hB3 : B ≤ w3.heap.size := Nat.le_trans hB ha3.upd.size
  have hv_3 := ha3.upd.blk_some hv hdv
  repeat ((first | refine W.seqR rfl ?_ | refine W.seq ?_ | refine W.regR rfl ?_ | refine W.condK ?_ | refine W.block ?_ | refine W.skip ?_ | refine W.ret ?_ | refine W.exit ?_); try simp (maxSteps := 1000000) (disch := (first | omega | (simp only [World.size_alloc, size_wr, size_drew] <;> omega) | exact not_noB _)) only [go_sem, ↓reduceIte, n0, reduceCtorEq, n1, n2, n3, n4, n5, i0, i1, i2, i3, i4, i5, i6, i7, hv_3])
  refine (AppendArrayLen_fn _ _ _ ha3.own hB3 (t.at 5).l.length hll_5 (by simp only [List.length_append, List.length_nil]; omega)).mono ?_
  rintro r4 w4 hc4
  rw [← hXL_5] at hc4
  have ha4 := ha3.trans hc4
  have hB4 : B ≤ w4.heap.size := Nat.le_trans hB ha4.upd.size
  have hv_4 := ha4.upd.blk_some hv hdv
  repeat ((first | refine W.seqR rfl ?_ | refine W.seq ?_ | refine W.regR rfl ?_ | refine W.condK ?_ | refine W.block ?_ | refine W.skip ?_ | refine W.ret ?_ | refine W.exit ?_); try simp (maxSteps := 1000000) (disch := (first | omega | (simp only [World.size_alloc, size_wr, size_drew] <;> omega) | exact not_noB _)) only [go_sem, ↓reduceIte, n0, reduceCtorEq, n1, n2, n3, n4, n5, i0, i1, i2, i3, i4, i5, i6, i7, hv_4])
  have hadd1 := ha4
  refine W.exitJ 0 (fun ρ w' => ∃ r, ρ 1 = r ∧ ρ 0 = .pointer (some ⟨vb, 0, none⟩) ∧ ρ 5 = .int .i16 ver ∧ ρ 6 = .bool false ∧ AppR 5 B w v s (([] ++ X_0 ++ X_1 ++ X_4 ++ XL_5) ++ XE_5) r w')
    (W.loop (fun ρ w' => ∃ (j : Nat) (r : Value), j ≤ (t.at 5).l.length ∧ ρ 94 = .int .i64 j ∧ ρ 93 = .int .i64 (t.at 5).l.length ∧ ρ 12 = .slice ab_5 (t.at 5).l.length ac_5 ∧ ρ 1 = r ∧ ρ 0 = .pointer (some ⟨vb, 0, none⟩) ∧ ρ 5 = .int .i16 ver ∧ ρ 6 = .bool false ∧ AppR 5 B w v s (([] ++ X_0 ++ X_1 ++ X_4 ++ XL_5) ++ ((t.at 5).l.take j).flatMap (fun x => partS (d + 2) fs_StopReplicaRequestTopic ver false x)) r w')
      (fun ρ _ => (t.at 5).l.length - (RowKit.intOf (ρ 94)).toNat) ?_ ?_) ?_
  · refine ⟨0, _, Nat.zero_le _, ?_, ?_, ?_, ?_, ?_, ?_, ?_, ha4.eqs (by rw [List.take_zero, List.flatMap_nil, List.append_nil])⟩ <;> simp (maxSteps := 1000000) (disch := (first | omega | (simp only [World.size_alloc, size_wr, size_drew] <;> omega) | exact not_noB _)) only [go_sem, ↓reduceIte, n0, reduceCtorEq, n1, n2, n3, n4, n5, i0, i1, i2, i3, i4, i5, i6, i7]
    all_goals rfl
  · rintro ρ w5 ⟨j1, r5, hj1, hI1, hN1, hS1, hr1_1, hr1_0, hr1_5, hr1_6, ha5⟩
    have hB5 : B ≤ w5.heap.size := Nat.le_trans hB ha5.upd.size
    have hv_5 := ha5.upd.blk_some hv hdv
    by_cases hlt1 : j1 < (t.at 5).l.length
    · obtain ⟨_, b1, o1, x1, ce1, hb1, hok1, hx1, hbl1, hxs1, hxe1, hq1, hRe1⟩ := SlR.get (size := 5) (by decide) hs_5 hlt1
      subst hb1
      have hcat1 : (t.at 5).l.take (j1 + 1) = (t.at 5).l.take j1 ++ [(t.at 5).l[j1]] := List.take_succ_eq_append_getElem hlt1
      have htl1 := take_flatMap_len (t.at 5).l (fun x => partS (d + 2) fs_StopReplicaRequestTopic ver false x) (j1 + 1)
      rw [← hXE_5, hcat1, List.flatMap_append, List.flatMap_cons, List.flatMap_nil, List.append_nil] at htl1
      have hge1 := (g_5.list rfl).2 _ (List.getElem_mem hlt1)
      generalize (t.at 5).l[j1] = y1 at *
      have hnx1 := hd b1 hbl1 hok1
      obtain ⟨T1, hTT1⟩ : ∃ T, T = ((t.at 5).l.take j1).flatMap (fun x => partS (d + 2) fs_StopReplicaRequestTopic ver false x) := ⟨_, rfl⟩
      rw [← hTT1] at ha5 htl1
      have hx1_5 := ha5.upd.blk_some hx1 hnx1
      replace hRe1 : RepS true (d + 2) fs_StopReplicaRequestTopic okM w y1 ce1 := Rep1_part.1 hRe1
      have hfe1 : FitP ver (d + 2) fs_StopReplicaRequestTopic y1 := hge1.2.2 rfl
      obtain ⟨⟨ge1_0, ge1_1, ge1_2, ge1_3, -⟩, hfue1⟩ := hfe1
      replace ge1_0 : FitF (FitP ver (d + 1)) ver fStopReplicaRequestTopic_0 (y1.at 0) := ge1_0
      replace ge1_1 : FitF (FitP ver (d + 1)) ver fStopReplicaRequestTopic_1 (y1.at 1) := ge1_1
      replace ge1_2 : FitF (FitP ver (d + 1)) ver fStopReplicaRequestTopic_2 (y1.at 2) := ge1_2
      replace ge1_3 : FitF (FitP ver (d + 1)) ver fStopReplicaRequestTopic_3 (y1.at 3) := ge1_3
      obtain ⟨cse1, qe1, hcse1, hLe1, hTe1⟩ := hRe1.inv
      obtain ⟨ce1_0, ee1_0, rfl, he1_0, ce1_1, ee1_1, rfl, he1_1, ce1_2, ee1_2, rfl, he1_2, ce1_3, ee1_3, rfl, he1_3, rfl⟩ := hLe1
      replace he1_0 : RepF (RepS true (d + 1)) (szS true (d + 1)) fStopReplicaRequestTopic_0 okM w (y1.at 0) ce1_0 := he1_0
      replace he1_1 : RepF (RepS true (d + 1)) (szS true (d + 1)) fStopReplicaRequestTopic_1 okM w (y1.at 1) ce1_1 := he1_1
      replace he1_2 : RepF (RepS true (d + 1)) (szS true (d + 1)) fStopReplicaRequestTopic_2 okM w (y1.at 2) ce1_2 := he1_2
      replace he1_3 : RepF (RepS true (d + 1)) (szS true (d + 1)) fStopReplicaRequestTopic_3 okM w (y1.at 3) ce1_3 := he1_3
      obtain rfl := (RepF_text rfl (by decide)).1 he1_0
      obtain rfl := (RepF_num (by decide)).1 he1_1
      have hne1_2 := ge1_2.notnull (by decide)
      obtain ⟨pe1_2, rfl, hse1_2, -⟩ := (RepF_list rfl hne1_2).1 he1_2
      obtain ⟨abe1_2, ace1_2, rfl, _⟩ := SlR.shape hse1_2
      have hlle1_2 := (ge1_2.list rfl).1
      have hne1_3 := ge1_3.notnull (by decide)
      obtain ⟨pe1_3, rfl, hse1_3, -⟩ := (RepF_list rfl hne1_3).1 he1_3
      obtain ⟨abe1_3, ace1_3, rfl, _⟩ := SlR.shape hse1_3
      have hlle1_3 := (ge1_3.list rfl).1
      obtain ⟨qme1, rfl⟩ := hTe1.shape
      subst hcse1
      have hq1_0 : x1.1[o1 + j1 * 5]? = some (strV (y1.at 0).s) := hq1 0 (by decide)
      have hq1_1 : x1.1[o1 + (j1 * 5 + 1)]? = some (.int .i32 (IntKind.i32.wrap (y1.at 1).n)) := hq1 1 (by decide)
      have hq1_2 : x1.1[o1 + (j1 * 5 + 2)]? = some (.slice abe1_2 (y1.at 2).l.length ace1_2) := hq1 2 (by decide)
      have hq1_3 : x1.1[o1 + (j1 * 5 + 3)]? = some (.slice abe1_3 (y1.at 3).l.length ace1_3) := hq1 3 (by decide)
      have hq1_4 : x1.1[o1 + (j1 * 5 + 4)]? = some (.map qme1) := hq1 4 (by decide)
      have hhe1_0 : hasS fStopReplicaRequestTopic_0 ver = true := hasS_t (by show (0 : Int) ≤ ver; omega) (by show (-1 : Int) < 0 ∨ ver ≤ (-1 : Int); omega)
      obtain ⟨Xe1_0, hXXe1_0⟩ : ∃ X, X = fixedS (y1.at 0).s.length 2 ++ (y1.at 0).s := ⟨_, rfl⟩
      have hhe1_1 : hasS fStopReplicaRequestTopic_1 ver = true := hasS_t (by show (0 : Int) ≤ ver; omega) (by show (0 : Int) < 0 ∨ ver ≤ (0 : Int); omega)
      obtain ⟨Xe1_1, hXXe1_1⟩ : ∃ X, X = fixedS (y1.at 1).n 4 := ⟨_, rfl⟩
      have hhe1_2 : hasS fStopReplicaRequestTopic_2 ver = false := hasS_f (by show ver < 1 ∨ (0 ≤ (2 : Int) ∧ (2 : Int) < ver); omega)
      have hhe1_3 : hasS fStopReplicaRequestTopic_3 ver = false := hasS_f (by show ver < 3 ∨ (0 ≤ (-1 : Int) ∧ (-1 : Int) < ver); omega)
      have hPe1 : partS (d + 2) fs_StopReplicaRequestTopic ver false y1 = Xe1_0 ++ (Xe1_1 ++ []) := partS_no (plainL_has (by decide) hhe1_0 ((fieldS_text_f ge1_0 rfl (by decide)).trans hXXe1_0.symm) (plainL_has (by decide) hhe1_1 ((fieldS_num 3 rfl (by decide)).trans hXXe1_1.symm) (plainL_not hhe1_2 (plainL_not hhe1_3 rfl))))
      rw [hPe1] at htl1
      simp only [List.length_append, List.length_nil] at htl1
      repeat ((first | refine W.seqR rfl ?_ | refine W.seq ?_ | refine W.regR rfl ?_ | refine W.condK ?_ | refine W.block ?_ | refine W.skip ?_ | refine W.ret ?_ | refine W.exit ?_); try simp (maxSteps := 1000000) (disch := (first | omega | (simp only [World.size_alloc, size_wr, size_drew] <;> omega) | exact not_noB _)) only [go_sem, ↓reduceIte, n0, reduceCtorEq, n1, n2, n3, n4, n5, i0, i1, i2, i3, i4, i5, i6, i7, hv_5, hx1_5, Int.toNat_natCast, Nat.mul_one, hq1_0, hq1_1, hq1_2, hq1_3, hq1_4, hr1_1, hr1_0, hr1_5, hr1_6, hI1, hN1, hS1])
      refine (AppendString_fn _ _ _ ha5.own hB5 (y1.at 0).s (ge1_0.text (.inl rfl)) (by simp only [List.length_append, List.length_nil]; omega)).mono ?_
      rintro r6 w6 hc6
      rw [← hXXe1_0] at hc6
      have ha6 := ha5.trans hc6
      have hB6 : B ≤ w6.heap.size := Nat.le_trans hB ha6.upd.size
      have hv_6 := ha6.upd.blk_some hv hdv
      have hx1_6 := ha6.upd.blk_some hx1 hnx1
      repeat ((first | refine W.seqR rfl ?_ | refine W.seq ?_ | refine W.regR rfl ?_ | refine W.condK ?_ | refine W.block ?_ | refine W.skip ?_ | refine W.ret ?_ | refine W.exit ?_); try simp (maxSteps := 1000000) (disch := (first | omega | (simp only [World.size_alloc, size_wr, size_drew] <;> omega) | exact not_noB _)) only [go_sem, ↓reduceIte, n0, reduceCtorEq, n1, n2, n3, n4, n5, i0, i1, i2, i3, i4, i5, i6, i7, hv_6, hx1_6, Int.toNat_natCast, Nat.mul_one, hq1_0, hq1_1, hq1_2, hq1_3, hq1_4, hr1_1, hr1_0, hr1_5, hr1_6, hI1, hN1, hS1])
      refine (AppendInt32_fn _ _ _ ha6.own hB6 _ (by simp only [List.length_append, List.length_nil]; omega)).mono ?_
      rintro r7 w7 hc7
      rw [wrap32, ← hXXe1_1] at hc7
      have ha7 := ha6.trans hc7
      have hB7 : B ≤ w7.heap.size := Nat.le_trans hB ha7.upd.size
      have hv_7 := ha7.upd.blk_some hv hdv
      have hx1_7 := ha7.upd.blk_some hx1 hnx1
      repeat ((first | refine W.seqR rfl ?_ | refine W.seq ?_ | refine W.regR rfl ?_ | refine W.condK ?_ | refine W.block ?_ | refine W.skip ?_ | refine W.ret ?_ | refine W.exit ?_); try simp (maxSteps := 1000000) (disch := (first | omega | (simp only [World.size_alloc, size_wr, size_drew] <;> omega) | exact not_noB _)) only [go_sem, ↓reduceIte, n0, reduceCtorEq, n1, n2, n3, n4, n5, i0, i1, i2, i3, i4, i5, i6, i7, hr1_1, hr1_0, hr1_5, hr1_6, hI1, hN1, hS1])
      refine ⟨⟨j1 + 1, _, by omega, rfl, rfl, ha7.eqs ?_⟩, ?_⟩
      · rw [hcat1, List.flatMap_append, List.flatMap_cons, List.flatMap_nil, List.append_nil, ← hTT1, hPe1]; simp only [List.append_assoc, List.append_nil, List.nil_append]
      · simp only [RowKit.intOf]; omega
    · have hjl1 : j1 = (t.at 5).l.length := by omega
      subst hjl1
      rw [List.take_length, ← hXE_5] at ha5
      repeat ((first | refine W.seqR rfl ?_ | refine W.seq ?_ | refine W.regR rfl ?_ | refine W.condK ?_ | refine W.block ?_ | refine W.skip ?_ | refine W.ret ?_ | refine W.exit ?_); try simp (maxSteps := 1000000) (disch := (first | omega | (simp only [World.size_alloc, size_wr, size_drew] <;> omega) | exact not_noB _)) only [go_sem, ↓reduceIte, n0, reduceCtorEq, n1, n2, n3, n4, n5, i0, i1, i2, i3, i4, i5, i6, i7, hI1, hN1])
      exact ⟨_, hr1_1, hr1_0, hr1_5, hr1_6, ha5⟩
  · rintro ρ w8 ⟨r8, hr1_2, hr2_0, hr2_5, hr2_6, ha8⟩
    have hB8 : B ≤ w8.heap.size := Nat.le_trans hB ha8.upd.size
    have hv_8 := ha8.upd.blk_some hv hdv
    repeat ((first | refine W.seqR rfl ?_ | refine W.seq ?_ | refine W.regR rfl ?_ | refine W.condK ?_ | refine W.block ?_ | refine W.skip ?_ | refine W.ret ?_ | refine W.exit ?_); try simp (maxSteps := 1000000) (disch := (first | omega | (simp only [World.size_alloc, size_wr, size_drew] <;> omega) | exact not_noB _)) only [go_sem, ↓reduceIte, n0, reduceCtorEq, n1, n2, n3, n4, n5, i0, i1, i2, i3, i4, i5, i6, i7, hv_8, hr1_2, hr2_0, hr2_5, hr2_6])
    refine ha8.eqs ?_
    rw [hP]; simp only [List.append_assoc, List.append_nil, List.nil_append]
end Ms

namespace Ms
open Nat renaming reduceEqDiff → n0, reduceAdd → n1, reduceMul → n2, reduceSub → n3, reduceLT → n4, reduceLeDiff → n5
open Int renaming reduceEq → i0, reduceLT → i1, reduceLE → i2, reduceNeg → i3, reduceAdd → i4, reduceSub → i5, reduceMul → i6, reduceToNat → i7
set_option maxRecDepth 8000
open Go Go.Proofs Go.Shelf
attribute [local congr] W_congr WPsq_congr WPp_congr optK_congr addrK_congr intK_congr boolK_congr sliceK_congr tupleK_congr funcK_congr Fn_congr rawK_congr takeK_congr stepK_congr convK_congr aggK_congr

set_option maxHeartbeats 4000000 in
theorem appStopReplicaRequest_1 {d B : Nat} {okM : Blocks} {ver : Int} (hlo : 1 ≤ ver) (hhi : ver ≤ 1) (t : Tree) (cells : List Value) (v : Value) (s : List UInt8) (w : World) {vb : Nat} (ho : OwnBy 5 B w v s) (hB : B ≤ w.heap.size) (hvb : blk w vb = some ((.int .i16 ver :: cells).toArray, 110, (0, 0)))
    (hR : RepS true (d + 3) fs_StopReplicaRequest okM w t cells) (hfit : FitP ver (d + 3) fs_StopReplicaRequest t) (hd : ∀ b, b < w.heap.size → okM b → ¬ ownB v b) (hdv : ¬ ownB v vb) (hlen : s.length + (partS (d + 3) fs_StopReplicaRequest ver false t).length ≤ 2 ^ 41) :
    Fn Try.prog 100 #[.pointer (some ⟨vb, 0, none⟩), v] w fun r w' => AppR 5 B w v s (partS (d + 3) fs_StopReplicaRequest ver false t) r w' := by
  obtain ⟨⟨g_0, g_1, g_2, g_3, g_4, g_5, -⟩, hfu⟩ := hfit
  replace g_0 : FitF (FitP ver (d + 2)) ver fStopReplicaRequest_0 (t.at 0) := g_0
  replace g_1 : FitF (FitP ver (d + 2)) ver fStopReplicaRequest_1 (t.at 1) := g_1
  replace g_2 : FitF (FitP ver (d + 2)) ver fStopReplicaRequest_2 (t.at 2) := g_2
  replace g_3 : FitF (FitP ver (d + 2)) ver fStopReplicaRequest_3 (t.at 3) := g_3
  replace g_4 : FitF (FitP ver (d + 2)) ver fStopReplicaRequest_4 (t.at 4) := g_4
  replace g_5 : FitF (FitP ver (d + 2)) ver fStopReplicaRequest_5 (t.at 5) := g_5
  obtain ⟨cs, q, hcs, hL, hT⟩ := hR.inv
  obtain ⟨c_0, e_0, rfl, h_0, c_1, e_1, rfl, h_1, c_2, e_2, rfl, h_2, c_3, e_3, rfl, h_3, c_4, e_4, rfl, h_4, c_5, e_5, rfl, h_5, rfl⟩ := hL
  replace h_0 : RepF (RepS true (d + 2)) (szS true (d + 2)) fStopReplicaRequest_0 okM w (t.at 0) c_0 := h_0
  replace h_1 : RepF (RepS true (d + 2)) (szS true (d + 2)) fStopReplicaRequest_1 okM w (t.at 1) c_1 := h_1
  replace h_2 : RepF (RepS true (d + 2)) (szS true (d + 2)) fStopReplicaRequest_2 okM w (t.at 2) c_2 := h_2
  replace h_3 : RepF (RepS true (d + 2)) (szS true (d + 2)) fStopReplicaRequest_3 okM w (t.at 3) c_3 := h_3
  replace h_4 : RepF (RepS true (d + 2)) (szS true (d + 2)) fStopReplicaRequest_4 okM w (t.at 4) c_4 := h_4
  replace h_5 : RepF (RepS true (d + 2)) (szS true (d + 2)) fStopReplicaRequest_5 okM w (t.at 5) c_5 := h_5
  obtain rfl := (RepF_num (by decide)).1 h_0
  obtain rfl := (RepF_num (by decide)).1 h_1
  obtain rfl := (RepF_num (by decide)).1 h_2
  obtain rfl := (RepF_num (by decide)).1 h_3
  obtain rfl := (RepF_num (by decide)).1 h_4
  have hn_5 := g_5.notnull (by decide)
  obtain ⟨p_5, rfl, hs_5, -⟩ := (RepF_list rfl hn_5).1 h_5
  obtain ⟨ab_5, ac_5, rfl, _⟩ := SlR.shape hs_5
  have hll_5 := (g_5.list rfl).1
  obtain ⟨qm, rfl⟩ := hT.shape
  have hv : blk w vb = some (#[.int .i16 ver, .int .i32 (IntKind.i32.wrap (t.at 0).n), .int .i32 (IntKind.i32.wrap (t.at 1).n), .bool (decide ((t.at 2).n % 2 = 1)), .int .i64 (t.at 3).n, .bool (decide ((t.at 4).n % 2 = 1)), .slice ab_5 (t.at 5).l.length ac_5, .map qm], 110, (0, 0)) := by rw [hvb, hcs]; rfl
  clear hvb hcs
  have hh_0 : hasS fStopReplicaRequest_0 ver = true := hasS_t (by show (0 : Int) ≤ ver; omega) (by show (-1 : Int) < 0 ∨ ver ≤ (-1 : Int); omega)
  obtain ⟨X_0, hXX_0⟩ : ∃ X, X = fixedS (t.at 0).n 4 := ⟨_, rfl⟩
  have hh_1 : hasS fStopReplicaRequest_1 ver = true := hasS_t (by show (0 : Int) ≤ ver; omega) (by show (-1 : Int) < 0 ∨ ver ≤ (-1 : Int); omega)
  obtain ⟨X_1, hXX_1⟩ : ∃ X, X = fixedS (t.at 1).n 4 := ⟨_, rfl⟩
  have hh_2 : hasS fStopReplicaRequest_2 ver = false := hasS_f (by show ver < 4 ∨ (0 ≤ (-1 : Int) ∧ (-1 : Int) < ver); omega)
  have hh_3 : hasS fStopReplicaRequest_3 ver = true := hasS_t (by show (1 : Int) ≤ ver; omega) (by show (-1 : Int) < 0 ∨ ver ≤ (-1 : Int); omega)
  obtain ⟨X_3, hXX_3⟩ : ∃ X, X = fixedS (t.at 3).n 8 := ⟨_, rfl⟩
  have hh_4 : hasS fStopReplicaRequest_4 ver = true := hasS_t (by show (0 : Int) ≤ ver; omega) (by show (2 : Int) < 0 ∨ ver ≤ (2 : Int); omega)
  obtain ⟨X_4, hXX_4⟩ : ∃ X, X = [if decide ((t.at 4).n % 2 = 1) = true then (1 : UInt8) else 0] := ⟨_, rfl⟩
  have hh_5 : hasS fStopReplicaRequest_5 ver = true := hasS_t (by show (0 : Int) ≤ ver; omega) (by show (-1 : Int) < 0 ∨ ver ≤ (-1 : Int); omega)
  obtain ⟨XL_5, hXL_5⟩ : ∃ X, X = fixedS (t.at 5).l.length 4 := ⟨_, rfl⟩
  obtain ⟨XE_5, hXE_5⟩ : ∃ X, X = (t.at 5).l.flatMap (fun x => partS (d + 2) fs_StopReplicaRequestTopic ver false x) := ⟨_, rfl⟩
  have hP : partS (d + 3) fs_StopReplicaRequest ver false t = X_0 ++ (X_1 ++ (X_3 ++ (X_4 ++ ((XL_5 ++ XE_5) ++ [])))) := partS_no (plainL_has (by decide) hh_0 ((fieldS_num 3 rfl (by decide)).trans hXX_0.symm) (plainL_has (by decide) hh_1 ((fieldS_num 3 rfl (by decide)).trans hXX_1.symm) (plainL_not hh_2 (plainL_has (by decide) hh_3 ((fieldS_num 4 rfl (by decide)).trans hXX_3.symm) (plainL_has (by decide) hh_4 ((fieldS_bool rfl).trans hXX_4.symm) (plainL_has (by decide) hh_5 ((fieldS_list_f (g := (fun x => partS (d + 2) fs_StopReplicaRequestTopic ver false x)) g_5 rfl (by decide) (fun x _ => valueS_part)).trans (by rw [hXL_5, hXE_5])) rfl))))))
  rw [hP] at hlen
  simp only [List.length_append, List.length_nil] at hlen
  have hdK : ∀ {r : Value} {w' : World} {add : List UInt8}, AppR 5 B w v s add r w' → ∀ b, b < w'.heap.size → OkS okM w.heap.size b → ¬ ownB r b := fun h b _ hk ho => (h.frame b ho).elim (hd b hk.2 hk.1) (fun h => by have := hk.2; omega)
  have ownK : ∀ {r : Value} {w' : World} {add : List UInt8} {b : Nat}, AppR 5 B w v s add r w' → b < w.heap.size → ¬ ownB v b → ¬ ownB r b := fun h hb hn ho => (h.frame _ ho).elim hn (fun h => by omega)
  have ha0 : AppR 5 B w v s [] v w := AppR.refl ho
  obtain ⟨w0, hw0⟩ : ∃ w0, w0 = w := ⟨_, rfl⟩
  have hB0 := hB
  have hv_0 := hv
  refine fn_of_W Try.func100 rfl Try.results100 Try.ntmps100 rfl ?_
  repeat ((first | refine W.seqR rfl ?_ | refine W.seq ?_ | refine W.regR rfl ?_ | refine W.condK ?_ | refine W.block ?_ | refine W.skip ?_ | refine W.ret ?_ | refine W.exit ?_); try simp (maxSteps := 1000000) (disch := (first | omega | (simp only [World.size_alloc, size_wr, size_drew] <;> omega) | exact not_noB _)) only [go_sem, ↓reduceIte, n0, reduceCtorEq, n1, n2, n3, n4, n5, i0, i1, i2, i3, i4, i5, i6, i7, hv_0])
  refine (AppendInt32_fn _ _ _ ha0.own hB0 _ (by simp only [List.length_append, List.length_nil]; omega)).mono ?_
  rintro r1 w1 hc1
  rw [wrap32, ← hXX_0] at hc1
  have ha1 := ha0.trans hc1
  have hB1 : B ≤ w1.heap.size := Nat.le_trans hB ha1.upd.size
  have hv_1 := ha1.upd.blk_some hv hdv
  repeat ((first | refine W.seqR rfl ?_ | refine W.seq ?_ | refine W.regR rfl ?_ | refine W.condK ?_ | refine W.block ?_ | refine W.skip ?_ | refine W.ret ?_ | refine W.exit ?_); try simp (maxSteps := 1000000) (disch := (first | omega | (simp only [World.size_alloc, size_wr, size_drew] <;> omega) | exact not_noB _)) only [go_sem, ↓reduceIte, n0, reduceCtorEq, n1, n2, n3, n4, n5, i0, i1, i2, i3, i4, i5, i6, i7, hv_1])
  refine (AppendInt32_fn _ _ _ ha1.own hB1 _ (by simp only [List.length_append, List.length_nil]; omega)).mono ?_
  rintro r2 w2 hc2
  rw [wrap32, ← hXX_1] at hc2
  have ha2 := ha1.trans hc2
  have hB2 : B ≤ w2.heap.size := Nat.le_trans hB ha2.upd.size
  have hv_2 := ha2.upd.blk_some hv hdv
  repeat ((first | refine W.seqR rfl ?_ | refine W.seq ?_ | refine W.regR rfl ?_ | refine W.condK ?_ | refine W.block ?_ | refine W.skip ?_ | refine W.ret ?_ | refine W.exit ?_); try simp (maxSteps := 1000000) (disch := (first | omega | (simp only [World.size_alloc, size_wr, size_drew] <;> omega) | exact not_noB _)) only [go_sem, ↓reduceIte, n0, reduceCtorEq, n1, n2, n3, n4, n5, i0, i1, i2, i3, i4, i5, i6, i7, hv_2])
  refine (AppendInt64_fn _ _ _ ha2.own hB2 _ (by simp only [List.length_append, List.length_nil]; omega)).mono ?_
  rintro r3 w3 hc3
  rw [← hXX_3] at hc3
  have ha3 := ha2.trans hc3
  have hB3 : B ≤ w3.heap.size := Nat.le_trans hB ha3.upd.size
  have hv_3 := ha3.upd.blk_some hv hdv
  repeat ((first | refine W.seqR rfl ?_ | refine W.seq ?_ | refine W.regR rfl ?_ | refine W.condK ?_ | refine W.block ?_ | refine W.skip ?_ | refine W.ret ?_ | refine W.exit ?_); try simp (maxSteps := 1000000) (disch := (first | omega | (simp only [World.size_alloc, size_wr, size_drew] <;> omega) | exact not_noB _)) only [go_sem, ↓reduceIte, n0, reduceCtorEq, n1, n2, n3, n4, n5, i0, i1, i2, i3, i4, i5, i6, i7, hv_3])
  refine (AppendBool_fn _ _ _ ha3.own hB3 _ (by simp only [List.length_append, List.length_nil]; omega)).mono ?_
  rintro r4 w4 hc4
  rw [← hXX_4] at hc4
  have ha4 := ha3.trans hc4
  have hB4 : B ≤ w4.heap.size := Nat.le_trans hB ha4.upd.size
  have hv_4 := ha4.upd.blk_some hv hdv
  repeat ((first | refine W.seqR rfl ?_ | refine W.seq ?_ | refine W.regR rfl ?_ | refine W.condK ?_ | refine W.block ?_ | refine W.skip ?_ | refine W.ret ?_ | refine W.exit ?_); try simp (maxSteps := 1000000) (disch := (first | omega | (simp only [World.size_alloc, size_wr, size_drew] <;> omega) | exact not_noB _)) only [go_sem, ↓reduceIte, n0, reduceCtorEq, n1, n2, n3, n4, n5, i0, i1, i2, i3, i4, i5, i6, i7, hv_4])
  refine (AppendArrayLen_fn _ _ _ ha4.own hB4 (t.at 5).l.length hll_5 (by simp only [List.length_append, List.length_nil]; omega)).mono ?_
  rintro r5 w5 hc5
  rw [← hXL_5] at hc5
  have ha5 := ha4.trans hc5
  have hB5 : B ≤ w5.heap.size := Nat.le_trans hB ha5.upd.size
  have hv_5 := ha5.upd.blk_some hv hdv
  repeat ((first | refine W.seqR rfl ?_ | refine W.seq ?_ | refine W.regR rfl ?_ | refine W.condK ?_ | refine W.block ?_ | refine W.skip ?_ | refine W.ret ?_ | refine W.exit ?_); try simp (maxSteps := 1000000) (disch := (first | omega | (simp only [World.size_alloc, size_wr, size_drew] <;> omega) | exact not_noB _)) only [go_sem, ↓reduceIte, n0, reduceCtorEq, n1, n2, n3, n4, n5, i0, i1, i2, i3, i4, i5, i6, i7, hv_5])
  have hadd1 := ha5
  refine W.exitJ 0 (fun ρ w' => ∃ r, ρ 1 = r ∧ ρ 0 = .pointer (some ⟨vb, 0, none⟩) ∧ ρ 5 = .int .i16 ver ∧ ρ 6 = .bool false ∧ AppR 5 B w v s (([] ++ X_0 ++ X_1 ++ X_3 ++ X_4 ++ XL_5) ++ XE_5) r w')
    (W.loop (fun ρ w' => ∃ (j : Nat) (r : Value), j ≤ (t.at 5).l.length ∧ ρ 94 = .int .i64 j ∧ ρ 93 = .int .i64 (t.at 5).l.length ∧ ρ 12 = .slice ab_5 (t.at 5).l.length ac_5 ∧ ρ 1 = r ∧ ρ 0 = .pointer (some ⟨vb, 0, none⟩) ∧ ρ 5 = .int .i16 ver ∧ ρ 6 = .bool false ∧ AppR 5 B w v s (([] ++ X_0 ++ X_1 ++ X_3 ++ X_4 ++ XL_5) ++ ((t.at 5).l.take j).flatMap (fun x => partS (d + 2) fs_StopReplicaRequestTopic ver false x)) r w')
      (fun ρ _ => (t.at 5).l.length - (RowKit.intOf (ρ 94)).toNat) ?_ ?_) ?_
  · refine ⟨0, _, Nat.zero_le _, ?_, ?_, ?_, ?_, ?_, ?_, ?_, ha5.eqs (by rw [List.take_zero, List.flatMap_nil, List.append_nil])⟩ <;> simp (maxSteps := 1000000) (disch := (first | omega | (simp only [World.size_alloc, size_wr, size_drew] <;> omega) | exact not_noB _)) only [go_sem, ↓reduceIte, n0, reduceCtorEq, n1, n2, n3, n4, n5, i0, i1, i2, i3, i4, i5, i6, i7]
    all_goals rfl
  · rintro ρ w6 ⟨j1, r6, hj1, hI1, hN1, hS1, hr1_1, hr1_0, hr1_5, hr1_6, ha6⟩
    have hB6 : B ≤ w6.heap.size := Nat.le_trans hB ha6.upd.size
    have hv_6 := ha6.upd.blk_some hv hdv
    by_cases hlt1 : j1 < (t.at 5).l.length
    · obtain ⟨_, b1, o1, x1, ce1, hb1, hok1, hx1, hbl1, hxs1, hxe1, hq1, hRe1⟩ := SlR.get (size := 5) (by decide) hs_5 hlt1
      subst hb1
      have hcat1 : (t.at 5).l.take (j1 + 1) = (t.at 5).l.take j1 ++ [(t.at 5).l[j1]] := List.take_succ_eq_append_getElem hlt1
      have htl1 := take_flatMap_len (t.at 5).l (fun x => partS (d + 2) fs_StopReplicaRequestTopic ver false x) (j1 + 1)
      rw [← hXE_5, hcat1, List.flatMap_append, List.flatMap_cons, List.flatMap_nil, List.append_nil] at htl1
      have hge1 := (g_5.list rfl).2 _ (List.getElem_mem hlt1)
      generalize (t.at 5).l[j1] = y1 at *
      have hnx1 := hd b1 hbl1 hok1
      obtain ⟨T1, hTT1⟩ : ∃ T, T = ((t.at 5).l.take j1).flatMap (fun x => partS (d + 2) fs_StopReplicaRequestTopic ver false x) := ⟨_, rfl⟩
      rw [← hTT1] at ha6 htl1
      have hx1_6 := ha6.upd.blk_some hx1 hnx1
      replace hRe1 : RepS true (d + 2) fs_StopReplicaRequestTopic okM w y1 ce1 := Rep1_part.1 hRe1
      have hfe1 : FitP ver (d + 2) fs_StopReplicaRequestTopic y1 := hge1.2.2 rfl
      obtain ⟨⟨ge1_0, ge1_1, ge1_2, ge1_3, -⟩, hfue1⟩ := hfe1
      replace ge1_0 : FitF (FitP ver (d + 1)) ver fStopReplicaRequestTopic_0 (y1.at 0) := ge1_0
      replace ge1_1 : FitF (FitP ver (d + 1)) ver fStopReplicaRequestTopic_1 (y1.at 1) := ge1_1
      replace ge1_2 : FitF (FitP ver (d + 1)) ver fStopReplicaRequestTopic_2 (y1.at 2) := ge1_2
      replace ge1_3 : FitF (FitP ver (d + 1)) ver fStopReplicaRequestTopic_3 (y1.at 3) := ge1_3
      obtain ⟨cse1, qe1, hcse1, hLe1, hTe1⟩ := hRe1.inv
      obtain ⟨ce1_0, ee1_0, rfl, he1_0, ce1_1, ee1_1, rfl, he1_1, ce1_2, ee1_2, rfl, he1_2, ce1_3, ee1_3, rfl, he1_3, rfl⟩ := hLe1
      replace he1_0 : RepF (RepS true (d + 1)) (szS true (d + 1)) fStopReplicaRequestTopic_0 okM w (y1.at 0) ce1_0 := he1_0
      replace he1_1 : RepF (RepS true (d + 1)) (szS true (d + 1)) fStopReplicaRequestTopic_1 okM w (y1.at 1) ce1_1 := he1_1
      replace he1_2 : RepF (RepS true (d + 1)) (szS true (d + 1)) fStopReplicaRequestTopic_2 okM w (y1.at 2) ce1_2 := he1_2
      replace he1_3 : RepF (RepS true (d + 1)) (szS true (d + 1)) fStopReplicaRequestTopic_3 okM w (y1.at 3) ce1_3 := he1_3
      obtain rfl := (RepF_text rfl (by decide)).1 he1_0
      obtain rfl := (RepF_num (by decide)).1 he1_1
      have hne1_2 := ge1_2.notnull (by decide)
      obtain ⟨pe1_2, rfl, hse1_2, -⟩ := (RepF_list rfl hne1_2).1 he1_2
      obtain ⟨abe1_2, ace1_2, rfl, _⟩ := SlR.shape hse1_2
      have hlle1_2 := (ge1_2.list rfl).1
      have hne1_3 := ge1_3.notnull (by decide)
      obtain ⟨pe1_3, rfl, hse1_3, -⟩ := (RepF_list rfl hne1_3).1 he1_3
      obtain ⟨abe1_3, ace1_3, rfl, _⟩ := SlR.shape hse1_3
      have hlle1_3 := (ge1_3.list rfl).1
      obtain ⟨qme1, rfl⟩ := hTe1.shape
      subst hcse1
      have hq1_0 : x1.1[o1 + j1 * 5]? = some (strV (y1.at 0).s) := hq1 0 (by decide)
      have hq1_1 : x1.1[o1 + (j1 * 5 + 1)]? = some (.int .i32 (IntKind.i32.wrap (y1.at 1).n)) := hq1 1 (by decide)
      have hq1_2 : x1.1[o1 + (j1 * 5 + 2)]? = some (.slice abe1_2 (y1.at 2).l.length ace1_2) := hq1 2 (by decide)
      have hq1_3 : x1.1[o1 + (j1 * 5 + 3)]? = some (.slice abe1_3 (y1.at 3).l.length ace1_3) := hq1 3 (by decide)
      have hq1_4 : x1.1[o1 + (j1 * 5 + 4)]? = some (.map qme1) := hq1 4 (by decide)
      have hhe1_0 : hasS fStopReplicaRequestTopic_0 ver = true := hasS_t (by show (0 : Int) ≤ ver; omega) (by show (-1 : Int) < 0 ∨ ver ≤ (-1 : Int); omega)
      obtain ⟨Xe1_0, hXXe1_0⟩ : ∃ X, X = fixedS (y1.at 0).s.length 2 ++ (y1.at 0).s := ⟨_, rfl⟩
      have hhe1_1 : hasS fStopReplicaRequestTopic_1 ver = false := hasS_f (by show ver < 0 ∨ (0 ≤ (0 : Int) ∧ (0 : Int) < ver); omega)
      have hhe1_2 : hasS fStopReplicaRequestTopic_2 ver = true := hasS_t (by show (1 : Int) ≤ ver; omega) (by show (2 : Int) < 0 ∨ ver ≤ (2 : Int); omega)
      obtain ⟨XLe1_2, hXLe1_2⟩ : ∃ X, X = fixedS (y1.at 2).l.length 4 := ⟨_, rfl⟩
      obtain ⟨XEe1_2, hXEe1_2⟩ : ∃ X, X = (y1.at 2).l.flatMap (fun x : Tree => fixedS x.n 4) := ⟨_, rfl⟩
      have hhe1_3 : hasS fStopReplicaRequestTopic_3 ver = false := hasS_f (by show ver < 3 ∨ (0 ≤ (-1 : Int) ∧ (-1 : Int) < ver); omega)
      have hPe1 : partS (d + 2) fs_StopReplicaRequestTopic ver false y1 = Xe1_0 ++ ((XLe1_2 ++ XEe1_2) ++ []) := partS_no (plainL_has (by decide) hhe1_0 ((fieldS_text_f ge1_0 rfl (by decide)).trans hXXe1_0.symm) (plainL_not hhe1_1 (plainL_has (by decide) hhe1_2 ((fieldS_list_f (g := (fun x : Tree => fixedS x.n 4)) ge1_2 rfl (by decide) (fun x _ => valueS_num 3 (by decide))).trans (by rw [hXLe1_2, hXEe1_2])) (plainL_not hhe1_3 rfl))))
      rw [hPe1] at htl1
      simp only [List.length_append, List.length_nil] at htl1
      repeat ((first | refine W.seqR rfl ?_ | refine W.seq ?_ | refine W.regR rfl ?_ | refine W.condK ?_ | refine W.block ?_ | refine W.skip ?_ | refine W.ret ?_ | refine W.exit ?_); try simp (maxSteps := 1000000) (disch := (first | omega | (simp only [World.size_alloc, size_wr, size_drew] <;> omega) | exact not_noB _)) only [go_sem, ↓reduceIte, n0, reduceCtorEq, n1, n2, n3, n4, n5, i0, i1, i2, i3, i4, i5, i6, i7, hv_6, hx1_6, Int.toNat_natCast, Nat.mul_one, hq1_0, hq1_1, hq1_2, hq1_3, hq1_4, hr1_1, hr1_0, hr1_5, hr1_6, hI1, hN1, hS1])
      refine (AppendString_fn _ _ _ ha6.own hB6 (y1.at 0).s (ge1_0.text (.inl rfl)) (by simp only [List.length_append, List.length_nil]; omega)).mono ?_
      rintro r7 w7 hc7
      rw [← hXXe1_0] at hc7
      have ha7 := ha6.trans hc7
      have hB7 : B ≤ w7.heap.size := Nat.le_trans hB ha7.upd.size
      have hv_7 := ha7.upd.blk_some hv hdv
      have hx1_7 := ha7.upd.blk_some hx1 hnx1
      repeat ((first | refine W.seqR rfl ?_ | refine W.seq ?_ | refine W.regR rfl ?_ | refine W.condK ?_ | refine W.block ?_ | refine W.skip ?_ | refine W.ret ?_ | refine W.exit ?_); try simp (maxSteps := 1000000) (disch := (first | omega | (simp only [World.size_alloc, size_wr, size_drew] <;> omega) | exact not_noB _)) only [go_sem, ↓reduceIte, n0, reduceCtorEq, n1, n2, n3, n4, n5, i0, i1, i2, i3, i4, i5, i6, i7, hv_7, hx1_7, Int.toNat_natCast, Nat.mul_one, hq1_0, hq1_1, hq1_2, hq1_3, hq1_4, hr1_1, hr1_0, hr1_5, hr1_6, hI1, hN1, hS1])
      refine (AppendArrayLen_fn _ _ _ ha7.own hB7 (y1.at 2).l.length hlle1_2 (by simp only [List.length_append, List.length_nil]; omega)).mono ?_
      rintro r8 w8 hc8
      rw [← hXLe1_2] at hc8
      have ha8 := ha7.trans hc8
      have hB8 : B ≤ w8.heap.size := Nat.le_trans hB ha8.upd.size
      have hv_8 := ha8.upd.blk_some hv hdv
      have hx1_8 := ha8.upd.blk_some hx1 hnx1
      repeat ((first | refine W.seqR rfl ?_ | refine W.seq ?_ | refine W.regR rfl ?_ | refine W.condK ?_ | refine W.block ?_ | refine W.skip ?_ | refine W.ret ?_ | refine W.exit ?_); try simp (maxSteps := 1000000) (disch := (first | omega | (simp only [World.size_alloc, size_wr, size_drew] <;> omega) | exact not_noB _)) only [go_sem, ↓reduceIte, n0, reduceCtorEq, n1, n2, n3, n4, n5, i0, i1, i2, i3, i4, i5, i6, i7, hv_8, hx1_8, Int.toNat_natCast, Nat.mul_one, hq1_0, hq1_1, hq1_2, hq1_3, hq1_4, hr1_1, hr1_0, hr1_5, hr1_6, hI1, hN1, hS1])
      have hadd2 := ha8
      refine W.exitJ 2 (fun ρ w' => ∃ r, ρ 1 = r ∧ ρ 0 = .pointer (some ⟨vb, 0, none⟩) ∧ ρ 5 = .int .i16 ver ∧ ρ 6 = .bool false ∧ ρ 94 = .int .i64 j1 ∧ ρ 93 = .int .i64 (t.at 5).l.length ∧ ρ 12 = .slice (some ⟨b1, o1, none⟩) (t.at 5).l.length ac_5 ∧ ρ 14 = .pointer (some ⟨b1, o1 + j1 * 5, none⟩) ∧ AppR 5 B w v s (([] ++ X_0 ++ X_1 ++ X_3 ++ X_4 ++ XL_5 ++ T1 ++ Xe1_0 ++ XLe1_2) ++ XEe1_2) r w')
        (W.loop (fun ρ w' => ∃ (j : Nat) (r : Value), j ≤ (y1.at 2).l.length ∧ ρ 145 = .int .i64 j ∧ ρ 144 = .int .i64 (y1.at 2).l.length ∧ ρ 17 = .slice abe1_2 (y1.at 2).l.length ace1_2 ∧ ρ 1 = r ∧ ρ 0 = .pointer (some ⟨vb, 0, none⟩) ∧ ρ 5 = .int .i16 ver ∧ ρ 6 = .bool false ∧ ρ 94 = .int .i64 j1 ∧ ρ 93 = .int .i64 (t.at 5).l.length ∧ ρ 12 = .slice (some ⟨b1, o1, none⟩) (t.at 5).l.length ac_5 ∧ ρ 14 = .pointer (some ⟨b1, o1 + j1 * 5, none⟩) ∧ AppR 5 B w v s (([] ++ X_0 ++ X_1 ++ X_3 ++ X_4 ++ XL_5 ++ T1 ++ Xe1_0 ++ XLe1_2) ++ ((y1.at 2).l.take j).flatMap (fun x : Tree => fixedS x.n 4)) r w')
          (fun ρ _ => (y1.at 2).l.length - (RowKit.intOf (ρ 145)).toNat) ?_ ?_) ?_
      · refine ⟨0, _, Nat.zero_le _, ?_, ?_, ?_, ?_, ?_, ?_, ?_, ?_, ?_, ?_, ?_, ha8.eqs (by rw [List.take_zero, List.flatMap_nil, List.append_nil])⟩ <;> simp (maxSteps := 1000000) (disch := (first | omega | (simp only [World.size_alloc, size_wr, size_drew] <;> omega) | exact not_noB _)) only [go_sem, ↓reduceIte, n0, reduceCtorEq, n1, n2, n3, n4, n5, i0, i1, i2, i3, i4, i5, i6, i7, hr1_1, hr1_0, hr1_5, hr1_6, hI1, hN1, hS1]
        all_goals rfl
      · rintro ρ w9 ⟨j2, r9, hj2, hI2, hN2, hS2, hr1_2, hr2_0, hr2_5, hr2_6, hr2_94, hr2_93, hr2_12, hr2_14, ha9⟩
        have hB9 : B ≤ w9.heap.size := Nat.le_trans hB ha9.upd.size
        have hv_9 := ha9.upd.blk_some hv hdv
        have hx1_9 := ha9.upd.blk_some hx1 hnx1
        by_cases hlt2 : j2 < (y1.at 2).l.length
        · obtain ⟨_, b2, o2, x2, ce2, hb2, hok2, hx2, hbl2, hxs2, hxe2, hq2, hRe2⟩ := SlR.get (size := 1) (by decide) hse1_2 hlt2
          subst hb2
          have hcat2 : (y1.at 2).l.take (j2 + 1) = (y1.at 2).l.take j2 ++ [(y1.at 2).l[j2]] := List.take_succ_eq_append_getElem hlt2
          have htl2 := take_flatMap_len (y1.at 2).l (fun x : Tree => fixedS x.n 4) (j2 + 1)
          rw [← hXEe1_2, hcat2, List.flatMap_append, List.flatMap_cons, List.flatMap_nil, List.append_nil] at htl2
          have hge2 := (ge1_2.list rfl).2 _ (List.getElem_mem hlt2)
          generalize (y1.at 2).l[j2] = y2 at *
          have hnx2 := hd b2 hbl2 hok2
          obtain ⟨T2, hTT2⟩ : ∃ T, T = ((y1.at 2).l.take j2).flatMap (fun x : Tree => fixedS x.n 4) := ⟨_, rfl⟩
          rw [← hTT2] at ha9 htl2
          have hx2_9 := ha9.upd.blk_some hx2 hnx2
          obtain rfl := (Rep1_num (by decide)).1 hRe2
          have hq2_0 : x2.1[o2 + j2]? = some (.int .i32 (IntKind.i32.wrap y2.n)) := by have := hq2 0 (by decide); rw [Nat.mul_one] at this; exact this
          obtain ⟨Y2, hY2⟩ : ∃ Y, Y = fixedS (y2).n 4 := ⟨_, rfl⟩
          replace htl2 : (T2 ++ Y2).length ≤ XEe1_2.length := by rw [hY2]; exact htl2
          simp only [List.length_append] at htl2
          repeat ((first | refine W.seqR rfl ?_ | refine W.seq ?_ | refine W.regR rfl ?_ | refine W.condK ?_ | refine W.block ?_ | refine W.skip ?_ | refine W.ret ?_ | refine W.exit ?_); try simp (maxSteps := 1000000) (disch := (first | omega | (simp only [World.size_alloc, size_wr, size_drew] <;> omega) | exact not_noB _)) only [go_sem, ↓reduceIte, n0, reduceCtorEq, n1, n2, n3, n4, n5, i0, i1, i2, i3, i4, i5, i6, i7, hv_9, hx1_9, hx2_9, Int.toNat_natCast, Nat.mul_one, hq1_0, hq1_1, hq1_2, hq1_3, hq1_4, hq2_0, hr1_2, hr2_0, hr2_5, hr2_6, hr2_94, hr2_93, hr2_12, hr2_14, hI2, hN2, hS2])
          refine (AppendInt32_fn _ _ _ ha9.own hB9 _ (by simp only [List.length_append, List.length_nil]; omega)).mono ?_
          rintro r10 w10 hc10
          rw [wrap32, ← hY2] at hc10
          have ha10 := ha9.trans hc10
          have hB10 : B ≤ w10.heap.size := Nat.le_trans hB ha10.upd.size
          have hv_10 := ha10.upd.blk_some hv hdv
          have hx1_10 := ha10.upd.blk_some hx1 hnx1
          have hx2_10 := ha10.upd.blk_some hx2 hnx2
          repeat ((first | refine W.seqR rfl ?_ | refine W.seq ?_ | refine W.regR rfl ?_ | refine W.condK ?_ | refine W.block ?_ | refine W.skip ?_ | refine W.ret ?_ | refine W.exit ?_); try simp (maxSteps := 1000000) (disch := (first | omega | (simp only [World.size_alloc, size_wr, size_drew] <;> omega) | exact not_noB _)) only [go_sem, ↓reduceIte, n0, reduceCtorEq, n1, n2, n3, n4, n5, i0, i1, i2, i3, i4, i5, i6, i7, hr1_2, hr2_0, hr2_5, hr2_6, hr2_94, hr2_93, hr2_12, hr2_14, hI2, hN2, hS2])
          refine ⟨⟨j2 + 1, _, by omega, rfl, rfl, ha10.eqs ?_⟩, ?_⟩
          · rw [hcat2, List.flatMap_append, List.flatMap_cons, List.flatMap_nil, List.append_nil, ← hTT2, hY2]; simp only [List.append_assoc, List.append_nil, List.nil_append]
          · simp only [RowKit.intOf]; omega
        · have hjl2 : j2 = (y1.at 2).l.length := by omega
          subst hjl2
          rw [List.take_length, ← hXEe1_2] at ha9
          repeat ((first | refine W.seqR rfl ?_ | refine W.seq ?_ | refine W.regR rfl ?_ | refine W.condK ?_ | refine W.block ?_ | refine W.skip ?_ | refine W.ret ?_ | refine W.exit ?_); try simp (maxSteps := 1000000) (disch := (first | omega | (simp only [World.size_alloc, size_wr, size_drew] <;> omega) | exact not_noB _)) only [go_sem, ↓reduceIte, n0, reduceCtorEq, n1, n2, n3, n4, n5, i0, i1, i2, i3, i4, i5, i6, i7, hI2, hN2])
          exact ⟨_, hr1_2, hr2_0, hr2_5, hr2_6, hr2_94, hr2_93, hr2_12, hr2_14, ha9⟩
      · rintro ρ w11 ⟨r11, hr1_3, hr3_0, hr3_5, hr3_6, hr3_94, hr3_93, hr3_12, hr3_14, ha11⟩
        have hB11 : B ≤ w11.heap.size := Nat.le_trans hB ha11.upd.size
        have hv_11 := ha11.upd.blk_some hv hdv
        have hx1_11 := ha11.upd.blk_some hx1 hnx1
        repeat ((first | refine W.seqR rfl ?_ | refine W.seq ?_ | refine W.regR rfl ?_ | refine W.condK ?_ | refine W.block ?_ | refine W.skip ?_ | refine W.ret ?_ | refine W.exit ?_); try simp (maxSteps := 1000000) (disch := (first | omega | (simp only [World.size_alloc, size_wr, size_drew] <;> omega) | exact not_noB _)) only [go_sem, ↓reduceIte, n0, reduceCtorEq, n1, n2, n3, n4, n5, i0, i1, i2, i3, i4, i5, i6, i7, hr1_3, hr3_0, hr3_5, hr3_6, hr3_94, hr3_93, hr3_12, hr3_14])
        refine ⟨⟨j1 + 1, _, by omega, rfl, rfl, ha11.eqs ?_⟩, ?_⟩
        · rw [hcat1, List.flatMap_append, List.flatMap_cons, List.flatMap_nil, List.append_nil, ← hTT1, hPe1]; simp only [List.append_assoc, List.append_nil, List.nil_append]
        · simp only [RowKit.intOf]; omega
    · have hjl1 : j1 = (t.at 5).l.length := by omega
      subst hjl1
      rw [List.take_length, ← hXE_5] at ha6
      repeat ((first | refine W.seqR rfl ?_ | refine W.seq ?_ | refine W.regR rfl ?_ | refine W.condK ?_ | refine W.block ?_ | refine W.skip ?_ | refine W.ret ?_ | refine W.exit ?_); try simp (maxSteps := 1000000) (disch := (first | omega | (simp only [World.size_alloc, size_wr, size_drew] <;> omega) | exact not_noB _)) only [go_sem, ↓reduceIte, n0, reduceCtorEq, n1, n2, n3, n4, n5, i0, i1, i2, i3, i4, i5, i6, i7, hI1, hN1])
      exact ⟨_, hr1_1, hr1_0, hr1_5, hr1_6, ha6⟩
  · rintro ρ w12 ⟨r12, hr1_4, hr4_0, hr4_5, hr4_6, ha12⟩
    have hB12 : B ≤ w12.heap.size := Nat.le_trans hB ha12.upd.size
    have hv_12 := ha12.upd.blk_some hv hdv
    repeat ((first | refine W.seqR rfl ?_ | refine W.seq ?_ | refine W.regR rfl ?_ | refine W.condK ?_ | refine W.block ?_ | refine W.skip ?_ | refine W.ret ?_ | refine W.exit ?_); try simp (maxSteps := 1000000) (disch := (first | omega | (simp only [World.size_alloc, size_wr, size_drew] <;> omega) | exact not_noB _)) only [go_sem, ↓reduceIte, n0, reduceCtorEq, n1, n2, n3, n4, n5, i0, i1, i2, i3, i4, i5, i6, i7, hv_12, hr1_4, hr4_0, hr4_5, hr4_6])
    refine ha12.eqs ?_
    rw [hP]; simp only [List.append_assoc, List.append_nil, List.nil_append]
end Ms

namespace Ms
open Nat renaming reduceEqDiff → n0, reduceAdd → n1, reduceMul → n2, reduceSub → n3, reduceLT → n4, reduceLeDiff → n5
open Int renaming reduceEq → i0, reduceLT → i1, reduceLE → i2, reduceNeg → i3, reduceAdd → i4, reduceSub → i5, reduceMul → i6, reduceToNat → i7
set_option maxRecDepth 8000
open Go Go.Proofs Go.Shelf
attribute [local congr] W_congr WPsq_congr WPp_congr optK_congr addrK_congr intK_congr boolK_congr sliceK_congr tupleK_congr funcK_congr Fn_congr rawK_congr takeK_congr stepK_congr convK_congr aggK_congr

set_option maxHeartbeats 4000000 in
theorem appStopReplicaRequest_2 {d B : Nat} {okM : Blocks} {ver : Int} (hlo : 2 ≤ ver) (hhi : ver ≤ 2) (t : Tree) (cells : List Value) (v : Value) (s : List UInt8) (w : World) {vb : Nat} (ho : OwnBy 5 B w v s) (hB : B ≤ w.heap.size) (hvb : blk w vb = some ((.int .i16 ver :: cells).toArray, 110, (0, 0)))
    (hR : RepS true (d + 3) fs_StopReplicaRequest okM w t cells) (hfit : FitP ver (d + 3) fs_StopReplicaRequest t) (hd : ∀ b, b < w.heap.size → okM b → ¬ ownB v b) (hdv : ¬ ownB v vb) (hlen : s.length + (partS (d + 3) fs_StopReplicaRequest ver true t).length ≤ 2 ^ 41) :
    Fn Try.prog 100 #[.pointer (some ⟨vb, 0, none⟩), v] w fun r w' => AppR 5 B w v s (partS (d + 3) fs_StopReplicaRequest ver true t) r w' := by
  obtain ⟨⟨g_0, g_1, g_2, g_3, g_4, g_5, -⟩, hfu⟩ := hfit
  replace g_0 : FitF (FitP ver (d + 2)) ver fStopReplicaRequest_0 (t.at 0) := g_0
  replace g_1 : FitF (FitP ver (d + 2)) ver fStopReplicaRequest_1 (t.at 1) := g_1
  replace g_2 : FitF (FitP ver (d + 2)) ver fStopReplicaRequest_2 (t.at 2) := g_2
  replace g_3 : FitF (FitP ver (d + 2)) ver fStopReplicaRequest_3 (t.at 3) := g_3
  replace g_4 : FitF (FitP ver (d + 2)) ver fStopReplicaRequest_4 (t.at 4) := g_4
  replace g_5 : FitF (FitP ver (d + 2)) ver fStopReplicaRequest_5 (t.at 5) := g_5
  obtain ⟨cs, q, hcs, hL, hT⟩ := hR.inv
  obtain ⟨c_0, e_0, rfl, h_0, c_1, e_1, rfl, h_1, c_2, e_2, rfl, h_2, c_3, e_3, rfl, h_3, c_4, e_4, rfl, h_4, c_5, e_5, rfl, h_5, rfl⟩ := hL
  replace h_0 : RepF (RepS true (d + 2)) (szS true (d + 2)) fStopReplicaRequest_0 okM w (t.at 0) c_0 := h_0
  replace h_1 : RepF (RepS true (d + 2)) (szS true (d + 2)) fStopReplicaRequest_1 okM w (t.at 1) c_1 := h_1
  replace h_2 : RepF (RepS true (d + 2)) (szS true (d + 2)) fStopReplicaRequest_2 okM w (t.at 2) c_2 := h_2
  replace h_3 : RepF (RepS true (d + 2)) (szS true (d + 2)) fStopReplicaRequest_3 okM w (t.at 3) c_3 := h_3
  replace h_4 : RepF (RepS true (d + 2)) (szS true (d + 2)) fStopReplicaRequest_4 okM w (t.at 4) c_4 := h_4
  replace h_5 : RepF (RepS true (d + 2)) (szS true (d + 2)) fStopReplicaRequest_5 okM w (t.at 5) c_5 := h_5
  obtain rfl := (RepF_num (by decide)).1 h_0
  obtain rfl := (RepF_num (by decide)).1 h_1
  obtain rfl := (RepF_num (by decide)).1 h_2
  obtain rfl := (RepF_num (by decide)).1 h_3
  obtain rfl := (RepF_num (by decide)).1 h_4
  have hn_5 := g_5.notnull (by decide)
  obtain ⟨p_5, rfl, hs_5, -⟩ := (RepF_list rfl hn_5).1 h_5
  obtain ⟨ab_5, ac_5, rfl, _⟩ := SlR.shape hs_5
  have hll_5 := (g_5.list rfl).1
  obtain ⟨qm, rfl⟩ := hT.shape
  have hv : blk w vb = some (#[.int .i16 ver, .int .i32 (IntKind.i32.wrap (t.at 0).n), .int .i32 (IntKind.i32.wrap (t.at 1).n), .bool (decide ((t.at 2).n % 2 = 1)), .int .i64 (t.at 3).n, .bool (decide ((t.at 4).n % 2 = 1)), .slice ab_5 (t.at 5).l.length ac_5, .map qm], 110, (0, 0)) := by rw [hvb, hcs]; rfl
  clear hvb hcs
  have hh_0 : hasS fStopReplicaRequest_0 ver = true := hasS_t (by show (0 : Int) ≤ ver; omega) (by show (-1 : Int) < 0 ∨ ver ≤ (-1 : Int); omega)
  obtain ⟨X_0, hXX_0⟩ : ∃ X, X = fixedS (t.at 0).n 4 := ⟨_, rfl⟩
  have hh_1 : hasS fStopReplicaRequest_1 ver = true := hasS_t (by show (0 : Int) ≤ ver; omega) (by show (-1 : Int) < 0 ∨ ver ≤ (-1 : Int); omega)
  obtain ⟨X_1, hXX_1⟩ : ∃ X, X = fixedS (t.at 1).n 4 := ⟨_, rfl⟩
  have hh_2 : hasS fStopReplicaRequest_2 ver = false := hasS_f (by show ver < 4 ∨ (0 ≤ (-1 : Int) ∧ (-1 : Int) < ver); omega)
  have hh_3 : hasS fStopReplicaRequest_3 ver = true := hasS_t (by show (1 : Int) ≤ ver; omega) (by show (-1 : Int) < 0 ∨ ver ≤ (-1 : Int); omega)
  obtain ⟨X_3, hXX_3⟩ : ∃ X, X = fixedS (t.at 3).n 8 := ⟨_, rfl⟩
  have hh_4 : hasS fStopReplicaRequest_4 ver = true := hasS_t (by show (0 : Int) ≤ ver; omega) (by show (2 : Int) < 0 ∨ ver ≤ (2 : Int); omega)
  obtain ⟨X_4, hXX_4⟩ : ∃ X, X = [if decide ((t.at 4).n % 2 = 1) = true then (1 : UInt8) else 0] := ⟨_, rfl⟩
  have hh_5 : hasS fStopReplicaRequest_5 ver = true := hasS_t (by show (0 : Int) ≤ ver; omega) (by show (-1 : Int) < 0 ∨ ver ≤ (-1 : Int); omega)
  obtain ⟨XL_5, hXL_5⟩ : ∃ X, X = uvarS ((t.at 5).l.length + 1) := ⟨_, rfl⟩
  obtain ⟨XE_5, hXE_5⟩ : ∃ X, X = (t.at 5).l.flatMap (fun x => partS (d + 2) fs_StopReplicaRequestTopic ver true x) := ⟨_, rfl⟩
  obtain ⟨XU, hXU⟩ : ∃ X, X = uvarS t.u.length := ⟨_, rfl⟩
  obtain ⟨XT, hXT⟩ : ∃ X, X = t.u.flatMap oneTag := ⟨_, rfl⟩
  have hP : partS (d + 3) fs_StopReplicaRequest ver true t = (X_0 ++ (X_1 ++ (X_3 ++ (X_4 ++ ((XL_5 ++ XE_5) ++ []))))) ++ (XU ++ XT) := by rw [hXU, hXT]; exact partS_yes rfl hfu (plainL_has (by decide) hh_0 ((fieldS_num 3 rfl (by decide)).trans hXX_0.symm) (plainL_has (by decide) hh_1 ((fieldS_num 3 rfl (by decide)).trans hXX_1.symm) (plainL_not hh_2 (plainL_has (by decide) hh_3 ((fieldS_num 4 rfl (by decide)).trans hXX_3.symm) (plainL_has (by decide) hh_4 ((fieldS_bool rfl).trans hXX_4.symm) (plainL_has (by decide) hh_5 ((fieldS_list_t (g := (fun x => partS (d + 2) fs_StopReplicaRequestTopic ver true x)) g_5 rfl (by decide) (fun x _ => valueS_part)).trans (by rw [hXL_5, hXE_5])) rfl))))))
  rw [hP] at hlen
  simp only [List.length_append, List.length_nil] at hlen
  have hdK : ∀ {r : Value} {w' : World} {add : List UInt8}, AppR 5 B w v s add r w' → ∀ b, b < w'.heap.size → OkS okM w.heap.size b → ¬ ownB r b := fun h b _ hk ho => (h.frame b ho).elim (hd b hk.2 hk.1) (fun h => by have := hk.2; omega)
  have ownK : ∀ {r : Value} {w' : World} {add : List UInt8} {b : Nat}, AppR 5 B w v s add r w' → b < w.heap.size → ¬ ownB v b → ¬ ownB r b := fun h hb hn ho => (h.frame _ ho).elim hn (fun h => by omega)
  have ha0 : AppR 5 B w v s [] v w := AppR.refl ho
  obtain ⟨w0, hw0⟩ : ∃ w0, w0 = w := ⟨_, rfl⟩
  have hB0 := hB
  have hv_0 := hv
  refine fn_of_W Try.func100 rfl Try.results100 Try.ntmps100 rfl ?_
  repeat ((first | refine W.seqR rfl ?_ | refine W.seq ?_ | refine W.regR rfl ?_ | refine W.condK ?_ | refine W.block ?_ | refine W.skip ?_ | refine W.ret ?_ | refine W.exit ?_); try simp (maxSteps := 1000000) (disch := (first | omega | (simp only [World.size_alloc, size_wr, size_drew] <;> omega) | exact not_noB _)) only [go_sem, ↓reduceIte, n0, reduceCtorEq, n1, n2, n3, n4, n5, i0, i1, i2, i3, i4, i5, i6, i7, hv_0])
  refine (AppendInt32_fn _ _ _ ha0.own hB0 _ (by simp only [List.length_append, List.length_nil]; omega)).mono ?_
  rintro r1 w1 hc1
  rw [wrap32, ← hXX_0] at hc1
  have ha1 := ha0.trans hc1
  have hB1 : B ≤ w1.heap.size := Nat.le_trans hB ha1.upd.size
  have hv_1 := ha1.upd.blk_some hv hdv
  repeat ((first | refine W.seqR rfl ?_ | refine W.seq ?_ | refine W.regR rfl ?_ | refine W.condK ?_ | refine W.block ?_ | refine W.skip ?_ | refine W.ret ?_ | refine W.exit ?_); try simp (maxSteps := 1000000) (disch := (first | omega | (simp only [World.size_alloc, size_wr, size_drew] <;> omega) | exact not_noB _)) only [go_sem, ↓reduceIte, n0, reduceCtorEq, n1, n2, n3, n4, n5, i0, i1, i2, i3, i4, i5, i6, i7, hv_1])
  refine (AppendInt32_fn _ _ _ ha1.own hB1 _ (by simp only [List.length_append, List.length_nil]; omega)).mono ?_
  rintro r2 w2 hc2
  rw [wrap32, ← hXX_1] at hc2
  have ha2 := ha1.trans hc2
  have hB2 : B ≤ w2.heap.size := Nat.le_trans hB ha2.upd.size
  have hv_2 := ha2.upd.blk_some hv hdv
  repeat ((first | refine W.seqR rfl ?_ | refine W.seq ?_ | refine W.regR rfl ?_ | refine W.condK ?_ | refine W.block ?_ | refine W.skip ?_ | refine W.ret ?_ | refine W.exit ?_); try simp (maxSteps := 1000000) (disch := (first | omega | (simp only [World.size_alloc, size_wr, size_drew] <;> omega) | exact not_noB _)) only [go_sem, ↓reduceIte, n0, reduceCtorEq, n1, n2, n3, n4, n5, i0, i1, i2, i3, i4, i5, i6, i7, hv_2])
  refine (AppendInt64_fn _ _ _ ha2.own hB2 _ (by simp only [List.length_append, List.length_nil]; omega)).mono ?_
  rintro r3 w3 hc3
  rw [← hXX_3] at hc3
  have ha3 := ha2.trans hc3
  have hB3 : B ≤ w3.heap.size := Nat.le_trans hB ha3.upd.size
  have hv_3 := ha3.upd.blk_some hv hdv
  repeat ((first | refine W.seqR rfl ?_ | refine W.seq ?_ | refine W.regR rfl ?_ | refine W.condK ?_ | refine W.block ?_ | refine W.skip ?_ | refine W.ret ?_ | refine W.exit ?_); try simp (maxSteps := 1000000) (disch := (first | omega | (simp only [World.size_alloc, size_wr, size_drew] <;> omega) | exact not_noB _)) only [go_sem, ↓reduceIte, n0, reduceCtorEq, n1, n2, n3, n4, n5, i0, i1, i2, i3, i4, i5, i6, i7, hv_3])
  refine (AppendBool_fn _ _ _ ha3.own hB3 _ (by simp only [List.length_append, List.length_nil]; omega)).mono ?_
  rintro r4 w4 hc4
  rw [← hXX_4] at hc4
  have ha4 := ha3.trans hc4
  have hB4 : B ≤ w4.heap.size := Nat.le_trans hB ha4.upd.size
  have hv_4 := ha4.upd.blk_some hv hdv
  repeat ((first | refine W.seqR rfl ?_ | refine W.seq ?_ | refine W.regR rfl ?_ | refine W.condK ?_ | refine W.block ?_ | refine W.skip ?_ | refine W.ret ?_ | refine W.exit ?_); try simp (maxSteps := 1000000) (disch := (first | omega | (simp only [World.size_alloc, size_wr, size_drew] <;> omega) | exact not_noB _)) only [go_sem, ↓reduceIte, n0, reduceCtorEq, n1, n2, n3, n4, n5, i0, i1, i2, i3, i4, i5, i6, i7, hv_4])
  refine (AppendCompactArrayLen_fn _ _ _ ha4.own hB4 (t.at 5).l.length hll_5 (by simp only [List.length_append, List.length_nil]; omega)).mono ?_
  rintro r5 w5 hc5
  rw [← hXL_5] at hc5
  have ha5 := ha4.trans hc5
  have hB5 : B ≤ w5.heap.size := Nat.le_trans hB ha5.upd.size
  have hv_5 := ha5.upd.blk_some hv hdv
  repeat ((first | refine W.seqR rfl ?_ | refine W.seq ?_ | refine W.regR rfl ?_ | refine W.condK ?_ | refine W.block ?_ | refine W.skip ?_ | refine W.ret ?_ | refine W.exit ?_); try simp (maxSteps := 1000000) (disch := (first | omega | (simp only [World.size_alloc, size_wr, size_drew] <;> omega) | exact not_noB _)) only [go_sem, ↓reduceIte, n0, reduceCtorEq, n1, n2, n3, n4, n5, i0, i1, i2, i3, i4, i5, i6, i7, hv_5])
  have hadd1 := ha5
  refine W.exitJ 0 (fun ρ w' => ∃ r, ρ 1 = r ∧ ρ 0 = .pointer (some ⟨vb, 0, none⟩) ∧ ρ 5 = .int .i16 ver ∧ ρ 6 = .bool true ∧ AppR 5 B w v s (([] ++ X_0 ++ X_1 ++ X_3 ++ X_4 ++ XL_5) ++ XE_5) r w')
    (W.loop (fun ρ w' => ∃ (j : Nat) (r : Value), j ≤ (t.at 5).l.length ∧ ρ 94 = .int .i64 j ∧ ρ 93 = .int .i64 (t.at 5).l.length ∧ ρ 12 = .slice ab_5 (t.at 5).l.length ac_5 ∧ ρ 1 = r ∧ ρ 0 = .pointer (some ⟨vb, 0, none⟩) ∧ ρ 5 = .int .i16 ver ∧ ρ 6 = .bool true ∧ AppR 5 B w v s (([] ++ X_0 ++ X_1 ++ X_3 ++ X_4 ++ XL_5) ++ ((t.at 5).l.take j).flatMap (fun x => partS (d + 2) fs_StopReplicaRequestTopic ver true x)) r w')
      (fun ρ _ => (t.at 5).l.length - (RowKit.intOf (ρ 94)).toNat) ?_ ?_) ?_
  · refine ⟨0, _, Nat.zero_le _, ?_, ?_, ?_, ?_, ?_, ?_, ?_, ha5.eqs (by rw [List.take_zero, List.flatMap_nil, List.append_nil])⟩ <;> simp (maxSteps := 1000000) (disch := (first | omega | (simp only [World.size_alloc, size_wr, size_drew] <;> omega) | exact not_noB _)) only [go_sem, ↓reduceIte, n0, reduceCtorEq, n1, n2, n3, n4, n5, i0, i1, i2, i3, i4, i5, i6, i7]
    all_goals rfl
  · rintro ρ w6 ⟨j1, r6, hj1, hI1, hN1, hS1, hr1_1, hr1_0, hr1_5, hr1_6, ha6⟩
    have hB6 : B ≤ w6.heap.size := Nat.le_trans hB ha6.upd.size
    have hv_6 := ha6.upd.blk_some hv hdv
    by_cases hlt1 : j1 < (t.at 5).l.length
    · obtain ⟨_, b1, o1, x1, ce1, hb1, hok1, hx1, hbl1, hxs1, hxe1, hq1, hRe1⟩ := SlR.get (size := 5) (by decide) hs_5 hlt1
      subst hb1
      have hcat1 : (t.at 5).l.take (j1 + 1) = (t.at 5).l.take j1 ++ [(t.at 5).l[j1]] := List.take_succ_eq_append_getElem hlt1
      have htl1 := take_flatMap_len (t.at 5).l (fun x => partS (d + 2) fs_StopReplicaRequestTopic ver true x) (j1 + 1)
      rw [← hXE_5, hcat1, List.flatMap_append, List.flatMap_cons, List.flatMap_nil, List.append_nil] at htl1
      have hge1 := (g_5.list rfl).2 _ (List.getElem_mem hlt1)
      generalize (t.at 5).l[j1] = y1 at *
      have hnx1 := hd b1 hbl1 hok1
      obtain ⟨T1, hTT1⟩ : ∃ T, T = ((t.at 5).l.take j1).flatMap (fun x => partS (d + 2) fs_StopReplicaRequestTopic ver true x) := ⟨_, rfl⟩
      rw [← hTT1] at ha6 htl1
      have hx1_6 := ha6.upd.blk_some hx1 hnx1
      replace hRe1 : RepS true (d + 2) fs_StopReplicaRequestTopic okM w y1 ce1 := Rep1_part.1 hRe1
      have hfe1 : FitP ver (d + 2) fs_StopReplicaRequestTopic y1 := hge1.2.2 rfl
      obtain ⟨⟨ge1_0, ge1_1, ge1_2, ge1_3, -⟩, hfue1⟩ := hfe1
      replace ge1_0 : FitF (FitP ver (d + 1)) ver fStopReplicaRequestTopic_0 (y1.at 0) := ge1_0
      replace ge1_1 : FitF (FitP ver (d + 1)) ver fStopReplicaRequestTopic_1 (y1.at 1) := ge1_1
      replace ge1_2 : FitF (FitP ver (d + 1)) ver fStopReplicaRequestTopic_2 (y1.at 2) := ge1_2
      replace ge1_3 : FitF (FitP ver (d + 1)) ver fStopReplicaRequestTopic_3 (y1.at 3) := ge1_3
      obtain ⟨cse1, qe1, hcse1, hLe1, hTe1⟩ := hRe1.inv
      obtain ⟨ce1_0, ee1_0, rfl, he1_0, ce1_1, ee1_1, rfl, he1_1, ce1_2, ee1_2, rfl, he1_2, ce1_3, ee1_3, rfl, he1_3, rfl⟩ := hLe1
      replace he1_0 : RepF (RepS true (d + 1)) (szS true (d + 1)) fStopReplicaRequestTopic_0 okM w (y1.at 0) ce1_0 := he1_0
      replace he1_1 : RepF (RepS true (d + 1)) (szS true (d + 1)) fStopReplicaRequestTopic_1 okM w (y1.at 1) ce1_1 := he1_1
      replace he1_2 : RepF (RepS true (d + 1)) (szS true (d + 1)) fStopReplicaRequestTopic_2 okM w (y1.at 2) ce1_2 := he1_2
      replace he1_3 : RepF (RepS true (d + 1)) (szS true (d + 1)) fStopReplicaRequestTopic_3 okM w (y1.at 3) ce1_3 := he1_3
      obtain rfl := (RepF_text rfl (by decide)).1 he1_0
      obtain rfl := (RepF_num (by decide)).1 he1_1
      have hne1_2 := ge1_2.notnull (by decide)
      obtain ⟨pe1_2, rfl, hse1_2, -⟩ := (RepF_list rfl hne1_2).1 he1_2
      obtain ⟨abe1_2, ace1_2, rfl, _⟩ := SlR.shape hse1_2
      have hlle1_2 := (ge1_2.list rfl).1
      have hne1_3 := ge1_3.notnull (by decide)
      obtain ⟨pe1_3, rfl, hse1_3, -⟩ := (RepF_list rfl hne1_3).1 he1_3
      obtain ⟨abe1_3, ace1_3, rfl, _⟩ := SlR.shape hse1_3
      have hlle1_3 := (ge1_3.list rfl).1
      obtain ⟨qme1, rfl⟩ := hTe1.shape
      subst hcse1
      have hq1_0 : x1.1[o1 + j1 * 5]? = some (strV (y1.at 0).s) := hq1 0 (by decide)
      have hq1_1 : x1.1[o1 + (j1 * 5 + 1)]? = some (.int .i32 (IntKind.i32.wrap (y1.at 1).n)) := hq1 1 (by decide)
      have hq1_2 : x1.1[o1 + (j1 * 5 + 2)]? = some (.slice abe1_2 (y1.at 2).l.length ace1_2) := hq1 2 (by decide)
      have hq1_3 : x1.1[o1 + (j1 * 5 + 3)]? = some (.slice abe1_3 (y1.at 3).l.length ace1_3) := hq1 3 (by decide)
      have hq1_4 : x1.1[o1 + (j1 * 5 + 4)]? = some (.map qme1) := hq1 4 (by decide)
      have hhe1_0 : hasS fStopReplicaRequestTopic_0 ver = true := hasS_t (by show (0 : Int) ≤ ver; omega) (by show (-1 : Int) < 0 ∨ ver ≤ (-1 : Int); omega)
      obtain ⟨Xe1_0, hXXe1_0⟩ : ∃ X, X = uvarS ((y1.at 0).s.length + 1) ++ (y1.at 0).s := ⟨_, rfl⟩
      have hhe1_1 : hasS fStopReplicaRequestTopic_1 ver = false := hasS_f (by show ver < 0 ∨ (0 ≤ (0 : Int) ∧ (0 : Int) < ver); omega)
      have hhe1_2 : hasS fStopReplicaRequestTopic_2 ver = true := hasS_t (by show (1 : Int) ≤ ver; omega) (by show (2 : Int) < 0 ∨ ver ≤ (2 : Int); omega)
      obtain ⟨XLe1_2, hXLe1_2⟩ : ∃ X, X = uvarS ((y1.at 2).l.length + 1) := ⟨_, rfl⟩
      obtain ⟨XEe1_2, hXEe1_2⟩ : ∃ X, X = (y1.at 2).l.flatMap (fun x : Tree => fixedS x.n 4) := ⟨_, rfl⟩
      have hhe1_3 : hasS fStopReplicaRequestTopic_3 ver = false := hasS_f (by show ver < 3 ∨ (0 ≤ (-1 : Int) ∧ (-1 : Int) < ver); omega)
      obtain ⟨XUe1, hXUe1⟩ : ∃ X, X = uvarS y1.u.length := ⟨_, rfl⟩
      obtain ⟨XTe1, hXTe1⟩ : ∃ X, X = y1.u.flatMap oneTag := ⟨_, rfl⟩
      have hPe1 : partS (d + 2) fs_StopReplicaRequestTopic ver true y1 = (Xe1_0 ++ ((XLe1_2 ++ XEe1_2) ++ [])) ++ (XUe1 ++ XTe1) := by rw [hXUe1, hXTe1]; exact partS_yes rfl hfue1 (plainL_has (by decide) hhe1_0 ((fieldS_text_t ge1_0 rfl (by decide)).trans hXXe1_0.symm) (plainL_not hhe1_1 (plainL_has (by decide) hhe1_2 ((fieldS_list_t (g := (fun x : Tree => fixedS x.n 4)) ge1_2 rfl (by decide) (fun x _ => valueS_num 3 (by decide))).trans (by rw [hXLe1_2, hXEe1_2])) (plainL_not hhe1_3 rfl))))
      rw [hPe1] at htl1
      simp only [List.length_append, List.length_nil] at htl1
      repeat ((first | refine W.seqR rfl ?_ | refine W.seq ?_ | refine W.regR rfl ?_ | refine W.condK ?_ | refine W.block ?_ | refine W.skip ?_ | refine W.ret ?_ | refine W.exit ?_); try simp (maxSteps := 1000000) (disch := (first | omega | (simp only [World.size_alloc, size_wr, size_drew] <;> omega) | exact not_noB _)) only [go_sem, ↓reduceIte, n0, reduceCtorEq, n1, n2, n3, n4, n5, i0, i1, i2, i3, i4, i5, i6, i7, hv_6, hx1_6, Int.toNat_natCast, Nat.mul_one, hq1_0, hq1_1, hq1_2, hq1_3, hq1_4, hr1_1, hr1_0, hr1_5, hr1_6, hI1, hN1, hS1])
      refine (AppendCompactString_fn _ _ _ ha6.own hB6 (y1.at 0).s (ge1_0.text (.inl rfl)) (by simp only [List.length_append, List.length_nil]; omega)).mono ?_
      rintro r7 w7 hc7
      rw [← hXXe1_0] at hc7
      have ha7 := ha6.trans hc7
      have hB7 : B ≤ w7.heap.size := Nat.le_trans hB ha7.upd.size
      have hv_7 := ha7.upd.blk_some hv hdv
      have hx1_7 := ha7.upd.blk_some hx1 hnx1
      repeat ((first | refine W.seqR rfl ?_ | refine W.seq ?_ | refine W.regR rfl ?_ | refine W.condK ?_ | refine W.block ?_ | refine W.skip ?_ | refine W.ret ?_ | refine W.exit ?_); try simp (maxSteps := 1000000) (disch := (first | omega | (simp only [World.size_alloc, size_wr, size_drew] <;> omega) | exact not_noB _)) only [go_sem, ↓reduceIte, n0, reduceCtorEq, n1, n2, n3, n4, n5, i0, i1, i2, i3, i4, i5, i6, i7, hv_7, hx1_7, Int.toNat_natCast, Nat.mul_one, hq1_0, hq1_1, hq1_2, hq1_3, hq1_4, hr1_1, hr1_0, hr1_5, hr1_6, hI1, hN1, hS1])
      refine (AppendCompactArrayLen_fn _ _ _ ha7.own hB7 (y1.at 2).l.length hlle1_2 (by simp only [List.length_append, List.length_nil]; omega)).mono ?_
      rintro r8 w8 hc8
      rw [← hXLe1_2] at hc8
      have ha8 := ha7.trans hc8
      have hB8 : B ≤ w8.heap.size := Nat.le_trans hB ha8.upd.size
      have hv_8 := ha8.upd.blk_some hv hdv
      have hx1_8 := ha8.upd.blk_some hx1 hnx1
      repeat ((first | refine W.seqR rfl ?_ | refine W.seq ?_ | refine W.regR rfl ?_ | refine W.condK ?_ | refine W.block ?_ | refine W.skip ?_ | refine W.ret ?_ | refine W.exit ?_); try simp (maxSteps := 1000000) (disch := (first | omega | (simp only [World.size_alloc, size_wr, size_drew] <;> omega) | exact not_noB _)) only [go_sem, ↓reduceIte, n0, reduceCtorEq, n1, n2, n3, n4, n5, i0, i1, i2, i3, i4, i5, i6, i7, hv_8, hx1_8, Int.toNat_natCast, Nat.mul_one, hq1_0, hq1_1, hq1_2, hq1_3, hq1_4, hr1_1, hr1_0, hr1_5, hr1_6, hI1, hN1, hS1])
      have hadd2 := ha8
      refine W.exitJ 2 (fun ρ w' => ∃ r, ρ 1 = r ∧ ρ 0 = .pointer (some ⟨vb, 0, none⟩) ∧ ρ 5 = .int .i16 ver ∧ ρ 6 = .bool true ∧ ρ 94 = .int .i64 j1 ∧ ρ 93 = .int .i64 (t.at 5).l.length ∧ ρ 12 = .slice (some ⟨b1, o1, none⟩) (t.at 5).l.length ac_5 ∧ ρ 14 = .pointer (some ⟨b1, o1 + j1 * 5, none⟩) ∧ AppR 5 B w v s (([] ++ X_0 ++ X_1 ++ X_3 ++ X_4 ++ XL_5 ++ T1 ++ Xe1_0 ++ XLe1_2) ++ XEe1_2) r w')
        (W.loop (fun ρ w' => ∃ (j : Nat) (r : Value), j ≤ (y1.at 2).l.length ∧ ρ 145 = .int .i64 j ∧ ρ 144 = .int .i64 (y1.at 2).l.length ∧ ρ 17 = .slice abe1_2 (y1.at 2).l.length ace1_2 ∧ ρ 1 = r ∧ ρ 0 = .pointer (some ⟨vb, 0, none⟩) ∧ ρ 5 = .int .i16 ver ∧ ρ 6 = .bool true ∧ ρ 94 = .int .i64 j1 ∧ ρ 93 = .int .i64 (t.at 5).l.length ∧ ρ 12 = .slice (some ⟨b1, o1, none⟩) (t.at 5).l.length ac_5 ∧ ρ 14 = .pointer (some ⟨b1, o1 + j1 * 5, none⟩) ∧ AppR 5 B w v s (([] ++ X_0 ++ X_1 ++ X_3 ++ X_4 ++ XL_5 ++ T1 ++ Xe1_0 ++ XLe1_2) ++ ((y1.at 2).l.take j).flatMap (fun x : Tree => fixedS x.n 4)) r w')
          (fun ρ _ => (y1.at 2).l.length - (RowKit.intOf (ρ 145)).toNat) ?_ ?_) ?_
      · refine ⟨0, _, Nat.zero_le _, ?_, ?_, ?_, ?_, ?_, ?_, ?_, ?_, ?_, ?_, ?_, ha8.eqs (by rw [List.take_zero, List.flatMap_nil, List.append_nil])⟩ <;> simp (maxSteps := 1000000) (disch := (first | omega | (simp only [World.size_alloc, size_wr, size_drew] <;> omega) | exact not_noB _)) only [go_sem, ↓reduceIte, n0, reduceCtorEq, n1, n2, n3, n4, n5, i0, i1, i2, i3, i4, i5, i6, i7, hr1_1, hr1_0, hr1_5, hr1_6, hI1, hN1, hS1]
        all_goals rfl
      · rintro ρ w9 ⟨j2, r9, hj2, hI2, hN2, hS2, hr1_2, hr2_0, hr2_5, hr2_6, hr2_94, hr2_93, hr2_12, hr2_14, ha9⟩
        have hB9 : B ≤ w9.heap.size := Nat.le_trans hB ha9.upd.size
        have hv_9 := ha9.upd.blk_some hv hdv
        have hx1_9 := ha9.upd.blk_some hx1 hnx1
        by_cases hlt2 : j2 < (y1.at 2).l.length
        · obtain ⟨_, b2, o2, x2, ce2, hb2, hok2, hx2, hbl2, hxs2, hxe2, hq2, hRe2⟩ := SlR.get (size := 1) (by decide) hse1_2 hlt2
          subst hb2
          have hcat2 : (y1.at 2).l.take (j2 + 1) = (y1.at 2).l.take j2 ++ [(y1.at 2).l[j2]] := List.take_succ_eq_append_getElem hlt2
          have htl2 := take_flatMap_len (y1.at 2).l (fun x : Tree => fixedS x.n 4) (j2 + 1)
          rw [← hXEe1_2, hcat2, List.flatMap_append, List.flatMap_cons, List.flatMap_nil, List.append_nil] at htl2
          have hge2 := (ge1_2.list rfl).2 _ (List.getElem_mem hlt2)
          generalize (y1.at 2).l[j2] = y2 at *
          have hnx2 := hd b2 hbl2 hok2
          obtain ⟨T2, hTT2⟩ : ∃ T, T = ((y1.at 2).l.take j2).flatMap (fun x : Tree => fixedS x.n 4) := ⟨_, rfl⟩
          rw [← hTT2] at ha9 htl2
          have hx2_9 := ha9.upd.blk_some hx2 hnx2
          obtain rfl := (Rep1_num (by decide)).1 hRe2
          have hq2_0 : x2.1[o2 + j2]? = some (.int .i32 (IntKind.i32.wrap y2.n)) := by have := hq2 0 (by decide); rw [Nat.mul_one] at this; exact this
          obtain ⟨Y2, hY2⟩ : ∃ Y, Y = fixedS (y2).n 4 := ⟨_, rfl⟩
          replace htl2 : (T2 ++ Y2).length ≤ XEe1_2.length := by rw [hY2]; exact htl2
          simp only [List.length_append] at htl2
          repeat ((first | refine W.seqR rfl ?_ | refine W.seq ?_ | refine W.regR rfl ?_ | refine W.condK ?_ | refine W.block ?_ | refine W.skip ?_ | refine W.ret ?_ | refine W.exit ?_); try simp (maxSteps := 1000000) (disch := (first | omega | (simp only [World.size_alloc, size_wr, size_drew] <;> omega) | exact not_noB _)) only [go_sem, ↓reduceIte, n0, reduceCtorEq, n1, n2, n3, n4, n5, i0, i1, i2, i3, i4, i5, i6, i7, hv_9, hx1_9, hx2_9, Int.toNat_natCast, Nat.mul_one, hq1_0, hq1_1, hq1_2, hq1_3, hq1_4, hq2_0, hr1_2, hr2_0, hr2_5, hr2_6, hr2_94, hr2_93, hr2_12, hr2_14, hI2, hN2, hS2])
          refine (AppendInt32_fn _ _ _ ha9.own hB9 _ (by simp only [List.length_append, List.length_nil]; omega)).mono ?_
          rintro r10 w10 hc10
          rw [wrap32, ← hY2] at hc10
          have ha10 := ha9.trans hc10
          have hB10 : B ≤ w10.heap.size := Nat.le_trans hB ha10.upd.size
          have hv_10 := ha10.upd.blk_some hv hdv
          have hx1_10 := ha10.upd.blk_some hx1 hnx1
          have hx2_10 := ha10.upd.blk_some hx2 hnx2
          repeat ((first | refine W.seqR rfl ?_ | refine W.seq ?_ | refine W.regR rfl ?_ | refine W.condK ?_ | refine W.block ?_ | refine W.skip ?_ | refine W.ret ?_ | refine W.exit ?_); try simp (maxSteps := 1000000) (disch := (first | omega | (simp only [World.size_alloc, size_wr, size_drew] <;> omega) | exact not_noB _)) only [go_sem, ↓reduceIte, n0, reduceCtorEq, n1, n2, n3, n4, n5, i0, i1, i2, i3, i4, i5, i6, i7, hr1_2, hr2_0, hr2_5, hr2_6, hr2_94, hr2_93, hr2_12, hr2_14, hI2, hN2, hS2])
          refine ⟨⟨j2 + 1, _, by omega, rfl, rfl, ha10.eqs ?_⟩, ?_⟩
          · rw [hcat2, List.flatMap_append, List.flatMap_cons, List.flatMap_nil, List.append_nil, ← hTT2, hY2]; simp only [List.append_assoc, List.append_nil, List.nil_append]
          · simp only [RowKit.intOf]; omega
        · have hjl2 : j2 = (y1.at 2).l.length := by omega
          subst hjl2
          rw [List.take_length, ← hXEe1_2] at ha9
          repeat ((first | refine W.seqR rfl ?_ | refine W.seq ?_ | refine W.regR rfl ?_ | refine W.condK ?_ | refine W.block ?_ | refine W.skip ?_ | refine W.ret ?_ | refine W.exit ?_); try simp (maxSteps := 1000000) (disch := (first | omega | (simp only [World.size_alloc, size_wr, size_drew] <;> omega) | exact not_noB _)) only [go_sem, ↓reduceIte, n0, reduceCtorEq, n1, n2, n3, n4, n5, i0, i1, i2, i3, i4, i5, i6, i7, hI2, hN2])
          exact ⟨_, hr1_2, hr2_0, hr2_5, hr2_6, hr2_94, hr2_93, hr2_12, hr2_14, ha9⟩
      · rintro ρ w11 ⟨r11, hr1_3, hr3_0, hr3_5, hr3_6, hr3_94, hr3_93, hr3_12, hr3_14, ha11⟩
        have hB11 : B ≤ w11.heap.size := Nat.le_trans hB ha11.upd.size
        have hv_11 := ha11.upd.blk_some hv hdv
        have hx1_11 := ha11.upd.blk_some hx1 hnx1
        repeat ((first | refine W.seqR rfl ?_ | refine W.seq ?_ | refine W.regR rfl ?_ | refine W.condK ?_ | refine W.block ?_ | refine W.skip ?_ | refine W.ret ?_ | refine W.exit ?_); try simp (maxSteps := 1000000) (disch := (first | omega | (simp only [World.size_alloc, size_wr, size_drew] <;> omega) | exact not_noB _)) only [go_sem, ↓reduceIte, n0, reduceCtorEq, n1, n2, n3, n4, n5, i0, i1, i2, i3, i4, i5, i6, i7, hv_11, hx1_11, Int.toNat_natCast, Nat.mul_one, hq1_0, hq1_1, hq1_2, hq1_3, hq1_4, hr1_3, hr3_0, hr3_5, hr3_6, hr3_94, hr3_93, hr3_12, hr3_14])
        have hTk11 : TagsM (OkS okM w.heap.size) w11 (.map qme1) y1.u := (hTe1.weaken fun b h1 h2 => ⟨h2, h1⟩).keep (ha11.upd.keeps fun b hb hk => hd b hb hk.1)
        refine (TagsLen_fn (ok := OkS okM w.heap.size) w11 hx1_11 (to := o1 + (j1 * 5 + 4)) hq1_4 hTk11).mono ?_
        rintro _ w11' ⟨rfl, rfl⟩
        have hul11 : y1.u.length ≤ 32767 := hfue1.1
        have ew11 : IntKind.u32.wrap (y1.u.length : Int) = y1.u.length := u32_wrap (by omega)
        have ez11 : IntKind.u32.wrap (0 + (y1.u.length : Int)) = y1.u.length := by rw [Int.zero_add, u32_wrap (by omega)]
        simp (maxSteps := 1000000) (disch := (first | omega | (simp only [World.size_alloc, size_wr, size_drew] <;> omega) | exact not_noB _)) only [go_sem, ↓reduceIte, n0, reduceCtorEq, n1, n2, n3, n4, n5, i0, i1, i2, i3, i4, i5, i6, i7, hv_11, hx1_11, Int.toNat_natCast, Nat.mul_one, hq1_0, hq1_1, hq1_2, hq1_3, hq1_4, hr1_3, hr3_0, hr3_5, hr3_6, hr3_94, hr3_93, hr3_12, hr3_14, ew11, ez11]
        refine (AppendUvarint_fn _ _ _ ha11.own hB11 y1.u.length (by omega) (by simp only [List.length_append, List.length_nil]; omega)).mono ?_
        rintro r12 w12 hc12
        rw [← hXUe1] at hc12
        have ha12 := ha11.trans hc12
        have hB12 : B ≤ w12.heap.size := Nat.le_trans hB ha12.upd.size
        have hv_12 := ha12.upd.blk_some hv hdv
        have hx1_12 := ha12.upd.blk_some hx1 hnx1
        repeat ((first | refine W.seqR rfl ?_ | refine W.seq ?_ | refine W.regR rfl ?_ | refine W.condK ?_ | refine W.block ?_ | refine W.skip ?_ | refine W.ret ?_ | refine W.exit ?_); try simp (maxSteps := 1000000) (disch := (first | omega | (simp only [World.size_alloc, size_wr, size_drew] <;> omega) | exact not_noB _)) only [go_sem, ↓reduceIte, n0, reduceCtorEq, n1, n2, n3, n4, n5, i0, i1, i2, i3, i4, i5, i6, i7, hv_12, hx1_12, Int.toNat_natCast, Nat.mul_one, hq1_0, hq1_1, hq1_2, hq1_3, hq1_4, hr1_3, hr3_0, hr3_5, hr3_6, hr3_94, hr3_93, hr3_12, hr3_14])
        have hTk12 : TagsM (OkS okM w.heap.size) w12 (.map qme1) y1.u := (hTe1.weaken fun b h1 h2 => ⟨h2, h1⟩).keep (ha12.upd.keeps fun b hb hk => hd b hb hk.1)
        refine (AppendEach_fn (ok := OkS okM w.heap.size) _ _ _ ha12.own hB12 hx1_12 (to := o1 + (j1 * 5 + 4)) hq1_4 hTk12 (rising_keys hfue1) hfue1.1 (tags_small hfue1 hTk12) (hdK ha12) (ownK ha12 (blk_lt hx1) hnx1) (by simp only [List.length_append, List.length_nil]; omega)).mono ?_
        rintro r13 w13 hc13
        rw [← hXTe1] at hc13
        have ha13 := ha12.trans hc13
        have hB13 : B ≤ w13.heap.size := Nat.le_trans hB ha13.upd.size
        have hv_13 := ha13.upd.blk_some hv hdv
        have hx1_13 := ha13.upd.blk_some hx1 hnx1
        repeat ((first | refine W.seqR rfl ?_ | refine W.seq ?_ | refine W.regR rfl ?_ | refine W.condK ?_ | refine W.block ?_ | refine W.skip ?_ | refine W.ret ?_ | refine W.exit ?_); try simp (maxSteps := 1000000) (disch := (first | omega | (simp only [World.size_alloc, size_wr, size_drew] <;> omega) | exact not_noB _)) only [go_sem, ↓reduceIte, n0, reduceCtorEq, n1, n2, n3, n4, n5, i0, i1, i2, i3, i4, i5, i6, i7, hr1_3, hr3_0, hr3_5, hr3_6, hr3_94, hr3_93, hr3_12, hr3_14])
        refine ⟨⟨j1 + 1, _, by omega, rfl, rfl, ha13.eqs ?_⟩, ?_⟩
        · rw [hcat1, List.flatMap_append, List.flatMap_cons, List.flatMap_nil, List.append_nil, ← hTT1, hPe1]; simp only [List.append_assoc, List.append_nil, List.nil_append]
        · simp only [RowKit.intOf]; omega
    · have hjl1 : j1 = (t.at 5).l.length := by omega
      subst hjl1
      rw [List.take_length, ← hXE_5] at ha6
      repeat ((first | refine W.seqR rfl ?_ | refine W.seq ?_ | refine W.regR rfl ?_ | refine W.condK ?_ | refine W.block ?_ | refine W.skip ?_ | refine W.ret ?_ | refine W.exit ?_); try simp (maxSteps := 1000000) (disch := (first | omega | (simp only [World.size_alloc, size_wr, size_drew] <;> omega) | exact not_noB _)) only [go_sem, ↓reduceIte, n0, reduceCtorEq, n1, n2, n3, n4, n5, i0, i1, i2, i3, i4, i5, i6, i7, hI1, hN1])
      exact ⟨_, hr1_1, hr1_0, hr1_5, hr1_6, ha6⟩
  · rintro ρ w14 ⟨r14, hr1_4, hr4_0, hr4_5, hr4_6, ha14⟩
    have hB14 : B ≤ w14.heap.size := Nat.le_trans hB ha14.upd.size
    have hv_14 := ha14.upd.blk_some hv hdv
    repeat ((first | refine W.seqR rfl ?_ | refine W.seq ?_ | refine W.regR rfl ?_ | refine W.condK ?_ | refine W.block ?_ | refine W.skip ?_ | refine W.ret ?_ | refine W.exit ?_); try simp (maxSteps := 1000000) (disch := (first | omega | (simp only [World.size_alloc, size_wr, size_drew] <;> omega) | exact not_noB _)) only [go_sem, ↓reduceIte, n0, reduceCtorEq, n1, n2, n3, n4, n5, i0, i1, i2, i3, i4, i5, i6, i7, hv_14, hr1_4, hr4_0, hr4_5, hr4_6])
    have hTk14 : TagsM (OkS okM w.heap.size) w14 (.map qm) t.u := (hT.weaken fun b h1 h2 => ⟨h2, h1⟩).keep (ha14.upd.keeps fun b hb hk => hd b hb hk.1)
    refine (TagsLen_fn (ok := OkS okM w.heap.size) w14 hv_14 (to := 7) (show (#[.int .i16 ver, .int .i32 (IntKind.i32.wrap (t.at 0).n), .int .i32 (IntKind.i32.wrap (t.at 1).n), .bool (decide ((t.at 2).n % 2 = 1)), .int .i64 (t.at 3).n, .bool (decide ((t.at 4).n % 2 = 1)), .slice ab_5 (t.at 5).l.length ac_5, .map qm] : Array Value)[7]? = some (.map qm) from rfl) hTk14).mono ?_
    rintro _ w14' ⟨rfl, rfl⟩
    have hul14 : t.u.length ≤ 32767 := hfu.1
    have ew14 : IntKind.u32.wrap (t.u.length : Int) = t.u.length := u32_wrap (by omega)
    have ez14 : IntKind.u32.wrap (0 + (t.u.length : Int)) = t.u.length := by rw [Int.zero_add, u32_wrap (by omega)]
    simp (maxSteps := 1000000) (disch := (first | omega | (simp only [World.size_alloc, size_wr, size_drew] <;> omega) | exact not_noB _)) only [go_sem, ↓reduceIte, n0, reduceCtorEq, n1, n2, n3, n4, n5, i0, i1, i2, i3, i4, i5, i6, i7, hv_14, hr1_4, hr4_0, hr4_5, hr4_6, ew14, ez14]
    refine (AppendUvarint_fn _ _ _ ha14.own hB14 t.u.length (by omega) (by simp only [List.length_append, List.length_nil]; omega)).mono ?_
    rintro r15 w15 hc15
    rw [← hXU] at hc15
    have ha15 := ha14.trans hc15
    have hB15 : B ≤ w15.heap.size := Nat.le_trans hB ha15.upd.size
    have hv_15 := ha15.upd.blk_some hv hdv
    repeat ((first | refine W.seqR rfl ?_ | refine W.seq ?_ | refine W.regR rfl ?_ | refine W.condK ?_ | refine W.block ?_ | refine W.skip ?_ | refine W.ret ?_ | refine W.exit ?_); try simp (maxSteps := 1000000) (disch := (first | omega | (simp only [World.size_alloc, size_wr, size_drew] <;> omega) | exact not_noB _)) only [go_sem, ↓reduceIte, n0, reduceCtorEq, n1, n2, n3, n4, n5, i0, i1, i2, i3, i4, i5, i6, i7, hv_15, hr1_4, hr4_0, hr4_5, hr4_6])
    have hTk15 : TagsM (OkS okM w.heap.size) w15 (.map qm) t.u := (hT.weaken fun b h1 h2 => ⟨h2, h1⟩).keep (ha15.upd.keeps fun b hb hk => hd b hb hk.1)
    refine (AppendEach_fn (ok := OkS okM w.heap.size) _ _ _ ha15.own hB15 hv_15 (to := 7) (show (#[.int .i16 ver, .int .i32 (IntKind.i32.wrap (t.at 0).n), .int .i32 (IntKind.i32.wrap (t.at 1).n), .bool (decide ((t.at 2).n % 2 = 1)), .int .i64 (t.at 3).n, .bool (decide ((t.at 4).n % 2 = 1)), .slice ab_5 (t.at 5).l.length ac_5, .map qm] : Array Value)[7]? = some (.map qm) from rfl) hTk15 (rising_keys hfu) hfu.1 (tags_small hfu hTk15) (hdK ha15) (ownK ha15 (blk_lt hv) hdv) (by simp only [List.length_append, List.length_nil]; omega)).mono ?_
    rintro r16 w16 hc16
    rw [← hXT] at hc16
    have ha16 := ha15.trans hc16
    have hB16 : B ≤ w16.heap.size := Nat.le_trans hB ha16.upd.size
    have hv_16 := ha16.upd.blk_some hv hdv
    repeat ((first | refine W.seqR rfl ?_ | refine W.seq ?_ | refine W.regR rfl ?_ | refine W.condK ?_ | refine W.block ?_ | refine W.skip ?_ | refine W.ret ?_ | refine W.exit ?_); try simp (maxSteps := 1000000) (disch := (first | omega | (simp only [World.size_alloc, size_wr, size_drew] <;> omega) | exact not_noB _)) only [go_sem, ↓reduceIte, n0, reduceCtorEq, n1, n2, n3, n4, n5, i0, i1, i2, i3, i4, i5, i6, i7, hv_16, hr1_4, hr4_0, hr4_5, hr4_6])
    refine ha16.eqs ?_
    rw [hP]; simp only [List.append_assoc, List.append_nil, List.nil_append]
end Ms

