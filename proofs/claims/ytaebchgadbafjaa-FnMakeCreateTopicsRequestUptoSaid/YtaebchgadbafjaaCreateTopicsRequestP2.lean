/- A part of the proof: see the last text. -/
import Derived.Test.YtaebchgadbafjaaC08
import Derived.Test.YtaebchgadbafjaaCreateTopicsRequestP0
import Derived.Test.YtaebchgadbafjaaCreateTopicsRequestP1
set_option linter.unusedSimpArgs false
set_option linter.unusedVariables false
namespace Ms
open Nat renaming reduceEqDiff → n0, reduceAdd → n1, reduceMul → n2, reduceSub → n3, reduceLT → n4, reduceLeDiff → n5
open Int renaming reduceEq → i0, reduceLT → i1, reduceLE → i2, reduceNeg → i3, reduceAdd → i4, reduceSub → i5, reduceMul → i6, reduceToNat → i7
set_option maxRecDepth 8000
open Go Go.Proofs Go.Shelf
attribute [local congr] W_congr WPsq_congr WPp_congr optK_congr addrK_congr intK_congr boolK_congr sliceK_congr tupleK_congr funcK_congr Fn_congr rawK_congr takeK_congr stepK_congr convK_congr aggK_congr

set_option maxHeartbeats 4000000 in
theorem cCreateTopicsRequestTopicReplicaAssignment_fn (w : World) : Fn Try.prog 166 #[] w fun r w' => FldsV (fun b => w.heap.size ≤ b) w' r fs_CreateTopicsRequestTopicReplicaAssignment ∧ Ext w w' := by
  refine fn_of_W Try.func166 rfl Try.results166 Try.ntmps166 rfl ?_
  repeat ((first | refine W.seqR rfl ?_ | refine W.seq ?_ | refine W.regR rfl ?_ | refine W.condK ?_ | refine W.block ?_ | refine W.skip ?_ | refine W.ret ?_ | refine W.exit ?_); try simp (maxSteps := 1000000) (disch := (first | omega | (simp only [World.size_alloc, size_wr, size_drew] <;> omega) | exact not_noB _)) only [go_sem, ↓reduceIte, n0, reduceCtorEq, n1, n2, n3, n4, n5, i0, i1, i2, i3, i4, i5, i6, i7, fill_fld, fillN_nil, fillN_int, fillN_slice])
  repeat ((first | refine W.seqR rfl ?_ | refine W.seq ?_ | refine W.regR rfl ?_ | refine W.condK ?_ | refine W.block ?_ | refine W.skip ?_ | refine W.ret ?_ | refine W.exit ?_); try simp (maxSteps := 1000000) (disch := (first | omega | (simp only [World.size_alloc, size_wr, size_drew] <;> omega) | exact not_noB _)) only [go_sem, ↓reduceIte, n0, reduceCtorEq, n1, n2, n3, n4, n5, i0, i1, i2, i3, i4, i5, i6, i7, fill_fld, fillN_nil, fillN_int, fillN_slice])
  exact ⟨FldsV.litO (fs := fs_CreateTopicsRequestTopicReplicaAssignment) (css := [[.int .i64 3, .int .i64 0, .int .i64 (-1), .int .i64 (-1), .int .i64 (-1), .int .i64 0, .int .i64 0, .slice none 0 0], [.int .i64 11, .int .i64 0, .int .i64 (-1), .int .i64 (-1), .int .i64 (-1), .int .i64 0, .int .i64 3, .slice none 0 0]]) (T := 50) (fr := (0, 0)) (by first | omega | (simp only [World.size_alloc]; omega)) (by first | (simp (maxSteps := 1000000) (disch := (first | omega | (simp only [World.size_alloc, size_wr, size_drew] <;> omega) | exact not_noB _)) only [go_sem, ↓reduceIte, n0, reduceCtorEq, n1, n2, n3, n4, n5, i0, i1, i2, i3, i4, i5, i6, i7]; rfl) | rfl) (by simp) (All2.cons (FldC.intro (kind := 3) (FldsV.none _ _)) (All2.cons (FldC.intro (kind := 11) (FldsV.none _ _)) All2.nil)), (Upd.alloc (Upd.refl _ w) _)⟩

set_option maxHeartbeats 4000000 in
theorem cCreateTopicsRequestTopicConfig_fn (w : World) : Fn Try.prog 167 #[] w fun r w' => FldsV (fun b => w.heap.size ≤ b) w' r fs_CreateTopicsRequestTopicConfig ∧ Ext w w' := by
  refine fn_of_W Try.func167 rfl Try.results167 Try.ntmps167 rfl ?_
  repeat ((first | refine W.seqR rfl ?_ | refine W.seq ?_ | refine W.regR rfl ?_ | refine W.condK ?_ | refine W.block ?_ | refine W.skip ?_ | refine W.ret ?_ | refine W.exit ?_); try simp (maxSteps := 1000000) (disch := (first | omega | (simp only [World.size_alloc, size_wr, size_drew] <;> omega) | exact not_noB _)) only [go_sem, ↓reduceIte, n0, reduceCtorEq, n1, n2, n3, n4, n5, i0, i1, i2, i3, i4, i5, i6, i7, fill_fld, fillN_nil, fillN_int, fillN_slice])
  repeat ((first | refine W.seqR rfl ?_ | refine W.seq ?_ | refine W.regR rfl ?_ | refine W.condK ?_ | refine W.block ?_ | refine W.skip ?_ | refine W.ret ?_ | refine W.exit ?_); try simp (maxSteps := 1000000) (disch := (first | omega | (simp only [World.size_alloc, size_wr, size_drew] <;> omega) | exact not_noB _)) only [go_sem, ↓reduceIte, n0, reduceCtorEq, n1, n2, n3, n4, n5, i0, i1, i2, i3, i4, i5, i6, i7, fill_fld, fillN_nil, fillN_int, fillN_slice])
  exact ⟨FldsV.litO (fs := fs_CreateTopicsRequestTopicConfig) (css := [[.int .i64 8, .int .i64 0, .int .i64 (-1), .int .i64 (-1), .int .i64 (-1), .int .i64 0, .int .i64 0, .slice none 0 0], [.int .i64 8, .int .i64 0, .int .i64 (-1), .int .i64 0, .int .i64 (-1), .int .i64 0, .int .i64 0, .slice none 0 0]]) (T := 50) (fr := (0, 0)) (by first | omega | (simp only [World.size_alloc]; omega)) (by first | (simp (maxSteps := 1000000) (disch := (first | omega | (simp only [World.size_alloc, size_wr, size_drew] <;> omega) | exact not_noB _)) only [go_sem, ↓reduceIte, n0, reduceCtorEq, n1, n2, n3, n4, n5, i0, i1, i2, i3, i4, i5, i6, i7]; rfl) | rfl) (by simp) (All2.cons (FldC.intro (kind := 8) (FldsV.none _ _)) (All2.cons (FldC.intro (kind := 8) (FldsV.none _ _)) All2.nil)), (Upd.alloc (Upd.refl _ w) _)⟩

set_option maxHeartbeats 4000000 in
theorem cCreateTopicsRequestTopic_fn (w : World) : Fn Try.prog 110 #[] w fun r w' => FldsV (fun b => w.heap.size ≤ b) w' r fs_CreateTopicsRequestTopic ∧ Ext w w' := by
  refine fn_of_W Try.func110 rfl Try.results110 Try.ntmps110 rfl ?_
  repeat ((first | refine W.seqR rfl ?_ | refine W.seq ?_ | refine W.regR rfl ?_ | refine W.condK ?_ | refine W.block ?_ | refine W.skip ?_ | refine W.ret ?_ | refine W.exit ?_); try simp (maxSteps := 1000000) (disch := (first | omega | (simp only [World.size_alloc, size_wr, size_drew] <;> omega) | exact not_noB _)) only [go_sem, ↓reduceIte, n0, reduceCtorEq, n1, n2, n3, n4, n5, i0, i1, i2, i3, i4, i5, i6, i7, fill_fld, fillN_nil, fillN_int, fillN_slice])
  refine (cCreateTopicsRequestTopicReplicaAssignment_fn _).mono ?_
  rintro r1 w1 ⟨hF1, hE1⟩
  obtain ⟨b1, k1, rfl, _⟩ := SlR.shape hF1
  have hz1 := hE1.size
  have hD1 : Ext w w1 := Upd.trans (Upd.refl _ w) hE1
  simp (maxSteps := 1000000) (disch := (first | omega | (simp only [World.size_alloc, size_wr, size_drew] <;> omega) | exact not_noB _)) only [go_sem, ↓reduceIte, n0, reduceCtorEq, n1, n2, n3, n4, n5, i0, i1, i2, i3, i4, i5, i6, i7, fill_fld, fillN_nil, fillN_int, fillN_slice]
  refine (cCreateTopicsRequestTopicConfig_fn _).mono ?_
  rintro r2 w2 ⟨hF2, hE2⟩
  obtain ⟨b2, k2, rfl, _⟩ := SlR.shape hF2
  have hz2 := hE2.size
  have hD2 : Ext w w2 := Upd.trans hD1 hE2
  simp (maxSteps := 1000000) (disch := (first | omega | (simp only [World.size_alloc, size_wr, size_drew] <;> omega) | exact not_noB _)) only [go_sem, ↓reduceIte, n0, reduceCtorEq, n1, n2, n3, n4, n5, i0, i1, i2, i3, i4, i5, i6, i7, fill_fld, fillN_nil, fillN_int, fillN_slice]
  repeat ((first | refine W.seqR rfl ?_ | refine W.seq ?_ | refine W.regR rfl ?_ | refine W.condK ?_ | refine W.block ?_ | refine W.skip ?_ | refine W.ret ?_ | refine W.exit ?_); try simp (maxSteps := 1000000) (disch := (first | omega | (simp only [World.size_alloc, size_wr, size_drew] <;> omega) | exact not_noB _)) only [go_sem, ↓reduceIte, n0, reduceCtorEq, n1, n2, n3, n4, n5, i0, i1, i2, i3, i4, i5, i6, i7, fill_fld, fillN_nil, fillN_int, fillN_slice])
  exact ⟨FldsV.litO (fs := fs_CreateTopicsRequestTopic) (css := [[.int .i64 8, .int .i64 0, .int .i64 (-1), .int .i64 (-1), .int .i64 (-1), .int .i64 0, .int .i64 0, .slice none 0 0], [.int .i64 3, .int .i64 0, .int .i64 (-1), .int .i64 (-1), .int .i64 (-1), .int .i64 0, .int .i64 0, .slice none 0 0], [.int .i64 2, .int .i64 0, .int .i64 (-1), .int .i64 (-1), .int .i64 (-1), .int .i64 0, .int .i64 0, .slice none 0 0], [.int .i64 11, .int .i64 0, .int .i64 (-1), .int .i64 (-1), .int .i64 (-1), .int .i64 0, .int .i64 10, .slice b1 fs_CreateTopicsRequestTopicReplicaAssignment.length k1], [.int .i64 11, .int .i64 0, .int .i64 (-1), .int .i64 (-1), .int .i64 (-1), .int .i64 0, .int .i64 10, .slice b2 fs_CreateTopicsRequestTopicConfig.length k2]]) (T := 50) (fr := (0, 0)) (by first | omega | (simp only [World.size_alloc]; omega)) (by first | (simp (maxSteps := 1000000) (disch := (first | omega | (simp only [World.size_alloc, size_wr, size_drew] <;> omega) | exact not_noB _)) only [go_sem, ↓reduceIte, n0, reduceCtorEq, n1, n2, n3, n4, n5, i0, i1, i2, i3, i4, i5, i6, i7]; rfl) | rfl) (by simp) (All2.cons (FldC.intro (kind := 8) (FldsV.none _ _)) (All2.cons (FldC.intro (kind := 3) (FldsV.none _ _)) (All2.cons (FldC.intro (kind := 2) (FldsV.none _ _)) (All2.cons (FldC.intro (kind := 11) ((hF1.keep (Upd.keeps (S := fun _ => False) (Upd.trans (hE2.mono fun _ h => h.elim) (Upd.alloc (Upd.refl _ _) _)) fun _ _ _ h => h)).weaken fun b _ hb => by have hq : _ ≤ b := hb; omega)) (All2.cons (FldC.intro (kind := 11) ((hF2.keep (Upd.keeps (S := fun _ => False) (Upd.alloc (Upd.refl _ _) _) fun _ _ _ h => h)).weaken fun b _ hb => by have hq : _ ≤ b := hb; omega)) All2.nil))))), (Upd.alloc hD2 _)⟩

set_option maxHeartbeats 4000000 in
theorem cCreateTopicsRequest_fn (w : World) : Fn Try.prog 47 #[] w fun r w' => (∃ vs, r = .agg #[vs, .int .i64 5] ∧ FldsV (fun b => w.heap.size ≤ b) w' vs fs_CreateTopicsRequest) ∧ Ext w w' := by
  refine fn_of_W Try.func47 rfl Try.results47 Try.ntmps47 rfl ?_
  repeat ((first | refine W.seqR rfl ?_ | refine W.seq ?_ | refine W.regR rfl ?_ | refine W.condK ?_ | refine W.block ?_ | refine W.skip ?_ | refine W.ret ?_ | refine W.exit ?_); try simp (maxSteps := 1000000) (disch := (first | omega | (simp only [World.size_alloc, size_wr, size_drew] <;> omega) | exact not_noB _)) only [go_sem, ↓reduceIte, n0, reduceCtorEq, n1, n2, n3, n4, n5, i0, i1, i2, i3, i4, i5, i6, i7, fill_fld, fillN_nil, fillN_int, fillN_slice])
  have hz0 : (w.alloc (.cells #[.slice none 0 0, .int .i64 0] 31)).heap.size = w.heap.size + 1 := World.size_alloc _ _
  refine (cCreateTopicsRequestTopic_fn _).mono ?_
  rintro r1 w1 ⟨hF1, hE1⟩
  obtain ⟨b1, k1, rfl, _⟩ := SlR.shape hF1
  have hz1 := hE1.size
  have hD1 : Ext w w1 := Upd.trans (Upd.alloc (Upd.refl _ _) _) hE1
  have hb1 : blk w1 w.heap.size = some (#[.slice none 0 0, .int .i64 0], 31, (0, 0)) := hE1.blk_some (blk_alloc_new rfl) id
  simp (maxSteps := 1000000) (disch := (first | omega | (simp only [World.size_alloc, size_wr, size_drew] <;> omega) | exact not_noB _)) only [go_sem, ↓reduceIte, n0, reduceCtorEq, n1, n2, n3, n4, n5, i0, i1, i2, i3, i4, i5, i6, i7, fill_fld, fillN_nil, fillN_int, fillN_slice, hb1]
  have hvl := blk_lt hb1
  repeat ((first | refine W.seqR rfl ?_ | refine W.seq ?_ | refine W.regR rfl ?_ | refine W.condK ?_ | refine W.block ?_ | refine W.skip ?_ | refine W.ret ?_ | refine W.exit ?_); try simp (maxSteps := 1000000) (disch := (first | omega | (simp only [World.size_alloc, size_wr, size_drew] <;> omega) | exact not_noB _)) only [go_sem, ↓reduceIte, n0, reduceCtorEq, n1, n2, n3, n4, n5, i0, i1, i2, i3, i4, i5, i6, i7, fill_fld, fillN_nil, fillN_int, fillN_slice, hb1])
  exact ⟨⟨_, rfl, FldsV.litO (fs := fs_CreateTopicsRequest) (css := [[.int .i64 11, .int .i64 0, .int .i64 (-1), .int .i64 (-1), .int .i64 (-1), .int .i64 0, .int .i64 10, .slice b1 fs_CreateTopicsRequestTopic.length k1], [.int .i64 3, .int .i64 0, .int .i64 (-1), .int .i64 (-1), .int .i64 (-1), .int .i64 60000, .int .i64 0, .slice none 0 0], [.int .i64 0, .int .i64 1, .int .i64 (-1), .int .i64 (-1), .int .i64 (-1), .int .i64 0, .int .i64 0, .slice none 0 0]]) (T := 50) (fr := (0, 0)) (by first | omega | (simp only [World.size_alloc]; omega)) (by first | (simp (maxSteps := 1000000) (disch := (first | omega | (simp only [World.size_alloc, size_wr, size_drew] <;> omega) | exact not_noB _)) only [go_sem, ↓reduceIte, n0, reduceCtorEq, n1, n2, n3, n4, n5, i0, i1, i2, i3, i4, i5, i6, i7]; rfl) | rfl) (by simp) (All2.cons (FldC.intro (kind := 11) (hF1.stay (B := w.heap.size) (Upd.wr (Upd.alloc (Upd.refl _ _) _) _ _ (.inr rfl)) (by omega) (fun b hb => by omega))) (All2.cons (FldC.intro (kind := 3) (FldsV.none _ _)) (All2.cons (FldC.intro (kind := 0) (FldsV.none _ _)) All2.nil)))⟩, (Upd.wr (Upd.alloc hD1 _) _ _ (.inl (Nat.le_refl _)))⟩

theorem DefaultCreateTopicsRequest_fn (w : World) {vb : Nat} {c0 c1 c2 c3 c4 : Value} (hb : blk w vb = some (#[c0, c1, c2, c3, c4], 123, (0, 0))) :
    Fn Try.prog 165 #[.pointer (some ⟨vb, 0, none⟩)] w fun _ w' => blk w' vb = some (#[c0, c1, .int .i32 60000, c3, c4], 123, (0, 0)) ∧ Upd (fun b => b = vb) w w' := by
  have hvl := blk_lt hb
  refine fn_of_W Try.func165 rfl Try.results165 Try.ntmps165 rfl ?_
  repeat ((first | refine W.seqR rfl ?_ | refine W.seq ?_ | refine W.regR rfl ?_ | refine W.condK ?_ | refine W.block ?_ | refine W.skip ?_ | refine W.ret ?_ | refine W.exit ?_); try simp (maxSteps := 1000000) (disch := (first | omega | (simp only [World.size_alloc, size_wr, size_drew] <;> omega) | exact not_noB _)) only [go_sem, ↓reduceIte, n0, reduceCtorEq, n1, n2, n3, n4, n5, i0, i1, i2, i3, i4, i5, i6, i7, hb])
  first | exact (Upd.wr (Upd.refl _ _) _ _ (.inr rfl)) | exact ⟨by simp (maxSteps := 1000000) (disch := (first | omega | (simp only [World.size_alloc, size_wr, size_drew] <;> omega) | exact not_noB _)) only [go_sem, ↓reduceIte, n0, reduceCtorEq, n1, n2, n3, n4, n5, i0, i1, i2, i3, i4, i5, i6, i7, hb], (Upd.wr (Upd.refl _ _) _ _ (.inr rfl))⟩

theorem NewPtrCreateTopicsRequest_fn (w : World) : Fn Try.prog 108 #[] w fun r w' => r = .pointer (some ⟨w.heap.size, 0, none⟩) ∧ blk w' w.heap.size = some (#[.int .i16 0, .slice none 0 0, .int .i32 60000, .bool false, .map none], 123, (0, 0)) ∧ Ext w w' := by
  refine fn_of_W Try.func108 rfl Try.results108 Try.ntmps108 rfl ?_
  repeat ((first | refine W.seqR rfl ?_ | refine W.seq ?_ | refine W.regR rfl ?_ | refine W.condK ?_ | refine W.block ?_ | refine W.skip ?_ | refine W.ret ?_ | refine W.exit ?_); try simp (maxSteps := 1000000) (disch := (first | omega | (simp only [World.size_alloc, size_wr, size_drew] <;> omega) | exact not_noB _)) only [go_sem, ↓reduceIte, n0, reduceCtorEq, n1, n2, n3, n4, n5, i0, i1, i2, i3, i4, i5, i6, i7])
  refine (DefaultCreateTopicsRequest_fn _ (blk_alloc_new rfl)).mono ?_
  rintro _ w1 ⟨hb1, hU1⟩
  have hz := World.size_alloc w (.cells #[.int .i16 0, .slice none 0 0, .int .i32 0, .bool false, .map none] 123)
  repeat ((first | refine W.seqR rfl ?_ | refine W.seq ?_ | refine W.regR rfl ?_ | refine W.condK ?_ | refine W.block ?_ | refine W.skip ?_ | refine W.ret ?_ | refine W.exit ?_); try simp (maxSteps := 1000000) (disch := (first | omega | (simp only [World.size_alloc, size_wr, size_drew] <;> omega) | exact not_noB _)) only [go_sem, ↓reduceIte, n0, reduceCtorEq, n1, n2, n3, n4, n5, i0, i1, i2, i3, i4, i5, i6, i7])
  exact ⟨hb1, (Upd.alloc (Upd.refl _ _) _ : Ext w _).more hU1 fun b hb h => by omega⟩

theorem SetVersionCreateTopicsRequest_fn (w : World) {vb : Nat} {c0 c1 c2 c3 c4 : Value} (n : Int) (hb : blk w vb = some (#[c0, c1, c2, c3, c4], 123, (0, 0))) :
    Fn Try.prog 111 #[.pointer (some ⟨vb, 0, none⟩), .int .i16 n] w fun _ w' => blk w' vb = some (#[.int .i16 n, c1, c2, c3, c4], 123, (0, 0)) ∧ Upd (fun b => b = vb) w w' := by
  have hvl := blk_lt hb
  refine fn_of_W Try.func111 rfl Try.results111 Try.ntmps111 rfl ?_
  repeat ((first | refine W.seqR rfl ?_ | refine W.seq ?_ | refine W.regR rfl ?_ | refine W.condK ?_ | refine W.block ?_ | refine W.skip ?_ | refine W.ret ?_ | refine W.exit ?_); try simp (maxSteps := 1000000) (disch := (first | omega | (simp only [World.size_alloc, size_wr, size_drew] <;> omega) | exact not_noB _)) only [go_sem, ↓reduceIte, n0, reduceCtorEq, n1, n2, n3, n4, n5, i0, i1, i2, i3, i4, i5, i6, i7, hb])
  first | exact Upd.wr (Upd.refl _ _) _ _ (.inr rfl) | exact ⟨by simp (maxSteps := 1000000) (disch := (first | omega | (simp only [World.size_alloc, size_wr, size_drew] <;> omega) | exact not_noB _)) only [go_sem, ↓reduceIte, n0, reduceCtorEq, n1, n2, n3, n4, n5, i0, i1, i2, i3, i4, i5, i6, i7, hb], Upd.wr (Upd.refl _ _) _ _ (.inr rfl)⟩

theorem MaxCreateTopicsRequest_fn (w : World) : Fn Try.prog 46 #[] w fun r w' => r = .int .i64 7 ∧ Ext w w' := by
  refine fn_of_W Try.func46 rfl Try.results46 Try.ntmps46 rfl ?_
  repeat ((first | refine W.seqR rfl ?_ | refine W.seq ?_ | refine W.regR rfl ?_ | refine W.condK ?_ | refine W.block ?_ | refine W.skip ?_ | refine W.ret ?_ | refine W.exit ?_); try simp (maxSteps := 1000000) (disch := (first | omega | (simp only [World.size_alloc, size_wr, size_drew] <;> omega) | exact not_noB _)) only [go_sem, ↓reduceIte, n0, reduceCtorEq, n1, n2, n3, n4, n5, i0, i1, i2, i3, i4, i5, i6, i7])
  refine (NewPtrCreateTopicsRequest_fn w).mono ?_
  rintro _ w1 ⟨rfl, hb1, hE1⟩
  repeat ((first | refine W.seqR rfl ?_ | refine W.seq ?_ | refine W.regR rfl ?_ | refine W.condK ?_ | refine W.block ?_ | refine W.skip ?_ | refine W.ret ?_ | refine W.exit ?_); try simp (maxSteps := 1000000) (disch := (first | omega | (simp only [World.size_alloc, size_wr, size_drew] <;> omega) | exact not_noB _)) only [go_sem, ↓reduceIte, n0, reduceCtorEq, n1, n2, n3, n4, n5, i0, i1, i2, i3, i4, i5, i6, i7])
  have hm : Fn Try.prog 109 #[.pointer (some ⟨w.heap.size, 0, none⟩)] w1 fun r w' => r = .int .i16 7 ∧ w' = w1 := by
    refine fn_of_W Try.func109 rfl Try.results109 Try.ntmps109 rfl ?_
    repeat ((first | refine W.seqR rfl ?_ | refine W.seq ?_ | refine W.regR rfl ?_ | refine W.condK ?_ | refine W.block ?_ | refine W.skip ?_ | refine W.ret ?_ | refine W.exit ?_); try simp (maxSteps := 1000000) (disch := (first | omega | (simp only [World.size_alloc, size_wr, size_drew] <;> omega) | exact not_noB _)) only [go_sem, ↓reduceIte, n0, reduceCtorEq, n1, n2, n3, n4, n5, i0, i1, i2, i3, i4, i5, i6, i7])
  refine hm.mono ?_
  rintro _ w2 ⟨rfl, rfl⟩
  have ew : IntKind.i64.wrap (7 : Int) = 7 := i64_wrap (by decide)
  repeat ((first | refine W.seqR rfl ?_ | refine W.seq ?_ | refine W.regR rfl ?_ | refine W.condK ?_ | refine W.block ?_ | refine W.skip ?_ | refine W.ret ?_ | refine W.exit ?_); try simp (maxSteps := 1000000) (disch := (first | omega | (simp only [World.size_alloc, size_wr, size_drew] <;> omega) | exact not_noB _)) only [go_sem, ↓reduceIte, n0, reduceCtorEq, n1, n2, n3, n4, n5, i0, i1, i2, i3, i4, i5, i6, i7, ew])
  exact hE1
end Ms

namespace Ms
open Nat renaming reduceEqDiff → n0, reduceAdd → n1, reduceMul → n2, reduceSub → n3, reduceLT → n4, reduceLeDiff → n5
open Int renaming reduceEq → i0, reduceLT → i1, reduceLE → i2, reduceNeg → i3, reduceAdd → i4, reduceSub → i5, reduceMul → i6, reduceToNat → i7
set_option maxRecDepth 8000
open Go Go.Proofs Go.Shelf
attribute [local congr] W_congr WPsq_congr WPp_congr optK_congr addrK_congr intK_congr boolK_congr sliceK_congr tupleK_congr funcK_congr Fn_congr rawK_congr takeK_congr stepK_congr convK_congr aggK_congr

set_option maxHeartbeats 4000000 in
theorem appCreateTopicsRequest_0 {d B : Nat} {okM : Blocks} {ver : Int} (hlo : 0 ≤ ver) (hhi : ver ≤ 0) (t : Tree) (cells : List Value) (v : Value) (s : List UInt8) (w : World) {vb : Nat} (ho : OwnBy 5 B w v s) (hB : B ≤ w.heap.size) (hvb : blk w vb = some ((.int .i16 ver :: cells).toArray, 123, (0, 0)))
    (hR : RepS true (d + 3) fs_CreateTopicsRequest okM w t cells) (hfit : FitP ver (d + 3) fs_CreateTopicsRequest t) (hd : ∀ b, b < w.heap.size → okM b → ¬ ownB v b) (hdv : ¬ ownB v vb) (hlen : s.length + (partS (d + 3) fs_CreateTopicsRequest ver false t).length ≤ 2 ^ 41) :
    Fn Try.prog 113 #[.pointer (some ⟨vb, 0, none⟩), v] w fun r w' => AppR 5 B w v s (partS (d + 3) fs_CreateTopicsRequest ver false t) r w' := by
  obtain ⟨⟨g_0, g_1, g_2, -⟩, hfu⟩ := hfit
  replace g_0 : FitF (FitP ver (d + 2)) ver fCreateTopicsRequest_0 (t.at 0) := g_0
  replace g_1 : FitF (FitP ver (d + 2)) ver fCreateTopicsRequest_1 (t.at 1) := g_1
  replace g_2 : FitF (FitP ver (d + 2)) ver fCreateTopicsRequest_2 (t.at 2) := g_2
  obtain ⟨cs, q, hcs, hL, hT⟩ := hR.inv
  obtain ⟨c_0, e_0, rfl, h_0, c_1, e_1, rfl, h_1, c_2, e_2, rfl, h_2, rfl⟩ := hL
  replace h_0 : RepF (RepS true (d + 2)) (szS true (d + 2)) fCreateTopicsRequest_0 okM w (t.at 0) c_0 := h_0
  replace h_1 : RepF (RepS true (d + 2)) (szS true (d + 2)) fCreateTopicsRequest_1 okM w (t.at 1) c_1 := h_1
  replace h_2 : RepF (RepS true (d + 2)) (szS true (d + 2)) fCreateTopicsRequest_2 okM w (t.at 2) c_2 := h_2
  have hn_0 := g_0.notnull (by decide)
  obtain ⟨p_0, rfl, hs_0, -⟩ := (RepF_list rfl hn_0).1 h_0
  obtain ⟨ab_0, ac_0, rfl, _⟩ := SlR.shape hs_0
  have hll_0 := (g_0.list rfl).1
  obtain rfl := (RepF_num (by decide)).1 h_1
  obtain rfl := (RepF_num (by decide)).1 h_2
  obtain ⟨qm, rfl⟩ := hT.shape
  have hv : blk w vb = some (#[.int .i16 ver, .slice ab_0 (t.at 0).l.length ac_0, .int .i32 (IntKind.i32.wrap (t.at 1).n), .bool (decide ((t.at 2).n % 2 = 1)), .map qm], 123, (0, 0)) := by rw [hvb, hcs]; rfl
  clear hvb hcs
  have hh_0 : hasS fCreateTopicsRequest_0 ver = true := hasS_t (by show (0 : Int) ≤ ver; omega) (by show (-1 : Int) < 0 ∨ ver ≤ (-1 : Int); omega)
  obtain ⟨XL_0, hXL_0⟩ : ∃ X, X = fixedS (t.at 0).l.length 4 := ⟨_, rfl⟩
  obtain ⟨XE_0, hXE_0⟩ : ∃ X, X = (t.at 0).l.flatMap (fun x => partS (d + 2) fs_CreateTopicsRequestTopic ver false x) := ⟨_, rfl⟩
  have hh_1 : hasS fCreateTopicsRequest_1 ver = true := hasS_t (by show (0 : Int) ≤ ver; omega) (by show (-1 : Int) < 0 ∨ ver ≤ (-1 : Int); omega)
  obtain ⟨X_1, hXX_1⟩ : ∃ X, X = fixedS (t.at 1).n 4 := ⟨_, rfl⟩
  have hh_2 : hasS fCreateTopicsRequest_2 ver = false := hasS_f (by show ver < 1 ∨ (0 ≤ (-1 : Int) ∧ (-1 : Int) < ver); omega)
  have hP : partS (d + 3) fs_CreateTopicsRequest ver false t = (XL_0 ++ XE_0) ++ (X_1 ++ []) := partS_no (plainL_has (by decide) hh_0 ((fieldS_list_f (g := (fun x => partS (d + 2) fs_CreateTopicsRequestTopic ver false x)) g_0 rfl (by decide) (fun x _ => valueS_part)).trans (by rw [hXL_0, hXE_0])) (plainL_has (by decide) hh_1 ((fieldS_num 3 rfl (by decide)).trans hXX_1.symm) (plainL_not hh_2 rfl)))
  rw [hP] at hlen
  simp only [List.length_append, List.length_nil] at hlen
  have hdK : ∀ {r : Value} {w' : World} {add : List UInt8}, AppR 5 B w v s add r w' → ∀ b, b < w'.heap.size → OkS okM w.heap.size b → ¬ ownB r b := fun h b _ hk ho => (h.frame b ho).elim (hd b hk.2 hk.1) (fun h => by have := hk.2; omega)
  have ownK : ∀ {r : Value} {w' : World} {add : List UInt8} {b : Nat}, AppR 5 B w v s add r w' → b < w.heap.size → ¬ ownB v b → ¬ ownB r b := fun h hb hn ho => (h.frame _ ho).elim hn (fun h => by omega)
  have ha0 : AppR 5 B w v s [] v w := AppR.refl ho
  obtain ⟨w0, hw0⟩ : ∃ w0, w0 = w := ⟨_, rfl⟩
  have hB0 := hB
  have hv_0 := hv
  refine fn_of_W Try.func113 rfl Try.results113 Try.ntmps113 rfl ?_
  repeat ((first | refine W.seqR rfl ?_ | refine W.seq ?_ | refine W.regR rfl ?_ | refine W.condK ?_ | refine W.block ?_ | refine W.skip ?_ | refine W.ret ?_ | refine W.exit ?_); try simp (maxSteps := 1000000) (disch := (first | omega | (simp only [World.size_alloc, size_wr, size_drew] <;> omega) | exact not_noB _)) only [go_sem, ↓reduceIte, n0, reduceCtorEq, n1, n2, n3, n4, n5, i0, i1, i2, i3, i4, i5, i6, i7, hv_0])
  refine (AppendArrayLen_fn _ _ _ ha0.own hB0 (t.at 0).l.length hll_0 (by simp only [List.length_append, List.length_nil]; omega)).mono ?_
  rintro r1 w1 hc1
  rw [← hXL_0] at hc1
  have ha1 := ha0.trans hc1
  have hB1 : B ≤ w1.heap.size := Nat.le_trans hB ha1.upd.size
  have hv_1 := ha1.upd.blk_some hv hdv
  repeat ((first | refine W.seqR rfl ?_ | refine W.seq ?_ | refine W.regR rfl ?_ | refine W.condK ?_ | refine W.block ?_ | refine W.skip ?_ | refine W.ret ?_ | refine W.exit ?_); try simp (maxSteps := 1000000) (disch := (first | omega | (simp only [World.size_alloc, size_wr, size_drew] <;> omega) | exact not_noB _)) only [go_sem, ↓reduceIte, n0, reduceCtorEq, n1, n2, n3, n4, n5, i0, i1, i2, i3, i4, i5, i6, i7, hv_1])
  have hadd1 := ha1
  refine W.exitJ 0 (fun ρ w' => ∃ r, ρ 1 = r ∧ ρ 0 = .pointer (some ⟨vb, 0, none⟩) ∧ ρ 5 = .int .i16 ver ∧ ρ 6 = .bool false ∧ AppR 5 B w v s (([] ++ XL_0) ++ XE_0) r w')
    (W.loop (fun ρ w' => ∃ (j : Nat) (r : Value), j ≤ (t.at 0).l.length ∧ ρ 50 = .int .i64 j ∧ ρ 49 = .int .i64 (t.at 0).l.length ∧ ρ 7 = .slice ab_0 (t.at 0).l.length ac_0 ∧ ρ 1 = r ∧ ρ 0 = .pointer (some ⟨vb, 0, none⟩) ∧ ρ 5 = .int .i16 ver ∧ ρ 6 = .bool false ∧ AppR 5 B w v s (([] ++ XL_0) ++ ((t.at 0).l.take j).flatMap (fun x => partS (d + 2) fs_CreateTopicsRequestTopic ver false x)) r w')
      (fun ρ _ => (t.at 0).l.length - (RowKit.intOf (ρ 50)).toNat) ?_ ?_) ?_
  · refine ⟨0, _, Nat.zero_le _, ?_, ?_, ?_, ?_, ?_, ?_, ?_, ha1.eqs (by rw [List.take_zero, List.flatMap_nil, List.append_nil])⟩ <;> simp (maxSteps := 1000000) (disch := (first | omega | (simp only [World.size_alloc, size_wr, size_drew] <;> omega) | exact not_noB _)) only [go_sem, ↓reduceIte, n0, reduceCtorEq, n1, n2, n3, n4, n5, i0, i1, i2, i3, i4, i5, i6, i7]
    all_goals rfl
  · rintro ρ w2 ⟨j1, r2, hj1, hI1, hN1, hS1, hr1_1, hr1_0, hr1_5, hr1_6, ha2⟩
    have hB2 : B ≤ w2.heap.size := Nat.le_trans hB ha2.upd.size
    have hv_2 := ha2.upd.blk_some hv hdv
    by_cases hlt1 : j1 < (t.at 0).l.length
    · obtain ⟨_, b1, o1, x1, ce1, hb1, hok1, hx1, hbl1, hxs1, hxe1, hq1, hRe1⟩ := SlR.get (size := 6) (by decide) hs_0 hlt1
      subst hb1
      have hcat1 : (t.at 0).l.take (j1 + 1) = (t.at 0).l.take j1 ++ [(t.at 0).l[j1]] := List.take_succ_eq_append_getElem hlt1
      have htl1 := take_flatMap_len (t.at 0).l (fun x => partS (d + 2) fs_CreateTopicsRequestTopic ver false x) (j1 + 1)
      rw [← hXE_0, hcat1, List.flatMap_append, List.flatMap_cons, List.flatMap_nil, List.append_nil] at htl1
      have hge1 := (g_0.list rfl).2 _ (List.getElem_mem hlt1)
      generalize (t.at 0).l[j1] = y1 at *
      have hnx1 := hd b1 hbl1 hok1
      obtain ⟨T1, hTT1⟩ : ∃ T, T = ((t.at 0).l.take j1).flatMap (fun x => partS (d + 2) fs_CreateTopicsRequestTopic ver false x) := ⟨_, rfl⟩
      rw [← hTT1] at ha2 htl1
      have hx1_2 := ha2.upd.blk_some hx1 hnx1
      replace hRe1 : RepS true (d + 2) fs_CreateTopicsRequestTopic okM w y1 ce1 := Rep1_part.1 hRe1
      have hfe1 : FitP ver (d + 2) fs_CreateTopicsRequestTopic y1 := hge1.2.2 rfl
      obtain ⟨⟨ge1_0, ge1_1, ge1_2, ge1_3, ge1_4, -⟩, hfue1⟩ := hfe1
      replace ge1_0 : FitF (FitP ver (d + 1)) ver fCreateTopicsRequestTopic_0 (y1.at 0) := ge1_0
      replace ge1_1 : FitF (FitP ver (d + 1)) ver fCreateTopicsRequestTopic_1 (y1.at 1) := ge1_1
      replace ge1_2 : FitF (FitP ver (d + 1)) ver fCreateTopicsRequestTopic_2 (y1.at 2) := ge1_2
      replace ge1_3 : FitF (FitP ver (d + 1)) ver fCreateTopicsRequestTopic_3 (y1.at 3) := ge1_3
      replace ge1_4 : FitF (FitP ver (d + 1)) ver fCreateTopicsRequestTopic_4 (y1.at 4) := ge1_4
      obtain ⟨cse1, qe1, hcse1, hLe1, hTe1⟩ := hRe1.inv
      obtain ⟨ce1_0, ee1_0, rfl, he1_0, ce1_1, ee1_1, rfl, he1_1, ce1_2, ee1_2, rfl, he1_2, ce1_3, ee1_3, rfl, he1_3, ce1_4, ee1_4, rfl, he1_4, rfl⟩ := hLe1
      replace he1_0 : RepF (RepS true (d + 1)) (szS true (d + 1)) fCreateTopicsRequestTopic_0 okM w (y1.at 0) ce1_0 := he1_0
      replace he1_1 : RepF (RepS true (d + 1)) (szS true (d + 1)) fCreateTopicsRequestTopic_1 okM w (y1.at 1) ce1_1 := he1_1
      replace he1_2 : RepF (RepS true (d + 1)) (szS true (d + 1)) fCreateTopicsRequestTopic_2 okM w (y1.at 2) ce1_2 := he1_2
      replace he1_3 : RepF (RepS true (d + 1)) (szS true (d + 1)) fCreateTopicsRequestTopic_3 okM w (y1.at 3) ce1_3 := he1_3
      replace he1_4 : RepF (RepS true (d + 1)) (szS true (d + 1)) fCreateTopicsRequestTopic_4 okM w (y1.at 4) ce1_4 := he1_4
      obtain rfl := (RepF_text rfl (by decide)).1 he1_0
      obtain rfl := (RepF_num (by decide)).1 he1_1
      obtain rfl := (RepF_num (by decide)).1 he1_2
      have hne1_3 := ge1_3.notnull (by decide)
      obtain ⟨pe1_3, rfl, hse1_3, -⟩ := (RepF_list rfl hne1_3).1 he1_3
      obtain ⟨abe1_3, ace1_3, rfl, _⟩ := SlR.shape hse1_3
      have hlle1_3 := (ge1_3.list rfl).1
      have hne1_4 := ge1_4.notnull (by decide)
      obtain ⟨pe1_4, rfl, hse1_4, -⟩ := (RepF_list rfl hne1_4).1 he1_4
      obtain ⟨abe1_4, ace1_4, rfl, _⟩ := SlR.shape hse1_4
      have hlle1_4 := (ge1_4.list rfl).1
      obtain ⟨qme1, rfl⟩ := hTe1.shape
      subst hcse1
      have hq1_0 : x1.1[o1 + j1 * 6]? = some (strV (y1.at 0).s) := hq1 0 (by decide)
      have hq1_1 : x1.1[o1 + (j1 * 6 + 1)]? = some (.int .i32 (IntKind.i32.wrap (y1.at 1).n)) := hq1 1 (by decide)
      have hq1_2 : x1.1[o1 + (j1 * 6 + 2)]? = some (.int .i16 (IntKind.i16.wrap (y1.at 2).n)) := hq1 2 (by decide)
      have hq1_3 : x1.1[o1 + (j1 * 6 + 3)]? = some (.slice abe1_3 (y1.at 3).l.length ace1_3) := hq1 3 (by decide)
      have hq1_4 : x1.1[o1 + (j1 * 6 + 4)]? = some (.slice abe1_4 (y1.at 4).l.length ace1_4) := hq1 4 (by decide)
      have hq1_5 : x1.1[o1 + (j1 * 6 + 5)]? = some (.map qme1) := hq1 5 (by decide)
      have hhe1_0 : hasS fCreateTopicsRequestTopic_0 ver = true := hasS_t (by show (0 : Int) ≤ ver; omega) (by show (-1 : Int) < 0 ∨ ver ≤ (-1 : Int); omega)
      obtain ⟨Xe1_0, hXXe1_0⟩ : ∃ X, X = fixedS (y1.at 0).s.length 2 ++ (y1.at 0).s := ⟨_, rfl⟩
      have hhe1_1 : hasS fCreateTopicsRequestTopic_1 ver = true := hasS_t (by show (0 : Int) ≤ ver; omega) (by show (-1 : Int) < 0 ∨ ver ≤ (-1 : Int); omega)
      obtain ⟨Xe1_1, hXXe1_1⟩ : ∃ X, X = fixedS (y1.at 1).n 4 := ⟨_, rfl⟩
      have hhe1_2 : hasS fCreateTopicsRequestTopic_2 ver = true := hasS_t (by show (0 : Int) ≤ ver; omega) (by show (-1 : Int) < 0 ∨ ver ≤ (-1 : Int); omega)
      obtain ⟨Xe1_2, hXXe1_2⟩ : ∃ X, X = fixedS (y1.at 2).n 2 := ⟨_, rfl⟩
      have hhe1_3 : hasS fCreateTopicsRequestTopic_3 ver = true := hasS_t (by show (0 : Int) ≤ ver; omega) (by show (-1 : Int) < 0 ∨ ver ≤ (-1 : Int); omega)
      obtain ⟨XLe1_3, hXLe1_3⟩ : ∃ X, X = fixedS (y1.at 3).l.length 4 := ⟨_, rfl⟩
      obtain ⟨XEe1_3, hXEe1_3⟩ : ∃ X, X = (y1.at 3).l.flatMap (fun x => partS (d + 1) fs_CreateTopicsRequestTopicReplicaAssignment ver false x) := ⟨_, rfl⟩
      have hhe1_4 : hasS fCreateTopicsRequestTopic_4 ver = true := hasS_t (by show (0 : Int) ≤ ver; omega) (by show (-1 : Int) < 0 ∨ ver ≤ (-1 : Int); omega)
      obtain ⟨XLe1_4, hXLe1_4⟩ : ∃ X, X = fixedS (y1.at 4).l.length 4 := ⟨_, rfl⟩
      obtain ⟨XEe1_4, hXEe1_4⟩ : ∃ X, X = (y1.at 4).l.flatMap (fun x => partS (d + 1) fs_CreateTopicsRequestTopicConfig ver false x) := ⟨_, rfl⟩
      have hPe1 : partS (d + 2) fs_CreateTopicsRequestTopic ver false y1 = Xe1_0 ++ (Xe1_1 ++ (Xe1_2 ++ ((XLe1_3 ++ XEe1_3) ++ ((XLe1_4 ++ XEe1_4) ++ [])))) := partS_no (plainL_has (by decide) hhe1_0 ((fieldS_text_f ge1_0 rfl (by decide)).trans hXXe1_0.symm) (plainL_has (by decide) hhe1_1 ((fieldS_num 3 rfl (by decide)).trans hXXe1_1.symm) (plainL_has (by decide) hhe1_2 ((fieldS_num 2 rfl (by decide)).trans hXXe1_2.symm) (plainL_has (by decide) hhe1_3 ((fieldS_list_f (g := (fun x => partS (d + 1) fs_CreateTopicsRequestTopicReplicaAssignment ver false x)) ge1_3 rfl (by decide) (fun x _ => valueS_part)).trans (by rw [hXLe1_3, hXEe1_3])) (plainL_has (by decide) hhe1_4 ((fieldS_list_f (g := (fun x => partS (d + 1) fs_CreateTopicsRequestTopicConfig ver false x)) ge1_4 rfl (by decide) (fun x _ => valueS_part)).trans (by rw [hXLe1_4, hXEe1_4])) rfl)))))
      rw [hPe1] at htl1
      simp only [List.length_append, List.length_nil] at htl1
      repeat ((first | refine W.seqR rfl ?_ | refine W.seq ?_ | refine W.regR rfl ?_ | refine W.condK ?_ | refine W.block ?_ | refine W.skip ?_ | refine W.ret ?_ | refine W.exit ?_); try simp (maxSteps := 1000000) (disch := (first | omega | (simp only [World.size_alloc, size_wr, size_drew] <;> omega) | exact not_noB _)) only [go_sem, ↓reduceIte, n0, reduceCtorEq, n1, n2, n3, n4, n5, i0, i1, i2, i3, i4, i5, i6, i7, hv_2, hx1_2, Int.toNat_natCast, Nat.mul_one, hq1_0, hq1_1, hq1_2, hq1_3, hq1_4, hq1_5, hr1_1, hr1_0, hr1_5, hr1_6, hI1, hN1, hS1])
      refine (AppendString_fn _ _ _ ha2.own hB2 (y1.at 0).s (ge1_0.text (.inl rfl)) (by simp only [List.length_append, List.length_nil]; omega)).mono ?_
      rintro r3 w3 hc3
      rw [← hXXe1_0] at hc3
      have ha3 := ha2.trans hc3
      have hB3 : B ≤ w3.heap.size := Nat.le_trans hB ha3.upd.size
      have hv_3 := ha3.upd.blk_some hv hdv
      have hx1_3 := ha3.upd.blk_some hx1 hnx1
      repeat ((first | refine W.seqR rfl ?_ | refine W.seq ?_ | refine W.regR rfl ?_ | refine W.condK ?_ | refine W.block ?_ | refine W.skip ?_ | refine W.ret ?_ | refine W.exit ?_); try simp (maxSteps := 1000000) (disch := (first | omega | (simp only [World.size_alloc, size_wr, size_drew] <;> omega) | exact not_noB _)) only [go_sem, ↓reduceIte, n0, reduceCtorEq, n1, n2, n3, n4, n5, i0, i1, i2, i3, i4, i5, i6, i7, hv_3, hx1_3, Int.toNat_natCast, Nat.mul_one, hq1_0, hq1_1, hq1_2, hq1_3, hq1_4, hq1_5, hr1_1, hr1_0, hr1_5, hr1_6, hI1, hN1, hS1])
      refine (AppendInt32_fn _ _ _ ha3.own hB3 _ (by simp only [List.length_append, List.length_nil]; omega)).mono ?_
      rintro r4 w4 hc4
      rw [wrap32, ← hXXe1_1] at hc4
      have ha4 := ha3.trans hc4
      have hB4 : B ≤ w4.heap.size := Nat.le_trans hB ha4.upd.size
      have hv_4 := ha4.upd.blk_some hv hdv
      have hx1_4 := ha4.upd.blk_some hx1 hnx1
      repeat ((first | refine W.seqR rfl ?_ | refine W.seq ?_ | refine W.regR rfl ?_ | refine W.condK ?_ | refine W.block ?_ | refine W.skip ?_ | refine W.ret ?_ | refine W.exit ?_); try simp (maxSteps := 1000000) (disch := (first | omega | (simp only [World.size_alloc, size_wr, size_drew] <;> omega) | exact not_noB _)) only [go_sem, ↓reduceIte, n0, reduceCtorEq, n1, n2, n3, n4, n5, i0, i1, i2, i3, i4, i5, i6, i7, hv_4, hx1_4, Int.toNat_natCast, Nat.mul_one, hq1_0, hq1_1, hq1_2, hq1_3, hq1_4, hq1_5, hr1_1, hr1_0, hr1_5, hr1_6, hI1, hN1, hS1])
      refine (AppendInt16_fn _ _ _ ha4.own hB4 _ (by simp only [List.length_append, List.length_nil]; omega)).mono ?_
      rintro r5 w5 hc5
      rw [wrap16, ← hXXe1_2] at hc5
      have ha5 := ha4.trans hc5
      have hB5 : B ≤ w5.heap.size := Nat.le_trans hB ha5.upd.size
      have hv_5 := ha5.upd.blk_some hv hdv
      have hx1_5 := ha5.upd.blk_some hx1 hnx1
      repeat ((first | refine W.seqR rfl ?_ | refine W.seq ?_ | refine W.regR rfl ?_ | refine W.condK ?_ | refine W.block ?_ | refine W.skip ?_ | refine W.ret ?_ | refine W.exit ?_); try simp (maxSteps := 1000000) (disch := (first | omega | (simp only [World.size_alloc, size_wr, size_drew] <;> omega) | exact not_noB _)) only [go_sem, ↓reduceIte, n0, reduceCtorEq, n1, n2, n3, n4, n5, i0, i1, i2, i3, i4, i5, i6, i7, hv_5, hx1_5, Int.toNat_natCast, Nat.mul_one, hq1_0, hq1_1, hq1_2, hq1_3, hq1_4, hq1_5, hr1_1, hr1_0, hr1_5, hr1_6, hI1, hN1, hS1])
      refine (AppendArrayLen_fn _ _ _ ha5.own hB5 (y1.at 3).l.length hlle1_3 (by simp only [List.length_append, List.length_nil]; omega)).mono ?_
      rintro r6 w6 hc6
      rw [← hXLe1_3] at hc6
      have ha6 := ha5.trans hc6
      have hB6 : B ≤ w6.heap.size := Nat.le_trans hB ha6.upd.size
      have hv_6 := ha6.upd.blk_some hv hdv
      have hx1_6 := ha6.upd.blk_some hx1 hnx1
      repeat ((first | refine W.seqR rfl ?_ | refine W.seq ?_ | refine W.regR rfl ?_ | refine W.condK ?_ | refine W.block ?_ | refine W.skip ?_ | refine W.ret ?_ | refine W.exit ?_); try simp (maxSteps := 1000000) (disch := (first | omega | (simp only [World.size_alloc, size_wr, size_drew] <;> omega) | exact not_noB _)) only [go_sem, ↓reduceIte, n0, reduceCtorEq, n1, n2, n3, n4, n5, i0, i1, i2, i3, i4, i5, i6, i7, hv_6, hx1_6, Int.toNat_natCast, Nat.mul_one, hq1_0, hq1_1, hq1_2, hq1_3, hq1_4, hq1_5, hr1_1, hr1_0, hr1_5, hr1_6, hI1, hN1, hS1])
      have hadd2 := ha6
      refine W.exitJ 2 (fun ρ w' => ∃ r, ρ 1 = r ∧ ρ 0 = .pointer (some ⟨vb, 0, none⟩) ∧ ρ 5 = .int .i16 ver ∧ ρ 6 = .bool false ∧ ρ 50 = .int .i64 j1 ∧ ρ 49 = .int .i64 (t.at 0).l.length ∧ ρ 7 = .slice (some ⟨b1, o1, none⟩) (t.at 0).l.length ac_0 ∧ ρ 9 = .pointer (some ⟨b1, o1 + j1 * 6, none⟩) ∧ AppR 5 B w v s (([] ++ XL_0 ++ T1 ++ Xe1_0 ++ Xe1_1 ++ Xe1_2 ++ XLe1_3) ++ XEe1_3) r w')
        (W.loop (fun ρ w' => ∃ (j : Nat) (r : Value), j ≤ (y1.at 3).l.length ∧ ρ 96 = .int .i64 j ∧ ρ 95 = .int .i64 (y1.at 3).l.length ∧ ρ 13 = .slice abe1_3 (y1.at 3).l.length ace1_3 ∧ ρ 1 = r ∧ ρ 0 = .pointer (some ⟨vb, 0, none⟩) ∧ ρ 5 = .int .i16 ver ∧ ρ 6 = .bool false ∧ ρ 50 = .int .i64 j1 ∧ ρ 49 = .int .i64 (t.at 0).l.length ∧ ρ 7 = .slice (some ⟨b1, o1, none⟩) (t.at 0).l.length ac_0 ∧ ρ 9 = .pointer (some ⟨b1, o1 + j1 * 6, none⟩) ∧ AppR 5 B w v s (([] ++ XL_0 ++ T1 ++ Xe1_0 ++ Xe1_1 ++ Xe1_2 ++ XLe1_3) ++ ((y1.at 3).l.take j).flatMap (fun x => partS (d + 1) fs_CreateTopicsRequestTopicReplicaAssignment ver false x)) r w')
          (fun ρ _ => (y1.at 3).l.length - (RowKit.intOf (ρ 96)).toNat) ?_ ?_) ?_
      · refine ⟨0, _, Nat.zero_le _, ?_, ?_, ?_, ?_, ?_, ?_, ?_, ?_, ?_, ?_, ?_, ha6.eqs (by rw [List.take_zero, List.flatMap_nil, List.append_nil])⟩ <;> simp (maxSteps := 1000000) (disch := (first | omega | (simp only [World.size_alloc, size_wr, size_drew] <;> omega) | exact not_noB _)) only [go_sem, ↓reduceIte, n0, reduceCtorEq, n1, n2, n3, n4, n5, i0, i1, i2, i3, i4, i5, i6, i7, hr1_1, hr1_0, hr1_5, hr1_6, hI1, hN1, hS1]
        all_goals rfl
      · rintro ρ w7 ⟨j2, r7, hj2, hI2, hN2, hS2, hr1_2, hr2_0, hr2_5, hr2_6, hr2_50, hr2_49, hr2_7, hr2_9, ha7⟩
        have hB7 : B ≤ w7.heap.size := Nat.le_trans hB ha7.upd.size
        have hv_7 := ha7.upd.blk_some hv hdv
        have hx1_7 := ha7.upd.blk_some hx1 hnx1
        by_cases hlt2 : j2 < (y1.at 3).l.length
        · obtain ⟨_, b2, o2, x2, ce2, hb2, hok2, hx2, hbl2, hxs2, hxe2, hq2, hRe2⟩ := SlR.get (size := 3) (by decide) hse1_3 hlt2
          subst hb2
          have hcat2 : (y1.at 3).l.take (j2 + 1) = (y1.at 3).l.take j2 ++ [(y1.at 3).l[j2]] := List.take_succ_eq_append_getElem hlt2
          have htl2 := take_flatMap_len (y1.at 3).l (fun x => partS (d + 1) fs_CreateTopicsRequestTopicReplicaAssignment ver false x) (j2 + 1)
          rw [← hXEe1_3, hcat2, List.flatMap_append, List.flatMap_cons, List.flatMap_nil, List.append_nil] at htl2
          have hge2 := (ge1_3.list rfl).2 _ (List.getElem_mem hlt2)
          generalize (y1.at 3).l[j2] = y2 at *
          have hnx2 := hd b2 hbl2 hok2
          obtain ⟨T2, hTT2⟩ : ∃ T, T = ((y1.at 3).l.take j2).flatMap (fun x => partS (d + 1) fs_CreateTopicsRequestTopicReplicaAssignment ver false x) := ⟨_, rfl⟩
          rw [← hTT2] at ha7 htl2
          have hx2_7 := ha7.upd.blk_some hx2 hnx2
          replace hRe2 : RepS true (d + 1) fs_CreateTopicsRequestTopicReplicaAssignment okM w y2 ce2 := Rep1_part.1 hRe2
          have hfe2 : FitP ver (d + 1) fs_CreateTopicsRequestTopicReplicaAssignment y2 := hge2.2.2 rfl
          obtain ⟨⟨ge2_0, ge2_1, -⟩, hfue2⟩ := hfe2
          replace ge2_0 : FitF (FitP ver d) ver fCreateTopicsRequestTopicReplicaAssignment_0 (y2.at 0) := ge2_0
          replace ge2_1 : FitF (FitP ver d) ver fCreateTopicsRequestTopicReplicaAssignment_1 (y2.at 1) := ge2_1
          obtain ⟨cse2, qe2, hcse2, hLe2, hTe2⟩ := hRe2.inv
          obtain ⟨ce2_0, ee2_0, rfl, he2_0, ce2_1, ee2_1, rfl, he2_1, rfl⟩ := hLe2
          replace he2_0 : RepF (RepS true d) (szS true d) fCreateTopicsRequestTopicReplicaAssignment_0 okM w (y2.at 0) ce2_0 := he2_0
          replace he2_1 : RepF (RepS true d) (szS true d) fCreateTopicsRequestTopicReplicaAssignment_1 okM w (y2.at 1) ce2_1 := he2_1
          obtain rfl := (RepF_num (by decide)).1 he2_0
          have hne2_1 := ge2_1.notnull (by decide)
          obtain ⟨pe2_1, rfl, hse2_1, -⟩ := (RepF_list rfl hne2_1).1 he2_1
          obtain ⟨abe2_1, ace2_1, rfl, _⟩ := SlR.shape hse2_1
          have hlle2_1 := (ge2_1.list rfl).1
          obtain ⟨qme2, rfl⟩ := hTe2.shape
          subst hcse2
          have hq2_0 : x2.1[o2 + j2 * 3]? = some (.int .i32 (IntKind.i32.wrap (y2.at 0).n)) := hq2 0 (by decide)
          have hq2_1 : x2.1[o2 + (j2 * 3 + 1)]? = some (.slice abe2_1 (y2.at 1).l.length ace2_1) := hq2 1 (by decide)
          have hq2_2 : x2.1[o2 + (j2 * 3 + 2)]? = some (.map qme2) := hq2 2 (by decide)
          have hhe2_0 : hasS fCreateTopicsRequestTopicReplicaAssignment_0 ver = true := hasS_t (by show (0 : Int) ≤ ver; omega) (by show (-1 : Int) < 0 ∨ ver ≤ (-1 : Int); omega)
          obtain ⟨Xe2_0, hXXe2_0⟩ : ∃ X, X = fixedS (y2.at 0).n 4 := ⟨_, rfl⟩
          have hhe2_1 : hasS fCreateTopicsRequestTopicReplicaAssignment_1 ver = true := hasS_t (by show (0 : Int) ≤ ver; omega) (by show (-1 : Int) < 0 ∨ ver ≤ (-1 : Int); omega)
          obtain ⟨XLe2_1, hXLe2_1⟩ : ∃ X, X = fixedS (y2.at 1).l.length 4 := ⟨_, rfl⟩
          obtain ⟨XEe2_1, hXEe2_1⟩ : ∃ X, X = (y2.at 1).l.flatMap (fun x : Tree => fixedS x.n 4) := ⟨_, rfl⟩
          have hPe2 : partS (d + 1) fs_CreateTopicsRequestTopicReplicaAssignment ver false y2 = Xe2_0 ++ ((XLe2_1 ++ XEe2_1) ++ []) := partS_no (plainL_has (by decide) hhe2_0 ((fieldS_num 3 rfl (by decide)).trans hXXe2_0.symm) (plainL_has (by decide) hhe2_1 ((fieldS_list_f (g := (fun x : Tree => fixedS x.n 4)) ge2_1 rfl (by decide) (fun x _ => valueS_num 3 (by decide))).trans (by rw [hXLe2_1, hXEe2_1])) rfl))
          rw [hPe2] at htl2
          simp only [List.length_append, List.length_nil] at htl2
          repeat ((first | refine W.seqR rfl ?_ | refine W.seq ?_ | refine W.regR rfl ?_ | refine W.condK ?_ | refine W.block ?_ | refine W.skip ?_ | refine W.ret ?_ | refine W.exit ?_); try simp (maxSteps := 1000000) (disch := (first | omega | (simp only [World.size_alloc, size_wr, size_drew] <;> omega) | exact not_noB _)) only [go_sem, ↓reduceIte, n0, reduceCtorEq, n1, n2, n3, n4, n5, i0, i1, i2, i3, i4, i5, i6, i7, hv_7, hx1_7, hx2_7, Int.toNat_natCast, Nat.mul_one, hq1_0, hq1_1, hq1_2, hq1_3, hq1_4, hq1_5, hq2_0, hq2_1, hq2_2, hr1_2, hr2_0, hr2_5, hr2_6, hr2_50, hr2_49, hr2_7, hr2_9, hI2, hN2, hS2])
          refine (AppendInt32_fn _ _ _ ha7.own hB7 _ (by simp only [List.length_append, List.length_nil]; omega)).mono ?_
          rintro r8 w8 hc8
          rw [wrap32, ← hXXe2_0] at hc8
          have ha8 := ha7.trans hc8
          have hB8 : B ≤ w8.heap.size := Nat.le_trans hB ha8.upd.size
          have hv_8 := ha8.upd.blk_some hv hdv
          have hx1_8 := ha8.upd.blk_some hx1 hnx1
          have hx2_8 := ha8.upd.blk_some hx2 hnx2
          repeat ((first | refine W.seqR rfl ?_ | refine W.seq ?_ | refine W.regR rfl ?_ | refine W.condK ?_ | refine W.block ?_ | refine W.skip ?_ | refine W.ret ?_ | refine W.exit ?_); try simp (maxSteps := 1000000) (disch := (first | omega | (simp only [World.size_alloc, size_wr, size_drew] <;> omega) | exact not_noB _)) only [go_sem, ↓reduceIte, n0, reduceCtorEq, n1, n2, n3, n4, n5, i0, i1, i2, i3, i4, i5, i6, i7, hv_8, hx1_8, hx2_8, Int.toNat_natCast, Nat.mul_one, hq1_0, hq1_1, hq1_2, hq1_3, hq1_4, hq1_5, hq2_0, hq2_1, hq2_2, hr1_2, hr2_0, hr2_5, hr2_6, hr2_50, hr2_49, hr2_7, hr2_9, hI2, hN2, hS2])
          refine (AppendArrayLen_fn _ _ _ ha8.own hB8 (y2.at 1).l.length hlle2_1 (by simp only [List.length_append, List.length_nil]; omega)).mono ?_
          rintro r9 w9 hc9
          rw [← hXLe2_1] at hc9
          have ha9 := ha8.trans hc9
          have hB9 : B ≤ w9.heap.size := Nat.le_trans hB ha9.upd.size
          have hv_9 := ha9.upd.blk_some hv hdv
          have hx1_9 := ha9.upd.blk_some hx1 hnx1
          have hx2_9 := ha9.upd.blk_some hx2 hnx2
          repeat ((first | refine W.seqR rfl ?_ | refine W.seq ?_ | refine W.regR rfl ?_ | refine W.condK ?_ | refine W.block ?_ | refine W.skip ?_ | refine W.ret ?_ | refine W.exit ?_); try simp (maxSteps := 1000000) (disch := (first | omega | (simp only [World.size_alloc, size_wr, size_drew] <;> omega) | exact not_noB _)) only [go_sem, ↓reduceIte, n0, reduceCtorEq, n1, n2, n3, n4, n5, i0, i1, i2, i3, i4, i5, i6, i7, hv_9, hx1_9, hx2_9, Int.toNat_natCast, Nat.mul_one, hq1_0, hq1_1, hq1_2, hq1_3, hq1_4, hq1_5, hq2_0, hq2_1, hq2_2, hr1_2, hr2_0, hr2_5, hr2_6, hr2_50, hr2_49, hr2_7, hr2_9, hI2, hN2, hS2])
          have hadd3 := ha9
          refine W.exitJ 4 (fun ρ w' => ∃ r, ρ 1 = r ∧ ρ 0 = .pointer (some ⟨vb, 0, none⟩) ∧ ρ 5 = .int .i16 ver ∧ ρ 6 = .bool false ∧ ρ 50 = .int .i64 j1 ∧ ρ 49 = .int .i64 (t.at 0).l.length ∧ ρ 7 = .slice (some ⟨b1, o1, none⟩) (t.at 0).l.length ac_0 ∧ ρ 9 = .pointer (some ⟨b1, o1 + j1 * 6, none⟩) ∧ ρ 96 = .int .i64 j2 ∧ ρ 95 = .int .i64 (y1.at 3).l.length ∧ ρ 13 = .slice (some ⟨b2, o2, none⟩) (y1.at 3).l.length ace1_3 ∧ ρ 15 = .pointer (some ⟨b2, o2 + j2 * 3, none⟩) ∧ AppR 5 B w v s (([] ++ XL_0 ++ T1 ++ Xe1_0 ++ Xe1_1 ++ Xe1_2 ++ XLe1_3 ++ T2 ++ Xe2_0 ++ XLe2_1) ++ XEe2_1) r w')
            (W.loop (fun ρ w' => ∃ (j : Nat) (r : Value), j ≤ (y2.at 1).l.length ∧ ρ 124 = .int .i64 j ∧ ρ 123 = .int .i64 (y2.at 1).l.length ∧ ρ 17 = .slice abe2_1 (y2.at 1).l.length ace2_1 ∧ ρ 1 = r ∧ ρ 0 = .pointer (some ⟨vb, 0, none⟩) ∧ ρ 5 = .int .i16 ver ∧ ρ 6 = .bool false ∧ ρ 50 = .int .i64 j1 ∧ ρ 49 = .int .i64 (t.at 0).l.length ∧ ρ 7 = .slice (some ⟨b1, o1, none⟩) (t.at 0).l.length ac_0 ∧ ρ 9 = .pointer (some ⟨b1, o1 + j1 * 6, none⟩) ∧ ρ 96 = .int .i64 j2 ∧ ρ 95 = .int .i64 (y1.at 3).l.length ∧ ρ 13 = .slice (some ⟨b2, o2, none⟩) (y1.at 3).l.length ace1_3 ∧ ρ 15 = .pointer (some ⟨b2, o2 + j2 * 3, none⟩) ∧ AppR 5 B w v s (([] ++ XL_0 ++ T1 ++ Xe1_0 ++ Xe1_1 ++ Xe1_2 ++ XLe1_3 ++ T2 ++ Xe2_0 ++ XLe2_1) ++ ((y2.at 1).l.take j).flatMap (fun x : Tree => fixedS x.n 4)) r w')
              (fun ρ _ => (y2.at 1).l.length - (RowKit.intOf (ρ 124)).toNat) ?_ ?_) ?_
          · refine ⟨0, _, Nat.zero_le _, ?_, ?_, ?_, ?_, ?_, ?_, ?_, ?_, ?_, ?_, ?_, ?_, ?_, ?_, ?_, ha9.eqs (by rw [List.take_zero, List.flatMap_nil, List.append_nil])⟩ <;> simp (maxSteps := 1000000) (disch := (first | omega | (simp only [World.size_alloc, size_wr, size_drew] <;> omega) | exact not_noB _)) only [go_sem, ↓reduceIte, n0, reduceCtorEq, n1, n2, n3, n4, n5, i0, i1, i2, i3, i4, i5, i6, i7, hr1_2, hr2_0, hr2_5, hr2_6, hr2_50, hr2_49, hr2_7, hr2_9, hI2, hN2, hS2]
            all_goals rfl
          · rintro ρ w10 ⟨j3, r10, hj3, hI3, hN3, hS3, hr1_3, hr3_0, hr3_5, hr3_6, hr3_50, hr3_49, hr3_7, hr3_9, hr3_96, hr3_95, hr3_13, hr3_15, ha10⟩
            have hB10 : B ≤ w10.heap.size := Nat.le_trans hB ha10.upd.size
            have hv_10 := ha10.upd.blk_some hv hdv
            have hx1_10 := ha10.upd.blk_some hx1 hnx1
            have hx2_10 := ha10.upd.blk_some hx2 hnx2
            by_cases hlt3 : j3 < (y2.at 1).l.length
            · obtain ⟨_, b3, o3, x3, ce3, hb3, hok3, hx3, hbl3, hxs3, hxe3, hq3, hRe3⟩ := SlR.get (size := 1) (by decide) hse2_1 hlt3
              subst hb3
              have hcat3 : (y2.at 1).l.take (j3 + 1) = (y2.at 1).l.take j3 ++ [(y2.at 1).l[j3]] := List.take_succ_eq_append_getElem hlt3
              have htl3 := take_flatMap_len (y2.at 1).l (fun x : Tree => fixedS x.n 4) (j3 + 1)
              rw [← hXEe2_1, hcat3, List.flatMap_append, List.flatMap_cons, List.flatMap_nil, List.append_nil] at htl3
              have hge3 := (ge2_1.list rfl).2 _ (List.getElem_mem hlt3)
              generalize (y2.at 1).l[j3] = y3 at *
              have hnx3 := hd b3 hbl3 hok3
              obtain ⟨T3, hTT3⟩ : ∃ T, T = ((y2.at 1).l.take j3).flatMap (fun x : Tree => fixedS x.n 4) := ⟨_, rfl⟩
              rw [← hTT3] at ha10 htl3
              have hx3_10 := ha10.upd.blk_some hx3 hnx3
              obtain rfl := (Rep1_num (by decide)).1 hRe3
              have hq3_0 : x3.1[o3 + j3]? = some (.int .i32 (IntKind.i32.wrap y3.n)) := by have := hq3 0 (by decide); rw [Nat.mul_one] at this; exact this
              obtain ⟨Y3, hY3⟩ : ∃ Y, Y = fixedS (y3).n 4 := ⟨_, rfl⟩
              replace htl3 : (T3 ++ Y3).length ≤ XEe2_1.length := by rw [hY3]; exact htl3
              simp only [List.length_append] at htl3
              repeat ((first | refine W.seqR rfl ?_ | refine W.seq ?_ | refine W.regR rfl ?_ | refine W.condK ?_ | refine W.block ?_ | refine W.skip ?_ | refine W.ret ?_ | refine W.exit ?_); try simp (maxSteps := 1000000) (disch := (first | omega | (simp only [World.size_alloc, size_wr, size_drew] <;> omega) | exact not_noB _)) only [go_sem, ↓reduceIte, n0, reduceCtorEq, n1, n2, n3, n4, n5, i0, i1, i2, i3, i4, i5, i6, i7, hv_10, hx1_10, hx2_10, hx3_10, Int.toNat_natCast, Nat.mul_one, hq1_0, hq1_1, hq1_2, hq1_3, hq1_4, hq1_5, hq2_0, hq2_1, hq2_2, hq3_0, hr1_3, hr3_0, hr3_5, hr3_6, hr3_50, hr3_49, hr3_7, hr3_9, hr3_96, hr3_95, hr3_13, hr3_15, hI3, hN3, hS3])
              refine (AppendInt32_fn _ _ _ ha10.own hB10 _ (by simp only [List.length_append, List.length_nil]; omega)).mono ?_
              rintro r11 w11 hc11
              rw [wrap32, ← hY3] at hc11
              have ha11 := ha10.trans hc11
              have hB11 : B ≤ w11.heap.size := Nat.le_trans hB ha11.upd.size
              have hv_11 := ha11.upd.blk_some hv hdv
              have hx1_11 := ha11.upd.blk_some hx1 hnx1
              have hx2_11 := ha11.upd.blk_some hx2 hnx2
              have hx3_11 := ha11.upd.blk_some hx3 hnx3
              repeat ((first | refine W.seqR rfl ?_ | refine W.seq ?_ | refine W.regR rfl ?_ | refine W.condK ?_ | refine W.block ?_ | refine W.skip ?_ | refine W.ret ?_ | refine W.exit ?_); try simp (maxSteps := 1000000) (disch := (first | omega | (simp only [World.size_alloc, size_wr, size_drew] <;> omega) | exact not_noB _)) only [go_sem, ↓reduceIte, n0, reduceCtorEq, n1, n2, n3, n4, n5, i0, i1, i2, i3, i4, i5, i6, i7, hr1_3, hr3_0, hr3_5, hr3_6, hr3_50, hr3_49, hr3_7, hr3_9, hr3_96, hr3_95, hr3_13, hr3_15, hI3, hN3, hS3])
              refine ⟨⟨j3 + 1, _, by omega, rfl, rfl, ha11.eqs ?_⟩, ?_⟩
              · rw [hcat3, List.flatMap_append, List.flatMap_cons, List.flatMap_nil, List.append_nil, ← hTT3, hY3]; simp only [List.append_assoc, List.append_nil, List.nil_append]
              · simp only [RowKit.intOf]; omega
            · have hjl3 : j3 = (y2.at 1).l.length := by omega
              subst hjl3
              rw [List.take_length, ← hXEe2_1] at ha10
              repeat ((first | refine W.seqR rfl ?_ | refine W.seq ?_ | refine W.regR rfl ?_ | refine W.condK ?_ | refine W.block ?_ | refine W.skip ?_ | refine W.ret ?_ | refine W.exit ?_); try simp (maxSteps := 1000000) (disch := (first | omega | (simp only [World.size_alloc, size_wr, size_drew] <;> omega) | exact not_noB _)) only [go_sem, ↓reduceIte, n0, reduceCtorEq, n1, n2, n3, n4, n5, i0, i1, i2, i3, i4, i5, i6, i7, hI3, hN3])
              exact ⟨_, hr1_3, hr3_0, hr3_5, hr3_6, hr3_50, hr3_49, hr3_7, hr3_9, hr3_96, hr3_95, hr3_13, hr3_15, ha10⟩
          · rintro ρ w12 ⟨r12, hr1_4, hr4_0, hr4_5, hr4_6, hr4_50, hr4_49, hr4_7, hr4_9, hr4_96, hr4_95, hr4_13, hr4_15, ha12⟩
            have hB12 : B ≤ w12.heap.size := Nat.le_trans hB ha12.upd.size
            have hv_12 := ha12.upd.blk_some hv hdv
            have hx1_12 := ha12.upd.blk_some hx1 hnx1
            have hx2_12 := ha12.upd.blk_some hx2 hnx2
            repeat ((first | refine W.seqR rfl ?_ | refine W.seq ?_ | refine W.regR rfl ?_ | refine W.condK ?_ | refine W.block ?_ | refine W.skip ?_ | refine W.ret ?_ | refine W.exit ?_); try simp (maxSteps := 1000000) (disch := (first | omega | (simp only [World.size_alloc, size_wr, size_drew] <;> omega) | exact not_noB _)) only [go_sem, ↓reduceIte, n0, reduceCtorEq, n1, n2, n3, n4, n5, i0, i1, i2, i3, i4, i5, i6, i7, hr1_4, hr4_0, hr4_5, hr4_6, hr4_50, hr4_49, hr4_7, hr4_9, hr4_96, hr4_95, hr4_13, hr4_15])
            refine ⟨⟨j2 + 1, _, by omega, rfl, rfl, ha12.eqs ?_⟩, ?_⟩
            · rw [hcat2, List.flatMap_append, List.flatMap_cons, List.flatMap_nil, List.append_nil, ← hTT2, hPe2]; simp only [List.append_assoc, List.append_nil, List.nil_append]
            · simp only [RowKit.intOf]; omega
        · have hjl2 : j2 = (y1.at 3).l.length := by omega
          subst hjl2
          rw [List.take_length, ← hXEe1_3] at ha7
          repeat ((first | refine W.seqR rfl ?_ | refine W.seq ?_ | refine W.regR rfl ?_ | refine W.condK ?_ | refine W.block ?_ | refine W.skip ?_ | refine W.ret ?_ | refine W.exit ?_); try simp (maxSteps := 1000000) (disch := (first | omega | (simp only [World.size_alloc, size_wr, size_drew] <;> omega) | exact not_noB _)) only [go_sem, ↓reduceIte, n0, reduceCtorEq, n1, n2, n3, n4, n5, i0, i1, i2, i3, i4, i5, i6, i7, hI2, hN2])
          exact ⟨_, hr1_2, hr2_0, hr2_5, hr2_6, hr2_50, hr2_49, hr2_7, hr2_9, ha7⟩
      · rintro ρ w13 ⟨r13, hr1_5, hr5_0, hr5_5, hr5_6, hr5_50, hr5_49, hr5_7, hr5_9, ha13⟩
        have hB13 : B ≤ w13.heap.size := Nat.le_trans hB ha13.upd.size
        have hv_13 := ha13.upd.blk_some hv hdv
        have hx1_13 := ha13.upd.blk_some hx1 hnx1
        repeat ((first | refine W.seqR rfl ?_ | refine W.seq ?_ | refine W.regR rfl ?_ | refine W.condK ?_ | refine W.block ?_ | refine W.skip ?_ | refine W.ret ?_ | refine W.exit ?_); try simp (maxSteps := 1000000) (disch := (first | omega | (simp only [World.size_alloc, size_wr, size_drew] <;> omega) | exact not_noB _)) only [go_sem, ↓reduceIte, n0, reduceCtorEq, n1, n2, n3, n4, n5, i0, i1, i2, i3, i4, i5, i6, i7, hv_13, hx1_13, Int.toNat_natCast, Nat.mul_one, hq1_0, hq1_1, hq1_2, hq1_3, hq1_4, hq1_5, hr1_5, hr5_0, hr5_5, hr5_6, hr5_50, hr5_49, hr5_7, hr5_9])
        refine (AppendArrayLen_fn _ _ _ ha13.own hB13 (y1.at 4).l.length hlle1_4 (by simp only [List.length_append, List.length_nil]; omega)).mono ?_
        rintro r14 w14 hc14
        rw [← hXLe1_4] at hc14
        have ha14 := ha13.trans hc14
        have hB14 : B ≤ w14.heap.size := Nat.le_trans hB ha14.upd.size
        have hv_14 := ha14.upd.blk_some hv hdv
        have hx1_14 := ha14.upd.blk_some hx1 hnx1
        repeat ((first | refine W.seqR rfl ?_ | refine W.seq ?_ | refine W.regR rfl ?_ | refine W.condK ?_ | refine W.block ?_ | refine W.skip ?_ | refine W.ret ?_ | refine W.exit ?_); try simp (maxSteps := 1000000) (disch := (first | omega | (simp only [World.size_alloc, size_wr, size_drew] <;> omega) | exact not_noB _)) only [go_sem, ↓reduceIte, n0, reduceCtorEq, n1, n2, n3, n4, n5, i0, i1, i2, i3, i4, i5, i6, i7, hv_14, hx1_14, Int.toNat_natCast, Nat.mul_one, hq1_0, hq1_1, hq1_2, hq1_3, hq1_4, hq1_5, hr1_5, hr5_0, hr5_5, hr5_6, hr5_50, hr5_49, hr5_7, hr5_9])
        have hadd6 := ha14
        refine W.exitJ 6 (fun ρ w' => ∃ r, ρ 1 = r ∧ ρ 0 = .pointer (some ⟨vb, 0, none⟩) ∧ ρ 5 = .int .i16 ver ∧ ρ 6 = .bool false ∧ ρ 50 = .int .i64 j1 ∧ ρ 49 = .int .i64 (t.at 0).l.length ∧ ρ 7 = .slice (some ⟨b1, o1, none⟩) (t.at 0).l.length ac_0 ∧ ρ 9 = .pointer (some ⟨b1, o1 + j1 * 6, none⟩) ∧ AppR 5 B w v s (([] ++ XL_0 ++ T1 ++ Xe1_0 ++ Xe1_1 ++ Xe1_2 ++ XLe1_3 ++ XEe1_3 ++ XLe1_4) ++ XEe1_4) r w')
          (W.loop (fun ρ w' => ∃ (j : Nat) (r : Value), j ≤ (y1.at 4).l.length ∧ ρ 165 = .int .i64 j ∧ ρ 164 = .int .i64 (y1.at 4).l.length ∧ ρ 20 = .slice abe1_4 (y1.at 4).l.length ace1_4 ∧ ρ 1 = r ∧ ρ 0 = .pointer (some ⟨vb, 0, none⟩) ∧ ρ 5 = .int .i16 ver ∧ ρ 6 = .bool false ∧ ρ 50 = .int .i64 j1 ∧ ρ 49 = .int .i64 (t.at 0).l.length ∧ ρ 7 = .slice (some ⟨b1, o1, none⟩) (t.at 0).l.length ac_0 ∧ ρ 9 = .pointer (some ⟨b1, o1 + j1 * 6, none⟩) ∧ AppR 5 B w v s (([] ++ XL_0 ++ T1 ++ Xe1_0 ++ Xe1_1 ++ Xe1_2 ++ XLe1_3 ++ XEe1_3 ++ XLe1_4) ++ ((y1.at 4).l.take j).flatMap (fun x => partS (d + 1) fs_CreateTopicsRequestTopicConfig ver false x)) r w')
            (fun ρ _ => (y1.at 4).l.length - (RowKit.intOf (ρ 165)).toNat) ?_ ?_) ?_
        · refine ⟨0, _, Nat.zero_le _, ?_, ?_, ?_, ?_, ?_, ?_, ?_, ?_, ?_, ?_, ?_, ha14.eqs (by rw [List.take_zero, List.flatMap_nil, List.append_nil])⟩ <;> simp (maxSteps := 1000000) (disch := (first | omega | (simp only [World.size_alloc, size_wr, size_drew] <;> omega) | exact not_noB _)) only [go_sem, ↓reduceIte, n0, reduceCtorEq, n1, n2, n3, n4, n5, i0, i1, i2, i3, i4, i5, i6, i7, hr1_5, hr5_0, hr5_5, hr5_6, hr5_50, hr5_49, hr5_7, hr5_9]
          all_goals rfl
        · rintro ρ w15 ⟨j6, r15, hj6, hI6, hN6, hS6, hr1_6, hr6_0, hr6_5, hr6_6, hr6_50, hr6_49, hr6_7, hr6_9, ha15⟩
          have hB15 : B ≤ w15.heap.size := Nat.le_trans hB ha15.upd.size
          have hv_15 := ha15.upd.blk_some hv hdv
          have hx1_15 := ha15.upd.blk_some hx1 hnx1
          by_cases hlt6 : j6 < (y1.at 4).l.length
          · obtain ⟨_, b6, o6, x6, ce6, hb6, hok6, hx6, hbl6, hxs6, hxe6, hq6, hRe6⟩ := SlR.get (size := 3) (by decide) hse1_4 hlt6
            subst hb6
            have hcat6 : (y1.at 4).l.take (j6 + 1) = (y1.at 4).l.take j6 ++ [(y1.at 4).l[j6]] := List.take_succ_eq_append_getElem hlt6
            have htl6 := take_flatMap_len (y1.at 4).l (fun x => partS (d + 1) fs_CreateTopicsRequestTopicConfig ver false x) (j6 + 1)
            rw [← hXEe1_4, hcat6, List.flatMap_append, List.flatMap_cons, List.flatMap_nil, List.append_nil] at htl6
            have hge6 := (ge1_4.list rfl).2 _ (List.getElem_mem hlt6)
            generalize (y1.at 4).l[j6] = y6 at *
            have hnx6 := hd b6 hbl6 hok6
            obtain ⟨T6, hTT6⟩ : ∃ T, T = ((y1.at 4).l.take j6).flatMap (fun x => partS (d + 1) fs_CreateTopicsRequestTopicConfig ver false x) := ⟨_, rfl⟩
            rw [← hTT6] at ha15 htl6
            have hx6_15 := ha15.upd.blk_some hx6 hnx6
            replace hRe6 : RepS true (d + 1) fs_CreateTopicsRequestTopicConfig okM w y6 ce6 := Rep1_part.1 hRe6
            have hfe6 : FitP ver (d + 1) fs_CreateTopicsRequestTopicConfig y6 := hge6.2.2 rfl
            obtain ⟨⟨ge6_0, ge6_1, -⟩, hfue6⟩ := hfe6
            replace ge6_0 : FitF (FitP ver d) ver fCreateTopicsRequestTopicConfig_0 (y6.at 0) := ge6_0
            replace ge6_1 : FitF (FitP ver d) ver fCreateTopicsRequestTopicConfig_1 (y6.at 1) := ge6_1
            obtain ⟨cse6, qe6, hcse6, hLe6, hTe6⟩ := hRe6.inv
            obtain ⟨ce6_0, ee6_0, rfl, he6_0, ce6_1, ee6_1, rfl, he6_1, rfl⟩ := hLe6
            replace he6_0 : RepF (RepS true d) (szS true d) fCreateTopicsRequestTopicConfig_0 okM w (y6.at 0) ce6_0 := he6_0
            replace he6_1 : RepF (RepS true d) (szS true d) fCreateTopicsRequestTopicConfig_1 okM w (y6.at 1) ce6_1 := he6_1
            obtain rfl := (RepF_text rfl (by decide)).1 he6_0
            obtain ⟨pe6_1, rfl, hpe6_1⟩ := (RepF_ptr rfl (by decide)).1 he6_1
            obtain ⟨qme6, rfl⟩ := hTe6.shape
            subst hcse6
            have hq6_0 : x6.1[o6 + j6 * 3]? = some (strV (y6.at 0).s) := hq6 0 (by decide)
            have hq6_1 : x6.1[o6 + (j6 * 3 + 1)]? = some (pe6_1) := hq6 1 (by decide)
            have hq6_2 : x6.1[o6 + (j6 * 3 + 2)]? = some (.map qme6) := hq6 2 (by decide)
            have hhe6_0 : hasS fCreateTopicsRequestTopicConfig_0 ver = true := hasS_t (by show (0 : Int) ≤ ver; omega) (by show (-1 : Int) < 0 ∨ ver ≤ (-1 : Int); omega)
            obtain ⟨Xe6_0, hXXe6_0⟩ : ∃ X, X = fixedS (y6.at 0).s.length 2 ++ (y6.at 0).s := ⟨_, rfl⟩
            have hhe6_1 : hasS fCreateTopicsRequestTopicConfig_1 ver = true := hasS_t (by show (0 : Int) ≤ ver; omega) (by show (-1 : Int) < 0 ∨ ver ≤ (-1 : Int); omega)
            obtain ⟨Xe6_1, hXXe6_1⟩ : ∃ X, X = if (y6.at 1).null = true then fixedS (-1) 2 else fixedS (y6.at 1).s.length 2 ++ (y6.at 1).s := ⟨_, rfl⟩
            have hPe6 : partS (d + 1) fs_CreateTopicsRequestTopicConfig ver false y6 = Xe6_0 ++ (Xe6_1 ++ []) := partS_no (plainL_has (by decide) hhe6_0 ((fieldS_text_f ge6_0 rfl (by decide)).trans hXXe6_0.symm) (plainL_has (by decide) hhe6_1 ((fieldS_ptr_f ge6_1 rfl).trans hXXe6_1.symm) rfl))
            rw [hPe6] at htl6
            simp only [List.length_append, List.length_nil] at htl6
            repeat ((first | refine W.seqR rfl ?_ | refine W.seq ?_ | refine W.regR rfl ?_ | refine W.condK ?_ | refine W.block ?_ | refine W.skip ?_ | refine W.ret ?_ | refine W.exit ?_); try simp (maxSteps := 1000000) (disch := (first | omega | (simp only [World.size_alloc, size_wr, size_drew] <;> omega) | exact not_noB _)) only [go_sem, ↓reduceIte, n0, reduceCtorEq, n1, n2, n3, n4, n5, i0, i1, i2, i3, i4, i5, i6, i7, hv_15, hx1_15, hx6_15, Int.toNat_natCast, Nat.mul_one, hq1_0, hq1_1, hq1_2, hq1_3, hq1_4, hq1_5, hq6_0, hq6_1, hq6_2, hr1_6, hr6_0, hr6_5, hr6_6, hr6_50, hr6_49, hr6_7, hr6_9, hI6, hN6, hS6])
            refine (AppendString_fn _ _ _ ha15.own hB15 (y6.at 0).s (ge6_0.text (.inl rfl)) (by simp only [List.length_append, List.length_nil]; omega)).mono ?_
            rintro r16 w16 hc16
            rw [← hXXe6_0] at hc16
            have ha16 := ha15.trans hc16
            have hB16 : B ≤ w16.heap.size := Nat.le_trans hB ha16.upd.size
            have hv_16 := ha16.upd.blk_some hv hdv
            have hx1_16 := ha16.upd.blk_some hx1 hnx1
            have hx6_16 := ha16.upd.blk_some hx6 hnx6
            repeat ((first | refine W.seqR rfl ?_ | refine W.seq ?_ | refine W.regR rfl ?_ | refine W.condK ?_ | refine W.block ?_ | refine W.skip ?_ | refine W.ret ?_ | refine W.exit ?_); try simp (maxSteps := 1000000) (disch := (first | omega | (simp only [World.size_alloc, size_wr, size_drew] <;> omega) | exact not_noB _)) only [go_sem, ↓reduceIte, n0, reduceCtorEq, n1, n2, n3, n4, n5, i0, i1, i2, i3, i4, i5, i6, i7, hv_16, hx1_16, hx6_16, Int.toNat_natCast, Nat.mul_one, hq1_0, hq1_1, hq1_2, hq1_3, hq1_4, hq1_5, hq6_0, hq6_1, hq6_2, hr1_6, hr6_0, hr6_5, hr6_6, hr6_50, hr6_49, hr6_7, hr6_9, hI6, hN6, hS6])
            refine (AppendNullableString_fn (ok := okM) _ _ _ ha16.own hB16 _ (y6.at 1).null (y6.at 1).s (hpe6_1.keep (ha16.upd.keeps hd)) (ge6_1.text (.inl rfl)) (by simp only [List.length_append, List.length_nil]; omega)).mono ?_
            rintro r17 w17 hc17
            rw [← hXXe6_1] at hc17
            have ha17 := ha16.trans hc17
            have hB17 : B ≤ w17.heap.size := Nat.le_trans hB ha17.upd.size
            have hv_17 := ha17.upd.blk_some hv hdv
            have hx1_17 := ha17.upd.blk_some hx1 hnx1
            have hx6_17 := ha17.upd.blk_some hx6 hnx6
            repeat ((first | refine W.seqR rfl ?_ | refine W.seq ?_ | refine W.regR rfl ?_ | refine W.condK ?_ | refine W.block ?_ | refine W.skip ?_ | refine W.ret ?_ | refine W.exit ?_); try simp (maxSteps := 1000000) (disch := (first | omega | (simp only [World.size_alloc, size_wr, size_drew] <;> omega) | exact not_noB _)) only [go_sem, ↓reduceIte, n0, reduceCtorEq, n1, n2, n3, n4, n5, i0, i1, i2, i3, i4, i5, i6, i7, hr1_6, hr6_0, hr6_5, hr6_6, hr6_50, hr6_49, hr6_7, hr6_9, hI6, hN6, hS6])
            refine ⟨⟨j6 + 1, _, by omega, rfl, rfl, ha17.eqs ?_⟩, ?_⟩
            · rw [hcat6, List.flatMap_append, List.flatMap_cons, List.flatMap_nil, List.append_nil, ← hTT6, hPe6]; simp only [List.append_assoc, List.append_nil, List.nil_append]
            · simp only [RowKit.intOf]; omega
          · have hjl6 : j6 = (y1.at 4).l.length := by omega
            subst hjl6
            rw [List.take_length, ← hXEe1_4] at ha15
            repeat ((first | refine W.seqR rfl ?_ | refine W.seq ?_ | refine W.regR rfl ?_ | refine W.condK ?_ | refine W.block ?_ | refine W.skip ?_ | refine W.ret ?_ | refine W.exit ?_); try simp (maxSteps := 1000000) (disch := (first | omega | (simp only [World.size_alloc, size_wr, size_drew] <;> omega) | exact not_noB _)) only [go_sem, ↓reduceIte, n0, reduceCtorEq, n1, n2, n3, n4, n5, i0, i1, i2, i3, i4, i5, i6, i7, hI6, hN6])
            exact ⟨_, hr1_6, hr6_0, hr6_5, hr6_6, hr6_50, hr6_49, hr6_7, hr6_9, ha15⟩
        · rintro ρ w18 ⟨r18, hr1_7, hr7_0, hr7_5, hr7_6, hr7_50, hr7_49, hr7_7, hr7_9, ha18⟩
          have hB18 : B ≤ w18.heap.size := Nat.le_trans hB ha18.upd.size
          have hv_18 := ha18.upd.blk_some hv hdv
          have hx1_18 := ha18.upd.blk_some hx1 hnx1
          repeat ((first | refine W.seqR rfl ?_ | refine W.seq ?_ | refine W.regR rfl ?_ | refine W.condK ?_ | refine W.block ?_ | refine W.skip ?_ | refine W.ret ?_ | refine W.exit ?_); try simp (maxSteps := 1000000) (disch := (first | omega | (simp only [World.size_alloc, size_wr, size_drew] <;> omega) | exact not_noB _)) only [go_sem, ↓reduceIte, n0, reduceCtorEq, n1, n2, n3, n4, n5, i0, i1, i2, i3, i4, i5, i6, i7, hr1_7, hr7_0, hr7_5, hr7_6, hr7_50, hr7_49, hr7_7, hr7_9])
          refine ⟨⟨j1 + 1, _, by omega, rfl, rfl, ha18.eqs ?_⟩, ?_⟩
          · rw [hcat1, List.flatMap_append, List.flatMap_cons, List.flatMap_nil, List.append_nil, ← hTT1, hPe1]; simp only [List.append_assoc, List.append_nil, List.nil_append]
          · simp only [RowKit.intOf]; omega
    · have hjl1 : j1 = (t.at 0).l.length := by omega
      subst hjl1
      rw [List.take_length, ← hXE_0] at ha2
      repeat ((first | refine W.seqR rfl ?_ | refine W.seq ?_ | refine W.regR rfl ?_ | refine W.condK ?_ | refine W.block ?_ | refine W.skip ?_ | refine W.ret ?_ | refine W.exit ?_); try simp (maxSteps := 1000000) (disch := (first | omega | (simp only [World.size_alloc, size_wr, size_drew] <;> omega) | exact not_noB _)) only [go_sem, ↓reduceIte, n0, reduceCtorEq, n1, n2, n3, n4, n5, i0, i1, i2, i3, i4, i5, i6, i7, hI1, hN1])
      exact ⟨_, hr1_1, hr1_0, hr1_5, hr1_6, ha2⟩
  · rintro ρ w19 ⟨r19, hr1_8, hr8_0, hr8_5, hr8_6, ha19⟩
    have hB19 : B ≤ w19.heap.size := Nat.le_trans hB ha19.upd.size
    have hv_19 := ha19.upd.blk_some hv hdv
    repeat ((first | refine W.seqR rfl ?_ | refine W.seq ?_ | refine W.regR rfl ?_ | refine W.condK ?_ | refine W.block ?_ | refine W.skip ?_ | refine W.ret ?_ | refine W.exit ?_); try simp (maxSteps := 1000000) (disch := (first | omega | (simp only [World.size_alloc, size_wr, size_drew] <;> omega) | exact not_noB _)) only [go_sem, ↓reduceIte, n0, reduceCtorEq, n1, n2, n3, n4, n5, i0, i1, i2, i3, i4, i5, i6, i7, hv_19, hr1_8, hr8_0, hr8_5, hr8_6])
    refine (AppendInt32_fn _ _ _ ha19.own hB19 _ (by simp only [List.length_append, List.length_nil]; omega)).mono ?_
    rintro r20 w20 hc20
    rw [wrap32, ← hXX_1] at hc20
    have ha20 := ha19.trans hc20
    have hB20 : B ≤ w20.heap.size := Nat.le_trans hB ha20.upd.size
    have hv_20 := ha20.upd.blk_some hv hdv
    repeat ((first | refine W.seqR rfl ?_ | refine W.seq ?_ | refine W.regR rfl ?_ | refine W.condK ?_ | refine W.block ?_ | refine W.skip ?_ | refine W.ret ?_ | refine W.exit ?_); try simp (maxSteps := 1000000) (disch := (first | omega | (simp only [World.size_alloc, size_wr, size_drew] <;> omega) | exact not_noB _)) only [go_sem, ↓reduceIte, n0, reduceCtorEq, n1, n2, n3, n4, n5, i0, i1, i2, i3, i4, i5, i6, i7, hv_20, hr1_8, hr8_0, hr8_5, hr8_6])
    refine ha20.eqs ?_
    rw [hP]; simp only [List.append_assoc, List.append_nil, List.nil_append]
end Ms

namespace Ms
open Nat renaming reduceEqDiff → n0, reduceAdd → n1, reduceMul → n2, reduceSub → n3, reduceLT → n4, reduceLeDiff → n5
open Int renaming reduceEq → i0, reduceLT → i1, reduceLE → i2, reduceNeg → i3, reduceAdd → i4, reduceSub → i5, reduceMul → i6, reduceToNat → i7
set_option maxRecDepth 8000
open Go Go.Proofs Go.Shelf
attribute [local congr] W_congr WPsq_congr WPp_congr optK_congr addrK_congr intK_congr boolK_congr sliceK_congr tupleK_congr funcK_congr Fn_congr rawK_congr takeK_congr stepK_congr convK_congr aggK_congr

set_option maxHeartbeats 4000000 in
theorem appCreateTopicsRequest_1 {d B : Nat} {okM : Blocks} {ver : Int} (hlo : 1 ≤ ver) (hhi : ver ≤ 4) (t : Tree) (cells : List Value) (v : Value) (s : List UInt8) (w : World) {vb : Nat} (ho : OwnBy 5 B w v s) (hB : B ≤ w.heap.size) (hvb : blk w vb = some ((.int .i16 ver :: cells).toArray, 123, (0, 0)))
    (hR : RepS true (d + 3) fs_CreateTopicsRequest okM w t cells) (hfit : FitP ver (d + 3) fs_CreateTopicsRequest t) (hd : ∀ b, b < w.heap.size → okM b → ¬ ownB v b) (hdv : ¬ ownB v vb) (hlen : s.length + (partS (d + 3) fs_CreateTopicsRequest ver false t).length ≤ 2 ^ 41) :
    Fn Try.prog 113 #[.pointer (some ⟨vb, 0, none⟩), v] w fun r w' => AppR 5 B w v s (partS (d + 3) fs_CreateTopicsRequest ver false t) r w' := by
  obtain ⟨⟨g_0, g_1, g_2, -⟩, hfu⟩ := hfit
  replace g_0 : FitF (FitP ver (d + 2)) ver fCreateTopicsRequest_0 (t.at 0) := g_0
  replace g_1 : FitF (FitP ver (d + 2)) ver fCreateTopicsRequest_1 (t.at 1) := g_1
  replace g_2 : FitF (FitP ver (d + 2)) ver fCreateTopicsRequest_2 (t.at 2) := g_2
  obtain ⟨cs, q, hcs, hL, hT⟩ := hR.inv
  obtain ⟨c_0, e_0, rfl, h_0, c_1, e_1, rfl, h_1, c_2, e_2, rfl, h_2, rfl⟩ := hL
  replace h_0 : RepF (RepS true (d + 2)) (szS true (d + 2)) fCreateTopicsRequest_0 okM w (t.at 0) c_0 := h_0
  replace h_1 : RepF (RepS true (d + 2)) (szS true (d + 2)) fCreateTopicsRequest_1 okM w (t.at 1) c_1 := h_1
  replace h_2 : RepF (RepS true (d + 2)) (szS true (d + 2)) fCreateTopicsRequest_2 okM w (t.at 2) c_2 := h_2
  have hn_0 := g_0.notnull (by decide)
  obtain ⟨p_0, rfl, hs_0, -⟩ := (RepF_list rfl hn_0).1 h_0
  obtain ⟨ab_0, ac_0, rfl, _⟩ := SlR.shape hs_0
  have hll_0 := (g_0.list rfl).1
  obtain rfl := (RepF_num (by decide)).1 h_1
  obtain rfl := (RepF_num (by decide)).1 h_2
  obtain ⟨qm, rfl⟩ := hT.shape
  have hv : blk w vb = some (#[.int .i16 ver, .slice ab_0 (t.at 0).l.length ac_0, .int .i32 (IntKind.i32.wrap (t.at 1).n), .bool (decide ((t.at 2).n % 2 = 1)), .map qm], 123, (0, 0)) := by rw [hvb, hcs]; rfl
  clear hvb hcs
  have hh_0 : hasS fCreateTopicsRequest_0 ver = true := hasS_t (by show (0 : Int) ≤ ver; omega) (by show (-1 : Int) < 0 ∨ ver ≤ (-1 : Int); omega)
  obtain ⟨XL_0, hXL_0⟩ : ∃ X, X = fixedS (t.at 0).l.length 4 := ⟨_, rfl⟩
  obtain ⟨XE_0, hXE_0⟩ : ∃ X, X = (t.at 0).l.flatMap (fun x => partS (d + 2) fs_CreateTopicsRequestTopic ver false x) := ⟨_, rfl⟩
  have hh_1 : hasS fCreateTopicsRequest_1 ver = true := hasS_t (by show (0 : Int) ≤ ver; omega) (by show (-1 : Int) < 0 ∨ ver ≤ (-1 : Int); omega)
  obtain ⟨X_1, hXX_1⟩ : ∃ X, X = fixedS (t.at 1).n 4 := ⟨_, rfl⟩
  have hh_2 : hasS fCreateTopicsRequest_2 ver = true := hasS_t (by show (1 : Int) ≤ ver; omega) (by show (-1 : Int) < 0 ∨ ver ≤ (-1 : Int); omega)
  obtain ⟨X_2, hXX_2⟩ : ∃ X, X = [if decide ((t.at 2).n % 2 = 1) = true then (1 : UInt8) else 0] := ⟨_, rfl⟩
  have hP : partS (d + 3) fs_CreateTopicsRequest ver false t = (XL_0 ++ XE_0) ++ (X_1 ++ (X_2 ++ [])) := partS_no (plainL_has (by decide) hh_0 ((fieldS_list_f (g := (fun x => partS (d + 2) fs_CreateTopicsRequestTopic ver false x)) g_0 rfl (by decide) (fun x _ => valueS_part)).trans (by rw [hXL_0, hXE_0])) (plainL_has (by decide) hh_1 ((fieldS_num 3 rfl (by decide)).trans hXX_1.symm) (plainL_has (by decide) hh_2 ((fieldS_bool rfl).trans hXX_2.symm) rfl)))
  rw [hP] at hlen
  simp only [List.length_append, List.length_nil] at hlen
  have hdK : ∀ {r : Value} {w' : World} {add : List UInt8}, AppR 5 B w v s add r w' → ∀ b, b < w'.heap.size → OkS okM w.heap.size b → ¬ ownB r b := fun h b _ hk ho => (h.frame b ho).elim (hd b hk.2 hk.1) (fun h => by have := hk.2; omega)
  have ownK : ∀ {r : Value} {w' : World} {add : List UInt8} {b : Nat}, AppR 5 B w v s add r w' → b < w.heap.size → ¬ ownB v b → ¬ ownB r b := fun h hb hn ho => (h.frame _ ho).elim hn (fun h => by omega)
  have ha0 : AppR 5 B w v s [] v w := AppR.refl ho
  obtain ⟨w0, hw0⟩ : ∃ w0, w0 = w := ⟨_, rfl⟩
  have hB0 := hB
  have hv_0 := hv
  refine fn_of_W Try.func113 rfl Try.results113 Try.ntmps113 rfl ?_
  repeat ((first | refine W.seqR rfl ?_ | refine W.seq ?_ | refine W.regR rfl ?_ | refine W.condK ?_ | refine W.block ?_ | refine W.skip ?_ | refine W.ret ?_ | refine W.exit ?_); try simp (maxSteps := 1000000) (disch := (first | omega | (simp only [World.size_alloc, size_wr, size_drew] <;> omega) | exact not_noB _)) only [go_sem, ↓reduceIte, n0, reduceCtorEq, n1, n2, n3, n4, n5, i0, i1, i2, i3, i4, i5, i6, i7, hv_0])
  refine (AppendArrayLen_fn _ _ _ ha0.own hB0 (t.at 0).l.length hll_0 (by simp only [List.length_append, List.length_nil]; omega)).mono ?_
  rintro r1 w1 hc1
  rw [← hXL_0] at hc1
  have ha1 := ha0.trans hc1
  have hB1 : B ≤ w1.heap.size := Nat.le_trans hB ha1.upd.size
  have hv_1 := ha1.upd.blk_some hv hdv
  repeat ((first | refine W.seqR rfl ?_ | refine W.seq ?_ | refine W.regR rfl ?_ | refine W.condK ?_ | refine W.block ?_ | refine W.skip ?_ | refine W.ret ?_ | refine W.exit ?_); try simp (maxSteps := 1000000) (disch := (first | omega | (simp only [World.size_alloc, size_wr, size_drew] <;> omega) | exact not_noB _)) only [go_sem, ↓reduceIte, n0, reduceCtorEq, n1, n2, n3, n4, n5, i0, i1, i2, i3, i4, i5, i6, i7, hv_1])
  have hadd1 := ha1
  refine W.exitJ 0 (fun ρ w' => ∃ r, ρ 1 = r ∧ ρ 0 = .pointer (some ⟨vb, 0, none⟩) ∧ ρ 5 = .int .i16 ver ∧ ρ 6 = .bool false ∧ AppR 5 B w v s (([] ++ XL_0) ++ XE_0) r w')
    (W.loop (fun ρ w' => ∃ (j : Nat) (r : Value), j ≤ (t.at 0).l.length ∧ ρ 50 = .int .i64 j ∧ ρ 49 = .int .i64 (t.at 0).l.length ∧ ρ 7 = .slice ab_0 (t.at 0).l.length ac_0 ∧ ρ 1 = r ∧ ρ 0 = .pointer (some ⟨vb, 0, none⟩) ∧ ρ 5 = .int .i16 ver ∧ ρ 6 = .bool false ∧ AppR 5 B w v s (([] ++ XL_0) ++ ((t.at 0).l.take j).flatMap (fun x => partS (d + 2) fs_CreateTopicsRequestTopic ver false x)) r w')
      (fun ρ _ => (t.at 0).l.length - (RowKit.intOf (ρ 50)).toNat) ?_ ?_) ?_
  · refine ⟨0, _, Nat.zero_le _, ?_, ?_, ?_, ?_, ?_, ?_, ?_, ha1.eqs (by rw [List.take_zero, List.flatMap_nil, List.append_nil])⟩ <;> simp (maxSteps := 1000000) (disch := (first | omega | (simp only [World.size_alloc, size_wr, size_drew] <;> omega) | exact not_noB _)) only [go_sem, ↓reduceIte, n0, reduceCtorEq, n1, n2, n3, n4, n5, i0, i1, i2, i3, i4, i5, i6, i7]
    all_goals rfl
  · rintro ρ w2 ⟨j1, r2, hj1, hI1, hN1, hS1, hr1_1, hr1_0, hr1_5, hr1_6, ha2⟩
    have hB2 : B ≤ w2.heap.size := Nat.le_trans hB ha2.upd.size
    have hv_2 := ha2.upd.blk_some hv hdv
    by_cases hlt1 : j1 < (t.at 0).l.length
    · obtain ⟨_, b1, o1, x1, ce1, hb1, hok1, hx1, hbl1, hxs1, hxe1, hq1, hRe1⟩ := SlR.get (size := 6) (by decide) hs_0 hlt1
      subst hb1
      have hcat1 : (t.at 0).l.take (j1 + 1) = (t.at 0).l.take j1 ++ [(t.at 0).l[j1]] := List.take_succ_eq_append_getElem hlt1
      have htl1 := take_flatMap_len (t.at 0).l (fun x => partS (d + 2) fs_CreateTopicsRequestTopic ver false x) (j1 + 1)
      rw [← hXE_0, hcat1, List.flatMap_append, List.flatMap_cons, List.flatMap_nil, List.append_nil] at htl1
      have hge1 := (g_0.list rfl).2 _ (List.getElem_mem hlt1)
      generalize (t.at 0).l[j1] = y1 at *
      have hnx1 := hd b1 hbl1 hok1
      obtain ⟨T1, hTT1⟩ : ∃ T, T = ((t.at 0).l.take j1).flatMap (fun x => partS (d + 2) fs_CreateTopicsRequestTopic ver false x) := ⟨_, rfl⟩
      rw [← hTT1] at ha2 htl1
      have hx1_2 := ha2.upd.blk_some hx1 hnx1
      replace hRe1 : RepS true (d + 2) fs_CreateTopicsRequestTopic okM w y1 ce1 := Rep1_part.1 hRe1
      have hfe1 : FitP ver (d + 2) fs_CreateTopicsRequestTopic y1 := hge1.2.2 rfl
      obtain ⟨⟨ge1_0, ge1_1, ge1_2, ge1_3, ge1_4, -⟩, hfue1⟩ := hfe1
      replace ge1_0 : FitF (FitP ver (d + 1)) ver fCreateTopicsRequestTopic_0 (y1.at 0) := ge1_0
      replace ge1_1 : FitF (FitP ver (d + 1)) ver fCreateTopicsRequestTopic_1 (y1.at 1) := ge1_1
      replace ge1_2 : FitF (FitP ver (d + 1)) ver fCreateTopicsRequestTopic_2 (y1.at 2) := ge1_2
      replace ge1_3 : FitF (FitP ver (d + 1)) ver fCreateTopicsRequestTopic_3 (y1.at 3) := ge1_3
      replace ge1_4 : FitF (FitP ver (d + 1)) ver fCreateTopicsRequestTopic_4 (y1.at 4) := ge1_4
      obtain ⟨cse1, qe1, hcse1, hLe1, hTe1⟩ := hRe1.inv
      obtain ⟨ce1_0, ee1_0, rfl, he1_0, ce1_1, ee1_1, rfl, he1_1, ce1_2, ee1_2, rfl, he1_2, ce1_3, ee1_3, rfl, he1_3, ce1_4, ee1_4, rfl, he1_4, rfl⟩ := hLe1
      replace he1_0 : RepF (RepS true (d + 1)) (szS true (d + 1)) fCreateTopicsRequestTopic_0 okM w (y1.at 0) ce1_0 := he1_0
      replace he1_1 : RepF (RepS true (d + 1)) (szS true (d + 1)) fCreateTopicsRequestTopic_1 okM w (y1.at 1) ce1_1 := he1_1
      replace he1_2 : RepF (RepS true (d + 1)) (szS true (d + 1)) fCreateTopicsRequestTopic_2 okM w (y1.at 2) ce1_2 := he1_2
      replace he1_3 : RepF (RepS true (d + 1)) (szS true (d + 1)) fCreateTopicsRequestTopic_3 okM w (y1.at 3) ce1_3 := he1_3
      replace he1_4 : RepF (RepS true (d + 1)) (szS true (d + 1)) fCreateTopicsRequestTopic_4 okM w (y1.at 4) ce1_4 := he1_4
      obtain rfl := (RepF_text rfl (by decide)).1 he1_0
      obtain rfl := (RepF_num (by decide)).1 he1_1
      obtain rfl := (RepF_num (by decide)).1 he1_2
      have hne1_3 := ge1_3.notnull (by decide)
      obtain ⟨pe1_3, rfl, hse1_3, -⟩ := (RepF_list rfl hne1_3).1 he1_3
      obtain ⟨abe1_3, ace1_3, rfl, _⟩ := SlR.shape hse1_3
      have hlle1_3 := (ge1_3.list rfl).1
      have hne1_4 := ge1_4.notnull (by decide)
      obtain ⟨pe1_4, rfl, hse1_4, -⟩ := (RepF_list rfl hne1_4).1 he1_4
      obtain ⟨abe1_4, ace1_4, rfl, _⟩ := SlR.shape hse1_4
      have hlle1_4 := (ge1_4.list rfl).1
      obtain ⟨qme1, rfl⟩ := hTe1.shape
      subst hcse1
      have hq1_0 : x1.1[o1 + j1 * 6]? = some (strV (y1.at 0).s) := hq1 0 (by decide)
      have hq1_1 : x1.1[o1 + (j1 * 6 + 1)]? = some (.int .i32 (IntKind.i32.wrap (y1.at 1).n)) := hq1 1 (by decide)
      have hq1_2 : x1.1[o1 + (j1 * 6 + 2)]? = some (.int .i16 (IntKind.i16.wrap (y1.at 2).n)) := hq1 2 (by decide)
      have hq1_3 : x1.1[o1 + (j1 * 6 + 3)]? = some (.slice abe1_3 (y1.at 3).l.length ace1_3) := hq1 3 (by decide)
      have hq1_4 : x1.1[o1 + (j1 * 6 + 4)]? = some (.slice abe1_4 (y1.at 4).l.length ace1_4) := hq1 4 (by decide)
      have hq1_5 : x1.1[o1 + (j1 * 6 + 5)]? = some (.map qme1) := hq1 5 (by decide)
      have hhe1_0 : hasS fCreateTopicsRequestTopic_0 ver = true := hasS_t (by show (0 : Int) ≤ ver; omega) (by show (-1 : Int) < 0 ∨ ver ≤ (-1 : Int); omega)
      obtain ⟨Xe1_0, hXXe1_0⟩ : ∃ X, X = fixedS (y1.at 0).s.length 2 ++ (y1.at 0).s := ⟨_, rfl⟩
      have hhe1_1 : hasS fCreateTopicsRequestTopic_1 ver = true := hasS_t (by show (0 : Int) ≤ ver; omega) (by show (-1 : Int) < 0 ∨ ver ≤ (-1 : Int); omega)
      obtain ⟨Xe1_1, hXXe1_1⟩ : ∃ X, X = fixedS (y1.at 1).n 4 := ⟨_, rfl⟩
      have hhe1_2 : hasS fCreateTopicsRequestTopic_2 ver = true := hasS_t (by show (0 : Int) ≤ ver; omega) (by show (-1 : Int) < 0 ∨ ver ≤ (-1 : Int); omega)
      obtain ⟨Xe1_2, hXXe1_2⟩ : ∃ X, X = fixedS (y1.at 2).n 2 := ⟨_, rfl⟩
      have hhe1_3 : hasS fCreateTopicsRequestTopic_3 ver = true := hasS_t (by show (0 : Int) ≤ ver; omega) (by show (-1 : Int) < 0 ∨ ver ≤ (-1 : Int); omega)
      obtain ⟨XLe1_3, hXLe1_3⟩ : ∃ X, X = fixedS (y1.at 3).l.length 4 := ⟨_, rfl⟩
      obtain ⟨XEe1_3, hXEe1_3⟩ : ∃ X, X = (y1.at 3).l.flatMap (fun x => partS (d + 1) fs_CreateTopicsRequestTopicReplicaAssignment ver false x) := ⟨_, rfl⟩
      have hhe1_4 : hasS fCreateTopicsRequestTopic_4 ver = true := hasS_t (by show (0 : Int) ≤ ver; omega) (by show (-1 : Int) < 0 ∨ ver ≤ (-1 : Int); omega)
      obtain ⟨XLe1_4, hXLe1_4⟩ : ∃ X, X = fixedS (y1.at 4).l.length 4 := ⟨_, rfl⟩
      obtain ⟨XEe1_4, hXEe1_4⟩ : ∃ X, X = (y1.at 4).l.flatMap (fun x => partS (d + 1) fs_CreateTopicsRequestTopicConfig ver false x) := ⟨_, rfl⟩
      have hPe1 : partS (d + 2) fs_CreateTopicsRequestTopic ver false y1 = Xe1_0 ++ (Xe1_1 ++ (Xe1_2 ++ ((XLe1_3 ++ XEe1_3) ++ ((XLe1_4 ++ XEe1_4) ++ [])))) := partS_no (plainL_has (by decide) hhe1_0 ((fieldS_text_f ge1_0 rfl (by decide)).trans hXXe1_0.symm) (plainL_has (by decide) hhe1_1 ((fieldS_num 3 rfl (by decide)).trans hXXe1_1.symm) (plainL_has (by decide) hhe1_2 ((fieldS_num 2 rfl (by decide)).trans hXXe1_2.symm) (plainL_has (by decide) hhe1_3 ((fieldS_list_f (g := (fun x => partS (d + 1) fs_CreateTopicsRequestTopicReplicaAssignment ver false x)) ge1_3 rfl (by decide) (fun x _ => valueS_part)).trans (by rw [hXLe1_3, hXEe1_3])) (plainL_has (by decide) hhe1_4 ((fieldS_list_f (g := (fun x => partS (d + 1) fs_CreateTopicsRequestTopicConfig ver false x)) ge1_4 rfl (by decide) (fun x _ => valueS_part)).trans (by rw [hXLe1_4, hXEe1_4])) rfl)))))
      rw [hPe1] at htl1
      simp only [List.length_append, List.length_nil] at htl1
      repeat ((first | refine W.seqR rfl ?_ | refine W.seq ?_ | refine W.regR rfl ?_ | refine W.condK ?_ | refine W.block ?_ | refine W.skip ?_ | refine W.ret ?_ | refine W.exit ?_); try simp (maxSteps := 1000000) (disch := (first | omega | (simp only [World.size_alloc, size_wr, size_drew] <;> omega) | exact not_noB _)) only [go_sem, ↓reduceIte, n0, reduceCtorEq, n1, n2, n3, n4, n5, i0, i1, i2, i3, i4, i5, i6, i7, hv_2, hx1_2, Int.toNat_natCast, Nat.mul_one, hq1_0, hq1_1, hq1_2, hq1_3, hq1_4, hq1_5, hr1_1, hr1_0, hr1_5, hr1_6, hI1, hN1, hS1])
      refine (AppendString_fn _ _ _ ha2.own hB2 (y1.at 0).s (ge1_0.text (.inl rfl)) (by simp only [List.length_append, List.length_nil]; omega)).mono ?_
      rintro r3 w3 hc3
      rw [← hXXe1_0] at hc3
      have ha3 := ha2.trans hc3
      have hB3 : B ≤ w3.heap.size := Nat.le_trans hB ha3.upd.size
      have hv_3 := ha3.upd.blk_some hv hdv
      have hx1_3 := ha3.upd.blk_some hx1 hnx1
      repeat ((first | refine W.seqR rfl ?_ | refine W.seq ?_ | refine W.regR rfl ?_ | refine W.condK ?_ | refine W.block ?_ | refine W.skip ?_ | refine W.ret ?_ | refine W.exit ?_); try simp (maxSteps := 1000000) (disch := (first | omega | (simp only [World.size_alloc, size_wr, size_drew] <;> omega) | exact not_noB _)) only [go_sem, ↓reduceIte, n0, reduceCtorEq, n1, n2, n3, n4, n5, i0, i1, i2, i3, i4, i5, i6, i7, hv_3, hx1_3, Int.toNat_natCast, Nat.mul_one, hq1_0, hq1_1, hq1_2, hq1_3, hq1_4, hq1_5, hr1_1, hr1_0, hr1_5, hr1_6, hI1, hN1, hS1])
      refine (AppendInt32_fn _ _ _ ha3.own hB3 _ (by simp only [List.length_append, List.length_nil]; omega)).mono ?_
      rintro r4 w4 hc4
      rw [wrap32, ← hXXe1_1] at hc4
      have ha4 := ha3.trans hc4
      have hB4 : B ≤ w4.heap.size := Nat.le_trans hB ha4.upd.size
      have hv_4 := ha4.upd.blk_some hv hdv
      have hx1_4 := ha4.upd.blk_some hx1 hnx1
      repeat ((first | refine W.seqR rfl ?_ | refine W.seq ?_ | refine W.regR rfl ?_ | refine W.condK ?_ | refine W.block ?_ | refine W.skip ?_ | refine W.ret ?_ | refine W.exit ?_); try simp (maxSteps := 1000000) (disch := (first | omega | (simp only [World.size_alloc, size_wr, size_drew] <;> omega) | exact not_noB _)) only [go_sem, ↓reduceIte, n0, reduceCtorEq, n1, n2, n3, n4, n5, i0, i1, i2, i3, i4, i5, i6, i7, hv_4, hx1_4, Int.toNat_natCast, Nat.mul_one, hq1_0, hq1_1, hq1_2, hq1_3, hq1_4, hq1_5, hr1_1, hr1_0, hr1_5, hr1_6, hI1, hN1, hS1])
      refine (AppendInt16_fn _ _ _ ha4.own hB4 _ (by simp only [List.length_append, List.length_nil]; omega)).mono ?_
      rintro r5 w5 hc5
      rw [wrap16, ← hXXe1_2] at hc5
      have ha5 := ha4.trans hc5
      have hB5 : B ≤ w5.heap.size := Nat.le_trans hB ha5.upd.size
      have hv_5 := ha5.upd.blk_some hv hdv
      have hx1_5 := ha5.upd.blk_some hx1 hnx1
      repeat ((first | refine W.seqR rfl ?_ | refine W.seq ?_ | refine W.regR rfl ?_ | refine W.condK ?_ | refine W.block ?_ | refine W.skip ?_ | refine W.ret ?_ | refine W.exit ?_); try simp (maxSteps := 1000000) (disch := (first | omega | (simp only [World.size_alloc, size_wr, size_drew] <;> omega) | exact not_noB _)) only [go_sem, ↓reduceIte, n0, reduceCtorEq, n1, n2, n3, n4, n5, i0, i1, i2, i3, i4, i5, i6, i7, hv_5, hx1_5, Int.toNat_natCast, Nat.mul_one, hq1_0, hq1_1, hq1_2, hq1_3, hq1_4, hq1_5, hr1_1, hr1_0, hr1_5, hr1_6, hI1, hN1, hS1])
      refine (AppendArrayLen_fn _ _ _ ha5.own hB5 (y1.at 3).l.length hlle1_3 (by simp only [List.length_append, List.length_nil]; omega)).mono ?_
      rintro r6 w6 hc6
      rw [← hXLe1_3] at hc6
      have ha6 := ha5.trans hc6
      have hB6 : B ≤ w6.heap.size := Nat.le_trans hB ha6.upd.size
      have hv_6 := ha6.upd.blk_some hv hdv
      have hx1_6 := ha6.upd.blk_some hx1 hnx1
      repeat ((first | refine W.seqR rfl ?_ | refine W.seq ?_ | refine W.regR rfl ?_ | refine W.condK ?_ | refine W.block ?_ | refine W.skip ?_ | refine W.ret ?_ | refine W.exit ?_); try simp (maxSteps := 1000000) (disch := (first | omega | (simp only [World.size_alloc, size_wr, size_drew] <;> omega) | exact not_noB _)) only [go_sem, ↓reduceIte, n0, reduceCtorEq, n1, n2, n3, n4, n5, i0, i1, i2, i3, i4, i5, i6, i7, hv_6, hx1_6, Int.toNat_natCast, Nat.mul_one, hq1_0, hq1_1, hq1_2, hq1_3, hq1_4, hq1_5, hr1_1, hr1_0, hr1_5, hr1_6, hI1, hN1, hS1])
      have hadd2 := ha6
      refine W.exitJ 2 (fun ρ w' => ∃ r, ρ 1 = r ∧ ρ 0 = .pointer (some ⟨vb, 0, none⟩) ∧ ρ 5 = .int .i16 ver ∧ ρ 6 = .bool false ∧ ρ 50 = .int .i64 j1 ∧ ρ 49 = .int .i64 (t.at 0).l.length ∧ ρ 7 = .slice (some ⟨b1, o1, none⟩) (t.at 0).l.length ac_0 ∧ ρ 9 = .pointer (some ⟨b1, o1 + j1 * 6, none⟩) ∧ AppR 5 B w v s (([] ++ XL_0 ++ T1 ++ Xe1_0 ++ Xe1_1 ++ Xe1_2 ++ XLe1_3) ++ XEe1_3) r w')
        (W.loop (fun ρ w' => ∃ (j : Nat) (r : Value), j ≤ (y1.at 3).l.length ∧ ρ 96 = .int .i64 j ∧ ρ 95 = .int .i64 (y1.at 3).l.length ∧ ρ 13 = .slice abe1_3 (y1.at 3).l.length ace1_3 ∧ ρ 1 = r ∧ ρ 0 = .pointer (some ⟨vb, 0, none⟩) ∧ ρ 5 = .int .i16 ver ∧ ρ 6 = .bool false ∧ ρ 50 = .int .i64 j1 ∧ ρ 49 = .int .i64 (t.at 0).l.length ∧ ρ 7 = .slice (some ⟨b1, o1, none⟩) (t.at 0).l.length ac_0 ∧ ρ 9 = .pointer (some ⟨b1, o1 + j1 * 6, none⟩) ∧ AppR 5 B w v s (([] ++ XL_0 ++ T1 ++ Xe1_0 ++ Xe1_1 ++ Xe1_2 ++ XLe1_3) ++ ((y1.at 3).l.take j).flatMap (fun x => partS (d + 1) fs_CreateTopicsRequestTopicReplicaAssignment ver false x)) r w')
          (fun ρ _ => (y1.at 3).l.length - (RowKit.intOf (ρ 96)).toNat) ?_ ?_) ?_
      · refine ⟨0, _, Nat.zero_le _, ?_, ?_, ?_, ?_, ?_, ?_, ?_, ?_, ?_, ?_, ?_, ha6.eqs (by rw [List.take_zero, List.flatMap_nil, List.append_nil])⟩ <;> simp (maxSteps := 1000000) (disch := (first | omega | (simp only [World.size_alloc, size_wr, size_drew] <;> omega) | exact not_noB _)) only [go_sem, ↓reduceIte, n0, reduceCtorEq, n1, n2, n3, n4, n5, i0, i1, i2, i3, i4, i5, i6, i7, hr1_1, hr1_0, hr1_5, hr1_6, hI1, hN1, hS1]
        all_goals rfl
      · rintro ρ w7 ⟨j2, r7, hj2, hI2, hN2, hS2, hr1_2, hr2_0, hr2_5, hr2_6, hr2_50, hr2_49, hr2_7, hr2_9, ha7⟩
        have hB7 : B ≤ w7.heap.size := Nat.le_trans hB ha7.upd.size
        have hv_7 := ha7.upd.blk_some hv hdv
        have hx1_7 := ha7.upd.blk_some hx1 hnx1
        by_cases hlt2 : j2 < (y1.at 3).l.length
        · obtain ⟨_, b2, o2, x2, ce2, hb2, hok2, hx2, hbl2, hxs2, hxe2, hq2, hRe2⟩ := SlR.get (size := 3) (by decide) hse1_3 hlt2
          subst hb2
          have hcat2 : (y1.at 3).l.take (j2 + 1) = (y1.at 3).l.take j2 ++ [(y1.at 3).l[j2]] := List.take_succ_eq_append_getElem hlt2
          have htl2 := take_flatMap_len (y1.at 3).l (fun x => partS (d + 1) fs_CreateTopicsRequestTopicReplicaAssignment ver false x) (j2 + 1)
          rw [← hXEe1_3, hcat2, List.flatMap_append, List.flatMap_cons, List.flatMap_nil, List.append_nil] at htl2
          have hge2 := (ge1_3.list rfl).2 _ (List.getElem_mem hlt2)
          generalize (y1.at 3).l[j2] = y2 at *
          have hnx2 := hd b2 hbl2 hok2
          obtain ⟨T2, hTT2⟩ : ∃ T, T = ((y1.at 3).l.take j2).flatMap (fun x => partS (d + 1) fs_CreateTopicsRequestTopicReplicaAssignment ver false x) := ⟨_, rfl⟩
          rw [← hTT2] at ha7 htl2
          have hx2_7 := ha7.upd.blk_some hx2 hnx2
          replace hRe2 : RepS true (d + 1) fs_CreateTopicsRequestTopicReplicaAssignment okM w y2 ce2 := Rep1_part.1 hRe2
          have hfe2 : FitP ver (d + 1) fs_CreateTopicsRequestTopicReplicaAssignment y2 := hge2.2.2 rfl
          obtain ⟨⟨ge2_0, ge2_1, -⟩, hfue2⟩ := hfe2
          replace ge2_0 : FitF (FitP ver d) ver fCreateTopicsRequestTopicReplicaAssignment_0 (y2.at 0) := ge2_0
          replace ge2_1 : FitF (FitP ver d) ver fCreateTopicsRequestTopicReplicaAssignment_1 (y2.at 1) := ge2_1
          obtain ⟨cse2, qe2, hcse2, hLe2, hTe2⟩ := hRe2.inv
          obtain ⟨ce2_0, ee2_0, rfl, he2_0, ce2_1, ee2_1, rfl, he2_1, rfl⟩ := hLe2
          replace he2_0 : RepF (RepS true d) (szS true d) fCreateTopicsRequestTopicReplicaAssignment_0 okM w (y2.at 0) ce2_0 := he2_0
          replace he2_1 : RepF (RepS true d) (szS true d) fCreateTopicsRequestTopicReplicaAssignment_1 okM w (y2.at 1) ce2_1 := he2_1
          obtain rfl := (RepF_num (by decide)).1 he2_0
          have hne2_1 := ge2_1.notnull (by decide)
          obtain ⟨pe2_1, rfl, hse2_1, -⟩ := (RepF_list rfl hne2_1).1 he2_1
          obtain ⟨abe2_1, ace2_1, rfl, _⟩ := SlR.shape hse2_1
          have hlle2_1 := (ge2_1.list rfl).1
          obtain ⟨qme2, rfl⟩ := hTe2.shape
          subst hcse2
          have hq2_0 : x2.1[o2 + j2 * 3]? = some (.int .i32 (IntKind.i32.wrap (y2.at 0).n)) := hq2 0 (by decide)
          have hq2_1 : x2.1[o2 + (j2 * 3 + 1)]? = some (.slice abe2_1 (y2.at 1).l.length ace2_1) := hq2 1 (by decide)
          have hq2_2 : x2.1[o2 + (j2 * 3 + 2)]? = some (.map qme2) := hq2 2 (by decide)
          have hhe2_0 : hasS fCreateTopicsRequestTopicReplicaAssignment_0 ver = true := hasS_t (by show (0 : Int) ≤ ver; omega) (by show (-1 : Int) < 0 ∨ ver ≤ (-1 : Int); omega)
          obtain ⟨Xe2_0, hXXe2_0⟩ : ∃ X, X = fixedS (y2.at 0).n 4 := ⟨_, rfl⟩
          have hhe2_1 : hasS fCreateTopicsRequestTopicReplicaAssignment_1 ver = true := hasS_t (by show (0 : Int) ≤ ver; omega) (by show (-1 : Int) < 0 ∨ ver ≤ (-1 : Int); omega)
          obtain ⟨XLe2_1, hXLe2_1⟩ : ∃ X, X = fixedS (y2.at 1).l.length 4 := ⟨_, rfl⟩
          obtain ⟨XEe2_1, hXEe2_1⟩ : ∃ X, X = (y2.at 1).l.flatMap (fun x : Tree => fixedS x.n 4) := ⟨_, rfl⟩
          have hPe2 : partS (d + 1) fs_CreateTopicsRequestTopicReplicaAssignment ver false y2 = Xe2_0 ++ ((XLe2_1 ++ XEe2_1) ++ []) := partS_no (plainL_has (by decide) hhe2_0 ((fieldS_num 3 rfl (by decide)).trans hXXe2_0.symm) (plainL_has (by decide) hhe2_1 ((fieldS_list_f (g := (fun x : Tree => fixedS x.n 4)) ge2_1 rfl (by decide) (fun x _ => valueS_num 3 (by decide))).trans (by rw [hXLe2_1, hXEe2_1])) rfl))
          rw [hPe2] at htl2
          simp only [List.length_append, List.length_nil] at htl2
          repeat ((first | refine W.seqR rfl ?_ | refine W.seq ?_ | refine W.regR rfl ?_ | refine W.condK ?_ | refine W.block ?_ | refine W.skip ?_ | refine W.ret ?_ | refine W.exit ?_); try simp (maxSteps := 1000000) (disch := (first | omega | (simp only [World.size_alloc, size_wr, size_drew] <;> omega) | exact not_noB _)) only [go_sem, ↓reduceIte, n0, reduceCtorEq, n1, n2, n3, n4, n5, i0, i1, i2, i3, i4, i5, i6, i7, hv_7, hx1_7, hx2_7, Int.toNat_natCast, Nat.mul_one, hq1_0, hq1_1, hq1_2, hq1_3, hq1_4, hq1_5, hq2_0, hq2_1, hq2_2, hr1_2, hr2_0, hr2_5, hr2_6, hr2_50, hr2_49, hr2_7, hr2_9, hI2, hN2, hS2])
          refine (AppendInt32_fn _ _ _ ha7.own hB7 _ (by simp only [List.length_append, List.length_nil]; omega)).mono ?_
          rintro r8 w8 hc8
          rw [wrap32, ← hXXe2_0] at hc8
          have ha8 := ha7.trans hc8
          have hB8 : B ≤ w8.heap.size := Nat.le_trans hB ha8.upd.size
          have hv_8 := ha8.upd.blk_some hv hdv
          have hx1_8 := ha8.upd.blk_some hx1 hnx1
          have hx2_8 := ha8.upd.blk_some hx2 hnx2
          repeat ((first | refine W.seqR rfl ?_ | refine W.seq ?_ | refine W.regR rfl ?_ | refine W.condK ?_ | refine W.block ?_ | refine W.skip ?_ | refine W.ret ?_ | refine W.exit ?_); try simp (maxSteps := 1000000) (disch := (first | omega | (simp only [World.size_alloc, size_wr, size_drew] <;> omega) | exact not_noB _)) only [go_sem, ↓reduceIte, n0, reduceCtorEq, n1, n2, n3, n4, n5, i0, i1, i2, i3, i4, i5, i6, i7, hv_8, hx1_8, hx2_8, Int.toNat_natCast, Nat.mul_one, hq1_0, hq1_1, hq1_2, hq1_3, hq1_4, hq1_5, hq2_0, hq2_1, hq2_2, hr1_2, hr2_0, hr2_5, hr2_6, hr2_50, hr2_49, hr2_7, hr2_9, hI2, hN2, hS2])
          refine (AppendArrayLen_fn _ _ _ ha8.own hB8 (y2.at 1).l.length hlle2_1 (by simp only [List.length_append, List.length_nil]; omega)).mono ?_
          rintro r9 w9 hc9
          rw [← hXLe2_1] at hc9
          have ha9 := ha8.trans hc9
          have hB9 : B ≤ w9.heap.size := Nat.le_trans hB ha9.upd.size
          have hv_9 := ha9.upd.blk_some hv hdv
          have hx1_9 := ha9.upd.blk_some hx1 hnx1
          have hx2_9 := ha9.upd.blk_some hx2 hnx2
          repeat ((first | refine W.seqR rfl ?_ | refine W.seq ?_ | refine W.regR rfl ?_ | refine W.condK ?_ | refine W.block ?_ | refine W.skip ?_ | refine W.ret ?_ | refine W.exit ?_); try simp (maxSteps := 1000000) (disch := (first | omega | (simp only [World.size_alloc, size_wr, size_drew] <;> omega) | exact not_noB _)) only [go_sem, ↓reduceIte, n0, reduceCtorEq, n1, n2, n3, n4, n5, i0, i1, i2, i3, i4, i5, i6, i7, hv_9, hx1_9, hx2_9, Int.toNat_natCast, Nat.mul_one, hq1_0, hq1_1, hq1_2, hq1_3, hq1_4, hq1_5, hq2_0, hq2_1, hq2_2, hr1_2, hr2_0, hr2_5, hr2_6, hr2_50, hr2_49, hr2_7, hr2_9, hI2, hN2, hS2])
          have hadd3 := ha9
          refine W.exitJ 4 (fun ρ w' => ∃ r, ρ 1 = r ∧ ρ 0 = .pointer (some ⟨vb, 0, none⟩) ∧ ρ 5 = .int .i16 ver ∧ ρ 6 = .bool false ∧ ρ 50 = .int .i64 j1 ∧ ρ 49 = .int .i64 (t.at 0).l.length ∧ ρ 7 = .slice (some ⟨b1, o1, none⟩) (t.at 0).l.length ac_0 ∧ ρ 9 = .pointer (some ⟨b1, o1 + j1 * 6, none⟩) ∧ ρ 96 = .int .i64 j2 ∧ ρ 95 = .int .i64 (y1.at 3).l.length ∧ ρ 13 = .slice (some ⟨b2, o2, none⟩) (y1.at 3).l.length ace1_3 ∧ ρ 15 = .pointer (some ⟨b2, o2 + j2 * 3, none⟩) ∧ AppR 5 B w v s (([] ++ XL_0 ++ T1 ++ Xe1_0 ++ Xe1_1 ++ Xe1_2 ++ XLe1_3 ++ T2 ++ Xe2_0 ++ XLe2_1) ++ XEe2_1) r w')
            (W.loop (fun ρ w' => ∃ (j : Nat) (r : Value), j ≤ (y2.at 1).l.length ∧ ρ 124 = .int .i64 j ∧ ρ 123 = .int .i64 (y2.at 1).l.length ∧ ρ 17 = .slice abe2_1 (y2.at 1).l.length ace2_1 ∧ ρ 1 = r ∧ ρ 0 = .pointer (some ⟨vb, 0, none⟩) ∧ ρ 5 = .int .i16 ver ∧ ρ 6 = .bool false ∧ ρ 50 = .int .i64 j1 ∧ ρ 49 = .int .i64 (t.at 0).l.length ∧ ρ 7 = .slice (some ⟨b1, o1, none⟩) (t.at 0).l.length ac_0 ∧ ρ 9 = .pointer (some ⟨b1, o1 + j1 * 6, none⟩) ∧ ρ 96 = .int .i64 j2 ∧ ρ 95 = .int .i64 (y1.at 3).l.length ∧ ρ 13 = .slice (some ⟨b2, o2, none⟩) (y1.at 3).l.length ace1_3 ∧ ρ 15 = .pointer (some ⟨b2, o2 + j2 * 3, none⟩) ∧ AppR 5 B w v s (([] ++ XL_0 ++ T1 ++ Xe1_0 ++ Xe1_1 ++ Xe1_2 ++ XLe1_3 ++ T2 ++ Xe2_0 ++ XLe2_1) ++ ((y2.at 1).l.take j).flatMap (fun x : Tree => fixedS x.n 4)) r w')
              (fun ρ _ => (y2.at 1).l.length - (RowKit.intOf (ρ 124)).toNat) ?_ ?_) ?_
          · refine ⟨0, _, Nat.zero_le _, ?_, ?_, ?_, ?_, ?_, ?_, ?_, ?_, ?_, ?_, ?_, ?_, ?_, ?_, ?_, ha9.eqs (by rw [List.take_zero, List.flatMap_nil, List.append_nil])⟩ <;> simp (maxSteps := 1000000) (disch := (first | omega | (simp only [World.size_alloc, size_wr, size_drew] <;> omega) | exact not_noB _)) only [go_sem, ↓reduceIte, n0, reduceCtorEq, n1, n2, n3, n4, n5, i0, i1, i2, i3, i4, i5, i6, i7, hr1_2, hr2_0, hr2_5, hr2_6, hr2_50, hr2_49, hr2_7, hr2_9, hI2, hN2, hS2]
            all_goals rfl
          · rintro ρ w10 ⟨j3, r10, hj3, hI3, hN3, hS3, hr1_3, hr3_0, hr3_5, hr3_6, hr3_50, hr3_49, hr3_7, hr3_9, hr3_96, hr3_95, hr3_13, hr3_15, ha10⟩
            have hB10 : B ≤ w10.heap.size := Nat.le_trans hB ha10.upd.size
            have hv_10 := ha10.upd.blk_some hv hdv
            have hx1_10 := ha10.upd.blk_some hx1 hnx1
            have hx2_10 := ha10.upd.blk_some hx2 hnx2
            by_cases hlt3 : j3 < (y2.at 1).l.length
            · obtain ⟨_, b3, o3, x3, ce3, hb3, hok3, hx3, hbl3, hxs3, hxe3, hq3, hRe3⟩ := SlR.get (size := 1) (by decide) hse2_1 hlt3
              subst hb3
              have hcat3 : (y2.at 1).l.take (j3 + 1) = (y2.at 1).l.take j3 ++ [(y2.at 1).l[j3]] := List.take_succ_eq_append_getElem hlt3
              have htl3 := take_flatMap_len (y2.at 1).l (fun x : Tree => fixedS x.n 4) (j3 + 1)
              rw [← hXEe2_1, hcat3, List.flatMap_append, List.flatMap_cons, List.flatMap_nil, List.append_nil] at htl3
              have hge3 := (ge2_1.list rfl).2 _ (List.getElem_mem hlt3)
              generalize (y2.at 1).l[j3] = y3 at *
              have hnx3 := hd b3 hbl3 hok3
              obtain ⟨T3, hTT3⟩ : ∃ T, T = ((y2.at 1).l.take j3).flatMap (fun x : Tree => fixedS x.n 4) := ⟨_, rfl⟩
              rw [← hTT3] at ha10 htl3
              have hx3_10 := ha10.upd.blk_some hx3 hnx3
              obtain rfl := (Rep1_num (by decide)).1 hRe3
              have hq3_0 : x3.1[o3 + j3]? = some (.int .i32 (IntKind.i32.wrap y3.n)) := by have := hq3 0 (by decide); rw [Nat.mul_one] at this; exact this
              obtain ⟨Y3, hY3⟩ : ∃ Y, Y = fixedS (y3).n 4 := ⟨_, rfl⟩
              replace htl3 : (T3 ++ Y3).length ≤ XEe2_1.length := by rw [hY3]; exact htl3
              simp only [List.length_append] at htl3
              repeat ((first | refine W.seqR rfl ?_ | refine W.seq ?_ | refine W.regR rfl ?_ | refine W.condK ?_ | refine W.block ?_ | refine W.skip ?_ | refine W.ret ?_ | refine W.exit ?_); try simp (maxSteps := 1000000) (disch := (first | omega | (simp only [World.size_alloc, size_wr, size_drew] <;> omega) | exact not_noB _)) only [go_sem, ↓reduceIte, n0, reduceCtorEq, n1, n2, n3, n4, n5, i0, i1, i2, i3, i4, i5, i6, i7, hv_10, hx1_10, hx2_10, hx3_10, Int.toNat_natCast, Nat.mul_one, hq1_0, hq1_1, hq1_2, hq1_3, hq1_4, hq1_5, hq2_0, hq2_1, hq2_2, hq3_0, hr1_3, hr3_0, hr3_5, hr3_6, hr3_50, hr3_49, hr3_7, hr3_9, hr3_96, hr3_95, hr3_13, hr3_15, hI3, hN3, hS3])
              refine (AppendInt32_fn _ _ _ ha10.own hB10 _ (by simp only [List.length_append, List.length_nil]; omega)).mono ?_
              rintro r11 w11 hc11
              rw [wrap32, ← hY3] at hc11
              have ha11 := ha10.trans hc11
              have hB11 : B ≤ w11.heap.size := Nat.le_trans hB ha11.upd.size
              have hv_11 := ha11.upd.blk_some hv hdv
              have hx1_11 := ha11.upd.blk_some hx1 hnx1
              have hx2_11 := ha11.upd.blk_some hx2 hnx2
              have hx3_11 := ha11.upd.blk_some hx3 hnx3
              repeat ((first | refine W.seqR rfl ?_ | refine W.seq ?_ | refine W.regR rfl ?_ | refine W.condK ?_ | refine W.block ?_ | refine W.skip ?_ | refine W.ret ?_ | refine W.exit ?_); try simp (maxSteps := 1000000) (disch := (first | omega | (simp only [World.size_alloc, size_wr, size_drew] <;> omega) | exact not_noB _)) only [go_sem, ↓reduceIte, n0, reduceCtorEq, n1, n2, n3, n4, n5, i0, i1, i2, i3, i4, i5, i6, i7, hr1_3, hr3_0, hr3_5, hr3_6, hr3_50, hr3_49, hr3_7, hr3_9, hr3_96, hr3_95, hr3_13, hr3_15, hI3, hN3, hS3])
              refine ⟨⟨j3 + 1, _, by omega, rfl, rfl, ha11.eqs ?_⟩, ?_⟩
              · rw [hcat3, List.flatMap_append, List.flatMap_cons, List.flatMap_nil, List.append_nil, ← hTT3, hY3]; simp only [List.append_assoc, List.append_nil, List.nil_append]
              · simp only [RowKit.intOf]; omega
            · have hjl3 : j3 = (y2.at 1).l.length := by omega
              subst hjl3
              rw [List.take_length, ← hXEe2_1] at ha10
              repeat ((first | refine W.seqR rfl ?_ | refine W.seq ?_ | refine W.regR rfl ?_ | refine W.condK ?_ | refine W.block ?_ | refine W.skip ?_ | refine W.ret ?_ | refine W.exit ?_); try simp (maxSteps := 1000000) (disch := (first | omega | (simp only [World.size_alloc, size_wr, size_drew] <;> omega) | exact not_noB _)) only [go_sem, ↓reduceIte, n0, reduceCtorEq, n1, n2, n3, n4, n5, i0, i1, i2, i3, i4, i5, i6, i7, hI3, hN3])
              exact ⟨_, hr1_3, hr3_0, hr3_5, hr3_6, hr3_50, hr3_49, hr3_7, hr3_9, hr3_96, hr3_95, hr3_13, hr3_15, ha10⟩
          · rintro ρ w12 ⟨r12, hr1_4, hr4_0, hr4_5, hr4_6, hr4_50, hr4_49, hr4_7, hr4_9, hr4_96, hr4_95, hr4_13, hr4_15, ha12⟩
            have hB12 : B ≤ w12.heap.size := Nat.le_trans hB ha12.upd.size
            have hv_12 := ha12.upd.blk_some hv hdv
            have hx1_12 := ha12.upd.blk_some hx1 hnx1
            have hx2_12 := ha12.upd.blk_some hx2 hnx2
            repeat ((first | refine W.seqR rfl ?_ | refine W.seq ?_ | refine W.regR rfl ?_ | refine W.condK ?_ | refine W.block ?_ | refine W.skip ?_ | refine W.ret ?_ | refine W.exit ?_); try simp (maxSteps := 1000000) (disch := (first | omega | (simp only [World.size_alloc, size_wr, size_drew] <;> omega) | exact not_noB _)) only [go_sem, ↓reduceIte, n0, reduceCtorEq, n1, n2, n3, n4, n5, i0, i1, i2, i3, i4, i5, i6, i7, hr1_4, hr4_0, hr4_5, hr4_6, hr4_50, hr4_49, hr4_7, hr4_9, hr4_96, hr4_95, hr4_13, hr4_15])
            refine ⟨⟨j2 + 1, _, by omega, rfl, rfl, ha12.eqs ?_⟩, ?_⟩
            · rw [hcat2, List.flatMap_append, List.flatMap_cons, List.flatMap_nil, List.append_nil, ← hTT2, hPe2]; simp only [List.append_assoc, List.append_nil, List.nil_append]
            · simp only [RowKit.intOf]; omega
        · have hjl2 : j2 = (y1.at 3).l.length := by omega
          subst hjl2
          rw [List.take_length, ← hXEe1_3] at ha7
          repeat ((first | refine W.seqR rfl ?_ | refine W.seq ?_ | refine W.regR rfl ?_ | refine W.condK ?_ | refine W.block ?_ | refine W.skip ?_ | refine W.ret ?_ | refine W.exit ?_); try simp (maxSteps := 1000000) (disch := (first | omega | (simp only [World.size_alloc, size_wr, size_drew] <;> omega) | exact not_noB _)) only [go_sem, ↓reduceIte, n0, reduceCtorEq, n1, n2, n3, n4, n5, i0, i1, i2, i3, i4, i5, i6, i7, hI2, hN2])
          exact ⟨_, hr1_2, hr2_0, hr2_5, hr2_6, hr2_50, hr2_49, hr2_7, hr2_9, ha7⟩
      · rintro ρ w13 ⟨r13, hr1_5, hr5_0, hr5_5, hr5_6, hr5_50, hr5_49, hr5_7, hr5_9, ha13⟩
        have hB13 : B ≤ w13.heap.size := Nat.le_trans hB ha13.upd.size
        have hv_13 := ha13.upd.blk_some hv hdv
        have hx1_13 := ha13.upd.blk_some hx1 hnx1
        repeat ((first | refine W.seqR rfl ?_ | refine W.seq ?_ | refine W.regR rfl ?_ | refine W.condK ?_ | refine W.block ?_ | refine W.skip ?_ | refine W.ret ?_ | refine W.exit ?_); try simp (maxSteps := 1000000) (disch := (first | omega | (simp only [World.size_alloc, size_wr, size_drew] <;> omega) | exact not_noB _)) only [go_sem, ↓reduceIte, n0, reduceCtorEq, n1, n2, n3, n4, n5, i0, i1, i2, i3, i4, i5, i6, i7, hv_13, hx1_13, Int.toNat_natCast, Nat.mul_one, hq1_0, hq1_1, hq1_2, hq1_3, hq1_4, hq1_5, hr1_5, hr5_0, hr5_5, hr5_6, hr5_50, hr5_49, hr5_7, hr5_9])
        refine (AppendArrayLen_fn _ _ _ ha13.own hB13 (y1.at 4).l.length hlle1_4 (by simp only [List.length_append, List.length_nil]; omega)).mono ?_
        rintro r14 w14 hc14
        rw [← hXLe1_4] at hc14
        have ha14 := ha13.trans hc14
        have hB14 : B ≤ w14.heap.size := Nat.le_trans hB ha14.upd.size
        have hv_14 := ha14.upd.blk_some hv hdv
        have hx1_14 := ha14.upd.blk_some hx1 hnx1
        repeat ((first | refine W.seqR rfl ?_ | refine W.seq ?_ | refine W.regR rfl ?_ | refine W.condK ?_ | refine W.block ?_ | refine W.skip ?_ | refine W.ret ?_ | refine W.exit ?_); try simp (maxSteps := 1000000) (disch := (first | omega | (simp only [World.size_alloc, size_wr, size_drew] <;> omega) | exact not_noB _)) only [go_sem, ↓reduceIte, n0, reduceCtorEq, n1, n2, n3, n4, n5, i0, i1, i2, i3, i4, i5, i6, i7, hv_14, hx1_14, Int.toNat_natCast, Nat.mul_one, hq1_0, hq1_1, hq1_2, hq1_3, hq1_4, hq1_5, hr1_5, hr5_0, hr5_5, hr5_6, hr5_50, hr5_49, hr5_7, hr5_9])
        have hadd6 := ha14
        refine W.exitJ 6 (fun ρ w' => ∃ r, ρ 1 = r ∧ ρ 0 = .pointer (some ⟨vb, 0, none⟩) ∧ ρ 5 = .int .i16 ver ∧ ρ 6 = .bool false ∧ ρ 50 = .int .i64 j1 ∧ ρ 49 = .int .i64 (t.at 0).l.length ∧ ρ 7 = .slice (some ⟨b1, o1, none⟩) (t.at 0).l.length ac_0 ∧ ρ 9 = .pointer (some ⟨b1, o1 + j1 * 6, none⟩) ∧ AppR 5 B w v s (([] ++ XL_0 ++ T1 ++ Xe1_0 ++ Xe1_1 ++ Xe1_2 ++ XLe1_3 ++ XEe1_3 ++ XLe1_4) ++ XEe1_4) r w')
          (W.loop (fun ρ w' => ∃ (j : Nat) (r : Value), j ≤ (y1.at 4).l.length ∧ ρ 165 = .int .i64 j ∧ ρ 164 = .int .i64 (y1.at 4).l.length ∧ ρ 20 = .slice abe1_4 (y1.at 4).l.length ace1_4 ∧ ρ 1 = r ∧ ρ 0 = .pointer (some ⟨vb, 0, none⟩) ∧ ρ 5 = .int .i16 ver ∧ ρ 6 = .bool false ∧ ρ 50 = .int .i64 j1 ∧ ρ 49 = .int .i64 (t.at 0).l.length ∧ ρ 7 = .slice (some ⟨b1, o1, none⟩) (t.at 0).l.length ac_0 ∧ ρ 9 = .pointer (some ⟨b1, o1 + j1 * 6, none⟩) ∧ AppR 5 B w v s (([] ++ XL_0 ++ T1 ++ Xe1_0 ++ Xe1_1 ++ Xe1_2 ++ XLe1_3 ++ XEe1_3 ++ XLe1_4) ++ ((y1.at 4).l.take j).flatMap (fun x => partS (d + 1) fs_CreateTopicsRequestTopicConfig ver false x)) r w')
            (fun ρ _ => (y1.at 4).l.length - (RowKit.intOf (ρ 165)).toNat) ?_ ?_) ?_
        · refine ⟨0, _, Nat.zero_le _, ?_, ?_, ?_, ?_, ?_, ?_, ?_, ?_, ?_, ?_, ?_, ha14.eqs (by rw [List.take_zero, List.flatMap_nil, List.append_nil])⟩ <;> simp (maxSteps := 1000000) (disch := (first | omega | (simp only [World.size_alloc, size_wr, size_drew] <;> omega) | exact not_noB _)) only [go_sem, ↓reduceIte, n0, reduceCtorEq, n1, n2, n3, n4, n5, i0, i1, i2, i3, i4, i5, i6, i7, hr1_5, hr5_0, hr5_5, hr5_6, hr5_50, hr5_49, hr5_7, hr5_9]
          all_goals rfl
        · rintro ρ w15 ⟨j6, r15, hj6, hI6, hN6, hS6, hr1_6, hr6_0, hr6_5, hr6_6, hr6_50, hr6_49, hr6_7, hr6_9, ha15⟩
          have hB15 : B ≤ w15.heap.size := Nat.le_trans hB ha15.upd.size
          have hv_15 := ha15.upd.blk_some hv hdv
          have hx1_15 := ha15.upd.blk_some hx1 hnx1
          by_cases hlt6 : j6 < (y1.at 4).l.length
          · obtain ⟨_, b6, o6, x6, ce6, hb6, hok6, hx6, hbl6, hxs6, hxe6, hq6, hRe6⟩ := SlR.get (size := 3) (by decide) hse1_4 hlt6
            subst hb6
            have hcat6 : (y1.at 4).l.take (j6 + 1) = (y1.at 4).l.take j6 ++ [(y1.at 4).l[j6]] := List.take_succ_eq_append_getElem hlt6
            have htl6 := take_flatMap_len (y1.at 4).l (fun x => partS (d + 1) fs_CreateTopicsRequestTopicConfig ver false x) (j6 + 1)
            rw [← hXEe1_4, hcat6, List.flatMap_append, List.flatMap_cons, List.flatMap_nil, List.append_nil] at htl6
            have hge6 := (ge1_4.list rfl).2 _ (List.getElem_mem hlt6)
            generalize (y1.at 4).l[j6] = y6 at *
            have hnx6 := hd b6 hbl6 hok6
            obtain ⟨T6, hTT6⟩ : ∃ T, T = ((y1.at 4).l.take j6).flatMap (fun x => partS (d + 1) fs_CreateTopicsRequestTopicConfig ver false x) := ⟨_, rfl⟩
            rw [← hTT6] at ha15 htl6
            have hx6_15 := ha15.upd.blk_some hx6 hnx6
            replace hRe6 : RepS true (d + 1) fs_CreateTopicsRequestTopicConfig okM w y6 ce6 := Rep1_part.1 hRe6
            have hfe6 : FitP ver (d + 1) fs_CreateTopicsRequestTopicConfig y6 := hge6.2.2 rfl
            obtain ⟨⟨ge6_0, ge6_1, -⟩, hfue6⟩ := hfe6
            replace ge6_0 : FitF (FitP ver d) ver fCreateTopicsRequestTopicConfig_0 (y6.at 0) := ge6_0
            replace ge6_1 : FitF (FitP ver d) ver fCreateTopicsRequestTopicConfig_1 (y6.at 1) := ge6_1
            obtain ⟨cse6, qe6, hcse6, hLe6, hTe6⟩ := hRe6.inv
            obtain ⟨ce6_0, ee6_0, rfl, he6_0, ce6_1, ee6_1, rfl, he6_1, rfl⟩ := hLe6
            replace he6_0 : RepF (RepS true d) (szS true d) fCreateTopicsRequestTopicConfig_0 okM w (y6.at 0) ce6_0 := he6_0
            replace he6_1 : RepF (RepS true d) (szS true d) fCreateTopicsRequestTopicConfig_1 okM w (y6.at 1) ce6_1 := he6_1
            obtain rfl := (RepF_text rfl (by decide)).1 he6_0
            obtain ⟨pe6_1, rfl, hpe6_1⟩ := (RepF_ptr rfl (by decide)).1 he6_1
            obtain ⟨qme6, rfl⟩ := hTe6.shape
            subst hcse6
            have hq6_0 : x6.1[o6 + j6 * 3]? = some (strV (y6.at 0).s) := hq6 0 (by decide)
            have hq6_1 : x6.1[o6 + (j6 * 3 + 1)]? = some (pe6_1) := hq6 1 (by decide)
            have hq6_2 : x6.1[o6 + (j6 * 3 + 2)]? = some (.map qme6) := hq6 2 (by decide)
            have hhe6_0 : hasS fCreateTopicsRequestTopicConfig_0 ver = true := hasS_t (by show (0 : Int) ≤ ver; omega) (by show (-1 : Int) < 0 ∨ ver ≤ (-1 : Int); omega)
            obtain ⟨Xe6_0, hXXe6_0⟩ : ∃ X, X = fixedS (y6.at 0).s.length 2 ++ (y6.at 0).s := ⟨_, rfl⟩
            have hhe6_1 : hasS fCreateTopicsRequestTopicConfig_1 ver = true := hasS_t (by show (0 : Int) ≤ ver; omega) (by show (-1 : Int) < 0 ∨ ver ≤ (-1 : Int); omega)
            obtain ⟨Xe6_1, hXXe6_1⟩ : ∃ X, X = if (y6.at 1).null = true then fixedS (-1) 2 else fixedS (y6.at 1).s.length 2 ++ (y6.at 1).s := ⟨_, rfl⟩
            have hPe6 : partS (d + 1) fs_CreateTopicsRequestTopicConfig ver false y6 = Xe6_0 ++ (Xe6_1 ++ []) := partS_no (plainL_has (by decide) hhe6_0 ((fieldS_text_f ge6_0 rfl (by decide)).trans hXXe6_0.symm) (plainL_has (by decide) hhe6_1 ((fieldS_ptr_f ge6_1 rfl).trans hXXe6_1.symm) rfl))
            rw [hPe6] at htl6
            simp only [List.length_append, List.length_nil] at htl6
            repeat ((first | refine W.seqR rfl ?_ | refine W.seq ?_ | refine W.regR rfl ?_ | refine W.condK ?_ | refine W.block ?_ | refine W.skip ?_ | refine W.ret ?_ | refine W.exit ?_); try simp (maxSteps := 1000000) (disch := (first | omega | (simp only [World.size_alloc, size_wr, size_drew] <;> omega) | exact not_noB _)) only [go_sem, ↓reduceIte, n0, reduceCtorEq, n1, n2, n3, n4, n5, i0, i1, i2, i3, i4, i5, i6, i7, hv_15, hx1_15, hx6_15, Int.toNat_natCast, Nat.mul_one, hq1_0, hq1_1, hq1_2, hq1_3, hq1_4, hq1_5, hq6_0, hq6_1, hq6_2, hr1_6, hr6_0, hr6_5, hr6_6, hr6_50, hr6_49, hr6_7, hr6_9, hI6, hN6, hS6])
            refine (AppendString_fn _ _ _ ha15.own hB15 (y6.at 0).s (ge6_0.text (.inl rfl)) (by simp only [List.length_append, List.length_nil]; omega)).mono ?_
            rintro r16 w16 hc16
            rw [← hXXe6_0] at hc16
            have ha16 := ha15.trans hc16
            have hB16 : B ≤ w16.heap.size := Nat.le_trans hB ha16.upd.size
            have hv_16 := ha16.upd.blk_some hv hdv
            have hx1_16 := ha16.upd.blk_some hx1 hnx1
            have hx6_16 := ha16.upd.blk_some hx6 hnx6
            repeat ((first | refine W.seqR rfl ?_ | refine W.seq ?_ | refine W.regR rfl ?_ | refine W.condK ?_ | refine W.block ?_ | refine W.skip ?_ | refine W.ret ?_ | refine W.exit ?_); try simp (maxSteps := 1000000) (disch := (first | omega | (simp only [World.size_alloc, size_wr, size_drew] <;> omega) | exact not_noB _)) only [go_sem, ↓reduceIte, n0, reduceCtorEq, n1, n2, n3, n4, n5, i0, i1, i2, i3, i4, i5, i6, i7, hv_16, hx1_16, hx6_16, Int.toNat_natCast, Nat.mul_one, hq1_0, hq1_1, hq1_2, hq1_3, hq1_4, hq1_5, hq6_0, hq6_1, hq6_2, hr1_6, hr6_0, hr6_5, hr6_6, hr6_50, hr6_49, hr6_7, hr6_9, hI6, hN6, hS6])
            refine (AppendNullableString_fn (ok := okM) _ _ _ ha16.own hB16 _ (y6.at 1).null (y6.at 1).s (hpe6_1.keep (ha16.upd.keeps hd)) (ge6_1.text (.inl rfl)) (by simp only [List.length_append, List.length_nil]; omega)).mono ?_
            rintro r17 w17 hc17
            rw [← hXXe6_1] at hc17
            have ha17 := ha16.trans hc17
            have hB17 : B ≤ w17.heap.size := Nat.le_trans hB ha17.upd.size
            have hv_17 := ha17.upd.blk_some hv hdv
            have hx1_17 := ha17.upd.blk_some hx1 hnx1
            have hx6_17 := ha17.upd.blk_some hx6 hnx6
            repeat ((first | refine W.seqR rfl ?_ | refine W.seq ?_ | refine W.regR rfl ?_ | refine W.condK ?_ | refine W.block ?_ | refine W.skip ?_ | refine W.ret ?_ | refine W.exit ?_); try simp (maxSteps := 1000000) (disch := (first | omega | (simp only [World.size_alloc, size_wr, size_drew] <;> omega) | exact not_noB _)) only [go_sem, ↓reduceIte, n0, reduceCtorEq, n1, n2, n3, n4, n5, i0, i1, i2, i3, i4, i5, i6, i7, hr1_6, hr6_0, hr6_5, hr6_6, hr6_50, hr6_49, hr6_7, hr6_9, hI6, hN6, hS6])
            refine ⟨⟨j6 + 1, _, by omega, rfl, rfl, ha17.eqs ?_⟩, ?_⟩
            · rw [hcat6, List.flatMap_append, List.flatMap_cons, List.flatMap_nil, List.append_nil, ← hTT6, hPe6]; simp only [List.append_assoc, List.append_nil, List.nil_append]
            · simp only [RowKit.intOf]; omega
          · have hjl6 : j6 = (y1.at 4).l.length := by omega
            subst hjl6
            rw [List.take_length, ← hXEe1_4] at ha15
            repeat ((first | refine W.seqR rfl ?_ | refine W.seq ?_ | refine W.regR rfl ?_ | refine W.condK ?_ | refine W.block ?_ | refine W.skip ?_ | refine W.ret ?_ | refine W.exit ?_); try simp (maxSteps := 1000000) (disch := (first | omega | (simp only [World.size_alloc, size_wr, size_drew] <;> omega) | exact not_noB _)) only [go_sem, ↓reduceIte, n0, reduceCtorEq, n1, n2, n3, n4, n5, i0, i1, i2, i3, i4, i5, i6, i7, hI6, hN6])
            exact ⟨_, hr1_6, hr6_0, hr6_5, hr6_6, hr6_50, hr6_49, hr6_7, hr6_9, ha15⟩
        · rintro ρ w18 ⟨r18, hr1_7, hr7_0, hr7_5, hr7_6, hr7_50, hr7_49, hr7_7, hr7_9, ha18⟩
          have hB18 : B ≤ w18.heap.size := Nat.le_trans hB ha18.upd.size
          have hv_18 := ha18.upd.blk_some hv hdv
          have hx1_18 := ha18.upd.blk_some hx1 hnx1
          repeat ((first | refine W.seqR rfl ?_ | refine W.seq ?_ | refine W.regR rfl ?_ | refine W.condK ?_ | refine W.block ?_ | refine W.skip ?_ | refine W.ret ?_ | refine W.exit ?_); try simp (maxSteps := 1000000) (disch := (first | omega | (simp only [World.size_alloc, size_wr, size_drew] <;> omega) | exact not_noB _)) only [go_sem, ↓reduceIte, n0, reduceCtorEq, n1, n2, n3, n4, n5, i0, i1, i2, i3, i4, i5, i6, i7, hr1_7, hr7_0, hr7_5, hr7_6, hr7_50, hr7_49, hr7_7, hr7_9])
          refine ⟨⟨j1 + 1, _, by omega, rfl, rfl, ha18.eqs ?_⟩, ?_⟩
          · rw [hcat1, List.flatMap_append, List.flatMap_cons, List.flatMap_nil, List.append_nil, ← hTT1, hPe1]; simp only [List.append_assoc, List.append_nil, List.nil_append]
          · simp only [RowKit.intOf]; omega
    · have hjl1 : j1 = (t.at 0).l.length := by omega
      subst hjl1
      rw [List.take_length, ← hXE_0] at ha2
      repeat ((first | refine W.seqR rfl ?_ | refine W.seq ?_ | refine W.regR rfl ?_ | refine W.condK ?_ | refine W.block ?_ | refine W.skip ?_ | refine W.ret ?_ | refine W.exit ?_); try simp (maxSteps := 1000000) (disch := (first | omega | (simp only [World.size_alloc, size_wr, size_drew] <;> omega) | exact not_noB _)) only [go_sem, ↓reduceIte, n0, reduceCtorEq, n1, n2, n3, n4, n5, i0, i1, i2, i3, i4, i5, i6, i7, hI1, hN1])
      exact ⟨_, hr1_1, hr1_0, hr1_5, hr1_6, ha2⟩
  · rintro ρ w19 ⟨r19, hr1_8, hr8_0, hr8_5, hr8_6, ha19⟩
    have hB19 : B ≤ w19.heap.size := Nat.le_trans hB ha19.upd.size
    have hv_19 := ha19.upd.blk_some hv hdv
    repeat ((first | refine W.seqR rfl ?_ | refine W.seq ?_ | refine W.regR rfl ?_ | refine W.condK ?_ | refine W.block ?_ | refine W.skip ?_ | refine W.ret ?_ | refine W.exit ?_); try simp (maxSteps := 1000000) (disch := (first | omega | (simp only [World.size_alloc, size_wr, size_drew] <;> omega) | exact not_noB _)) only [go_sem, ↓reduceIte, n0, reduceCtorEq, n1, n2, n3, n4, n5, i0, i1, i2, i3, i4, i5, i6, i7, hv_19, hr1_8, hr8_0, hr8_5, hr8_6])
    refine (AppendInt32_fn _ _ _ ha19.own hB19 _ (by simp only [List.length_append, List.length_nil]; omega)).mono ?_
    rintro r20 w20 hc20
    rw [wrap32, ← hXX_1] at hc20
    have ha20 := ha19.trans hc20
    have hB20 : B ≤ w20.heap.size := Nat.le_trans hB ha20.upd.size
    have hv_20 := ha20.upd.blk_some hv hdv
    repeat ((first | refine W.seqR rfl ?_ | refine W.seq ?_ | refine W.regR rfl ?_ | refine W.condK ?_ | refine W.block ?_ | refine W.skip ?_ | refine W.ret ?_ | refine W.exit ?_); try simp (maxSteps := 1000000) (disch := (first | omega | (simp only [World.size_alloc, size_wr, size_drew] <;> omega) | exact not_noB _)) only [go_sem, ↓reduceIte, n0, reduceCtorEq, n1, n2, n3, n4, n5, i0, i1, i2, i3, i4, i5, i6, i7, hv_20, hr1_8, hr8_0, hr8_5, hr8_6])
    refine (AppendBool_fn _ _ _ ha20.own hB20 _ (by simp only [List.length_append, List.length_nil]; omega)).mono ?_
    rintro r21 w21 hc21
    rw [← hXX_2] at hc21
    have ha21 := ha20.trans hc21
    have hB21 : B ≤ w21.heap.size := Nat.le_trans hB ha21.upd.size
    have hv_21 := ha21.upd.blk_some hv hdv
    repeat ((first | refine W.seqR rfl ?_ | refine W.seq ?_ | refine W.regR rfl ?_ | refine W.condK ?_ | refine W.block ?_ | refine W.skip ?_ | refine W.ret ?_ | refine W.exit ?_); try simp (maxSteps := 1000000) (disch := (first | omega | (simp only [World.size_alloc, size_wr, size_drew] <;> omega) | exact not_noB _)) only [go_sem, ↓reduceIte, n0, reduceCtorEq, n1, n2, n3, n4, n5, i0, i1, i2, i3, i4, i5, i6, i7, hv_21, hr1_8, hr8_0, hr8_5, hr8_6])
    refine ha21.eqs ?_
    rw [hP]; simp only [List.append_assoc, List.append_nil, List.nil_append]
end Ms

