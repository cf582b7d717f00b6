/- A part of the proof: see the last text. -/
import Derived.Test.YtaebchgadbafjaaC08
import Derived.Test.YtaebchgadbafjaaBeginQuorumEpochRequestP0
import Derived.Test.YtaebchgadbafjaaBeginQuorumEpochRequestP1
set_option linter.unusedSimpArgs false
set_option linter.unusedVariables false
namespace Ms
open Nat renaming reduceEqDiff → n0, reduceAdd → n1, reduceMul → n2, reduceSub → n3, reduceLT → n4, reduceLeDiff → n5
open Int renaming reduceEq → i0, reduceLT → i1, reduceLE → i2, reduceNeg → i3, reduceAdd → i4, reduceSub → i5, reduceMul → i6, reduceToNat → i7
set_option maxRecDepth 8000
open Go Go.Proofs Go.Shelf
attribute [local congr] W_congr WPsq_congr WPp_congr optK_congr addrK_congr intK_congr boolK_congr sliceK_congr tupleK_congr funcK_congr Fn_congr rawK_congr takeK_congr stepK_congr convK_congr aggK_congr

set_option maxHeartbeats 4000000 in
theorem cBeginQuorumEpochRequestTopicPartition_fn (w : World) : Fn Try.prog 161 #[] w fun r w' => FldsV (fun b => w.heap.size ≤ b) w' r fs_BeginQuorumEpochRequestTopicPartition ∧ Ext w w' := by
  refine fn_of_W Try.func161 rfl Try.results161 Try.ntmps161 rfl ?_
  repeat ((first | refine W.seqR rfl ?_ | refine W.seq ?_ | refine W.regR rfl ?_ | refine W.condK ?_ | refine W.block ?_ | refine W.skip ?_ | refine W.ret ?_ | refine W.exit ?_); try simp (maxSteps := 1000000) (disch := (first | omega | (simp only [World.size_alloc, size_wr, size_drew] <;> omega) | exact not_noB _)) only [go_sem, ↓reduceIte, n0, reduceCtorEq, n1, n2, n3, n4, n5, i0, i1, i2, i3, i4, i5, i6, i7, fill_fld, fillN_nil, fillN_int, fillN_slice])
  repeat ((first | refine W.seqR rfl ?_ | refine W.seq ?_ | refine W.regR rfl ?_ | refine W.condK ?_ | refine W.block ?_ | refine W.skip ?_ | refine W.ret ?_ | refine W.exit ?_); try simp (maxSteps := 1000000) (disch := (first | omega | (simp only [World.size_alloc, size_wr, size_drew] <;> omega) | exact not_noB _)) only [go_sem, ↓reduceIte, n0, reduceCtorEq, n1, n2, n3, n4, n5, i0, i1, i2, i3, i4, i5, i6, i7, fill_fld, fillN_nil, fillN_int, fillN_slice])
  exact ⟨FldsV.litO (fs := fs_BeginQuorumEpochRequestTopicPartition) (css := [[.int .i64 3, .int .i64 0, .int .i64 (-1), .int .i64 (-1), .int .i64 (-1), .int .i64 0, .int .i64 0, .slice none 0 0], [.int .i64 7, .int .i64 1, .int .i64 (-1), .int .i64 (-1), .int .i64 (-1), .int .i64 0, .int .i64 0, .slice none 0 0], [.int .i64 3, .int .i64 0, .int .i64 (-1), .int .i64 (-1), .int .i64 (-1), .int .i64 0, .int .i64 0, .slice none 0 0], [.int .i64 3, .int .i64 0, .int .i64 (-1), .int .i64 (-1), .int .i64 (-1), .int .i64 0, .int .i64 0, .slice none 0 0]]) (T := 50) (fr := (0, 0)) (by first | omega | (simp only [World.size_alloc]; omega)) (by first | (simp (maxSteps := 1000000) (disch := (first | omega | (simp only [World.size_alloc, size_wr, size_drew] <;> omega) | exact not_noB _)) only [go_sem, ↓reduceIte, n0, reduceCtorEq, n1, n2, n3, n4, n5, i0, i1, i2, i3, i4, i5, i6, i7]; rfl) | rfl) (by simp) (All2.cons (FldC.intro (kind := 3) (FldsV.none _ _)) (All2.cons (FldC.intro (kind := 7) (FldsV.none _ _)) (All2.cons (FldC.intro (kind := 3) (FldsV.none _ _)) (All2.cons (FldC.intro (kind := 3) (FldsV.none _ _)) All2.nil)))), (Upd.alloc (Upd.refl _ w) _)⟩

set_option maxHeartbeats 4000000 in
theorem cBeginQuorumEpochRequestTopic_fn (w : World) : Fn Try.prog 103 #[] w fun r w' => FldsV (fun b => w.heap.size ≤ b) w' r fs_BeginQuorumEpochRequestTopic ∧ Ext w w' := by
  refine fn_of_W Try.func103 rfl Try.results103 Try.ntmps103 rfl ?_
  repeat ((first | refine W.seqR rfl ?_ | refine W.seq ?_ | refine W.regR rfl ?_ | refine W.condK ?_ | refine W.block ?_ | refine W.skip ?_ | refine W.ret ?_ | refine W.exit ?_); try simp (maxSteps := 1000000) (disch := (first | omega | (simp only [World.size_alloc, size_wr, size_drew] <;> omega) | exact not_noB _)) only [go_sem, ↓reduceIte, n0, reduceCtorEq, n1, n2, n3, n4, n5, i0, i1, i2, i3, i4, i5, i6, i7, fill_fld, fillN_nil, fillN_int, fillN_slice])
  refine (cBeginQuorumEpochRequestTopicPartition_fn _).mono ?_
  rintro r1 w1 ⟨hF1, hE1⟩
  obtain ⟨b1, k1, rfl, _⟩ := SlR.shape hF1
  have hz1 := hE1.size
  have hD1 : Ext w w1 := Upd.trans (Upd.refl _ w) hE1
  simp (maxSteps := 1000000) (disch := (first | omega | (simp only [World.size_alloc, size_wr, size_drew] <;> omega) | exact not_noB _)) only [go_sem, ↓reduceIte, n0, reduceCtorEq, n1, n2, n3, n4, n5, i0, i1, i2, i3, i4, i5, i6, i7, fill_fld, fillN_nil, fillN_int, fillN_slice]
  repeat ((first | refine W.seqR rfl ?_ | refine W.seq ?_ | refine W.regR rfl ?_ | refine W.condK ?_ | refine W.block ?_ | refine W.skip ?_ | refine W.ret ?_ | refine W.exit ?_); try simp (maxSteps := 1000000) (disch := (first | omega | (simp only [World.size_alloc, size_wr, size_drew] <;> omega) | exact not_noB _)) only [go_sem, ↓reduceIte, n0, reduceCtorEq, n1, n2, n3, n4, n5, i0, i1, i2, i3, i4, i5, i6, i7, fill_fld, fillN_nil, fillN_int, fillN_slice])
  exact ⟨FldsV.litO (fs := fs_BeginQuorumEpochRequestTopic) (css := [[.int .i64 8, .int .i64 0, .int .i64 (-1), .int .i64 (-1), .int .i64 (-1), .int .i64 0, .int .i64 0, .slice none 0 0], [.int .i64 11, .int .i64 0, .int .i64 (-1), .int .i64 (-1), .int .i64 (-1), .int .i64 0, .int .i64 10, .slice b1 fs_BeginQuorumEpochRequestTopicPartition.length k1]]) (T := 50) (fr := (0, 0)) (by first | omega | (simp only [World.size_alloc]; omega)) (by first | (simp (maxSteps := 1000000) (disch := (first | omega | (simp only [World.size_alloc, size_wr, size_drew] <;> omega) | exact not_noB _)) only [go_sem, ↓reduceIte, n0, reduceCtorEq, n1, n2, n3, n4, n5, i0, i1, i2, i3, i4, i5, i6, i7]; rfl) | rfl) (by simp) (All2.cons (FldC.intro (kind := 8) (FldsV.none _ _)) (All2.cons (FldC.intro (kind := 11) ((hF1.keep (Upd.keeps (S := fun _ => False) (Upd.alloc (Upd.refl _ _) _) fun _ _ _ h => h)).weaken fun b _ hb => by have hq : _ ≤ b := hb; omega)) All2.nil)), (Upd.alloc hD1 _)⟩

set_option maxHeartbeats 4000000 in
theorem cBeginQuorumEpochRequestLeaderEndpoint_fn (w : World) : Fn Try.prog 104 #[] w fun r w' => FldsV (fun b => w.heap.size ≤ b) w' r fs_BeginQuorumEpochRequestLeaderEndpoint ∧ Ext w w' := by
  refine fn_of_W Try.func104 rfl Try.results104 Try.ntmps104 rfl ?_
  repeat ((first | refine W.seqR rfl ?_ | refine W.seq ?_ | refine W.regR rfl ?_ | refine W.condK ?_ | refine W.block ?_ | refine W.skip ?_ | refine W.ret ?_ | refine W.exit ?_); try simp (maxSteps := 1000000) (disch := (first | omega | (simp only [World.size_alloc, size_wr, size_drew] <;> omega) | exact not_noB _)) only [go_sem, ↓reduceIte, n0, reduceCtorEq, n1, n2, n3, n4, n5, i0, i1, i2, i3, i4, i5, i6, i7, fill_fld, fillN_nil, fillN_int, fillN_slice])
  repeat ((first | refine W.seqR rfl ?_ | refine W.seq ?_ | refine W.regR rfl ?_ | refine W.condK ?_ | refine W.block ?_ | refine W.skip ?_ | refine W.ret ?_ | refine W.exit ?_); try simp (maxSteps := 1000000) (disch := (first | omega | (simp only [World.size_alloc, size_wr, size_drew] <;> omega) | exact not_noB _)) only [go_sem, ↓reduceIte, n0, reduceCtorEq, n1, n2, n3, n4, n5, i0, i1, i2, i3, i4, i5, i6, i7, fill_fld, fillN_nil, fillN_int, fillN_slice])
  exact ⟨FldsV.litO (fs := fs_BeginQuorumEpochRequestLeaderEndpoint) (css := [[.int .i64 8, .int .i64 0, .int .i64 (-1), .int .i64 (-1), .int .i64 (-1), .int .i64 0, .int .i64 0, .slice none 0 0], [.int .i64 8, .int .i64 0, .int .i64 (-1), .int .i64 (-1), .int .i64 (-1), .int .i64 0, .int .i64 0, .slice none 0 0], [.int .i64 5, .int .i64 0, .int .i64 (-1), .int .i64 (-1), .int .i64 (-1), .int .i64 0, .int .i64 0, .slice none 0 0]]) (T := 50) (fr := (0, 0)) (by first | omega | (simp only [World.size_alloc]; omega)) (by first | (simp (maxSteps := 1000000) (disch := (first | omega | (simp only [World.size_alloc, size_wr, size_drew] <;> omega) | exact not_noB _)) only [go_sem, ↓reduceIte, n0, reduceCtorEq, n1, n2, n3, n4, n5, i0, i1, i2, i3, i4, i5, i6, i7]; rfl) | rfl) (by simp) (All2.cons (FldC.intro (kind := 8) (FldsV.none _ _)) (All2.cons (FldC.intro (kind := 8) (FldsV.none _ _)) (All2.cons (FldC.intro (kind := 5) (FldsV.none _ _)) All2.nil))), (Upd.alloc (Upd.refl _ w) _)⟩

set_option maxHeartbeats 4000000 in
theorem cBeginQuorumEpochRequest_fn (w : World) : Fn Try.prog 44 #[] w fun r w' => (∃ vs, r = .agg #[vs, .int .i64 1] ∧ FldsV (fun b => w.heap.size ≤ b) w' vs fs_BeginQuorumEpochRequest) ∧ Ext w w' := by
  refine fn_of_W Try.func44 rfl Try.results44 Try.ntmps44 rfl ?_
  repeat ((first | refine W.seqR rfl ?_ | refine W.seq ?_ | refine W.regR rfl ?_ | refine W.condK ?_ | refine W.block ?_ | refine W.skip ?_ | refine W.ret ?_ | refine W.exit ?_); try simp (maxSteps := 1000000) (disch := (first | omega | (simp only [World.size_alloc, size_wr, size_drew] <;> omega) | exact not_noB _)) only [go_sem, ↓reduceIte, n0, reduceCtorEq, n1, n2, n3, n4, n5, i0, i1, i2, i3, i4, i5, i6, i7, fill_fld, fillN_nil, fillN_int, fillN_slice])
  have hz0 : (w.alloc (.cells #[.slice none 0 0, .int .i64 0] 31)).heap.size = w.heap.size + 1 := World.size_alloc _ _
  refine (cBeginQuorumEpochRequestTopic_fn _).mono ?_
  rintro r1 w1 ⟨hF1, hE1⟩
  obtain ⟨b1, k1, rfl, _⟩ := SlR.shape hF1
  have hz1 := hE1.size
  have hD1 : Ext w w1 := Upd.trans (Upd.alloc (Upd.refl _ _) _) hE1
  have hb1 : blk w1 w.heap.size = some (#[.slice none 0 0, .int .i64 0], 31, (0, 0)) := hE1.blk_some (blk_alloc_new rfl) id
  simp (maxSteps := 1000000) (disch := (first | omega | (simp only [World.size_alloc, size_wr, size_drew] <;> omega) | exact not_noB _)) only [go_sem, ↓reduceIte, n0, reduceCtorEq, n1, n2, n3, n4, n5, i0, i1, i2, i3, i4, i5, i6, i7, fill_fld, fillN_nil, fillN_int, fillN_slice, hb1]
  refine (cBeginQuorumEpochRequestLeaderEndpoint_fn _).mono ?_
  rintro r2 w2 ⟨hF2, hE2⟩
  obtain ⟨b2, k2, rfl, _⟩ := SlR.shape hF2
  have hz2 := hE2.size
  have hD2 : Ext w w2 := Upd.trans hD1 hE2
  have hb2 : blk w2 w.heap.size = some (#[.slice none 0 0, .int .i64 0], 31, (0, 0)) := hE2.blk_some hb1 id
  simp (maxSteps := 1000000) (disch := (first | omega | (simp only [World.size_alloc, size_wr, size_drew] <;> omega) | exact not_noB _)) only [go_sem, ↓reduceIte, n0, reduceCtorEq, n1, n2, n3, n4, n5, i0, i1, i2, i3, i4, i5, i6, i7, fill_fld, fillN_nil, fillN_int, fillN_slice, hb2]
  have hvl := blk_lt hb2
  repeat ((first | refine W.seqR rfl ?_ | refine W.seq ?_ | refine W.regR rfl ?_ | refine W.condK ?_ | refine W.block ?_ | refine W.skip ?_ | refine W.ret ?_ | refine W.exit ?_); try simp (maxSteps := 1000000) (disch := (first | omega | (simp only [World.size_alloc, size_wr, size_drew] <;> omega) | exact not_noB _)) only [go_sem, ↓reduceIte, n0, reduceCtorEq, n1, n2, n3, n4, n5, i0, i1, i2, i3, i4, i5, i6, i7, fill_fld, fillN_nil, fillN_int, fillN_slice, hb2])
  exact ⟨⟨_, rfl, FldsV.litO (fs := fs_BeginQuorumEpochRequest) (css := [[.int .i64 8, .int .i64 0, .int .i64 (-1), .int .i64 0, .int .i64 (-1), .int .i64 0, .int .i64 0, .slice none 0 0], [.int .i64 3, .int .i64 1, .int .i64 (-1), .int .i64 (-1), .int .i64 (-1), .int .i64 (-1), .int .i64 0, .slice none 0 0], [.int .i64 11, .int .i64 0, .int .i64 (-1), .int .i64 (-1), .int .i64 (-1), .int .i64 0, .int .i64 10, .slice b1 fs_BeginQuorumEpochRequestTopic.length k1], [.int .i64 11, .int .i64 1, .int .i64 (-1), .int .i64 (-1), .int .i64 (-1), .int .i64 0, .int .i64 10, .slice b2 fs_BeginQuorumEpochRequestLeaderEndpoint.length k2]]) (T := 50) (fr := (0, 0)) (by first | omega | (simp only [World.size_alloc]; omega)) (by first | (simp (maxSteps := 1000000) (disch := (first | omega | (simp only [World.size_alloc, size_wr, size_drew] <;> omega) | exact not_noB _)) only [go_sem, ↓reduceIte, n0, reduceCtorEq, n1, n2, n3, n4, n5, i0, i1, i2, i3, i4, i5, i6, i7]; rfl) | rfl) (by simp) (All2.cons (FldC.intro (kind := 8) (FldsV.none _ _)) (All2.cons (FldC.intro (kind := 3) (FldsV.none _ _)) (All2.cons (FldC.intro (kind := 11) (hF1.stay (B := w.heap.size) (Upd.trans (hE2.mono fun _ h => h.elim) (Upd.wr (Upd.alloc (Upd.refl _ _) _) _ _ (.inr rfl))) (by omega) (fun b hb => by omega))) (All2.cons (FldC.intro (kind := 11) (hF2.stay (B := w.heap.size) (Upd.wr (Upd.alloc (Upd.refl _ _) _) _ _ (.inr rfl)) (by omega) (fun b hb => by omega))) All2.nil))))⟩, (Upd.wr (Upd.alloc hD2 _) _ _ (.inl (Nat.le_refl _)))⟩

theorem DefaultBeginQuorumEpochRequest_fn (w : World) {vb : Nat} {c0 c1 c2 c3 c4 c5 : Value} (hb : blk w vb = some (#[c0, c1, c2, c3, c4, c5], 117, (0, 0))) :
    Fn Try.prog 160 #[.pointer (some ⟨vb, 0, none⟩)] w fun _ w' => blk w' vb = some (#[c0, c1, .int .i32 (-1), c3, c4, c5], 117, (0, 0)) ∧ Upd (fun b => b = vb) w w' := by
  have hvl := blk_lt hb
  refine fn_of_W Try.func160 rfl Try.results160 Try.ntmps160 rfl ?_
  repeat ((first | refine W.seqR rfl ?_ | refine W.seq ?_ | refine W.regR rfl ?_ | refine W.condK ?_ | refine W.block ?_ | refine W.skip ?_ | refine W.ret ?_ | refine W.exit ?_); try simp (maxSteps := 1000000) (disch := (first | omega | (simp only [World.size_alloc, size_wr, size_drew] <;> omega) | exact not_noB _)) only [go_sem, ↓reduceIte, n0, reduceCtorEq, n1, n2, n3, n4, n5, i0, i1, i2, i3, i4, i5, i6, i7, hb])
  first | exact (Upd.wr (Upd.refl _ _) _ _ (.inr rfl)) | exact ⟨by simp (maxSteps := 1000000) (disch := (first | omega | (simp only [World.size_alloc, size_wr, size_drew] <;> omega) | exact not_noB _)) only [go_sem, ↓reduceIte, n0, reduceCtorEq, n1, n2, n3, n4, n5, i0, i1, i2, i3, i4, i5, i6, i7, hb], (Upd.wr (Upd.refl _ _) _ _ (.inr rfl))⟩

theorem NewPtrBeginQuorumEpochRequest_fn (w : World) : Fn Try.prog 101 #[] w fun r w' => r = .pointer (some ⟨w.heap.size, 0, none⟩) ∧ blk w' w.heap.size = some (#[.int .i16 0, .pointer none, .int .i32 (-1), .slice none 0 0, .slice none 0 0, .map none], 117, (0, 0)) ∧ Ext w w' := by
  refine fn_of_W Try.func101 rfl Try.results101 Try.ntmps101 rfl ?_
  repeat ((first | refine W.seqR rfl ?_ | refine W.seq ?_ | refine W.regR rfl ?_ | refine W.condK ?_ | refine W.block ?_ | refine W.skip ?_ | refine W.ret ?_ | refine W.exit ?_); try simp (maxSteps := 1000000) (disch := (first | omega | (simp only [World.size_alloc, size_wr, size_drew] <;> omega) | exact not_noB _)) only [go_sem, ↓reduceIte, n0, reduceCtorEq, n1, n2, n3, n4, n5, i0, i1, i2, i3, i4, i5, i6, i7])
  refine (DefaultBeginQuorumEpochRequest_fn _ (blk_alloc_new rfl)).mono ?_
  rintro _ w1 ⟨hb1, hU1⟩
  have hz := World.size_alloc w (.cells #[.int .i16 0, .pointer none, .int .i32 0, .slice none 0 0, .slice none 0 0, .map none] 117)
  repeat ((first | refine W.seqR rfl ?_ | refine W.seq ?_ | refine W.regR rfl ?_ | refine W.condK ?_ | refine W.block ?_ | refine W.skip ?_ | refine W.ret ?_ | refine W.exit ?_); try simp (maxSteps := 1000000) (disch := (first | omega | (simp only [World.size_alloc, size_wr, size_drew] <;> omega) | exact not_noB _)) only [go_sem, ↓reduceIte, n0, reduceCtorEq, n1, n2, n3, n4, n5, i0, i1, i2, i3, i4, i5, i6, i7])
  exact ⟨hb1, (Upd.alloc (Upd.refl _ _) _ : Ext w _).more hU1 fun b hb h => by omega⟩

theorem SetVersionBeginQuorumEpochRequest_fn (w : World) {vb : Nat} {c0 c1 c2 c3 c4 c5 : Value} (n : Int) (hb : blk w vb = some (#[c0, c1, c2, c3, c4, c5], 117, (0, 0))) :
    Fn Try.prog 105 #[.pointer (some ⟨vb, 0, none⟩), .int .i16 n] w fun _ w' => blk w' vb = some (#[.int .i16 n, c1, c2, c3, c4, c5], 117, (0, 0)) ∧ Upd (fun b => b = vb) w w' := by
  have hvl := blk_lt hb
  refine fn_of_W Try.func105 rfl Try.results105 Try.ntmps105 rfl ?_
  repeat ((first | refine W.seqR rfl ?_ | refine W.seq ?_ | refine W.regR rfl ?_ | refine W.condK ?_ | refine W.block ?_ | refine W.skip ?_ | refine W.ret ?_ | refine W.exit ?_); try simp (maxSteps := 1000000) (disch := (first | omega | (simp only [World.size_alloc, size_wr, size_drew] <;> omega) | exact not_noB _)) only [go_sem, ↓reduceIte, n0, reduceCtorEq, n1, n2, n3, n4, n5, i0, i1, i2, i3, i4, i5, i6, i7, hb])
  first | exact Upd.wr (Upd.refl _ _) _ _ (.inr rfl) | exact ⟨by simp (maxSteps := 1000000) (disch := (first | omega | (simp only [World.size_alloc, size_wr, size_drew] <;> omega) | exact not_noB _)) only [go_sem, ↓reduceIte, n0, reduceCtorEq, n1, n2, n3, n4, n5, i0, i1, i2, i3, i4, i5, i6, i7, hb], Upd.wr (Upd.refl _ _) _ _ (.inr rfl)⟩

theorem MaxBeginQuorumEpochRequest_fn (w : World) : Fn Try.prog 43 #[] w fun r w' => r = .int .i64 1 ∧ Ext w w' := by
  refine fn_of_W Try.func43 rfl Try.results43 Try.ntmps43 rfl ?_
  repeat ((first | refine W.seqR rfl ?_ | refine W.seq ?_ | refine W.regR rfl ?_ | refine W.condK ?_ | refine W.block ?_ | refine W.skip ?_ | refine W.ret ?_ | refine W.exit ?_); try simp (maxSteps := 1000000) (disch := (first | omega | (simp only [World.size_alloc, size_wr, size_drew] <;> omega) | exact not_noB _)) only [go_sem, ↓reduceIte, n0, reduceCtorEq, n1, n2, n3, n4, n5, i0, i1, i2, i3, i4, i5, i6, i7])
  refine (NewPtrBeginQuorumEpochRequest_fn w).mono ?_
  rintro _ w1 ⟨rfl, hb1, hE1⟩
  repeat ((first | refine W.seqR rfl ?_ | refine W.seq ?_ | refine W.regR rfl ?_ | refine W.condK ?_ | refine W.block ?_ | refine W.skip ?_ | refine W.ret ?_ | refine W.exit ?_); try simp (maxSteps := 1000000) (disch := (first | omega | (simp only [World.size_alloc, size_wr, size_drew] <;> omega) | exact not_noB _)) only [go_sem, ↓reduceIte, n0, reduceCtorEq, n1, n2, n3, n4, n5, i0, i1, i2, i3, i4, i5, i6, i7])
  have hm : Fn Try.prog 102 #[.pointer (some ⟨w.heap.size, 0, none⟩)] w1 fun r w' => r = .int .i16 1 ∧ w' = w1 := by
    refine fn_of_W Try.func102 rfl Try.results102 Try.ntmps102 rfl ?_
    repeat ((first | refine W.seqR rfl ?_ | refine W.seq ?_ | refine W.regR rfl ?_ | refine W.condK ?_ | refine W.block ?_ | refine W.skip ?_ | refine W.ret ?_ | refine W.exit ?_); try simp (maxSteps := 1000000) (disch := (first | omega | (simp only [World.size_alloc, size_wr, size_drew] <;> omega) | exact not_noB _)) only [go_sem, ↓reduceIte, n0, reduceCtorEq, n1, n2, n3, n4, n5, i0, i1, i2, i3, i4, i5, i6, i7])
  refine hm.mono ?_
  rintro _ w2 ⟨rfl, rfl⟩
  have ew : IntKind.i64.wrap (1 : Int) = 1 := i64_wrap (by decide)
  repeat ((first | refine W.seqR rfl ?_ | refine W.seq ?_ | refine W.regR rfl ?_ | refine W.condK ?_ | refine W.block ?_ | refine W.skip ?_ | refine W.ret ?_ | refine W.exit ?_); try simp (maxSteps := 1000000) (disch := (first | omega | (simp only [World.size_alloc, size_wr, size_drew] <;> omega) | exact not_noB _)) only [go_sem, ↓reduceIte, n0, reduceCtorEq, n1, n2, n3, n4, n5, i0, i1, i2, i3, i4, i5, i6, i7, ew])
  exact hE1
end Ms

namespace Ms
open Nat renaming reduceEqDiff → n0, reduceAdd → n1, reduceMul → n2, reduceSub → n3, reduceLT → n4, reduceLeDiff → n5
open Int renaming reduceEq → i0, reduceLT → i1, reduceLE → i2, reduceNeg → i3, reduceAdd → i4, reduceSub → i5, reduceMul → i6, reduceToNat → i7
set_option maxRecDepth 8000
open Go Go.Proofs Go.Shelf
attribute [local congr] W_congr WPsq_congr WPp_congr optK_congr addrK_congr intK_congr boolK_congr sliceK_congr tupleK_congr funcK_congr Fn_congr rawK_congr takeK_congr stepK_congr convK_congr aggK_congr

set_option maxHeartbeats 4000000 in
theorem appBeginQuorumEpochRequest_0 {d B : Nat} {okM : Blocks} {ver : Int} (hlo : 0 ≤ ver) (hhi : ver ≤ 0) (t : Tree) (cells : List Value) (v : Value) (s : List UInt8) (w : World) {vb : Nat} (ho : OwnBy 5 B w v s) (hB : B ≤ w.heap.size) (hvb : blk w vb = some ((.int .i16 ver :: cells).toArray, 117, (0, 0)))
    (hR : RepS true (d + 3) fs_BeginQuorumEpochRequest okM w t cells) (hfit : FitP ver (d + 3) fs_BeginQuorumEpochRequest t) (hd : ∀ b, b < w.heap.size → okM b → ¬ ownB v b) (hdv : ¬ ownB v vb) (hlen : s.length + (partS (d + 3) fs_BeginQuorumEpochRequest ver false t).length ≤ 2 ^ 41) :
    Fn Try.prog 107 #[.pointer (some ⟨vb, 0, none⟩), v] w fun r w' => AppR 5 B w v s (partS (d + 3) fs_BeginQuorumEpochRequest ver false t) r w' := by
  obtain ⟨⟨g_0, g_1, g_2, g_3, -⟩, hfu⟩ := hfit
  replace g_0 : FitF (FitP ver (d + 2)) ver fBeginQuorumEpochRequest_0 (t.at 0) := g_0
  replace g_1 : FitF (FitP ver (d + 2)) ver fBeginQuorumEpochRequest_1 (t.at 1) := g_1
  replace g_2 : FitF (FitP ver (d + 2)) ver fBeginQuorumEpochRequest_2 (t.at 2) := g_2
  replace g_3 : FitF (FitP ver (d + 2)) ver fBeginQuorumEpochRequest_3 (t.at 3) := g_3
  obtain ⟨cs, q, hcs, hL, hT⟩ := hR.inv
  obtain ⟨c_0, e_0, rfl, h_0, c_1, e_1, rfl, h_1, c_2, e_2, rfl, h_2, c_3, e_3, rfl, h_3, rfl⟩ := hL
  replace h_0 : RepF (RepS true (d + 2)) (szS true (d + 2)) fBeginQuorumEpochRequest_0 okM w (t.at 0) c_0 := h_0
  replace h_1 : RepF (RepS true (d + 2)) (szS true (d + 2)) fBeginQuorumEpochRequest_1 okM w (t.at 1) c_1 := h_1
  replace h_2 : RepF (RepS true (d + 2)) (szS true (d + 2)) fBeginQuorumEpochRequest_2 okM w (t.at 2) c_2 := h_2
  replace h_3 : RepF (RepS true (d + 2)) (szS true (d + 2)) fBeginQuorumEpochRequest_3 okM w (t.at 3) c_3 := h_3
  obtain ⟨p_0, rfl, hp_0⟩ := (RepF_ptr rfl (by decide)).1 h_0
  obtain rfl := (RepF_num (by decide)).1 h_1
  have hn_2 := g_2.notnull (by decide)
  obtain ⟨p_2, rfl, hs_2, -⟩ := (RepF_list rfl hn_2).1 h_2
  obtain ⟨ab_2, ac_2, rfl, _⟩ := SlR.shape hs_2
  have hll_2 := (g_2.list rfl).1
  have hn_3 := g_3.notnull (by decide)
  obtain ⟨p_3, rfl, hs_3, -⟩ := (RepF_list rfl hn_3).1 h_3
  obtain ⟨ab_3, ac_3, rfl, _⟩ := SlR.shape hs_3
  have hll_3 := (g_3.list rfl).1
  obtain ⟨qm, rfl⟩ := hT.shape
  have hv : blk w vb = some (#[.int .i16 ver, p_0, .int .i32 (IntKind.i32.wrap (t.at 1).n), .slice ab_2 (t.at 2).l.length ac_2, .slice ab_3 (t.at 3).l.length ac_3, .map qm], 117, (0, 0)) := by rw [hvb, hcs]; rfl
  clear hvb hcs
  have hh_0 : hasS fBeginQuorumEpochRequest_0 ver = true := hasS_t (by show (0 : Int) ≤ ver; omega) (by show (-1 : Int) < 0 ∨ ver ≤ (-1 : Int); omega)
  obtain ⟨X_0, hXX_0⟩ : ∃ X, X = if (t.at 0).null = true then fixedS (-1) 2 else fixedS (t.at 0).s.length 2 ++ (t.at 0).s := ⟨_, rfl⟩
  have hh_1 : hasS fBeginQuorumEpochRequest_1 ver = false := hasS_f (by show ver < 1 ∨ (0 ≤ (-1 : Int) ∧ (-1 : Int) < ver); omega)
  have hh_2 : hasS fBeginQuorumEpochRequest_2 ver = true := hasS_t (by show (0 : Int) ≤ ver; omega) (by show (-1 : Int) < 0 ∨ ver ≤ (-1 : Int); omega)
  obtain ⟨XL_2, hXL_2⟩ : ∃ X, X = fixedS (t.at 2).l.length 4 := ⟨_, rfl⟩
  obtain ⟨XE_2, hXE_2⟩ : ∃ X, X = (t.at 2).l.flatMap (fun x => partS (d + 2) fs_BeginQuorumEpochRequestTopic ver false x) := ⟨_, rfl⟩
  have hh_3 : hasS fBeginQuorumEpochRequest_3 ver = false := hasS_f (by show ver < 1 ∨ (0 ≤ (-1 : Int) ∧ (-1 : Int) < ver); omega)
  have hP : partS (d + 3) fs_BeginQuorumEpochRequest ver false t = X_0 ++ ((XL_2 ++ XE_2) ++ []) := partS_no (plainL_has (by decide) hh_0 ((fieldS_ptr_f g_0 rfl).trans hXX_0.symm) (plainL_not hh_1 (plainL_has (by decide) hh_2 ((fieldS_list_f (g := (fun x => partS (d + 2) fs_BeginQuorumEpochRequestTopic ver false x)) g_2 rfl (by decide) (fun x _ => valueS_part)).trans (by rw [hXL_2, hXE_2])) (plainL_not hh_3 rfl))))
  rw [hP] at hlen
  simp only [List.length_append, List.length_nil] at hlen
  have hdK : ∀ {r : Value} {w' : World} {add : List UInt8}, AppR 5 B w v s add r w' → ∀ b, b < w'.heap.size → OkS okM w.heap.size b → ¬ ownB r b := fun h b _ hk ho => (h.frame b ho).elim (hd b hk.2 hk.1) (fun h => by have := hk.2; omega)
  have ownK : ∀ {r : Value} {w' : World} {add : List UInt8} {b : Nat}, AppR 5 B w v s add r w' → b < w.heap.size → ¬ ownB v b → ¬ ownB r b := fun h hb hn ho => (h.frame _ ho).elim hn (fun h => by omega)
  have ha0 : AppR 5 B w v s [] v w := AppR.refl ho
  obtain ⟨w0, hw0⟩ : ∃ w0, w0 = w := ⟨_, rfl⟩
  have hB0 := hB
  have hv_0 := hv
  refine fn_of_W Try.func107 rfl Try.results107 Try.ntmps107 rfl ?_
  repeat ((first | refine W.seqR rfl ?_ | refine W.seq ?_ | refine W.regR rfl ?_ | refine W.condK ?_ | refine W.block ?_ | refine W.skip ?_ | refine W.ret ?_ | refine W.exit ?_); try simp (maxSteps := 1000000) (disch := (first | omega | (simp only [World.size_alloc, size_wr, size_drew] <;> omega) | exact not_noB _)) only [go_sem, ↓reduceIte, n0, reduceCtorEq, n1, n2, n3, n4, n5, i0, i1, i2, i3, i4, i5, i6, i7, hv_0])
  refine (AppendNullableString_fn (ok := okM) _ _ _ ha0.own hB0 _ (t.at 0).null (t.at 0).s (hp_0.keep (ha0.upd.keeps hd)) (g_0.text (.inl rfl)) (by simp only [List.length_append, List.length_nil]; omega)).mono ?_
  rintro r1 w1 hc1
  rw [← hXX_0] at hc1
  have ha1 := ha0.trans hc1
  have hB1 : B ≤ w1.heap.size := Nat.le_trans hB ha1.upd.size
  have hv_1 := ha1.upd.blk_some hv hdv
  repeat ((first | refine W.seqR rfl ?_ | refine W.seq ?_ | refine W.regR rfl ?_ | refine W.condK ?_ | refine W.block ?_ | refine W.skip ?_ | refine W.ret ?_ | refine W.exit ?_); try simp (maxSteps := 1000000) (disch := (first | omega | (simp only [World.size_alloc, size_wr, size_drew] <;> omega) | exact not_noB _)) only [go_sem, ↓reduceIte, n0, reduceCtorEq, n1, n2, n3, n4, n5, i0, i1, i2, i3, i4, i5, i6, i7, hv_1])
  refine (AppendArrayLen_fn _ _ _ ha1.own hB1 (t.at 2).l.length hll_2 (by simp only [List.length_append, List.length_nil]; omega)).mono ?_
  rintro r2 w2 hc2
  rw [← hXL_2] at hc2
  have ha2 := ha1.trans hc2
  have hB2 : B ≤ w2.heap.size := Nat.le_trans hB ha2.upd.size
  have hv_2 := ha2.upd.blk_some hv hdv
  repeat ((first | refine W.seqR rfl ?_ | refine W.seq ?_ | refine W.regR rfl ?_ | refine W.condK ?_ | refine W.block ?_ | refine W.skip ?_ | refine W.ret ?_ | refine W.exit ?_); try simp (maxSteps := 1000000) (disch := (first | omega | (simp only [World.size_alloc, size_wr, size_drew] <;> omega) | exact not_noB _)) only [go_sem, ↓reduceIte, n0, reduceCtorEq, n1, n2, n3, n4, n5, i0, i1, i2, i3, i4, i5, i6, i7, hv_2])
  have hadd1 := ha2
  refine W.exitJ 0 (fun ρ w' => ∃ r, ρ 1 = r ∧ ρ 0 = .pointer (some ⟨vb, 0, none⟩) ∧ ρ 5 = .int .i16 ver ∧ ρ 6 = .bool false ∧ AppR 5 B w v s (([] ++ X_0 ++ XL_2) ++ XE_2) r w')
    (W.loop (fun ρ w' => ∃ (j : Nat) (r : Value), j ≤ (t.at 2).l.length ∧ ρ 69 = .int .i64 j ∧ ρ 68 = .int .i64 (t.at 2).l.length ∧ ρ 9 = .slice ab_2 (t.at 2).l.length ac_2 ∧ ρ 1 = r ∧ ρ 0 = .pointer (some ⟨vb, 0, none⟩) ∧ ρ 5 = .int .i16 ver ∧ ρ 6 = .bool false ∧ AppR 5 B w v s (([] ++ X_0 ++ XL_2) ++ ((t.at 2).l.take j).flatMap (fun x => partS (d + 2) fs_BeginQuorumEpochRequestTopic ver false x)) r w')
      (fun ρ _ => (t.at 2).l.length - (RowKit.intOf (ρ 69)).toNat) ?_ ?_) ?_
  · refine ⟨0, _, Nat.zero_le _, ?_, ?_, ?_, ?_, ?_, ?_, ?_, ha2.eqs (by rw [List.take_zero, List.flatMap_nil, List.append_nil])⟩ <;> simp (maxSteps := 1000000) (disch := (first | omega | (simp only [World.size_alloc, size_wr, size_drew] <;> omega) | exact not_noB _)) only [go_sem, ↓reduceIte, n0, reduceCtorEq, n1, n2, n3, n4, n5, i0, i1, i2, i3, i4, i5, i6, i7]
    all_goals rfl
  · rintro ρ w3 ⟨j1, r3, hj1, hI1, hN1, hS1, hr1_1, hr1_0, hr1_5, hr1_6, ha3⟩
    have hB3 : B ≤ w3.heap.size := Nat.le_trans hB ha3.upd.size
    have hv_3 := ha3.upd.blk_some hv hdv
    by_cases hlt1 : j1 < (t.at 2).l.length
    · obtain ⟨_, b1, o1, x1, ce1, hb1, hok1, hx1, hbl1, hxs1, hxe1, hq1, hRe1⟩ := SlR.get (size := 3) (by decide) hs_2 hlt1
      subst hb1
      have hcat1 : (t.at 2).l.take (j1 + 1) = (t.at 2).l.take j1 ++ [(t.at 2).l[j1]] := List.take_succ_eq_append_getElem hlt1
      have htl1 := take_flatMap_len (t.at 2).l (fun x => partS (d + 2) fs_BeginQuorumEpochRequestTopic ver false x) (j1 + 1)
      rw [← hXE_2, hcat1, List.flatMap_append, List.flatMap_cons, List.flatMap_nil, List.append_nil] at htl1
      have hge1 := (g_2.list rfl).2 _ (List.getElem_mem hlt1)
      generalize (t.at 2).l[j1] = y1 at *
      have hnx1 := hd b1 hbl1 hok1
      obtain ⟨T1, hTT1⟩ : ∃ T, T = ((t.at 2).l.take j1).flatMap (fun x => partS (d + 2) fs_BeginQuorumEpochRequestTopic ver false x) := ⟨_, rfl⟩
      rw [← hTT1] at ha3 htl1
      have hx1_3 := ha3.upd.blk_some hx1 hnx1
      replace hRe1 : RepS true (d + 2) fs_BeginQuorumEpochRequestTopic okM w y1 ce1 := Rep1_part.1 hRe1
      have hfe1 : FitP ver (d + 2) fs_BeginQuorumEpochRequestTopic y1 := hge1.2.2 rfl
      obtain ⟨⟨ge1_0, ge1_1, -⟩, hfue1⟩ := hfe1
      replace ge1_0 : FitF (FitP ver (d + 1)) ver fBeginQuorumEpochRequestTopic_0 (y1.at 0) := ge1_0
      replace ge1_1 : FitF (FitP ver (d + 1)) ver fBeginQuorumEpochRequestTopic_1 (y1.at 1) := ge1_1
      obtain ⟨cse1, qe1, hcse1, hLe1, hTe1⟩ := hRe1.inv
      obtain ⟨ce1_0, ee1_0, rfl, he1_0, ce1_1, ee1_1, rfl, he1_1, rfl⟩ := hLe1
      replace he1_0 : RepF (RepS true (d + 1)) (szS true (d + 1)) fBeginQuorumEpochRequestTopic_0 okM w (y1.at 0) ce1_0 := he1_0
      replace he1_1 : RepF (RepS true (d + 1)) (szS true (d + 1)) fBeginQuorumEpochRequestTopic_1 okM w (y1.at 1) ce1_1 := he1_1
      obtain rfl := (RepF_text rfl (by decide)).1 he1_0
      have hne1_1 := ge1_1.notnull (by decide)
      obtain ⟨pe1_1, rfl, hse1_1, -⟩ := (RepF_list rfl hne1_1).1 he1_1
      obtain ⟨abe1_1, ace1_1, rfl, _⟩ := SlR.shape hse1_1
      have hlle1_1 := (ge1_1.list rfl).1
      obtain ⟨qme1, rfl⟩ := hTe1.shape
      subst hcse1
      have hq1_0 : x1.1[o1 + j1 * 3]? = some (strV (y1.at 0).s) := hq1 0 (by decide)
      have hq1_1 : x1.1[o1 + (j1 * 3 + 1)]? = some (.slice abe1_1 (y1.at 1).l.length ace1_1) := hq1 1 (by decide)
      have hq1_2 : x1.1[o1 + (j1 * 3 + 2)]? = some (.map qme1) := hq1 2 (by decide)
      have hhe1_0 : hasS fBeginQuorumEpochRequestTopic_0 ver = true := hasS_t (by show (0 : Int) ≤ ver; omega) (by show (-1 : Int) < 0 ∨ ver ≤ (-1 : Int); omega)
      obtain ⟨Xe1_0, hXXe1_0⟩ : ∃ X, X = fixedS (y1.at 0).s.length 2 ++ (y1.at 0).s := ⟨_, rfl⟩
      have hhe1_1 : hasS fBeginQuorumEpochRequestTopic_1 ver = true := hasS_t (by show (0 : Int) ≤ ver; omega) (by show (-1 : Int) < 0 ∨ ver ≤ (-1 : Int); omega)
      obtain ⟨XLe1_1, hXLe1_1⟩ : ∃ X, X = fixedS (y1.at 1).l.length 4 := ⟨_, rfl⟩
      obtain ⟨XEe1_1, hXEe1_1⟩ : ∃ X, X = (y1.at 1).l.flatMap (fun x => partS (d + 1) fs_BeginQuorumEpochRequestTopicPartition ver false x) := ⟨_, rfl⟩
      have hPe1 : partS (d + 2) fs_BeginQuorumEpochRequestTopic ver false y1 = Xe1_0 ++ ((XLe1_1 ++ XEe1_1) ++ []) := partS_no (plainL_has (by decide) hhe1_0 ((fieldS_text_f ge1_0 rfl (by decide)).trans hXXe1_0.symm) (plainL_has (by decide) hhe1_1 ((fieldS_list_f (g := (fun x => partS (d + 1) fs_BeginQuorumEpochRequestTopicPartition ver false x)) ge1_1 rfl (by decide) (fun x _ => valueS_part)).trans (by rw [hXLe1_1, hXEe1_1])) rfl))
      rw [hPe1] at htl1
      simp only [List.length_append, List.length_nil] at htl1
      repeat ((first | refine W.seqR rfl ?_ | refine W.seq ?_ | refine W.regR rfl ?_ | refine W.condK ?_ | refine W.block ?_ | refine W.skip ?_ | refine W.ret ?_ | refine W.exit ?_); try simp (maxSteps := 1000000) (disch := (first | omega | (simp only [World.size_alloc, size_wr, size_drew] <;> omega) | exact not_noB _)) only [go_sem, ↓reduceIte, n0, reduceCtorEq, n1, n2, n3, n4, n5, i0, i1, i2, i3, i4, i5, i6, i7, hv_3, hx1_3, Int.toNat_natCast, Nat.mul_one, hq1_0, hq1_1, hq1_2, hr1_1, hr1_0, hr1_5, hr1_6, hI1, hN1, hS1])
      refine (AppendString_fn _ _ _ ha3.own hB3 (y1.at 0).s (ge1_0.text (.inl rfl)) (by simp only [List.length_append, List.length_nil]; omega)).mono ?_
      rintro r4 w4 hc4
      rw [← hXXe1_0] at hc4
      have ha4 := ha3.trans hc4
      have hB4 : B ≤ w4.heap.size := Nat.le_trans hB ha4.upd.size
      have hv_4 := ha4.upd.blk_some hv hdv
      have hx1_4 := ha4.upd.blk_some hx1 hnx1
      repeat ((first | refine W.seqR rfl ?_ | refine W.seq ?_ | refine W.regR rfl ?_ | refine W.condK ?_ | refine W.block ?_ | refine W.skip ?_ | refine W.ret ?_ | refine W.exit ?_); try simp (maxSteps := 1000000) (disch := (first | omega | (simp only [World.size_alloc, size_wr, size_drew] <;> omega) | exact not_noB _)) only [go_sem, ↓reduceIte, n0, reduceCtorEq, n1, n2, n3, n4, n5, i0, i1, i2, i3, i4, i5, i6, i7, hv_4, hx1_4, Int.toNat_natCast, Nat.mul_one, hq1_0, hq1_1, hq1_2, hr1_1, hr1_0, hr1_5, hr1_6, hI1, hN1, hS1])
      refine (AppendArrayLen_fn _ _ _ ha4.own hB4 (y1.at 1).l.length hlle1_1 (by simp only [List.length_append, List.length_nil]; omega)).mono ?_
      rintro r5 w5 hc5
      rw [← hXLe1_1] at hc5
      have ha5 := ha4.trans hc5
      have hB5 : B ≤ w5.heap.size := Nat.le_trans hB ha5.upd.size
      have hv_5 := ha5.upd.blk_some hv hdv
      have hx1_5 := ha5.upd.blk_some hx1 hnx1
      repeat ((first | refine W.seqR rfl ?_ | refine W.seq ?_ | refine W.regR rfl ?_ | refine W.condK ?_ | refine W.block ?_ | refine W.skip ?_ | refine W.ret ?_ | refine W.exit ?_); try simp (maxSteps := 1000000) (disch := (first | omega | (simp only [World.size_alloc, size_wr, size_drew] <;> omega) | exact not_noB _)) only [go_sem, ↓reduceIte, n0, reduceCtorEq, n1, n2, n3, n4, n5, i0, i1, i2, i3, i4, i5, i6, i7, hv_5, hx1_5, Int.toNat_natCast, Nat.mul_one, hq1_0, hq1_1, hq1_2, hr1_1, hr1_0, hr1_5, hr1_6, hI1, hN1, hS1])
      have hadd2 := ha5
      refine W.exitJ 2 (fun ρ w' => ∃ r, ρ 1 = r ∧ ρ 0 = .pointer (some ⟨vb, 0, none⟩) ∧ ρ 5 = .int .i16 ver ∧ ρ 6 = .bool false ∧ ρ 69 = .int .i64 j1 ∧ ρ 68 = .int .i64 (t.at 2).l.length ∧ ρ 9 = .slice (some ⟨b1, o1, none⟩) (t.at 2).l.length ac_2 ∧ ρ 11 = .pointer (some ⟨b1, o1 + j1 * 3, none⟩) ∧ AppR 5 B w v s (([] ++ X_0 ++ XL_2 ++ T1 ++ Xe1_0 ++ XLe1_1) ++ XEe1_1) r w')
        (W.loop (fun ρ w' => ∃ (j : Nat) (r : Value), j ≤ (y1.at 1).l.length ∧ ρ 101 = .int .i64 j ∧ ρ 100 = .int .i64 (y1.at 1).l.length ∧ ρ 13 = .slice abe1_1 (y1.at 1).l.length ace1_1 ∧ ρ 1 = r ∧ ρ 0 = .pointer (some ⟨vb, 0, none⟩) ∧ ρ 5 = .int .i16 ver ∧ ρ 6 = .bool false ∧ ρ 69 = .int .i64 j1 ∧ ρ 68 = .int .i64 (t.at 2).l.length ∧ ρ 9 = .slice (some ⟨b1, o1, none⟩) (t.at 2).l.length ac_2 ∧ ρ 11 = .pointer (some ⟨b1, o1 + j1 * 3, none⟩) ∧ AppR 5 B w v s (([] ++ X_0 ++ XL_2 ++ T1 ++ Xe1_0 ++ XLe1_1) ++ ((y1.at 1).l.take j).flatMap (fun x => partS (d + 1) fs_BeginQuorumEpochRequestTopicPartition ver false x)) r w')
          (fun ρ _ => (y1.at 1).l.length - (RowKit.intOf (ρ 101)).toNat) ?_ ?_) ?_
      · refine ⟨0, _, Nat.zero_le _, ?_, ?_, ?_, ?_, ?_, ?_, ?_, ?_, ?_, ?_, ?_, ha5.eqs (by rw [List.take_zero, List.flatMap_nil, List.append_nil])⟩ <;> simp (maxSteps := 1000000) (disch := (first | omega | (simp only [World.size_alloc, size_wr, size_drew] <;> omega) | exact not_noB _)) only [go_sem, ↓reduceIte, n0, reduceCtorEq, n1, n2, n3, n4, n5, i0, i1, i2, i3, i4, i5, i6, i7, hr1_1, hr1_0, hr1_5, hr1_6, hI1, hN1, hS1]
        all_goals rfl
      · rintro ρ w6 ⟨j2, r6, hj2, hI2, hN2, hS2, hr1_2, hr2_0, hr2_5, hr2_6, hr2_69, hr2_68, hr2_9, hr2_11, ha6⟩
        have hB6 : B ≤ w6.heap.size := Nat.le_trans hB ha6.upd.size
        have hv_6 := ha6.upd.blk_some hv hdv
        have hx1_6 := ha6.upd.blk_some hx1 hnx1
        by_cases hlt2 : j2 < (y1.at 1).l.length
        · obtain ⟨_, b2, o2, x2, ce2, hb2, hok2, hx2, hbl2, hxs2, hxe2, hq2, hRe2⟩ := SlR.get (size := 20) (by decide) hse1_1 hlt2
          subst hb2
          have hcat2 : (y1.at 1).l.take (j2 + 1) = (y1.at 1).l.take j2 ++ [(y1.at 1).l[j2]] := List.take_succ_eq_append_getElem hlt2
          have htl2 := take_flatMap_len (y1.at 1).l (fun x => partS (d + 1) fs_BeginQuorumEpochRequestTopicPartition ver false x) (j2 + 1)
          rw [← hXEe1_1, hcat2, List.flatMap_append, List.flatMap_cons, List.flatMap_nil, List.append_nil] at htl2
          have hge2 := (ge1_1.list rfl).2 _ (List.getElem_mem hlt2)
          generalize (y1.at 1).l[j2] = y2 at *
          have hnx2 := hd b2 hbl2 hok2
          obtain ⟨T2, hTT2⟩ : ∃ T, T = ((y1.at 1).l.take j2).flatMap (fun x => partS (d + 1) fs_BeginQuorumEpochRequestTopicPartition ver false x) := ⟨_, rfl⟩
          rw [← hTT2] at ha6 htl2
          have hx2_6 := ha6.upd.blk_some hx2 hnx2
          replace hRe2 : RepS true (d + 1) fs_BeginQuorumEpochRequestTopicPartition okM w y2 ce2 := Rep1_part.1 hRe2
          have hfe2 : FitP ver (d + 1) fs_BeginQuorumEpochRequestTopicPartition y2 := hge2.2.2 rfl
          obtain ⟨⟨ge2_0, ge2_1, ge2_2, ge2_3, -⟩, hfue2⟩ := hfe2
          replace ge2_0 : FitF (FitP ver d) ver fBeginQuorumEpochRequestTopicPartition_0 (y2.at 0) := ge2_0
          replace ge2_1 : FitF (FitP ver d) ver fBeginQuorumEpochRequestTopicPartition_1 (y2.at 1) := ge2_1
          replace ge2_2 : FitF (FitP ver d) ver fBeginQuorumEpochRequestTopicPartition_2 (y2.at 2) := ge2_2
          replace ge2_3 : FitF (FitP ver d) ver fBeginQuorumEpochRequestTopicPartition_3 (y2.at 3) := ge2_3
          obtain ⟨cse2, qe2, hcse2, hLe2, hTe2⟩ := hRe2.inv
          obtain ⟨ce2_0, ee2_0, rfl, he2_0, ce2_1, ee2_1, rfl, he2_1, ce2_2, ee2_2, rfl, he2_2, ce2_3, ee2_3, rfl, he2_3, rfl⟩ := hLe2
          replace he2_0 : RepF (RepS true d) (szS true d) fBeginQuorumEpochRequestTopicPartition_0 okM w (y2.at 0) ce2_0 := he2_0
          replace he2_1 : RepF (RepS true d) (szS true d) fBeginQuorumEpochRequestTopicPartition_1 okM w (y2.at 1) ce2_1 := he2_1
          replace he2_2 : RepF (RepS true d) (szS true d) fBeginQuorumEpochRequestTopicPartition_2 okM w (y2.at 2) ce2_2 := he2_2
          replace he2_3 : RepF (RepS true d) (szS true d) fBeginQuorumEpochRequestTopicPartition_3 okM w (y2.at 3) ce2_3 := he2_3
          obtain rfl := (RepF_num (by decide)).1 he2_0
          obtain rfl := (RepF_uuid rfl).1 he2_1
          have hx16e2_1 : ((uuidS (y2.at 1).s).map byteV).length = 16 := by rw [List.length_map, uuidS_len]
          have hfxe2_1 := flat_bytes (uuidS (y2.at 1).s)
          generalize hXe2_1 : (uuidS (y2.at 1).s).map byteV = Ze2_1 at *
          obtain ⟨ze2_1_0, ze2_1_1, ze2_1_2, ze2_1_3, ze2_1_4, ze2_1_5, ze2_1_6, ze2_1_7, ze2_1_8, ze2_1_9, ze2_1_10, ze2_1_11, ze2_1_12, ze2_1_13, ze2_1_14, ze2_1_15, rfl⟩ := list16 hx16e2_1
          simp only [List.all_cons, List.all_nil, Bool.and_true, Bool.and_eq_true] at hfxe2_1
          obtain ⟨fze2_1_0, fze2_1_1, fze2_1_2, fze2_1_3, fze2_1_4, fze2_1_5, fze2_1_6, fze2_1_7, fze2_1_8, fze2_1_9, fze2_1_10, fze2_1_11, fze2_1_12, fze2_1_13, fze2_1_14, fze2_1_15⟩ := hfxe2_1
          obtain rfl := (RepF_num (by decide)).1 he2_2
          obtain rfl := (RepF_num (by decide)).1 he2_3
          obtain ⟨qme2, rfl⟩ := hTe2.shape
          subst hcse2
          have hq2_0 : x2.1[o2 + j2 * 20]? = some (.int .i32 (IntKind.i32.wrap (y2.at 0).n)) := hq2 0 (by decide)
          have hq2_1 : x2.1[o2 + (j2 * 20 + 1)]? = some (ze2_1_0) := hq2 1 (by decide)
          have hq2_2 : x2.1[o2 + (j2 * 20 + 2)]? = some (ze2_1_1) := hq2 2 (by decide)
          have hq2_3 : x2.1[o2 + (j2 * 20 + 3)]? = some (ze2_1_2) := hq2 3 (by decide)
          have hq2_4 : x2.1[o2 + (j2 * 20 + 4)]? = some (ze2_1_3) := hq2 4 (by decide)
          have hq2_5 : x2.1[o2 + (j2 * 20 + 5)]? = some (ze2_1_4) := hq2 5 (by decide)
          have hq2_6 : x2.1[o2 + (j2 * 20 + 6)]? = some (ze2_1_5) := hq2 6 (by decide)
          have hq2_7 : x2.1[o2 + (j2 * 20 + 7)]? = some (ze2_1_6) := hq2 7 (by decide)
          have hq2_8 : x2.1[o2 + (j2 * 20 + 8)]? = some (ze2_1_7) := hq2 8 (by decide)
          have hq2_9 : x2.1[o2 + (j2 * 20 + 9)]? = some (ze2_1_8) := hq2 9 (by decide)
          have hq2_10 : x2.1[o2 + (j2 * 20 + 10)]? = some (ze2_1_9) := hq2 10 (by decide)
          have hq2_11 : x2.1[o2 + (j2 * 20 + 11)]? = some (ze2_1_10) := hq2 11 (by decide)
          have hq2_12 : x2.1[o2 + (j2 * 20 + 12)]? = some (ze2_1_11) := hq2 12 (by decide)
          have hq2_13 : x2.1[o2 + (j2 * 20 + 13)]? = some (ze2_1_12) := hq2 13 (by decide)
          have hq2_14 : x2.1[o2 + (j2 * 20 + 14)]? = some (ze2_1_13) := hq2 14 (by decide)
          have hq2_15 : x2.1[o2 + (j2 * 20 + 15)]? = some (ze2_1_14) := hq2 15 (by decide)
          have hq2_16 : x2.1[o2 + (j2 * 20 + 16)]? = some (ze2_1_15) := hq2 16 (by decide)
          have hq2_17 : x2.1[o2 + (j2 * 20 + 17)]? = some (.int .i32 (IntKind.i32.wrap (y2.at 2).n)) := hq2 17 (by decide)
          have hq2_18 : x2.1[o2 + (j2 * 20 + 18)]? = some (.int .i32 (IntKind.i32.wrap (y2.at 3).n)) := hq2 18 (by decide)
          have hq2_19 : x2.1[o2 + (j2 * 20 + 19)]? = some (.map qme2) := hq2 19 (by decide)
          have hxu2_1 : cellsAt x2.1 (o2 + (j2 * 20 + 1)) 16 = some (.agg #[ze2_1_0, ze2_1_1, ze2_1_2, ze2_1_3, ze2_1_4, ze2_1_5, ze2_1_6, ze2_1_7, ze2_1_8, ze2_1_9, ze2_1_10, ze2_1_11, ze2_1_12, ze2_1_13, ze2_1_14, ze2_1_15]) := by
            refine cellsAt_of (l := [ze2_1_0, ze2_1_1, ze2_1_2, ze2_1_3, ze2_1_4, ze2_1_5, ze2_1_6, ze2_1_7, ze2_1_8, ze2_1_9, ze2_1_10, ze2_1_11, ze2_1_12, ze2_1_13, ze2_1_14, ze2_1_15]) (fun j hj => ?_) rfl (by omega)
            rw [show o2 + (j2 * 20 + 1) + j = o2 + (j2 * 20 + (1 + j)) by omega]
            exact (hq2 (1 + j) (by omega)).trans (get_mid (pre := [.int .i32 (IntKind.i32.wrap (y2.at 0).n)]) (xs := [ze2_1_0, ze2_1_1, ze2_1_2, ze2_1_3, ze2_1_4, ze2_1_5, ze2_1_6, ze2_1_7, ze2_1_8, ze2_1_9, ze2_1_10, ze2_1_11, ze2_1_12, ze2_1_13, ze2_1_14, ze2_1_15]) (post := [.int .i32 (IntKind.i32.wrap (y2.at 2).n), .int .i32 (IntKind.i32.wrap (y2.at 3).n), .map qme2]) hj)
          have hhe2_0 : hasS fBeginQuorumEpochRequestTopicPartition_0 ver = true := hasS_t (by show (0 : Int) ≤ ver; omega) (by show (-1 : Int) < 0 ∨ ver ≤ (-1 : Int); omega)
          obtain ⟨Xe2_0, hXXe2_0⟩ : ∃ X, X = fixedS (y2.at 0).n 4 := ⟨_, rfl⟩
          have hhe2_1 : hasS fBeginQuorumEpochRequestTopicPartition_1 ver = false := hasS_f (by show ver < 1 ∨ (0 ≤ (-1 : Int) ∧ (-1 : Int) < ver); omega)
          have hhe2_2 : hasS fBeginQuorumEpochRequestTopicPartition_2 ver = true := hasS_t (by show (0 : Int) ≤ ver; omega) (by show (-1 : Int) < 0 ∨ ver ≤ (-1 : Int); omega)
          obtain ⟨Xe2_2, hXXe2_2⟩ : ∃ X, X = fixedS (y2.at 2).n 4 := ⟨_, rfl⟩
          have hhe2_3 : hasS fBeginQuorumEpochRequestTopicPartition_3 ver = true := hasS_t (by show (0 : Int) ≤ ver; omega) (by show (-1 : Int) < 0 ∨ ver ≤ (-1 : Int); omega)
          obtain ⟨Xe2_3, hXXe2_3⟩ : ∃ X, X = fixedS (y2.at 3).n 4 := ⟨_, rfl⟩
          have hPe2 : partS (d + 1) fs_BeginQuorumEpochRequestTopicPartition ver false y2 = Xe2_0 ++ (Xe2_2 ++ (Xe2_3 ++ [])) := partS_no (plainL_has (by decide) hhe2_0 ((fieldS_num 3 rfl (by decide)).trans hXXe2_0.symm) (plainL_not hhe2_1 (plainL_has (by decide) hhe2_2 ((fieldS_num 3 rfl (by decide)).trans hXXe2_2.symm) (plainL_has (by decide) hhe2_3 ((fieldS_num 3 rfl (by decide)).trans hXXe2_3.symm) rfl))))
          rw [hPe2] at htl2
          simp only [List.length_append, List.length_nil] at htl2
          repeat ((first | refine W.seqR rfl ?_ | refine W.seq ?_ | refine W.regR rfl ?_ | refine W.condK ?_ | refine W.block ?_ | refine W.skip ?_ | refine W.ret ?_ | refine W.exit ?_); try simp (maxSteps := 1000000) (disch := (first | omega | (simp only [World.size_alloc, size_wr, size_drew] <;> omega) | exact not_noB _)) only [go_sem, ↓reduceIte, n0, reduceCtorEq, n1, n2, n3, n4, n5, i0, i1, i2, i3, i4, i5, i6, i7, hv_6, hx1_6, hx2_6, Int.toNat_natCast, Nat.mul_one, hq1_0, hq1_1, hq1_2, hq2_0, hq2_1, hq2_2, hq2_3, hq2_4, hq2_5, hq2_6, hq2_7, hq2_8, hq2_9, hq2_10, hq2_11, hq2_12, hq2_13, hq2_14, hq2_15, hq2_16, hq2_17, hq2_18, hq2_19, fze2_1_0, fze2_1_1, fze2_1_2, fze2_1_3, fze2_1_4, fze2_1_5, fze2_1_6, fze2_1_7, fze2_1_8, fze2_1_9, fze2_1_10, fze2_1_11, fze2_1_12, fze2_1_13, fze2_1_14, fze2_1_15, hxu2_1, hr1_2, hr2_0, hr2_5, hr2_6, hr2_69, hr2_68, hr2_9, hr2_11, hI2, hN2, hS2])
          refine (AppendInt32_fn _ _ _ ha6.own hB6 _ (by simp only [List.length_append, List.length_nil]; omega)).mono ?_
          rintro r7 w7 hc7
          rw [wrap32, ← hXXe2_0] at hc7
          have ha7 := ha6.trans hc7
          have hB7 : B ≤ w7.heap.size := Nat.le_trans hB ha7.upd.size
          have hv_7 := ha7.upd.blk_some hv hdv
          have hx1_7 := ha7.upd.blk_some hx1 hnx1
          have hx2_7 := ha7.upd.blk_some hx2 hnx2
          repeat ((first | refine W.seqR rfl ?_ | refine W.seq ?_ | refine W.regR rfl ?_ | refine W.condK ?_ | refine W.block ?_ | refine W.skip ?_ | refine W.ret ?_ | refine W.exit ?_); try simp (maxSteps := 1000000) (disch := (first | omega | (simp only [World.size_alloc, size_wr, size_drew] <;> omega) | exact not_noB _)) only [go_sem, ↓reduceIte, n0, reduceCtorEq, n1, n2, n3, n4, n5, i0, i1, i2, i3, i4, i5, i6, i7, hv_7, hx1_7, hx2_7, Int.toNat_natCast, Nat.mul_one, hq1_0, hq1_1, hq1_2, hq2_0, hq2_1, hq2_2, hq2_3, hq2_4, hq2_5, hq2_6, hq2_7, hq2_8, hq2_9, hq2_10, hq2_11, hq2_12, hq2_13, hq2_14, hq2_15, hq2_16, hq2_17, hq2_18, hq2_19, fze2_1_0, fze2_1_1, fze2_1_2, fze2_1_3, fze2_1_4, fze2_1_5, fze2_1_6, fze2_1_7, fze2_1_8, fze2_1_9, fze2_1_10, fze2_1_11, fze2_1_12, fze2_1_13, fze2_1_14, fze2_1_15, hxu2_1, hr1_2, hr2_0, hr2_5, hr2_6, hr2_69, hr2_68, hr2_9, hr2_11, hI2, hN2, hS2])
          refine (AppendInt32_fn _ _ _ ha7.own hB7 _ (by simp only [List.length_append, List.length_nil]; omega)).mono ?_
          rintro r8 w8 hc8
          rw [wrap32, ← hXXe2_2] at hc8
          have ha8 := ha7.trans hc8
          have hB8 : B ≤ w8.heap.size := Nat.le_trans hB ha8.upd.size
          have hv_8 := ha8.upd.blk_some hv hdv
          have hx1_8 := ha8.upd.blk_some hx1 hnx1
          have hx2_8 := ha8.upd.blk_some hx2 hnx2
          repeat ((first | refine W.seqR rfl ?_ | refine W.seq ?_ | refine W.regR rfl ?_ | refine W.condK ?_ | refine W.block ?_ | refine W.skip ?_ | refine W.ret ?_ | refine W.exit ?_); try simp (maxSteps := 1000000) (disch := (first | omega | (simp only [World.size_alloc, size_wr, size_drew] <;> omega) | exact not_noB _)) only [go_sem, ↓reduceIte, n0, reduceCtorEq, n1, n2, n3, n4, n5, i0, i1, i2, i3, i4, i5, i6, i7, hv_8, hx1_8, hx2_8, Int.toNat_natCast, Nat.mul_one, hq1_0, hq1_1, hq1_2, hq2_0, hq2_1, hq2_2, hq2_3, hq2_4, hq2_5, hq2_6, hq2_7, hq2_8, hq2_9, hq2_10, hq2_11, hq2_12, hq2_13, hq2_14, hq2_15, hq2_16, hq2_17, hq2_18, hq2_19, fze2_1_0, fze2_1_1, fze2_1_2, fze2_1_3, fze2_1_4, fze2_1_5, fze2_1_6, fze2_1_7, fze2_1_8, fze2_1_9, fze2_1_10, fze2_1_11, fze2_1_12, fze2_1_13, fze2_1_14, fze2_1_15, hxu2_1, hr1_2, hr2_0, hr2_5, hr2_6, hr2_69, hr2_68, hr2_9, hr2_11, hI2, hN2, hS2])
          refine (AppendInt32_fn _ _ _ ha8.own hB8 _ (by simp only [List.length_append, List.length_nil]; omega)).mono ?_
          rintro r9 w9 hc9
          rw [wrap32, ← hXXe2_3] at hc9
          have ha9 := ha8.trans hc9
          have hB9 : B ≤ w9.heap.size := Nat.le_trans hB ha9.upd.size
          have hv_9 := ha9.upd.blk_some hv hdv
          have hx1_9 := ha9.upd.blk_some hx1 hnx1
          have hx2_9 := ha9.upd.blk_some hx2 hnx2
          repeat ((first | refine W.seqR rfl ?_ | refine W.seq ?_ | refine W.regR rfl ?_ | refine W.condK ?_ | refine W.block ?_ | refine W.skip ?_ | refine W.ret ?_ | refine W.exit ?_); try simp (maxSteps := 1000000) (disch := (first | omega | (simp only [World.size_alloc, size_wr, size_drew] <;> omega) | exact not_noB _)) only [go_sem, ↓reduceIte, n0, reduceCtorEq, n1, n2, n3, n4, n5, i0, i1, i2, i3, i4, i5, i6, i7, hr1_2, hr2_0, hr2_5, hr2_6, hr2_69, hr2_68, hr2_9, hr2_11, hI2, hN2, hS2])
          refine ⟨⟨j2 + 1, _, by omega, rfl, rfl, ha9.eqs ?_⟩, ?_⟩
          · rw [hcat2, List.flatMap_append, List.flatMap_cons, List.flatMap_nil, List.append_nil, ← hTT2, hPe2]; simp only [List.append_assoc, List.append_nil, List.nil_append]
          · simp only [RowKit.intOf]; omega
        · have hjl2 : j2 = (y1.at 1).l.length := by omega
          subst hjl2
          rw [List.take_length, ← hXEe1_1] at ha6
          repeat ((first | refine W.seqR rfl ?_ | refine W.seq ?_ | refine W.regR rfl ?_ | refine W.condK ?_ | refine W.block ?_ | refine W.skip ?_ | refine W.ret ?_ | refine W.exit ?_); try simp (maxSteps := 1000000) (disch := (first | omega | (simp only [World.size_alloc, size_wr, size_drew] <;> omega) | exact not_noB _)) only [go_sem, ↓reduceIte, n0, reduceCtorEq, n1, n2, n3, n4, n5, i0, i1, i2, i3, i4, i5, i6, i7, hI2, hN2])
          exact ⟨_, hr1_2, hr2_0, hr2_5, hr2_6, hr2_69, hr2_68, hr2_9, hr2_11, ha6⟩
      · rintro ρ w10 ⟨r10, hr1_3, hr3_0, hr3_5, hr3_6, hr3_69, hr3_68, hr3_9, hr3_11, ha10⟩
        have hB10 : B ≤ w10.heap.size := Nat.le_trans hB ha10.upd.size
        have hv_10 := ha10.upd.blk_some hv hdv
        have hx1_10 := ha10.upd.blk_some hx1 hnx1
        repeat ((first | refine W.seqR rfl ?_ | refine W.seq ?_ | refine W.regR rfl ?_ | refine W.condK ?_ | refine W.block ?_ | refine W.skip ?_ | refine W.ret ?_ | refine W.exit ?_); try simp (maxSteps := 1000000) (disch := (first | omega | (simp only [World.size_alloc, size_wr, size_drew] <;> omega) | exact not_noB _)) only [go_sem, ↓reduceIte, n0, reduceCtorEq, n1, n2, n3, n4, n5, i0, i1, i2, i3, i4, i5, i6, i7, hr1_3, hr3_0, hr3_5, hr3_6, hr3_69, hr3_68, hr3_9, hr3_11])
        refine ⟨⟨j1 + 1, _, by omega, rfl, rfl, ha10.eqs ?_⟩, ?_⟩
        · rw [hcat1, List.flatMap_append, List.flatMap_cons, List.flatMap_nil, List.append_nil, ← hTT1, hPe1]; simp only [List.append_assoc, List.append_nil, List.nil_append]
        · simp only [RowKit.intOf]; omega
    · have hjl1 : j1 = (t.at 2).l.length := by omega
      subst hjl1
      rw [List.take_length, ← hXE_2] at ha3
      repeat ((first | refine W.seqR rfl ?_ | refine W.seq ?_ | refine W.regR rfl ?_ | refine W.condK ?_ | refine W.block ?_ | refine W.skip ?_ | refine W.ret ?_ | refine W.exit ?_); try simp (maxSteps := 1000000) (disch := (first | omega | (simp only [World.size_alloc, size_wr, size_drew] <;> omega) | exact not_noB _)) only [go_sem, ↓reduceIte, n0, reduceCtorEq, n1, n2, n3, n4, n5, i0, i1, i2, i3, i4, i5, i6, i7, hI1, hN1])
      exact ⟨_, hr1_1, hr1_0, hr1_5, hr1_6, ha3⟩
  · rintro ρ w11 ⟨r11, hr1_4, hr4_0, hr4_5, hr4_6, ha11⟩
    have hB11 : B ≤ w11.heap.size := Nat.le_trans hB ha11.upd.size
    have hv_11 := ha11.upd.blk_some hv hdv
    repeat ((first | refine W.seqR rfl ?_ | refine W.seq ?_ | refine W.regR rfl ?_ | refine W.condK ?_ | refine W.block ?_ | refine W.skip ?_ | refine W.ret ?_ | refine W.exit ?_); try simp (maxSteps := 1000000) (disch := (first | omega | (simp only [World.size_alloc, size_wr, size_drew] <;> omega) | exact not_noB _)) only [go_sem, ↓reduceIte, n0, reduceCtorEq, n1, n2, n3, n4, n5, i0, i1, i2, i3, i4, i5, i6, i7, hv_11, hr1_4, hr4_0, hr4_5, hr4_6])
    refine ha11.eqs ?_
    rw [hP]; simp only [List.append_assoc, List.append_nil, List.nil_append]
end Ms

namespace Ms
open Nat renaming reduceEqDiff → n0, reduceAdd → n1, reduceMul → n2, reduceSub → n3, reduceLT → n4, reduceLeDiff → n5
open Int renaming reduceEq → i0, reduceLT → i1, reduceLE → i2, reduceNeg → i3, reduceAdd → i4, reduceSub → i5, reduceMul → i6, reduceToNat → i7
set_option maxRecDepth 8000
open Go Go.Proofs Go.Shelf
attribute [local congr] W_congr WPsq_congr WPp_congr optK_congr addrK_congr intK_congr boolK_congr sliceK_congr tupleK_congr funcK_congr Fn_congr rawK_congr takeK_congr stepK_congr convK_congr aggK_congr

set_option maxHeartbeats 4000000 in
theorem appBeginQuorumEpochRequest_1 {d B : Nat} {okM : Blocks} {ver : Int} (hlo : 1 ≤ ver) (hhi : ver ≤ 1) (t : Tree) (cells : List Value) (v : Value) (s : List UInt8) (w : World) {vb : Nat} (ho : OwnBy 5 B w v s) (hB : B ≤ w.heap.size) (hvb : blk w vb = some ((.int .i16 ver :: cells).toArray, 117, (0, 0)))
    (hR : RepS true (d + 3) fs_BeginQuorumEpochRequest okM w t cells) (hfit : FitP ver (d + 3) fs_BeginQuorumEpochRequest t) (hd : ∀ b, b < w.heap.size → okM b → ¬ ownB v b) (hdv : ¬ ownB v vb) (hlen : s.length + (partS (d + 3) fs_BeginQuorumEpochRequest ver true t).length ≤ 2 ^ 41) :
    Fn Try.prog 107 #[.pointer (some ⟨vb, 0, none⟩), v] w fun r w' => AppR 5 B w v s (partS (d + 3) fs_BeginQuorumEpochRequest ver true t) r w' := by
  obtain ⟨⟨g_0, g_1, g_2, g_3, -⟩, hfu⟩ := hfit
  replace g_0 : FitF (FitP ver (d + 2)) ver fBeginQuorumEpochRequest_0 (t.at 0) := g_0
  replace g_1 : FitF (FitP ver (d + 2)) ver fBeginQuorumEpochRequest_1 (t.at 1) := g_1
  replace g_2 : FitF (FitP ver (d + 2)) ver fBeginQuorumEpochRequest_2 (t.at 2) := g_2
  replace g_3 : FitF (FitP ver (d + 2)) ver fBeginQuorumEpochRequest_3 (t.at 3) := g_3
  obtain ⟨cs, q, hcs, hL, hT⟩ := hR.inv
  obtain ⟨c_0, e_0, rfl, h_0, c_1, e_1, rfl, h_1, c_2, e_2, rfl, h_2, c_3, e_3, rfl, h_3, rfl⟩ := hL
  replace h_0 : RepF (RepS true (d + 2)) (szS true (d + 2)) fBeginQuorumEpochRequest_0 okM w (t.at 0) c_0 := h_0
  replace h_1 : RepF (RepS true (d + 2)) (szS true (d + 2)) fBeginQuorumEpochRequest_1 okM w (t.at 1) c_1 := h_1
  replace h_2 : RepF (RepS true (d + 2)) (szS true (d + 2)) fBeginQuorumEpochRequest_2 okM w (t.at 2) c_2 := h_2
  replace h_3 : RepF (RepS true (d + 2)) (szS true (d + 2)) fBeginQuorumEpochRequest_3 okM w (t.at 3) c_3 := h_3
  obtain ⟨p_0, rfl, hp_0⟩ := (RepF_ptr rfl (by decide)).1 h_0
  obtain rfl := (RepF_num (by decide)).1 h_1
  have hn_2 := g_2.notnull (by decide)
  obtain ⟨p_2, rfl, hs_2, -⟩ := (RepF_list rfl hn_2).1 h_2
  obtain ⟨ab_2, ac_2, rfl, _⟩ := SlR.shape hs_2
  have hll_2 := (g_2.list rfl).1
  have hn_3 := g_3.notnull (by decide)
  obtain ⟨p_3, rfl, hs_3, -⟩ := (RepF_list rfl hn_3).1 h_3
  obtain ⟨ab_3, ac_3, rfl, _⟩ := SlR.shape hs_3
  have hll_3 := (g_3.list rfl).1
  obtain ⟨qm, rfl⟩ := hT.shape
  have hv : blk w vb = some (#[.int .i16 ver, p_0, .int .i32 (IntKind.i32.wrap (t.at 1).n), .slice ab_2 (t.at 2).l.length ac_2, .slice ab_3 (t.at 3).l.length ac_3, .map qm], 117, (0, 0)) := by rw [hvb, hcs]; rfl
  clear hvb hcs
  have hh_0 : hasS fBeginQuorumEpochRequest_0 ver = true := hasS_t (by show (0 : Int) ≤ ver; omega) (by show (-1 : Int) < 0 ∨ ver ≤ (-1 : Int); omega)
  obtain ⟨X_0, hXX_0⟩ : ∃ X, X = if (t.at 0).null = true then [0] else uvarS ((t.at 0).s.length + 1) ++ (t.at 0).s := ⟨_, rfl⟩
  have hh_1 : hasS fBeginQuorumEpochRequest_1 ver = true := hasS_t (by show (1 : Int) ≤ ver; omega) (by show (-1 : Int) < 0 ∨ ver ≤ (-1 : Int); omega)
  obtain ⟨X_1, hXX_1⟩ : ∃ X, X = fixedS (t.at 1).n 4 := ⟨_, rfl⟩
  have hh_2 : hasS fBeginQuorumEpochRequest_2 ver = true := hasS_t (by show (0 : Int) ≤ ver; omega) (by show (-1 : Int) < 0 ∨ ver ≤ (-1 : Int); omega)
  obtain ⟨XL_2, hXL_2⟩ : ∃ X, X = uvarS ((t.at 2).l.length + 1) := ⟨_, rfl⟩
  obtain ⟨XE_2, hXE_2⟩ : ∃ X, X = (t.at 2).l.flatMap (fun x => partS (d + 2) fs_BeginQuorumEpochRequestTopic ver true x) := ⟨_, rfl⟩
  have hh_3 : hasS fBeginQuorumEpochRequest_3 ver = true := hasS_t (by show (1 : Int) ≤ ver; omega) (by show (-1 : Int) < 0 ∨ ver ≤ (-1 : Int); omega)
  obtain ⟨XL_3, hXL_3⟩ : ∃ X, X = uvarS ((t.at 3).l.length + 1) := ⟨_, rfl⟩
  obtain ⟨XE_3, hXE_3⟩ : ∃ X, X = (t.at 3).l.flatMap (fun x => partS (d + 2) fs_BeginQuorumEpochRequestLeaderEndpoint ver true x) := ⟨_, rfl⟩
  obtain ⟨XU, hXU⟩ : ∃ X, X = uvarS t.u.length := ⟨_, rfl⟩
  obtain ⟨XT, hXT⟩ : ∃ X, X = t.u.flatMap oneTag := ⟨_, rfl⟩
  have hP : partS (d + 3) fs_BeginQuorumEpochRequest ver true t = (X_0 ++ (X_1 ++ ((XL_2 ++ XE_2) ++ ((XL_3 ++ XE_3) ++ [])))) ++ (XU ++ XT) := by rw [hXU, hXT]; exact partS_yes rfl hfu (plainL_has (by decide) hh_0 ((fieldS_ptr_t g_0 rfl).trans hXX_0.symm) (plainL_has (by decide) hh_1 ((fieldS_num 3 rfl (by decide)).trans hXX_1.symm) (plainL_has (by decide) hh_2 ((fieldS_list_t (g := (fun x => partS (d + 2) fs_BeginQuorumEpochRequestTopic ver true x)) g_2 rfl (by decide) (fun x _ => valueS_part)).trans (by rw [hXL_2, hXE_2])) (plainL_has (by decide) hh_3 ((fieldS_list_t (g := (fun x => partS (d + 2) fs_BeginQuorumEpochRequestLeaderEndpoint ver true x)) g_3 rfl (by decide) (fun x _ => valueS_part)).trans (by rw [hXL_3, hXE_3])) rfl))))
  rw [hP] at hlen
  simp only [List.length_append, List.length_nil] at hlen
  have hdK : ∀ {r : Value} {w' : World} {add : List UInt8}, AppR 5 B w v s add r w' → ∀ b, b < w'.heap.size → OkS okM w.heap.size b → ¬ ownB r b := fun h b _ hk ho => (h.frame b ho).elim (hd b hk.2 hk.1) (fun h => by have := hk.2; omega)
  have ownK : ∀ {r : Value} {w' : World} {add : List UInt8} {b : Nat}, AppR 5 B w v s add r w' → b < w.heap.size → ¬ ownB v b → ¬ ownB r b := fun h hb hn ho => (h.frame _ ho).elim hn (fun h => by omega)
  have ha0 : AppR 5 B w v s [] v w := AppR.refl ho
  obtain ⟨w0, hw0⟩ : ∃ w0, w0 = w := ⟨_, rfl⟩
  have hB0 := hB
  have hv_0 := hv
  refine fn_of_W Try.func107 rfl Try.results107 Try.ntmps107 rfl ?_
  repeat ((first | refine W.seqR rfl ?_ | refine W.seq ?_ | refine W.regR rfl ?_ | refine W.condK ?_ | refine W.block ?_ | refine W.skip ?_ | refine W.ret ?_ | refine W.exit ?_); try simp (maxSteps := 1000000) (disch := (first | omega | (simp only [World.size_alloc, size_wr, size_drew] <;> omega) | exact not_noB _)) only [go_sem, ↓reduceIte, n0, reduceCtorEq, n1, n2, n3, n4, n5, i0, i1, i2, i3, i4, i5, i6, i7, hv_0])
  refine (AppendCompactNullableString_fn (ok := okM) _ _ _ ha0.own hB0 _ (t.at 0).null (t.at 0).s (hp_0.keep (ha0.upd.keeps hd)) (g_0.text (.inl rfl)) (by simp only [List.length_append, List.length_nil]; omega)).mono ?_
  rintro r1 w1 hc1
  rw [← hXX_0] at hc1
  have ha1 := ha0.trans hc1
  have hB1 : B ≤ w1.heap.size := Nat.le_trans hB ha1.upd.size
  have hv_1 := ha1.upd.blk_some hv hdv
  repeat ((first | refine W.seqR rfl ?_ | refine W.seq ?_ | refine W.regR rfl ?_ | refine W.condK ?_ | refine W.block ?_ | refine W.skip ?_ | refine W.ret ?_ | refine W.exit ?_); try simp (maxSteps := 1000000) (disch := (first | omega | (simp only [World.size_alloc, size_wr, size_drew] <;> omega) | exact not_noB _)) only [go_sem, ↓reduceIte, n0, reduceCtorEq, n1, n2, n3, n4, n5, i0, i1, i2, i3, i4, i5, i6, i7, hv_1])
  refine (AppendInt32_fn _ _ _ ha1.own hB1 _ (by simp only [List.length_append, List.length_nil]; omega)).mono ?_
  rintro r2 w2 hc2
  rw [wrap32, ← hXX_1] at hc2
  have ha2 := ha1.trans hc2
  have hB2 : B ≤ w2.heap.size := Nat.le_trans hB ha2.upd.size
  have hv_2 := ha2.upd.blk_some hv hdv
  repeat ((first | refine W.seqR rfl ?_ | refine W.seq ?_ | refine W.regR rfl ?_ | refine W.condK ?_ | refine W.block ?_ | refine W.skip ?_ | refine W.ret ?_ | refine W.exit ?_); try simp (maxSteps := 1000000) (disch := (first | omega | (simp only [World.size_alloc, size_wr, size_drew] <;> omega) | exact not_noB _)) only [go_sem, ↓reduceIte, n0, reduceCtorEq, n1, n2, n3, n4, n5, i0, i1, i2, i3, i4, i5, i6, i7, hv_2])
  refine (AppendCompactArrayLen_fn _ _ _ ha2.own hB2 (t.at 2).l.length hll_2 (by simp only [List.length_append, List.length_nil]; omega)).mono ?_
  rintro r3 w3 hc3
  rw [← hXL_2] at hc3
  have ha3 := ha2.trans hc3
  have hB3 : B ≤ w3.heap.size := Nat.le_trans hB ha3.upd.size
  have hv_3 := ha3.upd.blk_some hv hdv
  repeat ((first | refine W.seqR rfl ?_ | refine W.seq ?_ | refine W.regR rfl ?_ | refine W.condK ?_ | refine W.block ?_ | refine W.skip ?_ | refine W.ret ?_ | refine W.exit ?_); try simp (maxSteps := 1000000) (disch := (first | omega | (simp only [World.size_alloc, size_wr, size_drew] <;> omega) | exact not_noB _)) only [go_sem, ↓reduceIte, n0, reduceCtorEq, n1, n2, n3, n4, n5, i0, i1, i2, i3, i4, i5, i6, i7, hv_3])
  have hadd1 := ha3
  refine W.exitJ 0 (fun ρ w' => ∃ r, ρ 1 = r ∧ ρ 0 = .pointer (some ⟨vb, 0, none⟩) ∧ ρ 5 = .int .i16 ver ∧ ρ 6 = .bool true ∧ AppR 5 B w v s (([] ++ X_0 ++ X_1 ++ XL_2) ++ XE_2) r w')
    (W.loop (fun ρ w' => ∃ (j : Nat) (r : Value), j ≤ (t.at 2).l.length ∧ ρ 69 = .int .i64 j ∧ ρ 68 = .int .i64 (t.at 2).l.length ∧ ρ 9 = .slice ab_2 (t.at 2).l.length ac_2 ∧ ρ 1 = r ∧ ρ 0 = .pointer (some ⟨vb, 0, none⟩) ∧ ρ 5 = .int .i16 ver ∧ ρ 6 = .bool true ∧ AppR 5 B w v s (([] ++ X_0 ++ X_1 ++ XL_2) ++ ((t.at 2).l.take j).flatMap (fun x => partS (d + 2) fs_BeginQuorumEpochRequestTopic ver true x)) r w')
      (fun ρ _ => (t.at 2).l.length - (RowKit.intOf (ρ 69)).toNat) ?_ ?_) ?_
  · refine ⟨0, _, Nat.zero_le _, ?_, ?_, ?_, ?_, ?_, ?_, ?_, ha3.eqs (by rw [List.take_zero, List.flatMap_nil, List.append_nil])⟩ <;> simp (maxSteps := 1000000) (disch := (first | omega | (simp only [World.size_alloc, size_wr, size_drew] <;> omega) | exact not_noB _)) only [go_sem, ↓reduceIte, n0, reduceCtorEq, n1, n2, n3, n4, n5, i0, i1, i2, i3, i4, i5, i6, i7]
    all_goals rfl
  · rintro ρ w4 ⟨j1, r4, hj1, hI1, hN1, hS1, hr1_1, hr1_0, hr1_5, hr1_6, ha4⟩
    have hB4 : B ≤ w4.heap.size := Nat.le_trans hB ha4.upd.size
    have hv_4 := ha4.upd.blk_some hv hdv
    by_cases hlt1 : j1 < (t.at 2).l.length
    · obtain ⟨_, b1, o1, x1, ce1, hb1, hok1, hx1, hbl1, hxs1, hxe1, hq1, hRe1⟩ := SlR.get (size := 3) (by decide) hs_2 hlt1
      subst hb1
      have hcat1 : (t.at 2).l.take (j1 + 1) = (t.at 2).l.take j1 ++ [(t.at 2).l[j1]] := List.take_succ_eq_append_getElem hlt1
      have htl1 := take_flatMap_len (t.at 2).l (fun x => partS (d + 2) fs_BeginQuorumEpochRequestTopic ver true x) (j1 + 1)
      rw [← hXE_2, hcat1, List.flatMap_append, List.flatMap_cons, List.flatMap_nil, List.append_nil] at htl1
      have hge1 := (g_2.list rfl).2 _ (List.getElem_mem hlt1)
      generalize (t.at 2).l[j1] = y1 at *
      have hnx1 := hd b1 hbl1 hok1
      obtain ⟨T1, hTT1⟩ : ∃ T, T = ((t.at 2).l.take j1).flatMap (fun x => partS (d + 2) fs_BeginQuorumEpochRequestTopic ver true x) := ⟨_, rfl⟩
      rw [← hTT1] at ha4 htl1
      have hx1_4 := ha4.upd.blk_some hx1 hnx1
      replace hRe1 : RepS true (d + 2) fs_BeginQuorumEpochRequestTopic okM w y1 ce1 := Rep1_part.1 hRe1
      have hfe1 : FitP ver (d + 2) fs_BeginQuorumEpochRequestTopic y1 := hge1.2.2 rfl
      obtain ⟨⟨ge1_0, ge1_1, -⟩, hfue1⟩ := hfe1
      replace ge1_0 : FitF (FitP ver (d + 1)) ver fBeginQuorumEpochRequestTopic_0 (y1.at 0) := ge1_0
      replace ge1_1 : FitF (FitP ver (d + 1)) ver fBeginQuorumEpochRequestTopic_1 (y1.at 1) := ge1_1
      obtain ⟨cse1, qe1, hcse1, hLe1, hTe1⟩ := hRe1.inv
      obtain ⟨ce1_0, ee1_0, rfl, he1_0, ce1_1, ee1_1, rfl, he1_1, rfl⟩ := hLe1
      replace he1_0 : RepF (RepS true (d + 1)) (szS true (d + 1)) fBeginQuorumEpochRequestTopic_0 okM w (y1.at 0) ce1_0 := he1_0
      replace he1_1 : RepF (RepS true (d + 1)) (szS true (d + 1)) fBeginQuorumEpochRequestTopic_1 okM w (y1.at 1) ce1_1 := he1_1
      obtain rfl := (RepF_text rfl (by decide)).1 he1_0
      have hne1_1 := ge1_1.notnull (by decide)
      obtain ⟨pe1_1, rfl, hse1_1, -⟩ := (RepF_list rfl hne1_1).1 he1_1
      obtain ⟨abe1_1, ace1_1, rfl, _⟩ := SlR.shape hse1_1
      have hlle1_1 := (ge1_1.list rfl).1
      obtain ⟨qme1, rfl⟩ := hTe1.shape
      subst hcse1
      have hq1_0 : x1.1[o1 + j1 * 3]? = some (strV (y1.at 0).s) := hq1 0 (by decide)
      have hq1_1 : x1.1[o1 + (j1 * 3 + 1)]? = some (.slice abe1_1 (y1.at 1).l.length ace1_1) := hq1 1 (by decide)
      have hq1_2 : x1.1[o1 + (j1 * 3 + 2)]? = some (.map qme1) := hq1 2 (by decide)
      have hhe1_0 : hasS fBeginQuorumEpochRequestTopic_0 ver = true := hasS_t (by show (0 : Int) ≤ ver; omega) (by show (-1 : Int) < 0 ∨ ver ≤ (-1 : Int); omega)
      obtain ⟨Xe1_0, hXXe1_0⟩ : ∃ X, X = uvarS ((y1.at 0).s.length + 1) ++ (y1.at 0).s := ⟨_, rfl⟩
      have hhe1_1 : hasS fBeginQuorumEpochRequestTopic_1 ver = true := hasS_t (by show (0 : Int) ≤ ver; omega) (by show (-1 : Int) < 0 ∨ ver ≤ (-1 : Int); omega)
      obtain ⟨XLe1_1, hXLe1_1⟩ : ∃ X, X = uvarS ((y1.at 1).l.length + 1) := ⟨_, rfl⟩
      obtain ⟨XEe1_1, hXEe1_1⟩ : ∃ X, X = (y1.at 1).l.flatMap (fun x => partS (d + 1) fs_BeginQuorumEpochRequestTopicPartition ver true x) := ⟨_, rfl⟩
      obtain ⟨XUe1, hXUe1⟩ : ∃ X, X = uvarS y1.u.length := ⟨_, rfl⟩
      obtain ⟨XTe1, hXTe1⟩ : ∃ X, X = y1.u.flatMap oneTag := ⟨_, rfl⟩
      have hPe1 : partS (d + 2) fs_BeginQuorumEpochRequestTopic ver true y1 = (Xe1_0 ++ ((XLe1_1 ++ XEe1_1) ++ [])) ++ (XUe1 ++ XTe1) := by rw [hXUe1, hXTe1]; exact partS_yes rfl hfue1 (plainL_has (by decide) hhe1_0 ((fieldS_text_t ge1_0 rfl (by decide)).trans hXXe1_0.symm) (plainL_has (by decide) hhe1_1 ((fieldS_list_t (g := (fun x => partS (d + 1) fs_BeginQuorumEpochRequestTopicPartition ver true x)) ge1_1 rfl (by decide) (fun x _ => valueS_part)).trans (by rw [hXLe1_1, hXEe1_1])) rfl))
      rw [hPe1] at htl1
      simp only [List.length_append, List.length_nil] at htl1
      repeat ((first | refine W.seqR rfl ?_ | refine W.seq ?_ | refine W.regR rfl ?_ | refine W.condK ?_ | refine W.block ?_ | refine W.skip ?_ | refine W.ret ?_ | refine W.exit ?_); try simp (maxSteps := 1000000) (disch := (first | omega | (simp only [World.size_alloc, size_wr, size_drew] <;> omega) | exact not_noB _)) only [go_sem, ↓reduceIte, n0, reduceCtorEq, n1, n2, n3, n4, n5, i0, i1, i2, i3, i4, i5, i6, i7, hv_4, hx1_4, Int.toNat_natCast, Nat.mul_one, hq1_0, hq1_1, hq1_2, hr1_1, hr1_0, hr1_5, hr1_6, hI1, hN1, hS1])
      refine (AppendCompactString_fn _ _ _ ha4.own hB4 (y1.at 0).s (ge1_0.text (.inl rfl)) (by simp only [List.length_append, List.length_nil]; omega)).mono ?_
      rintro r5 w5 hc5
      rw [← hXXe1_0] at hc5
      have ha5 := ha4.trans hc5
      have hB5 : B ≤ w5.heap.size := Nat.le_trans hB ha5.upd.size
      have hv_5 := ha5.upd.blk_some hv hdv
      have hx1_5 := ha5.upd.blk_some hx1 hnx1
      repeat ((first | refine W.seqR rfl ?_ | refine W.seq ?_ | refine W.regR rfl ?_ | refine W.condK ?_ | refine W.block ?_ | refine W.skip ?_ | refine W.ret ?_ | refine W.exit ?_); try simp (maxSteps := 1000000) (disch := (first | omega | (simp only [World.size_alloc, size_wr, size_drew] <;> omega) | exact not_noB _)) only [go_sem, ↓reduceIte, n0, reduceCtorEq, n1, n2, n3, n4, n5, i0, i1, i2, i3, i4, i5, i6, i7, hv_5, hx1_5, Int.toNat_natCast, Nat.mul_one, hq1_0, hq1_1, hq1_2, hr1_1, hr1_0, hr1_5, hr1_6, hI1, hN1, hS1])
      refine (AppendCompactArrayLen_fn _ _ _ ha5.own hB5 (y1.at 1).l.length hlle1_1 (by simp only [List.length_append, List.length_nil]; omega)).mono ?_
      rintro r6 w6 hc6
      rw [← hXLe1_1] at hc6
      have ha6 := ha5.trans hc6
      have hB6 : B ≤ w6.heap.size := Nat.le_trans hB ha6.upd.size
      have hv_6 := ha6.upd.blk_some hv hdv
      have hx1_6 := ha6.upd.blk_some hx1 hnx1
      repeat ((first | refine W.seqR rfl ?_ | refine W.seq ?_ | refine W.regR rfl ?_ | refine W.condK ?_ | refine W.block ?_ | refine W.skip ?_ | refine W.ret ?_ | refine W.exit ?_); try simp (maxSteps := 1000000) (disch := (first | omega | (simp only [World.size_alloc, size_wr, size_drew] <;> omega) | exact not_noB _)) only [go_sem, ↓reduceIte, n0, reduceCtorEq, n1, n2, n3, n4, n5, i0, i1, i2, i3, i4, i5, i6, i7, hv_6, hx1_6, Int.toNat_natCast, Nat.mul_one, hq1_0, hq1_1, hq1_2, hr1_1, hr1_0, hr1_5, hr1_6, hI1, hN1, hS1])
      have hadd2 := ha6
      refine W.exitJ 2 (fun ρ w' => ∃ r, ρ 1 = r ∧ ρ 0 = .pointer (some ⟨vb, 0, none⟩) ∧ ρ 5 = .int .i16 ver ∧ ρ 6 = .bool true ∧ ρ 69 = .int .i64 j1 ∧ ρ 68 = .int .i64 (t.at 2).l.length ∧ ρ 9 = .slice (some ⟨b1, o1, none⟩) (t.at 2).l.length ac_2 ∧ ρ 11 = .pointer (some ⟨b1, o1 + j1 * 3, none⟩) ∧ AppR 5 B w v s (([] ++ X_0 ++ X_1 ++ XL_2 ++ T1 ++ Xe1_0 ++ XLe1_1) ++ XEe1_1) r w')
        (W.loop (fun ρ w' => ∃ (j : Nat) (r : Value), j ≤ (y1.at 1).l.length ∧ ρ 101 = .int .i64 j ∧ ρ 100 = .int .i64 (y1.at 1).l.length ∧ ρ 13 = .slice abe1_1 (y1.at 1).l.length ace1_1 ∧ ρ 1 = r ∧ ρ 0 = .pointer (some ⟨vb, 0, none⟩) ∧ ρ 5 = .int .i16 ver ∧ ρ 6 = .bool true ∧ ρ 69 = .int .i64 j1 ∧ ρ 68 = .int .i64 (t.at 2).l.length ∧ ρ 9 = .slice (some ⟨b1, o1, none⟩) (t.at 2).l.length ac_2 ∧ ρ 11 = .pointer (some ⟨b1, o1 + j1 * 3, none⟩) ∧ AppR 5 B w v s (([] ++ X_0 ++ X_1 ++ XL_2 ++ T1 ++ Xe1_0 ++ XLe1_1) ++ ((y1.at 1).l.take j).flatMap (fun x => partS (d + 1) fs_BeginQuorumEpochRequestTopicPartition ver true x)) r w')
          (fun ρ _ => (y1.at 1).l.length - (RowKit.intOf (ρ 101)).toNat) ?_ ?_) ?_
      · refine ⟨0, _, Nat.zero_le _, ?_, ?_, ?_, ?_, ?_, ?_, ?_, ?_, ?_, ?_, ?_, ha6.eqs (by rw [List.take_zero, List.flatMap_nil, List.append_nil])⟩ <;> simp (maxSteps := 1000000) (disch := (first | omega | (simp only [World.size_alloc, size_wr, size_drew] <;> omega) | exact not_noB _)) only [go_sem, ↓reduceIte, n0, reduceCtorEq, n1, n2, n3, n4, n5, i0, i1, i2, i3, i4, i5, i6, i7, hr1_1, hr1_0, hr1_5, hr1_6, hI1, hN1, hS1]
        all_goals rfl
      · rintro ρ w7 ⟨j2, r7, hj2, hI2, hN2, hS2, hr1_2, hr2_0, hr2_5, hr2_6, hr2_69, hr2_68, hr2_9, hr2_11, ha7⟩
        have hB7 : B ≤ w7.heap.size := Nat.le_trans hB ha7.upd.size
        have hv_7 := ha7.upd.blk_some hv hdv
        have hx1_7 := ha7.upd.blk_some hx1 hnx1
        by_cases hlt2 : j2 < (y1.at 1).l.length
        · obtain ⟨_, b2, o2, x2, ce2, hb2, hok2, hx2, hbl2, hxs2, hxe2, hq2, hRe2⟩ := SlR.get (size := 20) (by decide) hse1_1 hlt2
          subst hb2
          have hcat2 : (y1.at 1).l.take (j2 + 1) = (y1.at 1).l.take j2 ++ [(y1.at 1).l[j2]] := List.take_succ_eq_append_getElem hlt2
          have htl2 := take_flatMap_len (y1.at 1).l (fun x => partS (d + 1) fs_BeginQuorumEpochRequestTopicPartition ver true x) (j2 + 1)
          rw [← hXEe1_1, hcat2, List.flatMap_append, List.flatMap_cons, List.flatMap_nil, List.append_nil] at htl2
          have hge2 := (ge1_1.list rfl).2 _ (List.getElem_mem hlt2)
          generalize (y1.at 1).l[j2] = y2 at *
          have hnx2 := hd b2 hbl2 hok2
          obtain ⟨T2, hTT2⟩ : ∃ T, T = ((y1.at 1).l.take j2).flatMap (fun x => partS (d + 1) fs_BeginQuorumEpochRequestTopicPartition ver true x) := ⟨_, rfl⟩
          rw [← hTT2] at ha7 htl2
          have hx2_7 := ha7.upd.blk_some hx2 hnx2
          replace hRe2 : RepS true (d + 1) fs_BeginQuorumEpochRequestTopicPartition okM w y2 ce2 := Rep1_part.1 hRe2
          have hfe2 : FitP ver (d + 1) fs_BeginQuorumEpochRequestTopicPartition y2 := hge2.2.2 rfl
          obtain ⟨⟨ge2_0, ge2_1, ge2_2, ge2_3, -⟩, hfue2⟩ := hfe2
          replace ge2_0 : FitF (FitP ver d) ver fBeginQuorumEpochRequestTopicPartition_0 (y2.at 0) := ge2_0
          replace ge2_1 : FitF (FitP ver d) ver fBeginQuorumEpochRequestTopicPartition_1 (y2.at 1) := ge2_1
          replace ge2_2 : FitF (FitP ver d) ver fBeginQuorumEpochRequestTopicPartition_2 (y2.at 2) := ge2_2
          replace ge2_3 : FitF (FitP ver d) ver fBeginQuorumEpochRequestTopicPartition_3 (y2.at 3) := ge2_3
          obtain ⟨cse2, qe2, hcse2, hLe2, hTe2⟩ := hRe2.inv
          obtain ⟨ce2_0, ee2_0, rfl, he2_0, ce2_1, ee2_1, rfl, he2_1, ce2_2, ee2_2, rfl, he2_2, ce2_3, ee2_3, rfl, he2_3, rfl⟩ := hLe2
          replace he2_0 : RepF (RepS true d) (szS true d) fBeginQuorumEpochRequestTopicPartition_0 okM w (y2.at 0) ce2_0 := he2_0
          replace he2_1 : RepF (RepS true d) (szS true d) fBeginQuorumEpochRequestTopicPartition_1 okM w (y2.at 1) ce2_1 := he2_1
          replace he2_2 : RepF (RepS true d) (szS true d) fBeginQuorumEpochRequestTopicPartition_2 okM w (y2.at 2) ce2_2 := he2_2
          replace he2_3 : RepF (RepS true d) (szS true d) fBeginQuorumEpochRequestTopicPartition_3 okM w (y2.at 3) ce2_3 := he2_3
          obtain rfl := (RepF_num (by decide)).1 he2_0
          obtain rfl := (RepF_uuid rfl).1 he2_1
          have hx16e2_1 : ((uuidS (y2.at 1).s).map byteV).length = 16 := by rw [List.length_map, uuidS_len]
          have hfxe2_1 := flat_bytes (uuidS (y2.at 1).s)
          generalize hXe2_1 : (uuidS (y2.at 1).s).map byteV = Ze2_1 at *
          obtain ⟨ze2_1_0, ze2_1_1, ze2_1_2, ze2_1_3, ze2_1_4, ze2_1_5, ze2_1_6, ze2_1_7, ze2_1_8, ze2_1_9, ze2_1_10, ze2_1_11, ze2_1_12, ze2_1_13, ze2_1_14, ze2_1_15, rfl⟩ := list16 hx16e2_1
          simp only [List.all_cons, List.all_nil, Bool.and_true, Bool.and_eq_true] at hfxe2_1
          obtain ⟨fze2_1_0, fze2_1_1, fze2_1_2, fze2_1_3, fze2_1_4, fze2_1_5, fze2_1_6, fze2_1_7, fze2_1_8, fze2_1_9, fze2_1_10, fze2_1_11, fze2_1_12, fze2_1_13, fze2_1_14, fze2_1_15⟩ := hfxe2_1
          obtain rfl := (RepF_num (by decide)).1 he2_2
          obtain rfl := (RepF_num (by decide)).1 he2_3
          obtain ⟨qme2, rfl⟩ := hTe2.shape
          subst hcse2
          have hq2_0 : x2.1[o2 + j2 * 20]? = some (.int .i32 (IntKind.i32.wrap (y2.at 0).n)) := hq2 0 (by decide)
          have hq2_1 : x2.1[o2 + (j2 * 20 + 1)]? = some (ze2_1_0) := hq2 1 (by decide)
          have hq2_2 : x2.1[o2 + (j2 * 20 + 2)]? = some (ze2_1_1) := hq2 2 (by decide)
          have hq2_3 : x2.1[o2 + (j2 * 20 + 3)]? = some (ze2_1_2) := hq2 3 (by decide)
          have hq2_4 : x2.1[o2 + (j2 * 20 + 4)]? = some (ze2_1_3) := hq2 4 (by decide)
          have hq2_5 : x2.1[o2 + (j2 * 20 + 5)]? = some (ze2_1_4) := hq2 5 (by decide)
          have hq2_6 : x2.1[o2 + (j2 * 20 + 6)]? = some (ze2_1_5) := hq2 6 (by decide)
          have hq2_7 : x2.1[o2 + (j2 * 20 + 7)]? = some (ze2_1_6) := hq2 7 (by decide)
          have hq2_8 : x2.1[o2 + (j2 * 20 + 8)]? = some (ze2_1_7) := hq2 8 (by decide)
          have hq2_9 : x2.1[o2 + (j2 * 20 + 9)]? = some (ze2_1_8) := hq2 9 (by decide)
          have hq2_10 : x2.1[o2 + (j2 * 20 + 10)]? = some (ze2_1_9) := hq2 10 (by decide)
          have hq2_11 : x2.1[o2 + (j2 * 20 + 11)]? = some (ze2_1_10) := hq2 11 (by decide)
          have hq2_12 : x2.1[o2 + (j2 * 20 + 12)]? = some (ze2_1_11) := hq2 12 (by decide)
          have hq2_13 : x2.1[o2 + (j2 * 20 + 13)]? = some (ze2_1_12) := hq2 13 (by decide)
          have hq2_14 : x2.1[o2 + (j2 * 20 + 14)]? = some (ze2_1_13) := hq2 14 (by decide)
          have hq2_15 : x2.1[o2 + (j2 * 20 + 15)]? = some (ze2_1_14) := hq2 15 (by decide)
          have hq2_16 : x2.1[o2 + (j2 * 20 + 16)]? = some (ze2_1_15) := hq2 16 (by decide)
          have hq2_17 : x2.1[o2 + (j2 * 20 + 17)]? = some (.int .i32 (IntKind.i32.wrap (y2.at 2).n)) := hq2 17 (by decide)
          have hq2_18 : x2.1[o2 + (j2 * 20 + 18)]? = some (.int .i32 (IntKind.i32.wrap (y2.at 3).n)) := hq2 18 (by decide)
          have hq2_19 : x2.1[o2 + (j2 * 20 + 19)]? = some (.map qme2) := hq2 19 (by decide)
          have hxu2_1 : cellsAt x2.1 (o2 + (j2 * 20 + 1)) 16 = some (.agg #[ze2_1_0, ze2_1_1, ze2_1_2, ze2_1_3, ze2_1_4, ze2_1_5, ze2_1_6, ze2_1_7, ze2_1_8, ze2_1_9, ze2_1_10, ze2_1_11, ze2_1_12, ze2_1_13, ze2_1_14, ze2_1_15]) := by
            refine cellsAt_of (l := [ze2_1_0, ze2_1_1, ze2_1_2, ze2_1_3, ze2_1_4, ze2_1_5, ze2_1_6, ze2_1_7, ze2_1_8, ze2_1_9, ze2_1_10, ze2_1_11, ze2_1_12, ze2_1_13, ze2_1_14, ze2_1_15]) (fun j hj => ?_) rfl (by omega)
            rw [show o2 + (j2 * 20 + 1) + j = o2 + (j2 * 20 + (1 + j)) by omega]
            exact (hq2 (1 + j) (by omega)).trans (get_mid (pre := [.int .i32 (IntKind.i32.wrap (y2.at 0).n)]) (xs := [ze2_1_0, ze2_1_1, ze2_1_2, ze2_1_3, ze2_1_4, ze2_1_5, ze2_1_6, ze2_1_7, ze2_1_8, ze2_1_9, ze2_1_10, ze2_1_11, ze2_1_12, ze2_1_13, ze2_1_14, ze2_1_15]) (post := [.int .i32 (IntKind.i32.wrap (y2.at 2).n), .int .i32 (IntKind.i32.wrap (y2.at 3).n), .map qme2]) hj)
          have hhe2_0 : hasS fBeginQuorumEpochRequestTopicPartition_0 ver = true := hasS_t (by show (0 : Int) ≤ ver; omega) (by show (-1 : Int) < 0 ∨ ver ≤ (-1 : Int); omega)
          obtain ⟨Xe2_0, hXXe2_0⟩ : ∃ X, X = fixedS (y2.at 0).n 4 := ⟨_, rfl⟩
          have hhe2_1 : hasS fBeginQuorumEpochRequestTopicPartition_1 ver = true := hasS_t (by show (1 : Int) ≤ ver; omega) (by show (-1 : Int) < 0 ∨ ver ≤ (-1 : Int); omega)
          obtain ⟨Xe2_1, hXXe2_1⟩ : ∃ X, X = uuidS (y2.at 1).s := ⟨_, rfl⟩
          have hhe2_2 : hasS fBeginQuorumEpochRequestTopicPartition_2 ver = true := hasS_t (by show (0 : Int) ≤ ver; omega) (by show (-1 : Int) < 0 ∨ ver ≤ (-1 : Int); omega)
          obtain ⟨Xe2_2, hXXe2_2⟩ : ∃ X, X = fixedS (y2.at 2).n 4 := ⟨_, rfl⟩
          have hhe2_3 : hasS fBeginQuorumEpochRequestTopicPartition_3 ver = true := hasS_t (by show (0 : Int) ≤ ver; omega) (by show (-1 : Int) < 0 ∨ ver ≤ (-1 : Int); omega)
          obtain ⟨Xe2_3, hXXe2_3⟩ : ∃ X, X = fixedS (y2.at 3).n 4 := ⟨_, rfl⟩
          obtain ⟨XUe2, hXUe2⟩ : ∃ X, X = uvarS y2.u.length := ⟨_, rfl⟩
          obtain ⟨XTe2, hXTe2⟩ : ∃ X, X = y2.u.flatMap oneTag := ⟨_, rfl⟩
          have hPe2 : partS (d + 1) fs_BeginQuorumEpochRequestTopicPartition ver true y2 = (Xe2_0 ++ (Xe2_1 ++ (Xe2_2 ++ (Xe2_3 ++ [])))) ++ (XUe2 ++ XTe2) := by rw [hXUe2, hXTe2]; exact partS_yes rfl hfue2 (plainL_has (by decide) hhe2_0 ((fieldS_num 3 rfl (by decide)).trans hXXe2_0.symm) (plainL_has (by decide) hhe2_1 ((fieldS_uuid rfl).trans hXXe2_1.symm) (plainL_has (by decide) hhe2_2 ((fieldS_num 3 rfl (by decide)).trans hXXe2_2.symm) (plainL_has (by decide) hhe2_3 ((fieldS_num 3 rfl (by decide)).trans hXXe2_3.symm) rfl))))
          rw [hPe2] at htl2
          simp only [List.length_append, List.length_nil] at htl2
          repeat ((first | refine W.seqR rfl ?_ | refine W.seq ?_ | refine W.regR rfl ?_ | refine W.condK ?_ | refine W.block ?_ | refine W.skip ?_ | refine W.ret ?_ | refine W.exit ?_); try simp (maxSteps := 1000000) (disch := (first | omega | (simp only [World.size_alloc, size_wr, size_drew] <;> omega) | exact not_noB _)) only [go_sem, ↓reduceIte, n0, reduceCtorEq, n1, n2, n3, n4, n5, i0, i1, i2, i3, i4, i5, i6, i7, hv_7, hx1_7, hx2_7, Int.toNat_natCast, Nat.mul_one, hq1_0, hq1_1, hq1_2, hq2_0, hq2_1, hq2_2, hq2_3, hq2_4, hq2_5, hq2_6, hq2_7, hq2_8, hq2_9, hq2_10, hq2_11, hq2_12, hq2_13, hq2_14, hq2_15, hq2_16, hq2_17, hq2_18, hq2_19, fze2_1_0, fze2_1_1, fze2_1_2, fze2_1_3, fze2_1_4, fze2_1_5, fze2_1_6, fze2_1_7, fze2_1_8, fze2_1_9, fze2_1_10, fze2_1_11, fze2_1_12, fze2_1_13, fze2_1_14, fze2_1_15, hxu2_1, hr1_2, hr2_0, hr2_5, hr2_6, hr2_69, hr2_68, hr2_9, hr2_11, hI2, hN2, hS2])
          refine (AppendInt32_fn _ _ _ ha7.own hB7 _ (by simp only [List.length_append, List.length_nil]; omega)).mono ?_
          rintro r8 w8 hc8
          rw [wrap32, ← hXXe2_0] at hc8
          have ha8 := ha7.trans hc8
          have hB8 : B ≤ w8.heap.size := Nat.le_trans hB ha8.upd.size
          have hv_8 := ha8.upd.blk_some hv hdv
          have hx1_8 := ha8.upd.blk_some hx1 hnx1
          have hx2_8 := ha8.upd.blk_some hx2 hnx2
          have hcze2_1 : cellsAt #[ze2_1_0, ze2_1_1, ze2_1_2, ze2_1_3, ze2_1_4, ze2_1_5, ze2_1_6, ze2_1_7, ze2_1_8, ze2_1_9, ze2_1_10, ze2_1_11, ze2_1_12, ze2_1_13, ze2_1_14, ze2_1_15] 0 16 = some (.agg #[ze2_1_0, ze2_1_1, ze2_1_2, ze2_1_3, ze2_1_4, ze2_1_5, ze2_1_6, ze2_1_7, ze2_1_8, ze2_1_9, ze2_1_10, ze2_1_11, ze2_1_12, ze2_1_13, ze2_1_14, ze2_1_15]) := cellsAt_full rfl
          repeat ((first | refine W.seqR rfl ?_ | refine W.seq ?_ | refine W.regR rfl ?_ | refine W.condK ?_ | refine W.block ?_ | refine W.skip ?_ | refine W.ret ?_ | refine W.exit ?_); try simp (maxSteps := 1000000) (disch := (first | omega | (simp only [World.size_alloc, size_wr, size_drew] <;> omega) | exact not_noB _)) only [go_sem, ↓reduceIte, n0, reduceCtorEq, n1, n2, n3, n4, n5, i0, i1, i2, i3, i4, i5, i6, i7, hv_8, hx1_8, hx2_8, Int.toNat_natCast, Nat.mul_one, hq1_0, hq1_1, hq1_2, hq2_0, hq2_1, hq2_2, hq2_3, hq2_4, hq2_5, hq2_6, hq2_7, hq2_8, hq2_9, hq2_10, hq2_11, hq2_12, hq2_13, hq2_14, hq2_15, hq2_16, hq2_17, hq2_18, hq2_19, fze2_1_0, fze2_1_1, fze2_1_2, fze2_1_3, fze2_1_4, fze2_1_5, fze2_1_6, fze2_1_7, fze2_1_8, fze2_1_9, fze2_1_10, fze2_1_11, fze2_1_12, fze2_1_13, fze2_1_14, fze2_1_15, hxu2_1, hr1_2, hr2_0, hr2_5, hr2_6, hr2_69, hr2_68, hr2_9, hr2_11, hI2, hN2, hS2, hcze2_1])
          generalize hwu9 : wr (w8.alloc (.cells #[.int .u8 0, .int .u8 0, .int .u8 0, .int .u8 0, .int .u8 0, .int .u8 0, .int .u8 0, .int .u8 0, .int .u8 0, .int .u8 0, .int .u8 0, .int .u8 0, .int .u8 0, .int .u8 0, .int .u8 0, .int .u8 0] 168)) w8.heap.size 0 [ze2_1_0, ze2_1_1, ze2_1_2, ze2_1_3, ze2_1_4, ze2_1_5, ze2_1_6, ze2_1_7, ze2_1_8, ze2_1_9, ze2_1_10, ze2_1_11, ze2_1_12, ze2_1_13, ze2_1_14, ze2_1_15] = w9
          have hEu9 : Ext w8 w9 := by rw [← hwu9]; exact (Upd.alloc (Upd.refl _ _) _).wr _ _ (.inl (Nat.le_refl _))
          clear hwu9
          have ha9 := ha8.then hEu9
          have hB9 : B ≤ w9.heap.size := Nat.le_trans hB ha9.upd.size
          have hv_9 := ha9.upd.blk_some hv hdv
          have hx1_9 := ha9.upd.blk_some hx1 hnx1
          have hx2_9 := ha9.upd.blk_some hx2 hnx2
          have hu9 := AppendUuid_fn r8 _ w9 ha9.own hB9 (uuidS (y2.at 1).s) (uuidS_len _) (by simp only [List.length_append, List.length_nil]; omega)
          rw [hXe2_1, ← hXXe2_1] at hu9
          refine (hu9).mono ?_
          rintro r10 w10 hc10
          have ha10 := ha9.trans hc10
          have hB10 : B ≤ w10.heap.size := Nat.le_trans hB ha10.upd.size
          have hv_10 := ha10.upd.blk_some hv hdv
          have hx1_10 := ha10.upd.blk_some hx1 hnx1
          have hx2_10 := ha10.upd.blk_some hx2 hnx2
          repeat ((first | refine W.seqR rfl ?_ | refine W.seq ?_ | refine W.regR rfl ?_ | refine W.condK ?_ | refine W.block ?_ | refine W.skip ?_ | refine W.ret ?_ | refine W.exit ?_); try simp (maxSteps := 1000000) (disch := (first | omega | (simp only [World.size_alloc, size_wr, size_drew] <;> omega) | exact not_noB _)) only [go_sem, ↓reduceIte, n0, reduceCtorEq, n1, n2, n3, n4, n5, i0, i1, i2, i3, i4, i5, i6, i7, hv_10, hx1_10, hx2_10, Int.toNat_natCast, Nat.mul_one, hq1_0, hq1_1, hq1_2, hq2_0, hq2_1, hq2_2, hq2_3, hq2_4, hq2_5, hq2_6, hq2_7, hq2_8, hq2_9, hq2_10, hq2_11, hq2_12, hq2_13, hq2_14, hq2_15, hq2_16, hq2_17, hq2_18, hq2_19, fze2_1_0, fze2_1_1, fze2_1_2, fze2_1_3, fze2_1_4, fze2_1_5, fze2_1_6, fze2_1_7, fze2_1_8, fze2_1_9, fze2_1_10, fze2_1_11, fze2_1_12, fze2_1_13, fze2_1_14, fze2_1_15, hxu2_1, hr1_2, hr2_0, hr2_5, hr2_6, hr2_69, hr2_68, hr2_9, hr2_11, hI2, hN2, hS2])
          refine (AppendInt32_fn _ _ _ ha10.own hB10 _ (by simp only [List.length_append, List.length_nil]; omega)).mono ?_
          rintro r11 w11 hc11
          rw [wrap32, ← hXXe2_2] at hc11
          have ha11 := ha10.trans hc11
          have hB11 : B ≤ w11.heap.size := Nat.le_trans hB ha11.upd.size
          have hv_11 := ha11.upd.blk_some hv hdv
          have hx1_11 := ha11.upd.blk_some hx1 hnx1
          have hx2_11 := ha11.upd.blk_some hx2 hnx2
          repeat ((first | refine W.seqR rfl ?_ | refine W.seq ?_ | refine W.regR rfl ?_ | refine W.condK ?_ | refine W.block ?_ | refine W.skip ?_ | refine W.ret ?_ | refine W.exit ?_); try simp (maxSteps := 1000000) (disch := (first | omega | (simp only [World.size_alloc, size_wr, size_drew] <;> omega) | exact not_noB _)) only [go_sem, ↓reduceIte, n0, reduceCtorEq, n1, n2, n3, n4, n5, i0, i1, i2, i3, i4, i5, i6, i7, hv_11, hx1_11, hx2_11, Int.toNat_natCast, Nat.mul_one, hq1_0, hq1_1, hq1_2, hq2_0, hq2_1, hq2_2, hq2_3, hq2_4, hq2_5, hq2_6, hq2_7, hq2_8, hq2_9, hq2_10, hq2_11, hq2_12, hq2_13, hq2_14, hq2_15, hq2_16, hq2_17, hq2_18, hq2_19, fze2_1_0, fze2_1_1, fze2_1_2, fze2_1_3, fze2_1_4, fze2_1_5, fze2_1_6, fze2_1_7, fze2_1_8, fze2_1_9, fze2_1_10, fze2_1_11, fze2_1_12, fze2_1_13, fze2_1_14, fze2_1_15, hxu2_1, hr1_2, hr2_0, hr2_5, hr2_6, hr2_69, hr2_68, hr2_9, hr2_11, hI2, hN2, hS2])
          refine (AppendInt32_fn _ _ _ ha11.own hB11 _ (by simp only [List.length_append, List.length_nil]; omega)).mono ?_
          rintro r12 w12 hc12
          rw [wrap32, ← hXXe2_3] at hc12
          have ha12 := ha11.trans hc12
          have hB12 : B ≤ w12.heap.size := Nat.le_trans hB ha12.upd.size
          have hv_12 := ha12.upd.blk_some hv hdv
          have hx1_12 := ha12.upd.blk_some hx1 hnx1
          have hx2_12 := ha12.upd.blk_some hx2 hnx2
          repeat ((first | refine W.seqR rfl ?_ | refine W.seq ?_ | refine W.regR rfl ?_ | refine W.condK ?_ | refine W.block ?_ | refine W.skip ?_ | refine W.ret ?_ | refine W.exit ?_); try simp (maxSteps := 1000000) (disch := (first | omega | (simp only [World.size_alloc, size_wr, size_drew] <;> omega) | exact not_noB _)) only [go_sem, ↓reduceIte, n0, reduceCtorEq, n1, n2, n3, n4, n5, i0, i1, i2, i3, i4, i5, i6, i7, hv_12, hx1_12, hx2_12, Int.toNat_natCast, Nat.mul_one, hq1_0, hq1_1, hq1_2, hq2_0, hq2_1, hq2_2, hq2_3, hq2_4, hq2_5, hq2_6, hq2_7, hq2_8, hq2_9, hq2_10, hq2_11, hq2_12, hq2_13, hq2_14, hq2_15, hq2_16, hq2_17, hq2_18, hq2_19, fze2_1_0, fze2_1_1, fze2_1_2, fze2_1_3, fze2_1_4, fze2_1_5, fze2_1_6, fze2_1_7, fze2_1_8, fze2_1_9, fze2_1_10, fze2_1_11, fze2_1_12, fze2_1_13, fze2_1_14, fze2_1_15, hxu2_1, hr1_2, hr2_0, hr2_5, hr2_6, hr2_69, hr2_68, hr2_9, hr2_11, hI2, hN2, hS2])
          have hTk12 : TagsM (OkS okM w.heap.size) w12 (.map qme2) y2.u := (hTe2.weaken fun b h1 h2 => ⟨h2, h1⟩).keep (ha12.upd.keeps fun b hb hk => hd b hb hk.1)
          refine (TagsLen_fn (ok := OkS okM w.heap.size) w12 hx2_12 (to := o2 + (j2 * 20 + 19)) hq2_19 hTk12).mono ?_
          rintro _ w12' ⟨rfl, rfl⟩
          have hul12 : y2.u.length ≤ 32767 := hfue2.1
          have ew12 : IntKind.u32.wrap (y2.u.length : Int) = y2.u.length := u32_wrap (by omega)
          have ez12 : IntKind.u32.wrap (0 + (y2.u.length : Int)) = y2.u.length := by rw [Int.zero_add, u32_wrap (by omega)]
          simp (maxSteps := 1000000) (disch := (first | omega | (simp only [World.size_alloc, size_wr, size_drew] <;> omega) | exact not_noB _)) only [go_sem, ↓reduceIte, n0, reduceCtorEq, n1, n2, n3, n4, n5, i0, i1, i2, i3, i4, i5, i6, i7, hv_12, hx1_12, hx2_12, Int.toNat_natCast, Nat.mul_one, hq1_0, hq1_1, hq1_2, hq2_0, hq2_1, hq2_2, hq2_3, hq2_4, hq2_5, hq2_6, hq2_7, hq2_8, hq2_9, hq2_10, hq2_11, hq2_12, hq2_13, hq2_14, hq2_15, hq2_16, hq2_17, hq2_18, hq2_19, fze2_1_0, fze2_1_1, fze2_1_2, fze2_1_3, fze2_1_4, fze2_1_5, fze2_1_6, fze2_1_7, fze2_1_8, fze2_1_9, fze2_1_10, fze2_1_11, fze2_1_12, fze2_1_13, fze2_1_14, fze2_1_15, hxu2_1, hr1_2, hr2_0, hr2_5, hr2_6, hr2_69, hr2_68, hr2_9, hr2_11, hI2, hN2, hS2, ew12, ez12]
          refine (AppendUvarint_fn _ _ _ ha12.own hB12 y2.u.length (by omega) (by simp only [List.length_append, List.length_nil]; omega)).mono ?_
          rintro r13 w13 hc13
          rw [← hXUe2] at hc13
          have ha13 := ha12.trans hc13
          have hB13 : B ≤ w13.heap.size := Nat.le_trans hB ha13.upd.size
          have hv_13 := ha13.upd.blk_some hv hdv
          have hx1_13 := ha13.upd.blk_some hx1 hnx1
          have hx2_13 := ha13.upd.blk_some hx2 hnx2
          repeat ((first | refine W.seqR rfl ?_ | refine W.seq ?_ | refine W.regR rfl ?_ | refine W.condK ?_ | refine W.block ?_ | refine W.skip ?_ | refine W.ret ?_ | refine W.exit ?_); try simp (maxSteps := 1000000) (disch := (first | omega | (simp only [World.size_alloc, size_wr, size_drew] <;> omega) | exact not_noB _)) only [go_sem, ↓reduceIte, n0, reduceCtorEq, n1, n2, n3, n4, n5, i0, i1, i2, i3, i4, i5, i6, i7, hv_13, hx1_13, hx2_13, Int.toNat_natCast, Nat.mul_one, hq1_0, hq1_1, hq1_2, hq2_0, hq2_1, hq2_2, hq2_3, hq2_4, hq2_5, hq2_6, hq2_7, hq2_8, hq2_9, hq2_10, hq2_11, hq2_12, hq2_13, hq2_14, hq2_15, hq2_16, hq2_17, hq2_18, hq2_19, fze2_1_0, fze2_1_1, fze2_1_2, fze2_1_3, fze2_1_4, fze2_1_5, fze2_1_6, fze2_1_7, fze2_1_8, fze2_1_9, fze2_1_10, fze2_1_11, fze2_1_12, fze2_1_13, fze2_1_14, fze2_1_15, hxu2_1, hr1_2, hr2_0, hr2_5, hr2_6, hr2_69, hr2_68, hr2_9, hr2_11, hI2, hN2, hS2])
          have hTk13 : TagsM (OkS okM w.heap.size) w13 (.map qme2) y2.u := (hTe2.weaken fun b h1 h2 => ⟨h2, h1⟩).keep (ha13.upd.keeps fun b hb hk => hd b hb hk.1)
          refine (AppendEach_fn (ok := OkS okM w.heap.size) _ _ _ ha13.own hB13 hx2_13 (to := o2 + (j2 * 20 + 19)) hq2_19 hTk13 (rising_keys hfue2) hfue2.1 (tags_small hfue2 hTk13) (hdK ha13) (ownK ha13 (blk_lt hx2) hnx2) (by simp only [List.length_append, List.length_nil]; omega)).mono ?_
          rintro r14 w14 hc14
          rw [← hXTe2] at hc14
          have ha14 := ha13.trans hc14
          have hB14 : B ≤ w14.heap.size := Nat.le_trans hB ha14.upd.size
          have hv_14 := ha14.upd.blk_some hv hdv
          have hx1_14 := ha14.upd.blk_some hx1 hnx1
          have hx2_14 := ha14.upd.blk_some hx2 hnx2
          repeat ((first | refine W.seqR rfl ?_ | refine W.seq ?_ | refine W.regR rfl ?_ | refine W.condK ?_ | refine W.block ?_ | refine W.skip ?_ | refine W.ret ?_ | refine W.exit ?_); try simp (maxSteps := 1000000) (disch := (first | omega | (simp only [World.size_alloc, size_wr, size_drew] <;> omega) | exact not_noB _)) only [go_sem, ↓reduceIte, n0, reduceCtorEq, n1, n2, n3, n4, n5, i0, i1, i2, i3, i4, i5, i6, i7, hr1_2, hr2_0, hr2_5, hr2_6, hr2_69, hr2_68, hr2_9, hr2_11, hI2, hN2, hS2])
          refine ⟨⟨j2 + 1, _, by omega, rfl, rfl, ha14.eqs ?_⟩, ?_⟩
          · rw [hcat2, List.flatMap_append, List.flatMap_cons, List.flatMap_nil, List.append_nil, ← hTT2, hPe2]; simp only [List.append_assoc, List.append_nil, List.nil_append]
          · simp only [RowKit.intOf]; omega
        · have hjl2 : j2 = (y1.at 1).l.length := by omega
          subst hjl2
          rw [List.take_length, ← hXEe1_1] at ha7
          repeat ((first | refine W.seqR rfl ?_ | refine W.seq ?_ | refine W.regR rfl ?_ | refine W.condK ?_ | refine W.block ?_ | refine W.skip ?_ | refine W.ret ?_ | refine W.exit ?_); try simp (maxSteps := 1000000) (disch := (first | omega | (simp only [World.size_alloc, size_wr, size_drew] <;> omega) | exact not_noB _)) only [go_sem, ↓reduceIte, n0, reduceCtorEq, n1, n2, n3, n4, n5, i0, i1, i2, i3, i4, i5, i6, i7, hI2, hN2])
          exact ⟨_, hr1_2, hr2_0, hr2_5, hr2_6, hr2_69, hr2_68, hr2_9, hr2_11, ha7⟩
      · rintro ρ w15 ⟨r15, hr1_3, hr3_0, hr3_5, hr3_6, hr3_69, hr3_68, hr3_9, hr3_11, ha15⟩
        have hB15 : B ≤ w15.heap.size := Nat.le_trans hB ha15.upd.size
        have hv_15 := ha15.upd.blk_some hv hdv
        have hx1_15 := ha15.upd.blk_some hx1 hnx1
        repeat ((first | refine W.seqR rfl ?_ | refine W.seq ?_ | refine W.regR rfl ?_ | refine W.condK ?_ | refine W.block ?_ | refine W.skip ?_ | refine W.ret ?_ | refine W.exit ?_); try simp (maxSteps := 1000000) (disch := (first | omega | (simp only [World.size_alloc, size_wr, size_drew] <;> omega) | exact not_noB _)) only [go_sem, ↓reduceIte, n0, reduceCtorEq, n1, n2, n3, n4, n5, i0, i1, i2, i3, i4, i5, i6, i7, hv_15, hx1_15, Int.toNat_natCast, Nat.mul_one, hq1_0, hq1_1, hq1_2, hr1_3, hr3_0, hr3_5, hr3_6, hr3_69, hr3_68, hr3_9, hr3_11])
        have hTk15 : TagsM (OkS okM w.heap.size) w15 (.map qme1) y1.u := (hTe1.weaken fun b h1 h2 => ⟨h2, h1⟩).keep (ha15.upd.keeps fun b hb hk => hd b hb hk.1)
        refine (TagsLen_fn (ok := OkS okM w.heap.size) w15 hx1_15 (to := o1 + (j1 * 3 + 2)) hq1_2 hTk15).mono ?_
        rintro _ w15' ⟨rfl, rfl⟩
        have hul15 : y1.u.length ≤ 32767 := hfue1.1
        have ew15 : IntKind.u32.wrap (y1.u.length : Int) = y1.u.length := u32_wrap (by omega)
        have ez15 : IntKind.u32.wrap (0 + (y1.u.length : Int)) = y1.u.length := by rw [Int.zero_add, u32_wrap (by omega)]
        simp (maxSteps := 1000000) (disch := (first | omega | (simp only [World.size_alloc, size_wr, size_drew] <;> omega) | exact not_noB _)) only [go_sem, ↓reduceIte, n0, reduceCtorEq, n1, n2, n3, n4, n5, i0, i1, i2, i3, i4, i5, i6, i7, hv_15, hx1_15, Int.toNat_natCast, Nat.mul_one, hq1_0, hq1_1, hq1_2, hr1_3, hr3_0, hr3_5, hr3_6, hr3_69, hr3_68, hr3_9, hr3_11, ew15, ez15]
        refine (AppendUvarint_fn _ _ _ ha15.own hB15 y1.u.length (by omega) (by simp only [List.length_append, List.length_nil]; omega)).mono ?_
        rintro r16 w16 hc16
        rw [← hXUe1] at hc16
        have ha16 := ha15.trans hc16
        have hB16 : B ≤ w16.heap.size := Nat.le_trans hB ha16.upd.size
        have hv_16 := ha16.upd.blk_some hv hdv
        have hx1_16 := ha16.upd.blk_some hx1 hnx1
        repeat ((first | refine W.seqR rfl ?_ | refine W.seq ?_ | refine W.regR rfl ?_ | refine W.condK ?_ | refine W.block ?_ | refine W.skip ?_ | refine W.ret ?_ | refine W.exit ?_); try simp (maxSteps := 1000000) (disch := (first | omega | (simp only [World.size_alloc, size_wr, size_drew] <;> omega) | exact not_noB _)) only [go_sem, ↓reduceIte, n0, reduceCtorEq, n1, n2, n3, n4, n5, i0, i1, i2, i3, i4, i5, i6, i7, hv_16, hx1_16, Int.toNat_natCast, Nat.mul_one, hq1_0, hq1_1, hq1_2, hr1_3, hr3_0, hr3_5, hr3_6, hr3_69, hr3_68, hr3_9, hr3_11])
        have hTk16 : TagsM (OkS okM w.heap.size) w16 (.map qme1) y1.u := (hTe1.weaken fun b h1 h2 => ⟨h2, h1⟩).keep (ha16.upd.keeps fun b hb hk => hd b hb hk.1)
        refine (AppendEach_fn (ok := OkS okM w.heap.size) _ _ _ ha16.own hB16 hx1_16 (to := o1 + (j1 * 3 + 2)) hq1_2 hTk16 (rising_keys hfue1) hfue1.1 (tags_small hfue1 hTk16) (hdK ha16) (ownK ha16 (blk_lt hx1) hnx1) (by simp only [List.length_append, List.length_nil]; omega)).mono ?_
        rintro r17 w17 hc17
        rw [← hXTe1] at hc17
        have ha17 := ha16.trans hc17
        have hB17 : B ≤ w17.heap.size := Nat.le_trans hB ha17.upd.size
        have hv_17 := ha17.upd.blk_some hv hdv
        have hx1_17 := ha17.upd.blk_some hx1 hnx1
        repeat ((first | refine W.seqR rfl ?_ | refine W.seq ?_ | refine W.regR rfl ?_ | refine W.condK ?_ | refine W.block ?_ | refine W.skip ?_ | refine W.ret ?_ | refine W.exit ?_); try simp (maxSteps := 1000000) (disch := (first | omega | (simp only [World.size_alloc, size_wr, size_drew] <;> omega) | exact not_noB _)) only [go_sem, ↓reduceIte, n0, reduceCtorEq, n1, n2, n3, n4, n5, i0, i1, i2, i3, i4, i5, i6, i7, hr1_3, hr3_0, hr3_5, hr3_6, hr3_69, hr3_68, hr3_9, hr3_11])
        refine ⟨⟨j1 + 1, _, by omega, rfl, rfl, ha17.eqs ?_⟩, ?_⟩
        · rw [hcat1, List.flatMap_append, List.flatMap_cons, List.flatMap_nil, List.append_nil, ← hTT1, hPe1]; simp only [List.append_assoc, List.append_nil, List.nil_append]
        · simp only [RowKit.intOf]; omega
    · have hjl1 : j1 = (t.at 2).l.length := by omega
      subst hjl1
      rw [List.take_length, ← hXE_2] at ha4
      repeat ((first | refine W.seqR rfl ?_ | refine W.seq ?_ | refine W.regR rfl ?_ | refine W.condK ?_ | refine W.block ?_ | refine W.skip ?_ | refine W.ret ?_ | refine W.exit ?_); try simp (maxSteps := 1000000) (disch := (first | omega | (simp only [World.size_alloc, size_wr, size_drew] <;> omega) | exact not_noB _)) only [go_sem, ↓reduceIte, n0, reduceCtorEq, n1, n2, n3, n4, n5, i0, i1, i2, i3, i4, i5, i6, i7, hI1, hN1])
      exact ⟨_, hr1_1, hr1_0, hr1_5, hr1_6, ha4⟩
  · rintro ρ w18 ⟨r18, hr1_4, hr4_0, hr4_5, hr4_6, ha18⟩
    have hB18 : B ≤ w18.heap.size := Nat.le_trans hB ha18.upd.size
    have hv_18 := ha18.upd.blk_some hv hdv
    repeat ((first | refine W.seqR rfl ?_ | refine W.seq ?_ | refine W.regR rfl ?_ | refine W.condK ?_ | refine W.block ?_ | refine W.skip ?_ | refine W.ret ?_ | refine W.exit ?_); try simp (maxSteps := 1000000) (disch := (first | omega | (simp only [World.size_alloc, size_wr, size_drew] <;> omega) | exact not_noB _)) only [go_sem, ↓reduceIte, n0, reduceCtorEq, n1, n2, n3, n4, n5, i0, i1, i2, i3, i4, i5, i6, i7, hv_18, hr1_4, hr4_0, hr4_5, hr4_6])
    refine (AppendCompactArrayLen_fn _ _ _ ha18.own hB18 (t.at 3).l.length hll_3 (by simp only [List.length_append, List.length_nil]; omega)).mono ?_
    rintro r19 w19 hc19
    rw [← hXL_3] at hc19
    have ha19 := ha18.trans hc19
    have hB19 : B ≤ w19.heap.size := Nat.le_trans hB ha19.upd.size
    have hv_19 := ha19.upd.blk_some hv hdv
    repeat ((first | refine W.seqR rfl ?_ | refine W.seq ?_ | refine W.regR rfl ?_ | refine W.condK ?_ | refine W.block ?_ | refine W.skip ?_ | refine W.ret ?_ | refine W.exit ?_); try simp (maxSteps := 1000000) (disch := (first | omega | (simp only [World.size_alloc, size_wr, size_drew] <;> omega) | exact not_noB _)) only [go_sem, ↓reduceIte, n0, reduceCtorEq, n1, n2, n3, n4, n5, i0, i1, i2, i3, i4, i5, i6, i7, hv_19, hr1_4, hr4_0, hr4_5, hr4_6])
    have hadd5 := ha19
    refine W.exitJ 4 (fun ρ w' => ∃ r, ρ 1 = r ∧ ρ 0 = .pointer (some ⟨vb, 0, none⟩) ∧ ρ 5 = .int .i16 ver ∧ ρ 6 = .bool true ∧ AppR 5 B w v s (([] ++ X_0 ++ X_1 ++ XL_2 ++ XE_2 ++ XL_3) ++ XE_3) r w')
      (W.loop (fun ρ w' => ∃ (j : Nat) (r : Value), j ≤ (t.at 3).l.length ∧ ρ 184 = .int .i64 j ∧ ρ 183 = .int .i64 (t.at 3).l.length ∧ ρ 20 = .slice ab_3 (t.at 3).l.length ac_3 ∧ ρ 1 = r ∧ ρ 0 = .pointer (some ⟨vb, 0, none⟩) ∧ ρ 5 = .int .i16 ver ∧ ρ 6 = .bool true ∧ AppR 5 B w v s (([] ++ X_0 ++ X_1 ++ XL_2 ++ XE_2 ++ XL_3) ++ ((t.at 3).l.take j).flatMap (fun x => partS (d + 2) fs_BeginQuorumEpochRequestLeaderEndpoint ver true x)) r w')
        (fun ρ _ => (t.at 3).l.length - (RowKit.intOf (ρ 184)).toNat) ?_ ?_) ?_
    · refine ⟨0, _, Nat.zero_le _, ?_, ?_, ?_, ?_, ?_, ?_, ?_, ha19.eqs (by rw [List.take_zero, List.flatMap_nil, List.append_nil])⟩ <;> simp (maxSteps := 1000000) (disch := (first | omega | (simp only [World.size_alloc, size_wr, size_drew] <;> omega) | exact not_noB _)) only [go_sem, ↓reduceIte, n0, reduceCtorEq, n1, n2, n3, n4, n5, i0, i1, i2, i3, i4, i5, i6, i7, hr1_4, hr4_0, hr4_5, hr4_6]
      all_goals rfl
    · rintro ρ w20 ⟨j5, r20, hj5, hI5, hN5, hS5, hr1_5, hr5_0, hr5_5, hr5_6, ha20⟩
      have hB20 : B ≤ w20.heap.size := Nat.le_trans hB ha20.upd.size
      have hv_20 := ha20.upd.blk_some hv hdv
      by_cases hlt5 : j5 < (t.at 3).l.length
      · obtain ⟨_, b5, o5, x5, ce5, hb5, hok5, hx5, hbl5, hxs5, hxe5, hq5, hRe5⟩ := SlR.get (size := 4) (by decide) hs_3 hlt5
        subst hb5
        have hcat5 : (t.at 3).l.take (j5 + 1) = (t.at 3).l.take j5 ++ [(t.at 3).l[j5]] := List.take_succ_eq_append_getElem hlt5
        have htl5 := take_flatMap_len (t.at 3).l (fun x => partS (d + 2) fs_BeginQuorumEpochRequestLeaderEndpoint ver true x) (j5 + 1)
        rw [← hXE_3, hcat5, List.flatMap_append, List.flatMap_cons, List.flatMap_nil, List.append_nil] at htl5
        have hge5 := (g_3.list rfl).2 _ (List.getElem_mem hlt5)
        generalize (t.at 3).l[j5] = y5 at *
        have hnx5 := hd b5 hbl5 hok5
        obtain ⟨T5, hTT5⟩ : ∃ T, T = ((t.at 3).l.take j5).flatMap (fun x => partS (d + 2) fs_BeginQuorumEpochRequestLeaderEndpoint ver true x) := ⟨_, rfl⟩
        rw [← hTT5] at ha20 htl5
        have hx5_20 := ha20.upd.blk_some hx5 hnx5
        replace hRe5 : RepS true (d + 2) fs_BeginQuorumEpochRequestLeaderEndpoint okM w y5 ce5 := Rep1_part.1 hRe5
        have hfe5 : FitP ver (d + 2) fs_BeginQuorumEpochRequestLeaderEndpoint y5 := hge5.2.2 rfl
        obtain ⟨⟨ge5_0, ge5_1, ge5_2, -⟩, hfue5⟩ := hfe5
        replace ge5_0 : FitF (FitP ver (d + 1)) ver fBeginQuorumEpochRequestLeaderEndpoint_0 (y5.at 0) := ge5_0
        replace ge5_1 : FitF (FitP ver (d + 1)) ver fBeginQuorumEpochRequestLeaderEndpoint_1 (y5.at 1) := ge5_1
        replace ge5_2 : FitF (FitP ver (d + 1)) ver fBeginQuorumEpochRequestLeaderEndpoint_2 (y5.at 2) := ge5_2
        obtain ⟨cse5, qe5, hcse5, hLe5, hTe5⟩ := hRe5.inv
        obtain ⟨ce5_0, ee5_0, rfl, he5_0, ce5_1, ee5_1, rfl, he5_1, ce5_2, ee5_2, rfl, he5_2, rfl⟩ := hLe5
        replace he5_0 : RepF (RepS true (d + 1)) (szS true (d + 1)) fBeginQuorumEpochRequestLeaderEndpoint_0 okM w (y5.at 0) ce5_0 := he5_0
        replace he5_1 : RepF (RepS true (d + 1)) (szS true (d + 1)) fBeginQuorumEpochRequestLeaderEndpoint_1 okM w (y5.at 1) ce5_1 := he5_1
        replace he5_2 : RepF (RepS true (d + 1)) (szS true (d + 1)) fBeginQuorumEpochRequestLeaderEndpoint_2 okM w (y5.at 2) ce5_2 := he5_2
        obtain rfl := (RepF_text rfl (by decide)).1 he5_0
        obtain rfl := (RepF_text rfl (by decide)).1 he5_1
        obtain rfl := (RepF_num (by decide)).1 he5_2
        obtain ⟨qme5, rfl⟩ := hTe5.shape
        subst hcse5
        have hq5_0 : x5.1[o5 + j5 * 4]? = some (strV (y5.at 0).s) := hq5 0 (by decide)
        have hq5_1 : x5.1[o5 + (j5 * 4 + 1)]? = some (strV (y5.at 1).s) := hq5 1 (by decide)
        have hq5_2 : x5.1[o5 + (j5 * 4 + 2)]? = some (.int .u16 (IntKind.u16.wrap (y5.at 2).n)) := hq5 2 (by decide)
        have hq5_3 : x5.1[o5 + (j5 * 4 + 3)]? = some (.map qme5) := hq5 3 (by decide)
        have hhe5_0 : hasS fBeginQuorumEpochRequestLeaderEndpoint_0 ver = true := hasS_t (by show (0 : Int) ≤ ver; omega) (by show (-1 : Int) < 0 ∨ ver ≤ (-1 : Int); omega)
        obtain ⟨Xe5_0, hXXe5_0⟩ : ∃ X, X = uvarS ((y5.at 0).s.length + 1) ++ (y5.at 0).s := ⟨_, rfl⟩
        have hhe5_1 : hasS fBeginQuorumEpochRequestLeaderEndpoint_1 ver = true := hasS_t (by show (0 : Int) ≤ ver; omega) (by show (-1 : Int) < 0 ∨ ver ≤ (-1 : Int); omega)
        obtain ⟨Xe5_1, hXXe5_1⟩ : ∃ X, X = uvarS ((y5.at 1).s.length + 1) ++ (y5.at 1).s := ⟨_, rfl⟩
        have hhe5_2 : hasS fBeginQuorumEpochRequestLeaderEndpoint_2 ver = true := hasS_t (by show (0 : Int) ≤ ver; omega) (by show (-1 : Int) < 0 ∨ ver ≤ (-1 : Int); omega)
        obtain ⟨Xe5_2, hXXe5_2⟩ : ∃ X, X = fixedS (y5.at 2).n 2 := ⟨_, rfl⟩
        obtain ⟨XUe5, hXUe5⟩ : ∃ X, X = uvarS y5.u.length := ⟨_, rfl⟩
        obtain ⟨XTe5, hXTe5⟩ : ∃ X, X = y5.u.flatMap oneTag := ⟨_, rfl⟩
        have hPe5 : partS (d + 2) fs_BeginQuorumEpochRequestLeaderEndpoint ver true y5 = (Xe5_0 ++ (Xe5_1 ++ (Xe5_2 ++ []))) ++ (XUe5 ++ XTe5) := by rw [hXUe5, hXTe5]; exact partS_yes rfl hfue5 (plainL_has (by decide) hhe5_0 ((fieldS_text_t ge5_0 rfl (by decide)).trans hXXe5_0.symm) (plainL_has (by decide) hhe5_1 ((fieldS_text_t ge5_1 rfl (by decide)).trans hXXe5_1.symm) (plainL_has (by decide) hhe5_2 ((fieldS_num 5 rfl (by decide)).trans hXXe5_2.symm) rfl)))
        rw [hPe5] at htl5
        simp only [List.length_append, List.length_nil] at htl5
        repeat ((first | refine W.seqR rfl ?_ | refine W.seq ?_ | refine W.regR rfl ?_ | refine W.condK ?_ | refine W.block ?_ | refine W.skip ?_ | refine W.ret ?_ | refine W.exit ?_); try simp (maxSteps := 1000000) (disch := (first | omega | (simp only [World.size_alloc, size_wr, size_drew] <;> omega) | exact not_noB _)) only [go_sem, ↓reduceIte, n0, reduceCtorEq, n1, n2, n3, n4, n5, i0, i1, i2, i3, i4, i5, i6, i7, hv_20, hx5_20, Int.toNat_natCast, Nat.mul_one, hq5_0, hq5_1, hq5_2, hq5_3, hr1_5, hr5_0, hr5_5, hr5_6, hI5, hN5, hS5])
        refine (AppendCompactString_fn _ _ _ ha20.own hB20 (y5.at 0).s (ge5_0.text (.inl rfl)) (by simp only [List.length_append, List.length_nil]; omega)).mono ?_
        rintro r21 w21 hc21
        rw [← hXXe5_0] at hc21
        have ha21 := ha20.trans hc21
        have hB21 : B ≤ w21.heap.size := Nat.le_trans hB ha21.upd.size
        have hv_21 := ha21.upd.blk_some hv hdv
        have hx5_21 := ha21.upd.blk_some hx5 hnx5
        repeat ((first | refine W.seqR rfl ?_ | refine W.seq ?_ | refine W.regR rfl ?_ | refine W.condK ?_ | refine W.block ?_ | refine W.skip ?_ | refine W.ret ?_ | refine W.exit ?_); try simp (maxSteps := 1000000) (disch := (first | omega | (simp only [World.size_alloc, size_wr, size_drew] <;> omega) | exact not_noB _)) only [go_sem, ↓reduceIte, n0, reduceCtorEq, n1, n2, n3, n4, n5, i0, i1, i2, i3, i4, i5, i6, i7, hv_21, hx5_21, Int.toNat_natCast, Nat.mul_one, hq5_0, hq5_1, hq5_2, hq5_3, hr1_5, hr5_0, hr5_5, hr5_6, hI5, hN5, hS5])
        refine (AppendCompactString_fn _ _ _ ha21.own hB21 (y5.at 1).s (ge5_1.text (.inl rfl)) (by simp only [List.length_append, List.length_nil]; omega)).mono ?_
        rintro r22 w22 hc22
        rw [← hXXe5_1] at hc22
        have ha22 := ha21.trans hc22
        have hB22 : B ≤ w22.heap.size := Nat.le_trans hB ha22.upd.size
        have hv_22 := ha22.upd.blk_some hv hdv
        have hx5_22 := ha22.upd.blk_some hx5 hnx5
        repeat ((first | refine W.seqR rfl ?_ | refine W.seq ?_ | refine W.regR rfl ?_ | refine W.condK ?_ | refine W.block ?_ | refine W.skip ?_ | refine W.ret ?_ | refine W.exit ?_); try simp (maxSteps := 1000000) (disch := (first | omega | (simp only [World.size_alloc, size_wr, size_drew] <;> omega) | exact not_noB _)) only [go_sem, ↓reduceIte, n0, reduceCtorEq, n1, n2, n3, n4, n5, i0, i1, i2, i3, i4, i5, i6, i7, hv_22, hx5_22, Int.toNat_natCast, Nat.mul_one, hq5_0, hq5_1, hq5_2, hq5_3, hr1_5, hr5_0, hr5_5, hr5_6, hI5, hN5, hS5])
        refine (AppendUint16_fn _ _ _ ha22.own hB22 _ (u16_rng (y5.at 2).n) (by simp only [List.length_append, List.length_nil]; omega)).mono ?_
        rintro r23 w23 hc23
        rw [wrapu16, ← hXXe5_2] at hc23
        have ha23 := ha22.trans hc23
        have hB23 : B ≤ w23.heap.size := Nat.le_trans hB ha23.upd.size
        have hv_23 := ha23.upd.blk_some hv hdv
        have hx5_23 := ha23.upd.blk_some hx5 hnx5
        repeat ((first | refine W.seqR rfl ?_ | refine W.seq ?_ | refine W.regR rfl ?_ | refine W.condK ?_ | refine W.block ?_ | refine W.skip ?_ | refine W.ret ?_ | refine W.exit ?_); try simp (maxSteps := 1000000) (disch := (first | omega | (simp only [World.size_alloc, size_wr, size_drew] <;> omega) | exact not_noB _)) only [go_sem, ↓reduceIte, n0, reduceCtorEq, n1, n2, n3, n4, n5, i0, i1, i2, i3, i4, i5, i6, i7, hv_23, hx5_23, Int.toNat_natCast, Nat.mul_one, hq5_0, hq5_1, hq5_2, hq5_3, hr1_5, hr5_0, hr5_5, hr5_6, hI5, hN5, hS5])
        have hTk23 : TagsM (OkS okM w.heap.size) w23 (.map qme5) y5.u := (hTe5.weaken fun b h1 h2 => ⟨h2, h1⟩).keep (ha23.upd.keeps fun b hb hk => hd b hb hk.1)
        refine (TagsLen_fn (ok := OkS okM w.heap.size) w23 hx5_23 (to := o5 + (j5 * 4 + 3)) hq5_3 hTk23).mono ?_
        rintro _ w23' ⟨rfl, rfl⟩
        have hul23 : y5.u.length ≤ 32767 := hfue5.1
        have ew23 : IntKind.u32.wrap (y5.u.length : Int) = y5.u.length := u32_wrap (by omega)
        have ez23 : IntKind.u32.wrap (0 + (y5.u.length : Int)) = y5.u.length := by rw [Int.zero_add, u32_wrap (by omega)]
        simp (maxSteps := 1000000) (disch := (first | omega | (simp only [World.size_alloc, size_wr, size_drew] <;> omega) | exact not_noB _)) only [go_sem, ↓reduceIte, n0, reduceCtorEq, n1, n2, n3, n4, n5, i0, i1, i2, i3, i4, i5, i6, i7, hv_23, hx5_23, Int.toNat_natCast, Nat.mul_one, hq5_0, hq5_1, hq5_2, hq5_3, hr1_5, hr5_0, hr5_5, hr5_6, hI5, hN5, hS5, ew23, ez23]
        refine (AppendUvarint_fn _ _ _ ha23.own hB23 y5.u.length (by omega) (by simp only [List.length_append, List.length_nil]; omega)).mono ?_
        rintro r24 w24 hc24
        rw [← hXUe5] at hc24
        have ha24 := ha23.trans hc24
        have hB24 : B ≤ w24.heap.size := Nat.le_trans hB ha24.upd.size
        have hv_24 := ha24.upd.blk_some hv hdv
        have hx5_24 := ha24.upd.blk_some hx5 hnx5
        repeat ((first | refine W.seqR rfl ?_ | refine W.seq ?_ | refine W.regR rfl ?_ | refine W.condK ?_ | refine W.block ?_ | refine W.skip ?_ | refine W.ret ?_ | refine W.exit ?_); try simp (maxSteps := 1000000) (disch := (first | omega | (simp only [World.size_alloc, size_wr, size_drew] <;> omega) | exact not_noB _)) only [go_sem, ↓reduceIte, n0, reduceCtorEq, n1, n2, n3, n4, n5, i0, i1, i2, i3, i4, i5, i6, i7, hv_24, hx5_24, Int.toNat_natCast, Nat.mul_one, hq5_0, hq5_1, hq5_2, hq5_3, hr1_5, hr5_0, hr5_5, hr5_6, hI5, hN5, hS5])
        have hTk24 : TagsM (OkS okM w.heap.size) w24 (.map qme5) y5.u := (hTe5.weaken fun b h1 h2 => ⟨h2, h1⟩).keep (ha24.upd.keeps fun b hb hk => hd b hb hk.1)
        refine (AppendEach_fn (ok := OkS okM w.heap.size) _ _ _ ha24.own hB24 hx5_24 (to := o5 + (j5 * 4 + 3)) hq5_3 hTk24 (rising_keys hfue5) hfue5.1 (tags_small hfue5 hTk24) (hdK ha24) (ownK ha24 (blk_lt hx5) hnx5) (by simp only [List.length_append, List.length_nil]; omega)).mono ?_
        rintro r25 w25 hc25
        rw [← hXTe5] at hc25
        have ha25 := ha24.trans hc25
        have hB25 : B ≤ w25.heap.size := Nat.le_trans hB ha25.upd.size
        have hv_25 := ha25.upd.blk_some hv hdv
        have hx5_25 := ha25.upd.blk_some hx5 hnx5
        repeat ((first | refine W.seqR rfl ?_ | refine W.seq ?_ | refine W.regR rfl ?_ | refine W.condK ?_ | refine W.block ?_ | refine W.skip ?_ | refine W.ret ?_ | refine W.exit ?_); try simp (maxSteps := 1000000) (disch := (first | omega | (simp only [World.size_alloc, size_wr, size_drew] <;> omega) | exact not_noB _)) only [go_sem, ↓reduceIte, n0, reduceCtorEq, n1, n2, n3, n4, n5, i0, i1, i2, i3, i4, i5, i6, i7, hr1_5, hr5_0, hr5_5, hr5_6, hI5, hN5, hS5])
        refine ⟨⟨j5 + 1, _, by omega, rfl, rfl, ha25.eqs ?_⟩, ?_⟩
        · rw [hcat5, List.flatMap_append, List.flatMap_cons, List.flatMap_nil, List.append_nil, ← hTT5, hPe5]; simp only [List.append_assoc, List.append_nil, List.nil_append]
        · simp only [RowKit.intOf]; omega
      · have hjl5 : j5 = (t.at 3).l.length := by omega
        subst hjl5
        rw [List.take_length, ← hXE_3] at ha20
        repeat ((first | refine W.seqR rfl ?_ | refine W.seq ?_ | refine W.regR rfl ?_ | refine W.condK ?_ | refine W.block ?_ | refine W.skip ?_ | refine W.ret ?_ | refine W.exit ?_); try simp (maxSteps := 1000000) (disch := (first | omega | (simp only [World.size_alloc, size_wr, size_drew] <;> omega) | exact not_noB _)) only [go_sem, ↓reduceIte, n0, reduceCtorEq, n1, n2, n3, n4, n5, i0, i1, i2, i3, i4, i5, i6, i7, hI5, hN5])
        exact ⟨_, hr1_5, hr5_0, hr5_5, hr5_6, ha20⟩
    · rintro ρ w26 ⟨r26, hr1_6, hr6_0, hr6_5, hr6_6, ha26⟩
      have hB26 : B ≤ w26.heap.size := Nat.le_trans hB ha26.upd.size
      have hv_26 := ha26.upd.blk_some hv hdv
      repeat ((first | refine W.seqR rfl ?_ | refine W.seq ?_ | refine W.regR rfl ?_ | refine W.condK ?_ | refine W.block ?_ | refine W.skip ?_ | refine W.ret ?_ | refine W.exit ?_); try simp (maxSteps := 1000000) (disch := (first | omega | (simp only [World.size_alloc, size_wr, size_drew] <;> omega) | exact not_noB _)) only [go_sem, ↓reduceIte, n0, reduceCtorEq, n1, n2, n3, n4, n5, i0, i1, i2, i3, i4, i5, i6, i7, hv_26, hr1_6, hr6_0, hr6_5, hr6_6])
      have hTk26 : TagsM (OkS okM w.heap.size) w26 (.map qm) t.u := (hT.weaken fun b h1 h2 => ⟨h2, h1⟩).keep (ha26.upd.keeps fun b hb hk => hd b hb hk.1)
      refine (TagsLen_fn (ok := OkS okM w.heap.size) w26 hv_26 (to := 5) (show (#[.int .i16 ver, p_0, .int .i32 (IntKind.i32.wrap (t.at 1).n), .slice ab_2 (t.at 2).l.length ac_2, .slice ab_3 (t.at 3).l.length ac_3, .map qm] : Array Value)[5]? = some (.map qm) from rfl) hTk26).mono ?_
      rintro _ w26' ⟨rfl, rfl⟩
      have hul26 : t.u.length ≤ 32767 := hfu.1
      have ew26 : IntKind.u32.wrap (t.u.length : Int) = t.u.length := u32_wrap (by omega)
      have ez26 : IntKind.u32.wrap (0 + (t.u.length : Int)) = t.u.length := by rw [Int.zero_add, u32_wrap (by omega)]
      simp (maxSteps := 1000000) (disch := (first | omega | (simp only [World.size_alloc, size_wr, size_drew] <;> omega) | exact not_noB _)) only [go_sem, ↓reduceIte, n0, reduceCtorEq, n1, n2, n3, n4, n5, i0, i1, i2, i3, i4, i5, i6, i7, hv_26, hr1_6, hr6_0, hr6_5, hr6_6, ew26, ez26]
      refine (AppendUvarint_fn _ _ _ ha26.own hB26 t.u.length (by omega) (by simp only [List.length_append, List.length_nil]; omega)).mono ?_
      rintro r27 w27 hc27
      rw [← hXU] at hc27
      have ha27 := ha26.trans hc27
      have hB27 : B ≤ w27.heap.size := Nat.le_trans hB ha27.upd.size
      have hv_27 := ha27.upd.blk_some hv hdv
      repeat ((first | refine W.seqR rfl ?_ | refine W.seq ?_ | refine W.regR rfl ?_ | refine W.condK ?_ | refine W.block ?_ | refine W.skip ?_ | refine W.ret ?_ | refine W.exit ?_); try simp (maxSteps := 1000000) (disch := (first | omega | (simp only [World.size_alloc, size_wr, size_drew] <;> omega) | exact not_noB _)) only [go_sem, ↓reduceIte, n0, reduceCtorEq, n1, n2, n3, n4, n5, i0, i1, i2, i3, i4, i5, i6, i7, hv_27, hr1_6, hr6_0, hr6_5, hr6_6])
      have hTk27 : TagsM (OkS okM w.heap.size) w27 (.map qm) t.u := (hT.weaken fun b h1 h2 => ⟨h2, h1⟩).keep (ha27.upd.keeps fun b hb hk => hd b hb hk.1)
      refine (AppendEach_fn (ok := OkS okM w.heap.size) _ _ _ ha27.own hB27 hv_27 (to := 5) (show (#[.int .i16 ver, p_0, .int .i32 (IntKind.i32.wrap (t.at 1).n), .slice ab_2 (t.at 2).l.length ac_2, .slice ab_3 (t.at 3).l.length ac_3, .map qm] : Array Value)[5]? = some (.map qm) from rfl) hTk27 (rising_keys hfu) hfu.1 (tags_small hfu hTk27) (hdK ha27) (ownK ha27 (blk_lt hv) hdv) (by simp only [List.length_append, List.length_nil]; omega)).mono ?_
      rintro r28 w28 hc28
      rw [← hXT] at hc28
      have ha28 := ha27.trans hc28
      have hB28 : B ≤ w28.heap.size := Nat.le_trans hB ha28.upd.size
      have hv_28 := ha28.upd.blk_some hv hdv
      repeat ((first | refine W.seqR rfl ?_ | refine W.seq ?_ | refine W.regR rfl ?_ | refine W.condK ?_ | refine W.block ?_ | refine W.skip ?_ | refine W.ret ?_ | refine W.exit ?_); try simp (maxSteps := 1000000) (disch := (first | omega | (simp only [World.size_alloc, size_wr, size_drew] <;> omega) | exact not_noB _)) only [go_sem, ↓reduceIte, n0, reduceCtorEq, n1, n2, n3, n4, n5, i0, i1, i2, i3, i4, i5, i6, i7, hv_28, hr1_6, hr6_0, hr6_5, hr6_6])
      refine ha28.eqs ?_
      rw [hP]; simp only [List.append_assoc, List.append_nil, List.nil_append]
end Ms

