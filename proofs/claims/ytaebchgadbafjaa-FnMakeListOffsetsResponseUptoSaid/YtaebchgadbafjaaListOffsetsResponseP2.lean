/- A part of the proof: see the last text. -/
import Derived.Test.YtaebchgadbafjaaC08
import Derived.Test.YtaebchgadbafjaaListOffsetsResponseP0
import Derived.Test.YtaebchgadbafjaaListOffsetsResponseP1
set_option linter.unusedSimpArgs false
set_option linter.unusedVariables false
namespace Ms
open Nat renaming reduceEqDiff → n0, reduceAdd → n1, reduceMul → n2, reduceSub → n3, reduceLT → n4, reduceLeDiff → n5
open Int renaming reduceEq → i0, reduceLT → i1, reduceLE → i2, reduceNeg → i3, reduceAdd → i4, reduceSub → i5, reduceMul → i6, reduceToNat → i7
set_option maxRecDepth 8000
open Go Go.Proofs Go.Shelf
attribute [local congr] W_congr WPsq_congr WPp_congr optK_congr addrK_congr intK_congr boolK_congr sliceK_congr tupleK_congr funcK_congr Fn_congr rawK_congr takeK_congr stepK_congr convK_congr aggK_congr

set_option maxHeartbeats 4000000 in
theorem cListOffsetsResponseTopicPartition_fn (w : World) : Fn Try.prog 154 #[] w fun r w' => FldsV (fun b => w.heap.size ≤ b) w' r fs_ListOffsetsResponseTopicPartition ∧ Ext w w' := by
  refine fn_of_W Try.func154 rfl Try.results154 Try.ntmps154 rfl ?_
  repeat ((first | refine W.seqR rfl ?_ | refine W.seq ?_ | refine W.regR rfl ?_ | refine W.condK ?_ | refine W.block ?_ | refine W.skip ?_ | refine W.ret ?_ | refine W.exit ?_); try simp (maxSteps := 1000000) (disch := (first | omega | (simp only [World.size_alloc, size_wr, size_drew] <;> omega) | exact not_noB _)) only [go_sem, ↓reduceIte, n0, reduceCtorEq, n1, n2, n3, n4, n5, i0, i1, i2, i3, i4, i5, i6, i7, fill_fld, fillN_nil, fillN_int, fillN_slice])
  repeat ((first | refine W.seqR rfl ?_ | refine W.seq ?_ | refine W.regR rfl ?_ | refine W.condK ?_ | refine W.block ?_ | refine W.skip ?_ | refine W.ret ?_ | refine W.exit ?_); try simp (maxSteps := 1000000) (disch := (first | omega | (simp only [World.size_alloc, size_wr, size_drew] <;> omega) | exact not_noB _)) only [go_sem, ↓reduceIte, n0, reduceCtorEq, n1, n2, n3, n4, n5, i0, i1, i2, i3, i4, i5, i6, i7, fill_fld, fillN_nil, fillN_int, fillN_slice])
  exact ⟨FldsV.litO (fs := fs_ListOffsetsResponseTopicPartition) (css := [[.int .i64 3, .int .i64 0, .int .i64 (-1), .int .i64 (-1), .int .i64 (-1), .int .i64 0, .int .i64 0, .slice none 0 0], [.int .i64 2, .int .i64 0, .int .i64 (-1), .int .i64 (-1), .int .i64 (-1), .int .i64 0, .int .i64 0, .slice none 0 0], [.int .i64 11, .int .i64 0, .int .i64 0, .int .i64 (-1), .int .i64 (-1), .int .i64 0, .int .i64 4, .slice none 0 0], [.int .i64 4, .int .i64 1, .int .i64 (-1), .int .i64 (-1), .int .i64 (-1), .int .i64 (-1), .int .i64 0, .slice none 0 0], [.int .i64 4, .int .i64 1, .int .i64 (-1), .int .i64 (-1), .int .i64 (-1), .int .i64 (-1), .int .i64 0, .slice none 0 0], [.int .i64 3, .int .i64 4, .int .i64 (-1), .int .i64 (-1), .int .i64 (-1), .int .i64 (-1), .int .i64 0, .slice none 0 0]]) (T := 50) (fr := (0, 0)) (by first | omega | (simp only [World.size_alloc]; omega)) (by first | (simp (maxSteps := 1000000) (disch := (first | omega | (simp only [World.size_alloc, size_wr, size_drew] <;> omega) | exact not_noB _)) only [go_sem, ↓reduceIte, n0, reduceCtorEq, n1, n2, n3, n4, n5, i0, i1, i2, i3, i4, i5, i6, i7]; rfl) | rfl) (by simp) (All2.cons (FldC.intro (kind := 3) (FldsV.none _ _)) (All2.cons (FldC.intro (kind := 2) (FldsV.none _ _)) (All2.cons (FldC.intro (kind := 11) (FldsV.none _ _)) (All2.cons (FldC.intro (kind := 4) (FldsV.none _ _)) (All2.cons (FldC.intro (kind := 4) (FldsV.none _ _)) (All2.cons (FldC.intro (kind := 3) (FldsV.none _ _)) All2.nil)))))), (Upd.alloc (Upd.refl _ w) _)⟩

set_option maxHeartbeats 4000000 in
theorem cListOffsetsResponseTopic_fn (w : World) : Fn Try.prog 91 #[] w fun r w' => FldsV (fun b => w.heap.size ≤ b) w' r fs_ListOffsetsResponseTopic ∧ Ext w w' := by
  refine fn_of_W Try.func91 rfl Try.results91 Try.ntmps91 rfl ?_
  repeat ((first | refine W.seqR rfl ?_ | refine W.seq ?_ | refine W.regR rfl ?_ | refine W.condK ?_ | refine W.block ?_ | refine W.skip ?_ | refine W.ret ?_ | refine W.exit ?_); try simp (maxSteps := 1000000) (disch := (first | omega | (simp only [World.size_alloc, size_wr, size_drew] <;> omega) | exact not_noB _)) only [go_sem, ↓reduceIte, n0, reduceCtorEq, n1, n2, n3, n4, n5, i0, i1, i2, i3, i4, i5, i6, i7, fill_fld, fillN_nil, fillN_int, fillN_slice])
  refine (cListOffsetsResponseTopicPartition_fn _).mono ?_
  rintro r1 w1 ⟨hF1, hE1⟩
  obtain ⟨b1, k1, rfl, _⟩ := SlR.shape hF1
  have hz1 := hE1.size
  have hD1 : Ext w w1 := Upd.trans (Upd.refl _ w) hE1
  simp (maxSteps := 1000000) (disch := (first | omega | (simp only [World.size_alloc, size_wr, size_drew] <;> omega) | exact not_noB _)) only [go_sem, ↓reduceIte, n0, reduceCtorEq, n1, n2, n3, n4, n5, i0, i1, i2, i3, i4, i5, i6, i7, fill_fld, fillN_nil, fillN_int, fillN_slice]
  repeat ((first | refine W.seqR rfl ?_ | refine W.seq ?_ | refine W.regR rfl ?_ | refine W.condK ?_ | refine W.block ?_ | refine W.skip ?_ | refine W.ret ?_ | refine W.exit ?_); try simp (maxSteps := 1000000) (disch := (first | omega | (simp only [World.size_alloc, size_wr, size_drew] <;> omega) | exact not_noB _)) only [go_sem, ↓reduceIte, n0, reduceCtorEq, n1, n2, n3, n4, n5, i0, i1, i2, i3, i4, i5, i6, i7, fill_fld, fillN_nil, fillN_int, fillN_slice])
  exact ⟨FldsV.litO (fs := fs_ListOffsetsResponseTopic) (css := [[.int .i64 8, .int .i64 0, .int .i64 (-1), .int .i64 (-1), .int .i64 (-1), .int .i64 0, .int .i64 0, .slice none 0 0], [.int .i64 11, .int .i64 0, .int .i64 (-1), .int .i64 (-1), .int .i64 (-1), .int .i64 0, .int .i64 10, .slice b1 fs_ListOffsetsResponseTopicPartition.length k1]]) (T := 50) (fr := (0, 0)) (by first | omega | (simp only [World.size_alloc]; omega)) (by first | (simp (maxSteps := 1000000) (disch := (first | omega | (simp only [World.size_alloc, size_wr, size_drew] <;> omega) | exact not_noB _)) only [go_sem, ↓reduceIte, n0, reduceCtorEq, n1, n2, n3, n4, n5, i0, i1, i2, i3, i4, i5, i6, i7]; rfl) | rfl) (by simp) (All2.cons (FldC.intro (kind := 8) (FldsV.none _ _)) (All2.cons (FldC.intro (kind := 11) ((hF1.keep (Upd.keeps (S := fun _ => False) (Upd.alloc (Upd.refl _ _) _) fun _ _ _ h => h)).weaken fun b _ hb => by have hq : _ ≤ b := hb; omega)) All2.nil)), (Upd.alloc hD1 _)⟩

set_option maxHeartbeats 4000000 in
theorem cListOffsetsResponse_fn (w : World) : Fn Try.prog 38 #[] w fun r w' => (∃ vs, r = .agg #[vs, .int .i64 6] ∧ FldsV (fun b => w.heap.size ≤ b) w' vs fs_ListOffsetsResponse) ∧ Ext w w' := by
  refine fn_of_W Try.func38 rfl Try.results38 Try.ntmps38 rfl ?_
  repeat ((first | refine W.seqR rfl ?_ | refine W.seq ?_ | refine W.regR rfl ?_ | refine W.condK ?_ | refine W.block ?_ | refine W.skip ?_ | refine W.ret ?_ | refine W.exit ?_); try simp (maxSteps := 1000000) (disch := (first | omega | (simp only [World.size_alloc, size_wr, size_drew] <;> omega) | exact not_noB _)) only [go_sem, ↓reduceIte, n0, reduceCtorEq, n1, n2, n3, n4, n5, i0, i1, i2, i3, i4, i5, i6, i7, fill_fld, fillN_nil, fillN_int, fillN_slice])
  have hz0 : (w.alloc (.cells #[.slice none 0 0, .int .i64 0] 31)).heap.size = w.heap.size + 1 := World.size_alloc _ _
  refine (cListOffsetsResponseTopic_fn _).mono ?_
  rintro r1 w1 ⟨hF1, hE1⟩
  obtain ⟨b1, k1, rfl, _⟩ := SlR.shape hF1
  have hz1 := hE1.size
  have hD1 : Ext w w1 := Upd.trans (Upd.alloc (Upd.refl _ _) _) hE1
  have hb1 : blk w1 w.heap.size = some (#[.slice none 0 0, .int .i64 0], 31, (0, 0)) := hE1.blk_some (blk_alloc_new rfl) id
  simp (maxSteps := 1000000) (disch := (first | omega | (simp only [World.size_alloc, size_wr, size_drew] <;> omega) | exact not_noB _)) only [go_sem, ↓reduceIte, n0, reduceCtorEq, n1, n2, n3, n4, n5, i0, i1, i2, i3, i4, i5, i6, i7, fill_fld, fillN_nil, fillN_int, fillN_slice, hb1]
  have hvl := blk_lt hb1
  repeat ((first | refine W.seqR rfl ?_ | refine W.seq ?_ | refine W.regR rfl ?_ | refine W.condK ?_ | refine W.block ?_ | refine W.skip ?_ | refine W.ret ?_ | refine W.exit ?_); try simp (maxSteps := 1000000) (disch := (first | omega | (simp only [World.size_alloc, size_wr, size_drew] <;> omega) | exact not_noB _)) only [go_sem, ↓reduceIte, n0, reduceCtorEq, n1, n2, n3, n4, n5, i0, i1, i2, i3, i4, i5, i6, i7, fill_fld, fillN_nil, fillN_int, fillN_slice, hb1])
  exact ⟨⟨_, rfl, FldsV.litO (fs := fs_ListOffsetsResponse) (css := [[.int .i64 3, .int .i64 2, .int .i64 (-1), .int .i64 (-1), .int .i64 (-1), .int .i64 0, .int .i64 0, .slice none 0 0], [.int .i64 11, .int .i64 0, .int .i64 (-1), .int .i64 (-1), .int .i64 (-1), .int .i64 0, .int .i64 10, .slice b1 fs_ListOffsetsResponseTopic.length k1]]) (T := 50) (fr := (0, 0)) (by first | omega | (simp only [World.size_alloc]; omega)) (by first | (simp (maxSteps := 1000000) (disch := (first | omega | (simp only [World.size_alloc, size_wr, size_drew] <;> omega) | exact not_noB _)) only [go_sem, ↓reduceIte, n0, reduceCtorEq, n1, n2, n3, n4, n5, i0, i1, i2, i3, i4, i5, i6, i7]; rfl) | rfl) (by simp) (All2.cons (FldC.intro (kind := 3) (FldsV.none _ _)) (All2.cons (FldC.intro (kind := 11) (hF1.stay (B := w.heap.size) (Upd.wr (Upd.alloc (Upd.refl _ _) _) _ _ (.inr rfl)) (by omega) (fun b hb => by omega))) All2.nil))⟩, (Upd.wr (Upd.alloc hD1 _) _ _ (.inl (Nat.le_refl _)))⟩

theorem DefaultListOffsetsResponse_fn (w : World) {vb : Nat} {c0 c1 c2 c3 : Value} (hb : blk w vb = some (#[c0, c1, c2, c3], 104, (0, 0))) :
    Fn Try.prog 153 #[.pointer (some ⟨vb, 0, none⟩)] w fun _ w' => blk w' vb = some (#[c0, c1, c2, c3], 104, (0, 0)) ∧ Upd (fun b => b = vb) w w' := by
  have hvl := blk_lt hb
  refine fn_of_W Try.func153 rfl Try.results153 Try.ntmps153 rfl ?_
  repeat ((first | refine W.seqR rfl ?_ | refine W.seq ?_ | refine W.regR rfl ?_ | refine W.condK ?_ | refine W.block ?_ | refine W.skip ?_ | refine W.ret ?_ | refine W.exit ?_); try simp (maxSteps := 1000000) (disch := (first | omega | (simp only [World.size_alloc, size_wr, size_drew] <;> omega) | exact not_noB _)) only [go_sem, ↓reduceIte, n0, reduceCtorEq, n1, n2, n3, n4, n5, i0, i1, i2, i3, i4, i5, i6, i7, hb])
  first | exact Upd.refl _ _ | exact ⟨hb, Upd.refl _ _⟩

theorem NewPtrListOffsetsResponse_fn (w : World) : Fn Try.prog 89 #[] w fun r w' => r = .pointer (some ⟨w.heap.size, 0, none⟩) ∧ blk w' w.heap.size = some (#[.int .i16 0, .int .i32 0, .slice none 0 0, .map none], 104, (0, 0)) ∧ Ext w w' := by
  refine fn_of_W Try.func89 rfl Try.results89 Try.ntmps89 rfl ?_
  repeat ((first | refine W.seqR rfl ?_ | refine W.seq ?_ | refine W.regR rfl ?_ | refine W.condK ?_ | refine W.block ?_ | refine W.skip ?_ | refine W.ret ?_ | refine W.exit ?_); try simp (maxSteps := 1000000) (disch := (first | omega | (simp only [World.size_alloc, size_wr, size_drew] <;> omega) | exact not_noB _)) only [go_sem, ↓reduceIte, n0, reduceCtorEq, n1, n2, n3, n4, n5, i0, i1, i2, i3, i4, i5, i6, i7])
  refine (DefaultListOffsetsResponse_fn _ (blk_alloc_new rfl)).mono ?_
  rintro _ w1 ⟨hb1, hU1⟩
  have hz := World.size_alloc w (.cells #[.int .i16 0, .int .i32 0, .slice none 0 0, .map none] 104)
  repeat ((first | refine W.seqR rfl ?_ | refine W.seq ?_ | refine W.regR rfl ?_ | refine W.condK ?_ | refine W.block ?_ | refine W.skip ?_ | refine W.ret ?_ | refine W.exit ?_); try simp (maxSteps := 1000000) (disch := (first | omega | (simp only [World.size_alloc, size_wr, size_drew] <;> omega) | exact not_noB _)) only [go_sem, ↓reduceIte, n0, reduceCtorEq, n1, n2, n3, n4, n5, i0, i1, i2, i3, i4, i5, i6, i7])
  exact ⟨hb1, (Upd.alloc (Upd.refl _ _) _ : Ext w _).more hU1 fun b hb h => by omega⟩

theorem SetVersionListOffsetsResponse_fn (w : World) {vb : Nat} {c0 c1 c2 c3 : Value} (n : Int) (hb : blk w vb = some (#[c0, c1, c2, c3], 104, (0, 0))) :
    Fn Try.prog 92 #[.pointer (some ⟨vb, 0, none⟩), .int .i16 n] w fun _ w' => blk w' vb = some (#[.int .i16 n, c1, c2, c3], 104, (0, 0)) ∧ Upd (fun b => b = vb) w w' := by
  have hvl := blk_lt hb
  refine fn_of_W Try.func92 rfl Try.results92 Try.ntmps92 rfl ?_
  repeat ((first | refine W.seqR rfl ?_ | refine W.seq ?_ | refine W.regR rfl ?_ | refine W.condK ?_ | refine W.block ?_ | refine W.skip ?_ | refine W.ret ?_ | refine W.exit ?_); try simp (maxSteps := 1000000) (disch := (first | omega | (simp only [World.size_alloc, size_wr, size_drew] <;> omega) | exact not_noB _)) only [go_sem, ↓reduceIte, n0, reduceCtorEq, n1, n2, n3, n4, n5, i0, i1, i2, i3, i4, i5, i6, i7, hb])
  first | exact Upd.wr (Upd.refl _ _) _ _ (.inr rfl) | exact ⟨by simp (maxSteps := 1000000) (disch := (first | omega | (simp only [World.size_alloc, size_wr, size_drew] <;> omega) | exact not_noB _)) only [go_sem, ↓reduceIte, n0, reduceCtorEq, n1, n2, n3, n4, n5, i0, i1, i2, i3, i4, i5, i6, i7, hb], Upd.wr (Upd.refl _ _) _ _ (.inr rfl)⟩

theorem MaxListOffsetsResponse_fn (w : World) : Fn Try.prog 37 #[] w fun r w' => r = .int .i64 11 ∧ Ext w w' := by
  refine fn_of_W Try.func37 rfl Try.results37 Try.ntmps37 rfl ?_
  repeat ((first | refine W.seqR rfl ?_ | refine W.seq ?_ | refine W.regR rfl ?_ | refine W.condK ?_ | refine W.block ?_ | refine W.skip ?_ | refine W.ret ?_ | refine W.exit ?_); try simp (maxSteps := 1000000) (disch := (first | omega | (simp only [World.size_alloc, size_wr, size_drew] <;> omega) | exact not_noB _)) only [go_sem, ↓reduceIte, n0, reduceCtorEq, n1, n2, n3, n4, n5, i0, i1, i2, i3, i4, i5, i6, i7])
  refine (NewPtrListOffsetsResponse_fn w).mono ?_
  rintro _ w1 ⟨rfl, hb1, hE1⟩
  repeat ((first | refine W.seqR rfl ?_ | refine W.seq ?_ | refine W.regR rfl ?_ | refine W.condK ?_ | refine W.block ?_ | refine W.skip ?_ | refine W.ret ?_ | refine W.exit ?_); try simp (maxSteps := 1000000) (disch := (first | omega | (simp only [World.size_alloc, size_wr, size_drew] <;> omega) | exact not_noB _)) only [go_sem, ↓reduceIte, n0, reduceCtorEq, n1, n2, n3, n4, n5, i0, i1, i2, i3, i4, i5, i6, i7])
  have hm : Fn Try.prog 90 #[.pointer (some ⟨w.heap.size, 0, none⟩)] w1 fun r w' => r = .int .i16 11 ∧ w' = w1 := by
    refine fn_of_W Try.func90 rfl Try.results90 Try.ntmps90 rfl ?_
    repeat ((first | refine W.seqR rfl ?_ | refine W.seq ?_ | refine W.regR rfl ?_ | refine W.condK ?_ | refine W.block ?_ | refine W.skip ?_ | refine W.ret ?_ | refine W.exit ?_); try simp (maxSteps := 1000000) (disch := (first | omega | (simp only [World.size_alloc, size_wr, size_drew] <;> omega) | exact not_noB _)) only [go_sem, ↓reduceIte, n0, reduceCtorEq, n1, n2, n3, n4, n5, i0, i1, i2, i3, i4, i5, i6, i7])
  refine hm.mono ?_
  rintro _ w2 ⟨rfl, rfl⟩
  have ew : IntKind.i64.wrap (11 : Int) = 11 := i64_wrap (by decide)
  repeat ((first | refine W.seqR rfl ?_ | refine W.seq ?_ | refine W.regR rfl ?_ | refine W.condK ?_ | refine W.block ?_ | refine W.skip ?_ | refine W.ret ?_ | refine W.exit ?_); try simp (maxSteps := 1000000) (disch := (first | omega | (simp only [World.size_alloc, size_wr, size_drew] <;> omega) | exact not_noB _)) only [go_sem, ↓reduceIte, n0, reduceCtorEq, n1, n2, n3, n4, n5, i0, i1, i2, i3, i4, i5, i6, i7, ew])
  exact hE1
end Ms

namespace Ms
open Nat renaming reduceEqDiff → n0, reduceAdd → n1, reduceMul → n2, reduceSub → n3, reduceLT → n4, reduceLeDiff → n5
open Int renaming reduceEq → i0, reduceLT → i1, reduceLE → i2, reduceNeg → i3, reduceAdd → i4, reduceSub → i5, reduceMul → i6, reduceToNat → i7
set_option maxRecDepth 8000
open Go Go.Proofs Go.Shelf
attribute [local congr] W_congr WPsq_congr WPp_congr optK_congr addrK_congr intK_congr boolK_congr sliceK_congr tupleK_congr funcK_congr Fn_congr rawK_congr takeK_congr stepK_congr convK_congr aggK_congr

set_option maxHeartbeats 4000000 in
theorem appListOffsetsResponse_0 {d B : Nat} {okM : Blocks} {ver : Int} (hlo : 0 ≤ ver) (hhi : ver ≤ 0) (t : Tree) (cells : List Value) (v : Value) (s : List UInt8) (w : World) {vb : Nat} (ho : OwnBy 5 B w v s) (hB : B ≤ w.heap.size) (hvb : blk w vb = some ((.int .i16 ver :: cells).toArray, 104, (0, 0)))
    (hR : RepS true (d + 3) fs_ListOffsetsResponse okM w t cells) (hfit : FitP ver (d + 3) fs_ListOffsetsResponse t) (hd : ∀ b, b < w.heap.size → okM b → ¬ ownB v b) (hdv : ¬ ownB v vb) (hlen : s.length + (partS (d + 3) fs_ListOffsetsResponse ver false t).length ≤ 2 ^ 41) :
    Fn Try.prog 94 #[.pointer (some ⟨vb, 0, none⟩), v] w fun r w' => AppR 5 B w v s (partS (d + 3) fs_ListOffsetsResponse ver false t) r w' := by
  obtain ⟨⟨g_0, g_1, -⟩, hfu⟩ := hfit
  replace g_0 : FitF (FitP ver (d + 2)) ver fListOffsetsResponse_0 (t.at 0) := g_0
  replace g_1 : FitF (FitP ver (d + 2)) ver fListOffsetsResponse_1 (t.at 1) := g_1
  obtain ⟨cs, q, hcs, hL, hT⟩ := hR.inv
  obtain ⟨c_0, e_0, rfl, h_0, c_1, e_1, rfl, h_1, rfl⟩ := hL
  replace h_0 : RepF (RepS true (d + 2)) (szS true (d + 2)) fListOffsetsResponse_0 okM w (t.at 0) c_0 := h_0
  replace h_1 : RepF (RepS true (d + 2)) (szS true (d + 2)) fListOffsetsResponse_1 okM w (t.at 1) c_1 := h_1
  obtain rfl := (RepF_num (by decide)).1 h_0
  have hn_1 := g_1.notnull (by decide)
  obtain ⟨p_1, rfl, hs_1, -⟩ := (RepF_list rfl hn_1).1 h_1
  obtain ⟨ab_1, ac_1, rfl, _⟩ := SlR.shape hs_1
  have hll_1 := (g_1.list rfl).1
  obtain ⟨qm, rfl⟩ := hT.shape
  have hv : blk w vb = some (#[.int .i16 ver, .int .i32 (IntKind.i32.wrap (t.at 0).n), .slice ab_1 (t.at 1).l.length ac_1, .map qm], 104, (0, 0)) := by rw [hvb, hcs]; rfl
  clear hvb hcs
  have hh_0 : hasS fListOffsetsResponse_0 ver = false := hasS_f (by show ver < 2 ∨ (0 ≤ (-1 : Int) ∧ (-1 : Int) < ver); omega)
  have hh_1 : hasS fListOffsetsResponse_1 ver = true := hasS_t (by show (0 : Int) ≤ ver; omega) (by show (-1 : Int) < 0 ∨ ver ≤ (-1 : Int); omega)
  obtain ⟨XL_1, hXL_1⟩ : ∃ X, X = fixedS (t.at 1).l.length 4 := ⟨_, rfl⟩
  obtain ⟨XE_1, hXE_1⟩ : ∃ X, X = (t.at 1).l.flatMap (fun x => partS (d + 2) fs_ListOffsetsResponseTopic ver false x) := ⟨_, rfl⟩
  have hP : partS (d + 3) fs_ListOffsetsResponse ver false t = (XL_1 ++ XE_1) ++ [] := partS_no (plainL_not hh_0 (plainL_has (by decide) hh_1 ((fieldS_list_f (g := (fun x => partS (d + 2) fs_ListOffsetsResponseTopic ver false x)) g_1 rfl (by decide) (fun x _ => valueS_part)).trans (by rw [hXL_1, hXE_1])) rfl))
  rw [hP] at hlen
  simp only [List.length_append, List.length_nil] at hlen
  have hdK : ∀ {r : Value} {w' : World} {add : List UInt8}, AppR 5 B w v s add r w' → ∀ b, b < w'.heap.size → OkS okM w.heap.size b → ¬ ownB r b := fun h b _ hk ho => (h.frame b ho).elim (hd b hk.2 hk.1) (fun h => by have := hk.2; omega)
  have ownK : ∀ {r : Value} {w' : World} {add : List UInt8} {b : Nat}, AppR 5 B w v s add r w' → b < w.heap.size → ¬ ownB v b → ¬ ownB r b := fun h hb hn ho => (h.frame _ ho).elim hn (fun h => by omega)
  have ha0 : AppR 5 B w v s [] v w := AppR.refl ho
  obtain ⟨w0, hw0⟩ : ∃ w0, w0 = w := ⟨_, rfl⟩
  have hB0 := hB
  have hv_0 := hv
  refine fn_of_W Try.func94 rfl Try.results94 Try.ntmps94 rfl ?_
  repeat ((first | refine W.seqR rfl ?_ | refine W.seq ?_ | refine W.regR rfl ?_ | refine W.condK ?_ | refine W.block ?_ | refine W.skip ?_ | refine W.ret ?_ | refine W.exit ?_); try simp (maxSteps := 1000000) (disch := (first | omega | (simp only [World.size_alloc, size_wr, size_drew] <;> omega) | exact not_noB _)) only [go_sem, ↓reduceIte, n0, reduceCtorEq, n1, n2, n3, n4, n5, i0, i1, i2, i3, i4, i5, i6, i7, hv_0])
  refine (AppendArrayLen_fn _ _ _ ha0.own hB0 (t.at 1).l.length hll_1 (by simp only [List.length_append, List.length_nil]; omega)).mono ?_
  rintro r1 w1 hc1
  rw [← hXL_1] at hc1
  have ha1 := ha0.trans hc1
  have hB1 : B ≤ w1.heap.size := Nat.le_trans hB ha1.upd.size
  have hv_1 := ha1.upd.blk_some hv hdv
  repeat ((first | refine W.seqR rfl ?_ | refine W.seq ?_ | refine W.regR rfl ?_ | refine W.condK ?_ | refine W.block ?_ | refine W.skip ?_ | refine W.ret ?_ | refine W.exit ?_); try simp (maxSteps := 1000000) (disch := (first | omega | (simp only [World.size_alloc, size_wr, size_drew] <;> omega) | exact not_noB _)) only [go_sem, ↓reduceIte, n0, reduceCtorEq, n1, n2, n3, n4, n5, i0, i1, i2, i3, i4, i5, i6, i7, hv_1])
  have hadd1 := ha1
  refine W.exitJ 0 (fun ρ w' => ∃ r, ρ 1 = r ∧ ρ 0 = .pointer (some ⟨vb, 0, none⟩) ∧ ρ 5 = .int .i16 ver ∧ ρ 6 = .bool false ∧ AppR 5 B w v s (([] ++ XL_1) ++ XE_1) r w')
    (W.loop (fun ρ w' => ∃ (j : Nat) (r : Value), j ≤ (t.at 1).l.length ∧ ρ 55 = .int .i64 j ∧ ρ 54 = .int .i64 (t.at 1).l.length ∧ ρ 8 = .slice ab_1 (t.at 1).l.length ac_1 ∧ ρ 1 = r ∧ ρ 0 = .pointer (some ⟨vb, 0, none⟩) ∧ ρ 5 = .int .i16 ver ∧ ρ 6 = .bool false ∧ AppR 5 B w v s (([] ++ XL_1) ++ ((t.at 1).l.take j).flatMap (fun x => partS (d + 2) fs_ListOffsetsResponseTopic ver false x)) r w')
      (fun ρ _ => (t.at 1).l.length - (RowKit.intOf (ρ 55)).toNat) ?_ ?_) ?_
  · refine ⟨0, _, Nat.zero_le _, ?_, ?_, ?_, ?_, ?_, ?_, ?_, ha1.eqs (by rw [List.take_zero, List.flatMap_nil, List.append_nil])⟩ <;> simp (maxSteps := 1000000) (disch := (first | omega | (simp only [World.size_alloc, size_wr, size_drew] <;> omega) | exact not_noB _)) only [go_sem, ↓reduceIte, n0, reduceCtorEq, n1, n2, n3, n4, n5, i0, i1, i2, i3, i4, i5, i6, i7]
    all_goals rfl
  · rintro ρ w2 ⟨j1, r2, hj1, hI1, hN1, hS1, hr1_1, hr1_0, hr1_5, hr1_6, ha2⟩
    have hB2 : B ≤ w2.heap.size := Nat.le_trans hB ha2.upd.size
    have hv_2 := ha2.upd.blk_some hv hdv
    by_cases hlt1 : j1 < (t.at 1).l.length
    · obtain ⟨_, b1, o1, x1, ce1, hb1, hok1, hx1, hbl1, hxs1, hxe1, hq1, hRe1⟩ := SlR.get (size := 3) (by decide) hs_1 hlt1
      subst hb1
      have hcat1 : (t.at 1).l.take (j1 + 1) = (t.at 1).l.take j1 ++ [(t.at 1).l[j1]] := List.take_succ_eq_append_getElem hlt1
      have htl1 := take_flatMap_len (t.at 1).l (fun x => partS (d + 2) fs_ListOffsetsResponseTopic ver false x) (j1 + 1)
      rw [← hXE_1, hcat1, List.flatMap_append, List.flatMap_cons, List.flatMap_nil, List.append_nil] at htl1
      have hge1 := (g_1.list rfl).2 _ (List.getElem_mem hlt1)
      generalize (t.at 1).l[j1] = y1 at *
      have hnx1 := hd b1 hbl1 hok1
      obtain ⟨T1, hTT1⟩ : ∃ T, T = ((t.at 1).l.take j1).flatMap (fun x => partS (d + 2) fs_ListOffsetsResponseTopic ver false x) := ⟨_, rfl⟩
      rw [← hTT1] at ha2 htl1
      have hx1_2 := ha2.upd.blk_some hx1 hnx1
      replace hRe1 : RepS true (d + 2) fs_ListOffsetsResponseTopic okM w y1 ce1 := Rep1_part.1 hRe1
      have hfe1 : FitP ver (d + 2) fs_ListOffsetsResponseTopic y1 := hge1.2.2 rfl
      obtain ⟨⟨ge1_0, ge1_1, -⟩, hfue1⟩ := hfe1
      replace ge1_0 : FitF (FitP ver (d + 1)) ver fListOffsetsResponseTopic_0 (y1.at 0) := ge1_0
      replace ge1_1 : FitF (FitP ver (d + 1)) ver fListOffsetsResponseTopic_1 (y1.at 1) := ge1_1
      obtain ⟨cse1, qe1, hcse1, hLe1, hTe1⟩ := hRe1.inv
      obtain ⟨ce1_0, ee1_0, rfl, he1_0, ce1_1, ee1_1, rfl, he1_1, rfl⟩ := hLe1
      replace he1_0 : RepF (RepS true (d + 1)) (szS true (d + 1)) fListOffsetsResponseTopic_0 okM w (y1.at 0) ce1_0 := he1_0
      replace he1_1 : RepF (RepS true (d + 1)) (szS true (d + 1)) fListOffsetsResponseTopic_1 okM w (y1.at 1) ce1_1 := he1_1
      obtain rfl := (RepF_text rfl (by decide)).1 he1_0
      have hne1_1 := ge1_1.notnull (by decide)
      obtain ⟨pe1_1, rfl, hse1_1, -⟩ := (RepF_list rfl hne1_1).1 he1_1
      obtain ⟨abe1_1, ace1_1, rfl, _⟩ := SlR.shape hse1_1
      have hlle1_1 := (ge1_1.list rfl).1
      obtain ⟨qme1, rfl⟩ := hTe1.shape
      subst hcse1
      have hq1_0 : x1.1[o1 + j1 * 3]? = some (strV (y1.at 0).s) := hq1 0 (by decide)
      have hq1_1 : x1.1[o1 + (j1 * 3 + 1)]? = some (.slice abe1_1 (y1.at 1).l.length ace1_1) := hq1 1 (by decide)
      have hq1_2 : x1.1[o1 + (j1 * 3 + 2)]? = some (.map qme1) := hq1 2 (by decide)
      have hhe1_0 : hasS fListOffsetsResponseTopic_0 ver = true := hasS_t (by show (0 : Int) ≤ ver; omega) (by show (-1 : Int) < 0 ∨ ver ≤ (-1 : Int); omega)
      obtain ⟨Xe1_0, hXXe1_0⟩ : ∃ X, X = fixedS (y1.at 0).s.length 2 ++ (y1.at 0).s := ⟨_, rfl⟩
      have hhe1_1 : hasS fListOffsetsResponseTopic_1 ver = true := hasS_t (by show (0 : Int) ≤ ver; omega) (by show (-1 : Int) < 0 ∨ ver ≤ (-1 : Int); omega)
      obtain ⟨XLe1_1, hXLe1_1⟩ : ∃ X, X = fixedS (y1.at 1).l.length 4 := ⟨_, rfl⟩
      obtain ⟨XEe1_1, hXEe1_1⟩ : ∃ X, X = (y1.at 1).l.flatMap (fun x => partS (d + 1) fs_ListOffsetsResponseTopicPartition ver false x) := ⟨_, rfl⟩
      have hPe1 : partS (d + 2) fs_ListOffsetsResponseTopic ver false y1 = Xe1_0 ++ ((XLe1_1 ++ XEe1_1) ++ []) := partS_no (plainL_has (by decide) hhe1_0 ((fieldS_text_f ge1_0 rfl (by decide)).trans hXXe1_0.symm) (plainL_has (by decide) hhe1_1 ((fieldS_list_f (g := (fun x => partS (d + 1) fs_ListOffsetsResponseTopicPartition ver false x)) ge1_1 rfl (by decide) (fun x _ => valueS_part)).trans (by rw [hXLe1_1, hXEe1_1])) rfl))
      rw [hPe1] at htl1
      simp only [List.length_append, List.length_nil] at htl1
      repeat ((first | refine W.seqR rfl ?_ | refine W.seq ?_ | refine W.regR rfl ?_ | refine W.condK ?_ | refine W.block ?_ | refine W.skip ?_ | refine W.ret ?_ | refine W.exit ?_); try simp (maxSteps := 1000000) (disch := (first | omega | (simp only [World.size_alloc, size_wr, size_drew] <;> omega) | exact not_noB _)) only [go_sem, ↓reduceIte, n0, reduceCtorEq, n1, n2, n3, n4, n5, i0, i1, i2, i3, i4, i5, i6, i7, hv_2, hx1_2, Int.toNat_natCast, Nat.mul_one, hq1_0, hq1_1, hq1_2, hr1_1, hr1_0, hr1_5, hr1_6, hI1, hN1, hS1])
      refine (AppendString_fn _ _ _ ha2.own hB2 (y1.at 0).s (ge1_0.text (.inl rfl)) (by simp only [List.length_append, List.length_nil]; omega)).mono ?_
      rintro r3 w3 hc3
      rw [← hXXe1_0] at hc3
      have ha3 := ha2.trans hc3
      have hB3 : B ≤ w3.heap.size := Nat.le_trans hB ha3.upd.size
      have hv_3 := ha3.upd.blk_some hv hdv
      have hx1_3 := ha3.upd.blk_some hx1 hnx1
      repeat ((first | refine W.seqR rfl ?_ | refine W.seq ?_ | refine W.regR rfl ?_ | refine W.condK ?_ | refine W.block ?_ | refine W.skip ?_ | refine W.ret ?_ | refine W.exit ?_); try simp (maxSteps := 1000000) (disch := (first | omega | (simp only [World.size_alloc, size_wr, size_drew] <;> omega) | exact not_noB _)) only [go_sem, ↓reduceIte, n0, reduceCtorEq, n1, n2, n3, n4, n5, i0, i1, i2, i3, i4, i5, i6, i7, hv_3, hx1_3, Int.toNat_natCast, Nat.mul_one, hq1_0, hq1_1, hq1_2, hr1_1, hr1_0, hr1_5, hr1_6, hI1, hN1, hS1])
      refine (AppendArrayLen_fn _ _ _ ha3.own hB3 (y1.at 1).l.length hlle1_1 (by simp only [List.length_append, List.length_nil]; omega)).mono ?_
      rintro r4 w4 hc4
      rw [← hXLe1_1] at hc4
      have ha4 := ha3.trans hc4
      have hB4 : B ≤ w4.heap.size := Nat.le_trans hB ha4.upd.size
      have hv_4 := ha4.upd.blk_some hv hdv
      have hx1_4 := ha4.upd.blk_some hx1 hnx1
      repeat ((first | refine W.seqR rfl ?_ | refine W.seq ?_ | refine W.regR rfl ?_ | refine W.condK ?_ | refine W.block ?_ | refine W.skip ?_ | refine W.ret ?_ | refine W.exit ?_); try simp (maxSteps := 1000000) (disch := (first | omega | (simp only [World.size_alloc, size_wr, size_drew] <;> omega) | exact not_noB _)) only [go_sem, ↓reduceIte, n0, reduceCtorEq, n1, n2, n3, n4, n5, i0, i1, i2, i3, i4, i5, i6, i7, hv_4, hx1_4, Int.toNat_natCast, Nat.mul_one, hq1_0, hq1_1, hq1_2, hr1_1, hr1_0, hr1_5, hr1_6, hI1, hN1, hS1])
      have hadd2 := ha4
      refine W.exitJ 2 (fun ρ w' => ∃ r, ρ 1 = r ∧ ρ 0 = .pointer (some ⟨vb, 0, none⟩) ∧ ρ 5 = .int .i16 ver ∧ ρ 6 = .bool false ∧ ρ 55 = .int .i64 j1 ∧ ρ 54 = .int .i64 (t.at 1).l.length ∧ ρ 8 = .slice (some ⟨b1, o1, none⟩) (t.at 1).l.length ac_1 ∧ ρ 10 = .pointer (some ⟨b1, o1 + j1 * 3, none⟩) ∧ AppR 5 B w v s (([] ++ XL_1 ++ T1 ++ Xe1_0 ++ XLe1_1) ++ XEe1_1) r w')
        (W.loop (fun ρ w' => ∃ (j : Nat) (r : Value), j ≤ (y1.at 1).l.length ∧ ρ 87 = .int .i64 j ∧ ρ 86 = .int .i64 (y1.at 1).l.length ∧ ρ 12 = .slice abe1_1 (y1.at 1).l.length ace1_1 ∧ ρ 1 = r ∧ ρ 0 = .pointer (some ⟨vb, 0, none⟩) ∧ ρ 5 = .int .i16 ver ∧ ρ 6 = .bool false ∧ ρ 55 = .int .i64 j1 ∧ ρ 54 = .int .i64 (t.at 1).l.length ∧ ρ 8 = .slice (some ⟨b1, o1, none⟩) (t.at 1).l.length ac_1 ∧ ρ 10 = .pointer (some ⟨b1, o1 + j1 * 3, none⟩) ∧ AppR 5 B w v s (([] ++ XL_1 ++ T1 ++ Xe1_0 ++ XLe1_1) ++ ((y1.at 1).l.take j).flatMap (fun x => partS (d + 1) fs_ListOffsetsResponseTopicPartition ver false x)) r w')
          (fun ρ _ => (y1.at 1).l.length - (RowKit.intOf (ρ 87)).toNat) ?_ ?_) ?_
      · refine ⟨0, _, Nat.zero_le _, ?_, ?_, ?_, ?_, ?_, ?_, ?_, ?_, ?_, ?_, ?_, ha4.eqs (by rw [List.take_zero, List.flatMap_nil, List.append_nil])⟩ <;> simp (maxSteps := 1000000) (disch := (first | omega | (simp only [World.size_alloc, size_wr, size_drew] <;> omega) | exact not_noB _)) only [go_sem, ↓reduceIte, n0, reduceCtorEq, n1, n2, n3, n4, n5, i0, i1, i2, i3, i4, i5, i6, i7, hr1_1, hr1_0, hr1_5, hr1_6, hI1, hN1, hS1]
        all_goals rfl
      · rintro ρ w5 ⟨j2, r5, hj2, hI2, hN2, hS2, hr1_2, hr2_0, hr2_5, hr2_6, hr2_55, hr2_54, hr2_8, hr2_10, ha5⟩
        have hB5 : B ≤ w5.heap.size := Nat.le_trans hB ha5.upd.size
        have hv_5 := ha5.upd.blk_some hv hdv
        have hx1_5 := ha5.upd.blk_some hx1 hnx1
        by_cases hlt2 : j2 < (y1.at 1).l.length
        · obtain ⟨_, b2, o2, x2, ce2, hb2, hok2, hx2, hbl2, hxs2, hxe2, hq2, hRe2⟩ := SlR.get (size := 7) (by decide) hse1_1 hlt2
          subst hb2
          have hcat2 : (y1.at 1).l.take (j2 + 1) = (y1.at 1).l.take j2 ++ [(y1.at 1).l[j2]] := List.take_succ_eq_append_getElem hlt2
          have htl2 := take_flatMap_len (y1.at 1).l (fun x => partS (d + 1) fs_ListOffsetsResponseTopicPartition ver false x) (j2 + 1)
          rw [← hXEe1_1, hcat2, List.flatMap_append, List.flatMap_cons, List.flatMap_nil, List.append_nil] at htl2
          have hge2 := (ge1_1.list rfl).2 _ (List.getElem_mem hlt2)
          generalize (y1.at 1).l[j2] = y2 at *
          have hnx2 := hd b2 hbl2 hok2
          obtain ⟨T2, hTT2⟩ : ∃ T, T = ((y1.at 1).l.take j2).flatMap (fun x => partS (d + 1) fs_ListOffsetsResponseTopicPartition ver false x) := ⟨_, rfl⟩
          rw [← hTT2] at ha5 htl2
          have hx2_5 := ha5.upd.blk_some hx2 hnx2
          replace hRe2 : RepS true (d + 1) fs_ListOffsetsResponseTopicPartition okM w y2 ce2 := Rep1_part.1 hRe2
          have hfe2 : FitP ver (d + 1) fs_ListOffsetsResponseTopicPartition y2 := hge2.2.2 rfl
          obtain ⟨⟨ge2_0, ge2_1, ge2_2, ge2_3, ge2_4, ge2_5, -⟩, hfue2⟩ := hfe2
          replace ge2_0 : FitF (FitP ver d) ver fListOffsetsResponseTopicPartition_0 (y2.at 0) := ge2_0
          replace ge2_1 : FitF (FitP ver d) ver fListOffsetsResponseTopicPartition_1 (y2.at 1) := ge2_1
          replace ge2_2 : FitF (FitP ver d) ver fListOffsetsResponseTopicPartition_2 (y2.at 2) := ge2_2
          replace ge2_3 : FitF (FitP ver d) ver fListOffsetsResponseTopicPartition_3 (y2.at 3) := ge2_3
          replace ge2_4 : FitF (FitP ver d) ver fListOffsetsResponseTopicPartition_4 (y2.at 4) := ge2_4
          replace ge2_5 : FitF (FitP ver d) ver fListOffsetsResponseTopicPartition_5 (y2.at 5) := ge2_5
          obtain ⟨cse2, qe2, hcse2, hLe2, hTe2⟩ := hRe2.inv
          obtain ⟨ce2_0, ee2_0, rfl, he2_0, ce2_1, ee2_1, rfl, he2_1, ce2_2, ee2_2, rfl, he2_2, ce2_3, ee2_3, rfl, he2_3, ce2_4, ee2_4, rfl, he2_4, ce2_5, ee2_5, rfl, he2_5, rfl⟩ := hLe2
          replace he2_0 : RepF (RepS true d) (szS true d) fListOffsetsResponseTopicPartition_0 okM w (y2.at 0) ce2_0 := he2_0
          replace he2_1 : RepF (RepS true d) (szS true d) fListOffsetsResponseTopicPartition_1 okM w (y2.at 1) ce2_1 := he2_1
          replace he2_2 : RepF (RepS true d) (szS true d) fListOffsetsResponseTopicPartition_2 okM w (y2.at 2) ce2_2 := he2_2
          replace he2_3 : RepF (RepS true d) (szS true d) fListOffsetsResponseTopicPartition_3 okM w (y2.at 3) ce2_3 := he2_3
          replace he2_4 : RepF (RepS true d) (szS true d) fListOffsetsResponseTopicPartition_4 okM w (y2.at 4) ce2_4 := he2_4
          replace he2_5 : RepF (RepS true d) (szS true d) fListOffsetsResponseTopicPartition_5 okM w (y2.at 5) ce2_5 := he2_5
          obtain rfl := (RepF_num (by decide)).1 he2_0
          obtain rfl := (RepF_num (by decide)).1 he2_1
          have hne2_2 := ge2_2.notnull (by decide)
          obtain ⟨pe2_2, rfl, hse2_2, -⟩ := (RepF_list rfl hne2_2).1 he2_2
          obtain ⟨abe2_2, ace2_2, rfl, _⟩ := SlR.shape hse2_2
          have hlle2_2 := (ge2_2.list rfl).1
          obtain rfl := (RepF_num (by decide)).1 he2_3
          obtain rfl := (RepF_num (by decide)).1 he2_4
          obtain rfl := (RepF_num (by decide)).1 he2_5
          obtain ⟨qme2, rfl⟩ := hTe2.shape
          subst hcse2
          have hq2_0 : x2.1[o2 + j2 * 7]? = some (.int .i32 (IntKind.i32.wrap (y2.at 0).n)) := hq2 0 (by decide)
          have hq2_1 : x2.1[o2 + (j2 * 7 + 1)]? = some (.int .i16 (IntKind.i16.wrap (y2.at 1).n)) := hq2 1 (by decide)
          have hq2_2 : x2.1[o2 + (j2 * 7 + 2)]? = some (.slice abe2_2 (y2.at 2).l.length ace2_2) := hq2 2 (by decide)
          have hq2_3 : x2.1[o2 + (j2 * 7 + 3)]? = some (.int .i64 (y2.at 3).n) := hq2 3 (by decide)
          have hq2_4 : x2.1[o2 + (j2 * 7 + 4)]? = some (.int .i64 (y2.at 4).n) := hq2 4 (by decide)
          have hq2_5 : x2.1[o2 + (j2 * 7 + 5)]? = some (.int .i32 (IntKind.i32.wrap (y2.at 5).n)) := hq2 5 (by decide)
          have hq2_6 : x2.1[o2 + (j2 * 7 + 6)]? = some (.map qme2) := hq2 6 (by decide)
          have hhe2_0 : hasS fListOffsetsResponseTopicPartition_0 ver = true := hasS_t (by show (0 : Int) ≤ ver; omega) (by show (-1 : Int) < 0 ∨ ver ≤ (-1 : Int); omega)
          obtain ⟨Xe2_0, hXXe2_0⟩ : ∃ X, X = fixedS (y2.at 0).n 4 := ⟨_, rfl⟩
          have hhe2_1 : hasS fListOffsetsResponseTopicPartition_1 ver = true := hasS_t (by show (0 : Int) ≤ ver; omega) (by show (-1 : Int) < 0 ∨ ver ≤ (-1 : Int); omega)
          obtain ⟨Xe2_1, hXXe2_1⟩ : ∃ X, X = fixedS (y2.at 1).n 2 := ⟨_, rfl⟩
          have hhe2_2 : hasS fListOffsetsResponseTopicPartition_2 ver = true := hasS_t (by show (0 : Int) ≤ ver; omega) (by show (0 : Int) < 0 ∨ ver ≤ (0 : Int); omega)
          obtain ⟨XLe2_2, hXLe2_2⟩ : ∃ X, X = fixedS (y2.at 2).l.length 4 := ⟨_, rfl⟩
          obtain ⟨XEe2_2, hXEe2_2⟩ : ∃ X, X = (y2.at 2).l.flatMap (fun x : Tree => fixedS x.n 8) := ⟨_, rfl⟩
          have hhe2_3 : hasS fListOffsetsResponseTopicPartition_3 ver = false := hasS_f (by show ver < 1 ∨ (0 ≤ (-1 : Int) ∧ (-1 : Int) < ver); omega)
          have hhe2_4 : hasS fListOffsetsResponseTopicPartition_4 ver = false := hasS_f (by show ver < 1 ∨ (0 ≤ (-1 : Int) ∧ (-1 : Int) < ver); omega)
          have hhe2_5 : hasS fListOffsetsResponseTopicPartition_5 ver = false := hasS_f (by show ver < 4 ∨ (0 ≤ (-1 : Int) ∧ (-1 : Int) < ver); omega)
          have hPe2 : partS (d + 1) fs_ListOffsetsResponseTopicPartition ver false y2 = Xe2_0 ++ (Xe2_1 ++ ((XLe2_2 ++ XEe2_2) ++ [])) := partS_no (plainL_has (by decide) hhe2_0 ((fieldS_num 3 rfl (by decide)).trans hXXe2_0.symm) (plainL_has (by decide) hhe2_1 ((fieldS_num 2 rfl (by decide)).trans hXXe2_1.symm) (plainL_has (by decide) hhe2_2 ((fieldS_list_f (g := (fun x : Tree => fixedS x.n 8)) ge2_2 rfl (by decide) (fun x _ => valueS_num 4 (by decide))).trans (by rw [hXLe2_2, hXEe2_2])) (plainL_not hhe2_3 (plainL_not hhe2_4 (plainL_not hhe2_5 rfl))))))
          rw [hPe2] at htl2
          simp only [List.length_append, List.length_nil] at htl2
          repeat ((first | refine W.seqR rfl ?_ | refine W.seq ?_ | refine W.regR rfl ?_ | refine W.condK ?_ | refine W.block ?_ | refine W.skip ?_ | refine W.ret ?_ | refine W.exit ?_); try simp (maxSteps := 1000000) (disch := (first | omega | (simp only [World.size_alloc, size_wr, size_drew] <;> omega) | exact not_noB _)) only [go_sem, ↓reduceIte, n0, reduceCtorEq, n1, n2, n3, n4, n5, i0, i1, i2, i3, i4, i5, i6, i7, hv_5, hx1_5, hx2_5, Int.toNat_natCast, Nat.mul_one, hq1_0, hq1_1, hq1_2, hq2_0, hq2_1, hq2_2, hq2_3, hq2_4, hq2_5, hq2_6, hr1_2, hr2_0, hr2_5, hr2_6, hr2_55, hr2_54, hr2_8, hr2_10, hI2, hN2, hS2])
          refine (AppendInt32_fn _ _ _ ha5.own hB5 _ (by simp only [List.length_append, List.length_nil]; omega)).mono ?_
          rintro r6 w6 hc6
          rw [wrap32, ← hXXe2_0] at hc6
          have ha6 := ha5.trans hc6
          have hB6 : B ≤ w6.heap.size := Nat.le_trans hB ha6.upd.size
          have hv_6 := ha6.upd.blk_some hv hdv
          have hx1_6 := ha6.upd.blk_some hx1 hnx1
          have hx2_6 := ha6.upd.blk_some hx2 hnx2
          repeat ((first | refine W.seqR rfl ?_ | refine W.seq ?_ | refine W.regR rfl ?_ | refine W.condK ?_ | refine W.block ?_ | refine W.skip ?_ | refine W.ret ?_ | refine W.exit ?_); try simp (maxSteps := 1000000) (disch := (first | omega | (simp only [World.size_alloc, size_wr, size_drew] <;> omega) | exact not_noB _)) only [go_sem, ↓reduceIte, n0, reduceCtorEq, n1, n2, n3, n4, n5, i0, i1, i2, i3, i4, i5, i6, i7, hv_6, hx1_6, hx2_6, Int.toNat_natCast, Nat.mul_one, hq1_0, hq1_1, hq1_2, hq2_0, hq2_1, hq2_2, hq2_3, hq2_4, hq2_5, hq2_6, hr1_2, hr2_0, hr2_5, hr2_6, hr2_55, hr2_54, hr2_8, hr2_10, hI2, hN2, hS2])
          refine (AppendInt16_fn _ _ _ ha6.own hB6 _ (by simp only [List.length_append, List.length_nil]; omega)).mono ?_
          rintro r7 w7 hc7
          rw [wrap16, ← hXXe2_1] at hc7
          have ha7 := ha6.trans hc7
          have hB7 : B ≤ w7.heap.size := Nat.le_trans hB ha7.upd.size
          have hv_7 := ha7.upd.blk_some hv hdv
          have hx1_7 := ha7.upd.blk_some hx1 hnx1
          have hx2_7 := ha7.upd.blk_some hx2 hnx2
          repeat ((first | refine W.seqR rfl ?_ | refine W.seq ?_ | refine W.regR rfl ?_ | refine W.condK ?_ | refine W.block ?_ | refine W.skip ?_ | refine W.ret ?_ | refine W.exit ?_); try simp (maxSteps := 1000000) (disch := (first | omega | (simp only [World.size_alloc, size_wr, size_drew] <;> omega) | exact not_noB _)) only [go_sem, ↓reduceIte, n0, reduceCtorEq, n1, n2, n3, n4, n5, i0, i1, i2, i3, i4, i5, i6, i7, hv_7, hx1_7, hx2_7, Int.toNat_natCast, Nat.mul_one, hq1_0, hq1_1, hq1_2, hq2_0, hq2_1, hq2_2, hq2_3, hq2_4, hq2_5, hq2_6, hr1_2, hr2_0, hr2_5, hr2_6, hr2_55, hr2_54, hr2_8, hr2_10, hI2, hN2, hS2])
          refine (AppendArrayLen_fn _ _ _ ha7.own hB7 (y2.at 2).l.length hlle2_2 (by simp only [List.length_append, List.length_nil]; omega)).mono ?_
          rintro r8 w8 hc8
          rw [← hXLe2_2] at hc8
          have ha8 := ha7.trans hc8
          have hB8 : B ≤ w8.heap.size := Nat.le_trans hB ha8.upd.size
          have hv_8 := ha8.upd.blk_some hv hdv
          have hx1_8 := ha8.upd.blk_some hx1 hnx1
          have hx2_8 := ha8.upd.blk_some hx2 hnx2
          repeat ((first | refine W.seqR rfl ?_ | refine W.seq ?_ | refine W.regR rfl ?_ | refine W.condK ?_ | refine W.block ?_ | refine W.skip ?_ | refine W.ret ?_ | refine W.exit ?_); try simp (maxSteps := 1000000) (disch := (first | omega | (simp only [World.size_alloc, size_wr, size_drew] <;> omega) | exact not_noB _)) only [go_sem, ↓reduceIte, n0, reduceCtorEq, n1, n2, n3, n4, n5, i0, i1, i2, i3, i4, i5, i6, i7, hv_8, hx1_8, hx2_8, Int.toNat_natCast, Nat.mul_one, hq1_0, hq1_1, hq1_2, hq2_0, hq2_1, hq2_2, hq2_3, hq2_4, hq2_5, hq2_6, hr1_2, hr2_0, hr2_5, hr2_6, hr2_55, hr2_54, hr2_8, hr2_10, hI2, hN2, hS2])
          have hadd3 := ha8
          refine W.exitJ 4 (fun ρ w' => ∃ r, ρ 1 = r ∧ ρ 0 = .pointer (some ⟨vb, 0, none⟩) ∧ ρ 5 = .int .i16 ver ∧ ρ 6 = .bool false ∧ ρ 55 = .int .i64 j1 ∧ ρ 54 = .int .i64 (t.at 1).l.length ∧ ρ 8 = .slice (some ⟨b1, o1, none⟩) (t.at 1).l.length ac_1 ∧ ρ 10 = .pointer (some ⟨b1, o1 + j1 * 3, none⟩) ∧ ρ 87 = .int .i64 j2 ∧ ρ 86 = .int .i64 (y1.at 1).l.length ∧ ρ 12 = .slice (some ⟨b2, o2, none⟩) (y1.at 1).l.length ace1_1 ∧ ρ 14 = .pointer (some ⟨b2, o2 + j2 * 7, none⟩) ∧ AppR 5 B w v s (([] ++ XL_1 ++ T1 ++ Xe1_0 ++ XLe1_1 ++ T2 ++ Xe2_0 ++ Xe2_1 ++ XLe2_2) ++ XEe2_2) r w')
            (W.loop (fun ρ w' => ∃ (j : Nat) (r : Value), j ≤ (y2.at 2).l.length ∧ ρ 128 = .int .i64 j ∧ ρ 127 = .int .i64 (y2.at 2).l.length ∧ ρ 17 = .slice abe2_2 (y2.at 2).l.length ace2_2 ∧ ρ 1 = r ∧ ρ 0 = .pointer (some ⟨vb, 0, none⟩) ∧ ρ 5 = .int .i16 ver ∧ ρ 6 = .bool false ∧ ρ 55 = .int .i64 j1 ∧ ρ 54 = .int .i64 (t.at 1).l.length ∧ ρ 8 = .slice (some ⟨b1, o1, none⟩) (t.at 1).l.length ac_1 ∧ ρ 10 = .pointer (some ⟨b1, o1 + j1 * 3, none⟩) ∧ ρ 87 = .int .i64 j2 ∧ ρ 86 = .int .i64 (y1.at 1).l.length ∧ ρ 12 = .slice (some ⟨b2, o2, none⟩) (y1.at 1).l.length ace1_1 ∧ ρ 14 = .pointer (some ⟨b2, o2 + j2 * 7, none⟩) ∧ AppR 5 B w v s (([] ++ XL_1 ++ T1 ++ Xe1_0 ++ XLe1_1 ++ T2 ++ Xe2_0 ++ Xe2_1 ++ XLe2_2) ++ ((y2.at 2).l.take j).flatMap (fun x : Tree => fixedS x.n 8)) r w')
              (fun ρ _ => (y2.at 2).l.length - (RowKit.intOf (ρ 128)).toNat) ?_ ?_) ?_
          · refine ⟨0, _, Nat.zero_le _, ?_, ?_, ?_, ?_, ?_, ?_, ?_, ?_, ?_, ?_, ?_, ?_, ?_, ?_, ?_, ha8.eqs (by rw [List.take_zero, List.flatMap_nil, List.append_nil])⟩ <;> simp (maxSteps := 1000000) (disch := (first | omega | (simp only [World.size_alloc, size_wr, size_drew] <;> omega) | exact not_noB _)) only [go_sem, ↓reduceIte, n0, reduceCtorEq, n1, n2, n3, n4, n5, i0, i1, i2, i3, i4, i5, i6, i7, hr1_2, hr2_0, hr2_5, hr2_6, hr2_55, hr2_54, hr2_8, hr2_10, hI2, hN2, hS2]
            all_goals rfl
          · rintro ρ w9 ⟨j3, r9, hj3, hI3, hN3, hS3, hr1_3, hr3_0, hr3_5, hr3_6, hr3_55, hr3_54, hr3_8, hr3_10, hr3_87, hr3_86, hr3_12, hr3_14, ha9⟩
            have hB9 : B ≤ w9.heap.size := Nat.le_trans hB ha9.upd.size
            have hv_9 := ha9.upd.blk_some hv hdv
            have hx1_9 := ha9.upd.blk_some hx1 hnx1
            have hx2_9 := ha9.upd.blk_some hx2 hnx2
            by_cases hlt3 : j3 < (y2.at 2).l.length
            · obtain ⟨_, b3, o3, x3, ce3, hb3, hok3, hx3, hbl3, hxs3, hxe3, hq3, hRe3⟩ := SlR.get (size := 1) (by decide) hse2_2 hlt3
              subst hb3
              have hcat3 : (y2.at 2).l.take (j3 + 1) = (y2.at 2).l.take j3 ++ [(y2.at 2).l[j3]] := List.take_succ_eq_append_getElem hlt3
              have htl3 := take_flatMap_len (y2.at 2).l (fun x : Tree => fixedS x.n 8) (j3 + 1)
              rw [← hXEe2_2, hcat3, List.flatMap_append, List.flatMap_cons, List.flatMap_nil, List.append_nil] at htl3
              have hge3 := (ge2_2.list rfl).2 _ (List.getElem_mem hlt3)
              generalize (y2.at 2).l[j3] = y3 at *
              have hnx3 := hd b3 hbl3 hok3
              obtain ⟨T3, hTT3⟩ : ∃ T, T = ((y2.at 2).l.take j3).flatMap (fun x : Tree => fixedS x.n 8) := ⟨_, rfl⟩
              rw [← hTT3] at ha9 htl3
              have hx3_9 := ha9.upd.blk_some hx3 hnx3
              obtain rfl := (Rep1_num (by decide)).1 hRe3
              have hq3_0 : x3.1[o3 + j3]? = some (.int .i64 y3.n) := by have := hq3 0 (by decide); rw [Nat.mul_one] at this; exact this
              obtain ⟨Y3, hY3⟩ : ∃ Y, Y = fixedS (y3).n 8 := ⟨_, rfl⟩
              replace htl3 : (T3 ++ Y3).length ≤ XEe2_2.length := by rw [hY3]; exact htl3
              simp only [List.length_append] at htl3
              repeat ((first | refine W.seqR rfl ?_ | refine W.seq ?_ | refine W.regR rfl ?_ | refine W.condK ?_ | refine W.block ?_ | refine W.skip ?_ | refine W.ret ?_ | refine W.exit ?_); try simp (maxSteps := 1000000) (disch := (first | omega | (simp only [World.size_alloc, size_wr, size_drew] <;> omega) | exact not_noB _)) only [go_sem, ↓reduceIte, n0, reduceCtorEq, n1, n2, n3, n4, n5, i0, i1, i2, i3, i4, i5, i6, i7, hv_9, hx1_9, hx2_9, hx3_9, Int.toNat_natCast, Nat.mul_one, hq1_0, hq1_1, hq1_2, hq2_0, hq2_1, hq2_2, hq2_3, hq2_4, hq2_5, hq2_6, hq3_0, hr1_3, hr3_0, hr3_5, hr3_6, hr3_55, hr3_54, hr3_8, hr3_10, hr3_87, hr3_86, hr3_12, hr3_14, hI3, hN3, hS3])
              refine (AppendInt64_fn _ _ _ ha9.own hB9 _ (by simp only [List.length_append, List.length_nil]; omega)).mono ?_
              rintro r10 w10 hc10
              rw [← hY3] at hc10
              have ha10 := ha9.trans hc10
              have hB10 : B ≤ w10.heap.size := Nat.le_trans hB ha10.upd.size
              have hv_10 := ha10.upd.blk_some hv hdv
              have hx1_10 := ha10.upd.blk_some hx1 hnx1
              have hx2_10 := ha10.upd.blk_some hx2 hnx2
              have hx3_10 := ha10.upd.blk_some hx3 hnx3
              repeat ((first | refine W.seqR rfl ?_ | refine W.seq ?_ | refine W.regR rfl ?_ | refine W.condK ?_ | refine W.block ?_ | refine W.skip ?_ | refine W.ret ?_ | refine W.exit ?_); try simp (maxSteps := 1000000) (disch := (first | omega | (simp only [World.size_alloc, size_wr, size_drew] <;> omega) | exact not_noB _)) only [go_sem, ↓reduceIte, n0, reduceCtorEq, n1, n2, n3, n4, n5, i0, i1, i2, i3, i4, i5, i6, i7, hr1_3, hr3_0, hr3_5, hr3_6, hr3_55, hr3_54, hr3_8, hr3_10, hr3_87, hr3_86, hr3_12, hr3_14, hI3, hN3, hS3])
              refine ⟨⟨j3 + 1, _, by omega, rfl, rfl, ha10.eqs ?_⟩, ?_⟩
              · rw [hcat3, List.flatMap_append, List.flatMap_cons, List.flatMap_nil, List.append_nil, ← hTT3, hY3]; simp only [List.append_assoc, List.append_nil, List.nil_append]
              · simp only [RowKit.intOf]; omega
            · have hjl3 : j3 = (y2.at 2).l.length := by omega
              subst hjl3
              rw [List.take_length, ← hXEe2_2] at ha9
              repeat ((first | refine W.seqR rfl ?_ | refine W.seq ?_ | refine W.regR rfl ?_ | refine W.condK ?_ | refine W.block ?_ | refine W.skip ?_ | refine W.ret ?_ | refine W.exit ?_); try simp (maxSteps := 1000000) (disch := (first | omega | (simp only [World.size_alloc, size_wr, size_drew] <;> omega) | exact not_noB _)) only [go_sem, ↓reduceIte, n0, reduceCtorEq, n1, n2, n3, n4, n5, i0, i1, i2, i3, i4, i5, i6, i7, hI3, hN3])
              exact ⟨_, hr1_3, hr3_0, hr3_5, hr3_6, hr3_55, hr3_54, hr3_8, hr3_10, hr3_87, hr3_86, hr3_12, hr3_14, ha9⟩
          · rintro ρ w11 ⟨r11, hr1_4, hr4_0, hr4_5, hr4_6, hr4_55, hr4_54, hr4_8, hr4_10, hr4_87, hr4_86, hr4_12, hr4_14, ha11⟩
            have hB11 : B ≤ w11.heap.size := Nat.le_trans hB ha11.upd.size
            have hv_11 := ha11.upd.blk_some hv hdv
            have hx1_11 := ha11.upd.blk_some hx1 hnx1
            have hx2_11 := ha11.upd.blk_some hx2 hnx2
            repeat ((first | refine W.seqR rfl ?_ | refine W.seq ?_ | refine W.regR rfl ?_ | refine W.condK ?_ | refine W.block ?_ | refine W.skip ?_ | refine W.ret ?_ | refine W.exit ?_); try simp (maxSteps := 1000000) (disch := (first | omega | (simp only [World.size_alloc, size_wr, size_drew] <;> omega) | exact not_noB _)) only [go_sem, ↓reduceIte, n0, reduceCtorEq, n1, n2, n3, n4, n5, i0, i1, i2, i3, i4, i5, i6, i7, hr1_4, hr4_0, hr4_5, hr4_6, hr4_55, hr4_54, hr4_8, hr4_10, hr4_87, hr4_86, hr4_12, hr4_14])
            refine ⟨⟨j2 + 1, _, by omega, rfl, rfl, ha11.eqs ?_⟩, ?_⟩
            · rw [hcat2, List.flatMap_append, List.flatMap_cons, List.flatMap_nil, List.append_nil, ← hTT2, hPe2]; simp only [List.append_assoc, List.append_nil, List.nil_append]
            · simp only [RowKit.intOf]; omega
        · have hjl2 : j2 = (y1.at 1).l.length := by omega
          subst hjl2
          rw [List.take_length, ← hXEe1_1] at ha5
          repeat ((first | refine W.seqR rfl ?_ | refine W.seq ?_ | refine W.regR rfl ?_ | refine W.condK ?_ | refine W.block ?_ | refine W.skip ?_ | refine W.ret ?_ | refine W.exit ?_); try simp (maxSteps := 1000000) (disch := (first | omega | (simp only [World.size_alloc, size_wr, size_drew] <;> omega) | exact not_noB _)) only [go_sem, ↓reduceIte, n0, reduceCtorEq, n1, n2, n3, n4, n5, i0, i1, i2, i3, i4, i5, i6, i7, hI2, hN2])
          exact ⟨_, hr1_2, hr2_0, hr2_5, hr2_6, hr2_55, hr2_54, hr2_8, hr2_10, ha5⟩
      · rintro ρ w12 ⟨r12, hr1_5, hr5_0, hr5_5, hr5_6, hr5_55, hr5_54, hr5_8, hr5_10, ha12⟩
        have hB12 : B ≤ w12.heap.size := Nat.le_trans hB ha12.upd.size
        have hv_12 := ha12.upd.blk_some hv hdv
        have hx1_12 := ha12.upd.blk_some hx1 hnx1
        repeat ((first | refine W.seqR rfl ?_ | refine W.seq ?_ | refine W.regR rfl ?_ | refine W.condK ?_ | refine W.block ?_ | refine W.skip ?_ | refine W.ret ?_ | refine W.exit ?_); try simp (maxSteps := 1000000) (disch := (first | omega | (simp only [World.size_alloc, size_wr, size_drew] <;> omega) | exact not_noB _)) only [go_sem, ↓reduceIte, n0, reduceCtorEq, n1, n2, n3, n4, n5, i0, i1, i2, i3, i4, i5, i6, i7, hr1_5, hr5_0, hr5_5, hr5_6, hr5_55, hr5_54, hr5_8, hr5_10])
        refine ⟨⟨j1 + 1, _, by omega, rfl, rfl, ha12.eqs ?_⟩, ?_⟩
        · rw [hcat1, List.flatMap_append, List.flatMap_cons, List.flatMap_nil, List.append_nil, ← hTT1, hPe1]; simp only [List.append_assoc, List.append_nil, List.nil_append]
        · simp only [RowKit.intOf]; omega
    · have hjl1 : j1 = (t.at 1).l.length := by omega
      subst hjl1
      rw [List.take_length, ← hXE_1] at ha2
      repeat ((first | refine W.seqR rfl ?_ | refine W.seq ?_ | refine W.regR rfl ?_ | refine W.condK ?_ | refine W.block ?_ | refine W.skip ?_ | refine W.ret ?_ | refine W.exit ?_); try simp (maxSteps := 1000000) (disch := (first | omega | (simp only [World.size_alloc, size_wr, size_drew] <;> omega) | exact not_noB _)) only [go_sem, ↓reduceIte, n0, reduceCtorEq, n1, n2, n3, n4, n5, i0, i1, i2, i3, i4, i5, i6, i7, hI1, hN1])
      exact ⟨_, hr1_1, hr1_0, hr1_5, hr1_6, ha2⟩
  · rintro ρ w13 ⟨r13, hr1_6, hr6_0, hr6_5, hr6_6, ha13⟩
    have hB13 : B ≤ w13.heap.size := Nat.le_trans hB ha13.upd.size
    have hv_13 := ha13.upd.blk_some hv hdv
    repeat ((first | refine W.seqR rfl ?_ | refine W.seq ?_ | refine W.regR rfl ?_ | refine W.condK ?_ | refine W.block ?_ | refine W.skip ?_ | refine W.ret ?_ | refine W.exit ?_); try simp (maxSteps := 1000000) (disch := (first | omega | (simp only [World.size_alloc, size_wr, size_drew] <;> omega) | exact not_noB _)) only [go_sem, ↓reduceIte, n0, reduceCtorEq, n1, n2, n3, n4, n5, i0, i1, i2, i3, i4, i5, i6, i7, hv_13, hr1_6, hr6_0, hr6_5, hr6_6])
    refine ha13.eqs ?_
    rw [hP]; simp only [List.append_assoc, List.append_nil, List.nil_append]
end Ms

namespace Ms
open Nat renaming reduceEqDiff → n0, reduceAdd → n1, reduceMul → n2, reduceSub → n3, reduceLT → n4, reduceLeDiff → n5
open Int renaming reduceEq → i0, reduceLT → i1, reduceLE → i2, reduceNeg → i3, reduceAdd → i4, reduceSub → i5, reduceMul → i6, reduceToNat → i7
set_option maxRecDepth 8000
open Go Go.Proofs Go.Shelf
attribute [local congr] W_congr WPsq_congr WPp_congr optK_congr addrK_congr intK_congr boolK_congr sliceK_congr tupleK_congr funcK_congr Fn_congr rawK_congr takeK_congr stepK_congr convK_congr aggK_congr

set_option maxHeartbeats 4000000 in
theorem appListOffsetsResponse_1 {d B : Nat} {okM : Blocks} {ver : Int} (hlo : 1 ≤ ver) (hhi : ver ≤ 1) (t : Tree) (cells : List Value) (v : Value) (s : List UInt8) (w : World) {vb : Nat} (ho : OwnBy 5 B w v s) (hB : B ≤ w.heap.size) (hvb : blk w vb = some ((.int .i16 ver :: cells).toArray, 104, (0, 0)))
    (hR : RepS true (d + 3) fs_ListOffsetsResponse okM w t cells) (hfit : FitP ver (d + 3) fs_ListOffsetsResponse t) (hd : ∀ b, b < w.heap.size → okM b → ¬ ownB v b) (hdv : ¬ ownB v vb) (hlen : s.length + (partS (d + 3) fs_ListOffsetsResponse ver false t).length ≤ 2 ^ 41) :
    Fn Try.prog 94 #[.pointer (some ⟨vb, 0, none⟩), v] w fun r w' => AppR 5 B w v s (partS (d + 3) fs_ListOffsetsResponse ver false t) r w' := by
  obtain ⟨⟨g_0, g_1, -⟩, hfu⟩ := hfit
  replace g_0 : FitF (FitP ver (d + 2)) ver fListOffsetsResponse_0 (t.at 0) := g_0
  replace g_1 : FitF (FitP ver (d + 2)) ver fListOffsetsResponse_1 (t.at 1) := g_1
  obtain ⟨cs, q, hcs, hL, hT⟩ := hR.inv
  obtain ⟨c_0, e_0, rfl, h_0, c_1, e_1, rfl, h_1, rfl⟩ := hL
  replace h_0 : RepF (RepS true (d + 2)) (szS true (d + 2)) fListOffsetsResponse_0 okM w (t.at 0) c_0 := h_0
  replace h_1 : RepF (RepS true (d + 2)) (szS true (d + 2)) fListOffsetsResponse_1 okM w (t.at 1) c_1 := h_1
  obtain rfl := (RepF_num (by decide)).1 h_0
  have hn_1 := g_1.notnull (by decide)
  obtain ⟨p_1, rfl, hs_1, -⟩ := (RepF_list rfl hn_1).1 h_1
  obtain ⟨ab_1, ac_1, rfl, _⟩ := SlR.shape hs_1
  have hll_1 := (g_1.list rfl).1
  obtain ⟨qm, rfl⟩ := hT.shape
  have hv : blk w vb = some (#[.int .i16 ver, .int .i32 (IntKind.i32.wrap (t.at 0).n), .slice ab_1 (t.at 1).l.length ac_1, .map qm], 104, (0, 0)) := by rw [hvb, hcs]; rfl
  clear hvb hcs
  have hh_0 : hasS fListOffsetsResponse_0 ver = false := hasS_f (by show ver < 2 ∨ (0 ≤ (-1 : Int) ∧ (-1 : Int) < ver); omega)
  have hh_1 : hasS fListOffsetsResponse_1 ver = true := hasS_t (by show (0 : Int) ≤ ver; omega) (by show (-1 : Int) < 0 ∨ ver ≤ (-1 : Int); omega)
  obtain ⟨XL_1, hXL_1⟩ : ∃ X, X = fixedS (t.at 1).l.length 4 := ⟨_, rfl⟩
  obtain ⟨XE_1, hXE_1⟩ : ∃ X, X = (t.at 1).l.flatMap (fun x => partS (d + 2) fs_ListOffsetsResponseTopic ver false x) := ⟨_, rfl⟩
  have hP : partS (d + 3) fs_ListOffsetsResponse ver false t = (XL_1 ++ XE_1) ++ [] := partS_no (plainL_not hh_0 (plainL_has (by decide) hh_1 ((fieldS_list_f (g := (fun x => partS (d + 2) fs_ListOffsetsResponseTopic ver false x)) g_1 rfl (by decide) (fun x _ => valueS_part)).trans (by rw [hXL_1, hXE_1])) rfl))
  rw [hP] at hlen
  simp only [List.length_append, List.length_nil] at hlen
  have hdK : ∀ {r : Value} {w' : World} {add : List UInt8}, AppR 5 B w v s add r w' → ∀ b, b < w'.heap.size → OkS okM w.heap.size b → ¬ ownB r b := fun h b _ hk ho => (h.frame b ho).elim (hd b hk.2 hk.1) (fun h => by have := hk.2; omega)
  have ownK : ∀ {r : Value} {w' : World} {add : List UInt8} {b : Nat}, AppR 5 B w v s add r w' → b < w.heap.size → ¬ ownB v b → ¬ ownB r b := fun h hb hn ho => (h.frame _ ho).elim hn (fun h => by omega)
  have ha0 : AppR 5 B w v s [] v w := AppR.refl ho
  obtain ⟨w0, hw0⟩ : ∃ w0, w0 = w := ⟨_, rfl⟩
  have hB0 := hB
  have hv_0 := hv
  refine fn_of_W Try.func94 rfl Try.results94 Try.ntmps94 rfl ?_
  repeat ((first | refine W.seqR rfl ?_ | refine W.seq ?_ | refine W.regR rfl ?_ | refine W.condK ?_ | refine W.block ?_ | refine W.skip ?_ | refine W.ret ?_ | refine W.exit ?_); try simp (maxSteps := 1000000) (disch := (first | omega | (simp only [World.size_alloc, size_wr, size_drew] <;> omega) | exact not_noB _)) only [go_sem, ↓reduceIte, n0, reduceCtorEq, n1, n2, n3, n4, n5, i0, i1, i2, i3, i4, i5, i6, i7, hv_0])
  refine (AppendArrayLen_fn _ _ _ ha0.own hB0 (t.at 1).l.length hll_1 (by simp only [List.length_append, List.length_nil]; omega)).mono ?_
  rintro r1 w1 hc1
  rw [← hXL_1] at hc1
  have ha1 := ha0.trans hc1
  have hB1 : B ≤ w1.heap.size := Nat.le_trans hB ha1.upd.size
  have hv_1 := ha1.upd.blk_some hv hdv
  repeat ((first | refine W.seqR rfl ?_ | refine W.seq ?_ | refine W.regR rfl ?_ | refine W.condK ?_ | refine W.block ?_ | refine W.skip ?_ | refine W.ret ?_ | refine W.exit ?_); try simp (maxSteps := 1000000) (disch := (first | omega | (simp only [World.size_alloc, size_wr, size_drew] <;> omega) | exact not_noB _)) only [go_sem, ↓reduceIte, n0, reduceCtorEq, n1, n2, n3, n4, n5, i0, i1, i2, i3, i4, i5, i6, i7, hv_1])
  have hadd1 := ha1
  refine W.exitJ 0 (fun ρ w' => ∃ r, ρ 1 = r ∧ ρ 0 = .pointer (some ⟨vb, 0, none⟩) ∧ ρ 5 = .int .i16 ver ∧ ρ 6 = .bool false ∧ AppR 5 B w v s (([] ++ XL_1) ++ XE_1) r w')
    (W.loop (fun ρ w' => ∃ (j : Nat) (r : Value), j ≤ (t.at 1).l.length ∧ ρ 55 = .int .i64 j ∧ ρ 54 = .int .i64 (t.at 1).l.length ∧ ρ 8 = .slice ab_1 (t.at 1).l.length ac_1 ∧ ρ 1 = r ∧ ρ 0 = .pointer (some ⟨vb, 0, none⟩) ∧ ρ 5 = .int .i16 ver ∧ ρ 6 = .bool false ∧ AppR 5 B w v s (([] ++ XL_1) ++ ((t.at 1).l.take j).flatMap (fun x => partS (d + 2) fs_ListOffsetsResponseTopic ver false x)) r w')
      (fun ρ _ => (t.at 1).l.length - (RowKit.intOf (ρ 55)).toNat) ?_ ?_) ?_
  · refine ⟨0, _, Nat.zero_le _, ?_, ?_, ?_, ?_, ?_, ?_, ?_, ha1.eqs (by rw [List.take_zero, List.flatMap_nil, List.append_nil])⟩ <;> simp (maxSteps := 1000000) (disch := (first | omega | (simp only [World.size_alloc, size_wr, size_drew] <;> omega) | exact not_noB _)) only [go_sem, ↓reduceIte, n0, reduceCtorEq, n1, n2, n3, n4, n5, i0, i1, i2, i3, i4, i5, i6, i7]
    all_goals rfl
  · rintro ρ w2 ⟨j1, r2, hj1, hI1, hN1, hS1, hr1_1, hr1_0, hr1_5, hr1_6, ha2⟩
    have hB2 : B ≤ w2.heap.size := Nat.le_trans hB ha2.upd.size
    have hv_2 := ha2.upd.blk_some hv hdv
    by_cases hlt1 : j1 < (t.at 1).l.length
    · obtain ⟨_, b1, o1, x1, ce1, hb1, hok1, hx1, hbl1, hxs1, hxe1, hq1, hRe1⟩ := SlR.get (size := 3) (by decide) hs_1 hlt1
      subst hb1
      have hcat1 : (t.at 1).l.take (j1 + 1) = (t.at 1).l.take j1 ++ [(t.at 1).l[j1]] := List.take_succ_eq_append_getElem hlt1
      have htl1 := take_flatMap_len (t.at 1).l (fun x => partS (d + 2) fs_ListOffsetsResponseTopic ver false x) (j1 + 1)
      rw [← hXE_1, hcat1, List.flatMap_append, List.flatMap_cons, List.flatMap_nil, List.append_nil] at htl1
      have hge1 := (g_1.list rfl).2 _ (List.getElem_mem hlt1)
      generalize (t.at 1).l[j1] = y1 at *
      have hnx1 := hd b1 hbl1 hok1
      obtain ⟨T1, hTT1⟩ : ∃ T, T = ((t.at 1).l.take j1).flatMap (fun x => partS (d + 2) fs_ListOffsetsResponseTopic ver false x) := ⟨_, rfl⟩
      rw [← hTT1] at ha2 htl1
      have hx1_2 := ha2.upd.blk_some hx1 hnx1
      replace hRe1 : RepS true (d + 2) fs_ListOffsetsResponseTopic okM w y1 ce1 := Rep1_part.1 hRe1
      have hfe1 : FitP ver (d + 2) fs_ListOffsetsResponseTopic y1 := hge1.2.2 rfl
      obtain ⟨⟨ge1_0, ge1_1, -⟩, hfue1⟩ := hfe1
      replace ge1_0 : FitF (FitP ver (d + 1)) ver fListOffsetsResponseTopic_0 (y1.at 0) := ge1_0
      replace ge1_1 : FitF (FitP ver (d + 1)) ver fListOffsetsResponseTopic_1 (y1.at 1) := ge1_1
      obtain ⟨cse1, qe1, hcse1, hLe1, hTe1⟩ := hRe1.inv
      obtain ⟨ce1_0, ee1_0, rfl, he1_0, ce1_1, ee1_1, rfl, he1_1, rfl⟩ := hLe1
      replace he1_0 : RepF (RepS true (d + 1)) (szS true (d + 1)) fListOffsetsResponseTopic_0 okM w (y1.at 0) ce1_0 := he1_0
      replace he1_1 : RepF (RepS true (d + 1)) (szS true (d + 1)) fListOffsetsResponseTopic_1 okM w (y1.at 1) ce1_1 := he1_1
      obtain rfl := (RepF_text rfl (by decide)).1 he1_0
      have hne1_1 := ge1_1.notnull (by decide)
      obtain ⟨pe1_1, rfl, hse1_1, -⟩ := (RepF_list rfl hne1_1).1 he1_1
      obtain ⟨abe1_1, ace1_1, rfl, _⟩ := SlR.shape hse1_1
      have hlle1_1 := (ge1_1.list rfl).1
      obtain ⟨qme1, rfl⟩ := hTe1.shape
      subst hcse1
      have hq1_0 : x1.1[o1 + j1 * 3]? = some (strV (y1.at 0).s) := hq1 0 (by decide)
      have hq1_1 : x1.1[o1 + (j1 * 3 + 1)]? = some (.slice abe1_1 (y1.at 1).l.length ace1_1) := hq1 1 (by decide)
      have hq1_2 : x1.1[o1 + (j1 * 3 + 2)]? = some (.map qme1) := hq1 2 (by decide)
      have hhe1_0 : hasS fListOffsetsResponseTopic_0 ver = true := hasS_t (by show (0 : Int) ≤ ver; omega) (by show (-1 : Int) < 0 ∨ ver ≤ (-1 : Int); omega)
      obtain ⟨Xe1_0, hXXe1_0⟩ : ∃ X, X = fixedS (y1.at 0).s.length 2 ++ (y1.at 0).s := ⟨_, rfl⟩
      have hhe1_1 : hasS fListOffsetsResponseTopic_1 ver = true := hasS_t (by show (0 : Int) ≤ ver; omega) (by show (-1 : Int) < 0 ∨ ver ≤ (-1 : Int); omega)
      obtain ⟨XLe1_1, hXLe1_1⟩ : ∃ X, X = fixedS (y1.at 1).l.length 4 := ⟨_, rfl⟩
      obtain ⟨XEe1_1, hXEe1_1⟩ : ∃ X, X = (y1.at 1).l.flatMap (fun x => partS (d + 1) fs_ListOffsetsResponseTopicPartition ver false x) := ⟨_, rfl⟩
      have hPe1 : partS (d + 2) fs_ListOffsetsResponseTopic ver false y1 = Xe1_0 ++ ((XLe1_1 ++ XEe1_1) ++ []) := partS_no (plainL_has (by decide) hhe1_0 ((fieldS_text_f ge1_0 rfl (by decide)).trans hXXe1_0.symm) (plainL_has (by decide) hhe1_1 ((fieldS_list_f (g := (fun x => partS (d + 1) fs_ListOffsetsResponseTopicPartition ver false x)) ge1_1 rfl (by decide) (fun x _ => valueS_part)).trans (by rw [hXLe1_1, hXEe1_1])) rfl))
      rw [hPe1] at htl1
      simp only [List.length_append, List.length_nil] at htl1
      repeat ((first | refine W.seqR rfl ?_ | refine W.seq ?_ | refine W.regR rfl ?_ | refine W.condK ?_ | refine W.block ?_ | refine W.skip ?_ | refine W.ret ?_ | refine W.exit ?_); try simp (maxSteps := 1000000) (disch := (first | omega | (simp only [World.size_alloc, size_wr, size_drew] <;> omega) | exact not_noB _)) only [go_sem, ↓reduceIte, n0, reduceCtorEq, n1, n2, n3, n4, n5, i0, i1, i2, i3, i4, i5, i6, i7, hv_2, hx1_2, Int.toNat_natCast, Nat.mul_one, hq1_0, hq1_1, hq1_2, hr1_1, hr1_0, hr1_5, hr1_6, hI1, hN1, hS1])
      refine (AppendString_fn _ _ _ ha2.own hB2 (y1.at 0).s (ge1_0.text (.inl rfl)) (by simp only [List.length_append, List.length_nil]; omega)).mono ?_
      rintro r3 w3 hc3
      rw [← hXXe1_0] at hc3
      have ha3 := ha2.trans hc3
      have hB3 : B ≤ w3.heap.size := Nat.le_trans hB ha3.upd.size
      have hv_3 := ha3.upd.blk_some hv hdv
      have hx1_3 := ha3.upd.blk_some hx1 hnx1
      repeat ((first | refine W.seqR rfl ?_ | refine W.seq ?_ | refine W.regR rfl ?_ | refine W.condK ?_ | refine W.block ?_ | refine W.skip ?_ | refine W.ret ?_ | refine W.exit ?_); try simp (maxSteps := 1000000) (disch := (first | omega | (simp only [World.size_alloc, size_wr, size_drew] <;> omega) | exact not_noB _)) only [go_sem, ↓reduceIte, n0, reduceCtorEq, n1, n2, n3, n4, n5, i0, i1, i2, i3, i4, i5, i6, i7, hv_3, hx1_3, Int.toNat_natCast, Nat.mul_one, hq1_0, hq1_1, hq1_2, hr1_1, hr1_0, hr1_5, hr1_6, hI1, hN1, hS1])
      refine (AppendArrayLen_fn _ _ _ ha3.own hB3 (y1.at 1).l.length hlle1_1 (by simp only [List.length_append, List.length_nil]; omega)).mono ?_
      rintro r4 w4 hc4
      rw [← hXLe1_1] at hc4
      have ha4 := ha3.trans hc4
      have hB4 : B ≤ w4.heap.size := Nat.le_trans hB ha4.upd.size
      have hv_4 := ha4.upd.blk_some hv hdv
      have hx1_4 := ha4.upd.blk_some hx1 hnx1
      repeat ((first | refine W.seqR rfl ?_ | refine W.seq ?_ | refine W.regR rfl ?_ | refine W.condK ?_ | refine W.block ?_ | refine W.skip ?_ | refine W.ret ?_ | refine W.exit ?_); try simp (maxSteps := 1000000) (disch := (first | omega | (simp only [World.size_alloc, size_wr, size_drew] <;> omega) | exact not_noB _)) only [go_sem, ↓reduceIte, n0, reduceCtorEq, n1, n2, n3, n4, n5, i0, i1, i2, i3, i4, i5, i6, i7, hv_4, hx1_4, Int.toNat_natCast, Nat.mul_one, hq1_0, hq1_1, hq1_2, hr1_1, hr1_0, hr1_5, hr1_6, hI1, hN1, hS1])
      have hadd2 := ha4
      refine W.exitJ 2 (fun ρ w' => ∃ r, ρ 1 = r ∧ ρ 0 = .pointer (some ⟨vb, 0, none⟩) ∧ ρ 5 = .int .i16 ver ∧ ρ 6 = .bool false ∧ ρ 55 = .int .i64 j1 ∧ ρ 54 = .int .i64 (t.at 1).l.length ∧ ρ 8 = .slice (some ⟨b1, o1, none⟩) (t.at 1).l.length ac_1 ∧ ρ 10 = .pointer (some ⟨b1, o1 + j1 * 3, none⟩) ∧ AppR 5 B w v s (([] ++ XL_1 ++ T1 ++ Xe1_0 ++ XLe1_1) ++ XEe1_1) r w')
        (W.loop (fun ρ w' => ∃ (j : Nat) (r : Value), j ≤ (y1.at 1).l.length ∧ ρ 87 = .int .i64 j ∧ ρ 86 = .int .i64 (y1.at 1).l.length ∧ ρ 12 = .slice abe1_1 (y1.at 1).l.length ace1_1 ∧ ρ 1 = r ∧ ρ 0 = .pointer (some ⟨vb, 0, none⟩) ∧ ρ 5 = .int .i16 ver ∧ ρ 6 = .bool false ∧ ρ 55 = .int .i64 j1 ∧ ρ 54 = .int .i64 (t.at 1).l.length ∧ ρ 8 = .slice (some ⟨b1, o1, none⟩) (t.at 1).l.length ac_1 ∧ ρ 10 = .pointer (some ⟨b1, o1 + j1 * 3, none⟩) ∧ AppR 5 B w v s (([] ++ XL_1 ++ T1 ++ Xe1_0 ++ XLe1_1) ++ ((y1.at 1).l.take j).flatMap (fun x => partS (d + 1) fs_ListOffsetsResponseTopicPartition ver false x)) r w')
          (fun ρ _ => (y1.at 1).l.length - (RowKit.intOf (ρ 87)).toNat) ?_ ?_) ?_
      · refine ⟨0, _, Nat.zero_le _, ?_, ?_, ?_, ?_, ?_, ?_, ?_, ?_, ?_, ?_, ?_, ha4.eqs (by rw [List.take_zero, List.flatMap_nil, List.append_nil])⟩ <;> simp (maxSteps := 1000000) (disch := (first | omega | (simp only [World.size_alloc, size_wr, size_drew] <;> omega) | exact not_noB _)) only [go_sem, ↓reduceIte, n0, reduceCtorEq, n1, n2, n3, n4, n5, i0, i1, i2, i3, i4, i5, i6, i7, hr1_1, hr1_0, hr1_5, hr1_6, hI1, hN1, hS1]
        all_goals rfl
      · rintro ρ w5 ⟨j2, r5, hj2, hI2, hN2, hS2, hr1_2, hr2_0, hr2_5, hr2_6, hr2_55, hr2_54, hr2_8, hr2_10, ha5⟩
        have hB5 : B ≤ w5.heap.size := Nat.le_trans hB ha5.upd.size
        have hv_5 := ha5.upd.blk_some hv hdv
        have hx1_5 := ha5.upd.blk_some hx1 hnx1
        by_cases hlt2 : j2 < (y1.at 1).l.length
        · obtain ⟨_, b2, o2, x2, ce2, hb2, hok2, hx2, hbl2, hxs2, hxe2, hq2, hRe2⟩ := SlR.get (size := 7) (by decide) hse1_1 hlt2
          subst hb2
          have hcat2 : (y1.at 1).l.take (j2 + 1) = (y1.at 1).l.take j2 ++ [(y1.at 1).l[j2]] := List.take_succ_eq_append_getElem hlt2
          have htl2 := take_flatMap_len (y1.at 1).l (fun x => partS (d + 1) fs_ListOffsetsResponseTopicPartition ver false x) (j2 + 1)
          rw [← hXEe1_1, hcat2, List.flatMap_append, List.flatMap_cons, List.flatMap_nil, List.append_nil] at htl2
          have hge2 := (ge1_1.list rfl).2 _ (List.getElem_mem hlt2)
          generalize (y1.at 1).l[j2] = y2 at *
          have hnx2 := hd b2 hbl2 hok2
          obtain ⟨T2, hTT2⟩ : ∃ T, T = ((y1.at 1).l.take j2).flatMap (fun x => partS (d + 1) fs_ListOffsetsResponseTopicPartition ver false x) := ⟨_, rfl⟩
          rw [← hTT2] at ha5 htl2
          have hx2_5 := ha5.upd.blk_some hx2 hnx2
          replace hRe2 : RepS true (d + 1) fs_ListOffsetsResponseTopicPartition okM w y2 ce2 := Rep1_part.1 hRe2
          have hfe2 : FitP ver (d + 1) fs_ListOffsetsResponseTopicPartition y2 := hge2.2.2 rfl
          obtain ⟨⟨ge2_0, ge2_1, ge2_2, ge2_3, ge2_4, ge2_5, -⟩, hfue2⟩ := hfe2
          replace ge2_0 : FitF (FitP ver d) ver fListOffsetsResponseTopicPartition_0 (y2.at 0) := ge2_0
          replace ge2_1 : FitF (FitP ver d) ver fListOffsetsResponseTopicPartition_1 (y2.at 1) := ge2_1
          replace ge2_2 : FitF (FitP ver d) ver fListOffsetsResponseTopicPartition_2 (y2.at 2) := ge2_2
          replace ge2_3 : FitF (FitP ver d) ver fListOffsetsResponseTopicPartition_3 (y2.at 3) := ge2_3
          replace ge2_4 : FitF (FitP ver d) ver fListOffsetsResponseTopicPartition_4 (y2.at 4) := ge2_4
          replace ge2_5 : FitF (FitP ver d) ver fListOffsetsResponseTopicPartition_5 (y2.at 5) := ge2_5
          obtain ⟨cse2, qe2, hcse2, hLe2, hTe2⟩ := hRe2.inv
          obtain ⟨ce2_0, ee2_0, rfl, he2_0, ce2_1, ee2_1, rfl, he2_1, ce2_2, ee2_2, rfl, he2_2, ce2_3, ee2_3, rfl, he2_3, ce2_4, ee2_4, rfl, he2_4, ce2_5, ee2_5, rfl, he2_5, rfl⟩ := hLe2
          replace he2_0 : RepF (RepS true d) (szS true d) fListOffsetsResponseTopicPartition_0 okM w (y2.at 0) ce2_0 := he2_0
          replace he2_1 : RepF (RepS true d) (szS true d) fListOffsetsResponseTopicPartition_1 okM w (y2.at 1) ce2_1 := he2_1
          replace he2_2 : RepF (RepS true d) (szS true d) fListOffsetsResponseTopicPartition_2 okM w (y2.at 2) ce2_2 := he2_2
          replace he2_3 : RepF (RepS true d) (szS true d) fListOffsetsResponseTopicPartition_3 okM w (y2.at 3) ce2_3 := he2_3
          replace he2_4 : RepF (RepS true d) (szS true d) fListOffsetsResponseTopicPartition_4 okM w (y2.at 4) ce2_4 := he2_4
          replace he2_5 : RepF (RepS true d) (szS true d) fListOffsetsResponseTopicPartition_5 okM w (y2.at 5) ce2_5 := he2_5
          obtain rfl := (RepF_num (by decide)).1 he2_0
          obtain rfl := (RepF_num (by decide)).1 he2_1
          have hne2_2 := ge2_2.notnull (by decide)
          obtain ⟨pe2_2, rfl, hse2_2, -⟩ := (RepF_list rfl hne2_2).1 he2_2
          obtain ⟨abe2_2, ace2_2, rfl, _⟩ := SlR.shape hse2_2
          have hlle2_2 := (ge2_2.list rfl).1
          obtain rfl := (RepF_num (by decide)).1 he2_3
          obtain rfl := (RepF_num (by decide)).1 he2_4
          obtain rfl := (RepF_num (by decide)).1 he2_5
          obtain ⟨qme2, rfl⟩ := hTe2.shape
          subst hcse2
          have hq2_0 : x2.1[o2 + j2 * 7]? = some (.int .i32 (IntKind.i32.wrap (y2.at 0).n)) := hq2 0 (by decide)
          have hq2_1 : x2.1[o2 + (j2 * 7 + 1)]? = some (.int .i16 (IntKind.i16.wrap (y2.at 1).n)) := hq2 1 (by decide)
          have hq2_2 : x2.1[o2 + (j2 * 7 + 2)]? = some (.slice abe2_2 (y2.at 2).l.length ace2_2) := hq2 2 (by decide)
          have hq2_3 : x2.1[o2 + (j2 * 7 + 3)]? = some (.int .i64 (y2.at 3).n) := hq2 3 (by decide)
          have hq2_4 : x2.1[o2 + (j2 * 7 + 4)]? = some (.int .i64 (y2.at 4).n) := hq2 4 (by decide)
          have hq2_5 : x2.1[o2 + (j2 * 7 + 5)]? = some (.int .i32 (IntKind.i32.wrap (y2.at 5).n)) := hq2 5 (by decide)
          have hq2_6 : x2.1[o2 + (j2 * 7 + 6)]? = some (.map qme2) := hq2 6 (by decide)
          have hhe2_0 : hasS fListOffsetsResponseTopicPartition_0 ver = true := hasS_t (by show (0 : Int) ≤ ver; omega) (by show (-1 : Int) < 0 ∨ ver ≤ (-1 : Int); omega)
          obtain ⟨Xe2_0, hXXe2_0⟩ : ∃ X, X = fixedS (y2.at 0).n 4 := ⟨_, rfl⟩
          have hhe2_1 : hasS fListOffsetsResponseTopicPartition_1 ver = true := hasS_t (by show (0 : Int) ≤ ver; omega) (by show (-1 : Int) < 0 ∨ ver ≤ (-1 : Int); omega)
          obtain ⟨Xe2_1, hXXe2_1⟩ : ∃ X, X = fixedS (y2.at 1).n 2 := ⟨_, rfl⟩
          have hhe2_2 : hasS fListOffsetsResponseTopicPartition_2 ver = false := hasS_f (by show ver < 0 ∨ (0 ≤ (0 : Int) ∧ (0 : Int) < ver); omega)
          have hhe2_3 : hasS fListOffsetsResponseTopicPartition_3 ver = true := hasS_t (by show (1 : Int) ≤ ver; omega) (by show (-1 : Int) < 0 ∨ ver ≤ (-1 : Int); omega)
          obtain ⟨Xe2_3, hXXe2_3⟩ : ∃ X, X = fixedS (y2.at 3).n 8 := ⟨_, rfl⟩
          have hhe2_4 : hasS fListOffsetsResponseTopicPartition_4 ver = true := hasS_t (by show (1 : Int) ≤ ver; omega) (by show (-1 : Int) < 0 ∨ ver ≤ (-1 : Int); omega)
          obtain ⟨Xe2_4, hXXe2_4⟩ : ∃ X, X = fixedS (y2.at 4).n 8 := ⟨_, rfl⟩
          have hhe2_5 : hasS fListOffsetsResponseTopicPartition_5 ver = false := hasS_f (by show ver < 4 ∨ (0 ≤ (-1 : Int) ∧ (-1 : Int) < ver); omega)
          have hPe2 : partS (d + 1) fs_ListOffsetsResponseTopicPartition ver false y2 = Xe2_0 ++ (Xe2_1 ++ (Xe2_3 ++ (Xe2_4 ++ []))) := partS_no (plainL_has (by decide) hhe2_0 ((fieldS_num 3 rfl (by decide)).trans hXXe2_0.symm) (plainL_has (by decide) hhe2_1 ((fieldS_num 2 rfl (by decide)).trans hXXe2_1.symm) (plainL_not hhe2_2 (plainL_has (by decide) hhe2_3 ((fieldS_num 4 rfl (by decide)).trans hXXe2_3.symm) (plainL_has (by decide) hhe2_4 ((fieldS_num 4 rfl (by decide)).trans hXXe2_4.symm) (plainL_not hhe2_5 rfl))))))
          rw [hPe2] at htl2
          simp only [List.length_append, List.length_nil] at htl2
          repeat ((first | refine W.seqR rfl ?_ | refine W.seq ?_ | refine W.regR rfl ?_ | refine W.condK ?_ | refine W.block ?_ | refine W.skip ?_ | refine W.ret ?_ | refine W.exit ?_); try simp (maxSteps := 1000000) (disch := (first | omega | (simp only [World.size_alloc, size_wr, size_drew] <;> omega) | exact not_noB _)) only [go_sem, ↓reduceIte, n0, reduceCtorEq, n1, n2, n3, n4, n5, i0, i1, i2, i3, i4, i5, i6, i7, hv_5, hx1_5, hx2_5, Int.toNat_natCast, Nat.mul_one, hq1_0, hq1_1, hq1_2, hq2_0, hq2_1, hq2_2, hq2_3, hq2_4, hq2_5, hq2_6, hr1_2, hr2_0, hr2_5, hr2_6, hr2_55, hr2_54, hr2_8, hr2_10, hI2, hN2, hS2])
          refine (AppendInt32_fn _ _ _ ha5.own hB5 _ (by simp only [List.length_append, List.length_nil]; omega)).mono ?_
          rintro r6 w6 hc6
          rw [wrap32, ← hXXe2_0] at hc6
          have ha6 := ha5.trans hc6
          have hB6 : B ≤ w6.heap.size := Nat.le_trans hB ha6.upd.size
          have hv_6 := ha6.upd.blk_some hv hdv
          have hx1_6 := ha6.upd.blk_some hx1 hnx1
          have hx2_6 := ha6.upd.blk_some hx2 hnx2
          repeat ((first | refine W.seqR rfl ?_ | refine W.seq ?_ | refine W.regR rfl ?_ | refine W.condK ?_ | refine W.block ?_ | refine W.skip ?_ | refine W.ret ?_ | refine W.exit ?_); try simp (maxSteps := 1000000) (disch := (first | omega | (simp only [World.size_alloc, size_wr, size_drew] <;> omega) | exact not_noB _)) only [go_sem, ↓reduceIte, n0, reduceCtorEq, n1, n2, n3, n4, n5, i0, i1, i2, i3, i4, i5, i6, i7, hv_6, hx1_6, hx2_6, Int.toNat_natCast, Nat.mul_one, hq1_0, hq1_1, hq1_2, hq2_0, hq2_1, hq2_2, hq2_3, hq2_4, hq2_5, hq2_6, hr1_2, hr2_0, hr2_5, hr2_6, hr2_55, hr2_54, hr2_8, hr2_10, hI2, hN2, hS2])
          refine (AppendInt16_fn _ _ _ ha6.own hB6 _ (by simp only [List.length_append, List.length_nil]; omega)).mono ?_
          rintro r7 w7 hc7
          rw [wrap16, ← hXXe2_1] at hc7
          have ha7 := ha6.trans hc7
          have hB7 : B ≤ w7.heap.size := Nat.le_trans hB ha7.upd.size
          have hv_7 := ha7.upd.blk_some hv hdv
          have hx1_7 := ha7.upd.blk_some hx1 hnx1
          have hx2_7 := ha7.upd.blk_some hx2 hnx2
          repeat ((first | refine W.seqR rfl ?_ | refine W.seq ?_ | refine W.regR rfl ?_ | refine W.condK ?_ | refine W.block ?_ | refine W.skip ?_ | refine W.ret ?_ | refine W.exit ?_); try simp (maxSteps := 1000000) (disch := (first | omega | (simp only [World.size_alloc, size_wr, size_drew] <;> omega) | exact not_noB _)) only [go_sem, ↓reduceIte, n0, reduceCtorEq, n1, n2, n3, n4, n5, i0, i1, i2, i3, i4, i5, i6, i7, hv_7, hx1_7, hx2_7, Int.toNat_natCast, Nat.mul_one, hq1_0, hq1_1, hq1_2, hq2_0, hq2_1, hq2_2, hq2_3, hq2_4, hq2_5, hq2_6, hr1_2, hr2_0, hr2_5, hr2_6, hr2_55, hr2_54, hr2_8, hr2_10, hI2, hN2, hS2])
          refine (AppendInt64_fn _ _ _ ha7.own hB7 _ (by simp only [List.length_append, List.length_nil]; omega)).mono ?_
          rintro r8 w8 hc8
          rw [← hXXe2_3] at hc8
          have ha8 := ha7.trans hc8
          have hB8 : B ≤ w8.heap.size := Nat.le_trans hB ha8.upd.size
          have hv_8 := ha8.upd.blk_some hv hdv
          have hx1_8 := ha8.upd.blk_some hx1 hnx1
          have hx2_8 := ha8.upd.blk_some hx2 hnx2
          repeat ((first | refine W.seqR rfl ?_ | refine W.seq ?_ | refine W.regR rfl ?_ | refine W.condK ?_ | refine W.block ?_ | refine W.skip ?_ | refine W.ret ?_ | refine W.exit ?_); try simp (maxSteps := 1000000) (disch := (first | omega | (simp only [World.size_alloc, size_wr, size_drew] <;> omega) | exact not_noB _)) only [go_sem, ↓reduceIte, n0, reduceCtorEq, n1, n2, n3, n4, n5, i0, i1, i2, i3, i4, i5, i6, i7, hv_8, hx1_8, hx2_8, Int.toNat_natCast, Nat.mul_one, hq1_0, hq1_1, hq1_2, hq2_0, hq2_1, hq2_2, hq2_3, hq2_4, hq2_5, hq2_6, hr1_2, hr2_0, hr2_5, hr2_6, hr2_55, hr2_54, hr2_8, hr2_10, hI2, hN2, hS2])
          refine (AppendInt64_fn _ _ _ ha8.own hB8 _ (by simp only [List.length_append, List.length_nil]; omega)).mono ?_
          rintro r9 w9 hc9
          rw [← hXXe2_4] at hc9
          have ha9 := ha8.trans hc9
          have hB9 : B ≤ w9.heap.size := Nat.le_trans hB ha9.upd.size
          have hv_9 := ha9.upd.blk_some hv hdv
          have hx1_9 := ha9.upd.blk_some hx1 hnx1
          have hx2_9 := ha9.upd.blk_some hx2 hnx2
          repeat ((first | refine W.seqR rfl ?_ | refine W.seq ?_ | refine W.regR rfl ?_ | refine W.condK ?_ | refine W.block ?_ | refine W.skip ?_ | refine W.ret ?_ | refine W.exit ?_); try simp (maxSteps := 1000000) (disch := (first | omega | (simp only [World.size_alloc, size_wr, size_drew] <;> omega) | exact not_noB _)) only [go_sem, ↓reduceIte, n0, reduceCtorEq, n1, n2, n3, n4, n5, i0, i1, i2, i3, i4, i5, i6, i7, hr1_2, hr2_0, hr2_5, hr2_6, hr2_55, hr2_54, hr2_8, hr2_10, hI2, hN2, hS2])
          refine ⟨⟨j2 + 1, _, by omega, rfl, rfl, ha9.eqs ?_⟩, ?_⟩
          · rw [hcat2, List.flatMap_append, List.flatMap_cons, List.flatMap_nil, List.append_nil, ← hTT2, hPe2]; simp only [List.append_assoc, List.append_nil, List.nil_append]
          · simp only [RowKit.intOf]; omega
        · have hjl2 : j2 = (y1.at 1).l.length := by omega
          subst hjl2
          rw [List.take_length, ← hXEe1_1] at ha5
          repeat ((first | refine W.seqR rfl ?_ | refine W.seq ?_ | refine W.regR rfl ?_ | refine W.condK ?_ | refine W.block ?_ | refine W.skip ?_ | refine W.ret ?_ | refine W.exit ?_); try simp (maxSteps := 1000000) (disch := (first | omega | (simp only [World.size_alloc, size_wr, size_drew] <;> omega) | exact not_noB _)) only [go_sem, ↓reduceIte, n0, reduceCtorEq, n1, n2, n3, n4, n5, i0, i1, i2, i3, i4, i5, i6, i7, hI2, hN2])
          exact ⟨_, hr1_2, hr2_0, hr2_5, hr2_6, hr2_55, hr2_54, hr2_8, hr2_10, ha5⟩
      · rintro ρ w10 ⟨r10, hr1_3, hr3_0, hr3_5, hr3_6, hr3_55, hr3_54, hr3_8, hr3_10, ha10⟩
        have hB10 : B ≤ w10.heap.size := Nat.le_trans hB ha10.upd.size
        have hv_10 := ha10.upd.blk_some hv hdv
        have hx1_10 := ha10.upd.blk_some hx1 hnx1
        repeat ((first | refine W.seqR rfl ?_ | refine W.seq ?_ | refine W.regR rfl ?_ | refine W.condK ?_ | refine W.block ?_ | refine W.skip ?_ | refine W.ret ?_ | refine W.exit ?_); try simp (maxSteps := 1000000) (disch := (first | omega | (simp only [World.size_alloc, size_wr, size_drew] <;> omega) | exact not_noB _)) only [go_sem, ↓reduceIte, n0, reduceCtorEq, n1, n2, n3, n4, n5, i0, i1, i2, i3, i4, i5, i6, i7, hr1_3, hr3_0, hr3_5, hr3_6, hr3_55, hr3_54, hr3_8, hr3_10])
        refine ⟨⟨j1 + 1, _, by omega, rfl, rfl, ha10.eqs ?_⟩, ?_⟩
        · rw [hcat1, List.flatMap_append, List.flatMap_cons, List.flatMap_nil, List.append_nil, ← hTT1, hPe1]; simp only [List.append_assoc, List.append_nil, List.nil_append]
        · simp only [RowKit.intOf]; omega
    · have hjl1 : j1 = (t.at 1).l.length := by omega
      subst hjl1
      rw [List.take_length, ← hXE_1] at ha2
      repeat ((first | refine W.seqR rfl ?_ | refine W.seq ?_ | refine W.regR rfl ?_ | refine W.condK ?_ | refine W.block ?_ | refine W.skip ?_ | refine W.ret ?_ | refine W.exit ?_); try simp (maxSteps := 1000000) (disch := (first | omega | (simp only [World.size_alloc, size_wr, size_drew] <;> omega) | exact not_noB _)) only [go_sem, ↓reduceIte, n0, reduceCtorEq, n1, n2, n3, n4, n5, i0, i1, i2, i3, i4, i5, i6, i7, hI1, hN1])
      exact ⟨_, hr1_1, hr1_0, hr1_5, hr1_6, ha2⟩
  · rintro ρ w11 ⟨r11, hr1_4, hr4_0, hr4_5, hr4_6, ha11⟩
    have hB11 : B ≤ w11.heap.size := Nat.le_trans hB ha11.upd.size
    have hv_11 := ha11.upd.blk_some hv hdv
    repeat ((first | refine W.seqR rfl ?_ | refine W.seq ?_ | refine W.regR rfl ?_ | refine W.condK ?_ | refine W.block ?_ | refine W.skip ?_ | refine W.ret ?_ | refine W.exit ?_); try simp (maxSteps := 1000000) (disch := (first | omega | (simp only [World.size_alloc, size_wr, size_drew] <;> omega) | exact not_noB _)) only [go_sem, ↓reduceIte, n0, reduceCtorEq, n1, n2, n3, n4, n5, i0, i1, i2, i3, i4, i5, i6, i7, hv_11, hr1_4, hr4_0, hr4_5, hr4_6])
    refine ha11.eqs ?_
    rw [hP]; simp only [List.append_assoc, List.append_nil, List.nil_append]
end Ms

namespace Ms
open Nat renaming reduceEqDiff → n0, reduceAdd → n1, reduceMul → n2, reduceSub → n3, reduceLT → n4, reduceLeDiff → n5
open Int renaming reduceEq → i0, reduceLT → i1, reduceLE → i2, reduceNeg → i3, reduceAdd → i4, reduceSub → i5, reduceMul → i6, reduceToNat → i7
set_option maxRecDepth 8000
open Go Go.Proofs Go.Shelf
attribute [local congr] W_congr WPsq_congr WPp_congr optK_congr addrK_congr intK_congr boolK_congr sliceK_congr tupleK_congr funcK_congr Fn_congr rawK_congr takeK_congr stepK_congr convK_congr aggK_congr

set_option maxHeartbeats 4000000 in
theorem appListOffsetsResponse_2 {d B : Nat} {okM : Blocks} {ver : Int} (hlo : 2 ≤ ver) (hhi : ver ≤ 3) (t : Tree) (cells : List Value) (v : Value) (s : List UInt8) (w : World) {vb : Nat} (ho : OwnBy 5 B w v s) (hB : B ≤ w.heap.size) (hvb : blk w vb = some ((.int .i16 ver :: cells).toArray, 104, (0, 0)))
    (hR : RepS true (d + 3) fs_ListOffsetsResponse okM w t cells) (hfit : FitP ver (d + 3) fs_ListOffsetsResponse t) (hd : ∀ b, b < w.heap.size → okM b → ¬ ownB v b) (hdv : ¬ ownB v vb) (hlen : s.length + (partS (d + 3) fs_ListOffsetsResponse ver false t).length ≤ 2 ^ 41) :
    Fn Try.prog 94 #[.pointer (some ⟨vb, 0, none⟩), v] w fun r w' => AppR 5 B w v s (partS (d + 3) fs_ListOffsetsResponse ver false t) r w' := by
  obtain ⟨⟨g_0, g_1, -⟩, hfu⟩ := hfit
  replace g_0 : FitF (FitP ver (d + 2)) ver fListOffsetsResponse_0 (t.at 0) := g_0
  replace g_1 : FitF (FitP ver (d + 2)) ver fListOffsetsResponse_1 (t.at 1) := g_1
  obtain ⟨cs, q, hcs, hL, hT⟩ := hR.inv
  obtain ⟨c_0, e_0, rfl, h_0, c_1, e_1, rfl, h_1, rfl⟩ := hL
  replace h_0 : RepF (RepS true (d + 2)) (szS true (d + 2)) fListOffsetsResponse_0 okM w (t.at 0) c_0 := h_0
  replace h_1 : RepF (RepS true (d + 2)) (szS true (d + 2)) fListOffsetsResponse_1 okM w (t.at 1) c_1 := h_1
  obtain rfl := (RepF_num (by decide)).1 h_0
  have hn_1 := g_1.notnull (by decide)
  obtain ⟨p_1, rfl, hs_1, -⟩ := (RepF_list rfl hn_1).1 h_1
  obtain ⟨ab_1, ac_1, rfl, _⟩ := SlR.shape hs_1
  have hll_1 := (g_1.list rfl).1
  obtain ⟨qm, rfl⟩ := hT.shape
  have hv : blk w vb = some (#[.int .i16 ver, .int .i32 (IntKind.i32.wrap (t.at 0).n), .slice ab_1 (t.at 1).l.length ac_1, .map qm], 104, (0, 0)) := by rw [hvb, hcs]; rfl
  clear hvb hcs
  have hh_0 : hasS fListOffsetsResponse_0 ver = true := hasS_t (by show (2 : Int) ≤ ver; omega) (by show (-1 : Int) < 0 ∨ ver ≤ (-1 : Int); omega)
  obtain ⟨X_0, hXX_0⟩ : ∃ X, X = fixedS (t.at 0).n 4 := ⟨_, rfl⟩
  have hh_1 : hasS fListOffsetsResponse_1 ver = true := hasS_t (by show (0 : Int) ≤ ver; omega) (by show (-1 : Int) < 0 ∨ ver ≤ (-1 : Int); omega)
  obtain ⟨XL_1, hXL_1⟩ : ∃ X, X = fixedS (t.at 1).l.length 4 := ⟨_, rfl⟩
  obtain ⟨XE_1, hXE_1⟩ : ∃ X, X = (t.at 1).l.flatMap (fun x => partS (d + 2) fs_ListOffsetsResponseTopic ver false x) := ⟨_, rfl⟩
  have hP : partS (d + 3) fs_ListOffsetsResponse ver false t = X_0 ++ ((XL_1 ++ XE_1) ++ []) := partS_no (plainL_has (by decide) hh_0 ((fieldS_num 3 rfl (by decide)).trans hXX_0.symm) (plainL_has (by decide) hh_1 ((fieldS_list_f (g := (fun x => partS (d + 2) fs_ListOffsetsResponseTopic ver false x)) g_1 rfl (by decide) (fun x _ => valueS_part)).trans (by rw [hXL_1, hXE_1])) rfl))
  rw [hP] at hlen
  simp only [List.length_append, List.length_nil] at hlen
  have hdK : ∀ {r : Value} {w' : World} {add : List UInt8}, AppR 5 B w v s add r w' → ∀ b, b < w'.heap.size → OkS okM w.heap.size b → ¬ ownB r b := fun h b _ hk ho => (h.frame b ho).elim (hd b hk.2 hk.1) (fun h => by have := hk.2; omega)
  have ownK : ∀ {r : Value} {w' : World} {add : List UInt8} {b : Nat}, AppR 5 B w v s add r w' → b < w.heap.size → ¬ ownB v b → ¬ ownB r b := fun h hb hn ho => (h.frame _ ho).elim hn (fun h => by omega)
  have ha0 : AppR 5 B w v s [] v w := AppR.refl ho
  obtain ⟨w0, hw0⟩ : ∃ w0, w0 = w := ⟨_, rfl⟩
  have hB0 := hB
  have hv_0 := hv
  refine fn_of_W Try.func94 rfl Try.results94 Try.ntmps94 rfl ?_
  repeat ((first | refine W.seqR rfl ?_ | refine W.seq ?_ | refine W.regR rfl ?_ | refine W.condK ?_ | refine W.block ?_ | refine W.skip ?_ | refine W.ret ?_ | refine W.exit ?_); try simp (maxSteps := 1000000) (disch := (first | omega | (simp only [World.size_alloc, size_wr, size_drew] <;> omega) | exact not_noB _)) only [go_sem, ↓reduceIte, n0, reduceCtorEq, n1, n2, n3, n4, n5, i0, i1, i2, i3, i4, i5, i6, i7, hv_0])
  refine (AppendInt32_fn _ _ _ ha0.own hB0 _ (by simp only [List.length_append, List.length_nil]; omega)).mono ?_
  rintro r1 w1 hc1
  rw [wrap32, ← hXX_0] at hc1
  have ha1 := ha0.trans hc1
  have hB1 : B ≤ w1.heap.size := Nat.le_trans hB ha1.upd.size
  have hv_1 := ha1.upd.blk_some hv hdv
  repeat ((first | refine W.seqR rfl ?_ | refine W.seq ?_ | refine W.regR rfl ?_ | refine W.condK ?_ | refine W.block ?_ | refine W.skip ?_ | refine W.ret ?_ | refine W.exit ?_); try simp (maxSteps := 1000000) (disch := (first | omega | (simp only [World.size_alloc, size_wr, size_drew] <;> omega) | exact not_noB _)) only [go_sem, ↓reduceIte, n0, reduceCtorEq, n1, n2, n3, n4, n5, i0, i1, i2, i3, i4, i5, i6, i7, hv_1])
  refine (AppendArrayLen_fn _ _ _ ha1.own hB1 (t.at 1).l.length hll_1 (by simp only [List.length_append, List.length_nil]; omega)).mono ?_
  rintro r2 w2 hc2
  rw [← hXL_1] at hc2
  have ha2 := ha1.trans hc2
  have hB2 : B ≤ w2.heap.size := Nat.le_trans hB ha2.upd.size
  have hv_2 := ha2.upd.blk_some hv hdv
  repeat ((first | refine W.seqR rfl ?_ | refine W.seq ?_ | refine W.regR rfl ?_ | refine W.condK ?_ | refine W.block ?_ | refine W.skip ?_ | refine W.ret ?_ | refine W.exit ?_); try simp (maxSteps := 1000000) (disch := (first | omega | (simp only [World.size_alloc, size_wr, size_drew] <;> omega) | exact not_noB _)) only [go_sem, ↓reduceIte, n0, reduceCtorEq, n1, n2, n3, n4, n5, i0, i1, i2, i3, i4, i5, i6, i7, hv_2])
  have hadd1 := ha2
  refine W.exitJ 0 (fun ρ w' => ∃ r, ρ 1 = r ∧ ρ 0 = .pointer (some ⟨vb, 0, none⟩) ∧ ρ 5 = .int .i16 ver ∧ ρ 6 = .bool false ∧ AppR 5 B w v s (([] ++ X_0 ++ XL_1) ++ XE_1) r w')
    (W.loop (fun ρ w' => ∃ (j : Nat) (r : Value), j ≤ (t.at 1).l.length ∧ ρ 55 = .int .i64 j ∧ ρ 54 = .int .i64 (t.at 1).l.length ∧ ρ 8 = .slice ab_1 (t.at 1).l.length ac_1 ∧ ρ 1 = r ∧ ρ 0 = .pointer (some ⟨vb, 0, none⟩) ∧ ρ 5 = .int .i16 ver ∧ ρ 6 = .bool false ∧ AppR 5 B w v s (([] ++ X_0 ++ XL_1) ++ ((t.at 1).l.take j).flatMap (fun x => partS (d + 2) fs_ListOffsetsResponseTopic ver false x)) r w')
      (fun ρ _ => (t.at 1).l.length - (RowKit.intOf (ρ 55)).toNat) ?_ ?_) ?_
  · refine ⟨0, _, Nat.zero_le _, ?_, ?_, ?_, ?_, ?_, ?_, ?_, ha2.eqs (by rw [List.take_zero, List.flatMap_nil, List.append_nil])⟩ <;> simp (maxSteps := 1000000) (disch := (first | omega | (simp only [World.size_alloc, size_wr, size_drew] <;> omega) | exact not_noB _)) only [go_sem, ↓reduceIte, n0, reduceCtorEq, n1, n2, n3, n4, n5, i0, i1, i2, i3, i4, i5, i6, i7]
    all_goals rfl
  · rintro ρ w3 ⟨j1, r3, hj1, hI1, hN1, hS1, hr1_1, hr1_0, hr1_5, hr1_6, ha3⟩
    have hB3 : B ≤ w3.heap.size := Nat.le_trans hB ha3.upd.size
    have hv_3 := ha3.upd.blk_some hv hdv
    by_cases hlt1 : j1 < (t.at 1).l.length
    · obtain ⟨_, b1, o1, x1, ce1, hb1, hok1, hx1, hbl1, hxs1, hxe1, hq1, hRe1⟩ := SlR.get (size := 3) (by decide) hs_1 hlt1
      subst hb1
      have hcat1 : (t.at 1).l.take (j1 + 1) = (t.at 1).l.take j1 ++ [(t.at 1).l[j1]] := List.take_succ_eq_append_getElem hlt1
      have htl1 := take_flatMap_len (t.at 1).l (fun x => partS (d + 2) fs_ListOffsetsResponseTopic ver false x) (j1 + 1)
      rw [← hXE_1, hcat1, List.flatMap_append, List.flatMap_cons, List.flatMap_nil, List.append_nil] at htl1
      have hge1 := (g_1.list rfl).2 _ (List.getElem_mem hlt1)
      generalize (t.at 1).l[j1] = y1 at *
      have hnx1 := hd b1 hbl1 hok1
      obtain ⟨T1, hTT1⟩ : ∃ T, T = ((t.at 1).l.take j1).flatMap (fun x => partS (d + 2) fs_ListOffsetsResponseTopic ver false x) := ⟨_, rfl⟩
      rw [← hTT1] at ha3 htl1
      have hx1_3 := ha3.upd.blk_some hx1 hnx1
      replace hRe1 : RepS true (d + 2) fs_ListOffsetsResponseTopic okM w y1 ce1 := Rep1_part.1 hRe1
      have hfe1 : FitP ver (d + 2) fs_ListOffsetsResponseTopic y1 := hge1.2.2 rfl
      obtain ⟨⟨ge1_0, ge1_1, -⟩, hfue1⟩ := hfe1
      replace ge1_0 : FitF (FitP ver (d + 1)) ver fListOffsetsResponseTopic_0 (y1.at 0) := ge1_0
      replace ge1_1 : FitF (FitP ver (d + 1)) ver fListOffsetsResponseTopic_1 (y1.at 1) := ge1_1
      obtain ⟨cse1, qe1, hcse1, hLe1, hTe1⟩ := hRe1.inv
      obtain ⟨ce1_0, ee1_0, rfl, he1_0, ce1_1, ee1_1, rfl, he1_1, rfl⟩ := hLe1
      replace he1_0 : RepF (RepS true (d + 1)) (szS true (d + 1)) fListOffsetsResponseTopic_0 okM w (y1.at 0) ce1_0 := he1_0
      replace he1_1 : RepF (RepS true (d + 1)) (szS true (d + 1)) fListOffsetsResponseTopic_1 okM w (y1.at 1) ce1_1 := he1_1
      obtain rfl := (RepF_text rfl (by decide)).1 he1_0
      have hne1_1 := ge1_1.notnull (by decide)
      obtain ⟨pe1_1, rfl, hse1_1, -⟩ := (RepF_list rfl hne1_1).1 he1_1
      obtain ⟨abe1_1, ace1_1, rfl, _⟩ := SlR.shape hse1_1
      have hlle1_1 := (ge1_1.list rfl).1
      obtain ⟨qme1, rfl⟩ := hTe1.shape
      subst hcse1
      have hq1_0 : x1.1[o1 + j1 * 3]? = some (strV (y1.at 0).s) := hq1 0 (by decide)
      have hq1_1 : x1.1[o1 + (j1 * 3 + 1)]? = some (.slice abe1_1 (y1.at 1).l.length ace1_1) := hq1 1 (by decide)
      have hq1_2 : x1.1[o1 + (j1 * 3 + 2)]? = some (.map qme1) := hq1 2 (by decide)
      have hhe1_0 : hasS fListOffsetsResponseTopic_0 ver = true := hasS_t (by show (0 : Int) ≤ ver; omega) (by show (-1 : Int) < 0 ∨ ver ≤ (-1 : Int); omega)
      obtain ⟨Xe1_0, hXXe1_0⟩ : ∃ X, X = fixedS (y1.at 0).s.length 2 ++ (y1.at 0).s := ⟨_, rfl⟩
      have hhe1_1 : hasS fListOffsetsResponseTopic_1 ver = true := hasS_t (by show (0 : Int) ≤ ver; omega) (by show (-1 : Int) < 0 ∨ ver ≤ (-1 : Int); omega)
      obtain ⟨XLe1_1, hXLe1_1⟩ : ∃ X, X = fixedS (y1.at 1).l.length 4 := ⟨_, rfl⟩
      obtain ⟨XEe1_1, hXEe1_1⟩ : ∃ X, X = (y1.at 1).l.flatMap (fun x => partS (d + 1) fs_ListOffsetsResponseTopicPartition ver false x) := ⟨_, rfl⟩
      have hPe1 : partS (d + 2) fs_ListOffsetsResponseTopic ver false y1 = Xe1_0 ++ ((XLe1_1 ++ XEe1_1) ++ []) := partS_no (plainL_has (by decide) hhe1_0 ((fieldS_text_f ge1_0 rfl (by decide)).trans hXXe1_0.symm) (plainL_has (by decide) hhe1_1 ((fieldS_list_f (g := (fun x => partS (d + 1) fs_ListOffsetsResponseTopicPartition ver false x)) ge1_1 rfl (by decide) (fun x _ => valueS_part)).trans (by rw [hXLe1_1, hXEe1_1])) rfl))
      rw [hPe1] at htl1
      simp only [List.length_append, List.length_nil] at htl1
      repeat ((first | refine W.seqR rfl ?_ | refine W.seq ?_ | refine W.regR rfl ?_ | refine W.condK ?_ | refine W.block ?_ | refine W.skip ?_ | refine W.ret ?_ | refine W.exit ?_); try simp (maxSteps := 1000000) (disch := (first | omega | (simp only [World.size_alloc, size_wr, size_drew] <;> omega) | exact not_noB _)) only [go_sem, ↓reduceIte, n0, reduceCtorEq, n1, n2, n3, n4, n5, i0, i1, i2, i3, i4, i5, i6, i7, hv_3, hx1_3, Int.toNat_natCast, Nat.mul_one, hq1_0, hq1_1, hq1_2, hr1_1, hr1_0, hr1_5, hr1_6, hI1, hN1, hS1])
      refine (AppendString_fn _ _ _ ha3.own hB3 (y1.at 0).s (ge1_0.text (.inl rfl)) (by simp only [List.length_append, List.length_nil]; omega)).mono ?_
      rintro r4 w4 hc4
      rw [← hXXe1_0] at hc4
      have ha4 := ha3.trans hc4
      have hB4 : B ≤ w4.heap.size := Nat.le_trans hB ha4.upd.size
      have hv_4 := ha4.upd.blk_some hv hdv
      have hx1_4 := ha4.upd.blk_some hx1 hnx1
      repeat ((first | refine W.seqR rfl ?_ | refine W.seq ?_ | refine W.regR rfl ?_ | refine W.condK ?_ | refine W.block ?_ | refine W.skip ?_ | refine W.ret ?_ | refine W.exit ?_); try simp (maxSteps := 1000000) (disch := (first | omega | (simp only [World.size_alloc, size_wr, size_drew] <;> omega) | exact not_noB _)) only [go_sem, ↓reduceIte, n0, reduceCtorEq, n1, n2, n3, n4, n5, i0, i1, i2, i3, i4, i5, i6, i7, hv_4, hx1_4, Int.toNat_natCast, Nat.mul_one, hq1_0, hq1_1, hq1_2, hr1_1, hr1_0, hr1_5, hr1_6, hI1, hN1, hS1])
      refine (AppendArrayLen_fn _ _ _ ha4.own hB4 (y1.at 1).l.length hlle1_1 (by simp only [List.length_append, List.length_nil]; omega)).mono ?_
      rintro r5 w5 hc5
      rw [← hXLe1_1] at hc5
      have ha5 := ha4.trans hc5
      have hB5 : B ≤ w5.heap.size := Nat.le_trans hB ha5.upd.size
      have hv_5 := ha5.upd.blk_some hv hdv
      have hx1_5 := ha5.upd.blk_some hx1 hnx1
      repeat ((first | refine W.seqR rfl ?_ | refine W.seq ?_ | refine W.regR rfl ?_ | refine W.condK ?_ | refine W.block ?_ | refine W.skip ?_ | refine W.ret ?_ | refine W.exit ?_); try simp (maxSteps := 1000000) (disch := (first | omega | (simp only [World.size_alloc, size_wr, size_drew] <;> omega) | exact not_noB _)) only [go_sem, ↓reduceIte, n0, reduceCtorEq, n1, n2, n3, n4, n5, i0, i1, i2, i3, i4, i5, i6, i7, hv_5, hx1_5, Int.toNat_natCast, Nat.mul_one, hq1_0, hq1_1, hq1_2, hr1_1, hr1_0, hr1_5, hr1_6, hI1, hN1, hS1])
      have hadd2 := ha5
      refine W.exitJ 2 (fun ρ w' => ∃ r, ρ 1 = r ∧ ρ 0 = .pointer (some ⟨vb, 0, none⟩) ∧ ρ 5 = .int .i16 ver ∧ ρ 6 = .bool false ∧ ρ 55 = .int .i64 j1 ∧ ρ 54 = .int .i64 (t.at 1).l.length ∧ ρ 8 = .slice (some ⟨b1, o1, none⟩) (t.at 1).l.length ac_1 ∧ ρ 10 = .pointer (some ⟨b1, o1 + j1 * 3, none⟩) ∧ AppR 5 B w v s (([] ++ X_0 ++ XL_1 ++ T1 ++ Xe1_0 ++ XLe1_1) ++ XEe1_1) r w')
        (W.loop (fun ρ w' => ∃ (j : Nat) (r : Value), j ≤ (y1.at 1).l.length ∧ ρ 87 = .int .i64 j ∧ ρ 86 = .int .i64 (y1.at 1).l.length ∧ ρ 12 = .slice abe1_1 (y1.at 1).l.length ace1_1 ∧ ρ 1 = r ∧ ρ 0 = .pointer (some ⟨vb, 0, none⟩) ∧ ρ 5 = .int .i16 ver ∧ ρ 6 = .bool false ∧ ρ 55 = .int .i64 j1 ∧ ρ 54 = .int .i64 (t.at 1).l.length ∧ ρ 8 = .slice (some ⟨b1, o1, none⟩) (t.at 1).l.length ac_1 ∧ ρ 10 = .pointer (some ⟨b1, o1 + j1 * 3, none⟩) ∧ AppR 5 B w v s (([] ++ X_0 ++ XL_1 ++ T1 ++ Xe1_0 ++ XLe1_1) ++ ((y1.at 1).l.take j).flatMap (fun x => partS (d + 1) fs_ListOffsetsResponseTopicPartition ver false x)) r w')
          (fun ρ _ => (y1.at 1).l.length - (RowKit.intOf (ρ 87)).toNat) ?_ ?_) ?_
      · refine ⟨0, _, Nat.zero_le _, ?_, ?_, ?_, ?_, ?_, ?_, ?_, ?_, ?_, ?_, ?_, ha5.eqs (by rw [List.take_zero, List.flatMap_nil, List.append_nil])⟩ <;> simp (maxSteps := 1000000) (disch := (first | omega | (simp only [World.size_alloc, size_wr, size_drew] <;> omega) | exact not_noB _)) only [go_sem, ↓reduceIte, n0, reduceCtorEq, n1, n2, n3, n4, n5, i0, i1, i2, i3, i4, i5, i6, i7, hr1_1, hr1_0, hr1_5, hr1_6, hI1, hN1, hS1]
        all_goals rfl
      · rintro ρ w6 ⟨j2, r6, hj2, hI2, hN2, hS2, hr1_2, hr2_0, hr2_5, hr2_6, hr2_55, hr2_54, hr2_8, hr2_10, ha6⟩
        have hB6 : B ≤ w6.heap.size := Nat.le_trans hB ha6.upd.size
        have hv_6 := ha6.upd.blk_some hv hdv
        have hx1_6 := ha6.upd.blk_some hx1 hnx1
        by_cases hlt2 : j2 < (y1.at 1).l.length
        · obtain ⟨_, b2, o2, x2, ce2, hb2, hok2, hx2, hbl2, hxs2, hxe2, hq2, hRe2⟩ := SlR.get (size := 7) (by decide) hse1_1 hlt2
          subst hb2
          have hcat2 : (y1.at 1).l.take (j2 + 1) = (y1.at 1).l.take j2 ++ [(y1.at 1).l[j2]] := List.take_succ_eq_append_getElem hlt2
          have htl2 := take_flatMap_len (y1.at 1).l (fun x => partS (d + 1) fs_ListOffsetsResponseTopicPartition ver false x) (j2 + 1)
          rw [← hXEe1_1, hcat2, List.flatMap_append, List.flatMap_cons, List.flatMap_nil, List.append_nil] at htl2
          have hge2 := (ge1_1.list rfl).2 _ (List.getElem_mem hlt2)
          generalize (y1.at 1).l[j2] = y2 at *
          have hnx2 := hd b2 hbl2 hok2
          obtain ⟨T2, hTT2⟩ : ∃ T, T = ((y1.at 1).l.take j2).flatMap (fun x => partS (d + 1) fs_ListOffsetsResponseTopicPartition ver false x) := ⟨_, rfl⟩
          rw [← hTT2] at ha6 htl2
          have hx2_6 := ha6.upd.blk_some hx2 hnx2
          replace hRe2 : RepS true (d + 1) fs_ListOffsetsResponseTopicPartition okM w y2 ce2 := Rep1_part.1 hRe2
          have hfe2 : FitP ver (d + 1) fs_ListOffsetsResponseTopicPartition y2 := hge2.2.2 rfl
          obtain ⟨⟨ge2_0, ge2_1, ge2_2, ge2_3, ge2_4, ge2_5, -⟩, hfue2⟩ := hfe2
          replace ge2_0 : FitF (FitP ver d) ver fListOffsetsResponseTopicPartition_0 (y2.at 0) := ge2_0
          replace ge2_1 : FitF (FitP ver d) ver fListOffsetsResponseTopicPartition_1 (y2.at 1) := ge2_1
          replace ge2_2 : FitF (FitP ver d) ver fListOffsetsResponseTopicPartition_2 (y2.at 2) := ge2_2
          replace ge2_3 : FitF (FitP ver d) ver fListOffsetsResponseTopicPartition_3 (y2.at 3) := ge2_3
          replace ge2_4 : FitF (FitP ver d) ver fListOffsetsResponseTopicPartition_4 (y2.at 4) := ge2_4
          replace ge2_5 : FitF (FitP ver d) ver fListOffsetsResponseTopicPartition_5 (y2.at 5) := ge2_5
          obtain ⟨cse2, qe2, hcse2, hLe2, hTe2⟩ := hRe2.inv
          obtain ⟨ce2_0, ee2_0, rfl, he2_0, ce2_1, ee2_1, rfl, he2_1, ce2_2, ee2_2, rfl, he2_2, ce2_3, ee2_3, rfl, he2_3, ce2_4, ee2_4, rfl, he2_4, ce2_5, ee2_5, rfl, he2_5, rfl⟩ := hLe2
          replace he2_0 : RepF (RepS true d) (szS true d) fListOffsetsResponseTopicPartition_0 okM w (y2.at 0) ce2_0 := he2_0
          replace he2_1 : RepF (RepS true d) (szS true d) fListOffsetsResponseTopicPartition_1 okM w (y2.at 1) ce2_1 := he2_1
          replace he2_2 : RepF (RepS true d) (szS true d) fListOffsetsResponseTopicPartition_2 okM w (y2.at 2) ce2_2 := he2_2
          replace he2_3 : RepF (RepS true d) (szS true d) fListOffsetsResponseTopicPartition_3 okM w (y2.at 3) ce2_3 := he2_3
          replace he2_4 : RepF (RepS true d) (szS true d) fListOffsetsResponseTopicPartition_4 okM w (y2.at 4) ce2_4 := he2_4
          replace he2_5 : RepF (RepS true d) (szS true d) fListOffsetsResponseTopicPartition_5 okM w (y2.at 5) ce2_5 := he2_5
          obtain rfl := (RepF_num (by decide)).1 he2_0
          obtain rfl := (RepF_num (by decide)).1 he2_1
          have hne2_2 := ge2_2.notnull (by decide)
          obtain ⟨pe2_2, rfl, hse2_2, -⟩ := (RepF_list rfl hne2_2).1 he2_2
          obtain ⟨abe2_2, ace2_2, rfl, _⟩ := SlR.shape hse2_2
          have hlle2_2 := (ge2_2.list rfl).1
          obtain rfl := (RepF_num (by decide)).1 he2_3
          obtain rfl := (RepF_num (by decide)).1 he2_4
          obtain rfl := (RepF_num (by decide)).1 he2_5
          obtain ⟨qme2, rfl⟩ := hTe2.shape
          subst hcse2
          have hq2_0 : x2.1[o2 + j2 * 7]? = some (.int .i32 (IntKind.i32.wrap (y2.at 0).n)) := hq2 0 (by decide)
          have hq2_1 : x2.1[o2 + (j2 * 7 + 1)]? = some (.int .i16 (IntKind.i16.wrap (y2.at 1).n)) := hq2 1 (by decide)
          have hq2_2 : x2.1[o2 + (j2 * 7 + 2)]? = some (.slice abe2_2 (y2.at 2).l.length ace2_2) := hq2 2 (by decide)
          have hq2_3 : x2.1[o2 + (j2 * 7 + 3)]? = some (.int .i64 (y2.at 3).n) := hq2 3 (by decide)
          have hq2_4 : x2.1[o2 + (j2 * 7 + 4)]? = some (.int .i64 (y2.at 4).n) := hq2 4 (by decide)
          have hq2_5 : x2.1[o2 + (j2 * 7 + 5)]? = some (.int .i32 (IntKind.i32.wrap (y2.at 5).n)) := hq2 5 (by decide)
          have hq2_6 : x2.1[o2 + (j2 * 7 + 6)]? = some (.map qme2) := hq2 6 (by decide)
          have hhe2_0 : hasS fListOffsetsResponseTopicPartition_0 ver = true := hasS_t (by show (0 : Int) ≤ ver; omega) (by show (-1 : Int) < 0 ∨ ver ≤ (-1 : Int); omega)
          obtain ⟨Xe2_0, hXXe2_0⟩ : ∃ X, X = fixedS (y2.at 0).n 4 := ⟨_, rfl⟩
          have hhe2_1 : hasS fListOffsetsResponseTopicPartition_1 ver = true := hasS_t (by show (0 : Int) ≤ ver; omega) (by show (-1 : Int) < 0 ∨ ver ≤ (-1 : Int); omega)
          obtain ⟨Xe2_1, hXXe2_1⟩ : ∃ X, X = fixedS (y2.at 1).n 2 := ⟨_, rfl⟩
          have hhe2_2 : hasS fListOffsetsResponseTopicPartition_2 ver = false := hasS_f (by show ver < 0 ∨ (0 ≤ (0 : Int) ∧ (0 : Int) < ver); omega)
          have hhe2_3 : hasS fListOffsetsResponseTopicPartition_3 ver = true := hasS_t (by show (1 : Int) ≤ ver; omega) (by show (-1 : Int) < 0 ∨ ver ≤ (-1 : Int); omega)
          obtain ⟨Xe2_3, hXXe2_3⟩ : ∃ X, X = fixedS (y2.at 3).n 8 := ⟨_, rfl⟩
          have hhe2_4 : hasS fListOffsetsResponseTopicPartition_4 ver = true := hasS_t (by show (1 : Int) ≤ ver; omega) (by show (-1 : Int) < 0 ∨ ver ≤ (-1 : Int); omega)
          obtain ⟨Xe2_4, hXXe2_4⟩ : ∃ X, X = fixedS (y2.at 4).n 8 := ⟨_, rfl⟩
          have hhe2_5 : hasS fListOffsetsResponseTopicPartition_5 ver = false := hasS_f (by show ver < 4 ∨ (0 ≤ (-1 : Int) ∧ (-1 : Int) < ver); omega)
          have hPe2 : partS (d + 1) fs_ListOffsetsResponseTopicPartition ver false y2 = Xe2_0 ++ (Xe2_1 ++ (Xe2_3 ++ (Xe2_4 ++ []))) := partS_no (plainL_has (by decide) hhe2_0 ((fieldS_num 3 rfl (by decide)).trans hXXe2_0.symm) (plainL_has (by decide) hhe2_1 ((fieldS_num 2 rfl (by decide)).trans hXXe2_1.symm) (plainL_not hhe2_2 (plainL_has (by decide) hhe2_3 ((fieldS_num 4 rfl (by decide)).trans hXXe2_3.symm) (plainL_has (by decide) hhe2_4 ((fieldS_num 4 rfl (by decide)).trans hXXe2_4.symm) (plainL_not hhe2_5 rfl))))))
          rw [hPe2] at htl2
          simp only [List.length_append, List.length_nil] at htl2
          repeat ((first | refine W.seqR rfl ?_ | refine W.seq ?_ | refine W.regR rfl ?_ | refine W.condK ?_ | refine W.block ?_ | refine W.skip ?_ | refine W.ret ?_ | refine W.exit ?_); try simp (maxSteps := 1000000) (disch := (first | omega | (simp only [World.size_alloc, size_wr, size_drew] <;> omega) | exact not_noB _)) only [go_sem, ↓reduceIte, n0, reduceCtorEq, n1, n2, n3, n4, n5, i0, i1, i2, i3, i4, i5, i6, i7, hv_6, hx1_6, hx2_6, Int.toNat_natCast, Nat.mul_one, hq1_0, hq1_1, hq1_2, hq2_0, hq2_1, hq2_2, hq2_3, hq2_4, hq2_5, hq2_6, hr1_2, hr2_0, hr2_5, hr2_6, hr2_55, hr2_54, hr2_8, hr2_10, hI2, hN2, hS2])
          refine (AppendInt32_fn _ _ _ ha6.own hB6 _ (by simp only [List.length_append, List.length_nil]; omega)).mono ?_
          rintro r7 w7 hc7
          rw [wrap32, ← hXXe2_0] at hc7
          have ha7 := ha6.trans hc7
          have hB7 : B ≤ w7.heap.size := Nat.le_trans hB ha7.upd.size
          have hv_7 := ha7.upd.blk_some hv hdv
          have hx1_7 := ha7.upd.blk_some hx1 hnx1
          have hx2_7 := ha7.upd.blk_some hx2 hnx2
          repeat ((first | refine W.seqR rfl ?_ | refine W.seq ?_ | refine W.regR rfl ?_ | refine W.condK ?_ | refine W.block ?_ | refine W.skip ?_ | refine W.ret ?_ | refine W.exit ?_); try simp (maxSteps := 1000000) (disch := (first | omega | (simp only [World.size_alloc, size_wr, size_drew] <;> omega) | exact not_noB _)) only [go_sem, ↓reduceIte, n0, reduceCtorEq, n1, n2, n3, n4, n5, i0, i1, i2, i3, i4, i5, i6, i7, hv_7, hx1_7, hx2_7, Int.toNat_natCast, Nat.mul_one, hq1_0, hq1_1, hq1_2, hq2_0, hq2_1, hq2_2, hq2_3, hq2_4, hq2_5, hq2_6, hr1_2, hr2_0, hr2_5, hr2_6, hr2_55, hr2_54, hr2_8, hr2_10, hI2, hN2, hS2])
          refine (AppendInt16_fn _ _ _ ha7.own hB7 _ (by simp only [List.length_append, List.length_nil]; omega)).mono ?_
          rintro r8 w8 hc8
          rw [wrap16, ← hXXe2_1] at hc8
          have ha8 := ha7.trans hc8
          have hB8 : B ≤ w8.heap.size := Nat.le_trans hB ha8.upd.size
          have hv_8 := ha8.upd.blk_some hv hdv
          have hx1_8 := ha8.upd.blk_some hx1 hnx1
          have hx2_8 := ha8.upd.blk_some hx2 hnx2
          repeat ((first | refine W.seqR rfl ?_ | refine W.seq ?_ | refine W.regR rfl ?_ | refine W.condK ?_ | refine W.block ?_ | refine W.skip ?_ | refine W.ret ?_ | refine W.exit ?_); try simp (maxSteps := 1000000) (disch := (first | omega | (simp only [World.size_alloc, size_wr, size_drew] <;> omega) | exact not_noB _)) only [go_sem, ↓reduceIte, n0, reduceCtorEq, n1, n2, n3, n4, n5, i0, i1, i2, i3, i4, i5, i6, i7, hv_8, hx1_8, hx2_8, Int.toNat_natCast, Nat.mul_one, hq1_0, hq1_1, hq1_2, hq2_0, hq2_1, hq2_2, hq2_3, hq2_4, hq2_5, hq2_6, hr1_2, hr2_0, hr2_5, hr2_6, hr2_55, hr2_54, hr2_8, hr2_10, hI2, hN2, hS2])
          refine (AppendInt64_fn _ _ _ ha8.own hB8 _ (by simp only [List.length_append, List.length_nil]; omega)).mono ?_
          rintro r9 w9 hc9
          rw [← hXXe2_3] at hc9
          have ha9 := ha8.trans hc9
          have hB9 : B ≤ w9.heap.size := Nat.le_trans hB ha9.upd.size
          have hv_9 := ha9.upd.blk_some hv hdv
          have hx1_9 := ha9.upd.blk_some hx1 hnx1
          have hx2_9 := ha9.upd.blk_some hx2 hnx2
          repeat ((first | refine W.seqR rfl ?_ | refine W.seq ?_ | refine W.regR rfl ?_ | refine W.condK ?_ | refine W.block ?_ | refine W.skip ?_ | refine W.ret ?_ | refine W.exit ?_); try simp (maxSteps := 1000000) (disch := (first | omega | (simp only [World.size_alloc, size_wr, size_drew] <;> omega) | exact not_noB _)) only [go_sem, ↓reduceIte, n0, reduceCtorEq, n1, n2, n3, n4, n5, i0, i1, i2, i3, i4, i5, i6, i7, hv_9, hx1_9, hx2_9, Int.toNat_natCast, Nat.mul_one, hq1_0, hq1_1, hq1_2, hq2_0, hq2_1, hq2_2, hq2_3, hq2_4, hq2_5, hq2_6, hr1_2, hr2_0, hr2_5, hr2_6, hr2_55, hr2_54, hr2_8, hr2_10, hI2, hN2, hS2])
          refine (AppendInt64_fn _ _ _ ha9.own hB9 _ (by simp only [List.length_append, List.length_nil]; omega)).mono ?_
          rintro r10 w10 hc10
          rw [← hXXe2_4] at hc10
          have ha10 := ha9.trans hc10
          have hB10 : B ≤ w10.heap.size := Nat.le_trans hB ha10.upd.size
          have hv_10 := ha10.upd.blk_some hv hdv
          have hx1_10 := ha10.upd.blk_some hx1 hnx1
          have hx2_10 := ha10.upd.blk_some hx2 hnx2
          repeat ((first | refine W.seqR rfl ?_ | refine W.seq ?_ | refine W.regR rfl ?_ | refine W.condK ?_ | refine W.block ?_ | refine W.skip ?_ | refine W.ret ?_ | refine W.exit ?_); try simp (maxSteps := 1000000) (disch := (first | omega | (simp only [World.size_alloc, size_wr, size_drew] <;> omega) | exact not_noB _)) only [go_sem, ↓reduceIte, n0, reduceCtorEq, n1, n2, n3, n4, n5, i0, i1, i2, i3, i4, i5, i6, i7, hr1_2, hr2_0, hr2_5, hr2_6, hr2_55, hr2_54, hr2_8, hr2_10, hI2, hN2, hS2])
          refine ⟨⟨j2 + 1, _, by omega, rfl, rfl, ha10.eqs ?_⟩, ?_⟩
          · rw [hcat2, List.flatMap_append, List.flatMap_cons, List.flatMap_nil, List.append_nil, ← hTT2, hPe2]; simp only [List.append_assoc, List.append_nil, List.nil_append]
          · simp only [RowKit.intOf]; omega
        · have hjl2 : j2 = (y1.at 1).l.length := by omega
          subst hjl2
          rw [List.take_length, ← hXEe1_1] at ha6
          repeat ((first | refine W.seqR rfl ?_ | refine W.seq ?_ | refine W.regR rfl ?_ | refine W.condK ?_ | refine W.block ?_ | refine W.skip ?_ | refine W.ret ?_ | refine W.exit ?_); try simp (maxSteps := 1000000) (disch := (first | omega | (simp only [World.size_alloc, size_wr, size_drew] <;> omega) | exact not_noB _)) only [go_sem, ↓reduceIte, n0, reduceCtorEq, n1, n2, n3, n4, n5, i0, i1, i2, i3, i4, i5, i6, i7, hI2, hN2])
          exact ⟨_, hr1_2, hr2_0, hr2_5, hr2_6, hr2_55, hr2_54, hr2_8, hr2_10, ha6⟩
      · rintro ρ w11 ⟨r11, hr1_3, hr3_0, hr3_5, hr3_6, hr3_55, hr3_54, hr3_8, hr3_10, ha11⟩
        have hB11 : B ≤ w11.heap.size := Nat.le_trans hB ha11.upd.size
        have hv_11 := ha11.upd.blk_some hv hdv
        have hx1_11 := ha11.upd.blk_some hx1 hnx1
        repeat ((first | refine W.seqR rfl ?_ | refine W.seq ?_ | refine W.regR rfl ?_ | refine W.condK ?_ | refine W.block ?_ | refine W.skip ?_ | refine W.ret ?_ | refine W.exit ?_); try simp (maxSteps := 1000000) (disch := (first | omega | (simp only [World.size_alloc, size_wr, size_drew] <;> omega) | exact not_noB _)) only [go_sem, ↓reduceIte, n0, reduceCtorEq, n1, n2, n3, n4, n5, i0, i1, i2, i3, i4, i5, i6, i7, hr1_3, hr3_0, hr3_5, hr3_6, hr3_55, hr3_54, hr3_8, hr3_10])
        refine ⟨⟨j1 + 1, _, by omega, rfl, rfl, ha11.eqs ?_⟩, ?_⟩
        · rw [hcat1, List.flatMap_append, List.flatMap_cons, List.flatMap_nil, List.append_nil, ← hTT1, hPe1]; simp only [List.append_assoc, List.append_nil, List.nil_append]
        · simp only [RowKit.intOf]; omega
    · have hjl1 : j1 = (t.at 1).l.length := by omega
      subst hjl1
      rw [List.take_length, ← hXE_1] at ha3
      repeat ((first | refine W.seqR rfl ?_ | refine W.seq ?_ | refine W.regR rfl ?_ | refine W.condK ?_ | refine W.block ?_ | refine W.skip ?_ | refine W.ret ?_ | refine W.exit ?_); try simp (maxSteps := 1000000) (disch := (first | omega | (simp only [World.size_alloc, size_wr, size_drew] <;> omega) | exact not_noB _)) only [go_sem, ↓reduceIte, n0, reduceCtorEq, n1, n2, n3, n4, n5, i0, i1, i2, i3, i4, i5, i6, i7, hI1, hN1])
      exact ⟨_, hr1_1, hr1_0, hr1_5, hr1_6, ha3⟩
  · rintro ρ w12 ⟨r12, hr1_4, hr4_0, hr4_5, hr4_6, ha12⟩
    have hB12 : B ≤ w12.heap.size := Nat.le_trans hB ha12.upd.size
    have hv_12 := ha12.upd.blk_some hv hdv
    repeat ((first | refine W.seqR rfl ?_ | refine W.seq ?_ | refine W.regR rfl ?_ | refine W.condK ?_ | refine W.block ?_ | refine W.skip ?_ | refine W.ret ?_ | refine W.exit ?_); try simp (maxSteps := 1000000) (disch := (first | omega | (simp only [World.size_alloc, size_wr, size_drew] <;> omega) | exact not_noB _)) only [go_sem, ↓reduceIte, n0, reduceCtorEq, n1, n2, n3, n4, n5, i0, i1, i2, i3, i4, i5, i6, i7, hv_12, hr1_4, hr4_0, hr4_5, hr4_6])
    refine ha12.eqs ?_
    rw [hP]; simp only [List.append_assoc, List.append_nil, List.nil_append]
end Ms

