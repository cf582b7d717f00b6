/- A part of the proof: see the last text. -/
import Derived.Test.YtohokpilmncmkaaMsS14
set_option linter.unusedSimpArgs false
set_option linter.unusedVariables false
namespace Ms
open Go Go.Proofs
attribute [local congr] W_congr WPsq_congr WPp_congr optK_congr addrK_congr intK_congr boolK_congr sliceK_congr tupleK_congr funcK_congr Fn_congr rawK_congr takeK_congr stepK_congr convK_congr aggK_congr

def gmkF : List Fld := [.mk 8 0 (-1) (-1) (-1) 0 0 []]
theorem GMK_fn (w : World) : Fn Try.prog 5 #[] w fun r w' => (∃ vs, r = .agg #[vs, .int .i64 (-1)] ∧ FldsV AnyB w' vs gmkF) ∧ Ext w w' := by
  refine fn_of_W Try.func5 rfl Try.results5 Try.ntmps5 rfl ?_
  repeat ((first | refine W.seqR rfl ?_ | refine W.seq ?_ | refine W.regR rfl ?_ | refine W.condK ?_ | refine W.block ?_ | refine W.skip ?_ | refine W.ret ?_ | refine W.exit ?_); try simp (disch := (first | omega | (simp only [World.size_alloc, size_wr, size_drew]; done) | (simp only [World.size_alloc, size_wr, size_drew]; omega) | exact not_noB _)) only [go_sem, ↓reduceIte, Nat.reduceEqDiff, reduceCtorEq, Nat.reduceAdd, Nat.reduceMul, Nat.reduceSub, Nat.reduceLT, Nat.reduceLeDiff, Int.reduceEq, Int.reduceLT, Int.reduceLE, Int.reduceNeg, Int.reduceAdd, Int.reduceSub, Int.reduceMul, Int.reduceToNat, ld_30, pl_30, pl_44, se_28, sz_30, z_30, z_44])
  refine ⟨⟨.slice (some ⟨w.heap.size + 1, 0, none⟩) gmkF.length gmkF.length, rfl, ?_⟩, (((Upd.refl _ _).alloc _).alloc _).wr _ _ (.inl (by omega))⟩
  refine FldsV.lit (fr := (0, 0)) (T := 44) (css := [[.int .i64 8, .int .i64 0, .int .i64 (-1), .int .i64 (-1), .int .i64 (-1), .int .i64 0, .int .i64 0, .slice none 0 0]]) ?_ ?_ ?_
  · simp (disch := (first | omega | (simp only [World.size_alloc, size_wr, size_drew]; done) | (simp only [World.size_alloc, size_wr, size_drew]; omega) | exact not_noB _)) only [go_sem, ↓reduceIte, Nat.reduceEqDiff, reduceCtorEq, Nat.reduceAdd, Nat.reduceMul, Nat.reduceSub, Nat.reduceLT, Nat.reduceLeDiff, Int.reduceEq, Int.reduceLT, Int.reduceLE, Int.reduceNeg, Int.reduceAdd, Int.reduceSub, Int.reduceMul, Int.reduceToNat]
    rfl
  · simp
  · refine ⟨rfl, fun i h1 h2 => ?_⟩
    have : i = 0 := by simp [gmkF] at h1; omega
    subst this
    exact FldC.intro (FldsV.nil _)

theorem fillGMK_fn {ok : Blocks} (t : Tree) (ct : List Value) (w : World) (pb : Nat) (ver : Int) (x : Value) (ht : TreeC ok w t ct) (hl : t.l.length < 4611686018427387903) (hb : blk w pb = some (#[.int .i16 ver, x], 48, (0, 0))) :
    Fn Try.prog 12 #[.pointer (some ⟨pb, 0, none⟩), .agg ct.toArray] w fun r w' => blk w' pb = some (#[.int .i16 ver, strV (t.at 0).s], 48, (0, 0)) ∧ Upd (fun b => b = pb) w w' := by
  obtain ⟨vS, vL, vU, rfl, hn, hS, hL, hU⟩ := ht.inv
  have f1 := hS.flat
  have f2 := SlR.flat hL
  have f3 := SlR.flat hU
  have hpl := blk_lt hb
  have hE : Ext w (w.alloc (.cells #[.int .i64 t.n, vS, .bool t.null, vL, vU] 37)) := Upd.alloc (Upd.refl _ _) _
  refine fn_of_W Try.func12 rfl Try.results12 Try.ntmps12 rfl ?_
  repeat ((first | refine W.seqR rfl ?_ | refine W.seq ?_ | refine W.regR rfl ?_ | refine W.condK ?_ | refine W.block ?_ | refine W.skip ?_ | refine W.ret ?_ | refine W.exit ?_); try simp (disch := (first | omega | (simp only [World.size_alloc, size_wr, size_drew]; done) | (simp only [World.size_alloc, size_wr, size_drew]; omega) | exact not_noB _)) only [go_sem, ↓reduceIte, Nat.reduceEqDiff, reduceCtorEq, Nat.reduceAdd, Nat.reduceMul, Nat.reduceSub, Nat.reduceLT, Nat.reduceLeDiff, Int.reduceEq, Int.reduceLT, Int.reduceLE, Int.reduceNeg, Int.reduceAdd, Int.reduceSub, Int.reduceMul, Int.reduceToNat, ca_21, fo_48_1, fv_37_1, kn_22, ld_37, sz_9, f1, f2, f3, cellsAt_five])
  refine (iat_fn t 0 _ _ (ht.keep (hE.keeps _)) (by omega) hl).mono ?_
  rintro r w1 ⟨⟨c1, rfl, hc1⟩, hE1⟩
  obtain ⟨vS1, vL1, vU1, rfl, hn1, hS1, hL1, hU1⟩ := hc1.inv
  obtain ⟨b1, k1, rfl, _⟩ := hS1.shape
  have hb1 := hE1.blk_some (hE.blk_some hb id) id
  simp (disch := (first | omega | (simp only [World.size_alloc, size_wr, size_drew]; done) | (simp only [World.size_alloc, size_wr, size_drew]; omega) | exact not_noB _)) only [go_sem, ↓reduceIte, Nat.reduceEqDiff, reduceCtorEq, Nat.reduceAdd, Nat.reduceMul, Nat.reduceSub, Nat.reduceLT, Nat.reduceLeDiff, Int.reduceEq, Int.reduceLT, Int.reduceLE, Int.reduceNeg, Int.reduceAdd, Int.reduceSub, Int.reduceMul, Int.reduceToNat, ca_21, fo_48_1, fv_37_1, kn_22, ld_37, sz_9]
  refine wp_string (E := 5) (by kernel_rfl) (by kernel_rfl) (by kernel_rfl) (ok := ok) (s := (t.at 0).s) ?_ ?_
  · simp (disch := (first | omega | (simp only [World.size_alloc, size_wr, size_drew]; done) | (simp only [World.size_alloc, size_wr, size_drew]; omega) | exact not_noB _)) only [go_sem, ↓reduceIte, Nat.reduceEqDiff, reduceCtorEq, Nat.reduceAdd, Nat.reduceMul, Nat.reduceSub, Nat.reduceLT, Nat.reduceLeDiff, Int.reduceEq, Int.reduceLT, Int.reduceLE, Int.reduceNeg, Int.reduceAdd, Int.reduceSub, Int.reduceMul, Int.reduceToNat]
    exact hS1
  simp (disch := (first | omega | (simp only [World.size_alloc, size_wr, size_drew]; done) | (simp only [World.size_alloc, size_wr, size_drew]; omega) | exact not_noB _)) only [go_sem, ↓reduceIte, Nat.reduceEqDiff, reduceCtorEq, Nat.reduceAdd, Nat.reduceMul, Nat.reduceSub, Nat.reduceLT, Nat.reduceLeDiff, Int.reduceEq, Int.reduceLT, Int.reduceLE, Int.reduceNeg, Int.reduceAdd, Int.reduceSub, Int.reduceMul, Int.reduceToNat, ca_21, fo_48_1, fv_37_1, kn_22, ld_37, sz_9, hb1, cells_strV, flat_strV]
  repeat ((first | refine W.seqR rfl ?_ | refine W.seq ?_ | refine W.regR rfl ?_ | refine W.condK ?_ | refine W.block ?_ | refine W.skip ?_ | refine W.ret ?_ | refine W.exit ?_); try simp (disch := (first | omega | (simp only [World.size_alloc, size_wr, size_drew]; done) | (simp only [World.size_alloc, size_wr, size_drew]; omega) | exact not_noB _)) only [go_sem, ↓reduceIte, Nat.reduceEqDiff, reduceCtorEq, Nat.reduceAdd, Nat.reduceMul, Nat.reduceSub, Nat.reduceLT, Nat.reduceLeDiff, Int.reduceEq, Int.reduceLT, Int.reduceLE, Int.reduceNeg, Int.reduceAdd, Int.reduceSub, Int.reduceMul, Int.reduceToNat, ca_21, fo_48_1, fv_37_1, kn_22, ld_37, sz_9, hb1, cells_strV, flat_strV])
  exact ((hE.trans hE1).mono fun _ h => h.elim).wr _ _ (.inr rfl)

theorem AppendTo_GMK_fn {B : Nat} (v : Value) (s : List UInt8) (w : World) (pb : Nat) (ver : Int) (x : List UInt8) (hb : blk w pb = some (#[.int .i16 ver, strV x], 48, (0, 0))) (ho : OwnBy 5 B w v s) (hB : B ≤ w.heap.size) (hnb : ¬ ownB v pb) (hx : x.length ≤ 32767) (hl : s.length ≤ 2 ^ 43) :
    Fn Try.prog 13 #[.pointer (some ⟨pb, 0, none⟩), v] w fun r w' => AppR 5 B w v s (fixedS ver 2 ++ (fixedS x.length 2 ++ x)) r w' := by
  have hpl := blk_lt hb
  refine fn_of_W Try.func13 rfl Try.results13 Try.ntmps13 rfl ?_
  repeat ((first | refine W.seqR rfl ?_ | refine W.seq ?_ | refine W.regR rfl ?_ | refine W.condK ?_ | refine W.block ?_ | refine W.skip ?_ | refine W.ret ?_ | refine W.exit ?_); try simp (disch := (first | omega | (simp only [World.size_alloc, size_wr, size_drew]; done) | (simp only [World.size_alloc, size_wr, size_drew]; omega) | exact not_noB _)) only [go_sem, ↓reduceIte, Nat.reduceEqDiff, reduceCtorEq, Nat.reduceAdd, Nat.reduceMul, Nat.reduceSub, Nat.reduceLT, Nat.reduceLeDiff, Int.reduceEq, Int.reduceLT, Int.reduceLE, Int.reduceNeg, Int.reduceAdd, Int.reduceSub, Int.reduceMul, Int.reduceToNat, ca_22, ca_23, fo_48_0, fo_48_1, ld_46, ld_9, hb])
  refine (AppendInt16_fn v s w ho hB ver (by omega)).mono ?_
  rintro r1 w1 h1
  have hb1 := h1.upd.blk_some hb hnb
  repeat ((first | refine W.seqR rfl ?_ | refine W.seq ?_ | refine W.regR rfl ?_ | refine W.condK ?_ | refine W.block ?_ | refine W.skip ?_ | refine W.ret ?_ | refine W.exit ?_); try simp (disch := (first | omega | (simp only [World.size_alloc, size_wr, size_drew]; done) | (simp only [World.size_alloc, size_wr, size_drew]; omega) | exact not_noB _)) only [go_sem, ↓reduceIte, Nat.reduceEqDiff, reduceCtorEq, Nat.reduceAdd, Nat.reduceMul, Nat.reduceSub, Nat.reduceLT, Nat.reduceLeDiff, Int.reduceEq, Int.reduceLT, Int.reduceLE, Int.reduceNeg, Int.reduceAdd, Int.reduceSub, Int.reduceMul, Int.reduceToNat, ca_22, ca_23, fo_48_0, fo_48_1, ld_46, ld_9, hb1])
  refine (AppendString_fn r1 (s ++ fixedS ver 2) w1 h1.own (by have := h1.upd.size; omega) x hx (by rw [List.length_append, fixedS_len]; omega)).mono ?_
  rintro r2 w2 h2
  repeat ((first | refine W.seqR rfl ?_ | refine W.seq ?_ | refine W.regR rfl ?_ | refine W.condK ?_ | refine W.block ?_ | refine W.skip ?_ | refine W.ret ?_ | refine W.exit ?_); try simp (disch := (first | omega | (simp only [World.size_alloc, size_wr, size_drew]; done) | (simp only [World.size_alloc, size_wr, size_drew]; omega) | exact not_noB _)) only [go_sem, ↓reduceIte, Nat.reduceEqDiff, reduceCtorEq, Nat.reduceAdd, Nat.reduceMul, Nat.reduceSub, Nat.reduceLT, Nat.reduceLeDiff, Int.reduceEq, Int.reduceLT, Int.reduceLE, Int.reduceNeg, Int.reduceAdd, Int.reduceSub, Int.reduceMul, Int.reduceToNat, ca_22, ca_23, fo_48_0, fo_48_1, ld_46, ld_9])
  exact h1.trans h2

theorem MakeGMK_fn {ok : Blocks} (t : Tree) (ct : List Value) (w : World) (ver : Nat) (hv : ver ≤ 100) (ht : TreeC ok w t ct) (hl : t.l.length < 4611686018427387903) (hx : (t.at 0).s.length ≤ 32767) :
    Fn Try.prog 7 #[.int .i64 ver, .agg ct.toArray] w fun r w' => OwnBy 5 w.heap.size w' r (fixedS ver 2 ++ (fixedS (t.at 0).s.length 2 ++ (t.at 0).s)) ∧ Ext w w' := by
  obtain ⟨vS, vL, vU, rfl, hn, hS, hL, hU⟩ := ht.inv
  have f1 := hS.flat
  have f2 := SlR.flat hL
  have f3 := SlR.flat hU
  have ew : IntKind.i16.wrap (ver : Int) = ver := i16_wrap (by omega)
  have hE : Ext w ((w.alloc (.cells #[.int .i64 t.n, vS, .bool t.null, vL, vU] 37)).alloc (.cells #[.int .i16 ver, .string ByteArray.empty] 48)) := Upd.alloc (Upd.alloc (Upd.refl _ _) _) _
  have hb : blk ((w.alloc (.cells #[.int .i64 t.n, vS, .bool t.null, vL, vU] 37)).alloc (.cells #[.int .i16 ver, .string ByteArray.empty] 48)) (w.heap.size + 1) = some (#[.int .i16 ver, .string ByteArray.empty], 48, (0, 0)) := blk_alloc_new (by simp only [World.size_alloc])
  have hz : ((w.alloc (.cells #[.int .i64 t.n, vS, .bool t.null, vL, vU] 37)).alloc (.cells #[.int .i16 ver, .string ByteArray.empty] 48)).heap.size = w.heap.size + 2 := by simp only [World.size_alloc]
  refine fn_of_W Try.func7 rfl Try.results7 Try.ntmps7 rfl ?_
  repeat ((first | refine W.seqR rfl ?_ | refine W.seq ?_ | refine W.regR rfl ?_ | refine W.condK ?_ | refine W.block ?_ | refine W.skip ?_ | refine W.ret ?_ | refine W.exit ?_); try simp (disch := (first | omega | (simp only [World.size_alloc, size_wr, size_drew]; done) | (simp only [World.size_alloc, size_wr, size_drew]; omega) | exact not_noB _)) only [go_sem, ↓reduceIte, Nat.reduceEqDiff, reduceCtorEq, Nat.reduceAdd, Nat.reduceMul, Nat.reduceSub, Nat.reduceLT, Nat.reduceLeDiff, Int.reduceEq, Int.reduceLT, Int.reduceLE, Int.reduceNeg, Int.reduceAdd, Int.reduceSub, Int.reduceMul, Int.reduceToNat, ca_12, ca_13, it_46, kn_3, ld_37, pl_48, z_48, f1, f2, f3, ew, cellsAt_five])
  generalize ((w.alloc (.cells #[.int .i64 t.n, vS, .bool t.null, vL, vU] 37)).alloc (.cells #[.int .i16 ver, .string ByteArray.empty] 48)) = w1 at *
  refine (fillGMK_fn t _ w1 (w.heap.size + 1) ver _ (ht.keep (hE.keeps _)) hl hb).mono ?_
  rintro r2 w2 ⟨hb2, hU2⟩
  have hz2 := hU2.size
  have hE2 : Ext w w2 := hE.more hU2 fun b hb h => by omega
  repeat ((first | refine W.seqR rfl ?_ | refine W.seq ?_ | refine W.regR rfl ?_ | refine W.condK ?_ | refine W.block ?_ | refine W.skip ?_ | refine W.ret ?_ | refine W.exit ?_); try simp (disch := (first | omega | (simp only [World.size_alloc, size_wr, size_drew]; done) | (simp only [World.size_alloc, size_wr, size_drew]; omega) | exact not_noB _)) only [go_sem, ↓reduceIte, Nat.reduceEqDiff, reduceCtorEq, Nat.reduceAdd, Nat.reduceMul, Nat.reduceSub, Nat.reduceLT, Nat.reduceLeDiff, Int.reduceEq, Int.reduceLT, Int.reduceLE, Int.reduceNeg, Int.reduceAdd, Int.reduceSub, Int.reduceMul, Int.reduceToNat, ca_12, ca_13, it_46, kn_3, ld_37, pl_48, z_48])
  refine (AppendTo_GMK_fn (B := w2.heap.size) (.slice none 0 0) [] w2 (w.heap.size + 1) ver (t.at 0).s hb2 (Own.nil _ _ _ _) (Nat.le_refl _) (by rintro ⟨a, n, c, h, _⟩; cases h) hx (by simp)).mono ?_
  rintro r3 w3 h3
  repeat ((first | refine W.seqR rfl ?_ | refine W.seq ?_ | refine W.regR rfl ?_ | refine W.condK ?_ | refine W.block ?_ | refine W.skip ?_ | refine W.ret ?_ | refine W.exit ?_); try simp (disch := (first | omega | (simp only [World.size_alloc, size_wr, size_drew]; done) | (simp only [World.size_alloc, size_wr, size_drew]; omega) | exact not_noB _)) only [go_sem, ↓reduceIte, Nat.reduceEqDiff, reduceCtorEq, Nat.reduceAdd, Nat.reduceMul, Nat.reduceSub, Nat.reduceLT, Nat.reduceLeDiff, Int.reduceEq, Int.reduceLT, Int.reduceLE, Int.reduceNeg, Int.reduceAdd, Int.reduceSub, Int.reduceMul, Int.reduceToNat, ca_12, ca_13, it_46, kn_3, ld_37, pl_48, z_48])
  refine ⟨?_, ?_⟩
  · have := h3.own
    rw [List.nil_append] at this
    exact Own.mono this (by omega)
  · exact hE2.more h3.upd fun b hb h => by obtain ⟨a, n, c, h, _⟩ := h; cases h

theorem gmk_part (ver : Nat) (t : Tree) : partS 2 gmkF ver (flexB (-1) ver) t = fixedS (wholeS (t.at 0).s).length 2 ++ wholeS (t.at 0).s := by
  have e : flexB (-1) ver = false := rfl
  rw [e]
  simp [partS, plainS, gmkF, fieldS, valueS, nullS, hasS, countedS, Fld.kind, Fld.fr, Fld.to, Fld.null, Fld.tag, Fld.sub]
theorem gmk_fit (ver : Nat) (t : Tree) : ((fitS 2 gmkF ver t).at 0).s = wholeS (t.at 0).s := by
  simp [fitS, gmkF, Tree.at, Tree.l, fittedS, fitOne, Fld.kind, Tree.s]
theorem law_GMK {ok : Blocks} (n : Nat) (hn : n < 256) (t : Tree) (ct : List Value) (w : World) (ht : TreeC ok w t ct) (hsm : Small 4611686018427387903 t) :
    Fn Try.prog 3 #[.int .u8 n, .agg ct.toArray] w fun r w' => r = .bool true ∧ Ext w w' := by
  obtain ⟨vS, vL, vU, rfl, hn', hS, hL, hU⟩ := ht.inv
  have f1 := hS.flat
  have f2 := SlR.flat hL
  have f3 := SlR.flat hU
  have hE : Ext w (w.alloc (.cells #[.int .i64 t.n, vS, .bool t.null, vL, vU] 26)) := Upd.alloc (Upd.refl _ _) _
  refine fn_of_W Try.func3 rfl Try.results3 Try.ntmps3 rfl ?_
  repeat ((first | refine W.seqR rfl ?_ | refine W.seq ?_ | refine W.regR rfl ?_ | refine W.condK ?_ | refine W.block ?_ | refine W.skip ?_ | refine W.ret ?_ | refine W.exit ?_); try simp (disch := (first | omega | (simp only [World.size_alloc, size_wr, size_drew]; done) | (simp only [World.size_alloc, size_wr, size_drew]; omega) | exact not_noB _)) only [go_sem, ↓reduceIte, Nat.reduceEqDiff, reduceCtorEq, Nat.reduceAdd, Nat.reduceMul, Nat.reduceSub, Nat.reduceLT, Nat.reduceLeDiff, Int.reduceEq, Int.reduceLT, Int.reduceLE, Int.reduceNeg, Int.reduceAdd, Int.reduceSub, Int.reduceMul, Int.reduceToNat, ca_10, ca_4, ca_5, ca_6, ca_7, ca_8, ca_9, fo_30_0, it_3, kn_5, ld_26, ld_28, ld_30, sz_30, z_30, f1, f2, f3, cellsAt_five])
  have hb : blk (w.alloc (.cells #[.int .i64 t.n, vS, .bool t.null, vL, vU] 26)) w.heap.size = some (#[.int .i64 t.n, vS, .bool t.null, vL, vU], 26, (0, 0)) := blk_alloc_new rfl
  generalize (w.alloc (.cells #[.int .i64 t.n, vS, .bool t.null, vL, vU] 26)) = w1 at *
  refine (zzFits1_fn (ok := ok) t _ w1 (ht.keep (hE.keeps _)) hsm).mono ?_
  rintro r2 w2 ⟨⟨bb, rfl⟩, hE2⟩
  cases bb with
  | false =>
    simp (disch := (first | omega | (simp only [World.size_alloc, size_wr, size_drew]; done) | (simp only [World.size_alloc, size_wr, size_drew]; omega) | exact not_noB _)) only [go_sem, ↓reduceIte, Nat.reduceEqDiff, reduceCtorEq, Nat.reduceAdd, Nat.reduceMul, Nat.reduceSub, Nat.reduceLT, Nat.reduceLeDiff, Int.reduceEq, Int.reduceLT, Int.reduceLE, Int.reduceNeg, Int.reduceAdd, Int.reduceSub, Int.reduceMul, Int.reduceToNat]
    repeat ((first | refine W.seqR rfl ?_ | refine W.seq ?_ | refine W.regR rfl ?_ | refine W.condK ?_ | refine W.block ?_ | refine W.skip ?_ | refine W.ret ?_ | refine W.exit ?_); try simp (disch := (first | omega | (simp only [World.size_alloc, size_wr, size_drew]; done) | (simp only [World.size_alloc, size_wr, size_drew]; omega) | exact not_noB _)) only [go_sem, ↓reduceIte, Nat.reduceEqDiff, reduceCtorEq, Nat.reduceAdd, Nat.reduceMul, Nat.reduceSub, Nat.reduceLT, Nat.reduceLeDiff, Int.reduceEq, Int.reduceLT, Int.reduceLE, Int.reduceNeg, Int.reduceAdd, Int.reduceSub, Int.reduceMul, Int.reduceToNat, ca_10, ca_4, ca_5, ca_6, ca_7, ca_8, ca_9, fo_30_0, it_3, kn_5, ld_26, ld_28, ld_30, sz_30, z_30])
    exact hE.trans hE2
  | true =>
    simp (disch := (first | omega | (simp only [World.size_alloc, size_wr, size_drew]; done) | (simp only [World.size_alloc, size_wr, size_drew]; omega) | exact not_noB _)) only [go_sem, ↓reduceIte, Nat.reduceEqDiff, reduceCtorEq, Nat.reduceAdd, Nat.reduceMul, Nat.reduceSub, Nat.reduceLT, Nat.reduceLeDiff, Int.reduceEq, Int.reduceLT, Int.reduceLE, Int.reduceNeg, Int.reduceAdd, Int.reduceSub, Int.reduceMul, Int.reduceToNat]
    repeat ((first | refine W.seqR rfl ?_ | refine W.seq ?_ | refine W.regR rfl ?_ | refine W.condK ?_ | refine W.block ?_ | refine W.skip ?_ | refine W.ret ?_ | refine W.exit ?_); try simp (disch := (first | omega | (simp only [World.size_alloc, size_wr, size_drew]; done) | (simp only [World.size_alloc, size_wr, size_drew]; omega) | exact not_noB _)) only [go_sem, ↓reduceIte, Nat.reduceEqDiff, reduceCtorEq, Nat.reduceAdd, Nat.reduceMul, Nat.reduceSub, Nat.reduceLT, Nat.reduceLeDiff, Int.reduceEq, Int.reduceLT, Int.reduceLE, Int.reduceNeg, Int.reduceAdd, Int.reduceSub, Int.reduceMul, Int.reduceToNat, ca_10, ca_4, ca_5, ca_6, ca_7, ca_8, ca_9, fo_30_0, it_3, kn_5, ld_26, ld_28, ld_30, sz_30, z_30])
    refine (GMK_fn w2).mono ?_
    rintro r3 w3 ⟨⟨vs, rfl, hF⟩, hE3⟩
    have fF := SlR.flat hF
    have ew : IntKind.i64.wrap (n : Int) = n := i64_wrap (by omega)
    have et : ((n : Int).tmod 3) = ((n % 3 : Nat) : Int) := by rw [Int.tmod_eq_emod_of_nonneg (by omega)]; omega
    have hE03 : Ext w w3 := (hE.trans hE2).trans hE3
    have hb3 := hE3.blk_some (hE2.blk_some hb id) id
    have hE4 : Ext w3 (wr (w3.alloc (.cells #[.slice none 0 0, .int .i64 0] 30)) w3.heap.size 0 [vs, .int .i64 (-1)]) := (Upd.alloc (Upd.refl _ _) _).wr _ _ (.inl (Nat.le_refl _))
    have hb4 : blk (wr (w3.alloc (.cells #[.slice none 0 0, .int .i64 0] 30)) w3.heap.size 0 [vs, .int .i64 (-1)]) w3.heap.size = some (#[vs, .int .i64 (-1)], 30, (0, 0)) := by simp (disch := (first | omega | (simp only [World.size_alloc, size_wr, size_drew]; done) | (simp only [World.size_alloc, size_wr, size_drew]; omega) | exact not_noB _)) only [go_sem, ↓reduceIte, Nat.reduceEqDiff, reduceCtorEq, Nat.reduceAdd, Nat.reduceMul, Nat.reduceSub, Nat.reduceLT, Nat.reduceLeDiff, Int.reduceEq, Int.reduceLT, Int.reduceLE, Int.reduceNeg, Int.reduceAdd, Int.reduceSub, Int.reduceMul, Int.reduceToNat]
    simp (disch := (first | omega | (simp only [World.size_alloc, size_wr, size_drew]; done) | (simp only [World.size_alloc, size_wr, size_drew]; omega) | exact not_noB _)) only [go_sem, ↓reduceIte, Nat.reduceEqDiff, reduceCtorEq, Nat.reduceAdd, Nat.reduceMul, Nat.reduceSub, Nat.reduceLT, Nat.reduceLeDiff, Int.reduceEq, Int.reduceLT, Int.reduceLE, Int.reduceNeg, Int.reduceAdd, Int.reduceSub, Int.reduceMul, Int.reduceToNat, ca_10, ca_4, ca_5, ca_6, ca_7, ca_8, ca_9, fo_30_0, it_3, kn_5, ld_26, ld_28, ld_30, sz_30, z_30, fF, ew, et]
    generalize (wr (w3.alloc (.cells #[.slice none 0 0, .int .i64 0] 30)) w3.heap.size 0 [vs, .int .i64 (-1)]) = w4 at *
    have hb34 := hE4.blk_some hb3 id
    have hv3 : n % 3 < 3 := Nat.mod_lt _ (by omega)
    generalize n % 3 = ver at *
    repeat ((first | refine W.seqR rfl ?_ | refine W.seq ?_ | refine W.regR rfl ?_ | refine W.condK ?_ | refine W.block ?_ | refine W.skip ?_ | refine W.ret ?_ | refine W.exit ?_); try simp (disch := (first | omega | (simp only [World.size_alloc, size_wr, size_drew]; done) | (simp only [World.size_alloc, size_wr, size_drew]; omega) | exact not_noB _)) only [go_sem, ↓reduceIte, Nat.reduceEqDiff, reduceCtorEq, Nat.reduceAdd, Nat.reduceMul, Nat.reduceSub, Nat.reduceLT, Nat.reduceLeDiff, Int.reduceEq, Int.reduceLT, Int.reduceLE, Int.reduceNeg, Int.reduceAdd, Int.reduceSub, Int.reduceMul, Int.reduceToNat, ca_10, ca_4, ca_5, ca_6, ca_7, ca_8, ca_9, fo_30_0, it_3, kn_5, ld_26, ld_28, ld_30, sz_30, z_30])
    have hs1 := blk_lt hb4
    have hs2 := blk_lt hb34
    refine W.drawR (.take 0 (.take 1 (.take 2 (.take 3 (.take 4 (.take 8 (.take 9 (.take 10 (.only 5 (.only 6 (.only 7 (.only 11 (.only 12 (.only 13 .done)))))))))))))) NoB mixed (by kernel_rfl) ?_
    simp (disch := (first | omega | (simp only [World.size_alloc, size_wr, size_drew]; done) | (simp only [World.size_alloc, size_wr, size_drew]; omega) | exact not_noB _)) only [go_sem, ↓reduceIte, Nat.reduceEqDiff, reduceCtorEq, Nat.reduceAdd, Nat.reduceMul, Nat.reduceSub, Nat.reduceLT, Nat.reduceLeDiff, Int.reduceEq, Int.reduceLT, Int.reduceLE, Int.reduceNeg, Int.reduceAdd, Int.reduceSub, Int.reduceMul, Int.reduceToNat, ca_10, ca_4, ca_5, ca_6, ca_7, ca_8, ca_9, fo_30_0, it_3, kn_5, ld_26, ld_28, ld_30, sz_30, z_30, hb34, hb4, cellsAt_five, cellsAt_two]
    have hE04d : Ext w w4.drew := (hE03.trans hE4).drew
    have hE3d : Ext w3 w4.drew := hE4.drew
    have hokF : okF 1 gmkF = true := rfl
    refine (fit_ok 1 AnyB gmkF ver t vs _ w4.drew (hF.keep (hE3d.keeps _)) hokF ((ht.weaken fun _ _ _ => trivial).keep (hE04d.keeps _)) hsm).mono ?_
    rintro r5 w5 ⟨⟨c5, rfl, hc5⟩, hE5⟩
    refine ⟨hE5, ?_⟩
    refine (given_fn (fitS_lists 1 gmkF ver t (by decide) hokF) _ c5 w5 hc5).mono ?_
    rintro r6 w6 ⟨⟨c6, rfl, hc6⟩, hE6⟩
    have hE56 : Ext w4.drew w6 := hE5.trans hE6
    refine ⟨hE56, ?_⟩
    have hfs := gmk_fit ver t
    have hlw : (wholeS (t.at 0).s).length ≤ 32767 := by simp only [wholeS, List.length_take]; omega
    have hll : (fitS 2 gmkF ver t).l.length = 1 := by simp [fitS, gmkF, Tree.l]
    refine (MakeGMK_fn (fitS 2 gmkF ver t) c6 w6 ver (by omega) hc6 (by rw [hll]; decide) (by rw [hfs]; exact hlw)).mono ?_
    rintro r7 w7 ⟨ho7, hE7⟩
    rw [hfs] at ho7
    have hE57 : Ext w4.drew w7 := hE56.trans hE7
    refine ⟨hE57, ?_⟩
    have hE07 : Ext w w7 := hE04d.trans hE57
    have hp := gmk_part ver t
    have hpl : (partS 2 gmkF ver (flexB (-1) ver) t).length ≤ 2 ^ 40 := by rw [hp, List.length_append, fixedS_len]; omega
    refine (Kept_fn (ok := AnyB) (d := 1) gmkF (-1) ver t vs _ w7 (hF.keep (Ext.keeps (hE3d.trans hE57) _)) hokF ((ht.weaken fun _ _ _ => trivial).keep (Ext.keeps hE07 _)) hsm hpl).mono ?_
    rintro r8 w8 ⟨ho8, hE8⟩
    rw [hp] at ho8
    have hE58 : Ext w4.drew w8 := hE57.trans hE8
    refine ⟨hE58, ?_⟩
    refine (Same_fn (ok := AnyB) _ _ r7 r8 w8 ((Own.bytes ho7 fun _ _ => trivial).keep (hE8.keeps _)) (Own.bytes ho8 fun _ _ => trivial) (by simp only [List.length_append, fixedS_len]; omega)).mono ?_
    rintro r9 w9 ⟨rfl, hE9⟩
    have hE59 : Ext w4.drew w9 := hE58.trans hE9
    refine ⟨hE59, hE59, ?_⟩
    repeat ((first | refine W.seqR rfl ?_ | refine W.seq ?_ | refine W.regR rfl ?_ | refine W.condK ?_ | refine W.block ?_ | refine W.skip ?_ | refine W.ret ?_ | refine W.exit ?_); try simp (disch := (first | omega | (simp only [World.size_alloc, size_wr, size_drew]; done) | (simp only [World.size_alloc, size_wr, size_drew]; omega) | exact not_noB _)) only [go_sem, ↓reduceIte, Nat.reduceEqDiff, reduceCtorEq, Nat.reduceAdd, Nat.reduceMul, Nat.reduceSub, Nat.reduceLT, Nat.reduceLeDiff, Int.reduceEq, Int.reduceLT, Int.reduceLE, Int.reduceNeg, Int.reduceAdd, Int.reduceSub, Int.reduceMul, Int.reduceToNat, ca_10, ca_4, ca_5, ca_6, ca_7, ca_8, ca_9, fo_30_0, it_3, kn_5, ld_26, ld_28, ld_30, sz_30, z_30])
    exact hE04d.trans hE59
end Ms
