/- A part of the proof: see the last text. -/
import Derived.Test.YtohokpilmncmkaaMsS13
set_option linter.unusedSimpArgs false
set_option linter.unusedVariables false
namespace Ms
open Go Go.Proofs
attribute [local congr] W_congr WPsq_congr WPp_congr optK_congr addrK_congr intK_congr boolK_congr sliceK_congr tupleK_congr funcK_congr Fn_congr rawK_congr takeK_congr stepK_congr convK_congr aggK_congr

theorem FldsV.lit {w : World} {b : Nat} {fr : Nat × Nat} {T : TypeId} {fs : List Fld} {css : List (List Value)} (h : blk w b = some (css.flatten.toArray, T, fr)) (hl : ∀ cs ∈ css, cs.length = 8) (ha : All2 (FldC AnyB w) fs css) :
    FldsV AnyB w (.slice (some ⟨b, 0, none⟩) fs.length fs.length) fs := by
  refine ⟨css, ⟨some ⟨b, 0, none⟩, fs.length, by rw [ha.1], by rw [ha.1]; exact Nat.le_refl _, hl, .inr ⟨_, rfl, rfl, trivial, _, h, fun i hi => ?_⟩⟩, ha⟩
  simp only [Nat.zero_add, List.getElem?_toArray]
theorem FldsV.nil (w : World) : FldsV AnyB w (.slice none 0 0) [] := ⟨[], ⟨none, 0, rfl, Nat.le_refl _, by simp, .inl rfl⟩, rfl, fun i h => by simp at h⟩

theorem iat_fn {ok : Blocks} (t : Tree) (i : Nat) (ct : List Value) (w : World) (ht : TreeC ok w t ct) (hi : i ≤ 1000) (hlen : t.l.length < 4611686018427387903) :
    Fn Try.prog 21 #[.agg ct.toArray, .int .i64 i] w fun r w' => (∃ cs, r = .agg cs.toArray ∧ TreeC ok w' (t.at i) cs) ∧ Ext w w' := by
  obtain ⟨vS, vL, vU, rfl, hn, hS, hL, hU⟩ := ht.inv
  obtain ⟨base, cap, rfl, hcap⟩ := SlR.shape hL
  have f1 := hS.flat
  have f2 := SlR.flat hU
  refine fn_of_W Try.func21 rfl Try.results21 Try.ntmps21 rfl ?_
  by_cases h1 : i < t.l.length
  · obtain ⟨_, b, o, x, vS', vL', vU', hb, hok, hx, hlt, hxs, hxe, g1, g2, g3, hc⟩ := TreesV.get hL h1
    subst hb
    repeat ((first | refine W.seqR rfl ?_ | refine W.seq ?_ | refine W.regR rfl ?_ | refine W.condK ?_ | refine W.block ?_ | refine W.skip ?_ | refine W.ret ?_ | refine W.exit ?_); try simp (disch := (first | omega | (simp only [World.size_alloc, size_wr, size_drew]; done) | (simp only [World.size_alloc, size_wr, size_drew]; omega) | exact not_noB _)) only [go_sem, ↓reduceIte, Nat.reduceEqDiff, reduceCtorEq, Nat.reduceAdd, Nat.reduceMul, Nat.reduceSub, Nat.reduceLT, Nat.reduceLeDiff, Int.reduceEq, Int.reduceLT, Int.reduceLE, Int.reduceNeg, Int.reduceAdd, Int.reduceSub, Int.reduceMul, Int.reduceToNat, es_34, fo_37_3, ld_34, ld_37, pl_37, sl_34, sz_37, z_37, f1, f2, g1, g2, g3, hx, hxe, Int.toNat_natCast])
    have hE : Ext w (wr ((w.alloc (.cells #[.int .i64 t.n, vS, .bool t.null, .slice (some ⟨b, o, none⟩) t.l.length cap, vU] 37)).alloc (.cells #[.int .i64 0, .slice none 0 0, .bool false, .slice none 0 0, .slice none 0 0] 37)) (w.heap.size + 1) 0 [.int .i64 t.l[i].n, vS', .bool t.l[i].null, vL', vU']) :=
      Upd.wr (Upd.alloc (Upd.alloc (Upd.refl _ _) _) _) _ _ (.inl (by omega))
    refine ⟨⟨_, rfl, ?_⟩, hE⟩
    rw [Tree.at_lt h1]
    exact hc.keep (hE.keeps _)
  · repeat ((first | refine W.seqR rfl ?_ | refine W.seq ?_ | refine W.regR rfl ?_ | refine W.condK ?_ | refine W.block ?_ | refine W.skip ?_ | refine W.ret ?_ | refine W.exit ?_); try simp (disch := (first | omega | (simp only [World.size_alloc, size_wr, size_drew]; done) | (simp only [World.size_alloc, size_wr, size_drew]; omega) | exact not_noB _)) only [go_sem, ↓reduceIte, Nat.reduceEqDiff, reduceCtorEq, Nat.reduceAdd, Nat.reduceMul, Nat.reduceSub, Nat.reduceLT, Nat.reduceLeDiff, Int.reduceEq, Int.reduceLT, Int.reduceLE, Int.reduceNeg, Int.reduceAdd, Int.reduceSub, Int.reduceMul, Int.reduceToNat, es_34, fo_37_3, ld_34, ld_37, pl_37, sl_34, sz_37, z_37, f1, f2])
    refine ⟨⟨_, rfl, ?_⟩, ?_⟩
    · rw [Tree.at_ge (by omega)]
      exact TreeC.zero _ _
    · exact Upd.wr (Upd.alloc (Upd.alloc (Upd.refl _ _) _) _) _ _ (.inl (by omega))

def flexB (flex ver : Int) : Bool := decide (0 ≤ flex) && decide (flex ≤ ver)
theorem Write_fn {ok : Blocks} {d : Nat} (fs : List Fld) (flex ver : Int) (t : Tree) (vs : Value) (ct : List Value) (w : World) (hf : FldsV ok w vs fs) (hok : okF d fs = true) (ht : TreeC ok w t ct) (hsm : Small 4611686018427387903 t) (hlen : (partS (d + 1) fs ver (flexB flex ver) t).length ≤ 2 ^ 40) :
    Fn Try.prog 19 #[.agg #[vs, .int .i64 flex], .int .i64 ver, .agg ct.toArray] w fun r w' => OwnBy 5 w.heap.size w' r (partS (d + 1) fs ver (flexB flex ver) t) ∧ Ext w w' := by
  obtain ⟨vS, vL, vU, rfl, hn, hS, hL, hU⟩ := ht.inv
  have f0 := SlR.flat hf
  have f1 := hS.flat
  have f2 := SlR.flat hL
  have f3 := SlR.flat hU
  have hE : Ext w ((w.alloc (.cells #[vs, .int .i64 flex] 30)).alloc (.cells #[.int .i64 t.n, vS, .bool t.null, vL, vU] 26)) := Upd.alloc (Upd.alloc (Upd.refl _ _) _) _
  refine fn_of_W Try.func19 rfl Try.results19 Try.ntmps19 rfl ?_
  by_cases h1 : 0 ≤ flex
  · by_cases h2 : flex ≤ ver
    · have e : flexB flex ver = true := by simp [flexB, h1, h2]
      rw [e] at hlen ⊢
      repeat ((first | refine W.seqR rfl ?_ | refine W.seq ?_ | refine W.regR rfl ?_ | refine W.condK ?_ | refine W.block ?_ | refine W.skip ?_ | refine W.ret ?_ | refine W.exit ?_); try simp (disch := (first | omega | (simp only [World.size_alloc, size_wr, size_drew]; done) | (simp only [World.size_alloc, size_wr, size_drew]; omega) | exact not_noB _)) only [go_sem, ↓reduceIte, Nat.reduceEqDiff, reduceCtorEq, Nat.reduceAdd, Nat.reduceMul, Nat.reduceSub, Nat.reduceLT, Nat.reduceLeDiff, Int.reduceEq, Int.reduceLT, Int.reduceLE, Int.reduceNeg, Int.reduceAdd, Int.reduceSub, Int.reduceMul, Int.reduceToNat, ca_27, fo_30_0, fo_30_1, ld_26, ld_28, ld_3, f0, f1, f2, f3, cellsAt_five, cellsAt_two])
      refine (part_ok (ok := ok) d fs ver true t vs _ _ (hf.keep (hE.keeps _)) hok (ht.keep (hE.keeps _)) hsm hlen).mono ?_
      rintro r w' ⟨ho, he⟩
      repeat ((first | refine W.seqR rfl ?_ | refine W.seq ?_ | refine W.regR rfl ?_ | refine W.condK ?_ | refine W.block ?_ | refine W.skip ?_ | refine W.ret ?_ | refine W.exit ?_); try simp (disch := (first | omega | (simp only [World.size_alloc, size_wr, size_drew]; done) | (simp only [World.size_alloc, size_wr, size_drew]; omega) | exact not_noB _)) only [go_sem, ↓reduceIte, Nat.reduceEqDiff, reduceCtorEq, Nat.reduceAdd, Nat.reduceMul, Nat.reduceSub, Nat.reduceLT, Nat.reduceLeDiff, Int.reduceEq, Int.reduceLT, Int.reduceLE, Int.reduceNeg, Int.reduceAdd, Int.reduceSub, Int.reduceMul, Int.reduceToNat, ca_27, fo_30_0, fo_30_1, ld_26, ld_28, ld_3])
      exact ⟨ho.mono (by simp only [World.size_alloc]; omega), hE.trans he⟩
    · have e : flexB flex ver = false := by simp [flexB, h2]
      rw [e] at hlen ⊢
      repeat ((first | refine W.seqR rfl ?_ | refine W.seq ?_ | refine W.regR rfl ?_ | refine W.condK ?_ | refine W.block ?_ | refine W.skip ?_ | refine W.ret ?_ | refine W.exit ?_); try simp (disch := (first | omega | (simp only [World.size_alloc, size_wr, size_drew]; done) | (simp only [World.size_alloc, size_wr, size_drew]; omega) | exact not_noB _)) only [go_sem, ↓reduceIte, Nat.reduceEqDiff, reduceCtorEq, Nat.reduceAdd, Nat.reduceMul, Nat.reduceSub, Nat.reduceLT, Nat.reduceLeDiff, Int.reduceEq, Int.reduceLT, Int.reduceLE, Int.reduceNeg, Int.reduceAdd, Int.reduceSub, Int.reduceMul, Int.reduceToNat, ca_27, fo_30_0, fo_30_1, ld_26, ld_28, ld_3, f0, f1, f2, f3, cellsAt_five, cellsAt_two])
      refine (part_ok (ok := ok) d fs ver false t vs _ _ (hf.keep (hE.keeps _)) hok (ht.keep (hE.keeps _)) hsm hlen).mono ?_
      rintro r w' ⟨ho, he⟩
      repeat ((first | refine W.seqR rfl ?_ | refine W.seq ?_ | refine W.regR rfl ?_ | refine W.condK ?_ | refine W.block ?_ | refine W.skip ?_ | refine W.ret ?_ | refine W.exit ?_); try simp (disch := (first | omega | (simp only [World.size_alloc, size_wr, size_drew]; done) | (simp only [World.size_alloc, size_wr, size_drew]; omega) | exact not_noB _)) only [go_sem, ↓reduceIte, Nat.reduceEqDiff, reduceCtorEq, Nat.reduceAdd, Nat.reduceMul, Nat.reduceSub, Nat.reduceLT, Nat.reduceLeDiff, Int.reduceEq, Int.reduceLT, Int.reduceLE, Int.reduceNeg, Int.reduceAdd, Int.reduceSub, Int.reduceMul, Int.reduceToNat, ca_27, fo_30_0, fo_30_1, ld_26, ld_28, ld_3])
      exact ⟨ho.mono (by simp only [World.size_alloc]; omega), hE.trans he⟩
  · have e : flexB flex ver = false := by simp [flexB, h1]
    rw [e] at hlen ⊢
    repeat ((first | refine W.seqR rfl ?_ | refine W.seq ?_ | refine W.regR rfl ?_ | refine W.condK ?_ | refine W.block ?_ | refine W.skip ?_ | refine W.ret ?_ | refine W.exit ?_); try simp (disch := (first | omega | (simp only [World.size_alloc, size_wr, size_drew]; done) | (simp only [World.size_alloc, size_wr, size_drew]; omega) | exact not_noB _)) only [go_sem, ↓reduceIte, Nat.reduceEqDiff, reduceCtorEq, Nat.reduceAdd, Nat.reduceMul, Nat.reduceSub, Nat.reduceLT, Nat.reduceLeDiff, Int.reduceEq, Int.reduceLT, Int.reduceLE, Int.reduceNeg, Int.reduceAdd, Int.reduceSub, Int.reduceMul, Int.reduceToNat, ca_27, fo_30_0, fo_30_1, ld_26, ld_28, ld_3, f0, f1, f2, f3, cellsAt_five, cellsAt_two])
    refine (part_ok (ok := ok) d fs ver false t vs _ _ (hf.keep (hE.keeps _)) hok (ht.keep (hE.keeps _)) hsm hlen).mono ?_
    rintro r w' ⟨ho, he⟩
    repeat ((first | refine W.seqR rfl ?_ | refine W.seq ?_ | refine W.regR rfl ?_ | refine W.condK ?_ | refine W.block ?_ | refine W.skip ?_ | refine W.ret ?_ | refine W.exit ?_); try simp (disch := (first | omega | (simp only [World.size_alloc, size_wr, size_drew]; done) | (simp only [World.size_alloc, size_wr, size_drew]; omega) | exact not_noB _)) only [go_sem, ↓reduceIte, Nat.reduceEqDiff, reduceCtorEq, Nat.reduceAdd, Nat.reduceMul, Nat.reduceSub, Nat.reduceLT, Nat.reduceLeDiff, Int.reduceEq, Int.reduceLT, Int.reduceLE, Int.reduceNeg, Int.reduceAdd, Int.reduceSub, Int.reduceMul, Int.reduceToNat, ca_27, fo_30_0, fo_30_1, ld_26, ld_28, ld_3])
    exact ⟨ho.mono (by simp only [World.size_alloc]; omega), hE.trans he⟩

theorem Kept_fn {ok : Blocks} {d : Nat} (fs : List Fld) (flex ver : Int) (t : Tree) (vs : Value) (ct : List Value) (w : World) (hf : FldsV ok w vs fs) (hok : okF d fs = true) (ht : TreeC ok w t ct) (hsm : Small 4611686018427387903 t) (hlen : (partS (d + 1) fs ver (flexB flex ver) t).length ≤ 2 ^ 40) :
    Fn Try.prog 10 #[.agg #[vs, .int .i64 flex], .int .i64 ver, .agg ct.toArray] w fun r w' => OwnBy 5 w.heap.size w' r (fixedS ver 2 ++ partS (d + 1) fs ver (flexB flex ver) t) ∧ Ext w w' := by
  obtain ⟨vS, vL, vU, rfl, hn, hS, hL, hU⟩ := ht.inv
  have f0 := SlR.flat hf
  have f1 := hS.flat
  have f2 := SlR.flat hL
  have f3 := SlR.flat hU
  have hE : Ext w ((w.alloc (.cells #[vs, .int .i64 flex] 30)).alloc (.cells #[.int .i64 t.n, vS, .bool t.null, vL, vU] 26)).drew := (Upd.alloc (Upd.alloc (Upd.refl _ _) _) _).drew
  refine fn_of_W Try.func10 rfl Try.results10 Try.ntmps10 rfl ?_
  repeat ((first | refine W.seqR rfl ?_ | refine W.seq ?_ | refine W.regR rfl ?_ | refine W.condK ?_ | refine W.block ?_ | refine W.skip ?_ | refine W.ret ?_ | refine W.exit ?_); try simp (disch := (first | omega | (simp only [World.size_alloc, size_wr, size_drew]; done) | (simp only [World.size_alloc, size_wr, size_drew]; omega) | exact not_noB _)) only [go_sem, ↓reduceIte, Nat.reduceEqDiff, reduceCtorEq, Nat.reduceAdd, Nat.reduceMul, Nat.reduceSub, Nat.reduceLT, Nat.reduceLeDiff, Int.reduceEq, Int.reduceLT, Int.reduceLE, Int.reduceNeg, Int.reduceAdd, Int.reduceSub, Int.reduceMul, Int.reduceToNat, ca_18, ca_19, ld_26, ld_30, f0, f1, f2, f3])
  refine W.drawR (.take 0 (.take 2 (.take 3 (.take 4 (.only 1 (.only 5 (.only 6 (.only 7 .done)))))))) NoB mixed (by kernel_rfl) ?_
  simp (disch := (first | omega | (simp only [World.size_alloc, size_wr, size_drew]; done) | (simp only [World.size_alloc, size_wr, size_drew]; omega) | exact not_noB _)) only [go_sem, ↓reduceIte, Nat.reduceEqDiff, reduceCtorEq, Nat.reduceAdd, Nat.reduceMul, Nat.reduceSub, Nat.reduceLT, Nat.reduceLeDiff, Int.reduceEq, Int.reduceLT, Int.reduceLE, Int.reduceNeg, Int.reduceAdd, Int.reduceSub, Int.reduceMul, Int.reduceToNat, ca_18, ca_19, ld_26, ld_30, f0, f1, f2, f3, cellsAt_five, cellsAt_two]
  refine (Fixed_fn ver 2 (by omega) _).mono ?_
  rintro v4 w4 ⟨ho4, hE4⟩
  have hE04 : Ext w w4 := hE.trans hE4
  have hz4 := hE4.size
  simp only [size_drew, World.size_alloc] at hz4
  refine ⟨hE4, ?_⟩
  refine (Write_fn (ok := ok) fs flex ver t vs _ w4 (hf.keep (hE04.keeps _)) hok (ht.keep (hE04.keeps _)) hsm hlen).mono ?_
  rintro v5 w5 ⟨ho5, hE5⟩
  have hz5 := hE5.size
  have ho45 := ho4.upd hE5 (fun _ _ h => h)
  refine ⟨hE4.trans hE5, ?_⟩
  generalize partS (d + 1) fs ver (flexB flex ver) t = P at *
  have hl2 := fixedS_len ver 2
  refine wp_append ap_22_22 (m := P.length) (news := P.map byteV) (n := (fixedS ver 2).length) (cs := (fixedS ver 2).map byteV) (v := v4) ?_ rfl ho45 (flat_bytes _) ?_ ?_ ?_ ?_
  · simp (disch := (first | omega | (simp only [World.size_alloc, size_wr, size_drew]; done) | (simp only [World.size_alloc, size_wr, size_drew]; omega) | exact not_noB _)) only [go_sem, ↓reduceIte, Nat.reduceEqDiff, reduceCtorEq, Nat.reduceAdd, Nat.reduceMul, Nat.reduceSub, Nat.reduceLT, Nat.reduceLeDiff, Int.reduceEq, Int.reduceLT, Int.reduceLE, Int.reduceNeg, Int.reduceAdd, Int.reduceSub, Int.reduceMul, Int.reduceToNat]
  · simp (disch := (first | omega | (simp only [World.size_alloc, size_wr, size_drew]; done) | (simp only [World.size_alloc, size_wr, size_drew]; omega) | exact not_noB _)) only [go_sem, ↓reduceIte, Nat.reduceEqDiff, reduceCtorEq, Nat.reduceAdd, Nat.reduceMul, Nat.reduceSub, Nat.reduceLT, Nat.reduceLeDiff, Int.reduceEq, Int.reduceLT, Int.reduceLE, Int.reduceNeg, Int.reduceAdd, Int.reduceSub, Int.reduceMul, Int.reduceToNat]
    exact (Own.bytes (ok := AnyB) ho5 fun _ _ => trivial).src
  · simp only [size_drew, World.size_alloc]; omega
  · omega
  intro v' w6 ho6 hu hfr
  have hE56 : Upd NoB ((w.alloc (.cells #[vs, .int .i64 flex] 30)).alloc (.cells #[.int .i64 t.n, vS, .bool t.null, vL, vU] 26)).drew w6 := Ext.own (hE4.trans hE5) ho4 hu
  simp (disch := (first | omega | (simp only [World.size_alloc, size_wr, size_drew]; done) | (simp only [World.size_alloc, size_wr, size_drew]; omega) | exact not_noB _)) only [go_sem, ↓reduceIte, Nat.reduceEqDiff, reduceCtorEq, Nat.reduceAdd, Nat.reduceMul, Nat.reduceSub, Nat.reduceLT, Nat.reduceLeDiff, Int.reduceEq, Int.reduceLT, Int.reduceLE, Int.reduceNeg, Int.reduceAdd, Int.reduceSub, Int.reduceMul, Int.reduceToNat]
  refine ⟨hE56, hE56, ?_⟩
  repeat ((first | refine W.seqR rfl ?_ | refine W.seq ?_ | refine W.regR rfl ?_ | refine W.condK ?_ | refine W.block ?_ | refine W.skip ?_ | refine W.ret ?_ | refine W.exit ?_); try simp (disch := (first | omega | (simp only [World.size_alloc, size_wr, size_drew]; done) | (simp only [World.size_alloc, size_wr, size_drew]; omega) | exact not_noB _)) only [go_sem, ↓reduceIte, Nat.reduceEqDiff, reduceCtorEq, Nat.reduceAdd, Nat.reduceMul, Nat.reduceSub, Nat.reduceLT, Nat.reduceLeDiff, Int.reduceEq, Int.reduceLT, Int.reduceLE, Int.reduceNeg, Int.reduceAdd, Int.reduceSub, Int.reduceMul, Int.reduceToNat, ca_18, ca_19, ld_26, ld_30])
  exact ⟨Own.mono (OwnBy.app (s := fixedS ver 2) (t := P) ho6 rfl) (by simp only [size_drew, World.size_alloc]; omega), hE.trans hE56⟩

theorem zzFits3_fn {ok : Blocks} (t : TagD) (ct : List Value) (w : World) (ht : TagC ok w t ct) : Fn Try.prog 20 #[.agg ct.toArray] w fun r w' => (∃ b, r = .bool b) ∧ Ext w w' := by
  obtain ⟨vv, rfl, hb, h32⟩ := ht
  obtain ⟨bv, cv, rfl, hcv⟩ := hb.shape
  have hE : Ext w (w.alloc (.cells #[.int .u32 t.1, .slice bv t.2.length cv] 53)) := Upd.alloc (Upd.refl _ _) _
  refine fn_of_W Try.func20 rfl Try.results20 Try.ntmps20 rfl ?_
  by_cases h1 : (2147483647 : Int) < (t.2.length : Int)
  · repeat ((first | refine W.seqR rfl ?_ | refine W.seq ?_ | refine W.regR rfl ?_ | refine W.condK ?_ | refine W.block ?_ | refine W.skip ?_ | refine W.ret ?_ | refine W.exit ?_); try simp (disch := (first | omega | (simp only [World.size_alloc, size_wr, size_drew]; done) | (simp only [World.size_alloc, size_wr, size_drew]; omega) | exact not_noB _)) only [go_sem, ↓reduceIte, Nat.reduceEqDiff, reduceCtorEq, Nat.reduceAdd, Nat.reduceMul, Nat.reduceSub, Nat.reduceLT, Nat.reduceLeDiff, Int.reduceEq, Int.reduceLT, Int.reduceLE, Int.reduceNeg, Int.reduceAdd, Int.reduceSub, Int.reduceMul, Int.reduceToNat, fo_53_1, ld_22, sl_22])
    exact ⟨⟨_, rfl⟩, hE⟩
  · repeat ((first | refine W.seqR rfl ?_ | refine W.seq ?_ | refine W.regR rfl ?_ | refine W.condK ?_ | refine W.block ?_ | refine W.skip ?_ | refine W.ret ?_ | refine W.exit ?_); try simp (disch := (first | omega | (simp only [World.size_alloc, size_wr, size_drew]; done) | (simp only [World.size_alloc, size_wr, size_drew]; omega) | exact not_noB _)) only [go_sem, ↓reduceIte, Nat.reduceEqDiff, reduceCtorEq, Nat.reduceAdd, Nat.reduceMul, Nat.reduceSub, Nat.reduceLT, Nat.reduceLeDiff, Int.reduceEq, Int.reduceLT, Int.reduceLE, Int.reduceNeg, Int.reduceAdd, Int.reduceSub, Int.reduceMul, Int.reduceToNat, fo_53_1, ld_22, sl_22])
    exact ⟨⟨_, rfl⟩, hE⟩

theorem zzFits2_fn {ok : Blocks} (l : List TagD) (vl : Value) (w : World) (hl : TagsV ok w vl l) (hlen : l.length ≤ 4611686018427387903) : Fn Try.prog 11 #[vl] w fun r w' => (∃ b, r = .bool b) ∧ Ext w w' := by
  obtain ⟨base, cap, rfl, hcap⟩ := SlR.shape hl
  refine fn_of_W Try.func11 rfl Try.results11 Try.ntmps11 rfl ?_
  by_cases h1 : (2147483647 : Int) < (l.length : Int)
  · repeat ((first | refine W.seqR rfl ?_ | refine W.seq ?_ | refine W.regR rfl ?_ | refine W.condK ?_ | refine W.block ?_ | refine W.skip ?_ | refine W.ret ?_ | refine W.exit ?_); try simp (disch := (first | omega | (simp only [World.size_alloc, size_wr, size_drew]; done) | (simp only [World.size_alloc, size_wr, size_drew]; omega) | exact not_noB _)) only [go_sem, ↓reduceIte, Nat.reduceEqDiff, reduceCtorEq, Nat.reduceAdd, Nat.reduceMul, Nat.reduceSub, Nat.reduceLT, Nat.reduceLeDiff, Int.reduceEq, Int.reduceLT, Int.reduceLE, Int.reduceNeg, Int.reduceAdd, Int.reduceSub, Int.reduceMul, Int.reduceToNat, ca_20, es_24, ld_53, sl_24, sz_53, z_53])
    exact ⟨⟨_, rfl⟩, Upd.refl _ _⟩
  · repeat ((first | refine W.seqR rfl ?_ | refine W.seq ?_ | refine W.regR rfl ?_ | refine W.condK ?_ | refine W.block ?_ | refine W.skip ?_ | refine W.ret ?_ | refine W.exit ?_); try simp (disch := (first | omega | (simp only [World.size_alloc, size_wr, size_drew]; done) | (simp only [World.size_alloc, size_wr, size_drew]; omega) | exact not_noB _)) only [go_sem, ↓reduceIte, Nat.reduceEqDiff, reduceCtorEq, Nat.reduceAdd, Nat.reduceMul, Nat.reduceSub, Nat.reduceLT, Nat.reduceLeDiff, Int.reduceEq, Int.reduceLT, Int.reduceLE, Int.reduceNeg, Int.reduceAdd, Int.reduceSub, Int.reduceMul, Int.reduceToNat, ca_20, es_24, ld_53, sl_24, sz_53, z_53])
    refine W.loop (fun ρ w' => ∃ j : Nat, j ≤ l.length ∧ ρ 10 = .int .i64 j ∧ ρ 9 = .int .i64 l.length ∧ ρ 8 = .slice base l.length cap ∧ Ext w w')
      (fun ρ _ => l.length - (RowKit.intOf (ρ 10)).toNat) ?_ ?_
    · refine ⟨0, Nat.zero_le _, ?_, ?_, ?_, Upd.refl _ _⟩ <;> simp (disch := (first | omega | (simp only [World.size_alloc, size_wr, size_drew]; done) | (simp only [World.size_alloc, size_wr, size_drew]; omega) | exact not_noB _)) only [go_sem, ↓reduceIte, Nat.reduceEqDiff, reduceCtorEq, Nat.reduceAdd, Nat.reduceMul, Nat.reduceSub, Nat.reduceLT, Nat.reduceLeDiff, Int.reduceEq, Int.reduceLT, Int.reduceLE, Int.reduceNeg, Int.reduceAdd, Int.reduceSub, Int.reduceMul, Int.reduceToNat]
      all_goals rfl
    · rintro ρ w1 ⟨j, hj, h10, h9, h8, hext⟩
      by_cases hlt : j < l.length
      · obtain ⟨_, b, o, x, vv, hb, hokb, hx, hblt, hxs, hxe, _, _, hfv, hbv, h32⟩ := TagsV.get hl hlt
        subst hb
        have hx1 : blk w1 b = some x := hext.blk_some hx id
        generalize l[j] = u at *
        have hE2 : Ext w1 (wr (w1.alloc (.cells #[.int .u32 0, .slice none 0 0] 53)) w1.heap.size 0 [.int .u32 u.1, vv]) := (Upd.alloc (Upd.refl _ _) _).wr _ _ (.inl (Nat.le_refl _))
        have hb2 : blk (wr (w1.alloc (.cells #[.int .u32 0, .slice none 0 0] 53)) w1.heap.size 0 [.int .u32 u.1, vv]) w1.heap.size = some (#[.int .u32 u.1, vv], 53, (0, 0)) := by simp (disch := (first | omega | (simp only [World.size_alloc, size_wr, size_drew]; done) | (simp only [World.size_alloc, size_wr, size_drew]; omega) | exact not_noB _)) only [go_sem, ↓reduceIte, Nat.reduceEqDiff, reduceCtorEq, Nat.reduceAdd, Nat.reduceMul, Nat.reduceSub, Nat.reduceLT, Nat.reduceLeDiff, Int.reduceEq, Int.reduceLT, Int.reduceLE, Int.reduceNeg, Int.reduceAdd, Int.reduceSub, Int.reduceMul, Int.reduceToNat]
        repeat ((first | refine W.seqR rfl ?_ | refine W.seq ?_ | refine W.regR rfl ?_ | refine W.condK ?_ | refine W.block ?_ | refine W.skip ?_ | refine W.ret ?_ | refine W.exit ?_); try simp (disch := (first | omega | (simp only [World.size_alloc, size_wr, size_drew]; done) | (simp only [World.size_alloc, size_wr, size_drew]; omega) | exact not_noB _)) only [go_sem, ↓reduceIte, Nat.reduceEqDiff, reduceCtorEq, Nat.reduceAdd, Nat.reduceMul, Nat.reduceSub, Nat.reduceLT, Nat.reduceLeDiff, Int.reduceEq, Int.reduceLT, Int.reduceLE, Int.reduceNeg, Int.reduceAdd, Int.reduceSub, Int.reduceMul, Int.reduceToNat, ca_20, es_24, ld_53, sl_24, sz_53, z_53, h10, h9, h8, hx1, hxe, hfv, cellsAt_two, Int.toNat_natCast])
        generalize (wr (w1.alloc (.cells #[.int .u32 0, .slice none 0 0] 53)) w1.heap.size 0 [.int .u32 u.1, vv]) = w2 at *
        refine (zzFits3_fn (ok := ok) u _ w2 ⟨vv, rfl, hbv.keep (Ext.keeps (hext.trans hE2) _), h32⟩).mono ?_
        rintro r w3 ⟨⟨bb, rfl⟩, hE3⟩
        have hE03 : Ext w w3 := (hext.trans hE2).trans hE3
        cases bb with
        | true =>
          simp (disch := (first | omega | (simp only [World.size_alloc, size_wr, size_drew]; done) | (simp only [World.size_alloc, size_wr, size_drew]; omega) | exact not_noB _)) only [go_sem, ↓reduceIte, Nat.reduceEqDiff, reduceCtorEq, Nat.reduceAdd, Nat.reduceMul, Nat.reduceSub, Nat.reduceLT, Nat.reduceLeDiff, Int.reduceEq, Int.reduceLT, Int.reduceLE, Int.reduceNeg, Int.reduceAdd, Int.reduceSub, Int.reduceMul, Int.reduceToNat]
          repeat ((first | refine W.seqR rfl ?_ | refine W.seq ?_ | refine W.regR rfl ?_ | refine W.condK ?_ | refine W.block ?_ | refine W.skip ?_ | refine W.ret ?_ | refine W.exit ?_); try simp (disch := (first | omega | (simp only [World.size_alloc, size_wr, size_drew]; done) | (simp only [World.size_alloc, size_wr, size_drew]; omega) | exact not_noB _)) only [go_sem, ↓reduceIte, Nat.reduceEqDiff, reduceCtorEq, Nat.reduceAdd, Nat.reduceMul, Nat.reduceSub, Nat.reduceLT, Nat.reduceLeDiff, Int.reduceEq, Int.reduceLT, Int.reduceLE, Int.reduceNeg, Int.reduceAdd, Int.reduceSub, Int.reduceMul, Int.reduceToNat, ca_20, es_24, ld_53, sl_24, sz_53, z_53, h10])
          refine ⟨⟨j + 1, by omega, rfl, h9, h8, hE03⟩, ?_⟩
          simp only [RowKit.intOf]; omega
        | false =>
          simp (disch := (first | omega | (simp only [World.size_alloc, size_wr, size_drew]; done) | (simp only [World.size_alloc, size_wr, size_drew]; omega) | exact not_noB _)) only [go_sem, ↓reduceIte, Nat.reduceEqDiff, reduceCtorEq, Nat.reduceAdd, Nat.reduceMul, Nat.reduceSub, Nat.reduceLT, Nat.reduceLeDiff, Int.reduceEq, Int.reduceLT, Int.reduceLE, Int.reduceNeg, Int.reduceAdd, Int.reduceSub, Int.reduceMul, Int.reduceToNat]
          repeat ((first | refine W.seqR rfl ?_ | refine W.seq ?_ | refine W.regR rfl ?_ | refine W.condK ?_ | refine W.block ?_ | refine W.skip ?_ | refine W.ret ?_ | refine W.exit ?_); try simp (disch := (first | omega | (simp only [World.size_alloc, size_wr, size_drew]; done) | (simp only [World.size_alloc, size_wr, size_drew]; omega) | exact not_noB _)) only [go_sem, ↓reduceIte, Nat.reduceEqDiff, reduceCtorEq, Nat.reduceAdd, Nat.reduceMul, Nat.reduceSub, Nat.reduceLT, Nat.reduceLeDiff, Int.reduceEq, Int.reduceLT, Int.reduceLE, Int.reduceNeg, Int.reduceAdd, Int.reduceSub, Int.reduceMul, Int.reduceToNat, ca_20, es_24, ld_53, sl_24, sz_53, z_53, h10])
          exact ⟨⟨_, rfl⟩, hE03⟩
      · repeat ((first | refine W.seqR rfl ?_ | refine W.seq ?_ | refine W.regR rfl ?_ | refine W.condK ?_ | refine W.block ?_ | refine W.skip ?_ | refine W.ret ?_ | refine W.exit ?_); try simp (disch := (first | omega | (simp only [World.size_alloc, size_wr, size_drew]; done) | (simp only [World.size_alloc, size_wr, size_drew]; omega) | exact not_noB _)) only [go_sem, ↓reduceIte, Nat.reduceEqDiff, reduceCtorEq, Nat.reduceAdd, Nat.reduceMul, Nat.reduceSub, Nat.reduceLT, Nat.reduceLeDiff, Int.reduceEq, Int.reduceLT, Int.reduceLE, Int.reduceNeg, Int.reduceAdd, Int.reduceSub, Int.reduceMul, Int.reduceToNat, ca_20, es_24, ld_53, sl_24, sz_53, z_53, h10, h9])
        exact ⟨⟨_, rfl⟩, hext⟩

theorem zzFits1_fn {ok : Blocks} (t : Tree) (ct : List Value) (w : World) (ht : TreeC ok w t ct) (hsm : Small 4611686018427387903 t) : Fn Try.prog 4 #[.agg ct.toArray] w fun r w' => (∃ b, r = .bool b) ∧ Ext w w' := by
  obtain ⟨vS, vL, vU, rfl, hn, hS, hL, hU⟩ := ht.inv
  obtain ⟨bS, cS, rfl, hcS⟩ := hS.shape
  obtain ⟨bl, cl, rfl, hcl⟩ := SlR.shape hL
  have f3 := SlR.flat hU
  have hE : Ext w (w.alloc (.cells #[.int .i64 t.n, .slice bS t.s.length cS, .bool t.null, .slice bl t.l.length cl, vU] 26)) := Upd.alloc (Upd.refl _ _) _
  refine fn_of_W Try.func4 rfl Try.results4 Try.ntmps4 rfl ?_
  by_cases h1 : (2147483647 : Int) < (t.s.length : Int)
  · repeat ((first | refine W.seqR rfl ?_ | refine W.seq ?_ | refine W.regR rfl ?_ | refine W.condK ?_ | refine W.block ?_ | refine W.skip ?_ | refine W.ret ?_ | refine W.exit ?_); try simp (disch := (first | omega | (simp only [World.size_alloc, size_wr, size_drew]; done) | (simp only [World.size_alloc, size_wr, size_drew]; omega) | exact not_noB _)) only [go_sem, ↓reduceIte, Nat.reduceEqDiff, reduceCtorEq, Nat.reduceAdd, Nat.reduceMul, Nat.reduceSub, Nat.reduceLT, Nat.reduceLeDiff, Int.reduceEq, Int.reduceLT, Int.reduceLE, Int.reduceNeg, Int.reduceAdd, Int.reduceSub, Int.reduceMul, Int.reduceToNat, ca_11, fo_26_1, fo_26_3, fo_26_4, ld_22, ld_23, ld_24, sl_22, sl_23, f3])
    exact ⟨⟨_, rfl⟩, hE⟩
  by_cases h2 : (2147483647 : Int) < (t.l.length : Int)
  · repeat ((first | refine W.seqR rfl ?_ | refine W.seq ?_ | refine W.regR rfl ?_ | refine W.condK ?_ | refine W.block ?_ | refine W.skip ?_ | refine W.ret ?_ | refine W.exit ?_); try simp (disch := (first | omega | (simp only [World.size_alloc, size_wr, size_drew]; done) | (simp only [World.size_alloc, size_wr, size_drew]; omega) | exact not_noB _)) only [go_sem, ↓reduceIte, Nat.reduceEqDiff, reduceCtorEq, Nat.reduceAdd, Nat.reduceMul, Nat.reduceSub, Nat.reduceLT, Nat.reduceLeDiff, Int.reduceEq, Int.reduceLT, Int.reduceLE, Int.reduceNeg, Int.reduceAdd, Int.reduceSub, Int.reduceMul, Int.reduceToNat, ca_11, fo_26_1, fo_26_3, fo_26_4, ld_22, ld_23, ld_24, sl_22, sl_23, f3])
    exact ⟨⟨_, rfl⟩, hE⟩
  repeat ((first | refine W.seqR rfl ?_ | refine W.seq ?_ | refine W.regR rfl ?_ | refine W.condK ?_ | refine W.block ?_ | refine W.skip ?_ | refine W.ret ?_ | refine W.exit ?_); try simp (disch := (first | omega | (simp only [World.size_alloc, size_wr, size_drew]; done) | (simp only [World.size_alloc, size_wr, size_drew]; omega) | exact not_noB _)) only [go_sem, ↓reduceIte, Nat.reduceEqDiff, reduceCtorEq, Nat.reduceAdd, Nat.reduceMul, Nat.reduceSub, Nat.reduceLT, Nat.reduceLeDiff, Int.reduceEq, Int.reduceLT, Int.reduceLE, Int.reduceNeg, Int.reduceAdd, Int.reduceSub, Int.reduceMul, Int.reduceToNat, ca_11, fo_26_1, fo_26_3, fo_26_4, ld_22, ld_23, ld_24, sl_22, sl_23, f3])
  refine (zzFits2_fn (ok := ok) t.u vU _ (hU.keep (hE.keeps _)) hsm.u).mono ?_
  rintro r w3 ⟨⟨bb, rfl⟩, hE3⟩
  cases bb with
  | true =>
    simp (disch := (first | omega | (simp only [World.size_alloc, size_wr, size_drew]; done) | (simp only [World.size_alloc, size_wr, size_drew]; omega) | exact not_noB _)) only [go_sem, ↓reduceIte, Nat.reduceEqDiff, reduceCtorEq, Nat.reduceAdd, Nat.reduceMul, Nat.reduceSub, Nat.reduceLT, Nat.reduceLeDiff, Int.reduceEq, Int.reduceLT, Int.reduceLE, Int.reduceNeg, Int.reduceAdd, Int.reduceSub, Int.reduceMul, Int.reduceToNat]
    repeat ((first | refine W.seqR rfl ?_ | refine W.seq ?_ | refine W.regR rfl ?_ | refine W.condK ?_ | refine W.block ?_ | refine W.skip ?_ | refine W.ret ?_ | refine W.exit ?_); try simp (disch := (first | omega | (simp only [World.size_alloc, size_wr, size_drew]; done) | (simp only [World.size_alloc, size_wr, size_drew]; omega) | exact not_noB _)) only [go_sem, ↓reduceIte, Nat.reduceEqDiff, reduceCtorEq, Nat.reduceAdd, Nat.reduceMul, Nat.reduceSub, Nat.reduceLT, Nat.reduceLeDiff, Int.reduceEq, Int.reduceLT, Int.reduceLE, Int.reduceNeg, Int.reduceAdd, Int.reduceSub, Int.reduceMul, Int.reduceToNat, ca_11, fo_26_1, fo_26_3, fo_26_4, ld_22, ld_23, ld_24, sl_22, sl_23])
    exact ⟨⟨_, rfl⟩, hE.trans hE3⟩
  | false =>
    simp (disch := (first | omega | (simp only [World.size_alloc, size_wr, size_drew]; done) | (simp only [World.size_alloc, size_wr, size_drew]; omega) | exact not_noB _)) only [go_sem, ↓reduceIte, Nat.reduceEqDiff, reduceCtorEq, Nat.reduceAdd, Nat.reduceMul, Nat.reduceSub, Nat.reduceLT, Nat.reduceLeDiff, Int.reduceEq, Int.reduceLT, Int.reduceLE, Int.reduceNeg, Int.reduceAdd, Int.reduceSub, Int.reduceMul, Int.reduceToNat]
    repeat ((first | refine W.seqR rfl ?_ | refine W.seq ?_ | refine W.regR rfl ?_ | refine W.condK ?_ | refine W.block ?_ | refine W.skip ?_ | refine W.ret ?_ | refine W.exit ?_); try simp (disch := (first | omega | (simp only [World.size_alloc, size_wr, size_drew]; done) | (simp only [World.size_alloc, size_wr, size_drew]; omega) | exact not_noB _)) only [go_sem, ↓reduceIte, Nat.reduceEqDiff, reduceCtorEq, Nat.reduceAdd, Nat.reduceMul, Nat.reduceSub, Nat.reduceLT, Nat.reduceLeDiff, Int.reduceEq, Int.reduceLT, Int.reduceLE, Int.reduceNeg, Int.reduceAdd, Int.reduceSub, Int.reduceMul, Int.reduceToNat, ca_11, fo_26_1, fo_26_3, fo_26_4, ld_22, ld_23, ld_24, sl_22, sl_23])
    exact ⟨⟨_, rfl⟩, hE.trans hE3⟩
end Ms
