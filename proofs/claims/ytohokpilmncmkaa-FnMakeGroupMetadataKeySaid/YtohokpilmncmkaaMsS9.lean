/- A part of the proof: see the last text. -/
import Derived.Test.YtohokpilmncmkaaMsS8
set_option linter.unusedSimpArgs false
set_option linter.unusedVariables false
namespace Ms
open Go Go.Proofs
attribute [local congr] W_congr WPsq_congr WPp_congr optK_congr addrK_congr intK_congr boolK_congr sliceK_congr tupleK_congr funcK_congr Fn_congr rawK_congr takeK_congr stepK_congr convK_congr aggK_congr

/-- What a proof of 'part' gives, d levels down. -/
def PartOk (ok : Blocks) (d : Nat) (pt : List Fld → Int → Bool → Tree → List UInt8) : Prop :=
  ∀ (fs : List Fld) (ver : Int) (flex : Bool) (t : Tree) (vs : Value) (ct : List Value) (w : World), FldsV ok w vs fs → okF d fs = true → TreeC ok w t ct → Small 4611686018427387903 t → (pt fs ver flex t).length ≤ 2 ^ 40 →
    Fn Try.prog 27 #[vs, .int .i64 ver, .bool flex, .agg ct.toArray] w fun r w' => OwnBy 5 w.heap.size w' r (pt fs ver flex t) ∧ Ext w w'

theorem value_ok {ok : Blocks} {d : Nat} {pt : List Fld → Int → Bool → Tree → List UInt8} (hp : PartOk ok d pt) (kind : Int) (sub : List Fld) (null : Bool) (ver : Int) (flex : Bool) (t : Tree) (vs : Value) (ct : List Value) (w : World) (hs : FldsV ok w vs sub) (hok : okF d sub = true) (ht : TreeC ok w t ct) (hsm : Small 4611686018427387903 t)
    (hlen : (valueS pt kind sub null ver flex t).length ≤ 2 ^ 40) :
    Fn Try.prog 34 #[.int .i64 kind, vs, .bool null, .int .i64 ver, .bool flex, .agg ct.toArray] w fun r w' => OwnBy 5 w.heap.size w' r (valueS pt kind sub null ver flex t) ∧ Ext w w' := by
  refine value_fn pt kind sub null ver flex t vs ct w hs ht hsm hlen ?_
  intro h10 w' he
  subst h10
  have e : (valueS pt 10 sub null ver flex t) = pt sub ver flex t := by simp [valueS]
  rw [e] at hlen
  exact hp sub ver flex t vs ct w' (hs.keep (he.keeps _)) hok (ht.keep (he.keeps _)) hsm hlen

theorem field_kd {ok : Blocks} {d : Nat} {pt : List Fld → Int → Bool → Tree → List UInt8} (hp : PartOk ok d pt) (f : Fld) (ver : Int) (flex : Bool) (t : Tree) (cf ct : List Value) (w : World) (hf : FldC ok w f cf) (hok : okF d f.sub = true) (ht : TreeC ok w t ct) (hsm : Small 4611686018427387903 t)
    (hlen : (fieldS pt f ver flex t).length ≤ 2 ^ 40) (h11 : f.kind ≠ 11) (h10 : ¬ (f.kind = 10 ∧ 0 ≤ f.null)) :
    Fn Try.prog 30 #[.agg cf.toArray, .int .i64 ver, .bool flex, .agg ct.toArray] w fun r w' => OwnBy 5 w.heap.size w' r (fieldS pt f ver flex t) ∧ Ext w w' := by
  obtain ⟨vs, rfl, hsub⟩ := hf.inv
  obtain ⟨vS, vL, vU, rfl, hn, hS, hL, hU⟩ := ht.inv
  have hl1 := hsm.s
  have hl2 := hsm.l
  have f0 := SlR.flat hsub
  have f1 := hS.flat
  have f2 := SlR.flat hL
  have f3 := SlR.flat hU
  have hE : Ext w ((w.alloc (.cells #[.int .i64 f.kind, .int .i64 f.fr, .int .i64 f.to, .int .i64 f.null, .int .i64 f.tag, .int .i64 f.df, .int .i64 f.of, vs] 44)).alloc (.cells #[.int .i64 t.n, vS, .bool t.null, vL, vU] 26)) := Upd.alloc (Upd.alloc (Upd.refl _ _) _) _
  refine fn_of_W Try.func30 rfl Try.results30 Try.ntmps30 rfl ?_
  repeat ((first | refine W.seqR rfl ?_ | refine W.seq ?_ | refine W.regR rfl ?_ | refine W.condK ?_ | refine W.block ?_ | refine W.skip ?_ | refine W.ret ?_ | refine W.exit ?_); try simp (disch := (first | omega | (simp only [World.size_alloc, size_wr, size_drew]; done) | (simp only [World.size_alloc, size_wr, size_drew]; omega) | exact not_noB _)) only [go_sem, ↓reduceIte, Nat.reduceEqDiff, reduceCtorEq, Nat.reduceAdd, Nat.reduceMul, Nat.reduceSub, Nat.reduceLT, Nat.reduceLeDiff, Int.reduceEq, Int.reduceLT, Int.reduceLE, Int.reduceNeg, Int.reduceAdd, Int.reduceSub, Int.reduceMul, Int.reduceToNat, ca_18, ca_24, ca_25, ca_27, ca_33, ca_34, es_23, fo_26_3, fo_44_0, fo_44_3, fo_44_6, fo_44_7, ld_23, ld_26, ld_28, ld_3, ld_44, sl_23, f0, f1, f2, f3, cellsAt_five, cellsAt_eight])
  have hb0 : blk ((w.alloc (.cells #[.int .i64 f.kind, .int .i64 f.fr, .int .i64 f.to, .int .i64 f.null, .int .i64 f.tag, .int .i64 f.df, .int .i64 f.of, vs] 44)).alloc (.cells #[.int .i64 t.n, vS, .bool t.null, vL, vU] 26)) w.heap.size = some (#[.int .i64 f.kind, .int .i64 f.fr, .int .i64 f.to, .int .i64 f.null, .int .i64 f.tag, .int .i64 f.df, .int .i64 f.of, vs], 44, (0, 0)) := by
    rw [blk_alloc_old (by simp only [World.size_alloc]; omega), blk_alloc_new rfl]
  have hb1 : blk ((w.alloc (.cells #[.int .i64 f.kind, .int .i64 f.fr, .int .i64 f.to, .int .i64 f.null, .int .i64 f.tag, .int .i64 f.df, .int .i64 f.of, vs] 44)).alloc (.cells #[.int .i64 t.n, vS, .bool t.null, vL, vU] 26)) (w.heap.size + 1) = some (#[.int .i64 t.n, vS, .bool t.null, vL, vU], 26, (0, 0)) := by
    rw [blk_alloc_new (by simp only [World.size_alloc])]
  have hz2 : ((w.alloc (.cells #[.int .i64 f.kind, .int .i64 f.fr, .int .i64 f.to, .int .i64 f.null, .int .i64 f.tag, .int .i64 f.df, .int .i64 f.of, vs] 44)).alloc (.cells #[.int .i64 t.n, vS, .bool t.null, vL, vU] 26)).heap.size = w.heap.size + 2 := by simp only [World.size_alloc]
  generalize ((w.alloc (.cells #[.int .i64 f.kind, .int .i64 f.fr, .int .i64 f.to, .int .i64 f.null, .int .i64 f.tag, .int .i64 f.df, .int .i64 f.of, vs] 44)).alloc (.cells #[.int .i64 t.n, vS, .bool t.null, vL, vU] 26)) = w2 at *
  refine (Null_fn f ver t _ _ w2 (FldC.of (hsub.keep (hE.keeps _))) (ht.keep (hE.keeps _))).mono ?_
  rintro v3 w3 ⟨rfl, hE3⟩
  have hE03 : Ext w w3 := hE.trans hE3
  have hz3 := hE3.size
  have hb03 := hE3.blk_some hb0 id
  have hb13 := hE3.blk_some hb1 id
  have e : fieldS pt f ver flex t = valueS pt f.kind f.sub (nullS f ver t) ver flex t := by simp [fieldS, h11, h10]
  rw [e] at hlen ⊢
  by_cases hk : f.kind = 10
  · have hn0 : ¬ 0 ≤ f.null := fun h => h10 ⟨hk, h⟩
    have g1 : (f.kind == 10) = true := by simp [hk]
    repeat ((first | refine W.seqR rfl ?_ | refine W.seq ?_ | refine W.regR rfl ?_ | refine W.condK ?_ | refine W.block ?_ | refine W.skip ?_ | refine W.ret ?_ | refine W.exit ?_); try simp (disch := (first | omega | (simp only [World.size_alloc, size_wr, size_drew]; done) | (simp only [World.size_alloc, size_wr, size_drew]; omega) | exact not_noB _)) only [go_sem, ↓reduceIte, Nat.reduceEqDiff, reduceCtorEq, Nat.reduceAdd, Nat.reduceMul, Nat.reduceSub, Nat.reduceLT, Nat.reduceLeDiff, Int.reduceEq, Int.reduceLT, Int.reduceLE, Int.reduceNeg, Int.reduceAdd, Int.reduceSub, Int.reduceMul, Int.reduceToNat, ca_18, ca_24, ca_25, ca_27, ca_33, ca_34, es_23, fo_26_3, fo_44_0, fo_44_3, fo_44_6, fo_44_7, ld_23, ld_26, ld_28, ld_3, ld_44, sl_23, hb03, hb13, cellsAt_five])
    refine (value_ok hp f.kind f.sub (nullS f ver t) ver flex t vs _ w3 (hsub.keep (hE03.keeps _)) hok (ht.keep (hE03.keeps _)) hsm hlen).mono ?_
    rintro v4 w4 ⟨ho4, hE4⟩
    repeat ((first | refine W.seqR rfl ?_ | refine W.seq ?_ | refine W.regR rfl ?_ | refine W.condK ?_ | refine W.block ?_ | refine W.skip ?_ | refine W.ret ?_ | refine W.exit ?_); try simp (disch := (first | omega | (simp only [World.size_alloc, size_wr, size_drew]; done) | (simp only [World.size_alloc, size_wr, size_drew]; omega) | exact not_noB _)) only [go_sem, ↓reduceIte, Nat.reduceEqDiff, reduceCtorEq, Nat.reduceAdd, Nat.reduceMul, Nat.reduceSub, Nat.reduceLT, Nat.reduceLeDiff, Int.reduceEq, Int.reduceLT, Int.reduceLE, Int.reduceNeg, Int.reduceAdd, Int.reduceSub, Int.reduceMul, Int.reduceToNat, ca_18, ca_24, ca_25, ca_27, ca_33, ca_34, es_23, fo_26_3, fo_44_0, fo_44_3, fo_44_6, fo_44_7, ld_23, ld_26, ld_28, ld_3, ld_44, sl_23])
    exact ⟨ho4.mono (by omega), hE03.trans hE4⟩
  · repeat ((first | refine W.seqR rfl ?_ | refine W.seq ?_ | refine W.regR rfl ?_ | refine W.condK ?_ | refine W.block ?_ | refine W.skip ?_ | refine W.ret ?_ | refine W.exit ?_); try simp (disch := (first | omega | (simp only [World.size_alloc, size_wr, size_drew]; done) | (simp only [World.size_alloc, size_wr, size_drew]; omega) | exact not_noB _)) only [go_sem, ↓reduceIte, Nat.reduceEqDiff, reduceCtorEq, Nat.reduceAdd, Nat.reduceMul, Nat.reduceSub, Nat.reduceLT, Nat.reduceLeDiff, Int.reduceEq, Int.reduceLT, Int.reduceLE, Int.reduceNeg, Int.reduceAdd, Int.reduceSub, Int.reduceMul, Int.reduceToNat, ca_18, ca_24, ca_25, ca_27, ca_33, ca_34, es_23, fo_26_3, fo_44_0, fo_44_3, fo_44_6, fo_44_7, ld_23, ld_26, ld_28, ld_3, ld_44, sl_23, hb03, hb13, cellsAt_five])
    refine (value_ok hp f.kind f.sub (nullS f ver t) ver flex t vs _ w3 (hsub.keep (hE03.keeps _)) hok (ht.keep (hE03.keeps _)) hsm hlen).mono ?_
    rintro v4 w4 ⟨ho4, hE4⟩
    repeat ((first | refine W.seqR rfl ?_ | refine W.seq ?_ | refine W.regR rfl ?_ | refine W.condK ?_ | refine W.block ?_ | refine W.skip ?_ | refine W.ret ?_ | refine W.exit ?_); try simp (disch := (first | omega | (simp only [World.size_alloc, size_wr, size_drew]; done) | (simp only [World.size_alloc, size_wr, size_drew]; omega) | exact not_noB _)) only [go_sem, ↓reduceIte, Nat.reduceEqDiff, reduceCtorEq, Nat.reduceAdd, Nat.reduceMul, Nat.reduceSub, Nat.reduceLT, Nat.reduceLeDiff, Int.reduceEq, Int.reduceLT, Int.reduceLE, Int.reduceNeg, Int.reduceAdd, Int.reduceSub, Int.reduceMul, Int.reduceToNat, ca_18, ca_24, ca_25, ca_27, ca_33, ca_34, es_23, fo_26_3, fo_44_0, fo_44_3, fo_44_6, fo_44_7, ld_23, ld_26, ld_28, ld_3, ld_44, sl_23])
    exact ⟨ho4.mono (by omega), hE03.trans hE4⟩

theorem field_k10 {ok : Blocks} {d : Nat} {pt : List Fld → Int → Bool → Tree → List UInt8} (hp : PartOk ok d pt) (f : Fld) (ver : Int) (flex : Bool) (t : Tree) (cf ct : List Value) (w : World) (hf : FldC ok w f cf) (hok : okF d f.sub = true) (ht : TreeC ok w t ct) (hsm : Small 4611686018427387903 t)
    (hlen : (fieldS pt f ver flex t).length ≤ 2 ^ 40) (h10 : f.kind = 10) (hn0 : 0 ≤ f.null) :
    Fn Try.prog 30 #[.agg cf.toArray, .int .i64 ver, .bool flex, .agg ct.toArray] w fun r w' => OwnBy 5 w.heap.size w' r (fieldS pt f ver flex t) ∧ Ext w w' := by
  obtain ⟨vs, rfl, hsub⟩ := hf.inv
  obtain ⟨vS, vL, vU, rfl, hn, hS, hL, hU⟩ := ht.inv
  have hl1 := hsm.s
  have hl2 := hsm.l
  have f0 := SlR.flat hsub
  have f1 := hS.flat
  have f2 := SlR.flat hL
  have f3 := SlR.flat hU
  have hE : Ext w ((w.alloc (.cells #[.int .i64 f.kind, .int .i64 f.fr, .int .i64 f.to, .int .i64 f.null, .int .i64 f.tag, .int .i64 f.df, .int .i64 f.of, vs] 44)).alloc (.cells #[.int .i64 t.n, vS, .bool t.null, vL, vU] 26)) := Upd.alloc (Upd.alloc (Upd.refl _ _) _) _
  refine fn_of_W Try.func30 rfl Try.results30 Try.ntmps30 rfl ?_
  repeat ((first | refine W.seqR rfl ?_ | refine W.seq ?_ | refine W.regR rfl ?_ | refine W.condK ?_ | refine W.block ?_ | refine W.skip ?_ | refine W.ret ?_ | refine W.exit ?_); try simp (disch := (first | omega | (simp only [World.size_alloc, size_wr, size_drew]; done) | (simp only [World.size_alloc, size_wr, size_drew]; omega) | exact not_noB _)) only [go_sem, ↓reduceIte, Nat.reduceEqDiff, reduceCtorEq, Nat.reduceAdd, Nat.reduceMul, Nat.reduceSub, Nat.reduceLT, Nat.reduceLeDiff, Int.reduceEq, Int.reduceLT, Int.reduceLE, Int.reduceNeg, Int.reduceAdd, Int.reduceSub, Int.reduceMul, Int.reduceToNat, ca_18, ca_24, ca_25, ca_27, ca_33, ca_34, es_23, fo_26_3, fo_44_0, fo_44_3, fo_44_6, fo_44_7, ld_23, ld_26, ld_28, ld_3, ld_44, sl_23, f0, f1, f2, f3, cellsAt_five, cellsAt_eight])
  have hb0 : blk ((w.alloc (.cells #[.int .i64 f.kind, .int .i64 f.fr, .int .i64 f.to, .int .i64 f.null, .int .i64 f.tag, .int .i64 f.df, .int .i64 f.of, vs] 44)).alloc (.cells #[.int .i64 t.n, vS, .bool t.null, vL, vU] 26)) w.heap.size = some (#[.int .i64 f.kind, .int .i64 f.fr, .int .i64 f.to, .int .i64 f.null, .int .i64 f.tag, .int .i64 f.df, .int .i64 f.of, vs], 44, (0, 0)) := by
    rw [blk_alloc_old (by simp only [World.size_alloc]; omega), blk_alloc_new rfl]
  have hb1 : blk ((w.alloc (.cells #[.int .i64 f.kind, .int .i64 f.fr, .int .i64 f.to, .int .i64 f.null, .int .i64 f.tag, .int .i64 f.df, .int .i64 f.of, vs] 44)).alloc (.cells #[.int .i64 t.n, vS, .bool t.null, vL, vU] 26)) (w.heap.size + 1) = some (#[.int .i64 t.n, vS, .bool t.null, vL, vU], 26, (0, 0)) := by
    rw [blk_alloc_new (by simp only [World.size_alloc])]
  have hz2 : ((w.alloc (.cells #[.int .i64 f.kind, .int .i64 f.fr, .int .i64 f.to, .int .i64 f.null, .int .i64 f.tag, .int .i64 f.df, .int .i64 f.of, vs] 44)).alloc (.cells #[.int .i64 t.n, vS, .bool t.null, vL, vU] 26)).heap.size = w.heap.size + 2 := by simp only [World.size_alloc]
  generalize ((w.alloc (.cells #[.int .i64 f.kind, .int .i64 f.fr, .int .i64 f.to, .int .i64 f.null, .int .i64 f.tag, .int .i64 f.df, .int .i64 f.of, vs] 44)).alloc (.cells #[.int .i64 t.n, vS, .bool t.null, vL, vU] 26)) = w2 at *
  refine (Null_fn f ver t _ _ w2 (FldC.of (hsub.keep (hE.keeps _))) (ht.keep (hE.keeps _))).mono ?_
  rintro v3 w3 ⟨rfl, hE3⟩
  have hE03 : Ext w w3 := hE.trans hE3
  have hz3 := hE3.size
  have hb03 := hE3.blk_some hb0 id
  have hb13 := hE3.blk_some hb1 id
  have h11 : f.kind ≠ 11 := by omega
  cases hnul : nullS f ver t with
  | true =>
    repeat ((first | refine W.seqR rfl ?_ | refine W.seq ?_ | refine W.regR rfl ?_ | refine W.condK ?_ | refine W.block ?_ | refine W.skip ?_ | refine W.ret ?_ | refine W.exit ?_); try simp (disch := (first | omega | (simp only [World.size_alloc, size_wr, size_drew]; done) | (simp only [World.size_alloc, size_wr, size_drew]; omega) | exact not_noB _)) only [go_sem, ↓reduceIte, Nat.reduceEqDiff, reduceCtorEq, Nat.reduceAdd, Nat.reduceMul, Nat.reduceSub, Nat.reduceLT, Nat.reduceLeDiff, Int.reduceEq, Int.reduceLT, Int.reduceLE, Int.reduceNeg, Int.reduceAdd, Int.reduceSub, Int.reduceMul, Int.reduceToNat, ca_18, ca_24, ca_25, ca_27, ca_33, ca_34, es_23, fo_26_3, fo_44_0, fo_44_3, fo_44_6, fo_44_7, ld_23, ld_26, ld_28, ld_3, ld_44, sl_23, hb03, hb13, hnul])
    refine (Fixed_fn (-1) 1 (by omega) _).mono ?_
    rintro v4 w4 ⟨ho4, hE4⟩
    repeat ((first | refine W.seqR rfl ?_ | refine W.seq ?_ | refine W.regR rfl ?_ | refine W.condK ?_ | refine W.block ?_ | refine W.skip ?_ | refine W.ret ?_ | refine W.exit ?_); try simp (disch := (first | omega | (simp only [World.size_alloc, size_wr, size_drew]; done) | (simp only [World.size_alloc, size_wr, size_drew]; omega) | exact not_noB _)) only [go_sem, ↓reduceIte, Nat.reduceEqDiff, reduceCtorEq, Nat.reduceAdd, Nat.reduceMul, Nat.reduceSub, Nat.reduceLT, Nat.reduceLeDiff, Int.reduceEq, Int.reduceLT, Int.reduceLE, Int.reduceNeg, Int.reduceAdd, Int.reduceSub, Int.reduceMul, Int.reduceToNat, ca_18, ca_24, ca_25, ca_27, ca_33, ca_34, es_23, fo_26_3, fo_44_0, fo_44_3, fo_44_6, fo_44_7, ld_23, ld_26, ld_28, ld_3, ld_44, sl_23])
    refine ⟨?_, hE03.trans hE4⟩
    simp only [fieldS, h10, hn0, hnul]
    exact ho4.mono (by omega)
  | false =>
    repeat ((first | refine W.seqR rfl ?_ | refine W.seq ?_ | refine W.regR rfl ?_ | refine W.condK ?_ | refine W.block ?_ | refine W.skip ?_ | refine W.ret ?_ | refine W.exit ?_); try simp (disch := (first | omega | (simp only [World.size_alloc, size_wr, size_drew]; done) | (simp only [World.size_alloc, size_wr, size_drew]; omega) | exact not_noB _)) only [go_sem, ↓reduceIte, Nat.reduceEqDiff, reduceCtorEq, Nat.reduceAdd, Nat.reduceMul, Nat.reduceSub, Nat.reduceLT, Nat.reduceLeDiff, Int.reduceEq, Int.reduceLT, Int.reduceLE, Int.reduceNeg, Int.reduceAdd, Int.reduceSub, Int.reduceMul, Int.reduceToNat, ca_18, ca_24, ca_25, ca_27, ca_33, ca_34, es_23, fo_26_3, fo_44_0, fo_44_3, fo_44_6, fo_44_7, ld_23, ld_26, ld_28, ld_3, ld_44, sl_23, hb03, hb13, hnul])
    have hlp : (pt f.sub ver flex t).length ≤ 2 ^ 40 := by
      simp [fieldS, h10, hn0, hnul] at hlen; omega
    refine W.drawR (.take 1 (.take 2 (.take 3 (.take 4 (.take 5 (.only 0 (.only 6 (.only 7 (.only 8 .done))))))))) NoB mixed (by kernel_rfl) ?_
    simp (disch := (first | omega | (simp only [World.size_alloc, size_wr, size_drew]; done) | (simp only [World.size_alloc, size_wr, size_drew]; omega) | exact not_noB _)) only [go_sem, ↓reduceIte, Nat.reduceEqDiff, reduceCtorEq, Nat.reduceAdd, Nat.reduceMul, Nat.reduceSub, Nat.reduceLT, Nat.reduceLeDiff, Int.reduceEq, Int.reduceLT, Int.reduceLE, Int.reduceNeg, Int.reduceAdd, Int.reduceSub, Int.reduceMul, Int.reduceToNat, ca_18, ca_24, ca_25, ca_27, ca_33, ca_34, es_23, fo_26_3, fo_44_0, fo_44_3, fo_44_6, fo_44_7, ld_23, ld_26, ld_28, ld_3, ld_44, sl_23, hb03, hb13, cellsAt_five]
    have hE3d : Ext w w3.drew := hE03.drew
    refine (Fixed_fn 1 1 (by omega) _).mono ?_
    rintro v4 w4 ⟨ho4, hE4⟩
    have hE04 : Ext w w4 := hE3d.trans hE4
    have hsz4 := hE4.size
    simp only [size_drew] at hsz4
    refine ⟨hE4, ?_⟩
    refine (hp f.sub ver flex t vs _ w4 (hsub.keep (hE04.keeps _)) hok (ht.keep (hE04.keeps _)) hsm hlp).mono ?_
    rintro v5 w5 ⟨ho5, hE5⟩
    have hsz5 := hE5.size
    have ho45 := ho4.upd hE5 (fun _ _ h => h)
    refine ⟨hE4.trans hE5, ?_⟩
    refine wp_append ap_22_22 (m := (pt f.sub ver flex t).length) (news := (pt f.sub ver flex t).map byteV) (n := (fixedS 1 1).length) (cs := (fixedS 1 1).map byteV) (v := v4) ?_ rfl (ho45.mono (B' := w.heap.size) (by simp only [size_drew]; omega)) (flat_bytes _) ?_ ?_ ?_ ?_
    · simp (disch := (first | omega | (simp only [World.size_alloc, size_wr, size_drew]; done) | (simp only [World.size_alloc, size_wr, size_drew]; omega) | exact not_noB _)) only [go_sem, ↓reduceIte, Nat.reduceEqDiff, reduceCtorEq, Nat.reduceAdd, Nat.reduceMul, Nat.reduceSub, Nat.reduceLT, Nat.reduceLeDiff, Int.reduceEq, Int.reduceLT, Int.reduceLE, Int.reduceNeg, Int.reduceAdd, Int.reduceSub, Int.reduceMul, Int.reduceToNat]
    · simp (disch := (first | omega | (simp only [World.size_alloc, size_wr, size_drew]; done) | (simp only [World.size_alloc, size_wr, size_drew]; omega) | exact not_noB _)) only [go_sem, ↓reduceIte, Nat.reduceEqDiff, reduceCtorEq, Nat.reduceAdd, Nat.reduceMul, Nat.reduceSub, Nat.reduceLT, Nat.reduceLeDiff, Int.reduceEq, Int.reduceLT, Int.reduceLE, Int.reduceNeg, Int.reduceAdd, Int.reduceSub, Int.reduceMul, Int.reduceToNat]
      exact (Own.bytes (ok := AnyB) ho5 fun _ _ => trivial).src
    · omega
    · rw [fixedS_len]; omega
    intro v' w6 ho6 hu hfr
    have hE56 : Upd NoB w3.drew w6 := Ext.own (hE4.trans hE5) ho4 hu
    simp (disch := (first | omega | (simp only [World.size_alloc, size_wr, size_drew]; done) | (simp only [World.size_alloc, size_wr, size_drew]; omega) | exact not_noB _)) only [go_sem, ↓reduceIte, Nat.reduceEqDiff, reduceCtorEq, Nat.reduceAdd, Nat.reduceMul, Nat.reduceSub, Nat.reduceLT, Nat.reduceLeDiff, Int.reduceEq, Int.reduceLT, Int.reduceLE, Int.reduceNeg, Int.reduceAdd, Int.reduceSub, Int.reduceMul, Int.reduceToNat]
    refine ⟨hE56, hE56, ?_⟩
    repeat ((first | refine W.seqR rfl ?_ | refine W.seq ?_ | refine W.regR rfl ?_ | refine W.condK ?_ | refine W.block ?_ | refine W.skip ?_ | refine W.ret ?_ | refine W.exit ?_); try simp (disch := (first | omega | (simp only [World.size_alloc, size_wr, size_drew]; done) | (simp only [World.size_alloc, size_wr, size_drew]; omega) | exact not_noB _)) only [go_sem, ↓reduceIte, Nat.reduceEqDiff, reduceCtorEq, Nat.reduceAdd, Nat.reduceMul, Nat.reduceSub, Nat.reduceLT, Nat.reduceLeDiff, Int.reduceEq, Int.reduceLT, Int.reduceLE, Int.reduceNeg, Int.reduceAdd, Int.reduceSub, Int.reduceMul, Int.reduceToNat, ca_18, ca_24, ca_25, ca_27, ca_33, ca_34, es_23, fo_26_3, fo_44_0, fo_44_3, fo_44_6, fo_44_7, ld_23, ld_26, ld_28, ld_3, ld_44, sl_23])
    refine ⟨?_, hE3d.trans hE56⟩
    simp only [fieldS, h10, hn0, hnul]
    exact OwnBy.app (s := fixedS 1 1) (t := pt f.sub ver flex t) ho6 (by simp)

theorem field_k11 {ok : Blocks} {d : Nat} {pt : List Fld → Int → Bool → Tree → List UInt8} (hp : PartOk ok d pt) (f : Fld) (ver : Int) (flex : Bool) (t : Tree) (cf ct : List Value) (w : World) (hf : FldC ok w f cf) (hok : okF d f.sub = true) (ht : TreeC ok w t ct) (hsm : Small 4611686018427387903 t)
    (hlen : (fieldS pt f ver flex t).length ≤ 2 ^ 40) (h11 : f.kind = 11) :
    Fn Try.prog 30 #[.agg cf.toArray, .int .i64 ver, .bool flex, .agg ct.toArray] w fun r w' => OwnBy 5 w.heap.size w' r (fieldS pt f ver flex t) ∧ Ext w w' := by
  obtain ⟨vs, rfl, hsub⟩ := hf.inv
  obtain ⟨vS, vL, vU, rfl, hn, hS, hL, hU⟩ := ht.inv
  have hl1 := hsm.s
  have hl2 := hsm.l
  have f0 := SlR.flat hsub
  have f1 := hS.flat
  have f2 := SlR.flat hL
  have f3 := SlR.flat hU
  have hE : Ext w ((w.alloc (.cells #[.int .i64 f.kind, .int .i64 f.fr, .int .i64 f.to, .int .i64 f.null, .int .i64 f.tag, .int .i64 f.df, .int .i64 f.of, vs] 44)).alloc (.cells #[.int .i64 t.n, vS, .bool t.null, vL, vU] 26)) := Upd.alloc (Upd.alloc (Upd.refl _ _) _) _
  refine fn_of_W Try.func30 rfl Try.results30 Try.ntmps30 rfl ?_
  repeat ((first | refine W.seqR rfl ?_ | refine W.seq ?_ | refine W.regR rfl ?_ | refine W.condK ?_ | refine W.block ?_ | refine W.skip ?_ | refine W.ret ?_ | refine W.exit ?_); try simp (disch := (first | omega | (simp only [World.size_alloc, size_wr, size_drew]; done) | (simp only [World.size_alloc, size_wr, size_drew]; omega) | exact not_noB _)) only [go_sem, ↓reduceIte, Nat.reduceEqDiff, reduceCtorEq, Nat.reduceAdd, Nat.reduceMul, Nat.reduceSub, Nat.reduceLT, Nat.reduceLeDiff, Int.reduceEq, Int.reduceLT, Int.reduceLE, Int.reduceNeg, Int.reduceAdd, Int.reduceSub, Int.reduceMul, Int.reduceToNat, ca_18, ca_24, ca_25, ca_27, ca_33, ca_34, es_23, fo_26_3, fo_44_0, fo_44_3, fo_44_6, fo_44_7, ld_23, ld_26, ld_28, ld_3, ld_44, sl_23, f0, f1, f2, f3, cellsAt_five, cellsAt_eight])
  have hb0 : blk ((w.alloc (.cells #[.int .i64 f.kind, .int .i64 f.fr, .int .i64 f.to, .int .i64 f.null, .int .i64 f.tag, .int .i64 f.df, .int .i64 f.of, vs] 44)).alloc (.cells #[.int .i64 t.n, vS, .bool t.null, vL, vU] 26)) w.heap.size = some (#[.int .i64 f.kind, .int .i64 f.fr, .int .i64 f.to, .int .i64 f.null, .int .i64 f.tag, .int .i64 f.df, .int .i64 f.of, vs], 44, (0, 0)) := by
    rw [blk_alloc_old (by simp only [World.size_alloc]; omega), blk_alloc_new rfl]
  have hb1 : blk ((w.alloc (.cells #[.int .i64 f.kind, .int .i64 f.fr, .int .i64 f.to, .int .i64 f.null, .int .i64 f.tag, .int .i64 f.df, .int .i64 f.of, vs] 44)).alloc (.cells #[.int .i64 t.n, vS, .bool t.null, vL, vU] 26)) (w.heap.size + 1) = some (#[.int .i64 t.n, vS, .bool t.null, vL, vU], 26, (0, 0)) := by
    rw [blk_alloc_new (by simp only [World.size_alloc])]
  have hz2 : ((w.alloc (.cells #[.int .i64 f.kind, .int .i64 f.fr, .int .i64 f.to, .int .i64 f.null, .int .i64 f.tag, .int .i64 f.df, .int .i64 f.of, vs] 44)).alloc (.cells #[.int .i64 t.n, vS, .bool t.null, vL, vU] 26)).heap.size = w.heap.size + 2 := by simp only [World.size_alloc]
  generalize ((w.alloc (.cells #[.int .i64 f.kind, .int .i64 f.fr, .int .i64 f.to, .int .i64 f.null, .int .i64 f.tag, .int .i64 f.df, .int .i64 f.of, vs] 44)).alloc (.cells #[.int .i64 t.n, vS, .bool t.null, vL, vU] 26)) = w2 at *
  refine (Null_fn f ver t _ _ w2 (FldC.of (hsub.keep (hE.keeps _))) (ht.keep (hE.keeps _))).mono ?_
  rintro v3 w3 ⟨rfl, hE3⟩
  have hE03 : Ext w w3 := hE.trans hE3
  have hz3 := hE3.size
  have hb03 := hE3.blk_some hb0 id
  have hb13 := hE3.blk_some hb1 id
  obtain ⟨vl0, cl0, rfl, hcl0⟩ := SlR.shape hL
  repeat ((first | refine W.seqR rfl ?_ | refine W.seq ?_ | refine W.regR rfl ?_ | refine W.condK ?_ | refine W.block ?_ | refine W.skip ?_ | refine W.ret ?_ | refine W.exit ?_); try simp (disch := (first | omega | (simp only [World.size_alloc, size_wr, size_drew]; done) | (simp only [World.size_alloc, size_wr, size_drew]; omega) | exact not_noB _)) only [go_sem, ↓reduceIte, Nat.reduceEqDiff, reduceCtorEq, Nat.reduceAdd, Nat.reduceMul, Nat.reduceSub, Nat.reduceLT, Nat.reduceLeDiff, Int.reduceEq, Int.reduceLT, Int.reduceLE, Int.reduceNeg, Int.reduceAdd, Int.reduceSub, Int.reduceMul, Int.reduceToNat, ca_18, ca_24, ca_25, ca_27, ca_33, ca_34, es_23, fo_26_3, fo_44_0, fo_44_3, fo_44_6, fo_44_7, ld_23, ld_26, ld_28, ld_3, ld_44, sl_23, hb03, hb13])
  refine (things_fn t.l _ w3 (hL.keep (hE03.keeps _))).mono ?_
  rintro v4 w4 ⟨hL4, hw43⟩
  obtain rfl := hw43.symm
  obtain ⟨bl, cl, rfl, hcl⟩ := SlR.shape hL4
  have hlt : (thingsS t.l).length ≤ 32767 := by simp only [thingsS, List.length_take]; omega
  have hsml : ∀ x ∈ thingsS t.l, Small 4611686018427387903 x := fun x hx => by
    obtain ⟨i, hi, rfl⟩ := List.getElem_of_mem (List.mem_of_mem_take hx)
    exact hsm.e i hi
  cases hnul : nullS f ver t with
  | true =>
    repeat ((first | refine W.seqR rfl ?_ | refine W.seq ?_ | refine W.regR rfl ?_ | refine W.condK ?_ | refine W.block ?_ | refine W.skip ?_ | refine W.ret ?_ | refine W.exit ?_); try simp (disch := (first | omega | (simp only [World.size_alloc, size_wr, size_drew]; done) | (simp only [World.size_alloc, size_wr, size_drew]; omega) | exact not_noB _)) only [go_sem, ↓reduceIte, Nat.reduceEqDiff, reduceCtorEq, Nat.reduceAdd, Nat.reduceMul, Nat.reduceSub, Nat.reduceLT, Nat.reduceLeDiff, Int.reduceEq, Int.reduceLT, Int.reduceLE, Int.reduceNeg, Int.reduceAdd, Int.reduceSub, Int.reduceMul, Int.reduceToNat, ca_18, ca_24, ca_25, ca_27, ca_33, ca_34, es_23, fo_26_3, fo_44_0, fo_44_3, fo_44_6, fo_44_7, ld_23, ld_26, ld_28, ld_3, ld_44, sl_23, hnul])
    refine (counted_fn flex true 0 4 (by omega) (by omega) _).mono ?_
    rintro v5 w5 ⟨ho5, hE5⟩
    have hcl5 := countedS_len flex true 0 4 (by omega) (by omega)
    repeat ((first | refine W.seqR rfl ?_ | refine W.seq ?_ | refine W.regR rfl ?_ | refine W.condK ?_ | refine W.block ?_ | refine W.skip ?_ | refine W.ret ?_ | refine W.exit ?_); try simp (disch := (first | omega | (simp only [World.size_alloc, size_wr, size_drew]; done) | (simp only [World.size_alloc, size_wr, size_drew]; omega) | exact not_noB _)) only [go_sem, ↓reduceIte, Nat.reduceEqDiff, reduceCtorEq, Nat.reduceAdd, Nat.reduceMul, Nat.reduceSub, Nat.reduceLT, Nat.reduceLeDiff, Int.reduceEq, Int.reduceLT, Int.reduceLE, Int.reduceNeg, Int.reduceAdd, Int.reduceSub, Int.reduceMul, Int.reduceToNat, ca_18, ca_24, ca_25, ca_27, ca_33, ca_34, es_23, fo_26_3, fo_44_0, fo_44_3, fo_44_6, fo_44_7, ld_23, ld_26, ld_28, ld_3, ld_44, sl_23])
    refine W.exitJ 0 (fun ρ' w' => ρ' 11 = v5 ∧ w' = w5) (W.loop (fun ρ' w' => ρ' 11 = v5 ∧ w' = w5 ∧ ρ' 31 = .int .i64 0 ∧ ρ' 30 = .int .i64 0) (fun _ _ => 0) ?_ ?_) ?_
    · refine ⟨?_, rfl, ?_, ?_⟩ <;> simp (disch := (first | omega | (simp only [World.size_alloc, size_wr, size_drew]; done) | (simp only [World.size_alloc, size_wr, size_drew]; omega) | exact not_noB _)) only [go_sem, ↓reduceIte, Nat.reduceEqDiff, reduceCtorEq, Nat.reduceAdd, Nat.reduceMul, Nat.reduceSub, Nat.reduceLT, Nat.reduceLeDiff, Int.reduceEq, Int.reduceLT, Int.reduceLE, Int.reduceNeg, Int.reduceAdd, Int.reduceSub, Int.reduceMul, Int.reduceToNat]
      all_goals rfl
    · rintro ρ6 w6 ⟨h6, rfl, h31, h30⟩
      repeat ((first | refine W.seqR rfl ?_ | refine W.seq ?_ | refine W.regR rfl ?_ | refine W.condK ?_ | refine W.block ?_ | refine W.skip ?_ | refine W.ret ?_ | refine W.exit ?_); try simp (disch := (first | omega | (simp only [World.size_alloc, size_wr, size_drew]; done) | (simp only [World.size_alloc, size_wr, size_drew]; omega) | exact not_noB _)) only [go_sem, ↓reduceIte, Nat.reduceEqDiff, reduceCtorEq, Nat.reduceAdd, Nat.reduceMul, Nat.reduceSub, Nat.reduceLT, Nat.reduceLeDiff, Int.reduceEq, Int.reduceLT, Int.reduceLE, Int.reduceNeg, Int.reduceAdd, Int.reduceSub, Int.reduceMul, Int.reduceToNat, ca_18, ca_24, ca_25, ca_27, ca_33, ca_34, es_23, fo_26_3, fo_44_0, fo_44_3, fo_44_6, fo_44_7, ld_23, ld_26, ld_28, ld_3, ld_44, sl_23, h31, h30])
      exact h6
    · rintro ρ6 w6 ⟨h6, rfl⟩
      simp (disch := (first | omega | (simp only [World.size_alloc, size_wr, size_drew]; done) | (simp only [World.size_alloc, size_wr, size_drew]; omega) | exact not_noB _)) only [go_sem, ↓reduceIte, Nat.reduceEqDiff, reduceCtorEq, Nat.reduceAdd, Nat.reduceMul, Nat.reduceSub, Nat.reduceLT, Nat.reduceLeDiff, Int.reduceEq, Int.reduceLT, Int.reduceLE, Int.reduceNeg, Int.reduceAdd, Int.reduceSub, Int.reduceMul, Int.reduceToNat]
      repeat ((first | refine W.seqR rfl ?_ | refine W.seq ?_ | refine W.regR rfl ?_ | refine W.condK ?_ | refine W.block ?_ | refine W.skip ?_ | refine W.ret ?_ | refine W.exit ?_); try simp (disch := (first | omega | (simp only [World.size_alloc, size_wr, size_drew]; done) | (simp only [World.size_alloc, size_wr, size_drew]; omega) | exact not_noB _)) only [go_sem, ↓reduceIte, Nat.reduceEqDiff, reduceCtorEq, Nat.reduceAdd, Nat.reduceMul, Nat.reduceSub, Nat.reduceLT, Nat.reduceLeDiff, Int.reduceEq, Int.reduceLT, Int.reduceLE, Int.reduceNeg, Int.reduceAdd, Int.reduceSub, Int.reduceMul, Int.reduceToNat, ca_18, ca_24, ca_25, ca_27, ca_33, ca_34, es_23, fo_26_3, fo_44_0, fo_44_3, fo_44_6, fo_44_7, ld_23, ld_26, ld_28, ld_3, ld_44, sl_23, h6])
      refine ⟨?_, hE03.trans hE5⟩
      have e : fieldS pt f ver flex t = countedS flex true 0 4 := by simp [fieldS, h11, hnul]
      rw [e]
      exact ho5.mono (by omega)
  | false =>
    repeat ((first | refine W.seqR rfl ?_ | refine W.seq ?_ | refine W.regR rfl ?_ | refine W.condK ?_ | refine W.block ?_ | refine W.skip ?_ | refine W.ret ?_ | refine W.exit ?_); try simp (disch := (first | omega | (simp only [World.size_alloc, size_wr, size_drew]; done) | (simp only [World.size_alloc, size_wr, size_drew]; omega) | exact not_noB _)) only [go_sem, ↓reduceIte, Nat.reduceEqDiff, reduceCtorEq, Nat.reduceAdd, Nat.reduceMul, Nat.reduceSub, Nat.reduceLT, Nat.reduceLeDiff, Int.reduceEq, Int.reduceLT, Int.reduceLE, Int.reduceNeg, Int.reduceAdd, Int.reduceSub, Int.reduceMul, Int.reduceToNat, ca_18, ca_24, ca_25, ca_27, ca_33, ca_34, es_23, fo_26_3, fo_44_0, fo_44_3, fo_44_6, fo_44_7, ld_23, ld_26, ld_28, ld_3, ld_44, sl_23, hnul])
    refine (counted_fn flex false (thingsS t.l).length 4 (by omega) (by omega) _).mono ?_
    rintro v5 w5 ⟨ho5, hE5⟩
    have hcl5 := countedS_len flex false (thingsS t.l).length 4 (by omega) (by omega)
    have hz5 := hE5.size
    have e : fieldS pt f ver flex t = countedS flex false (thingsS t.l).length 4 ++ (thingsS t.l).flatMap fun x => valueS pt f.of f.sub false ver flex x := by simp [fieldS, h11, hnul]
    rw [e] at hlen ⊢
    repeat ((first | refine W.seqR rfl ?_ | refine W.seq ?_ | refine W.regR rfl ?_ | refine W.condK ?_ | refine W.block ?_ | refine W.skip ?_ | refine W.ret ?_ | refine W.exit ?_); try simp (disch := (first | omega | (simp only [World.size_alloc, size_wr, size_drew]; done) | (simp only [World.size_alloc, size_wr, size_drew]; omega) | exact not_noB _)) only [go_sem, ↓reduceIte, Nat.reduceEqDiff, reduceCtorEq, Nat.reduceAdd, Nat.reduceMul, Nat.reduceSub, Nat.reduceLT, Nat.reduceLeDiff, Int.reduceEq, Int.reduceLT, Int.reduceLE, Int.reduceNeg, Int.reduceAdd, Int.reduceSub, Int.reduceMul, Int.reduceToNat, ca_18, ca_24, ca_25, ca_27, ca_33, ca_34, es_23, fo_26_3, fo_44_0, fo_44_3, fo_44_6, fo_44_7, ld_23, ld_26, ld_28, ld_3, ld_44, sl_23])
    have hb05 := hE5.blk_some hb03 id
    generalize thingsS t.l = L at *
    generalize countedS flex false L.length 4 = hd at *
    refine W.loop (fun ρ w' => ∃ (j : Nat) (v : Value), j ≤ L.length ∧ ρ 31 = .int .i64 j ∧ ρ 30 = .int .i64 L.length ∧ ρ 10 = .slice bl L.length cl ∧ ρ 4 = .pointer (some ⟨w.heap.size, 0, none⟩) ∧ ρ 1 = .int .i64 ver ∧ ρ 2 = .bool flex ∧ ρ 11 = v ∧
        OwnBy 5 w3.heap.size w' v (hd ++ (L.take j).flatMap fun x => valueS pt f.of f.sub false ver flex x) ∧ Ext w3 w')
      (fun ρ _ => L.length - (RowKit.intOf (ρ 31)).toNat) ?_ ?_
    · refine ⟨0, v5, Nat.zero_le _, ?_, ?_, ?_, ?_, ?_, ?_, ?_, ?_, hE5⟩
      · simp (disch := (first | omega | (simp only [World.size_alloc, size_wr, size_drew]; done) | (simp only [World.size_alloc, size_wr, size_drew]; omega) | exact not_noB _)) only [go_sem, ↓reduceIte, Nat.reduceEqDiff, reduceCtorEq, Nat.reduceAdd, Nat.reduceMul, Nat.reduceSub, Nat.reduceLT, Nat.reduceLeDiff, Int.reduceEq, Int.reduceLT, Int.reduceLE, Int.reduceNeg, Int.reduceAdd, Int.reduceSub, Int.reduceMul, Int.reduceToNat]
        rfl
      iterate 6 (· simp (disch := (first | omega | (simp only [World.size_alloc, size_wr, size_drew]; done) | (simp only [World.size_alloc, size_wr, size_drew]; omega) | exact not_noB _)) only [go_sem, ↓reduceIte, Nat.reduceEqDiff, reduceCtorEq, Nat.reduceAdd, Nat.reduceMul, Nat.reduceSub, Nat.reduceLT, Nat.reduceLeDiff, Int.reduceEq, Int.reduceLT, Int.reduceLE, Int.reduceNeg, Int.reduceAdd, Int.reduceSub, Int.reduceMul, Int.reduceToNat])
      · simpa using ho5
    · rintro ρ6 w6 ⟨j, v6, hj, h31, h30, h10, h4, h1, h2, h11', ho6, hE6⟩
      have hz6 := hE6.size
      by_cases hlt2 : j < L.length
      · obtain ⟨_, b, o, x, vS', vL', vU', hb, hokb, hx, hblt, hxs, hxe, g1, g2, g3, hc⟩ := TreesV.get hL4 hlt2
        subst hb
        have hx6 : blk w6 b = some x := hE6.blk_some hx id
        have hb06 : blk w6 w.heap.size = _ := hE6.blk_some hb03 id
        have hcat : (hd ++ (L.take (j + 1)).flatMap fun x => valueS pt f.of f.sub false ver flex x) = (hd ++ (L.take j).flatMap fun x => valueS pt f.of f.sub false ver flex x) ++ valueS pt f.of f.sub false ver flex L[j] := by
          rw [List.take_succ_eq_append_getElem hlt2]
          simp only [List.flatMap_append, List.flatMap_cons, List.flatMap_nil, List.append_nil, List.append_assoc]
        have hle : ((hd ++ (L.take j).flatMap fun x => valueS pt f.of f.sub false ver flex x).length + (valueS pt f.of f.sub false ver flex L[j]).length) ≤ 2 ^ 40 := by
          have h : (L.flatMap fun x => valueS pt f.of f.sub false ver flex x) = ((L.take (j + 1)).flatMap fun x => valueS pt f.of f.sub false ver flex x) ++ ((L.drop (j + 1)).flatMap fun x => valueS pt f.of f.sub false ver flex x) := by
            rw [← List.flatMap_append, List.take_append_drop]
          rw [h, ← List.append_assoc, hcat] at hlen
          simp only [List.length_append] at hlen ⊢; omega
        have hnb : ∀ b, b < w3.heap.size → ¬ ownB v6 b := fun b hb h => by have := Own.above ho6 h; omega
        repeat ((first | refine W.seqR rfl ?_ | refine W.seq ?_ | refine W.regR rfl ?_ | refine W.condK ?_ | refine W.block ?_ | refine W.skip ?_ | refine W.ret ?_ | refine W.exit ?_); try simp (disch := (first | omega | (simp only [World.size_alloc, size_wr, size_drew]; done) | (simp only [World.size_alloc, size_wr, size_drew]; omega) | exact not_noB _)) only [go_sem, ↓reduceIte, Nat.reduceEqDiff, reduceCtorEq, Nat.reduceAdd, Nat.reduceMul, Nat.reduceSub, Nat.reduceLT, Nat.reduceLeDiff, Int.reduceEq, Int.reduceLT, Int.reduceLE, Int.reduceNeg, Int.reduceAdd, Int.reduceSub, Int.reduceMul, Int.reduceToNat, ca_18, ca_24, ca_25, ca_27, ca_33, ca_34, es_23, fo_26_3, fo_44_0, fo_44_3, fo_44_6, fo_44_7, ld_23, ld_26, ld_28, ld_3, ld_44, sl_23, h31, h30])
        refine W.drawR (.take 0 (.take 1 (.take 2 (.take 3 (.take 4 (.take 5 (.take 6 (.take 7 (.take 8 (.take 9 (.take 10 (.only 11 (.only 12 (.only 13 .done)))))))))))))) (ownB v6) mixed (by kernel_rfl) ?_
        simp (disch := (first | omega | (simp only [World.size_alloc, size_wr, size_drew]; done) | (simp only [World.size_alloc, size_wr, size_drew]; omega) | exact not_noB _ | (refine hnb _ ?_; omega) | (refine hnb _ ?_; simp only [World.size_alloc, size_wr, size_drew]; done) | (refine hnb _ ?_; simp only [World.size_alloc, size_wr, size_drew]; omega))) only [go_sem, ↓reduceIte, Nat.reduceEqDiff, reduceCtorEq, Nat.reduceAdd, Nat.reduceMul, Nat.reduceSub, Nat.reduceLT, Nat.reduceLeDiff, Int.reduceEq, Int.reduceLT, Int.reduceLE, Int.reduceNeg, Int.reduceAdd, Int.reduceSub, Int.reduceMul, Int.reduceToNat, ca_18, ca_24, ca_25, ca_27, ca_33, ca_34, es_23, fo_26_3, fo_44_0, fo_44_3, fo_44_6, fo_44_7, ld_23, ld_26, ld_28, ld_3, ld_44, sl_23, h31, h10, h4, h1, h2, h11', hx6, hxe, hb06, Int.toNat_natCast]
        have hE6d : Ext w3 w6.drew := hE6.drew
        have hE06 : Ext w w6.drew := hE03.trans hE6d
        refine (value_ok hp f.of f.sub false ver flex L[j] vs _ _ (hsub.keep (hE06.keeps _)) hok (hc.keep (hE6d.keeps _)) (hsml _ (List.getElem_mem hlt2)) (by omega)).mono ?_
        rintro v7 w7 ⟨ho7, hE7⟩
        refine ⟨hE7.mono (fun _ h => h.elim), ?_⟩
        have hz7 := hE7.size
        simp only [size_drew] at hz7
        have ho67 := (ho6.upd (Upd.refl (fun _ => False) _).drew (fun _ _ h => h)).upd hE7 (fun _ _ h => h)
        generalize hs6 : (hd ++ (L.take j).flatMap fun x => valueS pt f.of f.sub false ver flex x) = s6 at *
        generalize hs7 : valueS pt f.of f.sub false ver flex L[j] = s7 at *
        refine wp_append ap_22_22 (m := s7.length) (news := s7.map byteV) (n := s6.length) (cs := s6.map byteV) (v := v6) ?_ rfl ho67 (flat_bytes _) ?_ ?_ ?_ ?_
        · simp (disch := (first | omega | (simp only [World.size_alloc, size_wr, size_drew]; done) | (simp only [World.size_alloc, size_wr, size_drew]; omega) | exact not_noB _)) only [go_sem, ↓reduceIte, Nat.reduceEqDiff, reduceCtorEq, Nat.reduceAdd, Nat.reduceMul, Nat.reduceSub, Nat.reduceLT, Nat.reduceLeDiff, Int.reduceEq, Int.reduceLT, Int.reduceLE, Int.reduceNeg, Int.reduceAdd, Int.reduceSub, Int.reduceMul, Int.reduceToNat, h11']
        · simp (disch := (first | omega | (simp only [World.size_alloc, size_wr, size_drew]; done) | (simp only [World.size_alloc, size_wr, size_drew]; omega) | exact not_noB _)) only [go_sem, ↓reduceIte, Nat.reduceEqDiff, reduceCtorEq, Nat.reduceAdd, Nat.reduceMul, Nat.reduceSub, Nat.reduceLT, Nat.reduceLeDiff, Int.reduceEq, Int.reduceLT, Int.reduceLE, Int.reduceNeg, Int.reduceAdd, Int.reduceSub, Int.reduceMul, Int.reduceToNat]
          exact (Own.bytes (ok := AnyB) ho7 fun _ _ => trivial).src
        · omega
        · omega
        intro v' w8 ho8 hu hfr
        have hE8 : Ext w3 w8 := Ext.own (hE6d.trans hE7) ho6 hu
        have hM8 : Upd (ownB v6) w6.drew w8 := (hE7.mono (fun _ h => h.elim)).trans hu
        simp (disch := (first | omega | (simp only [World.size_alloc, size_wr, size_drew]; done) | (simp only [World.size_alloc, size_wr, size_drew]; omega) | exact not_noB _)) only [go_sem, ↓reduceIte, Nat.reduceEqDiff, reduceCtorEq, Nat.reduceAdd, Nat.reduceMul, Nat.reduceSub, Nat.reduceLT, Nat.reduceLeDiff, Int.reduceEq, Int.reduceLT, Int.reduceLE, Int.reduceNeg, Int.reduceAdd, Int.reduceSub, Int.reduceMul, Int.reduceToNat]
        refine ⟨hM8, hM8, ?_⟩
        repeat ((first | refine W.seqR rfl ?_ | refine W.seq ?_ | refine W.regR rfl ?_ | refine W.condK ?_ | refine W.block ?_ | refine W.skip ?_ | refine W.ret ?_ | refine W.exit ?_); try simp (disch := (first | omega | (simp only [World.size_alloc, size_wr, size_drew]; done) | (simp only [World.size_alloc, size_wr, size_drew]; omega) | exact not_noB _)) only [go_sem, ↓reduceIte, Nat.reduceEqDiff, reduceCtorEq, Nat.reduceAdd, Nat.reduceMul, Nat.reduceSub, Nat.reduceLT, Nat.reduceLeDiff, Int.reduceEq, Int.reduceLT, Int.reduceLE, Int.reduceNeg, Int.reduceAdd, Int.reduceSub, Int.reduceMul, Int.reduceToNat, ca_18, ca_24, ca_25, ca_27, ca_33, ca_34, es_23, fo_26_3, fo_44_0, fo_44_3, fo_44_6, fo_44_7, ld_23, ld_26, ld_28, ld_3, ld_44, sl_23, h31])
        refine ⟨⟨j + 1, _, by omega, rfl, h30, h10, h4, h1, h2, rfl, ?_, hE8⟩, ?_⟩
        · rw [hcat]
          exact OwnBy.app (s := s6) (t := s7) ho8 rfl
        · simp only [RowKit.intOf]; omega
      · have hjl : j = L.length := by omega
        subst hjl
        rw [List.take_length] at ho6
        repeat ((first | refine W.seqR rfl ?_ | refine W.seq ?_ | refine W.regR rfl ?_ | refine W.condK ?_ | refine W.block ?_ | refine W.skip ?_ | refine W.ret ?_ | refine W.exit ?_); try simp (disch := (first | omega | (simp only [World.size_alloc, size_wr, size_drew]; done) | (simp only [World.size_alloc, size_wr, size_drew]; omega) | exact not_noB _)) only [go_sem, ↓reduceIte, Nat.reduceEqDiff, reduceCtorEq, Nat.reduceAdd, Nat.reduceMul, Nat.reduceSub, Nat.reduceLT, Nat.reduceLeDiff, Int.reduceEq, Int.reduceLT, Int.reduceLE, Int.reduceNeg, Int.reduceAdd, Int.reduceSub, Int.reduceMul, Int.reduceToNat, ca_18, ca_24, ca_25, ca_27, ca_33, ca_34, es_23, fo_26_3, fo_44_0, fo_44_3, fo_44_6, fo_44_7, ld_23, ld_26, ld_28, ld_3, ld_44, sl_23, h31, h30, h11'])
        exact ⟨ho6.mono (by omega), hE03.trans hE6⟩

theorem field_fn {ok : Blocks} {d : Nat} {pt : List Fld → Int → Bool → Tree → List UInt8} (hp : PartOk ok d pt) (f : Fld) (ver : Int) (flex : Bool) (t : Tree) (cf ct : List Value) (w : World) (hf : FldC ok w f cf) (hok : okF d f.sub = true) (ht : TreeC ok w t ct) (hsm : Small 4611686018427387903 t)
    (hlen : (fieldS pt f ver flex t).length ≤ 2 ^ 40) :
    Fn Try.prog 30 #[.agg cf.toArray, .int .i64 ver, .bool flex, .agg ct.toArray] w fun r w' => OwnBy 5 w.heap.size w' r (fieldS pt f ver flex t) ∧ Ext w w' := by
  by_cases h11 : f.kind = 11
  · exact field_k11 hp f ver flex t cf ct w hf hok ht hsm hlen h11
  by_cases h10 : f.kind = 10 ∧ 0 ≤ f.null
  · exact field_k10 hp f ver flex t cf ct w hf hok ht hsm hlen h10.1 h10.2
  exact field_kd hp f ver flex t cf ct w hf hok ht hsm hlen h11 h10
end Ms
