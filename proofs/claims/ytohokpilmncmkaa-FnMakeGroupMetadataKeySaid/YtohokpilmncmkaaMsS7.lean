/- A part of the proof: see the last text. -/
import Derived.Test.YtohokpilmncmkaaMsS6
import Derived.Test.YtohokpilmncmkaaMsSmall
set_option linter.unusedSimpArgs false
set_option linter.unusedVariables false
namespace Ms
open Go Go.Proofs
attribute [local congr] W_congr WPsq_congr WPp_congr optK_congr addrK_congr intK_congr boolK_congr sliceK_congr tupleK_congr funcK_congr Fn_congr rawK_congr takeK_congr stepK_congr convK_congr aggK_congr

theorem FldC.of {ok : Blocks} {w : World} {f : Fld} {vs : Value} (h : FldsV ok w vs f.sub) : FldC ok w f [.int .i64 f.kind, .int .i64 f.fr, .int .i64 f.to, .int .i64 f.null, .int .i64 f.tag, .int .i64 f.df, .int .i64 f.of, vs] := by
  cases f; exact FldC.intro h

theorem insTag_len (K : Nat) (out : List TagD) (t : TagD) : (insTag K out t).length ≤ out.length + 1 := by
  unfold insTag
  split
  · omega
  · have := congrArg List.length (List.takeWhile_append_dropWhile (p := fun x : TagD => decide (x.1 < t.1)) (l := out))
    simp only [List.length_append, List.length_cons] at this ⊢; omega
theorem unknownS_len (fs : List Fld) (l : List TagD) : (unknownS fs l).length ≤ 32767 := by
  have : ∀ (l : List TagD) (out : List TagD), (l.foldl (insTag (knownS fs)) out).length ≤ out.length + l.length := by
    intro l
    induction l with
    | nil => intro out; simp
    | cons t l ih => intro out; have h1 := ih (insTag (knownS fs) out t); have h2 := insTag_len (knownS fs) out t; simp only [List.foldl_cons, List.length_cons]; omega
  have h := this (l.take 32767) []
  simp only [List.length_nil, List.length_take] at h
  unfold unknownS; omega
theorem usual10 {d : Nat} {f : Fld} {t : Tree} (h10 : f.kind = 10) : usualS (d + 1) f t = ((f.sub.zipIdx.all fun x => usualS d x.1 (t.at x.2)) && decide ((unknownS f.sub t.u).length = 0)) := by
  simp [usualS, h10]

abbrev UsualRec (ok : Blocks) (d : Nat) (f : Fld) : Prop := ∀ g ∈ f.sub, ∀ (t' : Tree) (cg ct' : List Value) (w' : World), FldC ok w' g cg → TreeC ok w' t' ct' → Small 4611686018427387903 t' →
  Fn Try.prog 31 #[.agg cg.toArray, .agg ct'.toArray] w' fun r w'' => r = .bool (usualS d g t') ∧ Ext w' w''

theorem usual_k0 {ok : Blocks} (d : Nat) (f : Fld) (t : Tree) (cf ct : List Value) (w : World) (hf : FldC ok w f cf) (ht : TreeC ok w t ct) (hok : okF d f.sub = true) (hB : okB f) (hsm : Small 4611686018427387903 t)
    (hrec : UsualRec ok d f) (h0 : f.kind = 0) :
    Fn Try.prog 31 #[.agg cf.toArray, .agg ct.toArray] w fun r w' => r = .bool (usualS (d + 1) f t) ∧ Ext w w' := by
  obtain ⟨vs, rfl, hsub⟩ := hf.inv
  obtain ⟨vS, vL, vU, rfl, hn, hS, hL, hU⟩ := ht.inv
  have hl1 := hsm.s
  have hl2 := hsm.l
  have f0 := SlR.flat hsub
  have f1 := hS.flat
  have f2 := SlR.flat hL
  have f3 := SlR.flat hU
  obtain ⟨bS, cS, rfl, hcS⟩ := hS.shape
  obtain ⟨bL, cL, rfl, hcL⟩ := SlR.shape hL
  have hE : Ext w ((w.alloc (.cells #[.int .i64 f.kind, .int .i64 f.fr, .int .i64 f.to, .int .i64 f.null, .int .i64 f.tag, .int .i64 f.df, .int .i64 f.of, vs] 44)).alloc (.cells #[.int .i64 t.n, .slice bS t.s.length cS, .bool t.null, .slice bL t.l.length cL, vU] 26)) := Upd.alloc (Upd.alloc (Upd.refl _ _) _) _
  refine fn_of_W Try.func31 rfl Try.results31 Try.ntmps31 rfl ?_
  repeat ((first | refine W.seqR rfl ?_ | refine W.seq ?_ | refine W.regR rfl ?_ | refine W.condK ?_ | refine W.block ?_ | refine W.skip ?_ | refine W.ret ?_ | refine W.exit ?_); try simp (disch := (first | omega | (simp only [World.size_alloc, size_wr, size_drew]; done) | (simp only [World.size_alloc, size_wr, size_drew]; omega) | exact not_noB _)) only [go_sem, ↓reduceIte, Nat.reduceEqDiff, reduceCtorEq, Nat.reduceAdd, Nat.reduceMul, Nat.reduceSub, Nat.reduceLT, Nat.reduceLeDiff, Int.reduceEq, Int.reduceLT, Int.reduceLE, Int.reduceNeg, Int.reduceAdd, Int.reduceSub, Int.reduceMul, Int.reduceToNat, ca_15, ca_16, ca_18, ca_31, ca_35, ca_6, es_22, es_28, fo_26_0, fo_26_1, fo_26_2, fo_26_3, fo_26_4, fo_44_0, fo_44_3, fo_44_5, fo_44_7, ld_2, ld_22, ld_23, ld_24, ld_26, ld_28, ld_3, ld_4, ld_44, ld_5, sl_22, sl_23, sl_24, sl_28, sz_44, z_44, f0, f1, f2, f3, and1])
  refine ⟨?_, hE⟩
  have e : (((t.n % 2).toNat : Nat) : Int) = t.n % 2 := by omega
  rw [e, usualS, if_pos h0]
  by_cases h : t.n % 2 = f.df <;> simp [h]

theorem usual_k8 {ok : Blocks} (d : Nat) (f : Fld) (t : Tree) (cf ct : List Value) (w : World) (hf : FldC ok w f cf) (ht : TreeC ok w t ct) (hok : okF d f.sub = true) (hB : okB f) (hsm : Small 4611686018427387903 t)
    (hrec : UsualRec ok d f) (h8 : f.kind = 8) :
    Fn Try.prog 31 #[.agg cf.toArray, .agg ct.toArray] w fun r w' => r = .bool (usualS (d + 1) f t) ∧ Ext w w' := by
  obtain ⟨vs, rfl, hsub⟩ := hf.inv
  obtain ⟨vS, vL, vU, rfl, hn, hS, hL, hU⟩ := ht.inv
  have hl1 := hsm.s
  have hl2 := hsm.l
  have f0 := SlR.flat hsub
  have f1 := hS.flat
  have f2 := SlR.flat hL
  have f3 := SlR.flat hU
  obtain ⟨bS, cS, rfl, hcS⟩ := hS.shape
  obtain ⟨bL, cL, rfl, hcL⟩ := SlR.shape hL
  have hE : Ext w ((w.alloc (.cells #[.int .i64 f.kind, .int .i64 f.fr, .int .i64 f.to, .int .i64 f.null, .int .i64 f.tag, .int .i64 f.df, .int .i64 f.of, vs] 44)).alloc (.cells #[.int .i64 t.n, .slice bS t.s.length cS, .bool t.null, .slice bL t.l.length cL, vU] 26)) := Upd.alloc (Upd.alloc (Upd.refl _ _) _) _
  refine fn_of_W Try.func31 rfl Try.results31 Try.ntmps31 rfl ?_
  by_cases hnl : 0 ≤ f.null
  · repeat ((first | refine W.seqR rfl ?_ | refine W.seq ?_ | refine W.regR rfl ?_ | refine W.condK ?_ | refine W.block ?_ | refine W.skip ?_ | refine W.ret ?_ | refine W.exit ?_); try simp (disch := (first | omega | (simp only [World.size_alloc, size_wr, size_drew]; done) | (simp only [World.size_alloc, size_wr, size_drew]; omega) | exact not_noB _)) only [go_sem, ↓reduceIte, Nat.reduceEqDiff, reduceCtorEq, Nat.reduceAdd, Nat.reduceMul, Nat.reduceSub, Nat.reduceLT, Nat.reduceLeDiff, Int.reduceEq, Int.reduceLT, Int.reduceLE, Int.reduceNeg, Int.reduceAdd, Int.reduceSub, Int.reduceMul, Int.reduceToNat, ca_15, ca_16, ca_18, ca_31, ca_35, ca_6, es_22, es_28, fo_26_0, fo_26_1, fo_26_2, fo_26_3, fo_26_4, fo_44_0, fo_44_3, fo_44_5, fo_44_7, ld_2, ld_22, ld_23, ld_24, ld_26, ld_28, ld_3, ld_4, ld_44, ld_5, sl_22, sl_23, sl_24, sl_28, sz_44, z_44, f0, f1, f2, f3])
    refine ⟨?_, hE⟩
    simp [usualS, h8, hnl]
  · repeat ((first | refine W.seqR rfl ?_ | refine W.seq ?_ | refine W.regR rfl ?_ | refine W.condK ?_ | refine W.block ?_ | refine W.skip ?_ | refine W.ret ?_ | refine W.exit ?_); try simp (disch := (first | omega | (simp only [World.size_alloc, size_wr, size_drew]; done) | (simp only [World.size_alloc, size_wr, size_drew]; omega) | exact not_noB _)) only [go_sem, ↓reduceIte, Nat.reduceEqDiff, reduceCtorEq, Nat.reduceAdd, Nat.reduceMul, Nat.reduceSub, Nat.reduceLT, Nat.reduceLeDiff, Int.reduceEq, Int.reduceLT, Int.reduceLE, Int.reduceNeg, Int.reduceAdd, Int.reduceSub, Int.reduceMul, Int.reduceToNat, ca_15, ca_16, ca_18, ca_31, ca_35, ca_6, es_22, es_28, fo_26_0, fo_26_1, fo_26_2, fo_26_3, fo_26_4, fo_44_0, fo_44_3, fo_44_5, fo_44_7, ld_2, ld_22, ld_23, ld_24, ld_26, ld_28, ld_3, ld_4, ld_44, ld_5, sl_22, sl_23, sl_24, sl_28, sz_44, z_44, f0, f1, f2, f3])
    refine ⟨?_, hE⟩
    by_cases h : t.s.length = 0 <;> simp [usualS, h8, hnl, h]

theorem usual_k9 {ok : Blocks} (d : Nat) (f : Fld) (t : Tree) (cf ct : List Value) (w : World) (hf : FldC ok w f cf) (ht : TreeC ok w t ct) (hok : okF d f.sub = true) (hB : okB f) (hsm : Small 4611686018427387903 t)
    (hrec : UsualRec ok d f) (h9 : f.kind = 9) :
    Fn Try.prog 31 #[.agg cf.toArray, .agg ct.toArray] w fun r w' => r = .bool (usualS (d + 1) f t) ∧ Ext w w' := by
  obtain ⟨vs, rfl, hsub⟩ := hf.inv
  obtain ⟨vS, vL, vU, rfl, hn, hS, hL, hU⟩ := ht.inv
  have hl1 := hsm.s
  have hl2 := hsm.l
  have f0 := SlR.flat hsub
  have f1 := hS.flat
  have f2 := SlR.flat hL
  have f3 := SlR.flat hU
  obtain ⟨bS, cS, rfl, hcS⟩ := hS.shape
  obtain ⟨bL, cL, rfl, hcL⟩ := SlR.shape hL
  have hE : Ext w ((w.alloc (.cells #[.int .i64 f.kind, .int .i64 f.fr, .int .i64 f.to, .int .i64 f.null, .int .i64 f.tag, .int .i64 f.df, .int .i64 f.of, vs] 44)).alloc (.cells #[.int .i64 t.n, .slice bS t.s.length cS, .bool t.null, .slice bL t.l.length cL, vU] 26)) := Upd.alloc (Upd.alloc (Upd.refl _ _) _) _
  refine fn_of_W Try.func31 rfl Try.results31 Try.ntmps31 rfl ?_
  by_cases hnl : 0 ≤ f.null
  · repeat ((first | refine W.seqR rfl ?_ | refine W.seq ?_ | refine W.regR rfl ?_ | refine W.condK ?_ | refine W.block ?_ | refine W.skip ?_ | refine W.ret ?_ | refine W.exit ?_); try simp (disch := (first | omega | (simp only [World.size_alloc, size_wr, size_drew]; done) | (simp only [World.size_alloc, size_wr, size_drew]; omega) | exact not_noB _)) only [go_sem, ↓reduceIte, Nat.reduceEqDiff, reduceCtorEq, Nat.reduceAdd, Nat.reduceMul, Nat.reduceSub, Nat.reduceLT, Nat.reduceLeDiff, Int.reduceEq, Int.reduceLT, Int.reduceLE, Int.reduceNeg, Int.reduceAdd, Int.reduceSub, Int.reduceMul, Int.reduceToNat, ca_15, ca_16, ca_18, ca_31, ca_35, ca_6, es_22, es_28, fo_26_0, fo_26_1, fo_26_2, fo_26_3, fo_26_4, fo_44_0, fo_44_3, fo_44_5, fo_44_7, ld_2, ld_22, ld_23, ld_24, ld_26, ld_28, ld_3, ld_4, ld_44, ld_5, sl_22, sl_23, sl_24, sl_28, sz_44, z_44, f0, f1, f2, f3])
    refine ⟨?_, hE⟩
    simp [usualS, h9, hnl]
  · repeat ((first | refine W.seqR rfl ?_ | refine W.seq ?_ | refine W.regR rfl ?_ | refine W.condK ?_ | refine W.block ?_ | refine W.skip ?_ | refine W.ret ?_ | refine W.exit ?_); try simp (disch := (first | omega | (simp only [World.size_alloc, size_wr, size_drew]; done) | (simp only [World.size_alloc, size_wr, size_drew]; omega) | exact not_noB _)) only [go_sem, ↓reduceIte, Nat.reduceEqDiff, reduceCtorEq, Nat.reduceAdd, Nat.reduceMul, Nat.reduceSub, Nat.reduceLT, Nat.reduceLeDiff, Int.reduceEq, Int.reduceLT, Int.reduceLE, Int.reduceNeg, Int.reduceAdd, Int.reduceSub, Int.reduceMul, Int.reduceToNat, ca_15, ca_16, ca_18, ca_31, ca_35, ca_6, es_22, es_28, fo_26_0, fo_26_1, fo_26_2, fo_26_3, fo_26_4, fo_44_0, fo_44_3, fo_44_5, fo_44_7, ld_2, ld_22, ld_23, ld_24, ld_26, ld_28, ld_3, ld_4, ld_44, ld_5, sl_22, sl_23, sl_24, sl_28, sz_44, z_44, f0, f1, f2, f3])
    refine ⟨?_, hE⟩
    by_cases h : t.s.length = 0 <;> simp [usualS, h9, hnl, h]

theorem usual_k11 {ok : Blocks} (d : Nat) (f : Fld) (t : Tree) (cf ct : List Value) (w : World) (hf : FldC ok w f cf) (ht : TreeC ok w t ct) (hok : okF d f.sub = true) (hB : okB f) (hsm : Small 4611686018427387903 t)
    (hrec : UsualRec ok d f) (h11 : f.kind = 11) :
    Fn Try.prog 31 #[.agg cf.toArray, .agg ct.toArray] w fun r w' => r = .bool (usualS (d + 1) f t) ∧ Ext w w' := by
  obtain ⟨vs, rfl, hsub⟩ := hf.inv
  obtain ⟨vS, vL, vU, rfl, hn, hS, hL, hU⟩ := ht.inv
  have hl1 := hsm.s
  have hl2 := hsm.l
  have f0 := SlR.flat hsub
  have f1 := hS.flat
  have f2 := SlR.flat hL
  have f3 := SlR.flat hU
  obtain ⟨bS, cS, rfl, hcS⟩ := hS.shape
  obtain ⟨bL, cL, rfl, hcL⟩ := SlR.shape hL
  have hE : Ext w ((w.alloc (.cells #[.int .i64 f.kind, .int .i64 f.fr, .int .i64 f.to, .int .i64 f.null, .int .i64 f.tag, .int .i64 f.df, .int .i64 f.of, vs] 44)).alloc (.cells #[.int .i64 t.n, .slice bS t.s.length cS, .bool t.null, .slice bL t.l.length cL, vU] 26)) := Upd.alloc (Upd.alloc (Upd.refl _ _) _) _
  refine fn_of_W Try.func31 rfl Try.results31 Try.ntmps31 rfl ?_
  repeat ((first | refine W.seqR rfl ?_ | refine W.seq ?_ | refine W.regR rfl ?_ | refine W.condK ?_ | refine W.block ?_ | refine W.skip ?_ | refine W.ret ?_ | refine W.exit ?_); try simp (disch := (first | omega | (simp only [World.size_alloc, size_wr, size_drew]; done) | (simp only [World.size_alloc, size_wr, size_drew]; omega) | exact not_noB _)) only [go_sem, ↓reduceIte, Nat.reduceEqDiff, reduceCtorEq, Nat.reduceAdd, Nat.reduceMul, Nat.reduceSub, Nat.reduceLT, Nat.reduceLeDiff, Int.reduceEq, Int.reduceLT, Int.reduceLE, Int.reduceNeg, Int.reduceAdd, Int.reduceSub, Int.reduceMul, Int.reduceToNat, ca_15, ca_16, ca_18, ca_31, ca_35, ca_6, es_22, es_28, fo_26_0, fo_26_1, fo_26_2, fo_26_3, fo_26_4, fo_44_0, fo_44_3, fo_44_5, fo_44_7, ld_2, ld_22, ld_23, ld_24, ld_26, ld_28, ld_3, ld_4, ld_44, ld_5, sl_22, sl_23, sl_24, sl_28, sz_44, z_44, f0, f1, f2, f3])
  refine ⟨?_, hE⟩
  by_cases h : t.l.length = 0 <;> simp [usualS, h11, h]

theorem usual_k7 {ok : Blocks} (d : Nat) (f : Fld) (t : Tree) (cf ct : List Value) (w : World) (hf : FldC ok w f cf) (ht : TreeC ok w t ct) (hok : okF d f.sub = true) (hB : okB f) (hsm : Small 4611686018427387903 t)
    (hrec : UsualRec ok d f) (h7 : f.kind = 7) :
    Fn Try.prog 31 #[.agg cf.toArray, .agg ct.toArray] w fun r w' => r = .bool (usualS (d + 1) f t) ∧ Ext w w' := by
  obtain ⟨vs, rfl, hsub⟩ := hf.inv
  obtain ⟨vS, vL, vU, rfl, hn, hS, hL, hU⟩ := ht.inv
  have hl1 := hsm.s
  have hl2 := hsm.l
  have f0 := SlR.flat hsub
  have f1 := hS.flat
  have f2 := SlR.flat hL
  have f3 := SlR.flat hU
  obtain ⟨bS, cS, rfl, hcS⟩ := hS.shape
  obtain ⟨bL, cL, rfl, hcL⟩ := SlR.shape hL
  have hE : Ext w ((w.alloc (.cells #[.int .i64 f.kind, .int .i64 f.fr, .int .i64 f.to, .int .i64 f.null, .int .i64 f.tag, .int .i64 f.df, .int .i64 f.of, vs] 44)).alloc (.cells #[.int .i64 t.n, .slice bS t.s.length cS, .bool t.null, .slice bL t.l.length cL, vU] 26)) := Upd.alloc (Upd.alloc (Upd.refl _ _) _) _
  refine fn_of_W Try.func31 rfl Try.results31 Try.ntmps31 rfl ?_
  repeat ((first | refine W.seqR rfl ?_ | refine W.seq ?_ | refine W.regR rfl ?_ | refine W.condK ?_ | refine W.block ?_ | refine W.skip ?_ | refine W.ret ?_ | refine W.exit ?_); try simp (disch := (first | omega | (simp only [World.size_alloc, size_wr, size_drew]; done) | (simp only [World.size_alloc, size_wr, size_drew]; omega) | exact not_noB _)) only [go_sem, ↓reduceIte, Nat.reduceEqDiff, reduceCtorEq, Nat.reduceAdd, Nat.reduceMul, Nat.reduceSub, Nat.reduceLT, Nat.reduceLeDiff, Int.reduceEq, Int.reduceLT, Int.reduceLE, Int.reduceNeg, Int.reduceAdd, Int.reduceSub, Int.reduceMul, Int.reduceToNat, ca_15, ca_16, ca_18, ca_31, ca_35, ca_6, es_22, es_28, fo_26_0, fo_26_1, fo_26_2, fo_26_3, fo_26_4, fo_44_0, fo_44_3, fo_44_5, fo_44_7, ld_2, ld_22, ld_23, ld_24, ld_26, ld_28, ld_3, ld_4, ld_44, ld_5, sl_22, sl_23, sl_24, sl_28, sz_44, z_44, f0, f1, f2, f3])
  generalize hw2 : (w.alloc (.cells #[.int .i64 f.kind, .int .i64 f.fr, .int .i64 f.to, .int .i64 f.null, .int .i64 f.tag, .int .i64 f.df, .int .i64 f.of, vs] 44)).alloc (.cells #[.int .i64 t.n, .slice bS t.s.length cS, .bool t.null, .slice bL t.l.length cL, vU] 26) = w2 at *
  refine W.loop (fun ρ w' => ∃ j : Nat, j ≤ t.s.length ∧ ρ 24 = .int .i64 j ∧ ρ 23 = .int .i64 t.s.length ∧ ρ 22 = .slice bS t.s.length cS ∧ Ext w w' ∧ ∀ k (hk : k < t.s.length), k < j → k < 16 → t.s[k] = 0)
    (fun ρ _ => t.s.length - (RowKit.intOf (ρ 24)).toNat) ?_ ?_
  · refine ⟨0, Nat.zero_le _, ?_, ?_, ?_, hE, fun k hk h => by omega⟩
    · simp (disch := (first | omega | (simp only [World.size_alloc, size_wr, size_drew]; done) | (simp only [World.size_alloc, size_wr, size_drew]; omega) | exact not_noB _)) only [go_sem, ↓reduceIte, Nat.reduceEqDiff, reduceCtorEq, Nat.reduceAdd, Nat.reduceMul, Nat.reduceSub, Nat.reduceLT, Nat.reduceLeDiff, Int.reduceEq, Int.reduceLT, Int.reduceLE, Int.reduceNeg, Int.reduceAdd, Int.reduceSub, Int.reduceMul, Int.reduceToNat]
      rfl
    · simp (disch := (first | omega | (simp only [World.size_alloc, size_wr, size_drew]; done) | (simp only [World.size_alloc, size_wr, size_drew]; omega) | exact not_noB _)) only [go_sem, ↓reduceIte, Nat.reduceEqDiff, reduceCtorEq, Nat.reduceAdd, Nat.reduceMul, Nat.reduceSub, Nat.reduceLT, Nat.reduceLeDiff, Int.reduceEq, Int.reduceLT, Int.reduceLE, Int.reduceNeg, Int.reduceAdd, Int.reduceSub, Int.reduceMul, Int.reduceToNat]
    · simp (disch := (first | omega | (simp only [World.size_alloc, size_wr, size_drew]; done) | (simp only [World.size_alloc, size_wr, size_drew]; omega) | exact not_noB _)) only [go_sem, ↓reduceIte, Nat.reduceEqDiff, reduceCtorEq, Nat.reduceAdd, Nat.reduceMul, Nat.reduceSub, Nat.reduceLT, Nat.reduceLeDiff, Int.reduceEq, Int.reduceLT, Int.reduceLE, Int.reduceNeg, Int.reduceAdd, Int.reduceSub, Int.reduceMul, Int.reduceToNat]
  · rintro ρ w3 ⟨j, hj, h24, h23, h22, hext, hz⟩
    by_cases hlt : j < t.s.length
    · obtain ⟨_, b, o, x, hb, _, hx, hblt, hval⟩ := hS.get hlt
      subst hb
      have hx3 : blk w3 b = some x := hext.blk_some hx id
      have hgo : ∀ hne : ¬ (j < 16 ∧ t.s[j] ≠ 0), ∀ k (hk : k < t.s.length), k < j + 1 → k < 16 → t.s[k] = 0 := by
        intro hne k hk hk1 hk2
        rcases Nat.lt_or_ge k j with h | h
        · exact hz k hk h hk2
        · have : k = j := by omega
          subst this
          exact Classical.byContradiction fun e => hne ⟨hk2, e⟩
      by_cases h16 : j < 16
      · by_cases hz0 : t.s[j] = 0
        · have hne : ((t.s[j].toNat : Int)) = 0 := by rw [hz0]; rfl
          repeat ((first | refine W.seqR rfl ?_ | refine W.seq ?_ | refine W.regR rfl ?_ | refine W.condK ?_ | refine W.block ?_ | refine W.skip ?_ | refine W.ret ?_ | refine W.exit ?_); try simp (disch := (first | omega | (simp only [World.size_alloc, size_wr, size_drew]; done) | (simp only [World.size_alloc, size_wr, size_drew]; omega) | exact not_noB _)) only [go_sem, ↓reduceIte, Nat.reduceEqDiff, reduceCtorEq, Nat.reduceAdd, Nat.reduceMul, Nat.reduceSub, Nat.reduceLT, Nat.reduceLeDiff, Int.reduceEq, Int.reduceLT, Int.reduceLE, Int.reduceNeg, Int.reduceAdd, Int.reduceSub, Int.reduceMul, Int.reduceToNat, ca_15, ca_16, ca_18, ca_31, ca_35, ca_6, es_22, es_28, fo_26_0, fo_26_1, fo_26_2, fo_26_3, fo_26_4, fo_44_0, fo_44_3, fo_44_5, fo_44_7, ld_2, ld_22, ld_23, ld_24, ld_26, ld_28, ld_3, ld_4, ld_44, ld_5, sl_22, sl_23, sl_24, sl_28, sz_44, z_44, h24, h23, h22, hx3, hval, byteV, hne, Int.toNat_natCast, Nat.mul_one])
          refine ⟨⟨j + 1, by omega, rfl, hext, hgo (fun h => h.2 hz0)⟩, ?_⟩
          simp only [RowKit.intOf]; omega
        · have hne : ((t.s[j].toNat : Int)) ≠ 0 := fun e => hz0 (UInt8.toNat_inj.1 (show t.s[j].toNat = 0 by omega))
          repeat ((first | refine W.seqR rfl ?_ | refine W.seq ?_ | refine W.regR rfl ?_ | refine W.condK ?_ | refine W.block ?_ | refine W.skip ?_ | refine W.ret ?_ | refine W.exit ?_); try simp (disch := (first | omega | (simp only [World.size_alloc, size_wr, size_drew]; done) | (simp only [World.size_alloc, size_wr, size_drew]; omega) | exact not_noB _)) only [go_sem, ↓reduceIte, Nat.reduceEqDiff, reduceCtorEq, Nat.reduceAdd, Nat.reduceMul, Nat.reduceSub, Nat.reduceLT, Nat.reduceLeDiff, Int.reduceEq, Int.reduceLT, Int.reduceLE, Int.reduceNeg, Int.reduceAdd, Int.reduceSub, Int.reduceMul, Int.reduceToNat, ca_15, ca_16, ca_18, ca_31, ca_35, ca_6, es_22, es_28, fo_26_0, fo_26_1, fo_26_2, fo_26_3, fo_26_4, fo_44_0, fo_44_3, fo_44_5, fo_44_7, ld_2, ld_22, ld_23, ld_24, ld_26, ld_28, ld_3, ld_4, ld_44, ld_5, sl_22, sl_23, sl_24, sl_28, sz_44, z_44, h24, h23, h22, hx3, hval, byteV, hne, Int.toNat_natCast, Nat.mul_one])
          refine ⟨?_, hext⟩
          have : (t.s.take 16).all (· == 0) = false := by
            rw [List.all_eq_false]
            refine ⟨t.s[j], ?_, by simpa using hz0⟩
            rw [List.mem_take_iff_getElem]
            exact ⟨j, by omega, rfl⟩
          simp [usualS, h7, this]
      · repeat ((first | refine W.seqR rfl ?_ | refine W.seq ?_ | refine W.regR rfl ?_ | refine W.condK ?_ | refine W.block ?_ | refine W.skip ?_ | refine W.ret ?_ | refine W.exit ?_); try simp (disch := (first | omega | (simp only [World.size_alloc, size_wr, size_drew]; done) | (simp only [World.size_alloc, size_wr, size_drew]; omega) | exact not_noB _)) only [go_sem, ↓reduceIte, Nat.reduceEqDiff, reduceCtorEq, Nat.reduceAdd, Nat.reduceMul, Nat.reduceSub, Nat.reduceLT, Nat.reduceLeDiff, Int.reduceEq, Int.reduceLT, Int.reduceLE, Int.reduceNeg, Int.reduceAdd, Int.reduceSub, Int.reduceMul, Int.reduceToNat, ca_15, ca_16, ca_18, ca_31, ca_35, ca_6, es_22, es_28, fo_26_0, fo_26_1, fo_26_2, fo_26_3, fo_26_4, fo_44_0, fo_44_3, fo_44_5, fo_44_7, ld_2, ld_22, ld_23, ld_24, ld_26, ld_28, ld_3, ld_4, ld_44, ld_5, sl_22, sl_23, sl_24, sl_28, sz_44, z_44, h24, h23, h22, hx3, hval, byteV, Int.toNat_natCast, Nat.mul_one])
        refine ⟨⟨j + 1, by omega, rfl, hext, hgo (fun h => h16 h.1)⟩, ?_⟩
        simp only [RowKit.intOf]; omega
    · repeat ((first | refine W.seqR rfl ?_ | refine W.seq ?_ | refine W.regR rfl ?_ | refine W.condK ?_ | refine W.block ?_ | refine W.skip ?_ | refine W.ret ?_ | refine W.exit ?_); try simp (disch := (first | omega | (simp only [World.size_alloc, size_wr, size_drew]; done) | (simp only [World.size_alloc, size_wr, size_drew]; omega) | exact not_noB _)) only [go_sem, ↓reduceIte, Nat.reduceEqDiff, reduceCtorEq, Nat.reduceAdd, Nat.reduceMul, Nat.reduceSub, Nat.reduceLT, Nat.reduceLeDiff, Int.reduceEq, Int.reduceLT, Int.reduceLE, Int.reduceNeg, Int.reduceAdd, Int.reduceSub, Int.reduceMul, Int.reduceToNat, ca_15, ca_16, ca_18, ca_31, ca_35, ca_6, es_22, es_28, fo_26_0, fo_26_1, fo_26_2, fo_26_3, fo_26_4, fo_44_0, fo_44_3, fo_44_5, fo_44_7, ld_2, ld_22, ld_23, ld_24, ld_26, ld_28, ld_3, ld_4, ld_44, ld_5, sl_22, sl_23, sl_24, sl_28, sz_44, z_44, h24, h23])
      refine ⟨?_, hext⟩
      have : (t.s.take 16).all (· == 0) = true := by
        rw [List.all_eq_true]
        intro y hy
        obtain ⟨k, hk, rfl⟩ := List.mem_take_iff_getElem.1 hy
        simpa using hz k (by omega) (by omega) (by omega)
      simp [usualS, h7, this]

theorem usual_k10 {ok : Blocks} (d : Nat) (f : Fld) (t : Tree) (cf ct : List Value) (w : World) (hf : FldC ok w f cf) (ht : TreeC ok w t ct) (hok : okF d f.sub = true) (hB : okB f) (hsm : Small 4611686018427387903 t)
    (hrec : UsualRec ok d f) (h10 : f.kind = 10) :
    Fn Try.prog 31 #[.agg cf.toArray, .agg ct.toArray] w fun r w' => r = .bool (usualS (d + 1) f t) ∧ Ext w w' := by
  obtain ⟨vs, rfl, hsub⟩ := hf.inv
  obtain ⟨vS, vL, vU, rfl, hn, hS, hL, hU⟩ := ht.inv
  have hl1 := hsm.s
  have hl2 := hsm.l
  have f0 := SlR.flat hsub
  have f1 := hS.flat
  have f2 := SlR.flat hL
  have f3 := SlR.flat hU
  obtain ⟨bS, cS, rfl, hcS⟩ := hS.shape
  obtain ⟨bL, cL, rfl, hcL⟩ := SlR.shape hL
  have hE : Ext w ((w.alloc (.cells #[.int .i64 f.kind, .int .i64 f.fr, .int .i64 f.to, .int .i64 f.null, .int .i64 f.tag, .int .i64 f.df, .int .i64 f.of, vs] 44)).alloc (.cells #[.int .i64 t.n, .slice bS t.s.length cS, .bool t.null, .slice bL t.l.length cL, vU] 26)) := Upd.alloc (Upd.alloc (Upd.refl _ _) _) _
  refine fn_of_W Try.func31 rfl Try.results31 Try.ntmps31 rfl ?_
  obtain ⟨bf, cf, rfl, hcf⟩ := SlR.shape hsub
  have hfl := okF_len hok
  repeat ((first | refine W.seqR rfl ?_ | refine W.seq ?_ | refine W.regR rfl ?_ | refine W.condK ?_ | refine W.block ?_ | refine W.skip ?_ | refine W.ret ?_ | refine W.exit ?_); try simp (disch := (first | omega | (simp only [World.size_alloc, size_wr, size_drew]; done) | (simp only [World.size_alloc, size_wr, size_drew]; omega) | exact not_noB _)) only [go_sem, ↓reduceIte, Nat.reduceEqDiff, reduceCtorEq, Nat.reduceAdd, Nat.reduceMul, Nat.reduceSub, Nat.reduceLT, Nat.reduceLeDiff, Int.reduceEq, Int.reduceLT, Int.reduceLE, Int.reduceNeg, Int.reduceAdd, Int.reduceSub, Int.reduceMul, Int.reduceToNat, ca_15, ca_16, ca_18, ca_31, ca_35, ca_6, es_22, es_28, fo_26_0, fo_26_1, fo_26_2, fo_26_3, fo_26_4, fo_44_0, fo_44_3, fo_44_5, fo_44_7, ld_2, ld_22, ld_23, ld_24, ld_26, ld_28, ld_3, ld_4, ld_44, ld_5, sl_22, sl_23, sl_24, sl_28, sz_44, z_44, f0, f1, f2, f3])
  generalize hw2 : (w.alloc (.cells #[.int .i64 f.kind, .int .i64 f.fr, .int .i64 f.to, .int .i64 f.null, .int .i64 f.tag, .int .i64 f.df, .int .i64 f.of, .slice bf f.sub.length cf] 44)).alloc (.cells #[.int .i64 t.n, .slice bS t.s.length cS, .bool t.null, .slice bL t.l.length cL, vU] 26) = w2 at *
  have hb0 : blk w2 w.heap.size = some (#[.int .i64 f.kind, .int .i64 f.fr, .int .i64 f.to, .int .i64 f.null, .int .i64 f.tag, .int .i64 f.df, .int .i64 f.of, .slice bf f.sub.length cf], 44, (0, 0)) := by
    rw [← hw2, blk_alloc_old (by simp only [World.size_alloc]; omega), blk_alloc_new rfl]
  have hb1 : blk w2 (w.heap.size + 1) = some (#[.int .i64 t.n, .slice bS t.s.length cS, .bool t.null, .slice bL t.l.length cL, vU], 26, (0, 0)) := by
    rw [← hw2, blk_alloc_new (by simp only [World.size_alloc])]
  have hz2 : w2.heap.size = w.heap.size + 2 := by rw [← hw2]; simp only [World.size_alloc]
  clear hw2
  refine W.loop (fun ρ w' => ∃ j : Nat, j ≤ f.sub.length ∧ ρ 59 = .int .i64 j ∧ ρ 58 = .int .i64 f.sub.length ∧ ρ 57 = .slice bf f.sub.length cf ∧ ρ 2 = .pointer (some ⟨w.heap.size, 0, none⟩) ∧ ρ 3 = .pointer (some ⟨w.heap.size + 1, 0, none⟩) ∧ Ext w2 w' ∧ ∀ k (hk : k < f.sub.length), k < j → usualS d f.sub[k] (t.at k) = true)
    (fun ρ _ => f.sub.length - (RowKit.intOf (ρ 59)).toNat) ?_ ?_
  · refine ⟨0, Nat.zero_le _, ?_, ?_, ?_, ?_, ?_, Upd.refl _ _, fun k hk h => by omega⟩
    · simp (disch := (first | omega | (simp only [World.size_alloc, size_wr, size_drew]; done) | (simp only [World.size_alloc, size_wr, size_drew]; omega) | exact not_noB _)) only [go_sem, ↓reduceIte, Nat.reduceEqDiff, reduceCtorEq, Nat.reduceAdd, Nat.reduceMul, Nat.reduceSub, Nat.reduceLT, Nat.reduceLeDiff, Int.reduceEq, Int.reduceLT, Int.reduceLE, Int.reduceNeg, Int.reduceAdd, Int.reduceSub, Int.reduceMul, Int.reduceToNat]
      rfl
    iterate 4 (· simp (disch := (first | omega | (simp only [World.size_alloc, size_wr, size_drew]; done) | (simp only [World.size_alloc, size_wr, size_drew]; omega) | exact not_noB _)) only [go_sem, ↓reduceIte, Nat.reduceEqDiff, reduceCtorEq, Nat.reduceAdd, Nat.reduceMul, Nat.reduceSub, Nat.reduceLT, Nat.reduceLeDiff, Int.reduceEq, Int.reduceLT, Int.reduceLE, Int.reduceNeg, Int.reduceAdd, Int.reduceSub, Int.reduceMul, Int.reduceToNat])
  · rintro ρ w3 ⟨j, hj, h59, h58, h57, h2, h3, hext, hz⟩
    have hz3 := hext.size
    have hext0 : Ext w w3 := hE.trans hext
    by_cases hlt : j < f.sub.length
    · obtain ⟨_, b, o, x, vs2, hb, hokb, hx, hblt, hxs, hxe, hfl2, hsub2⟩ := FldsV.get hsub hlt
      subst hb
      have hx3 : blk w3 b = some x := hext0.blk_some hx id
      have hb13 := hext.blk_some hb1 id
      repeat ((first | refine W.seqR rfl ?_ | refine W.seq ?_ | refine W.regR rfl ?_ | refine W.condK ?_ | refine W.block ?_ | refine W.skip ?_ | refine W.ret ?_ | refine W.exit ?_); try simp (disch := (first | omega | (simp only [World.size_alloc, size_wr, size_drew]; done) | (simp only [World.size_alloc, size_wr, size_drew]; omega) | exact not_noB _)) only [go_sem, ↓reduceIte, Nat.reduceEqDiff, reduceCtorEq, Nat.reduceAdd, Nat.reduceMul, Nat.reduceSub, Nat.reduceLT, Nat.reduceLeDiff, Int.reduceEq, Int.reduceLT, Int.reduceLE, Int.reduceNeg, Int.reduceAdd, Int.reduceSub, Int.reduceMul, Int.reduceToNat, ca_15, ca_16, ca_18, ca_31, ca_35, ca_6, es_22, es_28, fo_26_0, fo_26_1, fo_26_2, fo_26_3, fo_26_4, fo_44_0, fo_44_3, fo_44_5, fo_44_7, ld_2, ld_22, ld_23, ld_24, ld_26, ld_28, ld_3, ld_4, ld_44, ld_5, sl_22, sl_23, sl_24, sl_28, sz_44, z_44, h59, h58, h57, hx3, hxe, hfl2, Int.toNat_natCast])
      refine W.drawR (.take 0 (.take 1 (.take 2 (.only 3 (.only 4 (.take 5 .done)))))) NoB mixed (by kernel_rfl) ?_
      simp (disch := (first | omega | (simp only [World.size_alloc, size_wr, size_drew]; done) | (simp only [World.size_alloc, size_wr, size_drew]; omega) | exact not_noB _)) only [go_sem, ↓reduceIte, Nat.reduceEqDiff, reduceCtorEq, Nat.reduceAdd, Nat.reduceMul, Nat.reduceSub, Nat.reduceLT, Nat.reduceLeDiff, Int.reduceEq, Int.reduceLT, Int.reduceLE, Int.reduceNeg, Int.reduceAdd, Int.reduceSub, Int.reduceMul, Int.reduceToNat, ca_15, ca_16, ca_18, ca_31, ca_35, ca_6, es_22, es_28, fo_26_0, fo_26_1, fo_26_2, fo_26_3, fo_26_4, fo_44_0, fo_44_3, fo_44_5, fo_44_7, ld_2, ld_22, ld_23, ld_24, ld_26, ld_28, ld_3, ld_4, ld_44, ld_5, sl_22, sl_23, sl_24, sl_28, sz_44, z_44, h2, h3, hb13, cellsAt_five, cellsAt_eight]
      have hE4 : Ext w3 (wr (w3.alloc (.cells #[.int .i64 0, .int .i64 0, .int .i64 0, .int .i64 0, .int .i64 0, .int .i64 0, .int .i64 0, .slice none 0 0] 44)) w3.heap.size 0 [.int .i64 f.sub[j].kind, .int .i64 f.sub[j].fr, .int .i64 f.sub[j].to, .int .i64 f.sub[j].null, .int .i64 f.sub[j].tag, .int .i64 f.sub[j].df, .int .i64 f.sub[j].of, vs2]).drew :=
        ((Upd.alloc (Upd.refl _ _) _).wr _ _ (.inl (Nat.le_refl _))).drew
      generalize (wr (w3.alloc (.cells #[.int .i64 0, .int .i64 0, .int .i64 0, .int .i64 0, .int .i64 0, .int .i64 0, .int .i64 0, .slice none 0 0] 44)) w3.heap.size 0 [.int .i64 f.sub[j].kind, .int .i64 f.sub[j].fr, .int .i64 f.sub[j].to, .int .i64 f.sub[j].null, .int .i64 f.sub[j].tag, .int .i64 f.sub[j].df, .int .i64 f.sub[j].of, vs2]).drew = w4 at *
      refine (at_fn t j _ w4 (ht.keep (Ext.keeps (hext0.trans hE4) _)) (by omega) (by omega)).mono ?_
      rintro v5 w5 ⟨⟨c5, rfl, hc5⟩, hE5⟩
      refine ⟨hE5, ?_⟩
      have hE05 : Ext w w5 := (hext0.trans hE4).trans hE5
      refine (hrec f.sub[j] (List.getElem_mem hlt) (t.at j) _ _ w5 (FldC.of (hsub2.keep (hE05.keeps _))) hc5 (hsm.at j)).mono ?_
      rintro v6 w6 ⟨rfl, hE6⟩
      refine ⟨hE5.trans hE6, ?_⟩
      have hE26 : Ext w2 w6 := ((hext.trans hE4).trans hE5).trans hE6
      by_cases hr : usualS d f.sub[j] (t.at j) = true
      · simp (disch := (first | omega | (simp only [World.size_alloc, size_wr, size_drew]; done) | (simp only [World.size_alloc, size_wr, size_drew]; omega) | exact not_noB _)) only [go_sem, ↓reduceIte, Nat.reduceEqDiff, reduceCtorEq, Nat.reduceAdd, Nat.reduceMul, Nat.reduceSub, Nat.reduceLT, Nat.reduceLeDiff, Int.reduceEq, Int.reduceLT, Int.reduceLE, Int.reduceNeg, Int.reduceAdd, Int.reduceSub, Int.reduceMul, Int.reduceToNat, hr]
        repeat ((first | refine W.seqR rfl ?_ | refine W.seq ?_ | refine W.regR rfl ?_ | refine W.condK ?_ | refine W.block ?_ | refine W.skip ?_ | refine W.ret ?_ | refine W.exit ?_); try simp (disch := (first | omega | (simp only [World.size_alloc, size_wr, size_drew]; done) | (simp only [World.size_alloc, size_wr, size_drew]; omega) | exact not_noB _)) only [go_sem, ↓reduceIte, Nat.reduceEqDiff, reduceCtorEq, Nat.reduceAdd, Nat.reduceMul, Nat.reduceSub, Nat.reduceLT, Nat.reduceLeDiff, Int.reduceEq, Int.reduceLT, Int.reduceLE, Int.reduceNeg, Int.reduceAdd, Int.reduceSub, Int.reduceMul, Int.reduceToNat, ca_15, ca_16, ca_18, ca_31, ca_35, ca_6, es_22, es_28, fo_26_0, fo_26_1, fo_26_2, fo_26_3, fo_26_4, fo_44_0, fo_44_3, fo_44_5, fo_44_7, ld_2, ld_22, ld_23, ld_24, ld_26, ld_28, ld_3, ld_4, ld_44, ld_5, sl_22, sl_23, sl_24, sl_28, sz_44, z_44, h59, hr])
        refine ⟨⟨j + 1, by omega, rfl, h58, h57, h2, h3, hE26, fun k hk hk1 => ?_⟩, ?_⟩
        · rcases Nat.lt_or_ge k j with h | h
          · exact hz k hk h
          · have : k = j := by omega
            subst this; exact hr
        · simp only [RowKit.intOf]; omega
      · have hr' : usualS d f.sub[j] (t.at j) = false := by simpa using hr
        simp (disch := (first | omega | (simp only [World.size_alloc, size_wr, size_drew]; done) | (simp only [World.size_alloc, size_wr, size_drew]; omega) | exact not_noB _)) only [go_sem, ↓reduceIte, Nat.reduceEqDiff, reduceCtorEq, Nat.reduceAdd, Nat.reduceMul, Nat.reduceSub, Nat.reduceLT, Nat.reduceLeDiff, Int.reduceEq, Int.reduceLT, Int.reduceLE, Int.reduceNeg, Int.reduceAdd, Int.reduceSub, Int.reduceMul, Int.reduceToNat, hr']
        repeat ((first | refine W.seqR rfl ?_ | refine W.seq ?_ | refine W.regR rfl ?_ | refine W.condK ?_ | refine W.block ?_ | refine W.skip ?_ | refine W.ret ?_ | refine W.exit ?_); try simp (disch := (first | omega | (simp only [World.size_alloc, size_wr, size_drew]; done) | (simp only [World.size_alloc, size_wr, size_drew]; omega) | exact not_noB _)) only [go_sem, ↓reduceIte, Nat.reduceEqDiff, reduceCtorEq, Nat.reduceAdd, Nat.reduceMul, Nat.reduceSub, Nat.reduceLT, Nat.reduceLeDiff, Int.reduceEq, Int.reduceLT, Int.reduceLE, Int.reduceNeg, Int.reduceAdd, Int.reduceSub, Int.reduceMul, Int.reduceToNat, ca_15, ca_16, ca_18, ca_31, ca_35, ca_6, es_22, es_28, fo_26_0, fo_26_1, fo_26_2, fo_26_3, fo_26_4, fo_44_0, fo_44_3, fo_44_5, fo_44_7, ld_2, ld_22, ld_23, ld_24, ld_26, ld_28, ld_3, ld_4, ld_44, ld_5, sl_22, sl_23, sl_24, sl_28, sz_44, z_44, h59, hr'])
        refine ⟨?_, hE05.trans hE6⟩
        have hall : (f.sub.zipIdx.all fun x => usualS d x.1 (t.at x.2)) = false := by
          cases e : (f.sub.zipIdx.all fun x => usualS d x.1 (t.at x.2)) with
          | false => rfl
          | true => exact absurd ((zipIdx_all _ _).1 e j hlt) hr
        rw [usual10 h10, hall]; rfl
    · have hb03 := hext.blk_some hb0 id
      have hb13 := hext.blk_some hb1 id
      repeat ((first | refine W.seqR rfl ?_ | refine W.seq ?_ | refine W.regR rfl ?_ | refine W.condK ?_ | refine W.block ?_ | refine W.skip ?_ | refine W.ret ?_ | refine W.exit ?_); try simp (disch := (first | omega | (simp only [World.size_alloc, size_wr, size_drew]; done) | (simp only [World.size_alloc, size_wr, size_drew]; omega) | exact not_noB _)) only [go_sem, ↓reduceIte, Nat.reduceEqDiff, reduceCtorEq, Nat.reduceAdd, Nat.reduceMul, Nat.reduceSub, Nat.reduceLT, Nat.reduceLeDiff, Int.reduceEq, Int.reduceLT, Int.reduceLE, Int.reduceNeg, Int.reduceAdd, Int.reduceSub, Int.reduceMul, Int.reduceToNat, ca_15, ca_16, ca_18, ca_31, ca_35, ca_6, es_22, es_28, fo_26_0, fo_26_1, fo_26_2, fo_26_3, fo_26_4, fo_44_0, fo_44_3, fo_44_5, fo_44_7, ld_2, ld_22, ld_23, ld_24, ld_26, ld_28, ld_3, ld_4, ld_44, ld_5, sl_22, sl_23, sl_24, sl_28, sz_44, z_44, h59, h58, h2, h3, hb03, hb13])
      refine (unknown_fn f.sub _ t.u _ w3 (hsub.keep (hext0.keeps _)) hfl (okF_tag hok) (hU.keep (hext0.keeps _))).mono ?_
      rintro v5 w5 ⟨⟨css, hown, hall⟩, hE5⟩
      obtain ⟨va, vc, rfl, hvc⟩ := hown.shape
      have hcl := hall.1
      have hul := unknownS_len f.sub t.u
      have hall : (f.sub.zipIdx.all fun x => usualS d x.1 (t.at x.2)) = true := (zipIdx_all _ _).2 fun i hi => hz i hi (by omega)
      by_cases hz0 : css.length = 0
      · simp (disch := (first | omega | (simp only [World.size_alloc, size_wr, size_drew]; done) | (simp only [World.size_alloc, size_wr, size_drew]; omega) | exact not_noB _)) only [go_sem, ↓reduceIte, Nat.reduceEqDiff, reduceCtorEq, Nat.reduceAdd, Nat.reduceMul, Nat.reduceSub, Nat.reduceLT, Nat.reduceLeDiff, Int.reduceEq, Int.reduceLT, Int.reduceLE, Int.reduceNeg, Int.reduceAdd, Int.reduceSub, Int.reduceMul, Int.reduceToNat, ca_15, ca_16, ca_18, ca_31, ca_35, ca_6, es_22, es_28, fo_26_0, fo_26_1, fo_26_2, fo_26_3, fo_26_4, fo_44_0, fo_44_3, fo_44_5, fo_44_7, ld_2, ld_22, ld_23, ld_24, ld_26, ld_28, ld_3, ld_4, ld_44, ld_5, sl_22, sl_23, sl_24, sl_28, sz_44, z_44]
        repeat ((first | refine W.seqR rfl ?_ | refine W.seq ?_ | refine W.regR rfl ?_ | refine W.condK ?_ | refine W.block ?_ | refine W.skip ?_ | refine W.ret ?_ | refine W.exit ?_); try simp (disch := (first | omega | (simp only [World.size_alloc, size_wr, size_drew]; done) | (simp only [World.size_alloc, size_wr, size_drew]; omega) | exact not_noB _)) only [go_sem, ↓reduceIte, Nat.reduceEqDiff, reduceCtorEq, Nat.reduceAdd, Nat.reduceMul, Nat.reduceSub, Nat.reduceLT, Nat.reduceLeDiff, Int.reduceEq, Int.reduceLT, Int.reduceLE, Int.reduceNeg, Int.reduceAdd, Int.reduceSub, Int.reduceMul, Int.reduceToNat, ca_15, ca_16, ca_18, ca_31, ca_35, ca_6, es_22, es_28, fo_26_0, fo_26_1, fo_26_2, fo_26_3, fo_26_4, fo_44_0, fo_44_3, fo_44_5, fo_44_7, ld_2, ld_22, ld_23, ld_24, ld_26, ld_28, ld_3, ld_4, ld_44, ld_5, sl_22, sl_23, sl_24, sl_28, sz_44, z_44])
        exact ⟨by rw [usual10 h10, hall, hcl, hz0]; rfl, hext0.trans hE5⟩
      · simp (disch := (first | omega | (simp only [World.size_alloc, size_wr, size_drew]; done) | (simp only [World.size_alloc, size_wr, size_drew]; omega) | exact not_noB _)) only [go_sem, ↓reduceIte, Nat.reduceEqDiff, reduceCtorEq, Nat.reduceAdd, Nat.reduceMul, Nat.reduceSub, Nat.reduceLT, Nat.reduceLeDiff, Int.reduceEq, Int.reduceLT, Int.reduceLE, Int.reduceNeg, Int.reduceAdd, Int.reduceSub, Int.reduceMul, Int.reduceToNat, ca_15, ca_16, ca_18, ca_31, ca_35, ca_6, es_22, es_28, fo_26_0, fo_26_1, fo_26_2, fo_26_3, fo_26_4, fo_44_0, fo_44_3, fo_44_5, fo_44_7, ld_2, ld_22, ld_23, ld_24, ld_26, ld_28, ld_3, ld_4, ld_44, ld_5, sl_22, sl_23, sl_24, sl_28, sz_44, z_44]
        repeat ((first | refine W.seqR rfl ?_ | refine W.seq ?_ | refine W.regR rfl ?_ | refine W.condK ?_ | refine W.block ?_ | refine W.skip ?_ | refine W.ret ?_ | refine W.exit ?_); try simp (disch := (first | omega | (simp only [World.size_alloc, size_wr, size_drew]; done) | (simp only [World.size_alloc, size_wr, size_drew]; omega) | exact not_noB _)) only [go_sem, ↓reduceIte, Nat.reduceEqDiff, reduceCtorEq, Nat.reduceAdd, Nat.reduceMul, Nat.reduceSub, Nat.reduceLT, Nat.reduceLeDiff, Int.reduceEq, Int.reduceLT, Int.reduceLE, Int.reduceNeg, Int.reduceAdd, Int.reduceSub, Int.reduceMul, Int.reduceToNat, ca_15, ca_16, ca_18, ca_31, ca_35, ca_6, es_22, es_28, fo_26_0, fo_26_1, fo_26_2, fo_26_3, fo_26_4, fo_44_0, fo_44_3, fo_44_5, fo_44_7, ld_2, ld_22, ld_23, ld_24, ld_26, ld_28, ld_3, ld_4, ld_44, ld_5, sl_22, sl_23, sl_24, sl_28, sz_44, z_44])
        exact ⟨by rw [usual10 h10, hall, hcl]; simp [hz0], hext0.trans hE5⟩

theorem usual_kd {ok : Blocks} (d : Nat) (f : Fld) (t : Tree) (cf ct : List Value) (w : World) (hf : FldC ok w f cf) (ht : TreeC ok w t ct) (hok : okF d f.sub = true) (hB : okB f) (hsm : Small 4611686018427387903 t)
    (hrec : UsualRec ok d f) (h0 : f.kind ≠ 0) (h7 : f.kind ≠ 7) (h8 : f.kind ≠ 8) (h9 : f.kind ≠ 9) (h11 : f.kind ≠ 11) (h10 : f.kind ≠ 10) :
    Fn Try.prog 31 #[.agg cf.toArray, .agg ct.toArray] w fun r w' => r = .bool (usualS (d + 1) f t) ∧ Ext w w' := by
  obtain ⟨vs, rfl, hsub⟩ := hf.inv
  obtain ⟨vS, vL, vU, rfl, hn, hS, hL, hU⟩ := ht.inv
  have hl1 := hsm.s
  have hl2 := hsm.l
  have f0 := SlR.flat hsub
  have f1 := hS.flat
  have f2 := SlR.flat hL
  have f3 := SlR.flat hU
  obtain ⟨bS, cS, rfl, hcS⟩ := hS.shape
  obtain ⟨bL, cL, rfl, hcL⟩ := SlR.shape hL
  have hE : Ext w ((w.alloc (.cells #[.int .i64 f.kind, .int .i64 f.fr, .int .i64 f.to, .int .i64 f.null, .int .i64 f.tag, .int .i64 f.df, .int .i64 f.of, vs] 44)).alloc (.cells #[.int .i64 t.n, .slice bS t.s.length cS, .bool t.null, .slice bL t.l.length cL, vU] 26)) := Upd.alloc (Upd.alloc (Upd.refl _ _) _) _
  refine fn_of_W Try.func31 rfl Try.results31 Try.ntmps31 rfl ?_
  repeat ((first | refine W.seqR rfl ?_ | refine W.seq ?_ | refine W.regR rfl ?_ | refine W.condK ?_ | refine W.block ?_ | refine W.skip ?_ | refine W.ret ?_ | refine W.exit ?_); try simp (disch := (first | omega | (simp only [World.size_alloc, size_wr, size_drew]; done) | (simp only [World.size_alloc, size_wr, size_drew]; omega) | exact not_noB _)) only [go_sem, ↓reduceIte, Nat.reduceEqDiff, reduceCtorEq, Nat.reduceAdd, Nat.reduceMul, Nat.reduceSub, Nat.reduceLT, Nat.reduceLeDiff, Int.reduceEq, Int.reduceLT, Int.reduceLE, Int.reduceNeg, Int.reduceAdd, Int.reduceSub, Int.reduceMul, Int.reduceToNat, ca_15, ca_16, ca_18, ca_31, ca_35, ca_6, es_22, es_28, fo_26_0, fo_26_1, fo_26_2, fo_26_3, fo_26_4, fo_44_0, fo_44_3, fo_44_5, fo_44_7, ld_2, ld_22, ld_23, ld_24, ld_26, ld_28, ld_3, ld_4, ld_44, ld_5, sl_22, sl_23, sl_24, sl_28, sz_44, z_44, f0, f1, f2, f3])
  refine W.drawR (.take 0 (.take 1 (.take 2 (.take 3 (.take 6 (.take 7 (.take 8 (.take 9 (.only 4 (.only 5 (.only 10 (.only 11 (.only 12 (.only 13 .done)))))))))))))) NoB mixed (by kernel_rfl) ?_
  simp (disch := (first | omega | (simp only [World.size_alloc, size_wr, size_drew]; done) | (simp only [World.size_alloc, size_wr, size_drew]; omega) | exact not_noB _)) only [go_sem, ↓reduceIte, Nat.reduceEqDiff, reduceCtorEq, Nat.reduceAdd, Nat.reduceMul, Nat.reduceSub, Nat.reduceLT, Nat.reduceLeDiff, Int.reduceEq, Int.reduceLT, Int.reduceLE, Int.reduceNeg, Int.reduceAdd, Int.reduceSub, Int.reduceMul, Int.reduceToNat, ca_15, ca_16, ca_18, ca_31, ca_35, ca_6, es_22, es_28, fo_26_0, fo_26_1, fo_26_2, fo_26_3, fo_26_4, fo_44_0, fo_44_3, fo_44_5, fo_44_7, ld_2, ld_22, ld_23, ld_24, ld_26, ld_28, ld_3, ld_4, ld_44, ld_5, sl_22, sl_23, sl_24, sl_28, sz_44, z_44, f0, f1, f2, f3]
  have hw4 := hE.drew
  generalize ((w.alloc (.cells #[.int .i64 f.kind, .int .i64 f.fr, .int .i64 f.to, .int .i64 f.null, .int .i64 f.tag, .int .i64 f.df, .int .i64 f.of, vs] 44)).alloc (.cells #[.int .i64 t.n, .slice bS t.s.length cS, .bool t.null, .slice bL t.l.length cL, vU] 26)).drew = w4 at *
  refine (Width_fn f.kind _).mono ?_
  rintro _ _ ⟨rfl, rfl⟩
  refine ⟨Upd.refl _ _, ?_⟩
  refine (Fixed_fn t.n (widthS f.kind) (widthS_le _) _).mono ?_
  rintro v5 w5 ⟨ho5, he5⟩
  refine ⟨he5, ?_⟩
  refine (Width_fn f.kind _).mono ?_
  rintro _ _ ⟨rfl, rfl⟩
  refine ⟨he5, ?_⟩
  refine (Fixed_fn f.df (widthS f.kind) (widthS_le _) _).mono ?_
  rintro v6 w6 ⟨ho6, he6⟩
  refine ⟨he5.trans he6, ?_⟩
  have hle := widthS_le f.kind
  refine (Same_fn (ok := AnyB) _ _ v5 v6 w6 ((Own.bytes ho5 fun _ _ => trivial).keep (he6.keeps _)) (Own.bytes ho6 fun _ _ => trivial) (by rw [fixedS_len]; omega)).mono ?_
  rintro v7 w7 ⟨rfl, he7⟩
  refine ⟨(he5.trans he6).trans he7, (he5.trans he6).trans he7, ?_⟩
  repeat ((first | refine W.seqR rfl ?_ | refine W.seq ?_ | refine W.regR rfl ?_ | refine W.condK ?_ | refine W.block ?_ | refine W.skip ?_ | refine W.ret ?_ | refine W.exit ?_); try simp (disch := (first | omega | (simp only [World.size_alloc, size_wr, size_drew]; done) | (simp only [World.size_alloc, size_wr, size_drew]; omega) | exact not_noB _)) only [go_sem, ↓reduceIte, Nat.reduceEqDiff, reduceCtorEq, Nat.reduceAdd, Nat.reduceMul, Nat.reduceSub, Nat.reduceLT, Nat.reduceLeDiff, Int.reduceEq, Int.reduceLT, Int.reduceLE, Int.reduceNeg, Int.reduceAdd, Int.reduceSub, Int.reduceMul, Int.reduceToNat, ca_15, ca_16, ca_18, ca_31, ca_35, ca_6, es_22, es_28, fo_26_0, fo_26_1, fo_26_2, fo_26_3, fo_26_4, fo_44_0, fo_44_3, fo_44_5, fo_44_7, ld_2, ld_22, ld_23, ld_24, ld_26, ld_28, ld_3, ld_4, ld_44, ld_5, sl_22, sl_23, sl_24, sl_28, sz_44, z_44])
  refine ⟨?_, ((hw4.trans he5).trans he6).trans he7⟩
  simp [usualS, h0, h7, h8, h9, h10, h11]

theorem usual_fn {ok : Blocks} (d : Nat) : ∀ (f : Fld) (t : Tree) (cf ct : List Value) (w : World), FldC ok w f cf → TreeC ok w t ct → okF d f.sub = true → okB f → Small 4611686018427387903 t →
    Fn Try.prog 31 #[.agg cf.toArray, .agg ct.toArray] w fun r w' => r = .bool (usualS (d + 1) f t) ∧ Ext w w' := by
  induction d using Nat.strongRecOn with
  | _ d ih =>
  intro f t cf ct w hf ht hok hB hsm
  have hrec : UsualRec ok d f := fun g hg t' cg ct' w' h1 h2 h3 => by
    obtain ⟨e, rfl, h4, h5⟩ := okF_el hok hg
    exact ih e (by omega) g t' cg ct' w' h1 h2 h5 h4 h3
  by_cases h0 : f.kind = 0
  · exact usual_k0 d f t cf ct w hf ht hok hB hsm hrec h0
  by_cases h7 : f.kind = 7
  · exact usual_k7 d f t cf ct w hf ht hok hB hsm hrec h7
  by_cases h8 : f.kind = 8
  · exact usual_k8 d f t cf ct w hf ht hok hB hsm hrec h8
  by_cases h9 : f.kind = 9
  · exact usual_k9 d f t cf ct w hf ht hok hB hsm hrec h9
  by_cases h11 : f.kind = 11
  · exact usual_k11 d f t cf ct w hf ht hok hB hsm hrec h11
  by_cases h10 : f.kind = 10
  · exact usual_k10 d f t cf ct w hf ht hok hB hsm hrec h10
  exact usual_kd d f t cf ct w hf ht hok hB hsm hrec h0 h7 h8 h9 h11 h10
end Ms
