/- A part of the proof: see the last text. -/
import Derived.Test.YtohokpilmncmkaaMsS5
import Derived.Test.YtohokpilmncmkaaMsList
set_option linter.unusedSimpArgs false
set_option linter.unusedVariables false
namespace Ms
open Go Go.Proofs
attribute [local congr] W_congr WPsq_congr WPp_congr optK_congr addrK_congr intK_congr boolK_congr sliceK_congr tupleK_congr funcK_congr Fn_congr rawK_congr takeK_congr stepK_congr convK_congr aggK_congr

def OwnTags (ok : Blocks) (w : World) (B : Nat) (w' : World) (v : Value) (ts : List TagD) : Prop := ∃ css, OwnE B w' 53 2 v css ∧ All2 (TagC ok w) ts css

abbrev UG (w : World) (N j K tb capl : Nat) (base : Option Addr) (v vv : Value) (css : List (List Value)) (t : TagD) (ρ : Regs) (w' : World) : Prop :=
  ρ 19 = .int .i64 j ∧ ρ 18 = .int .i64 N ∧ ρ 17 = .slice base N capl ∧ ρ 5 = .int .u32 K ∧ ρ 6 = v ∧ ρ 8 = .pointer (some ⟨tb, 0, none⟩) ∧
    OwnE w.heap.size w' 53 2 v css ∧ blk w' tb = some (#[.int .u32 t.1, vv], 53, (0, 0)) ∧ Ext w w' ∧ tb < w'.heap.size

theorem unknown_fn {ok : Blocks} (fs : List Fld) (vf : Value) (l : List TagD) (vl : Value) (w : World) (hf : FldsV ok w vf fs) (hfl : fs.length ≤ 1000) (htag : ∀ f ∈ fs, f.tag ≤ 1000) (hl : TagsV ok w vl l) :
    Fn Try.prog 16 #[vf, vl] w fun r w' => OwnTags ok w w.heap.size w' r (unknownS fs l) ∧ Ext w w' := by
  obtain ⟨basel, capl, rfl, hcapl⟩ := SlR.shape hl
  have hK := knownS_le (fs := fs) htag
  refine fn_of_W Try.func16 rfl Try.results16 Try.ntmps16 rfl ?_
  repeat ((first | refine W.seqR rfl ?_ | refine W.seq ?_ | refine W.regR rfl ?_ | refine W.condK ?_ | refine W.block ?_ | refine W.skip ?_ | refine W.ret ?_ | refine W.exit ?_); try simp (disch := (first | omega | (simp only [World.size_alloc, size_wr, size_drew]; done) | (simp only [World.size_alloc, size_wr, size_drew]; omega) | exact not_noB _)) only [go_sem, ↓reduceIte, Nat.reduceEqDiff, reduceCtorEq, Nat.reduceAdd, Nat.reduceMul, Nat.reduceSub, Nat.reduceLT, Nat.reduceLeDiff, Int.reduceEq, Int.reduceLT, Int.reduceLE, Int.reduceNeg, Int.reduceAdd, Int.reduceSub, Int.reduceMul, Int.reduceToNat, ca_26, es_24, fo_53_0, ld_51, ld_53, pl_53, se_24, sl_24, sz_53, z_53])
  refine (known_fn fs vf w hf hfl htag).mono ?_
  rintro v0 w0 ⟨rfl, hE0⟩
  have hz0 := hE0.size
  have hmin : (if (32767 : Int) < (l.length : Int) then (32767 : Int) else (l.length : Int)) = ((min l.length 32767 : Nat) : Int) := by
    split <;> omega
  repeat ((first | refine W.seqR rfl ?_ | refine W.seq ?_ | refine W.regR rfl ?_ | refine W.condK ?_ | refine W.block ?_ | refine W.skip ?_ | refine W.ret ?_ | refine W.exit ?_); try simp (disch := (first | omega | (simp only [World.size_alloc, size_wr, size_drew]; done) | (simp only [World.size_alloc, size_wr, size_drew]; omega) | exact not_noB _)) only [go_sem, ↓reduceIte, Nat.reduceEqDiff, reduceCtorEq, Nat.reduceAdd, Nat.reduceMul, Nat.reduceSub, Nat.reduceLT, Nat.reduceLeDiff, Int.reduceEq, Int.reduceLT, Int.reduceLE, Int.reduceNeg, Int.reduceAdd, Int.reduceSub, Int.reduceMul, Int.reduceToNat, ca_26, es_24, fo_53_0, ld_51, ld_53, pl_53, se_24, sl_24, sz_53, z_53, hmin, Int.toNat_natCast])
  clear hmin
  have hN : min l.length 32767 ≤ 32767 := Nat.min_le_right _ _
  have hL := SlR.take hl (min l.length 32767) (by omega)
  have hLl : (l.take (min l.length 32767)).length = min l.length 32767 := by simp
  have hun : unknownS fs l = (l.take (min l.length 32767)).foldl (insTag (knownS fs)) [] := by rw [take_min]; rfl
  generalize slBase basel 0 capl 2 = base at *
  generalize l.take (min l.length 32767) = L at *
  generalize min l.length 32767 = N at *
  generalize knownS fs = K at *
  refine W.loop (fun ρ w' => ∃ (j : Nat) (v : Value) (css : List (List Value)), j ≤ N ∧ ρ 19 = .int .i64 j ∧ ρ 18 = .int .i64 N ∧ ρ 17 = .slice base N capl ∧ ρ 5 = .int .u32 K ∧ ρ 6 = v ∧
      OwnE w.heap.size w' 53 2 v css ∧ All2 (TagC ok w) ((L.take j).foldl (insTag K) []) css ∧ css.length ≤ j ∧ Ext w w')
    (fun ρ _ => N - (RowKit.intOf (ρ 19)).toNat) ?_ ?_
  · refine ⟨0, _, [], Nat.zero_le _, ?_, ?_, ?_, ?_, rfl, ?_, ⟨rfl, fun i h => by simp at h⟩, Nat.le_refl _, hE0⟩ <;> simp (disch := (first | omega | (simp only [World.size_alloc, size_wr, size_drew]; done) | (simp only [World.size_alloc, size_wr, size_drew]; omega) | exact not_noB _)) only [go_sem, ↓reduceIte, Nat.reduceEqDiff, reduceCtorEq, Nat.reduceAdd, Nat.reduceMul, Nat.reduceSub, Nat.reduceLT, Nat.reduceLeDiff, Int.reduceEq, Int.reduceLT, Int.reduceLE, Int.reduceNeg, Int.reduceAdd, Int.reduceSub, Int.reduceMul, Int.reduceToNat]
    all_goals first | rfl | exact OwnE.nil _ _ _ _
  · rintro ρ w1 ⟨j, v, css, hj, h19, h18, h17, h5, h6, hown, hall, hcl, hext⟩
    have hz := hext.size
    by_cases hlt : j < N
    · obtain ⟨_, b, o, x, vv, hb, _, hx, hblt, hxs, hxe, _, _, hfv, hbv, ht32⟩ := TagsV.get hL (by omega : j < L.length)
      subst hb
      have hx1 : blk w1 b = some x := hext.blk_some hx id
      have hfold : (L.take (j + 1)).foldl (insTag K) [] = insTag K ((L.take j).foldl (insTag K) []) L[j] := by
        rw [List.take_succ_eq_append_getElem (by omega)]; simp only [List.foldl_append, List.foldl_cons, List.foldl_nil]
      generalize L[j] = t at *
      generalize (L.take j).foldl (insTag K) [] = out at *
      have hol : out.length = css.length := hall.1
      repeat ((first | refine W.seqR rfl ?_ | refine W.seq ?_ | refine W.regR rfl ?_ | refine W.condK ?_ | refine W.block ?_ | refine W.skip ?_ | refine W.ret ?_ | refine W.exit ?_); try simp (disch := (first | omega | (simp only [World.size_alloc, size_wr, size_drew]; done) | (simp only [World.size_alloc, size_wr, size_drew]; omega) | exact not_noB _)) only [go_sem, ↓reduceIte, Nat.reduceEqDiff, reduceCtorEq, Nat.reduceAdd, Nat.reduceMul, Nat.reduceSub, Nat.reduceLT, Nat.reduceLeDiff, Int.reduceEq, Int.reduceLT, Int.reduceLE, Int.reduceNeg, Int.reduceAdd, Int.reduceSub, Int.reduceMul, Int.reduceToNat, ca_26, es_24, fo_53_0, ld_51, ld_53, pl_53, se_24, sl_24, sz_53, z_53, h19, h18, h17, h5, h6, hx1, hxe, hfv, Int.toNat_natCast])
      refine W.exitJ 2 (fun ρ' w' => ∃ i : Nat, i ≤ css.length ∧ ρ' 9 = .int .i64 i ∧ UG w N j K w1.heap.size capl (some ⟨b, o, none⟩) v vv css t ρ' w' ∧ (∀ k (hk : k < out.length), k < i → out[k].1 < t.1) ∧ (∀ hi : i < out.length, t.1 ≤ out[i].1))
        (W.loop (fun ρ' w' => ∃ i : Nat, i ≤ css.length ∧ ρ' 9 = .int .i64 i ∧ UG w N j K w1.heap.size capl (some ⟨b, o, none⟩) v vv css t ρ' w' ∧ (∀ k (hk : k < out.length), k < i → out[k].1 < t.1))
          (fun ρ _ => css.length - (RowKit.intOf (ρ 9)).toNat) ?_ ?_) ?_
      · refine ⟨0, Nat.zero_le _, ?_, ⟨?_, ?_, ?_, ?_, ?_, ?_, ?_, ?_, ?_, ?_⟩, fun k _ h => by omega⟩
        · simp (disch := (first | omega | (simp only [World.size_alloc, size_wr, size_drew]; done) | (simp only [World.size_alloc, size_wr, size_drew]; omega) | exact not_noB _)) only [go_sem, ↓reduceIte, Nat.reduceEqDiff, reduceCtorEq, Nat.reduceAdd, Nat.reduceMul, Nat.reduceSub, Nat.reduceLT, Nat.reduceLeDiff, Int.reduceEq, Int.reduceLT, Int.reduceLE, Int.reduceNeg, Int.reduceAdd, Int.reduceSub, Int.reduceMul, Int.reduceToNat]
          rfl
        iterate 6 (· simp (disch := (first | omega | (simp only [World.size_alloc, size_wr, size_drew]; done) | (simp only [World.size_alloc, size_wr, size_drew]; omega) | exact not_noB _)) only [go_sem, ↓reduceIte, Nat.reduceEqDiff, reduceCtorEq, Nat.reduceAdd, Nat.reduceMul, Nat.reduceSub, Nat.reduceLT, Nat.reduceLeDiff, Int.reduceEq, Int.reduceLT, Int.reduceLE, Int.reduceNeg, Int.reduceAdd, Int.reduceSub, Int.reduceMul, Int.reduceToNat, h19, h18, h17, h5, h6])
        · exact (hown.alloc _).upd ((Upd.refl (fun b => b = w1.heap.size) _).wr 0 _ (.inr rfl)) fun b hb e => by have := hown.1.below hb; omega
        · simp (disch := (first | omega | (simp only [World.size_alloc, size_wr, size_drew]; done) | (simp only [World.size_alloc, size_wr, size_drew]; omega) | exact not_noB _)) only [go_sem, ↓reduceIte, Nat.reduceEqDiff, reduceCtorEq, Nat.reduceAdd, Nat.reduceMul, Nat.reduceSub, Nat.reduceLT, Nat.reduceLeDiff, Int.reduceEq, Int.reduceLT, Int.reduceLE, Int.reduceNeg, Int.reduceAdd, Int.reduceSub, Int.reduceMul, Int.reduceToNat]
        · exact (hext.alloc _).wr _ _ (.inl (by omega))
        · simp only [size_wr, World.size_alloc]; omega
      · rintro ρ2 w2 ⟨i, hi, h9, ⟨k19, k18, k17, k5, k6, k8, hown2, htb, hext2, htbl⟩, hlo⟩
        obtain ⟨va, vc, hv, hvc⟩ := hown2.shape
        subst hv
        by_cases hil : i < css.length
        · obtain ⟨g, cap, x2, hv, hcap, hBg, hgl, hgb, hg1, hg2, hg3⟩ := hown2.view (by omega)
          cases hv
          obtain ⟨vv2, hcs, hbv2, h32⟩ := hall.2 i (by omega) hil
          have hnum := hg3 i hil 0 (by omega)
          rw [hcs, Nat.add_zero] at hnum
          have hii : i < out.length := by omega
          by_cases hlt2 : out[i].1 < t.1
          · repeat ((first | refine W.seqR rfl ?_ | refine W.seq ?_ | refine W.regR rfl ?_ | refine W.condK ?_ | refine W.block ?_ | refine W.skip ?_ | refine W.ret ?_ | refine W.exit ?_); try simp (disch := (first | omega | (simp only [World.size_alloc, size_wr, size_drew]; done) | (simp only [World.size_alloc, size_wr, size_drew]; omega) | exact not_noB _)) only [go_sem, ↓reduceIte, Nat.reduceEqDiff, reduceCtorEq, Nat.reduceAdd, Nat.reduceMul, Nat.reduceSub, Nat.reduceLT, Nat.reduceLeDiff, Int.reduceEq, Int.reduceLT, Int.reduceLE, Int.reduceNeg, Int.reduceAdd, Int.reduceSub, Int.reduceMul, Int.reduceToNat, ca_26, es_24, fo_53_0, ld_51, ld_53, pl_53, se_24, sl_24, sz_53, z_53])
            refine W.drawR (.take 0 (.take 1 (.take 2 (.take 3 (.take 4 (.take 5 (.take 6 (.take 7 (.take 8 (.take 9 (.take 10 (.take 11 (.take 12 (.take 13 .done)))))))))))))) NoB mixed (by kernel_rfl) ?_
            simp (disch := (first | omega | (simp only [World.size_alloc, size_wr, size_drew]; done) | (simp only [World.size_alloc, size_wr, size_drew]; omega) | exact not_noB _)) only [go_sem, ↓reduceIte, Nat.reduceEqDiff, reduceCtorEq, Nat.reduceAdd, Nat.reduceMul, Nat.reduceSub, Nat.reduceLT, Nat.reduceLeDiff, Int.reduceEq, Int.reduceLT, Int.reduceLE, Int.reduceNeg, Int.reduceAdd, Int.reduceSub, Int.reduceMul, Int.reduceToNat, ca_26, es_24, fo_53_0, ld_51, ld_53, pl_53, se_24, sl_24, sz_53, z_53, k6, h9, k8, hgb, hnum, htb, Int.toNat_natCast]
            repeat ((first | refine W.seqR rfl ?_ | refine W.seq ?_ | refine W.regR rfl ?_ | refine W.condK ?_ | refine W.block ?_ | refine W.skip ?_ | refine W.ret ?_ | refine W.exit ?_); try simp (disch := (first | omega | (simp only [World.size_alloc, size_wr, size_drew]; done) | (simp only [World.size_alloc, size_wr, size_drew]; omega) | exact not_noB _)) only [go_sem, ↓reduceIte, Nat.reduceEqDiff, reduceCtorEq, Nat.reduceAdd, Nat.reduceMul, Nat.reduceSub, Nat.reduceLT, Nat.reduceLeDiff, Int.reduceEq, Int.reduceLT, Int.reduceLE, Int.reduceNeg, Int.reduceAdd, Int.reduceSub, Int.reduceMul, Int.reduceToNat, ca_26, es_24, fo_53_0, ld_51, ld_53, pl_53, se_24, sl_24, sz_53, z_53, h9])
            refine ⟨⟨i + 1, by omega, ?_, ⟨?_, ?_, ?_, ?_, ?_, ?_, hown2.upd (Upd.refl (fun _ => False) _).drew (fun _ _ h => h), htb, hext2.drew, htbl⟩, ?_⟩, ?_⟩
            · rfl
            iterate 6 (· simp (disch := (first | omega | (simp only [World.size_alloc, size_wr, size_drew]; done) | (simp only [World.size_alloc, size_wr, size_drew]; omega) | exact not_noB _)) only [go_sem, ↓reduceIte, Nat.reduceEqDiff, reduceCtorEq, Nat.reduceAdd, Nat.reduceMul, Nat.reduceSub, Nat.reduceLT, Nat.reduceLeDiff, Int.reduceEq, Int.reduceLT, Int.reduceLE, Int.reduceNeg, Int.reduceAdd, Int.reduceSub, Int.reduceMul, Int.reduceToNat, k19, k18, k17, k5, k6, k8])
            · intro k hk hki
              rcases Nat.lt_or_ge k i with h | h
              · exact hlo k hk h
              · have : k = i := by omega
                subst this; exact hlt2
            · simp only [RowKit.intOf, h9]; omega
          · repeat ((first | refine W.seqR rfl ?_ | refine W.seq ?_ | refine W.regR rfl ?_ | refine W.condK ?_ | refine W.block ?_ | refine W.skip ?_ | refine W.ret ?_ | refine W.exit ?_); try simp (disch := (first | omega | (simp only [World.size_alloc, size_wr, size_drew]; done) | (simp only [World.size_alloc, size_wr, size_drew]; omega) | exact not_noB _)) only [go_sem, ↓reduceIte, Nat.reduceEqDiff, reduceCtorEq, Nat.reduceAdd, Nat.reduceMul, Nat.reduceSub, Nat.reduceLT, Nat.reduceLeDiff, Int.reduceEq, Int.reduceLT, Int.reduceLE, Int.reduceNeg, Int.reduceAdd, Int.reduceSub, Int.reduceMul, Int.reduceToNat, ca_26, es_24, fo_53_0, ld_51, ld_53, pl_53, se_24, sl_24, sz_53, z_53])
            refine W.drawR (.take 0 (.take 1 (.take 2 (.take 3 (.take 4 (.take 5 (.take 6 (.take 7 (.take 8 (.take 9 (.take 10 (.take 11 (.take 12 (.take 13 .done)))))))))))))) NoB mixed (by kernel_rfl) ?_
            simp (disch := (first | omega | (simp only [World.size_alloc, size_wr, size_drew]; done) | (simp only [World.size_alloc, size_wr, size_drew]; omega) | exact not_noB _)) only [go_sem, ↓reduceIte, Nat.reduceEqDiff, reduceCtorEq, Nat.reduceAdd, Nat.reduceMul, Nat.reduceSub, Nat.reduceLT, Nat.reduceLeDiff, Int.reduceEq, Int.reduceLT, Int.reduceLE, Int.reduceNeg, Int.reduceAdd, Int.reduceSub, Int.reduceMul, Int.reduceToNat, ca_26, es_24, fo_53_0, ld_51, ld_53, pl_53, se_24, sl_24, sz_53, z_53, k6, h9, k8, hgb, hnum, htb, Int.toNat_natCast]
            repeat ((first | refine W.seqR rfl ?_ | refine W.seq ?_ | refine W.regR rfl ?_ | refine W.condK ?_ | refine W.block ?_ | refine W.skip ?_ | refine W.ret ?_ | refine W.exit ?_); try simp (disch := (first | omega | (simp only [World.size_alloc, size_wr, size_drew]; done) | (simp only [World.size_alloc, size_wr, size_drew]; omega) | exact not_noB _)) only [go_sem, ↓reduceIte, Nat.reduceEqDiff, reduceCtorEq, Nat.reduceAdd, Nat.reduceMul, Nat.reduceSub, Nat.reduceLT, Nat.reduceLeDiff, Int.reduceEq, Int.reduceLT, Int.reduceLE, Int.reduceNeg, Int.reduceAdd, Int.reduceSub, Int.reduceMul, Int.reduceToNat, ca_26, es_24, fo_53_0, ld_51, ld_53, pl_53, se_24, sl_24, sz_53, z_53])
            refine ⟨i, hi, ?_, ⟨?_, ?_, ?_, ?_, ?_, ?_, hown2.upd (Upd.refl (fun _ => False) _).drew (fun _ _ h => h), htb, hext2.drew, htbl⟩, hlo, fun _ => by omega⟩
            iterate 7 (· simp (disch := (first | omega | (simp only [World.size_alloc, size_wr, size_drew]; done) | (simp only [World.size_alloc, size_wr, size_drew]; omega) | exact not_noB _)) only [go_sem, ↓reduceIte, Nat.reduceEqDiff, reduceCtorEq, Nat.reduceAdd, Nat.reduceMul, Nat.reduceSub, Nat.reduceLT, Nat.reduceLeDiff, Int.reduceEq, Int.reduceLT, Int.reduceLE, Int.reduceNeg, Int.reduceAdd, Int.reduceSub, Int.reduceMul, Int.reduceToNat, k19, k18, k17, k5, k6, k8, h9])
        · repeat ((first | refine W.seqR rfl ?_ | refine W.seq ?_ | refine W.regR rfl ?_ | refine W.condK ?_ | refine W.block ?_ | refine W.skip ?_ | refine W.ret ?_ | refine W.exit ?_); try simp (disch := (first | omega | (simp only [World.size_alloc, size_wr, size_drew]; done) | (simp only [World.size_alloc, size_wr, size_drew]; omega) | exact not_noB _)) only [go_sem, ↓reduceIte, Nat.reduceEqDiff, reduceCtorEq, Nat.reduceAdd, Nat.reduceMul, Nat.reduceSub, Nat.reduceLT, Nat.reduceLeDiff, Int.reduceEq, Int.reduceLT, Int.reduceLE, Int.reduceNeg, Int.reduceAdd, Int.reduceSub, Int.reduceMul, Int.reduceToNat, ca_26, es_24, fo_53_0, ld_51, ld_53, pl_53, se_24, sl_24, sz_53, z_53])
          refine W.drawR (.take 0 (.take 1 (.take 2 (.take 3 (.take 4 (.take 5 (.take 6 (.take 7 (.take 8 (.take 9 (.take 10 (.take 11 (.take 12 (.take 13 .done)))))))))))))) NoB mixed (by kernel_rfl) ?_
          simp (disch := (first | omega | (simp only [World.size_alloc, size_wr, size_drew]; done) | (simp only [World.size_alloc, size_wr, size_drew]; omega) | exact not_noB _)) only [go_sem, ↓reduceIte, Nat.reduceEqDiff, reduceCtorEq, Nat.reduceAdd, Nat.reduceMul, Nat.reduceSub, Nat.reduceLT, Nat.reduceLeDiff, Int.reduceEq, Int.reduceLT, Int.reduceLE, Int.reduceNeg, Int.reduceAdd, Int.reduceSub, Int.reduceMul, Int.reduceToNat, ca_26, es_24, fo_53_0, ld_51, ld_53, pl_53, se_24, sl_24, sz_53, z_53, k6, h9, k8, htb]
          repeat ((first | refine W.seqR rfl ?_ | refine W.seq ?_ | refine W.regR rfl ?_ | refine W.condK ?_ | refine W.block ?_ | refine W.skip ?_ | refine W.ret ?_ | refine W.exit ?_); try simp (disch := (first | omega | (simp only [World.size_alloc, size_wr, size_drew]; done) | (simp only [World.size_alloc, size_wr, size_drew]; omega) | exact not_noB _)) only [go_sem, ↓reduceIte, Nat.reduceEqDiff, reduceCtorEq, Nat.reduceAdd, Nat.reduceMul, Nat.reduceSub, Nat.reduceLT, Nat.reduceLeDiff, Int.reduceEq, Int.reduceLT, Int.reduceLE, Int.reduceNeg, Int.reduceAdd, Int.reduceSub, Int.reduceMul, Int.reduceToNat, ca_26, es_24, fo_53_0, ld_51, ld_53, pl_53, se_24, sl_24, sz_53, z_53])
          refine ⟨i, hi, ?_, ⟨?_, ?_, ?_, ?_, ?_, ?_, hown2.upd (Upd.refl (fun _ => False) _).drew (fun _ _ h => h), htb, hext2.drew, htbl⟩, hlo, fun _ => by omega⟩
          iterate 7 (· simp (disch := (first | omega | (simp only [World.size_alloc, size_wr, size_drew]; done) | (simp only [World.size_alloc, size_wr, size_drew]; omega) | exact not_noB _)) only [go_sem, ↓reduceIte, Nat.reduceEqDiff, reduceCtorEq, Nat.reduceAdd, Nat.reduceMul, Nat.reduceSub, Nat.reduceLT, Nat.reduceLeDiff, Int.reduceEq, Int.reduceLT, Int.reduceLE, Int.reduceNeg, Int.reduceAdd, Int.reduceSub, Int.reduceMul, Int.reduceToNat, k19, k18, k17, k5, k6, k8, h9])
      · rintro ρ2 w2 ⟨i, hi, h9, ⟨k19, k18, k17, k5, k6, k8, hown2, htb, hext2, htbl⟩, hlo, hhi⟩
        obtain ⟨va, vc, hv, hvc⟩ := hown2.shape
        subst hv
        simp (disch := (first | omega | (simp only [World.size_alloc, size_wr, size_drew]; done) | (simp only [World.size_alloc, size_wr, size_drew]; omega) | exact not_noB _)) only [go_sem, ↓reduceIte, Nat.reduceEqDiff, reduceCtorEq, Nat.reduceAdd, Nat.reduceMul, Nat.reduceSub, Nat.reduceLT, Nat.reduceLeDiff, Int.reduceEq, Int.reduceLT, Int.reduceLE, Int.reduceNeg, Int.reduceAdd, Int.reduceSub, Int.reduceMul, Int.reduceToNat]
        repeat ((first | refine W.seqR rfl ?_ | refine W.seq ?_ | refine W.regR rfl ?_ | refine W.condK ?_ | refine W.block ?_ | refine W.skip ?_ | refine W.ret ?_ | refine W.exit ?_); try simp (disch := (first | omega | (simp only [World.size_alloc, size_wr, size_drew]; done) | (simp only [World.size_alloc, size_wr, size_drew]; omega) | exact not_noB _)) only [go_sem, ↓reduceIte, Nat.reduceEqDiff, reduceCtorEq, Nat.reduceAdd, Nat.reduceMul, Nat.reduceSub, Nat.reduceLT, Nat.reduceLeDiff, Int.reduceEq, Int.reduceLT, Int.reduceLE, Int.reduceNeg, Int.reduceAdd, Int.reduceSub, Int.reduceMul, Int.reduceToNat, ca_26, es_24, fo_53_0, ld_51, ld_53, pl_53, se_24, sl_24, sz_53, z_53])
        refine W.normJ (fun ρ' w' => ∃ bb : Bool, ρ' 58 = .bool bb ∧ (bb = true ↔ (t.1 < K ∨ ∃ hi : i < out.length, out[i].1 = t.1)) ∧ ρ' 9 = .int .i64 i ∧ UG w N j K w1.heap.size capl (some ⟨b, o, none⟩) (.slice va css.length vc) vv css t ρ' w') ?_ ?_
        · by_cases hKt : t.1 < K
          · refine W.drawR (.take 0 (.take 1 (.take 2 (.take 3 (.take 4 (.take 5 (.take 6 (.take 7 (.take 8 (.take 9 (.take 10 (.take 11 (.take 12 (.take 13 (.take 14 (.take 15 (.take 16 (.take 17 (.take 18 (.take 19 .done)))))))))))))))))))) NoB mixed (by kernel_rfl) ?_
            simp (disch := (first | omega | (simp only [World.size_alloc, size_wr, size_drew]; done) | (simp only [World.size_alloc, size_wr, size_drew]; omega) | exact not_noB _)) only [go_sem, ↓reduceIte, Nat.reduceEqDiff, reduceCtorEq, Nat.reduceAdd, Nat.reduceMul, Nat.reduceSub, Nat.reduceLT, Nat.reduceLeDiff, Int.reduceEq, Int.reduceLT, Int.reduceLE, Int.reduceNeg, Int.reduceAdd, Int.reduceSub, Int.reduceMul, Int.reduceToNat, ca_26, es_24, fo_53_0, ld_51, ld_53, pl_53, se_24, sl_24, sz_53, z_53, k6, h9, k8, k5, htb]
            refine ⟨true, rfl, by simp [hKt], ⟨?_, ?_, ?_, ?_, ?_, ?_, hown2.upd (Upd.refl (fun _ => False) _).drew (fun _ _ h => h), htb, hext2.drew, htbl⟩⟩
            iterate 6 (· simp (disch := (first | omega | (simp only [World.size_alloc, size_wr, size_drew]; done) | (simp only [World.size_alloc, size_wr, size_drew]; omega) | exact not_noB _)) only [go_sem, ↓reduceIte, Nat.reduceEqDiff, reduceCtorEq, Nat.reduceAdd, Nat.reduceMul, Nat.reduceSub, Nat.reduceLT, Nat.reduceLeDiff, Int.reduceEq, Int.reduceLT, Int.reduceLE, Int.reduceNeg, Int.reduceAdd, Int.reduceSub, Int.reduceMul, Int.reduceToNat, k19, k18, k17, k5, k6, k8])
          · by_cases hil : i < css.length
            · obtain ⟨g, cap, x2, hv, hcap, hBg, hgl, hgb, hg1, hg2, hg3⟩ := hown2.view (by omega)
              cases hv
              obtain ⟨vv2, hcs, hbv2, h32⟩ := hall.2 i (by omega) hil
              have hnum := hg3 i hil 0 (by omega)
              rw [hcs, Nat.add_zero] at hnum
              have hii : i < out.length := by omega
              by_cases heq : out[i].1 = t.1
              · refine W.drawR (.take 0 (.take 1 (.take 2 (.take 3 (.take 4 (.take 5 (.take 6 (.take 7 (.take 8 (.take 9 (.take 10 (.take 11 (.take 12 (.take 13 (.take 14 (.take 15 (.take 16 (.take 17 (.take 18 (.take 19 .done)))))))))))))))))))) NoB mixed (by kernel_rfl) ?_
                simp (disch := (first | omega | (simp only [World.size_alloc, size_wr, size_drew]; done) | (simp only [World.size_alloc, size_wr, size_drew]; omega) | exact not_noB _)) only [go_sem, ↓reduceIte, Nat.reduceEqDiff, reduceCtorEq, Nat.reduceAdd, Nat.reduceMul, Nat.reduceSub, Nat.reduceLT, Nat.reduceLeDiff, Int.reduceEq, Int.reduceLT, Int.reduceLE, Int.reduceNeg, Int.reduceAdd, Int.reduceSub, Int.reduceMul, Int.reduceToNat, ca_26, es_24, fo_53_0, ld_51, ld_53, pl_53, se_24, sl_24, sz_53, z_53, k6, h9, k8, k5, hgb, hnum, htb, Int.toNat_natCast]
                refine ⟨true, rfl, by simp [heq, hii], ⟨?_, ?_, ?_, ?_, ?_, ?_, hown2.upd (Upd.refl (fun _ => False) _).drew (fun _ _ h => h), htb, hext2.drew, htbl⟩⟩
                iterate 6 (· simp (disch := (first | omega | (simp only [World.size_alloc, size_wr, size_drew]; done) | (simp only [World.size_alloc, size_wr, size_drew]; omega) | exact not_noB _)) only [go_sem, ↓reduceIte, Nat.reduceEqDiff, reduceCtorEq, Nat.reduceAdd, Nat.reduceMul, Nat.reduceSub, Nat.reduceLT, Nat.reduceLeDiff, Int.reduceEq, Int.reduceLT, Int.reduceLE, Int.reduceNeg, Int.reduceAdd, Int.reduceSub, Int.reduceMul, Int.reduceToNat, k19, k18, k17, k5, k6, k8])
              · refine W.drawR (.take 0 (.take 1 (.take 2 (.take 3 (.take 4 (.take 5 (.take 6 (.take 7 (.take 8 (.take 9 (.take 10 (.take 11 (.take 12 (.take 13 (.take 14 (.take 15 (.take 16 (.take 17 (.take 18 (.take 19 .done)))))))))))))))))))) NoB mixed (by kernel_rfl) ?_
                simp (disch := (first | omega | (simp only [World.size_alloc, size_wr, size_drew]; done) | (simp only [World.size_alloc, size_wr, size_drew]; omega) | exact not_noB _)) only [go_sem, ↓reduceIte, Nat.reduceEqDiff, reduceCtorEq, Nat.reduceAdd, Nat.reduceMul, Nat.reduceSub, Nat.reduceLT, Nat.reduceLeDiff, Int.reduceEq, Int.reduceLT, Int.reduceLE, Int.reduceNeg, Int.reduceAdd, Int.reduceSub, Int.reduceMul, Int.reduceToNat, ca_26, es_24, fo_53_0, ld_51, ld_53, pl_53, se_24, sl_24, sz_53, z_53, k6, h9, k8, k5, hgb, hnum, htb, Int.toNat_natCast]
                refine ⟨false, rfl, by simp [heq, hKt], ⟨?_, ?_, ?_, ?_, ?_, ?_, hown2.upd (Upd.refl (fun _ => False) _).drew (fun _ _ h => h), htb, hext2.drew, htbl⟩⟩
                iterate 6 (· simp (disch := (first | omega | (simp only [World.size_alloc, size_wr, size_drew]; done) | (simp only [World.size_alloc, size_wr, size_drew]; omega) | exact not_noB _)) only [go_sem, ↓reduceIte, Nat.reduceEqDiff, reduceCtorEq, Nat.reduceAdd, Nat.reduceMul, Nat.reduceSub, Nat.reduceLT, Nat.reduceLeDiff, Int.reduceEq, Int.reduceLT, Int.reduceLE, Int.reduceNeg, Int.reduceAdd, Int.reduceSub, Int.reduceMul, Int.reduceToNat, k19, k18, k17, k5, k6, k8])
            · refine W.drawR (.take 0 (.take 1 (.take 2 (.take 3 (.take 4 (.take 5 (.take 6 (.take 7 (.take 8 (.take 9 (.take 10 (.take 11 (.take 12 (.take 13 (.take 14 (.take 15 (.take 16 (.take 17 (.take 18 (.take 19 .done)))))))))))))))))))) NoB mixed (by kernel_rfl) ?_
              simp (disch := (first | omega | (simp only [World.size_alloc, size_wr, size_drew]; done) | (simp only [World.size_alloc, size_wr, size_drew]; omega) | exact not_noB _)) only [go_sem, ↓reduceIte, Nat.reduceEqDiff, reduceCtorEq, Nat.reduceAdd, Nat.reduceMul, Nat.reduceSub, Nat.reduceLT, Nat.reduceLeDiff, Int.reduceEq, Int.reduceLT, Int.reduceLE, Int.reduceNeg, Int.reduceAdd, Int.reduceSub, Int.reduceMul, Int.reduceToNat, ca_26, es_24, fo_53_0, ld_51, ld_53, pl_53, se_24, sl_24, sz_53, z_53, k6, h9, k8, k5, htb]
              refine ⟨false, rfl, by simp [hKt]; omega, ⟨?_, ?_, ?_, ?_, ?_, ?_, hown2.upd (Upd.refl (fun _ => False) _).drew (fun _ _ h => h), htb, hext2.drew, htbl⟩⟩
              iterate 6 (· simp (disch := (first | omega | (simp only [World.size_alloc, size_wr, size_drew]; done) | (simp only [World.size_alloc, size_wr, size_drew]; omega) | exact not_noB _)) only [go_sem, ↓reduceIte, Nat.reduceEqDiff, reduceCtorEq, Nat.reduceAdd, Nat.reduceMul, Nat.reduceSub, Nat.reduceLT, Nat.reduceLeDiff, Int.reduceEq, Int.reduceLT, Int.reduceLE, Int.reduceNeg, Int.reduceAdd, Int.reduceSub, Int.reduceMul, Int.reduceToNat, k19, k18, k17, k5, k6, k8])
        · rintro ρ3 w3 ⟨bb, h58, hbb, h9, ⟨k19, k18, k17, k5, k6, k8, hown3, htb, hext3, htbl⟩⟩
          cases bb with
          | true =>
            simp (disch := (first | omega | (simp only [World.size_alloc, size_wr, size_drew]; done) | (simp only [World.size_alloc, size_wr, size_drew]; omega) | exact not_noB _)) only [go_sem, ↓reduceIte, Nat.reduceEqDiff, reduceCtorEq, Nat.reduceAdd, Nat.reduceMul, Nat.reduceSub, Nat.reduceLT, Nat.reduceLeDiff, Int.reduceEq, Int.reduceLT, Int.reduceLE, Int.reduceNeg, Int.reduceAdd, Int.reduceSub, Int.reduceMul, Int.reduceToNat]
            repeat ((first | refine W.seqR rfl ?_ | refine W.seq ?_ | refine W.regR rfl ?_ | refine W.condK ?_ | refine W.block ?_ | refine W.skip ?_ | refine W.ret ?_ | refine W.exit ?_); try simp (disch := (first | omega | (simp only [World.size_alloc, size_wr, size_drew]; done) | (simp only [World.size_alloc, size_wr, size_drew]; omega) | exact not_noB _)) only [go_sem, ↓reduceIte, Nat.reduceEqDiff, reduceCtorEq, Nat.reduceAdd, Nat.reduceMul, Nat.reduceSub, Nat.reduceLT, Nat.reduceLeDiff, Int.reduceEq, Int.reduceLT, Int.reduceLE, Int.reduceNeg, Int.reduceAdd, Int.reduceSub, Int.reduceMul, Int.reduceToNat, ca_26, es_24, fo_53_0, ld_51, ld_53, pl_53, se_24, sl_24, sz_53, z_53, h58, k19])
            have hins := insTag_out (K := K) (by omega : i ≤ out.length) hlo hhi (hbb.1 rfl)
            refine ⟨⟨j + 1, _, css, by omega, ?_, ?_, ?_, ?_, rfl, ?_, ?_, by omega, hext3⟩, ?_⟩
            · rfl
            iterate 3 (· simp (disch := (first | omega | (simp only [World.size_alloc, size_wr, size_drew]; done) | (simp only [World.size_alloc, size_wr, size_drew]; omega) | exact not_noB _)) only [go_sem, ↓reduceIte, Nat.reduceEqDiff, reduceCtorEq, Nat.reduceAdd, Nat.reduceMul, Nat.reduceSub, Nat.reduceLT, Nat.reduceLeDiff, Int.reduceEq, Int.reduceLT, Int.reduceLE, Int.reduceNeg, Int.reduceAdd, Int.reduceSub, Int.reduceMul, Int.reduceToNat, k18, k17, k5])
            · simp (disch := (first | omega | (simp only [World.size_alloc, size_wr, size_drew]; done) | (simp only [World.size_alloc, size_wr, size_drew]; omega) | exact not_noB _)) only [go_sem, ↓reduceIte, Nat.reduceEqDiff, reduceCtorEq, Nat.reduceAdd, Nat.reduceMul, Nat.reduceSub, Nat.reduceLT, Nat.reduceLeDiff, Int.reduceEq, Int.reduceLT, Int.reduceLE, Int.reduceNeg, Int.reduceAdd, Int.reduceSub, Int.reduceMul, Int.reduceToNat, k6]
              exact hown3
            · rw [hfold, hins]; exact hall
            · simp only [RowKit.intOf]; omega
          | false =>
            have hnot : ¬ (t.1 < K ∨ ∃ hi : i < out.length, out[i].1 = t.1) := fun h => by simpa using hbb.2 h
            have hins := insTag_in (K := K) (by omega : i ≤ out.length) hlo hhi (fun h => hnot (.inl h)) (fun h1 h2 => hnot (.inr ⟨h1, h2⟩))
            simp (disch := (first | omega | (simp only [World.size_alloc, size_wr, size_drew]; done) | (simp only [World.size_alloc, size_wr, size_drew]; omega) | exact not_noB _)) only [go_sem, ↓reduceIte, Nat.reduceEqDiff, reduceCtorEq, Nat.reduceAdd, Nat.reduceMul, Nat.reduceSub, Nat.reduceLT, Nat.reduceLeDiff, Int.reduceEq, Int.reduceLT, Int.reduceLE, Int.reduceNeg, Int.reduceAdd, Int.reduceSub, Int.reduceMul, Int.reduceToNat]
            repeat ((first | refine W.seqR rfl ?_ | refine W.seq ?_ | refine W.regR rfl ?_ | refine W.condK ?_ | refine W.block ?_ | refine W.skip ?_ | refine W.ret ?_ | refine W.exit ?_); try simp (disch := (first | omega | (simp only [World.size_alloc, size_wr, size_drew]; done) | (simp only [World.size_alloc, size_wr, size_drew]; omega) | exact not_noB _)) only [go_sem, ↓reduceIte, Nat.reduceEqDiff, reduceCtorEq, Nat.reduceAdd, Nat.reduceMul, Nat.reduceSub, Nat.reduceLT, Nat.reduceLeDiff, Int.reduceEq, Int.reduceLT, Int.reduceLE, Int.reduceNeg, Int.reduceAdd, Int.reduceSub, Int.reduceMul, Int.reduceToNat, ca_26, es_24, fo_53_0, ld_51, ld_53, pl_53, se_24, sl_24, sz_53, z_53, h58, k6])
            refine wp_append ap_24_24 (m := 1) (news := [.int .u32 0, .slice none 0 0]) (n := css.length) (cs := css.flatten) (v := .slice va css.length vc) ?_ rfl (hown3.alloc _).1 ?_ (Src.blk (fr := (0, 0)) (T := 53) (blk_alloc_new rfl) rfl rfl) ?_ ?_ ?_
            · simp (disch := (first | omega | (simp only [World.size_alloc, size_wr, size_drew]; done) | (simp only [World.size_alloc, size_wr, size_drew]; omega) | exact not_noB _)) only [go_sem, ↓reduceIte, Nat.reduceEqDiff, reduceCtorEq, Nat.reduceAdd, Nat.reduceMul, Nat.reduceSub, Nat.reduceLT, Nat.reduceLeDiff, Int.reduceEq, Int.reduceLT, Int.reduceLE, Int.reduceNeg, Int.reduceAdd, Int.reduceSub, Int.reduceMul, Int.reduceToNat]
            · exact hall.flat_cells
            · simp only [World.size_alloc]; omega
            · omega
            intro v' w4 ho hu hfr
            have hz4 := hu.size
            simp (disch := (first | omega | (simp only [World.size_alloc, size_wr, size_drew]; done) | (simp only [World.size_alloc, size_wr, size_drew]; omega) | exact not_noB _)) only [go_sem, ↓reduceIte, Nat.reduceEqDiff, reduceCtorEq, Nat.reduceAdd, Nat.reduceMul, Nat.reduceSub, Nat.reduceLT, Nat.reduceLeDiff, Int.reduceEq, Int.reduceLT, Int.reduceLE, Int.reduceNeg, Int.reduceAdd, Int.reduceSub, Int.reduceMul, Int.reduceToNat]
            obtain ⟨va', vc', hv', hvc'⟩ := ho.shape
            subst hv'
            have hown4 := OwnE.snoc hown3.2 rfl ho rfl
            have hne : ∀ b, ownB (.slice va' (css.length + 1) vc') b → b ≠ w1.heap.size := fun b hb e => by
              rcases hfr b hb with h | h
              · have := hown.1.below h; omega
              · simp only [World.size_alloc] at h; omega
            have htb4 : blk w4 w1.heap.size = some (#[.int .u32 t.1, vv], 53, (0, 0)) := hu.blk_some (by rw [blk_alloc_old (by omega)]; exact htb) fun h => by have := hown.1.below h; omega
            have hext4 : Ext w w4 := Ext.own (hext3.alloc _) hown3.1 hu
            simp only [World.size_alloc] at hz4
            repeat ((first | refine W.seqR rfl ?_ | refine W.seq ?_ | refine W.regR rfl ?_ | refine W.condK ?_ | refine W.block ?_ | refine W.skip ?_ | refine W.ret ?_ | refine W.exit ?_); try simp (disch := (first | omega | (simp only [World.size_alloc, size_wr, size_drew]; done) | (simp only [World.size_alloc, size_wr, size_drew]; omega) | exact not_noB _)) only [go_sem, ↓reduceIte, Nat.reduceEqDiff, reduceCtorEq, Nat.reduceAdd, Nat.reduceMul, Nat.reduceSub, Nat.reduceLT, Nat.reduceLeDiff, Int.reduceEq, Int.reduceLT, Int.reduceLE, Int.reduceNeg, Int.reduceAdd, Int.reduceSub, Int.reduceMul, Int.reduceToNat, ca_26, es_24, fo_53_0, ld_51, ld_53, pl_53, se_24, sl_24, sz_53, z_53])
            refine W.exitJ 4 (fun ρ' w' => ∃ (c : List Value), c.length = 2 ∧ ρ' 9 = .int .i64 i ∧ UG w N j K w1.heap.size capl (some ⟨b, o, none⟩) (.slice va' (css.length + 1) vc') vv (css.take i ++ c :: css.drop i) t ρ' w')
              (W.loop (fun ρ' w' => ∃ (k : Nat) (c : List Value), c.length = 2 ∧ i ≤ k ∧ k ≤ css.length ∧ ρ' 10 = .int .i64 k ∧ ρ' 9 = .int .i64 i ∧ UG w N j K w1.heap.size capl (some ⟨b, o, none⟩) (.slice va' (css.length + 1) vc') vv (css.take k ++ c :: css.drop k) t ρ' w')
                (fun ρ _ => (RowKit.intOf (ρ 10)).toNat) ?_ ?_) ?_
            · refine ⟨css.length, [.int .u32 0, .slice none 0 0], rfl, hi, Nat.le_refl _, ?_, ?_, ⟨?_, ?_, ?_, ?_, ?_, ?_, ?_, htb4, hext4, by omega⟩⟩
              · simp (disch := (first | omega | (simp only [World.size_alloc, size_wr, size_drew]; done) | (simp only [World.size_alloc, size_wr, size_drew]; omega) | exact not_noB _)) only [go_sem, ↓reduceIte, Nat.reduceEqDiff, reduceCtorEq, Nat.reduceAdd, Nat.reduceMul, Nat.reduceSub, Nat.reduceLT, Nat.reduceLeDiff, Int.reduceEq, Int.reduceLT, Int.reduceLE, Int.reduceNeg, Int.reduceAdd, Int.reduceSub, Int.reduceMul, Int.reduceToNat]
                congr 1; omega
              iterate 7 (· simp (disch := (first | omega | (simp only [World.size_alloc, size_wr, size_drew]; done) | (simp only [World.size_alloc, size_wr, size_drew]; omega) | exact not_noB _)) only [go_sem, ↓reduceIte, Nat.reduceEqDiff, reduceCtorEq, Nat.reduceAdd, Nat.reduceMul, Nat.reduceSub, Nat.reduceLT, Nat.reduceLeDiff, Int.reduceEq, Int.reduceLT, Int.reduceLE, Int.reduceNeg, Int.reduceAdd, Int.reduceSub, Int.reduceMul, Int.reduceToNat, h9, k19, k18, k17, k5, k8])
              · rw [List.take_length, List.drop_length]; exact hown4
            · rintro ρ5 w5 ⟨k, c, hc2, hik, hkl, h10, h9, ⟨k19, k18, k17, k5, k6, k8, hown5, htb5, hext5, htbl5⟩⟩
              by_cases hgt : i < k
              · obtain ⟨k, rfl⟩ : ∃ k', k = k' + 1 := ⟨k - 1, by omega⟩
                have hsl := shift_len css (k + 1) c
                obtain ⟨g, cap, x2, hv, hcap, hBg, hgl, hgb, hg1, hg2, hg3⟩ := hown5.view (by omega)
                rw [hsl] at hv
                cases hv
                obtain ⟨vv2, hcs, hbv2, h32⟩ := hall.2 k (by omega) (by omega)
                have hx2 := hg2 k (by omega)
                have hx3 := hg1 k (by omega)
                have hx4 := hg1 (k + 1) (by omega)
                rw [shift_get (by omega), hcs] at hx2
                have e1 : ((k + 1 : Nat) : Int) - 1 = (k : Int) := by omega
                have e2 : IntKind.i64.wrap (k : Int) = (k : Int) := i64_wrap (by omega)
                have hf2 := hbv2.flat
                have hne5 := hne g ⟨_, _, _, rfl, rfl⟩
                repeat ((first | refine W.seqR rfl ?_ | refine W.seq ?_ | refine W.regR rfl ?_ | refine W.condK ?_ | refine W.block ?_ | refine W.skip ?_ | refine W.ret ?_ | refine W.exit ?_); try simp (disch := (first | omega | (simp only [World.size_alloc, size_wr, size_drew]; done) | (simp only [World.size_alloc, size_wr, size_drew]; omega) | exact not_noB _)) only [go_sem, ↓reduceIte, Nat.reduceEqDiff, reduceCtorEq, Nat.reduceAdd, Nat.reduceMul, Nat.reduceSub, Nat.reduceLT, Nat.reduceLeDiff, Int.reduceEq, Int.reduceLT, Int.reduceLE, Int.reduceNeg, Int.reduceAdd, Int.reduceSub, Int.reduceMul, Int.reduceToNat, ca_26, es_24, fo_53_0, ld_51, ld_53, pl_53, se_24, sl_24, sz_53, z_53, h10, h9, k6, e1, e2, hgb, hx2, hx3.1, hx4.1, hx4.2, hf2, Int.toNat_natCast])
                have hset := hown5.set (i := k + 1) (c := [.int .u32 out[k].1, vv2]) (by omega) rfl
                rw [← hcs, shift_set (by omega), hcs] at hset
                refine ⟨⟨k, [.int .u32 out[k].1, vv2], rfl, by omega, by omega, rfl, ⟨?_, ?_, ?_, ?_, ?_, ?_, ?_, ?_, hext5.wr _ _ (.inl (by omega)), by rw [size_wr]; exact htbl5⟩⟩, ?_⟩
                iterate 6 (· simp (disch := (first | omega | (simp only [World.size_alloc, size_wr, size_drew]; done) | (simp only [World.size_alloc, size_wr, size_drew]; omega) | exact not_noB _)) only [go_sem, ↓reduceIte, Nat.reduceEqDiff, reduceCtorEq, Nat.reduceAdd, Nat.reduceMul, Nat.reduceSub, Nat.reduceLT, Nat.reduceLeDiff, Int.reduceEq, Int.reduceLT, Int.reduceLE, Int.reduceNeg, Int.reduceAdd, Int.reduceSub, Int.reduceMul, Int.reduceToNat, k19, k18, k17, k5, k6, k8])
                · rw [← hcs]; rw [← hcs] at hset; exact hset
                · rw [blk_wr_ne (Ne.symm hne5)]; exact htb5
                · simp only [RowKit.intOf]; omega
              · repeat ((first | refine W.seqR rfl ?_ | refine W.seq ?_ | refine W.regR rfl ?_ | refine W.condK ?_ | refine W.block ?_ | refine W.skip ?_ | refine W.ret ?_ | refine W.exit ?_); try simp (disch := (first | omega | (simp only [World.size_alloc, size_wr, size_drew]; done) | (simp only [World.size_alloc, size_wr, size_drew]; omega) | exact not_noB _)) only [go_sem, ↓reduceIte, Nat.reduceEqDiff, reduceCtorEq, Nat.reduceAdd, Nat.reduceMul, Nat.reduceSub, Nat.reduceLT, Nat.reduceLeDiff, Int.reduceEq, Int.reduceLT, Int.reduceLE, Int.reduceNeg, Int.reduceAdd, Int.reduceSub, Int.reduceMul, Int.reduceToNat, ca_26, es_24, fo_53_0, ld_51, ld_53, pl_53, se_24, sl_24, sz_53, z_53, h10, h9])
                have : k = i := by omega
                subst this
                refine ⟨c, hc2, ⟨?_, ?_, ?_, ?_, ?_, ?_, hown5, htb5, hext5, htbl5⟩⟩
                iterate 6 (· simp (disch := (first | omega | (simp only [World.size_alloc, size_wr, size_drew]; done) | (simp only [World.size_alloc, size_wr, size_drew]; omega) | exact not_noB _)) only [go_sem, ↓reduceIte, Nat.reduceEqDiff, reduceCtorEq, Nat.reduceAdd, Nat.reduceMul, Nat.reduceSub, Nat.reduceLT, Nat.reduceLeDiff, Int.reduceEq, Int.reduceLT, Int.reduceLE, Int.reduceNeg, Int.reduceAdd, Int.reduceSub, Int.reduceMul, Int.reduceToNat, k19, k18, k17, k5, k6, k8])
            · rintro ρ5 w5 ⟨c, hc2, h9, ⟨k19, k18, k17, k5, k6, k8, hown5, htb5, hext5, htbl5⟩⟩
              have hsl := shift_len css i c
              obtain ⟨g, cap, x2, hv, hcap, hBg, hgl, hgb, hg1, hg2, hg3⟩ := hown5.view (by omega)
              rw [hsl] at hv
              cases hv
              have hx4 := hg1 i (by omega)
              have hne5 := hne g ⟨_, _, _, rfl, rfl⟩
              have ej : IntKind.i64.wrap ((j : Int) + 1) = ((j + 1 : Nat) : Int) := by rw [i64_wrap (by omega)]; rfl
              simp (disch := (first | omega | (simp only [World.size_alloc, size_wr, size_drew]; done) | (simp only [World.size_alloc, size_wr, size_drew]; omega) | exact not_noB _)) only [go_sem, ↓reduceIte, Nat.reduceEqDiff, reduceCtorEq, Nat.reduceAdd, Nat.reduceMul, Nat.reduceSub, Nat.reduceLT, Nat.reduceLeDiff, Int.reduceEq, Int.reduceLT, Int.reduceLE, Int.reduceNeg, Int.reduceAdd, Int.reduceSub, Int.reduceMul, Int.reduceToNat]
              repeat ((first | refine W.seqR rfl ?_ | refine W.seq ?_ | refine W.regR rfl ?_ | refine W.condK ?_ | refine W.block ?_ | refine W.skip ?_ | refine W.ret ?_ | refine W.exit ?_); try simp (disch := (first | omega | (simp only [World.size_alloc, size_wr, size_drew]; done) | (simp only [World.size_alloc, size_wr, size_drew]; omega) | exact not_noB _)) only [go_sem, ↓reduceIte, Nat.reduceEqDiff, reduceCtorEq, Nat.reduceAdd, Nat.reduceMul, Nat.reduceSub, Nat.reduceLT, Nat.reduceLeDiff, Int.reduceEq, Int.reduceLT, Int.reduceLE, Int.reduceNeg, Int.reduceAdd, Int.reduceSub, Int.reduceMul, Int.reduceToNat, ca_26, es_24, fo_53_0, ld_51, ld_53, pl_53, se_24, sl_24, sz_53, z_53, ej, h9, k6, k8, k19, htb5, cellsAt_two, hgb, hx4.1, hx4.2, hfv, Int.toNat_natCast])
              have hset := hown5.set (i := i) (c := [.int .u32 t.1, vv]) (by omega) rfl
              rw [shift_in (by omega)] at hset
              refine ⟨⟨j + 1, _, _, by omega, rfl, k18, k17, k5, rfl, hset, ?_, ?_, hext5.wr _ _ (.inl (by omega))⟩, ?_⟩
              · rw [hfold, hins]
                exact hall.insert (by omega) ⟨vv, rfl, hbv, ht32⟩
              · rw [shift_len]; omega
              · simp only [RowKit.intOf]; omega
    · repeat ((first | refine W.seqR rfl ?_ | refine W.seq ?_ | refine W.regR rfl ?_ | refine W.condK ?_ | refine W.block ?_ | refine W.skip ?_ | refine W.ret ?_ | refine W.exit ?_); try simp (disch := (first | omega | (simp only [World.size_alloc, size_wr, size_drew]; done) | (simp only [World.size_alloc, size_wr, size_drew]; omega) | exact not_noB _)) only [go_sem, ↓reduceIte, Nat.reduceEqDiff, reduceCtorEq, Nat.reduceAdd, Nat.reduceMul, Nat.reduceSub, Nat.reduceLT, Nat.reduceLeDiff, Int.reduceEq, Int.reduceLT, Int.reduceLE, Int.reduceNeg, Int.reduceAdd, Int.reduceSub, Int.reduceMul, Int.reduceToNat, ca_26, es_24, fo_53_0, ld_51, ld_53, pl_53, se_24, sl_24, sz_53, z_53, h19, h18, h6])
      have : j = N := by omega
      subst this
      rw [← hLl, List.take_length, ← hun] at hall
      exact ⟨⟨css, hown, hall⟩, hext⟩
end Ms
