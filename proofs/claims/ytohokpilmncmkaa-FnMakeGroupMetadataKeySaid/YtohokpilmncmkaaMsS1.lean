/- A part of the proof: see the last text. -/
import Derived.Test.YtohokpilmncmkaaMsFacts
set_option linter.unusedSimpArgs false
set_option linter.unusedVariables false
namespace Ms
open Go Go.Proofs
attribute [local congr] W_congr WPsq_congr WPp_congr optK_congr addrK_congr intK_congr boolK_congr sliceK_congr tupleK_congr funcK_congr Fn_congr rawK_congr takeK_congr stepK_congr convK_congr aggK_congr


theorem Fixed_fn (n : Int) (k : Nat) (hk : k ≤ 8) (w : World) : Fn Try.prog 18 #[.int .i64 n, .int .i64 k] w fun v w' => OwnBy 5 w.heap.size w' v (fixedS n k) ∧ Ext w w' := by
  refine fn_of_W Try.func18 rfl Try.results18 Try.ntmps18 rfl ?_
  repeat ((first | refine W.seqR rfl ?_ | refine W.seq ?_ | refine W.regR rfl ?_ | refine W.condK ?_ | refine W.block ?_ | refine W.skip ?_ | refine W.ret ?_ | refine W.exit ?_); try simp (disch := (first | omega | (simp only [World.size_alloc, size_wr, size_drew]; done) | (simp only [World.size_alloc, size_wr, size_drew]; omega) | exact not_noB _)) only [go_sem, ↓reduceIte, Nat.reduceEqDiff, reduceCtorEq, Nat.reduceAdd, Nat.reduceMul, Nat.reduceSub, Nat.reduceLT, Nat.reduceLeDiff, Int.reduceEq, Int.reduceLT, Int.reduceLE, Int.reduceNeg, Int.reduceAdd, Int.reduceSub, Int.reduceMul, Int.reduceToNat, it_5, kn_2, se_22])
  refine W.loop (fun ρ w' => ∃ (j : Nat) (s : List UInt8) (v : Value), j ≤ k ∧ ρ 6 = .int .i64 (j - 1 : Int) ∧ ρ 5 = v ∧ ρ 0 = .int .i64 n ∧ OwnBy 5 w.heap.size w' v s ∧ Ext w w' ∧ s ++ fixedS n j = fixedS n k ∧ s.length + j = k)
    (fun ρ _ => (RowKit.intOf (ρ 6) + 1).toNat) ?_ ?_
  · refine ⟨k, [], _, Nat.le_refl _, ?_, rfl, ?_, Own.nil _ _ _ _, Upd.refl _ _, rfl, by simp⟩
    · simp (disch := (first | omega | (simp only [World.size_alloc, size_wr, size_drew]; done) | (simp only [World.size_alloc, size_wr, size_drew]; omega) | exact not_noB _)) only [go_sem, ↓reduceIte, Nat.reduceEqDiff, reduceCtorEq, Nat.reduceAdd, Nat.reduceMul, Nat.reduceSub, Nat.reduceLT, Nat.reduceLeDiff, Int.reduceEq, Int.reduceLT, Int.reduceLE, Int.reduceNeg, Int.reduceAdd, Int.reduceSub, Int.reduceMul, Int.reduceToNat]
    · simp (disch := (first | omega | (simp only [World.size_alloc, size_wr, size_drew]; done) | (simp only [World.size_alloc, size_wr, size_drew]; omega) | exact not_noB _)) only [go_sem, ↓reduceIte, Nat.reduceEqDiff, reduceCtorEq, Nat.reduceAdd, Nat.reduceMul, Nat.reduceSub, Nat.reduceLT, Nat.reduceLeDiff, Int.reduceEq, Int.reduceLT, Int.reduceLE, Int.reduceNeg, Int.reduceAdd, Int.reduceSub, Int.reduceMul, Int.reduceToNat]
  · rintro ρ w1 ⟨j, s, v, hj, h6, h5, h0, hown, hext, hs, hl⟩
    have hz := hext.size
    cases j with
    | zero =>
      repeat ((first | refine W.seqR rfl ?_ | refine W.seq ?_ | refine W.regR rfl ?_ | refine W.condK ?_ | refine W.block ?_ | refine W.skip ?_ | refine W.ret ?_ | refine W.exit ?_); try simp (disch := (first | omega | (simp only [World.size_alloc, size_wr, size_drew]; done) | (simp only [World.size_alloc, size_wr, size_drew]; omega) | exact not_noB _)) only [go_sem, ↓reduceIte, Nat.reduceEqDiff, reduceCtorEq, Nat.reduceAdd, Nat.reduceMul, Nat.reduceSub, Nat.reduceLT, Nat.reduceLeDiff, Int.reduceEq, Int.reduceLT, Int.reduceLE, Int.reduceNeg, Int.reduceAdd, Int.reduceSub, Int.reduceMul, Int.reduceToNat, it_5, kn_2, se_22, h6])
      rw [h5]
      simp only [fixedS, List.append_nil] at hs
      exact ⟨hs ▸ hown, hext⟩
    | succ j =>
      have e1 : (8 * (((j + 1 : Nat) : Int) - 1)).toNat = 8 * j := by omega
      have e2 : min (8 * j) 64 = 8 * j := by omega
      repeat ((first | refine W.seqR rfl ?_ | refine W.seq ?_ | refine W.regR rfl ?_ | refine W.condK ?_ | refine W.block ?_ | refine W.skip ?_ | refine W.ret ?_ | refine W.exit ?_); try simp (disch := (first | omega | (simp only [World.size_alloc, size_wr, size_drew]; done) | (simp only [World.size_alloc, size_wr, size_drew]; omega) | exact not_noB _)) only [go_sem, ↓reduceIte, Nat.reduceEqDiff, reduceCtorEq, Nat.reduceAdd, Nat.reduceMul, Nat.reduceSub, Nat.reduceLT, Nat.reduceLeDiff, Int.reduceEq, Int.reduceLT, Int.reduceLE, Int.reduceNeg, Int.reduceAdd, Int.reduceSub, Int.reduceMul, Int.reduceToNat, it_5, kn_2, se_22, h6, h5, h0, e1, e2, u8_byte, kbits])
      refine wp_append ap_22_22 (m := 1) (news := [byteV (b8 (n.fdiv (2 ^ (8 * j))))]) (n := s.length) (cs := s.map byteV) (v := v) ?_ rfl (hown.alloc _) (flat_bytes _) (Src.blk (fr := (0, 0)) (T := 5) (blk_alloc_new rfl) rfl rfl) ?_ ?_ ?_
      · simp (disch := (first | omega | (simp only [World.size_alloc, size_wr, size_drew]; done) | (simp only [World.size_alloc, size_wr, size_drew]; omega) | exact not_noB _)) only [go_sem, ↓reduceIte, Nat.reduceEqDiff, reduceCtorEq, Nat.reduceAdd, Nat.reduceMul, Nat.reduceSub, Nat.reduceLT, Nat.reduceLeDiff, Int.reduceEq, Int.reduceLT, Int.reduceLE, Int.reduceNeg, Int.reduceAdd, Int.reduceSub, Int.reduceMul, Int.reduceToNat]
      · simp only [World.size_alloc]; omega
      · omega
      intro v' w2 ho hu hfr
      have hz2 := hu.size
      simp (disch := (first | omega | (simp only [World.size_alloc, size_wr, size_drew]; done) | (simp only [World.size_alloc, size_wr, size_drew]; omega) | exact not_noB _)) only [go_sem, ↓reduceIte, Nat.reduceEqDiff, reduceCtorEq, Nat.reduceAdd, Nat.reduceMul, Nat.reduceSub, Nat.reduceLT, Nat.reduceLeDiff, Int.reduceEq, Int.reduceLT, Int.reduceLE, Int.reduceNeg, Int.reduceAdd, Int.reduceSub, Int.reduceMul, Int.reduceToNat]
      repeat ((first | refine W.seqR rfl ?_ | refine W.seq ?_ | refine W.regR rfl ?_ | refine W.condK ?_ | refine W.block ?_ | refine W.skip ?_ | refine W.ret ?_ | refine W.exit ?_); try simp (disch := (first | omega | (simp only [World.size_alloc, size_wr, size_drew]; done) | (simp only [World.size_alloc, size_wr, size_drew]; omega) | exact not_noB _)) only [go_sem, ↓reduceIte, Nat.reduceEqDiff, reduceCtorEq, Nat.reduceAdd, Nat.reduceMul, Nat.reduceSub, Nat.reduceLT, Nat.reduceLeDiff, Int.reduceEq, Int.reduceLT, Int.reduceLE, Int.reduceNeg, Int.reduceAdd, Int.reduceSub, Int.reduceMul, Int.reduceToNat, it_5, kn_2, se_22, h6, h5, h0])
      refine ⟨⟨j, s ++ [b8 (n.fdiv (2 ^ (8 * j)))], _, by omega, ?_, rfl, OwnBy.snoc ho, Ext.own (hext.alloc _) hown hu, ?_, ?_⟩, ?_⟩
      · congr 1; omega
      · rw [List.append_assoc]; exact hs
      · simp only [List.length_append, List.length_cons, List.length_nil]; omega
      · simp only [RowKit.intOf]; omega
end Ms
