/- A part of the proof: see the last text. -/
import Derived.Test.YtohokpilmncmkaaMsS4
set_option linter.unusedSimpArgs false
set_option linter.unusedVariables false
namespace Ms
open Go Go.Proofs
attribute [local congr] W_congr WPsq_congr WPp_congr optK_congr addrK_congr intK_congr boolK_congr sliceK_congr tupleK_congr funcK_congr Fn_congr rawK_congr takeK_congr stepK_congr convK_congr aggK_congr

theorem and127 {m : Nat} (h : m < 2 ^ 64) : (BitVec.ofInt (kbits .u64) (m : Int) &&& BitVec.ofInt (kbits .u64) 127).toNat = m % 128 := by
  show (BitVec.ofInt 64 (m : Int) &&& BitVec.ofInt 64 127).toNat = m % 128
  rw [BitVec.toNat_and, BitVec.ofInt_natCast, BitVec.toNat_ofNat, Nat.mod_eq_of_lt h]
  exact Nat.and_two_pow_sub_one_eq_mod m 7
theorem or128F : ∀ y : Fin 128, (BitVec.ofInt 8 ((y.val : Nat) : Int) ||| BitVec.ofInt 8 128).toNat = y.val + 128 := by decide
theorem or128 {y : Nat} (h : y < 128) : (BitVec.ofInt (kbits .u8) (y : Int) ||| BitVec.ofInt (kbits .u8) 128).toNat = y + 128 := or128F ⟨y, h⟩
theorem u8_wrap {x : Int} (h : 0 ≤ x ∧ x ≤ 255) : IntKind.u8.wrap x = x := IntWalk.u8_in x h

theorem Uvarint_fn (n : Nat) (hn : n < 2 ^ 64) (w : World) : Fn Try.prog 32 #[.int .u64 n] w fun v w' => OwnBy 5 w.heap.size w' v (uvarS n) ∧ Ext w w' := by
  have hlen := uvarS_len 9 n (by omega)
  refine fn_of_W Try.func32 rfl Try.results32 Try.ntmps32 rfl ?_
  repeat ((first | refine W.seqR rfl ?_ | refine W.seq ?_ | refine W.regR rfl ?_ | refine W.condK ?_ | refine W.block ?_ | refine W.skip ?_ | refine W.ret ?_ | refine W.exit ?_); try simp (disch := (first | omega | (simp only [World.size_alloc, size_wr, size_drew]; done) | (simp only [World.size_alloc, size_wr, size_drew]; omega) | exact not_noB _)) only [go_sem, ↓reduceIte, Nat.reduceEqDiff, reduceCtorEq, Nat.reduceAdd, Nat.reduceMul, Nat.reduceSub, Nat.reduceLT, Nat.reduceLeDiff, Int.reduceEq, Int.reduceLT, Int.reduceLE, Int.reduceNeg, Int.reduceAdd, Int.reduceSub, Int.reduceMul, Int.reduceToNat, it_5, kn_73, se_22])
  refine W.loop (fun ρ w' => ∃ (m : Nat) (s : List UInt8) (v : Value), m ≤ n ∧ ρ 0 = .int .u64 m ∧ ρ 3 = v ∧ OwnBy 5 w.heap.size w' v s ∧ Ext w w' ∧ s ++ uvarS m = uvarS n)
    (fun ρ _ => (RowKit.intOf (ρ 0)).toNat) ?_ ?_
  · refine ⟨n, [], _, Nat.le_refl _, ?_, rfl, ?_, Upd.refl _ _, rfl⟩
    · simp (disch := (first | omega | (simp only [World.size_alloc, size_wr, size_drew]; done) | (simp only [World.size_alloc, size_wr, size_drew]; omega) | exact not_noB _)) only [go_sem, ↓reduceIte, Nat.reduceEqDiff, reduceCtorEq, Nat.reduceAdd, Nat.reduceMul, Nat.reduceSub, Nat.reduceLT, Nat.reduceLeDiff, Int.reduceEq, Int.reduceLT, Int.reduceLE, Int.reduceNeg, Int.reduceAdd, Int.reduceSub, Int.reduceMul, Int.reduceToNat]
    · simp (disch := (first | omega | (simp only [World.size_alloc, size_wr, size_drew]; done) | (simp only [World.size_alloc, size_wr, size_drew]; omega) | exact not_noB _)) only [go_sem, ↓reduceIte, Nat.reduceEqDiff, reduceCtorEq, Nat.reduceAdd, Nat.reduceMul, Nat.reduceSub, Nat.reduceLT, Nat.reduceLeDiff, Int.reduceEq, Int.reduceLT, Int.reduceLE, Int.reduceNeg, Int.reduceAdd, Int.reduceSub, Int.reduceMul, Int.reduceToNat]
      exact Own.nil _ _ _ _
  · rintro ρ w1 ⟨m, s, v, hm, h0, h3, hown, hext, hs⟩
    have hz := hext.size
    have hsl : s.length ≤ 10 := by
      have := congrArg List.length hs
      simp only [List.length_append] at this; omega
    by_cases h1 : 127 < m
    · have e1 := and127 (m := m) (by omega)
      have e2 := or128 (y := m % 128) (by omega)
      have e3 : IntKind.u8.wrap ((m % 128 : Nat) : Int) = ((m % 128 : Nat) : Int) := u8_wrap (by omega)
      have e4 : ((m : Int)).fdiv (2 ^ (min 7 64)) = ((m / 128 : Nat) : Int) := by rw [show (2 : Int) ^ (min 7 64) = 128 from by decide, Int.fdiv_eq_ediv_of_nonneg _ (by decide)]; omega
      repeat ((first | refine W.seqR rfl ?_ | refine W.seq ?_ | refine W.regR rfl ?_ | refine W.condK ?_ | refine W.block ?_ | refine W.skip ?_ | refine W.ret ?_ | refine W.exit ?_); try simp (disch := (first | omega | (simp only [World.size_alloc, size_wr, size_drew]; done) | (simp only [World.size_alloc, size_wr, size_drew]; omega) | exact not_noB _)) only [go_sem, ↓reduceIte, Nat.reduceEqDiff, reduceCtorEq, Nat.reduceAdd, Nat.reduceMul, Nat.reduceSub, Nat.reduceLT, Nat.reduceLeDiff, Int.reduceEq, Int.reduceLT, Int.reduceLE, Int.reduceNeg, Int.reduceAdd, Int.reduceSub, Int.reduceMul, Int.reduceToNat, it_5, kn_73, se_22, h0, h3, e1, e2, e3, u8_byte])
      refine wp_append ap_22_22 (m := 1) (news := [byteV (b8 ((m % 128 + 128 : Nat) : Int))]) (n := s.length) (cs := s.map byteV) (v := v) ?_ rfl (hown.alloc _) (flat_bytes _) (Src.blk (fr := (0, 0)) (T := 5) (blk_alloc_new rfl) rfl rfl) ?_ ?_ ?_
      · simp (disch := (first | omega | (simp only [World.size_alloc, size_wr, size_drew]; done) | (simp only [World.size_alloc, size_wr, size_drew]; omega) | exact not_noB _)) only [go_sem, ↓reduceIte, Nat.reduceEqDiff, reduceCtorEq, Nat.reduceAdd, Nat.reduceMul, Nat.reduceSub, Nat.reduceLT, Nat.reduceLeDiff, Int.reduceEq, Int.reduceLT, Int.reduceLE, Int.reduceNeg, Int.reduceAdd, Int.reduceSub, Int.reduceMul, Int.reduceToNat]
      · simp only [World.size_alloc]; omega
      · omega
      intro v' w2 ho hu hfr
      have hz2 := hu.size
      simp (disch := (first | omega | (simp only [World.size_alloc, size_wr, size_drew]; done) | (simp only [World.size_alloc, size_wr, size_drew]; omega) | exact not_noB _)) only [go_sem, ↓reduceIte, Nat.reduceEqDiff, reduceCtorEq, Nat.reduceAdd, Nat.reduceMul, Nat.reduceSub, Nat.reduceLT, Nat.reduceLeDiff, Int.reduceEq, Int.reduceLT, Int.reduceLE, Int.reduceNeg, Int.reduceAdd, Int.reduceSub, Int.reduceMul, Int.reduceToNat]
      repeat ((first | refine W.seqR rfl ?_ | refine W.seq ?_ | refine W.regR rfl ?_ | refine W.condK ?_ | refine W.block ?_ | refine W.skip ?_ | refine W.ret ?_ | refine W.exit ?_); try simp (disch := (first | omega | (simp only [World.size_alloc, size_wr, size_drew]; done) | (simp only [World.size_alloc, size_wr, size_drew]; omega) | exact not_noB _)) only [go_sem, ↓reduceIte, Nat.reduceEqDiff, reduceCtorEq, Nat.reduceAdd, Nat.reduceMul, Nat.reduceSub, Nat.reduceLT, Nat.reduceLeDiff, Int.reduceEq, Int.reduceLT, Int.reduceLE, Int.reduceNeg, Int.reduceAdd, Int.reduceSub, Int.reduceMul, Int.reduceToNat, it_5, kn_73, se_22, h0, h3, e4, kbits])
      refine ⟨⟨m / 128, s ++ [b8 ((m % 128 : Nat) + 128 : Int)], _, by omega, ?_, rfl, OwnBy.snoc ho, Ext.own (hext.alloc _) hown hu, ?_⟩, ?_⟩
      · rfl
      · rw [uvarS_big h1] at hs
        rw [List.append_assoc]; exact hs
      · simp only [RowKit.intOf]; omega
    · repeat ((first | refine W.seqR rfl ?_ | refine W.seq ?_ | refine W.regR rfl ?_ | refine W.condK ?_ | refine W.block ?_ | refine W.skip ?_ | refine W.ret ?_ | refine W.exit ?_); try simp (disch := (first | omega | (simp only [World.size_alloc, size_wr, size_drew]; done) | (simp only [World.size_alloc, size_wr, size_drew]; omega) | exact not_noB _)) only [go_sem, ↓reduceIte, Nat.reduceEqDiff, reduceCtorEq, Nat.reduceAdd, Nat.reduceMul, Nat.reduceSub, Nat.reduceLT, Nat.reduceLeDiff, Int.reduceEq, Int.reduceLT, Int.reduceLE, Int.reduceNeg, Int.reduceAdd, Int.reduceSub, Int.reduceMul, Int.reduceToNat, it_5, kn_73, se_22, h0, h3, u8_byte])
      refine wp_append ap_22_22 (m := 1) (news := [byteV (b8 (m : Int))]) (n := s.length) (cs := s.map byteV) (v := v) ?_ rfl (hown.alloc _) (flat_bytes _) (Src.blk (fr := (0, 0)) (T := 5) (blk_alloc_new rfl) rfl rfl) ?_ ?_ ?_
      · simp (disch := (first | omega | (simp only [World.size_alloc, size_wr, size_drew]; done) | (simp only [World.size_alloc, size_wr, size_drew]; omega) | exact not_noB _)) only [go_sem, ↓reduceIte, Nat.reduceEqDiff, reduceCtorEq, Nat.reduceAdd, Nat.reduceMul, Nat.reduceSub, Nat.reduceLT, Nat.reduceLeDiff, Int.reduceEq, Int.reduceLT, Int.reduceLE, Int.reduceNeg, Int.reduceAdd, Int.reduceSub, Int.reduceMul, Int.reduceToNat]
      · simp only [World.size_alloc]; omega
      · omega
      intro v' w2 ho hu hfr
      have hz2 := hu.size
      simp (disch := (first | omega | (simp only [World.size_alloc, size_wr, size_drew]; done) | (simp only [World.size_alloc, size_wr, size_drew]; omega) | exact not_noB _)) only [go_sem, ↓reduceIte, Nat.reduceEqDiff, reduceCtorEq, Nat.reduceAdd, Nat.reduceMul, Nat.reduceSub, Nat.reduceLT, Nat.reduceLeDiff, Int.reduceEq, Int.reduceLT, Int.reduceLE, Int.reduceNeg, Int.reduceAdd, Int.reduceSub, Int.reduceMul, Int.reduceToNat]
      repeat ((first | refine W.seqR rfl ?_ | refine W.seq ?_ | refine W.regR rfl ?_ | refine W.condK ?_ | refine W.block ?_ | refine W.skip ?_ | refine W.ret ?_ | refine W.exit ?_); try simp (disch := (first | omega | (simp only [World.size_alloc, size_wr, size_drew]; done) | (simp only [World.size_alloc, size_wr, size_drew]; omega) | exact not_noB _)) only [go_sem, ↓reduceIte, Nat.reduceEqDiff, reduceCtorEq, Nat.reduceAdd, Nat.reduceMul, Nat.reduceSub, Nat.reduceLT, Nat.reduceLeDiff, Int.reduceEq, Int.reduceLT, Int.reduceLE, Int.reduceNeg, Int.reduceAdd, Int.reduceSub, Int.reduceMul, Int.reduceToNat, it_5, kn_73, se_22, h0, h3])
      refine ⟨?_, Ext.own (hext.alloc _) hown hu⟩
      rw [uvarS_small (by omega)] at hs
      rw [← hs]
      exact OwnBy.snoc ho

theorem counted_fn (flex null : Bool) (n k : Nat) (hk : k ≤ 8) (hn : n < 4611686018427387904) (w : World) :
    Fn Try.prog 33 #[.bool flex, .bool null, .int .i64 n, .int .i64 k] w fun v w' => OwnBy 5 w.heap.size w' v (countedS flex null n k) ∧ Ext w w' := by
  refine fn_of_W Try.func33 rfl Try.results33 Try.ntmps33 rfl ?_
  cases flex with
  | true =>
    cases null with
    | true =>
      repeat ((first | refine W.seqR rfl ?_ | refine W.seq ?_ | refine W.regR rfl ?_ | refine W.condK ?_ | refine W.block ?_ | refine W.skip ?_ | refine W.ret ?_ | refine W.exit ?_); try simp (disch := (first | omega | (simp only [World.size_alloc, size_wr, size_drew]; done) | (simp only [World.size_alloc, size_wr, size_drew]; omega) | exact not_noB _)) only [go_sem, ↓reduceIte, Nat.reduceEqDiff, reduceCtorEq, Nat.reduceAdd, Nat.reduceMul, Nat.reduceSub, Nat.reduceLT, Nat.reduceLeDiff, Int.reduceEq, Int.reduceLT, Int.reduceLE, Int.reduceNeg, Int.reduceAdd, Int.reduceSub, Int.reduceMul, Int.reduceToNat, ca_18, ca_32, it_73, kn_3, se_22])
      refine ⟨?_, Upd.alloc (Upd.refl _ _) _⟩
      exact Own.blk (n := 1) (cs := [byteV 0]) (blk_alloc_new rfl) rfl (Nat.le_refl _)
    | false =>
      have e : IntKind.u64.wrap (n : Int) = n := u64_wrap (by omega)
      have e' : (n : Int) + 1 = ((n + 1 : Nat) : Int) := rfl
      repeat ((first | refine W.seqR rfl ?_ | refine W.seq ?_ | refine W.regR rfl ?_ | refine W.condK ?_ | refine W.block ?_ | refine W.skip ?_ | refine W.ret ?_ | refine W.exit ?_); try simp (disch := (first | omega | (simp only [World.size_alloc, size_wr, size_drew]; done) | (simp only [World.size_alloc, size_wr, size_drew]; omega) | exact not_noB _)) only [go_sem, ↓reduceIte, Nat.reduceEqDiff, reduceCtorEq, Nat.reduceAdd, Nat.reduceMul, Nat.reduceSub, Nat.reduceLT, Nat.reduceLeDiff, Int.reduceEq, Int.reduceLT, Int.reduceLE, Int.reduceNeg, Int.reduceAdd, Int.reduceSub, Int.reduceMul, Int.reduceToNat, ca_18, ca_32, it_73, kn_3, se_22, e, e'])
      refine (Uvarint_fn (n + 1) (by omega) w).mono ?_
      rintro v w' ⟨h1, h2⟩
      repeat ((first | refine W.seqR rfl ?_ | refine W.seq ?_ | refine W.regR rfl ?_ | refine W.condK ?_ | refine W.block ?_ | refine W.skip ?_ | refine W.ret ?_ | refine W.exit ?_); try simp (disch := (first | omega | (simp only [World.size_alloc, size_wr, size_drew]; done) | (simp only [World.size_alloc, size_wr, size_drew]; omega) | exact not_noB _)) only [go_sem, ↓reduceIte, Nat.reduceEqDiff, reduceCtorEq, Nat.reduceAdd, Nat.reduceMul, Nat.reduceSub, Nat.reduceLT, Nat.reduceLeDiff, Int.reduceEq, Int.reduceLT, Int.reduceLE, Int.reduceNeg, Int.reduceAdd, Int.reduceSub, Int.reduceMul, Int.reduceToNat, ca_18, ca_32, it_73, kn_3, se_22])
      exact ⟨by simpa [countedS] using h1, h2⟩
  | false =>
    cases null with
    | true =>
      repeat ((first | refine W.seqR rfl ?_ | refine W.seq ?_ | refine W.regR rfl ?_ | refine W.condK ?_ | refine W.block ?_ | refine W.skip ?_ | refine W.ret ?_ | refine W.exit ?_); try simp (disch := (first | omega | (simp only [World.size_alloc, size_wr, size_drew]; done) | (simp only [World.size_alloc, size_wr, size_drew]; omega) | exact not_noB _)) only [go_sem, ↓reduceIte, Nat.reduceEqDiff, reduceCtorEq, Nat.reduceAdd, Nat.reduceMul, Nat.reduceSub, Nat.reduceLT, Nat.reduceLeDiff, Int.reduceEq, Int.reduceLT, Int.reduceLE, Int.reduceNeg, Int.reduceAdd, Int.reduceSub, Int.reduceMul, Int.reduceToNat, ca_18, ca_32, it_73, kn_3, se_22])
      refine (Fixed_fn (-1) k hk w).mono ?_
      rintro v w' ⟨h1, h2⟩
      repeat ((first | refine W.seqR rfl ?_ | refine W.seq ?_ | refine W.regR rfl ?_ | refine W.condK ?_ | refine W.block ?_ | refine W.skip ?_ | refine W.ret ?_ | refine W.exit ?_); try simp (disch := (first | omega | (simp only [World.size_alloc, size_wr, size_drew]; done) | (simp only [World.size_alloc, size_wr, size_drew]; omega) | exact not_noB _)) only [go_sem, ↓reduceIte, Nat.reduceEqDiff, reduceCtorEq, Nat.reduceAdd, Nat.reduceMul, Nat.reduceSub, Nat.reduceLT, Nat.reduceLeDiff, Int.reduceEq, Int.reduceLT, Int.reduceLE, Int.reduceNeg, Int.reduceAdd, Int.reduceSub, Int.reduceMul, Int.reduceToNat, ca_18, ca_32, it_73, kn_3, se_22])
      exact ⟨by simpa [countedS] using h1, h2⟩
    | false =>
      repeat ((first | refine W.seqR rfl ?_ | refine W.seq ?_ | refine W.regR rfl ?_ | refine W.condK ?_ | refine W.block ?_ | refine W.skip ?_ | refine W.ret ?_ | refine W.exit ?_); try simp (disch := (first | omega | (simp only [World.size_alloc, size_wr, size_drew]; done) | (simp only [World.size_alloc, size_wr, size_drew]; omega) | exact not_noB _)) only [go_sem, ↓reduceIte, Nat.reduceEqDiff, reduceCtorEq, Nat.reduceAdd, Nat.reduceMul, Nat.reduceSub, Nat.reduceLT, Nat.reduceLeDiff, Int.reduceEq, Int.reduceLT, Int.reduceLE, Int.reduceNeg, Int.reduceAdd, Int.reduceSub, Int.reduceMul, Int.reduceToNat, ca_18, ca_32, it_73, kn_3, se_22])
      refine (Fixed_fn n k hk w).mono ?_
      rintro v w' ⟨h1, h2⟩
      repeat ((first | refine W.seqR rfl ?_ | refine W.seq ?_ | refine W.regR rfl ?_ | refine W.condK ?_ | refine W.block ?_ | refine W.skip ?_ | refine W.ret ?_ | refine W.exit ?_); try simp (disch := (first | omega | (simp only [World.size_alloc, size_wr, size_drew]; done) | (simp only [World.size_alloc, size_wr, size_drew]; omega) | exact not_noB _)) only [go_sem, ↓reduceIte, Nat.reduceEqDiff, reduceCtorEq, Nat.reduceAdd, Nat.reduceMul, Nat.reduceSub, Nat.reduceLT, Nat.reduceLeDiff, Int.reduceEq, Int.reduceLT, Int.reduceLE, Int.reduceNeg, Int.reduceAdd, Int.reduceSub, Int.reduceMul, Int.reduceToNat, ca_18, ca_32, it_73, kn_3, se_22])
      exact ⟨by simpa [countedS] using h1, h2⟩
end Ms
