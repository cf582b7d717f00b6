/- A part of the proof: see the last text. -/
import Derived.Test.YtohokpilmncmkaaMsS1
set_option linter.unusedSimpArgs false
set_option linter.unusedVariables false
namespace Ms
open Go Go.Proofs
attribute [local congr] W_congr WPsq_congr WPp_congr optK_congr addrK_congr intK_congr boolK_congr sliceK_congr tupleK_congr funcK_congr Fn_congr rawK_congr takeK_congr stepK_congr convK_congr aggK_congr

theorem BytesV.get {ok : Blocks} {w : World} {base : Option Addr} {n cap : Nat} {s : List UInt8} (h : BytesV ok w (.slice base n cap) s) {i : Nat} (hi : i < s.length) :
    n = s.length ∧ ∃ b o x, base = some ⟨b, o, none⟩ ∧ ok b ∧ blk w b = some x ∧ b < w.heap.size ∧ x.1[o + i]? = some (byteV s[i]) := by
  obtain ⟨h1, b, o, x, h2, h3, h4, h5, h6, h7⟩ := Sl.get (by omega) h (i := i) (by simpa using hi)
  refine ⟨by simpa using h1, b, o, x, h2, h3, h4, blk_lt h4, ?_⟩
  have := h7 0 (by omega)
  simpa using this
theorem BytesV.shape {ok : Blocks} {w : World} {v : Value} {s : List UInt8} (h : BytesV ok w v s) : ∃ base cap, v = .slice base s.length cap ∧ s.length ≤ cap := by
  obtain ⟨b, c, h1, h2, _⟩ := h
  exact ⟨b, c, by simpa using h1, by simpa using h2⟩
theorem take_snoc {a b : List UInt8} {j : Nat} (h : a.take j = b.take j) (ha : j < a.length) (hb : j < b.length) (he : a[j] = b[j]) : a.take (j + 1) = b.take (j + 1) := by
  rw [List.take_succ_eq_append_getElem ha, List.take_succ_eq_append_getElem hb, h, he]
theorem byte_eq {x y : UInt8} (h : ((x.toNat : Int) != (y.toNat : Int)) = false) : x = y := by
  have : (x.toNat : Int) = y.toNat := by simpa using h
  exact UInt8.toNat_inj.1 (by omega)

theorem Same_fn {ok : Blocks} (a b : List UInt8) (va vb : Value) (w : World) (ha : BytesV ok w va a) (hb : BytesV ok w vb b) (hla : a.length < 4611686018427387904) :
    Fn Try.prog 6 #[va, vb] w fun v w' => v = .bool (decide (a = b)) ∧ Ext w w' := by
  obtain ⟨ba, ca, rfl, hca⟩ := ha.shape
  obtain ⟨bb, cb, rfl, hcb⟩ := hb.shape
  refine fn_of_W Try.func6 rfl Try.results6 Try.ntmps6 rfl ?_
  by_cases hl : a.length = b.length
  · repeat ((first | refine W.seqR rfl ?_ | refine W.seq ?_ | refine W.regR rfl ?_ | refine W.condK ?_ | refine W.block ?_ | refine W.skip ?_ | refine W.ret ?_ | refine W.exit ?_); try simp (disch := (first | omega | (simp only [World.size_alloc, size_wr, size_drew]; done) | (simp only [World.size_alloc, size_wr, size_drew]; omega) | exact not_noB _)) only [go_sem, ↓reduceIte, Nat.reduceEqDiff, reduceCtorEq, Nat.reduceAdd, Nat.reduceMul, Nat.reduceSub, Nat.reduceLT, Nat.reduceLeDiff, Int.reduceEq, Int.reduceLT, Int.reduceLE, Int.reduceNeg, Int.reduceAdd, Int.reduceSub, Int.reduceMul, Int.reduceToNat, es_22, ld_5, sl_22])
    refine W.loop (fun ρ w' => ∃ (j : Nat), j ≤ a.length ∧ ρ 13 = .int .i64 j ∧ ρ 12 = .int .i64 a.length ∧ ρ 0 = .slice ba a.length ca ∧ ρ 1 = .slice bb b.length cb ∧ Ext w w' ∧ a.take j = b.take j)
      (fun ρ _ => a.length - (RowKit.intOf (ρ 13)).toNat) ?_ ?_
    · refine ⟨0, Nat.zero_le _, ?_, ?_, ?_, ?_, Upd.refl _ _, rfl⟩ <;> simp (disch := (first | omega | (simp only [World.size_alloc, size_wr, size_drew]; done) | (simp only [World.size_alloc, size_wr, size_drew]; omega) | exact not_noB _)) only [go_sem, ↓reduceIte, Nat.reduceEqDiff, reduceCtorEq, Nat.reduceAdd, Nat.reduceMul, Nat.reduceSub, Nat.reduceLT, Nat.reduceLeDiff, Int.reduceEq, Int.reduceLT, Int.reduceLE, Int.reduceNeg, Int.reduceAdd, Int.reduceSub, Int.reduceMul, Int.reduceToNat]
      rfl
    · rintro ρ w1 ⟨j, hj, h13, h12, h0, h1, hext, hs⟩
      have hz := hext.size
      by_cases hlt : j < a.length
      · obtain ⟨_, ab, ao, ax, hba, _, hax, hablt, hav⟩ := ha.get hlt
        obtain ⟨_, bbk, bo, bx, hbb, _, hbx, hbblt, hbv⟩ := hb.get (show j < b.length by omega)
        subst hba; subst hbb
        have hax1 : blk w1 ab = some ax := hext.blk_some hax id
        have hbx1 : blk w1 bbk = some bx := hext.blk_some hbx id
        have hj2 : ((j : Int)).toNat = j := by omega
        repeat ((first | refine W.seqR rfl ?_ | refine W.seq ?_ | refine W.regR rfl ?_ | refine W.condK ?_ | refine W.block ?_ | refine W.skip ?_ | refine W.ret ?_ | refine W.exit ?_); try simp (disch := (first | omega | (simp only [World.size_alloc, size_wr, size_drew]; done) | (simp only [World.size_alloc, size_wr, size_drew]; omega) | exact not_noB _)) only [go_sem, ↓reduceIte, Nat.reduceEqDiff, reduceCtorEq, Nat.reduceAdd, Nat.reduceMul, Nat.reduceSub, Nat.reduceLT, Nat.reduceLeDiff, Int.reduceEq, Int.reduceLT, Int.reduceLE, Int.reduceNeg, Int.reduceAdd, Int.reduceSub, Int.reduceMul, Int.reduceToNat, es_22, ld_5, sl_22, h13, h12])
        refine W.drawR (.take 0 (.take 1 (.take 2 (.take 3 (.take 4 (.take 5 (.take 6 (.take 7 (.take 8 .done))))))))) NoB mixed (by kernel_rfl) ?_
        simp (disch := (first | omega | (simp only [World.size_alloc, size_wr, size_drew]; done) | (simp only [World.size_alloc, size_wr, size_drew]; omega) | exact not_noB _)) only [go_sem, ↓reduceIte, Nat.reduceEqDiff, reduceCtorEq, Nat.reduceAdd, Nat.reduceMul, Nat.reduceSub, Nat.reduceLT, Nat.reduceLeDiff, Int.reduceEq, Int.reduceLT, Int.reduceLE, Int.reduceNeg, Int.reduceAdd, Int.reduceSub, Int.reduceMul, Int.reduceToNat, es_22, ld_5, sl_22, h0, h1, hax1, hbx1, hav, hbv, hj2, Nat.mul_one, byteV]
        repeat ((first | refine W.seqR rfl ?_ | refine W.seq ?_ | refine W.regR rfl ?_ | refine W.condK ?_ | refine W.block ?_ | refine W.skip ?_ | refine W.ret ?_ | refine W.exit ?_); try simp (disch := (first | omega | (simp only [World.size_alloc, size_wr, size_drew]; done) | (simp only [World.size_alloc, size_wr, size_drew]; omega) | exact not_noB _)) only [go_sem, ↓reduceIte, Nat.reduceEqDiff, reduceCtorEq, Nat.reduceAdd, Nat.reduceMul, Nat.reduceSub, Nat.reduceLT, Nat.reduceLeDiff, Int.reduceEq, Int.reduceLT, Int.reduceLE, Int.reduceNeg, Int.reduceAdd, Int.reduceSub, Int.reduceMul, Int.reduceToNat, es_22, ld_5, sl_22])
        refine ⟨fun hne => ?_, fun heq => ?_⟩
        · repeat ((first | refine W.seqR rfl ?_ | refine W.seq ?_ | refine W.regR rfl ?_ | refine W.condK ?_ | refine W.block ?_ | refine W.skip ?_ | refine W.ret ?_ | refine W.exit ?_); try simp (disch := (first | omega | (simp only [World.size_alloc, size_wr, size_drew]; done) | (simp only [World.size_alloc, size_wr, size_drew]; omega) | exact not_noB _)) only [go_sem, ↓reduceIte, Nat.reduceEqDiff, reduceCtorEq, Nat.reduceAdd, Nat.reduceMul, Nat.reduceSub, Nat.reduceLT, Nat.reduceLeDiff, Int.reduceEq, Int.reduceLT, Int.reduceLE, Int.reduceNeg, Int.reduceAdd, Int.reduceSub, Int.reduceMul, Int.reduceToNat, es_22, ld_5, sl_22])
          refine ⟨?_, hext.drew⟩
          have : a ≠ b := fun e => by subst e; simp at hne
          simp [this]
        · have he := byte_eq heq
          repeat ((first | refine W.seqR rfl ?_ | refine W.seq ?_ | refine W.regR rfl ?_ | refine W.condK ?_ | refine W.block ?_ | refine W.skip ?_ | refine W.ret ?_ | refine W.exit ?_); try simp (disch := (first | omega | (simp only [World.size_alloc, size_wr, size_drew]; done) | (simp only [World.size_alloc, size_wr, size_drew]; omega) | exact not_noB _)) only [go_sem, ↓reduceIte, Nat.reduceEqDiff, reduceCtorEq, Nat.reduceAdd, Nat.reduceMul, Nat.reduceSub, Nat.reduceLT, Nat.reduceLeDiff, Int.reduceEq, Int.reduceLT, Int.reduceLE, Int.reduceNeg, Int.reduceAdd, Int.reduceSub, Int.reduceMul, Int.reduceToNat, es_22, ld_5, sl_22, h13, h12, h0, h1])
          refine ⟨⟨j + 1, by omega, ?_, hext.drew, take_snoc hs hlt (by omega) he⟩, ?_⟩
          · congr 1
          · simp only [RowKit.intOf]; omega
      · repeat ((first | refine W.seqR rfl ?_ | refine W.seq ?_ | refine W.regR rfl ?_ | refine W.condK ?_ | refine W.block ?_ | refine W.skip ?_ | refine W.ret ?_ | refine W.exit ?_); try simp (disch := (first | omega | (simp only [World.size_alloc, size_wr, size_drew]; done) | (simp only [World.size_alloc, size_wr, size_drew]; omega) | exact not_noB _)) only [go_sem, ↓reduceIte, Nat.reduceEqDiff, reduceCtorEq, Nat.reduceAdd, Nat.reduceMul, Nat.reduceSub, Nat.reduceLT, Nat.reduceLeDiff, Int.reduceEq, Int.reduceLT, Int.reduceLE, Int.reduceNeg, Int.reduceAdd, Int.reduceSub, Int.reduceMul, Int.reduceToNat, es_22, ld_5, sl_22, h13, h12])
        refine ⟨?_, hext⟩
        have e1 : j = a.length := by omega
        subst e1
        rw [List.take_length, hl, List.take_length] at hs
        simp [hs]
  · repeat ((first | refine W.seqR rfl ?_ | refine W.seq ?_ | refine W.regR rfl ?_ | refine W.condK ?_ | refine W.block ?_ | refine W.skip ?_ | refine W.ret ?_ | refine W.exit ?_); try simp (disch := (first | omega | (simp only [World.size_alloc, size_wr, size_drew]; done) | (simp only [World.size_alloc, size_wr, size_drew]; omega) | exact not_noB _)) only [go_sem, ↓reduceIte, Nat.reduceEqDiff, reduceCtorEq, Nat.reduceAdd, Nat.reduceMul, Nat.reduceSub, Nat.reduceLT, Nat.reduceLeDiff, Int.reduceEq, Int.reduceLT, Int.reduceLE, Int.reduceNeg, Int.reduceAdd, Int.reduceSub, Int.reduceMul, Int.reduceToNat, es_22, ld_5, sl_22])
    refine ⟨?_, Upd.refl _ _⟩
    have : a ≠ b := fun e => hl (by rw [e])
    simp [this]

end Ms
