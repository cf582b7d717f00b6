/- A part of the proof: see the last text. -/
import Derived.Test.YtohokpilmncmkaaMsS3
set_option linter.unusedSimpArgs false
set_option linter.unusedVariables false
namespace Ms
open Go Go.Proofs
attribute [local congr] W_congr WPsq_congr WPp_congr optK_congr addrK_congr intK_congr boolK_congr sliceK_congr tupleK_congr funcK_congr Fn_congr rawK_congr takeK_congr stepK_congr convK_congr aggK_congr

theorem whole_fn {ok : Blocks} (s : List UInt8) (v : Value) (w : World) (h : BytesV ok w v s) : Fn Try.prog 17 #[v] w fun r w' => BytesV ok w' r (wholeS s) ∧ w' = w := by
  obtain ⟨base, cap, rfl, hcap⟩ := h.shape
  refine fn_of_W Try.func17 rfl Try.results17 Try.ntmps17 rfl ?_
  have hm := take_min s
  by_cases h1 : (32767 : Int) < s.length
  · repeat ((first | refine W.seqR rfl ?_ | refine W.seq ?_ | refine W.regR rfl ?_ | refine W.condK ?_ | refine W.block ?_ | refine W.skip ?_ | refine W.ret ?_ | refine W.exit ?_); try simp (disch := (first | omega | (simp only [World.size_alloc, size_wr, size_drew]; done) | (simp only [World.size_alloc, size_wr, size_drew]; omega) | exact not_noB _)) only [go_sem, ↓reduceIte, Nat.reduceEqDiff, reduceCtorEq, Nat.reduceAdd, Nat.reduceMul, Nat.reduceSub, Nat.reduceLT, Nat.reduceLeDiff, Int.reduceEq, Int.reduceLT, Int.reduceLE, Int.reduceNeg, Int.reduceAdd, Int.reduceSub, Int.reduceMul, Int.reduceToNat, es_22, sl_22, h1])
    have e : min s.length 32767 = 32767 := by omega
    rw [wholeS]
    exact h.take 32767 (by omega)
  · repeat ((first | refine W.seqR rfl ?_ | refine W.seq ?_ | refine W.regR rfl ?_ | refine W.condK ?_ | refine W.block ?_ | refine W.skip ?_ | refine W.ret ?_ | refine W.exit ?_); try simp (disch := (first | omega | (simp only [World.size_alloc, size_wr, size_drew]; done) | (simp only [World.size_alloc, size_wr, size_drew]; omega) | exact not_noB _)) only [go_sem, ↓reduceIte, Nat.reduceEqDiff, reduceCtorEq, Nat.reduceAdd, Nat.reduceMul, Nat.reduceSub, Nat.reduceLT, Nat.reduceLeDiff, Int.reduceEq, Int.reduceLT, Int.reduceLE, Int.reduceNeg, Int.reduceAdd, Int.reduceSub, Int.reduceMul, Int.reduceToNat, es_22, sl_22, h1, Int.toNat_natCast])
    have e : min s.length 32767 = s.length := by omega
    rw [wholeS, ← hm, e]
    exact h.take s.length (by omega)
theorem things_fn {ok : Blocks} (s : List Tree) (v : Value) (w : World) (h : TreesV ok w v s) : Fn Try.prog 25 #[v] w fun r w' => TreesV ok w' r (thingsS s) ∧ w' = w := by
  obtain ⟨base, cap, rfl, hcap⟩ := SlR.shape h
  refine fn_of_W Try.func25 rfl Try.results25 Try.ntmps25 rfl ?_
  have hm := take_min s
  by_cases h1 : (32767 : Int) < s.length
  · repeat ((first | refine W.seqR rfl ?_ | refine W.seq ?_ | refine W.regR rfl ?_ | refine W.condK ?_ | refine W.block ?_ | refine W.skip ?_ | refine W.ret ?_ | refine W.exit ?_); try simp (disch := (first | omega | (simp only [World.size_alloc, size_wr, size_drew]; done) | (simp only [World.size_alloc, size_wr, size_drew]; omega) | exact not_noB _)) only [go_sem, ↓reduceIte, Nat.reduceEqDiff, reduceCtorEq, Nat.reduceAdd, Nat.reduceMul, Nat.reduceSub, Nat.reduceLT, Nat.reduceLeDiff, Int.reduceEq, Int.reduceLT, Int.reduceLE, Int.reduceNeg, Int.reduceAdd, Int.reduceSub, Int.reduceMul, Int.reduceToNat, es_23, sl_23, h1])
    rw [thingsS]
    exact SlR.take h 32767 (by omega)
  · repeat ((first | refine W.seqR rfl ?_ | refine W.seq ?_ | refine W.regR rfl ?_ | refine W.condK ?_ | refine W.block ?_ | refine W.skip ?_ | refine W.ret ?_ | refine W.exit ?_); try simp (disch := (first | omega | (simp only [World.size_alloc, size_wr, size_drew]; done) | (simp only [World.size_alloc, size_wr, size_drew]; omega) | exact not_noB _)) only [go_sem, ↓reduceIte, Nat.reduceEqDiff, reduceCtorEq, Nat.reduceAdd, Nat.reduceMul, Nat.reduceSub, Nat.reduceLT, Nat.reduceLeDiff, Int.reduceEq, Int.reduceLT, Int.reduceLE, Int.reduceNeg, Int.reduceAdd, Int.reduceSub, Int.reduceMul, Int.reduceToNat, es_23, sl_23, h1, Int.toNat_natCast])
    have e : min s.length 32767 = s.length := by omega
    rw [thingsS, ← hm, e]
    exact SlR.take h s.length (by omega)
theorem known_fn {ok : Blocks} (fs : List Fld) (v : Value) (w : World) (h : FldsV ok w v fs) (hl : fs.length ≤ 1000) (ht : ∀ f ∈ fs, f.tag ≤ 1000) : Fn Try.prog 26 #[v] w fun r w' => r = .int .u32 (knownS fs : Nat) ∧ Ext w w' := by
  obtain ⟨base, cap, rfl, hcap⟩ := SlR.shape h
  refine fn_of_W Try.func26 rfl Try.results26 Try.ntmps26 rfl ?_
  repeat ((first | refine W.seqR rfl ?_ | refine W.seq ?_ | refine W.regR rfl ?_ | refine W.condK ?_ | refine W.block ?_ | refine W.skip ?_ | refine W.ret ?_ | refine W.exit ?_); try simp (disch := (first | omega | (simp only [World.size_alloc, size_wr, size_drew]; done) | (simp only [World.size_alloc, size_wr, size_drew]; omega) | exact not_noB _)) only [go_sem, ↓reduceIte, Nat.reduceEqDiff, reduceCtorEq, Nat.reduceAdd, Nat.reduceMul, Nat.reduceSub, Nat.reduceLT, Nat.reduceLeDiff, Int.reduceEq, Int.reduceLT, Int.reduceLE, Int.reduceNeg, Int.reduceAdd, Int.reduceSub, Int.reduceMul, Int.reduceToNat, es_28, fo_44_4, it_51, kn_3, ld_3, ld_44, sl_28, sz_44, z_44])
  refine W.loop (fun ρ w' => ∃ (j : Nat), j ≤ fs.length ∧ ρ 8 = .int .i64 j ∧ ρ 7 = .int .i64 fs.length ∧ ρ 6 = .slice base fs.length cap ∧ ρ 3 = .int .u32 (knownS (fs.take j) : Nat) ∧ Ext w w')
    (fun ρ _ => fs.length - (RowKit.intOf (ρ 8)).toNat) ?_ ?_
  · refine ⟨0, Nat.zero_le _, ?_, ?_, ?_, ?_, Upd.refl _ _⟩ <;> simp (disch := (first | omega | (simp only [World.size_alloc, size_wr, size_drew]; done) | (simp only [World.size_alloc, size_wr, size_drew]; omega) | exact not_noB _)) only [go_sem, ↓reduceIte, Nat.reduceEqDiff, reduceCtorEq, Nat.reduceAdd, Nat.reduceMul, Nat.reduceSub, Nat.reduceLT, Nat.reduceLeDiff, Int.reduceEq, Int.reduceLT, Int.reduceLE, Int.reduceNeg, Int.reduceAdd, Int.reduceSub, Int.reduceMul, Int.reduceToNat]
    all_goals rfl
  · rintro ρ w1 ⟨j, hj, h8, h7, h6, h3, hext⟩
    have hz := hext.size
    by_cases hlt : j < fs.length
    · obtain ⟨_, b, o, x, vs, hb, _, hx, hblt, hxs, hxe, hfl, _⟩ := FldsV.get h hlt
      subst hb
      have hx1 : blk w1 b = some x := hext.blk_some hx id
      have hk1 : knownS (fs.take j) ≤ 1001 := knownS_le fun f hf => ht f (List.mem_of_mem_take hf)
      have htj := ht fs[j] (List.getElem_mem hlt)
      have hsn := knownS_snoc fs j hlt
      by_cases h0 : 0 ≤ fs[j].tag
      · have hw : IntKind.u32.wrap fs[j].tag = fs[j].tag := u32_wrap (by omega)
        rw [if_pos h0] at hsn
        by_cases hm : (knownS (fs.take j) : Int) < fs[j].tag + 1
        · repeat ((first | refine W.seqR rfl ?_ | refine W.seq ?_ | refine W.regR rfl ?_ | refine W.condK ?_ | refine W.block ?_ | refine W.skip ?_ | refine W.ret ?_ | refine W.exit ?_); try simp (disch := (first | omega | (simp only [World.size_alloc, size_wr, size_drew]; done) | (simp only [World.size_alloc, size_wr, size_drew]; omega) | exact not_noB _)) only [go_sem, ↓reduceIte, Nat.reduceEqDiff, reduceCtorEq, Nat.reduceAdd, Nat.reduceMul, Nat.reduceSub, Nat.reduceLT, Nat.reduceLeDiff, Int.reduceEq, Int.reduceLT, Int.reduceLE, Int.reduceNeg, Int.reduceAdd, Int.reduceSub, Int.reduceMul, Int.reduceToNat, es_28, fo_44_4, it_51, kn_3, ld_3, ld_44, sl_28, sz_44, z_44, h8, h7, h6, h3, hx1, hxe, hfl, Int.toNat_natCast, hw, hm])
          refine ⟨⟨j + 1, by omega, ?_, ?_, (hext.alloc _).wr _ _ (.inl (by omega))⟩, ?_⟩
          · congr 1
          · rw [hsn]; congr 1; omega
          · simp only [RowKit.intOf]; omega
        · repeat ((first | refine W.seqR rfl ?_ | refine W.seq ?_ | refine W.regR rfl ?_ | refine W.condK ?_ | refine W.block ?_ | refine W.skip ?_ | refine W.ret ?_ | refine W.exit ?_); try simp (disch := (first | omega | (simp only [World.size_alloc, size_wr, size_drew]; done) | (simp only [World.size_alloc, size_wr, size_drew]; omega) | exact not_noB _)) only [go_sem, ↓reduceIte, Nat.reduceEqDiff, reduceCtorEq, Nat.reduceAdd, Nat.reduceMul, Nat.reduceSub, Nat.reduceLT, Nat.reduceLeDiff, Int.reduceEq, Int.reduceLT, Int.reduceLE, Int.reduceNeg, Int.reduceAdd, Int.reduceSub, Int.reduceMul, Int.reduceToNat, es_28, fo_44_4, it_51, kn_3, ld_3, ld_44, sl_28, sz_44, z_44, h8, h7, h6, h3, hx1, hxe, hfl, Int.toNat_natCast, hw, hm])
          refine ⟨⟨j + 1, by omega, ?_, ?_, (hext.alloc _).wr _ _ (.inl (by omega))⟩, ?_⟩
          · congr 1
          · rw [hsn]; congr 1; omega
          · simp only [RowKit.intOf]; omega
      · rw [if_neg h0] at hsn
        repeat ((first | refine W.seqR rfl ?_ | refine W.seq ?_ | refine W.regR rfl ?_ | refine W.condK ?_ | refine W.block ?_ | refine W.skip ?_ | refine W.ret ?_ | refine W.exit ?_); try simp (disch := (first | omega | (simp only [World.size_alloc, size_wr, size_drew]; done) | (simp only [World.size_alloc, size_wr, size_drew]; omega) | exact not_noB _)) only [go_sem, ↓reduceIte, Nat.reduceEqDiff, reduceCtorEq, Nat.reduceAdd, Nat.reduceMul, Nat.reduceSub, Nat.reduceLT, Nat.reduceLeDiff, Int.reduceEq, Int.reduceLT, Int.reduceLE, Int.reduceNeg, Int.reduceAdd, Int.reduceSub, Int.reduceMul, Int.reduceToNat, es_28, fo_44_4, it_51, kn_3, ld_3, ld_44, sl_28, sz_44, z_44, h8, h7, h6, h3, hx1, hxe, hfl, Int.toNat_natCast])
        refine ⟨⟨j + 1, by omega, ?_, ?_, (hext.alloc _).wr _ _ (.inl (by omega))⟩, ?_⟩
        · congr 1
        · rw [hsn]
        · simp only [RowKit.intOf]; omega
    · repeat ((first | refine W.seqR rfl ?_ | refine W.seq ?_ | refine W.regR rfl ?_ | refine W.condK ?_ | refine W.block ?_ | refine W.skip ?_ | refine W.ret ?_ | refine W.exit ?_); try simp (disch := (first | omega | (simp only [World.size_alloc, size_wr, size_drew]; done) | (simp only [World.size_alloc, size_wr, size_drew]; omega) | exact not_noB _)) only [go_sem, ↓reduceIte, Nat.reduceEqDiff, reduceCtorEq, Nat.reduceAdd, Nat.reduceMul, Nat.reduceSub, Nat.reduceLT, Nat.reduceLeDiff, Int.reduceEq, Int.reduceLT, Int.reduceLE, Int.reduceNeg, Int.reduceAdd, Int.reduceSub, Int.reduceMul, Int.reduceToNat, es_28, fo_44_4, it_51, kn_3, ld_3, ld_44, sl_28, sz_44, z_44, h8, h7, h3])
      refine ⟨?_, hext⟩
      have : j = fs.length := by omega
      subst this
      rw [List.take_length]

theorem zero_cells : treeC Tree.zero (.slice none 0 0) (.slice none 0 0) (.slice none 0 0) = #[.int .i64 0, .slice none 0 0, .bool false, .slice none 0 0, .slice none 0 0] := rfl
theorem TreeC.zero (ok : Blocks) (w : World) : TreeC ok w Tree.zero [.int .i64 0, .slice none 0 0, .bool false, .slice none 0 0, .slice none 0 0] :=
  TreeC.intro rfl ⟨none, 0, rfl, Nat.le_refl _, by simp, .inl rfl⟩ ⟨[], ⟨none, 0, rfl, Nat.le_refl _, by simp, .inl rfl⟩, rfl, fun i h => by simp at h⟩ ⟨[], ⟨none, 0, rfl, Nat.le_refl _, by simp, .inl rfl⟩, rfl, fun i h => by simp at h⟩
theorem Tree.at_lt {t : Tree} {i : Nat} (h : i < t.l.length) : t.at i = t.l[i] := by simp [Tree.at, h]
theorem Tree.at_ge {t : Tree} {i : Nat} (h : t.l.length ≤ i) : t.at i = .zero := by simp [Tree.at, h]

theorem at_fn {ok : Blocks} (t : Tree) (i : Nat) (ct : List Value) (w : World) (ht : TreeC ok w t ct) (hi : i ≤ 1000) (hlen : t.l.length < 4611686018427387904) :
    Fn Try.prog 15 #[.agg ct.toArray, .int .i64 i] w fun r w' => (∃ cs, r = .agg cs.toArray ∧ TreeC ok w' (t.at i) cs) ∧ Ext w w' := by
  obtain ⟨vS, vL, vU, rfl, hn, hS, hL, hU⟩ := ht.inv
  obtain ⟨base, cap, rfl, hcap⟩ := SlR.shape hL
  have f1 := hS.flat
  have f2 := SlR.flat hU
  refine fn_of_W Try.func15 rfl Try.results15 Try.ntmps15 rfl ?_
  by_cases h1 : i < t.l.length
  · obtain ⟨_, b, o, x, vS', vL', vU', hb, hok, hx, hlt, hxs, hxe, g1, g2, g3, hc⟩ := TreesV.get hL h1
    subst hb
    repeat ((first | refine W.seqR rfl ?_ | refine W.seq ?_ | refine W.regR rfl ?_ | refine W.condK ?_ | refine W.block ?_ | refine W.skip ?_ | refine W.ret ?_ | refine W.exit ?_); try simp (disch := (first | omega | (simp only [World.size_alloc, size_wr, size_drew]; done) | (simp only [World.size_alloc, size_wr, size_drew]; omega) | exact not_noB _)) only [go_sem, ↓reduceIte, Nat.reduceEqDiff, reduceCtorEq, Nat.reduceAdd, Nat.reduceMul, Nat.reduceSub, Nat.reduceLT, Nat.reduceLeDiff, Int.reduceEq, Int.reduceLT, Int.reduceLE, Int.reduceNeg, Int.reduceAdd, Int.reduceSub, Int.reduceMul, Int.reduceToNat, es_23, fo_26_3, ld_23, ld_26, pl_26, sl_23, sz_26, z_26, f1, f2, g1, g2, g3, hx, hxe, Int.toNat_natCast])
    have hE : Ext w (wr ((w.alloc (.cells #[.int .i64 t.n, vS, .bool t.null, .slice (some ⟨b, o, none⟩) t.l.length cap, vU] 26)).alloc (.cells #[.int .i64 0, .slice none 0 0, .bool false, .slice none 0 0, .slice none 0 0] 26)) (w.heap.size + 1) 0 [.int .i64 t.l[i].n, vS', .bool t.l[i].null, vL', vU']) :=
      Upd.wr (Upd.alloc (Upd.alloc (Upd.refl _ _) _) _) _ _ (.inl (by omega))
    refine ⟨⟨_, rfl, ?_⟩, hE⟩
    rw [Tree.at_lt h1]
    exact hc.keep (hE.keeps _)
  · repeat ((first | refine W.seqR rfl ?_ | refine W.seq ?_ | refine W.regR rfl ?_ | refine W.condK ?_ | refine W.block ?_ | refine W.skip ?_ | refine W.ret ?_ | refine W.exit ?_); try simp (disch := (first | omega | (simp only [World.size_alloc, size_wr, size_drew]; done) | (simp only [World.size_alloc, size_wr, size_drew]; omega) | exact not_noB _)) only [go_sem, ↓reduceIte, Nat.reduceEqDiff, reduceCtorEq, Nat.reduceAdd, Nat.reduceMul, Nat.reduceSub, Nat.reduceLT, Nat.reduceLeDiff, Int.reduceEq, Int.reduceLT, Int.reduceLE, Int.reduceNeg, Int.reduceAdd, Int.reduceSub, Int.reduceMul, Int.reduceToNat, es_23, fo_26_3, ld_23, ld_26, pl_26, sl_23, sz_26, z_26, f1, f2])
    refine ⟨⟨_, rfl, ?_⟩, ?_⟩
    · rw [Tree.at_ge (by omega)]
      exact TreeC.zero _ _
    · exact Upd.wr (Upd.alloc (Upd.alloc (Upd.refl _ _) _) _) _ _ (.inl (by omega))
end Ms
