/- A part of the proof: see the last text. -/
import Derived.Test.YtohokpilmncmkaaMsS12
set_option linter.unusedSimpArgs false
set_option linter.unusedVariables false
namespace Ms
open Go Go.Proofs
attribute [local congr] W_congr WPsq_congr WPp_congr optK_congr addrK_congr intK_congr boolK_congr sliceK_congr tupleK_congr funcK_congr Fn_congr rawK_congr takeK_congr stepK_congr convK_congr aggK_congr

theorem Fit_fn {d : Nat} {ft : List Fld → Int → Tree → Tree} (fs : List Fld) (ok : Blocks) (ver : Int) (t : Tree) (vf : Value) (ct : List Value) (w : World) (hf : FldsV ok w vf fs) (hfl : fs.length ≤ 1000) (htag : ∀ f ∈ fs, f.tag ≤ 1000) (ht : TreeC ok w t ct) (hsm : Small 4611686018427387903 t)
    (hfit : ∀ f ∈ fs, ∀ (ok : Blocks) (x : Tree) (cf cx : List Value) (w' : World), FldC ok w' f cf → TreeC ok w' x cx → Small 4611686018427387903 x →
      Fn Try.prog 14 #[.agg cf.toArray, .int .i64 ver, .agg cx.toArray] w' fun r w'' => TreeR ok w' w'' r (fittedS ft f ver x) ∧ Ext w' w'') :
    Fn Try.prog 9 #[vf, .int .i64 ver, .agg ct.toArray] w fun r w' => TreeR ok w w' r (.mk 0 [] false (fitL ft fs ver t fs.length) (fitU fs t.u)) ∧ Ext w w' := by
  obtain ⟨bf, cf, rfl, hcf⟩ := SlR.shape hf
  obtain ⟨vS, vL, vU, rfl, hn, hS, hL, hU⟩ := ht.inv
  have hl1 := hsm.s
  have hl2 := hsm.l
  have f1 := hS.flat
  have f2 := SlR.flat hL
  have f3 := SlR.flat hU
  have hE : Ext w (wr (((w.alloc (.cells #[.int .i64 t.n, vS, .bool t.null, vL, vU] 26)).alloc (.cells #[.int .i64 0, .slice none 0 0, .bool false, .slice none 0 0, .slice none 0 0] 26)).alloc (.cells #[.int .i64 0, .slice none 0 0, .bool false, .slice none 0 0, .slice none 0 0] 26)) (w.heap.size + 2) 0 [.int .i64 0, .slice none 0 0, .bool false, .slice none 0 0, .slice none 0 0]) := (((Upd.refl _ _).alloc _).alloc _).alloc _ |>.wr _ _ (.inl (by omega))
  refine fn_of_W Try.func9 rfl Try.results9 Try.ntmps9 rfl ?_
  repeat ((first | refine W.seqR rfl ?_ | refine W.seq ?_ | refine W.regR rfl ?_ | refine W.condK ?_ | refine W.block ?_ | refine W.skip ?_ | refine W.ret ?_ | refine W.exit ?_); try simp (disch := (first | omega | (simp only [World.size_alloc, size_wr, size_drew]; done) | (simp only [World.size_alloc, size_wr, size_drew]; omega) | exact not_noB _)) only [go_sem, ↓reduceIte, Nat.reduceEqDiff, reduceCtorEq, Nat.reduceAdd, Nat.reduceMul, Nat.reduceSub, Nat.reduceLT, Nat.reduceLeDiff, Int.reduceEq, Int.reduceLT, Int.reduceLE, Int.reduceNeg, Int.reduceAdd, Int.reduceSub, Int.reduceMul, Int.reduceToNat, ca_14, ca_15, ca_16, ca_17, es_24, es_28, fo_26_3, fo_26_4, fo_53_0, fo_53_1, ld_22, ld_23, ld_24, ld_26, ld_44, ld_51, ld_53, pl_26, pl_53, se_23, se_24, sl_24, sl_28, sz_23, sz_24, sz_26, sz_44, sz_53, z_26, z_44, z_53, f1, f2, f3])
  have hb0 : blk (wr (((w.alloc (.cells #[.int .i64 t.n, vS, .bool t.null, vL, vU] 26)).alloc (.cells #[.int .i64 0, .slice none 0 0, .bool false, .slice none 0 0, .slice none 0 0] 26)).alloc (.cells #[.int .i64 0, .slice none 0 0, .bool false, .slice none 0 0, .slice none 0 0] 26)) (w.heap.size + 2) 0 [.int .i64 0, .slice none 0 0, .bool false, .slice none 0 0, .slice none 0 0]) w.heap.size = some (#[.int .i64 t.n, vS, .bool t.null, vL, vU], 26, (0, 0)) := by simp (disch := (first | omega | (simp only [World.size_alloc, size_wr, size_drew]; done) | (simp only [World.size_alloc, size_wr, size_drew]; omega) | exact not_noB _)) only [go_sem, ↓reduceIte, Nat.reduceEqDiff, reduceCtorEq, Nat.reduceAdd, Nat.reduceMul, Nat.reduceSub, Nat.reduceLT, Nat.reduceLeDiff, Int.reduceEq, Int.reduceLT, Int.reduceLE, Int.reduceNeg, Int.reduceAdd, Int.reduceSub, Int.reduceMul, Int.reduceToNat]
  have hb1 : blk (wr (((w.alloc (.cells #[.int .i64 t.n, vS, .bool t.null, vL, vU] 26)).alloc (.cells #[.int .i64 0, .slice none 0 0, .bool false, .slice none 0 0, .slice none 0 0] 26)).alloc (.cells #[.int .i64 0, .slice none 0 0, .bool false, .slice none 0 0, .slice none 0 0] 26)) (w.heap.size + 2) 0 [.int .i64 0, .slice none 0 0, .bool false, .slice none 0 0, .slice none 0 0]) (w.heap.size + 1) = some (#[.int .i64 0, .slice none 0 0, .bool false, .slice none 0 0, .slice none 0 0], 26, (0, 0)) := by simp (disch := (first | omega | (simp only [World.size_alloc, size_wr, size_drew]; done) | (simp only [World.size_alloc, size_wr, size_drew]; omega) | exact not_noB _)) only [go_sem, ↓reduceIte, Nat.reduceEqDiff, reduceCtorEq, Nat.reduceAdd, Nat.reduceMul, Nat.reduceSub, Nat.reduceLT, Nat.reduceLeDiff, Int.reduceEq, Int.reduceLT, Int.reduceLE, Int.reduceNeg, Int.reduceAdd, Int.reduceSub, Int.reduceMul, Int.reduceToNat]
  have hb2 : blk (wr (((w.alloc (.cells #[.int .i64 t.n, vS, .bool t.null, vL, vU] 26)).alloc (.cells #[.int .i64 0, .slice none 0 0, .bool false, .slice none 0 0, .slice none 0 0] 26)).alloc (.cells #[.int .i64 0, .slice none 0 0, .bool false, .slice none 0 0, .slice none 0 0] 26)) (w.heap.size + 2) 0 [.int .i64 0, .slice none 0 0, .bool false, .slice none 0 0, .slice none 0 0]) (w.heap.size + 2) = some (#[.int .i64 0, .slice none 0 0, .bool false, .slice none 0 0, .slice none 0 0], 26, (0, 0)) := by simp (disch := (first | omega | (simp only [World.size_alloc, size_wr, size_drew]; done) | (simp only [World.size_alloc, size_wr, size_drew]; omega) | exact not_noB _)) only [go_sem, ↓reduceIte, Nat.reduceEqDiff, reduceCtorEq, Nat.reduceAdd, Nat.reduceMul, Nat.reduceSub, Nat.reduceLT, Nat.reduceLeDiff, Int.reduceEq, Int.reduceLT, Int.reduceLE, Int.reduceNeg, Int.reduceAdd, Int.reduceSub, Int.reduceMul, Int.reduceToNat]
  have hz2 : (wr (((w.alloc (.cells #[.int .i64 t.n, vS, .bool t.null, vL, vU] 26)).alloc (.cells #[.int .i64 0, .slice none 0 0, .bool false, .slice none 0 0, .slice none 0 0] 26)).alloc (.cells #[.int .i64 0, .slice none 0 0, .bool false, .slice none 0 0, .slice none 0 0] 26)) (w.heap.size + 2) 0 [.int .i64 0, .slice none 0 0, .bool false, .slice none 0 0, .slice none 0 0]).heap.size = w.heap.size + 3 := by simp only [size_wr, World.size_alloc]
  generalize (wr (((w.alloc (.cells #[.int .i64 t.n, vS, .bool t.null, vL, vU] 26)).alloc (.cells #[.int .i64 0, .slice none 0 0, .bool false, .slice none 0 0, .slice none 0 0] 26)).alloc (.cells #[.int .i64 0, .slice none 0 0, .bool false, .slice none 0 0, .slice none 0 0] 26)) (w.heap.size + 2) 0 [.int .i64 0, .slice none 0 0, .bool false, .slice none 0 0, .slice none 0 0]) = w2 at *
  refine W.exitJ 0 (fun ρ w' => ∃ v, ρ 0 = .slice bf fs.length cf ∧ ρ 5 = .pointer (some ⟨w.heap.size, 0, none⟩) ∧ ρ 6 = .pointer (some ⟨w.heap.size + 1, 0, none⟩) ∧ ρ 7 = .pointer (some ⟨w.heap.size + 2, 0, none⟩) ∧
      blk w' (w.heap.size + 2) = some (#[.int .i64 0, .slice none 0 0, .bool false, v, .slice none 0 0], 26, (0, 0)) ∧ GrowT (fun b => okN ok w.heap.size b ∧ b ≠ w.heap.size + 1 ∧ b ≠ w.heap.size + 2) w2.heap.size (w.heap.size + 2) w' 26 v (fitL ft fs ver t fs.length) ∧ Upd (fun b => b = w.heap.size + 2) w2 w')
    (W.loop (fun ρ w' => ∃ (j : Nat) (v : Value), j ≤ fs.length ∧ ρ 15 = .int .i64 j ∧ ρ 14 = .int .i64 fs.length ∧ ρ 13 = .slice bf fs.length cf ∧ ρ 0 = .slice bf fs.length cf ∧ ρ 1 = .int .i64 ver ∧ ρ 5 = .pointer (some ⟨w.heap.size, 0, none⟩) ∧ ρ 6 = .pointer (some ⟨w.heap.size + 1, 0, none⟩) ∧ ρ 7 = .pointer (some ⟨w.heap.size + 2, 0, none⟩) ∧
      blk w' (w.heap.size + 2) = some (#[.int .i64 0, .slice none 0 0, .bool false, v, .slice none 0 0], 26, (0, 0)) ∧ GrowT (fun b => okN ok w.heap.size b ∧ b ≠ w.heap.size + 1 ∧ b ≠ w.heap.size + 2) w2.heap.size (w.heap.size + 2) w' 26 v (fitL ft fs ver t j) ∧ Upd (fun b => b = w.heap.size + 2) w2 w')
    (fun ρ _ => fs.length - (RowKit.intOf (ρ 15)).toNat) ?_ ?_) ?_
  · refine ⟨0, _, Nat.zero_le _, ?_, ?_, ?_, ?_, ?_, ?_, ?_, ?_, hb2, GrowT.nil _ _ _ _ _, Upd.refl _ _⟩ <;> simp (disch := (first | omega | (simp only [World.size_alloc, size_wr, size_drew]; done) | (simp only [World.size_alloc, size_wr, size_drew]; omega) | exact not_noB _)) only [go_sem, ↓reduceIte, Nat.reduceEqDiff, reduceCtorEq, Nat.reduceAdd, Nat.reduceMul, Nat.reduceSub, Nat.reduceLT, Nat.reduceLeDiff, Int.reduceEq, Int.reduceLT, Int.reduceLE, Int.reduceNeg, Int.reduceAdd, Int.reduceSub, Int.reduceMul, Int.reduceToNat]
    all_goals rfl
  · rintro ρ w6 ⟨j, v, hj, h15, h14, h13, h0, h1, h5, h6, h7, hbt, hg, hU6⟩
    have hz6 := hU6.size
    have hb06 := hU6.blk_some hb0 (by omega)
    have hE06 : Ext w w6 := hE.more hU6 fun b hb h => by omega
    by_cases hlt : j < fs.length
    · obtain ⟨_, b, o, x, vs2, hb, hokb, hx, hblt, hxs, hxe, hfl2, hsub2⟩ := FldsV.get hf hlt
      subst hb
      have hx6 : blk w6 b = some x := hE06.blk_some hx id
      have hmem := List.getElem_mem hlt
      have hcat := fitL_snoc ft fs ver t j hlt
      have hlen9 := fitL_len ft fs ver t j hj
      generalize fs[j] = g at *
      have hnb : ∀ b, b < w2.heap.size ∨ b = w6.heap.size → ¬ ownB v b := fun b hb h => by
        have := hg.above h
        have := hg.below h
        omega
      have hE7 : Ext w6 (wr (w6.alloc (.cells #[.int .i64 0, .int .i64 0, .int .i64 0, .int .i64 0, .int .i64 0, .int .i64 0, .int .i64 0, .slice none 0 0] 44)) w6.heap.size 0 [.int .i64 g.kind, .int .i64 g.fr, .int .i64 g.to, .int .i64 g.null, .int .i64 g.tag, .int .i64 g.df, .int .i64 g.of, vs2]) := (Upd.alloc (Upd.refl _ _) _).wr _ _ (.inl (Nat.le_refl _))
      have hb7 : blk (wr (w6.alloc (.cells #[.int .i64 0, .int .i64 0, .int .i64 0, .int .i64 0, .int .i64 0, .int .i64 0, .int .i64 0, .slice none 0 0] 44)) w6.heap.size 0 [.int .i64 g.kind, .int .i64 g.fr, .int .i64 g.to, .int .i64 g.null, .int .i64 g.tag, .int .i64 g.df, .int .i64 g.of, vs2]) w6.heap.size = some (#[.int .i64 g.kind, .int .i64 g.fr, .int .i64 g.to, .int .i64 g.null, .int .i64 g.tag, .int .i64 g.df, .int .i64 g.of, vs2], 44, (0, 0)) := by simp (disch := (first | omega | (simp only [World.size_alloc, size_wr, size_drew]; done) | (simp only [World.size_alloc, size_wr, size_drew]; omega) | exact not_noB _)) only [go_sem, ↓reduceIte, Nat.reduceEqDiff, reduceCtorEq, Nat.reduceAdd, Nat.reduceMul, Nat.reduceSub, Nat.reduceLT, Nat.reduceLeDiff, Int.reduceEq, Int.reduceLT, Int.reduceLE, Int.reduceNeg, Int.reduceAdd, Int.reduceSub, Int.reduceMul, Int.reduceToNat]
      have hz7 : (wr (w6.alloc (.cells #[.int .i64 0, .int .i64 0, .int .i64 0, .int .i64 0, .int .i64 0, .int .i64 0, .int .i64 0, .slice none 0 0] 44)) w6.heap.size 0 [.int .i64 g.kind, .int .i64 g.fr, .int .i64 g.to, .int .i64 g.null, .int .i64 g.tag, .int .i64 g.df, .int .i64 g.of, vs2]).heap.size = w6.heap.size + 1 := by simp only [size_wr, World.size_alloc]
      repeat ((first | refine W.seqR rfl ?_ | refine W.seq ?_ | refine W.regR rfl ?_ | refine W.condK ?_ | refine W.block ?_ | refine W.skip ?_ | refine W.ret ?_ | refine W.exit ?_); try simp (disch := (first | omega | (simp only [World.size_alloc, size_wr, size_drew]; done) | (simp only [World.size_alloc, size_wr, size_drew]; omega) | exact not_noB _)) only [go_sem, ↓reduceIte, Nat.reduceEqDiff, reduceCtorEq, Nat.reduceAdd, Nat.reduceMul, Nat.reduceSub, Nat.reduceLT, Nat.reduceLeDiff, Int.reduceEq, Int.reduceLT, Int.reduceLE, Int.reduceNeg, Int.reduceAdd, Int.reduceSub, Int.reduceMul, Int.reduceToNat, ca_14, ca_15, ca_16, ca_17, es_24, es_28, fo_26_3, fo_26_4, fo_53_0, fo_53_1, ld_22, ld_23, ld_24, ld_26, ld_44, ld_51, ld_53, pl_26, pl_53, se_23, se_24, sl_24, sl_28, sz_23, sz_24, sz_26, sz_44, sz_53, z_26, z_44, z_53, h15, h14, h13, hx6, hxe, hfl2, cellsAt_eight, Int.toNat_natCast])
      generalize (wr (w6.alloc (.cells #[.int .i64 0, .int .i64 0, .int .i64 0, .int .i64 0, .int .i64 0, .int .i64 0, .int .i64 0, .slice none 0 0] 44)) w6.heap.size 0 [.int .i64 g.kind, .int .i64 g.fr, .int .i64 g.to, .int .i64 g.null, .int .i64 g.tag, .int .i64 g.df, .int .i64 g.of, vs2]) = w7 at *
      have hbt7 := hE7.blk_some hbt id
      have hb07 := hE7.blk_some hb06 id
      refine W.drawR (.take 0 (.take 1 (.take 2 (.take 3 (.take 4 (.take 5 (.only 6 (.only 7 (.only 8 (.only 9 (.take 10 (.last 11)))))))))))) (ownB v) mixed (by kernel_rfl) ?_
      simp (disch := (first | omega | (simp only [World.size_alloc, size_wr, size_drew]; done) | (simp only [World.size_alloc, size_wr, size_drew]; omega) | exact not_noB _ | (refine hnb _ ?_; omega) | (refine hnb _ ?_; simp only [World.size_alloc, size_wr, size_drew]; done) | (refine hnb _ ?_; simp only [World.size_alloc, size_wr, size_drew]; omega))) only [go_sem, ↓reduceIte, Nat.reduceEqDiff, reduceCtorEq, Nat.reduceAdd, Nat.reduceMul, Nat.reduceSub, Nat.reduceLT, Nat.reduceLeDiff, Int.reduceEq, Int.reduceLT, Int.reduceLE, Int.reduceNeg, Int.reduceAdd, Int.reduceSub, Int.reduceMul, Int.reduceToNat, ca_14, ca_15, ca_16, ca_17, es_24, es_28, fo_26_3, fo_26_4, fo_53_0, fo_53_1, ld_22, ld_23, ld_24, ld_26, ld_44, ld_51, ld_53, pl_26, pl_53, se_23, se_24, sl_24, sl_28, sz_23, sz_24, sz_26, sz_44, sz_53, z_26, z_44, z_53, h1, h5, h7, hbt7, hb07, hb7, cellsAt_five, cellsAt_eight]
      have hE7d : Ext w7 w7.drew := (Upd.refl _ _).drew
      have hE07d : Ext w w7.drew := (hE06.trans hE7).trans hE7d
      refine (at_fn (ok := fun b => ok b ∧ b < w.heap.size) t j _ _ ((ht.weaken fun b h1 h2 => ⟨h2, h1⟩).keep (hE07d.keeps _)) (by omega) (by omega)).mono ?_
      rintro va' wa ⟨⟨ca, rfl, hca⟩, hEa⟩
      refine ⟨hEa.mono (fun _ h => h.elim), ?_⟩
      have hE0a : Ext w wa := hE07d.trans hEa
      have hza := hEa.size
      simp only [size_drew] at hza
      refine (hfit g hmem (fun b => ok b ∧ b < w.heap.size) (t.at j) _ ca wa (FldC.of ((hsub2.weaken fun b h1 h2 => ⟨h2, h1⟩).keep (hE0a.keeps _))) hca (hsm.at j)).mono ?_
      rintro v8 w8 ⟨⟨c8, rfl, hc8⟩, hE8'⟩
      have hE8 : Ext w7.drew w8 := hEa.trans hE8'
      generalize fittedS ft g ver (t.at j) = T at *
      obtain ⟨vS8, vL8, vU8, rfl, hn8, hS8, hL8, hU8⟩ := hc8.inv
      have k1 := hS8.flat
      have k2 := SlR.flat hL8
      have k3 := SlR.flat hU8
      have hz8 := hE8.size
      simp only [size_drew] at hz8
      have hM8 : Upd (ownB v) w7.drew w8 := hE8.mono (fun _ h => h.elim)
      have hE68 : Ext w6 w8 := (hE7.trans hE7d).trans hE8
      have hE9 : Ext w8 (w8.alloc (.cells #[.int .i64 T.n, vS8, .bool T.null, vL8, vU8] 26)) := Upd.alloc (Upd.refl _ _) _
      have hM9 : Upd (ownB v) w7.drew (w8.alloc (.cells #[.int .i64 T.n, vS8, .bool T.null, vL8, vU8] 26)) := hM8.alloc _
      refine ⟨hM8, ?_⟩
      simp (disch := (first | omega | (simp only [World.size_alloc, size_wr, size_drew]; done) | (simp only [World.size_alloc, size_wr, size_drew]; omega) | exact not_noB _)) only [go_sem, ↓reduceIte, Nat.reduceEqDiff, reduceCtorEq, Nat.reduceAdd, Nat.reduceMul, Nat.reduceSub, Nat.reduceLT, Nat.reduceLeDiff, Int.reduceEq, Int.reduceLT, Int.reduceLE, Int.reduceNeg, Int.reduceAdd, Int.reduceSub, Int.reduceMul, Int.reduceToNat, ca_14, ca_15, ca_16, ca_17, es_24, es_28, fo_26_3, fo_26_4, fo_53_0, fo_53_1, ld_22, ld_23, ld_24, ld_26, ld_44, ld_51, ld_53, pl_26, pl_53, se_23, se_24, sl_24, sl_28, sz_23, sz_24, sz_26, sz_44, sz_53, z_26, z_44, z_53, k1, k2, k3]
      refine ⟨hM9, ?_⟩
      have hg9 := (hg.ext hE68).ext hE9
      have hx9 : TreeC (fun b => (fun b => okN ok w.heap.size b ∧ b ≠ w.heap.size + 1 ∧ b ≠ w.heap.size + 2) b ∧ b ≠ w.heap.size + 2 ∧ ¬ ownB v b) (w8.alloc (.cells #[.int .i64 T.n, vS8, .bool T.null, vL8, vU8] 26)) T [.int .i64 T.n, vS8, .bool T.null, vL8, vU8] :=
        (hc8.keep (hE9.keeps _)).weaken fun b _ hk => by
          rcases hk with ⟨h1, h2⟩ | h2
          · exact ⟨⟨.inl h1, by omega, by omega⟩, by omega, fun h => by have := hg.above h; omega⟩
          · exact ⟨⟨.inr (by omega), by omega, by omega⟩, by omega, fun h => by have := hg.below h; omega⟩
      obtain ⟨css, hown, hall⟩ := hg9.ex
      have hcl9 := hall.1
      refine wp_append ap_23_23 (m := 1) (news := [.int .i64 T.n, vS8, .bool T.null, vL8, vU8]) (n := css.length) (cs := css.flatten) (v := v) ?_ rfl hown.1 (all2_flat_tree hall) (Src.blk (fr := (0, 0)) (T := 26) (blk_alloc_new rfl) rfl (flat_tree hx9).1) ?_ ?_ ?_
      · simp (disch := (first | omega | (simp only [World.size_alloc, size_wr, size_drew]; done) | (simp only [World.size_alloc, size_wr, size_drew]; omega) | exact not_noB _)) only [go_sem, ↓reduceIte, Nat.reduceEqDiff, reduceCtorEq, Nat.reduceAdd, Nat.reduceMul, Nat.reduceSub, Nat.reduceLT, Nat.reduceLeDiff, Int.reduceEq, Int.reduceLT, Int.reduceLE, Int.reduceNeg, Int.reduceAdd, Int.reduceSub, Int.reduceMul, Int.reduceToNat]
      · simp only [World.size_alloc]; omega
      · omega
      intro v' w10 ho hu hfr
      have hg10 := GrowT.snoc hown hall hx9 hu hfr ho
      have hz10 := hu.size
      simp only [World.size_alloc] at hz10
      obtain ⟨va, vc, hv', _⟩ := ho.shape
      subst hv'
      have hbt10 := (hM9.trans hu).blk_some (hE7d.blk_some hbt7 id) (hnb _ (by omega))
      have htb : ¬ ownB (.slice va (css.length + 1) vc) (w.heap.size + 2) := fun h => by
        rcases hfr _ h with h | h
        · exact hnb _ (.inl (by omega)) h
        · simp only [World.size_alloc] at h; omega
      simp (disch := (first | omega | (simp only [World.size_alloc, size_wr, size_drew]; done) | (simp only [World.size_alloc, size_wr, size_drew]; omega) | exact not_noB _)) only [go_sem, ↓reduceIte, Nat.reduceEqDiff, reduceCtorEq, Nat.reduceAdd, Nat.reduceMul, Nat.reduceSub, Nat.reduceLT, Nat.reduceLeDiff, Int.reduceEq, Int.reduceLT, Int.reduceLE, Int.reduceNeg, Int.reduceAdd, Int.reduceSub, Int.reduceMul, Int.reduceToNat, ca_14, ca_15, ca_16, ca_17, es_24, es_28, fo_26_3, fo_26_4, fo_53_0, fo_53_1, ld_22, ld_23, ld_24, ld_26, ld_44, ld_51, ld_53, pl_26, pl_53, se_23, se_24, sl_24, sl_28, sz_23, sz_24, sz_26, sz_44, sz_53, z_26, z_44, z_53]
      refine ⟨hM9.trans hu, ?_⟩
      simp (disch := (first | omega | (simp only [World.size_alloc, size_wr, size_drew]; done) | (simp only [World.size_alloc, size_wr, size_drew]; omega) | exact not_noB _)) only [go_sem, ↓reduceIte, Nat.reduceEqDiff, reduceCtorEq, Nat.reduceAdd, Nat.reduceMul, Nat.reduceSub, Nat.reduceLT, Nat.reduceLeDiff, Int.reduceEq, Int.reduceLT, Int.reduceLE, Int.reduceNeg, Int.reduceAdd, Int.reduceSub, Int.reduceMul, Int.reduceToNat, ca_14, ca_15, ca_16, ca_17, es_24, es_28, fo_26_3, fo_26_4, fo_53_0, fo_53_1, ld_22, ld_23, ld_24, ld_26, ld_44, ld_51, ld_53, pl_26, pl_53, se_23, se_24, sl_24, sl_28, sz_23, sz_24, sz_26, sz_44, sz_53, z_26, z_44, z_53, h7, hbt10]
      repeat ((first | refine W.seqR rfl ?_ | refine W.seq ?_ | refine W.regR rfl ?_ | refine W.condK ?_ | refine W.block ?_ | refine W.skip ?_ | refine W.ret ?_ | refine W.exit ?_); try simp (disch := (first | omega | (simp only [World.size_alloc, size_wr, size_drew]; done) | (simp only [World.size_alloc, size_wr, size_drew]; omega) | exact not_noB _)) only [go_sem, ↓reduceIte, Nat.reduceEqDiff, reduceCtorEq, Nat.reduceAdd, Nat.reduceMul, Nat.reduceSub, Nat.reduceLT, Nat.reduceLeDiff, Int.reduceEq, Int.reduceLT, Int.reduceLE, Int.reduceNeg, Int.reduceAdd, Int.reduceSub, Int.reduceMul, Int.reduceToNat, ca_14, ca_15, ca_16, ca_17, es_24, es_28, fo_26_3, fo_26_4, fo_53_0, fo_53_1, ld_22, ld_23, ld_24, ld_26, ld_44, ld_51, ld_53, pl_26, pl_53, se_23, se_24, sl_24, sl_28, sz_23, sz_24, sz_26, sz_44, sz_53, z_26, z_44, z_53, h15])
      refine ⟨⟨j + 1, .slice va (css.length + 1) vc, by omega, rfl, h14, h13, h0, h1, h5, h6, h7, ?_, ?_, ?_⟩, ?_⟩
      · simp (disch := (first | omega | (simp only [World.size_alloc, size_wr, size_drew]; done) | (simp only [World.size_alloc, size_wr, size_drew]; omega) | exact not_noB _)) only [go_sem, ↓reduceIte, Nat.reduceEqDiff, reduceCtorEq, Nat.reduceAdd, Nat.reduceMul, Nat.reduceSub, Nat.reduceLT, Nat.reduceLeDiff, Int.reduceEq, Int.reduceLT, Int.reduceLE, Int.reduceNeg, Int.reduceAdd, Int.reduceSub, Int.reduceMul, Int.reduceToNat, hbt10]
      · rw [hcat]; exact hg10.upd ((Upd.refl _ _).wr _ _ (.inr rfl)) htb
      · refine Upd.wr ?_ _ _ (.inr rfl)
        exact hU6.more (((hE68.trans hE9).mono fun _ h => h.elim).trans hu) fun b hb h => by have := hg.above h; omega
      · simp only [RowKit.intOf]; omega
    · have hjl : j = fs.length := by omega
      subst hjl
      repeat ((first | refine W.seqR rfl ?_ | refine W.seq ?_ | refine W.regR rfl ?_ | refine W.condK ?_ | refine W.block ?_ | refine W.skip ?_ | refine W.ret ?_ | refine W.exit ?_); try simp (disch := (first | omega | (simp only [World.size_alloc, size_wr, size_drew]; done) | (simp only [World.size_alloc, size_wr, size_drew]; omega) | exact not_noB _)) only [go_sem, ↓reduceIte, Nat.reduceEqDiff, reduceCtorEq, Nat.reduceAdd, Nat.reduceMul, Nat.reduceSub, Nat.reduceLT, Nat.reduceLeDiff, Int.reduceEq, Int.reduceLT, Int.reduceLE, Int.reduceNeg, Int.reduceAdd, Int.reduceSub, Int.reduceMul, Int.reduceToNat, ca_14, ca_15, ca_16, ca_17, es_24, es_28, fo_26_3, fo_26_4, fo_53_0, fo_53_1, ld_22, ld_23, ld_24, ld_26, ld_44, ld_51, ld_53, pl_26, pl_53, se_23, se_24, sl_24, sl_28, sz_23, sz_24, sz_26, sz_44, sz_53, z_26, z_44, z_53, h15, h14])
      exact ⟨v, h0, h5, h6, h7, hbt, hg, hU6⟩
  · rintro ρ w5 ⟨vl, h0, h5, h6, h7, hbt, hg, hU5⟩
    have hz5 := hU5.size
    have hE05 : Ext w w5 := hE.more hU5 fun b hb h => by omega
    have hb05 := hU5.blk_some hb0 (by omega)
    have hb15 := hU5.blk_some hb1 (by omega)
    obtain ⟨al, cl, hvl, hcl⟩ := hg.shape
    subst hvl
    have hTL : TreesV (fun b => (fun b => okN ok w.heap.size b ∧ b ≠ w.heap.size + 1 ∧ b ≠ w.heap.size + 2) b ∧ b < w5.heap.size) w5 (.slice al (fitL ft fs ver t fs.length).length cl) (fitL ft fs ver t fs.length) :=
      (hg.trees (ok' := (fun b => okN ok w.heap.size b ∧ b ≠ w.heap.size + 1 ∧ b ≠ w.heap.size + 2)) (fun _ _ h => h) (fun b hb => ⟨.inr (by omega), by omega, by omega⟩)).weaken fun b h1 h2 => ⟨h2, h1⟩
    generalize fitL ft fs ver t fs.length = XL at *
    simp (disch := (first | omega | (simp only [World.size_alloc, size_wr, size_drew]; done) | (simp only [World.size_alloc, size_wr, size_drew]; omega) | exact not_noB _)) only [go_sem, ↓reduceIte, Nat.reduceEqDiff, reduceCtorEq, Nat.reduceAdd, Nat.reduceMul, Nat.reduceSub, Nat.reduceLT, Nat.reduceLeDiff, Int.reduceEq, Int.reduceLT, Int.reduceLE, Int.reduceNeg, Int.reduceAdd, Int.reduceSub, Int.reduceMul, Int.reduceToNat]
    repeat ((first | refine W.seqR rfl ?_ | refine W.seq ?_ | refine W.regR rfl ?_ | refine W.condK ?_ | refine W.block ?_ | refine W.skip ?_ | refine W.ret ?_ | refine W.exit ?_); try simp (disch := (first | omega | (simp only [World.size_alloc, size_wr, size_drew]; done) | (simp only [World.size_alloc, size_wr, size_drew]; omega) | exact not_noB _)) only [go_sem, ↓reduceIte, Nat.reduceEqDiff, reduceCtorEq, Nat.reduceAdd, Nat.reduceMul, Nat.reduceSub, Nat.reduceLT, Nat.reduceLeDiff, Int.reduceEq, Int.reduceLT, Int.reduceLE, Int.reduceNeg, Int.reduceAdd, Int.reduceSub, Int.reduceMul, Int.reduceToNat, ca_14, ca_15, ca_16, ca_17, es_24, es_28, fo_26_3, fo_26_4, fo_53_0, fo_53_1, ld_22, ld_23, ld_24, ld_26, ld_44, ld_51, ld_53, pl_26, pl_53, se_23, se_24, sl_24, sl_28, sz_23, sz_24, sz_26, sz_44, sz_53, z_26, z_44, z_53, h0, h5, hb05])
    refine (unknown_fn (ok := fun b => ok b ∧ b < w.heap.size) fs _ t.u vU w5 ((hf.weaken fun b h1 h2 => ⟨h2, h1⟩).keep (hE05.keeps _)) hfl htag ((hU.weaken fun b h1 h2 => ⟨h2, h1⟩).keep (hE05.keeps _))).mono ?_
    rintro vu w7 ⟨⟨cssU, hownU, hallU⟩, hE57⟩
    obtain ⟨au, cu, rfl, hcu⟩ := hownU.shape
    have hcl := hallU.1
    have hul := unknownS_len fs t.u
    have hE07 : Ext w w7 := hE05.trans hE57
    have hbt7 := hE57.blk_some hbt id
    have hb17 := hE57.blk_some hb15 id
    have hz7 := hE57.size
    rw [← hcl] at hownU hcu
    rw [← hcl]
    simp (disch := (first | omega | (simp only [World.size_alloc, size_wr, size_drew]; done) | (simp only [World.size_alloc, size_wr, size_drew]; omega) | exact not_noB _)) only [go_sem, ↓reduceIte, Nat.reduceEqDiff, reduceCtorEq, Nat.reduceAdd, Nat.reduceMul, Nat.reduceSub, Nat.reduceLT, Nat.reduceLeDiff, Int.reduceEq, Int.reduceLT, Int.reduceLE, Int.reduceNeg, Int.reduceAdd, Int.reduceSub, Int.reduceMul, Int.reduceToNat, ca_14, ca_15, ca_16, ca_17, es_24, es_28, fo_26_3, fo_26_4, fo_53_0, fo_53_1, ld_22, ld_23, ld_24, ld_26, ld_44, ld_51, ld_53, pl_26, pl_53, se_23, se_24, sl_24, sl_28, sz_23, sz_24, sz_26, sz_44, sz_53, z_26, z_44, z_53]
    repeat ((first | refine W.seqR rfl ?_ | refine W.seq ?_ | refine W.regR rfl ?_ | refine W.condK ?_ | refine W.block ?_ | refine W.skip ?_ | refine W.ret ?_ | refine W.exit ?_); try simp (disch := (first | omega | (simp only [World.size_alloc, size_wr, size_drew]; done) | (simp only [World.size_alloc, size_wr, size_drew]; omega) | exact not_noB _)) only [go_sem, ↓reduceIte, Nat.reduceEqDiff, reduceCtorEq, Nat.reduceAdd, Nat.reduceMul, Nat.reduceSub, Nat.reduceLT, Nat.reduceLeDiff, Int.reduceEq, Int.reduceLT, Int.reduceLE, Int.reduceNeg, Int.reduceAdd, Int.reduceSub, Int.reduceMul, Int.reduceToNat, ca_14, ca_15, ca_16, ca_17, es_24, es_28, fo_26_3, fo_26_4, fo_53_0, fo_53_1, ld_22, ld_23, ld_24, ld_26, ld_44, ld_51, ld_53, pl_26, pl_53, se_23, se_24, sl_24, sl_28, sz_23, sz_24, sz_26, sz_44, sz_53, z_26, z_44, z_53])
    have hres : fitU fs t.u = (unknownS fs t.u).map fun u => (u.1, wholeS u.2) := rfl
    rw [hres]
    generalize unknownS fs t.u = U at *
    have hTL7 := hTL.keep (hE57.keeps _)
    refine W.loop (fun ρ w' => ∃ (j : Nat) (v : Value), j ≤ U.length ∧ ρ 37 = .int .i64 j ∧ ρ 36 = .int .i64 U.length ∧ ρ 35 = .slice au U.length cu ∧ ρ 6 = .pointer (some ⟨w.heap.size + 1, 0, none⟩) ∧ ρ 7 = .pointer (some ⟨w.heap.size + 2, 0, none⟩) ∧
        blk w' (w.heap.size + 2) = some (#[.int .i64 0, .slice none 0 0, .bool false, .slice al XL.length cl, v], 26, (0, 0)) ∧ GrowU (fun b => okN ok w.heap.size b ∧ b ≠ w.heap.size + 1 ∧ b ≠ w.heap.size + 2) w7.heap.size (w.heap.size + 2) w' 53 v ((U.take j).map fun u => (u.1, wholeS u.2)) ∧ Upd (fun b => b = w.heap.size + 2) w7 w')
      (fun ρ _ => U.length - (RowKit.intOf (ρ 37)).toNat) ?_ ?_
    · refine ⟨0, _, Nat.zero_le _, ?_, ?_, ?_, ?_, ?_, hbt7, GrowU.nil _ _ _ _ _, Upd.refl _ _⟩ <;> simp (disch := (first | omega | (simp only [World.size_alloc, size_wr, size_drew]; done) | (simp only [World.size_alloc, size_wr, size_drew]; omega) | exact not_noB _)) only [go_sem, ↓reduceIte, Nat.reduceEqDiff, reduceCtorEq, Nat.reduceAdd, Nat.reduceMul, Nat.reduceSub, Nat.reduceLT, Nat.reduceLeDiff, Int.reduceEq, Int.reduceLT, Int.reduceLE, Int.reduceNeg, Int.reduceAdd, Int.reduceSub, Int.reduceMul, Int.reduceToNat, h6, h7]
      all_goals rfl
    · clear h0 h5 h6 h7 hg hbt
      rintro ρ w6 ⟨j, v, hj, h37, h36, h35, h6, h7, hbt, hg, hU6⟩
      have hz6 := hU6.size
      by_cases hlt : j < U.length
      · have hown6 := hownU.upd hU6 (fun b hb e => by have := Own.above hownU.1 hb; omega)
        obtain ⟨g, cap, x, hv, hcap, hBg, hgl, hgb, hg1, hg2, hg3⟩ := hown6.view (by omega)
        rw [← hcl] at hv
        cases hv
        obtain ⟨vv, hcs, hbv, h32⟩ := hallU.2 j hlt (by omega)
        have hx2 := hg2 j (by omega)
        have hx3 := hg1 j (by omega)
        rw [hcs] at hx2
        have hfv := hbv.flat
        have hcat : ((U.take (j + 1)).map fun u => (u.1, wholeS u.2)) = ((U.take j).map fun u => (u.1, wholeS u.2)) ++ [(U[j].1, wholeS U[j].2)] := by
          rw [List.take_succ_eq_append_getElem hlt]
          simp only [List.map_append, List.map_cons, List.map_nil]
        have hlen9 : ((U.take j).map fun u => (u.1, wholeS u.2)).length = j := by simp; omega
        have hnb : ∀ b, b < w7.heap.size ∨ b = w6.heap.size → ¬ ownB v b := fun b hb h => by
          have := hg.above h
          have := hg.below h
          omega
        have hK6 : Keeps (fun b => ok b ∧ b < w.heap.size) w5 w6 := fun b hb hk => by
          rw [hU6.keep b (by omega) (by omega), hE57.keep b hb id]
        generalize U[j].1 = K at *
        generalize U[j].2 = S at *
        have hE8 : Ext w6 (wr (w6.alloc (.cells #[.int .u32 0, .slice none 0 0] 53)) w6.heap.size 0 [.int .u32 K, vv]) := (Upd.alloc (Upd.refl _ _) _).wr _ _ (.inl (Nat.le_refl _))
        have hb8 : blk (wr (w6.alloc (.cells #[.int .u32 0, .slice none 0 0] 53)) w6.heap.size 0 [.int .u32 K, vv]) w6.heap.size = some (#[.int .u32 K, vv], 53, (0, 0)) := by simp (disch := (first | omega | (simp only [World.size_alloc, size_wr, size_drew]; done) | (simp only [World.size_alloc, size_wr, size_drew]; omega) | exact not_noB _)) only [go_sem, ↓reduceIte, Nat.reduceEqDiff, reduceCtorEq, Nat.reduceAdd, Nat.reduceMul, Nat.reduceSub, Nat.reduceLT, Nat.reduceLeDiff, Int.reduceEq, Int.reduceLT, Int.reduceLE, Int.reduceNeg, Int.reduceAdd, Int.reduceSub, Int.reduceMul, Int.reduceToNat]
        have hz8 : (wr (w6.alloc (.cells #[.int .u32 0, .slice none 0 0] 53)) w6.heap.size 0 [.int .u32 K, vv]).heap.size = w6.heap.size + 1 := by simp only [size_wr, World.size_alloc]
        repeat ((first | refine W.seqR rfl ?_ | refine W.seq ?_ | refine W.regR rfl ?_ | refine W.condK ?_ | refine W.block ?_ | refine W.skip ?_ | refine W.ret ?_ | refine W.exit ?_); try simp (disch := (first | omega | (simp only [World.size_alloc, size_wr, size_drew]; done) | (simp only [World.size_alloc, size_wr, size_drew]; omega) | exact not_noB _)) only [go_sem, ↓reduceIte, Nat.reduceEqDiff, reduceCtorEq, Nat.reduceAdd, Nat.reduceMul, Nat.reduceSub, Nat.reduceLT, Nat.reduceLeDiff, Int.reduceEq, Int.reduceLT, Int.reduceLE, Int.reduceNeg, Int.reduceAdd, Int.reduceSub, Int.reduceMul, Int.reduceToNat, ca_14, ca_15, ca_16, ca_17, es_24, es_28, fo_26_3, fo_26_4, fo_53_0, fo_53_1, ld_22, ld_23, ld_24, ld_26, ld_44, ld_51, ld_53, pl_26, pl_53, se_23, se_24, sl_24, sl_28, sz_23, sz_24, sz_26, sz_44, sz_53, z_26, z_44, z_53, h37, h36, h35, hgb, hx2, hx3.1, hfv, cellsAt_two, Int.toNat_natCast])
        generalize (wr (w6.alloc (.cells #[.int .u32 0, .slice none 0 0] 53)) w6.heap.size 0 [.int .u32 K, vv]) = w8' at *
        have hbt8 := hE8.blk_some hbt id
        refine W.drawR (.take 0 (.take 1 (.take 2 (.take 3 (.take 4 (.take 5 (.only 6 (.only 7 (.only 8 (.only 9 (.take 10 (.last 11)))))))))))) (ownB v) mixed (by kernel_rfl) ?_
        simp (disch := (first | omega | (simp only [World.size_alloc, size_wr, size_drew]; done) | (simp only [World.size_alloc, size_wr, size_drew]; omega) | exact not_noB _ | (refine hnb _ ?_; omega) | (refine hnb _ ?_; simp only [World.size_alloc, size_wr, size_drew]; done) | (refine hnb _ ?_; simp only [World.size_alloc, size_wr, size_drew]; omega))) only [go_sem, ↓reduceIte, Nat.reduceEqDiff, reduceCtorEq, Nat.reduceAdd, Nat.reduceMul, Nat.reduceSub, Nat.reduceLT, Nat.reduceLeDiff, Int.reduceEq, Int.reduceLT, Int.reduceLE, Int.reduceNeg, Int.reduceAdd, Int.reduceSub, Int.reduceMul, Int.reduceToNat, ca_14, ca_15, ca_16, ca_17, es_24, es_28, fo_26_3, fo_26_4, fo_53_0, fo_53_1, ld_22, ld_23, ld_24, ld_26, ld_44, ld_51, ld_53, pl_26, pl_53, se_23, se_24, sl_24, sl_28, sz_23, sz_24, sz_26, sz_44, sz_53, z_26, z_44, z_53, h7, hbt8, hb8, hfv]
        have hE8d : Ext w8' w8'.drew := (Upd.refl _ _).drew
        have hE68 : Ext w6 w8'.drew := hE8.trans hE8d
        have hzd : w8'.drew.heap.size = w8'.heap.size := size_drew _
        refine (whole_fn (ok := fun b => ok b ∧ b < w.heap.size) S vv w8'.drew ((hbv.keep hK6).keep (hE68.keeps _))).mono ?_
        rintro vv8 w8 ⟨hbv8, hw8⟩
        subst hw8
        obtain ⟨b8', c8', rfl, _⟩ := hbv8.shape
        have hg8 := hg.ext hE68
        have hMd : Upd (ownB v) w8'.drew (w8'.drew.alloc (.cells #[.int .u32 K, .slice b8' (wholeS S).length c8'] 53)) := (Upd.refl _ _).alloc _
        refine ⟨Upd.refl _ _, ?_⟩
        simp (disch := (first | omega | (simp only [World.size_alloc, size_wr, size_drew]; done) | (simp only [World.size_alloc, size_wr, size_drew]; omega) | exact not_noB _)) only [go_sem, ↓reduceIte, Nat.reduceEqDiff, reduceCtorEq, Nat.reduceAdd, Nat.reduceMul, Nat.reduceSub, Nat.reduceLT, Nat.reduceLeDiff, Int.reduceEq, Int.reduceLT, Int.reduceLE, Int.reduceNeg, Int.reduceAdd, Int.reduceSub, Int.reduceMul, Int.reduceToNat, ca_14, ca_15, ca_16, ca_17, es_24, es_28, fo_26_3, fo_26_4, fo_53_0, fo_53_1, ld_22, ld_23, ld_24, ld_26, ld_44, ld_51, ld_53, pl_26, pl_53, se_23, se_24, sl_24, sl_28, sz_23, sz_24, sz_26, sz_44, sz_53, z_26, z_44, z_53]
        refine ⟨Upd.refl _ _, hMd, ?_⟩
        have hx9 : TagC (fun b => (fun b => okN ok w.heap.size b ∧ b ≠ w.heap.size + 1 ∧ b ≠ w.heap.size + 2) b ∧ b ≠ w.heap.size + 2 ∧ ¬ ownB v b) (w8'.drew.alloc (.cells #[.int .u32 K, (.slice b8' (wholeS S).length c8')] 53)) (K, wholeS S) [.int .u32 K, (.slice b8' (wholeS S).length c8')] :=
          ⟨(.slice b8' (wholeS S).length c8'), rfl, (hbv8.keep (Ext.keeps (Upd.alloc (Upd.refl _ _) _) _)).weaken fun b _ hk => ⟨⟨.inl hk.1, by omega, by omega⟩, by omega, fun h => by have := hg.above h; omega⟩, h32⟩
        have hg9 := hg8.ext (Upd.alloc (Upd.refl _ _) (.cells #[.int .u32 K, (.slice b8' (wholeS S).length c8')] 53))
        obtain ⟨css9, hown9, hall9⟩ := hg9.ex
        have hcl9 := hall9.1
        refine wp_append ap_24_24 (m := 1) (news := [.int .u32 K, (.slice b8' (wholeS S).length c8')]) (n := css9.length) (cs := css9.flatten) (v := v) ?_ rfl hown9.1 hall9.flat_cells (Src.blk (fr := (0, 0)) (T := 53) (blk_alloc_new (by first | rfl | omega)) rfl (flat_tag hx9).1) ?_ ?_ ?_
        · simp (disch := (first | omega | (simp only [World.size_alloc, size_wr, size_drew]; done) | (simp only [World.size_alloc, size_wr, size_drew]; omega) | exact not_noB _)) only [go_sem, ↓reduceIte, Nat.reduceEqDiff, reduceCtorEq, Nat.reduceAdd, Nat.reduceMul, Nat.reduceSub, Nat.reduceLT, Nat.reduceLeDiff, Int.reduceEq, Int.reduceLT, Int.reduceLE, Int.reduceNeg, Int.reduceAdd, Int.reduceSub, Int.reduceMul, Int.reduceToNat]
        · simp only [World.size_alloc]; omega
        · omega
        intro v' w10 ho hu hfr
        have hg10 := GrowU.snoc hown9 hall9 hx9 hu hfr ho
        have hz10 := hu.size
        simp only [World.size_alloc] at hz10
        obtain ⟨va, vc, hv', _⟩ := ho.shape
        subst hv'
        have htb : ¬ ownB (.slice va (css9.length + 1) vc) (w.heap.size + 2) := fun h => by
          rcases hfr _ h with h | h
          · exact hnb _ (.inl (by omega)) h
          · simp only [World.size_alloc] at h; omega
        have hbt10 := (hMd.trans hu).blk_some (hE8d.blk_some hbt8 id) (hnb _ (by omega))
        simp (disch := (first | omega | (simp only [World.size_alloc, size_wr, size_drew]; done) | (simp only [World.size_alloc, size_wr, size_drew]; omega) | exact not_noB _)) only [go_sem, ↓reduceIte, Nat.reduceEqDiff, reduceCtorEq, Nat.reduceAdd, Nat.reduceMul, Nat.reduceSub, Nat.reduceLT, Nat.reduceLeDiff, Int.reduceEq, Int.reduceLT, Int.reduceLE, Int.reduceNeg, Int.reduceAdd, Int.reduceSub, Int.reduceMul, Int.reduceToNat, ca_14, ca_15, ca_16, ca_17, es_24, es_28, fo_26_3, fo_26_4, fo_53_0, fo_53_1, ld_22, ld_23, ld_24, ld_26, ld_44, ld_51, ld_53, pl_26, pl_53, se_23, se_24, sl_24, sl_28, sz_23, sz_24, sz_26, sz_44, sz_53, z_26, z_44, z_53]
        refine ⟨hMd.trans hu, ?_⟩
        simp (disch := (first | omega | (simp only [World.size_alloc, size_wr, size_drew]; done) | (simp only [World.size_alloc, size_wr, size_drew]; omega) | exact not_noB _)) only [go_sem, ↓reduceIte, Nat.reduceEqDiff, reduceCtorEq, Nat.reduceAdd, Nat.reduceMul, Nat.reduceSub, Nat.reduceLT, Nat.reduceLeDiff, Int.reduceEq, Int.reduceLT, Int.reduceLE, Int.reduceNeg, Int.reduceAdd, Int.reduceSub, Int.reduceMul, Int.reduceToNat, ca_14, ca_15, ca_16, ca_17, es_24, es_28, fo_26_3, fo_26_4, fo_53_0, fo_53_1, ld_22, ld_23, ld_24, ld_26, ld_44, ld_51, ld_53, pl_26, pl_53, se_23, se_24, sl_24, sl_28, sz_23, sz_24, sz_26, sz_44, sz_53, z_26, z_44, z_53, h7, hbt10]
        repeat ((first | refine W.seqR rfl ?_ | refine W.seq ?_ | refine W.regR rfl ?_ | refine W.condK ?_ | refine W.block ?_ | refine W.skip ?_ | refine W.ret ?_ | refine W.exit ?_); try simp (disch := (first | omega | (simp only [World.size_alloc, size_wr, size_drew]; done) | (simp only [World.size_alloc, size_wr, size_drew]; omega) | exact not_noB _)) only [go_sem, ↓reduceIte, Nat.reduceEqDiff, reduceCtorEq, Nat.reduceAdd, Nat.reduceMul, Nat.reduceSub, Nat.reduceLT, Nat.reduceLeDiff, Int.reduceEq, Int.reduceLT, Int.reduceLE, Int.reduceNeg, Int.reduceAdd, Int.reduceSub, Int.reduceMul, Int.reduceToNat, ca_14, ca_15, ca_16, ca_17, es_24, es_28, fo_26_3, fo_26_4, fo_53_0, fo_53_1, ld_22, ld_23, ld_24, ld_26, ld_44, ld_51, ld_53, pl_26, pl_53, se_23, se_24, sl_24, sl_28, sz_23, sz_24, sz_26, sz_44, sz_53, z_26, z_44, z_53, h37])
        refine ⟨⟨j + 1, .slice va (css9.length + 1) vc, by omega, rfl, h36, h35, h6, h7, ?_, ?_, ?_⟩, ?_⟩
        · simp (disch := (first | omega | (simp only [World.size_alloc, size_wr, size_drew]; done) | (simp only [World.size_alloc, size_wr, size_drew]; omega) | exact not_noB _)) only [go_sem, ↓reduceIte, Nat.reduceEqDiff, reduceCtorEq, Nat.reduceAdd, Nat.reduceMul, Nat.reduceSub, Nat.reduceLT, Nat.reduceLeDiff, Int.reduceEq, Int.reduceLT, Int.reduceLE, Int.reduceNeg, Int.reduceAdd, Int.reduceSub, Int.reduceMul, Int.reduceToNat, hbt10]
        · rw [hcat]; exact hg10.upd ((Upd.refl _ _).wr _ _ (.inr rfl)) htb
        · refine Upd.wr ?_ _ _ (.inr rfl)
          exact hU6.more (((hE68.mono fun _ h => h.elim).trans hMd).trans hu) fun b hb h => by have := hg.above h; omega
        · simp only [RowKit.intOf]; omega
      · have hjl : j = U.length := by omega
        subst hjl
        rw [List.take_length] at hg
        obtain ⟨va, vc, hv', _⟩ := hg.shape
        subst hv'
        have hb16 := hU6.blk_some hb17 (by omega)
        repeat ((first | refine W.seqR rfl ?_ | refine W.seq ?_ | refine W.regR rfl ?_ | refine W.condK ?_ | refine W.block ?_ | refine W.skip ?_ | refine W.ret ?_ | refine W.exit ?_); try simp (disch := (first | omega | (simp only [World.size_alloc, size_wr, size_drew]; done) | (simp only [World.size_alloc, size_wr, size_drew]; omega) | exact not_noB _)) only [go_sem, ↓reduceIte, Nat.reduceEqDiff, reduceCtorEq, Nat.reduceAdd, Nat.reduceMul, Nat.reduceSub, Nat.reduceLT, Nat.reduceLeDiff, Int.reduceEq, Int.reduceLT, Int.reduceLE, Int.reduceNeg, Int.reduceAdd, Int.reduceSub, Int.reduceMul, Int.reduceToNat, ca_14, ca_15, ca_16, ca_17, es_24, es_28, fo_26_3, fo_26_4, fo_53_0, fo_53_1, ld_22, ld_23, ld_24, ld_26, ld_44, ld_51, ld_53, pl_26, pl_53, se_23, se_24, sl_24, sl_28, sz_23, sz_24, sz_26, sz_44, sz_53, z_26, z_44, z_53, h37, h36, h6, h7, hbt, hb16, cellsAt_five])
        have hE06 : Ext w w6 := hE07.more hU6 fun b hb h => by omega
        refine ⟨⟨_, rfl, ?_⟩, hE06.wr _ _ (.inl (by omega))⟩
        have hTL6 := hTL7.keep (hU6.keeps fun b _ hk e => by omega)
        have hTU6 := hg.tags (ok' := (fun b => okN ok w.heap.size b ∧ b ≠ w.heap.size + 1 ∧ b ≠ w.heap.size + 2)) (fun _ _ h => h) (fun b hb => ⟨.inr (by omega), by omega, by omega⟩)
        have hU9 : Upd (fun b => b = w.heap.size + 1) w6 (wr w6 (w.heap.size + 1) 0 [.int .i64 0, .slice none 0 0, .bool false, .slice al XL.length cl, .slice va (U.map fun u => (u.1, wholeS u.2)).length vc]) := (Upd.refl _ _).wr _ _ (.inr rfl)
        exact TreeC.intro rfl (bytes_nil _ _) ((hTL6.keep (hU9.keeps fun b _ hk e => hk.1.2.1 e)).weaken fun b _ hk => hk.1.1) ((hTU6.keep (hU9.keeps fun b _ hk e => hk.2.1 e)).weaken fun b _ hk => hk.1)

theorem fit_ok : ∀ d, FitOk d (fitS (d + 1)) := by
  intro d
  have key : ∀ (ft : List Fld → Int → Tree → Tree) (d : Nat) (hfit : ∀ (fs : List Fld), okF d fs = true → ∀ f ∈ fs, ∀ (ver : Int) (ok : Blocks) (x : Tree) (cf cx : List Value) (w' : World), FldC ok w' f cf → TreeC ok w' x cx → Small 4611686018427387903 x →
      Fn Try.prog 14 #[.agg cf.toArray, .int .i64 ver, .agg cx.toArray] w' fun r w'' => TreeR ok w' w'' r (fittedS ft f ver x) ∧ Ext w' w''), FitOk d fun fs v t => .mk 0 [] false (fs.zipIdx.map fun (f, i) => fittedS ft f v (t.at i)) (fitU fs t.u) := by
    intro ft d hfit ok fs ver t vs ct w h1 h2 h3 h4
    have := Fit_fn (d := d) (ft := ft) fs ok ver t vs ct w h1 (okF_len h2) (okF_tag h2) h3 h4 (fun f hf ok x cf cx w' g1 g2 g3 => hfit fs h2 f hf ver ok x cf cx w' g1 g2 g3)
    have e : fitL ft fs ver t fs.length = fs.zipIdx.map fun (f, i) => fittedS ft f ver (t.at i) := by
      rw [fitL, List.take_length]
    rw [e] at this
    exact this
  induction d with
  | zero =>
    refine key (fitS 0) 0 ?_
    intro fs h f hf
    have hnil : fs = [] := by simpa [okF] using h
    subst hnil
    simp at hf
  | succ d ih =>
    refine key (fitS (d + 1)) (d + 1) ?_
    intro fs h f hf ver ok x cf cx w' g1 g2 g3
    obtain ⟨e, he, hB, hok⟩ := okF_el h hf
    cases he
    exact fitted_fn ih f ver x cf cx w' g1 hok hB g2 g3

theorem given_step (t : Tree) (hl2 : t.l.length ≤ 32767) (hl3 : t.u.length ≤ 32767)
    (hrec : ∀ i (h : i < t.l.length), ∀ (ok : Blocks) (ct : List Value) (w : World), TreeC ok w t.l[i] ct → Fn Try.prog 8 #[.agg ct.toArray] w fun r w' => TreeR ok w w' r t.l[i] ∧ Ext w w')
    (ok : Blocks) (ct : List Value) (w : World) (ht : TreeC ok w t ct) :
    Fn Try.prog 8 #[.agg ct.toArray] w fun r w' => TreeR ok w w' r t ∧ Ext w w' := by
  obtain ⟨vS, vL, vU, rfl, hn, hS, hL, hU⟩ := ht.inv
  obtain ⟨bS, cS, rfl, hcS⟩ := hS.shape
  obtain ⟨bl, cl, rfl, hcl⟩ := SlR.shape hL
  obtain ⟨bu, cu, rfl, hcu⟩ := SlR.shape hU
  have hE : Ext w (wr (((w.alloc (.cells #[.int .i64 t.n, .slice bS t.s.length cS, .bool t.null, .slice bl t.l.length cl, .slice bu t.u.length cu] 26)).alloc (.cells #[.int .i64 0, .slice none 0 0, .bool false, .slice none 0 0, .slice none 0 0] 37)).alloc (.cells #[.int .i64 0, .slice none 0 0, .bool false, .slice none 0 0, .slice none 0 0] 37)) (w.heap.size + 2) 0 [.int .i64 t.n, .slice bS t.s.length cS, .bool t.null, .slice none 0 0, .slice none 0 0]) := (((Upd.refl _ _).alloc _).alloc _).alloc _ |>.wr _ _ (.inl (by omega))
  refine fn_of_W Try.func8 rfl Try.results8 Try.ntmps8 rfl ?_
  repeat ((first | refine W.seqR rfl ?_ | refine W.seq ?_ | refine W.regR rfl ?_ | refine W.condK ?_ | refine W.block ?_ | refine W.skip ?_ | refine W.ret ?_ | refine W.exit ?_); try simp (disch := (first | omega | (simp only [World.size_alloc, size_wr, size_drew]; done) | (simp only [World.size_alloc, size_wr, size_drew]; omega) | exact not_noB _)) only [go_sem, ↓reduceIte, Nat.reduceEqDiff, reduceCtorEq, Nat.reduceAdd, Nat.reduceMul, Nat.reduceSub, Nat.reduceLT, Nat.reduceLeDiff, Int.reduceEq, Int.reduceLT, Int.reduceLE, Int.reduceNeg, Int.reduceAdd, Int.reduceSub, Int.reduceMul, Int.reduceToNat, ca_8, es_23, es_24, fo_26_0, fo_26_1, fo_26_2, fo_26_3, fo_26_4, fo_37_3, fo_37_4, fo_53_0, fo_53_1, ld_2, ld_22, ld_23, ld_24, ld_26, ld_34, ld_35, ld_37, ld_4, ld_51, ld_53, pl_37, pl_54, se_34, se_35, sl_23, sl_24, sz_26, sz_34, sz_35, sz_37, sz_53, z_26, z_37, z_53, z_54])
  have hb0 : blk (wr (((w.alloc (.cells #[.int .i64 t.n, .slice bS t.s.length cS, .bool t.null, .slice bl t.l.length cl, .slice bu t.u.length cu] 26)).alloc (.cells #[.int .i64 0, .slice none 0 0, .bool false, .slice none 0 0, .slice none 0 0] 37)).alloc (.cells #[.int .i64 0, .slice none 0 0, .bool false, .slice none 0 0, .slice none 0 0] 37)) (w.heap.size + 2) 0 [.int .i64 t.n, .slice bS t.s.length cS, .bool t.null, .slice none 0 0, .slice none 0 0]) w.heap.size = some (#[.int .i64 t.n, .slice bS t.s.length cS, .bool t.null, .slice bl t.l.length cl, .slice bu t.u.length cu], 26, (0, 0)) := by simp (disch := (first | omega | (simp only [World.size_alloc, size_wr, size_drew]; done) | (simp only [World.size_alloc, size_wr, size_drew]; omega) | exact not_noB _)) only [go_sem, ↓reduceIte, Nat.reduceEqDiff, reduceCtorEq, Nat.reduceAdd, Nat.reduceMul, Nat.reduceSub, Nat.reduceLT, Nat.reduceLeDiff, Int.reduceEq, Int.reduceLT, Int.reduceLE, Int.reduceNeg, Int.reduceAdd, Int.reduceSub, Int.reduceMul, Int.reduceToNat]
  have hb1 : blk (wr (((w.alloc (.cells #[.int .i64 t.n, .slice bS t.s.length cS, .bool t.null, .slice bl t.l.length cl, .slice bu t.u.length cu] 26)).alloc (.cells #[.int .i64 0, .slice none 0 0, .bool false, .slice none 0 0, .slice none 0 0] 37)).alloc (.cells #[.int .i64 0, .slice none 0 0, .bool false, .slice none 0 0, .slice none 0 0] 37)) (w.heap.size + 2) 0 [.int .i64 t.n, .slice bS t.s.length cS, .bool t.null, .slice none 0 0, .slice none 0 0]) (w.heap.size + 1) = some (#[.int .i64 0, .slice none 0 0, .bool false, .slice none 0 0, .slice none 0 0], 37, (0, 0)) := by simp (disch := (first | omega | (simp only [World.size_alloc, size_wr, size_drew]; done) | (simp only [World.size_alloc, size_wr, size_drew]; omega) | exact not_noB _)) only [go_sem, ↓reduceIte, Nat.reduceEqDiff, reduceCtorEq, Nat.reduceAdd, Nat.reduceMul, Nat.reduceSub, Nat.reduceLT, Nat.reduceLeDiff, Int.reduceEq, Int.reduceLT, Int.reduceLE, Int.reduceNeg, Int.reduceAdd, Int.reduceSub, Int.reduceMul, Int.reduceToNat]
  have hb2 : blk (wr (((w.alloc (.cells #[.int .i64 t.n, .slice bS t.s.length cS, .bool t.null, .slice bl t.l.length cl, .slice bu t.u.length cu] 26)).alloc (.cells #[.int .i64 0, .slice none 0 0, .bool false, .slice none 0 0, .slice none 0 0] 37)).alloc (.cells #[.int .i64 0, .slice none 0 0, .bool false, .slice none 0 0, .slice none 0 0] 37)) (w.heap.size + 2) 0 [.int .i64 t.n, .slice bS t.s.length cS, .bool t.null, .slice none 0 0, .slice none 0 0]) (w.heap.size + 2) = some (#[.int .i64 t.n, .slice bS t.s.length cS, .bool t.null, .slice none 0 0, .slice none 0 0], 37, (0, 0)) := by simp (disch := (first | omega | (simp only [World.size_alloc, size_wr, size_drew]; done) | (simp only [World.size_alloc, size_wr, size_drew]; omega) | exact not_noB _)) only [go_sem, ↓reduceIte, Nat.reduceEqDiff, reduceCtorEq, Nat.reduceAdd, Nat.reduceMul, Nat.reduceSub, Nat.reduceLT, Nat.reduceLeDiff, Int.reduceEq, Int.reduceLT, Int.reduceLE, Int.reduceNeg, Int.reduceAdd, Int.reduceSub, Int.reduceMul, Int.reduceToNat]
  have hz2 : (wr (((w.alloc (.cells #[.int .i64 t.n, .slice bS t.s.length cS, .bool t.null, .slice bl t.l.length cl, .slice bu t.u.length cu] 26)).alloc (.cells #[.int .i64 0, .slice none 0 0, .bool false, .slice none 0 0, .slice none 0 0] 37)).alloc (.cells #[.int .i64 0, .slice none 0 0, .bool false, .slice none 0 0, .slice none 0 0] 37)) (w.heap.size + 2) 0 [.int .i64 t.n, .slice bS t.s.length cS, .bool t.null, .slice none 0 0, .slice none 0 0]).heap.size = w.heap.size + 3 := by simp only [size_wr, World.size_alloc]
  generalize (wr (((w.alloc (.cells #[.int .i64 t.n, .slice bS t.s.length cS, .bool t.null, .slice bl t.l.length cl, .slice bu t.u.length cu] 26)).alloc (.cells #[.int .i64 0, .slice none 0 0, .bool false, .slice none 0 0, .slice none 0 0] 37)).alloc (.cells #[.int .i64 0, .slice none 0 0, .bool false, .slice none 0 0, .slice none 0 0] 37)) (w.heap.size + 2) 0 [.int .i64 t.n, .slice bS t.s.length cS, .bool t.null, .slice none 0 0, .slice none 0 0]) = w2 at *
  refine W.exitJ 0 (fun ρ w' => ∃ v, ρ 1 = .pointer (some ⟨w.heap.size, 0, none⟩) ∧ ρ 2 = .pointer (some ⟨w.heap.size + 1, 0, none⟩) ∧ ρ 3 = .pointer (some ⟨w.heap.size + 2, 0, none⟩) ∧
      blk w' (w.heap.size + 2) = some (#[.int .i64 t.n, .slice bS t.s.length cS, .bool t.null, v, .slice none 0 0], 37, (0, 0)) ∧ GrowT (fun b => okN ok w.heap.size b ∧ b ≠ w.heap.size + 1 ∧ b ≠ w.heap.size + 2) w2.heap.size (w.heap.size + 2) w' 37 v t.l ∧ Upd (fun b => b = w.heap.size + 2) w2 w')
    (W.loop (fun ρ w' => ∃ (j : Nat) (v : Value), j ≤ t.l.length ∧ ρ 18 = .int .i64 j ∧ ρ 17 = .int .i64 t.l.length ∧ ρ 16 = .slice bl t.l.length cl ∧ ρ 1 = .pointer (some ⟨w.heap.size, 0, none⟩) ∧ ρ 2 = .pointer (some ⟨w.heap.size + 1, 0, none⟩) ∧ ρ 3 = .pointer (some ⟨w.heap.size + 2, 0, none⟩) ∧
      blk w' (w.heap.size + 2) = some (#[.int .i64 t.n, .slice bS t.s.length cS, .bool t.null, v, .slice none 0 0], 37, (0, 0)) ∧ GrowT (fun b => okN ok w.heap.size b ∧ b ≠ w.heap.size + 1 ∧ b ≠ w.heap.size + 2) w2.heap.size (w.heap.size + 2) w' 37 v (t.l.take j) ∧ Upd (fun b => b = w.heap.size + 2) w2 w')
    (fun ρ _ => t.l.length - (RowKit.intOf (ρ 18)).toNat) ?_ ?_) ?_
  · refine ⟨0, _, Nat.zero_le _, ?_, ?_, ?_, ?_, ?_, ?_, hb2, GrowT.nil _ _ _ _ _, Upd.refl _ _⟩ <;> simp (disch := (first | omega | (simp only [World.size_alloc, size_wr, size_drew]; done) | (simp only [World.size_alloc, size_wr, size_drew]; omega) | exact not_noB _)) only [go_sem, ↓reduceIte, Nat.reduceEqDiff, reduceCtorEq, Nat.reduceAdd, Nat.reduceMul, Nat.reduceSub, Nat.reduceLT, Nat.reduceLeDiff, Int.reduceEq, Int.reduceLT, Int.reduceLE, Int.reduceNeg, Int.reduceAdd, Int.reduceSub, Int.reduceMul, Int.reduceToNat]
    all_goals rfl
  · rintro ρ w6 ⟨j, v, hj, h18, h17, h16, h1, h2, h3, hbt, hg, hU6⟩
    have hz6 := hU6.size
    have hE06 : Ext w w6 := hE.more hU6 fun b hb h => by omega
    by_cases hlt : j < t.l.length
    · obtain ⟨_, b, o, x, vS', vL', vU', hb, hokb, hx, hblt, hxs, hxe, g1, g2, g3, hc⟩ := TreesV.get hL hlt
      subst hb
      have hx6 : blk w6 b = some x := hE06.blk_some hx id
      have hcat : t.l.take (j + 1) = t.l.take j ++ [t.l[j]] := List.take_succ_eq_append_getElem hlt
      have hlen9 : (t.l.take j).length = j := by simp; omega
      have hnb : ∀ b, b < w2.heap.size ∨ b = w6.heap.size → ¬ ownB v b := fun b hb h => by
        have := hg.above h
        have := hg.below h
        omega
      have hE7 : Ext w6 (wr (w6.alloc (.cells #[.int .i64 0, .slice none 0 0, .bool false, .slice none 0 0, .slice none 0 0] 26)) w6.heap.size 0 [.int .i64 t.l[j].n, vS', .bool t.l[j].null, vL', vU']) := (Upd.alloc (Upd.refl _ _) _).wr _ _ (.inl (Nat.le_refl _))
      have hb7 : blk (wr (w6.alloc (.cells #[.int .i64 0, .slice none 0 0, .bool false, .slice none 0 0, .slice none 0 0] 26)) w6.heap.size 0 [.int .i64 t.l[j].n, vS', .bool t.l[j].null, vL', vU']) w6.heap.size = some (#[.int .i64 t.l[j].n, vS', .bool t.l[j].null, vL', vU'], 26, (0, 0)) := by simp (disch := (first | omega | (simp only [World.size_alloc, size_wr, size_drew]; done) | (simp only [World.size_alloc, size_wr, size_drew]; omega) | exact not_noB _)) only [go_sem, ↓reduceIte, Nat.reduceEqDiff, reduceCtorEq, Nat.reduceAdd, Nat.reduceMul, Nat.reduceSub, Nat.reduceLT, Nat.reduceLeDiff, Int.reduceEq, Int.reduceLT, Int.reduceLE, Int.reduceNeg, Int.reduceAdd, Int.reduceSub, Int.reduceMul, Int.reduceToNat]
      have hz7 : (wr (w6.alloc (.cells #[.int .i64 0, .slice none 0 0, .bool false, .slice none 0 0, .slice none 0 0] 26)) w6.heap.size 0 [.int .i64 t.l[j].n, vS', .bool t.l[j].null, vL', vU']).heap.size = w6.heap.size + 1 := by simp only [size_wr, World.size_alloc]
      have hrecj := hrec j hlt (fun b => ok b ∧ b < w.heap.size) [.int .i64 t.l[j].n, vS', .bool t.l[j].null, vL', vU']
      repeat ((first | refine W.seqR rfl ?_ | refine W.seq ?_ | refine W.regR rfl ?_ | refine W.condK ?_ | refine W.block ?_ | refine W.skip ?_ | refine W.ret ?_ | refine W.exit ?_); try simp (disch := (first | omega | (simp only [World.size_alloc, size_wr, size_drew]; done) | (simp only [World.size_alloc, size_wr, size_drew]; omega) | exact not_noB _)) only [go_sem, ↓reduceIte, Nat.reduceEqDiff, reduceCtorEq, Nat.reduceAdd, Nat.reduceMul, Nat.reduceSub, Nat.reduceLT, Nat.reduceLeDiff, Int.reduceEq, Int.reduceLT, Int.reduceLE, Int.reduceNeg, Int.reduceAdd, Int.reduceSub, Int.reduceMul, Int.reduceToNat, ca_8, es_23, es_24, fo_26_0, fo_26_1, fo_26_2, fo_26_3, fo_26_4, fo_37_3, fo_37_4, fo_53_0, fo_53_1, ld_2, ld_22, ld_23, ld_24, ld_26, ld_34, ld_35, ld_37, ld_4, ld_51, ld_53, pl_37, pl_54, se_34, se_35, sl_23, sl_24, sz_26, sz_34, sz_35, sz_37, sz_53, z_26, z_37, z_53, z_54, h18, h17, h16, hx6, hxe, g1, g2, g3, cellsAt_five, Int.toNat_natCast])
      generalize (wr (w6.alloc (.cells #[.int .i64 0, .slice none 0 0, .bool false, .slice none 0 0, .slice none 0 0] 26)) w6.heap.size 0 [.int .i64 t.l[j].n, vS', .bool t.l[j].null, vL', vU']) = w7 at *
      have hbt7 := hE7.blk_some hbt id
      refine W.drawR (.take 0 (.take 1 (.take 2 (.only 3 (.only 4 (.only 5 (.take 6 (.last 7)))))))) (ownB v) mixed (by kernel_rfl) ?_
      simp (disch := (first | omega | (simp only [World.size_alloc, size_wr, size_drew]; done) | (simp only [World.size_alloc, size_wr, size_drew]; omega) | exact not_noB _ | (refine hnb _ ?_; omega) | (refine hnb _ ?_; simp only [World.size_alloc, size_wr, size_drew]; done) | (refine hnb _ ?_; simp only [World.size_alloc, size_wr, size_drew]; omega))) only [go_sem, ↓reduceIte, Nat.reduceEqDiff, reduceCtorEq, Nat.reduceAdd, Nat.reduceMul, Nat.reduceSub, Nat.reduceLT, Nat.reduceLeDiff, Int.reduceEq, Int.reduceLT, Int.reduceLE, Int.reduceNeg, Int.reduceAdd, Int.reduceSub, Int.reduceMul, Int.reduceToNat, ca_8, es_23, es_24, fo_26_0, fo_26_1, fo_26_2, fo_26_3, fo_26_4, fo_37_3, fo_37_4, fo_53_0, fo_53_1, ld_2, ld_22, ld_23, ld_24, ld_26, ld_34, ld_35, ld_37, ld_4, ld_51, ld_53, pl_37, pl_54, se_34, se_35, sl_23, sl_24, sz_26, sz_34, sz_35, sz_37, sz_53, z_26, z_37, z_53, z_54, h3, hbt7, hb7, cellsAt_five, cellsAt_eight]
      have hE7d : Ext w7 w7.drew := (Upd.refl _ _).drew
      have hE07d : Ext w w7.drew := (hE06.trans hE7).trans hE7d
      have hzd : w7.drew.heap.size = w7.heap.size := size_drew _
      refine (hrecj w7.drew ((hc.weaken fun b h1 h2 => ⟨h2, h1⟩).keep (hE07d.keeps _))).mono ?_
      rintro v8 w8 ⟨⟨c8, rfl, hc8⟩, hE8⟩
      generalize t.l[j] = T at *
      obtain ⟨vS8, vL8, vU8, rfl, hn8, hS8, hL8, hU8⟩ := hc8.inv
      have k1 := hS8.flat
      have k2 := SlR.flat hL8
      have k3 := SlR.flat hU8
      have hz8 := hE8.size
      simp only [size_drew] at hz8
      have hM8 : Upd (ownB v) w7.drew w8 := hE8.mono (fun _ h => h.elim)
      have hE68 : Ext w6 w8 := (hE7.trans hE7d).trans hE8
      have hE9 : Ext w8 (w8.alloc (.cells #[.int .i64 T.n, vS8, .bool T.null, vL8, vU8] 37)) := Upd.alloc (Upd.refl _ _) _
      have hM9 : Upd (ownB v) w7.drew (w8.alloc (.cells #[.int .i64 T.n, vS8, .bool T.null, vL8, vU8] 37)) := hM8.alloc _
      refine ⟨hM8, ?_⟩
      simp (disch := (first | omega | (simp only [World.size_alloc, size_wr, size_drew]; done) | (simp only [World.size_alloc, size_wr, size_drew]; omega) | exact not_noB _)) only [go_sem, ↓reduceIte, Nat.reduceEqDiff, reduceCtorEq, Nat.reduceAdd, Nat.reduceMul, Nat.reduceSub, Nat.reduceLT, Nat.reduceLeDiff, Int.reduceEq, Int.reduceLT, Int.reduceLE, Int.reduceNeg, Int.reduceAdd, Int.reduceSub, Int.reduceMul, Int.reduceToNat, ca_8, es_23, es_24, fo_26_0, fo_26_1, fo_26_2, fo_26_3, fo_26_4, fo_37_3, fo_37_4, fo_53_0, fo_53_1, ld_2, ld_22, ld_23, ld_24, ld_26, ld_34, ld_35, ld_37, ld_4, ld_51, ld_53, pl_37, pl_54, se_34, se_35, sl_23, sl_24, sz_26, sz_34, sz_35, sz_37, sz_53, z_26, z_37, z_53, z_54, k1, k2, k3]
      refine ⟨hM9, ?_⟩
      have hg9 := (hg.ext hE68).ext hE9
      have hx9 : TreeC (fun b => (fun b => okN ok w.heap.size b ∧ b ≠ w.heap.size + 1 ∧ b ≠ w.heap.size + 2) b ∧ b ≠ w.heap.size + 2 ∧ ¬ ownB v b) (w8.alloc (.cells #[.int .i64 T.n, vS8, .bool T.null, vL8, vU8] 37)) T [.int .i64 T.n, vS8, .bool T.null, vL8, vU8] :=
        (hc8.keep (hE9.keeps _)).weaken fun b _ hk => by
          rcases hk with ⟨h1, h2⟩ | h2
          · exact ⟨⟨.inl h1, by omega, by omega⟩, by omega, fun h => by have := hg.above h; omega⟩
          · exact ⟨⟨.inr (by omega), by omega, by omega⟩, by omega, fun h => by have := hg.below h; omega⟩
      obtain ⟨css, hown, hall⟩ := hg9.ex
      have hcl9 := hall.1
      refine wp_append ap_34_34 (m := 1) (news := [.int .i64 T.n, vS8, .bool T.null, vL8, vU8]) (n := css.length) (cs := css.flatten) (v := v) ?_ rfl hown.1 (all2_flat_tree hall) (Src.blk (fr := (0, 0)) (T := 37) (blk_alloc_new rfl) rfl (flat_tree hx9).1) ?_ ?_ ?_
      · simp (disch := (first | omega | (simp only [World.size_alloc, size_wr, size_drew]; done) | (simp only [World.size_alloc, size_wr, size_drew]; omega) | exact not_noB _)) only [go_sem, ↓reduceIte, Nat.reduceEqDiff, reduceCtorEq, Nat.reduceAdd, Nat.reduceMul, Nat.reduceSub, Nat.reduceLT, Nat.reduceLeDiff, Int.reduceEq, Int.reduceLT, Int.reduceLE, Int.reduceNeg, Int.reduceAdd, Int.reduceSub, Int.reduceMul, Int.reduceToNat]
      · simp only [World.size_alloc]; omega
      · omega
      intro v' w10 ho hu hfr
      have hg10 := GrowT.snoc hown hall hx9 hu hfr ho
      have hz10 := hu.size
      simp only [World.size_alloc] at hz10
      obtain ⟨va, vc, hv', _⟩ := ho.shape
      subst hv'
      have hbt10 := (hM9.trans hu).blk_some (hE7d.blk_some hbt7 id) (hnb _ (by omega))
      have htb : ¬ ownB (.slice va (css.length + 1) vc) (w.heap.size + 2) := fun h => by
        rcases hfr _ h with h | h
        · exact hnb _ (.inl (by omega)) h
        · simp only [World.size_alloc] at h; omega
      simp (disch := (first | omega | (simp only [World.size_alloc, size_wr, size_drew]; done) | (simp only [World.size_alloc, size_wr, size_drew]; omega) | exact not_noB _)) only [go_sem, ↓reduceIte, Nat.reduceEqDiff, reduceCtorEq, Nat.reduceAdd, Nat.reduceMul, Nat.reduceSub, Nat.reduceLT, Nat.reduceLeDiff, Int.reduceEq, Int.reduceLT, Int.reduceLE, Int.reduceNeg, Int.reduceAdd, Int.reduceSub, Int.reduceMul, Int.reduceToNat, ca_8, es_23, es_24, fo_26_0, fo_26_1, fo_26_2, fo_26_3, fo_26_4, fo_37_3, fo_37_4, fo_53_0, fo_53_1, ld_2, ld_22, ld_23, ld_24, ld_26, ld_34, ld_35, ld_37, ld_4, ld_51, ld_53, pl_37, pl_54, se_34, se_35, sl_23, sl_24, sz_26, sz_34, sz_35, sz_37, sz_53, z_26, z_37, z_53, z_54]
      refine ⟨hM9.trans hu, ?_⟩
      simp (disch := (first | omega | (simp only [World.size_alloc, size_wr, size_drew]; done) | (simp only [World.size_alloc, size_wr, size_drew]; omega) | exact not_noB _)) only [go_sem, ↓reduceIte, Nat.reduceEqDiff, reduceCtorEq, Nat.reduceAdd, Nat.reduceMul, Nat.reduceSub, Nat.reduceLT, Nat.reduceLeDiff, Int.reduceEq, Int.reduceLT, Int.reduceLE, Int.reduceNeg, Int.reduceAdd, Int.reduceSub, Int.reduceMul, Int.reduceToNat, ca_8, es_23, es_24, fo_26_0, fo_26_1, fo_26_2, fo_26_3, fo_26_4, fo_37_3, fo_37_4, fo_53_0, fo_53_1, ld_2, ld_22, ld_23, ld_24, ld_26, ld_34, ld_35, ld_37, ld_4, ld_51, ld_53, pl_37, pl_54, se_34, se_35, sl_23, sl_24, sz_26, sz_34, sz_35, sz_37, sz_53, z_26, z_37, z_53, z_54, h3, hbt10]
      repeat ((first | refine W.seqR rfl ?_ | refine W.seq ?_ | refine W.regR rfl ?_ | refine W.condK ?_ | refine W.block ?_ | refine W.skip ?_ | refine W.ret ?_ | refine W.exit ?_); try simp (disch := (first | omega | (simp only [World.size_alloc, size_wr, size_drew]; done) | (simp only [World.size_alloc, size_wr, size_drew]; omega) | exact not_noB _)) only [go_sem, ↓reduceIte, Nat.reduceEqDiff, reduceCtorEq, Nat.reduceAdd, Nat.reduceMul, Nat.reduceSub, Nat.reduceLT, Nat.reduceLeDiff, Int.reduceEq, Int.reduceLT, Int.reduceLE, Int.reduceNeg, Int.reduceAdd, Int.reduceSub, Int.reduceMul, Int.reduceToNat, ca_8, es_23, es_24, fo_26_0, fo_26_1, fo_26_2, fo_26_3, fo_26_4, fo_37_3, fo_37_4, fo_53_0, fo_53_1, ld_2, ld_22, ld_23, ld_24, ld_26, ld_34, ld_35, ld_37, ld_4, ld_51, ld_53, pl_37, pl_54, se_34, se_35, sl_23, sl_24, sz_26, sz_34, sz_35, sz_37, sz_53, z_26, z_37, z_53, z_54, h18])
      refine ⟨⟨j + 1, .slice va (css.length + 1) vc, by omega, rfl, h17, h16, h1, h2, h3, ?_, ?_, ?_⟩, ?_⟩
      · simp (disch := (first | omega | (simp only [World.size_alloc, size_wr, size_drew]; done) | (simp only [World.size_alloc, size_wr, size_drew]; omega) | exact not_noB _)) only [go_sem, ↓reduceIte, Nat.reduceEqDiff, reduceCtorEq, Nat.reduceAdd, Nat.reduceMul, Nat.reduceSub, Nat.reduceLT, Nat.reduceLeDiff, Int.reduceEq, Int.reduceLT, Int.reduceLE, Int.reduceNeg, Int.reduceAdd, Int.reduceSub, Int.reduceMul, Int.reduceToNat, hbt10]
      · rw [hcat]; exact hg10.upd ((Upd.refl _ _).wr _ _ (.inr rfl)) htb
      · refine Upd.wr ?_ _ _ (.inr rfl)
        exact hU6.more (((hE68.trans hE9).mono fun _ h => h.elim).trans hu) fun b hb h => by have := hg.above h; omega
      · simp only [RowKit.intOf]; omega
    · have hjl : j = t.l.length := by omega
      subst hjl
      rw [List.take_length] at hg
      repeat ((first | refine W.seqR rfl ?_ | refine W.seq ?_ | refine W.regR rfl ?_ | refine W.condK ?_ | refine W.block ?_ | refine W.skip ?_ | refine W.ret ?_ | refine W.exit ?_); try simp (disch := (first | omega | (simp only [World.size_alloc, size_wr, size_drew]; done) | (simp only [World.size_alloc, size_wr, size_drew]; omega) | exact not_noB _)) only [go_sem, ↓reduceIte, Nat.reduceEqDiff, reduceCtorEq, Nat.reduceAdd, Nat.reduceMul, Nat.reduceSub, Nat.reduceLT, Nat.reduceLeDiff, Int.reduceEq, Int.reduceLT, Int.reduceLE, Int.reduceNeg, Int.reduceAdd, Int.reduceSub, Int.reduceMul, Int.reduceToNat, ca_8, es_23, es_24, fo_26_0, fo_26_1, fo_26_2, fo_26_3, fo_26_4, fo_37_3, fo_37_4, fo_53_0, fo_53_1, ld_2, ld_22, ld_23, ld_24, ld_26, ld_34, ld_35, ld_37, ld_4, ld_51, ld_53, pl_37, pl_54, se_34, se_35, sl_23, sl_24, sz_26, sz_34, sz_35, sz_37, sz_53, z_26, z_37, z_53, z_54, h18, h17])
      exact ⟨v, h1, h2, h3, hbt, hg, hU6⟩
  · rintro ρ w5 ⟨vl, h1, h2, h3, hbt, hg, hU5⟩
    have hz5 := hU5.size
    have hE05 : Ext w w5 := hE.more hU5 fun b hb h => by omega
    have hb05 := hU5.blk_some hb0 (by omega)
    have hb15 := hU5.blk_some hb1 (by omega)
    obtain ⟨al, cl', hvl, hcl'⟩ := hg.shape
    subst hvl
    have hTL : TreesV (fun b => (fun b => okN ok w.heap.size b ∧ b ≠ w.heap.size + 1 ∧ b ≠ w.heap.size + 2) b ∧ b < w5.heap.size) w5 (.slice al t.l.length cl') t.l :=
      (hg.trees (ok' := (fun b => okN ok w.heap.size b ∧ b ≠ w.heap.size + 1 ∧ b ≠ w.heap.size + 2)) (fun _ _ h => h) (fun b hb => ⟨.inr (by omega), by omega, by omega⟩)).weaken fun b h1 h2 => ⟨h2, h1⟩
    simp (disch := (first | omega | (simp only [World.size_alloc, size_wr, size_drew]; done) | (simp only [World.size_alloc, size_wr, size_drew]; omega) | exact not_noB _)) only [go_sem, ↓reduceIte, Nat.reduceEqDiff, reduceCtorEq, Nat.reduceAdd, Nat.reduceMul, Nat.reduceSub, Nat.reduceLT, Nat.reduceLeDiff, Int.reduceEq, Int.reduceLT, Int.reduceLE, Int.reduceNeg, Int.reduceAdd, Int.reduceSub, Int.reduceMul, Int.reduceToNat]
    repeat ((first | refine W.seqR rfl ?_ | refine W.seq ?_ | refine W.regR rfl ?_ | refine W.condK ?_ | refine W.block ?_ | refine W.skip ?_ | refine W.ret ?_ | refine W.exit ?_); try simp (disch := (first | omega | (simp only [World.size_alloc, size_wr, size_drew]; done) | (simp only [World.size_alloc, size_wr, size_drew]; omega) | exact not_noB _)) only [go_sem, ↓reduceIte, Nat.reduceEqDiff, reduceCtorEq, Nat.reduceAdd, Nat.reduceMul, Nat.reduceSub, Nat.reduceLT, Nat.reduceLeDiff, Int.reduceEq, Int.reduceLT, Int.reduceLE, Int.reduceNeg, Int.reduceAdd, Int.reduceSub, Int.reduceMul, Int.reduceToNat, ca_8, es_23, es_24, fo_26_0, fo_26_1, fo_26_2, fo_26_3, fo_26_4, fo_37_3, fo_37_4, fo_53_0, fo_53_1, ld_2, ld_22, ld_23, ld_24, ld_26, ld_34, ld_35, ld_37, ld_4, ld_51, ld_53, pl_37, pl_54, se_34, se_35, sl_23, sl_24, sz_26, sz_34, sz_35, sz_37, sz_53, z_26, z_37, z_53, z_54, h1, hb05])
    refine W.loop (fun ρ w' => ∃ (j : Nat) (v : Value), j ≤ t.u.length ∧ ρ 33 = .int .i64 j ∧ ρ 32 = .int .i64 t.u.length ∧ ρ 31 = .slice bu t.u.length cu ∧ ρ 2 = .pointer (some ⟨w.heap.size + 1, 0, none⟩) ∧ ρ 3 = .pointer (some ⟨w.heap.size + 2, 0, none⟩) ∧
        blk w' (w.heap.size + 2) = some (#[.int .i64 t.n, .slice bS t.s.length cS, .bool t.null, .slice al t.l.length cl', v], 37, (0, 0)) ∧ GrowU (fun b => okN ok w.heap.size b ∧ b ≠ w.heap.size + 1 ∧ b ≠ w.heap.size + 2) w5.heap.size (w.heap.size + 2) w' 54 v (t.u.take j) ∧ Upd (fun b => b = w.heap.size + 2) w5 w')
      (fun ρ _ => t.u.length - (RowKit.intOf (ρ 33)).toNat) ?_ ?_
    · refine ⟨0, _, Nat.zero_le _, ?_, ?_, ?_, ?_, ?_, hbt, GrowU.nil _ _ _ _ _, Upd.refl _ _⟩ <;> simp (disch := (first | omega | (simp only [World.size_alloc, size_wr, size_drew]; done) | (simp only [World.size_alloc, size_wr, size_drew]; omega) | exact not_noB _)) only [go_sem, ↓reduceIte, Nat.reduceEqDiff, reduceCtorEq, Nat.reduceAdd, Nat.reduceMul, Nat.reduceSub, Nat.reduceLT, Nat.reduceLeDiff, Int.reduceEq, Int.reduceLT, Int.reduceLE, Int.reduceNeg, Int.reduceAdd, Int.reduceSub, Int.reduceMul, Int.reduceToNat, h2, h3]
      all_goals rfl
    · clear h1 h2 h3 hg hbt
      rintro ρ w6 ⟨j, v, hj, h33, h32', h31, h2, h3, hbt, hg, hU6⟩
      have hz6 := hU6.size
      have hE06 : Ext w w6 := hE05.more hU6 fun b hb h => by omega
      by_cases hlt : j < t.u.length
      · obtain ⟨_, b, o, x, vv, hb, hokb, hx, hblt, hxs, hxe, _, _, hfv, hbv, h32⟩ := TagsV.get hU hlt
        subst hb
        have hx6 : blk w6 b = some x := hE06.blk_some hx id
        have hcat : t.u.take (j + 1) = t.u.take j ++ [(t.u[j].1, t.u[j].2)] := List.take_succ_eq_append_getElem hlt
        have hlen9 : (t.u.take j).length = j := by simp; omega
        have hnb : ∀ b, b < w5.heap.size ∨ b = w6.heap.size → ¬ ownB v b := fun b hb h => by
          have := hg.above h
          have := hg.below h
          omega
        generalize t.u[j].1 = K at *
        generalize t.u[j].2 = S at *
        obtain ⟨b8', c8', rfl, _⟩ := hbv.shape
        have hE8 : Ext w6 (wr (w6.alloc (.cells #[.int .u32 0, .slice none 0 0] 53)) w6.heap.size 0 [.int .u32 K, .slice b8' S.length c8']) := (Upd.alloc (Upd.refl _ _) _).wr _ _ (.inl (Nat.le_refl _))
        have hb8 : blk (wr (w6.alloc (.cells #[.int .u32 0, .slice none 0 0] 53)) w6.heap.size 0 [.int .u32 K, .slice b8' S.length c8']) w6.heap.size = some (#[.int .u32 K, .slice b8' S.length c8'], 53, (0, 0)) := by simp (disch := (first | omega | (simp only [World.size_alloc, size_wr, size_drew]; done) | (simp only [World.size_alloc, size_wr, size_drew]; omega) | exact not_noB _)) only [go_sem, ↓reduceIte, Nat.reduceEqDiff, reduceCtorEq, Nat.reduceAdd, Nat.reduceMul, Nat.reduceSub, Nat.reduceLT, Nat.reduceLeDiff, Int.reduceEq, Int.reduceLT, Int.reduceLE, Int.reduceNeg, Int.reduceAdd, Int.reduceSub, Int.reduceMul, Int.reduceToNat]
        have hz8 : (wr (w6.alloc (.cells #[.int .u32 0, .slice none 0 0] 53)) w6.heap.size 0 [.int .u32 K, .slice b8' S.length c8']).heap.size = w6.heap.size + 1 := by simp only [size_wr, World.size_alloc]
        repeat ((first | refine W.seqR rfl ?_ | refine W.seq ?_ | refine W.regR rfl ?_ | refine W.condK ?_ | refine W.block ?_ | refine W.skip ?_ | refine W.ret ?_ | refine W.exit ?_); try simp (disch := (first | omega | (simp only [World.size_alloc, size_wr, size_drew]; done) | (simp only [World.size_alloc, size_wr, size_drew]; omega) | exact not_noB _)) only [go_sem, ↓reduceIte, Nat.reduceEqDiff, reduceCtorEq, Nat.reduceAdd, Nat.reduceMul, Nat.reduceSub, Nat.reduceLT, Nat.reduceLeDiff, Int.reduceEq, Int.reduceLT, Int.reduceLE, Int.reduceNeg, Int.reduceAdd, Int.reduceSub, Int.reduceMul, Int.reduceToNat, ca_8, es_23, es_24, fo_26_0, fo_26_1, fo_26_2, fo_26_3, fo_26_4, fo_37_3, fo_37_4, fo_53_0, fo_53_1, ld_2, ld_22, ld_23, ld_24, ld_26, ld_34, ld_35, ld_37, ld_4, ld_51, ld_53, pl_37, pl_54, se_34, se_35, sl_23, sl_24, sz_26, sz_34, sz_35, sz_37, sz_53, z_26, z_37, z_53, z_54, h33, h32', h31, h3, hx6, hxe, hbt, cellsAt_two, Int.toNat_natCast])
        generalize (wr (w6.alloc (.cells #[.int .u32 0, .slice none 0 0] 53)) w6.heap.size 0 [.int .u32 K, .slice b8' S.length c8']) = w8' at *
        have hbt8 := hE8.blk_some hbt id
        have hbv8 := (hbv.weaken (ok' := fun b => ok b ∧ b < w.heap.size) fun b h1 h2 => ⟨h2, h1⟩).keep (Ext.keeps (hE06.trans hE8) _)
        have hg8 := hg.ext hE8
        have hMd : Upd (ownB v) w8' (w8'.alloc (.cells #[.int .u32 K, .slice b8' S.length c8'] 54)) := (Upd.refl _ _).alloc _
        have hx9 : TagC (fun b => (fun b => okN ok w.heap.size b ∧ b ≠ w.heap.size + 1 ∧ b ≠ w.heap.size + 2) b ∧ b ≠ w.heap.size + 2 ∧ ¬ ownB v b) (w8'.alloc (.cells #[.int .u32 K, (.slice b8' S.length c8')] 54)) (K, S) [.int .u32 K, (.slice b8' S.length c8')] :=
          ⟨(.slice b8' S.length c8'), rfl, (hbv8.keep (Ext.keeps (Upd.alloc (Upd.refl _ _) _) _)).weaken fun b _ hk => ⟨⟨.inl hk.1, by omega, by omega⟩, by omega, fun h => by have := hg.above h; omega⟩, h32⟩
        have hg9 := hg8.ext (Upd.alloc (Upd.refl _ _) (.cells #[.int .u32 K, (.slice b8' S.length c8')] 54))
        obtain ⟨css9, hown9, hall9⟩ := hg9.ex
        have hcl9 := hall9.1
        refine wp_append ap_35_35 (m := 1) (news := [.int .u32 K, (.slice b8' S.length c8')]) (n := css9.length) (cs := css9.flatten) (v := v) ?_ rfl hown9.1 hall9.flat_cells (Src.blk (fr := (0, 0)) (T := 54) (blk_alloc_new (by first | rfl | omega)) rfl (flat_tag hx9).1) ?_ ?_ ?_
        · simp (disch := (first | omega | (simp only [World.size_alloc, size_wr, size_drew]; done) | (simp only [World.size_alloc, size_wr, size_drew]; omega) | exact not_noB _)) only [go_sem, ↓reduceIte, Nat.reduceEqDiff, reduceCtorEq, Nat.reduceAdd, Nat.reduceMul, Nat.reduceSub, Nat.reduceLT, Nat.reduceLeDiff, Int.reduceEq, Int.reduceLT, Int.reduceLE, Int.reduceNeg, Int.reduceAdd, Int.reduceSub, Int.reduceMul, Int.reduceToNat]
        · simp only [World.size_alloc]; omega
        · omega
        intro v' w10 ho hu hfr
        have hg10 := GrowU.snoc hown9 hall9 hx9 hu hfr ho
        have hz10 := hu.size
        simp only [World.size_alloc] at hz10
        obtain ⟨va, vc, hv', _⟩ := ho.shape
        subst hv'
        have htb : ¬ ownB (.slice va (css9.length + 1) vc) (w.heap.size + 2) := fun h => by
          rcases hfr _ h with h | h
          · exact hnb _ (.inl (by omega)) h
          · simp only [World.size_alloc] at h; omega
        have hbt10 := (hMd.trans hu).blk_some hbt8 (hnb _ (by omega))
        simp (disch := (first | omega | (simp only [World.size_alloc, size_wr, size_drew]; done) | (simp only [World.size_alloc, size_wr, size_drew]; omega) | exact not_noB _)) only [go_sem, ↓reduceIte, Nat.reduceEqDiff, reduceCtorEq, Nat.reduceAdd, Nat.reduceMul, Nat.reduceSub, Nat.reduceLT, Nat.reduceLeDiff, Int.reduceEq, Int.reduceLT, Int.reduceLE, Int.reduceNeg, Int.reduceAdd, Int.reduceSub, Int.reduceMul, Int.reduceToNat, ca_8, es_23, es_24, fo_26_0, fo_26_1, fo_26_2, fo_26_3, fo_26_4, fo_37_3, fo_37_4, fo_53_0, fo_53_1, ld_2, ld_22, ld_23, ld_24, ld_26, ld_34, ld_35, ld_37, ld_4, ld_51, ld_53, pl_37, pl_54, se_34, se_35, sl_23, sl_24, sz_26, sz_34, sz_35, sz_37, sz_53, z_26, z_37, z_53, z_54, h3, hbt10]
        repeat ((first | refine W.seqR rfl ?_ | refine W.seq ?_ | refine W.regR rfl ?_ | refine W.condK ?_ | refine W.block ?_ | refine W.skip ?_ | refine W.ret ?_ | refine W.exit ?_); try simp (disch := (first | omega | (simp only [World.size_alloc, size_wr, size_drew]; done) | (simp only [World.size_alloc, size_wr, size_drew]; omega) | exact not_noB _)) only [go_sem, ↓reduceIte, Nat.reduceEqDiff, reduceCtorEq, Nat.reduceAdd, Nat.reduceMul, Nat.reduceSub, Nat.reduceLT, Nat.reduceLeDiff, Int.reduceEq, Int.reduceLT, Int.reduceLE, Int.reduceNeg, Int.reduceAdd, Int.reduceSub, Int.reduceMul, Int.reduceToNat, ca_8, es_23, es_24, fo_26_0, fo_26_1, fo_26_2, fo_26_3, fo_26_4, fo_37_3, fo_37_4, fo_53_0, fo_53_1, ld_2, ld_22, ld_23, ld_24, ld_26, ld_34, ld_35, ld_37, ld_4, ld_51, ld_53, pl_37, pl_54, se_34, se_35, sl_23, sl_24, sz_26, sz_34, sz_35, sz_37, sz_53, z_26, z_37, z_53, z_54, h33])
        refine ⟨⟨j + 1, .slice va (css9.length + 1) vc, by omega, rfl, h32', h31, h2, h3, ?_, ?_, ?_⟩, ?_⟩
        · simp (disch := (first | omega | (simp only [World.size_alloc, size_wr, size_drew]; done) | (simp only [World.size_alloc, size_wr, size_drew]; omega) | exact not_noB _)) only [go_sem, ↓reduceIte, Nat.reduceEqDiff, reduceCtorEq, Nat.reduceAdd, Nat.reduceMul, Nat.reduceSub, Nat.reduceLT, Nat.reduceLeDiff, Int.reduceEq, Int.reduceLT, Int.reduceLE, Int.reduceNeg, Int.reduceAdd, Int.reduceSub, Int.reduceMul, Int.reduceToNat, hbt10]
        · rw [hcat]; exact hg10.upd ((Upd.refl _ _).wr _ _ (.inr rfl)) htb
        · refine Upd.wr ?_ _ _ (.inr rfl)
          exact hU6.more (((hE8.mono fun _ h => h.elim).trans hMd).trans hu) fun b hb h => by have := hg.above h; omega
        · simp only [RowKit.intOf]; omega
      · have hjl : j = t.u.length := by omega
        subst hjl
        rw [List.take_length] at hg
        obtain ⟨va, vc, hv', _⟩ := hg.shape
        subst hv'
        have hb16 := hU6.blk_some hb15 (by omega)
        repeat ((first | refine W.seqR rfl ?_ | refine W.seq ?_ | refine W.regR rfl ?_ | refine W.condK ?_ | refine W.block ?_ | refine W.skip ?_ | refine W.ret ?_ | refine W.exit ?_); try simp (disch := (first | omega | (simp only [World.size_alloc, size_wr, size_drew]; done) | (simp only [World.size_alloc, size_wr, size_drew]; omega) | exact not_noB _)) only [go_sem, ↓reduceIte, Nat.reduceEqDiff, reduceCtorEq, Nat.reduceAdd, Nat.reduceMul, Nat.reduceSub, Nat.reduceLT, Nat.reduceLeDiff, Int.reduceEq, Int.reduceLT, Int.reduceLE, Int.reduceNeg, Int.reduceAdd, Int.reduceSub, Int.reduceMul, Int.reduceToNat, ca_8, es_23, es_24, fo_26_0, fo_26_1, fo_26_2, fo_26_3, fo_26_4, fo_37_3, fo_37_4, fo_53_0, fo_53_1, ld_2, ld_22, ld_23, ld_24, ld_26, ld_34, ld_35, ld_37, ld_4, ld_51, ld_53, pl_37, pl_54, se_34, se_35, sl_23, sl_24, sz_26, sz_34, sz_35, sz_37, sz_53, z_26, z_37, z_53, z_54, h33, h32', h2, h3, hbt, hb16, cellsAt_five])
        refine ⟨⟨_, rfl, ?_⟩, hE06.wr _ _ (.inl (by omega))⟩
        have hTL6 := hTL.keep (hU6.keeps fun b _ hk e => by omega)
        have hTU6 := hg.tags (ok' := (fun b => okN ok w.heap.size b ∧ b ≠ w.heap.size + 1 ∧ b ≠ w.heap.size + 2)) (fun _ _ h => h) (fun b hb => ⟨.inr (by omega), by omega, by omega⟩)
        have hS6 := (hS.weaken (ok' := fun b => ok b ∧ b < w.heap.size) fun b h1 h2 => ⟨h2, h1⟩).keep (Ext.keeps hE06 _)
        have hU9 : Upd (fun b => b = w.heap.size + 1) w6 (wr w6 (w.heap.size + 1) 0 [.int .i64 t.n, .slice bS t.s.length cS, .bool t.null, .slice al t.l.length cl', .slice va t.u.length vc]) := (Upd.refl _ _).wr _ _ (.inr rfl)
        have ht : t = .mk t.n t.s t.null t.l t.u := by cases t; rfl
        rw [ht]
        exact TreeC.intro hn ((hS6.keep (hU9.keeps fun b _ hk e => by omega)).weaken fun b _ hk => .inl hk.1) ((hTL6.keep (hU9.keeps fun b _ hk e => hk.1.2.1 e)).weaken fun b _ hk => hk.1.1) ((hTU6.keep (hU9.keeps fun b _ hk e => hk.2.1 e)).weaken fun b _ hk => hk.1)

theorem given_fn {t : Tree} (h : Lists t) : ∀ (ok : Blocks) (ct : List Value) (w : World), TreeC ok w t ct → Fn Try.prog 8 #[.agg ct.toArray] w fun r w' => TreeR ok w w' r t ∧ Ext w w' := by
  induction h with
  | mk hl hu he ih => exact given_step _ hl hu ih
end Ms
