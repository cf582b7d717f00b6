/- A part of the proof: see the last text. -/
import Derived.Test.YtohokpilmncmkaaMsS7
import Derived.Test.YtohokpilmncmkaaMsMake
set_option linter.unusedSimpArgs false
set_option linter.unusedVariables false
namespace Ms
open Go Go.Proofs
attribute [local congr] W_congr WPsq_congr WPp_congr optK_congr addrK_congr intK_congr boolK_congr sliceK_congr tupleK_congr funcK_congr Fn_congr rawK_congr takeK_congr stepK_congr convK_congr aggK_congr

theorem countedS_len (flex null : Bool) (n k : Nat) (hk : k ≤ 8) (hn : n < 4611686018427387904) : (countedS flex null n k).length ≤ 10 := by
  unfold countedS
  split
  · simp
  · split
    · exact uvarS_len 9 (n + 1) (by omega)
    · split <;> rw [fixedS_len] <;> omega

theorem value_k0 {ok : Blocks} (pt : List Fld → Int → Bool → Tree → List UInt8) (kind : Int) (sub : List Fld) (null : Bool) (ver : Int) (flex : Bool) (t : Tree) (vs : Value) (ct : List Value) (w : World) (hs : FldsV ok w vs sub) (ht : TreeC ok w t ct) (hsm : Small 4611686018427387903 t)
    (hlen : (valueS pt kind sub null ver flex t).length ≤ 2 ^ 40) (h0 : kind = 0) :
    Fn Try.prog 34 #[.int .i64 kind, vs, .bool null, .int .i64 ver, .bool flex, .agg ct.toArray] w fun r w' => OwnBy 5 w.heap.size w' r (valueS pt kind sub null ver flex t) ∧ Ext w w' := by
  obtain ⟨vS, vL, vU, rfl, hn, hS, hL, hU⟩ := ht.inv
  have hl1 := hsm.s
  have hl2 := hsm.l
  have f1 := hS.flat
  have f2 := SlR.flat hL
  have f3 := SlR.flat hU
  obtain ⟨bS, cS, rfl, hcS⟩ := hS.shape
  have hE : Ext w (w.alloc (.cells #[.int .i64 t.n, .slice bS t.s.length cS, .bool t.null, vL, vU] 26)) := Upd.alloc (Upd.refl _ _) _
  refine fn_of_W Try.func34 rfl Try.results34 Try.ntmps34 rfl ?_
  subst h0
  repeat ((first | refine W.seqR rfl ?_ | refine W.seq ?_ | refine W.regR rfl ?_ | refine W.condK ?_ | refine W.block ?_ | refine W.skip ?_ | refine W.ret ?_ | refine W.exit ?_); try simp (disch := (first | omega | (simp only [World.size_alloc, size_wr, size_drew]; done) | (simp only [World.size_alloc, size_wr, size_drew]; omega) | exact not_noB _)) only [go_sem, ↓reduceIte, Nat.reduceEqDiff, reduceCtorEq, Nat.reduceAdd, Nat.reduceMul, Nat.reduceSub, Nat.reduceLT, Nat.reduceLeDiff, Int.reduceEq, Int.reduceLT, Int.reduceLE, Int.reduceNeg, Int.reduceAdd, Int.reduceSub, Int.reduceMul, Int.reduceToNat, ca_17, ca_18, ca_27, ca_33, ca_35, fo_26_0, fo_26_1, it_5, kn_2, ld_2, ld_22, ld_26, se_22, sl_22, f1, f2, f3, and1, u8_byte])
  refine ⟨?_, hE.alloc _⟩
  have e : (((t.n % 2).toNat : Nat) : Int) = t.n % 2 := by omega
  rw [e]
  exact Own.blk (n := 1) (cs := [byteV (b8 (t.n % 2))]) (blk_alloc_new (by simp only [World.size_alloc])) rfl (by omega)

theorem value_k8 {ok : Blocks} (pt : List Fld → Int → Bool → Tree → List UInt8) (kind : Int) (sub : List Fld) (null : Bool) (ver : Int) (flex : Bool) (t : Tree) (vs : Value) (ct : List Value) (w : World) (hs : FldsV ok w vs sub) (ht : TreeC ok w t ct) (hsm : Small 4611686018427387903 t)
    (hlen : (valueS pt kind sub null ver flex t).length ≤ 2 ^ 40) (h8 : kind = 8) :
    Fn Try.prog 34 #[.int .i64 kind, vs, .bool null, .int .i64 ver, .bool flex, .agg ct.toArray] w fun r w' => OwnBy 5 w.heap.size w' r (valueS pt kind sub null ver flex t) ∧ Ext w w' := by
  obtain ⟨vS, vL, vU, rfl, hn, hS, hL, hU⟩ := ht.inv
  have hl1 := hsm.s
  have hl2 := hsm.l
  have f1 := hS.flat
  have f2 := SlR.flat hL
  have f3 := SlR.flat hU
  obtain ⟨bS, cS, rfl, hcS⟩ := hS.shape
  have hE : Ext w (w.alloc (.cells #[.int .i64 t.n, .slice bS t.s.length cS, .bool t.null, vL, vU] 26)) := Upd.alloc (Upd.refl _ _) _
  refine fn_of_W Try.func34 rfl Try.results34 Try.ntmps34 rfl ?_
  subst h8
  have hwl : (wholeS t.s).length ≤ 32767 := by simp only [wholeS, List.length_take]; omega
  repeat ((first | refine W.seqR rfl ?_ | refine W.seq ?_ | refine W.regR rfl ?_ | refine W.condK ?_ | refine W.block ?_ | refine W.skip ?_ | refine W.ret ?_ | refine W.exit ?_); try simp (disch := (first | omega | (simp only [World.size_alloc, size_wr, size_drew]; done) | (simp only [World.size_alloc, size_wr, size_drew]; omega) | exact not_noB _)) only [go_sem, ↓reduceIte, Nat.reduceEqDiff, reduceCtorEq, Nat.reduceAdd, Nat.reduceMul, Nat.reduceSub, Nat.reduceLT, Nat.reduceLeDiff, Int.reduceEq, Int.reduceLT, Int.reduceLE, Int.reduceNeg, Int.reduceAdd, Int.reduceSub, Int.reduceMul, Int.reduceToNat, ca_17, ca_18, ca_27, ca_33, ca_35, fo_26_0, fo_26_1, it_5, kn_2, ld_2, ld_22, ld_26, se_22, sl_22, f1, f2, f3])
  refine (whole_fn t.s _ _ (hS.keep (hE.keeps _))).mono ?_
  rintro v1 w1 ⟨hw1, rfl⟩
  obtain ⟨b1, c1, rfl, hc1⟩ := hw1.shape
  cases null with
  | true =>
    repeat ((first | refine W.seqR rfl ?_ | refine W.seq ?_ | refine W.regR rfl ?_ | refine W.condK ?_ | refine W.block ?_ | refine W.skip ?_ | refine W.ret ?_ | refine W.exit ?_); try simp (disch := (first | omega | (simp only [World.size_alloc, size_wr, size_drew]; done) | (simp only [World.size_alloc, size_wr, size_drew]; omega) | exact not_noB _)) only [go_sem, ↓reduceIte, Nat.reduceEqDiff, reduceCtorEq, Nat.reduceAdd, Nat.reduceMul, Nat.reduceSub, Nat.reduceLT, Nat.reduceLeDiff, Int.reduceEq, Int.reduceLT, Int.reduceLE, Int.reduceNeg, Int.reduceAdd, Int.reduceSub, Int.reduceMul, Int.reduceToNat, ca_17, ca_18, ca_27, ca_33, ca_35, fo_26_0, fo_26_1, it_5, kn_2, ld_2, ld_22, ld_26, se_22, sl_22])
    refine (counted_fn flex true 0 2 (by omega) (by omega) _).mono ?_
    rintro v2 w2 ⟨ho, he⟩
    have hcl := countedS_len flex true 0 2 (by omega) (by omega)
    refine wp_append ap_22_22 (m := 0) (news := []) (n := (countedS flex true 0 2).length) (cs := (countedS flex true 0 2).map byteV) (v := v2) ?_ rfl (ho.mono (B' := w.heap.size) (by simp only [World.size_alloc]; omega)) (flat_bytes _) ⟨rfl, rfl, .inl ⟨none, 0, 0, rfl, rfl, .inl rfl⟩⟩ ?_ ?_ ?_
    · simp (disch := (first | omega | (simp only [World.size_alloc, size_wr, size_drew]; done) | (simp only [World.size_alloc, size_wr, size_drew]; omega) | exact not_noB _)) only [go_sem, ↓reduceIte, Nat.reduceEqDiff, reduceCtorEq, Nat.reduceAdd, Nat.reduceMul, Nat.reduceSub, Nat.reduceLT, Nat.reduceLeDiff, Int.reduceEq, Int.reduceLT, Int.reduceLE, Int.reduceNeg, Int.reduceAdd, Int.reduceSub, Int.reduceMul, Int.reduceToNat]
    · have := he.size; simp only [World.size_alloc] at this; omega
    · omega
    intro v' w4 ho4 hu hfr
    simp (disch := (first | omega | (simp only [World.size_alloc, size_wr, size_drew]; done) | (simp only [World.size_alloc, size_wr, size_drew]; omega) | exact not_noB _)) only [go_sem, ↓reduceIte, Nat.reduceEqDiff, reduceCtorEq, Nat.reduceAdd, Nat.reduceMul, Nat.reduceSub, Nat.reduceLT, Nat.reduceLeDiff, Int.reduceEq, Int.reduceLT, Int.reduceLE, Int.reduceNeg, Int.reduceAdd, Int.reduceSub, Int.reduceMul, Int.reduceToNat]
    repeat ((first | refine W.seqR rfl ?_ | refine W.seq ?_ | refine W.regR rfl ?_ | refine W.condK ?_ | refine W.block ?_ | refine W.skip ?_ | refine W.ret ?_ | refine W.exit ?_); try simp (disch := (first | omega | (simp only [World.size_alloc, size_wr, size_drew]; done) | (simp only [World.size_alloc, size_wr, size_drew]; omega) | exact not_noB _)) only [go_sem, ↓reduceIte, Nat.reduceEqDiff, reduceCtorEq, Nat.reduceAdd, Nat.reduceMul, Nat.reduceSub, Nat.reduceLT, Nat.reduceLeDiff, Int.reduceEq, Int.reduceLT, Int.reduceLE, Int.reduceNeg, Int.reduceAdd, Int.reduceSub, Int.reduceMul, Int.reduceToNat, ca_17, ca_18, ca_27, ca_33, ca_35, fo_26_0, fo_26_1, it_5, kn_2, ld_2, ld_22, ld_26, se_22, sl_22])
    refine ⟨?_, ?_⟩
    · simp only [valueS]
      exact OwnBy.app (s := countedS flex true 0 2) (t := []) ho4 rfl
    · exact Ext.own (hE.trans he) (ho.mono (B' := w.heap.size) (by simp only [World.size_alloc]; omega)) hu
  | false =>
    repeat ((first | refine W.seqR rfl ?_ | refine W.seq ?_ | refine W.regR rfl ?_ | refine W.condK ?_ | refine W.block ?_ | refine W.skip ?_ | refine W.ret ?_ | refine W.exit ?_); try simp (disch := (first | omega | (simp only [World.size_alloc, size_wr, size_drew]; done) | (simp only [World.size_alloc, size_wr, size_drew]; omega) | exact not_noB _)) only [go_sem, ↓reduceIte, Nat.reduceEqDiff, reduceCtorEq, Nat.reduceAdd, Nat.reduceMul, Nat.reduceSub, Nat.reduceLT, Nat.reduceLeDiff, Int.reduceEq, Int.reduceLT, Int.reduceLE, Int.reduceNeg, Int.reduceAdd, Int.reduceSub, Int.reduceMul, Int.reduceToNat, ca_17, ca_18, ca_27, ca_33, ca_35, fo_26_0, fo_26_1, it_5, kn_2, ld_2, ld_22, ld_26, se_22, sl_22])
    refine (counted_fn flex false (wholeS t.s).length 2 (by omega) (by omega) _).mono ?_
    rintro v2 w2 ⟨ho, he⟩
    have hcl := countedS_len flex false (wholeS t.s).length 2 (by omega) (by omega)
    have hsz := he.size
    simp only [World.size_alloc] at hsz
    refine wp_append ap_22_22 (m := (wholeS t.s).length) (news := (wholeS t.s).map byteV) (n := (countedS flex false (wholeS t.s).length 2).length) (cs := (countedS flex false (wholeS t.s).length 2).map byteV) (v := v2) ?_ rfl (ho.mono (B' := w.heap.size) (by simp only [World.size_alloc]; omega)) (flat_bytes _) ?_ ?_ ?_ ?_
    · simp (disch := (first | omega | (simp only [World.size_alloc, size_wr, size_drew]; done) | (simp only [World.size_alloc, size_wr, size_drew]; omega) | exact not_noB _)) only [go_sem, ↓reduceIte, Nat.reduceEqDiff, reduceCtorEq, Nat.reduceAdd, Nat.reduceMul, Nat.reduceSub, Nat.reduceLT, Nat.reduceLeDiff, Int.reduceEq, Int.reduceLT, Int.reduceLE, Int.reduceNeg, Int.reduceAdd, Int.reduceSub, Int.reduceMul, Int.reduceToNat]
    · have := (hw1.keep (he.keeps _)).src
      simp (disch := (first | omega | (simp only [World.size_alloc, size_wr, size_drew]; done) | (simp only [World.size_alloc, size_wr, size_drew]; omega) | exact not_noB _)) only [go_sem, ↓reduceIte, Nat.reduceEqDiff, reduceCtorEq, Nat.reduceAdd, Nat.reduceMul, Nat.reduceSub, Nat.reduceLT, Nat.reduceLeDiff, Int.reduceEq, Int.reduceLT, Int.reduceLE, Int.reduceNeg, Int.reduceAdd, Int.reduceSub, Int.reduceMul, Int.reduceToNat]
      exact this
    · omega
    · omega
    intro v' w4 ho4 hu hfr
    simp (disch := (first | omega | (simp only [World.size_alloc, size_wr, size_drew]; done) | (simp only [World.size_alloc, size_wr, size_drew]; omega) | exact not_noB _)) only [go_sem, ↓reduceIte, Nat.reduceEqDiff, reduceCtorEq, Nat.reduceAdd, Nat.reduceMul, Nat.reduceSub, Nat.reduceLT, Nat.reduceLeDiff, Int.reduceEq, Int.reduceLT, Int.reduceLE, Int.reduceNeg, Int.reduceAdd, Int.reduceSub, Int.reduceMul, Int.reduceToNat]
    repeat ((first | refine W.seqR rfl ?_ | refine W.seq ?_ | refine W.regR rfl ?_ | refine W.condK ?_ | refine W.block ?_ | refine W.skip ?_ | refine W.ret ?_ | refine W.exit ?_); try simp (disch := (first | omega | (simp only [World.size_alloc, size_wr, size_drew]; done) | (simp only [World.size_alloc, size_wr, size_drew]; omega) | exact not_noB _)) only [go_sem, ↓reduceIte, Nat.reduceEqDiff, reduceCtorEq, Nat.reduceAdd, Nat.reduceMul, Nat.reduceSub, Nat.reduceLT, Nat.reduceLeDiff, Int.reduceEq, Int.reduceLT, Int.reduceLE, Int.reduceNeg, Int.reduceAdd, Int.reduceSub, Int.reduceMul, Int.reduceToNat, ca_17, ca_18, ca_27, ca_33, ca_35, fo_26_0, fo_26_1, it_5, kn_2, ld_2, ld_22, ld_26, se_22, sl_22])
    refine ⟨?_, ?_⟩
    · simp only [valueS]
      exact OwnBy.app (s := countedS flex false (wholeS t.s).length 2) (t := wholeS t.s) ho4 rfl
    · exact Ext.own (hE.trans he) (ho.mono (B' := w.heap.size) (by simp only [World.size_alloc]; omega)) hu

theorem value_k9 {ok : Blocks} (pt : List Fld → Int → Bool → Tree → List UInt8) (kind : Int) (sub : List Fld) (null : Bool) (ver : Int) (flex : Bool) (t : Tree) (vs : Value) (ct : List Value) (w : World) (hs : FldsV ok w vs sub) (ht : TreeC ok w t ct) (hsm : Small 4611686018427387903 t)
    (hlen : (valueS pt kind sub null ver flex t).length ≤ 2 ^ 40) (h9 : kind = 9) :
    Fn Try.prog 34 #[.int .i64 kind, vs, .bool null, .int .i64 ver, .bool flex, .agg ct.toArray] w fun r w' => OwnBy 5 w.heap.size w' r (valueS pt kind sub null ver flex t) ∧ Ext w w' := by
  obtain ⟨vS, vL, vU, rfl, hn, hS, hL, hU⟩ := ht.inv
  have hl1 := hsm.s
  have hl2 := hsm.l
  have f1 := hS.flat
  have f2 := SlR.flat hL
  have f3 := SlR.flat hU
  obtain ⟨bS, cS, rfl, hcS⟩ := hS.shape
  have hE : Ext w (w.alloc (.cells #[.int .i64 t.n, .slice bS t.s.length cS, .bool t.null, vL, vU] 26)) := Upd.alloc (Upd.refl _ _) _
  refine fn_of_W Try.func34 rfl Try.results34 Try.ntmps34 rfl ?_
  subst h9
  have hwl : (wholeS t.s).length ≤ 32767 := by simp only [wholeS, List.length_take]; omega
  repeat ((first | refine W.seqR rfl ?_ | refine W.seq ?_ | refine W.regR rfl ?_ | refine W.condK ?_ | refine W.block ?_ | refine W.skip ?_ | refine W.ret ?_ | refine W.exit ?_); try simp (disch := (first | omega | (simp only [World.size_alloc, size_wr, size_drew]; done) | (simp only [World.size_alloc, size_wr, size_drew]; omega) | exact not_noB _)) only [go_sem, ↓reduceIte, Nat.reduceEqDiff, reduceCtorEq, Nat.reduceAdd, Nat.reduceMul, Nat.reduceSub, Nat.reduceLT, Nat.reduceLeDiff, Int.reduceEq, Int.reduceLT, Int.reduceLE, Int.reduceNeg, Int.reduceAdd, Int.reduceSub, Int.reduceMul, Int.reduceToNat, ca_17, ca_18, ca_27, ca_33, ca_35, fo_26_0, fo_26_1, it_5, kn_2, ld_2, ld_22, ld_26, se_22, sl_22, f1, f2, f3])
  refine (whole_fn t.s _ _ (hS.keep (hE.keeps _))).mono ?_
  rintro v1 w1 ⟨hw1, rfl⟩
  obtain ⟨b1, c1, rfl, hc1⟩ := hw1.shape
  cases null with
  | true =>
    repeat ((first | refine W.seqR rfl ?_ | refine W.seq ?_ | refine W.regR rfl ?_ | refine W.condK ?_ | refine W.block ?_ | refine W.skip ?_ | refine W.ret ?_ | refine W.exit ?_); try simp (disch := (first | omega | (simp only [World.size_alloc, size_wr, size_drew]; done) | (simp only [World.size_alloc, size_wr, size_drew]; omega) | exact not_noB _)) only [go_sem, ↓reduceIte, Nat.reduceEqDiff, reduceCtorEq, Nat.reduceAdd, Nat.reduceMul, Nat.reduceSub, Nat.reduceLT, Nat.reduceLeDiff, Int.reduceEq, Int.reduceLT, Int.reduceLE, Int.reduceNeg, Int.reduceAdd, Int.reduceSub, Int.reduceMul, Int.reduceToNat, ca_17, ca_18, ca_27, ca_33, ca_35, fo_26_0, fo_26_1, it_5, kn_2, ld_2, ld_22, ld_26, se_22, sl_22])
    refine (counted_fn flex true 0 4 (by omega) (by omega) _).mono ?_
    rintro v2 w2 ⟨ho, he⟩
    have hcl := countedS_len flex true 0 4 (by omega) (by omega)
    refine wp_append ap_22_22 (m := 0) (news := []) (n := (countedS flex true 0 4).length) (cs := (countedS flex true 0 4).map byteV) (v := v2) ?_ rfl (ho.mono (B' := w.heap.size) (by simp only [World.size_alloc]; omega)) (flat_bytes _) ⟨rfl, rfl, .inl ⟨none, 0, 0, rfl, rfl, .inl rfl⟩⟩ ?_ ?_ ?_
    · simp (disch := (first | omega | (simp only [World.size_alloc, size_wr, size_drew]; done) | (simp only [World.size_alloc, size_wr, size_drew]; omega) | exact not_noB _)) only [go_sem, ↓reduceIte, Nat.reduceEqDiff, reduceCtorEq, Nat.reduceAdd, Nat.reduceMul, Nat.reduceSub, Nat.reduceLT, Nat.reduceLeDiff, Int.reduceEq, Int.reduceLT, Int.reduceLE, Int.reduceNeg, Int.reduceAdd, Int.reduceSub, Int.reduceMul, Int.reduceToNat]
    · have := he.size; simp only [World.size_alloc] at this; omega
    · omega
    intro v' w4 ho4 hu hfr
    simp (disch := (first | omega | (simp only [World.size_alloc, size_wr, size_drew]; done) | (simp only [World.size_alloc, size_wr, size_drew]; omega) | exact not_noB _)) only [go_sem, ↓reduceIte, Nat.reduceEqDiff, reduceCtorEq, Nat.reduceAdd, Nat.reduceMul, Nat.reduceSub, Nat.reduceLT, Nat.reduceLeDiff, Int.reduceEq, Int.reduceLT, Int.reduceLE, Int.reduceNeg, Int.reduceAdd, Int.reduceSub, Int.reduceMul, Int.reduceToNat]
    repeat ((first | refine W.seqR rfl ?_ | refine W.seq ?_ | refine W.regR rfl ?_ | refine W.condK ?_ | refine W.block ?_ | refine W.skip ?_ | refine W.ret ?_ | refine W.exit ?_); try simp (disch := (first | omega | (simp only [World.size_alloc, size_wr, size_drew]; done) | (simp only [World.size_alloc, size_wr, size_drew]; omega) | exact not_noB _)) only [go_sem, ↓reduceIte, Nat.reduceEqDiff, reduceCtorEq, Nat.reduceAdd, Nat.reduceMul, Nat.reduceSub, Nat.reduceLT, Nat.reduceLeDiff, Int.reduceEq, Int.reduceLT, Int.reduceLE, Int.reduceNeg, Int.reduceAdd, Int.reduceSub, Int.reduceMul, Int.reduceToNat, ca_17, ca_18, ca_27, ca_33, ca_35, fo_26_0, fo_26_1, it_5, kn_2, ld_2, ld_22, ld_26, se_22, sl_22])
    refine ⟨?_, ?_⟩
    · simp only [valueS]
      exact OwnBy.app (s := countedS flex true 0 4) (t := []) ho4 rfl
    · exact Ext.own (hE.trans he) (ho.mono (B' := w.heap.size) (by simp only [World.size_alloc]; omega)) hu
  | false =>
    repeat ((first | refine W.seqR rfl ?_ | refine W.seq ?_ | refine W.regR rfl ?_ | refine W.condK ?_ | refine W.block ?_ | refine W.skip ?_ | refine W.ret ?_ | refine W.exit ?_); try simp (disch := (first | omega | (simp only [World.size_alloc, size_wr, size_drew]; done) | (simp only [World.size_alloc, size_wr, size_drew]; omega) | exact not_noB _)) only [go_sem, ↓reduceIte, Nat.reduceEqDiff, reduceCtorEq, Nat.reduceAdd, Nat.reduceMul, Nat.reduceSub, Nat.reduceLT, Nat.reduceLeDiff, Int.reduceEq, Int.reduceLT, Int.reduceLE, Int.reduceNeg, Int.reduceAdd, Int.reduceSub, Int.reduceMul, Int.reduceToNat, ca_17, ca_18, ca_27, ca_33, ca_35, fo_26_0, fo_26_1, it_5, kn_2, ld_2, ld_22, ld_26, se_22, sl_22])
    refine (counted_fn flex false (wholeS t.s).length 4 (by omega) (by omega) _).mono ?_
    rintro v2 w2 ⟨ho, he⟩
    have hcl := countedS_len flex false (wholeS t.s).length 4 (by omega) (by omega)
    have hsz := he.size
    simp only [World.size_alloc] at hsz
    refine wp_append ap_22_22 (m := (wholeS t.s).length) (news := (wholeS t.s).map byteV) (n := (countedS flex false (wholeS t.s).length 4).length) (cs := (countedS flex false (wholeS t.s).length 4).map byteV) (v := v2) ?_ rfl (ho.mono (B' := w.heap.size) (by simp only [World.size_alloc]; omega)) (flat_bytes _) ?_ ?_ ?_ ?_
    · simp (disch := (first | omega | (simp only [World.size_alloc, size_wr, size_drew]; done) | (simp only [World.size_alloc, size_wr, size_drew]; omega) | exact not_noB _)) only [go_sem, ↓reduceIte, Nat.reduceEqDiff, reduceCtorEq, Nat.reduceAdd, Nat.reduceMul, Nat.reduceSub, Nat.reduceLT, Nat.reduceLeDiff, Int.reduceEq, Int.reduceLT, Int.reduceLE, Int.reduceNeg, Int.reduceAdd, Int.reduceSub, Int.reduceMul, Int.reduceToNat]
    · have := (hw1.keep (he.keeps _)).src
      simp (disch := (first | omega | (simp only [World.size_alloc, size_wr, size_drew]; done) | (simp only [World.size_alloc, size_wr, size_drew]; omega) | exact not_noB _)) only [go_sem, ↓reduceIte, Nat.reduceEqDiff, reduceCtorEq, Nat.reduceAdd, Nat.reduceMul, Nat.reduceSub, Nat.reduceLT, Nat.reduceLeDiff, Int.reduceEq, Int.reduceLT, Int.reduceLE, Int.reduceNeg, Int.reduceAdd, Int.reduceSub, Int.reduceMul, Int.reduceToNat]
      exact this
    · omega
    · omega
    intro v' w4 ho4 hu hfr
    simp (disch := (first | omega | (simp only [World.size_alloc, size_wr, size_drew]; done) | (simp only [World.size_alloc, size_wr, size_drew]; omega) | exact not_noB _)) only [go_sem, ↓reduceIte, Nat.reduceEqDiff, reduceCtorEq, Nat.reduceAdd, Nat.reduceMul, Nat.reduceSub, Nat.reduceLT, Nat.reduceLeDiff, Int.reduceEq, Int.reduceLT, Int.reduceLE, Int.reduceNeg, Int.reduceAdd, Int.reduceSub, Int.reduceMul, Int.reduceToNat]
    repeat ((first | refine W.seqR rfl ?_ | refine W.seq ?_ | refine W.regR rfl ?_ | refine W.condK ?_ | refine W.block ?_ | refine W.skip ?_ | refine W.ret ?_ | refine W.exit ?_); try simp (disch := (first | omega | (simp only [World.size_alloc, size_wr, size_drew]; done) | (simp only [World.size_alloc, size_wr, size_drew]; omega) | exact not_noB _)) only [go_sem, ↓reduceIte, Nat.reduceEqDiff, reduceCtorEq, Nat.reduceAdd, Nat.reduceMul, Nat.reduceSub, Nat.reduceLT, Nat.reduceLeDiff, Int.reduceEq, Int.reduceLT, Int.reduceLE, Int.reduceNeg, Int.reduceAdd, Int.reduceSub, Int.reduceMul, Int.reduceToNat, ca_17, ca_18, ca_27, ca_33, ca_35, fo_26_0, fo_26_1, it_5, kn_2, ld_2, ld_22, ld_26, se_22, sl_22])
    refine ⟨?_, ?_⟩
    · simp only [valueS]
      exact OwnBy.app (s := countedS flex false (wholeS t.s).length 4) (t := wholeS t.s) ho4 rfl
    · exact Ext.own (hE.trans he) (ho.mono (B' := w.heap.size) (by simp only [World.size_alloc]; omega)) hu

theorem value_k10 {ok : Blocks} (pt : List Fld → Int → Bool → Tree → List UInt8) (kind : Int) (sub : List Fld) (null : Bool) (ver : Int) (flex : Bool) (t : Tree) (vs : Value) (ct : List Value) (w : World) (hs : FldsV ok w vs sub) (ht : TreeC ok w t ct) (hsm : Small 4611686018427387903 t)
    (hlen : (valueS pt kind sub null ver flex t).length ≤ 2 ^ 40) (h10 : kind = 10) (hpart : ∀ w', Ext w w' → Fn Try.prog 27 #[vs, .int .i64 ver, .bool flex, .agg ct.toArray] w' fun r w'' => OwnBy 5 w'.heap.size w'' r (pt sub ver flex t) ∧ Ext w' w'') :
    Fn Try.prog 34 #[.int .i64 kind, vs, .bool null, .int .i64 ver, .bool flex, .agg ct.toArray] w fun r w' => OwnBy 5 w.heap.size w' r (valueS pt kind sub null ver flex t) ∧ Ext w w' := by
  obtain ⟨vS, vL, vU, rfl, hn, hS, hL, hU⟩ := ht.inv
  have hl1 := hsm.s
  have hl2 := hsm.l
  have f1 := hS.flat
  have f2 := SlR.flat hL
  have f3 := SlR.flat hU
  obtain ⟨bS, cS, rfl, hcS⟩ := hS.shape
  have hE : Ext w (w.alloc (.cells #[.int .i64 t.n, .slice bS t.s.length cS, .bool t.null, vL, vU] 26)) := Upd.alloc (Upd.refl _ _) _
  refine fn_of_W Try.func34 rfl Try.results34 Try.ntmps34 rfl ?_
  subst h10
  repeat ((first | refine W.seqR rfl ?_ | refine W.seq ?_ | refine W.regR rfl ?_ | refine W.condK ?_ | refine W.block ?_ | refine W.skip ?_ | refine W.ret ?_ | refine W.exit ?_); try simp (disch := (first | omega | (simp only [World.size_alloc, size_wr, size_drew]; done) | (simp only [World.size_alloc, size_wr, size_drew]; omega) | exact not_noB _)) only [go_sem, ↓reduceIte, Nat.reduceEqDiff, reduceCtorEq, Nat.reduceAdd, Nat.reduceMul, Nat.reduceSub, Nat.reduceLT, Nat.reduceLeDiff, Int.reduceEq, Int.reduceLT, Int.reduceLE, Int.reduceNeg, Int.reduceAdd, Int.reduceSub, Int.reduceMul, Int.reduceToNat, ca_17, ca_18, ca_27, ca_33, ca_35, fo_26_0, fo_26_1, it_5, kn_2, ld_2, ld_22, ld_26, se_22, sl_22, f1, f2, f3, cellsAt_five])
  refine (hpart _ hE).mono ?_
  rintro v5 w5 ⟨ho5, he5⟩
  repeat ((first | refine W.seqR rfl ?_ | refine W.seq ?_ | refine W.regR rfl ?_ | refine W.condK ?_ | refine W.block ?_ | refine W.skip ?_ | refine W.ret ?_ | refine W.exit ?_); try simp (disch := (first | omega | (simp only [World.size_alloc, size_wr, size_drew]; done) | (simp only [World.size_alloc, size_wr, size_drew]; omega) | exact not_noB _)) only [go_sem, ↓reduceIte, Nat.reduceEqDiff, reduceCtorEq, Nat.reduceAdd, Nat.reduceMul, Nat.reduceSub, Nat.reduceLT, Nat.reduceLeDiff, Int.reduceEq, Int.reduceLT, Int.reduceLE, Int.reduceNeg, Int.reduceAdd, Int.reduceSub, Int.reduceMul, Int.reduceToNat, ca_17, ca_18, ca_27, ca_33, ca_35, fo_26_0, fo_26_1, it_5, kn_2, ld_2, ld_22, ld_26, se_22, sl_22])
  refine ⟨?_, hE.trans he5⟩
  simp only [valueS]
  exact ho5.mono (by simp only [World.size_alloc]; omega)

theorem value_k7 {ok : Blocks} (pt : List Fld → Int → Bool → Tree → List UInt8) (kind : Int) (sub : List Fld) (null : Bool) (ver : Int) (flex : Bool) (t : Tree) (vs : Value) (ct : List Value) (w : World) (hs : FldsV ok w vs sub) (ht : TreeC ok w t ct) (hsm : Small 4611686018427387903 t)
    (hlen : (valueS pt kind sub null ver flex t).length ≤ 2 ^ 40) (h7 : kind = 7) :
    Fn Try.prog 34 #[.int .i64 kind, vs, .bool null, .int .i64 ver, .bool flex, .agg ct.toArray] w fun r w' => OwnBy 5 w.heap.size w' r (valueS pt kind sub null ver flex t) ∧ Ext w w' := by
  obtain ⟨vS, vL, vU, rfl, hn, hS, hL, hU⟩ := ht.inv
  have hl1 := hsm.s
  have hl2 := hsm.l
  have f1 := hS.flat
  have f2 := SlR.flat hL
  have f3 := SlR.flat hU
  obtain ⟨bS, cS, rfl, hcS⟩ := hS.shape
  have hE : Ext w (w.alloc (.cells #[.int .i64 t.n, .slice bS t.s.length cS, .bool t.null, vL, vU] 26)) := Upd.alloc (Upd.refl _ _) _
  refine fn_of_W Try.func34 rfl Try.results34 Try.ntmps34 rfl ?_
  subst h7
  repeat ((first | refine W.seqR rfl ?_ | refine W.seq ?_ | refine W.regR rfl ?_ | refine W.condK ?_ | refine W.block ?_ | refine W.skip ?_ | refine W.ret ?_ | refine W.exit ?_); try simp (disch := (first | omega | (simp only [World.size_alloc, size_wr, size_drew]; done) | (simp only [World.size_alloc, size_wr, size_drew]; omega) | exact not_noB _)) only [go_sem, ↓reduceIte, Nat.reduceEqDiff, reduceCtorEq, Nat.reduceAdd, Nat.reduceMul, Nat.reduceSub, Nat.reduceLT, Nat.reduceLeDiff, Int.reduceEq, Int.reduceLT, Int.reduceLE, Int.reduceNeg, Int.reduceAdd, Int.reduceSub, Int.reduceMul, Int.reduceToNat, ca_17, ca_18, ca_27, ca_33, ca_35, fo_26_0, fo_26_1, it_5, kn_2, ld_2, ld_22, ld_26, se_22, sl_22, f1, f2, f3])
  refine wp_make (T := 22) (E := 5) (size := 1) (bytes := 1) (z := .int .u8 0) (by kernel_rfl) (by kernel_rfl) (kl := .i64) (kc := .i64) (l := 16) (c := 16) ?_ ?_ (by omega) (by omega) (by omega) ?_
  · rfl
  · rfl
  rw [show (Value.int .u8 0).cells = #[Value.int .u8 0] from rfl, made_one]
  have hw3 : Ext w ((w.alloc (.cells #[.int .i64 t.n, .slice bS t.s.length cS, .bool t.null, vL, vU] 26)).alloc (.cells (List.replicate (16 * 1) (Value.int IntKind.u8 0)).toArray 5)) := hE.alloc _
  have hsz : (w.alloc (.cells #[.int .i64 t.n, .slice bS t.s.length cS, .bool t.null, vL, vU] 26)).heap.size = w.heap.size + 1 := by simp only [World.size_alloc]
  simp (disch := (first | omega | (simp only [World.size_alloc, size_wr, size_drew]; done) | (simp only [World.size_alloc, size_wr, size_drew]; omega) | exact not_noB _)) only [go_sem, ↓reduceIte, Nat.reduceEqDiff, reduceCtorEq, Nat.reduceAdd, Nat.reduceMul, Nat.reduceSub, Nat.reduceLT, Nat.reduceLeDiff, Int.reduceEq, Int.reduceLT, Int.reduceLE, Int.reduceNeg, Int.reduceAdd, Int.reduceSub, Int.reduceMul, Int.reduceToNat]
  repeat ((first | refine W.seqR rfl ?_ | refine W.seq ?_ | refine W.regR rfl ?_ | refine W.condK ?_ | refine W.block ?_ | refine W.skip ?_ | refine W.ret ?_ | refine W.exit ?_); try simp (disch := (first | omega | (simp only [World.size_alloc, size_wr, size_drew]; done) | (simp only [World.size_alloc, size_wr, size_drew]; omega) | exact not_noB _)) only [go_sem, ↓reduceIte, Nat.reduceEqDiff, reduceCtorEq, Nat.reduceAdd, Nat.reduceMul, Nat.reduceSub, Nat.reduceLT, Nat.reduceLeDiff, Int.reduceEq, Int.reduceLT, Int.reduceLE, Int.reduceNeg, Int.reduceAdd, Int.reduceSub, Int.reduceMul, Int.reduceToNat, ca_17, ca_18, ca_27, ca_33, ca_35, fo_26_0, fo_26_1, it_5, kn_2, ld_2, ld_22, ld_26, se_22, sl_22, f1, f2, f3])
  refine wp_copy (E := 5) (n := 16) (b := w.heap.size + 1) (cap := 16) (m := t.s.length) (c := cS) (base := bS) (s := t.s) (xb := ((List.replicate 16 (Value.int .u8 0)).toArray, 5, (0, 0))) (by kernel_rfl) (by kernel_rfl) ?_ ?_ (hS.keep (hw3.keeps _)) ?_ ?_ rfl ?_
  · simp (disch := (first | omega | (simp only [World.size_alloc, size_wr, size_drew]; done) | (simp only [World.size_alloc, size_wr, size_drew]; omega) | exact not_noB _)) only [go_sem, ↓reduceIte, Nat.reduceEqDiff, reduceCtorEq, Nat.reduceAdd, Nat.reduceMul, Nat.reduceSub, Nat.reduceLT, Nat.reduceLeDiff, Int.reduceEq, Int.reduceLT, Int.reduceLE, Int.reduceNeg, Int.reduceAdd, Int.reduceSub, Int.reduceMul, Int.reduceToNat]
  · simp (disch := (first | omega | (simp only [World.size_alloc, size_wr, size_drew]; done) | (simp only [World.size_alloc, size_wr, size_drew]; omega) | exact not_noB _)) only [go_sem, ↓reduceIte, Nat.reduceEqDiff, reduceCtorEq, Nat.reduceAdd, Nat.reduceMul, Nat.reduceSub, Nat.reduceLT, Nat.reduceLeDiff, Int.reduceEq, Int.reduceLT, Int.reduceLE, Int.reduceNeg, Int.reduceAdd, Int.reduceSub, Int.reduceMul, Int.reduceToNat]
  · rw [blk_alloc_new (by omega)]
  · simp
  intro v
  simp (disch := (first | omega | (simp only [World.size_alloc, size_wr, size_drew]; done) | (simp only [World.size_alloc, size_wr, size_drew]; omega) | exact not_noB _)) only [go_sem, ↓reduceIte, Nat.reduceEqDiff, reduceCtorEq, Nat.reduceAdd, Nat.reduceMul, Nat.reduceSub, Nat.reduceLT, Nat.reduceLeDiff, Int.reduceEq, Int.reduceLT, Int.reduceLE, Int.reduceNeg, Int.reduceAdd, Int.reduceSub, Int.reduceMul, Int.reduceToNat]
  repeat ((first | refine W.seqR rfl ?_ | refine W.seq ?_ | refine W.regR rfl ?_ | refine W.condK ?_ | refine W.block ?_ | refine W.skip ?_ | refine W.ret ?_ | refine W.exit ?_); try simp (disch := (first | omega | (simp only [World.size_alloc, size_wr, size_drew]; done) | (simp only [World.size_alloc, size_wr, size_drew]; omega) | exact not_noB _)) only [go_sem, ↓reduceIte, Nat.reduceEqDiff, reduceCtorEq, Nat.reduceAdd, Nat.reduceMul, Nat.reduceSub, Nat.reduceLT, Nat.reduceLeDiff, Int.reduceEq, Int.reduceLT, Int.reduceLE, Int.reduceNeg, Int.reduceAdd, Int.reduceSub, Int.reduceMul, Int.reduceToNat, ca_17, ca_18, ca_27, ca_33, ca_35, fo_26_0, fo_26_1, it_5, kn_2, ld_2, ld_22, ld_26, se_22, sl_22, f1, f2, f3])
  refine ⟨?_, hw3.wr _ _ (.inl (by omega))⟩
  have e : valueS pt 7 sub null ver flex t = t.s.take 16 ++ List.replicate (16 - t.s.length) 0 := by simp [valueS]
  have hl16 : (t.s.take 16 ++ List.replicate (16 - t.s.length) 0).length = 16 := by
    simp only [List.length_append, List.length_take, List.length_replicate]; omega
  rw [e]
  have hb := blk_wr_eq (w := (w.alloc (.cells #[.int .i64 t.n, .slice bS t.s.length cS, .bool t.null, vL, vU] 26)).alloc (.cells (List.replicate 16 (Value.int IntKind.u8 0)).toArray 5)) (b := w.heap.size + 1) (o := 0) (vs := (t.s.take 16).map byteV)
  rw [blk_alloc_new (by omega), Option.map_some] at hb
  have ha : wrArr (List.replicate 16 (Value.int IntKind.u8 0)).toArray 0 ((t.s.take 16).map byteV) = ((t.s.take 16 ++ List.replicate (16 - t.s.length) 0).map byteV).toArray := by
    apply Array.ext_getElem?
    intro k
    rw [wrArr_get]
    simp only [List.size_toArray, List.length_replicate, List.getElem?_toArray, List.length_map, List.length_take, List.map_append, List.map_replicate]
    have hb0 : byteV 0 = Value.int IntKind.u8 0 := rfl
    rw [hb0]
    simp only [List.getElem?_append, List.length_map, List.length_take, List.getElem?_replicate]
    by_cases h1 : k < min 16 t.s.length
    · rw [if_pos (by omega), if_pos h1]; rfl
    · rw [if_neg (by omega), if_neg h1]
      by_cases h2 : k < 16
      · rw [if_pos h2, if_pos (by omega)]
      · rw [if_neg h2, if_neg (by omega)]
  rw [ha] at hb
  have := Own.blk (B := w.heap.size) (size := 1) (n := 16) hb (by rw [List.length_map, hl16]) (by omega)
  show Own _ _ _ 1 _ (t.s.take 16 ++ List.replicate (16 - t.s.length) 0).length _
  rw [hl16]
  exact this

theorem value_kd {ok : Blocks} (pt : List Fld → Int → Bool → Tree → List UInt8) (kind : Int) (sub : List Fld) (null : Bool) (ver : Int) (flex : Bool) (t : Tree) (vs : Value) (ct : List Value) (w : World) (hs : FldsV ok w vs sub) (ht : TreeC ok w t ct) (hsm : Small 4611686018427387903 t)
    (hlen : (valueS pt kind sub null ver flex t).length ≤ 2 ^ 40) (h0 : kind ≠ 0) (h7 : kind ≠ 7) (h8 : kind ≠ 8) (h9 : kind ≠ 9) (h10 : kind ≠ 10) :
    Fn Try.prog 34 #[.int .i64 kind, vs, .bool null, .int .i64 ver, .bool flex, .agg ct.toArray] w fun r w' => OwnBy 5 w.heap.size w' r (valueS pt kind sub null ver flex t) ∧ Ext w w' := by
  obtain ⟨vS, vL, vU, rfl, hn, hS, hL, hU⟩ := ht.inv
  have hl1 := hsm.s
  have hl2 := hsm.l
  have f1 := hS.flat
  have f2 := SlR.flat hL
  have f3 := SlR.flat hU
  obtain ⟨bS, cS, rfl, hcS⟩ := hS.shape
  have hE : Ext w (w.alloc (.cells #[.int .i64 t.n, .slice bS t.s.length cS, .bool t.null, vL, vU] 26)) := Upd.alloc (Upd.refl _ _) _
  refine fn_of_W Try.func34 rfl Try.results34 Try.ntmps34 rfl ?_
  repeat ((first | refine W.seqR rfl ?_ | refine W.seq ?_ | refine W.regR rfl ?_ | refine W.condK ?_ | refine W.block ?_ | refine W.skip ?_ | refine W.ret ?_ | refine W.exit ?_); try simp (disch := (first | omega | (simp only [World.size_alloc, size_wr, size_drew]; done) | (simp only [World.size_alloc, size_wr, size_drew]; omega) | exact not_noB _)) only [go_sem, ↓reduceIte, Nat.reduceEqDiff, reduceCtorEq, Nat.reduceAdd, Nat.reduceMul, Nat.reduceSub, Nat.reduceLT, Nat.reduceLeDiff, Int.reduceEq, Int.reduceLT, Int.reduceLE, Int.reduceNeg, Int.reduceAdd, Int.reduceSub, Int.reduceMul, Int.reduceToNat, ca_17, ca_18, ca_27, ca_33, ca_35, fo_26_0, fo_26_1, it_5, kn_2, ld_2, ld_22, ld_26, se_22, sl_22, f1, f2, f3])
  refine W.drawR (.take 0 (.take 1 (.take 2 (.only 3 (.only 4 (.only 5 .done)))))) NoB mixed (by kernel_rfl) ?_
  simp (disch := (first | omega | (simp only [World.size_alloc, size_wr, size_drew]; done) | (simp only [World.size_alloc, size_wr, size_drew]; omega) | exact not_noB _)) only [go_sem, ↓reduceIte, Nat.reduceEqDiff, reduceCtorEq, Nat.reduceAdd, Nat.reduceMul, Nat.reduceSub, Nat.reduceLT, Nat.reduceLeDiff, Int.reduceEq, Int.reduceLT, Int.reduceLE, Int.reduceNeg, Int.reduceAdd, Int.reduceSub, Int.reduceMul, Int.reduceToNat, ca_17, ca_18, ca_27, ca_33, ca_35, fo_26_0, fo_26_1, it_5, kn_2, ld_2, ld_22, ld_26, se_22, sl_22, f1, f2, f3]
  have hw4 := hE.drew
  refine (Width_fn kind _).mono ?_
  rintro _ _ ⟨rfl, rfl⟩
  refine ⟨Upd.refl _ _, ?_⟩
  refine (Fixed_fn t.n (widthS kind) (widthS_le _) _).mono ?_
  rintro v5 w5 ⟨ho5, he5⟩
  refine ⟨he5, he5, ?_⟩
  repeat ((first | refine W.seqR rfl ?_ | refine W.seq ?_ | refine W.regR rfl ?_ | refine W.condK ?_ | refine W.block ?_ | refine W.skip ?_ | refine W.ret ?_ | refine W.exit ?_); try simp (disch := (first | omega | (simp only [World.size_alloc, size_wr, size_drew]; done) | (simp only [World.size_alloc, size_wr, size_drew]; omega) | exact not_noB _)) only [go_sem, ↓reduceIte, Nat.reduceEqDiff, reduceCtorEq, Nat.reduceAdd, Nat.reduceMul, Nat.reduceSub, Nat.reduceLT, Nat.reduceLeDiff, Int.reduceEq, Int.reduceLT, Int.reduceLE, Int.reduceNeg, Int.reduceAdd, Int.reduceSub, Int.reduceMul, Int.reduceToNat, ca_17, ca_18, ca_27, ca_33, ca_35, fo_26_0, fo_26_1, it_5, kn_2, ld_2, ld_22, ld_26, se_22, sl_22])
  refine ⟨?_, hw4.trans he5⟩
  have e : valueS pt kind sub null ver flex t = fixedS t.n (widthS kind) := by simp [valueS, h0, h7, h8, h9, h10]
  rw [e]
  exact ho5.mono (by simp only [size_drew, World.size_alloc]; omega)

theorem value_fn {ok : Blocks} (pt : List Fld → Int → Bool → Tree → List UInt8) (kind : Int) (sub : List Fld) (null : Bool) (ver : Int) (flex : Bool) (t : Tree) (vs : Value) (ct : List Value) (w : World) (hs : FldsV ok w vs sub) (ht : TreeC ok w t ct) (hsm : Small 4611686018427387903 t)
    (hlen : (valueS pt kind sub null ver flex t).length ≤ 2 ^ 40)
    (hpart : kind = 10 → ∀ w', Ext w w' → Fn Try.prog 27 #[vs, .int .i64 ver, .bool flex, .agg ct.toArray] w' fun r w'' => OwnBy 5 w'.heap.size w'' r (pt sub ver flex t) ∧ Ext w' w'') :
    Fn Try.prog 34 #[.int .i64 kind, vs, .bool null, .int .i64 ver, .bool flex, .agg ct.toArray] w fun r w' => OwnBy 5 w.heap.size w' r (valueS pt kind sub null ver flex t) ∧ Ext w w' := by
  by_cases h0 : kind = 0
  · exact value_k0 pt kind sub null ver flex t vs ct w hs ht hsm hlen h0
  by_cases h7 : kind = 7
  · exact value_k7 pt kind sub null ver flex t vs ct w hs ht hsm hlen h7
  by_cases h8 : kind = 8
  · exact value_k8 pt kind sub null ver flex t vs ct w hs ht hsm hlen h8
  by_cases h9 : kind = 9
  · exact value_k9 pt kind sub null ver flex t vs ct w hs ht hsm hlen h9
  by_cases h10 : kind = 10
  · exact value_k10 pt kind sub null ver flex t vs ct w hs ht hsm hlen h10 (hpart h10)
  exact value_kd pt kind sub null ver flex t vs ct w hs ht hsm hlen h0 h7 h8 h9 h10
end Ms
