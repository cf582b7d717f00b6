/- A part of the proof: see the last text. -/
import Derived.Test.YtaebchgadbafjaaC02
import Derived.Test.YtaebchgadbafjaaC08
import Derived.Test.YtaebchgadbafjaaListTransactionsRequestP0
set_option linter.unusedSimpArgs false
set_option linter.unusedVariables false
namespace Ms
open Nat renaming reduceEqDiff → n0, reduceAdd → n1, reduceMul → n2, reduceSub → n3, reduceLT → n4, reduceLeDiff → n5
open Int renaming reduceEq → i0, reduceLT → i1, reduceLE → i2, reduceNeg → i3, reduceAdd → i4, reduceSub → i5, reduceMul → i6, reduceToNat → i7
set_option maxRecDepth 8000
open Go Go.Proofs Go.Shelf
attribute [local congr] W_congr WPsq_congr WPp_congr optK_congr addrK_congr intK_congr boolK_congr sliceK_congr tupleK_congr funcK_congr Fn_congr rawK_congr takeK_congr stepK_congr convK_congr aggK_congr

set_option maxHeartbeats 4000000 in
theorem appListTransactionsRequest_2 {d B : Nat} {okM : Blocks} {ver : Int} (hlo : 2 ≤ ver) (hhi : ver ≤ 2) (t : Tree) (cells : List Value) (v : Value) (s : List UInt8) (w : World) {vb : Nat} (ho : OwnBy 5 B w v s) (hB : B ≤ w.heap.size) (hvb : blk w vb = some ((.int .i16 ver :: cells).toArray, 75, (0, 0)))
    (hR : RepS true (d + 1) fs_ListTransactionsRequest okM w t cells) (hfit : FitP ver (d + 1) fs_ListTransactionsRequest t) (hd : ∀ b, b < w.heap.size → okM b → ¬ ownB v b) (hdv : ¬ ownB v vb) (hlen : s.length + (partS (d + 1) fs_ListTransactionsRequest ver true t).length ≤ 2 ^ 41) :
    Fn Try.prog 65 #[.pointer (some ⟨vb, 0, none⟩), v] w fun r w' => AppR 5 B w v s (partS (d + 1) fs_ListTransactionsRequest ver true t) r w' := by
  obtain ⟨⟨g_0, g_1, g_2, g_3, -⟩, hfu⟩ := hfit
  replace g_0 : FitF (FitP ver d) ver fListTransactionsRequest_0 (t.at 0) := g_0
  replace g_1 : FitF (FitP ver d) ver fListTransactionsRequest_1 (t.at 1) := g_1
  replace g_2 : FitF (FitP ver d) ver fListTransactionsRequest_2 (t.at 2) := g_2
  replace g_3 : FitF (FitP ver d) ver fListTransactionsRequest_3 (t.at 3) := g_3
  obtain ⟨cs, q, hcs, hL, hT⟩ := hR.inv
  obtain ⟨c_0, e_0, rfl, h_0, c_1, e_1, rfl, h_1, c_2, e_2, rfl, h_2, c_3, e_3, rfl, h_3, rfl⟩ := hL
  replace h_0 : RepF (RepS true d) (szS true d) fListTransactionsRequest_0 okM w (t.at 0) c_0 := h_0
  replace h_1 : RepF (RepS true d) (szS true d) fListTransactionsRequest_1 okM w (t.at 1) c_1 := h_1
  replace h_2 : RepF (RepS true d) (szS true d) fListTransactionsRequest_2 okM w (t.at 2) c_2 := h_2
  replace h_3 : RepF (RepS true d) (szS true d) fListTransactionsRequest_3 okM w (t.at 3) c_3 := h_3
  have hn_0 := g_0.notnull (by decide)
  obtain ⟨p_0, rfl, hs_0, -⟩ := (RepF_list rfl hn_0).1 h_0
  obtain ⟨ab_0, ac_0, rfl, _⟩ := SlR.shape hs_0
  have hll_0 := (g_0.list rfl).1
  have hn_1 := g_1.notnull (by decide)
  obtain ⟨p_1, rfl, hs_1, -⟩ := (RepF_list rfl hn_1).1 h_1
  obtain ⟨ab_1, ac_1, rfl, _⟩ := SlR.shape hs_1
  have hll_1 := (g_1.list rfl).1
  obtain rfl := (RepF_num (by decide)).1 h_2
  obtain ⟨p_3, rfl, hp_3⟩ := (RepF_ptr rfl (by decide)).1 h_3
  obtain ⟨qm, rfl⟩ := hT.shape
  have hv : blk w vb = some (#[.int .i16 ver, .slice ab_0 (t.at 0).l.length ac_0, .slice ab_1 (t.at 1).l.length ac_1, .int .i64 (t.at 2).n, p_3, .map qm], 75, (0, 0)) := by rw [hvb, hcs]; rfl
  clear hvb hcs
  have hh_0 : hasS fListTransactionsRequest_0 ver = true := hasS_t (by show (0 : Int) ≤ ver; omega) (by show (-1 : Int) < 0 ∨ ver ≤ (-1 : Int); omega)
  obtain ⟨XL_0, hXL_0⟩ : ∃ X, X = uvarS ((t.at 0).l.length + 1) := ⟨_, rfl⟩
  obtain ⟨XE_0, hXE_0⟩ : ∃ X, X = (t.at 0).l.flatMap (fun x : Tree => uvarS (x.s.length + 1) ++ x.s) := ⟨_, rfl⟩
  have hh_1 : hasS fListTransactionsRequest_1 ver = true := hasS_t (by show (0 : Int) ≤ ver; omega) (by show (-1 : Int) < 0 ∨ ver ≤ (-1 : Int); omega)
  obtain ⟨XL_1, hXL_1⟩ : ∃ X, X = uvarS ((t.at 1).l.length + 1) := ⟨_, rfl⟩
  obtain ⟨XE_1, hXE_1⟩ : ∃ X, X = (t.at 1).l.flatMap (fun x : Tree => fixedS x.n 8) := ⟨_, rfl⟩
  have hh_2 : hasS fListTransactionsRequest_2 ver = true := hasS_t (by show (1 : Int) ≤ ver; omega) (by show (-1 : Int) < 0 ∨ ver ≤ (-1 : Int); omega)
  obtain ⟨X_2, hXX_2⟩ : ∃ X, X = fixedS (t.at 2).n 8 := ⟨_, rfl⟩
  have hh_3 : hasS fListTransactionsRequest_3 ver = true := hasS_t (by show (2 : Int) ≤ ver; omega) (by show (-1 : Int) < 0 ∨ ver ≤ (-1 : Int); omega)
  obtain ⟨X_3, hXX_3⟩ : ∃ X, X = if (t.at 3).null = true then [0] else uvarS ((t.at 3).s.length + 1) ++ (t.at 3).s := ⟨_, rfl⟩
  obtain ⟨XU, hXU⟩ : ∃ X, X = uvarS t.u.length := ⟨_, rfl⟩
  obtain ⟨XT, hXT⟩ : ∃ X, X = t.u.flatMap oneTag := ⟨_, rfl⟩
  have hP : partS (d + 1) fs_ListTransactionsRequest ver true t = ((XL_0 ++ XE_0) ++ ((XL_1 ++ XE_1) ++ (X_2 ++ (X_3 ++ [])))) ++ (XU ++ XT) := by rw [hXU, hXT]; exact partS_yes rfl hfu (plainL_has (by decide) hh_0 ((fieldS_list_t (g := (fun x : Tree => uvarS (x.s.length + 1) ++ x.s)) g_0 rfl (by decide) (fun x hx => valueS_text (((g_0.list rfl).2 x hx).2.1 (.inl rfl)))).trans (by rw [hXL_0, hXE_0])) (plainL_has (by decide) hh_1 ((fieldS_list_t (g := (fun x : Tree => fixedS x.n 8)) g_1 rfl (by decide) (fun x _ => valueS_num 4 (by decide))).trans (by rw [hXL_1, hXE_1])) (plainL_has (by decide) hh_2 ((fieldS_num 4 rfl (by decide)).trans hXX_2.symm) (plainL_has (by decide) hh_3 ((fieldS_ptr_t g_3 rfl).trans hXX_3.symm) rfl))))
  rw [hP] at hlen
  simp only [List.length_append, List.length_nil] at hlen
  have hdK : ∀ {r : Value} {w' : World} {add : List UInt8}, AppR 5 B w v s add r w' → ∀ b, b < w'.heap.size → OkS okM w.heap.size b → ¬ ownB r b := fun h b _ hk ho => (h.frame b ho).elim (hd b hk.2 hk.1) (fun h => by have := hk.2; omega)
  have ownK : ∀ {r : Value} {w' : World} {add : List UInt8} {b : Nat}, AppR 5 B w v s add r w' → b < w.heap.size → ¬ ownB v b → ¬ ownB r b := fun h hb hn ho => (h.frame _ ho).elim hn (fun h => by omega)
  have ha0 : AppR 5 B w v s [] v w := AppR.refl ho
  obtain ⟨w0, hw0⟩ : ∃ w0, w0 = w := ⟨_, rfl⟩
  have hB0 := hB
  have hv_0 := hv
  refine fn_of_W Try.func65 rfl Try.results65 Try.ntmps65 rfl ?_
  repeat ((first | refine W.seqR rfl ?_ | refine W.seq ?_ | refine W.regR rfl ?_ | refine W.condK ?_ | refine W.block ?_ | refine W.skip ?_ | refine W.ret ?_ | refine W.exit ?_); try simp (maxSteps := 1000000) (disch := (first | omega | (simp only [World.size_alloc, size_wr, size_drew] <;> omega) | exact not_noB _)) only [go_sem, ↓reduceIte, n0, reduceCtorEq, n1, n2, n3, n4, n5, i0, i1, i2, i3, i4, i5, i6, i7, hv_0])
  refine (AppendCompactArrayLen_fn _ _ _ ha0.own hB0 (t.at 0).l.length hll_0 (by simp only [List.length_append, List.length_nil]; omega)).mono ?_
  rintro r1 w1 hc1
  rw [← hXL_0] at hc1
  have ha1 := ha0.trans hc1
  have hB1 : B ≤ w1.heap.size := Nat.le_trans hB ha1.upd.size
  have hv_1 := ha1.upd.blk_some hv hdv
  repeat ((first | refine W.seqR rfl ?_ | refine W.seq ?_ | refine W.regR rfl ?_ | refine W.condK ?_ | refine W.block ?_ | refine W.skip ?_ | refine W.ret ?_ | refine W.exit ?_); try simp (maxSteps := 1000000) (disch := (first | omega | (simp only [World.size_alloc, size_wr, size_drew] <;> omega) | exact not_noB _)) only [go_sem, ↓reduceIte, n0, reduceCtorEq, n1, n2, n3, n4, n5, i0, i1, i2, i3, i4, i5, i6, i7, hv_1])
  have hadd1 := ha1
  refine W.exitJ 0 (fun ρ w' => ∃ r, ρ 1 = r ∧ ρ 0 = .pointer (some ⟨vb, 0, none⟩) ∧ ρ 5 = .int .i16 ver ∧ ρ 6 = .bool true ∧ AppR 5 B w v s (([] ++ XL_0) ++ XE_0) r w')
    (W.loop (fun ρ w' => ∃ (j : Nat) (r : Value), j ≤ (t.at 0).l.length ∧ ρ 38 = .int .i64 j ∧ ρ 37 = .int .i64 (t.at 0).l.length ∧ ρ 7 = .slice ab_0 (t.at 0).l.length ac_0 ∧ ρ 1 = r ∧ ρ 0 = .pointer (some ⟨vb, 0, none⟩) ∧ ρ 5 = .int .i16 ver ∧ ρ 6 = .bool true ∧ AppR 5 B w v s (([] ++ XL_0) ++ ((t.at 0).l.take j).flatMap (fun x : Tree => uvarS (x.s.length + 1) ++ x.s)) r w')
      (fun ρ _ => (t.at 0).l.length - (RowKit.intOf (ρ 38)).toNat) ?_ ?_) ?_
  · refine ⟨0, _, Nat.zero_le _, ?_, ?_, ?_, ?_, ?_, ?_, ?_, ha1.eqs (by rw [List.take_zero, List.flatMap_nil, List.append_nil])⟩ <;> simp (maxSteps := 1000000) (disch := (first | omega | (simp only [World.size_alloc, size_wr, size_drew] <;> omega) | exact not_noB _)) only [go_sem, ↓reduceIte, n0, reduceCtorEq, n1, n2, n3, n4, n5, i0, i1, i2, i3, i4, i5, i6, i7]
    all_goals rfl
  · rintro ρ w2 ⟨j1, r2, hj1, hI1, hN1, hS1, hr1_1, hr1_0, hr1_5, hr1_6, ha2⟩
    have hB2 : B ≤ w2.heap.size := Nat.le_trans hB ha2.upd.size
    have hv_2 := ha2.upd.blk_some hv hdv
    by_cases hlt1 : j1 < (t.at 0).l.length
    · obtain ⟨_, b1, o1, x1, ce1, hb1, hok1, hx1, hbl1, hxs1, hxe1, hq1, hRe1⟩ := SlR.get (size := 1) (by decide) hs_0 hlt1
      subst hb1
      have hcat1 : (t.at 0).l.take (j1 + 1) = (t.at 0).l.take j1 ++ [(t.at 0).l[j1]] := List.take_succ_eq_append_getElem hlt1
      have htl1 := take_flatMap_len (t.at 0).l (fun x : Tree => uvarS (x.s.length + 1) ++ x.s) (j1 + 1)
      rw [← hXE_0, hcat1, List.flatMap_append, List.flatMap_cons, List.flatMap_nil, List.append_nil] at htl1
      have hge1 := (g_0.list rfl).2 _ (List.getElem_mem hlt1)
      generalize (t.at 0).l[j1] = y1 at *
      have hnx1 := hd b1 hbl1 hok1
      obtain ⟨T1, hTT1⟩ : ∃ T, T = ((t.at 0).l.take j1).flatMap (fun x : Tree => uvarS (x.s.length + 1) ++ x.s) := ⟨_, rfl⟩
      rw [← hTT1] at ha2 htl1
      have hx1_2 := ha2.upd.blk_some hx1 hnx1
      obtain rfl := Rep1_text.1 hRe1
      have hq1_0 : x1.1[o1 + j1]? = some (strV y1.s) := by have := hq1 0 (by decide); rw [Nat.mul_one] at this; exact this
      obtain ⟨Y1, hY1⟩ : ∃ Y, Y = uvarS ((y1).s.length + 1) ++ (y1).s := ⟨_, rfl⟩
      replace htl1 : (T1 ++ Y1).length ≤ XE_0.length := by rw [hY1]; exact htl1
      simp only [List.length_append] at htl1
      repeat ((first | refine W.seqR rfl ?_ | refine W.seq ?_ | refine W.regR rfl ?_ | refine W.condK ?_ | refine W.block ?_ | refine W.skip ?_ | refine W.ret ?_ | refine W.exit ?_); try simp (maxSteps := 1000000) (disch := (first | omega | (simp only [World.size_alloc, size_wr, size_drew] <;> omega) | exact not_noB _)) only [go_sem, ↓reduceIte, n0, reduceCtorEq, n1, n2, n3, n4, n5, i0, i1, i2, i3, i4, i5, i6, i7, hv_2, hx1_2, Int.toNat_natCast, Nat.mul_one, hq1_0, hr1_1, hr1_0, hr1_5, hr1_6, hI1, hN1, hS1])
      refine (AppendCompactString_fn _ _ _ ha2.own hB2 y1.s (hge1.2.1 (.inl rfl)) (by simp only [List.length_append, List.length_nil]; omega)).mono ?_
      rintro r3 w3 hc3
      rw [← hY1] at hc3
      have ha3 := ha2.trans hc3
      have hB3 : B ≤ w3.heap.size := Nat.le_trans hB ha3.upd.size
      have hv_3 := ha3.upd.blk_some hv hdv
      have hx1_3 := ha3.upd.blk_some hx1 hnx1
      repeat ((first | refine W.seqR rfl ?_ | refine W.seq ?_ | refine W.regR rfl ?_ | refine W.condK ?_ | refine W.block ?_ | refine W.skip ?_ | refine W.ret ?_ | refine W.exit ?_); try simp (maxSteps := 1000000) (disch := (first | omega | (simp only [World.size_alloc, size_wr, size_drew] <;> omega) | exact not_noB _)) only [go_sem, ↓reduceIte, n0, reduceCtorEq, n1, n2, n3, n4, n5, i0, i1, i2, i3, i4, i5, i6, i7, hr1_1, hr1_0, hr1_5, hr1_6, hI1, hN1, hS1])
      refine ⟨⟨j1 + 1, _, by omega, rfl, rfl, ha3.eqs ?_⟩, ?_⟩
      · rw [hcat1, List.flatMap_append, List.flatMap_cons, List.flatMap_nil, List.append_nil, ← hTT1, hY1]; simp only [List.append_assoc, List.append_nil, List.nil_append]
      · simp only [RowKit.intOf]; omega
    · have hjl1 : j1 = (t.at 0).l.length := by omega
      subst hjl1
      rw [List.take_length, ← hXE_0] at ha2
      repeat ((first | refine W.seqR rfl ?_ | refine W.seq ?_ | refine W.regR rfl ?_ | refine W.condK ?_ | refine W.block ?_ | refine W.skip ?_ | refine W.ret ?_ | refine W.exit ?_); try simp (maxSteps := 1000000) (disch := (first | omega | (simp only [World.size_alloc, size_wr, size_drew] <;> omega) | exact not_noB _)) only [go_sem, ↓reduceIte, n0, reduceCtorEq, n1, n2, n3, n4, n5, i0, i1, i2, i3, i4, i5, i6, i7, hI1, hN1])
      exact ⟨_, hr1_1, hr1_0, hr1_5, hr1_6, ha2⟩
  · rintro ρ w4 ⟨r4, hr1_2, hr2_0, hr2_5, hr2_6, ha4⟩
    have hB4 : B ≤ w4.heap.size := Nat.le_trans hB ha4.upd.size
    have hv_4 := ha4.upd.blk_some hv hdv
    repeat ((first | refine W.seqR rfl ?_ | refine W.seq ?_ | refine W.regR rfl ?_ | refine W.condK ?_ | refine W.block ?_ | refine W.skip ?_ | refine W.ret ?_ | refine W.exit ?_); try simp (maxSteps := 1000000) (disch := (first | omega | (simp only [World.size_alloc, size_wr, size_drew] <;> omega) | exact not_noB _)) only [go_sem, ↓reduceIte, n0, reduceCtorEq, n1, n2, n3, n4, n5, i0, i1, i2, i3, i4, i5, i6, i7, hv_4, hr1_2, hr2_0, hr2_5, hr2_6])
    refine (AppendCompactArrayLen_fn _ _ _ ha4.own hB4 (t.at 1).l.length hll_1 (by simp only [List.length_append, List.length_nil]; omega)).mono ?_
    rintro r5 w5 hc5
    rw [← hXL_1] at hc5
    have ha5 := ha4.trans hc5
    have hB5 : B ≤ w5.heap.size := Nat.le_trans hB ha5.upd.size
    have hv_5 := ha5.upd.blk_some hv hdv
    repeat ((first | refine W.seqR rfl ?_ | refine W.seq ?_ | refine W.regR rfl ?_ | refine W.condK ?_ | refine W.block ?_ | refine W.skip ?_ | refine W.ret ?_ | refine W.exit ?_); try simp (maxSteps := 1000000) (disch := (first | omega | (simp only [World.size_alloc, size_wr, size_drew] <;> omega) | exact not_noB _)) only [go_sem, ↓reduceIte, n0, reduceCtorEq, n1, n2, n3, n4, n5, i0, i1, i2, i3, i4, i5, i6, i7, hv_5, hr1_2, hr2_0, hr2_5, hr2_6])
    have hadd3 := ha5
    refine W.exitJ 2 (fun ρ w' => ∃ r, ρ 1 = r ∧ ρ 0 = .pointer (some ⟨vb, 0, none⟩) ∧ ρ 5 = .int .i16 ver ∧ ρ 6 = .bool true ∧ AppR 5 B w v s (([] ++ XL_0 ++ XE_0 ++ XL_1) ++ XE_1) r w')
      (W.loop (fun ρ w' => ∃ (j : Nat) (r : Value), j ≤ (t.at 1).l.length ∧ ρ 68 = .int .i64 j ∧ ρ 67 = .int .i64 (t.at 1).l.length ∧ ρ 10 = .slice ab_1 (t.at 1).l.length ac_1 ∧ ρ 1 = r ∧ ρ 0 = .pointer (some ⟨vb, 0, none⟩) ∧ ρ 5 = .int .i16 ver ∧ ρ 6 = .bool true ∧ AppR 5 B w v s (([] ++ XL_0 ++ XE_0 ++ XL_1) ++ ((t.at 1).l.take j).flatMap (fun x : Tree => fixedS x.n 8)) r w')
        (fun ρ _ => (t.at 1).l.length - (RowKit.intOf (ρ 68)).toNat) ?_ ?_) ?_
    · refine ⟨0, _, Nat.zero_le _, ?_, ?_, ?_, ?_, ?_, ?_, ?_, ha5.eqs (by rw [List.take_zero, List.flatMap_nil, List.append_nil])⟩ <;> simp (maxSteps := 1000000) (disch := (first | omega | (simp only [World.size_alloc, size_wr, size_drew] <;> omega) | exact not_noB _)) only [go_sem, ↓reduceIte, n0, reduceCtorEq, n1, n2, n3, n4, n5, i0, i1, i2, i3, i4, i5, i6, i7, hr1_2, hr2_0, hr2_5, hr2_6]
      all_goals rfl
    · rintro ρ w6 ⟨j3, r6, hj3, hI3, hN3, hS3, hr1_3, hr3_0, hr3_5, hr3_6, ha6⟩
      have hB6 : B ≤ w6.heap.size := Nat.le_trans hB ha6.upd.size
      have hv_6 := ha6.upd.blk_some hv hdv
      by_cases hlt3 : j3 < (t.at 1).l.length
      · obtain ⟨_, b3, o3, x3, ce3, hb3, hok3, hx3, hbl3, hxs3, hxe3, hq3, hRe3⟩ := SlR.get (size := 1) (by decide) hs_1 hlt3
        subst hb3
        have hcat3 : (t.at 1).l.take (j3 + 1) = (t.at 1).l.take j3 ++ [(t.at 1).l[j3]] := List.take_succ_eq_append_getElem hlt3
        have htl3 := take_flatMap_len (t.at 1).l (fun x : Tree => fixedS x.n 8) (j3 + 1)
        rw [← hXE_1, hcat3, List.flatMap_append, List.flatMap_cons, List.flatMap_nil, List.append_nil] at htl3
        have hge3 := (g_1.list rfl).2 _ (List.getElem_mem hlt3)
        generalize (t.at 1).l[j3] = y3 at *
        have hnx3 := hd b3 hbl3 hok3
        obtain ⟨T3, hTT3⟩ : ∃ T, T = ((t.at 1).l.take j3).flatMap (fun x : Tree => fixedS x.n 8) := ⟨_, rfl⟩
        rw [← hTT3] at ha6 htl3
        have hx3_6 := ha6.upd.blk_some hx3 hnx3
        obtain rfl := (Rep1_num (by decide)).1 hRe3
        have hq3_0 : x3.1[o3 + j3]? = some (.int .i64 y3.n) := by have := hq3 0 (by decide); rw [Nat.mul_one] at this; exact this
        obtain ⟨Y3, hY3⟩ : ∃ Y, Y = fixedS (y3).n 8 := ⟨_, rfl⟩
        replace htl3 : (T3 ++ Y3).length ≤ XE_1.length := by rw [hY3]; exact htl3
        simp only [List.length_append] at htl3
        repeat ((first | refine W.seqR rfl ?_ | refine W.seq ?_ | refine W.regR rfl ?_ | refine W.condK ?_ | refine W.block ?_ | refine W.skip ?_ | refine W.ret ?_ | refine W.exit ?_); try simp (maxSteps := 1000000) (disch := (first | omega | (simp only [World.size_alloc, size_wr, size_drew] <;> omega) | exact not_noB _)) only [go_sem, ↓reduceIte, n0, reduceCtorEq, n1, n2, n3, n4, n5, i0, i1, i2, i3, i4, i5, i6, i7, hv_6, hx3_6, Int.toNat_natCast, Nat.mul_one, hq3_0, hr1_3, hr3_0, hr3_5, hr3_6, hI3, hN3, hS3])
        refine (AppendInt64_fn _ _ _ ha6.own hB6 _ (by simp only [List.length_append, List.length_nil]; omega)).mono ?_
        rintro r7 w7 hc7
        rw [← hY3] at hc7
        have ha7 := ha6.trans hc7
        have hB7 : B ≤ w7.heap.size := Nat.le_trans hB ha7.upd.size
        have hv_7 := ha7.upd.blk_some hv hdv
        have hx3_7 := ha7.upd.blk_some hx3 hnx3
        repeat ((first | refine W.seqR rfl ?_ | refine W.seq ?_ | refine W.regR rfl ?_ | refine W.condK ?_ | refine W.block ?_ | refine W.skip ?_ | refine W.ret ?_ | refine W.exit ?_); try simp (maxSteps := 1000000) (disch := (first | omega | (simp only [World.size_alloc, size_wr, size_drew] <;> omega) | exact not_noB _)) only [go_sem, ↓reduceIte, n0, reduceCtorEq, n1, n2, n3, n4, n5, i0, i1, i2, i3, i4, i5, i6, i7, hr1_3, hr3_0, hr3_5, hr3_6, hI3, hN3, hS3])
        refine ⟨⟨j3 + 1, _, by omega, rfl, rfl, ha7.eqs ?_⟩, ?_⟩
        · rw [hcat3, List.flatMap_append, List.flatMap_cons, List.flatMap_nil, List.append_nil, ← hTT3, hY3]; simp only [List.append_assoc, List.append_nil, List.nil_append]
        · simp only [RowKit.intOf]; omega
      · have hjl3 : j3 = (t.at 1).l.length := by omega
        subst hjl3
        rw [List.take_length, ← hXE_1] at ha6
        repeat ((first | refine W.seqR rfl ?_ | refine W.seq ?_ | refine W.regR rfl ?_ | refine W.condK ?_ | refine W.block ?_ | refine W.skip ?_ | refine W.ret ?_ | refine W.exit ?_); try simp (maxSteps := 1000000) (disch := (first | omega | (simp only [World.size_alloc, size_wr, size_drew] <;> omega) | exact not_noB _)) only [go_sem, ↓reduceIte, n0, reduceCtorEq, n1, n2, n3, n4, n5, i0, i1, i2, i3, i4, i5, i6, i7, hI3, hN3])
        exact ⟨_, hr1_3, hr3_0, hr3_5, hr3_6, ha6⟩
    · rintro ρ w8 ⟨r8, hr1_4, hr4_0, hr4_5, hr4_6, ha8⟩
      have hB8 : B ≤ w8.heap.size := Nat.le_trans hB ha8.upd.size
      have hv_8 := ha8.upd.blk_some hv hdv
      repeat ((first | refine W.seqR rfl ?_ | refine W.seq ?_ | refine W.regR rfl ?_ | refine W.condK ?_ | refine W.block ?_ | refine W.skip ?_ | refine W.ret ?_ | refine W.exit ?_); try simp (maxSteps := 1000000) (disch := (first | omega | (simp only [World.size_alloc, size_wr, size_drew] <;> omega) | exact not_noB _)) only [go_sem, ↓reduceIte, n0, reduceCtorEq, n1, n2, n3, n4, n5, i0, i1, i2, i3, i4, i5, i6, i7, hv_8, hr1_4, hr4_0, hr4_5, hr4_6])
      refine (AppendInt64_fn _ _ _ ha8.own hB8 _ (by simp only [List.length_append, List.length_nil]; omega)).mono ?_
      rintro r9 w9 hc9
      rw [← hXX_2] at hc9
      have ha9 := ha8.trans hc9
      have hB9 : B ≤ w9.heap.size := Nat.le_trans hB ha9.upd.size
      have hv_9 := ha9.upd.blk_some hv hdv
      repeat ((first | refine W.seqR rfl ?_ | refine W.seq ?_ | refine W.regR rfl ?_ | refine W.condK ?_ | refine W.block ?_ | refine W.skip ?_ | refine W.ret ?_ | refine W.exit ?_); try simp (maxSteps := 1000000) (disch := (first | omega | (simp only [World.size_alloc, size_wr, size_drew] <;> omega) | exact not_noB _)) only [go_sem, ↓reduceIte, n0, reduceCtorEq, n1, n2, n3, n4, n5, i0, i1, i2, i3, i4, i5, i6, i7, hv_9, hr1_4, hr4_0, hr4_5, hr4_6])
      refine (AppendCompactNullableString_fn (ok := okM) _ _ _ ha9.own hB9 _ (t.at 3).null (t.at 3).s (hp_3.keep (ha9.upd.keeps hd)) (g_3.text (.inl rfl)) (by simp only [List.length_append, List.length_nil]; omega)).mono ?_
      rintro r10 w10 hc10
      rw [← hXX_3] at hc10
      have ha10 := ha9.trans hc10
      have hB10 : B ≤ w10.heap.size := Nat.le_trans hB ha10.upd.size
      have hv_10 := ha10.upd.blk_some hv hdv
      repeat ((first | refine W.seqR rfl ?_ | refine W.seq ?_ | refine W.regR rfl ?_ | refine W.condK ?_ | refine W.block ?_ | refine W.skip ?_ | refine W.ret ?_ | refine W.exit ?_); try simp (maxSteps := 1000000) (disch := (first | omega | (simp only [World.size_alloc, size_wr, size_drew] <;> omega) | exact not_noB _)) only [go_sem, ↓reduceIte, n0, reduceCtorEq, n1, n2, n3, n4, n5, i0, i1, i2, i3, i4, i5, i6, i7, hv_10, hr1_4, hr4_0, hr4_5, hr4_6])
      have hTk10 : TagsM (OkS okM w.heap.size) w10 (.map qm) t.u := (hT.weaken fun b h1 h2 => ⟨h2, h1⟩).keep (ha10.upd.keeps fun b hb hk => hd b hb hk.1)
      refine (TagsLen_fn (ok := OkS okM w.heap.size) w10 hv_10 (to := 5) (show (#[.int .i16 ver, .slice ab_0 (t.at 0).l.length ac_0, .slice ab_1 (t.at 1).l.length ac_1, .int .i64 (t.at 2).n, p_3, .map qm] : Array Value)[5]? = some (.map qm) from rfl) hTk10).mono ?_
      rintro _ w10' ⟨rfl, rfl⟩
      have hul10 : t.u.length ≤ 32767 := hfu.1
      have ew10 : IntKind.u32.wrap (t.u.length : Int) = t.u.length := u32_wrap (by omega)
      have ez10 : IntKind.u32.wrap (0 + (t.u.length : Int)) = t.u.length := by rw [Int.zero_add, u32_wrap (by omega)]
      simp (maxSteps := 1000000) (disch := (first | omega | (simp only [World.size_alloc, size_wr, size_drew] <;> omega) | exact not_noB _)) only [go_sem, ↓reduceIte, n0, reduceCtorEq, n1, n2, n3, n4, n5, i0, i1, i2, i3, i4, i5, i6, i7, hv_10, hr1_4, hr4_0, hr4_5, hr4_6, ew10, ez10]
      refine (AppendUvarint_fn _ _ _ ha10.own hB10 t.u.length (by omega) (by simp only [List.length_append, List.length_nil]; omega)).mono ?_
      rintro r11 w11 hc11
      rw [← hXU] at hc11
      have ha11 := ha10.trans hc11
      have hB11 : B ≤ w11.heap.size := Nat.le_trans hB ha11.upd.size
      have hv_11 := ha11.upd.blk_some hv hdv
      repeat ((first | refine W.seqR rfl ?_ | refine W.seq ?_ | refine W.regR rfl ?_ | refine W.condK ?_ | refine W.block ?_ | refine W.skip ?_ | refine W.ret ?_ | refine W.exit ?_); try simp (maxSteps := 1000000) (disch := (first | omega | (simp only [World.size_alloc, size_wr, size_drew] <;> omega) | exact not_noB _)) only [go_sem, ↓reduceIte, n0, reduceCtorEq, n1, n2, n3, n4, n5, i0, i1, i2, i3, i4, i5, i6, i7, hv_11, hr1_4, hr4_0, hr4_5, hr4_6])
      have hTk11 : TagsM (OkS okM w.heap.size) w11 (.map qm) t.u := (hT.weaken fun b h1 h2 => ⟨h2, h1⟩).keep (ha11.upd.keeps fun b hb hk => hd b hb hk.1)
      refine (AppendEach_fn (ok := OkS okM w.heap.size) _ _ _ ha11.own hB11 hv_11 (to := 5) (show (#[.int .i16 ver, .slice ab_0 (t.at 0).l.length ac_0, .slice ab_1 (t.at 1).l.length ac_1, .int .i64 (t.at 2).n, p_3, .map qm] : Array Value)[5]? = some (.map qm) from rfl) hTk11 (rising_keys hfu) hfu.1 (tags_small hfu hTk11) (hdK ha11) (ownK ha11 (blk_lt hv) hdv) (by simp only [List.length_append, List.length_nil]; omega)).mono ?_
      rintro r12 w12 hc12
      rw [← hXT] at hc12
      have ha12 := ha11.trans hc12
      have hB12 : B ≤ w12.heap.size := Nat.le_trans hB ha12.upd.size
      have hv_12 := ha12.upd.blk_some hv hdv
      repeat ((first | refine W.seqR rfl ?_ | refine W.seq ?_ | refine W.regR rfl ?_ | refine W.condK ?_ | refine W.block ?_ | refine W.skip ?_ | refine W.ret ?_ | refine W.exit ?_); try simp (maxSteps := 1000000) (disch := (first | omega | (simp only [World.size_alloc, size_wr, size_drew] <;> omega) | exact not_noB _)) only [go_sem, ↓reduceIte, n0, reduceCtorEq, n1, n2, n3, n4, n5, i0, i1, i2, i3, i4, i5, i6, i7, hv_12, hr1_4, hr4_0, hr4_5, hr4_6])
      refine ha12.eqs ?_
      rw [hP]; simp only [List.append_assoc, List.append_nil, List.nil_append]
end Ms

namespace Ms
open Nat renaming reduceEqDiff → n0, reduceAdd → n1, reduceMul → n2, reduceSub → n3, reduceLT → n4, reduceLeDiff → n5
open Int renaming reduceEq → i0, reduceLT → i1, reduceLE → i2, reduceNeg → i3, reduceAdd → i4, reduceSub → i5, reduceMul → i6, reduceToNat → i7
set_option maxRecDepth 8000
open Go Go.Proofs Go.Shelf
attribute [local congr] W_congr WPsq_congr WPp_congr optK_congr addrK_congr intK_congr boolK_congr sliceK_congr tupleK_congr funcK_congr Fn_congr rawK_congr takeK_congr stepK_congr convK_congr aggK_congr

set_option maxHeartbeats 1000000 in
theorem MakeListTransactionsRequest_fn {ok : Blocks} (t : Tree) (ct : List Value) (w : World) (ver : Nat) (hv : ver ≤ 2) (ht : TreeC ok w t ct) (hfit : FitP ver 2 fs_ListTransactionsRequest t) (hLs : Lists t) (hlen : (partS 2 fs_ListTransactionsRequest ver (flexB 0 ver) t).length ≤ 2 ^ 41) :
    Fn Try.prog 24 #[.int .i64 ver, .agg ct.toArray] w fun r w' => OwnBy 5 w.heap.size w' r (partS 2 fs_ListTransactionsRequest ver (flexB 0 ver) t) ∧ Ext w w' := by
  replace ht : TreeC (fun b => b < w.heap.size) w t ct := ht.weaken fun b hb _ => hb
  obtain ⟨vS, vL, vU, rfl, hn, hS, hL, hU⟩ := ht.inv
  obtain ⟨bS, cS, rfl, _⟩ := hS.shape
  obtain ⟨bL, cL, rfl, _⟩ := SlR.shape hL
  obtain ⟨bU, cU, rfl, _⟩ := SlR.shape hU
  have ew : IntKind.i16.wrap (ver : Int) = ver := i16_wrap (by omega)
  have hE1 : Ext w ((w.alloc (.cells #[.int .i64 t.n, .slice bS t.s.length cS, .bool t.null, .slice bL t.l.length cL, .slice bU t.u.length cU] 39)).alloc (.cells #[.int .i16 0, .slice none 0 0, .slice none 0 0, .int .i64 0, .pointer none, .map none] 75)) := Upd.alloc (Upd.alloc (Upd.refl _ _) _) _
  have hb1 : blk ((w.alloc (.cells #[.int .i64 t.n, .slice bS t.s.length cS, .bool t.null, .slice bL t.l.length cL, .slice bU t.u.length cU] 39)).alloc (.cells #[.int .i16 0, .slice none 0 0, .slice none 0 0, .int .i64 0, .pointer none, .map none] 75)) (w.heap.size + 1) = some (#[.int .i16 0, .slice none 0 0, .slice none 0 0, .int .i64 0, .pointer none, .map none], 75, (0, 0)) := blk_alloc_new (by simp only [World.size_alloc])
  have htb1 : blk ((w.alloc (.cells #[.int .i64 t.n, .slice bS t.s.length cS, .bool t.null, .slice bL t.l.length cL, .slice bU t.u.length cU] 39)).alloc (.cells #[.int .i16 0, .slice none 0 0, .slice none 0 0, .int .i64 0, .pointer none, .map none] 75)) w.heap.size = some (#[.int .i64 t.n, .slice bS t.s.length cS, .bool t.null, .slice bL t.l.length cL, .slice bU t.u.length cU], 39, (0, 0)) := by simp (maxSteps := 1000000) (disch := (first | omega | (simp only [World.size_alloc, size_wr, size_drew] <;> omega) | exact not_noB _)) only [go_sem, ↓reduceIte, n0, reduceCtorEq, n1, n2, n3, n4, n5, i0, i1, i2, i3, i4, i5, i6, i7]
  have hz1 : ((w.alloc (.cells #[.int .i64 t.n, .slice bS t.s.length cS, .bool t.null, .slice bL t.l.length cL, .slice bU t.u.length cU] 39)).alloc (.cells #[.int .i16 0, .slice none 0 0, .slice none 0 0, .int .i64 0, .pointer none, .map none] 75)).heap.size = w.heap.size + 2 := by simp only [World.size_alloc]
  refine fn_of_W Try.func24 rfl Try.results24 Try.ntmps24 rfl ?_
  repeat ((first | refine W.seqR rfl ?_ | refine W.seq ?_ | refine W.regR rfl ?_ | refine W.condK ?_ | refine W.block ?_ | refine W.skip ?_ | refine W.ret ?_ | refine W.exit ?_); try simp (maxSteps := 1000000) (disch := (first | omega | (simp only [World.size_alloc, size_wr, size_drew] <;> omega) | exact not_noB _)) only [go_sem, ↓reduceIte, n0, reduceCtorEq, n1, n2, n3, n4, n5, i0, i1, i2, i3, i4, i5, i6, i7, ew])
  generalize ((w.alloc (.cells #[.int .i64 t.n, .slice bS t.s.length cS, .bool t.null, .slice bL t.l.length cL, .slice bU t.u.length cU] 39)).alloc (.cells #[.int .i16 0, .slice none 0 0, .slice none 0 0, .int .i64 0, .pointer none, .map none] 75)) = w1 at *
  refine (SetVersionListTransactionsRequest_fn w1 (vb := w.heap.size + 1) ver hb1).mono ?_
  rintro _ w2 ⟨hb2, hU2⟩
  have hz2 := hU2.size
  have hE2 : Ext w w2 := hE1.more hU2 fun b hb h => by omega
  have htb2 := hU2.blk_some htb1 (by omega)
  repeat ((first | refine W.seqR rfl ?_ | refine W.seq ?_ | refine W.regR rfl ?_ | refine W.condK ?_ | refine W.block ?_ | refine W.skip ?_ | refine W.ret ?_ | refine W.exit ?_); try simp (maxSteps := 1000000) (disch := (first | omega | (simp only [World.size_alloc, size_wr, size_drew] <;> omega) | exact not_noB _)) only [go_sem, ↓reduceIte, n0, reduceCtorEq, n1, n2, n3, n4, n5, i0, i1, i2, i3, i4, i5, i6, i7, htb2, cellsAt_five])
  refine (fillListTransactionsRequest_fn (d := 1) (okT := fun b => b < w.heap.size) (V := ver) (ver := ver) t _ w2 (vb := w.heap.size + 1) hb2 (ht.keep (hE2.keeps _)) (fun b hb => by omega) hfit hLs).mono ?_
  rintro _ w3 ⟨cells, hb3, hR3, hU3⟩
  have hz3 := hU3.size
  have hE3 : Ext w w3 := hE2.more hU3 fun b hb h => by omega
  repeat ((first | refine W.seqR rfl ?_ | refine W.seq ?_ | refine W.regR rfl ?_ | refine W.condK ?_ | refine W.block ?_ | refine W.skip ?_ | refine W.ret ?_ | refine W.exit ?_); try simp (maxSteps := 1000000) (disch := (first | omega | (simp only [World.size_alloc, size_wr, size_drew] <;> omega) | exact not_noB _)) only [go_sem, ↓reduceIte, n0, reduceCtorEq, n1, n2, n3, n4, n5, i0, i1, i2, i3, i4, i5, i6, i7])
  have hcl : (0 ≤ (ver : Int) ∧ (ver : Int) ≤ 0) ∨ (1 ≤ (ver : Int) ∧ (ver : Int) ≤ 1) ∨ (2 ≤ (ver : Int) ∧ (ver : Int) ≤ 2) := by omega
  rcases hcl with ⟨h1, h2⟩ | ⟨h1, h2⟩ | ⟨h1, h2⟩
  · have hfl : flexB 0 ver = true := by simp only [flexB, Bool.and_eq_true, decide_eq_true_eq]; omega
    rw [hfl] at hlen ⊢
    refine (appListTransactionsRequest_0 (d := 1) (B := w3.heap.size) (okM := okN (fun b => b < w.heap.size) w2.heap.size) h1 h2 t cells (.slice none 0 0) [] w3 (Own.nil _ _ _ _) (Nat.le_refl _) hb3 hR3 hfit (by rintro b _ _ ⟨a, n, c, h, _⟩; cases h) (by rintro ⟨a, n, c, h, _⟩; cases h) (by simpa using hlen)).mono ?_
    rintro r4 w4 h4
    repeat ((first | refine W.seqR rfl ?_ | refine W.seq ?_ | refine W.regR rfl ?_ | refine W.condK ?_ | refine W.block ?_ | refine W.skip ?_ | refine W.ret ?_ | refine W.exit ?_); try simp (maxSteps := 1000000) (disch := (first | omega | (simp only [World.size_alloc, size_wr, size_drew] <;> omega) | exact not_noB _)) only [go_sem, ↓reduceIte, n0, reduceCtorEq, n1, n2, n3, n4, n5, i0, i1, i2, i3, i4, i5, i6, i7])
    refine ⟨?_, hE3.more h4.upd fun b hb h => by obtain ⟨a, n, c, h, _⟩ := h; cases h⟩
    have := h4.own
    rw [List.nil_append] at this
    exact Own.mono this (by omega)
  · have hfl : flexB 0 ver = true := by simp only [flexB, Bool.and_eq_true, decide_eq_true_eq]; omega
    rw [hfl] at hlen ⊢
    refine (appListTransactionsRequest_1 (d := 1) (B := w3.heap.size) (okM := okN (fun b => b < w.heap.size) w2.heap.size) h1 h2 t cells (.slice none 0 0) [] w3 (Own.nil _ _ _ _) (Nat.le_refl _) hb3 hR3 hfit (by rintro b _ _ ⟨a, n, c, h, _⟩; cases h) (by rintro ⟨a, n, c, h, _⟩; cases h) (by simpa using hlen)).mono ?_
    rintro r4 w4 h4
    repeat ((first | refine W.seqR rfl ?_ | refine W.seq ?_ | refine W.regR rfl ?_ | refine W.condK ?_ | refine W.block ?_ | refine W.skip ?_ | refine W.ret ?_ | refine W.exit ?_); try simp (maxSteps := 1000000) (disch := (first | omega | (simp only [World.size_alloc, size_wr, size_drew] <;> omega) | exact not_noB _)) only [go_sem, ↓reduceIte, n0, reduceCtorEq, n1, n2, n3, n4, n5, i0, i1, i2, i3, i4, i5, i6, i7])
    refine ⟨?_, hE3.more h4.upd fun b hb h => by obtain ⟨a, n, c, h, _⟩ := h; cases h⟩
    have := h4.own
    rw [List.nil_append] at this
    exact Own.mono this (by omega)
  · have hfl : flexB 0 ver = true := by simp only [flexB, Bool.and_eq_true, decide_eq_true_eq]; omega
    rw [hfl] at hlen ⊢
    refine (appListTransactionsRequest_2 (d := 1) (B := w3.heap.size) (okM := okN (fun b => b < w.heap.size) w2.heap.size) h1 h2 t cells (.slice none 0 0) [] w3 (Own.nil _ _ _ _) (Nat.le_refl _) hb3 hR3 hfit (by rintro b _ _ ⟨a, n, c, h, _⟩; cases h) (by rintro ⟨a, n, c, h, _⟩; cases h) (by simpa using hlen)).mono ?_
    rintro r4 w4 h4
    repeat ((first | refine W.seqR rfl ?_ | refine W.seq ?_ | refine W.regR rfl ?_ | refine W.condK ?_ | refine W.block ?_ | refine W.skip ?_ | refine W.ret ?_ | refine W.exit ?_); try simp (maxSteps := 1000000) (disch := (first | omega | (simp only [World.size_alloc, size_wr, size_drew] <;> omega) | exact not_noB _)) only [go_sem, ↓reduceIte, n0, reduceCtorEq, n1, n2, n3, n4, n5, i0, i1, i2, i3, i4, i5, i6, i7])
    refine ⟨?_, hE3.more h4.upd fun b hb h => by obtain ⟨a, n, c, h, _⟩ := h; cases h⟩
    have := h4.own
    rw [List.nil_append] at this
    exact Own.mono this (by omega)

set_option maxHeartbeats 1000000 in
theorem law_ListTransactionsRequest {ok : Blocks} (n : Nat) (hn : n < 256) (t : Tree) (ct : List Value) (w : World) (ht : TreeC ok w t ct) (hsm : Small 4611686018427387903 t) {N : Nat} (hN : N ≤ 1048576) (hsz : Sized N t) :
    Fn Try.prog 4 #[.int .u8 n, .agg ct.toArray] w fun r w' => r = .bool true ∧ Ext w w' := by
  obtain ⟨vS, vL, vU, rfl, hn', hS, hL, hU⟩ := ht.inv
  have f1 := hS.flat
  have f2 := SlR.flat hL
  have f3 := SlR.flat hU
  have hE : Ext w (w.alloc (.cells #[.int .i64 t.n, vS, .bool t.null, vL, vU] 26)) := Upd.alloc (Upd.refl _ _) _
  refine fn_of_W Try.func4 rfl Try.results4 Try.ntmps4 rfl ?_
  repeat ((first | refine W.seqR rfl ?_ | refine W.seq ?_ | refine W.regR rfl ?_ | refine W.condK ?_ | refine W.block ?_ | refine W.skip ?_ | refine W.ret ?_ | refine W.exit ?_); try simp (maxSteps := 1000000) (disch := (first | omega | (simp only [World.size_alloc, size_wr, size_drew] <;> omega) | exact not_noB _)) only [go_sem, ↓reduceIte, n0, reduceCtorEq, n1, n2, n3, n4, n5, i0, i1, i2, i3, i4, i5, i6, i7, f1, f2, f3, cellsAt_five])
  have hb : blk (w.alloc (.cells #[.int .i64 t.n, vS, .bool t.null, vL, vU] 26)) w.heap.size = some (#[.int .i64 t.n, vS, .bool t.null, vL, vU], 26, (0, 0)) := blk_alloc_new rfl
  generalize (w.alloc (.cells #[.int .i64 t.n, vS, .bool t.null, vL, vU] 26)) = w1 at *
  refine (zzFits1_fn (ok := ok) t _ w1 (ht.keep (hE.keeps _)) hsm).mono ?_
  rintro r2 w2 ⟨⟨bb, rfl⟩, hE2⟩
  cases bb with
  | false =>
    simp (maxSteps := 1000000) (disch := (first | omega | (simp only [World.size_alloc, size_wr, size_drew] <;> omega) | exact not_noB _)) only [go_sem, ↓reduceIte, n0, reduceCtorEq, n1, n2, n3, n4, n5, i0, i1, i2, i3, i4, i5, i6, i7]
    repeat ((first | refine W.seqR rfl ?_ | refine W.seq ?_ | refine W.regR rfl ?_ | refine W.condK ?_ | refine W.block ?_ | refine W.skip ?_ | refine W.ret ?_ | refine W.exit ?_); try simp (maxSteps := 1000000) (disch := (first | omega | (simp only [World.size_alloc, size_wr, size_drew] <;> omega) | exact not_noB _)) only [go_sem, ↓reduceIte, n0, reduceCtorEq, n1, n2, n3, n4, n5, i0, i1, i2, i3, i4, i5, i6, i7])
    exact hE.trans hE2
  | true =>
    simp (maxSteps := 1000000) (disch := (first | omega | (simp only [World.size_alloc, size_wr, size_drew] <;> omega) | exact not_noB _)) only [go_sem, ↓reduceIte, n0, reduceCtorEq, n1, n2, n3, n4, n5, i0, i1, i2, i3, i4, i5, i6, i7]
    repeat ((first | refine W.seqR rfl ?_ | refine W.seq ?_ | refine W.regR rfl ?_ | refine W.condK ?_ | refine W.block ?_ | refine W.skip ?_ | refine W.ret ?_ | refine W.exit ?_); try simp (maxSteps := 1000000) (disch := (first | omega | (simp only [World.size_alloc, size_wr, size_drew] <;> omega) | exact not_noB _)) only [go_sem, ↓reduceIte, n0, reduceCtorEq, n1, n2, n3, n4, n5, i0, i1, i2, i3, i4, i5, i6, i7])
    refine (MaxListTransactionsRequest_fn w2).mono ?_
    rintro _ w2m ⟨rfl, hE2m⟩
    repeat ((first | refine W.seqR rfl ?_ | refine W.seq ?_ | refine W.regR rfl ?_ | refine W.condK ?_ | refine W.block ?_ | refine W.skip ?_ | refine W.ret ?_ | refine W.exit ?_); try simp (maxSteps := 1000000) (disch := (first | omega | (simp only [World.size_alloc, size_wr, size_drew] <;> omega) | exact not_noB _)) only [go_sem, ↓reduceIte, n0, reduceCtorEq, n1, n2, n3, n4, n5, i0, i1, i2, i3, i4, i5, i6, i7])
    refine (cListTransactionsRequest_fn w2m).mono ?_
    rintro r3 w3 ⟨⟨vs, rfl, hF0⟩, hE3⟩
    have hF : FldsV AnyB w3 vs fs_ListTransactionsRequest := hF0.weaken fun _ _ _ => trivial
    have fF := SlR.flat hF
    simp (maxSteps := 1000000) (disch := (first | omega | (simp only [World.size_alloc, size_wr, size_drew] <;> omega) | exact not_noB _)) only [go_sem, ↓reduceIte, n0, reduceCtorEq, n1, n2, n3, n4, n5, i0, i1, i2, i3, i4, i5, i6, i7]
    refine (version_fn w3 n 2 hn (by decide)).mono ?_
    rintro _ w3v ⟨rfl, rfl⟩
    have hE03 : Ext w w3v := ((hE.trans hE2).trans hE2m).trans hE3
    have hb3 := hE3.blk_some (hE2m.blk_some (hE2.blk_some hb id) id) id
    have hE4 : Ext w3v (wr (w3v.alloc (.cells #[.slice none 0 0, .int .i64 0] 31)) w3v.heap.size 0 [vs, .int .i64 0]) := (Upd.alloc (Upd.refl _ _) _).wr _ _ (.inl (Nat.le_refl _))
    have hb4 : blk (wr (w3v.alloc (.cells #[.slice none 0 0, .int .i64 0] 31)) w3v.heap.size 0 [vs, .int .i64 0]) w3v.heap.size = some (#[vs, .int .i64 0], 31, (0, 0)) := by simp (maxSteps := 1000000) (disch := (first | omega | (simp only [World.size_alloc, size_wr, size_drew] <;> omega) | exact not_noB _)) only [go_sem, ↓reduceIte, n0, reduceCtorEq, n1, n2, n3, n4, n5, i0, i1, i2, i3, i4, i5, i6, i7]
    simp (maxSteps := 1000000) (disch := (first | omega | (simp only [World.size_alloc, size_wr, size_drew] <;> omega) | exact not_noB _)) only [go_sem, ↓reduceIte, n0, reduceCtorEq, n1, n2, n3, n4, n5, i0, i1, i2, i3, i4, i5, i6, i7, fF]
    generalize (wr (w3v.alloc (.cells #[.slice none 0 0, .int .i64 0] 31)) w3v.heap.size 0 [vs, .int .i64 0]) = w4 at *
    have hb34 := hE4.blk_some hb3 id
    have hv3 : n % 3 < 3 := Nat.mod_lt _ (by omega)
    generalize n % 3 = ver at *
    have hs1 := blk_lt hb4
    have hs2 := blk_lt hb34
    repeat ((first | refine W.seqR rfl ?_ | refine W.seq ?_ | refine W.regR rfl ?_ | refine W.condK ?_ | refine W.block ?_ | refine W.skip ?_ | refine W.ret ?_ | refine W.exit ?_); try simp (maxSteps := 1000000) (disch := (first | omega | (simp only [World.size_alloc, size_wr, size_drew] <;> omega) | exact not_noB _)) only [go_sem, ↓reduceIte, n0, reduceCtorEq, n1, n2, n3, n4, n5, i0, i1, i2, i3, i4, i5, i6, i7])
    refine W.drawR (.take 0 (.take 1 (.take 2 (.take 3 (.take 4 (.take 8 (.take 9 (.take 10 (.only 5 (.only 6 (.only 7 (.only 11 (.only 12 (.only 13 .done)))))))))))))) NoB mixed (by kernel_rfl) ?_
    simp (maxSteps := 1000000) (disch := (first | omega | (simp only [World.size_alloc, size_wr, size_drew] <;> omega) | exact not_noB _)) only [go_sem, ↓reduceIte, n0, reduceCtorEq, n1, n2, n3, n4, n5, i0, i1, i2, i3, i4, i5, i6, i7, hb34, hb4, cellsAt_five, cellsAt_two]
    have hE04d : Ext w w4.drew := (hE03.trans hE4).drew
    have hE3d : Ext w3v w4.drew := hE4.drew
    have hokF : okF 1 fs_ListTransactionsRequest = true := by decide
    have hokM : okM 1 fs_ListTransactionsRequest = true := by decide
    refine (fit_ok 1 AnyB fs_ListTransactionsRequest ver t vs _ w4.drew (hF.keep (hE3d.keeps _)) hokF ((ht.weaken fun _ _ _ => trivial).keep (hE04d.keeps _)) hsm).mono ?_
    rintro r5 w5 ⟨⟨c5, rfl, hc5⟩, hE5⟩
    refine ⟨hE5, ?_⟩
    have hLs := fitS_lists 1 fs_ListTransactionsRequest ver t (by decide) hokF
    refine (given_fn hLs _ c5 w5 hc5).mono ?_
    rintro r6 w6 ⟨⟨c6, rfl, hc6⟩, hE6⟩
    have hE56 : Ext w4.drew w6 := hE5.trans hE6
    refine ⟨hE56, ?_⟩
    have hpl : (partS 2 fs_ListTransactionsRequest ver (flexB 0 ver) t).length ≤ 2 ^ 40 := Nat.le_trans (partS_bound ver _ 1 fs_ListTransactionsRequest N t hokM hsz) (Nat.le_trans (Nat.mul_le_mul_left _ (Nat.succ_le_succ hN)) (by decide))
    have hpf : partS 2 fs_ListTransactionsRequest ver (flexB 0 ver) (fitS 2 fs_ListTransactionsRequest ver t) = partS 2 fs_ListTransactionsRequest ver (flexB 0 ver) t := partS_fit ver (flexB 0 ver) 1 fs_ListTransactionsRequest t hokM
    refine (MakeListTransactionsRequest_fn (fitS 2 fs_ListTransactionsRequest ver t) c6 w6 ver (by omega) hc6 (fitS_fit ver 1 fs_ListTransactionsRequest t hokM) hLs (by rw [hpf]; omega)).mono ?_
    rintro r7 w7 ⟨ho7, hE7⟩
    rw [hpf] at ho7
    have hE57 : Ext w4.drew w7 := hE56.trans hE7
    refine ⟨hE57, ?_⟩
    have hE07 : Ext w w7 := hE04d.trans hE57
    refine (Write_fn (ok := AnyB) (d := 1) fs_ListTransactionsRequest 0 ver t vs _ w7 (hF.keep (Ext.keeps (hE3d.trans hE57) _)) hokF ((ht.weaken fun _ _ _ => trivial).keep (Ext.keeps hE07 _)) hsm hpl).mono ?_
    rintro r8 w8 ⟨ho8, hE8⟩
    have hE58 : Ext w4.drew w8 := hE57.trans hE8
    refine ⟨hE58, ?_⟩
    refine (Same_fn (ok := AnyB) _ _ r7 r8 w8 ((Own.bytes ho7 fun _ _ => trivial).keep (hE8.keeps _)) (Own.bytes ho8 fun _ _ => trivial) (by omega)).mono ?_
    rintro r9 w9 ⟨rfl, hE9⟩
    have hE59 : Ext w4.drew w9 := hE58.trans hE9
    refine ⟨hE59, hE59, ?_⟩
    repeat ((first | refine W.seqR rfl ?_ | refine W.seq ?_ | refine W.regR rfl ?_ | refine W.condK ?_ | refine W.block ?_ | refine W.skip ?_ | refine W.ret ?_ | refine W.exit ?_); try simp (maxSteps := 1000000) (disch := (first | omega | (simp only [World.size_alloc, size_wr, size_drew] <;> omega) | exact not_noB _)) only [go_sem, ↓reduceIte, n0, reduceCtorEq, n1, n2, n3, n4, n5, i0, i1, i2, i3, i4, i5, i6, i7])
    exact hE04d.trans hE59
end Ms

