/- A part of the proof: see the last text. -/
import Derived.Test.YtkoeaaababfjkaaGreatDoorC02
import Derived.Test.YtkoeaaababfjkaaGreatDoorC06
import Derived.Test.YtkoeaaababfjkaaGreatDoorC07
import Derived.Test.YtkoeaaababfjkaaGreatDoorC10
import Derived.Test.YtkoeaaababfjkaaGreatDoorDescribeLogDirsRequestP0
import Derived.Test.YtkoeaaababfjkaaGreatDoorDescribeLogDirsRequestP1
set_option linter.unusedSimpArgs false
set_option linter.unusedVariables false
namespace Ms
open Nat renaming reduceEqDiff → n0, reduceAdd → n1, reduceMul → n2, reduceSub → n3, reduceLT → n4, reduceLeDiff → n5
open Int renaming reduceEq → i0, reduceLT → i1, reduceLE → i2, reduceNeg → i3, reduceAdd → i4, reduceSub → i5, reduceMul → i6, reduceToNat → i7
set_option maxRecDepth 8000
open Go Go.Proofs Go.Shelf
attribute [local congr] W_congr WPsq_congr WPp_congr optK_congr addrK_congr intK_congr boolK_congr sliceK_congr tupleK_congr funcK_congr Fn_congr rawK_congr takeK_congr stepK_congr convK_congr aggK_congr

set_option maxHeartbeats 4000000 in
theorem appDescribeLogDirsRequest_1 {d B : Nat} {okM : Blocks} {ver : Int} (hlo : 2 ≤ ver) (hhi : ver ≤ 5) (t : Tree) (cells : List Value) (v : Value) (s : List UInt8) (w : World) {vb : Nat} (ho : OwnBy 5 B w v s) (hB : B ≤ w.heap.size) (hvb : blk w vb = some ((.int .i16 ver :: cells).toArray, 94, (0, 0)))
    (hR : RepS true (d + 2) fs_DescribeLogDirsRequest okM w t cells) (hfit : FitW ver (d + 2) fs_DescribeLogDirsRequest t) (hd : ∀ b, b < w.heap.size → okM b → ¬ ownB v b) (hdv : ¬ ownB v vb) (hlen : s.length + (partS (d + 2) fs_DescribeLogDirsRequest ver true t).length ≤ 2 ^ 41) :
    Fn Tryz.prog 52 #[.pointer (some ⟨vb, 0, none⟩), v] w fun r w' => AppR 5 B w v s (partS (d + 2) fs_DescribeLogDirsRequest ver true t) r w' := by
  obtain ⟨⟨g_0, -⟩, hfu⟩ := hfit
  replace g_0 : hasS fDescribeLogDirsRequest_0 ver = true → FitWF (FitW ver (d + 1)) ver fDescribeLogDirsRequest_0 (t.at 0) := g_0
  have hh_0 : hasS fDescribeLogDirsRequest_0 ver = true := hasS_t (by show (0 : Int) ≤ ver; omega) (by show (-1 : Int) < 0 ∨ ver ≤ (-1 : Int); omega)
  replace g_0 := g_0 hh_0
  obtain ⟨cs, q, hcs, hL, hT⟩ := hR.inv
  obtain ⟨c_0, e_0, rfl, h_0, rfl⟩ := hL
  replace h_0 : RepF (RepS true (d + 1)) (szS true (d + 1)) fDescribeLogDirsRequest_0 okM w (t.at 0) c_0 := h_0
  obtain ⟨p_0, L_0, rfl, hLL_0, hs_0, hnn_0⟩ := RepF_listN g_0 rfl (by decide) h_0
  obtain ⟨ab_0, ac_0, rfl, _⟩ := SlR.shape hs_0
  have hni_0 := hnn_0 _ _ _ rfl
  have hgl_0 := g_0.listL rfl hLL_0
  have hll_0 := hgl_0.1
  obtain ⟨qm, rfl⟩ := hT.shape
  have hv : blk w vb = some (#[.int .i16 ver, .slice ab_0 L_0.length ac_0, .map qm], 94, (0, 0)) := by rw [hvb, hcs]; rfl
  clear hvb hcs
  obtain ⟨XL_0, hXL_0⟩ : ∃ X, X = countedS true (nullS fDescribeLogDirsRequest_0 ver (t.at 0)) L_0.length 4 := ⟨_, rfl⟩
  obtain ⟨XE_0, hXE_0⟩ : ∃ X, X = L_0.flatMap (fun x => partS (d + 1) fs_DescribeLogDirsRequestTopic ver true x) := ⟨_, rfl⟩
  obtain ⟨XU, hXU⟩ : ∃ X, X = uvarS t.u.length := ⟨_, rfl⟩
  obtain ⟨XT, hXT⟩ : ∃ X, X = t.u.flatMap oneTag := ⟨_, rfl⟩
  have hP : partS (d + 2) fs_DescribeLogDirsRequest ver true t = ((XL_0 ++ XE_0) ++ []) ++ (XU ++ XT) := by rw [hXU, hXT]; exact partS_yes rfl hfu (plainL_has (by decide) hh_0 ((fieldS_listN (g := (fun x => partS (d + 1) fs_DescribeLogDirsRequestTopic ver true x)) g_0 rfl hLL_0 (fun x _ => valueS_part)).trans (by rw [hXL_0, hXE_0])) rfl)
  rw [hP] at hlen
  simp only [List.length_append, List.length_nil] at hlen
  have hdK : ∀ {r : Value} {w' : World} {add : List UInt8}, AppR 5 B w v s add r w' → ∀ b, b < w'.heap.size → OkS okM w.heap.size b → ¬ ownB r b := fun h b _ hk ho => (h.frame b ho).elim (hd b hk.2 hk.1) (fun h => by have := hk.2; omega)
  have ownK : ∀ {r : Value} {w' : World} {add : List UInt8} {b : Nat}, AppR 5 B w v s add r w' → b < w.heap.size → ¬ ownB v b → ¬ ownB r b := fun h hb hn ho => (h.frame _ ho).elim hn (fun h => by omega)
  have ha0 : AppR 5 B w v s [] v w := AppR.refl ho
  obtain ⟨w0, hw0⟩ : ∃ w0, w0 = w := ⟨_, rfl⟩
  have hB0 := hB
  have hv_0 := hv
  refine fn_of_W Tryz.func52 rfl Tryz.results52 Tryz.ntmps52 rfl ?_
  repeat ((first | refine W.seqR rfl ?_ | refine W.seq ?_ | refine W.regR rfl ?_ | refine W.condK ?_ | refine W.block ?_ | refine W.skip ?_ | refine W.ret ?_ | refine W.exit ?_); try simp (maxSteps := 1000000) (disch := (first | omega | (simp only [World.size_alloc, size_wr, size_drew] <;> omega) | exact not_noB _)) only [go_sem, ↓reduceIte, n0, reduceCtorEq, n1, n2, n3, n4, n5, i0, i1, i2, i3, i4, i5, i6, i7, hv_0, hni_0])
  refine (AppendCompactNullableArrayLen_fn _ _ _ ha0.own hB0 L_0.length hll_0 (nullS fDescribeLogDirsRequest_0 ver (t.at 0)) (by simp only [List.length_append, List.length_nil]; omega)).mono ?_
  rintro r1 w1 hc1
  rw [← hXL_0] at hc1
  have ha1 := ha0.trans hc1
  have hB1 : B ≤ w1.heap.size := Nat.le_trans hB ha1.upd.size
  have hv_1 := ha1.upd.blk_some hv hdv
  repeat ((first | refine W.seqR rfl ?_ | refine W.seq ?_ | refine W.regR rfl ?_ | refine W.condK ?_ | refine W.block ?_ | refine W.skip ?_ | refine W.ret ?_ | refine W.exit ?_); try simp (maxSteps := 1000000) (disch := (first | omega | (simp only [World.size_alloc, size_wr, size_drew] <;> omega) | exact not_noB _)) only [go_sem, ↓reduceIte, n0, reduceCtorEq, n1, n2, n3, n4, n5, i0, i1, i2, i3, i4, i5, i6, i7, hv_1, hni_0])
  have hadd1 := ha1
  refine W.exitJ 0 (fun ρ w' => ∃ r, ρ 1 = r ∧ ρ 0 = .pointer (some ⟨vb, 0, none⟩) ∧ ρ 5 = .int .i16 ver ∧ ρ 6 = .bool true ∧ AppR 5 B w v s (([] ++ XL_0) ++ XE_0) r w')
    (W.loop (fun ρ w' => ∃ (j : Nat) (r : Value), j ≤ L_0.length ∧ ρ 41 = .int .i64 j ∧ ρ 40 = .int .i64 L_0.length ∧ ρ 7 = .slice ab_0 L_0.length ac_0 ∧ ρ 1 = r ∧ ρ 0 = .pointer (some ⟨vb, 0, none⟩) ∧ ρ 5 = .int .i16 ver ∧ ρ 6 = .bool true ∧ AppR 5 B w v s (([] ++ XL_0) ++ (L_0.take j).flatMap (fun x => partS (d + 1) fs_DescribeLogDirsRequestTopic ver true x)) r w')
      (fun ρ _ => L_0.length - (RowKit.intOf (ρ 41)).toNat) ?_ ?_) ?_
  · refine ⟨0, _, Nat.zero_le _, ?_, ?_, ?_, ?_, ?_, ?_, ?_, ha1.eqs (by rw [List.take_zero, List.flatMap_nil, List.append_nil])⟩ <;> simp (maxSteps := 1000000) (disch := (first | omega | (simp only [World.size_alloc, size_wr, size_drew] <;> omega) | exact not_noB _)) only [go_sem, ↓reduceIte, n0, reduceCtorEq, n1, n2, n3, n4, n5, i0, i1, i2, i3, i4, i5, i6, i7]
    all_goals rfl
  · rintro ρ w2 ⟨j1, r2, hj1, hI1, hN1, hS1, hr1_1, hr1_0, hr1_5, hr1_6, ha2⟩
    have hB2 : B ≤ w2.heap.size := Nat.le_trans hB ha2.upd.size
    have hv_2 := ha2.upd.blk_some hv hdv
    by_cases hlt1 : j1 < L_0.length
    · obtain ⟨_, b1, o1, x1, ce1, hb1, hok1, hx1, hbl1, hxs1, hxe1, hq1, hRe1⟩ := SlR.get (size := 3) (by decide) hs_0 hlt1
      subst hb1
      have hcat1 : L_0.take (j1 + 1) = L_0.take j1 ++ [L_0[j1]] := List.take_succ_eq_append_getElem hlt1
      have htl1 := take_flatMap_len L_0 (fun x => partS (d + 1) fs_DescribeLogDirsRequestTopic ver true x) (j1 + 1)
      rw [← hXE_0, hcat1, List.flatMap_append, List.flatMap_cons, List.flatMap_nil, List.append_nil] at htl1
      have hge1 := hgl_0.2 _ (List.getElem_mem hlt1)
      generalize L_0[j1] = y1 at *
      have hnx1 := hd b1 hbl1 hok1
      obtain ⟨T1, hTT1⟩ : ∃ T, T = (L_0.take j1).flatMap (fun x => partS (d + 1) fs_DescribeLogDirsRequestTopic ver true x) := ⟨_, rfl⟩
      rw [← hTT1] at ha2 htl1
      have hx1_2 := ha2.upd.blk_some hx1 hnx1
      replace hRe1 : RepS true (d + 1) fs_DescribeLogDirsRequestTopic okM w y1 ce1 := Rep1_part.1 hRe1
      have hfe1 : FitW ver (d + 1) fs_DescribeLogDirsRequestTopic y1 := hge1.2 rfl
      obtain ⟨⟨ge1_0, ge1_1, -⟩, hfue1⟩ := hfe1
      replace ge1_0 : hasS fDescribeLogDirsRequestTopic_0 ver = true → FitWF (FitW ver d) ver fDescribeLogDirsRequestTopic_0 (y1.at 0) := ge1_0
      have hhe1_0 : hasS fDescribeLogDirsRequestTopic_0 ver = true := hasS_t (by show (0 : Int) ≤ ver; omega) (by show (-1 : Int) < 0 ∨ ver ≤ (-1 : Int); omega)
      replace ge1_0 := ge1_0 hhe1_0
      replace ge1_1 : hasS fDescribeLogDirsRequestTopic_1 ver = true → FitWF (FitW ver d) ver fDescribeLogDirsRequestTopic_1 (y1.at 1) := ge1_1
      have hhe1_1 : hasS fDescribeLogDirsRequestTopic_1 ver = true := hasS_t (by show (0 : Int) ≤ ver; omega) (by show (-1 : Int) < 0 ∨ ver ≤ (-1 : Int); omega)
      replace ge1_1 := ge1_1 hhe1_1
      obtain ⟨cse1, qe1, hcse1, hLe1, hTe1⟩ := hRe1.inv
      obtain ⟨ce1_0, ee1_0, rfl, he1_0, ce1_1, ee1_1, rfl, he1_1, rfl⟩ := hLe1
      replace he1_0 : RepF (RepS true d) (szS true d) fDescribeLogDirsRequestTopic_0 okM w (y1.at 0) ce1_0 := he1_0
      replace he1_1 : RepF (RepS true d) (szS true d) fDescribeLogDirsRequestTopic_1 okM w (y1.at 1) ce1_1 := he1_1
      obtain rfl := (RepF_text rfl (by decide)).1 he1_0
      obtain ⟨pe1_1, rfl, hse1_1⟩ := RepF_listW ge1_1 rfl (by decide) he1_1
      obtain ⟨abe1_1, ace1_1, rfl, _⟩ := SlR.shape hse1_1
      have hgle1_1 := ge1_1.list rfl
      have hlle1_1 := hgle1_1.1
      obtain ⟨qme1, rfl⟩ := hTe1.shape
      subst hcse1
      have hq1_0 : x1.1[o1 + j1 * 3]? = some (strV (y1.at 0).s) := hq1 0 (by decide)
      have hq1_1 : x1.1[o1 + (j1 * 3 + 1)]? = some (.slice abe1_1 (y1.at 1).l.length ace1_1) := hq1 1 (by decide)
      have hq1_2 : x1.1[o1 + (j1 * 3 + 2)]? = some (.map qme1) := hq1 2 (by decide)
      obtain ⟨Xe1_0, hXXe1_0⟩ : ∃ X, X = uvarS ((y1.at 0).s.length + 1) ++ (y1.at 0).s := ⟨_, rfl⟩
      obtain ⟨XLe1_1, hXLe1_1⟩ : ∃ X, X = uvarS ((y1.at 1).l.length + 1) := ⟨_, rfl⟩
      obtain ⟨XEe1_1, hXEe1_1⟩ : ∃ X, X = (y1.at 1).l.flatMap (fun x : Tree => fixedS x.n 4) := ⟨_, rfl⟩
      obtain ⟨XUe1, hXUe1⟩ : ∃ X, X = uvarS y1.u.length := ⟨_, rfl⟩
      obtain ⟨XTe1, hXTe1⟩ : ∃ X, X = y1.u.flatMap oneTag := ⟨_, rfl⟩
      have hPe1 : partS (d + 1) fs_DescribeLogDirsRequestTopic ver true y1 = (Xe1_0 ++ ((XLe1_1 ++ XEe1_1) ++ [])) ++ (XUe1 ++ XTe1) := by rw [hXUe1, hXTe1]; exact partS_yes rfl hfue1 (plainL_has (by decide) hhe1_0 ((fieldS_text_t ge1_0 rfl (by decide)).trans hXXe1_0.symm) (plainL_has (by decide) hhe1_1 ((fieldS_list_t (g := (fun x : Tree => fixedS x.n 4)) ge1_1 rfl (by decide) (fun x _ => valueS_num 3 (by decide))).trans (by rw [hXLe1_1, hXEe1_1])) rfl))
      rw [hPe1] at htl1
      simp only [List.length_append, List.length_nil] at htl1
      repeat ((first | refine W.seqR rfl ?_ | refine W.seq ?_ | refine W.regR rfl ?_ | refine W.condK ?_ | refine W.block ?_ | refine W.skip ?_ | refine W.ret ?_ | refine W.exit ?_); try simp (maxSteps := 1000000) (disch := (first | omega | (simp only [World.size_alloc, size_wr, size_drew] <;> omega) | exact not_noB _)) only [go_sem, ↓reduceIte, n0, reduceCtorEq, n1, n2, n3, n4, n5, i0, i1, i2, i3, i4, i5, i6, i7, hv_2, hx1_2, hni_0, Int.toNat_natCast, Nat.mul_one, hq1_0, hq1_1, hq1_2, hr1_1, hr1_0, hr1_5, hr1_6, hI1, hN1, hS1])
      refine (AppendCompactString_fn _ _ _ ha2.own hB2 (y1.at 0).s (ge1_0.text (.inl rfl)) (by simp only [List.length_append, List.length_nil]; omega)).mono ?_
      rintro r3 w3 hc3
      rw [← hXXe1_0] at hc3
      have ha3 := ha2.trans hc3
      have hB3 : B ≤ w3.heap.size := Nat.le_trans hB ha3.upd.size
      have hv_3 := ha3.upd.blk_some hv hdv
      have hx1_3 := ha3.upd.blk_some hx1 hnx1
      repeat ((first | refine W.seqR rfl ?_ | refine W.seq ?_ | refine W.regR rfl ?_ | refine W.condK ?_ | refine W.block ?_ | refine W.skip ?_ | refine W.ret ?_ | refine W.exit ?_); try simp (maxSteps := 1000000) (disch := (first | omega | (simp only [World.size_alloc, size_wr, size_drew] <;> omega) | exact not_noB _)) only [go_sem, ↓reduceIte, n0, reduceCtorEq, n1, n2, n3, n4, n5, i0, i1, i2, i3, i4, i5, i6, i7, hv_3, hx1_3, hni_0, Int.toNat_natCast, Nat.mul_one, hq1_0, hq1_1, hq1_2, hr1_1, hr1_0, hr1_5, hr1_6, hI1, hN1, hS1])
      refine (AppendCompactArrayLen_fn _ _ _ ha3.own hB3 (y1.at 1).l.length hlle1_1 (by simp only [List.length_append, List.length_nil]; omega)).mono ?_
      rintro r4 w4 hc4
      rw [← hXLe1_1] at hc4
      have ha4 := ha3.trans hc4
      have hB4 : B ≤ w4.heap.size := Nat.le_trans hB ha4.upd.size
      have hv_4 := ha4.upd.blk_some hv hdv
      have hx1_4 := ha4.upd.blk_some hx1 hnx1
      repeat ((first | refine W.seqR rfl ?_ | refine W.seq ?_ | refine W.regR rfl ?_ | refine W.condK ?_ | refine W.block ?_ | refine W.skip ?_ | refine W.ret ?_ | refine W.exit ?_); try simp (maxSteps := 1000000) (disch := (first | omega | (simp only [World.size_alloc, size_wr, size_drew] <;> omega) | exact not_noB _)) only [go_sem, ↓reduceIte, n0, reduceCtorEq, n1, n2, n3, n4, n5, i0, i1, i2, i3, i4, i5, i6, i7, hv_4, hx1_4, hni_0, Int.toNat_natCast, Nat.mul_one, hq1_0, hq1_1, hq1_2, hr1_1, hr1_0, hr1_5, hr1_6, hI1, hN1, hS1])
      have hadd2 := ha4
      refine W.exitJ 2 (fun ρ w' => ∃ r, ρ 1 = r ∧ ρ 0 = .pointer (some ⟨vb, 0, none⟩) ∧ ρ 5 = .int .i16 ver ∧ ρ 6 = .bool true ∧ ρ 41 = .int .i64 j1 ∧ ρ 40 = .int .i64 L_0.length ∧ ρ 7 = .slice (some ⟨b1, o1, none⟩) L_0.length ac_0 ∧ ρ 9 = .pointer (some ⟨b1, o1 + j1 * 3, none⟩) ∧ AppR 5 B w v s (([] ++ XL_0 ++ T1 ++ Xe1_0 ++ XLe1_1) ++ XEe1_1) r w')
        (W.loop (fun ρ w' => ∃ (j : Nat) (r : Value), j ≤ (y1.at 1).l.length ∧ ρ 73 = .int .i64 j ∧ ρ 72 = .int .i64 (y1.at 1).l.length ∧ ρ 11 = .slice abe1_1 (y1.at 1).l.length ace1_1 ∧ ρ 1 = r ∧ ρ 0 = .pointer (some ⟨vb, 0, none⟩) ∧ ρ 5 = .int .i16 ver ∧ ρ 6 = .bool true ∧ ρ 41 = .int .i64 j1 ∧ ρ 40 = .int .i64 L_0.length ∧ ρ 7 = .slice (some ⟨b1, o1, none⟩) L_0.length ac_0 ∧ ρ 9 = .pointer (some ⟨b1, o1 + j1 * 3, none⟩) ∧ AppR 5 B w v s (([] ++ XL_0 ++ T1 ++ Xe1_0 ++ XLe1_1) ++ ((y1.at 1).l.take j).flatMap (fun x : Tree => fixedS x.n 4)) r w')
          (fun ρ _ => (y1.at 1).l.length - (RowKit.intOf (ρ 73)).toNat) ?_ ?_) ?_
      · refine ⟨0, _, Nat.zero_le _, ?_, ?_, ?_, ?_, ?_, ?_, ?_, ?_, ?_, ?_, ?_, ha4.eqs (by rw [List.take_zero, List.flatMap_nil, List.append_nil])⟩ <;> simp (maxSteps := 1000000) (disch := (first | omega | (simp only [World.size_alloc, size_wr, size_drew] <;> omega) | exact not_noB _)) only [go_sem, ↓reduceIte, n0, reduceCtorEq, n1, n2, n3, n4, n5, i0, i1, i2, i3, i4, i5, i6, i7, hr1_1, hr1_0, hr1_5, hr1_6, hI1, hN1, hS1]
        all_goals rfl
      · rintro ρ w5 ⟨j2, r5, hj2, hI2, hN2, hS2, hr1_2, hr2_0, hr2_5, hr2_6, hr2_41, hr2_40, hr2_7, hr2_9, ha5⟩
        have hB5 : B ≤ w5.heap.size := Nat.le_trans hB ha5.upd.size
        have hv_5 := ha5.upd.blk_some hv hdv
        have hx1_5 := ha5.upd.blk_some hx1 hnx1
        by_cases hlt2 : j2 < (y1.at 1).l.length
        · obtain ⟨_, b2, o2, x2, ce2, hb2, hok2, hx2, hbl2, hxs2, hxe2, hq2, hRe2⟩ := SlR.get (size := 1) (by decide) hse1_1 hlt2
          subst hb2
          have hcat2 : (y1.at 1).l.take (j2 + 1) = (y1.at 1).l.take j2 ++ [(y1.at 1).l[j2]] := List.take_succ_eq_append_getElem hlt2
          have htl2 := take_flatMap_len (y1.at 1).l (fun x : Tree => fixedS x.n 4) (j2 + 1)
          rw [← hXEe1_1, hcat2, List.flatMap_append, List.flatMap_cons, List.flatMap_nil, List.append_nil] at htl2
          have hge2 := hgle1_1.2 _ (List.getElem_mem hlt2)
          generalize (y1.at 1).l[j2] = y2 at *
          have hnx2 := hd b2 hbl2 hok2
          obtain ⟨T2, hTT2⟩ : ∃ T, T = ((y1.at 1).l.take j2).flatMap (fun x : Tree => fixedS x.n 4) := ⟨_, rfl⟩
          rw [← hTT2] at ha5 htl2
          have hx2_5 := ha5.upd.blk_some hx2 hnx2
          obtain rfl := (Rep1_num (by decide)).1 hRe2
          have hq2_0 : x2.1[o2 + j2]? = some (.int .i32 (IntKind.i32.wrap y2.n)) := by have := hq2 0 (by decide); rw [Nat.mul_one] at this; exact this
          obtain ⟨Y2, hY2⟩ : ∃ Y, Y = fixedS (y2).n 4 := ⟨_, rfl⟩
          replace htl2 : (T2 ++ Y2).length ≤ XEe1_1.length := by rw [hY2]; exact htl2
          simp only [List.length_append] at htl2
          repeat ((first | refine W.seqR rfl ?_ | refine W.seq ?_ | refine W.regR rfl ?_ | refine W.condK ?_ | refine W.block ?_ | refine W.skip ?_ | refine W.ret ?_ | refine W.exit ?_); try simp (maxSteps := 1000000) (disch := (first | omega | (simp only [World.size_alloc, size_wr, size_drew] <;> omega) | exact not_noB _)) only [go_sem, ↓reduceIte, n0, reduceCtorEq, n1, n2, n3, n4, n5, i0, i1, i2, i3, i4, i5, i6, i7, hv_5, hx1_5, hx2_5, hni_0, Int.toNat_natCast, Nat.mul_one, hq1_0, hq1_1, hq1_2, hq2_0, hr1_2, hr2_0, hr2_5, hr2_6, hr2_41, hr2_40, hr2_7, hr2_9, hI2, hN2, hS2])
          refine (AppendInt32_fn _ _ _ ha5.own hB5 _ (by simp only [List.length_append, List.length_nil]; omega)).mono ?_
          rintro r6 w6 hc6
          rw [wrap32, ← hY2] at hc6
          have ha6 := ha5.trans hc6
          have hB6 : B ≤ w6.heap.size := Nat.le_trans hB ha6.upd.size
          have hv_6 := ha6.upd.blk_some hv hdv
          have hx1_6 := ha6.upd.blk_some hx1 hnx1
          have hx2_6 := ha6.upd.blk_some hx2 hnx2
          repeat ((first | refine W.seqR rfl ?_ | refine W.seq ?_ | refine W.regR rfl ?_ | refine W.condK ?_ | refine W.block ?_ | refine W.skip ?_ | refine W.ret ?_ | refine W.exit ?_); try simp (maxSteps := 1000000) (disch := (first | omega | (simp only [World.size_alloc, size_wr, size_drew] <;> omega) | exact not_noB _)) only [go_sem, ↓reduceIte, n0, reduceCtorEq, n1, n2, n3, n4, n5, i0, i1, i2, i3, i4, i5, i6, i7, hr1_2, hr2_0, hr2_5, hr2_6, hr2_41, hr2_40, hr2_7, hr2_9, hI2, hN2, hS2])
          refine ⟨⟨j2 + 1, _, by omega, rfl, rfl, ha6.eqs ?_⟩, ?_⟩
          · rw [hcat2, List.flatMap_append, List.flatMap_cons, List.flatMap_nil, List.append_nil, ← hTT2, hY2]; simp only [List.append_assoc, List.append_nil, List.nil_append]
          · simp only [RowKit.intOf]; omega
        · have hjl2 : j2 = (y1.at 1).l.length := by omega
          subst hjl2
          rw [List.take_length, ← hXEe1_1] at ha5
          repeat ((first | refine W.seqR rfl ?_ | refine W.seq ?_ | refine W.regR rfl ?_ | refine W.condK ?_ | refine W.block ?_ | refine W.skip ?_ | refine W.ret ?_ | refine W.exit ?_); try simp (maxSteps := 1000000) (disch := (first | omega | (simp only [World.size_alloc, size_wr, size_drew] <;> omega) | exact not_noB _)) only [go_sem, ↓reduceIte, n0, reduceCtorEq, n1, n2, n3, n4, n5, i0, i1, i2, i3, i4, i5, i6, i7, hI2, hN2])
          exact ⟨_, hr1_2, hr2_0, hr2_5, hr2_6, hr2_41, hr2_40, hr2_7, hr2_9, ha5⟩
      · rintro ρ w7 ⟨r7, hr1_3, hr3_0, hr3_5, hr3_6, hr3_41, hr3_40, hr3_7, hr3_9, ha7⟩
        have hB7 : B ≤ w7.heap.size := Nat.le_trans hB ha7.upd.size
        have hv_7 := ha7.upd.blk_some hv hdv
        have hx1_7 := ha7.upd.blk_some hx1 hnx1
        repeat ((first | refine W.seqR rfl ?_ | refine W.seq ?_ | refine W.regR rfl ?_ | refine W.condK ?_ | refine W.block ?_ | refine W.skip ?_ | refine W.ret ?_ | refine W.exit ?_); try simp (maxSteps := 1000000) (disch := (first | omega | (simp only [World.size_alloc, size_wr, size_drew] <;> omega) | exact not_noB _)) only [go_sem, ↓reduceIte, n0, reduceCtorEq, n1, n2, n3, n4, n5, i0, i1, i2, i3, i4, i5, i6, i7, hv_7, hx1_7, hni_0, Int.toNat_natCast, Nat.mul_one, hq1_0, hq1_1, hq1_2, hr1_3, hr3_0, hr3_5, hr3_6, hr3_41, hr3_40, hr3_7, hr3_9])
        have hTk7 : TagsM (OkS okM w.heap.size) w7 (.map qme1) y1.u := (hTe1.weaken fun b h1 h2 => ⟨h2, h1⟩).keep (ha7.upd.keeps fun b hb hk => hd b hb hk.1)
        refine (TagsLen_fn (ok := OkS okM w.heap.size) w7 hx1_7 (to := o1 + (j1 * 3 + 2)) hq1_2 hTk7).mono ?_
        rintro _ w7' ⟨rfl, rfl⟩
        have hul7 : y1.u.length ≤ 32767 := hfue1.1
        have ew7 : IntKind.u32.wrap (y1.u.length : Int) = y1.u.length := u32_wrap (by omega)
        have ez7 : IntKind.u32.wrap (0 + (y1.u.length : Int)) = y1.u.length := by rw [Int.zero_add, u32_wrap (by omega)]
        simp (maxSteps := 1000000) (disch := (first | omega | (simp only [World.size_alloc, size_wr, size_drew] <;> omega) | exact not_noB _)) only [go_sem, ↓reduceIte, n0, reduceCtorEq, n1, n2, n3, n4, n5, i0, i1, i2, i3, i4, i5, i6, i7, hv_7, hx1_7, hni_0, Int.toNat_natCast, Nat.mul_one, hq1_0, hq1_1, hq1_2, hr1_3, hr3_0, hr3_5, hr3_6, hr3_41, hr3_40, hr3_7, hr3_9, ew7, ez7]
        refine (AppendUvarint_fn _ _ _ ha7.own hB7 y1.u.length (by omega) (by simp only [List.length_append, List.length_nil]; omega)).mono ?_
        rintro r8 w8 hc8
        rw [← hXUe1] at hc8
        have ha8 := ha7.trans hc8
        have hB8 : B ≤ w8.heap.size := Nat.le_trans hB ha8.upd.size
        have hv_8 := ha8.upd.blk_some hv hdv
        have hx1_8 := ha8.upd.blk_some hx1 hnx1
        repeat ((first | refine W.seqR rfl ?_ | refine W.seq ?_ | refine W.regR rfl ?_ | refine W.condK ?_ | refine W.block ?_ | refine W.skip ?_ | refine W.ret ?_ | refine W.exit ?_); try simp (maxSteps := 1000000) (disch := (first | omega | (simp only [World.size_alloc, size_wr, size_drew] <;> omega) | exact not_noB _)) only [go_sem, ↓reduceIte, n0, reduceCtorEq, n1, n2, n3, n4, n5, i0, i1, i2, i3, i4, i5, i6, i7, hv_8, hx1_8, hni_0, Int.toNat_natCast, Nat.mul_one, hq1_0, hq1_1, hq1_2, hr1_3, hr3_0, hr3_5, hr3_6, hr3_41, hr3_40, hr3_7, hr3_9])
        have hTk8 : TagsM (OkS okM w.heap.size) w8 (.map qme1) y1.u := (hTe1.weaken fun b h1 h2 => ⟨h2, h1⟩).keep (ha8.upd.keeps fun b hb hk => hd b hb hk.1)
        refine (AppendEach_fn (ok := OkS okM w.heap.size) _ _ _ ha8.own hB8 hx1_8 (to := o1 + (j1 * 3 + 2)) hq1_2 hTk8 (rising_keys hfue1) hfue1.1 (tags_small hfue1 hTk8) (hdK ha8) (ownK ha8 (blk_lt hx1) hnx1) (by simp only [List.length_append, List.length_nil]; omega)).mono ?_
        rintro r9 w9 hc9
        rw [← hXTe1] at hc9
        have ha9 := ha8.trans hc9
        have hB9 : B ≤ w9.heap.size := Nat.le_trans hB ha9.upd.size
        have hv_9 := ha9.upd.blk_some hv hdv
        have hx1_9 := ha9.upd.blk_some hx1 hnx1
        repeat ((first | refine W.seqR rfl ?_ | refine W.seq ?_ | refine W.regR rfl ?_ | refine W.condK ?_ | refine W.block ?_ | refine W.skip ?_ | refine W.ret ?_ | refine W.exit ?_); try simp (maxSteps := 1000000) (disch := (first | omega | (simp only [World.size_alloc, size_wr, size_drew] <;> omega) | exact not_noB _)) only [go_sem, ↓reduceIte, n0, reduceCtorEq, n1, n2, n3, n4, n5, i0, i1, i2, i3, i4, i5, i6, i7, hr1_3, hr3_0, hr3_5, hr3_6, hr3_41, hr3_40, hr3_7, hr3_9])
        refine ⟨⟨j1 + 1, _, by omega, rfl, rfl, ha9.eqs ?_⟩, ?_⟩
        · rw [hcat1, List.flatMap_append, List.flatMap_cons, List.flatMap_nil, List.append_nil, ← hTT1, hPe1]; simp only [List.append_assoc, List.append_nil, List.nil_append]
        · simp only [RowKit.intOf]; omega
    · have hjl1 : j1 = L_0.length := by omega
      subst hjl1
      rw [List.take_length, ← hXE_0] at ha2
      repeat ((first | refine W.seqR rfl ?_ | refine W.seq ?_ | refine W.regR rfl ?_ | refine W.condK ?_ | refine W.block ?_ | refine W.skip ?_ | refine W.ret ?_ | refine W.exit ?_); try simp (maxSteps := 1000000) (disch := (first | omega | (simp only [World.size_alloc, size_wr, size_drew] <;> omega) | exact not_noB _)) only [go_sem, ↓reduceIte, n0, reduceCtorEq, n1, n2, n3, n4, n5, i0, i1, i2, i3, i4, i5, i6, i7, hI1, hN1])
      exact ⟨_, hr1_1, hr1_0, hr1_5, hr1_6, ha2⟩
  · rintro ρ w10 ⟨r10, hr1_4, hr4_0, hr4_5, hr4_6, ha10⟩
    have hB10 : B ≤ w10.heap.size := Nat.le_trans hB ha10.upd.size
    have hv_10 := ha10.upd.blk_some hv hdv
    repeat ((first | refine W.seqR rfl ?_ | refine W.seq ?_ | refine W.regR rfl ?_ | refine W.condK ?_ | refine W.block ?_ | refine W.skip ?_ | refine W.ret ?_ | refine W.exit ?_); try simp (maxSteps := 1000000) (disch := (first | omega | (simp only [World.size_alloc, size_wr, size_drew] <;> omega) | exact not_noB _)) only [go_sem, ↓reduceIte, n0, reduceCtorEq, n1, n2, n3, n4, n5, i0, i1, i2, i3, i4, i5, i6, i7, hv_10, hni_0, hr1_4, hr4_0, hr4_5, hr4_6])
    have hTk10 : TagsM (OkS okM w.heap.size) w10 (.map qm) t.u := (hT.weaken fun b h1 h2 => ⟨h2, h1⟩).keep (ha10.upd.keeps fun b hb hk => hd b hb hk.1)
    refine (TagsLen_fn (ok := OkS okM w.heap.size) w10 hv_10 (to := 2) (show (#[.int .i16 ver, .slice ab_0 L_0.length ac_0, .map qm] : Array Value)[2]? = some (.map qm) from rfl) hTk10).mono ?_
    rintro _ w10' ⟨rfl, rfl⟩
    have hul10 : t.u.length ≤ 32767 := hfu.1
    have ew10 : IntKind.u32.wrap (t.u.length : Int) = t.u.length := u32_wrap (by omega)
    have ez10 : IntKind.u32.wrap (0 + (t.u.length : Int)) = t.u.length := by rw [Int.zero_add, u32_wrap (by omega)]
    simp (maxSteps := 1000000) (disch := (first | omega | (simp only [World.size_alloc, size_wr, size_drew] <;> omega) | exact not_noB _)) only [go_sem, ↓reduceIte, n0, reduceCtorEq, n1, n2, n3, n4, n5, i0, i1, i2, i3, i4, i5, i6, i7, hv_10, hni_0, hr1_4, hr4_0, hr4_5, hr4_6, ew10, ez10]
    refine (AppendUvarint_fn _ _ _ ha10.own hB10 t.u.length (by omega) (by simp only [List.length_append, List.length_nil]; omega)).mono ?_
    rintro r11 w11 hc11
    rw [← hXU] at hc11
    have ha11 := ha10.trans hc11
    have hB11 : B ≤ w11.heap.size := Nat.le_trans hB ha11.upd.size
    have hv_11 := ha11.upd.blk_some hv hdv
    repeat ((first | refine W.seqR rfl ?_ | refine W.seq ?_ | refine W.regR rfl ?_ | refine W.condK ?_ | refine W.block ?_ | refine W.skip ?_ | refine W.ret ?_ | refine W.exit ?_); try simp (maxSteps := 1000000) (disch := (first | omega | (simp only [World.size_alloc, size_wr, size_drew] <;> omega) | exact not_noB _)) only [go_sem, ↓reduceIte, n0, reduceCtorEq, n1, n2, n3, n4, n5, i0, i1, i2, i3, i4, i5, i6, i7, hv_11, hni_0, hr1_4, hr4_0, hr4_5, hr4_6])
    have hTk11 : TagsM (OkS okM w.heap.size) w11 (.map qm) t.u := (hT.weaken fun b h1 h2 => ⟨h2, h1⟩).keep (ha11.upd.keeps fun b hb hk => hd b hb hk.1)
    refine (AppendEach_fn (ok := OkS okM w.heap.size) _ _ _ ha11.own hB11 hv_11 (to := 2) (show (#[.int .i16 ver, .slice ab_0 L_0.length ac_0, .map qm] : Array Value)[2]? = some (.map qm) from rfl) hTk11 (rising_keys hfu) hfu.1 (tags_small hfu hTk11) (hdK ha11) (ownK ha11 (blk_lt hv) hdv) (by simp only [List.length_append, List.length_nil]; omega)).mono ?_
    rintro r12 w12 hc12
    rw [← hXT] at hc12
    have ha12 := ha11.trans hc12
    have hB12 : B ≤ w12.heap.size := Nat.le_trans hB ha12.upd.size
    have hv_12 := ha12.upd.blk_some hv hdv
    repeat ((first | refine W.seqR rfl ?_ | refine W.seq ?_ | refine W.regR rfl ?_ | refine W.condK ?_ | refine W.block ?_ | refine W.skip ?_ | refine W.ret ?_ | refine W.exit ?_); try simp (maxSteps := 1000000) (disch := (first | omega | (simp only [World.size_alloc, size_wr, size_drew] <;> omega) | exact not_noB _)) only [go_sem, ↓reduceIte, n0, reduceCtorEq, n1, n2, n3, n4, n5, i0, i1, i2, i3, i4, i5, i6, i7, hv_12, hni_0, hr1_4, hr4_0, hr4_5, hr4_6])
    refine ha12.eqs ?_
    rw [hP]; simp only [List.append_assoc, List.append_nil, List.nil_append]
end Ms

namespace Ms
open Nat renaming reduceEqDiff → n0, reduceAdd → n1, reduceMul → n2, reduceSub → n3, reduceLT → n4, reduceLeDiff → n5
open Int renaming reduceEq → i0, reduceLT → i1, reduceLE → i2, reduceNeg → i3, reduceAdd → i4, reduceSub → i5, reduceMul → i6, reduceToNat → i7
set_option maxRecDepth 8000
open Go Go.Proofs Go.Shelf
attribute [local congr] W_congr WPsq_congr WPp_congr optK_congr addrK_congr intK_congr boolK_congr sliceK_congr tupleK_congr funcK_congr Fn_congr rawK_congr takeK_congr stepK_congr convK_congr aggK_congr

set_option maxHeartbeats 2000000 in
theorem BehindDescribeLogDirsRequest_fn {d : Nat} {ok : Blocks} {ev : Value} (ver : Nat) (hv : ver ≤ 5) (t : Tree) (dst b : Value) (D : List UInt8) (w : World) (hd : BytesV ok w dst D) (hb : BytesV ok w b (partS (d + 2) fs_DescribeLogDirsRequest ver (flexB 2 ver) t)) (hG : Glo ev w) (hrd : rdP (d + 2) ver (flexB 2 ver) fs_DescribeLogDirsRequest (some (partS (d + 2) fs_DescribeLogDirsRequest ver (flexB 2 ver) t)) = (cnP (d + 2) ver (flexB 2 ver) fs_DescribeLogDirsRequest t, some []))
    (hcn : partS (d + 2) fs_DescribeLogDirsRequest ver (flexB 2 ver) (cnP (d + 2) ver (flexB 2 ver) fs_DescribeLogDirsRequest t) = (partS (d + 2) fs_DescribeLogDirsRequest ver (flexB 2 ver) t) ∧ FitW ver (d + 2) fs_DescribeLogDirsRequest (cnP (d + 2) ver (flexB 2 ver) fs_DescribeLogDirsRequest t)) (hD : D.length ≤ 1000) (hl : (partS (d + 2) fs_DescribeLogDirsRequest ver (flexB 2 ver) t).length ≤ 2 ^ 40) :
    Fn Tryz.prog 22 #[.int .i64 ver, dst, b] w fun r w' => (∃ v, r = .tuple #[v, .bool true] ∧ OwnBy 5 w.heap.size w' v (D ++ (partS (d + 2) fs_DescribeLogDirsRequest ver (flexB 2 ver) t))) ∧ Ext w w' := by
  obtain ⟨da, dc, rfl, _⟩ := hd.shape
  obtain ⟨ba, bc, rfl, _⟩ := hb.shape
  have hgl := hG.lt
  have ew : IntKind.i16.wrap (ver : Int) = ver := i16_wrap (by omega)
  refine fn_of_W Tryz.func22 rfl Tryz.results22 Tryz.ntmps22 rfl ?_
  repeat ((first | refine W.seqR rfl ?_ | refine W.seq ?_ | refine W.regR rfl ?_ | refine W.condK ?_ | refine W.block ?_ | refine W.skip ?_ | refine W.ret ?_ | refine W.exit ?_); try simp (maxSteps := 1000000) (disch := (first | omega | (simp only [World.size_alloc, size_wr, size_drew] <;> omega) | exact not_noB _)) only [go_sem, ↓reduceIte, n0, reduceCtorEq, n1, n2, n3, n4, n5, i0, i1, i2, i3, i4, i5, i6, i7, ew])
  refine (NewPtrDescribeLogDirsRequest_fn w).mono ?_
  rintro _ w1 ⟨rfl, hb1, hE1⟩
  have hz1 := blk_lt hb1
  repeat ((first | refine W.seqR rfl ?_ | refine W.seq ?_ | refine W.regR rfl ?_ | refine W.condK ?_ | refine W.block ?_ | refine W.skip ?_ | refine W.ret ?_ | refine W.exit ?_); try simp (maxSteps := 1000000) (disch := (first | omega | (simp only [World.size_alloc, size_wr, size_drew] <;> omega) | exact not_noB _)) only [go_sem, ↓reduceIte, n0, reduceCtorEq, n1, n2, n3, n4, n5, i0, i1, i2, i3, i4, i5, i6, i7, ew])
  refine (SetVersionDescribeLogDirsRequest_fn w1 (vb := w.heap.size) ver hb1).mono ?_
  rintro _ w2 ⟨hb2, hU2⟩
  have hz2 := hU2.size
  have hE2 : Ext w w2 := hE1.more hU2 fun b hb h => by omega
  repeat ((first | refine W.seqR rfl ?_ | refine W.seq ?_ | refine W.regR rfl ?_ | refine W.condK ?_ | refine W.block ?_ | refine W.skip ?_ | refine W.ret ?_ | refine W.exit ?_); try simp (maxSteps := 1000000) (disch := (first | omega | (simp only [World.size_alloc, size_wr, size_drew] <;> omega) | exact not_noB _)) only [go_sem, ↓reduceIte, n0, reduceCtorEq, n1, n2, n3, n4, n5, i0, i1, i2, i3, i4, i5, i6, i7, ew])
  refine wp_copyN ap_22_22 (ok := ok) (s := (partS (d + 2) fs_DescribeLogDirsRequest ver (flexB 2 ver) t)) (v := .slice ba _ bc) (by first | rfl | simp (maxSteps := 1000000) (disch := (first | omega | (simp only [World.size_alloc, size_wr, size_drew] <;> omega) | exact not_noB _)) only [go_sem, ↓reduceIte, n0, reduceCtorEq, n1, n2, n3, n4, n5, i0, i1, i2, i3, i4, i5, i6, i7]) (by first | rfl | simp (maxSteps := 1000000) (disch := (first | omega | (simp only [World.size_alloc, size_wr, size_drew] <;> omega) | exact not_noB _)) only [go_sem, ↓reduceIte, n0, reduceCtorEq, n1, n2, n3, n4, n5, i0, i1, i2, i3, i4, i5, i6, i7]) (hb.keep (hE2.keeps _)) (by omega) ?_
  intro v3 w3 ho3 hE3 hf3
  have hz3 := hE3.size
  have hb3 := hE3.blk_some hb2 id
  have hG3 : Glo ev w3 := hG.updS (hE2.trans hE3) id id
  obtain ⟨a3, c3, rfl, _⟩ := ho3.shape
  simp (maxSteps := 1000000) (disch := (first | omega | (simp only [World.size_alloc, size_wr, size_drew] <;> omega) | exact not_noB _)) only [go_sem, ↓reduceIte, n0, reduceCtorEq, n1, n2, n3, n4, n5, i0, i1, i2, i3, i4, i5, i6, i7]
  refine (ReadFromDescribeLogDirsRequest_fn (d := d) (ok := fun b => b < w3.heap.size ∧ b ≠ w.heap.size) (ev := ev) (ver := ver) (by omega) (by omega) w3 _ _ hb3 ((Own.bytes ho3 hf3).weaken fun b hb hk => ⟨hb, by omega⟩) (fun b hb => hb) hG3 ⟨by omega, by omega⟩).mono ?_
  rintro r4 w4 ⟨_, h4, hU4⟩
  rw [hrd] at h4
  obtain ⟨rfl, cells, hb4, hR4⟩ := h4 (by simp)
  have hz4 := hU4.size
  have hE4 : Ext w w4 := (hE2.trans hE3).more hU4 fun b hb h => by omega
  have hR4' : RepS true (d + 2) fs_DescribeLogDirsRequest (fun b => b < w4.heap.size) w4 (cnP (d + 2) ver (flexB 2 ver) fs_DescribeLogDirsRequest t) cells := (RepS_lay true (d + 2) fs_DescribeLogDirsRequest).weaken hR4 fun b hb _ => hb
  try simp (maxSteps := 1000000) (disch := (first | omega | (simp only [World.size_alloc, size_wr, size_drew] <;> omega) | exact not_noB _)) only [go_sem, ↓reduceIte, n0, reduceCtorEq, n1, n2, n3, n4, n5, i0, i1, i2, i3, i4, i5, i6, i7]
  repeat ((first | refine W.seqR rfl ?_ | refine W.seq ?_ | refine W.regR rfl ?_ | refine W.condK ?_ | refine W.block ?_ | refine W.skip ?_ | refine W.ret ?_ | refine W.exit ?_); try simp (maxSteps := 1000000) (disch := (first | omega | (simp only [World.size_alloc, size_wr, size_drew] <;> omega) | exact not_noB _)) only [go_sem, ↓reduceIte, n0, reduceCtorEq, n1, n2, n3, n4, n5, i0, i1, i2, i3, i4, i5, i6, i7])
  refine wp_copyN ap_22_22 (ok := ok) (s := D) (v := .slice da _ dc) (by first | rfl | simp (maxSteps := 1000000) (disch := (first | omega | (simp only [World.size_alloc, size_wr, size_drew] <;> omega) | exact not_noB _)) only [go_sem, ↓reduceIte, n0, reduceCtorEq, n1, n2, n3, n4, n5, i0, i1, i2, i3, i4, i5, i6, i7]) (by first | rfl | simp (maxSteps := 1000000) (disch := (first | omega | (simp only [World.size_alloc, size_wr, size_drew] <;> omega) | exact not_noB _)) only [go_sem, ↓reduceIte, n0, reduceCtorEq, n1, n2, n3, n4, n5, i0, i1, i2, i3, i4, i5, i6, i7]) (hd.keep (hE4.keeps _)) (by omega) ?_
  intro v5 w5 ho5 hE5 hf5
  have hz5 := hE5.size
  have hb5 := hE5.blk_some hb4 id
  have hR5 := (RepS_lay true (d + 2) fs_DescribeLogDirsRequest).keep hR4' (hE5.keeps _)
  obtain ⟨a5, c5, rfl, _⟩ := ho5.shape
  simp (maxSteps := 1000000) (disch := (first | omega | (simp only [World.size_alloc, size_wr, size_drew] <;> omega) | exact not_noB _)) only [go_sem, ↓reduceIte, n0, reduceCtorEq, n1, n2, n3, n4, n5, i0, i1, i2, i3, i4, i5, i6, i7]
  have hcl : (0 ≤ (ver : Int) ∧ (ver : Int) ≤ 1) ∨ (2 ≤ (ver : Int) ∧ (ver : Int) ≤ 5) := by omega
  rcases hcl with ⟨h1, h2⟩ | ⟨h1, h2⟩
  · have hfl : flexB 2 ver = false := by simp only [flexB, Bool.and_eq_false_iff, decide_eq_false_iff_not]; omega
    rw [hfl] at hcn hR5 hl ⊢
    refine (appDescribeLogDirsRequest_0 (d := d) (B := w.heap.size) h1 h2 _ cells _ D w5 (Own.mono ho5 (by omega)) (by omega) hb5 hR5 hcn.2 (fun b _ h1 h2 => by have := hf5 b h2; omega) (fun h => by have := hf5 _ h; omega) (by rw [hcn.1]; omega)).mono ?_
    rintro r6 w6 h6
    repeat ((first | refine W.seqR rfl ?_ | refine W.seq ?_ | refine W.regR rfl ?_ | refine W.condK ?_ | refine W.block ?_ | refine W.skip ?_ | refine W.ret ?_ | refine W.exit ?_); try simp (maxSteps := 1000000) (disch := (first | omega | (simp only [World.size_alloc, size_wr, size_drew] <;> omega) | exact not_noB _)) only [go_sem, ↓reduceIte, n0, reduceCtorEq, n1, n2, n3, n4, n5, i0, i1, i2, i3, i4, i5, i6, i7])
    refine ⟨by have := h6.own; rw [hcn.1] at this; exact ⟨_, rfl, this⟩, (hE4.trans hE5).more h6.upd fun b hb h => by have := hf5 b h; omega⟩
  · have hfl : flexB 2 ver = true := by simp only [flexB, Bool.and_eq_true, decide_eq_true_eq]; omega
    rw [hfl] at hcn hR5 hl ⊢
    refine (appDescribeLogDirsRequest_1 (d := d) (B := w.heap.size) h1 h2 _ cells _ D w5 (Own.mono ho5 (by omega)) (by omega) hb5 hR5 hcn.2 (fun b _ h1 h2 => by have := hf5 b h2; omega) (fun h => by have := hf5 _ h; omega) (by rw [hcn.1]; omega)).mono ?_
    rintro r6 w6 h6
    repeat ((first | refine W.seqR rfl ?_ | refine W.seq ?_ | refine W.regR rfl ?_ | refine W.condK ?_ | refine W.block ?_ | refine W.skip ?_ | refine W.ret ?_ | refine W.exit ?_); try simp (maxSteps := 1000000) (disch := (first | omega | (simp only [World.size_alloc, size_wr, size_drew] <;> omega) | exact not_noB _)) only [go_sem, ↓reduceIte, n0, reduceCtorEq, n1, n2, n3, n4, n5, i0, i1, i2, i3, i4, i5, i6, i7])
    refine ⟨by have := h6.own; rw [hcn.1] at this; exact ⟨_, rfl, this⟩, (hE4.trans hE5).more h6.upd fun b hb h => by have := hf5 b h; omega⟩

end Ms

namespace Ms
open Nat renaming reduceEqDiff → n0, reduceAdd → n1, reduceMul → n2, reduceSub → n3, reduceLT → n4, reduceLeDiff → n5
open Int renaming reduceEq → i0, reduceLT → i1, reduceLE → i2, reduceNeg → i3, reduceAdd → i4, reduceSub → i5, reduceMul → i6, reduceToNat → i7
set_option maxRecDepth 8000
open Go Go.Proofs Go.Shelf
attribute [local congr] W_congr WPsq_congr WPp_congr optK_congr addrK_congr intK_congr boolK_congr sliceK_congr tupleK_congr funcK_congr Fn_congr rawK_congr takeK_congr stepK_congr convK_congr aggK_congr

set_option maxHeartbeats 2000000 in
theorem law_BehindDescribeLogDirsRequest {ok : Blocks} {ev : Value} (n : Nat) (hn : n < 256) (dst : Value) (Dd : List UInt8) (t : Tree) (ct : List Value) (w : World) (hd : BytesV ok w dst Dd) (ht : TreeC ok w t ct) (hsm : Small 4611686018427387903 t) (hG : Glo ev w) (hDl : Dd.length ≤ 1048576) {N : Nat} (hN : N ≤ 1048576) (hsz : Sized N t) :
    Fn Tryz.prog 5 #[.int .u8 n, dst, .agg ct.toArray] w fun r w' => r = .bool true ∧ Ext w w' := by
  obtain ⟨vS, vL, vU, rfl, hn', hS, hL, hU⟩ := ht.inv
  obtain ⟨da, dc, rfl, _⟩ := hd.shape
  have f1 := hS.flat
  have f2 := SlR.flat hL
  have f3 := SlR.flat hU
  have hD1 : ¬ (2147483647 : Int) < (Dd.length : Int) := by omega
  have hE : Ext w (w.alloc (.cells #[.int .i64 t.n, vS, .bool t.null, vL, vU] 26)) := Upd.alloc (Upd.refl _ _) _
  refine fn_of_W Tryz.func5 rfl Tryz.results5 Tryz.ntmps5 rfl ?_
  repeat ((first | refine W.seqR rfl ?_ | refine W.seq ?_ | refine W.regR rfl ?_ | refine W.condK ?_ | refine W.block ?_ | refine W.skip ?_ | refine W.ret ?_ | refine W.exit ?_); try simp (maxSteps := 1000000) (disch := (first | omega | (simp only [World.size_alloc, size_wr, size_drew] <;> omega) | exact not_noB _)) only [go_sem, ↓reduceIte, n0, reduceCtorEq, n1, n2, n3, n4, n5, i0, i1, i2, i3, i4, i5, i6, i7, f1, f2, f3, cellsAt_five, hD1])
  have hb : blk (w.alloc (.cells #[.int .i64 t.n, vS, .bool t.null, vL, vU] 26)) w.heap.size = some (#[.int .i64 t.n, vS, .bool t.null, vL, vU], 26, (0, 0)) := blk_alloc_new rfl
  generalize (w.alloc (.cells #[.int .i64 t.n, vS, .bool t.null, vL, vU] 26)) = w1 at *
  refine (zzFits1_fn (ok := ok) t _ w1 (ht.keep (hE.keeps _)) hsm).mono ?_
  rintro r2 w2 ⟨⟨bb, rfl⟩, hE2⟩
  cases bb with
  | false =>
    simp (maxSteps := 1000000) (disch := (first | omega | (simp only [World.size_alloc, size_wr, size_drew] <;> omega) | exact not_noB _)) only [go_sem, ↓reduceIte, n0, reduceCtorEq, n1, n2, n3, n4, n5, i0, i1, i2, i3, i4, i5, i6, i7]
    repeat ((first | refine W.seqR rfl ?_ | refine W.seq ?_ | refine W.regR rfl ?_ | refine W.condK ?_ | refine W.block ?_ | refine W.skip ?_ | refine W.ret ?_ | refine W.exit ?_); try simp (maxSteps := 1000000) (disch := (first | omega | (simp only [World.size_alloc, size_wr, size_drew] <;> omega) | exact not_noB _)) only [go_sem, ↓reduceIte, n0, reduceCtorEq, n1, n2, n3, n4, n5, i0, i1, i2, i3, i4, i5, i6, i7])
    all_goals exact hE.trans hE2
  | true =>
    simp (maxSteps := 1000000) (disch := (first | omega | (simp only [World.size_alloc, size_wr, size_drew] <;> omega) | exact not_noB _)) only [go_sem, ↓reduceIte, n0, reduceCtorEq, n1, n2, n3, n4, n5, i0, i1, i2, i3, i4, i5, i6, i7]
    repeat ((first | refine W.seqR rfl ?_ | refine W.seq ?_ | refine W.regR rfl ?_ | refine W.condK ?_ | refine W.block ?_ | refine W.skip ?_ | refine W.ret ?_ | refine W.exit ?_); try simp (maxSteps := 1000000) (disch := (first | omega | (simp only [World.size_alloc, size_wr, size_drew] <;> omega) | exact not_noB _)) only [go_sem, ↓reduceIte, n0, reduceCtorEq, n1, n2, n3, n4, n5, i0, i1, i2, i3, i4, i5, i6, i7])
    refine (MaxDescribeLogDirsRequest_fn w2).mono ?_
    rintro _ w2m ⟨rfl, hE2m⟩
    repeat ((first | refine W.seqR rfl ?_ | refine W.seq ?_ | refine W.regR rfl ?_ | refine W.condK ?_ | refine W.block ?_ | refine W.skip ?_ | refine W.ret ?_ | refine W.exit ?_); try simp (maxSteps := 1000000) (disch := (first | omega | (simp only [World.size_alloc, size_wr, size_drew] <;> omega) | exact not_noB _)) only [go_sem, ↓reduceIte, n0, reduceCtorEq, n1, n2, n3, n4, n5, i0, i1, i2, i3, i4, i5, i6, i7])
    refine (cDescribeLogDirsRequest_fn w2m).mono ?_
    rintro r3 w3 ⟨⟨vs, rfl, hF0⟩, hE3⟩
    have hF : FldsV AnyB w3 vs fs_DescribeLogDirsRequest := hF0.weaken fun _ _ _ => trivial
    have fF := SlR.flat hF
    simp (maxSteps := 1000000) (disch := (first | omega | (simp only [World.size_alloc, size_wr, size_drew] <;> omega) | exact not_noB _)) only [go_sem, ↓reduceIte, n0, reduceCtorEq, n1, n2, n3, n4, n5, i0, i1, i2, i3, i4, i5, i6, i7]
    refine (version_fn w3 n 5 hn (by decide)).mono ?_
    rintro _ w3v ⟨rfl, rfl⟩
    have hE03 : Ext w w3v := ((hE.trans hE2).trans hE2m).trans hE3
    have hb3 := hE3.blk_some (hE2m.blk_some (hE2.blk_some hb id) id) id
    have hE4 : Ext w3v (wr (w3v.alloc (.cells #[.slice none 0 0, .int .i64 0] 31)) w3v.heap.size 0 [vs, .int .i64 2]) := (Upd.alloc (Upd.refl _ _) _).wr _ _ (.inl (Nat.le_refl _))
    have hb4 : blk (wr (w3v.alloc (.cells #[.slice none 0 0, .int .i64 0] 31)) w3v.heap.size 0 [vs, .int .i64 2]) w3v.heap.size = some (#[vs, .int .i64 2], 31, (0, 0)) := by simp (maxSteps := 1000000) (disch := (first | omega | (simp only [World.size_alloc, size_wr, size_drew] <;> omega) | exact not_noB _)) only [go_sem, ↓reduceIte, n0, reduceCtorEq, n1, n2, n3, n4, n5, i0, i1, i2, i3, i4, i5, i6, i7]
    simp (maxSteps := 1000000) (disch := (first | omega | (simp only [World.size_alloc, size_wr, size_drew] <;> omega) | exact not_noB _)) only [go_sem, ↓reduceIte, n0, reduceCtorEq, n1, n2, n3, n4, n5, i0, i1, i2, i3, i4, i5, i6, i7, fF]
    generalize (wr (w3v.alloc (.cells #[.slice none 0 0, .int .i64 0] 31)) w3v.heap.size 0 [vs, .int .i64 2]) = w4 at *
    have hb34 := hE4.blk_some hb3 id
    have hv3 : n % 6 < 6 := Nat.mod_lt _ (by omega)
    generalize n % 6 = ver at *
    have hs1 := blk_lt hb4
    have hs2 := blk_lt hb34
    by_cases hD2 : (1000 : Int) < (Dd.length : Int)
    · repeat ((first | refine W.seqR rfl ?_ | refine W.seq ?_ | refine W.regR rfl ?_ | refine W.condK ?_ | refine W.block ?_ | refine W.skip ?_ | refine W.ret ?_ | refine W.exit ?_); try simp (maxSteps := 1000000) (disch := (first | omega | (simp only [World.size_alloc, size_wr, size_drew] <;> omega) | exact not_noB _)) only [go_sem, ↓reduceIte, n0, reduceCtorEq, n1, n2, n3, n4, n5, i0, i1, i2, i3, i4, i5, i6, i7, hD2])
      all_goals exact hE03.trans hE4
    repeat ((first | refine W.seqR rfl ?_ | refine W.seq ?_ | refine W.regR rfl ?_ | refine W.condK ?_ | refine W.block ?_ | refine W.skip ?_ | refine W.ret ?_ | refine W.exit ?_); try simp (maxSteps := 1000000) (disch := (first | omega | (simp only [World.size_alloc, size_wr, size_drew] <;> omega) | exact not_noB _)) only [go_sem, ↓reduceIte, n0, reduceCtorEq, n1, n2, n3, n4, n5, i0, i1, i2, i3, i4, i5, i6, i7, hD2, hb34, hb4, cellsAt_five, cellsAt_two])
    have hE04 : Ext w w4 := hE03.trans hE4
    have hokF : okF 2 fs_DescribeLogDirsRequest = true := by decide
    have hokM : okM 2 fs_DescribeLogDirsRequest = true := by decide
    have hokR : okR 2 ver (flexB 2 ver) fs_DescribeLogDirsRequest = true := (by decide : ∀ v : Fin 6, okR 2 ((v.val : Nat) : Int) (flexB 2 ((v.val : Nat) : Int)) fs_DescribeLogDirsRequest = true) ⟨ver, hv3⟩
    have hpl : (partS 3 fs_DescribeLogDirsRequest ver (flexB 2 ver) t).length ≤ 2 ^ 40 := Nat.le_trans (partS_bound ver _ 2 fs_DescribeLogDirsRequest N t hokM hsz) (Nat.le_trans (Nat.mul_le_mul_left _ (Nat.succ_le_succ hN)) (by decide))
    refine (Write_fn (ok := AnyB) (d := 2) fs_DescribeLogDirsRequest 2 ver t vs _ w4 (hF.keep (Ext.keeps hE4 _)) hokF ((ht.weaken fun _ _ _ => trivial).keep (Ext.keeps hE04 _)) hsm hpl).mono ?_
    rintro r5 w5 ⟨ho5, hE5⟩
    have hE05 := hE04.trans hE5
    obtain ⟨a5, c5, rfl, _⟩ := ho5.shape
    repeat ((first | refine W.seqR rfl ?_ | refine W.seq ?_ | refine W.regR rfl ?_ | refine W.condK ?_ | refine W.block ?_ | refine W.skip ?_ | refine W.ret ?_ | refine W.exit ?_); try simp (maxSteps := 1000000) (disch := (first | omega | (simp only [World.size_alloc, size_wr, size_drew] <;> omega) | exact not_noB _)) only [go_sem, ↓reduceIte, n0, reduceCtorEq, n1, n2, n3, n4, n5, i0, i1, i2, i3, i4, i5, i6, i7])
    have hrd := (rdP_part ver (flexB 2 ver) 2 fs_DescribeLogDirsRequest N t hokR hsz).1 []
    rw [List.append_nil] at hrd
    refine (BehindDescribeLogDirsRequest_fn (d := 1) (ok := AnyB) (ev := ev) ver (by omega) t _ _ Dd w5 ((hd.weaken (ok' := AnyB) fun _ _ _ => trivial).keep (Ext.keeps hE05 _)) (Own.bytes (ok := AnyB) ho5 fun _ _ => trivial) (hG.updS hE05 id id) hrd (partS_cn ver (flexB 2 ver) 2 fs_DescribeLogDirsRequest t hokR) (by omega) hpl).mono ?_
    rintro _ w6 ⟨⟨v6, rfl, ho6⟩, hE6⟩
    have hE06 := hE05.trans hE6
    obtain ⟨a6, c6, rfl, _⟩ := ho6.shape
    try simp (maxSteps := 1000000) (disch := (first | omega | (simp only [World.size_alloc, size_wr, size_drew] <;> omega) | exact not_noB _)) only [go_sem, ↓reduceIte, n0, reduceCtorEq, n1, n2, n3, n4, n5, i0, i1, i2, i3, i4, i5, i6, i7]
    repeat ((first | refine W.seqR rfl ?_ | refine W.seq ?_ | refine W.regR rfl ?_ | refine W.condK ?_ | refine W.block ?_ | refine W.skip ?_ | refine W.ret ?_ | refine W.exit ?_); try simp (maxSteps := 1000000) (disch := (first | omega | (simp only [World.size_alloc, size_wr, size_drew] <;> omega) | exact not_noB _)) only [go_sem, ↓reduceIte, n0, reduceCtorEq, n1, n2, n3, n4, n5, i0, i1, i2, i3, i4, i5, i6, i7])
    have hE7 : Ext w6 (w6.alloc (.cells #[] 5)) := Upd.alloc (Upd.refl _ _) _
    have ho7 : Own w6.heap.size (w6.alloc (.cells #[] 5)) 5 1 (.slice (some ⟨w6.heap.size, 0, none⟩) 0 0) 0 [] := ⟨by simp, .inr ⟨_, 0, [], (0, 0), rfl, Nat.le_refl _, blk_alloc_new rfl, rfl, thaw_00 _ _, Nat.le_refl _⟩⟩
    have ha6 : blk (w6.alloc (.cells #[] 5)) w6.heap.size = some (#[], 5, (0, 0)) := blk_alloc_new rfl
    generalize w6.alloc (.cells #[] 5) = w7 at *
    have hz6 := hE6.size
    have hz7 := hE7.size
    have hz05 := hE05.size
    have hd7 : BytesV AnyB w7 _ Dd := BytesV.keep (hd.weaken (ok' := AnyB) fun _ _ _ => trivial) (Ext.keeps (hE06.trans hE7) _)
    have hb7 : BytesV (fun b => b < w6.heap.size) w7 _ (partS 3 fs_DescribeLogDirsRequest ver (flexB 2 ver) t) := BytesV.keep ((Own.bytes (ok := AnyB) ho5 fun _ _ => trivial).weaken fun b hb _ => by omega) (Ext.keeps (hE6.trans hE7) _)
    have hr7 : BytesV (fun b => b < w6.heap.size) w7 _ (Dd ++ (partS 3 fs_DescribeLogDirsRequest ver (flexB 2 ver) t)) := BytesV.keep ((Own.bytes (ok := AnyB) ho6 fun _ _ => trivial).weaken fun b hb _ => hb) (Ext.keeps hE7 _)
    refine wp_append ap_22_22 (B := w6.heap.size) (n := 0) (cs := []) (m := Dd.length) (news := Dd.map byteV) (v := .slice (some ⟨w6.heap.size, 0, none⟩) 0 0) (u := .slice da Dd.length dc) (by first | rfl | simp (maxSteps := 1000000) (disch := (first | omega | (simp only [World.size_alloc, size_wr, size_drew] <;> omega) | exact not_noB _)) only [go_sem, ↓reduceIte, n0, reduceCtorEq, n1, n2, n3, n4, n5, i0, i1, i2, i3, i4, i5, i6, i7]) (by first | rfl | simp (maxSteps := 1000000) (disch := (first | omega | (simp only [World.size_alloc, size_wr, size_drew] <;> omega) | exact not_noB _)) only [go_sem, ↓reduceIte, n0, reduceCtorEq, n1, n2, n3, n4, n5, i0, i1, i2, i3, i4, i5, i6, i7]) ho7 rfl hd7.src (by omega) (by omega) ?_
    intro v8 w8 h8 hU8 hf8
    rw [Nat.zero_add, List.nil_append] at h8
    have hz8 := hU8.size
    have hn7 : ∀ b, ownB (.slice (some ⟨w6.heap.size, 0, none⟩) 0 0) b → b = w6.heap.size := fun b h => ownB_row h
    have hE8 : Ext w w8 := (hE06.trans hE7).more hU8 fun b hb h => by have := hn7 b h; have := hE06.size; omega
    have hb8 := hb7.keep (hU8.keeps fun b _ hk h => by have := hn7 b h; omega)
    have hr8 := hr7.keep (hU8.keeps fun b _ hk h => by have := hn7 b h; omega)
    obtain ⟨a8, c8, rfl, _⟩ := h8.shape
    simp (maxSteps := 1000000) (disch := (first | omega | (simp only [World.size_alloc, size_wr, size_drew] <;> omega) | exact not_noB _)) only [go_sem, ↓reduceIte, n0, reduceCtorEq, n1, n2, n3, n4, n5, i0, i1, i2, i3, i4, i5, i6, i7]
    refine wp_append ap_22_22 (B := w6.heap.size) (n := Dd.length) (cs := Dd.map byteV) (m := (partS 3 fs_DescribeLogDirsRequest ver (flexB 2 ver) t).length) (news := (partS 3 fs_DescribeLogDirsRequest ver (flexB 2 ver) t).map byteV) (v := .slice a8 Dd.length c8) (u := .slice a5 _ c5) (by first | rfl | simp (maxSteps := 1000000) (disch := (first | omega | (simp only [World.size_alloc, size_wr, size_drew] <;> omega) | exact not_noB _)) only [go_sem, ↓reduceIte, n0, reduceCtorEq, n1, n2, n3, n4, n5, i0, i1, i2, i3, i4, i5, i6, i7]) (by first | rfl | simp (maxSteps := 1000000) (disch := (first | omega | (simp only [World.size_alloc, size_wr, size_drew] <;> omega) | exact not_noB _)) only [go_sem, ↓reduceIte, n0, reduceCtorEq, n1, n2, n3, n4, n5, i0, i1, i2, i3, i4, i5, i6, i7]) h8 (flat_bytes _) hb8.src (by omega) (by omega) ?_
    intro v9 w9 h9 hU9 hf9
    rw [← List.map_append, ← List.length_append] at h9
    have hn8 : ∀ b, ownB (.slice a8 Dd.length c8) b → w6.heap.size ≤ b := fun b h => by
      rcases hf8 b h with h | h
      · have := hn7 b h; omega
      · omega
    have hE9 : Ext w w9 := hE8.more hU9 fun b hb h => by have := hn8 b h; have := hE06.size; omega
    have hr9 := hr8.keep (hU9.keeps fun b _ hk h => by have := hn8 b h; omega)
    obtain ⟨a9, c9, rfl, _⟩ := h9.shape
    simp (maxSteps := 1000000) (disch := (first | omega | (simp only [World.size_alloc, size_wr, size_drew] <;> omega) | exact not_noB _)) only [go_sem, ↓reduceIte, n0, reduceCtorEq, n1, n2, n3, n4, n5, i0, i1, i2, i3, i4, i5, i6, i7]
    refine (Same_fn (ok := AnyB) (Dd ++ (partS 3 fs_DescribeLogDirsRequest ver (flexB 2 ver) t)) (Dd ++ (partS 3 fs_DescribeLogDirsRequest ver (flexB 2 ver) t)) _ _ w9 (hr9.weaken fun _ _ _ => trivial) (Own.bytes h9 fun _ _ => trivial) (by rw [List.length_append]; omega)).mono ?_
    rintro _ w10 ⟨rfl, hE10⟩
    try simp (maxSteps := 1000000) (disch := (first | omega | (simp only [World.size_alloc, size_wr, size_drew] <;> omega) | exact not_noB _)) only [go_sem, ↓reduceIte, n0, reduceCtorEq, n1, n2, n3, n4, n5, i0, i1, i2, i3, i4, i5, i6, i7]
    repeat ((first | refine W.seqR rfl ?_ | refine W.seq ?_ | refine W.regR rfl ?_ | refine W.condK ?_ | refine W.block ?_ | refine W.skip ?_ | refine W.ret ?_ | refine W.exit ?_); try simp (maxSteps := 1000000) (disch := (first | omega | (simp only [World.size_alloc, size_wr, size_drew] <;> omega) | exact not_noB _)) only [go_sem, ↓reduceIte, n0, reduceCtorEq, n1, n2, n3, n4, n5, i0, i1, i2, i3, i4, i5, i6, i7])
    all_goals exact hE9.trans hE10

end Ms

