/- A part of the proof: see the last text. -/
import Derived.Test.YtaebchgadbafjaaC02
import Derived.Test.YtaebchgadbafjaaC08
import Derived.Test.YtaebchgadbafjaaDeleteRecordsRequestP0
set_option linter.unusedSimpArgs false
set_option linter.unusedVariables false
namespace Ms
open Nat renaming reduceEqDiff → n0, reduceAdd → n1, reduceMul → n2, reduceSub → n3, reduceLT → n4, reduceLeDiff → n5
open Int renaming reduceEq → i0, reduceLT → i1, reduceLE → i2, reduceNeg → i3, reduceAdd → i4, reduceSub → i5, reduceMul → i6, reduceToNat → i7
set_option maxRecDepth 8000
open Go Go.Proofs Go.Shelf
attribute [local congr] W_congr WPsq_congr WPp_congr optK_congr addrK_congr intK_congr boolK_congr sliceK_congr tupleK_congr funcK_congr Fn_congr rawK_congr takeK_congr stepK_congr convK_congr aggK_congr

set_option maxHeartbeats 4000000 in
theorem appDeleteRecordsRequest_0 {d B : Nat} {okM : Blocks} {ver : Int} (hlo : 0 ≤ ver) (hhi : ver ≤ 1) (t : Tree) (cells : List Value) (v : Value) (s : List UInt8) (w : World) {vb : Nat} (ho : OwnBy 5 B w v s) (hB : B ≤ w.heap.size) (hvb : blk w vb = some ((.int .i16 ver :: cells).toArray, 81, (0, 0)))
    (hR : RepS true (d + 3) fs_DeleteRecordsRequest okM w t cells) (hfit : FitP ver (d + 3) fs_DeleteRecordsRequest t) (hd : ∀ b, b < w.heap.size → okM b → ¬ ownB v b) (hdv : ¬ ownB v vb) (hlen : s.length + (partS (d + 3) fs_DeleteRecordsRequest ver false t).length ≤ 2 ^ 41) :
    Fn Try.prog 71 #[.pointer (some ⟨vb, 0, none⟩), v] w fun r w' => AppR 5 B w v s (partS (d + 3) fs_DeleteRecordsRequest ver false t) r w' := by
  obtain ⟨⟨g_0, g_1, -⟩, hfu⟩ := hfit
  replace g_0 : FitF (FitP ver (d + 2)) ver fDeleteRecordsRequest_0 (t.at 0) := g_0
  replace g_1 : FitF (FitP ver (d + 2)) ver fDeleteRecordsRequest_1 (t.at 1) := g_1
  obtain ⟨cs, q, hcs, hL, hT⟩ := hR.inv
  obtain ⟨c_0, e_0, rfl, h_0, c_1, e_1, rfl, h_1, rfl⟩ := hL
  replace h_0 : RepF (RepS true (d + 2)) (szS true (d + 2)) fDeleteRecordsRequest_0 okM w (t.at 0) c_0 := h_0
  replace h_1 : RepF (RepS true (d + 2)) (szS true (d + 2)) fDeleteRecordsRequest_1 okM w (t.at 1) c_1 := h_1
  have hn_0 := g_0.notnull (by decide)
  obtain ⟨p_0, rfl, hs_0, -⟩ := (RepF_list rfl hn_0).1 h_0
  obtain ⟨ab_0, ac_0, rfl, _⟩ := SlR.shape hs_0
  have hll_0 := (g_0.list rfl).1
  obtain rfl := (RepF_num (by decide)).1 h_1
  obtain ⟨qm, rfl⟩ := hT.shape
  have hv : blk w vb = some (#[.int .i16 ver, .slice ab_0 (t.at 0).l.length ac_0, .int .i32 (IntKind.i32.wrap (t.at 1).n), .map qm], 81, (0, 0)) := by rw [hvb, hcs]; rfl
  clear hvb hcs
  have hh_0 : hasS fDeleteRecordsRequest_0 ver = true := hasS_t (by show (0 : Int) ≤ ver; omega) (by show (-1 : Int) < 0 ∨ ver ≤ (-1 : Int); omega)
  obtain ⟨XL_0, hXL_0⟩ : ∃ X, X = fixedS (t.at 0).l.length 4 := ⟨_, rfl⟩
  obtain ⟨XE_0, hXE_0⟩ : ∃ X, X = (t.at 0).l.flatMap (fun x => partS (d + 2) fs_DeleteRecordsRequestTopic ver false x) := ⟨_, rfl⟩
  have hh_1 : hasS fDeleteRecordsRequest_1 ver = true := hasS_t (by show (0 : Int) ≤ ver; omega) (by show (-1 : Int) < 0 ∨ ver ≤ (-1 : Int); omega)
  obtain ⟨X_1, hXX_1⟩ : ∃ X, X = fixedS (t.at 1).n 4 := ⟨_, rfl⟩
  have hP : partS (d + 3) fs_DeleteRecordsRequest ver false t = (XL_0 ++ XE_0) ++ (X_1 ++ []) := partS_no (plainL_has (by decide) hh_0 ((fieldS_list_f (g := (fun x => partS (d + 2) fs_DeleteRecordsRequestTopic ver false x)) g_0 rfl (by decide) (fun x _ => valueS_part)).trans (by rw [hXL_0, hXE_0])) (plainL_has (by decide) hh_1 ((fieldS_num 3 rfl (by decide)).trans hXX_1.symm) rfl))
  rw [hP] at hlen
  simp only [List.length_append, List.length_nil] at hlen
  have hdK : ∀ {r : Value} {w' : World} {add : List UInt8}, AppR 5 B w v s add r w' → ∀ b, b < w'.heap.size → OkS okM w.heap.size b → ¬ ownB r b := fun h b _ hk ho => (h.frame b ho).elim (hd b hk.2 hk.1) (fun h => by have := hk.2; omega)
  have ownK : ∀ {r : Value} {w' : World} {add : List UInt8} {b : Nat}, AppR 5 B w v s add r w' → b < w.heap.size → ¬ ownB v b → ¬ ownB r b := fun h hb hn ho => (h.frame _ ho).elim hn (fun h => by omega)
  have ha0 : AppR 5 B w v s [] v w := AppR.refl ho
  obtain ⟨w0, hw0⟩ : ∃ w0, w0 = w := ⟨_, rfl⟩
  have hB0 := hB
  have hv_0 := hv
  refine fn_of_W Try.func71 rfl Try.results71 Try.ntmps71 rfl ?_
  repeat ((first | refine W.seqR rfl ?_ | refine W.seq ?_ | refine W.regR rfl ?_ | refine W.condK ?_ | refine W.block ?_ | refine W.skip ?_ | refine W.ret ?_ | refine W.exit ?_); try simp (maxSteps := 1000000) (disch := (first | omega | (simp only [World.size_alloc, size_wr, size_drew] <;> omega) | exact not_noB _)) only [go_sem, ↓reduceIte, n0, reduceCtorEq, n1, n2, n3, n4, n5, i0, i1, i2, i3, i4, i5, i6, i7, hv_0])
  refine (AppendArrayLen_fn _ _ _ ha0.own hB0 (t.at 0).l.length hll_0 (by simp only [List.length_append, List.length_nil]; omega)).mono ?_
  rintro r1 w1 hc1
  rw [← hXL_0] at hc1
  have ha1 := ha0.trans hc1
  have hB1 : B ≤ w1.heap.size := Nat.le_trans hB ha1.upd.size
  have hv_1 := ha1.upd.blk_some hv hdv
  repeat ((first | refine W.seqR rfl ?_ | refine W.seq ?_ | refine W.regR rfl ?_ | refine W.condK ?_ | refine W.block ?_ | refine W.skip ?_ | refine W.ret ?_ | refine W.exit ?_); try simp (maxSteps := 1000000) (disch := (first | omega | (simp only [World.size_alloc, size_wr, size_drew] <;> omega) | exact not_noB _)) only [go_sem, ↓reduceIte, n0, reduceCtorEq, n1, n2, n3, n4, n5, i0, i1, i2, i3, i4, i5, i6, i7, hv_1])
  have hadd1 := ha1
  refine W.exitJ 0 (fun ρ w' => ∃ r, ρ 1 = r ∧ ρ 0 = .pointer (some ⟨vb, 0, none⟩) ∧ ρ 5 = .int .i16 ver ∧ ρ 6 = .bool false ∧ AppR 5 B w v s (([] ++ XL_0) ++ XE_0) r w')
    (W.loop (fun ρ w' => ∃ (j : Nat) (r : Value), j ≤ (t.at 0).l.length ∧ ρ 40 = .int .i64 j ∧ ρ 39 = .int .i64 (t.at 0).l.length ∧ ρ 7 = .slice ab_0 (t.at 0).l.length ac_0 ∧ ρ 1 = r ∧ ρ 0 = .pointer (some ⟨vb, 0, none⟩) ∧ ρ 5 = .int .i16 ver ∧ ρ 6 = .bool false ∧ AppR 5 B w v s (([] ++ XL_0) ++ ((t.at 0).l.take j).flatMap (fun x => partS (d + 2) fs_DeleteRecordsRequestTopic ver false x)) r w')
      (fun ρ _ => (t.at 0).l.length - (RowKit.intOf (ρ 40)).toNat) ?_ ?_) ?_
  · refine ⟨0, _, Nat.zero_le _, ?_, ?_, ?_, ?_, ?_, ?_, ?_, ha1.eqs (by rw [List.take_zero, List.flatMap_nil, List.append_nil])⟩ <;> simp (maxSteps := 1000000) (disch := (first | omega | (simp only [World.size_alloc, size_wr, size_drew] <;> omega) | exact not_noB _)) only [go_sem, ↓reduceIte, n0, reduceCtorEq, n1, n2, n3, n4, n5, i0, i1, i2, i3, i4, i5, i6, i7]
    all_goals rfl
  · rintro ρ w2 ⟨j1, r2, hj1, hI1, hN1, hS1, hr1_1, hr1_0, hr1_5, hr1_6, ha2⟩
    have hB2 : B ≤ w2.heap.size := Nat.le_trans hB ha2.upd.size
    have hv_2 := ha2.upd.blk_some hv hdv
    by_cases hlt1 : j1 < (t.at 0).l.length
    · obtain ⟨_, b1, o1, x1, ce1, hb1, hok1, hx1, hbl1, hxs1, hxe1, hq1, hRe1⟩ := SlR.get (size := 3) (by decide) hs_0 hlt1
      subst hb1
      have hcat1 : (t.at 0).l.take (j1 + 1) = (t.at 0).l.take j1 ++ [(t.at 0).l[j1]] := List.take_succ_eq_append_getElem hlt1
      have htl1 := take_flatMap_len (t.at 0).l (fun x => partS (d + 2) fs_DeleteRecordsRequestTopic ver false x) (j1 + 1)
      rw [← hXE_0, hcat1, List.flatMap_append, List.flatMap_cons, List.flatMap_nil, List.append_nil] at htl1
      have hge1 := (g_0.list rfl).2 _ (List.getElem_mem hlt1)
      generalize (t.at 0).l[j1] = y1 at *
      have hnx1 := hd b1 hbl1 hok1
      obtain ⟨T1, hTT1⟩ : ∃ T, T = ((t.at 0).l.take j1).flatMap (fun x => partS (d + 2) fs_DeleteRecordsRequestTopic ver false x) := ⟨_, rfl⟩
      rw [← hTT1] at ha2 htl1
      have hx1_2 := ha2.upd.blk_some hx1 hnx1
      replace hRe1 : RepS true (d + 2) fs_DeleteRecordsRequestTopic okM w y1 ce1 := Rep1_part.1 hRe1
      have hfe1 : FitP ver (d + 2) fs_DeleteRecordsRequestTopic y1 := hge1.2.2 rfl
      obtain ⟨⟨ge1_0, ge1_1, -⟩, hfue1⟩ := hfe1
      replace ge1_0 : FitF (FitP ver (d + 1)) ver fDeleteRecordsRequestTopic_0 (y1.at 0) := ge1_0
      replace ge1_1 : FitF (FitP ver (d + 1)) ver fDeleteRecordsRequestTopic_1 (y1.at 1) := ge1_1
      obtain ⟨cse1, qe1, hcse1, hLe1, hTe1⟩ := hRe1.inv
      obtain ⟨ce1_0, ee1_0, rfl, he1_0, ce1_1, ee1_1, rfl, he1_1, rfl⟩ := hLe1
      replace he1_0 : RepF (RepS true (d + 1)) (szS true (d + 1)) fDeleteRecordsRequestTopic_0 okM w (y1.at 0) ce1_0 := he1_0
      replace he1_1 : RepF (RepS true (d + 1)) (szS true (d + 1)) fDeleteRecordsRequestTopic_1 okM w (y1.at 1) ce1_1 := he1_1
      obtain rfl := (RepF_text rfl (by decide)).1 he1_0
      have hne1_1 := ge1_1.notnull (by decide)
      obtain ⟨pe1_1, rfl, hse1_1, -⟩ := (RepF_list rfl hne1_1).1 he1_1
      obtain ⟨abe1_1, ace1_1, rfl, _⟩ := SlR.shape hse1_1
      have hlle1_1 := (ge1_1.list rfl).1
      obtain ⟨qme1, rfl⟩ := hTe1.shape
      subst hcse1
      have hq1_0 : x1.1[o1 + j1 * 3]? = some (strV (y1.at 0).s) := hq1 0 (by decide)
      have hq1_1 : x1.1[o1 + (j1 * 3 + 1)]? = some (.slice abe1_1 (y1.at 1).l.length ace1_1) := hq1 1 (by decide)
      have hq1_2 : x1.1[o1 + (j1 * 3 + 2)]? = some (.map qme1) := hq1 2 (by decide)
      have hhe1_0 : hasS fDeleteRecordsRequestTopic_0 ver = true := hasS_t (by show (0 : Int) ≤ ver; omega) (by show (-1 : Int) < 0 ∨ ver ≤ (-1 : Int); omega)
      obtain ⟨Xe1_0, hXXe1_0⟩ : ∃ X, X = fixedS (y1.at 0).s.length 2 ++ (y1.at 0).s := ⟨_, rfl⟩
      have hhe1_1 : hasS fDeleteRecordsRequestTopic_1 ver = true := hasS_t (by show (0 : Int) ≤ ver; omega) (by show (-1 : Int) < 0 ∨ ver ≤ (-1 : Int); omega)
      obtain ⟨XLe1_1, hXLe1_1⟩ : ∃ X, X = fixedS (y1.at 1).l.length 4 := ⟨_, rfl⟩
      obtain ⟨XEe1_1, hXEe1_1⟩ : ∃ X, X = (y1.at 1).l.flatMap (fun x => partS (d + 1) fs_DeleteRecordsRequestTopicPartition ver false x) := ⟨_, rfl⟩
      have hPe1 : partS (d + 2) fs_DeleteRecordsRequestTopic ver false y1 = Xe1_0 ++ ((XLe1_1 ++ XEe1_1) ++ []) := partS_no (plainL_has (by decide) hhe1_0 ((fieldS_text_f ge1_0 rfl (by decide)).trans hXXe1_0.symm) (plainL_has (by decide) hhe1_1 ((fieldS_list_f (g := (fun x => partS (d + 1) fs_DeleteRecordsRequestTopicPartition ver false x)) ge1_1 rfl (by decide) (fun x _ => valueS_part)).trans (by rw [hXLe1_1, hXEe1_1])) rfl))
      rw [hPe1] at htl1
      simp only [List.length_append, List.length_nil] at htl1
      repeat ((first | refine W.seqR rfl ?_ | refine W.seq ?_ | refine W.regR rfl ?_ | refine W.condK ?_ | refine W.block ?_ | refine W.skip ?_ | refine W.ret ?_ | refine W.exit ?_); try simp (maxSteps := 1000000) (disch := (first | omega | (simp only [World.size_alloc, size_wr, size_drew] <;> omega) | exact not_noB _)) only [go_sem, ↓reduceIte, n0, reduceCtorEq, n1, n2, n3, n4, n5, i0, i1, i2, i3, i4, i5, i6, i7, hv_2, hx1_2, Int.toNat_natCast, Nat.mul_one, hq1_0, hq1_1, hq1_2, hr1_1, hr1_0, hr1_5, hr1_6, hI1, hN1, hS1])
      refine (AppendString_fn _ _ _ ha2.own hB2 (y1.at 0).s (ge1_0.text (.inl rfl)) (by simp only [List.length_append, List.length_nil]; omega)).mono ?_
      rintro r3 w3 hc3
      rw [← hXXe1_0] at hc3
      have ha3 := ha2.trans hc3
      have hB3 : B ≤ w3.heap.size := Nat.le_trans hB ha3.upd.size
      have hv_3 := ha3.upd.blk_some hv hdv
      have hx1_3 := ha3.upd.blk_some hx1 hnx1
      repeat ((first | refine W.seqR rfl ?_ | refine W.seq ?_ | refine W.regR rfl ?_ | refine W.condK ?_ | refine W.block ?_ | refine W.skip ?_ | refine W.ret ?_ | refine W.exit ?_); try simp (maxSteps := 1000000) (disch := (first | omega | (simp only [World.size_alloc, size_wr, size_drew] <;> omega) | exact not_noB _)) only [go_sem, ↓reduceIte, n0, reduceCtorEq, n1, n2, n3, n4, n5, i0, i1, i2, i3, i4, i5, i6, i7, hv_3, hx1_3, Int.toNat_natCast, Nat.mul_one, hq1_0, hq1_1, hq1_2, hr1_1, hr1_0, hr1_5, hr1_6, hI1, hN1, hS1])
      refine (AppendArrayLen_fn _ _ _ ha3.own hB3 (y1.at 1).l.length hlle1_1 (by simp only [List.length_append, List.length_nil]; omega)).mono ?_
      rintro r4 w4 hc4
      rw [← hXLe1_1] at hc4
      have ha4 := ha3.trans hc4
      have hB4 : B ≤ w4.heap.size := Nat.le_trans hB ha4.upd.size
      have hv_4 := ha4.upd.blk_some hv hdv
      have hx1_4 := ha4.upd.blk_some hx1 hnx1
      repeat ((first | refine W.seqR rfl ?_ | refine W.seq ?_ | refine W.regR rfl ?_ | refine W.condK ?_ | refine W.block ?_ | refine W.skip ?_ | refine W.ret ?_ | refine W.exit ?_); try simp (maxSteps := 1000000) (disch := (first | omega | (simp only [World.size_alloc, size_wr, size_drew] <;> omega) | exact not_noB _)) only [go_sem, ↓reduceIte, n0, reduceCtorEq, n1, n2, n3, n4, n5, i0, i1, i2, i3, i4, i5, i6, i7, hv_4, hx1_4, Int.toNat_natCast, Nat.mul_one, hq1_0, hq1_1, hq1_2, hr1_1, hr1_0, hr1_5, hr1_6, hI1, hN1, hS1])
      have hadd2 := ha4
      refine W.exitJ 2 (fun ρ w' => ∃ r, ρ 1 = r ∧ ρ 0 = .pointer (some ⟨vb, 0, none⟩) ∧ ρ 5 = .int .i16 ver ∧ ρ 6 = .bool false ∧ ρ 40 = .int .i64 j1 ∧ ρ 39 = .int .i64 (t.at 0).l.length ∧ ρ 7 = .slice (some ⟨b1, o1, none⟩) (t.at 0).l.length ac_0 ∧ ρ 9 = .pointer (some ⟨b1, o1 + j1 * 3, none⟩) ∧ AppR 5 B w v s (([] ++ XL_0 ++ T1 ++ Xe1_0 ++ XLe1_1) ++ XEe1_1) r w')
        (W.loop (fun ρ w' => ∃ (j : Nat) (r : Value), j ≤ (y1.at 1).l.length ∧ ρ 72 = .int .i64 j ∧ ρ 71 = .int .i64 (y1.at 1).l.length ∧ ρ 11 = .slice abe1_1 (y1.at 1).l.length ace1_1 ∧ ρ 1 = r ∧ ρ 0 = .pointer (some ⟨vb, 0, none⟩) ∧ ρ 5 = .int .i16 ver ∧ ρ 6 = .bool false ∧ ρ 40 = .int .i64 j1 ∧ ρ 39 = .int .i64 (t.at 0).l.length ∧ ρ 7 = .slice (some ⟨b1, o1, none⟩) (t.at 0).l.length ac_0 ∧ ρ 9 = .pointer (some ⟨b1, o1 + j1 * 3, none⟩) ∧ AppR 5 B w v s (([] ++ XL_0 ++ T1 ++ Xe1_0 ++ XLe1_1) ++ ((y1.at 1).l.take j).flatMap (fun x => partS (d + 1) fs_DeleteRecordsRequestTopicPartition ver false x)) r w')
          (fun ρ _ => (y1.at 1).l.length - (RowKit.intOf (ρ 72)).toNat) ?_ ?_) ?_
      · refine ⟨0, _, Nat.zero_le _, ?_, ?_, ?_, ?_, ?_, ?_, ?_, ?_, ?_, ?_, ?_, ha4.eqs (by rw [List.take_zero, List.flatMap_nil, List.append_nil])⟩ <;> simp (maxSteps := 1000000) (disch := (first | omega | (simp only [World.size_alloc, size_wr, size_drew] <;> omega) | exact not_noB _)) only [go_sem, ↓reduceIte, n0, reduceCtorEq, n1, n2, n3, n4, n5, i0, i1, i2, i3, i4, i5, i6, i7, hr1_1, hr1_0, hr1_5, hr1_6, hI1, hN1, hS1]
        all_goals rfl
      · rintro ρ w5 ⟨j2, r5, hj2, hI2, hN2, hS2, hr1_2, hr2_0, hr2_5, hr2_6, hr2_40, hr2_39, hr2_7, hr2_9, ha5⟩
        have hB5 : B ≤ w5.heap.size := Nat.le_trans hB ha5.upd.size
        have hv_5 := ha5.upd.blk_some hv hdv
        have hx1_5 := ha5.upd.blk_some hx1 hnx1
        by_cases hlt2 : j2 < (y1.at 1).l.length
        · obtain ⟨_, b2, o2, x2, ce2, hb2, hok2, hx2, hbl2, hxs2, hxe2, hq2, hRe2⟩ := SlR.get (size := 3) (by decide) hse1_1 hlt2
          subst hb2
          have hcat2 : (y1.at 1).l.take (j2 + 1) = (y1.at 1).l.take j2 ++ [(y1.at 1).l[j2]] := List.take_succ_eq_append_getElem hlt2
          have htl2 := take_flatMap_len (y1.at 1).l (fun x => partS (d + 1) fs_DeleteRecordsRequestTopicPartition ver false x) (j2 + 1)
          rw [← hXEe1_1, hcat2, List.flatMap_append, List.flatMap_cons, List.flatMap_nil, List.append_nil] at htl2
          have hge2 := (ge1_1.list rfl).2 _ (List.getElem_mem hlt2)
          generalize (y1.at 1).l[j2] = y2 at *
          have hnx2 := hd b2 hbl2 hok2
          obtain ⟨T2, hTT2⟩ : ∃ T, T = ((y1.at 1).l.take j2).flatMap (fun x => partS (d + 1) fs_DeleteRecordsRequestTopicPartition ver false x) := ⟨_, rfl⟩
          rw [← hTT2] at ha5 htl2
          have hx2_5 := ha5.upd.blk_some hx2 hnx2
          replace hRe2 : RepS true (d + 1) fs_DeleteRecordsRequestTopicPartition okM w y2 ce2 := Rep1_part.1 hRe2
          have hfe2 : FitP ver (d + 1) fs_DeleteRecordsRequestTopicPartition y2 := hge2.2.2 rfl
          obtain ⟨⟨ge2_0, ge2_1, -⟩, hfue2⟩ := hfe2
          replace ge2_0 : FitF (FitP ver d) ver fDeleteRecordsRequestTopicPartition_0 (y2.at 0) := ge2_0
          replace ge2_1 : FitF (FitP ver d) ver fDeleteRecordsRequestTopicPartition_1 (y2.at 1) := ge2_1
          obtain ⟨cse2, qe2, hcse2, hLe2, hTe2⟩ := hRe2.inv
          obtain ⟨ce2_0, ee2_0, rfl, he2_0, ce2_1, ee2_1, rfl, he2_1, rfl⟩ := hLe2
          replace he2_0 : RepF (RepS true d) (szS true d) fDeleteRecordsRequestTopicPartition_0 okM w (y2.at 0) ce2_0 := he2_0
          replace he2_1 : RepF (RepS true d) (szS true d) fDeleteRecordsRequestTopicPartition_1 okM w (y2.at 1) ce2_1 := he2_1
          obtain rfl := (RepF_num (by decide)).1 he2_0
          obtain rfl := (RepF_num (by decide)).1 he2_1
          obtain ⟨qme2, rfl⟩ := hTe2.shape
          subst hcse2
          have hq2_0 : x2.1[o2 + j2 * 3]? = some (.int .i32 (IntKind.i32.wrap (y2.at 0).n)) := hq2 0 (by decide)
          have hq2_1 : x2.1[o2 + (j2 * 3 + 1)]? = some (.int .i64 (y2.at 1).n) := hq2 1 (by decide)
          have hq2_2 : x2.1[o2 + (j2 * 3 + 2)]? = some (.map qme2) := hq2 2 (by decide)
          have hhe2_0 : hasS fDeleteRecordsRequestTopicPartition_0 ver = true := hasS_t (by show (0 : Int) ≤ ver; omega) (by show (-1 : Int) < 0 ∨ ver ≤ (-1 : Int); omega)
          obtain ⟨Xe2_0, hXXe2_0⟩ : ∃ X, X = fixedS (y2.at 0).n 4 := ⟨_, rfl⟩
          have hhe2_1 : hasS fDeleteRecordsRequestTopicPartition_1 ver = true := hasS_t (by show (0 : Int) ≤ ver; omega) (by show (-1 : Int) < 0 ∨ ver ≤ (-1 : Int); omega)
          obtain ⟨Xe2_1, hXXe2_1⟩ : ∃ X, X = fixedS (y2.at 1).n 8 := ⟨_, rfl⟩
          have hPe2 : partS (d + 1) fs_DeleteRecordsRequestTopicPartition ver false y2 = Xe2_0 ++ (Xe2_1 ++ []) := partS_no (plainL_has (by decide) hhe2_0 ((fieldS_num 3 rfl (by decide)).trans hXXe2_0.symm) (plainL_has (by decide) hhe2_1 ((fieldS_num 4 rfl (by decide)).trans hXXe2_1.symm) rfl))
          rw [hPe2] at htl2
          simp only [List.length_append, List.length_nil] at htl2
          repeat ((first | refine W.seqR rfl ?_ | refine W.seq ?_ | refine W.regR rfl ?_ | refine W.condK ?_ | refine W.block ?_ | refine W.skip ?_ | refine W.ret ?_ | refine W.exit ?_); try simp (maxSteps := 1000000) (disch := (first | omega | (simp only [World.size_alloc, size_wr, size_drew] <;> omega) | exact not_noB _)) only [go_sem, ↓reduceIte, n0, reduceCtorEq, n1, n2, n3, n4, n5, i0, i1, i2, i3, i4, i5, i6, i7, hv_5, hx1_5, hx2_5, Int.toNat_natCast, Nat.mul_one, hq1_0, hq1_1, hq1_2, hq2_0, hq2_1, hq2_2, hr1_2, hr2_0, hr2_5, hr2_6, hr2_40, hr2_39, hr2_7, hr2_9, hI2, hN2, hS2])
          refine (AppendInt32_fn _ _ _ ha5.own hB5 _ (by simp only [List.length_append, List.length_nil]; omega)).mono ?_
          rintro r6 w6 hc6
          rw [wrap32, ← hXXe2_0] at hc6
          have ha6 := ha5.trans hc6
          have hB6 : B ≤ w6.heap.size := Nat.le_trans hB ha6.upd.size
          have hv_6 := ha6.upd.blk_some hv hdv
          have hx1_6 := ha6.upd.blk_some hx1 hnx1
          have hx2_6 := ha6.upd.blk_some hx2 hnx2
          repeat ((first | refine W.seqR rfl ?_ | refine W.seq ?_ | refine W.regR rfl ?_ | refine W.condK ?_ | refine W.block ?_ | refine W.skip ?_ | refine W.ret ?_ | refine W.exit ?_); try simp (maxSteps := 1000000) (disch := (first | omega | (simp only [World.size_alloc, size_wr, size_drew] <;> omega) | exact not_noB _)) only [go_sem, ↓reduceIte, n0, reduceCtorEq, n1, n2, n3, n4, n5, i0, i1, i2, i3, i4, i5, i6, i7, hv_6, hx1_6, hx2_6, Int.toNat_natCast, Nat.mul_one, hq1_0, hq1_1, hq1_2, hq2_0, hq2_1, hq2_2, hr1_2, hr2_0, hr2_5, hr2_6, hr2_40, hr2_39, hr2_7, hr2_9, hI2, hN2, hS2])
          refine (AppendInt64_fn _ _ _ ha6.own hB6 _ (by simp only [List.length_append, List.length_nil]; omega)).mono ?_
          rintro r7 w7 hc7
          rw [← hXXe2_1] at hc7
          have ha7 := ha6.trans hc7
          have hB7 : B ≤ w7.heap.size := Nat.le_trans hB ha7.upd.size
          have hv_7 := ha7.upd.blk_some hv hdv
          have hx1_7 := ha7.upd.blk_some hx1 hnx1
          have hx2_7 := ha7.upd.blk_some hx2 hnx2
          repeat ((first | refine W.seqR rfl ?_ | refine W.seq ?_ | refine W.regR rfl ?_ | refine W.condK ?_ | refine W.block ?_ | refine W.skip ?_ | refine W.ret ?_ | refine W.exit ?_); try simp (maxSteps := 1000000) (disch := (first | omega | (simp only [World.size_alloc, size_wr, size_drew] <;> omega) | exact not_noB _)) only [go_sem, ↓reduceIte, n0, reduceCtorEq, n1, n2, n3, n4, n5, i0, i1, i2, i3, i4, i5, i6, i7, hr1_2, hr2_0, hr2_5, hr2_6, hr2_40, hr2_39, hr2_7, hr2_9, hI2, hN2, hS2])
          refine ⟨⟨j2 + 1, _, by omega, rfl, rfl, ha7.eqs ?_⟩, ?_⟩
          · rw [hcat2, List.flatMap_append, List.flatMap_cons, List.flatMap_nil, List.append_nil, ← hTT2, hPe2]; simp only [List.append_assoc, List.append_nil, List.nil_append]
          · simp only [RowKit.intOf]; omega
        · have hjl2 : j2 = (y1.at 1).l.length := by omega
          subst hjl2
          rw [List.take_length, ← hXEe1_1] at ha5
          repeat ((first | refine W.seqR rfl ?_ | refine W.seq ?_ | refine W.regR rfl ?_ | refine W.condK ?_ | refine W.block ?_ | refine W.skip ?_ | refine W.ret ?_ | refine W.exit ?_); try simp (maxSteps := 1000000) (disch := (first | omega | (simp only [World.size_alloc, size_wr, size_drew] <;> omega) | exact not_noB _)) only [go_sem, ↓reduceIte, n0, reduceCtorEq, n1, n2, n3, n4, n5, i0, i1, i2, i3, i4, i5, i6, i7, hI2, hN2])
          exact ⟨_, hr1_2, hr2_0, hr2_5, hr2_6, hr2_40, hr2_39, hr2_7, hr2_9, ha5⟩
      · rintro ρ w8 ⟨r8, hr1_3, hr3_0, hr3_5, hr3_6, hr3_40, hr3_39, hr3_7, hr3_9, ha8⟩
        have hB8 : B ≤ w8.heap.size := Nat.le_trans hB ha8.upd.size
        have hv_8 := ha8.upd.blk_some hv hdv
        have hx1_8 := ha8.upd.blk_some hx1 hnx1
        repeat ((first | refine W.seqR rfl ?_ | refine W.seq ?_ | refine W.regR rfl ?_ | refine W.condK ?_ | refine W.block ?_ | refine W.skip ?_ | refine W.ret ?_ | refine W.exit ?_); try simp (maxSteps := 1000000) (disch := (first | omega | (simp only [World.size_alloc, size_wr, size_drew] <;> omega) | exact not_noB _)) only [go_sem, ↓reduceIte, n0, reduceCtorEq, n1, n2, n3, n4, n5, i0, i1, i2, i3, i4, i5, i6, i7, hr1_3, hr3_0, hr3_5, hr3_6, hr3_40, hr3_39, hr3_7, hr3_9])
        refine ⟨⟨j1 + 1, _, by omega, rfl, rfl, ha8.eqs ?_⟩, ?_⟩
        · rw [hcat1, List.flatMap_append, List.flatMap_cons, List.flatMap_nil, List.append_nil, ← hTT1, hPe1]; simp only [List.append_assoc, List.append_nil, List.nil_append]
        · simp only [RowKit.intOf]; omega
    · have hjl1 : j1 = (t.at 0).l.length := by omega
      subst hjl1
      rw [List.take_length, ← hXE_0] at ha2
      repeat ((first | refine W.seqR rfl ?_ | refine W.seq ?_ | refine W.regR rfl ?_ | refine W.condK ?_ | refine W.block ?_ | refine W.skip ?_ | refine W.ret ?_ | refine W.exit ?_); try simp (maxSteps := 1000000) (disch := (first | omega | (simp only [World.size_alloc, size_wr, size_drew] <;> omega) | exact not_noB _)) only [go_sem, ↓reduceIte, n0, reduceCtorEq, n1, n2, n3, n4, n5, i0, i1, i2, i3, i4, i5, i6, i7, hI1, hN1])
      exact ⟨_, hr1_1, hr1_0, hr1_5, hr1_6, ha2⟩
  · rintro ρ w9 ⟨r9, hr1_4, hr4_0, hr4_5, hr4_6, ha9⟩
    have hB9 : B ≤ w9.heap.size := Nat.le_trans hB ha9.upd.size
    have hv_9 := ha9.upd.blk_some hv hdv
    repeat ((first | refine W.seqR rfl ?_ | refine W.seq ?_ | refine W.regR rfl ?_ | refine W.condK ?_ | refine W.block ?_ | refine W.skip ?_ | refine W.ret ?_ | refine W.exit ?_); try simp (maxSteps := 1000000) (disch := (first | omega | (simp only [World.size_alloc, size_wr, size_drew] <;> omega) | exact not_noB _)) only [go_sem, ↓reduceIte, n0, reduceCtorEq, n1, n2, n3, n4, n5, i0, i1, i2, i3, i4, i5, i6, i7, hv_9, hr1_4, hr4_0, hr4_5, hr4_6])
    refine (AppendInt32_fn _ _ _ ha9.own hB9 _ (by simp only [List.length_append, List.length_nil]; omega)).mono ?_
    rintro r10 w10 hc10
    rw [wrap32, ← hXX_1] at hc10
    have ha10 := ha9.trans hc10
    have hB10 : B ≤ w10.heap.size := Nat.le_trans hB ha10.upd.size
    have hv_10 := ha10.upd.blk_some hv hdv
    repeat ((first | refine W.seqR rfl ?_ | refine W.seq ?_ | refine W.regR rfl ?_ | refine W.condK ?_ | refine W.block ?_ | refine W.skip ?_ | refine W.ret ?_ | refine W.exit ?_); try simp (maxSteps := 1000000) (disch := (first | omega | (simp only [World.size_alloc, size_wr, size_drew] <;> omega) | exact not_noB _)) only [go_sem, ↓reduceIte, n0, reduceCtorEq, n1, n2, n3, n4, n5, i0, i1, i2, i3, i4, i5, i6, i7, hv_10, hr1_4, hr4_0, hr4_5, hr4_6])
    refine ha10.eqs ?_
    rw [hP]; simp only [List.append_assoc, List.append_nil, List.nil_append]
end Ms

namespace Ms
open Nat renaming reduceEqDiff → n0, reduceAdd → n1, reduceMul → n2, reduceSub → n3, reduceLT → n4, reduceLeDiff → n5
open Int renaming reduceEq → i0, reduceLT → i1, reduceLE → i2, reduceNeg → i3, reduceAdd → i4, reduceSub → i5, reduceMul → i6, reduceToNat → i7
set_option maxRecDepth 8000
open Go Go.Proofs Go.Shelf
attribute [local congr] W_congr WPsq_congr WPp_congr optK_congr addrK_congr intK_congr boolK_congr sliceK_congr tupleK_congr funcK_congr Fn_congr rawK_congr takeK_congr stepK_congr convK_congr aggK_congr

set_option maxHeartbeats 4000000 in
theorem appDeleteRecordsRequest_1 {d B : Nat} {okM : Blocks} {ver : Int} (hlo : 2 ≤ ver) (hhi : ver ≤ 2) (t : Tree) (cells : List Value) (v : Value) (s : List UInt8) (w : World) {vb : Nat} (ho : OwnBy 5 B w v s) (hB : B ≤ w.heap.size) (hvb : blk w vb = some ((.int .i16 ver :: cells).toArray, 81, (0, 0)))
    (hR : RepS true (d + 3) fs_DeleteRecordsRequest okM w t cells) (hfit : FitP ver (d + 3) fs_DeleteRecordsRequest t) (hd : ∀ b, b < w.heap.size → okM b → ¬ ownB v b) (hdv : ¬ ownB v vb) (hlen : s.length + (partS (d + 3) fs_DeleteRecordsRequest ver true t).length ≤ 2 ^ 41) :
    Fn Try.prog 71 #[.pointer (some ⟨vb, 0, none⟩), v] w fun r w' => AppR 5 B w v s (partS (d + 3) fs_DeleteRecordsRequest ver true t) r w' := by
  obtain ⟨⟨g_0, g_1, -⟩, hfu⟩ := hfit
  replace g_0 : FitF (FitP ver (d + 2)) ver fDeleteRecordsRequest_0 (t.at 0) := g_0
  replace g_1 : FitF (FitP ver (d + 2)) ver fDeleteRecordsRequest_1 (t.at 1) := g_1
  obtain ⟨cs, q, hcs, hL, hT⟩ := hR.inv
  obtain ⟨c_0, e_0, rfl, h_0, c_1, e_1, rfl, h_1, rfl⟩ := hL
  replace h_0 : RepF (RepS true (d + 2)) (szS true (d + 2)) fDeleteRecordsRequest_0 okM w (t.at 0) c_0 := h_0
  replace h_1 : RepF (RepS true (d + 2)) (szS true (d + 2)) fDeleteRecordsRequest_1 okM w (t.at 1) c_1 := h_1
  have hn_0 := g_0.notnull (by decide)
  obtain ⟨p_0, rfl, hs_0, -⟩ := (RepF_list rfl hn_0).1 h_0
  obtain ⟨ab_0, ac_0, rfl, _⟩ := SlR.shape hs_0
  have hll_0 := (g_0.list rfl).1
  obtain rfl := (RepF_num (by decide)).1 h_1
  obtain ⟨qm, rfl⟩ := hT.shape
  have hv : blk w vb = some (#[.int .i16 ver, .slice ab_0 (t.at 0).l.length ac_0, .int .i32 (IntKind.i32.wrap (t.at 1).n), .map qm], 81, (0, 0)) := by rw [hvb, hcs]; rfl
  clear hvb hcs
  have hh_0 : hasS fDeleteRecordsRequest_0 ver = true := hasS_t (by show (0 : Int) ≤ ver; omega) (by show (-1 : Int) < 0 ∨ ver ≤ (-1 : Int); omega)
  obtain ⟨XL_0, hXL_0⟩ : ∃ X, X = uvarS ((t.at 0).l.length + 1) := ⟨_, rfl⟩
  obtain ⟨XE_0, hXE_0⟩ : ∃ X, X = (t.at 0).l.flatMap (fun x => partS (d + 2) fs_DeleteRecordsRequestTopic ver true x) := ⟨_, rfl⟩
  have hh_1 : hasS fDeleteRecordsRequest_1 ver = true := hasS_t (by show (0 : Int) ≤ ver; omega) (by show (-1 : Int) < 0 ∨ ver ≤ (-1 : Int); omega)
  obtain ⟨X_1, hXX_1⟩ : ∃ X, X = fixedS (t.at 1).n 4 := ⟨_, rfl⟩
  obtain ⟨XU, hXU⟩ : ∃ X, X = uvarS t.u.length := ⟨_, rfl⟩
  obtain ⟨XT, hXT⟩ : ∃ X, X = t.u.flatMap oneTag := ⟨_, rfl⟩
  have hP : partS (d + 3) fs_DeleteRecordsRequest ver true t = ((XL_0 ++ XE_0) ++ (X_1 ++ [])) ++ (XU ++ XT) := by rw [hXU, hXT]; exact partS_yes rfl hfu (plainL_has (by decide) hh_0 ((fieldS_list_t (g := (fun x => partS (d + 2) fs_DeleteRecordsRequestTopic ver true x)) g_0 rfl (by decide) (fun x _ => valueS_part)).trans (by rw [hXL_0, hXE_0])) (plainL_has (by decide) hh_1 ((fieldS_num 3 rfl (by decide)).trans hXX_1.symm) rfl))
  rw [hP] at hlen
  simp only [List.length_append, List.length_nil] at hlen
  have hdK : ∀ {r : Value} {w' : World} {add : List UInt8}, AppR 5 B w v s add r w' → ∀ b, b < w'.heap.size → OkS okM w.heap.size b → ¬ ownB r b := fun h b _ hk ho => (h.frame b ho).elim (hd b hk.2 hk.1) (fun h => by have := hk.2; omega)
  have ownK : ∀ {r : Value} {w' : World} {add : List UInt8} {b : Nat}, AppR 5 B w v s add r w' → b < w.heap.size → ¬ ownB v b → ¬ ownB r b := fun h hb hn ho => (h.frame _ ho).elim hn (fun h => by omega)
  have ha0 : AppR 5 B w v s [] v w := AppR.refl ho
  obtain ⟨w0, hw0⟩ : ∃ w0, w0 = w := ⟨_, rfl⟩
  have hB0 := hB
  have hv_0 := hv
  refine fn_of_W Try.func71 rfl Try.results71 Try.ntmps71 rfl ?_
  repeat ((first | refine W.seqR rfl ?_ | refine W.seq ?_ | refine W.regR rfl ?_ | refine W.condK ?_ | refine W.block ?_ | refine W.skip ?_ | refine W.ret ?_ | refine W.exit ?_); try simp (maxSteps := 1000000) (disch := (first | omega | (simp only [World.size_alloc, size_wr, size_drew] <;> omega) | exact not_noB _)) only [go_sem, ↓reduceIte, n0, reduceCtorEq, n1, n2, n3, n4, n5, i0, i1, i2, i3, i4, i5, i6, i7, hv_0])
  refine (AppendCompactArrayLen_fn _ _ _ ha0.own hB0 (t.at 0).l.length hll_0 (by simp only [List.length_append, List.length_nil]; omega)).mono ?_
  rintro r1 w1 hc1
  rw [← hXL_0] at hc1
  have ha1 := ha0.trans hc1
  have hB1 : B ≤ w1.heap.size := Nat.le_trans hB ha1.upd.size
  have hv_1 := ha1.upd.blk_some hv hdv
  repeat ((first | refine W.seqR rfl ?_ | refine W.seq ?_ | refine W.regR rfl ?_ | refine W.condK ?_ | refine W.block ?_ | refine W.skip ?_ | refine W.ret ?_ | refine W.exit ?_); try simp (maxSteps := 1000000) (disch := (first | omega | (simp only [World.size_alloc, size_wr, size_drew] <;> omega) | exact not_noB _)) only [go_sem, ↓reduceIte, n0, reduceCtorEq, n1, n2, n3, n4, n5, i0, i1, i2, i3, i4, i5, i6, i7, hv_1])
  have hadd1 := ha1
  refine W.exitJ 0 (fun ρ w' => ∃ r, ρ 1 = r ∧ ρ 0 = .pointer (some ⟨vb, 0, none⟩) ∧ ρ 5 = .int .i16 ver ∧ ρ 6 = .bool true ∧ AppR 5 B w v s (([] ++ XL_0) ++ XE_0) r w')
    (W.loop (fun ρ w' => ∃ (j : Nat) (r : Value), j ≤ (t.at 0).l.length ∧ ρ 40 = .int .i64 j ∧ ρ 39 = .int .i64 (t.at 0).l.length ∧ ρ 7 = .slice ab_0 (t.at 0).l.length ac_0 ∧ ρ 1 = r ∧ ρ 0 = .pointer (some ⟨vb, 0, none⟩) ∧ ρ 5 = .int .i16 ver ∧ ρ 6 = .bool true ∧ AppR 5 B w v s (([] ++ XL_0) ++ ((t.at 0).l.take j).flatMap (fun x => partS (d + 2) fs_DeleteRecordsRequestTopic ver true x)) r w')
      (fun ρ _ => (t.at 0).l.length - (RowKit.intOf (ρ 40)).toNat) ?_ ?_) ?_
  · refine ⟨0, _, Nat.zero_le _, ?_, ?_, ?_, ?_, ?_, ?_, ?_, ha1.eqs (by rw [List.take_zero, List.flatMap_nil, List.append_nil])⟩ <;> simp (maxSteps := 1000000) (disch := (first | omega | (simp only [World.size_alloc, size_wr, size_drew] <;> omega) | exact not_noB _)) only [go_sem, ↓reduceIte, n0, reduceCtorEq, n1, n2, n3, n4, n5, i0, i1, i2, i3, i4, i5, i6, i7]
    all_goals rfl
  · rintro ρ w2 ⟨j1, r2, hj1, hI1, hN1, hS1, hr1_1, hr1_0, hr1_5, hr1_6, ha2⟩
    have hB2 : B ≤ w2.heap.size := Nat.le_trans hB ha2.upd.size
    have hv_2 := ha2.upd.blk_some hv hdv
    by_cases hlt1 : j1 < (t.at 0).l.length
    · obtain ⟨_, b1, o1, x1, ce1, hb1, hok1, hx1, hbl1, hxs1, hxe1, hq1, hRe1⟩ := SlR.get (size := 3) (by decide) hs_0 hlt1
      subst hb1
      have hcat1 : (t.at 0).l.take (j1 + 1) = (t.at 0).l.take j1 ++ [(t.at 0).l[j1]] := List.take_succ_eq_append_getElem hlt1
      have htl1 := take_flatMap_len (t.at 0).l (fun x => partS (d + 2) fs_DeleteRecordsRequestTopic ver true x) (j1 + 1)
      rw [← hXE_0, hcat1, List.flatMap_append, List.flatMap_cons, List.flatMap_nil, List.append_nil] at htl1
      have hge1 := (g_0.list rfl).2 _ (List.getElem_mem hlt1)
      generalize (t.at 0).l[j1] = y1 at *
      have hnx1 := hd b1 hbl1 hok1
      obtain ⟨T1, hTT1⟩ : ∃ T, T = ((t.at 0).l.take j1).flatMap (fun x => partS (d + 2) fs_DeleteRecordsRequestTopic ver true x) := ⟨_, rfl⟩
      rw [← hTT1] at ha2 htl1
      have hx1_2 := ha2.upd.blk_some hx1 hnx1
      replace hRe1 : RepS true (d + 2) fs_DeleteRecordsRequestTopic okM w y1 ce1 := Rep1_part.1 hRe1
      have hfe1 : FitP ver (d + 2) fs_DeleteRecordsRequestTopic y1 := hge1.2.2 rfl
      obtain ⟨⟨ge1_0, ge1_1, -⟩, hfue1⟩ := hfe1
      replace ge1_0 : FitF (FitP ver (d + 1)) ver fDeleteRecordsRequestTopic_0 (y1.at 0) := ge1_0
      replace ge1_1 : FitF (FitP ver (d + 1)) ver fDeleteRecordsRequestTopic_1 (y1.at 1) := ge1_1
      obtain ⟨cse1, qe1, hcse1, hLe1, hTe1⟩ := hRe1.inv
      obtain ⟨ce1_0, ee1_0, rfl, he1_0, ce1_1, ee1_1, rfl, he1_1, rfl⟩ := hLe1
      replace he1_0 : RepF (RepS true (d + 1)) (szS true (d + 1)) fDeleteRecordsRequestTopic_0 okM w (y1.at 0) ce1_0 := he1_0
      replace he1_1 : RepF (RepS true (d + 1)) (szS true (d + 1)) fDeleteRecordsRequestTopic_1 okM w (y1.at 1) ce1_1 := he1_1
      obtain rfl := (RepF_text rfl (by decide)).1 he1_0
      have hne1_1 := ge1_1.notnull (by decide)
      obtain ⟨pe1_1, rfl, hse1_1, -⟩ := (RepF_list rfl hne1_1).1 he1_1
      obtain ⟨abe1_1, ace1_1, rfl, _⟩ := SlR.shape hse1_1
      have hlle1_1 := (ge1_1.list rfl).1
      obtain ⟨qme1, rfl⟩ := hTe1.shape
      subst hcse1
      have hq1_0 : x1.1[o1 + j1 * 3]? = some (strV (y1.at 0).s) := hq1 0 (by decide)
      have hq1_1 : x1.1[o1 + (j1 * 3 + 1)]? = some (.slice abe1_1 (y1.at 1).l.length ace1_1) := hq1 1 (by decide)
      have hq1_2 : x1.1[o1 + (j1 * 3 + 2)]? = some (.map qme1) := hq1 2 (by decide)
      have hhe1_0 : hasS fDeleteRecordsRequestTopic_0 ver = true := hasS_t (by show (0 : Int) ≤ ver; omega) (by show (-1 : Int) < 0 ∨ ver ≤ (-1 : Int); omega)
      obtain ⟨Xe1_0, hXXe1_0⟩ : ∃ X, X = uvarS ((y1.at 0).s.length + 1) ++ (y1.at 0).s := ⟨_, rfl⟩
      have hhe1_1 : hasS fDeleteRecordsRequestTopic_1 ver = true := hasS_t (by show (0 : Int) ≤ ver; omega) (by show (-1 : Int) < 0 ∨ ver ≤ (-1 : Int); omega)
      obtain ⟨XLe1_1, hXLe1_1⟩ : ∃ X, X = uvarS ((y1.at 1).l.length + 1) := ⟨_, rfl⟩
      obtain ⟨XEe1_1, hXEe1_1⟩ : ∃ X, X = (y1.at 1).l.flatMap (fun x => partS (d + 1) fs_DeleteRecordsRequestTopicPartition ver true x) := ⟨_, rfl⟩
      obtain ⟨XUe1, hXUe1⟩ : ∃ X, X = uvarS y1.u.length := ⟨_, rfl⟩
      obtain ⟨XTe1, hXTe1⟩ : ∃ X, X = y1.u.flatMap oneTag := ⟨_, rfl⟩
      have hPe1 : partS (d + 2) fs_DeleteRecordsRequestTopic ver true y1 = (Xe1_0 ++ ((XLe1_1 ++ XEe1_1) ++ [])) ++ (XUe1 ++ XTe1) := by rw [hXUe1, hXTe1]; exact partS_yes rfl hfue1 (plainL_has (by decide) hhe1_0 ((fieldS_text_t ge1_0 rfl (by decide)).trans hXXe1_0.symm) (plainL_has (by decide) hhe1_1 ((fieldS_list_t (g := (fun x => partS (d + 1) fs_DeleteRecordsRequestTopicPartition ver true x)) ge1_1 rfl (by decide) (fun x _ => valueS_part)).trans (by rw [hXLe1_1, hXEe1_1])) rfl))
      rw [hPe1] at htl1
      simp only [List.length_append, List.length_nil] at htl1
      repeat ((first | refine W.seqR rfl ?_ | refine W.seq ?_ | refine W.regR rfl ?_ | refine W.condK ?_ | refine W.block ?_ | refine W.skip ?_ | refine W.ret ?_ | refine W.exit ?_); try simp (maxSteps := 1000000) (disch := (first | omega | (simp only [World.size_alloc, size_wr, size_drew] <;> omega) | exact not_noB _)) only [go_sem, ↓reduceIte, n0, reduceCtorEq, n1, n2, n3, n4, n5, i0, i1, i2, i3, i4, i5, i6, i7, hv_2, hx1_2, Int.toNat_natCast, Nat.mul_one, hq1_0, hq1_1, hq1_2, hr1_1, hr1_0, hr1_5, hr1_6, hI1, hN1, hS1])
      refine (AppendCompactString_fn _ _ _ ha2.own hB2 (y1.at 0).s (ge1_0.text (.inl rfl)) (by simp only [List.length_append, List.length_nil]; omega)).mono ?_
      rintro r3 w3 hc3
      rw [← hXXe1_0] at hc3
      have ha3 := ha2.trans hc3
      have hB3 : B ≤ w3.heap.size := Nat.le_trans hB ha3.upd.size
      have hv_3 := ha3.upd.blk_some hv hdv
      have hx1_3 := ha3.upd.blk_some hx1 hnx1
      repeat ((first | refine W.seqR rfl ?_ | refine W.seq ?_ | refine W.regR rfl ?_ | refine W.condK ?_ | refine W.block ?_ | refine W.skip ?_ | refine W.ret ?_ | refine W.exit ?_); try simp (maxSteps := 1000000) (disch := (first | omega | (simp only [World.size_alloc, size_wr, size_drew] <;> omega) | exact not_noB _)) only [go_sem, ↓reduceIte, n0, reduceCtorEq, n1, n2, n3, n4, n5, i0, i1, i2, i3, i4, i5, i6, i7, hv_3, hx1_3, Int.toNat_natCast, Nat.mul_one, hq1_0, hq1_1, hq1_2, hr1_1, hr1_0, hr1_5, hr1_6, hI1, hN1, hS1])
      refine (AppendCompactArrayLen_fn _ _ _ ha3.own hB3 (y1.at 1).l.length hlle1_1 (by simp only [List.length_append, List.length_nil]; omega)).mono ?_
      rintro r4 w4 hc4
      rw [← hXLe1_1] at hc4
      have ha4 := ha3.trans hc4
      have hB4 : B ≤ w4.heap.size := Nat.le_trans hB ha4.upd.size
      have hv_4 := ha4.upd.blk_some hv hdv
      have hx1_4 := ha4.upd.blk_some hx1 hnx1
      repeat ((first | refine W.seqR rfl ?_ | refine W.seq ?_ | refine W.regR rfl ?_ | refine W.condK ?_ | refine W.block ?_ | refine W.skip ?_ | refine W.ret ?_ | refine W.exit ?_); try simp (maxSteps := 1000000) (disch := (first | omega | (simp only [World.size_alloc, size_wr, size_drew] <;> omega) | exact not_noB _)) only [go_sem, ↓reduceIte, n0, reduceCtorEq, n1, n2, n3, n4, n5, i0, i1, i2, i3, i4, i5, i6, i7, hv_4, hx1_4, Int.toNat_natCast, Nat.mul_one, hq1_0, hq1_1, hq1_2, hr1_1, hr1_0, hr1_5, hr1_6, hI1, hN1, hS1])
      have hadd2 := ha4
      refine W.exitJ 2 (fun ρ w' => ∃ r, ρ 1 = r ∧ ρ 0 = .pointer (some ⟨vb, 0, none⟩) ∧ ρ 5 = .int .i16 ver ∧ ρ 6 = .bool true ∧ ρ 40 = .int .i64 j1 ∧ ρ 39 = .int .i64 (t.at 0).l.length ∧ ρ 7 = .slice (some ⟨b1, o1, none⟩) (t.at 0).l.length ac_0 ∧ ρ 9 = .pointer (some ⟨b1, o1 + j1 * 3, none⟩) ∧ AppR 5 B w v s (([] ++ XL_0 ++ T1 ++ Xe1_0 ++ XLe1_1) ++ XEe1_1) r w')
        (W.loop (fun ρ w' => ∃ (j : Nat) (r : Value), j ≤ (y1.at 1).l.length ∧ ρ 72 = .int .i64 j ∧ ρ 71 = .int .i64 (y1.at 1).l.length ∧ ρ 11 = .slice abe1_1 (y1.at 1).l.length ace1_1 ∧ ρ 1 = r ∧ ρ 0 = .pointer (some ⟨vb, 0, none⟩) ∧ ρ 5 = .int .i16 ver ∧ ρ 6 = .bool true ∧ ρ 40 = .int .i64 j1 ∧ ρ 39 = .int .i64 (t.at 0).l.length ∧ ρ 7 = .slice (some ⟨b1, o1, none⟩) (t.at 0).l.length ac_0 ∧ ρ 9 = .pointer (some ⟨b1, o1 + j1 * 3, none⟩) ∧ AppR 5 B w v s (([] ++ XL_0 ++ T1 ++ Xe1_0 ++ XLe1_1) ++ ((y1.at 1).l.take j).flatMap (fun x => partS (d + 1) fs_DeleteRecordsRequestTopicPartition ver true x)) r w')
          (fun ρ _ => (y1.at 1).l.length - (RowKit.intOf (ρ 72)).toNat) ?_ ?_) ?_
      · refine ⟨0, _, Nat.zero_le _, ?_, ?_, ?_, ?_, ?_, ?_, ?_, ?_, ?_, ?_, ?_, ha4.eqs (by rw [List.take_zero, List.flatMap_nil, List.append_nil])⟩ <;> simp (maxSteps := 1000000) (disch := (first | omega | (simp only [World.size_alloc, size_wr, size_drew] <;> omega) | exact not_noB _)) only [go_sem, ↓reduceIte, n0, reduceCtorEq, n1, n2, n3, n4, n5, i0, i1, i2, i3, i4, i5, i6, i7, hr1_1, hr1_0, hr1_5, hr1_6, hI1, hN1, hS1]
        all_goals rfl
      · rintro ρ w5 ⟨j2, r5, hj2, hI2, hN2, hS2, hr1_2, hr2_0, hr2_5, hr2_6, hr2_40, hr2_39, hr2_7, hr2_9, ha5⟩
        have hB5 : B ≤ w5.heap.size := Nat.le_trans hB ha5.upd.size
        have hv_5 := ha5.upd.blk_some hv hdv
        have hx1_5 := ha5.upd.blk_some hx1 hnx1
        by_cases hlt2 : j2 < (y1.at 1).l.length
        · obtain ⟨_, b2, o2, x2, ce2, hb2, hok2, hx2, hbl2, hxs2, hxe2, hq2, hRe2⟩ := SlR.get (size := 3) (by decide) hse1_1 hlt2
          subst hb2
          have hcat2 : (y1.at 1).l.take (j2 + 1) = (y1.at 1).l.take j2 ++ [(y1.at 1).l[j2]] := List.take_succ_eq_append_getElem hlt2
          have htl2 := take_flatMap_len (y1.at 1).l (fun x => partS (d + 1) fs_DeleteRecordsRequestTopicPartition ver true x) (j2 + 1)
          rw [← hXEe1_1, hcat2, List.flatMap_append, List.flatMap_cons, List.flatMap_nil, List.append_nil] at htl2
          have hge2 := (ge1_1.list rfl).2 _ (List.getElem_mem hlt2)
          generalize (y1.at 1).l[j2] = y2 at *
          have hnx2 := hd b2 hbl2 hok2
          obtain ⟨T2, hTT2⟩ : ∃ T, T = ((y1.at 1).l.take j2).flatMap (fun x => partS (d + 1) fs_DeleteRecordsRequestTopicPartition ver true x) := ⟨_, rfl⟩
          rw [← hTT2] at ha5 htl2
          have hx2_5 := ha5.upd.blk_some hx2 hnx2
          replace hRe2 : RepS true (d + 1) fs_DeleteRecordsRequestTopicPartition okM w y2 ce2 := Rep1_part.1 hRe2
          have hfe2 : FitP ver (d + 1) fs_DeleteRecordsRequestTopicPartition y2 := hge2.2.2 rfl
          obtain ⟨⟨ge2_0, ge2_1, -⟩, hfue2⟩ := hfe2
          replace ge2_0 : FitF (FitP ver d) ver fDeleteRecordsRequestTopicPartition_0 (y2.at 0) := ge2_0
          replace ge2_1 : FitF (FitP ver d) ver fDeleteRecordsRequestTopicPartition_1 (y2.at 1) := ge2_1
          obtain ⟨cse2, qe2, hcse2, hLe2, hTe2⟩ := hRe2.inv
          obtain ⟨ce2_0, ee2_0, rfl, he2_0, ce2_1, ee2_1, rfl, he2_1, rfl⟩ := hLe2
          replace he2_0 : RepF (RepS true d) (szS true d) fDeleteRecordsRequestTopicPartition_0 okM w (y2.at 0) ce2_0 := he2_0
          replace he2_1 : RepF (RepS true d) (szS true d) fDeleteRecordsRequestTopicPartition_1 okM w (y2.at 1) ce2_1 := he2_1
          obtain rfl := (RepF_num (by decide)).1 he2_0
          obtain rfl := (RepF_num (by decide)).1 he2_1
          obtain ⟨qme2, rfl⟩ := hTe2.shape
          subst hcse2
          have hq2_0 : x2.1[o2 + j2 * 3]? = some (.int .i32 (IntKind.i32.wrap (y2.at 0).n)) := hq2 0 (by decide)
          have hq2_1 : x2.1[o2 + (j2 * 3 + 1)]? = some (.int .i64 (y2.at 1).n) := hq2 1 (by decide)
          have hq2_2 : x2.1[o2 + (j2 * 3 + 2)]? = some (.map qme2) := hq2 2 (by decide)
          have hhe2_0 : hasS fDeleteRecordsRequestTopicPartition_0 ver = true := hasS_t (by show (0 : Int) ≤ ver; omega) (by show (-1 : Int) < 0 ∨ ver ≤ (-1 : Int); omega)
          obtain ⟨Xe2_0, hXXe2_0⟩ : ∃ X, X = fixedS (y2.at 0).n 4 := ⟨_, rfl⟩
          have hhe2_1 : hasS fDeleteRecordsRequestTopicPartition_1 ver = true := hasS_t (by show (0 : Int) ≤ ver; omega) (by show (-1 : Int) < 0 ∨ ver ≤ (-1 : Int); omega)
          obtain ⟨Xe2_1, hXXe2_1⟩ : ∃ X, X = fixedS (y2.at 1).n 8 := ⟨_, rfl⟩
          obtain ⟨XUe2, hXUe2⟩ : ∃ X, X = uvarS y2.u.length := ⟨_, rfl⟩
          obtain ⟨XTe2, hXTe2⟩ : ∃ X, X = y2.u.flatMap oneTag := ⟨_, rfl⟩
          have hPe2 : partS (d + 1) fs_DeleteRecordsRequestTopicPartition ver true y2 = (Xe2_0 ++ (Xe2_1 ++ [])) ++ (XUe2 ++ XTe2) := by rw [hXUe2, hXTe2]; exact partS_yes rfl hfue2 (plainL_has (by decide) hhe2_0 ((fieldS_num 3 rfl (by decide)).trans hXXe2_0.symm) (plainL_has (by decide) hhe2_1 ((fieldS_num 4 rfl (by decide)).trans hXXe2_1.symm) rfl))
          rw [hPe2] at htl2
          simp only [List.length_append, List.length_nil] at htl2
          repeat ((first | refine W.seqR rfl ?_ | refine W.seq ?_ | refine W.regR rfl ?_ | refine W.condK ?_ | refine W.block ?_ | refine W.skip ?_ | refine W.ret ?_ | refine W.exit ?_); try simp (maxSteps := 1000000) (disch := (first | omega | (simp only [World.size_alloc, size_wr, size_drew] <;> omega) | exact not_noB _)) only [go_sem, ↓reduceIte, n0, reduceCtorEq, n1, n2, n3, n4, n5, i0, i1, i2, i3, i4, i5, i6, i7, hv_5, hx1_5, hx2_5, Int.toNat_natCast, Nat.mul_one, hq1_0, hq1_1, hq1_2, hq2_0, hq2_1, hq2_2, hr1_2, hr2_0, hr2_5, hr2_6, hr2_40, hr2_39, hr2_7, hr2_9, hI2, hN2, hS2])
          refine (AppendInt32_fn _ _ _ ha5.own hB5 _ (by simp only [List.length_append, List.length_nil]; omega)).mono ?_
          rintro r6 w6 hc6
          rw [wrap32, ← hXXe2_0] at hc6
          have ha6 := ha5.trans hc6
          have hB6 : B ≤ w6.heap.size := Nat.le_trans hB ha6.upd.size
          have hv_6 := ha6.upd.blk_some hv hdv
          have hx1_6 := ha6.upd.blk_some hx1 hnx1
          have hx2_6 := ha6.upd.blk_some hx2 hnx2
          repeat ((first | refine W.seqR rfl ?_ | refine W.seq ?_ | refine W.regR rfl ?_ | refine W.condK ?_ | refine W.block ?_ | refine W.skip ?_ | refine W.ret ?_ | refine W.exit ?_); try simp (maxSteps := 1000000) (disch := (first | omega | (simp only [World.size_alloc, size_wr, size_drew] <;> omega) | exact not_noB _)) only [go_sem, ↓reduceIte, n0, reduceCtorEq, n1, n2, n3, n4, n5, i0, i1, i2, i3, i4, i5, i6, i7, hv_6, hx1_6, hx2_6, Int.toNat_natCast, Nat.mul_one, hq1_0, hq1_1, hq1_2, hq2_0, hq2_1, hq2_2, hr1_2, hr2_0, hr2_5, hr2_6, hr2_40, hr2_39, hr2_7, hr2_9, hI2, hN2, hS2])
          refine (AppendInt64_fn _ _ _ ha6.own hB6 _ (by simp only [List.length_append, List.length_nil]; omega)).mono ?_
          rintro r7 w7 hc7
          rw [← hXXe2_1] at hc7
          have ha7 := ha6.trans hc7
          have hB7 : B ≤ w7.heap.size := Nat.le_trans hB ha7.upd.size
          have hv_7 := ha7.upd.blk_some hv hdv
          have hx1_7 := ha7.upd.blk_some hx1 hnx1
          have hx2_7 := ha7.upd.blk_some hx2 hnx2
          repeat ((first | refine W.seqR rfl ?_ | refine W.seq ?_ | refine W.regR rfl ?_ | refine W.condK ?_ | refine W.block ?_ | refine W.skip ?_ | refine W.ret ?_ | refine W.exit ?_); try simp (maxSteps := 1000000) (disch := (first | omega | (simp only [World.size_alloc, size_wr, size_drew] <;> omega) | exact not_noB _)) only [go_sem, ↓reduceIte, n0, reduceCtorEq, n1, n2, n3, n4, n5, i0, i1, i2, i3, i4, i5, i6, i7, hv_7, hx1_7, hx2_7, Int.toNat_natCast, Nat.mul_one, hq1_0, hq1_1, hq1_2, hq2_0, hq2_1, hq2_2, hr1_2, hr2_0, hr2_5, hr2_6, hr2_40, hr2_39, hr2_7, hr2_9, hI2, hN2, hS2])
          have hTk7 : TagsM (OkS okM w.heap.size) w7 (.map qme2) y2.u := (hTe2.weaken fun b h1 h2 => ⟨h2, h1⟩).keep (ha7.upd.keeps fun b hb hk => hd b hb hk.1)
          refine (TagsLen_fn (ok := OkS okM w.heap.size) w7 hx2_7 (to := o2 + (j2 * 3 + 2)) hq2_2 hTk7).mono ?_
          rintro _ w7' ⟨rfl, rfl⟩
          have hul7 : y2.u.length ≤ 32767 := hfue2.1
          have ew7 : IntKind.u32.wrap (y2.u.length : Int) = y2.u.length := u32_wrap (by omega)
          have ez7 : IntKind.u32.wrap (0 + (y2.u.length : Int)) = y2.u.length := by rw [Int.zero_add, u32_wrap (by omega)]
          simp (maxSteps := 1000000) (disch := (first | omega | (simp only [World.size_alloc, size_wr, size_drew] <;> omega) | exact not_noB _)) only [go_sem, ↓reduceIte, n0, reduceCtorEq, n1, n2, n3, n4, n5, i0, i1, i2, i3, i4, i5, i6, i7, hv_7, hx1_7, hx2_7, Int.toNat_natCast, Nat.mul_one, hq1_0, hq1_1, hq1_2, hq2_0, hq2_1, hq2_2, hr1_2, hr2_0, hr2_5, hr2_6, hr2_40, hr2_39, hr2_7, hr2_9, hI2, hN2, hS2, ew7, ez7]
          refine (AppendUvarint_fn _ _ _ ha7.own hB7 y2.u.length (by omega) (by simp only [List.length_append, List.length_nil]; omega)).mono ?_
          rintro r8 w8 hc8
          rw [← hXUe2] at hc8
          have ha8 := ha7.trans hc8
          have hB8 : B ≤ w8.heap.size := Nat.le_trans hB ha8.upd.size
          have hv_8 := ha8.upd.blk_some hv hdv
          have hx1_8 := ha8.upd.blk_some hx1 hnx1
          have hx2_8 := ha8.upd.blk_some hx2 hnx2
          repeat ((first | refine W.seqR rfl ?_ | refine W.seq ?_ | refine W.regR rfl ?_ | refine W.condK ?_ | refine W.block ?_ | refine W.skip ?_ | refine W.ret ?_ | refine W.exit ?_); try simp (maxSteps := 1000000) (disch := (first | omega | (simp only [World.size_alloc, size_wr, size_drew] <;> omega) | exact not_noB _)) only [go_sem, ↓reduceIte, n0, reduceCtorEq, n1, n2, n3, n4, n5, i0, i1, i2, i3, i4, i5, i6, i7, hv_8, hx1_8, hx2_8, Int.toNat_natCast, Nat.mul_one, hq1_0, hq1_1, hq1_2, hq2_0, hq2_1, hq2_2, hr1_2, hr2_0, hr2_5, hr2_6, hr2_40, hr2_39, hr2_7, hr2_9, hI2, hN2, hS2])
          have hTk8 : TagsM (OkS okM w.heap.size) w8 (.map qme2) y2.u := (hTe2.weaken fun b h1 h2 => ⟨h2, h1⟩).keep (ha8.upd.keeps fun b hb hk => hd b hb hk.1)
          refine (AppendEach_fn (ok := OkS okM w.heap.size) _ _ _ ha8.own hB8 hx2_8 (to := o2 + (j2 * 3 + 2)) hq2_2 hTk8 (rising_keys hfue2) hfue2.1 (tags_small hfue2 hTk8) (hdK ha8) (ownK ha8 (blk_lt hx2) hnx2) (by simp only [List.length_append, List.length_nil]; omega)).mono ?_
          rintro r9 w9 hc9
          rw [← hXTe2] at hc9
          have ha9 := ha8.trans hc9
          have hB9 : B ≤ w9.heap.size := Nat.le_trans hB ha9.upd.size
          have hv_9 := ha9.upd.blk_some hv hdv
          have hx1_9 := ha9.upd.blk_some hx1 hnx1
          have hx2_9 := ha9.upd.blk_some hx2 hnx2
          repeat ((first | refine W.seqR rfl ?_ | refine W.seq ?_ | refine W.regR rfl ?_ | refine W.condK ?_ | refine W.block ?_ | refine W.skip ?_ | refine W.ret ?_ | refine W.exit ?_); try simp (maxSteps := 1000000) (disch := (first | omega | (simp only [World.size_alloc, size_wr, size_drew] <;> omega) | exact not_noB _)) only [go_sem, ↓reduceIte, n0, reduceCtorEq, n1, n2, n3, n4, n5, i0, i1, i2, i3, i4, i5, i6, i7, hr1_2, hr2_0, hr2_5, hr2_6, hr2_40, hr2_39, hr2_7, hr2_9, hI2, hN2, hS2])
          refine ⟨⟨j2 + 1, _, by omega, rfl, rfl, ha9.eqs ?_⟩, ?_⟩
          · rw [hcat2, List.flatMap_append, List.flatMap_cons, List.flatMap_nil, List.append_nil, ← hTT2, hPe2]; simp only [List.append_assoc, List.append_nil, List.nil_append]
          · simp only [RowKit.intOf]; omega
        · have hjl2 : j2 = (y1.at 1).l.length := by omega
          subst hjl2
          rw [List.take_length, ← hXEe1_1] at ha5
          repeat ((first | refine W.seqR rfl ?_ | refine W.seq ?_ | refine W.regR rfl ?_ | refine W.condK ?_ | refine W.block ?_ | refine W.skip ?_ | refine W.ret ?_ | refine W.exit ?_); try simp (maxSteps := 1000000) (disch := (first | omega | (simp only [World.size_alloc, size_wr, size_drew] <;> omega) | exact not_noB _)) only [go_sem, ↓reduceIte, n0, reduceCtorEq, n1, n2, n3, n4, n5, i0, i1, i2, i3, i4, i5, i6, i7, hI2, hN2])
          exact ⟨_, hr1_2, hr2_0, hr2_5, hr2_6, hr2_40, hr2_39, hr2_7, hr2_9, ha5⟩
      · rintro ρ w10 ⟨r10, hr1_3, hr3_0, hr3_5, hr3_6, hr3_40, hr3_39, hr3_7, hr3_9, ha10⟩
        have hB10 : B ≤ w10.heap.size := Nat.le_trans hB ha10.upd.size
        have hv_10 := ha10.upd.blk_some hv hdv
        have hx1_10 := ha10.upd.blk_some hx1 hnx1
        repeat ((first | refine W.seqR rfl ?_ | refine W.seq ?_ | refine W.regR rfl ?_ | refine W.condK ?_ | refine W.block ?_ | refine W.skip ?_ | refine W.ret ?_ | refine W.exit ?_); try simp (maxSteps := 1000000) (disch := (first | omega | (simp only [World.size_alloc, size_wr, size_drew] <;> omega) | exact not_noB _)) only [go_sem, ↓reduceIte, n0, reduceCtorEq, n1, n2, n3, n4, n5, i0, i1, i2, i3, i4, i5, i6, i7, hv_10, hx1_10, Int.toNat_natCast, Nat.mul_one, hq1_0, hq1_1, hq1_2, hr1_3, hr3_0, hr3_5, hr3_6, hr3_40, hr3_39, hr3_7, hr3_9])
        have hTk10 : TagsM (OkS okM w.heap.size) w10 (.map qme1) y1.u := (hTe1.weaken fun b h1 h2 => ⟨h2, h1⟩).keep (ha10.upd.keeps fun b hb hk => hd b hb hk.1)
        refine (TagsLen_fn (ok := OkS okM w.heap.size) w10 hx1_10 (to := o1 + (j1 * 3 + 2)) hq1_2 hTk10).mono ?_
        rintro _ w10' ⟨rfl, rfl⟩
        have hul10 : y1.u.length ≤ 32767 := hfue1.1
        have ew10 : IntKind.u32.wrap (y1.u.length : Int) = y1.u.length := u32_wrap (by omega)
        have ez10 : IntKind.u32.wrap (0 + (y1.u.length : Int)) = y1.u.length := by rw [Int.zero_add, u32_wrap (by omega)]
        simp (maxSteps := 1000000) (disch := (first | omega | (simp only [World.size_alloc, size_wr, size_drew] <;> omega) | exact not_noB _)) only [go_sem, ↓reduceIte, n0, reduceCtorEq, n1, n2, n3, n4, n5, i0, i1, i2, i3, i4, i5, i6, i7, hv_10, hx1_10, Int.toNat_natCast, Nat.mul_one, hq1_0, hq1_1, hq1_2, hr1_3, hr3_0, hr3_5, hr3_6, hr3_40, hr3_39, hr3_7, hr3_9, ew10, ez10]
        refine (AppendUvarint_fn _ _ _ ha10.own hB10 y1.u.length (by omega) (by simp only [List.length_append, List.length_nil]; omega)).mono ?_
        rintro r11 w11 hc11
        rw [← hXUe1] at hc11
        have ha11 := ha10.trans hc11
        have hB11 : B ≤ w11.heap.size := Nat.le_trans hB ha11.upd.size
        have hv_11 := ha11.upd.blk_some hv hdv
        have hx1_11 := ha11.upd.blk_some hx1 hnx1
        repeat ((first | refine W.seqR rfl ?_ | refine W.seq ?_ | refine W.regR rfl ?_ | refine W.condK ?_ | refine W.block ?_ | refine W.skip ?_ | refine W.ret ?_ | refine W.exit ?_); try simp (maxSteps := 1000000) (disch := (first | omega | (simp only [World.size_alloc, size_wr, size_drew] <;> omega) | exact not_noB _)) only [go_sem, ↓reduceIte, n0, reduceCtorEq, n1, n2, n3, n4, n5, i0, i1, i2, i3, i4, i5, i6, i7, hv_11, hx1_11, Int.toNat_natCast, Nat.mul_one, hq1_0, hq1_1, hq1_2, hr1_3, hr3_0, hr3_5, hr3_6, hr3_40, hr3_39, hr3_7, hr3_9])
        have hTk11 : TagsM (OkS okM w.heap.size) w11 (.map qme1) y1.u := (hTe1.weaken fun b h1 h2 => ⟨h2, h1⟩).keep (ha11.upd.keeps fun b hb hk => hd b hb hk.1)
        refine (AppendEach_fn (ok := OkS okM w.heap.size) _ _ _ ha11.own hB11 hx1_11 (to := o1 + (j1 * 3 + 2)) hq1_2 hTk11 (rising_keys hfue1) hfue1.1 (tags_small hfue1 hTk11) (hdK ha11) (ownK ha11 (blk_lt hx1) hnx1) (by simp only [List.length_append, List.length_nil]; omega)).mono ?_
        rintro r12 w12 hc12
        rw [← hXTe1] at hc12
        have ha12 := ha11.trans hc12
        have hB12 : B ≤ w12.heap.size := Nat.le_trans hB ha12.upd.size
        have hv_12 := ha12.upd.blk_some hv hdv
        have hx1_12 := ha12.upd.blk_some hx1 hnx1
        repeat ((first | refine W.seqR rfl ?_ | refine W.seq ?_ | refine W.regR rfl ?_ | refine W.condK ?_ | refine W.block ?_ | refine W.skip ?_ | refine W.ret ?_ | refine W.exit ?_); try simp (maxSteps := 1000000) (disch := (first | omega | (simp only [World.size_alloc, size_wr, size_drew] <;> omega) | exact not_noB _)) only [go_sem, ↓reduceIte, n0, reduceCtorEq, n1, n2, n3, n4, n5, i0, i1, i2, i3, i4, i5, i6, i7, hr1_3, hr3_0, hr3_5, hr3_6, hr3_40, hr3_39, hr3_7, hr3_9])
        refine ⟨⟨j1 + 1, _, by omega, rfl, rfl, ha12.eqs ?_⟩, ?_⟩
        · rw [hcat1, List.flatMap_append, List.flatMap_cons, List.flatMap_nil, List.append_nil, ← hTT1, hPe1]; simp only [List.append_assoc, List.append_nil, List.nil_append]
        · simp only [RowKit.intOf]; omega
    · have hjl1 : j1 = (t.at 0).l.length := by omega
      subst hjl1
      rw [List.take_length, ← hXE_0] at ha2
      repeat ((first | refine W.seqR rfl ?_ | refine W.seq ?_ | refine W.regR rfl ?_ | refine W.condK ?_ | refine W.block ?_ | refine W.skip ?_ | refine W.ret ?_ | refine W.exit ?_); try simp (maxSteps := 1000000) (disch := (first | omega | (simp only [World.size_alloc, size_wr, size_drew] <;> omega) | exact not_noB _)) only [go_sem, ↓reduceIte, n0, reduceCtorEq, n1, n2, n3, n4, n5, i0, i1, i2, i3, i4, i5, i6, i7, hI1, hN1])
      exact ⟨_, hr1_1, hr1_0, hr1_5, hr1_6, ha2⟩
  · rintro ρ w13 ⟨r13, hr1_4, hr4_0, hr4_5, hr4_6, ha13⟩
    have hB13 : B ≤ w13.heap.size := Nat.le_trans hB ha13.upd.size
    have hv_13 := ha13.upd.blk_some hv hdv
    repeat ((first | refine W.seqR rfl ?_ | refine W.seq ?_ | refine W.regR rfl ?_ | refine W.condK ?_ | refine W.block ?_ | refine W.skip ?_ | refine W.ret ?_ | refine W.exit ?_); try simp (maxSteps := 1000000) (disch := (first | omega | (simp only [World.size_alloc, size_wr, size_drew] <;> omega) | exact not_noB _)) only [go_sem, ↓reduceIte, n0, reduceCtorEq, n1, n2, n3, n4, n5, i0, i1, i2, i3, i4, i5, i6, i7, hv_13, hr1_4, hr4_0, hr4_5, hr4_6])
    refine (AppendInt32_fn _ _ _ ha13.own hB13 _ (by simp only [List.length_append, List.length_nil]; omega)).mono ?_
    rintro r14 w14 hc14
    rw [wrap32, ← hXX_1] at hc14
    have ha14 := ha13.trans hc14
    have hB14 : B ≤ w14.heap.size := Nat.le_trans hB ha14.upd.size
    have hv_14 := ha14.upd.blk_some hv hdv
    repeat ((first | refine W.seqR rfl ?_ | refine W.seq ?_ | refine W.regR rfl ?_ | refine W.condK ?_ | refine W.block ?_ | refine W.skip ?_ | refine W.ret ?_ | refine W.exit ?_); try simp (maxSteps := 1000000) (disch := (first | omega | (simp only [World.size_alloc, size_wr, size_drew] <;> omega) | exact not_noB _)) only [go_sem, ↓reduceIte, n0, reduceCtorEq, n1, n2, n3, n4, n5, i0, i1, i2, i3, i4, i5, i6, i7, hv_14, hr1_4, hr4_0, hr4_5, hr4_6])
    have hTk14 : TagsM (OkS okM w.heap.size) w14 (.map qm) t.u := (hT.weaken fun b h1 h2 => ⟨h2, h1⟩).keep (ha14.upd.keeps fun b hb hk => hd b hb hk.1)
    refine (TagsLen_fn (ok := OkS okM w.heap.size) w14 hv_14 (to := 3) (show (#[.int .i16 ver, .slice ab_0 (t.at 0).l.length ac_0, .int .i32 (IntKind.i32.wrap (t.at 1).n), .map qm] : Array Value)[3]? = some (.map qm) from rfl) hTk14).mono ?_
    rintro _ w14' ⟨rfl, rfl⟩
    have hul14 : t.u.length ≤ 32767 := hfu.1
    have ew14 : IntKind.u32.wrap (t.u.length : Int) = t.u.length := u32_wrap (by omega)
    have ez14 : IntKind.u32.wrap (0 + (t.u.length : Int)) = t.u.length := by rw [Int.zero_add, u32_wrap (by omega)]
    simp (maxSteps := 1000000) (disch := (first | omega | (simp only [World.size_alloc, size_wr, size_drew] <;> omega) | exact not_noB _)) only [go_sem, ↓reduceIte, n0, reduceCtorEq, n1, n2, n3, n4, n5, i0, i1, i2, i3, i4, i5, i6, i7, hv_14, hr1_4, hr4_0, hr4_5, hr4_6, ew14, ez14]
    refine (AppendUvarint_fn _ _ _ ha14.own hB14 t.u.length (by omega) (by simp only [List.length_append, List.length_nil]; omega)).mono ?_
    rintro r15 w15 hc15
    rw [← hXU] at hc15
    have ha15 := ha14.trans hc15
    have hB15 : B ≤ w15.heap.size := Nat.le_trans hB ha15.upd.size
    have hv_15 := ha15.upd.blk_some hv hdv
    repeat ((first | refine W.seqR rfl ?_ | refine W.seq ?_ | refine W.regR rfl ?_ | refine W.condK ?_ | refine W.block ?_ | refine W.skip ?_ | refine W.ret ?_ | refine W.exit ?_); try simp (maxSteps := 1000000) (disch := (first | omega | (simp only [World.size_alloc, size_wr, size_drew] <;> omega) | exact not_noB _)) only [go_sem, ↓reduceIte, n0, reduceCtorEq, n1, n2, n3, n4, n5, i0, i1, i2, i3, i4, i5, i6, i7, hv_15, hr1_4, hr4_0, hr4_5, hr4_6])
    have hTk15 : TagsM (OkS okM w.heap.size) w15 (.map qm) t.u := (hT.weaken fun b h1 h2 => ⟨h2, h1⟩).keep (ha15.upd.keeps fun b hb hk => hd b hb hk.1)
    refine (AppendEach_fn (ok := OkS okM w.heap.size) _ _ _ ha15.own hB15 hv_15 (to := 3) (show (#[.int .i16 ver, .slice ab_0 (t.at 0).l.length ac_0, .int .i32 (IntKind.i32.wrap (t.at 1).n), .map qm] : Array Value)[3]? = some (.map qm) from rfl) hTk15 (rising_keys hfu) hfu.1 (tags_small hfu hTk15) (hdK ha15) (ownK ha15 (blk_lt hv) hdv) (by simp only [List.length_append, List.length_nil]; omega)).mono ?_
    rintro r16 w16 hc16
    rw [← hXT] at hc16
    have ha16 := ha15.trans hc16
    have hB16 : B ≤ w16.heap.size := Nat.le_trans hB ha16.upd.size
    have hv_16 := ha16.upd.blk_some hv hdv
    repeat ((first | refine W.seqR rfl ?_ | refine W.seq ?_ | refine W.regR rfl ?_ | refine W.condK ?_ | refine W.block ?_ | refine W.skip ?_ | refine W.ret ?_ | refine W.exit ?_); try simp (maxSteps := 1000000) (disch := (first | omega | (simp only [World.size_alloc, size_wr, size_drew] <;> omega) | exact not_noB _)) only [go_sem, ↓reduceIte, n0, reduceCtorEq, n1, n2, n3, n4, n5, i0, i1, i2, i3, i4, i5, i6, i7, hv_16, hr1_4, hr4_0, hr4_5, hr4_6])
    refine ha16.eqs ?_
    rw [hP]; simp only [List.append_assoc, List.append_nil, List.nil_append]
end Ms

namespace Ms
open Nat renaming reduceEqDiff → n0, reduceAdd → n1, reduceMul → n2, reduceSub → n3, reduceLT → n4, reduceLeDiff → n5
open Int renaming reduceEq → i0, reduceLT → i1, reduceLE → i2, reduceNeg → i3, reduceAdd → i4, reduceSub → i5, reduceMul → i6, reduceToNat → i7
set_option maxRecDepth 8000
open Go Go.Proofs Go.Shelf
attribute [local congr] W_congr WPsq_congr WPp_congr optK_congr addrK_congr intK_congr boolK_congr sliceK_congr tupleK_congr funcK_congr Fn_congr rawK_congr takeK_congr stepK_congr convK_congr aggK_congr

set_option maxHeartbeats 1000000 in
theorem MakeDeleteRecordsRequest_fn {ok : Blocks} (t : Tree) (ct : List Value) (w : World) (ver : Nat) (hv : ver ≤ 2) (ht : TreeC ok w t ct) (hfit : FitP ver 4 fs_DeleteRecordsRequest t) (hLs : Lists t) (hlen : (partS 4 fs_DeleteRecordsRequest ver (flexB 2 ver) t).length ≤ 2 ^ 41) :
    Fn Try.prog 27 #[.int .i64 ver, .agg ct.toArray] w fun r w' => OwnBy 5 w.heap.size w' r (partS 4 fs_DeleteRecordsRequest ver (flexB 2 ver) t) ∧ Ext w w' := by
  replace ht : TreeC (fun b => b < w.heap.size) w t ct := ht.weaken fun b hb _ => hb
  obtain ⟨vS, vL, vU, rfl, hn, hS, hL, hU⟩ := ht.inv
  obtain ⟨bS, cS, rfl, _⟩ := hS.shape
  obtain ⟨bL, cL, rfl, _⟩ := SlR.shape hL
  obtain ⟨bU, cU, rfl, _⟩ := SlR.shape hU
  have ew : IntKind.i16.wrap (ver : Int) = ver := i16_wrap (by omega)
  have hE1 : Ext w ((w.alloc (.cells #[.int .i64 t.n, .slice bS t.s.length cS, .bool t.null, .slice bL t.l.length cL, .slice bU t.u.length cU] 39)).alloc (.cells #[.int .i16 0, .slice none 0 0, .int .i32 0, .map none] 81)) := Upd.alloc (Upd.alloc (Upd.refl _ _) _) _
  have hb1 : blk ((w.alloc (.cells #[.int .i64 t.n, .slice bS t.s.length cS, .bool t.null, .slice bL t.l.length cL, .slice bU t.u.length cU] 39)).alloc (.cells #[.int .i16 0, .slice none 0 0, .int .i32 0, .map none] 81)) (w.heap.size + 1) = some (#[.int .i16 0, .slice none 0 0, .int .i32 0, .map none], 81, (0, 0)) := blk_alloc_new (by simp only [World.size_alloc])
  have htb1 : blk ((w.alloc (.cells #[.int .i64 t.n, .slice bS t.s.length cS, .bool t.null, .slice bL t.l.length cL, .slice bU t.u.length cU] 39)).alloc (.cells #[.int .i16 0, .slice none 0 0, .int .i32 0, .map none] 81)) w.heap.size = some (#[.int .i64 t.n, .slice bS t.s.length cS, .bool t.null, .slice bL t.l.length cL, .slice bU t.u.length cU], 39, (0, 0)) := by simp (maxSteps := 1000000) (disch := (first | omega | (simp only [World.size_alloc, size_wr, size_drew] <;> omega) | exact not_noB _)) only [go_sem, ↓reduceIte, n0, reduceCtorEq, n1, n2, n3, n4, n5, i0, i1, i2, i3, i4, i5, i6, i7]
  have hz1 : ((w.alloc (.cells #[.int .i64 t.n, .slice bS t.s.length cS, .bool t.null, .slice bL t.l.length cL, .slice bU t.u.length cU] 39)).alloc (.cells #[.int .i16 0, .slice none 0 0, .int .i32 0, .map none] 81)).heap.size = w.heap.size + 2 := by simp only [World.size_alloc]
  refine fn_of_W Try.func27 rfl Try.results27 Try.ntmps27 rfl ?_
  repeat ((first | refine W.seqR rfl ?_ | refine W.seq ?_ | refine W.regR rfl ?_ | refine W.condK ?_ | refine W.block ?_ | refine W.skip ?_ | refine W.ret ?_ | refine W.exit ?_); try simp (maxSteps := 1000000) (disch := (first | omega | (simp only [World.size_alloc, size_wr, size_drew] <;> omega) | exact not_noB _)) only [go_sem, ↓reduceIte, n0, reduceCtorEq, n1, n2, n3, n4, n5, i0, i1, i2, i3, i4, i5, i6, i7, ew])
  generalize ((w.alloc (.cells #[.int .i64 t.n, .slice bS t.s.length cS, .bool t.null, .slice bL t.l.length cL, .slice bU t.u.length cU] 39)).alloc (.cells #[.int .i16 0, .slice none 0 0, .int .i32 0, .map none] 81)) = w1 at *
  refine (SetVersionDeleteRecordsRequest_fn w1 (vb := w.heap.size + 1) ver hb1).mono ?_
  rintro _ w2 ⟨hb2, hU2⟩
  have hz2 := hU2.size
  have hE2 : Ext w w2 := hE1.more hU2 fun b hb h => by omega
  have htb2 := hU2.blk_some htb1 (by omega)
  repeat ((first | refine W.seqR rfl ?_ | refine W.seq ?_ | refine W.regR rfl ?_ | refine W.condK ?_ | refine W.block ?_ | refine W.skip ?_ | refine W.ret ?_ | refine W.exit ?_); try simp (maxSteps := 1000000) (disch := (first | omega | (simp only [World.size_alloc, size_wr, size_drew] <;> omega) | exact not_noB _)) only [go_sem, ↓reduceIte, n0, reduceCtorEq, n1, n2, n3, n4, n5, i0, i1, i2, i3, i4, i5, i6, i7, htb2, cellsAt_five])
  refine (fillDeleteRecordsRequest_fn (d := 1) (okT := fun b => b < w.heap.size) (V := ver) (ver := ver) t _ w2 (vb := w.heap.size + 1) hb2 (ht.keep (hE2.keeps _)) (fun b hb => by omega) hfit hLs).mono ?_
  rintro _ w3 ⟨cells, hb3, hR3, hU3⟩
  have hz3 := hU3.size
  have hE3 : Ext w w3 := hE2.more hU3 fun b hb h => by omega
  repeat ((first | refine W.seqR rfl ?_ | refine W.seq ?_ | refine W.regR rfl ?_ | refine W.condK ?_ | refine W.block ?_ | refine W.skip ?_ | refine W.ret ?_ | refine W.exit ?_); try simp (maxSteps := 1000000) (disch := (first | omega | (simp only [World.size_alloc, size_wr, size_drew] <;> omega) | exact not_noB _)) only [go_sem, ↓reduceIte, n0, reduceCtorEq, n1, n2, n3, n4, n5, i0, i1, i2, i3, i4, i5, i6, i7])
  have hcl : (0 ≤ (ver : Int) ∧ (ver : Int) ≤ 1) ∨ (2 ≤ (ver : Int) ∧ (ver : Int) ≤ 2) := by omega
  rcases hcl with ⟨h1, h2⟩ | ⟨h1, h2⟩
  · have hfl : flexB 2 ver = false := by simp only [flexB, Bool.and_eq_false_iff, decide_eq_false_iff_not]; omega
    rw [hfl] at hlen ⊢
    refine (appDeleteRecordsRequest_0 (d := 1) (B := w3.heap.size) (okM := okN (fun b => b < w.heap.size) w2.heap.size) h1 h2 t cells (.slice none 0 0) [] w3 (Own.nil _ _ _ _) (Nat.le_refl _) hb3 hR3 hfit (by rintro b _ _ ⟨a, n, c, h, _⟩; cases h) (by rintro ⟨a, n, c, h, _⟩; cases h) (by simpa using hlen)).mono ?_
    rintro r4 w4 h4
    repeat ((first | refine W.seqR rfl ?_ | refine W.seq ?_ | refine W.regR rfl ?_ | refine W.condK ?_ | refine W.block ?_ | refine W.skip ?_ | refine W.ret ?_ | refine W.exit ?_); try simp (maxSteps := 1000000) (disch := (first | omega | (simp only [World.size_alloc, size_wr, size_drew] <;> omega) | exact not_noB _)) only [go_sem, ↓reduceIte, n0, reduceCtorEq, n1, n2, n3, n4, n5, i0, i1, i2, i3, i4, i5, i6, i7])
    refine ⟨?_, hE3.more h4.upd fun b hb h => by obtain ⟨a, n, c, h, _⟩ := h; cases h⟩
    have := h4.own
    rw [List.nil_append] at this
    exact Own.mono this (by omega)
  · have hfl : flexB 2 ver = true := by simp only [flexB, Bool.and_eq_true, decide_eq_true_eq]; omega
    rw [hfl] at hlen ⊢
    refine (appDeleteRecordsRequest_1 (d := 1) (B := w3.heap.size) (okM := okN (fun b => b < w.heap.size) w2.heap.size) h1 h2 t cells (.slice none 0 0) [] w3 (Own.nil _ _ _ _) (Nat.le_refl _) hb3 hR3 hfit (by rintro b _ _ ⟨a, n, c, h, _⟩; cases h) (by rintro ⟨a, n, c, h, _⟩; cases h) (by simpa using hlen)).mono ?_
    rintro r4 w4 h4
    repeat ((first | refine W.seqR rfl ?_ | refine W.seq ?_ | refine W.regR rfl ?_ | refine W.condK ?_ | refine W.block ?_ | refine W.skip ?_ | refine W.ret ?_ | refine W.exit ?_); try simp (maxSteps := 1000000) (disch := (first | omega | (simp only [World.size_alloc, size_wr, size_drew] <;> omega) | exact not_noB _)) only [go_sem, ↓reduceIte, n0, reduceCtorEq, n1, n2, n3, n4, n5, i0, i1, i2, i3, i4, i5, i6, i7])
    refine ⟨?_, hE3.more h4.upd fun b hb h => by obtain ⟨a, n, c, h, _⟩ := h; cases h⟩
    have := h4.own
    rw [List.nil_append] at this
    exact Own.mono this (by omega)

set_option maxHeartbeats 1000000 in
theorem law_DeleteRecordsRequest {ok : Blocks} (n : Nat) (hn : n < 256) (t : Tree) (ct : List Value) (w : World) (ht : TreeC ok w t ct) (hsm : Small 4611686018427387903 t) {N : Nat} (hN : N ≤ 1048576) (hsz : Sized N t) :
    Fn Try.prog 5 #[.int .u8 n, .agg ct.toArray] w fun r w' => r = .bool true ∧ Ext w w' := by
  obtain ⟨vS, vL, vU, rfl, hn', hS, hL, hU⟩ := ht.inv
  have f1 := hS.flat
  have f2 := SlR.flat hL
  have f3 := SlR.flat hU
  have hE : Ext w (w.alloc (.cells #[.int .i64 t.n, vS, .bool t.null, vL, vU] 26)) := Upd.alloc (Upd.refl _ _) _
  refine fn_of_W Try.func5 rfl Try.results5 Try.ntmps5 rfl ?_
  repeat ((first | refine W.seqR rfl ?_ | refine W.seq ?_ | refine W.regR rfl ?_ | refine W.condK ?_ | refine W.block ?_ | refine W.skip ?_ | refine W.ret ?_ | refine W.exit ?_); try simp (maxSteps := 1000000) (disch := (first | omega | (simp only [World.size_alloc, size_wr, size_drew] <;> omega) | exact not_noB _)) only [go_sem, ↓reduceIte, n0, reduceCtorEq, n1, n2, n3, n4, n5, i0, i1, i2, i3, i4, i5, i6, i7, f1, f2, f3, cellsAt_five])
  have hb : blk (w.alloc (.cells #[.int .i64 t.n, vS, .bool t.null, vL, vU] 26)) w.heap.size = some (#[.int .i64 t.n, vS, .bool t.null, vL, vU], 26, (0, 0)) := blk_alloc_new rfl
  generalize (w.alloc (.cells #[.int .i64 t.n, vS, .bool t.null, vL, vU] 26)) = w1 at *
  refine (zzFits1_fn (ok := ok) t _ w1 (ht.keep (hE.keeps _)) hsm).mono ?_
  rintro r2 w2 ⟨⟨bb, rfl⟩, hE2⟩
  cases bb with
  | false =>
    simp (maxSteps := 1000000) (disch := (first | omega | (simp only [World.size_alloc, size_wr, size_drew] <;> omega) | exact not_noB _)) only [go_sem, ↓reduceIte, n0, reduceCtorEq, n1, n2, n3, n4, n5, i0, i1, i2, i3, i4, i5, i6, i7]
    repeat ((first | refine W.seqR rfl ?_ | refine W.seq ?_ | refine W.regR rfl ?_ | refine W.condK ?_ | refine W.block ?_ | refine W.skip ?_ | refine W.ret ?_ | refine W.exit ?_); try simp (maxSteps := 1000000) (disch := (first | omega | (simp only [World.size_alloc, size_wr, size_drew] <;> omega) | exact not_noB _)) only [go_sem, ↓reduceIte, n0, reduceCtorEq, n1, n2, n3, n4, n5, i0, i1, i2, i3, i4, i5, i6, i7])
    exact hE.trans hE2
  | true =>
    simp (maxSteps := 1000000) (disch := (first | omega | (simp only [World.size_alloc, size_wr, size_drew] <;> omega) | exact not_noB _)) only [go_sem, ↓reduceIte, n0, reduceCtorEq, n1, n2, n3, n4, n5, i0, i1, i2, i3, i4, i5, i6, i7]
    repeat ((first | refine W.seqR rfl ?_ | refine W.seq ?_ | refine W.regR rfl ?_ | refine W.condK ?_ | refine W.block ?_ | refine W.skip ?_ | refine W.ret ?_ | refine W.exit ?_); try simp (maxSteps := 1000000) (disch := (first | omega | (simp only [World.size_alloc, size_wr, size_drew] <;> omega) | exact not_noB _)) only [go_sem, ↓reduceIte, n0, reduceCtorEq, n1, n2, n3, n4, n5, i0, i1, i2, i3, i4, i5, i6, i7])
    refine (MaxDeleteRecordsRequest_fn w2).mono ?_
    rintro _ w2m ⟨rfl, hE2m⟩
    repeat ((first | refine W.seqR rfl ?_ | refine W.seq ?_ | refine W.regR rfl ?_ | refine W.condK ?_ | refine W.block ?_ | refine W.skip ?_ | refine W.ret ?_ | refine W.exit ?_); try simp (maxSteps := 1000000) (disch := (first | omega | (simp only [World.size_alloc, size_wr, size_drew] <;> omega) | exact not_noB _)) only [go_sem, ↓reduceIte, n0, reduceCtorEq, n1, n2, n3, n4, n5, i0, i1, i2, i3, i4, i5, i6, i7])
    refine (cDeleteRecordsRequest_fn w2m).mono ?_
    rintro r3 w3 ⟨⟨vs, rfl, hF0⟩, hE3⟩
    have hF : FldsV AnyB w3 vs fs_DeleteRecordsRequest := hF0.weaken fun _ _ _ => trivial
    have fF := SlR.flat hF
    simp (maxSteps := 1000000) (disch := (first | omega | (simp only [World.size_alloc, size_wr, size_drew] <;> omega) | exact not_noB _)) only [go_sem, ↓reduceIte, n0, reduceCtorEq, n1, n2, n3, n4, n5, i0, i1, i2, i3, i4, i5, i6, i7]
    refine (version_fn w3 n 2 hn (by decide)).mono ?_
    rintro _ w3v ⟨rfl, rfl⟩
    have hE03 : Ext w w3v := ((hE.trans hE2).trans hE2m).trans hE3
    have hb3 := hE3.blk_some (hE2m.blk_some (hE2.blk_some hb id) id) id
    have hE4 : Ext w3v (wr (w3v.alloc (.cells #[.slice none 0 0, .int .i64 0] 31)) w3v.heap.size 0 [vs, .int .i64 2]) := (Upd.alloc (Upd.refl _ _) _).wr _ _ (.inl (Nat.le_refl _))
    have hb4 : blk (wr (w3v.alloc (.cells #[.slice none 0 0, .int .i64 0] 31)) w3v.heap.size 0 [vs, .int .i64 2]) w3v.heap.size = some (#[vs, .int .i64 2], 31, (0, 0)) := by simp (maxSteps := 1000000) (disch := (first | omega | (simp only [World.size_alloc, size_wr, size_drew] <;> omega) | exact not_noB _)) only [go_sem, ↓reduceIte, n0, reduceCtorEq, n1, n2, n3, n4, n5, i0, i1, i2, i3, i4, i5, i6, i7]
    simp (maxSteps := 1000000) (disch := (first | omega | (simp only [World.size_alloc, size_wr, size_drew] <;> omega) | exact not_noB _)) only [go_sem, ↓reduceIte, n0, reduceCtorEq, n1, n2, n3, n4, n5, i0, i1, i2, i3, i4, i5, i6, i7, fF]
    generalize (wr (w3v.alloc (.cells #[.slice none 0 0, .int .i64 0] 31)) w3v.heap.size 0 [vs, .int .i64 2]) = w4 at *
    have hb34 := hE4.blk_some hb3 id
    have hv3 : n % 3 < 3 := Nat.mod_lt _ (by omega)
    generalize n % 3 = ver at *
    have hs1 := blk_lt hb4
    have hs2 := blk_lt hb34
    repeat ((first | refine W.seqR rfl ?_ | refine W.seq ?_ | refine W.regR rfl ?_ | refine W.condK ?_ | refine W.block ?_ | refine W.skip ?_ | refine W.ret ?_ | refine W.exit ?_); try simp (maxSteps := 1000000) (disch := (first | omega | (simp only [World.size_alloc, size_wr, size_drew] <;> omega) | exact not_noB _)) only [go_sem, ↓reduceIte, n0, reduceCtorEq, n1, n2, n3, n4, n5, i0, i1, i2, i3, i4, i5, i6, i7])
    refine W.drawR (.take 0 (.take 1 (.take 2 (.take 3 (.take 4 (.take 8 (.take 9 (.take 10 (.only 5 (.only 6 (.only 7 (.only 11 (.only 12 (.only 13 .done)))))))))))))) NoB mixed (by kernel_rfl) ?_
    simp (maxSteps := 1000000) (disch := (first | omega | (simp only [World.size_alloc, size_wr, size_drew] <;> omega) | exact not_noB _)) only [go_sem, ↓reduceIte, n0, reduceCtorEq, n1, n2, n3, n4, n5, i0, i1, i2, i3, i4, i5, i6, i7, hb34, hb4, cellsAt_five, cellsAt_two]
    have hE04d : Ext w w4.drew := (hE03.trans hE4).drew
    have hE3d : Ext w3v w4.drew := hE4.drew
    have hokF : okF 3 fs_DeleteRecordsRequest = true := by decide
    have hokM : okM 3 fs_DeleteRecordsRequest = true := by decide
    refine (fit_ok 3 AnyB fs_DeleteRecordsRequest ver t vs _ w4.drew (hF.keep (hE3d.keeps _)) hokF ((ht.weaken fun _ _ _ => trivial).keep (hE04d.keeps _)) hsm).mono ?_
    rintro r5 w5 ⟨⟨c5, rfl, hc5⟩, hE5⟩
    refine ⟨hE5, ?_⟩
    have hLs := fitS_lists 3 fs_DeleteRecordsRequest ver t (by decide) hokF
    refine (given_fn hLs _ c5 w5 hc5).mono ?_
    rintro r6 w6 ⟨⟨c6, rfl, hc6⟩, hE6⟩
    have hE56 : Ext w4.drew w6 := hE5.trans hE6
    refine ⟨hE56, ?_⟩
    have hpl : (partS 4 fs_DeleteRecordsRequest ver (flexB 2 ver) t).length ≤ 2 ^ 40 := Nat.le_trans (partS_bound ver _ 3 fs_DeleteRecordsRequest N t hokM hsz) (Nat.le_trans (Nat.mul_le_mul_left _ (Nat.succ_le_succ hN)) (by decide))
    have hpf : partS 4 fs_DeleteRecordsRequest ver (flexB 2 ver) (fitS 4 fs_DeleteRecordsRequest ver t) = partS 4 fs_DeleteRecordsRequest ver (flexB 2 ver) t := partS_fit ver (flexB 2 ver) 3 fs_DeleteRecordsRequest t hokM
    refine (MakeDeleteRecordsRequest_fn (fitS 4 fs_DeleteRecordsRequest ver t) c6 w6 ver (by omega) hc6 (fitS_fit ver 3 fs_DeleteRecordsRequest t hokM) hLs (by rw [hpf]; omega)).mono ?_
    rintro r7 w7 ⟨ho7, hE7⟩
    rw [hpf] at ho7
    have hE57 : Ext w4.drew w7 := hE56.trans hE7
    refine ⟨hE57, ?_⟩
    have hE07 : Ext w w7 := hE04d.trans hE57
    refine (Write_fn (ok := AnyB) (d := 3) fs_DeleteRecordsRequest 2 ver t vs _ w7 (hF.keep (Ext.keeps (hE3d.trans hE57) _)) hokF ((ht.weaken fun _ _ _ => trivial).keep (Ext.keeps hE07 _)) hsm hpl).mono ?_
    rintro r8 w8 ⟨ho8, hE8⟩
    have hE58 : Ext w4.drew w8 := hE57.trans hE8
    refine ⟨hE58, ?_⟩
    refine (Same_fn (ok := AnyB) _ _ r7 r8 w8 ((Own.bytes ho7 fun _ _ => trivial).keep (hE8.keeps _)) (Own.bytes ho8 fun _ _ => trivial) (by omega)).mono ?_
    rintro r9 w9 ⟨rfl, hE9⟩
    have hE59 : Ext w4.drew w9 := hE58.trans hE9
    refine ⟨hE59, hE59, ?_⟩
    repeat ((first | refine W.seqR rfl ?_ | refine W.seq ?_ | refine W.regR rfl ?_ | refine W.condK ?_ | refine W.block ?_ | refine W.skip ?_ | refine W.ret ?_ | refine W.exit ?_); try simp (maxSteps := 1000000) (disch := (first | omega | (simp only [World.size_alloc, size_wr, size_drew] <;> omega) | exact not_noB _)) only [go_sem, ↓reduceIte, n0, reduceCtorEq, n1, n2, n3, n4, n5, i0, i1, i2, i3, i4, i5, i6, i7])
    exact hE04d.trans hE59
end Ms

