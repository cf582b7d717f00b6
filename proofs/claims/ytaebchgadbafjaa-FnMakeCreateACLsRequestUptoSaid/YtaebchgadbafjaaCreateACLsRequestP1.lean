/- A part of the proof: see the last text. -/
import Derived.Test.YtaebchgadbafjaaC02
import Derived.Test.YtaebchgadbafjaaC08
import Derived.Test.YtaebchgadbafjaaCreateACLsRequestP0
set_option linter.unusedSimpArgs false
set_option linter.unusedVariables false
namespace Ms
open Nat renaming reduceEqDiff → n0, reduceAdd → n1, reduceMul → n2, reduceSub → n3, reduceLT → n4, reduceLeDiff → n5
open Int renaming reduceEq → i0, reduceLT → i1, reduceLE → i2, reduceNeg → i3, reduceAdd → i4, reduceSub → i5, reduceMul → i6, reduceToNat → i7
set_option maxRecDepth 8000
open Go Go.Proofs Go.Shelf
attribute [local congr] W_congr WPsq_congr WPp_congr optK_congr addrK_congr intK_congr boolK_congr sliceK_congr tupleK_congr funcK_congr Fn_congr rawK_congr takeK_congr stepK_congr convK_congr aggK_congr

set_option maxHeartbeats 4000000 in
theorem appCreateACLsRequest_1 {d B : Nat} {okM : Blocks} {ver : Int} (hlo : 1 ≤ ver) (hhi : ver ≤ 1) (t : Tree) (cells : List Value) (v : Value) (s : List UInt8) (w : World) {vb : Nat} (ho : OwnBy 5 B w v s) (hB : B ≤ w.heap.size) (hvb : blk w vb = some ((.int .i16 ver :: cells).toArray, 87, (0, 0)))
    (hR : RepS true (d + 2) fs_CreateACLsRequest okM w t cells) (hfit : FitP ver (d + 2) fs_CreateACLsRequest t) (hd : ∀ b, b < w.heap.size → okM b → ¬ ownB v b) (hdv : ¬ ownB v vb) (hlen : s.length + (partS (d + 2) fs_CreateACLsRequest ver false t).length ≤ 2 ^ 41) :
    Fn Try.prog 77 #[.pointer (some ⟨vb, 0, none⟩), v] w fun r w' => AppR 5 B w v s (partS (d + 2) fs_CreateACLsRequest ver false t) r w' := by
  obtain ⟨⟨g_0, -⟩, hfu⟩ := hfit
  replace g_0 : FitF (FitP ver (d + 1)) ver fCreateACLsRequest_0 (t.at 0) := g_0
  obtain ⟨cs, q, hcs, hL, hT⟩ := hR.inv
  obtain ⟨c_0, e_0, rfl, h_0, rfl⟩ := hL
  replace h_0 : RepF (RepS true (d + 1)) (szS true (d + 1)) fCreateACLsRequest_0 okM w (t.at 0) c_0 := h_0
  have hn_0 := g_0.notnull (by decide)
  obtain ⟨p_0, rfl, hs_0, -⟩ := (RepF_list rfl hn_0).1 h_0
  obtain ⟨ab_0, ac_0, rfl, _⟩ := SlR.shape hs_0
  have hll_0 := (g_0.list rfl).1
  obtain ⟨qm, rfl⟩ := hT.shape
  have hv : blk w vb = some (#[.int .i16 ver, .slice ab_0 (t.at 0).l.length ac_0, .map qm], 87, (0, 0)) := by rw [hvb, hcs]; rfl
  clear hvb hcs
  have hh_0 : hasS fCreateACLsRequest_0 ver = true := hasS_t (by show (0 : Int) ≤ ver; omega) (by show (-1 : Int) < 0 ∨ ver ≤ (-1 : Int); omega)
  obtain ⟨XL_0, hXL_0⟩ : ∃ X, X = fixedS (t.at 0).l.length 4 := ⟨_, rfl⟩
  obtain ⟨XE_0, hXE_0⟩ : ∃ X, X = (t.at 0).l.flatMap (fun x => partS (d + 1) fs_CreateACLsRequestCreation ver false x) := ⟨_, rfl⟩
  have hP : partS (d + 2) fs_CreateACLsRequest ver false t = (XL_0 ++ XE_0) ++ [] := partS_no (plainL_has (by decide) hh_0 ((fieldS_list_f (g := (fun x => partS (d + 1) fs_CreateACLsRequestCreation ver false x)) g_0 rfl (by decide) (fun x _ => valueS_part)).trans (by rw [hXL_0, hXE_0])) rfl)
  rw [hP] at hlen
  simp only [List.length_append, List.length_nil] at hlen
  have hdK : ∀ {r : Value} {w' : World} {add : List UInt8}, AppR 5 B w v s add r w' → ∀ b, b < w'.heap.size → OkS okM w.heap.size b → ¬ ownB r b := fun h b _ hk ho => (h.frame b ho).elim (hd b hk.2 hk.1) (fun h => by have := hk.2; omega)
  have ownK : ∀ {r : Value} {w' : World} {add : List UInt8} {b : Nat}, AppR 5 B w v s add r w' → b < w.heap.size → ¬ ownB v b → ¬ ownB r b := fun h hb hn ho => (h.frame _ ho).elim hn (fun h => by omega)
  have ha0 : AppR 5 B w v s [] v w := AppR.refl ho
  obtain ⟨w0, hw0⟩ : ∃ w0, w0 = w := ⟨_, rfl⟩
  have hB0 := hB
  have hv_0 := hv
  refine fn_of_W Try.func77 rfl Try.results77 Try.ntmps77 rfl ?_
  repeat ((first | refine W.seqR rfl ?_ | refine W.seq ?_ | refine W.regR rfl ?_ | refine W.condK ?_ | refine W.block ?_ | refine W.skip ?_ | refine W.ret ?_ | refine W.exit ?_); try simp (maxSteps := 1000000) (disch := (first | omega | (simp only [World.size_alloc, size_wr, size_drew] <;> omega) | exact not_noB _)) only [go_sem, ↓reduceIte, n0, reduceCtorEq, n1, n2, n3, n4, n5, i0, i1, i2, i3, i4, i5, i6, i7, hv_0])
  refine (AppendArrayLen_fn _ _ _ ha0.own hB0 (t.at 0).l.length hll_0 (by simp only [List.length_append, List.length_nil]; omega)).mono ?_
  rintro r1 w1 hc1
  rw [← hXL_0] at hc1
  have ha1 := ha0.trans hc1
  have hB1 : B ≤ w1.heap.size := Nat.le_trans hB ha1.upd.size
  have hv_1 := ha1.upd.blk_some hv hdv
  repeat ((first | refine W.seqR rfl ?_ | refine W.seq ?_ | refine W.regR rfl ?_ | refine W.condK ?_ | refine W.block ?_ | refine W.skip ?_ | refine W.ret ?_ | refine W.exit ?_); try simp (maxSteps := 1000000) (disch := (first | omega | (simp only [World.size_alloc, size_wr, size_drew] <;> omega) | exact not_noB _)) only [go_sem, ↓reduceIte, n0, reduceCtorEq, n1, n2, n3, n4, n5, i0, i1, i2, i3, i4, i5, i6, i7, hv_1])
  have hadd1 := ha1
  refine W.exitJ 0 (fun ρ w' => ∃ r, ρ 1 = r ∧ ρ 0 = .pointer (some ⟨vb, 0, none⟩) ∧ ρ 5 = .int .i16 ver ∧ ρ 6 = .bool false ∧ AppR 5 B w v s (([] ++ XL_0) ++ XE_0) r w')
    (W.loop (fun ρ w' => ∃ (j : Nat) (r : Value), j ≤ (t.at 0).l.length ∧ ρ 44 = .int .i64 j ∧ ρ 43 = .int .i64 (t.at 0).l.length ∧ ρ 7 = .slice ab_0 (t.at 0).l.length ac_0 ∧ ρ 1 = r ∧ ρ 0 = .pointer (some ⟨vb, 0, none⟩) ∧ ρ 5 = .int .i16 ver ∧ ρ 6 = .bool false ∧ AppR 5 B w v s (([] ++ XL_0) ++ ((t.at 0).l.take j).flatMap (fun x => partS (d + 1) fs_CreateACLsRequestCreation ver false x)) r w')
      (fun ρ _ => (t.at 0).l.length - (RowKit.intOf (ρ 44)).toNat) ?_ ?_) ?_
  · refine ⟨0, _, Nat.zero_le _, ?_, ?_, ?_, ?_, ?_, ?_, ?_, ha1.eqs (by rw [List.take_zero, List.flatMap_nil, List.append_nil])⟩ <;> simp (maxSteps := 1000000) (disch := (first | omega | (simp only [World.size_alloc, size_wr, size_drew] <;> omega) | exact not_noB _)) only [go_sem, ↓reduceIte, n0, reduceCtorEq, n1, n2, n3, n4, n5, i0, i1, i2, i3, i4, i5, i6, i7]
    all_goals rfl
  · rintro ρ w2 ⟨j1, r2, hj1, hI1, hN1, hS1, hr1_1, hr1_0, hr1_5, hr1_6, ha2⟩
    have hB2 : B ≤ w2.heap.size := Nat.le_trans hB ha2.upd.size
    have hv_2 := ha2.upd.blk_some hv hdv
    by_cases hlt1 : j1 < (t.at 0).l.length
    · obtain ⟨_, b1, o1, x1, ce1, hb1, hok1, hx1, hbl1, hxs1, hxe1, hq1, hRe1⟩ := SlR.get (size := 8) (by decide) hs_0 hlt1
      subst hb1
      have hcat1 : (t.at 0).l.take (j1 + 1) = (t.at 0).l.take j1 ++ [(t.at 0).l[j1]] := List.take_succ_eq_append_getElem hlt1
      have htl1 := take_flatMap_len (t.at 0).l (fun x => partS (d + 1) fs_CreateACLsRequestCreation ver false x) (j1 + 1)
      rw [← hXE_0, hcat1, List.flatMap_append, List.flatMap_cons, List.flatMap_nil, List.append_nil] at htl1
      have hge1 := (g_0.list rfl).2 _ (List.getElem_mem hlt1)
      generalize (t.at 0).l[j1] = y1 at *
      have hnx1 := hd b1 hbl1 hok1
      obtain ⟨T1, hTT1⟩ : ∃ T, T = ((t.at 0).l.take j1).flatMap (fun x => partS (d + 1) fs_CreateACLsRequestCreation ver false x) := ⟨_, rfl⟩
      rw [← hTT1] at ha2 htl1
      have hx1_2 := ha2.upd.blk_some hx1 hnx1
      replace hRe1 : RepS true (d + 1) fs_CreateACLsRequestCreation okM w y1 ce1 := Rep1_part.1 hRe1
      have hfe1 : FitP ver (d + 1) fs_CreateACLsRequestCreation y1 := hge1.2.2 rfl
      obtain ⟨⟨ge1_0, ge1_1, ge1_2, ge1_3, ge1_4, ge1_5, ge1_6, -⟩, hfue1⟩ := hfe1
      replace ge1_0 : FitF (FitP ver d) ver fCreateACLsRequestCreation_0 (y1.at 0) := ge1_0
      replace ge1_1 : FitF (FitP ver d) ver fCreateACLsRequestCreation_1 (y1.at 1) := ge1_1
      replace ge1_2 : FitF (FitP ver d) ver fCreateACLsRequestCreation_2 (y1.at 2) := ge1_2
      replace ge1_3 : FitF (FitP ver d) ver fCreateACLsRequestCreation_3 (y1.at 3) := ge1_3
      replace ge1_4 : FitF (FitP ver d) ver fCreateACLsRequestCreation_4 (y1.at 4) := ge1_4
      replace ge1_5 : FitF (FitP ver d) ver fCreateACLsRequestCreation_5 (y1.at 5) := ge1_5
      replace ge1_6 : FitF (FitP ver d) ver fCreateACLsRequestCreation_6 (y1.at 6) := ge1_6
      obtain ⟨cse1, qe1, hcse1, hLe1, hTe1⟩ := hRe1.inv
      obtain ⟨ce1_0, ee1_0, rfl, he1_0, ce1_1, ee1_1, rfl, he1_1, ce1_2, ee1_2, rfl, he1_2, ce1_3, ee1_3, rfl, he1_3, ce1_4, ee1_4, rfl, he1_4, ce1_5, ee1_5, rfl, he1_5, ce1_6, ee1_6, rfl, he1_6, rfl⟩ := hLe1
      replace he1_0 : RepF (RepS true d) (szS true d) fCreateACLsRequestCreation_0 okM w (y1.at 0) ce1_0 := he1_0
      replace he1_1 : RepF (RepS true d) (szS true d) fCreateACLsRequestCreation_1 okM w (y1.at 1) ce1_1 := he1_1
      replace he1_2 : RepF (RepS true d) (szS true d) fCreateACLsRequestCreation_2 okM w (y1.at 2) ce1_2 := he1_2
      replace he1_3 : RepF (RepS true d) (szS true d) fCreateACLsRequestCreation_3 okM w (y1.at 3) ce1_3 := he1_3
      replace he1_4 : RepF (RepS true d) (szS true d) fCreateACLsRequestCreation_4 okM w (y1.at 4) ce1_4 := he1_4
      replace he1_5 : RepF (RepS true d) (szS true d) fCreateACLsRequestCreation_5 okM w (y1.at 5) ce1_5 := he1_5
      replace he1_6 : RepF (RepS true d) (szS true d) fCreateACLsRequestCreation_6 okM w (y1.at 6) ce1_6 := he1_6
      obtain rfl := (RepF_num (by decide)).1 he1_0
      obtain rfl := (RepF_text rfl (by decide)).1 he1_1
      obtain rfl := (RepF_num (by decide)).1 he1_2
      obtain rfl := (RepF_text rfl (by decide)).1 he1_3
      obtain rfl := (RepF_text rfl (by decide)).1 he1_4
      obtain rfl := (RepF_num (by decide)).1 he1_5
      obtain rfl := (RepF_num (by decide)).1 he1_6
      obtain ⟨qme1, rfl⟩ := hTe1.shape
      subst hcse1
      have hq1_0 : x1.1[o1 + j1 * 8]? = some (.int .i8 (IntKind.i8.wrap (y1.at 0).n)) := hq1 0 (by decide)
      have hq1_1 : x1.1[o1 + (j1 * 8 + 1)]? = some (strV (y1.at 1).s) := hq1 1 (by decide)
      have hq1_2 : x1.1[o1 + (j1 * 8 + 2)]? = some (.int .i8 (IntKind.i8.wrap (y1.at 2).n)) := hq1 2 (by decide)
      have hq1_3 : x1.1[o1 + (j1 * 8 + 3)]? = some (strV (y1.at 3).s) := hq1 3 (by decide)
      have hq1_4 : x1.1[o1 + (j1 * 8 + 4)]? = some (strV (y1.at 4).s) := hq1 4 (by decide)
      have hq1_5 : x1.1[o1 + (j1 * 8 + 5)]? = some (.int .i8 (IntKind.i8.wrap (y1.at 5).n)) := hq1 5 (by decide)
      have hq1_6 : x1.1[o1 + (j1 * 8 + 6)]? = some (.int .i8 (IntKind.i8.wrap (y1.at 6).n)) := hq1 6 (by decide)
      have hq1_7 : x1.1[o1 + (j1 * 8 + 7)]? = some (.map qme1) := hq1 7 (by decide)
      have hhe1_0 : hasS fCreateACLsRequestCreation_0 ver = true := hasS_t (by show (0 : Int) ≤ ver; omega) (by show (-1 : Int) < 0 ∨ ver ≤ (-1 : Int); omega)
      obtain ⟨Xe1_0, hXXe1_0⟩ : ∃ X, X = fixedS (y1.at 0).n 1 := ⟨_, rfl⟩
      have hhe1_1 : hasS fCreateACLsRequestCreation_1 ver = true := hasS_t (by show (0 : Int) ≤ ver; omega) (by show (-1 : Int) < 0 ∨ ver ≤ (-1 : Int); omega)
      obtain ⟨Xe1_1, hXXe1_1⟩ : ∃ X, X = fixedS (y1.at 1).s.length 2 ++ (y1.at 1).s := ⟨_, rfl⟩
      have hhe1_2 : hasS fCreateACLsRequestCreation_2 ver = true := hasS_t (by show (1 : Int) ≤ ver; omega) (by show (-1 : Int) < 0 ∨ ver ≤ (-1 : Int); omega)
      obtain ⟨Xe1_2, hXXe1_2⟩ : ∃ X, X = fixedS (y1.at 2).n 1 := ⟨_, rfl⟩
      have hhe1_3 : hasS fCreateACLsRequestCreation_3 ver = true := hasS_t (by show (0 : Int) ≤ ver; omega) (by show (-1 : Int) < 0 ∨ ver ≤ (-1 : Int); omega)
      obtain ⟨Xe1_3, hXXe1_3⟩ : ∃ X, X = fixedS (y1.at 3).s.length 2 ++ (y1.at 3).s := ⟨_, rfl⟩
      have hhe1_4 : hasS fCreateACLsRequestCreation_4 ver = true := hasS_t (by show (0 : Int) ≤ ver; omega) (by show (-1 : Int) < 0 ∨ ver ≤ (-1 : Int); omega)
      obtain ⟨Xe1_4, hXXe1_4⟩ : ∃ X, X = fixedS (y1.at 4).s.length 2 ++ (y1.at 4).s := ⟨_, rfl⟩
      have hhe1_5 : hasS fCreateACLsRequestCreation_5 ver = true := hasS_t (by show (0 : Int) ≤ ver; omega) (by show (-1 : Int) < 0 ∨ ver ≤ (-1 : Int); omega)
      obtain ⟨Xe1_5, hXXe1_5⟩ : ∃ X, X = fixedS (y1.at 5).n 1 := ⟨_, rfl⟩
      have hhe1_6 : hasS fCreateACLsRequestCreation_6 ver = true := hasS_t (by show (0 : Int) ≤ ver; omega) (by show (-1 : Int) < 0 ∨ ver ≤ (-1 : Int); omega)
      obtain ⟨Xe1_6, hXXe1_6⟩ : ∃ X, X = fixedS (y1.at 6).n 1 := ⟨_, rfl⟩
      have hPe1 : partS (d + 1) fs_CreateACLsRequestCreation ver false y1 = Xe1_0 ++ (Xe1_1 ++ (Xe1_2 ++ (Xe1_3 ++ (Xe1_4 ++ (Xe1_5 ++ (Xe1_6 ++ [])))))) := partS_no (plainL_has (by decide) hhe1_0 ((fieldS_num 1 rfl (by decide)).trans hXXe1_0.symm) (plainL_has (by decide) hhe1_1 ((fieldS_text_f ge1_1 rfl (by decide)).trans hXXe1_1.symm) (plainL_has (by decide) hhe1_2 ((fieldS_num 1 rfl (by decide)).trans hXXe1_2.symm) (plainL_has (by decide) hhe1_3 ((fieldS_text_f ge1_3 rfl (by decide)).trans hXXe1_3.symm) (plainL_has (by decide) hhe1_4 ((fieldS_text_f ge1_4 rfl (by decide)).trans hXXe1_4.symm) (plainL_has (by decide) hhe1_5 ((fieldS_num 1 rfl (by decide)).trans hXXe1_5.symm) (plainL_has (by decide) hhe1_6 ((fieldS_num 1 rfl (by decide)).trans hXXe1_6.symm) rfl)))))))
      rw [hPe1] at htl1
      simp only [List.length_append, List.length_nil] at htl1
      repeat ((first | refine W.seqR rfl ?_ | refine W.seq ?_ | refine W.regR rfl ?_ | refine W.condK ?_ | refine W.block ?_ | refine W.skip ?_ | refine W.ret ?_ | refine W.exit ?_); try simp (maxSteps := 1000000) (disch := (first | omega | (simp only [World.size_alloc, size_wr, size_drew] <;> omega) | exact not_noB _)) only [go_sem, ↓reduceIte, n0, reduceCtorEq, n1, n2, n3, n4, n5, i0, i1, i2, i3, i4, i5, i6, i7, hv_2, hx1_2, Int.toNat_natCast, Nat.mul_one, hq1_0, hq1_1, hq1_2, hq1_3, hq1_4, hq1_5, hq1_6, hq1_7, hr1_1, hr1_0, hr1_5, hr1_6, hI1, hN1, hS1])
      refine (AppendInt8_fn _ _ _ ha2.own hB2 _ (by simp only [List.length_append, List.length_nil]; omega)).mono ?_
      rintro r3 w3 hc3
      rw [wrap8, ← hXXe1_0] at hc3
      have ha3 := ha2.trans hc3
      have hB3 : B ≤ w3.heap.size := Nat.le_trans hB ha3.upd.size
      have hv_3 := ha3.upd.blk_some hv hdv
      have hx1_3 := ha3.upd.blk_some hx1 hnx1
      repeat ((first | refine W.seqR rfl ?_ | refine W.seq ?_ | refine W.regR rfl ?_ | refine W.condK ?_ | refine W.block ?_ | refine W.skip ?_ | refine W.ret ?_ | refine W.exit ?_); try simp (maxSteps := 1000000) (disch := (first | omega | (simp only [World.size_alloc, size_wr, size_drew] <;> omega) | exact not_noB _)) only [go_sem, ↓reduceIte, n0, reduceCtorEq, n1, n2, n3, n4, n5, i0, i1, i2, i3, i4, i5, i6, i7, hv_3, hx1_3, Int.toNat_natCast, Nat.mul_one, hq1_0, hq1_1, hq1_2, hq1_3, hq1_4, hq1_5, hq1_6, hq1_7, hr1_1, hr1_0, hr1_5, hr1_6, hI1, hN1, hS1])
      refine (AppendString_fn _ _ _ ha3.own hB3 (y1.at 1).s (ge1_1.text (.inl rfl)) (by simp only [List.length_append, List.length_nil]; omega)).mono ?_
      rintro r4 w4 hc4
      rw [← hXXe1_1] at hc4
      have ha4 := ha3.trans hc4
      have hB4 : B ≤ w4.heap.size := Nat.le_trans hB ha4.upd.size
      have hv_4 := ha4.upd.blk_some hv hdv
      have hx1_4 := ha4.upd.blk_some hx1 hnx1
      repeat ((first | refine W.seqR rfl ?_ | refine W.seq ?_ | refine W.regR rfl ?_ | refine W.condK ?_ | refine W.block ?_ | refine W.skip ?_ | refine W.ret ?_ | refine W.exit ?_); try simp (maxSteps := 1000000) (disch := (first | omega | (simp only [World.size_alloc, size_wr, size_drew] <;> omega) | exact not_noB _)) only [go_sem, ↓reduceIte, n0, reduceCtorEq, n1, n2, n3, n4, n5, i0, i1, i2, i3, i4, i5, i6, i7, hv_4, hx1_4, Int.toNat_natCast, Nat.mul_one, hq1_0, hq1_1, hq1_2, hq1_3, hq1_4, hq1_5, hq1_6, hq1_7, hr1_1, hr1_0, hr1_5, hr1_6, hI1, hN1, hS1])
      refine (AppendInt8_fn _ _ _ ha4.own hB4 _ (by simp only [List.length_append, List.length_nil]; omega)).mono ?_
      rintro r5 w5 hc5
      rw [wrap8, ← hXXe1_2] at hc5
      have ha5 := ha4.trans hc5
      have hB5 : B ≤ w5.heap.size := Nat.le_trans hB ha5.upd.size
      have hv_5 := ha5.upd.blk_some hv hdv
      have hx1_5 := ha5.upd.blk_some hx1 hnx1
      repeat ((first | refine W.seqR rfl ?_ | refine W.seq ?_ | refine W.regR rfl ?_ | refine W.condK ?_ | refine W.block ?_ | refine W.skip ?_ | refine W.ret ?_ | refine W.exit ?_); try simp (maxSteps := 1000000) (disch := (first | omega | (simp only [World.size_alloc, size_wr, size_drew] <;> omega) | exact not_noB _)) only [go_sem, ↓reduceIte, n0, reduceCtorEq, n1, n2, n3, n4, n5, i0, i1, i2, i3, i4, i5, i6, i7, hv_5, hx1_5, Int.toNat_natCast, Nat.mul_one, hq1_0, hq1_1, hq1_2, hq1_3, hq1_4, hq1_5, hq1_6, hq1_7, hr1_1, hr1_0, hr1_5, hr1_6, hI1, hN1, hS1])
      refine (AppendString_fn _ _ _ ha5.own hB5 (y1.at 3).s (ge1_3.text (.inl rfl)) (by simp only [List.length_append, List.length_nil]; omega)).mono ?_
      rintro r6 w6 hc6
      rw [← hXXe1_3] at hc6
      have ha6 := ha5.trans hc6
      have hB6 : B ≤ w6.heap.size := Nat.le_trans hB ha6.upd.size
      have hv_6 := ha6.upd.blk_some hv hdv
      have hx1_6 := ha6.upd.blk_some hx1 hnx1
      repeat ((first | refine W.seqR rfl ?_ | refine W.seq ?_ | refine W.regR rfl ?_ | refine W.condK ?_ | refine W.block ?_ | refine W.skip ?_ | refine W.ret ?_ | refine W.exit ?_); try simp (maxSteps := 1000000) (disch := (first | omega | (simp only [World.size_alloc, size_wr, size_drew] <;> omega) | exact not_noB _)) only [go_sem, ↓reduceIte, n0, reduceCtorEq, n1, n2, n3, n4, n5, i0, i1, i2, i3, i4, i5, i6, i7, hv_6, hx1_6, Int.toNat_natCast, Nat.mul_one, hq1_0, hq1_1, hq1_2, hq1_3, hq1_4, hq1_5, hq1_6, hq1_7, hr1_1, hr1_0, hr1_5, hr1_6, hI1, hN1, hS1])
      refine (AppendString_fn _ _ _ ha6.own hB6 (y1.at 4).s (ge1_4.text (.inl rfl)) (by simp only [List.length_append, List.length_nil]; omega)).mono ?_
      rintro r7 w7 hc7
      rw [← hXXe1_4] at hc7
      have ha7 := ha6.trans hc7
      have hB7 : B ≤ w7.heap.size := Nat.le_trans hB ha7.upd.size
      have hv_7 := ha7.upd.blk_some hv hdv
      have hx1_7 := ha7.upd.blk_some hx1 hnx1
      repeat ((first | refine W.seqR rfl ?_ | refine W.seq ?_ | refine W.regR rfl ?_ | refine W.condK ?_ | refine W.block ?_ | refine W.skip ?_ | refine W.ret ?_ | refine W.exit ?_); try simp (maxSteps := 1000000) (disch := (first | omega | (simp only [World.size_alloc, size_wr, size_drew] <;> omega) | exact not_noB _)) only [go_sem, ↓reduceIte, n0, reduceCtorEq, n1, n2, n3, n4, n5, i0, i1, i2, i3, i4, i5, i6, i7, hv_7, hx1_7, Int.toNat_natCast, Nat.mul_one, hq1_0, hq1_1, hq1_2, hq1_3, hq1_4, hq1_5, hq1_6, hq1_7, hr1_1, hr1_0, hr1_5, hr1_6, hI1, hN1, hS1])
      refine (AppendInt8_fn _ _ _ ha7.own hB7 _ (by simp only [List.length_append, List.length_nil]; omega)).mono ?_
      rintro r8 w8 hc8
      rw [wrap8, ← hXXe1_5] at hc8
      have ha8 := ha7.trans hc8
      have hB8 : B ≤ w8.heap.size := Nat.le_trans hB ha8.upd.size
      have hv_8 := ha8.upd.blk_some hv hdv
      have hx1_8 := ha8.upd.blk_some hx1 hnx1
      repeat ((first | refine W.seqR rfl ?_ | refine W.seq ?_ | refine W.regR rfl ?_ | refine W.condK ?_ | refine W.block ?_ | refine W.skip ?_ | refine W.ret ?_ | refine W.exit ?_); try simp (maxSteps := 1000000) (disch := (first | omega | (simp only [World.size_alloc, size_wr, size_drew] <;> omega) | exact not_noB _)) only [go_sem, ↓reduceIte, n0, reduceCtorEq, n1, n2, n3, n4, n5, i0, i1, i2, i3, i4, i5, i6, i7, hv_8, hx1_8, Int.toNat_natCast, Nat.mul_one, hq1_0, hq1_1, hq1_2, hq1_3, hq1_4, hq1_5, hq1_6, hq1_7, hr1_1, hr1_0, hr1_5, hr1_6, hI1, hN1, hS1])
      refine (AppendInt8_fn _ _ _ ha8.own hB8 _ (by simp only [List.length_append, List.length_nil]; omega)).mono ?_
      rintro r9 w9 hc9
      rw [wrap8, ← hXXe1_6] at hc9
      have ha9 := ha8.trans hc9
      have hB9 : B ≤ w9.heap.size := Nat.le_trans hB ha9.upd.size
      have hv_9 := ha9.upd.blk_some hv hdv
      have hx1_9 := ha9.upd.blk_some hx1 hnx1
      repeat ((first | refine W.seqR rfl ?_ | refine W.seq ?_ | refine W.regR rfl ?_ | refine W.condK ?_ | refine W.block ?_ | refine W.skip ?_ | refine W.ret ?_ | refine W.exit ?_); try simp (maxSteps := 1000000) (disch := (first | omega | (simp only [World.size_alloc, size_wr, size_drew] <;> omega) | exact not_noB _)) only [go_sem, ↓reduceIte, n0, reduceCtorEq, n1, n2, n3, n4, n5, i0, i1, i2, i3, i4, i5, i6, i7, hr1_1, hr1_0, hr1_5, hr1_6, hI1, hN1, hS1])
      refine ⟨⟨j1 + 1, _, by omega, rfl, rfl, ha9.eqs ?_⟩, ?_⟩
      · rw [hcat1, List.flatMap_append, List.flatMap_cons, List.flatMap_nil, List.append_nil, ← hTT1, hPe1]; simp only [List.append_assoc, List.append_nil, List.nil_append]
      · simp only [RowKit.intOf]; omega
    · have hjl1 : j1 = (t.at 0).l.length := by omega
      subst hjl1
      rw [List.take_length, ← hXE_0] at ha2
      repeat ((first | refine W.seqR rfl ?_ | refine W.seq ?_ | refine W.regR rfl ?_ | refine W.condK ?_ | refine W.block ?_ | refine W.skip ?_ | refine W.ret ?_ | refine W.exit ?_); try simp (maxSteps := 1000000) (disch := (first | omega | (simp only [World.size_alloc, size_wr, size_drew] <;> omega) | exact not_noB _)) only [go_sem, ↓reduceIte, n0, reduceCtorEq, n1, n2, n3, n4, n5, i0, i1, i2, i3, i4, i5, i6, i7, hI1, hN1])
      exact ⟨_, hr1_1, hr1_0, hr1_5, hr1_6, ha2⟩
  · rintro ρ w10 ⟨r10, hr1_2, hr2_0, hr2_5, hr2_6, ha10⟩
    have hB10 : B ≤ w10.heap.size := Nat.le_trans hB ha10.upd.size
    have hv_10 := ha10.upd.blk_some hv hdv
    repeat ((first | refine W.seqR rfl ?_ | refine W.seq ?_ | refine W.regR rfl ?_ | refine W.condK ?_ | refine W.block ?_ | refine W.skip ?_ | refine W.ret ?_ | refine W.exit ?_); try simp (maxSteps := 1000000) (disch := (first | omega | (simp only [World.size_alloc, size_wr, size_drew] <;> omega) | exact not_noB _)) only [go_sem, ↓reduceIte, n0, reduceCtorEq, n1, n2, n3, n4, n5, i0, i1, i2, i3, i4, i5, i6, i7, hv_10, hr1_2, hr2_0, hr2_5, hr2_6])
    refine ha10.eqs ?_
    rw [hP]; simp only [List.append_assoc, List.append_nil, List.nil_append]
end Ms

namespace Ms
open Nat renaming reduceEqDiff → n0, reduceAdd → n1, reduceMul → n2, reduceSub → n3, reduceLT → n4, reduceLeDiff → n5
open Int renaming reduceEq → i0, reduceLT → i1, reduceLE → i2, reduceNeg → i3, reduceAdd → i4, reduceSub → i5, reduceMul → i6, reduceToNat → i7
set_option maxRecDepth 8000
open Go Go.Proofs Go.Shelf
attribute [local congr] W_congr WPsq_congr WPp_congr optK_congr addrK_congr intK_congr boolK_congr sliceK_congr tupleK_congr funcK_congr Fn_congr rawK_congr takeK_congr stepK_congr convK_congr aggK_congr

set_option maxHeartbeats 4000000 in
theorem appCreateACLsRequest_2 {d B : Nat} {okM : Blocks} {ver : Int} (hlo : 2 ≤ ver) (hhi : ver ≤ 3) (t : Tree) (cells : List Value) (v : Value) (s : List UInt8) (w : World) {vb : Nat} (ho : OwnBy 5 B w v s) (hB : B ≤ w.heap.size) (hvb : blk w vb = some ((.int .i16 ver :: cells).toArray, 87, (0, 0)))
    (hR : RepS true (d + 2) fs_CreateACLsRequest okM w t cells) (hfit : FitP ver (d + 2) fs_CreateACLsRequest t) (hd : ∀ b, b < w.heap.size → okM b → ¬ ownB v b) (hdv : ¬ ownB v vb) (hlen : s.length + (partS (d + 2) fs_CreateACLsRequest ver true t).length ≤ 2 ^ 41) :
    Fn Try.prog 77 #[.pointer (some ⟨vb, 0, none⟩), v] w fun r w' => AppR 5 B w v s (partS (d + 2) fs_CreateACLsRequest ver true t) r w' := by
  obtain ⟨⟨g_0, -⟩, hfu⟩ := hfit
  replace g_0 : FitF (FitP ver (d + 1)) ver fCreateACLsRequest_0 (t.at 0) := g_0
  obtain ⟨cs, q, hcs, hL, hT⟩ := hR.inv
  obtain ⟨c_0, e_0, rfl, h_0, rfl⟩ := hL
  replace h_0 : RepF (RepS true (d + 1)) (szS true (d + 1)) fCreateACLsRequest_0 okM w (t.at 0) c_0 := h_0
  have hn_0 := g_0.notnull (by decide)
  obtain ⟨p_0, rfl, hs_0, -⟩ := (RepF_list rfl hn_0).1 h_0
  obtain ⟨ab_0, ac_0, rfl, _⟩ := SlR.shape hs_0
  have hll_0 := (g_0.list rfl).1
  obtain ⟨qm, rfl⟩ := hT.shape
  have hv : blk w vb = some (#[.int .i16 ver, .slice ab_0 (t.at 0).l.length ac_0, .map qm], 87, (0, 0)) := by rw [hvb, hcs]; rfl
  clear hvb hcs
  have hh_0 : hasS fCreateACLsRequest_0 ver = true := hasS_t (by show (0 : Int) ≤ ver; omega) (by show (-1 : Int) < 0 ∨ ver ≤ (-1 : Int); omega)
  obtain ⟨XL_0, hXL_0⟩ : ∃ X, X = uvarS ((t.at 0).l.length + 1) := ⟨_, rfl⟩
  obtain ⟨XE_0, hXE_0⟩ : ∃ X, X = (t.at 0).l.flatMap (fun x => partS (d + 1) fs_CreateACLsRequestCreation ver true x) := ⟨_, rfl⟩
  obtain ⟨XU, hXU⟩ : ∃ X, X = uvarS t.u.length := ⟨_, rfl⟩
  obtain ⟨XT, hXT⟩ : ∃ X, X = t.u.flatMap oneTag := ⟨_, rfl⟩
  have hP : partS (d + 2) fs_CreateACLsRequest ver true t = ((XL_0 ++ XE_0) ++ []) ++ (XU ++ XT) := by rw [hXU, hXT]; exact partS_yes rfl hfu (plainL_has (by decide) hh_0 ((fieldS_list_t (g := (fun x => partS (d + 1) fs_CreateACLsRequestCreation ver true x)) g_0 rfl (by decide) (fun x _ => valueS_part)).trans (by rw [hXL_0, hXE_0])) rfl)
  rw [hP] at hlen
  simp only [List.length_append, List.length_nil] at hlen
  have hdK : ∀ {r : Value} {w' : World} {add : List UInt8}, AppR 5 B w v s add r w' → ∀ b, b < w'.heap.size → OkS okM w.heap.size b → ¬ ownB r b := fun h b _ hk ho => (h.frame b ho).elim (hd b hk.2 hk.1) (fun h => by have := hk.2; omega)
  have ownK : ∀ {r : Value} {w' : World} {add : List UInt8} {b : Nat}, AppR 5 B w v s add r w' → b < w.heap.size → ¬ ownB v b → ¬ ownB r b := fun h hb hn ho => (h.frame _ ho).elim hn (fun h => by omega)
  have ha0 : AppR 5 B w v s [] v w := AppR.refl ho
  obtain ⟨w0, hw0⟩ : ∃ w0, w0 = w := ⟨_, rfl⟩
  have hB0 := hB
  have hv_0 := hv
  refine fn_of_W Try.func77 rfl Try.results77 Try.ntmps77 rfl ?_
  repeat ((first | refine W.seqR rfl ?_ | refine W.seq ?_ | refine W.regR rfl ?_ | refine W.condK ?_ | refine W.block ?_ | refine W.skip ?_ | refine W.ret ?_ | refine W.exit ?_); try simp (maxSteps := 1000000) (disch := (first | omega | (simp only [World.size_alloc, size_wr, size_drew] <;> omega) | exact not_noB _)) only [go_sem, ↓reduceIte, n0, reduceCtorEq, n1, n2, n3, n4, n5, i0, i1, i2, i3, i4, i5, i6, i7, hv_0])
  refine (AppendCompactArrayLen_fn _ _ _ ha0.own hB0 (t.at 0).l.length hll_0 (by simp only [List.length_append, List.length_nil]; omega)).mono ?_
  rintro r1 w1 hc1
  rw [← hXL_0] at hc1
  have ha1 := ha0.trans hc1
  have hB1 : B ≤ w1.heap.size := Nat.le_trans hB ha1.upd.size
  have hv_1 := ha1.upd.blk_some hv hdv
  repeat ((first | refine W.seqR rfl ?_ | refine W.seq ?_ | refine W.regR rfl ?_ | refine W.condK ?_ | refine W.block ?_ | refine W.skip ?_ | refine W.ret ?_ | refine W.exit ?_); try simp (maxSteps := 1000000) (disch := (first | omega | (simp only [World.size_alloc, size_wr, size_drew] <;> omega) | exact not_noB _)) only [go_sem, ↓reduceIte, n0, reduceCtorEq, n1, n2, n3, n4, n5, i0, i1, i2, i3, i4, i5, i6, i7, hv_1])
  have hadd1 := ha1
  refine W.exitJ 0 (fun ρ w' => ∃ r, ρ 1 = r ∧ ρ 0 = .pointer (some ⟨vb, 0, none⟩) ∧ ρ 5 = .int .i16 ver ∧ ρ 6 = .bool true ∧ AppR 5 B w v s (([] ++ XL_0) ++ XE_0) r w')
    (W.loop (fun ρ w' => ∃ (j : Nat) (r : Value), j ≤ (t.at 0).l.length ∧ ρ 44 = .int .i64 j ∧ ρ 43 = .int .i64 (t.at 0).l.length ∧ ρ 7 = .slice ab_0 (t.at 0).l.length ac_0 ∧ ρ 1 = r ∧ ρ 0 = .pointer (some ⟨vb, 0, none⟩) ∧ ρ 5 = .int .i16 ver ∧ ρ 6 = .bool true ∧ AppR 5 B w v s (([] ++ XL_0) ++ ((t.at 0).l.take j).flatMap (fun x => partS (d + 1) fs_CreateACLsRequestCreation ver true x)) r w')
      (fun ρ _ => (t.at 0).l.length - (RowKit.intOf (ρ 44)).toNat) ?_ ?_) ?_
  · refine ⟨0, _, Nat.zero_le _, ?_, ?_, ?_, ?_, ?_, ?_, ?_, ha1.eqs (by rw [List.take_zero, List.flatMap_nil, List.append_nil])⟩ <;> simp (maxSteps := 1000000) (disch := (first | omega | (simp only [World.size_alloc, size_wr, size_drew] <;> omega) | exact not_noB _)) only [go_sem, ↓reduceIte, n0, reduceCtorEq, n1, n2, n3, n4, n5, i0, i1, i2, i3, i4, i5, i6, i7]
    all_goals rfl
  · rintro ρ w2 ⟨j1, r2, hj1, hI1, hN1, hS1, hr1_1, hr1_0, hr1_5, hr1_6, ha2⟩
    have hB2 : B ≤ w2.heap.size := Nat.le_trans hB ha2.upd.size
    have hv_2 := ha2.upd.blk_some hv hdv
    by_cases hlt1 : j1 < (t.at 0).l.length
    · obtain ⟨_, b1, o1, x1, ce1, hb1, hok1, hx1, hbl1, hxs1, hxe1, hq1, hRe1⟩ := SlR.get (size := 8) (by decide) hs_0 hlt1
      subst hb1
      have hcat1 : (t.at 0).l.take (j1 + 1) = (t.at 0).l.take j1 ++ [(t.at 0).l[j1]] := List.take_succ_eq_append_getElem hlt1
      have htl1 := take_flatMap_len (t.at 0).l (fun x => partS (d + 1) fs_CreateACLsRequestCreation ver true x) (j1 + 1)
      rw [← hXE_0, hcat1, List.flatMap_append, List.flatMap_cons, List.flatMap_nil, List.append_nil] at htl1
      have hge1 := (g_0.list rfl).2 _ (List.getElem_mem hlt1)
      generalize (t.at 0).l[j1] = y1 at *
      have hnx1 := hd b1 hbl1 hok1
      obtain ⟨T1, hTT1⟩ : ∃ T, T = ((t.at 0).l.take j1).flatMap (fun x => partS (d + 1) fs_CreateACLsRequestCreation ver true x) := ⟨_, rfl⟩
      rw [← hTT1] at ha2 htl1
      have hx1_2 := ha2.upd.blk_some hx1 hnx1
      replace hRe1 : RepS true (d + 1) fs_CreateACLsRequestCreation okM w y1 ce1 := Rep1_part.1 hRe1
      have hfe1 : FitP ver (d + 1) fs_CreateACLsRequestCreation y1 := hge1.2.2 rfl
      obtain ⟨⟨ge1_0, ge1_1, ge1_2, ge1_3, ge1_4, ge1_5, ge1_6, -⟩, hfue1⟩ := hfe1
      replace ge1_0 : FitF (FitP ver d) ver fCreateACLsRequestCreation_0 (y1.at 0) := ge1_0
      replace ge1_1 : FitF (FitP ver d) ver fCreateACLsRequestCreation_1 (y1.at 1) := ge1_1
      replace ge1_2 : FitF (FitP ver d) ver fCreateACLsRequestCreation_2 (y1.at 2) := ge1_2
      replace ge1_3 : FitF (FitP ver d) ver fCreateACLsRequestCreation_3 (y1.at 3) := ge1_3
      replace ge1_4 : FitF (FitP ver d) ver fCreateACLsRequestCreation_4 (y1.at 4) := ge1_4
      replace ge1_5 : FitF (FitP ver d) ver fCreateACLsRequestCreation_5 (y1.at 5) := ge1_5
      replace ge1_6 : FitF (FitP ver d) ver fCreateACLsRequestCreation_6 (y1.at 6) := ge1_6
      obtain ⟨cse1, qe1, hcse1, hLe1, hTe1⟩ := hRe1.inv
      obtain ⟨ce1_0, ee1_0, rfl, he1_0, ce1_1, ee1_1, rfl, he1_1, ce1_2, ee1_2, rfl, he1_2, ce1_3, ee1_3, rfl, he1_3, ce1_4, ee1_4, rfl, he1_4, ce1_5, ee1_5, rfl, he1_5, ce1_6, ee1_6, rfl, he1_6, rfl⟩ := hLe1
      replace he1_0 : RepF (RepS true d) (szS true d) fCreateACLsRequestCreation_0 okM w (y1.at 0) ce1_0 := he1_0
      replace he1_1 : RepF (RepS true d) (szS true d) fCreateACLsRequestCreation_1 okM w (y1.at 1) ce1_1 := he1_1
      replace he1_2 : RepF (RepS true d) (szS true d) fCreateACLsRequestCreation_2 okM w (y1.at 2) ce1_2 := he1_2
      replace he1_3 : RepF (RepS true d) (szS true d) fCreateACLsRequestCreation_3 okM w (y1.at 3) ce1_3 := he1_3
      replace he1_4 : RepF (RepS true d) (szS true d) fCreateACLsRequestCreation_4 okM w (y1.at 4) ce1_4 := he1_4
      replace he1_5 : RepF (RepS true d) (szS true d) fCreateACLsRequestCreation_5 okM w (y1.at 5) ce1_5 := he1_5
      replace he1_6 : RepF (RepS true d) (szS true d) fCreateACLsRequestCreation_6 okM w (y1.at 6) ce1_6 := he1_6
      obtain rfl := (RepF_num (by decide)).1 he1_0
      obtain rfl := (RepF_text rfl (by decide)).1 he1_1
      obtain rfl := (RepF_num (by decide)).1 he1_2
      obtain rfl := (RepF_text rfl (by decide)).1 he1_3
      obtain rfl := (RepF_text rfl (by decide)).1 he1_4
      obtain rfl := (RepF_num (by decide)).1 he1_5
      obtain rfl := (RepF_num (by decide)).1 he1_6
      obtain ⟨qme1, rfl⟩ := hTe1.shape
      subst hcse1
      have hq1_0 : x1.1[o1 + j1 * 8]? = some (.int .i8 (IntKind.i8.wrap (y1.at 0).n)) := hq1 0 (by decide)
      have hq1_1 : x1.1[o1 + (j1 * 8 + 1)]? = some (strV (y1.at 1).s) := hq1 1 (by decide)
      have hq1_2 : x1.1[o1 + (j1 * 8 + 2)]? = some (.int .i8 (IntKind.i8.wrap (y1.at 2).n)) := hq1 2 (by decide)
      have hq1_3 : x1.1[o1 + (j1 * 8 + 3)]? = some (strV (y1.at 3).s) := hq1 3 (by decide)
      have hq1_4 : x1.1[o1 + (j1 * 8 + 4)]? = some (strV (y1.at 4).s) := hq1 4 (by decide)
      have hq1_5 : x1.1[o1 + (j1 * 8 + 5)]? = some (.int .i8 (IntKind.i8.wrap (y1.at 5).n)) := hq1 5 (by decide)
      have hq1_6 : x1.1[o1 + (j1 * 8 + 6)]? = some (.int .i8 (IntKind.i8.wrap (y1.at 6).n)) := hq1 6 (by decide)
      have hq1_7 : x1.1[o1 + (j1 * 8 + 7)]? = some (.map qme1) := hq1 7 (by decide)
      have hhe1_0 : hasS fCreateACLsRequestCreation_0 ver = true := hasS_t (by show (0 : Int) ≤ ver; omega) (by show (-1 : Int) < 0 ∨ ver ≤ (-1 : Int); omega)
      obtain ⟨Xe1_0, hXXe1_0⟩ : ∃ X, X = fixedS (y1.at 0).n 1 := ⟨_, rfl⟩
      have hhe1_1 : hasS fCreateACLsRequestCreation_1 ver = true := hasS_t (by show (0 : Int) ≤ ver; omega) (by show (-1 : Int) < 0 ∨ ver ≤ (-1 : Int); omega)
      obtain ⟨Xe1_1, hXXe1_1⟩ : ∃ X, X = uvarS ((y1.at 1).s.length + 1) ++ (y1.at 1).s := ⟨_, rfl⟩
      have hhe1_2 : hasS fCreateACLsRequestCreation_2 ver = true := hasS_t (by show (1 : Int) ≤ ver; omega) (by show (-1 : Int) < 0 ∨ ver ≤ (-1 : Int); omega)
      obtain ⟨Xe1_2, hXXe1_2⟩ : ∃ X, X = fixedS (y1.at 2).n 1 := ⟨_, rfl⟩
      have hhe1_3 : hasS fCreateACLsRequestCreation_3 ver = true := hasS_t (by show (0 : Int) ≤ ver; omega) (by show (-1 : Int) < 0 ∨ ver ≤ (-1 : Int); omega)
      obtain ⟨Xe1_3, hXXe1_3⟩ : ∃ X, X = uvarS ((y1.at 3).s.length + 1) ++ (y1.at 3).s := ⟨_, rfl⟩
      have hhe1_4 : hasS fCreateACLsRequestCreation_4 ver = true := hasS_t (by show (0 : Int) ≤ ver; omega) (by show (-1 : Int) < 0 ∨ ver ≤ (-1 : Int); omega)
      obtain ⟨Xe1_4, hXXe1_4⟩ : ∃ X, X = uvarS ((y1.at 4).s.length + 1) ++ (y1.at 4).s := ⟨_, rfl⟩
      have hhe1_5 : hasS fCreateACLsRequestCreation_5 ver = true := hasS_t (by show (0 : Int) ≤ ver; omega) (by show (-1 : Int) < 0 ∨ ver ≤ (-1 : Int); omega)
      obtain ⟨Xe1_5, hXXe1_5⟩ : ∃ X, X = fixedS (y1.at 5).n 1 := ⟨_, rfl⟩
      have hhe1_6 : hasS fCreateACLsRequestCreation_6 ver = true := hasS_t (by show (0 : Int) ≤ ver; omega) (by show (-1 : Int) < 0 ∨ ver ≤ (-1 : Int); omega)
      obtain ⟨Xe1_6, hXXe1_6⟩ : ∃ X, X = fixedS (y1.at 6).n 1 := ⟨_, rfl⟩
      obtain ⟨XUe1, hXUe1⟩ : ∃ X, X = uvarS y1.u.length := ⟨_, rfl⟩
      obtain ⟨XTe1, hXTe1⟩ : ∃ X, X = y1.u.flatMap oneTag := ⟨_, rfl⟩
      have hPe1 : partS (d + 1) fs_CreateACLsRequestCreation ver true y1 = (Xe1_0 ++ (Xe1_1 ++ (Xe1_2 ++ (Xe1_3 ++ (Xe1_4 ++ (Xe1_5 ++ (Xe1_6 ++ []))))))) ++ (XUe1 ++ XTe1) := by rw [hXUe1, hXTe1]; exact partS_yes rfl hfue1 (plainL_has (by decide) hhe1_0 ((fieldS_num 1 rfl (by decide)).trans hXXe1_0.symm) (plainL_has (by decide) hhe1_1 ((fieldS_text_t ge1_1 rfl (by decide)).trans hXXe1_1.symm) (plainL_has (by decide) hhe1_2 ((fieldS_num 1 rfl (by decide)).trans hXXe1_2.symm) (plainL_has (by decide) hhe1_3 ((fieldS_text_t ge1_3 rfl (by decide)).trans hXXe1_3.symm) (plainL_has (by decide) hhe1_4 ((fieldS_text_t ge1_4 rfl (by decide)).trans hXXe1_4.symm) (plainL_has (by decide) hhe1_5 ((fieldS_num 1 rfl (by decide)).trans hXXe1_5.symm) (plainL_has (by decide) hhe1_6 ((fieldS_num 1 rfl (by decide)).trans hXXe1_6.symm) rfl)))))))
      rw [hPe1] at htl1
      simp only [List.length_append, List.length_nil] at htl1
      repeat ((first | refine W.seqR rfl ?_ | refine W.seq ?_ | refine W.regR rfl ?_ | refine W.condK ?_ | refine W.block ?_ | refine W.skip ?_ | refine W.ret ?_ | refine W.exit ?_); try simp (maxSteps := 1000000) (disch := (first | omega | (simp only [World.size_alloc, size_wr, size_drew] <;> omega) | exact not_noB _)) only [go_sem, ↓reduceIte, n0, reduceCtorEq, n1, n2, n3, n4, n5, i0, i1, i2, i3, i4, i5, i6, i7, hv_2, hx1_2, Int.toNat_natCast, Nat.mul_one, hq1_0, hq1_1, hq1_2, hq1_3, hq1_4, hq1_5, hq1_6, hq1_7, hr1_1, hr1_0, hr1_5, hr1_6, hI1, hN1, hS1])
      refine (AppendInt8_fn _ _ _ ha2.own hB2 _ (by simp only [List.length_append, List.length_nil]; omega)).mono ?_
      rintro r3 w3 hc3
      rw [wrap8, ← hXXe1_0] at hc3
      have ha3 := ha2.trans hc3
      have hB3 : B ≤ w3.heap.size := Nat.le_trans hB ha3.upd.size
      have hv_3 := ha3.upd.blk_some hv hdv
      have hx1_3 := ha3.upd.blk_some hx1 hnx1
      repeat ((first | refine W.seqR rfl ?_ | refine W.seq ?_ | refine W.regR rfl ?_ | refine W.condK ?_ | refine W.block ?_ | refine W.skip ?_ | refine W.ret ?_ | refine W.exit ?_); try simp (maxSteps := 1000000) (disch := (first | omega | (simp only [World.size_alloc, size_wr, size_drew] <;> omega) | exact not_noB _)) only [go_sem, ↓reduceIte, n0, reduceCtorEq, n1, n2, n3, n4, n5, i0, i1, i2, i3, i4, i5, i6, i7, hv_3, hx1_3, Int.toNat_natCast, Nat.mul_one, hq1_0, hq1_1, hq1_2, hq1_3, hq1_4, hq1_5, hq1_6, hq1_7, hr1_1, hr1_0, hr1_5, hr1_6, hI1, hN1, hS1])
      refine (AppendCompactString_fn _ _ _ ha3.own hB3 (y1.at 1).s (ge1_1.text (.inl rfl)) (by simp only [List.length_append, List.length_nil]; omega)).mono ?_
      rintro r4 w4 hc4
      rw [← hXXe1_1] at hc4
      have ha4 := ha3.trans hc4
      have hB4 : B ≤ w4.heap.size := Nat.le_trans hB ha4.upd.size
      have hv_4 := ha4.upd.blk_some hv hdv
      have hx1_4 := ha4.upd.blk_some hx1 hnx1
      repeat ((first | refine W.seqR rfl ?_ | refine W.seq ?_ | refine W.regR rfl ?_ | refine W.condK ?_ | refine W.block ?_ | refine W.skip ?_ | refine W.ret ?_ | refine W.exit ?_); try simp (maxSteps := 1000000) (disch := (first | omega | (simp only [World.size_alloc, size_wr, size_drew] <;> omega) | exact not_noB _)) only [go_sem, ↓reduceIte, n0, reduceCtorEq, n1, n2, n3, n4, n5, i0, i1, i2, i3, i4, i5, i6, i7, hv_4, hx1_4, Int.toNat_natCast, Nat.mul_one, hq1_0, hq1_1, hq1_2, hq1_3, hq1_4, hq1_5, hq1_6, hq1_7, hr1_1, hr1_0, hr1_5, hr1_6, hI1, hN1, hS1])
      refine (AppendInt8_fn _ _ _ ha4.own hB4 _ (by simp only [List.length_append, List.length_nil]; omega)).mono ?_
      rintro r5 w5 hc5
      rw [wrap8, ← hXXe1_2] at hc5
      have ha5 := ha4.trans hc5
      have hB5 : B ≤ w5.heap.size := Nat.le_trans hB ha5.upd.size
      have hv_5 := ha5.upd.blk_some hv hdv
      have hx1_5 := ha5.upd.blk_some hx1 hnx1
      repeat ((first | refine W.seqR rfl ?_ | refine W.seq ?_ | refine W.regR rfl ?_ | refine W.condK ?_ | refine W.block ?_ | refine W.skip ?_ | refine W.ret ?_ | refine W.exit ?_); try simp (maxSteps := 1000000) (disch := (first | omega | (simp only [World.size_alloc, size_wr, size_drew] <;> omega) | exact not_noB _)) only [go_sem, ↓reduceIte, n0, reduceCtorEq, n1, n2, n3, n4, n5, i0, i1, i2, i3, i4, i5, i6, i7, hv_5, hx1_5, Int.toNat_natCast, Nat.mul_one, hq1_0, hq1_1, hq1_2, hq1_3, hq1_4, hq1_5, hq1_6, hq1_7, hr1_1, hr1_0, hr1_5, hr1_6, hI1, hN1, hS1])
      refine (AppendCompactString_fn _ _ _ ha5.own hB5 (y1.at 3).s (ge1_3.text (.inl rfl)) (by simp only [List.length_append, List.length_nil]; omega)).mono ?_
      rintro r6 w6 hc6
      rw [← hXXe1_3] at hc6
      have ha6 := ha5.trans hc6
      have hB6 : B ≤ w6.heap.size := Nat.le_trans hB ha6.upd.size
      have hv_6 := ha6.upd.blk_some hv hdv
      have hx1_6 := ha6.upd.blk_some hx1 hnx1
      repeat ((first | refine W.seqR rfl ?_ | refine W.seq ?_ | refine W.regR rfl ?_ | refine W.condK ?_ | refine W.block ?_ | refine W.skip ?_ | refine W.ret ?_ | refine W.exit ?_); try simp (maxSteps := 1000000) (disch := (first | omega | (simp only [World.size_alloc, size_wr, size_drew] <;> omega) | exact not_noB _)) only [go_sem, ↓reduceIte, n0, reduceCtorEq, n1, n2, n3, n4, n5, i0, i1, i2, i3, i4, i5, i6, i7, hv_6, hx1_6, Int.toNat_natCast, Nat.mul_one, hq1_0, hq1_1, hq1_2, hq1_3, hq1_4, hq1_5, hq1_6, hq1_7, hr1_1, hr1_0, hr1_5, hr1_6, hI1, hN1, hS1])
      refine (AppendCompactString_fn _ _ _ ha6.own hB6 (y1.at 4).s (ge1_4.text (.inl rfl)) (by simp only [List.length_append, List.length_nil]; omega)).mono ?_
      rintro r7 w7 hc7
      rw [← hXXe1_4] at hc7
      have ha7 := ha6.trans hc7
      have hB7 : B ≤ w7.heap.size := Nat.le_trans hB ha7.upd.size
      have hv_7 := ha7.upd.blk_some hv hdv
      have hx1_7 := ha7.upd.blk_some hx1 hnx1
      repeat ((first | refine W.seqR rfl ?_ | refine W.seq ?_ | refine W.regR rfl ?_ | refine W.condK ?_ | refine W.block ?_ | refine W.skip ?_ | refine W.ret ?_ | refine W.exit ?_); try simp (maxSteps := 1000000) (disch := (first | omega | (simp only [World.size_alloc, size_wr, size_drew] <;> omega) | exact not_noB _)) only [go_sem, ↓reduceIte, n0, reduceCtorEq, n1, n2, n3, n4, n5, i0, i1, i2, i3, i4, i5, i6, i7, hv_7, hx1_7, Int.toNat_natCast, Nat.mul_one, hq1_0, hq1_1, hq1_2, hq1_3, hq1_4, hq1_5, hq1_6, hq1_7, hr1_1, hr1_0, hr1_5, hr1_6, hI1, hN1, hS1])
      refine (AppendInt8_fn _ _ _ ha7.own hB7 _ (by simp only [List.length_append, List.length_nil]; omega)).mono ?_
      rintro r8 w8 hc8
      rw [wrap8, ← hXXe1_5] at hc8
      have ha8 := ha7.trans hc8
      have hB8 : B ≤ w8.heap.size := Nat.le_trans hB ha8.upd.size
      have hv_8 := ha8.upd.blk_some hv hdv
      have hx1_8 := ha8.upd.blk_some hx1 hnx1
      repeat ((first | refine W.seqR rfl ?_ | refine W.seq ?_ | refine W.regR rfl ?_ | refine W.condK ?_ | refine W.block ?_ | refine W.skip ?_ | refine W.ret ?_ | refine W.exit ?_); try simp (maxSteps := 1000000) (disch := (first | omega | (simp only [World.size_alloc, size_wr, size_drew] <;> omega) | exact not_noB _)) only [go_sem, ↓reduceIte, n0, reduceCtorEq, n1, n2, n3, n4, n5, i0, i1, i2, i3, i4, i5, i6, i7, hv_8, hx1_8, Int.toNat_natCast, Nat.mul_one, hq1_0, hq1_1, hq1_2, hq1_3, hq1_4, hq1_5, hq1_6, hq1_7, hr1_1, hr1_0, hr1_5, hr1_6, hI1, hN1, hS1])
      refine (AppendInt8_fn _ _ _ ha8.own hB8 _ (by simp only [List.length_append, List.length_nil]; omega)).mono ?_
      rintro r9 w9 hc9
      rw [wrap8, ← hXXe1_6] at hc9
      have ha9 := ha8.trans hc9
      have hB9 : B ≤ w9.heap.size := Nat.le_trans hB ha9.upd.size
      have hv_9 := ha9.upd.blk_some hv hdv
      have hx1_9 := ha9.upd.blk_some hx1 hnx1
      repeat ((first | refine W.seqR rfl ?_ | refine W.seq ?_ | refine W.regR rfl ?_ | refine W.condK ?_ | refine W.block ?_ | refine W.skip ?_ | refine W.ret ?_ | refine W.exit ?_); try simp (maxSteps := 1000000) (disch := (first | omega | (simp only [World.size_alloc, size_wr, size_drew] <;> omega) | exact not_noB _)) only [go_sem, ↓reduceIte, n0, reduceCtorEq, n1, n2, n3, n4, n5, i0, i1, i2, i3, i4, i5, i6, i7, hv_9, hx1_9, Int.toNat_natCast, Nat.mul_one, hq1_0, hq1_1, hq1_2, hq1_3, hq1_4, hq1_5, hq1_6, hq1_7, hr1_1, hr1_0, hr1_5, hr1_6, hI1, hN1, hS1])
      have hTk9 : TagsM (OkS okM w.heap.size) w9 (.map qme1) y1.u := (hTe1.weaken fun b h1 h2 => ⟨h2, h1⟩).keep (ha9.upd.keeps fun b hb hk => hd b hb hk.1)
      refine (TagsLen_fn (ok := OkS okM w.heap.size) w9 hx1_9 (to := o1 + (j1 * 8 + 7)) hq1_7 hTk9).mono ?_
      rintro _ w9' ⟨rfl, rfl⟩
      have hul9 : y1.u.length ≤ 32767 := hfue1.1
      have ew9 : IntKind.u32.wrap (y1.u.length : Int) = y1.u.length := u32_wrap (by omega)
      have ez9 : IntKind.u32.wrap (0 + (y1.u.length : Int)) = y1.u.length := by rw [Int.zero_add, u32_wrap (by omega)]
      simp (maxSteps := 1000000) (disch := (first | omega | (simp only [World.size_alloc, size_wr, size_drew] <;> omega) | exact not_noB _)) only [go_sem, ↓reduceIte, n0, reduceCtorEq, n1, n2, n3, n4, n5, i0, i1, i2, i3, i4, i5, i6, i7, hv_9, hx1_9, Int.toNat_natCast, Nat.mul_one, hq1_0, hq1_1, hq1_2, hq1_3, hq1_4, hq1_5, hq1_6, hq1_7, hr1_1, hr1_0, hr1_5, hr1_6, hI1, hN1, hS1, ew9, ez9]
      refine (AppendUvarint_fn _ _ _ ha9.own hB9 y1.u.length (by omega) (by simp only [List.length_append, List.length_nil]; omega)).mono ?_
      rintro r10 w10 hc10
      rw [← hXUe1] at hc10
      have ha10 := ha9.trans hc10
      have hB10 : B ≤ w10.heap.size := Nat.le_trans hB ha10.upd.size
      have hv_10 := ha10.upd.blk_some hv hdv
      have hx1_10 := ha10.upd.blk_some hx1 hnx1
      repeat ((first | refine W.seqR rfl ?_ | refine W.seq ?_ | refine W.regR rfl ?_ | refine W.condK ?_ | refine W.block ?_ | refine W.skip ?_ | refine W.ret ?_ | refine W.exit ?_); try simp (maxSteps := 1000000) (disch := (first | omega | (simp only [World.size_alloc, size_wr, size_drew] <;> omega) | exact not_noB _)) only [go_sem, ↓reduceIte, n0, reduceCtorEq, n1, n2, n3, n4, n5, i0, i1, i2, i3, i4, i5, i6, i7, hv_10, hx1_10, Int.toNat_natCast, Nat.mul_one, hq1_0, hq1_1, hq1_2, hq1_3, hq1_4, hq1_5, hq1_6, hq1_7, hr1_1, hr1_0, hr1_5, hr1_6, hI1, hN1, hS1])
      have hTk10 : TagsM (OkS okM w.heap.size) w10 (.map qme1) y1.u := (hTe1.weaken fun b h1 h2 => ⟨h2, h1⟩).keep (ha10.upd.keeps fun b hb hk => hd b hb hk.1)
      refine (AppendEach_fn (ok := OkS okM w.heap.size) _ _ _ ha10.own hB10 hx1_10 (to := o1 + (j1 * 8 + 7)) hq1_7 hTk10 (rising_keys hfue1) hfue1.1 (tags_small hfue1 hTk10) (hdK ha10) (ownK ha10 (blk_lt hx1) hnx1) (by simp only [List.length_append, List.length_nil]; omega)).mono ?_
      rintro r11 w11 hc11
      rw [← hXTe1] at hc11
      have ha11 := ha10.trans hc11
      have hB11 : B ≤ w11.heap.size := Nat.le_trans hB ha11.upd.size
      have hv_11 := ha11.upd.blk_some hv hdv
      have hx1_11 := ha11.upd.blk_some hx1 hnx1
      repeat ((first | refine W.seqR rfl ?_ | refine W.seq ?_ | refine W.regR rfl ?_ | refine W.condK ?_ | refine W.block ?_ | refine W.skip ?_ | refine W.ret ?_ | refine W.exit ?_); try simp (maxSteps := 1000000) (disch := (first | omega | (simp only [World.size_alloc, size_wr, size_drew] <;> omega) | exact not_noB _)) only [go_sem, ↓reduceIte, n0, reduceCtorEq, n1, n2, n3, n4, n5, i0, i1, i2, i3, i4, i5, i6, i7, hr1_1, hr1_0, hr1_5, hr1_6, hI1, hN1, hS1])
      refine ⟨⟨j1 + 1, _, by omega, rfl, rfl, ha11.eqs ?_⟩, ?_⟩
      · rw [hcat1, List.flatMap_append, List.flatMap_cons, List.flatMap_nil, List.append_nil, ← hTT1, hPe1]; simp only [List.append_assoc, List.append_nil, List.nil_append]
      · simp only [RowKit.intOf]; omega
    · have hjl1 : j1 = (t.at 0).l.length := by omega
      subst hjl1
      rw [List.take_length, ← hXE_0] at ha2
      repeat ((first | refine W.seqR rfl ?_ | refine W.seq ?_ | refine W.regR rfl ?_ | refine W.condK ?_ | refine W.block ?_ | refine W.skip ?_ | refine W.ret ?_ | refine W.exit ?_); try simp (maxSteps := 1000000) (disch := (first | omega | (simp only [World.size_alloc, size_wr, size_drew] <;> omega) | exact not_noB _)) only [go_sem, ↓reduceIte, n0, reduceCtorEq, n1, n2, n3, n4, n5, i0, i1, i2, i3, i4, i5, i6, i7, hI1, hN1])
      exact ⟨_, hr1_1, hr1_0, hr1_5, hr1_6, ha2⟩
  · rintro ρ w12 ⟨r12, hr1_2, hr2_0, hr2_5, hr2_6, ha12⟩
    have hB12 : B ≤ w12.heap.size := Nat.le_trans hB ha12.upd.size
    have hv_12 := ha12.upd.blk_some hv hdv
    repeat ((first | refine W.seqR rfl ?_ | refine W.seq ?_ | refine W.regR rfl ?_ | refine W.condK ?_ | refine W.block ?_ | refine W.skip ?_ | refine W.ret ?_ | refine W.exit ?_); try simp (maxSteps := 1000000) (disch := (first | omega | (simp only [World.size_alloc, size_wr, size_drew] <;> omega) | exact not_noB _)) only [go_sem, ↓reduceIte, n0, reduceCtorEq, n1, n2, n3, n4, n5, i0, i1, i2, i3, i4, i5, i6, i7, hv_12, hr1_2, hr2_0, hr2_5, hr2_6])
    have hTk12 : TagsM (OkS okM w.heap.size) w12 (.map qm) t.u := (hT.weaken fun b h1 h2 => ⟨h2, h1⟩).keep (ha12.upd.keeps fun b hb hk => hd b hb hk.1)
    refine (TagsLen_fn (ok := OkS okM w.heap.size) w12 hv_12 (to := 2) (show (#[.int .i16 ver, .slice ab_0 (t.at 0).l.length ac_0, .map qm] : Array Value)[2]? = some (.map qm) from rfl) hTk12).mono ?_
    rintro _ w12' ⟨rfl, rfl⟩
    have hul12 : t.u.length ≤ 32767 := hfu.1
    have ew12 : IntKind.u32.wrap (t.u.length : Int) = t.u.length := u32_wrap (by omega)
    have ez12 : IntKind.u32.wrap (0 + (t.u.length : Int)) = t.u.length := by rw [Int.zero_add, u32_wrap (by omega)]
    simp (maxSteps := 1000000) (disch := (first | omega | (simp only [World.size_alloc, size_wr, size_drew] <;> omega) | exact not_noB _)) only [go_sem, ↓reduceIte, n0, reduceCtorEq, n1, n2, n3, n4, n5, i0, i1, i2, i3, i4, i5, i6, i7, hv_12, hr1_2, hr2_0, hr2_5, hr2_6, ew12, ez12]
    refine (AppendUvarint_fn _ _ _ ha12.own hB12 t.u.length (by omega) (by simp only [List.length_append, List.length_nil]; omega)).mono ?_
    rintro r13 w13 hc13
    rw [← hXU] at hc13
    have ha13 := ha12.trans hc13
    have hB13 : B ≤ w13.heap.size := Nat.le_trans hB ha13.upd.size
    have hv_13 := ha13.upd.blk_some hv hdv
    repeat ((first | refine W.seqR rfl ?_ | refine W.seq ?_ | refine W.regR rfl ?_ | refine W.condK ?_ | refine W.block ?_ | refine W.skip ?_ | refine W.ret ?_ | refine W.exit ?_); try simp (maxSteps := 1000000) (disch := (first | omega | (simp only [World.size_alloc, size_wr, size_drew] <;> omega) | exact not_noB _)) only [go_sem, ↓reduceIte, n0, reduceCtorEq, n1, n2, n3, n4, n5, i0, i1, i2, i3, i4, i5, i6, i7, hv_13, hr1_2, hr2_0, hr2_5, hr2_6])
    have hTk13 : TagsM (OkS okM w.heap.size) w13 (.map qm) t.u := (hT.weaken fun b h1 h2 => ⟨h2, h1⟩).keep (ha13.upd.keeps fun b hb hk => hd b hb hk.1)
    refine (AppendEach_fn (ok := OkS okM w.heap.size) _ _ _ ha13.own hB13 hv_13 (to := 2) (show (#[.int .i16 ver, .slice ab_0 (t.at 0).l.length ac_0, .map qm] : Array Value)[2]? = some (.map qm) from rfl) hTk13 (rising_keys hfu) hfu.1 (tags_small hfu hTk13) (hdK ha13) (ownK ha13 (blk_lt hv) hdv) (by simp only [List.length_append, List.length_nil]; omega)).mono ?_
    rintro r14 w14 hc14
    rw [← hXT] at hc14
    have ha14 := ha13.trans hc14
    have hB14 : B ≤ w14.heap.size := Nat.le_trans hB ha14.upd.size
    have hv_14 := ha14.upd.blk_some hv hdv
    repeat ((first | refine W.seqR rfl ?_ | refine W.seq ?_ | refine W.regR rfl ?_ | refine W.condK ?_ | refine W.block ?_ | refine W.skip ?_ | refine W.ret ?_ | refine W.exit ?_); try simp (maxSteps := 1000000) (disch := (first | omega | (simp only [World.size_alloc, size_wr, size_drew] <;> omega) | exact not_noB _)) only [go_sem, ↓reduceIte, n0, reduceCtorEq, n1, n2, n3, n4, n5, i0, i1, i2, i3, i4, i5, i6, i7, hv_14, hr1_2, hr2_0, hr2_5, hr2_6])
    refine ha14.eqs ?_
    rw [hP]; simp only [List.append_assoc, List.append_nil, List.nil_append]
end Ms

namespace Ms
open Nat renaming reduceEqDiff → n0, reduceAdd → n1, reduceMul → n2, reduceSub → n3, reduceLT → n4, reduceLeDiff → n5
open Int renaming reduceEq → i0, reduceLT → i1, reduceLE → i2, reduceNeg → i3, reduceAdd → i4, reduceSub → i5, reduceMul → i6, reduceToNat → i7
set_option maxRecDepth 8000
open Go Go.Proofs Go.Shelf
attribute [local congr] W_congr WPsq_congr WPp_congr optK_congr addrK_congr intK_congr boolK_congr sliceK_congr tupleK_congr funcK_congr Fn_congr rawK_congr takeK_congr stepK_congr convK_congr aggK_congr

set_option maxHeartbeats 1000000 in
theorem MakeCreateACLsRequest_fn {ok : Blocks} (t : Tree) (ct : List Value) (w : World) (ver : Nat) (hv : ver ≤ 3) (ht : TreeC ok w t ct) (hfit : FitP ver 3 fs_CreateACLsRequest t) (hLs : Lists t) (hlen : (partS 3 fs_CreateACLsRequest ver (flexB 2 ver) t).length ≤ 2 ^ 41) :
    Fn Try.prog 30 #[.int .i64 ver, .agg ct.toArray] w fun r w' => OwnBy 5 w.heap.size w' r (partS 3 fs_CreateACLsRequest ver (flexB 2 ver) t) ∧ Ext w w' := by
  replace ht : TreeC (fun b => b < w.heap.size) w t ct := ht.weaken fun b hb _ => hb
  obtain ⟨vS, vL, vU, rfl, hn, hS, hL, hU⟩ := ht.inv
  obtain ⟨bS, cS, rfl, _⟩ := hS.shape
  obtain ⟨bL, cL, rfl, _⟩ := SlR.shape hL
  obtain ⟨bU, cU, rfl, _⟩ := SlR.shape hU
  have ew : IntKind.i16.wrap (ver : Int) = ver := i16_wrap (by omega)
  have hE1 : Ext w ((w.alloc (.cells #[.int .i64 t.n, .slice bS t.s.length cS, .bool t.null, .slice bL t.l.length cL, .slice bU t.u.length cU] 39)).alloc (.cells #[.int .i16 0, .slice none 0 0, .map none] 87)) := Upd.alloc (Upd.alloc (Upd.refl _ _) _) _
  have hb1 : blk ((w.alloc (.cells #[.int .i64 t.n, .slice bS t.s.length cS, .bool t.null, .slice bL t.l.length cL, .slice bU t.u.length cU] 39)).alloc (.cells #[.int .i16 0, .slice none 0 0, .map none] 87)) (w.heap.size + 1) = some (#[.int .i16 0, .slice none 0 0, .map none], 87, (0, 0)) := blk_alloc_new (by simp only [World.size_alloc])
  have htb1 : blk ((w.alloc (.cells #[.int .i64 t.n, .slice bS t.s.length cS, .bool t.null, .slice bL t.l.length cL, .slice bU t.u.length cU] 39)).alloc (.cells #[.int .i16 0, .slice none 0 0, .map none] 87)) w.heap.size = some (#[.int .i64 t.n, .slice bS t.s.length cS, .bool t.null, .slice bL t.l.length cL, .slice bU t.u.length cU], 39, (0, 0)) := by simp (maxSteps := 1000000) (disch := (first | omega | (simp only [World.size_alloc, size_wr, size_drew] <;> omega) | exact not_noB _)) only [go_sem, ↓reduceIte, n0, reduceCtorEq, n1, n2, n3, n4, n5, i0, i1, i2, i3, i4, i5, i6, i7]
  have hz1 : ((w.alloc (.cells #[.int .i64 t.n, .slice bS t.s.length cS, .bool t.null, .slice bL t.l.length cL, .slice bU t.u.length cU] 39)).alloc (.cells #[.int .i16 0, .slice none 0 0, .map none] 87)).heap.size = w.heap.size + 2 := by simp only [World.size_alloc]
  refine fn_of_W Try.func30 rfl Try.results30 Try.ntmps30 rfl ?_
  repeat ((first | refine W.seqR rfl ?_ | refine W.seq ?_ | refine W.regR rfl ?_ | refine W.condK ?_ | refine W.block ?_ | refine W.skip ?_ | refine W.ret ?_ | refine W.exit ?_); try simp (maxSteps := 1000000) (disch := (first | omega | (simp only [World.size_alloc, size_wr, size_drew] <;> omega) | exact not_noB _)) only [go_sem, ↓reduceIte, n0, reduceCtorEq, n1, n2, n3, n4, n5, i0, i1, i2, i3, i4, i5, i6, i7, ew])
  generalize ((w.alloc (.cells #[.int .i64 t.n, .slice bS t.s.length cS, .bool t.null, .slice bL t.l.length cL, .slice bU t.u.length cU] 39)).alloc (.cells #[.int .i16 0, .slice none 0 0, .map none] 87)) = w1 at *
  refine (SetVersionCreateACLsRequest_fn w1 (vb := w.heap.size + 1) ver hb1).mono ?_
  rintro _ w2 ⟨hb2, hU2⟩
  have hz2 := hU2.size
  have hE2 : Ext w w2 := hE1.more hU2 fun b hb h => by omega
  have htb2 := hU2.blk_some htb1 (by omega)
  repeat ((first | refine W.seqR rfl ?_ | refine W.seq ?_ | refine W.regR rfl ?_ | refine W.condK ?_ | refine W.block ?_ | refine W.skip ?_ | refine W.ret ?_ | refine W.exit ?_); try simp (maxSteps := 1000000) (disch := (first | omega | (simp only [World.size_alloc, size_wr, size_drew] <;> omega) | exact not_noB _)) only [go_sem, ↓reduceIte, n0, reduceCtorEq, n1, n2, n3, n4, n5, i0, i1, i2, i3, i4, i5, i6, i7, htb2, cellsAt_five])
  refine (fillCreateACLsRequest_fn (d := 1) (okT := fun b => b < w.heap.size) (V := ver) (ver := ver) t _ w2 (vb := w.heap.size + 1) hb2 (ht.keep (hE2.keeps _)) (fun b hb => by omega) hfit hLs).mono ?_
  rintro _ w3 ⟨cells, hb3, hR3, hU3⟩
  have hz3 := hU3.size
  have hE3 : Ext w w3 := hE2.more hU3 fun b hb h => by omega
  repeat ((first | refine W.seqR rfl ?_ | refine W.seq ?_ | refine W.regR rfl ?_ | refine W.condK ?_ | refine W.block ?_ | refine W.skip ?_ | refine W.ret ?_ | refine W.exit ?_); try simp (maxSteps := 1000000) (disch := (first | omega | (simp only [World.size_alloc, size_wr, size_drew] <;> omega) | exact not_noB _)) only [go_sem, ↓reduceIte, n0, reduceCtorEq, n1, n2, n3, n4, n5, i0, i1, i2, i3, i4, i5, i6, i7])
  have hcl : (0 ≤ (ver : Int) ∧ (ver : Int) ≤ 0) ∨ (1 ≤ (ver : Int) ∧ (ver : Int) ≤ 1) ∨ (2 ≤ (ver : Int) ∧ (ver : Int) ≤ 3) := by omega
  rcases hcl with ⟨h1, h2⟩ | ⟨h1, h2⟩ | ⟨h1, h2⟩
  · have hfl : flexB 2 ver = false := by simp only [flexB, Bool.and_eq_false_iff, decide_eq_false_iff_not]; omega
    rw [hfl] at hlen ⊢
    refine (appCreateACLsRequest_0 (d := 1) (B := w3.heap.size) (okM := okN (fun b => b < w.heap.size) w2.heap.size) h1 h2 t cells (.slice none 0 0) [] w3 (Own.nil _ _ _ _) (Nat.le_refl _) hb3 hR3 hfit (by rintro b _ _ ⟨a, n, c, h, _⟩; cases h) (by rintro ⟨a, n, c, h, _⟩; cases h) (by simpa using hlen)).mono ?_
    rintro r4 w4 h4
    repeat ((first | refine W.seqR rfl ?_ | refine W.seq ?_ | refine W.regR rfl ?_ | refine W.condK ?_ | refine W.block ?_ | refine W.skip ?_ | refine W.ret ?_ | refine W.exit ?_); try simp (maxSteps := 1000000) (disch := (first | omega | (simp only [World.size_alloc, size_wr, size_drew] <;> omega) | exact not_noB _)) only [go_sem, ↓reduceIte, n0, reduceCtorEq, n1, n2, n3, n4, n5, i0, i1, i2, i3, i4, i5, i6, i7])
    refine ⟨?_, hE3.more h4.upd fun b hb h => by obtain ⟨a, n, c, h, _⟩ := h; cases h⟩
    have := h4.own
    rw [List.nil_append] at this
    exact Own.mono this (by omega)
  · have hfl : flexB 2 ver = false := by simp only [flexB, Bool.and_eq_false_iff, decide_eq_false_iff_not]; omega
    rw [hfl] at hlen ⊢
    refine (appCreateACLsRequest_1 (d := 1) (B := w3.heap.size) (okM := okN (fun b => b < w.heap.size) w2.heap.size) h1 h2 t cells (.slice none 0 0) [] w3 (Own.nil _ _ _ _) (Nat.le_refl _) hb3 hR3 hfit (by rintro b _ _ ⟨a, n, c, h, _⟩; cases h) (by rintro ⟨a, n, c, h, _⟩; cases h) (by simpa using hlen)).mono ?_
    rintro r4 w4 h4
    repeat ((first | refine W.seqR rfl ?_ | refine W.seq ?_ | refine W.regR rfl ?_ | refine W.condK ?_ | refine W.block ?_ | refine W.skip ?_ | refine W.ret ?_ | refine W.exit ?_); try simp (maxSteps := 1000000) (disch := (first | omega | (simp only [World.size_alloc, size_wr, size_drew] <;> omega) | exact not_noB _)) only [go_sem, ↓reduceIte, n0, reduceCtorEq, n1, n2, n3, n4, n5, i0, i1, i2, i3, i4, i5, i6, i7])
    refine ⟨?_, hE3.more h4.upd fun b hb h => by obtain ⟨a, n, c, h, _⟩ := h; cases h⟩
    have := h4.own
    rw [List.nil_append] at this
    exact Own.mono this (by omega)
  · have hfl : flexB 2 ver = true := by simp only [flexB, Bool.and_eq_true, decide_eq_true_eq]; omega
    rw [hfl] at hlen ⊢
    refine (appCreateACLsRequest_2 (d := 1) (B := w3.heap.size) (okM := okN (fun b => b < w.heap.size) w2.heap.size) h1 h2 t cells (.slice none 0 0) [] w3 (Own.nil _ _ _ _) (Nat.le_refl _) hb3 hR3 hfit (by rintro b _ _ ⟨a, n, c, h, _⟩; cases h) (by rintro ⟨a, n, c, h, _⟩; cases h) (by simpa using hlen)).mono ?_
    rintro r4 w4 h4
    repeat ((first | refine W.seqR rfl ?_ | refine W.seq ?_ | refine W.regR rfl ?_ | refine W.condK ?_ | refine W.block ?_ | refine W.skip ?_ | refine W.ret ?_ | refine W.exit ?_); try simp (maxSteps := 1000000) (disch := (first | omega | (simp only [World.size_alloc, size_wr, size_drew] <;> omega) | exact not_noB _)) only [go_sem, ↓reduceIte, n0, reduceCtorEq, n1, n2, n3, n4, n5, i0, i1, i2, i3, i4, i5, i6, i7])
    refine ⟨?_, hE3.more h4.upd fun b hb h => by obtain ⟨a, n, c, h, _⟩ := h; cases h⟩
    have := h4.own
    rw [List.nil_append] at this
    exact Own.mono this (by omega)

set_option maxHeartbeats 1000000 in
theorem law_CreateACLsRequest {ok : Blocks} (n : Nat) (hn : n < 256) (t : Tree) (ct : List Value) (w : World) (ht : TreeC ok w t ct) (hsm : Small 4611686018427387903 t) {N : Nat} (hN : N ≤ 1048576) (hsz : Sized N t) :
    Fn Try.prog 6 #[.int .u8 n, .agg ct.toArray] w fun r w' => r = .bool true ∧ Ext w w' := by
  obtain ⟨vS, vL, vU, rfl, hn', hS, hL, hU⟩ := ht.inv
  have f1 := hS.flat
  have f2 := SlR.flat hL
  have f3 := SlR.flat hU
  have hE : Ext w (w.alloc (.cells #[.int .i64 t.n, vS, .bool t.null, vL, vU] 26)) := Upd.alloc (Upd.refl _ _) _
  refine fn_of_W Try.func6 rfl Try.results6 Try.ntmps6 rfl ?_
  repeat ((first | refine W.seqR rfl ?_ | refine W.seq ?_ | refine W.regR rfl ?_ | refine W.condK ?_ | refine W.block ?_ | refine W.skip ?_ | refine W.ret ?_ | refine W.exit ?_); try simp (maxSteps := 1000000) (disch := (first | omega | (simp only [World.size_alloc, size_wr, size_drew] <;> omega) | exact not_noB _)) only [go_sem, ↓reduceIte, n0, reduceCtorEq, n1, n2, n3, n4, n5, i0, i1, i2, i3, i4, i5, i6, i7, f1, f2, f3, cellsAt_five])
  have hb : blk (w.alloc (.cells #[.int .i64 t.n, vS, .bool t.null, vL, vU] 26)) w.heap.size = some (#[.int .i64 t.n, vS, .bool t.null, vL, vU], 26, (0, 0)) := blk_alloc_new rfl
  generalize (w.alloc (.cells #[.int .i64 t.n, vS, .bool t.null, vL, vU] 26)) = w1 at *
  refine (zzFits1_fn (ok := ok) t _ w1 (ht.keep (hE.keeps _)) hsm).mono ?_
  rintro r2 w2 ⟨⟨bb, rfl⟩, hE2⟩
  cases bb with
  | false =>
    simp (maxSteps := 1000000) (disch := (first | omega | (simp only [World.size_alloc, size_wr, size_drew] <;> omega) | exact not_noB _)) only [go_sem, ↓reduceIte, n0, reduceCtorEq, n1, n2, n3, n4, n5, i0, i1, i2, i3, i4, i5, i6, i7]
    repeat ((first | refine W.seqR rfl ?_ | refine W.seq ?_ | refine W.regR rfl ?_ | refine W.condK ?_ | refine W.block ?_ | refine W.skip ?_ | refine W.ret ?_ | refine W.exit ?_); try simp (maxSteps := 1000000) (disch := (first | omega | (simp only [World.size_alloc, size_wr, size_drew] <;> omega) | exact not_noB _)) only [go_sem, ↓reduceIte, n0, reduceCtorEq, n1, n2, n3, n4, n5, i0, i1, i2, i3, i4, i5, i6, i7])
    exact hE.trans hE2
  | true =>
    simp (maxSteps := 1000000) (disch := (first | omega | (simp only [World.size_alloc, size_wr, size_drew] <;> omega) | exact not_noB _)) only [go_sem, ↓reduceIte, n0, reduceCtorEq, n1, n2, n3, n4, n5, i0, i1, i2, i3, i4, i5, i6, i7]
    repeat ((first | refine W.seqR rfl ?_ | refine W.seq ?_ | refine W.regR rfl ?_ | refine W.condK ?_ | refine W.block ?_ | refine W.skip ?_ | refine W.ret ?_ | refine W.exit ?_); try simp (maxSteps := 1000000) (disch := (first | omega | (simp only [World.size_alloc, size_wr, size_drew] <;> omega) | exact not_noB _)) only [go_sem, ↓reduceIte, n0, reduceCtorEq, n1, n2, n3, n4, n5, i0, i1, i2, i3, i4, i5, i6, i7])
    refine (MaxCreateACLsRequest_fn w2).mono ?_
    rintro _ w2m ⟨rfl, hE2m⟩
    repeat ((first | refine W.seqR rfl ?_ | refine W.seq ?_ | refine W.regR rfl ?_ | refine W.condK ?_ | refine W.block ?_ | refine W.skip ?_ | refine W.ret ?_ | refine W.exit ?_); try simp (maxSteps := 1000000) (disch := (first | omega | (simp only [World.size_alloc, size_wr, size_drew] <;> omega) | exact not_noB _)) only [go_sem, ↓reduceIte, n0, reduceCtorEq, n1, n2, n3, n4, n5, i0, i1, i2, i3, i4, i5, i6, i7])
    refine (cCreateACLsRequest_fn w2m).mono ?_
    rintro r3 w3 ⟨⟨vs, rfl, hF0⟩, hE3⟩
    have hF : FldsV AnyB w3 vs fs_CreateACLsRequest := hF0.weaken fun _ _ _ => trivial
    have fF := SlR.flat hF
    simp (maxSteps := 1000000) (disch := (first | omega | (simp only [World.size_alloc, size_wr, size_drew] <;> omega) | exact not_noB _)) only [go_sem, ↓reduceIte, n0, reduceCtorEq, n1, n2, n3, n4, n5, i0, i1, i2, i3, i4, i5, i6, i7]
    refine (version_fn w3 n 3 hn (by decide)).mono ?_
    rintro _ w3v ⟨rfl, rfl⟩
    have hE03 : Ext w w3v := ((hE.trans hE2).trans hE2m).trans hE3
    have hb3 := hE3.blk_some (hE2m.blk_some (hE2.blk_some hb id) id) id
    have hE4 : Ext w3v (wr (w3v.alloc (.cells #[.slice none 0 0, .int .i64 0] 31)) w3v.heap.size 0 [vs, .int .i64 2]) := (Upd.alloc (Upd.refl _ _) _).wr _ _ (.inl (Nat.le_refl _))
    have hb4 : blk (wr (w3v.alloc (.cells #[.slice none 0 0, .int .i64 0] 31)) w3v.heap.size 0 [vs, .int .i64 2]) w3v.heap.size = some (#[vs, .int .i64 2], 31, (0, 0)) := by simp (maxSteps := 1000000) (disch := (first | omega | (simp only [World.size_alloc, size_wr, size_drew] <;> omega) | exact not_noB _)) only [go_sem, ↓reduceIte, n0, reduceCtorEq, n1, n2, n3, n4, n5, i0, i1, i2, i3, i4, i5, i6, i7]
    simp (maxSteps := 1000000) (disch := (first | omega | (simp only [World.size_alloc, size_wr, size_drew] <;> omega) | exact not_noB _)) only [go_sem, ↓reduceIte, n0, reduceCtorEq, n1, n2, n3, n4, n5, i0, i1, i2, i3, i4, i5, i6, i7, fF]
    generalize (wr (w3v.alloc (.cells #[.slice none 0 0, .int .i64 0] 31)) w3v.heap.size 0 [vs, .int .i64 2]) = w4 at *
    have hb34 := hE4.blk_some hb3 id
    have hv3 : n % 4 < 4 := Nat.mod_lt _ (by omega)
    generalize n % 4 = ver at *
    have hs1 := blk_lt hb4
    have hs2 := blk_lt hb34
    repeat ((first | refine W.seqR rfl ?_ | refine W.seq ?_ | refine W.regR rfl ?_ | refine W.condK ?_ | refine W.block ?_ | refine W.skip ?_ | refine W.ret ?_ | refine W.exit ?_); try simp (maxSteps := 1000000) (disch := (first | omega | (simp only [World.size_alloc, size_wr, size_drew] <;> omega) | exact not_noB _)) only [go_sem, ↓reduceIte, n0, reduceCtorEq, n1, n2, n3, n4, n5, i0, i1, i2, i3, i4, i5, i6, i7])
    refine W.drawR (.take 0 (.take 1 (.take 2 (.take 3 (.take 4 (.take 8 (.take 9 (.take 10 (.only 5 (.only 6 (.only 7 (.only 11 (.only 12 (.only 13 .done)))))))))))))) NoB mixed (by kernel_rfl) ?_
    simp (maxSteps := 1000000) (disch := (first | omega | (simp only [World.size_alloc, size_wr, size_drew] <;> omega) | exact not_noB _)) only [go_sem, ↓reduceIte, n0, reduceCtorEq, n1, n2, n3, n4, n5, i0, i1, i2, i3, i4, i5, i6, i7, hb34, hb4, cellsAt_five, cellsAt_two]
    have hE04d : Ext w w4.drew := (hE03.trans hE4).drew
    have hE3d : Ext w3v w4.drew := hE4.drew
    have hokF : okF 2 fs_CreateACLsRequest = true := by decide
    have hokM : okM 2 fs_CreateACLsRequest = true := by decide
    refine (fit_ok 2 AnyB fs_CreateACLsRequest ver t vs _ w4.drew (hF.keep (hE3d.keeps _)) hokF ((ht.weaken fun _ _ _ => trivial).keep (hE04d.keeps _)) hsm).mono ?_
    rintro r5 w5 ⟨⟨c5, rfl, hc5⟩, hE5⟩
    refine ⟨hE5, ?_⟩
    have hLs := fitS_lists 2 fs_CreateACLsRequest ver t (by decide) hokF
    refine (given_fn hLs _ c5 w5 hc5).mono ?_
    rintro r6 w6 ⟨⟨c6, rfl, hc6⟩, hE6⟩
    have hE56 : Ext w4.drew w6 := hE5.trans hE6
    refine ⟨hE56, ?_⟩
    have hpl : (partS 3 fs_CreateACLsRequest ver (flexB 2 ver) t).length ≤ 2 ^ 40 := Nat.le_trans (partS_bound ver _ 2 fs_CreateACLsRequest N t hokM hsz) (Nat.le_trans (Nat.mul_le_mul_left _ (Nat.succ_le_succ hN)) (by decide))
    have hpf : partS 3 fs_CreateACLsRequest ver (flexB 2 ver) (fitS 3 fs_CreateACLsRequest ver t) = partS 3 fs_CreateACLsRequest ver (flexB 2 ver) t := partS_fit ver (flexB 2 ver) 2 fs_CreateACLsRequest t hokM
    refine (MakeCreateACLsRequest_fn (fitS 3 fs_CreateACLsRequest ver t) c6 w6 ver (by omega) hc6 (fitS_fit ver 2 fs_CreateACLsRequest t hokM) hLs (by rw [hpf]; omega)).mono ?_
    rintro r7 w7 ⟨ho7, hE7⟩
    rw [hpf] at ho7
    have hE57 : Ext w4.drew w7 := hE56.trans hE7
    refine ⟨hE57, ?_⟩
    have hE07 : Ext w w7 := hE04d.trans hE57
    refine (Write_fn (ok := AnyB) (d := 2) fs_CreateACLsRequest 2 ver t vs _ w7 (hF.keep (Ext.keeps (hE3d.trans hE57) _)) hokF ((ht.weaken fun _ _ _ => trivial).keep (Ext.keeps hE07 _)) hsm hpl).mono ?_
    rintro r8 w8 ⟨ho8, hE8⟩
    have hE58 : Ext w4.drew w8 := hE57.trans hE8
    refine ⟨hE58, ?_⟩
    refine (Same_fn (ok := AnyB) _ _ r7 r8 w8 ((Own.bytes ho7 fun _ _ => trivial).keep (hE8.keeps _)) (Own.bytes ho8 fun _ _ => trivial) (by omega)).mono ?_
    rintro r9 w9 ⟨rfl, hE9⟩
    have hE59 : Ext w4.drew w9 := hE58.trans hE9
    refine ⟨hE59, hE59, ?_⟩
    repeat ((first | refine W.seqR rfl ?_ | refine W.seq ?_ | refine W.regR rfl ?_ | refine W.condK ?_ | refine W.block ?_ | refine W.skip ?_ | refine W.ret ?_ | refine W.exit ?_); try simp (maxSteps := 1000000) (disch := (first | omega | (simp only [World.size_alloc, size_wr, size_drew] <;> omega) | exact not_noB _)) only [go_sem, ↓reduceIte, n0, reduceCtorEq, n1, n2, n3, n4, n5, i0, i1, i2, i3, i4, i5, i6, i7])
    exact hE04d.trans hE59
end Ms

