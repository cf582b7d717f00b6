/- A part of the proof: see the last text. -/
import Derived.Test.YtcicbihkpkbbnaaGreatDoorC02
import Derived.Test.YtcicbihkpkbbnaaGreatDoorC06
import Derived.Test.YtcicbihkpkbbnaaGreatDoorC07
import Derived.Test.YtcicbihkpkbbnaaGreatDoorC10
import Derived.Test.YtcicbihkpkbbnaaGreatDoorDescribeProducersResponseP0
import Derived.Test.YtcicbihkpkbbnaaGreatDoorDescribeProducersResponseP1
set_option linter.unusedSimpArgs false
set_option linter.unusedVariables false
namespace Ms
open Nat renaming reduceEqDiff → n0, reduceAdd → n1, reduceMul → n2, reduceSub → n3, reduceLT → n4, reduceLeDiff → n5
open Int renaming reduceEq → i0, reduceLT → i1, reduceLE → i2, reduceNeg → i3, reduceAdd → i4, reduceSub → i5, reduceMul → i6, reduceToNat → i7
set_option maxRecDepth 8000
open Go Go.Proofs Go.Shelf
attribute [local congr] W_congr WPsq_congr WPp_congr optK_congr addrK_congr intK_congr boolK_congr sliceK_congr tupleK_congr funcK_congr Fn_congr rawK_congr takeK_congr stepK_congr convK_congr aggK_congr

theorem ReadFromDescribeProducersResponse_fn {d : Nat} {ok : Blocks} {ver : Int} {ev : Value} (hlo : 0 ≤ ver) (hhi : ver ≤ 0) (w : World) {vb : Nat} (src : Value) (s : List UInt8) (hv : blk w vb = some (#[.int .i16 ver, .int .i32 0, .slice none 0 0, .map none], 62, (0, 0))) (hsrc : BytesV ok w src s) (hok0 : ∀ b, ok b → b < w.heap.size ∧ b ≠ vb) (hG : Glo ev w) (hgv : ¬ 0 = vb ∧ ¬ 1 = vb) :
    Fn Tryz.prog 17 #[.pointer (some ⟨vb, 0, none⟩), src] w (ReadQ 62 ok ver (d + 4) fs_DescribeProducersResponse vb w (rdP (d + 4) ver (flexB 0 ver) fs_DescribeProducersResponse (some s)) ev) := by
  obtain ⟨sa, sc, rfl, _⟩ := hsrc.shape
  refine fn_of_W Tryz.func17 rfl Tryz.results17 Tryz.ntmps17 rfl ?_
  repeat ((first | refine W.seqR rfl ?_ | refine W.seq ?_ | refine W.regR rfl ?_ | refine W.condK ?_ | refine W.block ?_ | refine W.skip ?_ | refine W.ret ?_ | refine W.exit ?_); try simp (maxSteps := 1000000) (disch := (first | omega | (simp only [World.size_alloc, size_wr, size_drew] <;> omega) | exact not_noB _)) only [go_sem, ↓reduceIte, n0, reduceCtorEq, n1, n2, n3, n4, n5, i0, i1, i2, i3, i4, i5, i6, i7])
  have hcl : (0 ≤ ver ∧ ver ≤ 0) := by omega
  rcases hcl with ⟨h1, h2⟩
  · have hfl : flexB 0 ver = true := by simp only [flexB, Bool.and_eq_true, decide_eq_true_eq]; omega
    rw [hfl]
    refine (readDescribeProducersResponse_0 (d := d) h1 h2 w _ s hv hsrc hok0 hG hgv).mono ?_
    rintro r5 w5 h5
    repeat ((first | refine W.seqR rfl ?_ | refine W.seq ?_ | refine W.regR rfl ?_ | refine W.condK ?_ | refine W.block ?_ | refine W.skip ?_ | refine W.ret ?_ | refine W.exit ?_); try simp (maxSteps := 1000000) (disch := (first | omega | (simp only [World.size_alloc, size_wr, size_drew] <;> omega) | exact not_noB _)) only [go_sem, ↓reduceIte, n0, reduceCtorEq, n1, n2, n3, n4, n5, i0, i1, i2, i3, i4, i5, i6, i7])
    all_goals exact h5

end Ms

namespace Ms
open Nat renaming reduceEqDiff → n0, reduceAdd → n1, reduceMul → n2, reduceSub → n3, reduceLT → n4, reduceLeDiff → n5
open Int renaming reduceEq → i0, reduceLT → i1, reduceLE → i2, reduceNeg → i3, reduceAdd → i4, reduceSub → i5, reduceMul → i6, reduceToNat → i7
set_option maxRecDepth 8000
open Go Go.Proofs Go.Shelf
attribute [local congr] W_congr WPsq_congr WPp_congr optK_congr addrK_congr intK_congr boolK_congr sliceK_congr tupleK_congr funcK_congr Fn_congr rawK_congr takeK_congr stepK_congr convK_congr aggK_congr

set_option maxHeartbeats 4000000 in
theorem appDescribeProducersResponse_0 {d B : Nat} {okM : Blocks} {ver : Int} (hlo : 0 ≤ ver) (hhi : ver ≤ 0) (t : Tree) (cells : List Value) (v : Value) (s : List UInt8) (w : World) {vb : Nat} (ho : OwnBy 5 B w v s) (hB : B ≤ w.heap.size) (hvb : blk w vb = some ((.int .i16 ver :: cells).toArray, 62, (0, 0)))
    (hR : RepS true (d + 4) fs_DescribeProducersResponse okM w t cells) (hfit : FitW ver (d + 4) fs_DescribeProducersResponse t) (hd : ∀ b, b < w.heap.size → okM b → ¬ ownB v b) (hdv : ¬ ownB v vb) (hlen : s.length + (partS (d + 4) fs_DescribeProducersResponse ver true t).length ≤ 2 ^ 41) :
    Fn Tryz.prog 18 #[.pointer (some ⟨vb, 0, none⟩), v] w fun r w' => AppR 5 B w v s (partS (d + 4) fs_DescribeProducersResponse ver true t) r w' := by
  obtain ⟨⟨g_0, g_1, -⟩, hfu⟩ := hfit
  replace g_0 : hasS fDescribeProducersResponse_0 ver = true → FitWF (FitW ver (d + 3)) ver fDescribeProducersResponse_0 (t.at 0) := g_0
  have hh_0 : hasS fDescribeProducersResponse_0 ver = true := hasS_t (by show (0 : Int) ≤ ver; omega) (by show (-1 : Int) < 0 ∨ ver ≤ (-1 : Int); omega)
  replace g_0 := g_0 hh_0
  replace g_1 : hasS fDescribeProducersResponse_1 ver = true → FitWF (FitW ver (d + 3)) ver fDescribeProducersResponse_1 (t.at 1) := g_1
  have hh_1 : hasS fDescribeProducersResponse_1 ver = true := hasS_t (by show (0 : Int) ≤ ver; omega) (by show (-1 : Int) < 0 ∨ ver ≤ (-1 : Int); omega)
  replace g_1 := g_1 hh_1
  obtain ⟨cs, q, hcs, hL, hT⟩ := hR.inv
  obtain ⟨c_0, e_0, rfl, h_0, c_1, e_1, rfl, h_1, rfl⟩ := hL
  replace h_0 : RepF (RepS true (d + 3)) (szS true (d + 3)) fDescribeProducersResponse_0 okM w (t.at 0) c_0 := h_0
  replace h_1 : RepF (RepS true (d + 3)) (szS true (d + 3)) fDescribeProducersResponse_1 okM w (t.at 1) c_1 := h_1
  obtain rfl := (RepF_num (by decide)).1 h_0
  obtain ⟨p_1, rfl, hs_1⟩ := RepF_listW g_1 rfl (by decide) h_1
  obtain ⟨ab_1, ac_1, rfl, _⟩ := SlR.shape hs_1
  have hgl_1 := g_1.list rfl
  have hll_1 := hgl_1.1
  obtain ⟨qm, rfl⟩ := hT.shape
  have hv : blk w vb = some (#[.int .i16 ver, .int .i32 (IntKind.i32.wrap (t.at 0).n), .slice ab_1 (t.at 1).l.length ac_1, .map qm], 62, (0, 0)) := by rw [hvb, hcs]; rfl
  clear hvb hcs
  obtain ⟨X_0, hXX_0⟩ : ∃ X, X = fixedS (t.at 0).n 4 := ⟨_, rfl⟩
  obtain ⟨XL_1, hXL_1⟩ : ∃ X, X = uvarS ((t.at 1).l.length + 1) := ⟨_, rfl⟩
  obtain ⟨XE_1, hXE_1⟩ : ∃ X, X = (t.at 1).l.flatMap (fun x => partS (d + 3) fs_DescribeProducersResponseTopic ver true x) := ⟨_, rfl⟩
  obtain ⟨XU, hXU⟩ : ∃ X, X = uvarS t.u.length := ⟨_, rfl⟩
  obtain ⟨XT, hXT⟩ : ∃ X, X = t.u.flatMap oneTag := ⟨_, rfl⟩
  have hP : partS (d + 4) fs_DescribeProducersResponse ver true t = (X_0 ++ ((XL_1 ++ XE_1) ++ [])) ++ (XU ++ XT) := by rw [hXU, hXT]; exact partS_yes rfl hfu (plainL_has (by decide) hh_0 ((fieldS_num 3 rfl (by decide)).trans hXX_0.symm) (plainL_has (by decide) hh_1 ((fieldS_list_t (g := (fun x => partS (d + 3) fs_DescribeProducersResponseTopic ver true x)) g_1 rfl (by decide) (fun x _ => valueS_part)).trans (by rw [hXL_1, hXE_1])) rfl))
  rw [hP] at hlen
  simp only [List.length_append, List.length_nil] at hlen
  have hdK : ∀ {r : Value} {w' : World} {add : List UInt8}, AppR 5 B w v s add r w' → ∀ b, b < w'.heap.size → OkS okM w.heap.size b → ¬ ownB r b := fun h b _ hk ho => (h.frame b ho).elim (hd b hk.2 hk.1) (fun h => by have := hk.2; omega)
  have ownK : ∀ {r : Value} {w' : World} {add : List UInt8} {b : Nat}, AppR 5 B w v s add r w' → b < w.heap.size → ¬ ownB v b → ¬ ownB r b := fun h hb hn ho => (h.frame _ ho).elim hn (fun h => by omega)
  have ha0 : AppR 5 B w v s [] v w := AppR.refl ho
  obtain ⟨w0, hw0⟩ : ∃ w0, w0 = w := ⟨_, rfl⟩
  have hB0 := hB
  have hv_0 := hv
  refine fn_of_W Tryz.func18 rfl Tryz.results18 Tryz.ntmps18 rfl ?_
  repeat ((first | refine W.seqR rfl ?_ | refine W.seq ?_ | refine W.regR rfl ?_ | refine W.condK ?_ | refine W.block ?_ | refine W.skip ?_ | refine W.ret ?_ | refine W.exit ?_); try simp (maxSteps := 1000000) (disch := (first | omega | (simp only [World.size_alloc, size_wr, size_drew] <;> omega) | exact not_noB _)) only [go_sem, ↓reduceIte, n0, reduceCtorEq, n1, n2, n3, n4, n5, i0, i1, i2, i3, i4, i5, i6, i7, hv_0])
  refine (AppendInt32_fn _ _ _ ha0.own hB0 _ (by simp only [List.length_append, List.length_nil]; omega)).mono ?_
  rintro r1 w1 hc1
  rw [wrap32, ← hXX_0] at hc1
  have ha1 := ha0.trans hc1
  have hB1 : B ≤ w1.heap.size := Nat.le_trans hB ha1.upd.size
  have hv_1 := ha1.upd.blk_some hv hdv
  repeat ((first | refine W.seqR rfl ?_ | refine W.seq ?_ | refine W.regR rfl ?_ | refine W.condK ?_ | refine W.block ?_ | refine W.skip ?_ | refine W.ret ?_ | refine W.exit ?_); try simp (maxSteps := 1000000) (disch := (first | omega | (simp only [World.size_alloc, size_wr, size_drew] <;> omega) | exact not_noB _)) only [go_sem, ↓reduceIte, n0, reduceCtorEq, n1, n2, n3, n4, n5, i0, i1, i2, i3, i4, i5, i6, i7, hv_1])
  refine (AppendCompactArrayLen_fn _ _ _ ha1.own hB1 (t.at 1).l.length hll_1 (by simp only [List.length_append, List.length_nil]; omega)).mono ?_
  rintro r2 w2 hc2
  rw [← hXL_1] at hc2
  have ha2 := ha1.trans hc2
  have hB2 : B ≤ w2.heap.size := Nat.le_trans hB ha2.upd.size
  have hv_2 := ha2.upd.blk_some hv hdv
  repeat ((first | refine W.seqR rfl ?_ | refine W.seq ?_ | refine W.regR rfl ?_ | refine W.condK ?_ | refine W.block ?_ | refine W.skip ?_ | refine W.ret ?_ | refine W.exit ?_); try simp (maxSteps := 1000000) (disch := (first | omega | (simp only [World.size_alloc, size_wr, size_drew] <;> omega) | exact not_noB _)) only [go_sem, ↓reduceIte, n0, reduceCtorEq, n1, n2, n3, n4, n5, i0, i1, i2, i3, i4, i5, i6, i7, hv_2])
  have hadd1 := ha2
  refine W.exitJ 0 (fun ρ w' => ∃ r, ρ 1 = r ∧ ρ 0 = .pointer (some ⟨vb, 0, none⟩) ∧ ρ 5 = .int .i16 ver ∧ ρ 6 = .bool true ∧ AppR 5 B w v s (([] ++ X_0 ++ XL_1) ++ XE_1) r w')
    (W.loop (fun ρ w' => ∃ (j : Nat) (r : Value), j ≤ (t.at 1).l.length ∧ ρ 57 = .int .i64 j ∧ ρ 56 = .int .i64 (t.at 1).l.length ∧ ρ 8 = .slice ab_1 (t.at 1).l.length ac_1 ∧ ρ 1 = r ∧ ρ 0 = .pointer (some ⟨vb, 0, none⟩) ∧ ρ 5 = .int .i16 ver ∧ ρ 6 = .bool true ∧ AppR 5 B w v s (([] ++ X_0 ++ XL_1) ++ ((t.at 1).l.take j).flatMap (fun x => partS (d + 3) fs_DescribeProducersResponseTopic ver true x)) r w')
      (fun ρ _ => (t.at 1).l.length - (RowKit.intOf (ρ 57)).toNat) ?_ ?_) ?_
  · refine ⟨0, _, Nat.zero_le _, ?_, ?_, ?_, ?_, ?_, ?_, ?_, ha2.eqs (by rw [List.take_zero, List.flatMap_nil, List.append_nil])⟩ <;> simp (maxSteps := 1000000) (disch := (first | omega | (simp only [World.size_alloc, size_wr, size_drew] <;> omega) | exact not_noB _)) only [go_sem, ↓reduceIte, n0, reduceCtorEq, n1, n2, n3, n4, n5, i0, i1, i2, i3, i4, i5, i6, i7]
    all_goals rfl
  · rintro ρ w3 ⟨j1, r3, hj1, hI1, hN1, hS1, hr1_1, hr1_0, hr1_5, hr1_6, ha3⟩
    have hB3 : B ≤ w3.heap.size := Nat.le_trans hB ha3.upd.size
    have hv_3 := ha3.upd.blk_some hv hdv
    by_cases hlt1 : j1 < (t.at 1).l.length
    · obtain ⟨_, b1, o1, x1, ce1, hb1, hok1, hx1, hbl1, hxs1, hxe1, hq1, hRe1⟩ := SlR.get (size := 3) (by decide) hs_1 hlt1
      subst hb1
      have hcat1 : (t.at 1).l.take (j1 + 1) = (t.at 1).l.take j1 ++ [(t.at 1).l[j1]] := List.take_succ_eq_append_getElem hlt1
      have htl1 := take_flatMap_len (t.at 1).l (fun x => partS (d + 3) fs_DescribeProducersResponseTopic ver true x) (j1 + 1)
      rw [← hXE_1, hcat1, List.flatMap_append, List.flatMap_cons, List.flatMap_nil, List.append_nil] at htl1
      have hge1 := hgl_1.2 _ (List.getElem_mem hlt1)
      generalize (t.at 1).l[j1] = y1 at *
      have hnx1 := hd b1 hbl1 hok1
      obtain ⟨T1, hTT1⟩ : ∃ T, T = ((t.at 1).l.take j1).flatMap (fun x => partS (d + 3) fs_DescribeProducersResponseTopic ver true x) := ⟨_, rfl⟩
      rw [← hTT1] at ha3 htl1
      have hx1_3 := ha3.upd.blk_some hx1 hnx1
      replace hRe1 : RepS true (d + 3) fs_DescribeProducersResponseTopic okM w y1 ce1 := Rep1_part.1 hRe1
      have hfe1 : FitW ver (d + 3) fs_DescribeProducersResponseTopic y1 := hge1.2 rfl
      obtain ⟨⟨ge1_0, ge1_1, -⟩, hfue1⟩ := hfe1
      replace ge1_0 : hasS fDescribeProducersResponseTopic_0 ver = true → FitWF (FitW ver (d + 2)) ver fDescribeProducersResponseTopic_0 (y1.at 0) := ge1_0
      have hhe1_0 : hasS fDescribeProducersResponseTopic_0 ver = true := hasS_t (by show (0 : Int) ≤ ver; omega) (by show (-1 : Int) < 0 ∨ ver ≤ (-1 : Int); omega)
      replace ge1_0 := ge1_0 hhe1_0
      replace ge1_1 : hasS fDescribeProducersResponseTopic_1 ver = true → FitWF (FitW ver (d + 2)) ver fDescribeProducersResponseTopic_1 (y1.at 1) := ge1_1
      have hhe1_1 : hasS fDescribeProducersResponseTopic_1 ver = true := hasS_t (by show (0 : Int) ≤ ver; omega) (by show (-1 : Int) < 0 ∨ ver ≤ (-1 : Int); omega)
      replace ge1_1 := ge1_1 hhe1_1
      obtain ⟨cse1, qe1, hcse1, hLe1, hTe1⟩ := hRe1.inv
      obtain ⟨ce1_0, ee1_0, rfl, he1_0, ce1_1, ee1_1, rfl, he1_1, rfl⟩ := hLe1
      replace he1_0 : RepF (RepS true (d + 2)) (szS true (d + 2)) fDescribeProducersResponseTopic_0 okM w (y1.at 0) ce1_0 := he1_0
      replace he1_1 : RepF (RepS true (d + 2)) (szS true (d + 2)) fDescribeProducersResponseTopic_1 okM w (y1.at 1) ce1_1 := he1_1
      obtain rfl := (RepF_text rfl (by decide)).1 he1_0
      obtain ⟨pe1_1, rfl, hse1_1⟩ := RepF_listW ge1_1 rfl (by decide) he1_1
      obtain ⟨abe1_1, ace1_1, rfl, _⟩ := SlR.shape hse1_1
      have hgle1_1 := ge1_1.list rfl
      have hlle1_1 := hgle1_1.1
      obtain ⟨qme1, rfl⟩ := hTe1.shape
      subst hcse1
      have hq1_0 : x1.1[o1 + j1 * 3]? = some (strV (y1.at 0).s) := hq1 0 (by decide)
      have hq1_1 : x1.1[o1 + (j1 * 3 + 1)]? = some (.slice abe1_1 (y1.at 1).l.length ace1_1) := hq1 1 (by decide)
      have hq1_2 : x1.1[o1 + (j1 * 3 + 2)]? = some (.map qme1) := hq1 2 (by decide)
      obtain ⟨Xe1_0, hXXe1_0⟩ : ∃ X, X = uvarS ((y1.at 0).s.length + 1) ++ (y1.at 0).s := ⟨_, rfl⟩
      obtain ⟨XLe1_1, hXLe1_1⟩ : ∃ X, X = uvarS ((y1.at 1).l.length + 1) := ⟨_, rfl⟩
      obtain ⟨XEe1_1, hXEe1_1⟩ : ∃ X, X = (y1.at 1).l.flatMap (fun x => partS (d + 2) fs_DescribeProducersResponseTopicPartition ver true x) := ⟨_, rfl⟩
      obtain ⟨XUe1, hXUe1⟩ : ∃ X, X = uvarS y1.u.length := ⟨_, rfl⟩
      obtain ⟨XTe1, hXTe1⟩ : ∃ X, X = y1.u.flatMap oneTag := ⟨_, rfl⟩
      have hPe1 : partS (d + 3) fs_DescribeProducersResponseTopic ver true y1 = (Xe1_0 ++ ((XLe1_1 ++ XEe1_1) ++ [])) ++ (XUe1 ++ XTe1) := by rw [hXUe1, hXTe1]; exact partS_yes rfl hfue1 (plainL_has (by decide) hhe1_0 ((fieldS_text_t ge1_0 rfl (by decide)).trans hXXe1_0.symm) (plainL_has (by decide) hhe1_1 ((fieldS_list_t (g := (fun x => partS (d + 2) fs_DescribeProducersResponseTopicPartition ver true x)) ge1_1 rfl (by decide) (fun x _ => valueS_part)).trans (by rw [hXLe1_1, hXEe1_1])) rfl))
      rw [hPe1] at htl1
      simp only [List.length_append, List.length_nil] at htl1
      repeat ((first | refine W.seqR rfl ?_ | refine W.seq ?_ | refine W.regR rfl ?_ | refine W.condK ?_ | refine W.block ?_ | refine W.skip ?_ | refine W.ret ?_ | refine W.exit ?_); try simp (maxSteps := 1000000) (disch := (first | omega | (simp only [World.size_alloc, size_wr, size_drew] <;> omega) | exact not_noB _)) only [go_sem, ↓reduceIte, n0, reduceCtorEq, n1, n2, n3, n4, n5, i0, i1, i2, i3, i4, i5, i6, i7, hv_3, hx1_3, Int.toNat_natCast, Nat.mul_one, hq1_0, hq1_1, hq1_2, hr1_1, hr1_0, hr1_5, hr1_6, hI1, hN1, hS1])
      refine (AppendCompactString_fn _ _ _ ha3.own hB3 (y1.at 0).s (ge1_0.text (.inl rfl)) (by simp only [List.length_append, List.length_nil]; omega)).mono ?_
      rintro r4 w4 hc4
      rw [← hXXe1_0] at hc4
      have ha4 := ha3.trans hc4
      have hB4 : B ≤ w4.heap.size := Nat.le_trans hB ha4.upd.size
      have hv_4 := ha4.upd.blk_some hv hdv
      have hx1_4 := ha4.upd.blk_some hx1 hnx1
      repeat ((first | refine W.seqR rfl ?_ | refine W.seq ?_ | refine W.regR rfl ?_ | refine W.condK ?_ | refine W.block ?_ | refine W.skip ?_ | refine W.ret ?_ | refine W.exit ?_); try simp (maxSteps := 1000000) (disch := (first | omega | (simp only [World.size_alloc, size_wr, size_drew] <;> omega) | exact not_noB _)) only [go_sem, ↓reduceIte, n0, reduceCtorEq, n1, n2, n3, n4, n5, i0, i1, i2, i3, i4, i5, i6, i7, hv_4, hx1_4, Int.toNat_natCast, Nat.mul_one, hq1_0, hq1_1, hq1_2, hr1_1, hr1_0, hr1_5, hr1_6, hI1, hN1, hS1])
      refine (AppendCompactArrayLen_fn _ _ _ ha4.own hB4 (y1.at 1).l.length hlle1_1 (by simp only [List.length_append, List.length_nil]; omega)).mono ?_
      rintro r5 w5 hc5
      rw [← hXLe1_1] at hc5
      have ha5 := ha4.trans hc5
      have hB5 : B ≤ w5.heap.size := Nat.le_trans hB ha5.upd.size
      have hv_5 := ha5.upd.blk_some hv hdv
      have hx1_5 := ha5.upd.blk_some hx1 hnx1
      repeat ((first | refine W.seqR rfl ?_ | refine W.seq ?_ | refine W.regR rfl ?_ | refine W.condK ?_ | refine W.block ?_ | refine W.skip ?_ | refine W.ret ?_ | refine W.exit ?_); try simp (maxSteps := 1000000) (disch := (first | omega | (simp only [World.size_alloc, size_wr, size_drew] <;> omega) | exact not_noB _)) only [go_sem, ↓reduceIte, n0, reduceCtorEq, n1, n2, n3, n4, n5, i0, i1, i2, i3, i4, i5, i6, i7, hv_5, hx1_5, Int.toNat_natCast, Nat.mul_one, hq1_0, hq1_1, hq1_2, hr1_1, hr1_0, hr1_5, hr1_6, hI1, hN1, hS1])
      have hadd2 := ha5
      refine W.exitJ 2 (fun ρ w' => ∃ r, ρ 1 = r ∧ ρ 0 = .pointer (some ⟨vb, 0, none⟩) ∧ ρ 5 = .int .i16 ver ∧ ρ 6 = .bool true ∧ ρ 57 = .int .i64 j1 ∧ ρ 56 = .int .i64 (t.at 1).l.length ∧ ρ 8 = .slice (some ⟨b1, o1, none⟩) (t.at 1).l.length ac_1 ∧ ρ 10 = .pointer (some ⟨b1, o1 + j1 * 3, none⟩) ∧ AppR 5 B w v s (([] ++ X_0 ++ XL_1 ++ T1 ++ Xe1_0 ++ XLe1_1) ++ XEe1_1) r w')
        (W.loop (fun ρ w' => ∃ (j : Nat) (r : Value), j ≤ (y1.at 1).l.length ∧ ρ 89 = .int .i64 j ∧ ρ 88 = .int .i64 (y1.at 1).l.length ∧ ρ 12 = .slice abe1_1 (y1.at 1).l.length ace1_1 ∧ ρ 1 = r ∧ ρ 0 = .pointer (some ⟨vb, 0, none⟩) ∧ ρ 5 = .int .i16 ver ∧ ρ 6 = .bool true ∧ ρ 57 = .int .i64 j1 ∧ ρ 56 = .int .i64 (t.at 1).l.length ∧ ρ 8 = .slice (some ⟨b1, o1, none⟩) (t.at 1).l.length ac_1 ∧ ρ 10 = .pointer (some ⟨b1, o1 + j1 * 3, none⟩) ∧ AppR 5 B w v s (([] ++ X_0 ++ XL_1 ++ T1 ++ Xe1_0 ++ XLe1_1) ++ ((y1.at 1).l.take j).flatMap (fun x => partS (d + 2) fs_DescribeProducersResponseTopicPartition ver true x)) r w')
          (fun ρ _ => (y1.at 1).l.length - (RowKit.intOf (ρ 89)).toNat) ?_ ?_) ?_
      · refine ⟨0, _, Nat.zero_le _, ?_, ?_, ?_, ?_, ?_, ?_, ?_, ?_, ?_, ?_, ?_, ha5.eqs (by rw [List.take_zero, List.flatMap_nil, List.append_nil])⟩ <;> simp (maxSteps := 1000000) (disch := (first | omega | (simp only [World.size_alloc, size_wr, size_drew] <;> omega) | exact not_noB _)) only [go_sem, ↓reduceIte, n0, reduceCtorEq, n1, n2, n3, n4, n5, i0, i1, i2, i3, i4, i5, i6, i7, hr1_1, hr1_0, hr1_5, hr1_6, hI1, hN1, hS1]
        all_goals rfl
      · rintro ρ w6 ⟨j2, r6, hj2, hI2, hN2, hS2, hr1_2, hr2_0, hr2_5, hr2_6, hr2_57, hr2_56, hr2_8, hr2_10, ha6⟩
        have hB6 : B ≤ w6.heap.size := Nat.le_trans hB ha6.upd.size
        have hv_6 := ha6.upd.blk_some hv hdv
        have hx1_6 := ha6.upd.blk_some hx1 hnx1
        by_cases hlt2 : j2 < (y1.at 1).l.length
        · obtain ⟨_, b2, o2, x2, ce2, hb2, hok2, hx2, hbl2, hxs2, hxe2, hq2, hRe2⟩ := SlR.get (size := 5) (by decide) hse1_1 hlt2
          subst hb2
          have hcat2 : (y1.at 1).l.take (j2 + 1) = (y1.at 1).l.take j2 ++ [(y1.at 1).l[j2]] := List.take_succ_eq_append_getElem hlt2
          have htl2 := take_flatMap_len (y1.at 1).l (fun x => partS (d + 2) fs_DescribeProducersResponseTopicPartition ver true x) (j2 + 1)
          rw [← hXEe1_1, hcat2, List.flatMap_append, List.flatMap_cons, List.flatMap_nil, List.append_nil] at htl2
          have hge2 := hgle1_1.2 _ (List.getElem_mem hlt2)
          generalize (y1.at 1).l[j2] = y2 at *
          have hnx2 := hd b2 hbl2 hok2
          obtain ⟨T2, hTT2⟩ : ∃ T, T = ((y1.at 1).l.take j2).flatMap (fun x => partS (d + 2) fs_DescribeProducersResponseTopicPartition ver true x) := ⟨_, rfl⟩
          rw [← hTT2] at ha6 htl2
          have hx2_6 := ha6.upd.blk_some hx2 hnx2
          replace hRe2 : RepS true (d + 2) fs_DescribeProducersResponseTopicPartition okM w y2 ce2 := Rep1_part.1 hRe2
          have hfe2 : FitW ver (d + 2) fs_DescribeProducersResponseTopicPartition y2 := hge2.2 rfl
          obtain ⟨⟨ge2_0, ge2_1, ge2_2, ge2_3, -⟩, hfue2⟩ := hfe2
          replace ge2_0 : hasS fDescribeProducersResponseTopicPartition_0 ver = true → FitWF (FitW ver (d + 1)) ver fDescribeProducersResponseTopicPartition_0 (y2.at 0) := ge2_0
          have hhe2_0 : hasS fDescribeProducersResponseTopicPartition_0 ver = true := hasS_t (by show (0 : Int) ≤ ver; omega) (by show (-1 : Int) < 0 ∨ ver ≤ (-1 : Int); omega)
          replace ge2_0 := ge2_0 hhe2_0
          replace ge2_1 : hasS fDescribeProducersResponseTopicPartition_1 ver = true → FitWF (FitW ver (d + 1)) ver fDescribeProducersResponseTopicPartition_1 (y2.at 1) := ge2_1
          have hhe2_1 : hasS fDescribeProducersResponseTopicPartition_1 ver = true := hasS_t (by show (0 : Int) ≤ ver; omega) (by show (-1 : Int) < 0 ∨ ver ≤ (-1 : Int); omega)
          replace ge2_1 := ge2_1 hhe2_1
          replace ge2_2 : hasS fDescribeProducersResponseTopicPartition_2 ver = true → FitWF (FitW ver (d + 1)) ver fDescribeProducersResponseTopicPartition_2 (y2.at 2) := ge2_2
          have hhe2_2 : hasS fDescribeProducersResponseTopicPartition_2 ver = true := hasS_t (by show (0 : Int) ≤ ver; omega) (by show (-1 : Int) < 0 ∨ ver ≤ (-1 : Int); omega)
          replace ge2_2 := ge2_2 hhe2_2
          replace ge2_3 : hasS fDescribeProducersResponseTopicPartition_3 ver = true → FitWF (FitW ver (d + 1)) ver fDescribeProducersResponseTopicPartition_3 (y2.at 3) := ge2_3
          have hhe2_3 : hasS fDescribeProducersResponseTopicPartition_3 ver = true := hasS_t (by show (0 : Int) ≤ ver; omega) (by show (-1 : Int) < 0 ∨ ver ≤ (-1 : Int); omega)
          replace ge2_3 := ge2_3 hhe2_3
          obtain ⟨cse2, qe2, hcse2, hLe2, hTe2⟩ := hRe2.inv
          obtain ⟨ce2_0, ee2_0, rfl, he2_0, ce2_1, ee2_1, rfl, he2_1, ce2_2, ee2_2, rfl, he2_2, ce2_3, ee2_3, rfl, he2_3, rfl⟩ := hLe2
          replace he2_0 : RepF (RepS true (d + 1)) (szS true (d + 1)) fDescribeProducersResponseTopicPartition_0 okM w (y2.at 0) ce2_0 := he2_0
          replace he2_1 : RepF (RepS true (d + 1)) (szS true (d + 1)) fDescribeProducersResponseTopicPartition_1 okM w (y2.at 1) ce2_1 := he2_1
          replace he2_2 : RepF (RepS true (d + 1)) (szS true (d + 1)) fDescribeProducersResponseTopicPartition_2 okM w (y2.at 2) ce2_2 := he2_2
          replace he2_3 : RepF (RepS true (d + 1)) (szS true (d + 1)) fDescribeProducersResponseTopicPartition_3 okM w (y2.at 3) ce2_3 := he2_3
          obtain rfl := (RepF_num (by decide)).1 he2_0
          obtain rfl := (RepF_num (by decide)).1 he2_1
          obtain ⟨pe2_2, rfl, hpe2_2⟩ := (RepF_ptr rfl (by decide)).1 he2_2
          obtain ⟨pe2_3, rfl, hse2_3⟩ := RepF_listW ge2_3 rfl (by decide) he2_3
          obtain ⟨abe2_3, ace2_3, rfl, _⟩ := SlR.shape hse2_3
          have hgle2_3 := ge2_3.list rfl
          have hlle2_3 := hgle2_3.1
          obtain ⟨qme2, rfl⟩ := hTe2.shape
          subst hcse2
          have hq2_0 : x2.1[o2 + j2 * 5]? = some (.int .i32 (IntKind.i32.wrap (y2.at 0).n)) := hq2 0 (by decide)
          have hq2_1 : x2.1[o2 + (j2 * 5 + 1)]? = some (.int .i16 (IntKind.i16.wrap (y2.at 1).n)) := hq2 1 (by decide)
          have hq2_2 : x2.1[o2 + (j2 * 5 + 2)]? = some (pe2_2) := hq2 2 (by decide)
          have hq2_3 : x2.1[o2 + (j2 * 5 + 3)]? = some (.slice abe2_3 (y2.at 3).l.length ace2_3) := hq2 3 (by decide)
          have hq2_4 : x2.1[o2 + (j2 * 5 + 4)]? = some (.map qme2) := hq2 4 (by decide)
          obtain ⟨Xe2_0, hXXe2_0⟩ : ∃ X, X = fixedS (y2.at 0).n 4 := ⟨_, rfl⟩
          obtain ⟨Xe2_1, hXXe2_1⟩ : ∃ X, X = fixedS (y2.at 1).n 2 := ⟨_, rfl⟩
          obtain ⟨Xe2_2, hXXe2_2⟩ : ∃ X, X = if (y2.at 2).null = true then [0] else uvarS ((y2.at 2).s.length + 1) ++ (y2.at 2).s := ⟨_, rfl⟩
          obtain ⟨XLe2_3, hXLe2_3⟩ : ∃ X, X = uvarS ((y2.at 3).l.length + 1) := ⟨_, rfl⟩
          obtain ⟨XEe2_3, hXEe2_3⟩ : ∃ X, X = (y2.at 3).l.flatMap (fun x => partS (d + 1) fs_DescribeProducersResponseTopicPartitionActiveProducer ver true x) := ⟨_, rfl⟩
          obtain ⟨XUe2, hXUe2⟩ : ∃ X, X = uvarS y2.u.length := ⟨_, rfl⟩
          obtain ⟨XTe2, hXTe2⟩ : ∃ X, X = y2.u.flatMap oneTag := ⟨_, rfl⟩
          have hPe2 : partS (d + 2) fs_DescribeProducersResponseTopicPartition ver true y2 = (Xe2_0 ++ (Xe2_1 ++ (Xe2_2 ++ ((XLe2_3 ++ XEe2_3) ++ [])))) ++ (XUe2 ++ XTe2) := by rw [hXUe2, hXTe2]; exact partS_yes rfl hfue2 (plainL_has (by decide) hhe2_0 ((fieldS_num 3 rfl (by decide)).trans hXXe2_0.symm) (plainL_has (by decide) hhe2_1 ((fieldS_num 2 rfl (by decide)).trans hXXe2_1.symm) (plainL_has (by decide) hhe2_2 ((fieldS_ptr_t ge2_2 rfl (by decide)).trans hXXe2_2.symm) (plainL_has (by decide) hhe2_3 ((fieldS_list_t (g := (fun x => partS (d + 1) fs_DescribeProducersResponseTopicPartitionActiveProducer ver true x)) ge2_3 rfl (by decide) (fun x _ => valueS_part)).trans (by rw [hXLe2_3, hXEe2_3])) rfl))))
          rw [hPe2] at htl2
          simp only [List.length_append, List.length_nil] at htl2
          repeat ((first | refine W.seqR rfl ?_ | refine W.seq ?_ | refine W.regR rfl ?_ | refine W.condK ?_ | refine W.block ?_ | refine W.skip ?_ | refine W.ret ?_ | refine W.exit ?_); try simp (maxSteps := 1000000) (disch := (first | omega | (simp only [World.size_alloc, size_wr, size_drew] <;> omega) | exact not_noB _)) only [go_sem, ↓reduceIte, n0, reduceCtorEq, n1, n2, n3, n4, n5, i0, i1, i2, i3, i4, i5, i6, i7, hv_6, hx1_6, hx2_6, Int.toNat_natCast, Nat.mul_one, hq1_0, hq1_1, hq1_2, hq2_0, hq2_1, hq2_2, hq2_3, hq2_4, hr1_2, hr2_0, hr2_5, hr2_6, hr2_57, hr2_56, hr2_8, hr2_10, hI2, hN2, hS2])
          refine (AppendInt32_fn _ _ _ ha6.own hB6 _ (by simp only [List.length_append, List.length_nil]; omega)).mono ?_
          rintro r7 w7 hc7
          rw [wrap32, ← hXXe2_0] at hc7
          have ha7 := ha6.trans hc7
          have hB7 : B ≤ w7.heap.size := Nat.le_trans hB ha7.upd.size
          have hv_7 := ha7.upd.blk_some hv hdv
          have hx1_7 := ha7.upd.blk_some hx1 hnx1
          have hx2_7 := ha7.upd.blk_some hx2 hnx2
          repeat ((first | refine W.seqR rfl ?_ | refine W.seq ?_ | refine W.regR rfl ?_ | refine W.condK ?_ | refine W.block ?_ | refine W.skip ?_ | refine W.ret ?_ | refine W.exit ?_); try simp (maxSteps := 1000000) (disch := (first | omega | (simp only [World.size_alloc, size_wr, size_drew] <;> omega) | exact not_noB _)) only [go_sem, ↓reduceIte, n0, reduceCtorEq, n1, n2, n3, n4, n5, i0, i1, i2, i3, i4, i5, i6, i7, hv_7, hx1_7, hx2_7, Int.toNat_natCast, Nat.mul_one, hq1_0, hq1_1, hq1_2, hq2_0, hq2_1, hq2_2, hq2_3, hq2_4, hr1_2, hr2_0, hr2_5, hr2_6, hr2_57, hr2_56, hr2_8, hr2_10, hI2, hN2, hS2])
          refine (AppendInt16_fn _ _ _ ha7.own hB7 _ (by simp only [List.length_append, List.length_nil]; omega)).mono ?_
          rintro r8 w8 hc8
          rw [wrap16, ← hXXe2_1] at hc8
          have ha8 := ha7.trans hc8
          have hB8 : B ≤ w8.heap.size := Nat.le_trans hB ha8.upd.size
          have hv_8 := ha8.upd.blk_some hv hdv
          have hx1_8 := ha8.upd.blk_some hx1 hnx1
          have hx2_8 := ha8.upd.blk_some hx2 hnx2
          repeat ((first | refine W.seqR rfl ?_ | refine W.seq ?_ | refine W.regR rfl ?_ | refine W.condK ?_ | refine W.block ?_ | refine W.skip ?_ | refine W.ret ?_ | refine W.exit ?_); try simp (maxSteps := 1000000) (disch := (first | omega | (simp only [World.size_alloc, size_wr, size_drew] <;> omega) | exact not_noB _)) only [go_sem, ↓reduceIte, n0, reduceCtorEq, n1, n2, n3, n4, n5, i0, i1, i2, i3, i4, i5, i6, i7, hv_8, hx1_8, hx2_8, Int.toNat_natCast, Nat.mul_one, hq1_0, hq1_1, hq1_2, hq2_0, hq2_1, hq2_2, hq2_3, hq2_4, hr1_2, hr2_0, hr2_5, hr2_6, hr2_57, hr2_56, hr2_8, hr2_10, hI2, hN2, hS2])
          refine (AppendCompactNullableString_fn (ok := okM) _ _ _ ha8.own hB8 _ (y2.at 2).null (y2.at 2).s (hpe2_2.keep (ha8.upd.keeps hd)) (ge2_2.text (.inl rfl)) (by simp only [List.length_append, List.length_nil]; omega)).mono ?_
          rintro r9 w9 hc9
          rw [← hXXe2_2] at hc9
          have ha9 := ha8.trans hc9
          have hB9 : B ≤ w9.heap.size := Nat.le_trans hB ha9.upd.size
          have hv_9 := ha9.upd.blk_some hv hdv
          have hx1_9 := ha9.upd.blk_some hx1 hnx1
          have hx2_9 := ha9.upd.blk_some hx2 hnx2
          repeat ((first | refine W.seqR rfl ?_ | refine W.seq ?_ | refine W.regR rfl ?_ | refine W.condK ?_ | refine W.block ?_ | refine W.skip ?_ | refine W.ret ?_ | refine W.exit ?_); try simp (maxSteps := 1000000) (disch := (first | omega | (simp only [World.size_alloc, size_wr, size_drew] <;> omega) | exact not_noB _)) only [go_sem, ↓reduceIte, n0, reduceCtorEq, n1, n2, n3, n4, n5, i0, i1, i2, i3, i4, i5, i6, i7, hv_9, hx1_9, hx2_9, Int.toNat_natCast, Nat.mul_one, hq1_0, hq1_1, hq1_2, hq2_0, hq2_1, hq2_2, hq2_3, hq2_4, hr1_2, hr2_0, hr2_5, hr2_6, hr2_57, hr2_56, hr2_8, hr2_10, hI2, hN2, hS2])
          refine (AppendCompactArrayLen_fn _ _ _ ha9.own hB9 (y2.at 3).l.length hlle2_3 (by simp only [List.length_append, List.length_nil]; omega)).mono ?_
          rintro r10 w10 hc10
          rw [← hXLe2_3] at hc10
          have ha10 := ha9.trans hc10
          have hB10 : B ≤ w10.heap.size := Nat.le_trans hB ha10.upd.size
          have hv_10 := ha10.upd.blk_some hv hdv
          have hx1_10 := ha10.upd.blk_some hx1 hnx1
          have hx2_10 := ha10.upd.blk_some hx2 hnx2
          repeat ((first | refine W.seqR rfl ?_ | refine W.seq ?_ | refine W.regR rfl ?_ | refine W.condK ?_ | refine W.block ?_ | refine W.skip ?_ | refine W.ret ?_ | refine W.exit ?_); try simp (maxSteps := 1000000) (disch := (first | omega | (simp only [World.size_alloc, size_wr, size_drew] <;> omega) | exact not_noB _)) only [go_sem, ↓reduceIte, n0, reduceCtorEq, n1, n2, n3, n4, n5, i0, i1, i2, i3, i4, i5, i6, i7, hv_10, hx1_10, hx2_10, Int.toNat_natCast, Nat.mul_one, hq1_0, hq1_1, hq1_2, hq2_0, hq2_1, hq2_2, hq2_3, hq2_4, hr1_2, hr2_0, hr2_5, hr2_6, hr2_57, hr2_56, hr2_8, hr2_10, hI2, hN2, hS2])
          have hadd3 := ha10
          refine W.exitJ 4 (fun ρ w' => ∃ r, ρ 1 = r ∧ ρ 0 = .pointer (some ⟨vb, 0, none⟩) ∧ ρ 5 = .int .i16 ver ∧ ρ 6 = .bool true ∧ ρ 57 = .int .i64 j1 ∧ ρ 56 = .int .i64 (t.at 1).l.length ∧ ρ 8 = .slice (some ⟨b1, o1, none⟩) (t.at 1).l.length ac_1 ∧ ρ 10 = .pointer (some ⟨b1, o1 + j1 * 3, none⟩) ∧ ρ 89 = .int .i64 j2 ∧ ρ 88 = .int .i64 (y1.at 1).l.length ∧ ρ 12 = .slice (some ⟨b2, o2, none⟩) (y1.at 1).l.length ace1_1 ∧ ρ 14 = .pointer (some ⟨b2, o2 + j2 * 5, none⟩) ∧ AppR 5 B w v s (([] ++ X_0 ++ XL_1 ++ T1 ++ Xe1_0 ++ XLe1_1 ++ T2 ++ Xe2_0 ++ Xe2_1 ++ Xe2_2 ++ XLe2_3) ++ XEe2_3) r w')
            (W.loop (fun ρ w' => ∃ (j : Nat) (r : Value), j ≤ (y2.at 3).l.length ∧ ρ 135 = .int .i64 j ∧ ρ 134 = .int .i64 (y2.at 3).l.length ∧ ρ 18 = .slice abe2_3 (y2.at 3).l.length ace2_3 ∧ ρ 1 = r ∧ ρ 0 = .pointer (some ⟨vb, 0, none⟩) ∧ ρ 5 = .int .i16 ver ∧ ρ 6 = .bool true ∧ ρ 57 = .int .i64 j1 ∧ ρ 56 = .int .i64 (t.at 1).l.length ∧ ρ 8 = .slice (some ⟨b1, o1, none⟩) (t.at 1).l.length ac_1 ∧ ρ 10 = .pointer (some ⟨b1, o1 + j1 * 3, none⟩) ∧ ρ 89 = .int .i64 j2 ∧ ρ 88 = .int .i64 (y1.at 1).l.length ∧ ρ 12 = .slice (some ⟨b2, o2, none⟩) (y1.at 1).l.length ace1_1 ∧ ρ 14 = .pointer (some ⟨b2, o2 + j2 * 5, none⟩) ∧ AppR 5 B w v s (([] ++ X_0 ++ XL_1 ++ T1 ++ Xe1_0 ++ XLe1_1 ++ T2 ++ Xe2_0 ++ Xe2_1 ++ Xe2_2 ++ XLe2_3) ++ ((y2.at 3).l.take j).flatMap (fun x => partS (d + 1) fs_DescribeProducersResponseTopicPartitionActiveProducer ver true x)) r w')
              (fun ρ _ => (y2.at 3).l.length - (RowKit.intOf (ρ 135)).toNat) ?_ ?_) ?_
          · refine ⟨0, _, Nat.zero_le _, ?_, ?_, ?_, ?_, ?_, ?_, ?_, ?_, ?_, ?_, ?_, ?_, ?_, ?_, ?_, ha10.eqs (by rw [List.take_zero, List.flatMap_nil, List.append_nil])⟩ <;> simp (maxSteps := 1000000) (disch := (first | omega | (simp only [World.size_alloc, size_wr, size_drew] <;> omega) | exact not_noB _)) only [go_sem, ↓reduceIte, n0, reduceCtorEq, n1, n2, n3, n4, n5, i0, i1, i2, i3, i4, i5, i6, i7, hr1_2, hr2_0, hr2_5, hr2_6, hr2_57, hr2_56, hr2_8, hr2_10, hI2, hN2, hS2]
            all_goals rfl
          · rintro ρ w11 ⟨j3, r11, hj3, hI3, hN3, hS3, hr1_3, hr3_0, hr3_5, hr3_6, hr3_57, hr3_56, hr3_8, hr3_10, hr3_89, hr3_88, hr3_12, hr3_14, ha11⟩
            have hB11 : B ≤ w11.heap.size := Nat.le_trans hB ha11.upd.size
            have hv_11 := ha11.upd.blk_some hv hdv
            have hx1_11 := ha11.upd.blk_some hx1 hnx1
            have hx2_11 := ha11.upd.blk_some hx2 hnx2
            by_cases hlt3 : j3 < (y2.at 3).l.length
            · obtain ⟨_, b3, o3, x3, ce3, hb3, hok3, hx3, hbl3, hxs3, hxe3, hq3, hRe3⟩ := SlR.get (size := 7) (by decide) hse2_3 hlt3
              subst hb3
              have hcat3 : (y2.at 3).l.take (j3 + 1) = (y2.at 3).l.take j3 ++ [(y2.at 3).l[j3]] := List.take_succ_eq_append_getElem hlt3
              have htl3 := take_flatMap_len (y2.at 3).l (fun x => partS (d + 1) fs_DescribeProducersResponseTopicPartitionActiveProducer ver true x) (j3 + 1)
              rw [← hXEe2_3, hcat3, List.flatMap_append, List.flatMap_cons, List.flatMap_nil, List.append_nil] at htl3
              have hge3 := hgle2_3.2 _ (List.getElem_mem hlt3)
              generalize (y2.at 3).l[j3] = y3 at *
              have hnx3 := hd b3 hbl3 hok3
              obtain ⟨T3, hTT3⟩ : ∃ T, T = ((y2.at 3).l.take j3).flatMap (fun x => partS (d + 1) fs_DescribeProducersResponseTopicPartitionActiveProducer ver true x) := ⟨_, rfl⟩
              rw [← hTT3] at ha11 htl3
              have hx3_11 := ha11.upd.blk_some hx3 hnx3
              replace hRe3 : RepS true (d + 1) fs_DescribeProducersResponseTopicPartitionActiveProducer okM w y3 ce3 := Rep1_part.1 hRe3
              have hfe3 : FitW ver (d + 1) fs_DescribeProducersResponseTopicPartitionActiveProducer y3 := hge3.2 rfl
              obtain ⟨⟨ge3_0, ge3_1, ge3_2, ge3_3, ge3_4, ge3_5, -⟩, hfue3⟩ := hfe3
              replace ge3_0 : hasS fDescribeProducersResponseTopicPartitionActiveProducer_0 ver = true → FitWF (FitW ver d) ver fDescribeProducersResponseTopicPartitionActiveProducer_0 (y3.at 0) := ge3_0
              have hhe3_0 : hasS fDescribeProducersResponseTopicPartitionActiveProducer_0 ver = true := hasS_t (by show (0 : Int) ≤ ver; omega) (by show (-1 : Int) < 0 ∨ ver ≤ (-1 : Int); omega)
              replace ge3_0 := ge3_0 hhe3_0
              replace ge3_1 : hasS fDescribeProducersResponseTopicPartitionActiveProducer_1 ver = true → FitWF (FitW ver d) ver fDescribeProducersResponseTopicPartitionActiveProducer_1 (y3.at 1) := ge3_1
              have hhe3_1 : hasS fDescribeProducersResponseTopicPartitionActiveProducer_1 ver = true := hasS_t (by show (0 : Int) ≤ ver; omega) (by show (-1 : Int) < 0 ∨ ver ≤ (-1 : Int); omega)
              replace ge3_1 := ge3_1 hhe3_1
              replace ge3_2 : hasS fDescribeProducersResponseTopicPartitionActiveProducer_2 ver = true → FitWF (FitW ver d) ver fDescribeProducersResponseTopicPartitionActiveProducer_2 (y3.at 2) := ge3_2
              have hhe3_2 : hasS fDescribeProducersResponseTopicPartitionActiveProducer_2 ver = true := hasS_t (by show (0 : Int) ≤ ver; omega) (by show (-1 : Int) < 0 ∨ ver ≤ (-1 : Int); omega)
              replace ge3_2 := ge3_2 hhe3_2
              replace ge3_3 : hasS fDescribeProducersResponseTopicPartitionActiveProducer_3 ver = true → FitWF (FitW ver d) ver fDescribeProducersResponseTopicPartitionActiveProducer_3 (y3.at 3) := ge3_3
              have hhe3_3 : hasS fDescribeProducersResponseTopicPartitionActiveProducer_3 ver = true := hasS_t (by show (0 : Int) ≤ ver; omega) (by show (-1 : Int) < 0 ∨ ver ≤ (-1 : Int); omega)
              replace ge3_3 := ge3_3 hhe3_3
              replace ge3_4 : hasS fDescribeProducersResponseTopicPartitionActiveProducer_4 ver = true → FitWF (FitW ver d) ver fDescribeProducersResponseTopicPartitionActiveProducer_4 (y3.at 4) := ge3_4
              have hhe3_4 : hasS fDescribeProducersResponseTopicPartitionActiveProducer_4 ver = true := hasS_t (by show (0 : Int) ≤ ver; omega) (by show (-1 : Int) < 0 ∨ ver ≤ (-1 : Int); omega)
              replace ge3_4 := ge3_4 hhe3_4
              replace ge3_5 : hasS fDescribeProducersResponseTopicPartitionActiveProducer_5 ver = true → FitWF (FitW ver d) ver fDescribeProducersResponseTopicPartitionActiveProducer_5 (y3.at 5) := ge3_5
              have hhe3_5 : hasS fDescribeProducersResponseTopicPartitionActiveProducer_5 ver = true := hasS_t (by show (0 : Int) ≤ ver; omega) (by show (-1 : Int) < 0 ∨ ver ≤ (-1 : Int); omega)
              replace ge3_5 := ge3_5 hhe3_5
              obtain ⟨cse3, qe3, hcse3, hLe3, hTe3⟩ := hRe3.inv
              obtain ⟨ce3_0, ee3_0, rfl, he3_0, ce3_1, ee3_1, rfl, he3_1, ce3_2, ee3_2, rfl, he3_2, ce3_3, ee3_3, rfl, he3_3, ce3_4, ee3_4, rfl, he3_4, ce3_5, ee3_5, rfl, he3_5, rfl⟩ := hLe3
              replace he3_0 : RepF (RepS true d) (szS true d) fDescribeProducersResponseTopicPartitionActiveProducer_0 okM w (y3.at 0) ce3_0 := he3_0
              replace he3_1 : RepF (RepS true d) (szS true d) fDescribeProducersResponseTopicPartitionActiveProducer_1 okM w (y3.at 1) ce3_1 := he3_1
              replace he3_2 : RepF (RepS true d) (szS true d) fDescribeProducersResponseTopicPartitionActiveProducer_2 okM w (y3.at 2) ce3_2 := he3_2
              replace he3_3 : RepF (RepS true d) (szS true d) fDescribeProducersResponseTopicPartitionActiveProducer_3 okM w (y3.at 3) ce3_3 := he3_3
              replace he3_4 : RepF (RepS true d) (szS true d) fDescribeProducersResponseTopicPartitionActiveProducer_4 okM w (y3.at 4) ce3_4 := he3_4
              replace he3_5 : RepF (RepS true d) (szS true d) fDescribeProducersResponseTopicPartitionActiveProducer_5 okM w (y3.at 5) ce3_5 := he3_5
              obtain rfl := (RepF_num (by decide)).1 he3_0
              obtain rfl := (RepF_num (by decide)).1 he3_1
              obtain rfl := (RepF_num (by decide)).1 he3_2
              obtain rfl := (RepF_num (by decide)).1 he3_3
              obtain rfl := (RepF_num (by decide)).1 he3_4
              obtain rfl := (RepF_num (by decide)).1 he3_5
              obtain ⟨qme3, rfl⟩ := hTe3.shape
              subst hcse3
              have hq3_0 : x3.1[o3 + j3 * 7]? = some (.int .i64 (y3.at 0).n) := hq3 0 (by decide)
              have hq3_1 : x3.1[o3 + (j3 * 7 + 1)]? = some (.int .i32 (IntKind.i32.wrap (y3.at 1).n)) := hq3 1 (by decide)
              have hq3_2 : x3.1[o3 + (j3 * 7 + 2)]? = some (.int .i32 (IntKind.i32.wrap (y3.at 2).n)) := hq3 2 (by decide)
              have hq3_3 : x3.1[o3 + (j3 * 7 + 3)]? = some (.int .i64 (y3.at 3).n) := hq3 3 (by decide)
              have hq3_4 : x3.1[o3 + (j3 * 7 + 4)]? = some (.int .i32 (IntKind.i32.wrap (y3.at 4).n)) := hq3 4 (by decide)
              have hq3_5 : x3.1[o3 + (j3 * 7 + 5)]? = some (.int .i64 (y3.at 5).n) := hq3 5 (by decide)
              have hq3_6 : x3.1[o3 + (j3 * 7 + 6)]? = some (.map qme3) := hq3 6 (by decide)
              obtain ⟨Xe3_0, hXXe3_0⟩ : ∃ X, X = fixedS (y3.at 0).n 8 := ⟨_, rfl⟩
              obtain ⟨Xe3_1, hXXe3_1⟩ : ∃ X, X = fixedS (y3.at 1).n 4 := ⟨_, rfl⟩
              obtain ⟨Xe3_2, hXXe3_2⟩ : ∃ X, X = fixedS (y3.at 2).n 4 := ⟨_, rfl⟩
              obtain ⟨Xe3_3, hXXe3_3⟩ : ∃ X, X = fixedS (y3.at 3).n 8 := ⟨_, rfl⟩
              obtain ⟨Xe3_4, hXXe3_4⟩ : ∃ X, X = fixedS (y3.at 4).n 4 := ⟨_, rfl⟩
              obtain ⟨Xe3_5, hXXe3_5⟩ : ∃ X, X = fixedS (y3.at 5).n 8 := ⟨_, rfl⟩
              obtain ⟨XUe3, hXUe3⟩ : ∃ X, X = uvarS y3.u.length := ⟨_, rfl⟩
              obtain ⟨XTe3, hXTe3⟩ : ∃ X, X = y3.u.flatMap oneTag := ⟨_, rfl⟩
              have hPe3 : partS (d + 1) fs_DescribeProducersResponseTopicPartitionActiveProducer ver true y3 = (Xe3_0 ++ (Xe3_1 ++ (Xe3_2 ++ (Xe3_3 ++ (Xe3_4 ++ (Xe3_5 ++ [])))))) ++ (XUe3 ++ XTe3) := by rw [hXUe3, hXTe3]; exact partS_yes rfl hfue3 (plainL_has (by decide) hhe3_0 ((fieldS_num 4 rfl (by decide)).trans hXXe3_0.symm) (plainL_has (by decide) hhe3_1 ((fieldS_num 3 rfl (by decide)).trans hXXe3_1.symm) (plainL_has (by decide) hhe3_2 ((fieldS_num 3 rfl (by decide)).trans hXXe3_2.symm) (plainL_has (by decide) hhe3_3 ((fieldS_num 4 rfl (by decide)).trans hXXe3_3.symm) (plainL_has (by decide) hhe3_4 ((fieldS_num 3 rfl (by decide)).trans hXXe3_4.symm) (plainL_has (by decide) hhe3_5 ((fieldS_num 4 rfl (by decide)).trans hXXe3_5.symm) rfl))))))
              rw [hPe3] at htl3
              simp only [List.length_append, List.length_nil] at htl3
              repeat ((first | refine W.seqR rfl ?_ | refine W.seq ?_ | refine W.regR rfl ?_ | refine W.condK ?_ | refine W.block ?_ | refine W.skip ?_ | refine W.ret ?_ | refine W.exit ?_); try simp (maxSteps := 1000000) (disch := (first | omega | (simp only [World.size_alloc, size_wr, size_drew] <;> omega) | exact not_noB _)) only [go_sem, ↓reduceIte, n0, reduceCtorEq, n1, n2, n3, n4, n5, i0, i1, i2, i3, i4, i5, i6, i7, hv_11, hx1_11, hx2_11, hx3_11, Int.toNat_natCast, Nat.mul_one, hq1_0, hq1_1, hq1_2, hq2_0, hq2_1, hq2_2, hq2_3, hq2_4, hq3_0, hq3_1, hq3_2, hq3_3, hq3_4, hq3_5, hq3_6, hr1_3, hr3_0, hr3_5, hr3_6, hr3_57, hr3_56, hr3_8, hr3_10, hr3_89, hr3_88, hr3_12, hr3_14, hI3, hN3, hS3])
              refine (AppendInt64_fn _ _ _ ha11.own hB11 _ (by simp only [List.length_append, List.length_nil]; omega)).mono ?_
              rintro r12 w12 hc12
              rw [← hXXe3_0] at hc12
              have ha12 := ha11.trans hc12
              have hB12 : B ≤ w12.heap.size := Nat.le_trans hB ha12.upd.size
              have hv_12 := ha12.upd.blk_some hv hdv
              have hx1_12 := ha12.upd.blk_some hx1 hnx1
              have hx2_12 := ha12.upd.blk_some hx2 hnx2
              have hx3_12 := ha12.upd.blk_some hx3 hnx3
              repeat ((first | refine W.seqR rfl ?_ | refine W.seq ?_ | refine W.regR rfl ?_ | refine W.condK ?_ | refine W.block ?_ | refine W.skip ?_ | refine W.ret ?_ | refine W.exit ?_); try simp (maxSteps := 1000000) (disch := (first | omega | (simp only [World.size_alloc, size_wr, size_drew] <;> omega) | exact not_noB _)) only [go_sem, ↓reduceIte, n0, reduceCtorEq, n1, n2, n3, n4, n5, i0, i1, i2, i3, i4, i5, i6, i7, hv_12, hx1_12, hx2_12, hx3_12, Int.toNat_natCast, Nat.mul_one, hq1_0, hq1_1, hq1_2, hq2_0, hq2_1, hq2_2, hq2_3, hq2_4, hq3_0, hq3_1, hq3_2, hq3_3, hq3_4, hq3_5, hq3_6, hr1_3, hr3_0, hr3_5, hr3_6, hr3_57, hr3_56, hr3_8, hr3_10, hr3_89, hr3_88, hr3_12, hr3_14, hI3, hN3, hS3])
              refine (AppendInt32_fn _ _ _ ha12.own hB12 _ (by simp only [List.length_append, List.length_nil]; omega)).mono ?_
              rintro r13 w13 hc13
              rw [wrap32, ← hXXe3_1] at hc13
              have ha13 := ha12.trans hc13
              have hB13 : B ≤ w13.heap.size := Nat.le_trans hB ha13.upd.size
              have hv_13 := ha13.upd.blk_some hv hdv
              have hx1_13 := ha13.upd.blk_some hx1 hnx1
              have hx2_13 := ha13.upd.blk_some hx2 hnx2
              have hx3_13 := ha13.upd.blk_some hx3 hnx3
              repeat ((first | refine W.seqR rfl ?_ | refine W.seq ?_ | refine W.regR rfl ?_ | refine W.condK ?_ | refine W.block ?_ | refine W.skip ?_ | refine W.ret ?_ | refine W.exit ?_); try simp (maxSteps := 1000000) (disch := (first | omega | (simp only [World.size_alloc, size_wr, size_drew] <;> omega) | exact not_noB _)) only [go_sem, ↓reduceIte, n0, reduceCtorEq, n1, n2, n3, n4, n5, i0, i1, i2, i3, i4, i5, i6, i7, hv_13, hx1_13, hx2_13, hx3_13, Int.toNat_natCast, Nat.mul_one, hq1_0, hq1_1, hq1_2, hq2_0, hq2_1, hq2_2, hq2_3, hq2_4, hq3_0, hq3_1, hq3_2, hq3_3, hq3_4, hq3_5, hq3_6, hr1_3, hr3_0, hr3_5, hr3_6, hr3_57, hr3_56, hr3_8, hr3_10, hr3_89, hr3_88, hr3_12, hr3_14, hI3, hN3, hS3])
              refine (AppendInt32_fn _ _ _ ha13.own hB13 _ (by simp only [List.length_append, List.length_nil]; omega)).mono ?_
              rintro r14 w14 hc14
              rw [wrap32, ← hXXe3_2] at hc14
              have ha14 := ha13.trans hc14
              have hB14 : B ≤ w14.heap.size := Nat.le_trans hB ha14.upd.size
              have hv_14 := ha14.upd.blk_some hv hdv
              have hx1_14 := ha14.upd.blk_some hx1 hnx1
              have hx2_14 := ha14.upd.blk_some hx2 hnx2
              have hx3_14 := ha14.upd.blk_some hx3 hnx3
              repeat ((first | refine W.seqR rfl ?_ | refine W.seq ?_ | refine W.regR rfl ?_ | refine W.condK ?_ | refine W.block ?_ | refine W.skip ?_ | refine W.ret ?_ | refine W.exit ?_); try simp (maxSteps := 1000000) (disch := (first | omega | (simp only [World.size_alloc, size_wr, size_drew] <;> omega) | exact not_noB _)) only [go_sem, ↓reduceIte, n0, reduceCtorEq, n1, n2, n3, n4, n5, i0, i1, i2, i3, i4, i5, i6, i7, hv_14, hx1_14, hx2_14, hx3_14, Int.toNat_natCast, Nat.mul_one, hq1_0, hq1_1, hq1_2, hq2_0, hq2_1, hq2_2, hq2_3, hq2_4, hq3_0, hq3_1, hq3_2, hq3_3, hq3_4, hq3_5, hq3_6, hr1_3, hr3_0, hr3_5, hr3_6, hr3_57, hr3_56, hr3_8, hr3_10, hr3_89, hr3_88, hr3_12, hr3_14, hI3, hN3, hS3])
              refine (AppendInt64_fn _ _ _ ha14.own hB14 _ (by simp only [List.length_append, List.length_nil]; omega)).mono ?_
              rintro r15 w15 hc15
              rw [← hXXe3_3] at hc15
              have ha15 := ha14.trans hc15
              have hB15 : B ≤ w15.heap.size := Nat.le_trans hB ha15.upd.size
              have hv_15 := ha15.upd.blk_some hv hdv
              have hx1_15 := ha15.upd.blk_some hx1 hnx1
              have hx2_15 := ha15.upd.blk_some hx2 hnx2
              have hx3_15 := ha15.upd.blk_some hx3 hnx3
              repeat ((first | refine W.seqR rfl ?_ | refine W.seq ?_ | refine W.regR rfl ?_ | refine W.condK ?_ | refine W.block ?_ | refine W.skip ?_ | refine W.ret ?_ | refine W.exit ?_); try simp (maxSteps := 1000000) (disch := (first | omega | (simp only [World.size_alloc, size_wr, size_drew] <;> omega) | exact not_noB _)) only [go_sem, ↓reduceIte, n0, reduceCtorEq, n1, n2, n3, n4, n5, i0, i1, i2, i3, i4, i5, i6, i7, hv_15, hx1_15, hx2_15, hx3_15, Int.toNat_natCast, Nat.mul_one, hq1_0, hq1_1, hq1_2, hq2_0, hq2_1, hq2_2, hq2_3, hq2_4, hq3_0, hq3_1, hq3_2, hq3_3, hq3_4, hq3_5, hq3_6, hr1_3, hr3_0, hr3_5, hr3_6, hr3_57, hr3_56, hr3_8, hr3_10, hr3_89, hr3_88, hr3_12, hr3_14, hI3, hN3, hS3])
              refine (AppendInt32_fn _ _ _ ha15.own hB15 _ (by simp only [List.length_append, List.length_nil]; omega)).mono ?_
              rintro r16 w16 hc16
              rw [wrap32, ← hXXe3_4] at hc16
              have ha16 := ha15.trans hc16
              have hB16 : B ≤ w16.heap.size := Nat.le_trans hB ha16.upd.size
              have hv_16 := ha16.upd.blk_some hv hdv
              have hx1_16 := ha16.upd.blk_some hx1 hnx1
              have hx2_16 := ha16.upd.blk_some hx2 hnx2
              have hx3_16 := ha16.upd.blk_some hx3 hnx3
              repeat ((first | refine W.seqR rfl ?_ | refine W.seq ?_ | refine W.regR rfl ?_ | refine W.condK ?_ | refine W.block ?_ | refine W.skip ?_ | refine W.ret ?_ | refine W.exit ?_); try simp (maxSteps := 1000000) (disch := (first | omega | (simp only [World.size_alloc, size_wr, size_drew] <;> omega) | exact not_noB _)) only [go_sem, ↓reduceIte, n0, reduceCtorEq, n1, n2, n3, n4, n5, i0, i1, i2, i3, i4, i5, i6, i7, hv_16, hx1_16, hx2_16, hx3_16, Int.toNat_natCast, Nat.mul_one, hq1_0, hq1_1, hq1_2, hq2_0, hq2_1, hq2_2, hq2_3, hq2_4, hq3_0, hq3_1, hq3_2, hq3_3, hq3_4, hq3_5, hq3_6, hr1_3, hr3_0, hr3_5, hr3_6, hr3_57, hr3_56, hr3_8, hr3_10, hr3_89, hr3_88, hr3_12, hr3_14, hI3, hN3, hS3])
              refine (AppendInt64_fn _ _ _ ha16.own hB16 _ (by simp only [List.length_append, List.length_nil]; omega)).mono ?_
              rintro r17 w17 hc17
              rw [← hXXe3_5] at hc17
              have ha17 := ha16.trans hc17
              have hB17 : B ≤ w17.heap.size := Nat.le_trans hB ha17.upd.size
              have hv_17 := ha17.upd.blk_some hv hdv
              have hx1_17 := ha17.upd.blk_some hx1 hnx1
              have hx2_17 := ha17.upd.blk_some hx2 hnx2
              have hx3_17 := ha17.upd.blk_some hx3 hnx3
              repeat ((first | refine W.seqR rfl ?_ | refine W.seq ?_ | refine W.regR rfl ?_ | refine W.condK ?_ | refine W.block ?_ | refine W.skip ?_ | refine W.ret ?_ | refine W.exit ?_); try simp (maxSteps := 1000000) (disch := (first | omega | (simp only [World.size_alloc, size_wr, size_drew] <;> omega) | exact not_noB _)) only [go_sem, ↓reduceIte, n0, reduceCtorEq, n1, n2, n3, n4, n5, i0, i1, i2, i3, i4, i5, i6, i7, hv_17, hx1_17, hx2_17, hx3_17, Int.toNat_natCast, Nat.mul_one, hq1_0, hq1_1, hq1_2, hq2_0, hq2_1, hq2_2, hq2_3, hq2_4, hq3_0, hq3_1, hq3_2, hq3_3, hq3_4, hq3_5, hq3_6, hr1_3, hr3_0, hr3_5, hr3_6, hr3_57, hr3_56, hr3_8, hr3_10, hr3_89, hr3_88, hr3_12, hr3_14, hI3, hN3, hS3])
              have hTk17 : TagsM (OkS okM w.heap.size) w17 (.map qme3) y3.u := (hTe3.weaken fun b h1 h2 => ⟨h2, h1⟩).keep (ha17.upd.keeps fun b hb hk => hd b hb hk.1)
              refine (TagsLen_fn (ok := OkS okM w.heap.size) w17 hx3_17 (to := o3 + (j3 * 7 + 6)) hq3_6 hTk17).mono ?_
              rintro _ w17' ⟨rfl, rfl⟩
              have hul17 : y3.u.length ≤ 32767 := hfue3.1
              have ew17 : IntKind.u32.wrap (y3.u.length : Int) = y3.u.length := u32_wrap (by omega)
              have ez17 : IntKind.u32.wrap (0 + (y3.u.length : Int)) = y3.u.length := by rw [Int.zero_add, u32_wrap (by omega)]
              simp (maxSteps := 1000000) (disch := (first | omega | (simp only [World.size_alloc, size_wr, size_drew] <;> omega) | exact not_noB _)) only [go_sem, ↓reduceIte, n0, reduceCtorEq, n1, n2, n3, n4, n5, i0, i1, i2, i3, i4, i5, i6, i7, hv_17, hx1_17, hx2_17, hx3_17, Int.toNat_natCast, Nat.mul_one, hq1_0, hq1_1, hq1_2, hq2_0, hq2_1, hq2_2, hq2_3, hq2_4, hq3_0, hq3_1, hq3_2, hq3_3, hq3_4, hq3_5, hq3_6, hr1_3, hr3_0, hr3_5, hr3_6, hr3_57, hr3_56, hr3_8, hr3_10, hr3_89, hr3_88, hr3_12, hr3_14, hI3, hN3, hS3, ew17, ez17]
              refine (AppendUvarint_fn _ _ _ ha17.own hB17 y3.u.length (by omega) (by simp only [List.length_append, List.length_nil]; omega)).mono ?_
              rintro r18 w18 hc18
              rw [← hXUe3] at hc18
              have ha18 := ha17.trans hc18
              have hB18 : B ≤ w18.heap.size := Nat.le_trans hB ha18.upd.size
              have hv_18 := ha18.upd.blk_some hv hdv
              have hx1_18 := ha18.upd.blk_some hx1 hnx1
              have hx2_18 := ha18.upd.blk_some hx2 hnx2
              have hx3_18 := ha18.upd.blk_some hx3 hnx3
              repeat ((first | refine W.seqR rfl ?_ | refine W.seq ?_ | refine W.regR rfl ?_ | refine W.condK ?_ | refine W.block ?_ | refine W.skip ?_ | refine W.ret ?_ | refine W.exit ?_); try simp (maxSteps := 1000000) (disch := (first | omega | (simp only [World.size_alloc, size_wr, size_drew] <;> omega) | exact not_noB _)) only [go_sem, ↓reduceIte, n0, reduceCtorEq, n1, n2, n3, n4, n5, i0, i1, i2, i3, i4, i5, i6, i7, hv_18, hx1_18, hx2_18, hx3_18, Int.toNat_natCast, Nat.mul_one, hq1_0, hq1_1, hq1_2, hq2_0, hq2_1, hq2_2, hq2_3, hq2_4, hq3_0, hq3_1, hq3_2, hq3_3, hq3_4, hq3_5, hq3_6, hr1_3, hr3_0, hr3_5, hr3_6, hr3_57, hr3_56, hr3_8, hr3_10, hr3_89, hr3_88, hr3_12, hr3_14, hI3, hN3, hS3])
              have hTk18 : TagsM (OkS okM w.heap.size) w18 (.map qme3) y3.u := (hTe3.weaken fun b h1 h2 => ⟨h2, h1⟩).keep (ha18.upd.keeps fun b hb hk => hd b hb hk.1)
              refine (AppendEach_fn (ok := OkS okM w.heap.size) _ _ _ ha18.own hB18 hx3_18 (to := o3 + (j3 * 7 + 6)) hq3_6 hTk18 (rising_keys hfue3) hfue3.1 (tags_small hfue3 hTk18) (hdK ha18) (ownK ha18 (blk_lt hx3) hnx3) (by simp only [List.length_append, List.length_nil]; omega)).mono ?_
              rintro r19 w19 hc19
              rw [← hXTe3] at hc19
              have ha19 := ha18.trans hc19
              have hB19 : B ≤ w19.heap.size := Nat.le_trans hB ha19.upd.size
              have hv_19 := ha19.upd.blk_some hv hdv
              have hx1_19 := ha19.upd.blk_some hx1 hnx1
              have hx2_19 := ha19.upd.blk_some hx2 hnx2
              have hx3_19 := ha19.upd.blk_some hx3 hnx3
              repeat ((first | refine W.seqR rfl ?_ | refine W.seq ?_ | refine W.regR rfl ?_ | refine W.condK ?_ | refine W.block ?_ | refine W.skip ?_ | refine W.ret ?_ | refine W.exit ?_); try simp (maxSteps := 1000000) (disch := (first | omega | (simp only [World.size_alloc, size_wr, size_drew] <;> omega) | exact not_noB _)) only [go_sem, ↓reduceIte, n0, reduceCtorEq, n1, n2, n3, n4, n5, i0, i1, i2, i3, i4, i5, i6, i7, hr1_3, hr3_0, hr3_5, hr3_6, hr3_57, hr3_56, hr3_8, hr3_10, hr3_89, hr3_88, hr3_12, hr3_14, hI3, hN3, hS3])
              refine ⟨⟨j3 + 1, _, by omega, rfl, rfl, ha19.eqs ?_⟩, ?_⟩
              · rw [hcat3, List.flatMap_append, List.flatMap_cons, List.flatMap_nil, List.append_nil, ← hTT3, hPe3]; simp only [List.append_assoc, List.append_nil, List.nil_append]
              · simp only [RowKit.intOf]; omega
            · have hjl3 : j3 = (y2.at 3).l.length := by omega
              subst hjl3
              rw [List.take_length, ← hXEe2_3] at ha11
              repeat ((first | refine W.seqR rfl ?_ | refine W.seq ?_ | refine W.regR rfl ?_ | refine W.condK ?_ | refine W.block ?_ | refine W.skip ?_ | refine W.ret ?_ | refine W.exit ?_); try simp (maxSteps := 1000000) (disch := (first | omega | (simp only [World.size_alloc, size_wr, size_drew] <;> omega) | exact not_noB _)) only [go_sem, ↓reduceIte, n0, reduceCtorEq, n1, n2, n3, n4, n5, i0, i1, i2, i3, i4, i5, i6, i7, hI3, hN3])
              exact ⟨_, hr1_3, hr3_0, hr3_5, hr3_6, hr3_57, hr3_56, hr3_8, hr3_10, hr3_89, hr3_88, hr3_12, hr3_14, ha11⟩
          · rintro ρ w20 ⟨r20, hr1_4, hr4_0, hr4_5, hr4_6, hr4_57, hr4_56, hr4_8, hr4_10, hr4_89, hr4_88, hr4_12, hr4_14, ha20⟩
            have hB20 : B ≤ w20.heap.size := Nat.le_trans hB ha20.upd.size
            have hv_20 := ha20.upd.blk_some hv hdv
            have hx1_20 := ha20.upd.blk_some hx1 hnx1
            have hx2_20 := ha20.upd.blk_some hx2 hnx2
            repeat ((first | refine W.seqR rfl ?_ | refine W.seq ?_ | refine W.regR rfl ?_ | refine W.condK ?_ | refine W.block ?_ | refine W.skip ?_ | refine W.ret ?_ | refine W.exit ?_); try simp (maxSteps := 1000000) (disch := (first | omega | (simp only [World.size_alloc, size_wr, size_drew] <;> omega) | exact not_noB _)) only [go_sem, ↓reduceIte, n0, reduceCtorEq, n1, n2, n3, n4, n5, i0, i1, i2, i3, i4, i5, i6, i7, hv_20, hx1_20, hx2_20, Int.toNat_natCast, Nat.mul_one, hq1_0, hq1_1, hq1_2, hq2_0, hq2_1, hq2_2, hq2_3, hq2_4, hr1_4, hr4_0, hr4_5, hr4_6, hr4_57, hr4_56, hr4_8, hr4_10, hr4_89, hr4_88, hr4_12, hr4_14])
            have hTk20 : TagsM (OkS okM w.heap.size) w20 (.map qme2) y2.u := (hTe2.weaken fun b h1 h2 => ⟨h2, h1⟩).keep (ha20.upd.keeps fun b hb hk => hd b hb hk.1)
            refine (TagsLen_fn (ok := OkS okM w.heap.size) w20 hx2_20 (to := o2 + (j2 * 5 + 4)) hq2_4 hTk20).mono ?_
            rintro _ w20' ⟨rfl, rfl⟩
            have hul20 : y2.u.length ≤ 32767 := hfue2.1
            have ew20 : IntKind.u32.wrap (y2.u.length : Int) = y2.u.length := u32_wrap (by omega)
            have ez20 : IntKind.u32.wrap (0 + (y2.u.length : Int)) = y2.u.length := by rw [Int.zero_add, u32_wrap (by omega)]
            simp (maxSteps := 1000000) (disch := (first | omega | (simp only [World.size_alloc, size_wr, size_drew] <;> omega) | exact not_noB _)) only [go_sem, ↓reduceIte, n0, reduceCtorEq, n1, n2, n3, n4, n5, i0, i1, i2, i3, i4, i5, i6, i7, hv_20, hx1_20, hx2_20, Int.toNat_natCast, Nat.mul_one, hq1_0, hq1_1, hq1_2, hq2_0, hq2_1, hq2_2, hq2_3, hq2_4, hr1_4, hr4_0, hr4_5, hr4_6, hr4_57, hr4_56, hr4_8, hr4_10, hr4_89, hr4_88, hr4_12, hr4_14, ew20, ez20]
            refine (AppendUvarint_fn _ _ _ ha20.own hB20 y2.u.length (by omega) (by simp only [List.length_append, List.length_nil]; omega)).mono ?_
            rintro r21 w21 hc21
            rw [← hXUe2] at hc21
            have ha21 := ha20.trans hc21
            have hB21 : B ≤ w21.heap.size := Nat.le_trans hB ha21.upd.size
            have hv_21 := ha21.upd.blk_some hv hdv
            have hx1_21 := ha21.upd.blk_some hx1 hnx1
            have hx2_21 := ha21.upd.blk_some hx2 hnx2
            repeat ((first | refine W.seqR rfl ?_ | refine W.seq ?_ | refine W.regR rfl ?_ | refine W.condK ?_ | refine W.block ?_ | refine W.skip ?_ | refine W.ret ?_ | refine W.exit ?_); try simp (maxSteps := 1000000) (disch := (first | omega | (simp only [World.size_alloc, size_wr, size_drew] <;> omega) | exact not_noB _)) only [go_sem, ↓reduceIte, n0, reduceCtorEq, n1, n2, n3, n4, n5, i0, i1, i2, i3, i4, i5, i6, i7, hv_21, hx1_21, hx2_21, Int.toNat_natCast, Nat.mul_one, hq1_0, hq1_1, hq1_2, hq2_0, hq2_1, hq2_2, hq2_3, hq2_4, hr1_4, hr4_0, hr4_5, hr4_6, hr4_57, hr4_56, hr4_8, hr4_10, hr4_89, hr4_88, hr4_12, hr4_14])
            have hTk21 : TagsM (OkS okM w.heap.size) w21 (.map qme2) y2.u := (hTe2.weaken fun b h1 h2 => ⟨h2, h1⟩).keep (ha21.upd.keeps fun b hb hk => hd b hb hk.1)
            refine (AppendEach_fn (ok := OkS okM w.heap.size) _ _ _ ha21.own hB21 hx2_21 (to := o2 + (j2 * 5 + 4)) hq2_4 hTk21 (rising_keys hfue2) hfue2.1 (tags_small hfue2 hTk21) (hdK ha21) (ownK ha21 (blk_lt hx2) hnx2) (by simp only [List.length_append, List.length_nil]; omega)).mono ?_
            rintro r22 w22 hc22
            rw [← hXTe2] at hc22
            have ha22 := ha21.trans hc22
            have hB22 : B ≤ w22.heap.size := Nat.le_trans hB ha22.upd.size
            have hv_22 := ha22.upd.blk_some hv hdv
            have hx1_22 := ha22.upd.blk_some hx1 hnx1
            have hx2_22 := ha22.upd.blk_some hx2 hnx2
            repeat ((first | refine W.seqR rfl ?_ | refine W.seq ?_ | refine W.regR rfl ?_ | refine W.condK ?_ | refine W.block ?_ | refine W.skip ?_ | refine W.ret ?_ | refine W.exit ?_); try simp (maxSteps := 1000000) (disch := (first | omega | (simp only [World.size_alloc, size_wr, size_drew] <;> omega) | exact not_noB _)) only [go_sem, ↓reduceIte, n0, reduceCtorEq, n1, n2, n3, n4, n5, i0, i1, i2, i3, i4, i5, i6, i7, hr1_4, hr4_0, hr4_5, hr4_6, hr4_57, hr4_56, hr4_8, hr4_10, hr4_89, hr4_88, hr4_12, hr4_14])
            refine ⟨⟨j2 + 1, _, by omega, rfl, rfl, ha22.eqs ?_⟩, ?_⟩
            · rw [hcat2, List.flatMap_append, List.flatMap_cons, List.flatMap_nil, List.append_nil, ← hTT2, hPe2]; simp only [List.append_assoc, List.append_nil, List.nil_append]
            · simp only [RowKit.intOf]; omega
        · have hjl2 : j2 = (y1.at 1).l.length := by omega
          subst hjl2
          rw [List.take_length, ← hXEe1_1] at ha6
          repeat ((first | refine W.seqR rfl ?_ | refine W.seq ?_ | refine W.regR rfl ?_ | refine W.condK ?_ | refine W.block ?_ | refine W.skip ?_ | refine W.ret ?_ | refine W.exit ?_); try simp (maxSteps := 1000000) (disch := (first | omega | (simp only [World.size_alloc, size_wr, size_drew] <;> omega) | exact not_noB _)) only [go_sem, ↓reduceIte, n0, reduceCtorEq, n1, n2, n3, n4, n5, i0, i1, i2, i3, i4, i5, i6, i7, hI2, hN2])
          exact ⟨_, hr1_2, hr2_0, hr2_5, hr2_6, hr2_57, hr2_56, hr2_8, hr2_10, ha6⟩
      · rintro ρ w23 ⟨r23, hr1_5, hr5_0, hr5_5, hr5_6, hr5_57, hr5_56, hr5_8, hr5_10, ha23⟩
        have hB23 : B ≤ w23.heap.size := Nat.le_trans hB ha23.upd.size
        have hv_23 := ha23.upd.blk_some hv hdv
        have hx1_23 := ha23.upd.blk_some hx1 hnx1
        repeat ((first | refine W.seqR rfl ?_ | refine W.seq ?_ | refine W.regR rfl ?_ | refine W.condK ?_ | refine W.block ?_ | refine W.skip ?_ | refine W.ret ?_ | refine W.exit ?_); try simp (maxSteps := 1000000) (disch := (first | omega | (simp only [World.size_alloc, size_wr, size_drew] <;> omega) | exact not_noB _)) only [go_sem, ↓reduceIte, n0, reduceCtorEq, n1, n2, n3, n4, n5, i0, i1, i2, i3, i4, i5, i6, i7, hv_23, hx1_23, Int.toNat_natCast, Nat.mul_one, hq1_0, hq1_1, hq1_2, hr1_5, hr5_0, hr5_5, hr5_6, hr5_57, hr5_56, hr5_8, hr5_10])
        have hTk23 : TagsM (OkS okM w.heap.size) w23 (.map qme1) y1.u := (hTe1.weaken fun b h1 h2 => ⟨h2, h1⟩).keep (ha23.upd.keeps fun b hb hk => hd b hb hk.1)
        refine (TagsLen_fn (ok := OkS okM w.heap.size) w23 hx1_23 (to := o1 + (j1 * 3 + 2)) hq1_2 hTk23).mono ?_
        rintro _ w23' ⟨rfl, rfl⟩
        have hul23 : y1.u.length ≤ 32767 := hfue1.1
        have ew23 : IntKind.u32.wrap (y1.u.length : Int) = y1.u.length := u32_wrap (by omega)
        have ez23 : IntKind.u32.wrap (0 + (y1.u.length : Int)) = y1.u.length := by rw [Int.zero_add, u32_wrap (by omega)]
        simp (maxSteps := 1000000) (disch := (first | omega | (simp only [World.size_alloc, size_wr, size_drew] <;> omega) | exact not_noB _)) only [go_sem, ↓reduceIte, n0, reduceCtorEq, n1, n2, n3, n4, n5, i0, i1, i2, i3, i4, i5, i6, i7, hv_23, hx1_23, Int.toNat_natCast, Nat.mul_one, hq1_0, hq1_1, hq1_2, hr1_5, hr5_0, hr5_5, hr5_6, hr5_57, hr5_56, hr5_8, hr5_10, ew23, ez23]
        refine (AppendUvarint_fn _ _ _ ha23.own hB23 y1.u.length (by omega) (by simp only [List.length_append, List.length_nil]; omega)).mono ?_
        rintro r24 w24 hc24
        rw [← hXUe1] at hc24
        have ha24 := ha23.trans hc24
        have hB24 : B ≤ w24.heap.size := Nat.le_trans hB ha24.upd.size
        have hv_24 := ha24.upd.blk_some hv hdv
        have hx1_24 := ha24.upd.blk_some hx1 hnx1
        repeat ((first | refine W.seqR rfl ?_ | refine W.seq ?_ | refine W.regR rfl ?_ | refine W.condK ?_ | refine W.block ?_ | refine W.skip ?_ | refine W.ret ?_ | refine W.exit ?_); try simp (maxSteps := 1000000) (disch := (first | omega | (simp only [World.size_alloc, size_wr, size_drew] <;> omega) | exact not_noB _)) only [go_sem, ↓reduceIte, n0, reduceCtorEq, n1, n2, n3, n4, n5, i0, i1, i2, i3, i4, i5, i6, i7, hv_24, hx1_24, Int.toNat_natCast, Nat.mul_one, hq1_0, hq1_1, hq1_2, hr1_5, hr5_0, hr5_5, hr5_6, hr5_57, hr5_56, hr5_8, hr5_10])
        have hTk24 : TagsM (OkS okM w.heap.size) w24 (.map qme1) y1.u := (hTe1.weaken fun b h1 h2 => ⟨h2, h1⟩).keep (ha24.upd.keeps fun b hb hk => hd b hb hk.1)
        refine (AppendEach_fn (ok := OkS okM w.heap.size) _ _ _ ha24.own hB24 hx1_24 (to := o1 + (j1 * 3 + 2)) hq1_2 hTk24 (rising_keys hfue1) hfue1.1 (tags_small hfue1 hTk24) (hdK ha24) (ownK ha24 (blk_lt hx1) hnx1) (by simp only [List.length_append, List.length_nil]; omega)).mono ?_
        rintro r25 w25 hc25
        rw [← hXTe1] at hc25
        have ha25 := ha24.trans hc25
        have hB25 : B ≤ w25.heap.size := Nat.le_trans hB ha25.upd.size
        have hv_25 := ha25.upd.blk_some hv hdv
        have hx1_25 := ha25.upd.blk_some hx1 hnx1
        repeat ((first | refine W.seqR rfl ?_ | refine W.seq ?_ | refine W.regR rfl ?_ | refine W.condK ?_ | refine W.block ?_ | refine W.skip ?_ | refine W.ret ?_ | refine W.exit ?_); try simp (maxSteps := 1000000) (disch := (first | omega | (simp only [World.size_alloc, size_wr, size_drew] <;> omega) | exact not_noB _)) only [go_sem, ↓reduceIte, n0, reduceCtorEq, n1, n2, n3, n4, n5, i0, i1, i2, i3, i4, i5, i6, i7, hr1_5, hr5_0, hr5_5, hr5_6, hr5_57, hr5_56, hr5_8, hr5_10])
        refine ⟨⟨j1 + 1, _, by omega, rfl, rfl, ha25.eqs ?_⟩, ?_⟩
        · rw [hcat1, List.flatMap_append, List.flatMap_cons, List.flatMap_nil, List.append_nil, ← hTT1, hPe1]; simp only [List.append_assoc, List.append_nil, List.nil_append]
        · simp only [RowKit.intOf]; omega
    · have hjl1 : j1 = (t.at 1).l.length := by omega
      subst hjl1
      rw [List.take_length, ← hXE_1] at ha3
      repeat ((first | refine W.seqR rfl ?_ | refine W.seq ?_ | refine W.regR rfl ?_ | refine W.condK ?_ | refine W.block ?_ | refine W.skip ?_ | refine W.ret ?_ | refine W.exit ?_); try simp (maxSteps := 1000000) (disch := (first | omega | (simp only [World.size_alloc, size_wr, size_drew] <;> omega) | exact not_noB _)) only [go_sem, ↓reduceIte, n0, reduceCtorEq, n1, n2, n3, n4, n5, i0, i1, i2, i3, i4, i5, i6, i7, hI1, hN1])
      exact ⟨_, hr1_1, hr1_0, hr1_5, hr1_6, ha3⟩
  · rintro ρ w26 ⟨r26, hr1_6, hr6_0, hr6_5, hr6_6, ha26⟩
    have hB26 : B ≤ w26.heap.size := Nat.le_trans hB ha26.upd.size
    have hv_26 := ha26.upd.blk_some hv hdv
    repeat ((first | refine W.seqR rfl ?_ | refine W.seq ?_ | refine W.regR rfl ?_ | refine W.condK ?_ | refine W.block ?_ | refine W.skip ?_ | refine W.ret ?_ | refine W.exit ?_); try simp (maxSteps := 1000000) (disch := (first | omega | (simp only [World.size_alloc, size_wr, size_drew] <;> omega) | exact not_noB _)) only [go_sem, ↓reduceIte, n0, reduceCtorEq, n1, n2, n3, n4, n5, i0, i1, i2, i3, i4, i5, i6, i7, hv_26, hr1_6, hr6_0, hr6_5, hr6_6])
    have hTk26 : TagsM (OkS okM w.heap.size) w26 (.map qm) t.u := (hT.weaken fun b h1 h2 => ⟨h2, h1⟩).keep (ha26.upd.keeps fun b hb hk => hd b hb hk.1)
    refine (TagsLen_fn (ok := OkS okM w.heap.size) w26 hv_26 (to := 3) (show (#[.int .i16 ver, .int .i32 (IntKind.i32.wrap (t.at 0).n), .slice ab_1 (t.at 1).l.length ac_1, .map qm] : Array Value)[3]? = some (.map qm) from rfl) hTk26).mono ?_
    rintro _ w26' ⟨rfl, rfl⟩
    have hul26 : t.u.length ≤ 32767 := hfu.1
    have ew26 : IntKind.u32.wrap (t.u.length : Int) = t.u.length := u32_wrap (by omega)
    have ez26 : IntKind.u32.wrap (0 + (t.u.length : Int)) = t.u.length := by rw [Int.zero_add, u32_wrap (by omega)]
    simp (maxSteps := 1000000) (disch := (first | omega | (simp only [World.size_alloc, size_wr, size_drew] <;> omega) | exact not_noB _)) only [go_sem, ↓reduceIte, n0, reduceCtorEq, n1, n2, n3, n4, n5, i0, i1, i2, i3, i4, i5, i6, i7, hv_26, hr1_6, hr6_0, hr6_5, hr6_6, ew26, ez26]
    refine (AppendUvarint_fn _ _ _ ha26.own hB26 t.u.length (by omega) (by simp only [List.length_append, List.length_nil]; omega)).mono ?_
    rintro r27 w27 hc27
    rw [← hXU] at hc27
    have ha27 := ha26.trans hc27
    have hB27 : B ≤ w27.heap.size := Nat.le_trans hB ha27.upd.size
    have hv_27 := ha27.upd.blk_some hv hdv
    repeat ((first | refine W.seqR rfl ?_ | refine W.seq ?_ | refine W.regR rfl ?_ | refine W.condK ?_ | refine W.block ?_ | refine W.skip ?_ | refine W.ret ?_ | refine W.exit ?_); try simp (maxSteps := 1000000) (disch := (first | omega | (simp only [World.size_alloc, size_wr, size_drew] <;> omega) | exact not_noB _)) only [go_sem, ↓reduceIte, n0, reduceCtorEq, n1, n2, n3, n4, n5, i0, i1, i2, i3, i4, i5, i6, i7, hv_27, hr1_6, hr6_0, hr6_5, hr6_6])
    have hTk27 : TagsM (OkS okM w.heap.size) w27 (.map qm) t.u := (hT.weaken fun b h1 h2 => ⟨h2, h1⟩).keep (ha27.upd.keeps fun b hb hk => hd b hb hk.1)
    refine (AppendEach_fn (ok := OkS okM w.heap.size) _ _ _ ha27.own hB27 hv_27 (to := 3) (show (#[.int .i16 ver, .int .i32 (IntKind.i32.wrap (t.at 0).n), .slice ab_1 (t.at 1).l.length ac_1, .map qm] : Array Value)[3]? = some (.map qm) from rfl) hTk27 (rising_keys hfu) hfu.1 (tags_small hfu hTk27) (hdK ha27) (ownK ha27 (blk_lt hv) hdv) (by simp only [List.length_append, List.length_nil]; omega)).mono ?_
    rintro r28 w28 hc28
    rw [← hXT] at hc28
    have ha28 := ha27.trans hc28
    have hB28 : B ≤ w28.heap.size := Nat.le_trans hB ha28.upd.size
    have hv_28 := ha28.upd.blk_some hv hdv
    repeat ((first | refine W.seqR rfl ?_ | refine W.seq ?_ | refine W.regR rfl ?_ | refine W.condK ?_ | refine W.block ?_ | refine W.skip ?_ | refine W.ret ?_ | refine W.exit ?_); try simp (maxSteps := 1000000) (disch := (first | omega | (simp only [World.size_alloc, size_wr, size_drew] <;> omega) | exact not_noB _)) only [go_sem, ↓reduceIte, n0, reduceCtorEq, n1, n2, n3, n4, n5, i0, i1, i2, i3, i4, i5, i6, i7, hv_28, hr1_6, hr6_0, hr6_5, hr6_6])
    refine ha28.eqs ?_
    rw [hP]; simp only [List.append_assoc, List.append_nil, List.nil_append]
end Ms

namespace Ms
open Nat renaming reduceEqDiff → n0, reduceAdd → n1, reduceMul → n2, reduceSub → n3, reduceLT → n4, reduceLeDiff → n5
open Int renaming reduceEq → i0, reduceLT → i1, reduceLE → i2, reduceNeg → i3, reduceAdd → i4, reduceSub → i5, reduceMul → i6, reduceToNat → i7
set_option maxRecDepth 8000
open Go Go.Proofs Go.Shelf
attribute [local congr] W_congr WPsq_congr WPp_congr optK_congr addrK_congr intK_congr boolK_congr sliceK_congr tupleK_congr funcK_congr Fn_congr rawK_congr takeK_congr stepK_congr convK_congr aggK_congr

set_option maxHeartbeats 2000000 in
theorem BehindDescribeProducersResponse_fn {d : Nat} {ok : Blocks} {ev : Value} (ver : Nat) (hv : ver ≤ 0) (t : Tree) (dst b : Value) (D : List UInt8) (w : World) (hd : BytesV ok w dst D) (hb : BytesV ok w b (partS (d + 4) fs_DescribeProducersResponse ver (flexB 0 ver) t)) (hG : Glo ev w) (hrd : rdP (d + 4) ver (flexB 0 ver) fs_DescribeProducersResponse (some (partS (d + 4) fs_DescribeProducersResponse ver (flexB 0 ver) t)) = (cnP (d + 4) ver (flexB 0 ver) fs_DescribeProducersResponse t, some []))
    (hcn : partS (d + 4) fs_DescribeProducersResponse ver (flexB 0 ver) (cnP (d + 4) ver (flexB 0 ver) fs_DescribeProducersResponse t) = (partS (d + 4) fs_DescribeProducersResponse ver (flexB 0 ver) t) ∧ FitW ver (d + 4) fs_DescribeProducersResponse (cnP (d + 4) ver (flexB 0 ver) fs_DescribeProducersResponse t)) (hD : D.length ≤ 1000) (hl : (partS (d + 4) fs_DescribeProducersResponse ver (flexB 0 ver) t).length ≤ 2 ^ 40) :
    Fn Tryz.prog 9 #[.int .i64 ver, dst, b] w fun r w' => (∃ v, r = .tuple #[v, .bool true] ∧ OwnBy 5 w.heap.size w' v (D ++ (partS (d + 4) fs_DescribeProducersResponse ver (flexB 0 ver) t))) ∧ Ext w w' := by
  obtain ⟨da, dc, rfl, _⟩ := hd.shape
  obtain ⟨ba, bc, rfl, _⟩ := hb.shape
  have hgl := hG.lt
  have ew : IntKind.i16.wrap (ver : Int) = ver := i16_wrap (by omega)
  refine fn_of_W Tryz.func9 rfl Tryz.results9 Tryz.ntmps9 rfl ?_
  repeat ((first | refine W.seqR rfl ?_ | refine W.seq ?_ | refine W.regR rfl ?_ | refine W.condK ?_ | refine W.block ?_ | refine W.skip ?_ | refine W.ret ?_ | refine W.exit ?_); try simp (maxSteps := 1000000) (disch := (first | omega | (simp only [World.size_alloc, size_wr, size_drew] <;> omega) | exact not_noB _)) only [go_sem, ↓reduceIte, n0, reduceCtorEq, n1, n2, n3, n4, n5, i0, i1, i2, i3, i4, i5, i6, i7, ew])
  refine (NewPtrDescribeProducersResponse_fn w).mono ?_
  rintro _ w1 ⟨rfl, hb1, hE1⟩
  have hz1 := blk_lt hb1
  repeat ((first | refine W.seqR rfl ?_ | refine W.seq ?_ | refine W.regR rfl ?_ | refine W.condK ?_ | refine W.block ?_ | refine W.skip ?_ | refine W.ret ?_ | refine W.exit ?_); try simp (maxSteps := 1000000) (disch := (first | omega | (simp only [World.size_alloc, size_wr, size_drew] <;> omega) | exact not_noB _)) only [go_sem, ↓reduceIte, n0, reduceCtorEq, n1, n2, n3, n4, n5, i0, i1, i2, i3, i4, i5, i6, i7, ew])
  refine (SetVersionDescribeProducersResponse_fn w1 (vb := w.heap.size) ver hb1).mono ?_
  rintro _ w2 ⟨hb2, hU2⟩
  have hz2 := hU2.size
  have hE2 : Ext w w2 := hE1.more hU2 fun b hb h => by omega
  repeat ((first | refine W.seqR rfl ?_ | refine W.seq ?_ | refine W.regR rfl ?_ | refine W.condK ?_ | refine W.block ?_ | refine W.skip ?_ | refine W.ret ?_ | refine W.exit ?_); try simp (maxSteps := 1000000) (disch := (first | omega | (simp only [World.size_alloc, size_wr, size_drew] <;> omega) | exact not_noB _)) only [go_sem, ↓reduceIte, n0, reduceCtorEq, n1, n2, n3, n4, n5, i0, i1, i2, i3, i4, i5, i6, i7, ew])
  refine wp_copyN ap_22_22 (ok := ok) (s := (partS (d + 4) fs_DescribeProducersResponse ver (flexB 0 ver) t)) (v := .slice ba _ bc) (by first | rfl | simp (maxSteps := 1000000) (disch := (first | omega | (simp only [World.size_alloc, size_wr, size_drew] <;> omega) | exact not_noB _)) only [go_sem, ↓reduceIte, n0, reduceCtorEq, n1, n2, n3, n4, n5, i0, i1, i2, i3, i4, i5, i6, i7]) (by first | rfl | simp (maxSteps := 1000000) (disch := (first | omega | (simp only [World.size_alloc, size_wr, size_drew] <;> omega) | exact not_noB _)) only [go_sem, ↓reduceIte, n0, reduceCtorEq, n1, n2, n3, n4, n5, i0, i1, i2, i3, i4, i5, i6, i7]) (hb.keep (hE2.keeps _)) (by omega) ?_
  intro v3 w3 ho3 hE3 hf3
  have hz3 := hE3.size
  have hb3 := hE3.blk_some hb2 id
  have hG3 : Glo ev w3 := hG.updS (hE2.trans hE3) id id
  obtain ⟨a3, c3, rfl, _⟩ := ho3.shape
  simp (maxSteps := 1000000) (disch := (first | omega | (simp only [World.size_alloc, size_wr, size_drew] <;> omega) | exact not_noB _)) only [go_sem, ↓reduceIte, n0, reduceCtorEq, n1, n2, n3, n4, n5, i0, i1, i2, i3, i4, i5, i6, i7]
  refine (ReadFromDescribeProducersResponse_fn (d := d) (ok := fun b => b < w3.heap.size ∧ b ≠ w.heap.size) (ev := ev) (ver := ver) (by omega) (by omega) w3 _ _ hb3 ((Own.bytes ho3 hf3).weaken fun b hb hk => ⟨hb, by omega⟩) (fun b hb => hb) hG3 ⟨by omega, by omega⟩).mono ?_
  rintro r4 w4 ⟨_, h4, hU4⟩
  rw [hrd] at h4
  obtain ⟨rfl, cells, hb4, hR4⟩ := h4 (by simp)
  have hz4 := hU4.size
  have hE4 : Ext w w4 := (hE2.trans hE3).more hU4 fun b hb h => by omega
  have hR4' : RepS true (d + 4) fs_DescribeProducersResponse (fun b => b < w4.heap.size) w4 (cnP (d + 4) ver (flexB 0 ver) fs_DescribeProducersResponse t) cells := (RepS_lay true (d + 4) fs_DescribeProducersResponse).weaken hR4 fun b hb _ => hb
  try simp (maxSteps := 1000000) (disch := (first | omega | (simp only [World.size_alloc, size_wr, size_drew] <;> omega) | exact not_noB _)) only [go_sem, ↓reduceIte, n0, reduceCtorEq, n1, n2, n3, n4, n5, i0, i1, i2, i3, i4, i5, i6, i7]
  repeat ((first | refine W.seqR rfl ?_ | refine W.seq ?_ | refine W.regR rfl ?_ | refine W.condK ?_ | refine W.block ?_ | refine W.skip ?_ | refine W.ret ?_ | refine W.exit ?_); try simp (maxSteps := 1000000) (disch := (first | omega | (simp only [World.size_alloc, size_wr, size_drew] <;> omega) | exact not_noB _)) only [go_sem, ↓reduceIte, n0, reduceCtorEq, n1, n2, n3, n4, n5, i0, i1, i2, i3, i4, i5, i6, i7])
  refine wp_copyN ap_22_22 (ok := ok) (s := D) (v := .slice da _ dc) (by first | rfl | simp (maxSteps := 1000000) (disch := (first | omega | (simp only [World.size_alloc, size_wr, size_drew] <;> omega) | exact not_noB _)) only [go_sem, ↓reduceIte, n0, reduceCtorEq, n1, n2, n3, n4, n5, i0, i1, i2, i3, i4, i5, i6, i7]) (by first | rfl | simp (maxSteps := 1000000) (disch := (first | omega | (simp only [World.size_alloc, size_wr, size_drew] <;> omega) | exact not_noB _)) only [go_sem, ↓reduceIte, n0, reduceCtorEq, n1, n2, n3, n4, n5, i0, i1, i2, i3, i4, i5, i6, i7]) (hd.keep (hE4.keeps _)) (by omega) ?_
  intro v5 w5 ho5 hE5 hf5
  have hz5 := hE5.size
  have hb5 := hE5.blk_some hb4 id
  have hR5 := (RepS_lay true (d + 4) fs_DescribeProducersResponse).keep hR4' (hE5.keeps _)
  obtain ⟨a5, c5, rfl, _⟩ := ho5.shape
  simp (maxSteps := 1000000) (disch := (first | omega | (simp only [World.size_alloc, size_wr, size_drew] <;> omega) | exact not_noB _)) only [go_sem, ↓reduceIte, n0, reduceCtorEq, n1, n2, n3, n4, n5, i0, i1, i2, i3, i4, i5, i6, i7]
  have hcl : (0 ≤ (ver : Int) ∧ (ver : Int) ≤ 0) := by omega
  rcases hcl with ⟨h1, h2⟩
  · have hfl : flexB 0 ver = true := by simp only [flexB, Bool.and_eq_true, decide_eq_true_eq]; omega
    rw [hfl] at hcn hR5 hl ⊢
    refine (appDescribeProducersResponse_0 (d := d) (B := w.heap.size) h1 h2 _ cells _ D w5 (Own.mono ho5 (by omega)) (by omega) hb5 hR5 hcn.2 (fun b _ h1 h2 => by have := hf5 b h2; omega) (fun h => by have := hf5 _ h; omega) (by rw [hcn.1]; omega)).mono ?_
    rintro r6 w6 h6
    repeat ((first | refine W.seqR rfl ?_ | refine W.seq ?_ | refine W.regR rfl ?_ | refine W.condK ?_ | refine W.block ?_ | refine W.skip ?_ | refine W.ret ?_ | refine W.exit ?_); try simp (maxSteps := 1000000) (disch := (first | omega | (simp only [World.size_alloc, size_wr, size_drew] <;> omega) | exact not_noB _)) only [go_sem, ↓reduceIte, n0, reduceCtorEq, n1, n2, n3, n4, n5, i0, i1, i2, i3, i4, i5, i6, i7])
    refine ⟨by have := h6.own; rw [hcn.1] at this; exact ⟨_, rfl, this⟩, (hE4.trans hE5).more h6.upd fun b hb h => by have := hf5 b h; omega⟩

end Ms

namespace Ms
open Nat renaming reduceEqDiff → n0, reduceAdd → n1, reduceMul → n2, reduceSub → n3, reduceLT → n4, reduceLeDiff → n5
open Int renaming reduceEq → i0, reduceLT → i1, reduceLE → i2, reduceNeg → i3, reduceAdd → i4, reduceSub → i5, reduceMul → i6, reduceToNat → i7
set_option maxRecDepth 8000
open Go Go.Proofs Go.Shelf
attribute [local congr] W_congr WPsq_congr WPp_congr optK_congr addrK_congr intK_congr boolK_congr sliceK_congr tupleK_congr funcK_congr Fn_congr rawK_congr takeK_congr stepK_congr convK_congr aggK_congr

set_option maxHeartbeats 2000000 in
theorem law_BehindDescribeProducersResponse {ok : Blocks} {ev : Value} (n : Nat) (hn : n < 256) (dst : Value) (Dd : List UInt8) (t : Tree) (ct : List Value) (w : World) (hd : BytesV ok w dst Dd) (ht : TreeC ok w t ct) (hsm : Small 4611686018427387903 t) (hG : Glo ev w) (hDl : Dd.length ≤ 1048576) {N : Nat} (hN : N ≤ 1048576) (hsz : Sized N t) :
    Fn Tryz.prog 3 #[.int .u8 n, dst, .agg ct.toArray] w fun r w' => r = .bool true ∧ Ext w w' := by
  obtain ⟨vS, vL, vU, rfl, hn', hS, hL, hU⟩ := ht.inv
  obtain ⟨da, dc, rfl, _⟩ := hd.shape
  have f1 := hS.flat
  have f2 := SlR.flat hL
  have f3 := SlR.flat hU
  have hD1 : ¬ (2147483647 : Int) < (Dd.length : Int) := by omega
  have hE : Ext w (w.alloc (.cells #[.int .i64 t.n, vS, .bool t.null, vL, vU] 26)) := Upd.alloc (Upd.refl _ _) _
  refine fn_of_W Tryz.func3 rfl Tryz.results3 Tryz.ntmps3 rfl ?_
  repeat ((first | refine W.seqR rfl ?_ | refine W.seq ?_ | refine W.regR rfl ?_ | refine W.condK ?_ | refine W.block ?_ | refine W.skip ?_ | refine W.ret ?_ | refine W.exit ?_); try simp (maxSteps := 1000000) (disch := (first | omega | (simp only [World.size_alloc, size_wr, size_drew] <;> omega) | exact not_noB _)) only [go_sem, ↓reduceIte, n0, reduceCtorEq, n1, n2, n3, n4, n5, i0, i1, i2, i3, i4, i5, i6, i7, f1, f2, f3, cellsAt_five, hD1])
  have hb : blk (w.alloc (.cells #[.int .i64 t.n, vS, .bool t.null, vL, vU] 26)) w.heap.size = some (#[.int .i64 t.n, vS, .bool t.null, vL, vU], 26, (0, 0)) := blk_alloc_new rfl
  generalize (w.alloc (.cells #[.int .i64 t.n, vS, .bool t.null, vL, vU] 26)) = w1 at *
  refine (zzFits1_fn (ok := ok) t _ w1 (ht.keep (hE.keeps _)) hsm).mono ?_
  rintro r2 w2 ⟨⟨bb, rfl⟩, hE2⟩
  cases bb with
  | false =>
    simp (maxSteps := 1000000) (disch := (first | omega | (simp only [World.size_alloc, size_wr, size_drew] <;> omega) | exact not_noB _)) only [go_sem, ↓reduceIte, n0, reduceCtorEq, n1, n2, n3, n4, n5, i0, i1, i2, i3, i4, i5, i6, i7]
    repeat ((first | refine W.seqR rfl ?_ | refine W.seq ?_ | refine W.regR rfl ?_ | refine W.condK ?_ | refine W.block ?_ | refine W.skip ?_ | refine W.ret ?_ | refine W.exit ?_); try simp (maxSteps := 1000000) (disch := (first | omega | (simp only [World.size_alloc, size_wr, size_drew] <;> omega) | exact not_noB _)) only [go_sem, ↓reduceIte, n0, reduceCtorEq, n1, n2, n3, n4, n5, i0, i1, i2, i3, i4, i5, i6, i7])
    all_goals exact hE.trans hE2
  | true =>
    simp (maxSteps := 1000000) (disch := (first | omega | (simp only [World.size_alloc, size_wr, size_drew] <;> omega) | exact not_noB _)) only [go_sem, ↓reduceIte, n0, reduceCtorEq, n1, n2, n3, n4, n5, i0, i1, i2, i3, i4, i5, i6, i7]
    repeat ((first | refine W.seqR rfl ?_ | refine W.seq ?_ | refine W.regR rfl ?_ | refine W.condK ?_ | refine W.block ?_ | refine W.skip ?_ | refine W.ret ?_ | refine W.exit ?_); try simp (maxSteps := 1000000) (disch := (first | omega | (simp only [World.size_alloc, size_wr, size_drew] <;> omega) | exact not_noB _)) only [go_sem, ↓reduceIte, n0, reduceCtorEq, n1, n2, n3, n4, n5, i0, i1, i2, i3, i4, i5, i6, i7])
    refine (MaxDescribeProducersResponse_fn w2).mono ?_
    rintro _ w2m ⟨rfl, hE2m⟩
    repeat ((first | refine W.seqR rfl ?_ | refine W.seq ?_ | refine W.regR rfl ?_ | refine W.condK ?_ | refine W.block ?_ | refine W.skip ?_ | refine W.ret ?_ | refine W.exit ?_); try simp (maxSteps := 1000000) (disch := (first | omega | (simp only [World.size_alloc, size_wr, size_drew] <;> omega) | exact not_noB _)) only [go_sem, ↓reduceIte, n0, reduceCtorEq, n1, n2, n3, n4, n5, i0, i1, i2, i3, i4, i5, i6, i7])
    refine (cDescribeProducersResponse_fn w2m).mono ?_
    rintro r3 w3 ⟨⟨vs, rfl, hF0⟩, hE3⟩
    have hF : FldsV AnyB w3 vs fs_DescribeProducersResponse := hF0.weaken fun _ _ _ => trivial
    have fF := SlR.flat hF
    simp (maxSteps := 1000000) (disch := (first | omega | (simp only [World.size_alloc, size_wr, size_drew] <;> omega) | exact not_noB _)) only [go_sem, ↓reduceIte, n0, reduceCtorEq, n1, n2, n3, n4, n5, i0, i1, i2, i3, i4, i5, i6, i7]
    refine (version_fn w3 n 0 hn (by decide)).mono ?_
    rintro _ w3v ⟨rfl, rfl⟩
    have hE03 : Ext w w3v := ((hE.trans hE2).trans hE2m).trans hE3
    have hb3 := hE3.blk_some (hE2m.blk_some (hE2.blk_some hb id) id) id
    have hE4 : Ext w3v (wr (w3v.alloc (.cells #[.slice none 0 0, .int .i64 0] 31)) w3v.heap.size 0 [vs, .int .i64 0]) := (Upd.alloc (Upd.refl _ _) _).wr _ _ (.inl (Nat.le_refl _))
    have hb4 : blk (wr (w3v.alloc (.cells #[.slice none 0 0, .int .i64 0] 31)) w3v.heap.size 0 [vs, .int .i64 0]) w3v.heap.size = some (#[vs, .int .i64 0], 31, (0, 0)) := by simp (maxSteps := 1000000) (disch := (first | omega | (simp only [World.size_alloc, size_wr, size_drew] <;> omega) | exact not_noB _)) only [go_sem, ↓reduceIte, n0, reduceCtorEq, n1, n2, n3, n4, n5, i0, i1, i2, i3, i4, i5, i6, i7]
    simp (maxSteps := 1000000) (disch := (first | omega | (simp only [World.size_alloc, size_wr, size_drew] <;> omega) | exact not_noB _)) only [go_sem, ↓reduceIte, n0, reduceCtorEq, n1, n2, n3, n4, n5, i0, i1, i2, i3, i4, i5, i6, i7, fF]
    generalize (wr (w3v.alloc (.cells #[.slice none 0 0, .int .i64 0] 31)) w3v.heap.size 0 [vs, .int .i64 0]) = w4 at *
    have hb34 := hE4.blk_some hb3 id
    have hv3 : n % 1 < 1 := Nat.mod_lt _ (by omega)
    generalize n % 1 = ver at *
    have hs1 := blk_lt hb4
    have hs2 := blk_lt hb34
    by_cases hD2 : (1000 : Int) < (Dd.length : Int)
    · repeat ((first | refine W.seqR rfl ?_ | refine W.seq ?_ | refine W.regR rfl ?_ | refine W.condK ?_ | refine W.block ?_ | refine W.skip ?_ | refine W.ret ?_ | refine W.exit ?_); try simp (maxSteps := 1000000) (disch := (first | omega | (simp only [World.size_alloc, size_wr, size_drew] <;> omega) | exact not_noB _)) only [go_sem, ↓reduceIte, n0, reduceCtorEq, n1, n2, n3, n4, n5, i0, i1, i2, i3, i4, i5, i6, i7, hD2])
      all_goals exact hE03.trans hE4
    repeat ((first | refine W.seqR rfl ?_ | refine W.seq ?_ | refine W.regR rfl ?_ | refine W.condK ?_ | refine W.block ?_ | refine W.skip ?_ | refine W.ret ?_ | refine W.exit ?_); try simp (maxSteps := 1000000) (disch := (first | omega | (simp only [World.size_alloc, size_wr, size_drew] <;> omega) | exact not_noB _)) only [go_sem, ↓reduceIte, n0, reduceCtorEq, n1, n2, n3, n4, n5, i0, i1, i2, i3, i4, i5, i6, i7, hD2, hb34, hb4, cellsAt_five, cellsAt_two])
    have hE04 : Ext w w4 := hE03.trans hE4
    have hokF : okF 4 fs_DescribeProducersResponse = true := by decide
    have hokM : okM 4 fs_DescribeProducersResponse = true := by decide
    have hokR : okR 4 ver (flexB 0 ver) fs_DescribeProducersResponse = true := (by decide : ∀ v : Fin 1, okR 4 ((v.val : Nat) : Int) (flexB 0 ((v.val : Nat) : Int)) fs_DescribeProducersResponse = true) ⟨ver, hv3⟩
    have hpl : (partS 5 fs_DescribeProducersResponse ver (flexB 0 ver) t).length ≤ 2 ^ 40 := Nat.le_trans (partS_bound ver _ 4 fs_DescribeProducersResponse N t hokM hsz) (Nat.le_trans (Nat.mul_le_mul_left _ (Nat.succ_le_succ hN)) (by decide))
    refine (Write_fn (ok := AnyB) (d := 4) fs_DescribeProducersResponse 0 ver t vs _ w4 (hF.keep (Ext.keeps hE4 _)) hokF ((ht.weaken fun _ _ _ => trivial).keep (Ext.keeps hE04 _)) hsm hpl).mono ?_
    rintro r5 w5 ⟨ho5, hE5⟩
    have hE05 := hE04.trans hE5
    obtain ⟨a5, c5, rfl, _⟩ := ho5.shape
    repeat ((first | refine W.seqR rfl ?_ | refine W.seq ?_ | refine W.regR rfl ?_ | refine W.condK ?_ | refine W.block ?_ | refine W.skip ?_ | refine W.ret ?_ | refine W.exit ?_); try simp (maxSteps := 1000000) (disch := (first | omega | (simp only [World.size_alloc, size_wr, size_drew] <;> omega) | exact not_noB _)) only [go_sem, ↓reduceIte, n0, reduceCtorEq, n1, n2, n3, n4, n5, i0, i1, i2, i3, i4, i5, i6, i7])
    have hrd := (rdP_part ver (flexB 0 ver) 4 fs_DescribeProducersResponse N t hokR hsz).1 []
    rw [List.append_nil] at hrd
    refine (BehindDescribeProducersResponse_fn (d := 1) (ok := AnyB) (ev := ev) ver (by omega) t _ _ Dd w5 ((hd.weaken (ok' := AnyB) fun _ _ _ => trivial).keep (Ext.keeps hE05 _)) (Own.bytes (ok := AnyB) ho5 fun _ _ => trivial) (hG.updS hE05 id id) hrd (partS_cn ver (flexB 0 ver) 4 fs_DescribeProducersResponse t hokR) (by omega) hpl).mono ?_
    rintro _ w6 ⟨⟨v6, rfl, ho6⟩, hE6⟩
    have hE06 := hE05.trans hE6
    obtain ⟨a6, c6, rfl, _⟩ := ho6.shape
    try simp (maxSteps := 1000000) (disch := (first | omega | (simp only [World.size_alloc, size_wr, size_drew] <;> omega) | exact not_noB _)) only [go_sem, ↓reduceIte, n0, reduceCtorEq, n1, n2, n3, n4, n5, i0, i1, i2, i3, i4, i5, i6, i7]
    repeat ((first | refine W.seqR rfl ?_ | refine W.seq ?_ | refine W.regR rfl ?_ | refine W.condK ?_ | refine W.block ?_ | refine W.skip ?_ | refine W.ret ?_ | refine W.exit ?_); try simp (maxSteps := 1000000) (disch := (first | omega | (simp only [World.size_alloc, size_wr, size_drew] <;> omega) | exact not_noB _)) only [go_sem, ↓reduceIte, n0, reduceCtorEq, n1, n2, n3, n4, n5, i0, i1, i2, i3, i4, i5, i6, i7])
    have hE7 : Ext w6 (w6.alloc (.cells #[] 5)) := Upd.alloc (Upd.refl _ _) _
    have ho7 : Own w6.heap.size (w6.alloc (.cells #[] 5)) 5 1 (.slice (some ⟨w6.heap.size, 0, none⟩) 0 0) 0 [] := ⟨by simp, .inr ⟨_, 0, [], (0, 0), rfl, Nat.le_refl _, blk_alloc_new rfl, rfl, thaw_00 _ _, Nat.le_refl _⟩⟩
    have ha6 : blk (w6.alloc (.cells #[] 5)) w6.heap.size = some (#[], 5, (0, 0)) := blk_alloc_new rfl
    generalize w6.alloc (.cells #[] 5) = w7 at *
    have hz6 := hE6.size
    have hz7 := hE7.size
    have hz05 := hE05.size
    have hd7 : BytesV AnyB w7 _ Dd := BytesV.keep (hd.weaken (ok' := AnyB) fun _ _ _ => trivial) (Ext.keeps (hE06.trans hE7) _)
    have hb7 : BytesV (fun b => b < w6.heap.size) w7 _ (partS 5 fs_DescribeProducersResponse ver (flexB 0 ver) t) := BytesV.keep ((Own.bytes (ok := AnyB) ho5 fun _ _ => trivial).weaken fun b hb _ => by omega) (Ext.keeps (hE6.trans hE7) _)
    have hr7 : BytesV (fun b => b < w6.heap.size) w7 _ (Dd ++ (partS 5 fs_DescribeProducersResponse ver (flexB 0 ver) t)) := BytesV.keep ((Own.bytes (ok := AnyB) ho6 fun _ _ => trivial).weaken fun b hb _ => hb) (Ext.keeps hE7 _)
    refine wp_append ap_22_22 (B := w6.heap.size) (n := 0) (cs := []) (m := Dd.length) (news := Dd.map byteV) (v := .slice (some ⟨w6.heap.size, 0, none⟩) 0 0) (u := .slice da Dd.length dc) (by first | rfl | simp (maxSteps := 1000000) (disch := (first | omega | (simp only [World.size_alloc, size_wr, size_drew] <;> omega) | exact not_noB _)) only [go_sem, ↓reduceIte, n0, reduceCtorEq, n1, n2, n3, n4, n5, i0, i1, i2, i3, i4, i5, i6, i7]) (by first | rfl | simp (maxSteps := 1000000) (disch := (first | omega | (simp only [World.size_alloc, size_wr, size_drew] <;> omega) | exact not_noB _)) only [go_sem, ↓reduceIte, n0, reduceCtorEq, n1, n2, n3, n4, n5, i0, i1, i2, i3, i4, i5, i6, i7]) ho7 rfl hd7.src (by omega) (by omega) ?_
    intro v8 w8 h8 hU8 hf8
    rw [Nat.zero_add, List.nil_append] at h8
    have hz8 := hU8.size
    have hn7 : ∀ b, ownB (.slice (some ⟨w6.heap.size, 0, none⟩) 0 0) b → b = w6.heap.size := fun b h => ownB_row h
    have hE8 : Ext w w8 := (hE06.trans hE7).more hU8 fun b hb h => by have := hn7 b h; have := hE06.size; omega
    have hb8 := hb7.keep (hU8.keeps fun b _ hk h => by have := hn7 b h; omega)
    have hr8 := hr7.keep (hU8.keeps fun b _ hk h => by have := hn7 b h; omega)
    obtain ⟨a8, c8, rfl, _⟩ := h8.shape
    simp (maxSteps := 1000000) (disch := (first | omega | (simp only [World.size_alloc, size_wr, size_drew] <;> omega) | exact not_noB _)) only [go_sem, ↓reduceIte, n0, reduceCtorEq, n1, n2, n3, n4, n5, i0, i1, i2, i3, i4, i5, i6, i7]
    refine wp_append ap_22_22 (B := w6.heap.size) (n := Dd.length) (cs := Dd.map byteV) (m := (partS 5 fs_DescribeProducersResponse ver (flexB 0 ver) t).length) (news := (partS 5 fs_DescribeProducersResponse ver (flexB 0 ver) t).map byteV) (v := .slice a8 Dd.length c8) (u := .slice a5 _ c5) (by first | rfl | simp (maxSteps := 1000000) (disch := (first | omega | (simp only [World.size_alloc, size_wr, size_drew] <;> omega) | exact not_noB _)) only [go_sem, ↓reduceIte, n0, reduceCtorEq, n1, n2, n3, n4, n5, i0, i1, i2, i3, i4, i5, i6, i7]) (by first | rfl | simp (maxSteps := 1000000) (disch := (first | omega | (simp only [World.size_alloc, size_wr, size_drew] <;> omega) | exact not_noB _)) only [go_sem, ↓reduceIte, n0, reduceCtorEq, n1, n2, n3, n4, n5, i0, i1, i2, i3, i4, i5, i6, i7]) h8 (flat_bytes _) hb8.src (by omega) (by omega) ?_
    intro v9 w9 h9 hU9 hf9
    rw [← List.map_append, ← List.length_append] at h9
    have hn8 : ∀ b, ownB (.slice a8 Dd.length c8) b → w6.heap.size ≤ b := fun b h => by
      rcases hf8 b h with h | h
      · have := hn7 b h; omega
      · omega
    have hE9 : Ext w w9 := hE8.more hU9 fun b hb h => by have := hn8 b h; have := hE06.size; omega
    have hr9 := hr8.keep (hU9.keeps fun b _ hk h => by have := hn8 b h; omega)
    obtain ⟨a9, c9, rfl, _⟩ := h9.shape
    simp (maxSteps := 1000000) (disch := (first | omega | (simp only [World.size_alloc, size_wr, size_drew] <;> omega) | exact not_noB _)) only [go_sem, ↓reduceIte, n0, reduceCtorEq, n1, n2, n3, n4, n5, i0, i1, i2, i3, i4, i5, i6, i7]
    refine (Same_fn (ok := AnyB) (Dd ++ (partS 5 fs_DescribeProducersResponse ver (flexB 0 ver) t)) (Dd ++ (partS 5 fs_DescribeProducersResponse ver (flexB 0 ver) t)) _ _ w9 (hr9.weaken fun _ _ _ => trivial) (Own.bytes h9 fun _ _ => trivial) (by rw [List.length_append]; omega)).mono ?_
    rintro _ w10 ⟨rfl, hE10⟩
    try simp (maxSteps := 1000000) (disch := (first | omega | (simp only [World.size_alloc, size_wr, size_drew] <;> omega) | exact not_noB _)) only [go_sem, ↓reduceIte, n0, reduceCtorEq, n1, n2, n3, n4, n5, i0, i1, i2, i3, i4, i5, i6, i7]
    repeat ((first | refine W.seqR rfl ?_ | refine W.seq ?_ | refine W.regR rfl ?_ | refine W.condK ?_ | refine W.block ?_ | refine W.skip ?_ | refine W.ret ?_ | refine W.exit ?_); try simp (maxSteps := 1000000) (disch := (first | omega | (simp only [World.size_alloc, size_wr, size_drew] <;> omega) | exact not_noB _)) only [go_sem, ↓reduceIte, n0, reduceCtorEq, n1, n2, n3, n4, n5, i0, i1, i2, i3, i4, i5, i6, i7])
    all_goals exact hE9.trans hE10

end Ms

