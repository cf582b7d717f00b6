/- A part of the proof: see the last text. -/
import Derived.Test.YtaebchgadbafjaaC02
import Derived.Test.YtaebchgadbafjaaC08
import Derived.Test.YtaebchgadbafjaaStopReplicaRequestP0
import Derived.Test.YtaebchgadbafjaaStopReplicaRequestP1
import Derived.Test.YtaebchgadbafjaaStopReplicaRequestP2
set_option linter.unusedSimpArgs false
set_option linter.unusedVariables false
namespace Ms
open Nat renaming reduceEqDiff → n0, reduceAdd → n1, reduceMul → n2, reduceSub → n3, reduceLT → n4, reduceLeDiff → n5
open Int renaming reduceEq → i0, reduceLT → i1, reduceLE → i2, reduceNeg → i3, reduceAdd → i4, reduceSub → i5, reduceMul → i6, reduceToNat → i7
set_option maxRecDepth 8000
open Go Go.Proofs Go.Shelf
attribute [local congr] W_congr WPsq_congr WPp_congr optK_congr addrK_congr intK_congr boolK_congr sliceK_congr tupleK_congr funcK_congr Fn_congr rawK_congr takeK_congr stepK_congr convK_congr aggK_congr

set_option maxHeartbeats 4000000 in
theorem appStopReplicaRequest_3 {d B : Nat} {okM : Blocks} {ver : Int} (hlo : 3 ≤ ver) (hhi : ver ≤ 3) (t : Tree) (cells : List Value) (v : Value) (s : List UInt8) (w : World) {vb : Nat} (ho : OwnBy 5 B w v s) (hB : B ≤ w.heap.size) (hvb : blk w vb = some ((.int .i16 ver :: cells).toArray, 110, (0, 0)))
    (hR : RepS true (d + 3) fs_StopReplicaRequest okM w t cells) (hfit : FitP ver (d + 3) fs_StopReplicaRequest t) (hd : ∀ b, b < w.heap.size → okM b → ¬ ownB v b) (hdv : ¬ ownB v vb) (hlen : s.length + (partS (d + 3) fs_StopReplicaRequest ver true t).length ≤ 2 ^ 41) :
    Fn Try.prog 100 #[.pointer (some ⟨vb, 0, none⟩), v] w fun r w' => AppR 5 B w v s (partS (d + 3) fs_StopReplicaRequest ver true t) r w' := by
  obtain ⟨⟨g_0, g_1, g_2, g_3, g_4, g_5, -⟩, hfu⟩ := hfit
  replace g_0 : FitF (FitP ver (d + 2)) ver fStopReplicaRequest_0 (t.at 0) := g_0
  replace g_1 : FitF (FitP ver (d + 2)) ver fStopReplicaRequest_1 (t.at 1) := g_1
  replace g_2 : FitF (FitP ver (d + 2)) ver fStopReplicaRequest_2 (t.at 2) := g_2
  replace g_3 : FitF (FitP ver (d + 2)) ver fStopReplicaRequest_3 (t.at 3) := g_3
  replace g_4 : FitF (FitP ver (d + 2)) ver fStopReplicaRequest_4 (t.at 4) := g_4
  replace g_5 : FitF (FitP ver (d + 2)) ver fStopReplicaRequest_5 (t.at 5) := g_5
  obtain ⟨cs, q, hcs, hL, hT⟩ := hR.inv
  obtain ⟨c_0, e_0, rfl, h_0, c_1, e_1, rfl, h_1, c_2, e_2, rfl, h_2, c_3, e_3, rfl, h_3, c_4, e_4, rfl, h_4, c_5, e_5, rfl, h_5, rfl⟩ := hL
  replace h_0 : RepF (RepS true (d + 2)) (szS true (d + 2)) fStopReplicaRequest_0 okM w (t.at 0) c_0 := h_0
  replace h_1 : RepF (RepS true (d + 2)) (szS true (d + 2)) fStopReplicaRequest_1 okM w (t.at 1) c_1 := h_1
  replace h_2 : RepF (RepS true (d + 2)) (szS true (d + 2)) fStopReplicaRequest_2 okM w (t.at 2) c_2 := h_2
  replace h_3 : RepF (RepS true (d + 2)) (szS true (d + 2)) fStopReplicaRequest_3 okM w (t.at 3) c_3 := h_3
  replace h_4 : RepF (RepS true (d + 2)) (szS true (d + 2)) fStopReplicaRequest_4 okM w (t.at 4) c_4 := h_4
  replace h_5 : RepF (RepS true (d + 2)) (szS true (d + 2)) fStopReplicaRequest_5 okM w (t.at 5) c_5 := h_5
  obtain rfl := (RepF_num (by decide)).1 h_0
  obtain rfl := (RepF_num (by decide)).1 h_1
  obtain rfl := (RepF_num (by decide)).1 h_2
  obtain rfl := (RepF_num (by decide)).1 h_3
  obtain rfl := (RepF_num (by decide)).1 h_4
  have hn_5 := g_5.notnull (by decide)
  obtain ⟨p_5, rfl, hs_5, -⟩ := (RepF_list rfl hn_5).1 h_5
  obtain ⟨ab_5, ac_5, rfl, _⟩ := SlR.shape hs_5
  have hll_5 := (g_5.list rfl).1
  obtain ⟨qm, rfl⟩ := hT.shape
  have hv : blk w vb = some (#[.int .i16 ver, .int .i32 (IntKind.i32.wrap (t.at 0).n), .int .i32 (IntKind.i32.wrap (t.at 1).n), .bool (decide ((t.at 2).n % 2 = 1)), .int .i64 (t.at 3).n, .bool (decide ((t.at 4).n % 2 = 1)), .slice ab_5 (t.at 5).l.length ac_5, .map qm], 110, (0, 0)) := by rw [hvb, hcs]; rfl
  clear hvb hcs
  have hh_0 : hasS fStopReplicaRequest_0 ver = true := hasS_t (by show (0 : Int) ≤ ver; omega) (by show (-1 : Int) < 0 ∨ ver ≤ (-1 : Int); omega)
  obtain ⟨X_0, hXX_0⟩ : ∃ X, X = fixedS (t.at 0).n 4 := ⟨_, rfl⟩
  have hh_1 : hasS fStopReplicaRequest_1 ver = true := hasS_t (by show (0 : Int) ≤ ver; omega) (by show (-1 : Int) < 0 ∨ ver ≤ (-1 : Int); omega)
  obtain ⟨X_1, hXX_1⟩ : ∃ X, X = fixedS (t.at 1).n 4 := ⟨_, rfl⟩
  have hh_2 : hasS fStopReplicaRequest_2 ver = false := hasS_f (by show ver < 4 ∨ (0 ≤ (-1 : Int) ∧ (-1 : Int) < ver); omega)
  have hh_3 : hasS fStopReplicaRequest_3 ver = true := hasS_t (by show (1 : Int) ≤ ver; omega) (by show (-1 : Int) < 0 ∨ ver ≤ (-1 : Int); omega)
  obtain ⟨X_3, hXX_3⟩ : ∃ X, X = fixedS (t.at 3).n 8 := ⟨_, rfl⟩
  have hh_4 : hasS fStopReplicaRequest_4 ver = false := hasS_f (by show ver < 0 ∨ (0 ≤ (2 : Int) ∧ (2 : Int) < ver); omega)
  have hh_5 : hasS fStopReplicaRequest_5 ver = true := hasS_t (by show (0 : Int) ≤ ver; omega) (by show (-1 : Int) < 0 ∨ ver ≤ (-1 : Int); omega)
  obtain ⟨XL_5, hXL_5⟩ : ∃ X, X = uvarS ((t.at 5).l.length + 1) := ⟨_, rfl⟩
  obtain ⟨XE_5, hXE_5⟩ : ∃ X, X = (t.at 5).l.flatMap (fun x => partS (d + 2) fs_StopReplicaRequestTopic ver true x) := ⟨_, rfl⟩
  obtain ⟨XU, hXU⟩ : ∃ X, X = uvarS t.u.length := ⟨_, rfl⟩
  obtain ⟨XT, hXT⟩ : ∃ X, X = t.u.flatMap oneTag := ⟨_, rfl⟩
  have hP : partS (d + 3) fs_StopReplicaRequest ver true t = (X_0 ++ (X_1 ++ (X_3 ++ ((XL_5 ++ XE_5) ++ [])))) ++ (XU ++ XT) := by rw [hXU, hXT]; exact partS_yes rfl hfu (plainL_has (by decide) hh_0 ((fieldS_num 3 rfl (by decide)).trans hXX_0.symm) (plainL_has (by decide) hh_1 ((fieldS_num 3 rfl (by decide)).trans hXX_1.symm) (plainL_not hh_2 (plainL_has (by decide) hh_3 ((fieldS_num 4 rfl (by decide)).trans hXX_3.symm) (plainL_not hh_4 (plainL_has (by decide) hh_5 ((fieldS_list_t (g := (fun x => partS (d + 2) fs_StopReplicaRequestTopic ver true x)) g_5 rfl (by decide) (fun x _ => valueS_part)).trans (by rw [hXL_5, hXE_5])) rfl))))))
  rw [hP] at hlen
  simp only [List.length_append, List.length_nil] at hlen
  have hdK : ∀ {r : Value} {w' : World} {add : List UInt8}, AppR 5 B w v s add r w' → ∀ b, b < w'.heap.size → OkS okM w.heap.size b → ¬ ownB r b := fun h b _ hk ho => (h.frame b ho).elim (hd b hk.2 hk.1) (fun h => by have := hk.2; omega)
  have ownK : ∀ {r : Value} {w' : World} {add : List UInt8} {b : Nat}, AppR 5 B w v s add r w' → b < w.heap.size → ¬ ownB v b → ¬ ownB r b := fun h hb hn ho => (h.frame _ ho).elim hn (fun h => by omega)
  have ha0 : AppR 5 B w v s [] v w := AppR.refl ho
  obtain ⟨w0, hw0⟩ : ∃ w0, w0 = w := ⟨_, rfl⟩
  have hB0 := hB
  have hv_0 := hv
  refine fn_of_W Try.func100 rfl Try.results100 Try.ntmps100 rfl ?_
  repeat ((first | refine W.seqR rfl ?_ | refine W.seq ?_ | refine W.regR rfl ?_ | refine W.condK ?_ | refine W.block ?_ | refine W.skip ?_ | refine W.ret ?_ | refine W.exit ?_); try simp (maxSteps := 1000000) (disch := (first | omega | (simp only [World.size_alloc, size_wr, size_drew] <;> omega) | exact not_noB _)) only [go_sem, ↓reduceIte, n0, reduceCtorEq, n1, n2, n3, n4, n5, i0, i1, i2, i3, i4, i5, i6, i7, hv_0])
  refine (AppendInt32_fn _ _ _ ha0.own hB0 _ (by simp only [List.length_append, List.length_nil]; omega)).mono ?_
  rintro r1 w1 hc1
  rw [wrap32, ← hXX_0] at hc1
  have ha1 := ha0.trans hc1
  have hB1 : B ≤ w1.heap.size := Nat.le_trans hB ha1.upd.size
  have hv_1 := ha1.upd.blk_some hv hdv
  repeat ((first | refine W.seqR rfl ?_ | refine W.seq ?_ | refine W.regR rfl ?_ | refine W.condK ?_ | refine W.block ?_ | refine W.skip ?_ | refine W.ret ?_ | refine W.exit ?_); try simp (maxSteps := 1000000) (disch := (first | omega | (simp only [World.size_alloc, size_wr, size_drew] <;> omega) | exact not_noB _)) only [go_sem, ↓reduceIte, n0, reduceCtorEq, n1, n2, n3, n4, n5, i0, i1, i2, i3, i4, i5, i6, i7, hv_1])
  refine (AppendInt32_fn _ _ _ ha1.own hB1 _ (by simp only [List.length_append, List.length_nil]; omega)).mono ?_
  rintro r2 w2 hc2
  rw [wrap32, ← hXX_1] at hc2
  have ha2 := ha1.trans hc2
  have hB2 : B ≤ w2.heap.size := Nat.le_trans hB ha2.upd.size
  have hv_2 := ha2.upd.blk_some hv hdv
  repeat ((first | refine W.seqR rfl ?_ | refine W.seq ?_ | refine W.regR rfl ?_ | refine W.condK ?_ | refine W.block ?_ | refine W.skip ?_ | refine W.ret ?_ | refine W.exit ?_); try simp (maxSteps := 1000000) (disch := (first | omega | (simp only [World.size_alloc, size_wr, size_drew] <;> omega) | exact not_noB _)) only [go_sem, ↓reduceIte, n0, reduceCtorEq, n1, n2, n3, n4, n5, i0, i1, i2, i3, i4, i5, i6, i7, hv_2])
  refine (AppendInt64_fn _ _ _ ha2.own hB2 _ (by simp only [List.length_append, List.length_nil]; omega)).mono ?_
  rintro r3 w3 hc3
  rw [← hXX_3] at hc3
  have ha3 := ha2.trans hc3
  have hB3 : B ≤ w3.heap.size := Nat.le_trans hB ha3.upd.size
  have hv_3 := ha3.upd.blk_some hv hdv
  repeat ((first | refine W.seqR rfl ?_ | refine W.seq ?_ | refine W.regR rfl ?_ | refine W.condK ?_ | refine W.block ?_ | refine W.skip ?_ | refine W.ret ?_ | refine W.exit ?_); try simp (maxSteps := 1000000) (disch := (first | omega | (simp only [World.size_alloc, size_wr, size_drew] <;> omega) | exact not_noB _)) only [go_sem, ↓reduceIte, n0, reduceCtorEq, n1, n2, n3, n4, n5, i0, i1, i2, i3, i4, i5, i6, i7, hv_3])
  refine (AppendCompactArrayLen_fn _ _ _ ha3.own hB3 (t.at 5).l.length hll_5 (by simp only [List.length_append, List.length_nil]; omega)).mono ?_
  rintro r4 w4 hc4
  rw [← hXL_5] at hc4
  have ha4 := ha3.trans hc4
  have hB4 : B ≤ w4.heap.size := Nat.le_trans hB ha4.upd.size
  have hv_4 := ha4.upd.blk_some hv hdv
  repeat ((first | refine W.seqR rfl ?_ | refine W.seq ?_ | refine W.regR rfl ?_ | refine W.condK ?_ | refine W.block ?_ | refine W.skip ?_ | refine W.ret ?_ | refine W.exit ?_); try simp (maxSteps := 1000000) (disch := (first | omega | (simp only [World.size_alloc, size_wr, size_drew] <;> omega) | exact not_noB _)) only [go_sem, ↓reduceIte, n0, reduceCtorEq, n1, n2, n3, n4, n5, i0, i1, i2, i3, i4, i5, i6, i7, hv_4])
  have hadd1 := ha4
  refine W.exitJ 0 (fun ρ w' => ∃ r, ρ 1 = r ∧ ρ 0 = .pointer (some ⟨vb, 0, none⟩) ∧ ρ 5 = .int .i16 ver ∧ ρ 6 = .bool true ∧ AppR 5 B w v s (([] ++ X_0 ++ X_1 ++ X_3 ++ XL_5) ++ XE_5) r w')
    (W.loop (fun ρ w' => ∃ (j : Nat) (r : Value), j ≤ (t.at 5).l.length ∧ ρ 94 = .int .i64 j ∧ ρ 93 = .int .i64 (t.at 5).l.length ∧ ρ 12 = .slice ab_5 (t.at 5).l.length ac_5 ∧ ρ 1 = r ∧ ρ 0 = .pointer (some ⟨vb, 0, none⟩) ∧ ρ 5 = .int .i16 ver ∧ ρ 6 = .bool true ∧ AppR 5 B w v s (([] ++ X_0 ++ X_1 ++ X_3 ++ XL_5) ++ ((t.at 5).l.take j).flatMap (fun x => partS (d + 2) fs_StopReplicaRequestTopic ver true x)) r w')
      (fun ρ _ => (t.at 5).l.length - (RowKit.intOf (ρ 94)).toNat) ?_ ?_) ?_
  · refine ⟨0, _, Nat.zero_le _, ?_, ?_, ?_, ?_, ?_, ?_, ?_, ha4.eqs (by rw [List.take_zero, List.flatMap_nil, List.append_nil])⟩ <;> simp (maxSteps := 1000000) (disch := (first | omega | (simp only [World.size_alloc, size_wr, size_drew] <;> omega) | exact not_noB _)) only [go_sem, ↓reduceIte, n0, reduceCtorEq, n1, n2, n3, n4, n5, i0, i1, i2, i3, i4, i5, i6, i7]
    all_goals rfl
  · rintro ρ w5 ⟨j1, r5, hj1, hI1, hN1, hS1, hr1_1, hr1_0, hr1_5, hr1_6, ha5⟩
    have hB5 : B ≤ w5.heap.size := Nat.le_trans hB ha5.upd.size
    have hv_5 := ha5.upd.blk_some hv hdv
    by_cases hlt1 : j1 < (t.at 5).l.length
    · obtain ⟨_, b1, o1, x1, ce1, hb1, hok1, hx1, hbl1, hxs1, hxe1, hq1, hRe1⟩ := SlR.get (size := 5) (by decide) hs_5 hlt1
      subst hb1
      have hcat1 : (t.at 5).l.take (j1 + 1) = (t.at 5).l.take j1 ++ [(t.at 5).l[j1]] := List.take_succ_eq_append_getElem hlt1
      have htl1 := take_flatMap_len (t.at 5).l (fun x => partS (d + 2) fs_StopReplicaRequestTopic ver true x) (j1 + 1)
      rw [← hXE_5, hcat1, List.flatMap_append, List.flatMap_cons, List.flatMap_nil, List.append_nil] at htl1
      have hge1 := (g_5.list rfl).2 _ (List.getElem_mem hlt1)
      generalize (t.at 5).l[j1] = y1 at *
      have hnx1 := hd b1 hbl1 hok1
      obtain ⟨T1, hTT1⟩ : ∃ T, T = ((t.at 5).l.take j1).flatMap (fun x => partS (d + 2) fs_StopReplicaRequestTopic ver true x) := ⟨_, rfl⟩
      rw [← hTT1] at ha5 htl1
      have hx1_5 := ha5.upd.blk_some hx1 hnx1
      replace hRe1 : RepS true (d + 2) fs_StopReplicaRequestTopic okM w y1 ce1 := Rep1_part.1 hRe1
      have hfe1 : FitP ver (d + 2) fs_StopReplicaRequestTopic y1 := hge1.2.2 rfl
      obtain ⟨⟨ge1_0, ge1_1, ge1_2, ge1_3, -⟩, hfue1⟩ := hfe1
      replace ge1_0 : FitF (FitP ver (d + 1)) ver fStopReplicaRequestTopic_0 (y1.at 0) := ge1_0
      replace ge1_1 : FitF (FitP ver (d + 1)) ver fStopReplicaRequestTopic_1 (y1.at 1) := ge1_1
      replace ge1_2 : FitF (FitP ver (d + 1)) ver fStopReplicaRequestTopic_2 (y1.at 2) := ge1_2
      replace ge1_3 : FitF (FitP ver (d + 1)) ver fStopReplicaRequestTopic_3 (y1.at 3) := ge1_3
      obtain ⟨cse1, qe1, hcse1, hLe1, hTe1⟩ := hRe1.inv
      obtain ⟨ce1_0, ee1_0, rfl, he1_0, ce1_1, ee1_1, rfl, he1_1, ce1_2, ee1_2, rfl, he1_2, ce1_3, ee1_3, rfl, he1_3, rfl⟩ := hLe1
      replace he1_0 : RepF (RepS true (d + 1)) (szS true (d + 1)) fStopReplicaRequestTopic_0 okM w (y1.at 0) ce1_0 := he1_0
      replace he1_1 : RepF (RepS true (d + 1)) (szS true (d + 1)) fStopReplicaRequestTopic_1 okM w (y1.at 1) ce1_1 := he1_1
      replace he1_2 : RepF (RepS true (d + 1)) (szS true (d + 1)) fStopReplicaRequestTopic_2 okM w (y1.at 2) ce1_2 := he1_2
      replace he1_3 : RepF (RepS true (d + 1)) (szS true (d + 1)) fStopReplicaRequestTopic_3 okM w (y1.at 3) ce1_3 := he1_3
      obtain rfl := (RepF_text rfl (by decide)).1 he1_0
      obtain rfl := (RepF_num (by decide)).1 he1_1
      have hne1_2 := ge1_2.notnull (by decide)
      obtain ⟨pe1_2, rfl, hse1_2, -⟩ := (RepF_list rfl hne1_2).1 he1_2
      obtain ⟨abe1_2, ace1_2, rfl, _⟩ := SlR.shape hse1_2
      have hlle1_2 := (ge1_2.list rfl).1
      have hne1_3 := ge1_3.notnull (by decide)
      obtain ⟨pe1_3, rfl, hse1_3, -⟩ := (RepF_list rfl hne1_3).1 he1_3
      obtain ⟨abe1_3, ace1_3, rfl, _⟩ := SlR.shape hse1_3
      have hlle1_3 := (ge1_3.list rfl).1
      obtain ⟨qme1, rfl⟩ := hTe1.shape
      subst hcse1
      have hq1_0 : x1.1[o1 + j1 * 5]? = some (strV (y1.at 0).s) := hq1 0 (by decide)
      have hq1_1 : x1.1[o1 + (j1 * 5 + 1)]? = some (.int .i32 (IntKind.i32.wrap (y1.at 1).n)) := hq1 1 (by decide)
      have hq1_2 : x1.1[o1 + (j1 * 5 + 2)]? = some (.slice abe1_2 (y1.at 2).l.length ace1_2) := hq1 2 (by decide)
      have hq1_3 : x1.1[o1 + (j1 * 5 + 3)]? = some (.slice abe1_3 (y1.at 3).l.length ace1_3) := hq1 3 (by decide)
      have hq1_4 : x1.1[o1 + (j1 * 5 + 4)]? = some (.map qme1) := hq1 4 (by decide)
      have hhe1_0 : hasS fStopReplicaRequestTopic_0 ver = true := hasS_t (by show (0 : Int) ≤ ver; omega) (by show (-1 : Int) < 0 ∨ ver ≤ (-1 : Int); omega)
      obtain ⟨Xe1_0, hXXe1_0⟩ : ∃ X, X = uvarS ((y1.at 0).s.length + 1) ++ (y1.at 0).s := ⟨_, rfl⟩
      have hhe1_1 : hasS fStopReplicaRequestTopic_1 ver = false := hasS_f (by show ver < 0 ∨ (0 ≤ (0 : Int) ∧ (0 : Int) < ver); omega)
      have hhe1_2 : hasS fStopReplicaRequestTopic_2 ver = false := hasS_f (by show ver < 1 ∨ (0 ≤ (2 : Int) ∧ (2 : Int) < ver); omega)
      have hhe1_3 : hasS fStopReplicaRequestTopic_3 ver = true := hasS_t (by show (3 : Int) ≤ ver; omega) (by show (-1 : Int) < 0 ∨ ver ≤ (-1 : Int); omega)
      obtain ⟨XLe1_3, hXLe1_3⟩ : ∃ X, X = uvarS ((y1.at 3).l.length + 1) := ⟨_, rfl⟩
      obtain ⟨XEe1_3, hXEe1_3⟩ : ∃ X, X = (y1.at 3).l.flatMap (fun x => partS (d + 1) fs_StopReplicaRequestTopicPartitionState ver true x) := ⟨_, rfl⟩
      obtain ⟨XUe1, hXUe1⟩ : ∃ X, X = uvarS y1.u.length := ⟨_, rfl⟩
      obtain ⟨XTe1, hXTe1⟩ : ∃ X, X = y1.u.flatMap oneTag := ⟨_, rfl⟩
      have hPe1 : partS (d + 2) fs_StopReplicaRequestTopic ver true y1 = (Xe1_0 ++ ((XLe1_3 ++ XEe1_3) ++ [])) ++ (XUe1 ++ XTe1) := by rw [hXUe1, hXTe1]; exact partS_yes rfl hfue1 (plainL_has (by decide) hhe1_0 ((fieldS_text_t ge1_0 rfl (by decide)).trans hXXe1_0.symm) (plainL_not hhe1_1 (plainL_not hhe1_2 (plainL_has (by decide) hhe1_3 ((fieldS_list_t (g := (fun x => partS (d + 1) fs_StopReplicaRequestTopicPartitionState ver true x)) ge1_3 rfl (by decide) (fun x _ => valueS_part)).trans (by rw [hXLe1_3, hXEe1_3])) rfl))))
      rw [hPe1] at htl1
      simp only [List.length_append, List.length_nil] at htl1
      repeat ((first | refine W.seqR rfl ?_ | refine W.seq ?_ | refine W.regR rfl ?_ | refine W.condK ?_ | refine W.block ?_ | refine W.skip ?_ | refine W.ret ?_ | refine W.exit ?_); try simp (maxSteps := 1000000) (disch := (first | omega | (simp only [World.size_alloc, size_wr, size_drew] <;> omega) | exact not_noB _)) only [go_sem, ↓reduceIte, n0, reduceCtorEq, n1, n2, n3, n4, n5, i0, i1, i2, i3, i4, i5, i6, i7, hv_5, hx1_5, Int.toNat_natCast, Nat.mul_one, hq1_0, hq1_1, hq1_2, hq1_3, hq1_4, hr1_1, hr1_0, hr1_5, hr1_6, hI1, hN1, hS1])
      refine (AppendCompactString_fn _ _ _ ha5.own hB5 (y1.at 0).s (ge1_0.text (.inl rfl)) (by simp only [List.length_append, List.length_nil]; omega)).mono ?_
      rintro r6 w6 hc6
      rw [← hXXe1_0] at hc6
      have ha6 := ha5.trans hc6
      have hB6 : B ≤ w6.heap.size := Nat.le_trans hB ha6.upd.size
      have hv_6 := ha6.upd.blk_some hv hdv
      have hx1_6 := ha6.upd.blk_some hx1 hnx1
      repeat ((first | refine W.seqR rfl ?_ | refine W.seq ?_ | refine W.regR rfl ?_ | refine W.condK ?_ | refine W.block ?_ | refine W.skip ?_ | refine W.ret ?_ | refine W.exit ?_); try simp (maxSteps := 1000000) (disch := (first | omega | (simp only [World.size_alloc, size_wr, size_drew] <;> omega) | exact not_noB _)) only [go_sem, ↓reduceIte, n0, reduceCtorEq, n1, n2, n3, n4, n5, i0, i1, i2, i3, i4, i5, i6, i7, hv_6, hx1_6, Int.toNat_natCast, Nat.mul_one, hq1_0, hq1_1, hq1_2, hq1_3, hq1_4, hr1_1, hr1_0, hr1_5, hr1_6, hI1, hN1, hS1])
      refine (AppendCompactArrayLen_fn _ _ _ ha6.own hB6 (y1.at 3).l.length hlle1_3 (by simp only [List.length_append, List.length_nil]; omega)).mono ?_
      rintro r7 w7 hc7
      rw [← hXLe1_3] at hc7
      have ha7 := ha6.trans hc7
      have hB7 : B ≤ w7.heap.size := Nat.le_trans hB ha7.upd.size
      have hv_7 := ha7.upd.blk_some hv hdv
      have hx1_7 := ha7.upd.blk_some hx1 hnx1
      repeat ((first | refine W.seqR rfl ?_ | refine W.seq ?_ | refine W.regR rfl ?_ | refine W.condK ?_ | refine W.block ?_ | refine W.skip ?_ | refine W.ret ?_ | refine W.exit ?_); try simp (maxSteps := 1000000) (disch := (first | omega | (simp only [World.size_alloc, size_wr, size_drew] <;> omega) | exact not_noB _)) only [go_sem, ↓reduceIte, n0, reduceCtorEq, n1, n2, n3, n4, n5, i0, i1, i2, i3, i4, i5, i6, i7, hv_7, hx1_7, Int.toNat_natCast, Nat.mul_one, hq1_0, hq1_1, hq1_2, hq1_3, hq1_4, hr1_1, hr1_0, hr1_5, hr1_6, hI1, hN1, hS1])
      have hadd2 := ha7
      refine W.exitJ 4 (fun ρ w' => ∃ r, ρ 1 = r ∧ ρ 0 = .pointer (some ⟨vb, 0, none⟩) ∧ ρ 5 = .int .i16 ver ∧ ρ 6 = .bool true ∧ ρ 94 = .int .i64 j1 ∧ ρ 93 = .int .i64 (t.at 5).l.length ∧ ρ 12 = .slice (some ⟨b1, o1, none⟩) (t.at 5).l.length ac_5 ∧ ρ 14 = .pointer (some ⟨b1, o1 + j1 * 5, none⟩) ∧ AppR 5 B w v s (([] ++ X_0 ++ X_1 ++ X_3 ++ XL_5 ++ T1 ++ Xe1_0 ++ XLe1_3) ++ XEe1_3) r w')
        (W.loop (fun ρ w' => ∃ (j : Nat) (r : Value), j ≤ (y1.at 3).l.length ∧ ρ 173 = .int .i64 j ∧ ρ 172 = .int .i64 (y1.at 3).l.length ∧ ρ 20 = .slice abe1_3 (y1.at 3).l.length ace1_3 ∧ ρ 1 = r ∧ ρ 0 = .pointer (some ⟨vb, 0, none⟩) ∧ ρ 5 = .int .i16 ver ∧ ρ 6 = .bool true ∧ ρ 94 = .int .i64 j1 ∧ ρ 93 = .int .i64 (t.at 5).l.length ∧ ρ 12 = .slice (some ⟨b1, o1, none⟩) (t.at 5).l.length ac_5 ∧ ρ 14 = .pointer (some ⟨b1, o1 + j1 * 5, none⟩) ∧ AppR 5 B w v s (([] ++ X_0 ++ X_1 ++ X_3 ++ XL_5 ++ T1 ++ Xe1_0 ++ XLe1_3) ++ ((y1.at 3).l.take j).flatMap (fun x => partS (d + 1) fs_StopReplicaRequestTopicPartitionState ver true x)) r w')
          (fun ρ _ => (y1.at 3).l.length - (RowKit.intOf (ρ 173)).toNat) ?_ ?_) ?_
      · refine ⟨0, _, Nat.zero_le _, ?_, ?_, ?_, ?_, ?_, ?_, ?_, ?_, ?_, ?_, ?_, ha7.eqs (by rw [List.take_zero, List.flatMap_nil, List.append_nil])⟩ <;> simp (maxSteps := 1000000) (disch := (first | omega | (simp only [World.size_alloc, size_wr, size_drew] <;> omega) | exact not_noB _)) only [go_sem, ↓reduceIte, n0, reduceCtorEq, n1, n2, n3, n4, n5, i0, i1, i2, i3, i4, i5, i6, i7, hr1_1, hr1_0, hr1_5, hr1_6, hI1, hN1, hS1]
        all_goals rfl
      · rintro ρ w8 ⟨j2, r8, hj2, hI2, hN2, hS2, hr1_2, hr2_0, hr2_5, hr2_6, hr2_94, hr2_93, hr2_12, hr2_14, ha8⟩
        have hB8 : B ≤ w8.heap.size := Nat.le_trans hB ha8.upd.size
        have hv_8 := ha8.upd.blk_some hv hdv
        have hx1_8 := ha8.upd.blk_some hx1 hnx1
        by_cases hlt2 : j2 < (y1.at 3).l.length
        · obtain ⟨_, b2, o2, x2, ce2, hb2, hok2, hx2, hbl2, hxs2, hxe2, hq2, hRe2⟩ := SlR.get (size := 4) (by decide) hse1_3 hlt2
          subst hb2
          have hcat2 : (y1.at 3).l.take (j2 + 1) = (y1.at 3).l.take j2 ++ [(y1.at 3).l[j2]] := List.take_succ_eq_append_getElem hlt2
          have htl2 := take_flatMap_len (y1.at 3).l (fun x => partS (d + 1) fs_StopReplicaRequestTopicPartitionState ver true x) (j2 + 1)
          rw [← hXEe1_3, hcat2, List.flatMap_append, List.flatMap_cons, List.flatMap_nil, List.append_nil] at htl2
          have hge2 := (ge1_3.list rfl).2 _ (List.getElem_mem hlt2)
          generalize (y1.at 3).l[j2] = y2 at *
          have hnx2 := hd b2 hbl2 hok2
          obtain ⟨T2, hTT2⟩ : ∃ T, T = ((y1.at 3).l.take j2).flatMap (fun x => partS (d + 1) fs_StopReplicaRequestTopicPartitionState ver true x) := ⟨_, rfl⟩
          rw [← hTT2] at ha8 htl2
          have hx2_8 := ha8.upd.blk_some hx2 hnx2
          replace hRe2 : RepS true (d + 1) fs_StopReplicaRequestTopicPartitionState okM w y2 ce2 := Rep1_part.1 hRe2
          have hfe2 : FitP ver (d + 1) fs_StopReplicaRequestTopicPartitionState y2 := hge2.2.2 rfl
          obtain ⟨⟨ge2_0, ge2_1, ge2_2, -⟩, hfue2⟩ := hfe2
          replace ge2_0 : FitF (FitP ver d) ver fStopReplicaRequestTopicPartitionState_0 (y2.at 0) := ge2_0
          replace ge2_1 : FitF (FitP ver d) ver fStopReplicaRequestTopicPartitionState_1 (y2.at 1) := ge2_1
          replace ge2_2 : FitF (FitP ver d) ver fStopReplicaRequestTopicPartitionState_2 (y2.at 2) := ge2_2
          obtain ⟨cse2, qe2, hcse2, hLe2, hTe2⟩ := hRe2.inv
          obtain ⟨ce2_0, ee2_0, rfl, he2_0, ce2_1, ee2_1, rfl, he2_1, ce2_2, ee2_2, rfl, he2_2, rfl⟩ := hLe2
          replace he2_0 : RepF (RepS true d) (szS true d) fStopReplicaRequestTopicPartitionState_0 okM w (y2.at 0) ce2_0 := he2_0
          replace he2_1 : RepF (RepS true d) (szS true d) fStopReplicaRequestTopicPartitionState_1 okM w (y2.at 1) ce2_1 := he2_1
          replace he2_2 : RepF (RepS true d) (szS true d) fStopReplicaRequestTopicPartitionState_2 okM w (y2.at 2) ce2_2 := he2_2
          obtain rfl := (RepF_num (by decide)).1 he2_0
          obtain rfl := (RepF_num (by decide)).1 he2_1
          obtain rfl := (RepF_num (by decide)).1 he2_2
          obtain ⟨qme2, rfl⟩ := hTe2.shape
          subst hcse2
          have hq2_0 : x2.1[o2 + j2 * 4]? = some (.int .i32 (IntKind.i32.wrap (y2.at 0).n)) := hq2 0 (by decide)
          have hq2_1 : x2.1[o2 + (j2 * 4 + 1)]? = some (.int .i32 (IntKind.i32.wrap (y2.at 1).n)) := hq2 1 (by decide)
          have hq2_2 : x2.1[o2 + (j2 * 4 + 2)]? = some (.bool (decide ((y2.at 2).n % 2 = 1))) := hq2 2 (by decide)
          have hq2_3 : x2.1[o2 + (j2 * 4 + 3)]? = some (.map qme2) := hq2 3 (by decide)
          have hhe2_0 : hasS fStopReplicaRequestTopicPartitionState_0 ver = true := hasS_t (by show (0 : Int) ≤ ver; omega) (by show (-1 : Int) < 0 ∨ ver ≤ (-1 : Int); omega)
          obtain ⟨Xe2_0, hXXe2_0⟩ : ∃ X, X = fixedS (y2.at 0).n 4 := ⟨_, rfl⟩
          have hhe2_1 : hasS fStopReplicaRequestTopicPartitionState_1 ver = true := hasS_t (by show (0 : Int) ≤ ver; omega) (by show (-1 : Int) < 0 ∨ ver ≤ (-1 : Int); omega)
          obtain ⟨Xe2_1, hXXe2_1⟩ : ∃ X, X = fixedS (y2.at 1).n 4 := ⟨_, rfl⟩
          have hhe2_2 : hasS fStopReplicaRequestTopicPartitionState_2 ver = true := hasS_t (by show (0 : Int) ≤ ver; omega) (by show (-1 : Int) < 0 ∨ ver ≤ (-1 : Int); omega)
          obtain ⟨Xe2_2, hXXe2_2⟩ : ∃ X, X = [if decide ((y2.at 2).n % 2 = 1) = true then (1 : UInt8) else 0] := ⟨_, rfl⟩
          obtain ⟨XUe2, hXUe2⟩ : ∃ X, X = uvarS y2.u.length := ⟨_, rfl⟩
          obtain ⟨XTe2, hXTe2⟩ : ∃ X, X = y2.u.flatMap oneTag := ⟨_, rfl⟩
          have hPe2 : partS (d + 1) fs_StopReplicaRequestTopicPartitionState ver true y2 = (Xe2_0 ++ (Xe2_1 ++ (Xe2_2 ++ []))) ++ (XUe2 ++ XTe2) := by rw [hXUe2, hXTe2]; exact partS_yes rfl hfue2 (plainL_has (by decide) hhe2_0 ((fieldS_num 3 rfl (by decide)).trans hXXe2_0.symm) (plainL_has (by decide) hhe2_1 ((fieldS_num 3 rfl (by decide)).trans hXXe2_1.symm) (plainL_has (by decide) hhe2_2 ((fieldS_bool rfl).trans hXXe2_2.symm) rfl)))
          rw [hPe2] at htl2
          simp only [List.length_append, List.length_nil] at htl2
          repeat ((first | refine W.seqR rfl ?_ | refine W.seq ?_ | refine W.regR rfl ?_ | refine W.condK ?_ | refine W.block ?_ | refine W.skip ?_ | refine W.ret ?_ | refine W.exit ?_); try simp (maxSteps := 1000000) (disch := (first | omega | (simp only [World.size_alloc, size_wr, size_drew] <;> omega) | exact not_noB _)) only [go_sem, ↓reduceIte, n0, reduceCtorEq, n1, n2, n3, n4, n5, i0, i1, i2, i3, i4, i5, i6, i7, hv_8, hx1_8, hx2_8, Int.toNat_natCast, Nat.mul_one, hq1_0, hq1_1, hq1_2, hq1_3, hq1_4, hq2_0, hq2_1, hq2_2, hq2_3, hr1_2, hr2_0, hr2_5, hr2_6, hr2_94, hr2_93, hr2_12, hr2_14, hI2, hN2, hS2])
          refine (AppendInt32_fn _ _ _ ha8.own hB8 _ (by simp only [List.length_append, List.length_nil]; omega)).mono ?_
          rintro r9 w9 hc9
          rw [wrap32, ← hXXe2_0] at hc9
          have ha9 := ha8.trans hc9
          have hB9 : B ≤ w9.heap.size := Nat.le_trans hB ha9.upd.size
          have hv_9 := ha9.upd.blk_some hv hdv
          have hx1_9 := ha9.upd.blk_some hx1 hnx1
          have hx2_9 := ha9.upd.blk_some hx2 hnx2
          repeat ((first | refine W.seqR rfl ?_ | refine W.seq ?_ | refine W.regR rfl ?_ | refine W.condK ?_ | refine W.block ?_ | refine W.skip ?_ | refine W.ret ?_ | refine W.exit ?_); try simp (maxSteps := 1000000) (disch := (first | omega | (simp only [World.size_alloc, size_wr, size_drew] <;> omega) | exact not_noB _)) only [go_sem, ↓reduceIte, n0, reduceCtorEq, n1, n2, n3, n4, n5, i0, i1, i2, i3, i4, i5, i6, i7, hv_9, hx1_9, hx2_9, Int.toNat_natCast, Nat.mul_one, hq1_0, hq1_1, hq1_2, hq1_3, hq1_4, hq2_0, hq2_1, hq2_2, hq2_3, hr1_2, hr2_0, hr2_5, hr2_6, hr2_94, hr2_93, hr2_12, hr2_14, hI2, hN2, hS2])
          refine (AppendInt32_fn _ _ _ ha9.own hB9 _ (by simp only [List.length_append, List.length_nil]; omega)).mono ?_
          rintro r10 w10 hc10
          rw [wrap32, ← hXXe2_1] at hc10
          have ha10 := ha9.trans hc10
          have hB10 : B ≤ w10.heap.size := Nat.le_trans hB ha10.upd.size
          have hv_10 := ha10.upd.blk_some hv hdv
          have hx1_10 := ha10.upd.blk_some hx1 hnx1
          have hx2_10 := ha10.upd.blk_some hx2 hnx2
          repeat ((first | refine W.seqR rfl ?_ | refine W.seq ?_ | refine W.regR rfl ?_ | refine W.condK ?_ | refine W.block ?_ | refine W.skip ?_ | refine W.ret ?_ | refine W.exit ?_); try simp (maxSteps := 1000000) (disch := (first | omega | (simp only [World.size_alloc, size_wr, size_drew] <;> omega) | exact not_noB _)) only [go_sem, ↓reduceIte, n0, reduceCtorEq, n1, n2, n3, n4, n5, i0, i1, i2, i3, i4, i5, i6, i7, hv_10, hx1_10, hx2_10, Int.toNat_natCast, Nat.mul_one, hq1_0, hq1_1, hq1_2, hq1_3, hq1_4, hq2_0, hq2_1, hq2_2, hq2_3, hr1_2, hr2_0, hr2_5, hr2_6, hr2_94, hr2_93, hr2_12, hr2_14, hI2, hN2, hS2])
          refine (AppendBool_fn _ _ _ ha10.own hB10 _ (by simp only [List.length_append, List.length_nil]; omega)).mono ?_
          rintro r11 w11 hc11
          rw [← hXXe2_2] at hc11
          have ha11 := ha10.trans hc11
          have hB11 : B ≤ w11.heap.size := Nat.le_trans hB ha11.upd.size
          have hv_11 := ha11.upd.blk_some hv hdv
          have hx1_11 := ha11.upd.blk_some hx1 hnx1
          have hx2_11 := ha11.upd.blk_some hx2 hnx2
          repeat ((first | refine W.seqR rfl ?_ | refine W.seq ?_ | refine W.regR rfl ?_ | refine W.condK ?_ | refine W.block ?_ | refine W.skip ?_ | refine W.ret ?_ | refine W.exit ?_); try simp (maxSteps := 1000000) (disch := (first | omega | (simp only [World.size_alloc, size_wr, size_drew] <;> omega) | exact not_noB _)) only [go_sem, ↓reduceIte, n0, reduceCtorEq, n1, n2, n3, n4, n5, i0, i1, i2, i3, i4, i5, i6, i7, hv_11, hx1_11, hx2_11, Int.toNat_natCast, Nat.mul_one, hq1_0, hq1_1, hq1_2, hq1_3, hq1_4, hq2_0, hq2_1, hq2_2, hq2_3, hr1_2, hr2_0, hr2_5, hr2_6, hr2_94, hr2_93, hr2_12, hr2_14, hI2, hN2, hS2])
          have hTk11 : TagsM (OkS okM w.heap.size) w11 (.map qme2) y2.u := (hTe2.weaken fun b h1 h2 => ⟨h2, h1⟩).keep (ha11.upd.keeps fun b hb hk => hd b hb hk.1)
          refine (TagsLen_fn (ok := OkS okM w.heap.size) w11 hx2_11 (to := o2 + (j2 * 4 + 3)) hq2_3 hTk11).mono ?_
          rintro _ w11' ⟨rfl, rfl⟩
          have hul11 : y2.u.length ≤ 32767 := hfue2.1
          have ew11 : IntKind.u32.wrap (y2.u.length : Int) = y2.u.length := u32_wrap (by omega)
          have ez11 : IntKind.u32.wrap (0 + (y2.u.length : Int)) = y2.u.length := by rw [Int.zero_add, u32_wrap (by omega)]
          simp (maxSteps := 1000000) (disch := (first | omega | (simp only [World.size_alloc, size_wr, size_drew] <;> omega) | exact not_noB _)) only [go_sem, ↓reduceIte, n0, reduceCtorEq, n1, n2, n3, n4, n5, i0, i1, i2, i3, i4, i5, i6, i7, hv_11, hx1_11, hx2_11, Int.toNat_natCast, Nat.mul_one, hq1_0, hq1_1, hq1_2, hq1_3, hq1_4, hq2_0, hq2_1, hq2_2, hq2_3, hr1_2, hr2_0, hr2_5, hr2_6, hr2_94, hr2_93, hr2_12, hr2_14, hI2, hN2, hS2, ew11, ez11]
          refine (AppendUvarint_fn _ _ _ ha11.own hB11 y2.u.length (by omega) (by simp only [List.length_append, List.length_nil]; omega)).mono ?_
          rintro r12 w12 hc12
          rw [← hXUe2] at hc12
          have ha12 := ha11.trans hc12
          have hB12 : B ≤ w12.heap.size := Nat.le_trans hB ha12.upd.size
          have hv_12 := ha12.upd.blk_some hv hdv
          have hx1_12 := ha12.upd.blk_some hx1 hnx1
          have hx2_12 := ha12.upd.blk_some hx2 hnx2
          repeat ((first | refine W.seqR rfl ?_ | refine W.seq ?_ | refine W.regR rfl ?_ | refine W.condK ?_ | refine W.block ?_ | refine W.skip ?_ | refine W.ret ?_ | refine W.exit ?_); try simp (maxSteps := 1000000) (disch := (first | omega | (simp only [World.size_alloc, size_wr, size_drew] <;> omega) | exact not_noB _)) only [go_sem, ↓reduceIte, n0, reduceCtorEq, n1, n2, n3, n4, n5, i0, i1, i2, i3, i4, i5, i6, i7, hv_12, hx1_12, hx2_12, Int.toNat_natCast, Nat.mul_one, hq1_0, hq1_1, hq1_2, hq1_3, hq1_4, hq2_0, hq2_1, hq2_2, hq2_3, hr1_2, hr2_0, hr2_5, hr2_6, hr2_94, hr2_93, hr2_12, hr2_14, hI2, hN2, hS2])
          have hTk12 : TagsM (OkS okM w.heap.size) w12 (.map qme2) y2.u := (hTe2.weaken fun b h1 h2 => ⟨h2, h1⟩).keep (ha12.upd.keeps fun b hb hk => hd b hb hk.1)
          refine (AppendEach_fn (ok := OkS okM w.heap.size) _ _ _ ha12.own hB12 hx2_12 (to := o2 + (j2 * 4 + 3)) hq2_3 hTk12 (rising_keys hfue2) hfue2.1 (tags_small hfue2 hTk12) (hdK ha12) (ownK ha12 (blk_lt hx2) hnx2) (by simp only [List.length_append, List.length_nil]; omega)).mono ?_
          rintro r13 w13 hc13
          rw [← hXTe2] at hc13
          have ha13 := ha12.trans hc13
          have hB13 : B ≤ w13.heap.size := Nat.le_trans hB ha13.upd.size
          have hv_13 := ha13.upd.blk_some hv hdv
          have hx1_13 := ha13.upd.blk_some hx1 hnx1
          have hx2_13 := ha13.upd.blk_some hx2 hnx2
          repeat ((first | refine W.seqR rfl ?_ | refine W.seq ?_ | refine W.regR rfl ?_ | refine W.condK ?_ | refine W.block ?_ | refine W.skip ?_ | refine W.ret ?_ | refine W.exit ?_); try simp (maxSteps := 1000000) (disch := (first | omega | (simp only [World.size_alloc, size_wr, size_drew] <;> omega) | exact not_noB _)) only [go_sem, ↓reduceIte, n0, reduceCtorEq, n1, n2, n3, n4, n5, i0, i1, i2, i3, i4, i5, i6, i7, hr1_2, hr2_0, hr2_5, hr2_6, hr2_94, hr2_93, hr2_12, hr2_14, hI2, hN2, hS2])
          refine ⟨⟨j2 + 1, _, by omega, rfl, rfl, ha13.eqs ?_⟩, ?_⟩
          · rw [hcat2, List.flatMap_append, List.flatMap_cons, List.flatMap_nil, List.append_nil, ← hTT2, hPe2]; simp only [List.append_assoc, List.append_nil, List.nil_append]
          · simp only [RowKit.intOf]; omega
        · have hjl2 : j2 = (y1.at 3).l.length := by omega
          subst hjl2
          rw [List.take_length, ← hXEe1_3] at ha8
          repeat ((first | refine W.seqR rfl ?_ | refine W.seq ?_ | refine W.regR rfl ?_ | refine W.condK ?_ | refine W.block ?_ | refine W.skip ?_ | refine W.ret ?_ | refine W.exit ?_); try simp (maxSteps := 1000000) (disch := (first | omega | (simp only [World.size_alloc, size_wr, size_drew] <;> omega) | exact not_noB _)) only [go_sem, ↓reduceIte, n0, reduceCtorEq, n1, n2, n3, n4, n5, i0, i1, i2, i3, i4, i5, i6, i7, hI2, hN2])
          exact ⟨_, hr1_2, hr2_0, hr2_5, hr2_6, hr2_94, hr2_93, hr2_12, hr2_14, ha8⟩
      · rintro ρ w14 ⟨r14, hr1_3, hr3_0, hr3_5, hr3_6, hr3_94, hr3_93, hr3_12, hr3_14, ha14⟩
        have hB14 : B ≤ w14.heap.size := Nat.le_trans hB ha14.upd.size
        have hv_14 := ha14.upd.blk_some hv hdv
        have hx1_14 := ha14.upd.blk_some hx1 hnx1
        repeat ((first | refine W.seqR rfl ?_ | refine W.seq ?_ | refine W.regR rfl ?_ | refine W.condK ?_ | refine W.block ?_ | refine W.skip ?_ | refine W.ret ?_ | refine W.exit ?_); try simp (maxSteps := 1000000) (disch := (first | omega | (simp only [World.size_alloc, size_wr, size_drew] <;> omega) | exact not_noB _)) only [go_sem, ↓reduceIte, n0, reduceCtorEq, n1, n2, n3, n4, n5, i0, i1, i2, i3, i4, i5, i6, i7, hv_14, hx1_14, Int.toNat_natCast, Nat.mul_one, hq1_0, hq1_1, hq1_2, hq1_3, hq1_4, hr1_3, hr3_0, hr3_5, hr3_6, hr3_94, hr3_93, hr3_12, hr3_14])
        have hTk14 : TagsM (OkS okM w.heap.size) w14 (.map qme1) y1.u := (hTe1.weaken fun b h1 h2 => ⟨h2, h1⟩).keep (ha14.upd.keeps fun b hb hk => hd b hb hk.1)
        refine (TagsLen_fn (ok := OkS okM w.heap.size) w14 hx1_14 (to := o1 + (j1 * 5 + 4)) hq1_4 hTk14).mono ?_
        rintro _ w14' ⟨rfl, rfl⟩
        have hul14 : y1.u.length ≤ 32767 := hfue1.1
        have ew14 : IntKind.u32.wrap (y1.u.length : Int) = y1.u.length := u32_wrap (by omega)
        have ez14 : IntKind.u32.wrap (0 + (y1.u.length : Int)) = y1.u.length := by rw [Int.zero_add, u32_wrap (by omega)]
        simp (maxSteps := 1000000) (disch := (first | omega | (simp only [World.size_alloc, size_wr, size_drew] <;> omega) | exact not_noB _)) only [go_sem, ↓reduceIte, n0, reduceCtorEq, n1, n2, n3, n4, n5, i0, i1, i2, i3, i4, i5, i6, i7, hv_14, hx1_14, Int.toNat_natCast, Nat.mul_one, hq1_0, hq1_1, hq1_2, hq1_3, hq1_4, hr1_3, hr3_0, hr3_5, hr3_6, hr3_94, hr3_93, hr3_12, hr3_14, ew14, ez14]
        refine (AppendUvarint_fn _ _ _ ha14.own hB14 y1.u.length (by omega) (by simp only [List.length_append, List.length_nil]; omega)).mono ?_
        rintro r15 w15 hc15
        rw [← hXUe1] at hc15
        have ha15 := ha14.trans hc15
        have hB15 : B ≤ w15.heap.size := Nat.le_trans hB ha15.upd.size
        have hv_15 := ha15.upd.blk_some hv hdv
        have hx1_15 := ha15.upd.blk_some hx1 hnx1
        repeat ((first | refine W.seqR rfl ?_ | refine W.seq ?_ | refine W.regR rfl ?_ | refine W.condK ?_ | refine W.block ?_ | refine W.skip ?_ | refine W.ret ?_ | refine W.exit ?_); try simp (maxSteps := 1000000) (disch := (first | omega | (simp only [World.size_alloc, size_wr, size_drew] <;> omega) | exact not_noB _)) only [go_sem, ↓reduceIte, n0, reduceCtorEq, n1, n2, n3, n4, n5, i0, i1, i2, i3, i4, i5, i6, i7, hv_15, hx1_15, Int.toNat_natCast, Nat.mul_one, hq1_0, hq1_1, hq1_2, hq1_3, hq1_4, hr1_3, hr3_0, hr3_5, hr3_6, hr3_94, hr3_93, hr3_12, hr3_14])
        have hTk15 : TagsM (OkS okM w.heap.size) w15 (.map qme1) y1.u := (hTe1.weaken fun b h1 h2 => ⟨h2, h1⟩).keep (ha15.upd.keeps fun b hb hk => hd b hb hk.1)
        refine (AppendEach_fn (ok := OkS okM w.heap.size) _ _ _ ha15.own hB15 hx1_15 (to := o1 + (j1 * 5 + 4)) hq1_4 hTk15 (rising_keys hfue1) hfue1.1 (tags_small hfue1 hTk15) (hdK ha15) (ownK ha15 (blk_lt hx1) hnx1) (by simp only [List.length_append, List.length_nil]; omega)).mono ?_
        rintro r16 w16 hc16
        rw [← hXTe1] at hc16
        have ha16 := ha15.trans hc16
        have hB16 : B ≤ w16.heap.size := Nat.le_trans hB ha16.upd.size
        have hv_16 := ha16.upd.blk_some hv hdv
        have hx1_16 := ha16.upd.blk_some hx1 hnx1
        repeat ((first | refine W.seqR rfl ?_ | refine W.seq ?_ | refine W.regR rfl ?_ | refine W.condK ?_ | refine W.block ?_ | refine W.skip ?_ | refine W.ret ?_ | refine W.exit ?_); try simp (maxSteps := 1000000) (disch := (first | omega | (simp only [World.size_alloc, size_wr, size_drew] <;> omega) | exact not_noB _)) only [go_sem, ↓reduceIte, n0, reduceCtorEq, n1, n2, n3, n4, n5, i0, i1, i2, i3, i4, i5, i6, i7, hr1_3, hr3_0, hr3_5, hr3_6, hr3_94, hr3_93, hr3_12, hr3_14])
        refine ⟨⟨j1 + 1, _, by omega, rfl, rfl, ha16.eqs ?_⟩, ?_⟩
        · rw [hcat1, List.flatMap_append, List.flatMap_cons, List.flatMap_nil, List.append_nil, ← hTT1, hPe1]; simp only [List.append_assoc, List.append_nil, List.nil_append]
        · simp only [RowKit.intOf]; omega
    · have hjl1 : j1 = (t.at 5).l.length := by omega
      subst hjl1
      rw [List.take_length, ← hXE_5] at ha5
      repeat ((first | refine W.seqR rfl ?_ | refine W.seq ?_ | refine W.regR rfl ?_ | refine W.condK ?_ | refine W.block ?_ | refine W.skip ?_ | refine W.ret ?_ | refine W.exit ?_); try simp (maxSteps := 1000000) (disch := (first | omega | (simp only [World.size_alloc, size_wr, size_drew] <;> omega) | exact not_noB _)) only [go_sem, ↓reduceIte, n0, reduceCtorEq, n1, n2, n3, n4, n5, i0, i1, i2, i3, i4, i5, i6, i7, hI1, hN1])
      exact ⟨_, hr1_1, hr1_0, hr1_5, hr1_6, ha5⟩
  · rintro ρ w17 ⟨r17, hr1_4, hr4_0, hr4_5, hr4_6, ha17⟩
    have hB17 : B ≤ w17.heap.size := Nat.le_trans hB ha17.upd.size
    have hv_17 := ha17.upd.blk_some hv hdv
    repeat ((first | refine W.seqR rfl ?_ | refine W.seq ?_ | refine W.regR rfl ?_ | refine W.condK ?_ | refine W.block ?_ | refine W.skip ?_ | refine W.ret ?_ | refine W.exit ?_); try simp (maxSteps := 1000000) (disch := (first | omega | (simp only [World.size_alloc, size_wr, size_drew] <;> omega) | exact not_noB _)) only [go_sem, ↓reduceIte, n0, reduceCtorEq, n1, n2, n3, n4, n5, i0, i1, i2, i3, i4, i5, i6, i7, hv_17, hr1_4, hr4_0, hr4_5, hr4_6])
    have hTk17 : TagsM (OkS okM w.heap.size) w17 (.map qm) t.u := (hT.weaken fun b h1 h2 => ⟨h2, h1⟩).keep (ha17.upd.keeps fun b hb hk => hd b hb hk.1)
    refine (TagsLen_fn (ok := OkS okM w.heap.size) w17 hv_17 (to := 7) (show (#[.int .i16 ver, .int .i32 (IntKind.i32.wrap (t.at 0).n), .int .i32 (IntKind.i32.wrap (t.at 1).n), .bool (decide ((t.at 2).n % 2 = 1)), .int .i64 (t.at 3).n, .bool (decide ((t.at 4).n % 2 = 1)), .slice ab_5 (t.at 5).l.length ac_5, .map qm] : Array Value)[7]? = some (.map qm) from rfl) hTk17).mono ?_
    rintro _ w17' ⟨rfl, rfl⟩
    have hul17 : t.u.length ≤ 32767 := hfu.1
    have ew17 : IntKind.u32.wrap (t.u.length : Int) = t.u.length := u32_wrap (by omega)
    have ez17 : IntKind.u32.wrap (0 + (t.u.length : Int)) = t.u.length := by rw [Int.zero_add, u32_wrap (by omega)]
    simp (maxSteps := 1000000) (disch := (first | omega | (simp only [World.size_alloc, size_wr, size_drew] <;> omega) | exact not_noB _)) only [go_sem, ↓reduceIte, n0, reduceCtorEq, n1, n2, n3, n4, n5, i0, i1, i2, i3, i4, i5, i6, i7, hv_17, hr1_4, hr4_0, hr4_5, hr4_6, ew17, ez17]
    refine (AppendUvarint_fn _ _ _ ha17.own hB17 t.u.length (by omega) (by simp only [List.length_append, List.length_nil]; omega)).mono ?_
    rintro r18 w18 hc18
    rw [← hXU] at hc18
    have ha18 := ha17.trans hc18
    have hB18 : B ≤ w18.heap.size := Nat.le_trans hB ha18.upd.size
    have hv_18 := ha18.upd.blk_some hv hdv
    repeat ((first | refine W.seqR rfl ?_ | refine W.seq ?_ | refine W.regR rfl ?_ | refine W.condK ?_ | refine W.block ?_ | refine W.skip ?_ | refine W.ret ?_ | refine W.exit ?_); try simp (maxSteps := 1000000) (disch := (first | omega | (simp only [World.size_alloc, size_wr, size_drew] <;> omega) | exact not_noB _)) only [go_sem, ↓reduceIte, n0, reduceCtorEq, n1, n2, n3, n4, n5, i0, i1, i2, i3, i4, i5, i6, i7, hv_18, hr1_4, hr4_0, hr4_5, hr4_6])
    have hTk18 : TagsM (OkS okM w.heap.size) w18 (.map qm) t.u := (hT.weaken fun b h1 h2 => ⟨h2, h1⟩).keep (ha18.upd.keeps fun b hb hk => hd b hb hk.1)
    refine (AppendEach_fn (ok := OkS okM w.heap.size) _ _ _ ha18.own hB18 hv_18 (to := 7) (show (#[.int .i16 ver, .int .i32 (IntKind.i32.wrap (t.at 0).n), .int .i32 (IntKind.i32.wrap (t.at 1).n), .bool (decide ((t.at 2).n % 2 = 1)), .int .i64 (t.at 3).n, .bool (decide ((t.at 4).n % 2 = 1)), .slice ab_5 (t.at 5).l.length ac_5, .map qm] : Array Value)[7]? = some (.map qm) from rfl) hTk18 (rising_keys hfu) hfu.1 (tags_small hfu hTk18) (hdK ha18) (ownK ha18 (blk_lt hv) hdv) (by simp only [List.length_append, List.length_nil]; omega)).mono ?_
    rintro r19 w19 hc19
    rw [← hXT] at hc19
    have ha19 := ha18.trans hc19
    have hB19 : B ≤ w19.heap.size := Nat.le_trans hB ha19.upd.size
    have hv_19 := ha19.upd.blk_some hv hdv
    repeat ((first | refine W.seqR rfl ?_ | refine W.seq ?_ | refine W.regR rfl ?_ | refine W.condK ?_ | refine W.block ?_ | refine W.skip ?_ | refine W.ret ?_ | refine W.exit ?_); try simp (maxSteps := 1000000) (disch := (first | omega | (simp only [World.size_alloc, size_wr, size_drew] <;> omega) | exact not_noB _)) only [go_sem, ↓reduceIte, n0, reduceCtorEq, n1, n2, n3, n4, n5, i0, i1, i2, i3, i4, i5, i6, i7, hv_19, hr1_4, hr4_0, hr4_5, hr4_6])
    refine ha19.eqs ?_
    rw [hP]; simp only [List.append_assoc, List.append_nil, List.nil_append]
end Ms

namespace Ms
open Nat renaming reduceEqDiff → n0, reduceAdd → n1, reduceMul → n2, reduceSub → n3, reduceLT → n4, reduceLeDiff → n5
open Int renaming reduceEq → i0, reduceLT → i1, reduceLE → i2, reduceNeg → i3, reduceAdd → i4, reduceSub → i5, reduceMul → i6, reduceToNat → i7
set_option maxRecDepth 8000
open Go Go.Proofs Go.Shelf
attribute [local congr] W_congr WPsq_congr WPp_congr optK_congr addrK_congr intK_congr boolK_congr sliceK_congr tupleK_congr funcK_congr Fn_congr rawK_congr takeK_congr stepK_congr convK_congr aggK_congr

set_option maxHeartbeats 4000000 in
theorem appStopReplicaRequest_4 {d B : Nat} {okM : Blocks} {ver : Int} (hlo : 4 ≤ ver) (hhi : ver ≤ 4) (t : Tree) (cells : List Value) (v : Value) (s : List UInt8) (w : World) {vb : Nat} (ho : OwnBy 5 B w v s) (hB : B ≤ w.heap.size) (hvb : blk w vb = some ((.int .i16 ver :: cells).toArray, 110, (0, 0)))
    (hR : RepS true (d + 3) fs_StopReplicaRequest okM w t cells) (hfit : FitP ver (d + 3) fs_StopReplicaRequest t) (hd : ∀ b, b < w.heap.size → okM b → ¬ ownB v b) (hdv : ¬ ownB v vb) (hlen : s.length + (partS (d + 3) fs_StopReplicaRequest ver true t).length ≤ 2 ^ 41) :
    Fn Try.prog 100 #[.pointer (some ⟨vb, 0, none⟩), v] w fun r w' => AppR 5 B w v s (partS (d + 3) fs_StopReplicaRequest ver true t) r w' := by
  obtain ⟨⟨g_0, g_1, g_2, g_3, g_4, g_5, -⟩, hfu⟩ := hfit
  replace g_0 : FitF (FitP ver (d + 2)) ver fStopReplicaRequest_0 (t.at 0) := g_0
  replace g_1 : FitF (FitP ver (d + 2)) ver fStopReplicaRequest_1 (t.at 1) := g_1
  replace g_2 : FitF (FitP ver (d + 2)) ver fStopReplicaRequest_2 (t.at 2) := g_2
  replace g_3 : FitF (FitP ver (d + 2)) ver fStopReplicaRequest_3 (t.at 3) := g_3
  replace g_4 : FitF (FitP ver (d + 2)) ver fStopReplicaRequest_4 (t.at 4) := g_4
  replace g_5 : FitF (FitP ver (d + 2)) ver fStopReplicaRequest_5 (t.at 5) := g_5
  obtain ⟨cs, q, hcs, hL, hT⟩ := hR.inv
  obtain ⟨c_0, e_0, rfl, h_0, c_1, e_1, rfl, h_1, c_2, e_2, rfl, h_2, c_3, e_3, rfl, h_3, c_4, e_4, rfl, h_4, c_5, e_5, rfl, h_5, rfl⟩ := hL
  replace h_0 : RepF (RepS true (d + 2)) (szS true (d + 2)) fStopReplicaRequest_0 okM w (t.at 0) c_0 := h_0
  replace h_1 : RepF (RepS true (d + 2)) (szS true (d + 2)) fStopReplicaRequest_1 okM w (t.at 1) c_1 := h_1
  replace h_2 : RepF (RepS true (d + 2)) (szS true (d + 2)) fStopReplicaRequest_2 okM w (t.at 2) c_2 := h_2
  replace h_3 : RepF (RepS true (d + 2)) (szS true (d + 2)) fStopReplicaRequest_3 okM w (t.at 3) c_3 := h_3
  replace h_4 : RepF (RepS true (d + 2)) (szS true (d + 2)) fStopReplicaRequest_4 okM w (t.at 4) c_4 := h_4
  replace h_5 : RepF (RepS true (d + 2)) (szS true (d + 2)) fStopReplicaRequest_5 okM w (t.at 5) c_5 := h_5
  obtain rfl := (RepF_num (by decide)).1 h_0
  obtain rfl := (RepF_num (by decide)).1 h_1
  obtain rfl := (RepF_num (by decide)).1 h_2
  obtain rfl := (RepF_num (by decide)).1 h_3
  obtain rfl := (RepF_num (by decide)).1 h_4
  have hn_5 := g_5.notnull (by decide)
  obtain ⟨p_5, rfl, hs_5, -⟩ := (RepF_list rfl hn_5).1 h_5
  obtain ⟨ab_5, ac_5, rfl, _⟩ := SlR.shape hs_5
  have hll_5 := (g_5.list rfl).1
  obtain ⟨qm, rfl⟩ := hT.shape
  have hv : blk w vb = some (#[.int .i16 ver, .int .i32 (IntKind.i32.wrap (t.at 0).n), .int .i32 (IntKind.i32.wrap (t.at 1).n), .bool (decide ((t.at 2).n % 2 = 1)), .int .i64 (t.at 3).n, .bool (decide ((t.at 4).n % 2 = 1)), .slice ab_5 (t.at 5).l.length ac_5, .map qm], 110, (0, 0)) := by rw [hvb, hcs]; rfl
  clear hvb hcs
  have hh_0 : hasS fStopReplicaRequest_0 ver = true := hasS_t (by show (0 : Int) ≤ ver; omega) (by show (-1 : Int) < 0 ∨ ver ≤ (-1 : Int); omega)
  obtain ⟨X_0, hXX_0⟩ : ∃ X, X = fixedS (t.at 0).n 4 := ⟨_, rfl⟩
  have hh_1 : hasS fStopReplicaRequest_1 ver = true := hasS_t (by show (0 : Int) ≤ ver; omega) (by show (-1 : Int) < 0 ∨ ver ≤ (-1 : Int); omega)
  obtain ⟨X_1, hXX_1⟩ : ∃ X, X = fixedS (t.at 1).n 4 := ⟨_, rfl⟩
  have hh_2 : hasS fStopReplicaRequest_2 ver = true := hasS_t (by show (4 : Int) ≤ ver; omega) (by show (-1 : Int) < 0 ∨ ver ≤ (-1 : Int); omega)
  obtain ⟨X_2, hXX_2⟩ : ∃ X, X = [if decide ((t.at 2).n % 2 = 1) = true then (1 : UInt8) else 0] := ⟨_, rfl⟩
  have hh_3 : hasS fStopReplicaRequest_3 ver = true := hasS_t (by show (1 : Int) ≤ ver; omega) (by show (-1 : Int) < 0 ∨ ver ≤ (-1 : Int); omega)
  obtain ⟨X_3, hXX_3⟩ : ∃ X, X = fixedS (t.at 3).n 8 := ⟨_, rfl⟩
  have hh_4 : hasS fStopReplicaRequest_4 ver = false := hasS_f (by show ver < 0 ∨ (0 ≤ (2 : Int) ∧ (2 : Int) < ver); omega)
  have hh_5 : hasS fStopReplicaRequest_5 ver = true := hasS_t (by show (0 : Int) ≤ ver; omega) (by show (-1 : Int) < 0 ∨ ver ≤ (-1 : Int); omega)
  obtain ⟨XL_5, hXL_5⟩ : ∃ X, X = uvarS ((t.at 5).l.length + 1) := ⟨_, rfl⟩
  obtain ⟨XE_5, hXE_5⟩ : ∃ X, X = (t.at 5).l.flatMap (fun x => partS (d + 2) fs_StopReplicaRequestTopic ver true x) := ⟨_, rfl⟩
  obtain ⟨XU, hXU⟩ : ∃ X, X = uvarS t.u.length := ⟨_, rfl⟩
  obtain ⟨XT, hXT⟩ : ∃ X, X = t.u.flatMap oneTag := ⟨_, rfl⟩
  have hP : partS (d + 3) fs_StopReplicaRequest ver true t = (X_0 ++ (X_1 ++ (X_2 ++ (X_3 ++ ((XL_5 ++ XE_5) ++ []))))) ++ (XU ++ XT) := by rw [hXU, hXT]; exact partS_yes rfl hfu (plainL_has (by decide) hh_0 ((fieldS_num 3 rfl (by decide)).trans hXX_0.symm) (plainL_has (by decide) hh_1 ((fieldS_num 3 rfl (by decide)).trans hXX_1.symm) (plainL_has (by decide) hh_2 ((fieldS_bool rfl).trans hXX_2.symm) (plainL_has (by decide) hh_3 ((fieldS_num 4 rfl (by decide)).trans hXX_3.symm) (plainL_not hh_4 (plainL_has (by decide) hh_5 ((fieldS_list_t (g := (fun x => partS (d + 2) fs_StopReplicaRequestTopic ver true x)) g_5 rfl (by decide) (fun x _ => valueS_part)).trans (by rw [hXL_5, hXE_5])) rfl))))))
  rw [hP] at hlen
  simp only [List.length_append, List.length_nil] at hlen
  have hdK : ∀ {r : Value} {w' : World} {add : List UInt8}, AppR 5 B w v s add r w' → ∀ b, b < w'.heap.size → OkS okM w.heap.size b → ¬ ownB r b := fun h b _ hk ho => (h.frame b ho).elim (hd b hk.2 hk.1) (fun h => by have := hk.2; omega)
  have ownK : ∀ {r : Value} {w' : World} {add : List UInt8} {b : Nat}, AppR 5 B w v s add r w' → b < w.heap.size → ¬ ownB v b → ¬ ownB r b := fun h hb hn ho => (h.frame _ ho).elim hn (fun h => by omega)
  have ha0 : AppR 5 B w v s [] v w := AppR.refl ho
  obtain ⟨w0, hw0⟩ : ∃ w0, w0 = w := ⟨_, rfl⟩
  have hB0 := hB
  have hv_0 := hv
  refine fn_of_W Try.func100 rfl Try.results100 Try.ntmps100 rfl ?_
  repeat ((first | refine W.seqR rfl ?_ | refine W.seq ?_ | refine W.regR rfl ?_ | refine W.condK ?_ | refine W.block ?_ | refine W.skip ?_ | refine W.ret ?_ | refine W.exit ?_); try simp (maxSteps := 1000000) (disch := (first | omega | (simp only [World.size_alloc, size_wr, size_drew] <;> omega) | exact not_noB _)) only [go_sem, ↓reduceIte, n0, reduceCtorEq, n1, n2, n3, n4, n5, i0, i1, i2, i3, i4, i5, i6, i7, hv_0])
  refine (AppendInt32_fn _ _ _ ha0.own hB0 _ (by simp only [List.length_append, List.length_nil]; omega)).mono ?_
  rintro r1 w1 hc1
  rw [wrap32, ← hXX_0] at hc1
  have ha1 := ha0.trans hc1
  have hB1 : B ≤ w1.heap.size := Nat.le_trans hB ha1.upd.size
  have hv_1 := ha1.upd.blk_some hv hdv
  repeat ((first | refine W.seqR rfl ?_ | refine W.seq ?_ | refine W.regR rfl ?_ | refine W.condK ?_ | refine W.block ?_ | refine W.skip ?_ | refine W.ret ?_ | refine W.exit ?_); try simp (maxSteps := 1000000) (disch := (first | omega | (simp only [World.size_alloc, size_wr, size_drew] <;> omega) | exact not_noB _)) only [go_sem, ↓reduceIte, n0, reduceCtorEq, n1, n2, n3, n4, n5, i0, i1, i2, i3, i4, i5, i6, i7, hv_1])
  refine (AppendInt32_fn _ _ _ ha1.own hB1 _ (by simp only [List.length_append, List.length_nil]; omega)).mono ?_
  rintro r2 w2 hc2
  rw [wrap32, ← hXX_1] at hc2
  have ha2 := ha1.trans hc2
  have hB2 : B ≤ w2.heap.size := Nat.le_trans hB ha2.upd.size
  have hv_2 := ha2.upd.blk_some hv hdv
  repeat ((first | refine W.seqR rfl ?_ | refine W.seq ?_ | refine W.regR rfl ?_ | refine W.condK ?_ | refine W.block ?_ | refine W.skip ?_ | refine W.ret ?_ | refine W.exit ?_); try simp (maxSteps := 1000000) (disch := (first | omega | (simp only [World.size_alloc, size_wr, size_drew] <;> omega) | exact not_noB _)) only [go_sem, ↓reduceIte, n0, reduceCtorEq, n1, n2, n3, n4, n5, i0, i1, i2, i3, i4, i5, i6, i7, hv_2])
  refine (AppendBool_fn _ _ _ ha2.own hB2 _ (by simp only [List.length_append, List.length_nil]; omega)).mono ?_
  rintro r3 w3 hc3
  rw [← hXX_2] at hc3
  have ha3 := ha2.trans hc3
  have hB3 : B ≤ w3.heap.size := Nat.le_trans hB ha3.upd.size
  have hv_3 := ha3.upd.blk_some hv hdv
  repeat ((first | refine W.seqR rfl ?_ | refine W.seq ?_ | refine W.regR rfl ?_ | refine W.condK ?_ | refine W.block ?_ | refine W.skip ?_ | refine W.ret ?_ | refine W.exit ?_); try simp (maxSteps := 1000000) (disch := (first | omega | (simp only [World.size_alloc, size_wr, size_drew] <;> omega) | exact not_noB _)) only [go_sem, ↓reduceIte, n0, reduceCtorEq, n1, n2, n3, n4, n5, i0, i1, i2, i3, i4, i5, i6, i7, hv_3])
  refine (AppendInt64_fn _ _ _ ha3.own hB3 _ (by simp only [List.length_append, List.length_nil]; omega)).mono ?_
  rintro r4 w4 hc4
  rw [← hXX_3] at hc4
  have ha4 := ha3.trans hc4
  have hB4 : B ≤ w4.heap.size := Nat.le_trans hB ha4.upd.size
  have hv_4 := ha4.upd.blk_some hv hdv
  repeat ((first | refine W.seqR rfl ?_ | refine W.seq ?_ | refine W.regR rfl ?_ | refine W.condK ?_ | refine W.block ?_ | refine W.skip ?_ | refine W.ret ?_ | refine W.exit ?_); try simp (maxSteps := 1000000) (disch := (first | omega | (simp only [World.size_alloc, size_wr, size_drew] <;> omega) | exact not_noB _)) only [go_sem, ↓reduceIte, n0, reduceCtorEq, n1, n2, n3, n4, n5, i0, i1, i2, i3, i4, i5, i6, i7, hv_4])
  refine (AppendCompactArrayLen_fn _ _ _ ha4.own hB4 (t.at 5).l.length hll_5 (by simp only [List.length_append, List.length_nil]; omega)).mono ?_
  rintro r5 w5 hc5
  rw [← hXL_5] at hc5
  have ha5 := ha4.trans hc5
  have hB5 : B ≤ w5.heap.size := Nat.le_trans hB ha5.upd.size
  have hv_5 := ha5.upd.blk_some hv hdv
  repeat ((first | refine W.seqR rfl ?_ | refine W.seq ?_ | refine W.regR rfl ?_ | refine W.condK ?_ | refine W.block ?_ | refine W.skip ?_ | refine W.ret ?_ | refine W.exit ?_); try simp (maxSteps := 1000000) (disch := (first | omega | (simp only [World.size_alloc, size_wr, size_drew] <;> omega) | exact not_noB _)) only [go_sem, ↓reduceIte, n0, reduceCtorEq, n1, n2, n3, n4, n5, i0, i1, i2, i3, i4, i5, i6, i7, hv_5])
  have hadd1 := ha5
  refine W.exitJ 0 (fun ρ w' => ∃ r, ρ 1 = r ∧ ρ 0 = .pointer (some ⟨vb, 0, none⟩) ∧ ρ 5 = .int .i16 ver ∧ ρ 6 = .bool true ∧ AppR 5 B w v s (([] ++ X_0 ++ X_1 ++ X_2 ++ X_3 ++ XL_5) ++ XE_5) r w')
    (W.loop (fun ρ w' => ∃ (j : Nat) (r : Value), j ≤ (t.at 5).l.length ∧ ρ 94 = .int .i64 j ∧ ρ 93 = .int .i64 (t.at 5).l.length ∧ ρ 12 = .slice ab_5 (t.at 5).l.length ac_5 ∧ ρ 1 = r ∧ ρ 0 = .pointer (some ⟨vb, 0, none⟩) ∧ ρ 5 = .int .i16 ver ∧ ρ 6 = .bool true ∧ AppR 5 B w v s (([] ++ X_0 ++ X_1 ++ X_2 ++ X_3 ++ XL_5) ++ ((t.at 5).l.take j).flatMap (fun x => partS (d + 2) fs_StopReplicaRequestTopic ver true x)) r w')
      (fun ρ _ => (t.at 5).l.length - (RowKit.intOf (ρ 94)).toNat) ?_ ?_) ?_
  · refine ⟨0, _, Nat.zero_le _, ?_, ?_, ?_, ?_, ?_, ?_, ?_, ha5.eqs (by rw [List.take_zero, List.flatMap_nil, List.append_nil])⟩ <;> simp (maxSteps := 1000000) (disch := (first | omega | (simp only [World.size_alloc, size_wr, size_drew] <;> omega) | exact not_noB _)) only [go_sem, ↓reduceIte, n0, reduceCtorEq, n1, n2, n3, n4, n5, i0, i1, i2, i3, i4, i5, i6, i7]
    all_goals rfl
  · rintro ρ w6 ⟨j1, r6, hj1, hI1, hN1, hS1, hr1_1, hr1_0, hr1_5, hr1_6, ha6⟩
    have hB6 : B ≤ w6.heap.size := Nat.le_trans hB ha6.upd.size
    have hv_6 := ha6.upd.blk_some hv hdv
    by_cases hlt1 : j1 < (t.at 5).l.length
    · obtain ⟨_, b1, o1, x1, ce1, hb1, hok1, hx1, hbl1, hxs1, hxe1, hq1, hRe1⟩ := SlR.get (size := 5) (by decide) hs_5 hlt1
      subst hb1
      have hcat1 : (t.at 5).l.take (j1 + 1) = (t.at 5).l.take j1 ++ [(t.at 5).l[j1]] := List.take_succ_eq_append_getElem hlt1
      have htl1 := take_flatMap_len (t.at 5).l (fun x => partS (d + 2) fs_StopReplicaRequestTopic ver true x) (j1 + 1)
      rw [← hXE_5, hcat1, List.flatMap_append, List.flatMap_cons, List.flatMap_nil, List.append_nil] at htl1
      have hge1 := (g_5.list rfl).2 _ (List.getElem_mem hlt1)
      generalize (t.at 5).l[j1] = y1 at *
      have hnx1 := hd b1 hbl1 hok1
      obtain ⟨T1, hTT1⟩ : ∃ T, T = ((t.at 5).l.take j1).flatMap (fun x => partS (d + 2) fs_StopReplicaRequestTopic ver true x) := ⟨_, rfl⟩
      rw [← hTT1] at ha6 htl1
      have hx1_6 := ha6.upd.blk_some hx1 hnx1
      replace hRe1 : RepS true (d + 2) fs_StopReplicaRequestTopic okM w y1 ce1 := Rep1_part.1 hRe1
      have hfe1 : FitP ver (d + 2) fs_StopReplicaRequestTopic y1 := hge1.2.2 rfl
      obtain ⟨⟨ge1_0, ge1_1, ge1_2, ge1_3, -⟩, hfue1⟩ := hfe1
      replace ge1_0 : FitF (FitP ver (d + 1)) ver fStopReplicaRequestTopic_0 (y1.at 0) := ge1_0
      replace ge1_1 : FitF (FitP ver (d + 1)) ver fStopReplicaRequestTopic_1 (y1.at 1) := ge1_1
      replace ge1_2 : FitF (FitP ver (d + 1)) ver fStopReplicaRequestTopic_2 (y1.at 2) := ge1_2
      replace ge1_3 : FitF (FitP ver (d + 1)) ver fStopReplicaRequestTopic_3 (y1.at 3) := ge1_3
      obtain ⟨cse1, qe1, hcse1, hLe1, hTe1⟩ := hRe1.inv
      obtain ⟨ce1_0, ee1_0, rfl, he1_0, ce1_1, ee1_1, rfl, he1_1, ce1_2, ee1_2, rfl, he1_2, ce1_3, ee1_3, rfl, he1_3, rfl⟩ := hLe1
      replace he1_0 : RepF (RepS true (d + 1)) (szS true (d + 1)) fStopReplicaRequestTopic_0 okM w (y1.at 0) ce1_0 := he1_0
      replace he1_1 : RepF (RepS true (d + 1)) (szS true (d + 1)) fStopReplicaRequestTopic_1 okM w (y1.at 1) ce1_1 := he1_1
      replace he1_2 : RepF (RepS true (d + 1)) (szS true (d + 1)) fStopReplicaRequestTopic_2 okM w (y1.at 2) ce1_2 := he1_2
      replace he1_3 : RepF (RepS true (d + 1)) (szS true (d + 1)) fStopReplicaRequestTopic_3 okM w (y1.at 3) ce1_3 := he1_3
      obtain rfl := (RepF_text rfl (by decide)).1 he1_0
      obtain rfl := (RepF_num (by decide)).1 he1_1
      have hne1_2 := ge1_2.notnull (by decide)
      obtain ⟨pe1_2, rfl, hse1_2, -⟩ := (RepF_list rfl hne1_2).1 he1_2
      obtain ⟨abe1_2, ace1_2, rfl, _⟩ := SlR.shape hse1_2
      have hlle1_2 := (ge1_2.list rfl).1
      have hne1_3 := ge1_3.notnull (by decide)
      obtain ⟨pe1_3, rfl, hse1_3, -⟩ := (RepF_list rfl hne1_3).1 he1_3
      obtain ⟨abe1_3, ace1_3, rfl, _⟩ := SlR.shape hse1_3
      have hlle1_3 := (ge1_3.list rfl).1
      obtain ⟨qme1, rfl⟩ := hTe1.shape
      subst hcse1
      have hq1_0 : x1.1[o1 + j1 * 5]? = some (strV (y1.at 0).s) := hq1 0 (by decide)
      have hq1_1 : x1.1[o1 + (j1 * 5 + 1)]? = some (.int .i32 (IntKind.i32.wrap (y1.at 1).n)) := hq1 1 (by decide)
      have hq1_2 : x1.1[o1 + (j1 * 5 + 2)]? = some (.slice abe1_2 (y1.at 2).l.length ace1_2) := hq1 2 (by decide)
      have hq1_3 : x1.1[o1 + (j1 * 5 + 3)]? = some (.slice abe1_3 (y1.at 3).l.length ace1_3) := hq1 3 (by decide)
      have hq1_4 : x1.1[o1 + (j1 * 5 + 4)]? = some (.map qme1) := hq1 4 (by decide)
      have hhe1_0 : hasS fStopReplicaRequestTopic_0 ver = true := hasS_t (by show (0 : Int) ≤ ver; omega) (by show (-1 : Int) < 0 ∨ ver ≤ (-1 : Int); omega)
      obtain ⟨Xe1_0, hXXe1_0⟩ : ∃ X, X = uvarS ((y1.at 0).s.length + 1) ++ (y1.at 0).s := ⟨_, rfl⟩
      have hhe1_1 : hasS fStopReplicaRequestTopic_1 ver = false := hasS_f (by show ver < 0 ∨ (0 ≤ (0 : Int) ∧ (0 : Int) < ver); omega)
      have hhe1_2 : hasS fStopReplicaRequestTopic_2 ver = false := hasS_f (by show ver < 1 ∨ (0 ≤ (2 : Int) ∧ (2 : Int) < ver); omega)
      have hhe1_3 : hasS fStopReplicaRequestTopic_3 ver = true := hasS_t (by show (3 : Int) ≤ ver; omega) (by show (-1 : Int) < 0 ∨ ver ≤ (-1 : Int); omega)
      obtain ⟨XLe1_3, hXLe1_3⟩ : ∃ X, X = uvarS ((y1.at 3).l.length + 1) := ⟨_, rfl⟩
      obtain ⟨XEe1_3, hXEe1_3⟩ : ∃ X, X = (y1.at 3).l.flatMap (fun x => partS (d + 1) fs_StopReplicaRequestTopicPartitionState ver true x) := ⟨_, rfl⟩
      obtain ⟨XUe1, hXUe1⟩ : ∃ X, X = uvarS y1.u.length := ⟨_, rfl⟩
      obtain ⟨XTe1, hXTe1⟩ : ∃ X, X = y1.u.flatMap oneTag := ⟨_, rfl⟩
      have hPe1 : partS (d + 2) fs_StopReplicaRequestTopic ver true y1 = (Xe1_0 ++ ((XLe1_3 ++ XEe1_3) ++ [])) ++ (XUe1 ++ XTe1) := by rw [hXUe1, hXTe1]; exact partS_yes rfl hfue1 (plainL_has (by decide) hhe1_0 ((fieldS_text_t ge1_0 rfl (by decide)).trans hXXe1_0.symm) (plainL_not hhe1_1 (plainL_not hhe1_2 (plainL_has (by decide) hhe1_3 ((fieldS_list_t (g := (fun x => partS (d + 1) fs_StopReplicaRequestTopicPartitionState ver true x)) ge1_3 rfl (by decide) (fun x _ => valueS_part)).trans (by rw [hXLe1_3, hXEe1_3])) rfl))))
      rw [hPe1] at htl1
      simp only [List.length_append, List.length_nil] at htl1
      repeat ((first | refine W.seqR rfl ?_ | refine W.seq ?_ | refine W.regR rfl ?_ | refine W.condK ?_ | refine W.block ?_ | refine W.skip ?_ | refine W.ret ?_ | refine W.exit ?_); try simp (maxSteps := 1000000) (disch := (first | omega | (simp only [World.size_alloc, size_wr, size_drew] <;> omega) | exact not_noB _)) only [go_sem, ↓reduceIte, n0, reduceCtorEq, n1, n2, n3, n4, n5, i0, i1, i2, i3, i4, i5, i6, i7, hv_6, hx1_6, Int.toNat_natCast, Nat.mul_one, hq1_0, hq1_1, hq1_2, hq1_3, hq1_4, hr1_1, hr1_0, hr1_5, hr1_6, hI1, hN1, hS1])
      refine (AppendCompactString_fn _ _ _ ha6.own hB6 (y1.at 0).s (ge1_0.text (.inl rfl)) (by simp only [List.length_append, List.length_nil]; omega)).mono ?_
      rintro r7 w7 hc7
      rw [← hXXe1_0] at hc7
      have ha7 := ha6.trans hc7
      have hB7 : B ≤ w7.heap.size := Nat.le_trans hB ha7.upd.size
      have hv_7 := ha7.upd.blk_some hv hdv
      have hx1_7 := ha7.upd.blk_some hx1 hnx1
      repeat ((first | refine W.seqR rfl ?_ | refine W.seq ?_ | refine W.regR rfl ?_ | refine W.condK ?_ | refine W.block ?_ | refine W.skip ?_ | refine W.ret ?_ | refine W.exit ?_); try simp (maxSteps := 1000000) (disch := (first | omega | (simp only [World.size_alloc, size_wr, size_drew] <;> omega) | exact not_noB _)) only [go_sem, ↓reduceIte, n0, reduceCtorEq, n1, n2, n3, n4, n5, i0, i1, i2, i3, i4, i5, i6, i7, hv_7, hx1_7, Int.toNat_natCast, Nat.mul_one, hq1_0, hq1_1, hq1_2, hq1_3, hq1_4, hr1_1, hr1_0, hr1_5, hr1_6, hI1, hN1, hS1])
      refine (AppendCompactArrayLen_fn _ _ _ ha7.own hB7 (y1.at 3).l.length hlle1_3 (by simp only [List.length_append, List.length_nil]; omega)).mono ?_
      rintro r8 w8 hc8
      rw [← hXLe1_3] at hc8
      have ha8 := ha7.trans hc8
      have hB8 : B ≤ w8.heap.size := Nat.le_trans hB ha8.upd.size
      have hv_8 := ha8.upd.blk_some hv hdv
      have hx1_8 := ha8.upd.blk_some hx1 hnx1
      repeat ((first | refine W.seqR rfl ?_ | refine W.seq ?_ | refine W.regR rfl ?_ | refine W.condK ?_ | refine W.block ?_ | refine W.skip ?_ | refine W.ret ?_ | refine W.exit ?_); try simp (maxSteps := 1000000) (disch := (first | omega | (simp only [World.size_alloc, size_wr, size_drew] <;> omega) | exact not_noB _)) only [go_sem, ↓reduceIte, n0, reduceCtorEq, n1, n2, n3, n4, n5, i0, i1, i2, i3, i4, i5, i6, i7, hv_8, hx1_8, Int.toNat_natCast, Nat.mul_one, hq1_0, hq1_1, hq1_2, hq1_3, hq1_4, hr1_1, hr1_0, hr1_5, hr1_6, hI1, hN1, hS1])
      have hadd2 := ha8
      refine W.exitJ 4 (fun ρ w' => ∃ r, ρ 1 = r ∧ ρ 0 = .pointer (some ⟨vb, 0, none⟩) ∧ ρ 5 = .int .i16 ver ∧ ρ 6 = .bool true ∧ ρ 94 = .int .i64 j1 ∧ ρ 93 = .int .i64 (t.at 5).l.length ∧ ρ 12 = .slice (some ⟨b1, o1, none⟩) (t.at 5).l.length ac_5 ∧ ρ 14 = .pointer (some ⟨b1, o1 + j1 * 5, none⟩) ∧ AppR 5 B w v s (([] ++ X_0 ++ X_1 ++ X_2 ++ X_3 ++ XL_5 ++ T1 ++ Xe1_0 ++ XLe1_3) ++ XEe1_3) r w')
        (W.loop (fun ρ w' => ∃ (j : Nat) (r : Value), j ≤ (y1.at 3).l.length ∧ ρ 173 = .int .i64 j ∧ ρ 172 = .int .i64 (y1.at 3).l.length ∧ ρ 20 = .slice abe1_3 (y1.at 3).l.length ace1_3 ∧ ρ 1 = r ∧ ρ 0 = .pointer (some ⟨vb, 0, none⟩) ∧ ρ 5 = .int .i16 ver ∧ ρ 6 = .bool true ∧ ρ 94 = .int .i64 j1 ∧ ρ 93 = .int .i64 (t.at 5).l.length ∧ ρ 12 = .slice (some ⟨b1, o1, none⟩) (t.at 5).l.length ac_5 ∧ ρ 14 = .pointer (some ⟨b1, o1 + j1 * 5, none⟩) ∧ AppR 5 B w v s (([] ++ X_0 ++ X_1 ++ X_2 ++ X_3 ++ XL_5 ++ T1 ++ Xe1_0 ++ XLe1_3) ++ ((y1.at 3).l.take j).flatMap (fun x => partS (d + 1) fs_StopReplicaRequestTopicPartitionState ver true x)) r w')
          (fun ρ _ => (y1.at 3).l.length - (RowKit.intOf (ρ 173)).toNat) ?_ ?_) ?_
      · refine ⟨0, _, Nat.zero_le _, ?_, ?_, ?_, ?_, ?_, ?_, ?_, ?_, ?_, ?_, ?_, ha8.eqs (by rw [List.take_zero, List.flatMap_nil, List.append_nil])⟩ <;> simp (maxSteps := 1000000) (disch := (first | omega | (simp only [World.size_alloc, size_wr, size_drew] <;> omega) | exact not_noB _)) only [go_sem, ↓reduceIte, n0, reduceCtorEq, n1, n2, n3, n4, n5, i0, i1, i2, i3, i4, i5, i6, i7, hr1_1, hr1_0, hr1_5, hr1_6, hI1, hN1, hS1]
        all_goals rfl
      · rintro ρ w9 ⟨j2, r9, hj2, hI2, hN2, hS2, hr1_2, hr2_0, hr2_5, hr2_6, hr2_94, hr2_93, hr2_12, hr2_14, ha9⟩
        have hB9 : B ≤ w9.heap.size := Nat.le_trans hB ha9.upd.size
        have hv_9 := ha9.upd.blk_some hv hdv
        have hx1_9 := ha9.upd.blk_some hx1 hnx1
        by_cases hlt2 : j2 < (y1.at 3).l.length
        · obtain ⟨_, b2, o2, x2, ce2, hb2, hok2, hx2, hbl2, hxs2, hxe2, hq2, hRe2⟩ := SlR.get (size := 4) (by decide) hse1_3 hlt2
          subst hb2
          have hcat2 : (y1.at 3).l.take (j2 + 1) = (y1.at 3).l.take j2 ++ [(y1.at 3).l[j2]] := List.take_succ_eq_append_getElem hlt2
          have htl2 := take_flatMap_len (y1.at 3).l (fun x => partS (d + 1) fs_StopReplicaRequestTopicPartitionState ver true x) (j2 + 1)
          rw [← hXEe1_3, hcat2, List.flatMap_append, List.flatMap_cons, List.flatMap_nil, List.append_nil] at htl2
          have hge2 := (ge1_3.list rfl).2 _ (List.getElem_mem hlt2)
          generalize (y1.at 3).l[j2] = y2 at *
          have hnx2 := hd b2 hbl2 hok2
          obtain ⟨T2, hTT2⟩ : ∃ T, T = ((y1.at 3).l.take j2).flatMap (fun x => partS (d + 1) fs_StopReplicaRequestTopicPartitionState ver true x) := ⟨_, rfl⟩
          rw [← hTT2] at ha9 htl2
          have hx2_9 := ha9.upd.blk_some hx2 hnx2
          replace hRe2 : RepS true (d + 1) fs_StopReplicaRequestTopicPartitionState okM w y2 ce2 := Rep1_part.1 hRe2
          have hfe2 : FitP ver (d + 1) fs_StopReplicaRequestTopicPartitionState y2 := hge2.2.2 rfl
          obtain ⟨⟨ge2_0, ge2_1, ge2_2, -⟩, hfue2⟩ := hfe2
          replace ge2_0 : FitF (FitP ver d) ver fStopReplicaRequestTopicPartitionState_0 (y2.at 0) := ge2_0
          replace ge2_1 : FitF (FitP ver d) ver fStopReplicaRequestTopicPartitionState_1 (y2.at 1) := ge2_1
          replace ge2_2 : FitF (FitP ver d) ver fStopReplicaRequestTopicPartitionState_2 (y2.at 2) := ge2_2
          obtain ⟨cse2, qe2, hcse2, hLe2, hTe2⟩ := hRe2.inv
          obtain ⟨ce2_0, ee2_0, rfl, he2_0, ce2_1, ee2_1, rfl, he2_1, ce2_2, ee2_2, rfl, he2_2, rfl⟩ := hLe2
          replace he2_0 : RepF (RepS true d) (szS true d) fStopReplicaRequestTopicPartitionState_0 okM w (y2.at 0) ce2_0 := he2_0
          replace he2_1 : RepF (RepS true d) (szS true d) fStopReplicaRequestTopicPartitionState_1 okM w (y2.at 1) ce2_1 := he2_1
          replace he2_2 : RepF (RepS true d) (szS true d) fStopReplicaRequestTopicPartitionState_2 okM w (y2.at 2) ce2_2 := he2_2
          obtain rfl := (RepF_num (by decide)).1 he2_0
          obtain rfl := (RepF_num (by decide)).1 he2_1
          obtain rfl := (RepF_num (by decide)).1 he2_2
          obtain ⟨qme2, rfl⟩ := hTe2.shape
          subst hcse2
          have hq2_0 : x2.1[o2 + j2 * 4]? = some (.int .i32 (IntKind.i32.wrap (y2.at 0).n)) := hq2 0 (by decide)
          have hq2_1 : x2.1[o2 + (j2 * 4 + 1)]? = some (.int .i32 (IntKind.i32.wrap (y2.at 1).n)) := hq2 1 (by decide)
          have hq2_2 : x2.1[o2 + (j2 * 4 + 2)]? = some (.bool (decide ((y2.at 2).n % 2 = 1))) := hq2 2 (by decide)
          have hq2_3 : x2.1[o2 + (j2 * 4 + 3)]? = some (.map qme2) := hq2 3 (by decide)
          have hhe2_0 : hasS fStopReplicaRequestTopicPartitionState_0 ver = true := hasS_t (by show (0 : Int) ≤ ver; omega) (by show (-1 : Int) < 0 ∨ ver ≤ (-1 : Int); omega)
          obtain ⟨Xe2_0, hXXe2_0⟩ : ∃ X, X = fixedS (y2.at 0).n 4 := ⟨_, rfl⟩
          have hhe2_1 : hasS fStopReplicaRequestTopicPartitionState_1 ver = true := hasS_t (by show (0 : Int) ≤ ver; omega) (by show (-1 : Int) < 0 ∨ ver ≤ (-1 : Int); omega)
          obtain ⟨Xe2_1, hXXe2_1⟩ : ∃ X, X = fixedS (y2.at 1).n 4 := ⟨_, rfl⟩
          have hhe2_2 : hasS fStopReplicaRequestTopicPartitionState_2 ver = true := hasS_t (by show (0 : Int) ≤ ver; omega) (by show (-1 : Int) < 0 ∨ ver ≤ (-1 : Int); omega)
          obtain ⟨Xe2_2, hXXe2_2⟩ : ∃ X, X = [if decide ((y2.at 2).n % 2 = 1) = true then (1 : UInt8) else 0] := ⟨_, rfl⟩
          obtain ⟨XUe2, hXUe2⟩ : ∃ X, X = uvarS y2.u.length := ⟨_, rfl⟩
          obtain ⟨XTe2, hXTe2⟩ : ∃ X, X = y2.u.flatMap oneTag := ⟨_, rfl⟩
          have hPe2 : partS (d + 1) fs_StopReplicaRequestTopicPartitionState ver true y2 = (Xe2_0 ++ (Xe2_1 ++ (Xe2_2 ++ []))) ++ (XUe2 ++ XTe2) := by rw [hXUe2, hXTe2]; exact partS_yes rfl hfue2 (plainL_has (by decide) hhe2_0 ((fieldS_num 3 rfl (by decide)).trans hXXe2_0.symm) (plainL_has (by decide) hhe2_1 ((fieldS_num 3 rfl (by decide)).trans hXXe2_1.symm) (plainL_has (by decide) hhe2_2 ((fieldS_bool rfl).trans hXXe2_2.symm) rfl)))
          rw [hPe2] at htl2
          simp only [List.length_append, List.length_nil] at htl2
          repeat ((first | refine W.seqR rfl ?_ | refine W.seq ?_ | refine W.regR rfl ?_ | refine W.condK ?_ | refine W.block ?_ | refine W.skip ?_ | refine W.ret ?_ | refine W.exit ?_); try simp (maxSteps := 1000000) (disch := (first | omega | (simp only [World.size_alloc, size_wr, size_drew] <;> omega) | exact not_noB _)) only [go_sem, ↓reduceIte, n0, reduceCtorEq, n1, n2, n3, n4, n5, i0, i1, i2, i3, i4, i5, i6, i7, hv_9, hx1_9, hx2_9, Int.toNat_natCast, Nat.mul_one, hq1_0, hq1_1, hq1_2, hq1_3, hq1_4, hq2_0, hq2_1, hq2_2, hq2_3, hr1_2, hr2_0, hr2_5, hr2_6, hr2_94, hr2_93, hr2_12, hr2_14, hI2, hN2, hS2])
          refine (AppendInt32_fn _ _ _ ha9.own hB9 _ (by simp only [List.length_append, List.length_nil]; omega)).mono ?_
          rintro r10 w10 hc10
          rw [wrap32, ← hXXe2_0] at hc10
          have ha10 := ha9.trans hc10
          have hB10 : B ≤ w10.heap.size := Nat.le_trans hB ha10.upd.size
          have hv_10 := ha10.upd.blk_some hv hdv
          have hx1_10 := ha10.upd.blk_some hx1 hnx1
          have hx2_10 := ha10.upd.blk_some hx2 hnx2
          repeat ((first | refine W.seqR rfl ?_ | refine W.seq ?_ | refine W.regR rfl ?_ | refine W.condK ?_ | refine W.block ?_ | refine W.skip ?_ | refine W.ret ?_ | refine W.exit ?_); try simp (maxSteps := 1000000) (disch := (first | omega | (simp only [World.size_alloc, size_wr, size_drew] <;> omega) | exact not_noB _)) only [go_sem, ↓reduceIte, n0, reduceCtorEq, n1, n2, n3, n4, n5, i0, i1, i2, i3, i4, i5, i6, i7, hv_10, hx1_10, hx2_10, Int.toNat_natCast, Nat.mul_one, hq1_0, hq1_1, hq1_2, hq1_3, hq1_4, hq2_0, hq2_1, hq2_2, hq2_3, hr1_2, hr2_0, hr2_5, hr2_6, hr2_94, hr2_93, hr2_12, hr2_14, hI2, hN2, hS2])
          refine (AppendInt32_fn _ _ _ ha10.own hB10 _ (by simp only [List.length_append, List.length_nil]; omega)).mono ?_
          rintro r11 w11 hc11
          rw [wrap32, ← hXXe2_1] at hc11
          have ha11 := ha10.trans hc11
          have hB11 : B ≤ w11.heap.size := Nat.le_trans hB ha11.upd.size
          have hv_11 := ha11.upd.blk_some hv hdv
          have hx1_11 := ha11.upd.blk_some hx1 hnx1
          have hx2_11 := ha11.upd.blk_some hx2 hnx2
          repeat ((first | refine W.seqR rfl ?_ | refine W.seq ?_ | refine W.regR rfl ?_ | refine W.condK ?_ | refine W.block ?_ | refine W.skip ?_ | refine W.ret ?_ | refine W.exit ?_); try simp (maxSteps := 1000000) (disch := (first | omega | (simp only [World.size_alloc, size_wr, size_drew] <;> omega) | exact not_noB _)) only [go_sem, ↓reduceIte, n0, reduceCtorEq, n1, n2, n3, n4, n5, i0, i1, i2, i3, i4, i5, i6, i7, hv_11, hx1_11, hx2_11, Int.toNat_natCast, Nat.mul_one, hq1_0, hq1_1, hq1_2, hq1_3, hq1_4, hq2_0, hq2_1, hq2_2, hq2_3, hr1_2, hr2_0, hr2_5, hr2_6, hr2_94, hr2_93, hr2_12, hr2_14, hI2, hN2, hS2])
          refine (AppendBool_fn _ _ _ ha11.own hB11 _ (by simp only [List.length_append, List.length_nil]; omega)).mono ?_
          rintro r12 w12 hc12
          rw [← hXXe2_2] at hc12
          have ha12 := ha11.trans hc12
          have hB12 : B ≤ w12.heap.size := Nat.le_trans hB ha12.upd.size
          have hv_12 := ha12.upd.blk_some hv hdv
          have hx1_12 := ha12.upd.blk_some hx1 hnx1
          have hx2_12 := ha12.upd.blk_some hx2 hnx2
          repeat ((first | refine W.seqR rfl ?_ | refine W.seq ?_ | refine W.regR rfl ?_ | refine W.condK ?_ | refine W.block ?_ | refine W.skip ?_ | refine W.ret ?_ | refine W.exit ?_); try simp (maxSteps := 1000000) (disch := (first | omega | (simp only [World.size_alloc, size_wr, size_drew] <;> omega) | exact not_noB _)) only [go_sem, ↓reduceIte, n0, reduceCtorEq, n1, n2, n3, n4, n5, i0, i1, i2, i3, i4, i5, i6, i7, hv_12, hx1_12, hx2_12, Int.toNat_natCast, Nat.mul_one, hq1_0, hq1_1, hq1_2, hq1_3, hq1_4, hq2_0, hq2_1, hq2_2, hq2_3, hr1_2, hr2_0, hr2_5, hr2_6, hr2_94, hr2_93, hr2_12, hr2_14, hI2, hN2, hS2])
          have hTk12 : TagsM (OkS okM w.heap.size) w12 (.map qme2) y2.u := (hTe2.weaken fun b h1 h2 => ⟨h2, h1⟩).keep (ha12.upd.keeps fun b hb hk => hd b hb hk.1)
          refine (TagsLen_fn (ok := OkS okM w.heap.size) w12 hx2_12 (to := o2 + (j2 * 4 + 3)) hq2_3 hTk12).mono ?_
          rintro _ w12' ⟨rfl, rfl⟩
          have hul12 : y2.u.length ≤ 32767 := hfue2.1
          have ew12 : IntKind.u32.wrap (y2.u.length : Int) = y2.u.length := u32_wrap (by omega)
          have ez12 : IntKind.u32.wrap (0 + (y2.u.length : Int)) = y2.u.length := by rw [Int.zero_add, u32_wrap (by omega)]
          simp (maxSteps := 1000000) (disch := (first | omega | (simp only [World.size_alloc, size_wr, size_drew] <;> omega) | exact not_noB _)) only [go_sem, ↓reduceIte, n0, reduceCtorEq, n1, n2, n3, n4, n5, i0, i1, i2, i3, i4, i5, i6, i7, hv_12, hx1_12, hx2_12, Int.toNat_natCast, Nat.mul_one, hq1_0, hq1_1, hq1_2, hq1_3, hq1_4, hq2_0, hq2_1, hq2_2, hq2_3, hr1_2, hr2_0, hr2_5, hr2_6, hr2_94, hr2_93, hr2_12, hr2_14, hI2, hN2, hS2, ew12, ez12]
          refine (AppendUvarint_fn _ _ _ ha12.own hB12 y2.u.length (by omega) (by simp only [List.length_append, List.length_nil]; omega)).mono ?_
          rintro r13 w13 hc13
          rw [← hXUe2] at hc13
          have ha13 := ha12.trans hc13
          have hB13 : B ≤ w13.heap.size := Nat.le_trans hB ha13.upd.size
          have hv_13 := ha13.upd.blk_some hv hdv
          have hx1_13 := ha13.upd.blk_some hx1 hnx1
          have hx2_13 := ha13.upd.blk_some hx2 hnx2
          repeat ((first | refine W.seqR rfl ?_ | refine W.seq ?_ | refine W.regR rfl ?_ | refine W.condK ?_ | refine W.block ?_ | refine W.skip ?_ | refine W.ret ?_ | refine W.exit ?_); try simp (maxSteps := 1000000) (disch := (first | omega | (simp only [World.size_alloc, size_wr, size_drew] <;> omega) | exact not_noB _)) only [go_sem, ↓reduceIte, n0, reduceCtorEq, n1, n2, n3, n4, n5, i0, i1, i2, i3, i4, i5, i6, i7, hv_13, hx1_13, hx2_13, Int.toNat_natCast, Nat.mul_one, hq1_0, hq1_1, hq1_2, hq1_3, hq1_4, hq2_0, hq2_1, hq2_2, hq2_3, hr1_2, hr2_0, hr2_5, hr2_6, hr2_94, hr2_93, hr2_12, hr2_14, hI2, hN2, hS2])
          have hTk13 : TagsM (OkS okM w.heap.size) w13 (.map qme2) y2.u := (hTe2.weaken fun b h1 h2 => ⟨h2, h1⟩).keep (ha13.upd.keeps fun b hb hk => hd b hb hk.1)
          refine (AppendEach_fn (ok := OkS okM w.heap.size) _ _ _ ha13.own hB13 hx2_13 (to := o2 + (j2 * 4 + 3)) hq2_3 hTk13 (rising_keys hfue2) hfue2.1 (tags_small hfue2 hTk13) (hdK ha13) (ownK ha13 (blk_lt hx2) hnx2) (by simp only [List.length_append, List.length_nil]; omega)).mono ?_
          rintro r14 w14 hc14
          rw [← hXTe2] at hc14
          have ha14 := ha13.trans hc14
          have hB14 : B ≤ w14.heap.size := Nat.le_trans hB ha14.upd.size
          have hv_14 := ha14.upd.blk_some hv hdv
          have hx1_14 := ha14.upd.blk_some hx1 hnx1
          have hx2_14 := ha14.upd.blk_some hx2 hnx2
          repeat ((first | refine W.seqR rfl ?_ | refine W.seq ?_ | refine W.regR rfl ?_ | refine W.condK ?_ | refine W.block ?_ | refine W.skip ?_ | refine W.ret ?_ | refine W.exit ?_); try simp (maxSteps := 1000000) (disch := (first | omega | (simp only [World.size_alloc, size_wr, size_drew] <;> omega) | exact not_noB _)) only [go_sem, ↓reduceIte, n0, reduceCtorEq, n1, n2, n3, n4, n5, i0, i1, i2, i3, i4, i5, i6, i7, hr1_2, hr2_0, hr2_5, hr2_6, hr2_94, hr2_93, hr2_12, hr2_14, hI2, hN2, hS2])
          refine ⟨⟨j2 + 1, _, by omega, rfl, rfl, ha14.eqs ?_⟩, ?_⟩
          · rw [hcat2, List.flatMap_append, List.flatMap_cons, List.flatMap_nil, List.append_nil, ← hTT2, hPe2]; simp only [List.append_assoc, List.append_nil, List.nil_append]
          · simp only [RowKit.intOf]; omega
        · have hjl2 : j2 = (y1.at 3).l.length := by omega
          subst hjl2
          rw [List.take_length, ← hXEe1_3] at ha9
          repeat ((first | refine W.seqR rfl ?_ | refine W.seq ?_ | refine W.regR rfl ?_ | refine W.condK ?_ | refine W.block ?_ | refine W.skip ?_ | refine W.ret ?_ | refine W.exit ?_); try simp (maxSteps := 1000000) (disch := (first | omega | (simp only [World.size_alloc, size_wr, size_drew] <;> omega) | exact not_noB _)) only [go_sem, ↓reduceIte, n0, reduceCtorEq, n1, n2, n3, n4, n5, i0, i1, i2, i3, i4, i5, i6, i7, hI2, hN2])
          exact ⟨_, hr1_2, hr2_0, hr2_5, hr2_6, hr2_94, hr2_93, hr2_12, hr2_14, ha9⟩
      · rintro ρ w15 ⟨r15, hr1_3, hr3_0, hr3_5, hr3_6, hr3_94, hr3_93, hr3_12, hr3_14, ha15⟩
        have hB15 : B ≤ w15.heap.size := Nat.le_trans hB ha15.upd.size
        have hv_15 := ha15.upd.blk_some hv hdv
        have hx1_15 := ha15.upd.blk_some hx1 hnx1
        repeat ((first | refine W.seqR rfl ?_ | refine W.seq ?_ | refine W.regR rfl ?_ | refine W.condK ?_ | refine W.block ?_ | refine W.skip ?_ | refine W.ret ?_ | refine W.exit ?_); try simp (maxSteps := 1000000) (disch := (first | omega | (simp only [World.size_alloc, size_wr, size_drew] <;> omega) | exact not_noB _)) only [go_sem, ↓reduceIte, n0, reduceCtorEq, n1, n2, n3, n4, n5, i0, i1, i2, i3, i4, i5, i6, i7, hv_15, hx1_15, Int.toNat_natCast, Nat.mul_one, hq1_0, hq1_1, hq1_2, hq1_3, hq1_4, hr1_3, hr3_0, hr3_5, hr3_6, hr3_94, hr3_93, hr3_12, hr3_14])
        have hTk15 : TagsM (OkS okM w.heap.size) w15 (.map qme1) y1.u := (hTe1.weaken fun b h1 h2 => ⟨h2, h1⟩).keep (ha15.upd.keeps fun b hb hk => hd b hb hk.1)
        refine (TagsLen_fn (ok := OkS okM w.heap.size) w15 hx1_15 (to := o1 + (j1 * 5 + 4)) hq1_4 hTk15).mono ?_
        rintro _ w15' ⟨rfl, rfl⟩
        have hul15 : y1.u.length ≤ 32767 := hfue1.1
        have ew15 : IntKind.u32.wrap (y1.u.length : Int) = y1.u.length := u32_wrap (by omega)
        have ez15 : IntKind.u32.wrap (0 + (y1.u.length : Int)) = y1.u.length := by rw [Int.zero_add, u32_wrap (by omega)]
        simp (maxSteps := 1000000) (disch := (first | omega | (simp only [World.size_alloc, size_wr, size_drew] <;> omega) | exact not_noB _)) only [go_sem, ↓reduceIte, n0, reduceCtorEq, n1, n2, n3, n4, n5, i0, i1, i2, i3, i4, i5, i6, i7, hv_15, hx1_15, Int.toNat_natCast, Nat.mul_one, hq1_0, hq1_1, hq1_2, hq1_3, hq1_4, hr1_3, hr3_0, hr3_5, hr3_6, hr3_94, hr3_93, hr3_12, hr3_14, ew15, ez15]
        refine (AppendUvarint_fn _ _ _ ha15.own hB15 y1.u.length (by omega) (by simp only [List.length_append, List.length_nil]; omega)).mono ?_
        rintro r16 w16 hc16
        rw [← hXUe1] at hc16
        have ha16 := ha15.trans hc16
        have hB16 : B ≤ w16.heap.size := Nat.le_trans hB ha16.upd.size
        have hv_16 := ha16.upd.blk_some hv hdv
        have hx1_16 := ha16.upd.blk_some hx1 hnx1
        repeat ((first | refine W.seqR rfl ?_ | refine W.seq ?_ | refine W.regR rfl ?_ | refine W.condK ?_ | refine W.block ?_ | refine W.skip ?_ | refine W.ret ?_ | refine W.exit ?_); try simp (maxSteps := 1000000) (disch := (first | omega | (simp only [World.size_alloc, size_wr, size_drew] <;> omega) | exact not_noB _)) only [go_sem, ↓reduceIte, n0, reduceCtorEq, n1, n2, n3, n4, n5, i0, i1, i2, i3, i4, i5, i6, i7, hv_16, hx1_16, Int.toNat_natCast, Nat.mul_one, hq1_0, hq1_1, hq1_2, hq1_3, hq1_4, hr1_3, hr3_0, hr3_5, hr3_6, hr3_94, hr3_93, hr3_12, hr3_14])
        have hTk16 : TagsM (OkS okM w.heap.size) w16 (.map qme1) y1.u := (hTe1.weaken fun b h1 h2 => ⟨h2, h1⟩).keep (ha16.upd.keeps fun b hb hk => hd b hb hk.1)
        refine (AppendEach_fn (ok := OkS okM w.heap.size) _ _ _ ha16.own hB16 hx1_16 (to := o1 + (j1 * 5 + 4)) hq1_4 hTk16 (rising_keys hfue1) hfue1.1 (tags_small hfue1 hTk16) (hdK ha16) (ownK ha16 (blk_lt hx1) hnx1) (by simp only [List.length_append, List.length_nil]; omega)).mono ?_
        rintro r17 w17 hc17
        rw [← hXTe1] at hc17
        have ha17 := ha16.trans hc17
        have hB17 : B ≤ w17.heap.size := Nat.le_trans hB ha17.upd.size
        have hv_17 := ha17.upd.blk_some hv hdv
        have hx1_17 := ha17.upd.blk_some hx1 hnx1
        repeat ((first | refine W.seqR rfl ?_ | refine W.seq ?_ | refine W.regR rfl ?_ | refine W.condK ?_ | refine W.block ?_ | refine W.skip ?_ | refine W.ret ?_ | refine W.exit ?_); try simp (maxSteps := 1000000) (disch := (first | omega | (simp only [World.size_alloc, size_wr, size_drew] <;> omega) | exact not_noB _)) only [go_sem, ↓reduceIte, n0, reduceCtorEq, n1, n2, n3, n4, n5, i0, i1, i2, i3, i4, i5, i6, i7, hr1_3, hr3_0, hr3_5, hr3_6, hr3_94, hr3_93, hr3_12, hr3_14])
        refine ⟨⟨j1 + 1, _, by omega, rfl, rfl, ha17.eqs ?_⟩, ?_⟩
        · rw [hcat1, List.flatMap_append, List.flatMap_cons, List.flatMap_nil, List.append_nil, ← hTT1, hPe1]; simp only [List.append_assoc, List.append_nil, List.nil_append]
        · simp only [RowKit.intOf]; omega
    · have hjl1 : j1 = (t.at 5).l.length := by omega
      subst hjl1
      rw [List.take_length, ← hXE_5] at ha6
      repeat ((first | refine W.seqR rfl ?_ | refine W.seq ?_ | refine W.regR rfl ?_ | refine W.condK ?_ | refine W.block ?_ | refine W.skip ?_ | refine W.ret ?_ | refine W.exit ?_); try simp (maxSteps := 1000000) (disch := (first | omega | (simp only [World.size_alloc, size_wr, size_drew] <;> omega) | exact not_noB _)) only [go_sem, ↓reduceIte, n0, reduceCtorEq, n1, n2, n3, n4, n5, i0, i1, i2, i3, i4, i5, i6, i7, hI1, hN1])
      exact ⟨_, hr1_1, hr1_0, hr1_5, hr1_6, ha6⟩
  · rintro ρ w18 ⟨r18, hr1_4, hr4_0, hr4_5, hr4_6, ha18⟩
    have hB18 : B ≤ w18.heap.size := Nat.le_trans hB ha18.upd.size
    have hv_18 := ha18.upd.blk_some hv hdv
    repeat ((first | refine W.seqR rfl ?_ | refine W.seq ?_ | refine W.regR rfl ?_ | refine W.condK ?_ | refine W.block ?_ | refine W.skip ?_ | refine W.ret ?_ | refine W.exit ?_); try simp (maxSteps := 1000000) (disch := (first | omega | (simp only [World.size_alloc, size_wr, size_drew] <;> omega) | exact not_noB _)) only [go_sem, ↓reduceIte, n0, reduceCtorEq, n1, n2, n3, n4, n5, i0, i1, i2, i3, i4, i5, i6, i7, hv_18, hr1_4, hr4_0, hr4_5, hr4_6])
    have hTk18 : TagsM (OkS okM w.heap.size) w18 (.map qm) t.u := (hT.weaken fun b h1 h2 => ⟨h2, h1⟩).keep (ha18.upd.keeps fun b hb hk => hd b hb hk.1)
    refine (TagsLen_fn (ok := OkS okM w.heap.size) w18 hv_18 (to := 7) (show (#[.int .i16 ver, .int .i32 (IntKind.i32.wrap (t.at 0).n), .int .i32 (IntKind.i32.wrap (t.at 1).n), .bool (decide ((t.at 2).n % 2 = 1)), .int .i64 (t.at 3).n, .bool (decide ((t.at 4).n % 2 = 1)), .slice ab_5 (t.at 5).l.length ac_5, .map qm] : Array Value)[7]? = some (.map qm) from rfl) hTk18).mono ?_
    rintro _ w18' ⟨rfl, rfl⟩
    have hul18 : t.u.length ≤ 32767 := hfu.1
    have ew18 : IntKind.u32.wrap (t.u.length : Int) = t.u.length := u32_wrap (by omega)
    have ez18 : IntKind.u32.wrap (0 + (t.u.length : Int)) = t.u.length := by rw [Int.zero_add, u32_wrap (by omega)]
    simp (maxSteps := 1000000) (disch := (first | omega | (simp only [World.size_alloc, size_wr, size_drew] <;> omega) | exact not_noB _)) only [go_sem, ↓reduceIte, n0, reduceCtorEq, n1, n2, n3, n4, n5, i0, i1, i2, i3, i4, i5, i6, i7, hv_18, hr1_4, hr4_0, hr4_5, hr4_6, ew18, ez18]
    refine (AppendUvarint_fn _ _ _ ha18.own hB18 t.u.length (by omega) (by simp only [List.length_append, List.length_nil]; omega)).mono ?_
    rintro r19 w19 hc19
    rw [← hXU] at hc19
    have ha19 := ha18.trans hc19
    have hB19 : B ≤ w19.heap.size := Nat.le_trans hB ha19.upd.size
    have hv_19 := ha19.upd.blk_some hv hdv
    repeat ((first | refine W.seqR rfl ?_ | refine W.seq ?_ | refine W.regR rfl ?_ | refine W.condK ?_ | refine W.block ?_ | refine W.skip ?_ | refine W.ret ?_ | refine W.exit ?_); try simp (maxSteps := 1000000) (disch := (first | omega | (simp only [World.size_alloc, size_wr, size_drew] <;> omega) | exact not_noB _)) only [go_sem, ↓reduceIte, n0, reduceCtorEq, n1, n2, n3, n4, n5, i0, i1, i2, i3, i4, i5, i6, i7, hv_19, hr1_4, hr4_0, hr4_5, hr4_6])
    have hTk19 : TagsM (OkS okM w.heap.size) w19 (.map qm) t.u := (hT.weaken fun b h1 h2 => ⟨h2, h1⟩).keep (ha19.upd.keeps fun b hb hk => hd b hb hk.1)
    refine (AppendEach_fn (ok := OkS okM w.heap.size) _ _ _ ha19.own hB19 hv_19 (to := 7) (show (#[.int .i16 ver, .int .i32 (IntKind.i32.wrap (t.at 0).n), .int .i32 (IntKind.i32.wrap (t.at 1).n), .bool (decide ((t.at 2).n % 2 = 1)), .int .i64 (t.at 3).n, .bool (decide ((t.at 4).n % 2 = 1)), .slice ab_5 (t.at 5).l.length ac_5, .map qm] : Array Value)[7]? = some (.map qm) from rfl) hTk19 (rising_keys hfu) hfu.1 (tags_small hfu hTk19) (hdK ha19) (ownK ha19 (blk_lt hv) hdv) (by simp only [List.length_append, List.length_nil]; omega)).mono ?_
    rintro r20 w20 hc20
    rw [← hXT] at hc20
    have ha20 := ha19.trans hc20
    have hB20 : B ≤ w20.heap.size := Nat.le_trans hB ha20.upd.size
    have hv_20 := ha20.upd.blk_some hv hdv
    repeat ((first | refine W.seqR rfl ?_ | refine W.seq ?_ | refine W.regR rfl ?_ | refine W.condK ?_ | refine W.block ?_ | refine W.skip ?_ | refine W.ret ?_ | refine W.exit ?_); try simp (maxSteps := 1000000) (disch := (first | omega | (simp only [World.size_alloc, size_wr, size_drew] <;> omega) | exact not_noB _)) only [go_sem, ↓reduceIte, n0, reduceCtorEq, n1, n2, n3, n4, n5, i0, i1, i2, i3, i4, i5, i6, i7, hv_20, hr1_4, hr4_0, hr4_5, hr4_6])
    refine ha20.eqs ?_
    rw [hP]; simp only [List.append_assoc, List.append_nil, List.nil_append]
end Ms

namespace Ms
open Nat renaming reduceEqDiff → n0, reduceAdd → n1, reduceMul → n2, reduceSub → n3, reduceLT → n4, reduceLeDiff → n5
open Int renaming reduceEq → i0, reduceLT → i1, reduceLE → i2, reduceNeg → i3, reduceAdd → i4, reduceSub → i5, reduceMul → i6, reduceToNat → i7
set_option maxRecDepth 8000
open Go Go.Proofs Go.Shelf
attribute [local congr] W_congr WPsq_congr WPp_congr optK_congr addrK_congr intK_congr boolK_congr sliceK_congr tupleK_congr funcK_congr Fn_congr rawK_congr takeK_congr stepK_congr convK_congr aggK_congr

set_option maxHeartbeats 1000000 in
theorem MakeStopReplicaRequest_fn {ok : Blocks} (t : Tree) (ct : List Value) (w : World) (ver : Nat) (hv : ver ≤ 4) (ht : TreeC ok w t ct) (hfit : FitP ver 4 fs_StopReplicaRequest t) (hLs : Lists t) (hlen : (partS 4 fs_StopReplicaRequest ver (flexB 2 ver) t).length ≤ 2 ^ 41) :
    Fn Try.prog 42 #[.int .i64 ver, .agg ct.toArray] w fun r w' => OwnBy 5 w.heap.size w' r (partS 4 fs_StopReplicaRequest ver (flexB 2 ver) t) ∧ Ext w w' := by
  replace ht : TreeC (fun b => b < w.heap.size) w t ct := ht.weaken fun b hb _ => hb
  obtain ⟨vS, vL, vU, rfl, hn, hS, hL, hU⟩ := ht.inv
  obtain ⟨bS, cS, rfl, _⟩ := hS.shape
  obtain ⟨bL, cL, rfl, _⟩ := SlR.shape hL
  obtain ⟨bU, cU, rfl, _⟩ := SlR.shape hU
  have ew : IntKind.i16.wrap (ver : Int) = ver := i16_wrap (by omega)
  have hE1 : Ext w ((w.alloc (.cells #[.int .i64 t.n, .slice bS t.s.length cS, .bool t.null, .slice bL t.l.length cL, .slice bU t.u.length cU] 39)).alloc (.cells #[.int .i16 0, .int .i32 0, .int .i32 0, .bool false, .int .i64 0, .bool false, .slice none 0 0, .map none] 110)) := Upd.alloc (Upd.alloc (Upd.refl _ _) _) _
  have hb1 : blk ((w.alloc (.cells #[.int .i64 t.n, .slice bS t.s.length cS, .bool t.null, .slice bL t.l.length cL, .slice bU t.u.length cU] 39)).alloc (.cells #[.int .i16 0, .int .i32 0, .int .i32 0, .bool false, .int .i64 0, .bool false, .slice none 0 0, .map none] 110)) (w.heap.size + 1) = some (#[.int .i16 0, .int .i32 0, .int .i32 0, .bool false, .int .i64 0, .bool false, .slice none 0 0, .map none], 110, (0, 0)) := blk_alloc_new (by simp only [World.size_alloc])
  have htb1 : blk ((w.alloc (.cells #[.int .i64 t.n, .slice bS t.s.length cS, .bool t.null, .slice bL t.l.length cL, .slice bU t.u.length cU] 39)).alloc (.cells #[.int .i16 0, .int .i32 0, .int .i32 0, .bool false, .int .i64 0, .bool false, .slice none 0 0, .map none] 110)) w.heap.size = some (#[.int .i64 t.n, .slice bS t.s.length cS, .bool t.null, .slice bL t.l.length cL, .slice bU t.u.length cU], 39, (0, 0)) := by simp (maxSteps := 1000000) (disch := (first | omega | (simp only [World.size_alloc, size_wr, size_drew] <;> omega) | exact not_noB _)) only [go_sem, ↓reduceIte, n0, reduceCtorEq, n1, n2, n3, n4, n5, i0, i1, i2, i3, i4, i5, i6, i7]
  have hz1 : ((w.alloc (.cells #[.int .i64 t.n, .slice bS t.s.length cS, .bool t.null, .slice bL t.l.length cL, .slice bU t.u.length cU] 39)).alloc (.cells #[.int .i16 0, .int .i32 0, .int .i32 0, .bool false, .int .i64 0, .bool false, .slice none 0 0, .map none] 110)).heap.size = w.heap.size + 2 := by simp only [World.size_alloc]
  refine fn_of_W Try.func42 rfl Try.results42 Try.ntmps42 rfl ?_
  repeat ((first | refine W.seqR rfl ?_ | refine W.seq ?_ | refine W.regR rfl ?_ | refine W.condK ?_ | refine W.block ?_ | refine W.skip ?_ | refine W.ret ?_ | refine W.exit ?_); try simp (maxSteps := 1000000) (disch := (first | omega | (simp only [World.size_alloc, size_wr, size_drew] <;> omega) | exact not_noB _)) only [go_sem, ↓reduceIte, n0, reduceCtorEq, n1, n2, n3, n4, n5, i0, i1, i2, i3, i4, i5, i6, i7, ew])
  generalize ((w.alloc (.cells #[.int .i64 t.n, .slice bS t.s.length cS, .bool t.null, .slice bL t.l.length cL, .slice bU t.u.length cU] 39)).alloc (.cells #[.int .i16 0, .int .i32 0, .int .i32 0, .bool false, .int .i64 0, .bool false, .slice none 0 0, .map none] 110)) = w1 at *
  refine (SetVersionStopReplicaRequest_fn w1 (vb := w.heap.size + 1) ver hb1).mono ?_
  rintro _ w2 ⟨hb2, hU2⟩
  have hz2 := hU2.size
  have hE2 : Ext w w2 := hE1.more hU2 fun b hb h => by omega
  have htb2 := hU2.blk_some htb1 (by omega)
  repeat ((first | refine W.seqR rfl ?_ | refine W.seq ?_ | refine W.regR rfl ?_ | refine W.condK ?_ | refine W.block ?_ | refine W.skip ?_ | refine W.ret ?_ | refine W.exit ?_); try simp (maxSteps := 1000000) (disch := (first | omega | (simp only [World.size_alloc, size_wr, size_drew] <;> omega) | exact not_noB _)) only [go_sem, ↓reduceIte, n0, reduceCtorEq, n1, n2, n3, n4, n5, i0, i1, i2, i3, i4, i5, i6, i7, htb2, cellsAt_five])
  refine (fillStopReplicaRequest_fn (d := 1) (okT := fun b => b < w.heap.size) (V := ver) (ver := ver) t _ w2 (vb := w.heap.size + 1) hb2 (ht.keep (hE2.keeps _)) (fun b hb => by omega) hfit hLs).mono ?_
  rintro _ w3 ⟨cells, hb3, hR3, hU3⟩
  have hz3 := hU3.size
  have hE3 : Ext w w3 := hE2.more hU3 fun b hb h => by omega
  repeat ((first | refine W.seqR rfl ?_ | refine W.seq ?_ | refine W.regR rfl ?_ | refine W.condK ?_ | refine W.block ?_ | refine W.skip ?_ | refine W.ret ?_ | refine W.exit ?_); try simp (maxSteps := 1000000) (disch := (first | omega | (simp only [World.size_alloc, size_wr, size_drew] <;> omega) | exact not_noB _)) only [go_sem, ↓reduceIte, n0, reduceCtorEq, n1, n2, n3, n4, n5, i0, i1, i2, i3, i4, i5, i6, i7])
  have hcl : (0 ≤ (ver : Int) ∧ (ver : Int) ≤ 0) ∨ (1 ≤ (ver : Int) ∧ (ver : Int) ≤ 1) ∨ (2 ≤ (ver : Int) ∧ (ver : Int) ≤ 2) ∨ (3 ≤ (ver : Int) ∧ (ver : Int) ≤ 3) ∨ (4 ≤ (ver : Int) ∧ (ver : Int) ≤ 4) := by omega
  rcases hcl with ⟨h1, h2⟩ | ⟨h1, h2⟩ | ⟨h1, h2⟩ | ⟨h1, h2⟩ | ⟨h1, h2⟩
  · have hfl : flexB 2 ver = false := by simp only [flexB, Bool.and_eq_false_iff, decide_eq_false_iff_not]; omega
    rw [hfl] at hlen ⊢
    refine (appStopReplicaRequest_0 (d := 1) (B := w3.heap.size) (okM := okN (fun b => b < w.heap.size) w2.heap.size) h1 h2 t cells (.slice none 0 0) [] w3 (Own.nil _ _ _ _) (Nat.le_refl _) hb3 hR3 hfit (by rintro b _ _ ⟨a, n, c, h, _⟩; cases h) (by rintro ⟨a, n, c, h, _⟩; cases h) (by simpa using hlen)).mono ?_
    rintro r4 w4 h4
    repeat ((first | refine W.seqR rfl ?_ | refine W.seq ?_ | refine W.regR rfl ?_ | refine W.condK ?_ | refine W.block ?_ | refine W.skip ?_ | refine W.ret ?_ | refine W.exit ?_); try simp (maxSteps := 1000000) (disch := (first | omega | (simp only [World.size_alloc, size_wr, size_drew] <;> omega) | exact not_noB _)) only [go_sem, ↓reduceIte, n0, reduceCtorEq, n1, n2, n3, n4, n5, i0, i1, i2, i3, i4, i5, i6, i7])
    refine ⟨?_, hE3.more h4.upd fun b hb h => by obtain ⟨a, n, c, h, _⟩ := h; cases h⟩
    have := h4.own
    rw [List.nil_append] at this
    exact Own.mono this (by omega)
  · have hfl : flexB 2 ver = false := by simp only [flexB, Bool.and_eq_false_iff, decide_eq_false_iff_not]; omega
    rw [hfl] at hlen ⊢
    refine (appStopReplicaRequest_1 (d := 1) (B := w3.heap.size) (okM := okN (fun b => b < w.heap.size) w2.heap.size) h1 h2 t cells (.slice none 0 0) [] w3 (Own.nil _ _ _ _) (Nat.le_refl _) hb3 hR3 hfit (by rintro b _ _ ⟨a, n, c, h, _⟩; cases h) (by rintro ⟨a, n, c, h, _⟩; cases h) (by simpa using hlen)).mono ?_
    rintro r4 w4 h4
    repeat ((first | refine W.seqR rfl ?_ | refine W.seq ?_ | refine W.regR rfl ?_ | refine W.condK ?_ | refine W.block ?_ | refine W.skip ?_ | refine W.ret ?_ | refine W.exit ?_); try simp (maxSteps := 1000000) (disch := (first | omega | (simp only [World.size_alloc, size_wr, size_drew] <;> omega) | exact not_noB _)) only [go_sem, ↓reduceIte, n0, reduceCtorEq, n1, n2, n3, n4, n5, i0, i1, i2, i3, i4, i5, i6, i7])
    refine ⟨?_, hE3.more h4.upd fun b hb h => by obtain ⟨a, n, c, h, _⟩ := h; cases h⟩
    have := h4.own
    rw [List.nil_append] at this
    exact Own.mono this (by omega)
  · have hfl : flexB 2 ver = true := by simp only [flexB, Bool.and_eq_true, decide_eq_true_eq]; omega
    rw [hfl] at hlen ⊢
    refine (appStopReplicaRequest_2 (d := 1) (B := w3.heap.size) (okM := okN (fun b => b < w.heap.size) w2.heap.size) h1 h2 t cells (.slice none 0 0) [] w3 (Own.nil _ _ _ _) (Nat.le_refl _) hb3 hR3 hfit (by rintro b _ _ ⟨a, n, c, h, _⟩; cases h) (by rintro ⟨a, n, c, h, _⟩; cases h) (by simpa using hlen)).mono ?_
    rintro r4 w4 h4
    repeat ((first | refine W.seqR rfl ?_ | refine W.seq ?_ | refine W.regR rfl ?_ | refine W.condK ?_ | refine W.block ?_ | refine W.skip ?_ | refine W.ret ?_ | refine W.exit ?_); try simp (maxSteps := 1000000) (disch := (first | omega | (simp only [World.size_alloc, size_wr, size_drew] <;> omega) | exact not_noB _)) only [go_sem, ↓reduceIte, n0, reduceCtorEq, n1, n2, n3, n4, n5, i0, i1, i2, i3, i4, i5, i6, i7])
    refine ⟨?_, hE3.more h4.upd fun b hb h => by obtain ⟨a, n, c, h, _⟩ := h; cases h⟩
    have := h4.own
    rw [List.nil_append] at this
    exact Own.mono this (by omega)
  · have hfl : flexB 2 ver = true := by simp only [flexB, Bool.and_eq_true, decide_eq_true_eq]; omega
    rw [hfl] at hlen ⊢
    refine (appStopReplicaRequest_3 (d := 1) (B := w3.heap.size) (okM := okN (fun b => b < w.heap.size) w2.heap.size) h1 h2 t cells (.slice none 0 0) [] w3 (Own.nil _ _ _ _) (Nat.le_refl _) hb3 hR3 hfit (by rintro b _ _ ⟨a, n, c, h, _⟩; cases h) (by rintro ⟨a, n, c, h, _⟩; cases h) (by simpa using hlen)).mono ?_
    rintro r4 w4 h4
    repeat ((first | refine W.seqR rfl ?_ | refine W.seq ?_ | refine W.regR rfl ?_ | refine W.condK ?_ | refine W.block ?_ | refine W.skip ?_ | refine W.ret ?_ | refine W.exit ?_); try simp (maxSteps := 1000000) (disch := (first | omega | (simp only [World.size_alloc, size_wr, size_drew] <;> omega) | exact not_noB _)) only [go_sem, ↓reduceIte, n0, reduceCtorEq, n1, n2, n3, n4, n5, i0, i1, i2, i3, i4, i5, i6, i7])
    refine ⟨?_, hE3.more h4.upd fun b hb h => by obtain ⟨a, n, c, h, _⟩ := h; cases h⟩
    have := h4.own
    rw [List.nil_append] at this
    exact Own.mono this (by omega)
  · have hfl : flexB 2 ver = true := by simp only [flexB, Bool.and_eq_true, decide_eq_true_eq]; omega
    rw [hfl] at hlen ⊢
    refine (appStopReplicaRequest_4 (d := 1) (B := w3.heap.size) (okM := okN (fun b => b < w.heap.size) w2.heap.size) h1 h2 t cells (.slice none 0 0) [] w3 (Own.nil _ _ _ _) (Nat.le_refl _) hb3 hR3 hfit (by rintro b _ _ ⟨a, n, c, h, _⟩; cases h) (by rintro ⟨a, n, c, h, _⟩; cases h) (by simpa using hlen)).mono ?_
    rintro r4 w4 h4
    repeat ((first | refine W.seqR rfl ?_ | refine W.seq ?_ | refine W.regR rfl ?_ | refine W.condK ?_ | refine W.block ?_ | refine W.skip ?_ | refine W.ret ?_ | refine W.exit ?_); try simp (maxSteps := 1000000) (disch := (first | omega | (simp only [World.size_alloc, size_wr, size_drew] <;> omega) | exact not_noB _)) only [go_sem, ↓reduceIte, n0, reduceCtorEq, n1, n2, n3, n4, n5, i0, i1, i2, i3, i4, i5, i6, i7])
    refine ⟨?_, hE3.more h4.upd fun b hb h => by obtain ⟨a, n, c, h, _⟩ := h; cases h⟩
    have := h4.own
    rw [List.nil_append] at this
    exact Own.mono this (by omega)

set_option maxHeartbeats 1000000 in
theorem law_StopReplicaRequest {ok : Blocks} (n : Nat) (hn : n < 256) (t : Tree) (ct : List Value) (w : World) (ht : TreeC ok w t ct) (hsm : Small 4611686018427387903 t) {N : Nat} (hN : N ≤ 1048576) (hsz : Sized N t) :
    Fn Try.prog 10 #[.int .u8 n, .agg ct.toArray] w fun r w' => r = .bool true ∧ Ext w w' := by
  obtain ⟨vS, vL, vU, rfl, hn', hS, hL, hU⟩ := ht.inv
  have f1 := hS.flat
  have f2 := SlR.flat hL
  have f3 := SlR.flat hU
  have hE : Ext w (w.alloc (.cells #[.int .i64 t.n, vS, .bool t.null, vL, vU] 26)) := Upd.alloc (Upd.refl _ _) _
  refine fn_of_W Try.func10 rfl Try.results10 Try.ntmps10 rfl ?_
  repeat ((first | refine W.seqR rfl ?_ | refine W.seq ?_ | refine W.regR rfl ?_ | refine W.condK ?_ | refine W.block ?_ | refine W.skip ?_ | refine W.ret ?_ | refine W.exit ?_); try simp (maxSteps := 1000000) (disch := (first | omega | (simp only [World.size_alloc, size_wr, size_drew] <;> omega) | exact not_noB _)) only [go_sem, ↓reduceIte, n0, reduceCtorEq, n1, n2, n3, n4, n5, i0, i1, i2, i3, i4, i5, i6, i7, f1, f2, f3, cellsAt_five])
  have hb : blk (w.alloc (.cells #[.int .i64 t.n, vS, .bool t.null, vL, vU] 26)) w.heap.size = some (#[.int .i64 t.n, vS, .bool t.null, vL, vU], 26, (0, 0)) := blk_alloc_new rfl
  generalize (w.alloc (.cells #[.int .i64 t.n, vS, .bool t.null, vL, vU] 26)) = w1 at *
  refine (zzFits1_fn (ok := ok) t _ w1 (ht.keep (hE.keeps _)) hsm).mono ?_
  rintro r2 w2 ⟨⟨bb, rfl⟩, hE2⟩
  cases bb with
  | false =>
    simp (maxSteps := 1000000) (disch := (first | omega | (simp only [World.size_alloc, size_wr, size_drew] <;> omega) | exact not_noB _)) only [go_sem, ↓reduceIte, n0, reduceCtorEq, n1, n2, n3, n4, n5, i0, i1, i2, i3, i4, i5, i6, i7]
    repeat ((first | refine W.seqR rfl ?_ | refine W.seq ?_ | refine W.regR rfl ?_ | refine W.condK ?_ | refine W.block ?_ | refine W.skip ?_ | refine W.ret ?_ | refine W.exit ?_); try simp (maxSteps := 1000000) (disch := (first | omega | (simp only [World.size_alloc, size_wr, size_drew] <;> omega) | exact not_noB _)) only [go_sem, ↓reduceIte, n0, reduceCtorEq, n1, n2, n3, n4, n5, i0, i1, i2, i3, i4, i5, i6, i7])
    exact hE.trans hE2
  | true =>
    simp (maxSteps := 1000000) (disch := (first | omega | (simp only [World.size_alloc, size_wr, size_drew] <;> omega) | exact not_noB _)) only [go_sem, ↓reduceIte, n0, reduceCtorEq, n1, n2, n3, n4, n5, i0, i1, i2, i3, i4, i5, i6, i7]
    repeat ((first | refine W.seqR rfl ?_ | refine W.seq ?_ | refine W.regR rfl ?_ | refine W.condK ?_ | refine W.block ?_ | refine W.skip ?_ | refine W.ret ?_ | refine W.exit ?_); try simp (maxSteps := 1000000) (disch := (first | omega | (simp only [World.size_alloc, size_wr, size_drew] <;> omega) | exact not_noB _)) only [go_sem, ↓reduceIte, n0, reduceCtorEq, n1, n2, n3, n4, n5, i0, i1, i2, i3, i4, i5, i6, i7])
    refine (MaxStopReplicaRequest_fn w2).mono ?_
    rintro _ w2m ⟨rfl, hE2m⟩
    repeat ((first | refine W.seqR rfl ?_ | refine W.seq ?_ | refine W.regR rfl ?_ | refine W.condK ?_ | refine W.block ?_ | refine W.skip ?_ | refine W.ret ?_ | refine W.exit ?_); try simp (maxSteps := 1000000) (disch := (first | omega | (simp only [World.size_alloc, size_wr, size_drew] <;> omega) | exact not_noB _)) only [go_sem, ↓reduceIte, n0, reduceCtorEq, n1, n2, n3, n4, n5, i0, i1, i2, i3, i4, i5, i6, i7])
    refine (cStopReplicaRequest_fn w2m).mono ?_
    rintro r3 w3 ⟨⟨vs, rfl, hF0⟩, hE3⟩
    have hF : FldsV AnyB w3 vs fs_StopReplicaRequest := hF0.weaken fun _ _ _ => trivial
    have fF := SlR.flat hF
    simp (maxSteps := 1000000) (disch := (first | omega | (simp only [World.size_alloc, size_wr, size_drew] <;> omega) | exact not_noB _)) only [go_sem, ↓reduceIte, n0, reduceCtorEq, n1, n2, n3, n4, n5, i0, i1, i2, i3, i4, i5, i6, i7]
    refine (version_fn w3 n 4 hn (by decide)).mono ?_
    rintro _ w3v ⟨rfl, rfl⟩
    have hE03 : Ext w w3v := ((hE.trans hE2).trans hE2m).trans hE3
    have hb3 := hE3.blk_some (hE2m.blk_some (hE2.blk_some hb id) id) id
    have hE4 : Ext w3v (wr (w3v.alloc (.cells #[.slice none 0 0, .int .i64 0] 31)) w3v.heap.size 0 [vs, .int .i64 2]) := (Upd.alloc (Upd.refl _ _) _).wr _ _ (.inl (Nat.le_refl _))
    have hb4 : blk (wr (w3v.alloc (.cells #[.slice none 0 0, .int .i64 0] 31)) w3v.heap.size 0 [vs, .int .i64 2]) w3v.heap.size = some (#[vs, .int .i64 2], 31, (0, 0)) := by simp (maxSteps := 1000000) (disch := (first | omega | (simp only [World.size_alloc, size_wr, size_drew] <;> omega) | exact not_noB _)) only [go_sem, ↓reduceIte, n0, reduceCtorEq, n1, n2, n3, n4, n5, i0, i1, i2, i3, i4, i5, i6, i7]
    simp (maxSteps := 1000000) (disch := (first | omega | (simp only [World.size_alloc, size_wr, size_drew] <;> omega) | exact not_noB _)) only [go_sem, ↓reduceIte, n0, reduceCtorEq, n1, n2, n3, n4, n5, i0, i1, i2, i3, i4, i5, i6, i7, fF]
    generalize (wr (w3v.alloc (.cells #[.slice none 0 0, .int .i64 0] 31)) w3v.heap.size 0 [vs, .int .i64 2]) = w4 at *
    have hb34 := hE4.blk_some hb3 id
    have hv3 : n % 5 < 5 := Nat.mod_lt _ (by omega)
    generalize n % 5 = ver at *
    have hs1 := blk_lt hb4
    have hs2 := blk_lt hb34
    repeat ((first | refine W.seqR rfl ?_ | refine W.seq ?_ | refine W.regR rfl ?_ | refine W.condK ?_ | refine W.block ?_ | refine W.skip ?_ | refine W.ret ?_ | refine W.exit ?_); try simp (maxSteps := 1000000) (disch := (first | omega | (simp only [World.size_alloc, size_wr, size_drew] <;> omega) | exact not_noB _)) only [go_sem, ↓reduceIte, n0, reduceCtorEq, n1, n2, n3, n4, n5, i0, i1, i2, i3, i4, i5, i6, i7])
    refine W.drawR (.take 0 (.take 1 (.take 2 (.take 3 (.take 4 (.take 8 (.take 9 (.take 10 (.only 5 (.only 6 (.only 7 (.only 11 (.only 12 (.only 13 .done)))))))))))))) NoB mixed (by kernel_rfl) ?_
    simp (maxSteps := 1000000) (disch := (first | omega | (simp only [World.size_alloc, size_wr, size_drew] <;> omega) | exact not_noB _)) only [go_sem, ↓reduceIte, n0, reduceCtorEq, n1, n2, n3, n4, n5, i0, i1, i2, i3, i4, i5, i6, i7, hb34, hb4, cellsAt_five, cellsAt_two]
    have hE04d : Ext w w4.drew := (hE03.trans hE4).drew
    have hE3d : Ext w3v w4.drew := hE4.drew
    have hokF : okF 3 fs_StopReplicaRequest = true := by decide
    have hokM : okM 3 fs_StopReplicaRequest = true := by decide
    refine (fit_ok 3 AnyB fs_StopReplicaRequest ver t vs _ w4.drew (hF.keep (hE3d.keeps _)) hokF ((ht.weaken fun _ _ _ => trivial).keep (hE04d.keeps _)) hsm).mono ?_
    rintro r5 w5 ⟨⟨c5, rfl, hc5⟩, hE5⟩
    refine ⟨hE5, ?_⟩
    have hLs := fitS_lists 3 fs_StopReplicaRequest ver t (by decide) hokF
    refine (given_fn hLs _ c5 w5 hc5).mono ?_
    rintro r6 w6 ⟨⟨c6, rfl, hc6⟩, hE6⟩
    have hE56 : Ext w4.drew w6 := hE5.trans hE6
    refine ⟨hE56, ?_⟩
    have hpl : (partS 4 fs_StopReplicaRequest ver (flexB 2 ver) t).length ≤ 2 ^ 40 := Nat.le_trans (partS_bound ver _ 3 fs_StopReplicaRequest N t hokM hsz) (Nat.le_trans (Nat.mul_le_mul_left _ (Nat.succ_le_succ hN)) (by decide))
    have hpf : partS 4 fs_StopReplicaRequest ver (flexB 2 ver) (fitS 4 fs_StopReplicaRequest ver t) = partS 4 fs_StopReplicaRequest ver (flexB 2 ver) t := partS_fit ver (flexB 2 ver) 3 fs_StopReplicaRequest t hokM
    refine (MakeStopReplicaRequest_fn (fitS 4 fs_StopReplicaRequest ver t) c6 w6 ver (by omega) hc6 (fitS_fit ver 3 fs_StopReplicaRequest t hokM) hLs (by rw [hpf]; omega)).mono ?_
    rintro r7 w7 ⟨ho7, hE7⟩
    rw [hpf] at ho7
    have hE57 : Ext w4.drew w7 := hE56.trans hE7
    refine ⟨hE57, ?_⟩
    have hE07 : Ext w w7 := hE04d.trans hE57
    refine (Write_fn (ok := AnyB) (d := 3) fs_StopReplicaRequest 2 ver t vs _ w7 (hF.keep (Ext.keeps (hE3d.trans hE57) _)) hokF ((ht.weaken fun _ _ _ => trivial).keep (Ext.keeps hE07 _)) hsm hpl).mono ?_
    rintro r8 w8 ⟨ho8, hE8⟩
    have hE58 : Ext w4.drew w8 := hE57.trans hE8
    refine ⟨hE58, ?_⟩
    refine (Same_fn (ok := AnyB) _ _ r7 r8 w8 ((Own.bytes ho7 fun _ _ => trivial).keep (hE8.keeps _)) (Own.bytes ho8 fun _ _ => trivial) (by omega)).mono ?_
    rintro r9 w9 ⟨rfl, hE9⟩
    have hE59 : Ext w4.drew w9 := hE58.trans hE9
    refine ⟨hE59, hE59, ?_⟩
    repeat ((first | refine W.seqR rfl ?_ | refine W.seq ?_ | refine W.regR rfl ?_ | refine W.condK ?_ | refine W.block ?_ | refine W.skip ?_ | refine W.ret ?_ | refine W.exit ?_); try simp (maxSteps := 1000000) (disch := (first | omega | (simp only [World.size_alloc, size_wr, size_drew] <;> omega) | exact not_noB _)) only [go_sem, ↓reduceIte, n0, reduceCtorEq, n1, n2, n3, n4, n5, i0, i1, i2, i3, i4, i5, i6, i7])
    exact hE04d.trans hE59
end Ms

