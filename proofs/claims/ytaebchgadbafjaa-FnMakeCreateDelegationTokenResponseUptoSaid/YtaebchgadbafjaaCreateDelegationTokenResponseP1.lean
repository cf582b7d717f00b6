/- A part of the proof: see the last text. -/
import Derived.Test.YtaebchgadbafjaaC02
import Derived.Test.YtaebchgadbafjaaC08
import Derived.Test.YtaebchgadbafjaaCreateDelegationTokenResponseP0
set_option linter.unusedSimpArgs false
set_option linter.unusedVariables false
namespace Ms
open Nat renaming reduceEqDiff → n0, reduceAdd → n1, reduceMul → n2, reduceSub → n3, reduceLT → n4, reduceLeDiff → n5
open Int renaming reduceEq → i0, reduceLT → i1, reduceLE → i2, reduceNeg → i3, reduceAdd → i4, reduceSub → i5, reduceMul → i6, reduceToNat → i7
set_option maxRecDepth 8000
open Go Go.Proofs Go.Shelf
attribute [local congr] W_congr WPsq_congr WPp_congr optK_congr addrK_congr intK_congr boolK_congr sliceK_congr tupleK_congr funcK_congr Fn_congr rawK_congr takeK_congr stepK_congr convK_congr aggK_congr

set_option maxHeartbeats 4000000 in
theorem appCreateDelegationTokenResponse_2 {d B : Nat} {okM : Blocks} {ver : Int} (hlo : 3 ≤ ver) (hhi : ver ≤ 3) (t : Tree) (cells : List Value) (v : Value) (s : List UInt8) (w : World) {vb : Nat} (ho : OwnBy 5 B w v s) (hB : B ≤ w.heap.size) (hvb : blk w vb = some ((.int .i16 ver :: cells).toArray, 92, (0, 0)))
    (hR : RepS true (d + 1) fs_CreateDelegationTokenResponse okM w t cells) (hfit : FitP ver (d + 1) fs_CreateDelegationTokenResponse t) (hd : ∀ b, b < w.heap.size → okM b → ¬ ownB v b) (hdv : ¬ ownB v vb) (hlen : s.length + (partS (d + 1) fs_CreateDelegationTokenResponse ver true t).length ≤ 2 ^ 41) :
    Fn Try.prog 82 #[.pointer (some ⟨vb, 0, none⟩), v] w fun r w' => AppR 5 B w v s (partS (d + 1) fs_CreateDelegationTokenResponse ver true t) r w' := by
  obtain ⟨⟨g_0, g_1, g_2, g_3, g_4, g_5, g_6, g_7, g_8, g_9, g_10, -⟩, hfu⟩ := hfit
  replace g_0 : FitF (FitP ver d) ver fCreateDelegationTokenResponse_0 (t.at 0) := g_0
  replace g_1 : FitF (FitP ver d) ver fCreateDelegationTokenResponse_1 (t.at 1) := g_1
  replace g_2 : FitF (FitP ver d) ver fCreateDelegationTokenResponse_2 (t.at 2) := g_2
  replace g_3 : FitF (FitP ver d) ver fCreateDelegationTokenResponse_3 (t.at 3) := g_3
  replace g_4 : FitF (FitP ver d) ver fCreateDelegationTokenResponse_4 (t.at 4) := g_4
  replace g_5 : FitF (FitP ver d) ver fCreateDelegationTokenResponse_5 (t.at 5) := g_5
  replace g_6 : FitF (FitP ver d) ver fCreateDelegationTokenResponse_6 (t.at 6) := g_6
  replace g_7 : FitF (FitP ver d) ver fCreateDelegationTokenResponse_7 (t.at 7) := g_7
  replace g_8 : FitF (FitP ver d) ver fCreateDelegationTokenResponse_8 (t.at 8) := g_8
  replace g_9 : FitF (FitP ver d) ver fCreateDelegationTokenResponse_9 (t.at 9) := g_9
  replace g_10 : FitF (FitP ver d) ver fCreateDelegationTokenResponse_10 (t.at 10) := g_10
  obtain ⟨cs, q, hcs, hL, hT⟩ := hR.inv
  obtain ⟨c_0, e_0, rfl, h_0, c_1, e_1, rfl, h_1, c_2, e_2, rfl, h_2, c_3, e_3, rfl, h_3, c_4, e_4, rfl, h_4, c_5, e_5, rfl, h_5, c_6, e_6, rfl, h_6, c_7, e_7, rfl, h_7, c_8, e_8, rfl, h_8, c_9, e_9, rfl, h_9, c_10, e_10, rfl, h_10, rfl⟩ := hL
  replace h_0 : RepF (RepS true d) (szS true d) fCreateDelegationTokenResponse_0 okM w (t.at 0) c_0 := h_0
  replace h_1 : RepF (RepS true d) (szS true d) fCreateDelegationTokenResponse_1 okM w (t.at 1) c_1 := h_1
  replace h_2 : RepF (RepS true d) (szS true d) fCreateDelegationTokenResponse_2 okM w (t.at 2) c_2 := h_2
  replace h_3 : RepF (RepS true d) (szS true d) fCreateDelegationTokenResponse_3 okM w (t.at 3) c_3 := h_3
  replace h_4 : RepF (RepS true d) (szS true d) fCreateDelegationTokenResponse_4 okM w (t.at 4) c_4 := h_4
  replace h_5 : RepF (RepS true d) (szS true d) fCreateDelegationTokenResponse_5 okM w (t.at 5) c_5 := h_5
  replace h_6 : RepF (RepS true d) (szS true d) fCreateDelegationTokenResponse_6 okM w (t.at 6) c_6 := h_6
  replace h_7 : RepF (RepS true d) (szS true d) fCreateDelegationTokenResponse_7 okM w (t.at 7) c_7 := h_7
  replace h_8 : RepF (RepS true d) (szS true d) fCreateDelegationTokenResponse_8 okM w (t.at 8) c_8 := h_8
  replace h_9 : RepF (RepS true d) (szS true d) fCreateDelegationTokenResponse_9 okM w (t.at 9) c_9 := h_9
  replace h_10 : RepF (RepS true d) (szS true d) fCreateDelegationTokenResponse_10 okM w (t.at 10) c_10 := h_10
  obtain rfl := (RepF_num (by decide)).1 h_0
  obtain rfl := (RepF_text rfl (by decide)).1 h_1
  obtain rfl := (RepF_text rfl (by decide)).1 h_2
  obtain rfl := (RepF_text rfl (by decide)).1 h_3
  obtain rfl := (RepF_text rfl (by decide)).1 h_4
  obtain rfl := (RepF_num (by decide)).1 h_5
  obtain rfl := (RepF_num (by decide)).1 h_6
  obtain rfl := (RepF_num (by decide)).1 h_7
  obtain rfl := (RepF_text rfl (by decide)).1 h_8
  have hn_9 := g_9.notnull (by decide)
  obtain ⟨p_9, rfl, hp_9⟩ := (RepF_bytes rfl).1 h_9
  rw [hn_9] at hp_9
  replace hp_9 := hp_9.some
  obtain rfl := (RepF_num (by decide)).1 h_10
  obtain ⟨qm, rfl⟩ := hT.shape
  have hv : blk w vb = some (#[.int .i16 ver, .int .i16 (IntKind.i16.wrap (t.at 0).n), strV (t.at 1).s, strV (t.at 2).s, strV (t.at 3).s, strV (t.at 4).s, .int .i64 (t.at 5).n, .int .i64 (t.at 6).n, .int .i64 (t.at 7).n, strV (t.at 8).s, p_9, .int .i32 (IntKind.i32.wrap (t.at 10).n), .map qm], 92, (0, 0)) := by rw [hvb, hcs]; rfl
  clear hvb hcs
  have hh_0 : hasS fCreateDelegationTokenResponse_0 ver = true := hasS_t (by show (0 : Int) ≤ ver; omega) (by show (-1 : Int) < 0 ∨ ver ≤ (-1 : Int); omega)
  obtain ⟨X_0, hXX_0⟩ : ∃ X, X = fixedS (t.at 0).n 2 := ⟨_, rfl⟩
  have hh_1 : hasS fCreateDelegationTokenResponse_1 ver = true := hasS_t (by show (0 : Int) ≤ ver; omega) (by show (-1 : Int) < 0 ∨ ver ≤ (-1 : Int); omega)
  obtain ⟨X_1, hXX_1⟩ : ∃ X, X = uvarS ((t.at 1).s.length + 1) ++ (t.at 1).s := ⟨_, rfl⟩
  have hh_2 : hasS fCreateDelegationTokenResponse_2 ver = true := hasS_t (by show (0 : Int) ≤ ver; omega) (by show (-1 : Int) < 0 ∨ ver ≤ (-1 : Int); omega)
  obtain ⟨X_2, hXX_2⟩ : ∃ X, X = uvarS ((t.at 2).s.length + 1) ++ (t.at 2).s := ⟨_, rfl⟩
  have hh_3 : hasS fCreateDelegationTokenResponse_3 ver = true := hasS_t (by show (3 : Int) ≤ ver; omega) (by show (-1 : Int) < 0 ∨ ver ≤ (-1 : Int); omega)
  obtain ⟨X_3, hXX_3⟩ : ∃ X, X = uvarS ((t.at 3).s.length + 1) ++ (t.at 3).s := ⟨_, rfl⟩
  have hh_4 : hasS fCreateDelegationTokenResponse_4 ver = true := hasS_t (by show (3 : Int) ≤ ver; omega) (by show (-1 : Int) < 0 ∨ ver ≤ (-1 : Int); omega)
  obtain ⟨X_4, hXX_4⟩ : ∃ X, X = uvarS ((t.at 4).s.length + 1) ++ (t.at 4).s := ⟨_, rfl⟩
  have hh_5 : hasS fCreateDelegationTokenResponse_5 ver = true := hasS_t (by show (0 : Int) ≤ ver; omega) (by show (-1 : Int) < 0 ∨ ver ≤ (-1 : Int); omega)
  obtain ⟨X_5, hXX_5⟩ : ∃ X, X = fixedS (t.at 5).n 8 := ⟨_, rfl⟩
  have hh_6 : hasS fCreateDelegationTokenResponse_6 ver = true := hasS_t (by show (0 : Int) ≤ ver; omega) (by show (-1 : Int) < 0 ∨ ver ≤ (-1 : Int); omega)
  obtain ⟨X_6, hXX_6⟩ : ∃ X, X = fixedS (t.at 6).n 8 := ⟨_, rfl⟩
  have hh_7 : hasS fCreateDelegationTokenResponse_7 ver = true := hasS_t (by show (0 : Int) ≤ ver; omega) (by show (-1 : Int) < 0 ∨ ver ≤ (-1 : Int); omega)
  obtain ⟨X_7, hXX_7⟩ : ∃ X, X = fixedS (t.at 7).n 8 := ⟨_, rfl⟩
  have hh_8 : hasS fCreateDelegationTokenResponse_8 ver = true := hasS_t (by show (0 : Int) ≤ ver; omega) (by show (-1 : Int) < 0 ∨ ver ≤ (-1 : Int); omega)
  obtain ⟨X_8, hXX_8⟩ : ∃ X, X = uvarS ((t.at 8).s.length + 1) ++ (t.at 8).s := ⟨_, rfl⟩
  have hh_9 : hasS fCreateDelegationTokenResponse_9 ver = true := hasS_t (by show (0 : Int) ≤ ver; omega) (by show (-1 : Int) < 0 ∨ ver ≤ (-1 : Int); omega)
  obtain ⟨X_9, hXX_9⟩ : ∃ X, X = uvarS ((t.at 9).s.length + 1) ++ (t.at 9).s := ⟨_, rfl⟩
  have hh_10 : hasS fCreateDelegationTokenResponse_10 ver = true := hasS_t (by show (0 : Int) ≤ ver; omega) (by show (-1 : Int) < 0 ∨ ver ≤ (-1 : Int); omega)
  obtain ⟨X_10, hXX_10⟩ : ∃ X, X = fixedS (t.at 10).n 4 := ⟨_, rfl⟩
  obtain ⟨XU, hXU⟩ : ∃ X, X = uvarS t.u.length := ⟨_, rfl⟩
  obtain ⟨XT, hXT⟩ : ∃ X, X = t.u.flatMap oneTag := ⟨_, rfl⟩
  have hP : partS (d + 1) fs_CreateDelegationTokenResponse ver true t = (X_0 ++ (X_1 ++ (X_2 ++ (X_3 ++ (X_4 ++ (X_5 ++ (X_6 ++ (X_7 ++ (X_8 ++ (X_9 ++ (X_10 ++ []))))))))))) ++ (XU ++ XT) := by rw [hXU, hXT]; exact partS_yes rfl hfu (plainL_has (by decide) hh_0 ((fieldS_num 2 rfl (by decide)).trans hXX_0.symm) (plainL_has (by decide) hh_1 ((fieldS_text_t g_1 rfl (by decide)).trans hXX_1.symm) (plainL_has (by decide) hh_2 ((fieldS_text_t g_2 rfl (by decide)).trans hXX_2.symm) (plainL_has (by decide) hh_3 ((fieldS_text_t g_3 rfl (by decide)).trans hXX_3.symm) (plainL_has (by decide) hh_4 ((fieldS_text_t g_4 rfl (by decide)).trans hXX_4.symm) (plainL_has (by decide) hh_5 ((fieldS_num 4 rfl (by decide)).trans hXX_5.symm) (plainL_has (by decide) hh_6 ((fieldS_num 4 rfl (by decide)).trans hXX_6.symm) (plainL_has (by decide) hh_7 ((fieldS_num 4 rfl (by decide)).trans hXX_7.symm) (plainL_has (by decide) hh_8 ((fieldS_text_t g_8 rfl (by decide)).trans hXX_8.symm) (plainL_has (by decide) hh_9 ((fieldS_bytes_t g_9 rfl (by decide)).trans hXX_9.symm) (plainL_has (by decide) hh_10 ((fieldS_num 3 rfl (by decide)).trans hXX_10.symm) rfl)))))))))))
  rw [hP] at hlen
  simp only [List.length_append, List.length_nil] at hlen
  have hdK : ∀ {r : Value} {w' : World} {add : List UInt8}, AppR 5 B w v s add r w' → ∀ b, b < w'.heap.size → OkS okM w.heap.size b → ¬ ownB r b := fun h b _ hk ho => (h.frame b ho).elim (hd b hk.2 hk.1) (fun h => by have := hk.2; omega)
  have ownK : ∀ {r : Value} {w' : World} {add : List UInt8} {b : Nat}, AppR 5 B w v s add r w' → b < w.heap.size → ¬ ownB v b → ¬ ownB r b := fun h hb hn ho => (h.frame _ ho).elim hn (fun h => by omega)
  have ha0 : AppR 5 B w v s [] v w := AppR.refl ho
  obtain ⟨w0, hw0⟩ : ∃ w0, w0 = w := ⟨_, rfl⟩
  have hB0 := hB
  have hv_0 := hv
  refine fn_of_W Try.func82 rfl Try.results82 Try.ntmps82 rfl ?_
  repeat ((first | refine W.seqR rfl ?_ | refine W.seq ?_ | refine W.regR rfl ?_ | refine W.condK ?_ | refine W.block ?_ | refine W.skip ?_ | refine W.ret ?_ | refine W.exit ?_); try simp (maxSteps := 1000000) (disch := (first | omega | (simp only [World.size_alloc, size_wr, size_drew] <;> omega) | exact not_noB _)) only [go_sem, ↓reduceIte, n0, reduceCtorEq, n1, n2, n3, n4, n5, i0, i1, i2, i3, i4, i5, i6, i7, hv_0])
  refine (AppendInt16_fn _ _ _ ha0.own hB0 _ (by simp only [List.length_append, List.length_nil]; omega)).mono ?_
  rintro r1 w1 hc1
  rw [wrap16, ← hXX_0] at hc1
  have ha1 := ha0.trans hc1
  have hB1 : B ≤ w1.heap.size := Nat.le_trans hB ha1.upd.size
  have hv_1 := ha1.upd.blk_some hv hdv
  repeat ((first | refine W.seqR rfl ?_ | refine W.seq ?_ | refine W.regR rfl ?_ | refine W.condK ?_ | refine W.block ?_ | refine W.skip ?_ | refine W.ret ?_ | refine W.exit ?_); try simp (maxSteps := 1000000) (disch := (first | omega | (simp only [World.size_alloc, size_wr, size_drew] <;> omega) | exact not_noB _)) only [go_sem, ↓reduceIte, n0, reduceCtorEq, n1, n2, n3, n4, n5, i0, i1, i2, i3, i4, i5, i6, i7, hv_1])
  refine (AppendCompactString_fn _ _ _ ha1.own hB1 (t.at 1).s (g_1.text (.inl rfl)) (by simp only [List.length_append, List.length_nil]; omega)).mono ?_
  rintro r2 w2 hc2
  rw [← hXX_1] at hc2
  have ha2 := ha1.trans hc2
  have hB2 : B ≤ w2.heap.size := Nat.le_trans hB ha2.upd.size
  have hv_2 := ha2.upd.blk_some hv hdv
  repeat ((first | refine W.seqR rfl ?_ | refine W.seq ?_ | refine W.regR rfl ?_ | refine W.condK ?_ | refine W.block ?_ | refine W.skip ?_ | refine W.ret ?_ | refine W.exit ?_); try simp (maxSteps := 1000000) (disch := (first | omega | (simp only [World.size_alloc, size_wr, size_drew] <;> omega) | exact not_noB _)) only [go_sem, ↓reduceIte, n0, reduceCtorEq, n1, n2, n3, n4, n5, i0, i1, i2, i3, i4, i5, i6, i7, hv_2])
  refine (AppendCompactString_fn _ _ _ ha2.own hB2 (t.at 2).s (g_2.text (.inl rfl)) (by simp only [List.length_append, List.length_nil]; omega)).mono ?_
  rintro r3 w3 hc3
  rw [← hXX_2] at hc3
  have ha3 := ha2.trans hc3
  have hB3 : B ≤ w3.heap.size := Nat.le_trans hB ha3.upd.size
  have hv_3 := ha3.upd.blk_some hv hdv
  repeat ((first | refine W.seqR rfl ?_ | refine W.seq ?_ | refine W.regR rfl ?_ | refine W.condK ?_ | refine W.block ?_ | refine W.skip ?_ | refine W.ret ?_ | refine W.exit ?_); try simp (maxSteps := 1000000) (disch := (first | omega | (simp only [World.size_alloc, size_wr, size_drew] <;> omega) | exact not_noB _)) only [go_sem, ↓reduceIte, n0, reduceCtorEq, n1, n2, n3, n4, n5, i0, i1, i2, i3, i4, i5, i6, i7, hv_3])
  refine (AppendCompactString_fn _ _ _ ha3.own hB3 (t.at 3).s (g_3.text (.inl rfl)) (by simp only [List.length_append, List.length_nil]; omega)).mono ?_
  rintro r4 w4 hc4
  rw [← hXX_3] at hc4
  have ha4 := ha3.trans hc4
  have hB4 : B ≤ w4.heap.size := Nat.le_trans hB ha4.upd.size
  have hv_4 := ha4.upd.blk_some hv hdv
  repeat ((first | refine W.seqR rfl ?_ | refine W.seq ?_ | refine W.regR rfl ?_ | refine W.condK ?_ | refine W.block ?_ | refine W.skip ?_ | refine W.ret ?_ | refine W.exit ?_); try simp (maxSteps := 1000000) (disch := (first | omega | (simp only [World.size_alloc, size_wr, size_drew] <;> omega) | exact not_noB _)) only [go_sem, ↓reduceIte, n0, reduceCtorEq, n1, n2, n3, n4, n5, i0, i1, i2, i3, i4, i5, i6, i7, hv_4])
  refine (AppendCompactString_fn _ _ _ ha4.own hB4 (t.at 4).s (g_4.text (.inl rfl)) (by simp only [List.length_append, List.length_nil]; omega)).mono ?_
  rintro r5 w5 hc5
  rw [← hXX_4] at hc5
  have ha5 := ha4.trans hc5
  have hB5 : B ≤ w5.heap.size := Nat.le_trans hB ha5.upd.size
  have hv_5 := ha5.upd.blk_some hv hdv
  repeat ((first | refine W.seqR rfl ?_ | refine W.seq ?_ | refine W.regR rfl ?_ | refine W.condK ?_ | refine W.block ?_ | refine W.skip ?_ | refine W.ret ?_ | refine W.exit ?_); try simp (maxSteps := 1000000) (disch := (first | omega | (simp only [World.size_alloc, size_wr, size_drew] <;> omega) | exact not_noB _)) only [go_sem, ↓reduceIte, n0, reduceCtorEq, n1, n2, n3, n4, n5, i0, i1, i2, i3, i4, i5, i6, i7, hv_5])
  refine (AppendInt64_fn _ _ _ ha5.own hB5 _ (by simp only [List.length_append, List.length_nil]; omega)).mono ?_
  rintro r6 w6 hc6
  rw [← hXX_5] at hc6
  have ha6 := ha5.trans hc6
  have hB6 : B ≤ w6.heap.size := Nat.le_trans hB ha6.upd.size
  have hv_6 := ha6.upd.blk_some hv hdv
  repeat ((first | refine W.seqR rfl ?_ | refine W.seq ?_ | refine W.regR rfl ?_ | refine W.condK ?_ | refine W.block ?_ | refine W.skip ?_ | refine W.ret ?_ | refine W.exit ?_); try simp (maxSteps := 1000000) (disch := (first | omega | (simp only [World.size_alloc, size_wr, size_drew] <;> omega) | exact not_noB _)) only [go_sem, ↓reduceIte, n0, reduceCtorEq, n1, n2, n3, n4, n5, i0, i1, i2, i3, i4, i5, i6, i7, hv_6])
  refine (AppendInt64_fn _ _ _ ha6.own hB6 _ (by simp only [List.length_append, List.length_nil]; omega)).mono ?_
  rintro r7 w7 hc7
  rw [← hXX_6] at hc7
  have ha7 := ha6.trans hc7
  have hB7 : B ≤ w7.heap.size := Nat.le_trans hB ha7.upd.size
  have hv_7 := ha7.upd.blk_some hv hdv
  repeat ((first | refine W.seqR rfl ?_ | refine W.seq ?_ | refine W.regR rfl ?_ | refine W.condK ?_ | refine W.block ?_ | refine W.skip ?_ | refine W.ret ?_ | refine W.exit ?_); try simp (maxSteps := 1000000) (disch := (first | omega | (simp only [World.size_alloc, size_wr, size_drew] <;> omega) | exact not_noB _)) only [go_sem, ↓reduceIte, n0, reduceCtorEq, n1, n2, n3, n4, n5, i0, i1, i2, i3, i4, i5, i6, i7, hv_7])
  refine (AppendInt64_fn _ _ _ ha7.own hB7 _ (by simp only [List.length_append, List.length_nil]; omega)).mono ?_
  rintro r8 w8 hc8
  rw [← hXX_7] at hc8
  have ha8 := ha7.trans hc8
  have hB8 : B ≤ w8.heap.size := Nat.le_trans hB ha8.upd.size
  have hv_8 := ha8.upd.blk_some hv hdv
  repeat ((first | refine W.seqR rfl ?_ | refine W.seq ?_ | refine W.regR rfl ?_ | refine W.condK ?_ | refine W.block ?_ | refine W.skip ?_ | refine W.ret ?_ | refine W.exit ?_); try simp (maxSteps := 1000000) (disch := (first | omega | (simp only [World.size_alloc, size_wr, size_drew] <;> omega) | exact not_noB _)) only [go_sem, ↓reduceIte, n0, reduceCtorEq, n1, n2, n3, n4, n5, i0, i1, i2, i3, i4, i5, i6, i7, hv_8])
  refine (AppendCompactString_fn _ _ _ ha8.own hB8 (t.at 8).s (g_8.text (.inl rfl)) (by simp only [List.length_append, List.length_nil]; omega)).mono ?_
  rintro r9 w9 hc9
  rw [← hXX_8] at hc9
  have ha9 := ha8.trans hc9
  have hB9 : B ≤ w9.heap.size := Nat.le_trans hB ha9.upd.size
  have hv_9 := ha9.upd.blk_some hv hdv
  repeat ((first | refine W.seqR rfl ?_ | refine W.seq ?_ | refine W.regR rfl ?_ | refine W.condK ?_ | refine W.block ?_ | refine W.skip ?_ | refine W.ret ?_ | refine W.exit ?_); try simp (maxSteps := 1000000) (disch := (first | omega | (simp only [World.size_alloc, size_wr, size_drew] <;> omega) | exact not_noB _)) only [go_sem, ↓reduceIte, n0, reduceCtorEq, n1, n2, n3, n4, n5, i0, i1, i2, i3, i4, i5, i6, i7, hv_9])
  refine (AppendCompactBytes_fn (ok := OkS okM w.heap.size) _ _ _ ha9.own hB9 _ (t.at 9).s ((hp_9.weaken fun b h1 h2 => ⟨h2, h1⟩).keep (ha9.upd.keeps fun b hb hk => hd b hb hk.1)) (hdK ha9) (g_9.text (.inr rfl)) (by simp only [List.length_append, List.length_nil]; omega)).mono ?_
  rintro r10 w10 hc10
  rw [← hXX_9] at hc10
  have ha10 := ha9.trans hc10
  have hB10 : B ≤ w10.heap.size := Nat.le_trans hB ha10.upd.size
  have hv_10 := ha10.upd.blk_some hv hdv
  repeat ((first | refine W.seqR rfl ?_ | refine W.seq ?_ | refine W.regR rfl ?_ | refine W.condK ?_ | refine W.block ?_ | refine W.skip ?_ | refine W.ret ?_ | refine W.exit ?_); try simp (maxSteps := 1000000) (disch := (first | omega | (simp only [World.size_alloc, size_wr, size_drew] <;> omega) | exact not_noB _)) only [go_sem, ↓reduceIte, n0, reduceCtorEq, n1, n2, n3, n4, n5, i0, i1, i2, i3, i4, i5, i6, i7, hv_10])
  refine (AppendInt32_fn _ _ _ ha10.own hB10 _ (by simp only [List.length_append, List.length_nil]; omega)).mono ?_
  rintro r11 w11 hc11
  rw [wrap32, ← hXX_10] at hc11
  have ha11 := ha10.trans hc11
  have hB11 : B ≤ w11.heap.size := Nat.le_trans hB ha11.upd.size
  have hv_11 := ha11.upd.blk_some hv hdv
  repeat ((first | refine W.seqR rfl ?_ | refine W.seq ?_ | refine W.regR rfl ?_ | refine W.condK ?_ | refine W.block ?_ | refine W.skip ?_ | refine W.ret ?_ | refine W.exit ?_); try simp (maxSteps := 1000000) (disch := (first | omega | (simp only [World.size_alloc, size_wr, size_drew] <;> omega) | exact not_noB _)) only [go_sem, ↓reduceIte, n0, reduceCtorEq, n1, n2, n3, n4, n5, i0, i1, i2, i3, i4, i5, i6, i7, hv_11])
  have hTk11 : TagsM (OkS okM w.heap.size) w11 (.map qm) t.u := (hT.weaken fun b h1 h2 => ⟨h2, h1⟩).keep (ha11.upd.keeps fun b hb hk => hd b hb hk.1)
  refine (TagsLen_fn (ok := OkS okM w.heap.size) w11 hv_11 (to := 12) (show (#[.int .i16 ver, .int .i16 (IntKind.i16.wrap (t.at 0).n), strV (t.at 1).s, strV (t.at 2).s, strV (t.at 3).s, strV (t.at 4).s, .int .i64 (t.at 5).n, .int .i64 (t.at 6).n, .int .i64 (t.at 7).n, strV (t.at 8).s, p_9, .int .i32 (IntKind.i32.wrap (t.at 10).n), .map qm] : Array Value)[12]? = some (.map qm) from rfl) hTk11).mono ?_
  rintro _ w11' ⟨rfl, rfl⟩
  have hul11 : t.u.length ≤ 32767 := hfu.1
  have ew11 : IntKind.u32.wrap (t.u.length : Int) = t.u.length := u32_wrap (by omega)
  have ez11 : IntKind.u32.wrap (0 + (t.u.length : Int)) = t.u.length := by rw [Int.zero_add, u32_wrap (by omega)]
  simp (maxSteps := 1000000) (disch := (first | omega | (simp only [World.size_alloc, size_wr, size_drew] <;> omega) | exact not_noB _)) only [go_sem, ↓reduceIte, n0, reduceCtorEq, n1, n2, n3, n4, n5, i0, i1, i2, i3, i4, i5, i6, i7, hv_11, ew11, ez11]
  refine (AppendUvarint_fn _ _ _ ha11.own hB11 t.u.length (by omega) (by simp only [List.length_append, List.length_nil]; omega)).mono ?_
  rintro r12 w12 hc12
  rw [← hXU] at hc12
  have ha12 := ha11.trans hc12
  have hB12 : B ≤ w12.heap.size := Nat.le_trans hB ha12.upd.size
  have hv_12 := ha12.upd.blk_some hv hdv
  repeat ((first | refine W.seqR rfl ?_ | refine W.seq ?_ | refine W.regR rfl ?_ | refine W.condK ?_ | refine W.block ?_ | refine W.skip ?_ | refine W.ret ?_ | refine W.exit ?_); try simp (maxSteps := 1000000) (disch := (first | omega | (simp only [World.size_alloc, size_wr, size_drew] <;> omega) | exact not_noB _)) only [go_sem, ↓reduceIte, n0, reduceCtorEq, n1, n2, n3, n4, n5, i0, i1, i2, i3, i4, i5, i6, i7, hv_12])
  have hTk12 : TagsM (OkS okM w.heap.size) w12 (.map qm) t.u := (hT.weaken fun b h1 h2 => ⟨h2, h1⟩).keep (ha12.upd.keeps fun b hb hk => hd b hb hk.1)
  refine (AppendEach_fn (ok := OkS okM w.heap.size) _ _ _ ha12.own hB12 hv_12 (to := 12) (show (#[.int .i16 ver, .int .i16 (IntKind.i16.wrap (t.at 0).n), strV (t.at 1).s, strV (t.at 2).s, strV (t.at 3).s, strV (t.at 4).s, .int .i64 (t.at 5).n, .int .i64 (t.at 6).n, .int .i64 (t.at 7).n, strV (t.at 8).s, p_9, .int .i32 (IntKind.i32.wrap (t.at 10).n), .map qm] : Array Value)[12]? = some (.map qm) from rfl) hTk12 (rising_keys hfu) hfu.1 (tags_small hfu hTk12) (hdK ha12) (ownK ha12 (blk_lt hv) hdv) (by simp only [List.length_append, List.length_nil]; omega)).mono ?_
  rintro r13 w13 hc13
  rw [← hXT] at hc13
  have ha13 := ha12.trans hc13
  have hB13 : B ≤ w13.heap.size := Nat.le_trans hB ha13.upd.size
  have hv_13 := ha13.upd.blk_some hv hdv
  repeat ((first | refine W.seqR rfl ?_ | refine W.seq ?_ | refine W.regR rfl ?_ | refine W.condK ?_ | refine W.block ?_ | refine W.skip ?_ | refine W.ret ?_ | refine W.exit ?_); try simp (maxSteps := 1000000) (disch := (first | omega | (simp only [World.size_alloc, size_wr, size_drew] <;> omega) | exact not_noB _)) only [go_sem, ↓reduceIte, n0, reduceCtorEq, n1, n2, n3, n4, n5, i0, i1, i2, i3, i4, i5, i6, i7, hv_13])
  refine ha13.eqs ?_
  rw [hP]; simp only [List.append_assoc, List.append_nil, List.nil_append]
end Ms

namespace Ms
open Nat renaming reduceEqDiff → n0, reduceAdd → n1, reduceMul → n2, reduceSub → n3, reduceLT → n4, reduceLeDiff → n5
open Int renaming reduceEq → i0, reduceLT → i1, reduceLE → i2, reduceNeg → i3, reduceAdd → i4, reduceSub → i5, reduceMul → i6, reduceToNat → i7
set_option maxRecDepth 8000
open Go Go.Proofs Go.Shelf
attribute [local congr] W_congr WPsq_congr WPp_congr optK_congr addrK_congr intK_congr boolK_congr sliceK_congr tupleK_congr funcK_congr Fn_congr rawK_congr takeK_congr stepK_congr convK_congr aggK_congr

set_option maxHeartbeats 1000000 in
theorem MakeCreateDelegationTokenResponse_fn {ok : Blocks} (t : Tree) (ct : List Value) (w : World) (ver : Nat) (hv : ver ≤ 3) (ht : TreeC ok w t ct) (hfit : FitP ver 2 fs_CreateDelegationTokenResponse t) (hLs : Lists t) (hlen : (partS 2 fs_CreateDelegationTokenResponse ver (flexB 2 ver) t).length ≤ 2 ^ 41) :
    Fn Try.prog 33 #[.int .i64 ver, .agg ct.toArray] w fun r w' => OwnBy 5 w.heap.size w' r (partS 2 fs_CreateDelegationTokenResponse ver (flexB 2 ver) t) ∧ Ext w w' := by
  replace ht : TreeC (fun b => b < w.heap.size) w t ct := ht.weaken fun b hb _ => hb
  obtain ⟨vS, vL, vU, rfl, hn, hS, hL, hU⟩ := ht.inv
  obtain ⟨bS, cS, rfl, _⟩ := hS.shape
  obtain ⟨bL, cL, rfl, _⟩ := SlR.shape hL
  obtain ⟨bU, cU, rfl, _⟩ := SlR.shape hU
  have ew : IntKind.i16.wrap (ver : Int) = ver := i16_wrap (by omega)
  have hE1 : Ext w ((w.alloc (.cells #[.int .i64 t.n, .slice bS t.s.length cS, .bool t.null, .slice bL t.l.length cL, .slice bU t.u.length cU] 39)).alloc (.cells #[.int .i16 0, .int .i16 0, .string ByteArray.empty, .string ByteArray.empty, .string ByteArray.empty, .string ByteArray.empty, .int .i64 0, .int .i64 0, .int .i64 0, .string ByteArray.empty, .slice none 0 0, .int .i32 0, .map none] 92)) := Upd.alloc (Upd.alloc (Upd.refl _ _) _) _
  have hb1 : blk ((w.alloc (.cells #[.int .i64 t.n, .slice bS t.s.length cS, .bool t.null, .slice bL t.l.length cL, .slice bU t.u.length cU] 39)).alloc (.cells #[.int .i16 0, .int .i16 0, .string ByteArray.empty, .string ByteArray.empty, .string ByteArray.empty, .string ByteArray.empty, .int .i64 0, .int .i64 0, .int .i64 0, .string ByteArray.empty, .slice none 0 0, .int .i32 0, .map none] 92)) (w.heap.size + 1) = some (#[.int .i16 0, .int .i16 0, .string ByteArray.empty, .string ByteArray.empty, .string ByteArray.empty, .string ByteArray.empty, .int .i64 0, .int .i64 0, .int .i64 0, .string ByteArray.empty, .slice none 0 0, .int .i32 0, .map none], 92, (0, 0)) := blk_alloc_new (by simp only [World.size_alloc])
  have htb1 : blk ((w.alloc (.cells #[.int .i64 t.n, .slice bS t.s.length cS, .bool t.null, .slice bL t.l.length cL, .slice bU t.u.length cU] 39)).alloc (.cells #[.int .i16 0, .int .i16 0, .string ByteArray.empty, .string ByteArray.empty, .string ByteArray.empty, .string ByteArray.empty, .int .i64 0, .int .i64 0, .int .i64 0, .string ByteArray.empty, .slice none 0 0, .int .i32 0, .map none] 92)) w.heap.size = some (#[.int .i64 t.n, .slice bS t.s.length cS, .bool t.null, .slice bL t.l.length cL, .slice bU t.u.length cU], 39, (0, 0)) := by simp (maxSteps := 1000000) (disch := (first | omega | (simp only [World.size_alloc, size_wr, size_drew] <;> omega) | exact not_noB _)) only [go_sem, ↓reduceIte, n0, reduceCtorEq, n1, n2, n3, n4, n5, i0, i1, i2, i3, i4, i5, i6, i7]
  have hz1 : ((w.alloc (.cells #[.int .i64 t.n, .slice bS t.s.length cS, .bool t.null, .slice bL t.l.length cL, .slice bU t.u.length cU] 39)).alloc (.cells #[.int .i16 0, .int .i16 0, .string ByteArray.empty, .string ByteArray.empty, .string ByteArray.empty, .string ByteArray.empty, .int .i64 0, .int .i64 0, .int .i64 0, .string ByteArray.empty, .slice none 0 0, .int .i32 0, .map none] 92)).heap.size = w.heap.size + 2 := by simp only [World.size_alloc]
  refine fn_of_W Try.func33 rfl Try.results33 Try.ntmps33 rfl ?_
  repeat ((first | refine W.seqR rfl ?_ | refine W.seq ?_ | refine W.regR rfl ?_ | refine W.condK ?_ | refine W.block ?_ | refine W.skip ?_ | refine W.ret ?_ | refine W.exit ?_); try simp (maxSteps := 1000000) (disch := (first | omega | (simp only [World.size_alloc, size_wr, size_drew] <;> omega) | exact not_noB _)) only [go_sem, ↓reduceIte, n0, reduceCtorEq, n1, n2, n3, n4, n5, i0, i1, i2, i3, i4, i5, i6, i7, ew])
  generalize ((w.alloc (.cells #[.int .i64 t.n, .slice bS t.s.length cS, .bool t.null, .slice bL t.l.length cL, .slice bU t.u.length cU] 39)).alloc (.cells #[.int .i16 0, .int .i16 0, .string ByteArray.empty, .string ByteArray.empty, .string ByteArray.empty, .string ByteArray.empty, .int .i64 0, .int .i64 0, .int .i64 0, .string ByteArray.empty, .slice none 0 0, .int .i32 0, .map none] 92)) = w1 at *
  refine (SetVersionCreateDelegationTokenResponse_fn w1 (vb := w.heap.size + 1) ver hb1).mono ?_
  rintro _ w2 ⟨hb2, hU2⟩
  have hz2 := hU2.size
  have hE2 : Ext w w2 := hE1.more hU2 fun b hb h => by omega
  have htb2 := hU2.blk_some htb1 (by omega)
  repeat ((first | refine W.seqR rfl ?_ | refine W.seq ?_ | refine W.regR rfl ?_ | refine W.condK ?_ | refine W.block ?_ | refine W.skip ?_ | refine W.ret ?_ | refine W.exit ?_); try simp (maxSteps := 1000000) (disch := (first | omega | (simp only [World.size_alloc, size_wr, size_drew] <;> omega) | exact not_noB _)) only [go_sem, ↓reduceIte, n0, reduceCtorEq, n1, n2, n3, n4, n5, i0, i1, i2, i3, i4, i5, i6, i7, htb2, cellsAt_five])
  refine (fillCreateDelegationTokenResponse_fn (d := 1) (okT := fun b => b < w.heap.size) (V := ver) (ver := ver) t _ w2 (vb := w.heap.size + 1) hb2 (ht.keep (hE2.keeps _)) (fun b hb => by omega) hfit hLs).mono ?_
  rintro _ w3 ⟨cells, hb3, hR3, hU3⟩
  have hz3 := hU3.size
  have hE3 : Ext w w3 := hE2.more hU3 fun b hb h => by omega
  repeat ((first | refine W.seqR rfl ?_ | refine W.seq ?_ | refine W.regR rfl ?_ | refine W.condK ?_ | refine W.block ?_ | refine W.skip ?_ | refine W.ret ?_ | refine W.exit ?_); try simp (maxSteps := 1000000) (disch := (first | omega | (simp only [World.size_alloc, size_wr, size_drew] <;> omega) | exact not_noB _)) only [go_sem, ↓reduceIte, n0, reduceCtorEq, n1, n2, n3, n4, n5, i0, i1, i2, i3, i4, i5, i6, i7])
  have hcl : (0 ≤ (ver : Int) ∧ (ver : Int) ≤ 1) ∨ (2 ≤ (ver : Int) ∧ (ver : Int) ≤ 2) ∨ (3 ≤ (ver : Int) ∧ (ver : Int) ≤ 3) := by omega
  rcases hcl with ⟨h1, h2⟩ | ⟨h1, h2⟩ | ⟨h1, h2⟩
  · have hfl : flexB 2 ver = false := by simp only [flexB, Bool.and_eq_false_iff, decide_eq_false_iff_not]; omega
    rw [hfl] at hlen ⊢
    refine (appCreateDelegationTokenResponse_0 (d := 1) (B := w3.heap.size) (okM := okN (fun b => b < w.heap.size) w2.heap.size) h1 h2 t cells (.slice none 0 0) [] w3 (Own.nil _ _ _ _) (Nat.le_refl _) hb3 hR3 hfit (by rintro b _ _ ⟨a, n, c, h, _⟩; cases h) (by rintro ⟨a, n, c, h, _⟩; cases h) (by simpa using hlen)).mono ?_
    rintro r4 w4 h4
    repeat ((first | refine W.seqR rfl ?_ | refine W.seq ?_ | refine W.regR rfl ?_ | refine W.condK ?_ | refine W.block ?_ | refine W.skip ?_ | refine W.ret ?_ | refine W.exit ?_); try simp (maxSteps := 1000000) (disch := (first | omega | (simp only [World.size_alloc, size_wr, size_drew] <;> omega) | exact not_noB _)) only [go_sem, ↓reduceIte, n0, reduceCtorEq, n1, n2, n3, n4, n5, i0, i1, i2, i3, i4, i5, i6, i7])
    refine ⟨?_, hE3.more h4.upd fun b hb h => by obtain ⟨a, n, c, h, _⟩ := h; cases h⟩
    have := h4.own
    rw [List.nil_append] at this
    exact Own.mono this (by omega)
  · have hfl : flexB 2 ver = true := by simp only [flexB, Bool.and_eq_true, decide_eq_true_eq]; omega
    rw [hfl] at hlen ⊢
    refine (appCreateDelegationTokenResponse_1 (d := 1) (B := w3.heap.size) (okM := okN (fun b => b < w.heap.size) w2.heap.size) h1 h2 t cells (.slice none 0 0) [] w3 (Own.nil _ _ _ _) (Nat.le_refl _) hb3 hR3 hfit (by rintro b _ _ ⟨a, n, c, h, _⟩; cases h) (by rintro ⟨a, n, c, h, _⟩; cases h) (by simpa using hlen)).mono ?_
    rintro r4 w4 h4
    repeat ((first | refine W.seqR rfl ?_ | refine W.seq ?_ | refine W.regR rfl ?_ | refine W.condK ?_ | refine W.block ?_ | refine W.skip ?_ | refine W.ret ?_ | refine W.exit ?_); try simp (maxSteps := 1000000) (disch := (first | omega | (simp only [World.size_alloc, size_wr, size_drew] <;> omega) | exact not_noB _)) only [go_sem, ↓reduceIte, n0, reduceCtorEq, n1, n2, n3, n4, n5, i0, i1, i2, i3, i4, i5, i6, i7])
    refine ⟨?_, hE3.more h4.upd fun b hb h => by obtain ⟨a, n, c, h, _⟩ := h; cases h⟩
    have := h4.own
    rw [List.nil_append] at this
    exact Own.mono this (by omega)
  · have hfl : flexB 2 ver = true := by simp only [flexB, Bool.and_eq_true, decide_eq_true_eq]; omega
    rw [hfl] at hlen ⊢
    refine (appCreateDelegationTokenResponse_2 (d := 1) (B := w3.heap.size) (okM := okN (fun b => b < w.heap.size) w2.heap.size) h1 h2 t cells (.slice none 0 0) [] w3 (Own.nil _ _ _ _) (Nat.le_refl _) hb3 hR3 hfit (by rintro b _ _ ⟨a, n, c, h, _⟩; cases h) (by rintro ⟨a, n, c, h, _⟩; cases h) (by simpa using hlen)).mono ?_
    rintro r4 w4 h4
    repeat ((first | refine W.seqR rfl ?_ | refine W.seq ?_ | refine W.regR rfl ?_ | refine W.condK ?_ | refine W.block ?_ | refine W.skip ?_ | refine W.ret ?_ | refine W.exit ?_); try simp (maxSteps := 1000000) (disch := (first | omega | (simp only [World.size_alloc, size_wr, size_drew] <;> omega) | exact not_noB _)) only [go_sem, ↓reduceIte, n0, reduceCtorEq, n1, n2, n3, n4, n5, i0, i1, i2, i3, i4, i5, i6, i7])
    refine ⟨?_, hE3.more h4.upd fun b hb h => by obtain ⟨a, n, c, h, _⟩ := h; cases h⟩
    have := h4.own
    rw [List.nil_append] at this
    exact Own.mono this (by omega)

set_option maxHeartbeats 1000000 in
theorem law_CreateDelegationTokenResponse {ok : Blocks} (n : Nat) (hn : n < 256) (t : Tree) (ct : List Value) (w : World) (ht : TreeC ok w t ct) (hsm : Small 4611686018427387903 t) {N : Nat} (hN : N ≤ 1048576) (hsz : Sized N t) :
    Fn Try.prog 7 #[.int .u8 n, .agg ct.toArray] w fun r w' => r = .bool true ∧ Ext w w' := by
  obtain ⟨vS, vL, vU, rfl, hn', hS, hL, hU⟩ := ht.inv
  have f1 := hS.flat
  have f2 := SlR.flat hL
  have f3 := SlR.flat hU
  have hE : Ext w (w.alloc (.cells #[.int .i64 t.n, vS, .bool t.null, vL, vU] 26)) := Upd.alloc (Upd.refl _ _) _
  refine fn_of_W Try.func7 rfl Try.results7 Try.ntmps7 rfl ?_
  repeat ((first | refine W.seqR rfl ?_ | refine W.seq ?_ | refine W.regR rfl ?_ | refine W.condK ?_ | refine W.block ?_ | refine W.skip ?_ | refine W.ret ?_ | refine W.exit ?_); try simp (maxSteps := 1000000) (disch := (first | omega | (simp only [World.size_alloc, size_wr, size_drew] <;> omega) | exact not_noB _)) only [go_sem, ↓reduceIte, n0, reduceCtorEq, n1, n2, n3, n4, n5, i0, i1, i2, i3, i4, i5, i6, i7, f1, f2, f3, cellsAt_five])
  have hb : blk (w.alloc (.cells #[.int .i64 t.n, vS, .bool t.null, vL, vU] 26)) w.heap.size = some (#[.int .i64 t.n, vS, .bool t.null, vL, vU], 26, (0, 0)) := blk_alloc_new rfl
  generalize (w.alloc (.cells #[.int .i64 t.n, vS, .bool t.null, vL, vU] 26)) = w1 at *
  refine (zzFits1_fn (ok := ok) t _ w1 (ht.keep (hE.keeps _)) hsm).mono ?_
  rintro r2 w2 ⟨⟨bb, rfl⟩, hE2⟩
  cases bb with
  | false =>
    simp (maxSteps := 1000000) (disch := (first | omega | (simp only [World.size_alloc, size_wr, size_drew] <;> omega) | exact not_noB _)) only [go_sem, ↓reduceIte, n0, reduceCtorEq, n1, n2, n3, n4, n5, i0, i1, i2, i3, i4, i5, i6, i7]
    repeat ((first | refine W.seqR rfl ?_ | refine W.seq ?_ | refine W.regR rfl ?_ | refine W.condK ?_ | refine W.block ?_ | refine W.skip ?_ | refine W.ret ?_ | refine W.exit ?_); try simp (maxSteps := 1000000) (disch := (first | omega | (simp only [World.size_alloc, size_wr, size_drew] <;> omega) | exact not_noB _)) only [go_sem, ↓reduceIte, n0, reduceCtorEq, n1, n2, n3, n4, n5, i0, i1, i2, i3, i4, i5, i6, i7])
    exact hE.trans hE2
  | true =>
    simp (maxSteps := 1000000) (disch := (first | omega | (simp only [World.size_alloc, size_wr, size_drew] <;> omega) | exact not_noB _)) only [go_sem, ↓reduceIte, n0, reduceCtorEq, n1, n2, n3, n4, n5, i0, i1, i2, i3, i4, i5, i6, i7]
    repeat ((first | refine W.seqR rfl ?_ | refine W.seq ?_ | refine W.regR rfl ?_ | refine W.condK ?_ | refine W.block ?_ | refine W.skip ?_ | refine W.ret ?_ | refine W.exit ?_); try simp (maxSteps := 1000000) (disch := (first | omega | (simp only [World.size_alloc, size_wr, size_drew] <;> omega) | exact not_noB _)) only [go_sem, ↓reduceIte, n0, reduceCtorEq, n1, n2, n3, n4, n5, i0, i1, i2, i3, i4, i5, i6, i7])
    refine (MaxCreateDelegationTokenResponse_fn w2).mono ?_
    rintro _ w2m ⟨rfl, hE2m⟩
    repeat ((first | refine W.seqR rfl ?_ | refine W.seq ?_ | refine W.regR rfl ?_ | refine W.condK ?_ | refine W.block ?_ | refine W.skip ?_ | refine W.ret ?_ | refine W.exit ?_); try simp (maxSteps := 1000000) (disch := (first | omega | (simp only [World.size_alloc, size_wr, size_drew] <;> omega) | exact not_noB _)) only [go_sem, ↓reduceIte, n0, reduceCtorEq, n1, n2, n3, n4, n5, i0, i1, i2, i3, i4, i5, i6, i7])
    refine (cCreateDelegationTokenResponse_fn w2m).mono ?_
    rintro r3 w3 ⟨⟨vs, rfl, hF0⟩, hE3⟩
    have hF : FldsV AnyB w3 vs fs_CreateDelegationTokenResponse := hF0.weaken fun _ _ _ => trivial
    have fF := SlR.flat hF
    simp (maxSteps := 1000000) (disch := (first | omega | (simp only [World.size_alloc, size_wr, size_drew] <;> omega) | exact not_noB _)) only [go_sem, ↓reduceIte, n0, reduceCtorEq, n1, n2, n3, n4, n5, i0, i1, i2, i3, i4, i5, i6, i7]
    refine (version_fn w3 n 3 hn (by decide)).mono ?_
    rintro _ w3v ⟨rfl, rfl⟩
    have hE03 : Ext w w3v := ((hE.trans hE2).trans hE2m).trans hE3
    have hb3 := hE3.blk_some (hE2m.blk_some (hE2.blk_some hb id) id) id
    have hE4 : Ext w3v (wr (w3v.alloc (.cells #[.slice none 0 0, .int .i64 0] 31)) w3v.heap.size 0 [vs, .int .i64 2]) := (Upd.alloc (Upd.refl _ _) _).wr _ _ (.inl (Nat.le_refl _))
    have hb4 : blk (wr (w3v.alloc (.cells #[.slice none 0 0, .int .i64 0] 31)) w3v.heap.size 0 [vs, .int .i64 2]) w3v.heap.size = some (#[vs, .int .i64 2], 31, (0, 0)) := by simp (maxSteps := 1000000) (disch := (first | omega | (simp only [World.size_alloc, size_wr, size_drew] <;> omega) | exact not_noB _)) only [go_sem, ↓reduceIte, n0, reduceCtorEq, n1, n2, n3, n4, n5, i0, i1, i2, i3, i4, i5, i6, i7]
    simp (maxSteps := 1000000) (disch := (first | omega | (simp only [World.size_alloc, size_wr, size_drew] <;> omega) | exact not_noB _)) only [go_sem, ↓reduceIte, n0, reduceCtorEq, n1, n2, n3, n4, n5, i0, i1, i2, i3, i4, i5, i6, i7, fF]
    generalize (wr (w3v.alloc (.cells #[.slice none 0 0, .int .i64 0] 31)) w3v.heap.size 0 [vs, .int .i64 2]) = w4 at *
    have hb34 := hE4.blk_some hb3 id
    have hv3 : n % 4 < 4 := Nat.mod_lt _ (by omega)
    generalize n % 4 = ver at *
    have hs1 := blk_lt hb4
    have hs2 := blk_lt hb34
    repeat ((first | refine W.seqR rfl ?_ | refine W.seq ?_ | refine W.regR rfl ?_ | refine W.condK ?_ | refine W.block ?_ | refine W.skip ?_ | refine W.ret ?_ | refine W.exit ?_); try simp (maxSteps := 1000000) (disch := (first | omega | (simp only [World.size_alloc, size_wr, size_drew] <;> omega) | exact not_noB _)) only [go_sem, ↓reduceIte, n0, reduceCtorEq, n1, n2, n3, n4, n5, i0, i1, i2, i3, i4, i5, i6, i7])
    refine W.drawR (.take 0 (.take 1 (.take 2 (.take 3 (.take 4 (.take 8 (.take 9 (.take 10 (.only 5 (.only 6 (.only 7 (.only 11 (.only 12 (.only 13 .done)))))))))))))) NoB mixed (by kernel_rfl) ?_
    simp (maxSteps := 1000000) (disch := (first | omega | (simp only [World.size_alloc, size_wr, size_drew] <;> omega) | exact not_noB _)) only [go_sem, ↓reduceIte, n0, reduceCtorEq, n1, n2, n3, n4, n5, i0, i1, i2, i3, i4, i5, i6, i7, hb34, hb4, cellsAt_five, cellsAt_two]
    have hE04d : Ext w w4.drew := (hE03.trans hE4).drew
    have hE3d : Ext w3v w4.drew := hE4.drew
    have hokF : okF 1 fs_CreateDelegationTokenResponse = true := by decide
    have hokM : okM 1 fs_CreateDelegationTokenResponse = true := by decide
    refine (fit_ok 1 AnyB fs_CreateDelegationTokenResponse ver t vs _ w4.drew (hF.keep (hE3d.keeps _)) hokF ((ht.weaken fun _ _ _ => trivial).keep (hE04d.keeps _)) hsm).mono ?_
    rintro r5 w5 ⟨⟨c5, rfl, hc5⟩, hE5⟩
    refine ⟨hE5, ?_⟩
    have hLs := fitS_lists 1 fs_CreateDelegationTokenResponse ver t (by decide) hokF
    refine (given_fn hLs _ c5 w5 hc5).mono ?_
    rintro r6 w6 ⟨⟨c6, rfl, hc6⟩, hE6⟩
    have hE56 : Ext w4.drew w6 := hE5.trans hE6
    refine ⟨hE56, ?_⟩
    have hpl : (partS 2 fs_CreateDelegationTokenResponse ver (flexB 2 ver) t).length ≤ 2 ^ 40 := Nat.le_trans (partS_bound ver _ 1 fs_CreateDelegationTokenResponse N t hokM hsz) (Nat.le_trans (Nat.mul_le_mul_left _ (Nat.succ_le_succ hN)) (by decide))
    have hpf : partS 2 fs_CreateDelegationTokenResponse ver (flexB 2 ver) (fitS 2 fs_CreateDelegationTokenResponse ver t) = partS 2 fs_CreateDelegationTokenResponse ver (flexB 2 ver) t := partS_fit ver (flexB 2 ver) 1 fs_CreateDelegationTokenResponse t hokM
    refine (MakeCreateDelegationTokenResponse_fn (fitS 2 fs_CreateDelegationTokenResponse ver t) c6 w6 ver (by omega) hc6 (fitS_fit ver 1 fs_CreateDelegationTokenResponse t hokM) hLs (by rw [hpf]; omega)).mono ?_
    rintro r7 w7 ⟨ho7, hE7⟩
    rw [hpf] at ho7
    have hE57 : Ext w4.drew w7 := hE56.trans hE7
    refine ⟨hE57, ?_⟩
    have hE07 : Ext w w7 := hE04d.trans hE57
    refine (Write_fn (ok := AnyB) (d := 1) fs_CreateDelegationTokenResponse 2 ver t vs _ w7 (hF.keep (Ext.keeps (hE3d.trans hE57) _)) hokF ((ht.weaken fun _ _ _ => trivial).keep (Ext.keeps hE07 _)) hsm hpl).mono ?_
    rintro r8 w8 ⟨ho8, hE8⟩
    have hE58 : Ext w4.drew w8 := hE57.trans hE8
    refine ⟨hE58, ?_⟩
    refine (Same_fn (ok := AnyB) _ _ r7 r8 w8 ((Own.bytes ho7 fun _ _ => trivial).keep (hE8.keeps _)) (Own.bytes ho8 fun _ _ => trivial) (by omega)).mono ?_
    rintro r9 w9 ⟨rfl, hE9⟩
    have hE59 : Ext w4.drew w9 := hE58.trans hE9
    refine ⟨hE59, hE59, ?_⟩
    repeat ((first | refine W.seqR rfl ?_ | refine W.seq ?_ | refine W.regR rfl ?_ | refine W.condK ?_ | refine W.block ?_ | refine W.skip ?_ | refine W.ret ?_ | refine W.exit ?_); try simp (maxSteps := 1000000) (disch := (first | omega | (simp only [World.size_alloc, size_wr, size_drew] <;> omega) | exact not_noB _)) only [go_sem, ↓reduceIte, n0, reduceCtorEq, n1, n2, n3, n4, n5, i0, i1, i2, i3, i4, i5, i6, i7])
    exact hE04d.trans hE59
end Ms

