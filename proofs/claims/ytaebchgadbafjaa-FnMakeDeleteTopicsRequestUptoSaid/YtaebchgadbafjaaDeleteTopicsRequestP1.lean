/- A part of the proof: see the last text. -/
import Derived.Test.YtaebchgadbafjaaC02
import Derived.Test.YtaebchgadbafjaaC08
import Derived.Test.YtaebchgadbafjaaDeleteTopicsRequestP0
set_option linter.unusedSimpArgs false
set_option linter.unusedVariables false
namespace Ms
open Nat renaming reduceEqDiff → n0, reduceAdd → n1, reduceMul → n2, reduceSub → n3, reduceLT → n4, reduceLeDiff → n5
open Int renaming reduceEq → i0, reduceLT → i1, reduceLE → i2, reduceNeg → i3, reduceAdd → i4, reduceSub → i5, reduceMul → i6, reduceToNat → i7
set_option maxRecDepth 8000
open Go Go.Proofs Go.Shelf
attribute [local congr] W_congr WPsq_congr WPp_congr optK_congr addrK_congr intK_congr boolK_congr sliceK_congr tupleK_congr funcK_congr Fn_congr rawK_congr takeK_congr stepK_congr convK_congr aggK_congr

set_option maxHeartbeats 4000000 in
theorem appDeleteTopicsRequest_1 {d B : Nat} {okM : Blocks} {ver : Int} (hlo : 4 ≤ ver) (hhi : ver ≤ 5) (t : Tree) (cells : List Value) (v : Value) (s : List UInt8) (w : World) {vb : Nat} (ho : OwnBy 5 B w v s) (hB : B ≤ w.heap.size) (hvb : blk w vb = some ((.int .i16 ver :: cells).toArray, 98, (0, 0)))
    (hR : RepS true (d + 2) fs_DeleteTopicsRequest okM w t cells) (hfit : FitP ver (d + 2) fs_DeleteTopicsRequest t) (hd : ∀ b, b < w.heap.size → okM b → ¬ ownB v b) (hdv : ¬ ownB v vb) (hlen : s.length + (partS (d + 2) fs_DeleteTopicsRequest ver true t).length ≤ 2 ^ 41) :
    Fn Try.prog 88 #[.pointer (some ⟨vb, 0, none⟩), v] w fun r w' => AppR 5 B w v s (partS (d + 2) fs_DeleteTopicsRequest ver true t) r w' := by
  obtain ⟨⟨g_0, g_1, g_2, -⟩, hfu⟩ := hfit
  replace g_0 : FitF (FitP ver (d + 1)) ver fDeleteTopicsRequest_0 (t.at 0) := g_0
  replace g_1 : FitF (FitP ver (d + 1)) ver fDeleteTopicsRequest_1 (t.at 1) := g_1
  replace g_2 : FitF (FitP ver (d + 1)) ver fDeleteTopicsRequest_2 (t.at 2) := g_2
  obtain ⟨cs, q, hcs, hL, hT⟩ := hR.inv
  obtain ⟨c_0, e_0, rfl, h_0, c_1, e_1, rfl, h_1, c_2, e_2, rfl, h_2, rfl⟩ := hL
  replace h_0 : RepF (RepS true (d + 1)) (szS true (d + 1)) fDeleteTopicsRequest_0 okM w (t.at 0) c_0 := h_0
  replace h_1 : RepF (RepS true (d + 1)) (szS true (d + 1)) fDeleteTopicsRequest_1 okM w (t.at 1) c_1 := h_1
  replace h_2 : RepF (RepS true (d + 1)) (szS true (d + 1)) fDeleteTopicsRequest_2 okM w (t.at 2) c_2 := h_2
  have hn_0 := g_0.notnull (by decide)
  obtain ⟨p_0, rfl, hs_0, -⟩ := (RepF_list rfl hn_0).1 h_0
  obtain ⟨ab_0, ac_0, rfl, _⟩ := SlR.shape hs_0
  have hll_0 := (g_0.list rfl).1
  have hn_1 := g_1.notnull (by decide)
  obtain ⟨p_1, rfl, hs_1, -⟩ := (RepF_list rfl hn_1).1 h_1
  obtain ⟨ab_1, ac_1, rfl, _⟩ := SlR.shape hs_1
  have hll_1 := (g_1.list rfl).1
  obtain rfl := (RepF_num (by decide)).1 h_2
  obtain ⟨qm, rfl⟩ := hT.shape
  have hv : blk w vb = some (#[.int .i16 ver, .slice ab_0 (t.at 0).l.length ac_0, .slice ab_1 (t.at 1).l.length ac_1, .int .i32 (IntKind.i32.wrap (t.at 2).n), .map qm], 98, (0, 0)) := by rw [hvb, hcs]; rfl
  clear hvb hcs
  have hh_0 : hasS fDeleteTopicsRequest_0 ver = true := hasS_t (by show (0 : Int) ≤ ver; omega) (by show (5 : Int) < 0 ∨ ver ≤ (5 : Int); omega)
  obtain ⟨XL_0, hXL_0⟩ : ∃ X, X = uvarS ((t.at 0).l.length + 1) := ⟨_, rfl⟩
  obtain ⟨XE_0, hXE_0⟩ : ∃ X, X = (t.at 0).l.flatMap (fun x : Tree => uvarS (x.s.length + 1) ++ x.s) := ⟨_, rfl⟩
  have hh_1 : hasS fDeleteTopicsRequest_1 ver = false := hasS_f (by show ver < 6 ∨ (0 ≤ (-1 : Int) ∧ (-1 : Int) < ver); omega)
  have hh_2 : hasS fDeleteTopicsRequest_2 ver = true := hasS_t (by show (0 : Int) ≤ ver; omega) (by show (-1 : Int) < 0 ∨ ver ≤ (-1 : Int); omega)
  obtain ⟨X_2, hXX_2⟩ : ∃ X, X = fixedS (t.at 2).n 4 := ⟨_, rfl⟩
  obtain ⟨XU, hXU⟩ : ∃ X, X = uvarS t.u.length := ⟨_, rfl⟩
  obtain ⟨XT, hXT⟩ : ∃ X, X = t.u.flatMap oneTag := ⟨_, rfl⟩
  have hP : partS (d + 2) fs_DeleteTopicsRequest ver true t = ((XL_0 ++ XE_0) ++ (X_2 ++ [])) ++ (XU ++ XT) := by rw [hXU, hXT]; exact partS_yes rfl hfu (plainL_has (by decide) hh_0 ((fieldS_list_t (g := (fun x : Tree => uvarS (x.s.length + 1) ++ x.s)) g_0 rfl (by decide) (fun x hx => valueS_text (((g_0.list rfl).2 x hx).2.1 (.inl rfl)))).trans (by rw [hXL_0, hXE_0])) (plainL_not hh_1 (plainL_has (by decide) hh_2 ((fieldS_num 3 rfl (by decide)).trans hXX_2.symm) rfl)))
  rw [hP] at hlen
  simp only [List.length_append, List.length_nil] at hlen
  have hdK : ∀ {r : Value} {w' : World} {add : List UInt8}, AppR 5 B w v s add r w' → ∀ b, b < w'.heap.size → OkS okM w.heap.size b → ¬ ownB r b := fun h b _ hk ho => (h.frame b ho).elim (hd b hk.2 hk.1) (fun h => by have := hk.2; omega)
  have ownK : ∀ {r : Value} {w' : World} {add : List UInt8} {b : Nat}, AppR 5 B w v s add r w' → b < w.heap.size → ¬ ownB v b → ¬ ownB r b := fun h hb hn ho => (h.frame _ ho).elim hn (fun h => by omega)
  have ha0 : AppR 5 B w v s [] v w := AppR.refl ho
  obtain ⟨w0, hw0⟩ : ∃ w0, w0 = w := ⟨_, rfl⟩
  have hB0 := hB
  have hv_0 := hv
  refine fn_of_W Try.func88 rfl Try.results88 Try.ntmps88 rfl ?_
  repeat ((first | refine W.seqR rfl ?_ | refine W.seq ?_ | refine W.regR rfl ?_ | refine W.condK ?_ | refine W.block ?_ | refine W.skip ?_ | refine W.ret ?_ | refine W.exit ?_); try simp (maxSteps := 1000000) (disch := (first | omega | (simp only [World.size_alloc, size_wr, size_drew] <;> omega) | exact not_noB _)) only [go_sem, ↓reduceIte, n0, reduceCtorEq, n1, n2, n3, n4, n5, i0, i1, i2, i3, i4, i5, i6, i7, hv_0])
  refine (AppendCompactArrayLen_fn _ _ _ ha0.own hB0 (t.at 0).l.length hll_0 (by simp only [List.length_append, List.length_nil]; omega)).mono ?_
  rintro r1 w1 hc1
  rw [← hXL_0] at hc1
  have ha1 := ha0.trans hc1
  have hB1 : B ≤ w1.heap.size := Nat.le_trans hB ha1.upd.size
  have hv_1 := ha1.upd.blk_some hv hdv
  repeat ((first | refine W.seqR rfl ?_ | refine W.seq ?_ | refine W.regR rfl ?_ | refine W.condK ?_ | refine W.block ?_ | refine W.skip ?_ | refine W.ret ?_ | refine W.exit ?_); try simp (maxSteps := 1000000) (disch := (first | omega | (simp only [World.size_alloc, size_wr, size_drew] <;> omega) | exact not_noB _)) only [go_sem, ↓reduceIte, n0, reduceCtorEq, n1, n2, n3, n4, n5, i0, i1, i2, i3, i4, i5, i6, i7, hv_1])
  have hadd1 := ha1
  refine W.exitJ 0 (fun ρ w' => ∃ r, ρ 1 = r ∧ ρ 0 = .pointer (some ⟨vb, 0, none⟩) ∧ ρ 5 = .int .i16 ver ∧ ρ 6 = .bool true ∧ AppR 5 B w v s (([] ++ XL_0) ++ XE_0) r w')
    (W.loop (fun ρ w' => ∃ (j : Nat) (r : Value), j ≤ (t.at 0).l.length ∧ ρ 45 = .int .i64 j ∧ ρ 44 = .int .i64 (t.at 0).l.length ∧ ρ 7 = .slice ab_0 (t.at 0).l.length ac_0 ∧ ρ 1 = r ∧ ρ 0 = .pointer (some ⟨vb, 0, none⟩) ∧ ρ 5 = .int .i16 ver ∧ ρ 6 = .bool true ∧ AppR 5 B w v s (([] ++ XL_0) ++ ((t.at 0).l.take j).flatMap (fun x : Tree => uvarS (x.s.length + 1) ++ x.s)) r w')
      (fun ρ _ => (t.at 0).l.length - (RowKit.intOf (ρ 45)).toNat) ?_ ?_) ?_
  · refine ⟨0, _, Nat.zero_le _, ?_, ?_, ?_, ?_, ?_, ?_, ?_, ha1.eqs (by rw [List.take_zero, List.flatMap_nil, List.append_nil])⟩ <;> simp (maxSteps := 1000000) (disch := (first | omega | (simp only [World.size_alloc, size_wr, size_drew] <;> omega) | exact not_noB _)) only [go_sem, ↓reduceIte, n0, reduceCtorEq, n1, n2, n3, n4, n5, i0, i1, i2, i3, i4, i5, i6, i7]
    all_goals rfl
  · rintro ρ w2 ⟨j1, r2, hj1, hI1, hN1, hS1, hr1_1, hr1_0, hr1_5, hr1_6, ha2⟩
    have hB2 : B ≤ w2.heap.size := Nat.le_trans hB ha2.upd.size
    have hv_2 := ha2.upd.blk_some hv hdv
    by_cases hlt1 : j1 < (t.at 0).l.length
    · obtain ⟨_, b1, o1, x1, ce1, hb1, hok1, hx1, hbl1, hxs1, hxe1, hq1, hRe1⟩ := SlR.get (size := 1) (by decide) hs_0 hlt1
      subst hb1
      have hcat1 : (t.at 0).l.take (j1 + 1) = (t.at 0).l.take j1 ++ [(t.at 0).l[j1]] := List.take_succ_eq_append_getElem hlt1
      have htl1 := take_flatMap_len (t.at 0).l (fun x : Tree => uvarS (x.s.length + 1) ++ x.s) (j1 + 1)
      rw [← hXE_0, hcat1, List.flatMap_append, List.flatMap_cons, List.flatMap_nil, List.append_nil] at htl1
      have hge1 := (g_0.list rfl).2 _ (List.getElem_mem hlt1)
      generalize (t.at 0).l[j1] = y1 at *
      have hnx1 := hd b1 hbl1 hok1
      obtain ⟨T1, hTT1⟩ : ∃ T, T = ((t.at 0).l.take j1).flatMap (fun x : Tree => uvarS (x.s.length + 1) ++ x.s) := ⟨_, rfl⟩
      rw [← hTT1] at ha2 htl1
      have hx1_2 := ha2.upd.blk_some hx1 hnx1
      obtain rfl := Rep1_text.1 hRe1
      have hq1_0 : x1.1[o1 + j1]? = some (strV y1.s) := by have := hq1 0 (by decide); rw [Nat.mul_one] at this; exact this
      obtain ⟨Y1, hY1⟩ : ∃ Y, Y = uvarS ((y1).s.length + 1) ++ (y1).s := ⟨_, rfl⟩
      replace htl1 : (T1 ++ Y1).length ≤ XE_0.length := by rw [hY1]; exact htl1
      simp only [List.length_append] at htl1
      repeat ((first | refine W.seqR rfl ?_ | refine W.seq ?_ | refine W.regR rfl ?_ | refine W.condK ?_ | refine W.block ?_ | refine W.skip ?_ | refine W.ret ?_ | refine W.exit ?_); try simp (maxSteps := 1000000) (disch := (first | omega | (simp only [World.size_alloc, size_wr, size_drew] <;> omega) | exact not_noB _)) only [go_sem, ↓reduceIte, n0, reduceCtorEq, n1, n2, n3, n4, n5, i0, i1, i2, i3, i4, i5, i6, i7, hv_2, hx1_2, Int.toNat_natCast, Nat.mul_one, hq1_0, hr1_1, hr1_0, hr1_5, hr1_6, hI1, hN1, hS1])
      refine (AppendCompactString_fn _ _ _ ha2.own hB2 y1.s (hge1.2.1 (.inl rfl)) (by simp only [List.length_append, List.length_nil]; omega)).mono ?_
      rintro r3 w3 hc3
      rw [← hY1] at hc3
      have ha3 := ha2.trans hc3
      have hB3 : B ≤ w3.heap.size := Nat.le_trans hB ha3.upd.size
      have hv_3 := ha3.upd.blk_some hv hdv
      have hx1_3 := ha3.upd.blk_some hx1 hnx1
      repeat ((first | refine W.seqR rfl ?_ | refine W.seq ?_ | refine W.regR rfl ?_ | refine W.condK ?_ | refine W.block ?_ | refine W.skip ?_ | refine W.ret ?_ | refine W.exit ?_); try simp (maxSteps := 1000000) (disch := (first | omega | (simp only [World.size_alloc, size_wr, size_drew] <;> omega) | exact not_noB _)) only [go_sem, ↓reduceIte, n0, reduceCtorEq, n1, n2, n3, n4, n5, i0, i1, i2, i3, i4, i5, i6, i7, hr1_1, hr1_0, hr1_5, hr1_6, hI1, hN1, hS1])
      refine ⟨⟨j1 + 1, _, by omega, rfl, rfl, ha3.eqs ?_⟩, ?_⟩
      · rw [hcat1, List.flatMap_append, List.flatMap_cons, List.flatMap_nil, List.append_nil, ← hTT1, hY1]; simp only [List.append_assoc, List.append_nil, List.nil_append]
      · simp only [RowKit.intOf]; omega
    · have hjl1 : j1 = (t.at 0).l.length := by omega
      subst hjl1
      rw [List.take_length, ← hXE_0] at ha2
      repeat ((first | refine W.seqR rfl ?_ | refine W.seq ?_ | refine W.regR rfl ?_ | refine W.condK ?_ | refine W.block ?_ | refine W.skip ?_ | refine W.ret ?_ | refine W.exit ?_); try simp (maxSteps := 1000000) (disch := (first | omega | (simp only [World.size_alloc, size_wr, size_drew] <;> omega) | exact not_noB _)) only [go_sem, ↓reduceIte, n0, reduceCtorEq, n1, n2, n3, n4, n5, i0, i1, i2, i3, i4, i5, i6, i7, hI1, hN1])
      exact ⟨_, hr1_1, hr1_0, hr1_5, hr1_6, ha2⟩
  · rintro ρ w4 ⟨r4, hr1_2, hr2_0, hr2_5, hr2_6, ha4⟩
    have hB4 : B ≤ w4.heap.size := Nat.le_trans hB ha4.upd.size
    have hv_4 := ha4.upd.blk_some hv hdv
    repeat ((first | refine W.seqR rfl ?_ | refine W.seq ?_ | refine W.regR rfl ?_ | refine W.condK ?_ | refine W.block ?_ | refine W.skip ?_ | refine W.ret ?_ | refine W.exit ?_); try simp (maxSteps := 1000000) (disch := (first | omega | (simp only [World.size_alloc, size_wr, size_drew] <;> omega) | exact not_noB _)) only [go_sem, ↓reduceIte, n0, reduceCtorEq, n1, n2, n3, n4, n5, i0, i1, i2, i3, i4, i5, i6, i7, hv_4, hr1_2, hr2_0, hr2_5, hr2_6])
    refine (AppendInt32_fn _ _ _ ha4.own hB4 _ (by simp only [List.length_append, List.length_nil]; omega)).mono ?_
    rintro r5 w5 hc5
    rw [wrap32, ← hXX_2] at hc5
    have ha5 := ha4.trans hc5
    have hB5 : B ≤ w5.heap.size := Nat.le_trans hB ha5.upd.size
    have hv_5 := ha5.upd.blk_some hv hdv
    repeat ((first | refine W.seqR rfl ?_ | refine W.seq ?_ | refine W.regR rfl ?_ | refine W.condK ?_ | refine W.block ?_ | refine W.skip ?_ | refine W.ret ?_ | refine W.exit ?_); try simp (maxSteps := 1000000) (disch := (first | omega | (simp only [World.size_alloc, size_wr, size_drew] <;> omega) | exact not_noB _)) only [go_sem, ↓reduceIte, n0, reduceCtorEq, n1, n2, n3, n4, n5, i0, i1, i2, i3, i4, i5, i6, i7, hv_5, hr1_2, hr2_0, hr2_5, hr2_6])
    have hTk5 : TagsM (OkS okM w.heap.size) w5 (.map qm) t.u := (hT.weaken fun b h1 h2 => ⟨h2, h1⟩).keep (ha5.upd.keeps fun b hb hk => hd b hb hk.1)
    refine (TagsLen_fn (ok := OkS okM w.heap.size) w5 hv_5 (to := 4) (show (#[.int .i16 ver, .slice ab_0 (t.at 0).l.length ac_0, .slice ab_1 (t.at 1).l.length ac_1, .int .i32 (IntKind.i32.wrap (t.at 2).n), .map qm] : Array Value)[4]? = some (.map qm) from rfl) hTk5).mono ?_
    rintro _ w5' ⟨rfl, rfl⟩
    have hul5 : t.u.length ≤ 32767 := hfu.1
    have ew5 : IntKind.u32.wrap (t.u.length : Int) = t.u.length := u32_wrap (by omega)
    have ez5 : IntKind.u32.wrap (0 + (t.u.length : Int)) = t.u.length := by rw [Int.zero_add, u32_wrap (by omega)]
    simp (maxSteps := 1000000) (disch := (first | omega | (simp only [World.size_alloc, size_wr, size_drew] <;> omega) | exact not_noB _)) only [go_sem, ↓reduceIte, n0, reduceCtorEq, n1, n2, n3, n4, n5, i0, i1, i2, i3, i4, i5, i6, i7, hv_5, hr1_2, hr2_0, hr2_5, hr2_6, ew5, ez5]
    refine (AppendUvarint_fn _ _ _ ha5.own hB5 t.u.length (by omega) (by simp only [List.length_append, List.length_nil]; omega)).mono ?_
    rintro r6 w6 hc6
    rw [← hXU] at hc6
    have ha6 := ha5.trans hc6
    have hB6 : B ≤ w6.heap.size := Nat.le_trans hB ha6.upd.size
    have hv_6 := ha6.upd.blk_some hv hdv
    repeat ((first | refine W.seqR rfl ?_ | refine W.seq ?_ | refine W.regR rfl ?_ | refine W.condK ?_ | refine W.block ?_ | refine W.skip ?_ | refine W.ret ?_ | refine W.exit ?_); try simp (maxSteps := 1000000) (disch := (first | omega | (simp only [World.size_alloc, size_wr, size_drew] <;> omega) | exact not_noB _)) only [go_sem, ↓reduceIte, n0, reduceCtorEq, n1, n2, n3, n4, n5, i0, i1, i2, i3, i4, i5, i6, i7, hv_6, hr1_2, hr2_0, hr2_5, hr2_6])
    have hTk6 : TagsM (OkS okM w.heap.size) w6 (.map qm) t.u := (hT.weaken fun b h1 h2 => ⟨h2, h1⟩).keep (ha6.upd.keeps fun b hb hk => hd b hb hk.1)
    refine (AppendEach_fn (ok := OkS okM w.heap.size) _ _ _ ha6.own hB6 hv_6 (to := 4) (show (#[.int .i16 ver, .slice ab_0 (t.at 0).l.length ac_0, .slice ab_1 (t.at 1).l.length ac_1, .int .i32 (IntKind.i32.wrap (t.at 2).n), .map qm] : Array Value)[4]? = some (.map qm) from rfl) hTk6 (rising_keys hfu) hfu.1 (tags_small hfu hTk6) (hdK ha6) (ownK ha6 (blk_lt hv) hdv) (by simp only [List.length_append, List.length_nil]; omega)).mono ?_
    rintro r7 w7 hc7
    rw [← hXT] at hc7
    have ha7 := ha6.trans hc7
    have hB7 : B ≤ w7.heap.size := Nat.le_trans hB ha7.upd.size
    have hv_7 := ha7.upd.blk_some hv hdv
    repeat ((first | refine W.seqR rfl ?_ | refine W.seq ?_ | refine W.regR rfl ?_ | refine W.condK ?_ | refine W.block ?_ | refine W.skip ?_ | refine W.ret ?_ | refine W.exit ?_); try simp (maxSteps := 1000000) (disch := (first | omega | (simp only [World.size_alloc, size_wr, size_drew] <;> omega) | exact not_noB _)) only [go_sem, ↓reduceIte, n0, reduceCtorEq, n1, n2, n3, n4, n5, i0, i1, i2, i3, i4, i5, i6, i7, hv_7, hr1_2, hr2_0, hr2_5, hr2_6])
    refine ha7.eqs ?_
    rw [hP]; simp only [List.append_assoc, List.append_nil, List.nil_append]
end Ms

namespace Ms
open Nat renaming reduceEqDiff → n0, reduceAdd → n1, reduceMul → n2, reduceSub → n3, reduceLT → n4, reduceLeDiff → n5
open Int renaming reduceEq → i0, reduceLT → i1, reduceLE → i2, reduceNeg → i3, reduceAdd → i4, reduceSub → i5, reduceMul → i6, reduceToNat → i7
set_option maxRecDepth 8000
open Go Go.Proofs Go.Shelf
attribute [local congr] W_congr WPsq_congr WPp_congr optK_congr addrK_congr intK_congr boolK_congr sliceK_congr tupleK_congr funcK_congr Fn_congr rawK_congr takeK_congr stepK_congr convK_congr aggK_congr

set_option maxHeartbeats 4000000 in
theorem appDeleteTopicsRequest_2 {d B : Nat} {okM : Blocks} {ver : Int} (hlo : 6 ≤ ver) (hhi : ver ≤ 6) (t : Tree) (cells : List Value) (v : Value) (s : List UInt8) (w : World) {vb : Nat} (ho : OwnBy 5 B w v s) (hB : B ≤ w.heap.size) (hvb : blk w vb = some ((.int .i16 ver :: cells).toArray, 98, (0, 0)))
    (hR : RepS true (d + 2) fs_DeleteTopicsRequest okM w t cells) (hfit : FitP ver (d + 2) fs_DeleteTopicsRequest t) (hd : ∀ b, b < w.heap.size → okM b → ¬ ownB v b) (hdv : ¬ ownB v vb) (hlen : s.length + (partS (d + 2) fs_DeleteTopicsRequest ver true t).length ≤ 2 ^ 41) :
    Fn Try.prog 88 #[.pointer (some ⟨vb, 0, none⟩), v] w fun r w' => AppR 5 B w v s (partS (d + 2) fs_DeleteTopicsRequest ver true t) r w' := by
  obtain ⟨⟨g_0, g_1, g_2, -⟩, hfu⟩ := hfit
  replace g_0 : FitF (FitP ver (d + 1)) ver fDeleteTopicsRequest_0 (t.at 0) := g_0
  replace g_1 : FitF (FitP ver (d + 1)) ver fDeleteTopicsRequest_1 (t.at 1) := g_1
  replace g_2 : FitF (FitP ver (d + 1)) ver fDeleteTopicsRequest_2 (t.at 2) := g_2
  obtain ⟨cs, q, hcs, hL, hT⟩ := hR.inv
  obtain ⟨c_0, e_0, rfl, h_0, c_1, e_1, rfl, h_1, c_2, e_2, rfl, h_2, rfl⟩ := hL
  replace h_0 : RepF (RepS true (d + 1)) (szS true (d + 1)) fDeleteTopicsRequest_0 okM w (t.at 0) c_0 := h_0
  replace h_1 : RepF (RepS true (d + 1)) (szS true (d + 1)) fDeleteTopicsRequest_1 okM w (t.at 1) c_1 := h_1
  replace h_2 : RepF (RepS true (d + 1)) (szS true (d + 1)) fDeleteTopicsRequest_2 okM w (t.at 2) c_2 := h_2
  have hn_0 := g_0.notnull (by decide)
  obtain ⟨p_0, rfl, hs_0, -⟩ := (RepF_list rfl hn_0).1 h_0
  obtain ⟨ab_0, ac_0, rfl, _⟩ := SlR.shape hs_0
  have hll_0 := (g_0.list rfl).1
  have hn_1 := g_1.notnull (by decide)
  obtain ⟨p_1, rfl, hs_1, -⟩ := (RepF_list rfl hn_1).1 h_1
  obtain ⟨ab_1, ac_1, rfl, _⟩ := SlR.shape hs_1
  have hll_1 := (g_1.list rfl).1
  obtain rfl := (RepF_num (by decide)).1 h_2
  obtain ⟨qm, rfl⟩ := hT.shape
  have hv : blk w vb = some (#[.int .i16 ver, .slice ab_0 (t.at 0).l.length ac_0, .slice ab_1 (t.at 1).l.length ac_1, .int .i32 (IntKind.i32.wrap (t.at 2).n), .map qm], 98, (0, 0)) := by rw [hvb, hcs]; rfl
  clear hvb hcs
  have hh_0 : hasS fDeleteTopicsRequest_0 ver = false := hasS_f (by show ver < 0 ∨ (0 ≤ (5 : Int) ∧ (5 : Int) < ver); omega)
  have hh_1 : hasS fDeleteTopicsRequest_1 ver = true := hasS_t (by show (6 : Int) ≤ ver; omega) (by show (-1 : Int) < 0 ∨ ver ≤ (-1 : Int); omega)
  obtain ⟨XL_1, hXL_1⟩ : ∃ X, X = uvarS ((t.at 1).l.length + 1) := ⟨_, rfl⟩
  obtain ⟨XE_1, hXE_1⟩ : ∃ X, X = (t.at 1).l.flatMap (fun x => partS (d + 1) fs_DeleteTopicsRequestTopic ver true x) := ⟨_, rfl⟩
  have hh_2 : hasS fDeleteTopicsRequest_2 ver = true := hasS_t (by show (0 : Int) ≤ ver; omega) (by show (-1 : Int) < 0 ∨ ver ≤ (-1 : Int); omega)
  obtain ⟨X_2, hXX_2⟩ : ∃ X, X = fixedS (t.at 2).n 4 := ⟨_, rfl⟩
  obtain ⟨XU, hXU⟩ : ∃ X, X = uvarS t.u.length := ⟨_, rfl⟩
  obtain ⟨XT, hXT⟩ : ∃ X, X = t.u.flatMap oneTag := ⟨_, rfl⟩
  have hP : partS (d + 2) fs_DeleteTopicsRequest ver true t = ((XL_1 ++ XE_1) ++ (X_2 ++ [])) ++ (XU ++ XT) := by rw [hXU, hXT]; exact partS_yes rfl hfu (plainL_not hh_0 (plainL_has (by decide) hh_1 ((fieldS_list_t (g := (fun x => partS (d + 1) fs_DeleteTopicsRequestTopic ver true x)) g_1 rfl (by decide) (fun x _ => valueS_part)).trans (by rw [hXL_1, hXE_1])) (plainL_has (by decide) hh_2 ((fieldS_num 3 rfl (by decide)).trans hXX_2.symm) rfl)))
  rw [hP] at hlen
  simp only [List.length_append, List.length_nil] at hlen
  have hdK : ∀ {r : Value} {w' : World} {add : List UInt8}, AppR 5 B w v s add r w' → ∀ b, b < w'.heap.size → OkS okM w.heap.size b → ¬ ownB r b := fun h b _ hk ho => (h.frame b ho).elim (hd b hk.2 hk.1) (fun h => by have := hk.2; omega)
  have ownK : ∀ {r : Value} {w' : World} {add : List UInt8} {b : Nat}, AppR 5 B w v s add r w' → b < w.heap.size → ¬ ownB v b → ¬ ownB r b := fun h hb hn ho => (h.frame _ ho).elim hn (fun h => by omega)
  have ha0 : AppR 5 B w v s [] v w := AppR.refl ho
  obtain ⟨w0, hw0⟩ : ∃ w0, w0 = w := ⟨_, rfl⟩
  have hB0 := hB
  have hv_0 := hv
  refine fn_of_W Try.func88 rfl Try.results88 Try.ntmps88 rfl ?_
  repeat ((first | refine W.seqR rfl ?_ | refine W.seq ?_ | refine W.regR rfl ?_ | refine W.condK ?_ | refine W.block ?_ | refine W.skip ?_ | refine W.ret ?_ | refine W.exit ?_); try simp (maxSteps := 1000000) (disch := (first | omega | (simp only [World.size_alloc, size_wr, size_drew] <;> omega) | exact not_noB _)) only [go_sem, ↓reduceIte, n0, reduceCtorEq, n1, n2, n3, n4, n5, i0, i1, i2, i3, i4, i5, i6, i7, hv_0])
  refine (AppendCompactArrayLen_fn _ _ _ ha0.own hB0 (t.at 1).l.length hll_1 (by simp only [List.length_append, List.length_nil]; omega)).mono ?_
  rintro r1 w1 hc1
  rw [← hXL_1] at hc1
  have ha1 := ha0.trans hc1
  have hB1 : B ≤ w1.heap.size := Nat.le_trans hB ha1.upd.size
  have hv_1 := ha1.upd.blk_some hv hdv
  repeat ((first | refine W.seqR rfl ?_ | refine W.seq ?_ | refine W.regR rfl ?_ | refine W.condK ?_ | refine W.block ?_ | refine W.skip ?_ | refine W.ret ?_ | refine W.exit ?_); try simp (maxSteps := 1000000) (disch := (first | omega | (simp only [World.size_alloc, size_wr, size_drew] <;> omega) | exact not_noB _)) only [go_sem, ↓reduceIte, n0, reduceCtorEq, n1, n2, n3, n4, n5, i0, i1, i2, i3, i4, i5, i6, i7, hv_1])
  have hadd1 := ha1
  refine W.exitJ 2 (fun ρ w' => ∃ r, ρ 1 = r ∧ ρ 0 = .pointer (some ⟨vb, 0, none⟩) ∧ ρ 5 = .int .i16 ver ∧ ρ 6 = .bool true ∧ AppR 5 B w v s (([] ++ XL_1) ++ XE_1) r w')
    (W.loop (fun ρ w' => ∃ (j : Nat) (r : Value), j ≤ (t.at 1).l.length ∧ ρ 77 = .int .i64 j ∧ ρ 76 = .int .i64 (t.at 1).l.length ∧ ρ 10 = .slice ab_1 (t.at 1).l.length ac_1 ∧ ρ 1 = r ∧ ρ 0 = .pointer (some ⟨vb, 0, none⟩) ∧ ρ 5 = .int .i16 ver ∧ ρ 6 = .bool true ∧ AppR 5 B w v s (([] ++ XL_1) ++ ((t.at 1).l.take j).flatMap (fun x => partS (d + 1) fs_DeleteTopicsRequestTopic ver true x)) r w')
      (fun ρ _ => (t.at 1).l.length - (RowKit.intOf (ρ 77)).toNat) ?_ ?_) ?_
  · refine ⟨0, _, Nat.zero_le _, ?_, ?_, ?_, ?_, ?_, ?_, ?_, ha1.eqs (by rw [List.take_zero, List.flatMap_nil, List.append_nil])⟩ <;> simp (maxSteps := 1000000) (disch := (first | omega | (simp only [World.size_alloc, size_wr, size_drew] <;> omega) | exact not_noB _)) only [go_sem, ↓reduceIte, n0, reduceCtorEq, n1, n2, n3, n4, n5, i0, i1, i2, i3, i4, i5, i6, i7]
    all_goals rfl
  · rintro ρ w2 ⟨j1, r2, hj1, hI1, hN1, hS1, hr1_1, hr1_0, hr1_5, hr1_6, ha2⟩
    have hB2 : B ≤ w2.heap.size := Nat.le_trans hB ha2.upd.size
    have hv_2 := ha2.upd.blk_some hv hdv
    by_cases hlt1 : j1 < (t.at 1).l.length
    · obtain ⟨_, b1, o1, x1, ce1, hb1, hok1, hx1, hbl1, hxs1, hxe1, hq1, hRe1⟩ := SlR.get (size := 18) (by decide) hs_1 hlt1
      subst hb1
      have hcat1 : (t.at 1).l.take (j1 + 1) = (t.at 1).l.take j1 ++ [(t.at 1).l[j1]] := List.take_succ_eq_append_getElem hlt1
      have htl1 := take_flatMap_len (t.at 1).l (fun x => partS (d + 1) fs_DeleteTopicsRequestTopic ver true x) (j1 + 1)
      rw [← hXE_1, hcat1, List.flatMap_append, List.flatMap_cons, List.flatMap_nil, List.append_nil] at htl1
      have hge1 := (g_1.list rfl).2 _ (List.getElem_mem hlt1)
      generalize (t.at 1).l[j1] = y1 at *
      have hnx1 := hd b1 hbl1 hok1
      obtain ⟨T1, hTT1⟩ : ∃ T, T = ((t.at 1).l.take j1).flatMap (fun x => partS (d + 1) fs_DeleteTopicsRequestTopic ver true x) := ⟨_, rfl⟩
      rw [← hTT1] at ha2 htl1
      have hx1_2 := ha2.upd.blk_some hx1 hnx1
      replace hRe1 : RepS true (d + 1) fs_DeleteTopicsRequestTopic okM w y1 ce1 := Rep1_part.1 hRe1
      have hfe1 : FitP ver (d + 1) fs_DeleteTopicsRequestTopic y1 := hge1.2.2 rfl
      obtain ⟨⟨ge1_0, ge1_1, -⟩, hfue1⟩ := hfe1
      replace ge1_0 : FitF (FitP ver d) ver fDeleteTopicsRequestTopic_0 (y1.at 0) := ge1_0
      replace ge1_1 : FitF (FitP ver d) ver fDeleteTopicsRequestTopic_1 (y1.at 1) := ge1_1
      obtain ⟨cse1, qe1, hcse1, hLe1, hTe1⟩ := hRe1.inv
      obtain ⟨ce1_0, ee1_0, rfl, he1_0, ce1_1, ee1_1, rfl, he1_1, rfl⟩ := hLe1
      replace he1_0 : RepF (RepS true d) (szS true d) fDeleteTopicsRequestTopic_0 okM w (y1.at 0) ce1_0 := he1_0
      replace he1_1 : RepF (RepS true d) (szS true d) fDeleteTopicsRequestTopic_1 okM w (y1.at 1) ce1_1 := he1_1
      obtain ⟨pe1_0, rfl, hpe1_0⟩ := (RepF_ptr rfl (by decide)).1 he1_0
      obtain rfl := (RepF_uuid rfl).1 he1_1
      have hx16e1_1 : ((uuidS (y1.at 1).s).map byteV).length = 16 := by rw [List.length_map, uuidS_len]
      have hfxe1_1 := flat_bytes (uuidS (y1.at 1).s)
      generalize hXe1_1 : (uuidS (y1.at 1).s).map byteV = Ze1_1 at *
      obtain ⟨ze1_1_0, ze1_1_1, ze1_1_2, ze1_1_3, ze1_1_4, ze1_1_5, ze1_1_6, ze1_1_7, ze1_1_8, ze1_1_9, ze1_1_10, ze1_1_11, ze1_1_12, ze1_1_13, ze1_1_14, ze1_1_15, rfl⟩ := list16 hx16e1_1
      simp only [List.all_cons, List.all_nil, Bool.and_true, Bool.and_eq_true] at hfxe1_1
      obtain ⟨fze1_1_0, fze1_1_1, fze1_1_2, fze1_1_3, fze1_1_4, fze1_1_5, fze1_1_6, fze1_1_7, fze1_1_8, fze1_1_9, fze1_1_10, fze1_1_11, fze1_1_12, fze1_1_13, fze1_1_14, fze1_1_15⟩ := hfxe1_1
      obtain ⟨qme1, rfl⟩ := hTe1.shape
      subst hcse1
      have hq1_0 : x1.1[o1 + j1 * 18]? = some (pe1_0) := hq1 0 (by decide)
      have hq1_1 : x1.1[o1 + (j1 * 18 + 1)]? = some (ze1_1_0) := hq1 1 (by decide)
      have hq1_2 : x1.1[o1 + (j1 * 18 + 2)]? = some (ze1_1_1) := hq1 2 (by decide)
      have hq1_3 : x1.1[o1 + (j1 * 18 + 3)]? = some (ze1_1_2) := hq1 3 (by decide)
      have hq1_4 : x1.1[o1 + (j1 * 18 + 4)]? = some (ze1_1_3) := hq1 4 (by decide)
      have hq1_5 : x1.1[o1 + (j1 * 18 + 5)]? = some (ze1_1_4) := hq1 5 (by decide)
      have hq1_6 : x1.1[o1 + (j1 * 18 + 6)]? = some (ze1_1_5) := hq1 6 (by decide)
      have hq1_7 : x1.1[o1 + (j1 * 18 + 7)]? = some (ze1_1_6) := hq1 7 (by decide)
      have hq1_8 : x1.1[o1 + (j1 * 18 + 8)]? = some (ze1_1_7) := hq1 8 (by decide)
      have hq1_9 : x1.1[o1 + (j1 * 18 + 9)]? = some (ze1_1_8) := hq1 9 (by decide)
      have hq1_10 : x1.1[o1 + (j1 * 18 + 10)]? = some (ze1_1_9) := hq1 10 (by decide)
      have hq1_11 : x1.1[o1 + (j1 * 18 + 11)]? = some (ze1_1_10) := hq1 11 (by decide)
      have hq1_12 : x1.1[o1 + (j1 * 18 + 12)]? = some (ze1_1_11) := hq1 12 (by decide)
      have hq1_13 : x1.1[o1 + (j1 * 18 + 13)]? = some (ze1_1_12) := hq1 13 (by decide)
      have hq1_14 : x1.1[o1 + (j1 * 18 + 14)]? = some (ze1_1_13) := hq1 14 (by decide)
      have hq1_15 : x1.1[o1 + (j1 * 18 + 15)]? = some (ze1_1_14) := hq1 15 (by decide)
      have hq1_16 : x1.1[o1 + (j1 * 18 + 16)]? = some (ze1_1_15) := hq1 16 (by decide)
      have hq1_17 : x1.1[o1 + (j1 * 18 + 17)]? = some (.map qme1) := hq1 17 (by decide)
      have hxu1_1 : cellsAt x1.1 (o1 + (j1 * 18 + 1)) 16 = some (.agg #[ze1_1_0, ze1_1_1, ze1_1_2, ze1_1_3, ze1_1_4, ze1_1_5, ze1_1_6, ze1_1_7, ze1_1_8, ze1_1_9, ze1_1_10, ze1_1_11, ze1_1_12, ze1_1_13, ze1_1_14, ze1_1_15]) := by
        refine cellsAt_of (l := [ze1_1_0, ze1_1_1, ze1_1_2, ze1_1_3, ze1_1_4, ze1_1_5, ze1_1_6, ze1_1_7, ze1_1_8, ze1_1_9, ze1_1_10, ze1_1_11, ze1_1_12, ze1_1_13, ze1_1_14, ze1_1_15]) (fun j hj => ?_) rfl (by omega)
        rw [show o1 + (j1 * 18 + 1) + j = o1 + (j1 * 18 + (1 + j)) by omega]
        exact (hq1 (1 + j) (by omega)).trans (get_mid (pre := [pe1_0]) (xs := [ze1_1_0, ze1_1_1, ze1_1_2, ze1_1_3, ze1_1_4, ze1_1_5, ze1_1_6, ze1_1_7, ze1_1_8, ze1_1_9, ze1_1_10, ze1_1_11, ze1_1_12, ze1_1_13, ze1_1_14, ze1_1_15]) (post := [.map qme1]) hj)
      have hhe1_0 : hasS fDeleteTopicsRequestTopic_0 ver = true := hasS_t (by show (0 : Int) ≤ ver; omega) (by show (-1 : Int) < 0 ∨ ver ≤ (-1 : Int); omega)
      obtain ⟨Xe1_0, hXXe1_0⟩ : ∃ X, X = if (y1.at 0).null = true then [0] else uvarS ((y1.at 0).s.length + 1) ++ (y1.at 0).s := ⟨_, rfl⟩
      have hhe1_1 : hasS fDeleteTopicsRequestTopic_1 ver = true := hasS_t (by show (0 : Int) ≤ ver; omega) (by show (-1 : Int) < 0 ∨ ver ≤ (-1 : Int); omega)
      obtain ⟨Xe1_1, hXXe1_1⟩ : ∃ X, X = uuidS (y1.at 1).s := ⟨_, rfl⟩
      obtain ⟨XUe1, hXUe1⟩ : ∃ X, X = uvarS y1.u.length := ⟨_, rfl⟩
      obtain ⟨XTe1, hXTe1⟩ : ∃ X, X = y1.u.flatMap oneTag := ⟨_, rfl⟩
      have hPe1 : partS (d + 1) fs_DeleteTopicsRequestTopic ver true y1 = (Xe1_0 ++ (Xe1_1 ++ [])) ++ (XUe1 ++ XTe1) := by rw [hXUe1, hXTe1]; exact partS_yes rfl hfue1 (plainL_has (by decide) hhe1_0 ((fieldS_ptr_t ge1_0 rfl).trans hXXe1_0.symm) (plainL_has (by decide) hhe1_1 ((fieldS_uuid rfl).trans hXXe1_1.symm) rfl))
      rw [hPe1] at htl1
      simp only [List.length_append, List.length_nil] at htl1
      repeat ((first | refine W.seqR rfl ?_ | refine W.seq ?_ | refine W.regR rfl ?_ | refine W.condK ?_ | refine W.block ?_ | refine W.skip ?_ | refine W.ret ?_ | refine W.exit ?_); try simp (maxSteps := 1000000) (disch := (first | omega | (simp only [World.size_alloc, size_wr, size_drew] <;> omega) | exact not_noB _)) only [go_sem, ↓reduceIte, n0, reduceCtorEq, n1, n2, n3, n4, n5, i0, i1, i2, i3, i4, i5, i6, i7, hv_2, hx1_2, Int.toNat_natCast, Nat.mul_one, hq1_0, hq1_1, hq1_2, hq1_3, hq1_4, hq1_5, hq1_6, hq1_7, hq1_8, hq1_9, hq1_10, hq1_11, hq1_12, hq1_13, hq1_14, hq1_15, hq1_16, hq1_17, fze1_1_0, fze1_1_1, fze1_1_2, fze1_1_3, fze1_1_4, fze1_1_5, fze1_1_6, fze1_1_7, fze1_1_8, fze1_1_9, fze1_1_10, fze1_1_11, fze1_1_12, fze1_1_13, fze1_1_14, fze1_1_15, hxu1_1, hr1_1, hr1_0, hr1_5, hr1_6, hI1, hN1, hS1])
      refine (AppendCompactNullableString_fn (ok := okM) _ _ _ ha2.own hB2 _ (y1.at 0).null (y1.at 0).s (hpe1_0.keep (ha2.upd.keeps hd)) (ge1_0.text (.inl rfl)) (by simp only [List.length_append, List.length_nil]; omega)).mono ?_
      rintro r3 w3 hc3
      rw [← hXXe1_0] at hc3
      have ha3 := ha2.trans hc3
      have hB3 : B ≤ w3.heap.size := Nat.le_trans hB ha3.upd.size
      have hv_3 := ha3.upd.blk_some hv hdv
      have hx1_3 := ha3.upd.blk_some hx1 hnx1
      have hcze1_1 : cellsAt #[ze1_1_0, ze1_1_1, ze1_1_2, ze1_1_3, ze1_1_4, ze1_1_5, ze1_1_6, ze1_1_7, ze1_1_8, ze1_1_9, ze1_1_10, ze1_1_11, ze1_1_12, ze1_1_13, ze1_1_14, ze1_1_15] 0 16 = some (.agg #[ze1_1_0, ze1_1_1, ze1_1_2, ze1_1_3, ze1_1_4, ze1_1_5, ze1_1_6, ze1_1_7, ze1_1_8, ze1_1_9, ze1_1_10, ze1_1_11, ze1_1_12, ze1_1_13, ze1_1_14, ze1_1_15]) := cellsAt_full rfl
      repeat ((first | refine W.seqR rfl ?_ | refine W.seq ?_ | refine W.regR rfl ?_ | refine W.condK ?_ | refine W.block ?_ | refine W.skip ?_ | refine W.ret ?_ | refine W.exit ?_); try simp (maxSteps := 1000000) (disch := (first | omega | (simp only [World.size_alloc, size_wr, size_drew] <;> omega) | exact not_noB _)) only [go_sem, ↓reduceIte, n0, reduceCtorEq, n1, n2, n3, n4, n5, i0, i1, i2, i3, i4, i5, i6, i7, hv_3, hx1_3, Int.toNat_natCast, Nat.mul_one, hq1_0, hq1_1, hq1_2, hq1_3, hq1_4, hq1_5, hq1_6, hq1_7, hq1_8, hq1_9, hq1_10, hq1_11, hq1_12, hq1_13, hq1_14, hq1_15, hq1_16, hq1_17, fze1_1_0, fze1_1_1, fze1_1_2, fze1_1_3, fze1_1_4, fze1_1_5, fze1_1_6, fze1_1_7, fze1_1_8, fze1_1_9, fze1_1_10, fze1_1_11, fze1_1_12, fze1_1_13, fze1_1_14, fze1_1_15, hxu1_1, hr1_1, hr1_0, hr1_5, hr1_6, hI1, hN1, hS1, hcze1_1])
      generalize hwu4 : wr (w3.alloc (.cells #[.int .u8 0, .int .u8 0, .int .u8 0, .int .u8 0, .int .u8 0, .int .u8 0, .int .u8 0, .int .u8 0, .int .u8 0, .int .u8 0, .int .u8 0, .int .u8 0, .int .u8 0, .int .u8 0, .int .u8 0, .int .u8 0] 168)) w3.heap.size 0 [ze1_1_0, ze1_1_1, ze1_1_2, ze1_1_3, ze1_1_4, ze1_1_5, ze1_1_6, ze1_1_7, ze1_1_8, ze1_1_9, ze1_1_10, ze1_1_11, ze1_1_12, ze1_1_13, ze1_1_14, ze1_1_15] = w4
      have hEu4 : Ext w3 w4 := by rw [← hwu4]; exact (Upd.alloc (Upd.refl _ _) _).wr _ _ (.inl (Nat.le_refl _))
      clear hwu4
      have ha4 := ha3.then hEu4
      have hB4 : B ≤ w4.heap.size := Nat.le_trans hB ha4.upd.size
      have hv_4 := ha4.upd.blk_some hv hdv
      have hx1_4 := ha4.upd.blk_some hx1 hnx1
      have hu4 := AppendUuid_fn r3 _ w4 ha4.own hB4 (uuidS (y1.at 1).s) (uuidS_len _) (by simp only [List.length_append, List.length_nil]; omega)
      rw [hXe1_1, ← hXXe1_1] at hu4
      refine (hu4).mono ?_
      rintro r5 w5 hc5
      have ha5 := ha4.trans hc5
      have hB5 : B ≤ w5.heap.size := Nat.le_trans hB ha5.upd.size
      have hv_5 := ha5.upd.blk_some hv hdv
      have hx1_5 := ha5.upd.blk_some hx1 hnx1
      repeat ((first | refine W.seqR rfl ?_ | refine W.seq ?_ | refine W.regR rfl ?_ | refine W.condK ?_ | refine W.block ?_ | refine W.skip ?_ | refine W.ret ?_ | refine W.exit ?_); try simp (maxSteps := 1000000) (disch := (first | omega | (simp only [World.size_alloc, size_wr, size_drew] <;> omega) | exact not_noB _)) only [go_sem, ↓reduceIte, n0, reduceCtorEq, n1, n2, n3, n4, n5, i0, i1, i2, i3, i4, i5, i6, i7, hv_5, hx1_5, Int.toNat_natCast, Nat.mul_one, hq1_0, hq1_1, hq1_2, hq1_3, hq1_4, hq1_5, hq1_6, hq1_7, hq1_8, hq1_9, hq1_10, hq1_11, hq1_12, hq1_13, hq1_14, hq1_15, hq1_16, hq1_17, fze1_1_0, fze1_1_1, fze1_1_2, fze1_1_3, fze1_1_4, fze1_1_5, fze1_1_6, fze1_1_7, fze1_1_8, fze1_1_9, fze1_1_10, fze1_1_11, fze1_1_12, fze1_1_13, fze1_1_14, fze1_1_15, hxu1_1, hr1_1, hr1_0, hr1_5, hr1_6, hI1, hN1, hS1])
      have hTk5 : TagsM (OkS okM w.heap.size) w5 (.map qme1) y1.u := (hTe1.weaken fun b h1 h2 => ⟨h2, h1⟩).keep (ha5.upd.keeps fun b hb hk => hd b hb hk.1)
      refine (TagsLen_fn (ok := OkS okM w.heap.size) w5 hx1_5 (to := o1 + (j1 * 18 + 17)) hq1_17 hTk5).mono ?_
      rintro _ w5' ⟨rfl, rfl⟩
      have hul5 : y1.u.length ≤ 32767 := hfue1.1
      have ew5 : IntKind.u32.wrap (y1.u.length : Int) = y1.u.length := u32_wrap (by omega)
      have ez5 : IntKind.u32.wrap (0 + (y1.u.length : Int)) = y1.u.length := by rw [Int.zero_add, u32_wrap (by omega)]
      simp (maxSteps := 1000000) (disch := (first | omega | (simp only [World.size_alloc, size_wr, size_drew] <;> omega) | exact not_noB _)) only [go_sem, ↓reduceIte, n0, reduceCtorEq, n1, n2, n3, n4, n5, i0, i1, i2, i3, i4, i5, i6, i7, hv_5, hx1_5, Int.toNat_natCast, Nat.mul_one, hq1_0, hq1_1, hq1_2, hq1_3, hq1_4, hq1_5, hq1_6, hq1_7, hq1_8, hq1_9, hq1_10, hq1_11, hq1_12, hq1_13, hq1_14, hq1_15, hq1_16, hq1_17, fze1_1_0, fze1_1_1, fze1_1_2, fze1_1_3, fze1_1_4, fze1_1_5, fze1_1_6, fze1_1_7, fze1_1_8, fze1_1_9, fze1_1_10, fze1_1_11, fze1_1_12, fze1_1_13, fze1_1_14, fze1_1_15, hxu1_1, hr1_1, hr1_0, hr1_5, hr1_6, hI1, hN1, hS1, ew5, ez5]
      refine (AppendUvarint_fn _ _ _ ha5.own hB5 y1.u.length (by omega) (by simp only [List.length_append, List.length_nil]; omega)).mono ?_
      rintro r6 w6 hc6
      rw [← hXUe1] at hc6
      have ha6 := ha5.trans hc6
      have hB6 : B ≤ w6.heap.size := Nat.le_trans hB ha6.upd.size
      have hv_6 := ha6.upd.blk_some hv hdv
      have hx1_6 := ha6.upd.blk_some hx1 hnx1
      repeat ((first | refine W.seqR rfl ?_ | refine W.seq ?_ | refine W.regR rfl ?_ | refine W.condK ?_ | refine W.block ?_ | refine W.skip ?_ | refine W.ret ?_ | refine W.exit ?_); try simp (maxSteps := 1000000) (disch := (first | omega | (simp only [World.size_alloc, size_wr, size_drew] <;> omega) | exact not_noB _)) only [go_sem, ↓reduceIte, n0, reduceCtorEq, n1, n2, n3, n4, n5, i0, i1, i2, i3, i4, i5, i6, i7, hv_6, hx1_6, Int.toNat_natCast, Nat.mul_one, hq1_0, hq1_1, hq1_2, hq1_3, hq1_4, hq1_5, hq1_6, hq1_7, hq1_8, hq1_9, hq1_10, hq1_11, hq1_12, hq1_13, hq1_14, hq1_15, hq1_16, hq1_17, fze1_1_0, fze1_1_1, fze1_1_2, fze1_1_3, fze1_1_4, fze1_1_5, fze1_1_6, fze1_1_7, fze1_1_8, fze1_1_9, fze1_1_10, fze1_1_11, fze1_1_12, fze1_1_13, fze1_1_14, fze1_1_15, hxu1_1, hr1_1, hr1_0, hr1_5, hr1_6, hI1, hN1, hS1])
      have hTk6 : TagsM (OkS okM w.heap.size) w6 (.map qme1) y1.u := (hTe1.weaken fun b h1 h2 => ⟨h2, h1⟩).keep (ha6.upd.keeps fun b hb hk => hd b hb hk.1)
      refine (AppendEach_fn (ok := OkS okM w.heap.size) _ _ _ ha6.own hB6 hx1_6 (to := o1 + (j1 * 18 + 17)) hq1_17 hTk6 (rising_keys hfue1) hfue1.1 (tags_small hfue1 hTk6) (hdK ha6) (ownK ha6 (blk_lt hx1) hnx1) (by simp only [List.length_append, List.length_nil]; omega)).mono ?_
      rintro r7 w7 hc7
      rw [← hXTe1] at hc7
      have ha7 := ha6.trans hc7
      have hB7 : B ≤ w7.heap.size := Nat.le_trans hB ha7.upd.size
      have hv_7 := ha7.upd.blk_some hv hdv
      have hx1_7 := ha7.upd.blk_some hx1 hnx1
      repeat ((first | refine W.seqR rfl ?_ | refine W.seq ?_ | refine W.regR rfl ?_ | refine W.condK ?_ | refine W.block ?_ | refine W.skip ?_ | refine W.ret ?_ | refine W.exit ?_); try simp (maxSteps := 1000000) (disch := (first | omega | (simp only [World.size_alloc, size_wr, size_drew] <;> omega) | exact not_noB _)) only [go_sem, ↓reduceIte, n0, reduceCtorEq, n1, n2, n3, n4, n5, i0, i1, i2, i3, i4, i5, i6, i7, hr1_1, hr1_0, hr1_5, hr1_6, hI1, hN1, hS1])
      refine ⟨⟨j1 + 1, _, by omega, rfl, rfl, ha7.eqs ?_⟩, ?_⟩
      · rw [hcat1, List.flatMap_append, List.flatMap_cons, List.flatMap_nil, List.append_nil, ← hTT1, hPe1]; simp only [List.append_assoc, List.append_nil, List.nil_append]
      · simp only [RowKit.intOf]; omega
    · have hjl1 : j1 = (t.at 1).l.length := by omega
      subst hjl1
      rw [List.take_length, ← hXE_1] at ha2
      repeat ((first | refine W.seqR rfl ?_ | refine W.seq ?_ | refine W.regR rfl ?_ | refine W.condK ?_ | refine W.block ?_ | refine W.skip ?_ | refine W.ret ?_ | refine W.exit ?_); try simp (maxSteps := 1000000) (disch := (first | omega | (simp only [World.size_alloc, size_wr, size_drew] <;> omega) | exact not_noB _)) only [go_sem, ↓reduceIte, n0, reduceCtorEq, n1, n2, n3, n4, n5, i0, i1, i2, i3, i4, i5, i6, i7, hI1, hN1])
      exact ⟨_, hr1_1, hr1_0, hr1_5, hr1_6, ha2⟩
  · rintro ρ w8 ⟨r8, hr1_2, hr2_0, hr2_5, hr2_6, ha8⟩
    have hB8 : B ≤ w8.heap.size := Nat.le_trans hB ha8.upd.size
    have hv_8 := ha8.upd.blk_some hv hdv
    repeat ((first | refine W.seqR rfl ?_ | refine W.seq ?_ | refine W.regR rfl ?_ | refine W.condK ?_ | refine W.block ?_ | refine W.skip ?_ | refine W.ret ?_ | refine W.exit ?_); try simp (maxSteps := 1000000) (disch := (first | omega | (simp only [World.size_alloc, size_wr, size_drew] <;> omega) | exact not_noB _)) only [go_sem, ↓reduceIte, n0, reduceCtorEq, n1, n2, n3, n4, n5, i0, i1, i2, i3, i4, i5, i6, i7, hv_8, hr1_2, hr2_0, hr2_5, hr2_6])
    refine (AppendInt32_fn _ _ _ ha8.own hB8 _ (by simp only [List.length_append, List.length_nil]; omega)).mono ?_
    rintro r9 w9 hc9
    rw [wrap32, ← hXX_2] at hc9
    have ha9 := ha8.trans hc9
    have hB9 : B ≤ w9.heap.size := Nat.le_trans hB ha9.upd.size
    have hv_9 := ha9.upd.blk_some hv hdv
    repeat ((first | refine W.seqR rfl ?_ | refine W.seq ?_ | refine W.regR rfl ?_ | refine W.condK ?_ | refine W.block ?_ | refine W.skip ?_ | refine W.ret ?_ | refine W.exit ?_); try simp (maxSteps := 1000000) (disch := (first | omega | (simp only [World.size_alloc, size_wr, size_drew] <;> omega) | exact not_noB _)) only [go_sem, ↓reduceIte, n0, reduceCtorEq, n1, n2, n3, n4, n5, i0, i1, i2, i3, i4, i5, i6, i7, hv_9, hr1_2, hr2_0, hr2_5, hr2_6])
    have hTk9 : TagsM (OkS okM w.heap.size) w9 (.map qm) t.u := (hT.weaken fun b h1 h2 => ⟨h2, h1⟩).keep (ha9.upd.keeps fun b hb hk => hd b hb hk.1)
    refine (TagsLen_fn (ok := OkS okM w.heap.size) w9 hv_9 (to := 4) (show (#[.int .i16 ver, .slice ab_0 (t.at 0).l.length ac_0, .slice ab_1 (t.at 1).l.length ac_1, .int .i32 (IntKind.i32.wrap (t.at 2).n), .map qm] : Array Value)[4]? = some (.map qm) from rfl) hTk9).mono ?_
    rintro _ w9' ⟨rfl, rfl⟩
    have hul9 : t.u.length ≤ 32767 := hfu.1
    have ew9 : IntKind.u32.wrap (t.u.length : Int) = t.u.length := u32_wrap (by omega)
    have ez9 : IntKind.u32.wrap (0 + (t.u.length : Int)) = t.u.length := by rw [Int.zero_add, u32_wrap (by omega)]
    simp (maxSteps := 1000000) (disch := (first | omega | (simp only [World.size_alloc, size_wr, size_drew] <;> omega) | exact not_noB _)) only [go_sem, ↓reduceIte, n0, reduceCtorEq, n1, n2, n3, n4, n5, i0, i1, i2, i3, i4, i5, i6, i7, hv_9, hr1_2, hr2_0, hr2_5, hr2_6, ew9, ez9]
    refine (AppendUvarint_fn _ _ _ ha9.own hB9 t.u.length (by omega) (by simp only [List.length_append, List.length_nil]; omega)).mono ?_
    rintro r10 w10 hc10
    rw [← hXU] at hc10
    have ha10 := ha9.trans hc10
    have hB10 : B ≤ w10.heap.size := Nat.le_trans hB ha10.upd.size
    have hv_10 := ha10.upd.blk_some hv hdv
    repeat ((first | refine W.seqR rfl ?_ | refine W.seq ?_ | refine W.regR rfl ?_ | refine W.condK ?_ | refine W.block ?_ | refine W.skip ?_ | refine W.ret ?_ | refine W.exit ?_); try simp (maxSteps := 1000000) (disch := (first | omega | (simp only [World.size_alloc, size_wr, size_drew] <;> omega) | exact not_noB _)) only [go_sem, ↓reduceIte, n0, reduceCtorEq, n1, n2, n3, n4, n5, i0, i1, i2, i3, i4, i5, i6, i7, hv_10, hr1_2, hr2_0, hr2_5, hr2_6])
    have hTk10 : TagsM (OkS okM w.heap.size) w10 (.map qm) t.u := (hT.weaken fun b h1 h2 => ⟨h2, h1⟩).keep (ha10.upd.keeps fun b hb hk => hd b hb hk.1)
    refine (AppendEach_fn (ok := OkS okM w.heap.size) _ _ _ ha10.own hB10 hv_10 (to := 4) (show (#[.int .i16 ver, .slice ab_0 (t.at 0).l.length ac_0, .slice ab_1 (t.at 1).l.length ac_1, .int .i32 (IntKind.i32.wrap (t.at 2).n), .map qm] : Array Value)[4]? = some (.map qm) from rfl) hTk10 (rising_keys hfu) hfu.1 (tags_small hfu hTk10) (hdK ha10) (ownK ha10 (blk_lt hv) hdv) (by simp only [List.length_append, List.length_nil]; omega)).mono ?_
    rintro r11 w11 hc11
    rw [← hXT] at hc11
    have ha11 := ha10.trans hc11
    have hB11 : B ≤ w11.heap.size := Nat.le_trans hB ha11.upd.size
    have hv_11 := ha11.upd.blk_some hv hdv
    repeat ((first | refine W.seqR rfl ?_ | refine W.seq ?_ | refine W.regR rfl ?_ | refine W.condK ?_ | refine W.block ?_ | refine W.skip ?_ | refine W.ret ?_ | refine W.exit ?_); try simp (maxSteps := 1000000) (disch := (first | omega | (simp only [World.size_alloc, size_wr, size_drew] <;> omega) | exact not_noB _)) only [go_sem, ↓reduceIte, n0, reduceCtorEq, n1, n2, n3, n4, n5, i0, i1, i2, i3, i4, i5, i6, i7, hv_11, hr1_2, hr2_0, hr2_5, hr2_6])
    refine ha11.eqs ?_
    rw [hP]; simp only [List.append_assoc, List.append_nil, List.nil_append]
end Ms

namespace Ms
open Nat renaming reduceEqDiff → n0, reduceAdd → n1, reduceMul → n2, reduceSub → n3, reduceLT → n4, reduceLeDiff → n5
open Int renaming reduceEq → i0, reduceLT → i1, reduceLE → i2, reduceNeg → i3, reduceAdd → i4, reduceSub → i5, reduceMul → i6, reduceToNat → i7
set_option maxRecDepth 8000
open Go Go.Proofs Go.Shelf
attribute [local congr] W_congr WPsq_congr WPp_congr optK_congr addrK_congr intK_congr boolK_congr sliceK_congr tupleK_congr funcK_congr Fn_congr rawK_congr takeK_congr stepK_congr convK_congr aggK_congr

set_option maxHeartbeats 1000000 in
theorem MakeDeleteTopicsRequest_fn {ok : Blocks} (t : Tree) (ct : List Value) (w : World) (ver : Nat) (hv : ver ≤ 6) (ht : TreeC ok w t ct) (hfit : FitP ver 3 fs_DeleteTopicsRequest t) (hLs : Lists t) (hlen : (partS 3 fs_DeleteTopicsRequest ver (flexB 4 ver) t).length ≤ 2 ^ 41) :
    Fn Try.prog 36 #[.int .i64 ver, .agg ct.toArray] w fun r w' => OwnBy 5 w.heap.size w' r (partS 3 fs_DeleteTopicsRequest ver (flexB 4 ver) t) ∧ Ext w w' := by
  replace ht : TreeC (fun b => b < w.heap.size) w t ct := ht.weaken fun b hb _ => hb
  obtain ⟨vS, vL, vU, rfl, hn, hS, hL, hU⟩ := ht.inv
  obtain ⟨bS, cS, rfl, _⟩ := hS.shape
  obtain ⟨bL, cL, rfl, _⟩ := SlR.shape hL
  obtain ⟨bU, cU, rfl, _⟩ := SlR.shape hU
  have ew : IntKind.i16.wrap (ver : Int) = ver := i16_wrap (by omega)
  have hE1 : Ext w ((w.alloc (.cells #[.int .i64 t.n, .slice bS t.s.length cS, .bool t.null, .slice bL t.l.length cL, .slice bU t.u.length cU] 39)).alloc (.cells #[.int .i16 0, .slice none 0 0, .slice none 0 0, .int .i32 0, .map none] 98)) := Upd.alloc (Upd.alloc (Upd.refl _ _) _) _
  have hb1 : blk ((w.alloc (.cells #[.int .i64 t.n, .slice bS t.s.length cS, .bool t.null, .slice bL t.l.length cL, .slice bU t.u.length cU] 39)).alloc (.cells #[.int .i16 0, .slice none 0 0, .slice none 0 0, .int .i32 0, .map none] 98)) (w.heap.size + 1) = some (#[.int .i16 0, .slice none 0 0, .slice none 0 0, .int .i32 0, .map none], 98, (0, 0)) := blk_alloc_new (by simp only [World.size_alloc])
  have htb1 : blk ((w.alloc (.cells #[.int .i64 t.n, .slice bS t.s.length cS, .bool t.null, .slice bL t.l.length cL, .slice bU t.u.length cU] 39)).alloc (.cells #[.int .i16 0, .slice none 0 0, .slice none 0 0, .int .i32 0, .map none] 98)) w.heap.size = some (#[.int .i64 t.n, .slice bS t.s.length cS, .bool t.null, .slice bL t.l.length cL, .slice bU t.u.length cU], 39, (0, 0)) := by simp (maxSteps := 1000000) (disch := (first | omega | (simp only [World.size_alloc, size_wr, size_drew] <;> omega) | exact not_noB _)) only [go_sem, ↓reduceIte, n0, reduceCtorEq, n1, n2, n3, n4, n5, i0, i1, i2, i3, i4, i5, i6, i7]
  have hz1 : ((w.alloc (.cells #[.int .i64 t.n, .slice bS t.s.length cS, .bool t.null, .slice bL t.l.length cL, .slice bU t.u.length cU] 39)).alloc (.cells #[.int .i16 0, .slice none 0 0, .slice none 0 0, .int .i32 0, .map none] 98)).heap.size = w.heap.size + 2 := by simp only [World.size_alloc]
  refine fn_of_W Try.func36 rfl Try.results36 Try.ntmps36 rfl ?_
  repeat ((first | refine W.seqR rfl ?_ | refine W.seq ?_ | refine W.regR rfl ?_ | refine W.condK ?_ | refine W.block ?_ | refine W.skip ?_ | refine W.ret ?_ | refine W.exit ?_); try simp (maxSteps := 1000000) (disch := (first | omega | (simp only [World.size_alloc, size_wr, size_drew] <;> omega) | exact not_noB _)) only [go_sem, ↓reduceIte, n0, reduceCtorEq, n1, n2, n3, n4, n5, i0, i1, i2, i3, i4, i5, i6, i7, ew])
  generalize ((w.alloc (.cells #[.int .i64 t.n, .slice bS t.s.length cS, .bool t.null, .slice bL t.l.length cL, .slice bU t.u.length cU] 39)).alloc (.cells #[.int .i16 0, .slice none 0 0, .slice none 0 0, .int .i32 0, .map none] 98)) = w1 at *
  refine (SetVersionDeleteTopicsRequest_fn w1 (vb := w.heap.size + 1) ver hb1).mono ?_
  rintro _ w2 ⟨hb2, hU2⟩
  have hz2 := hU2.size
  have hE2 : Ext w w2 := hE1.more hU2 fun b hb h => by omega
  have htb2 := hU2.blk_some htb1 (by omega)
  repeat ((first | refine W.seqR rfl ?_ | refine W.seq ?_ | refine W.regR rfl ?_ | refine W.condK ?_ | refine W.block ?_ | refine W.skip ?_ | refine W.ret ?_ | refine W.exit ?_); try simp (maxSteps := 1000000) (disch := (first | omega | (simp only [World.size_alloc, size_wr, size_drew] <;> omega) | exact not_noB _)) only [go_sem, ↓reduceIte, n0, reduceCtorEq, n1, n2, n3, n4, n5, i0, i1, i2, i3, i4, i5, i6, i7, htb2, cellsAt_five])
  refine (fillDeleteTopicsRequest_fn (d := 1) (okT := fun b => b < w.heap.size) (V := ver) (ver := ver) t _ w2 (vb := w.heap.size + 1) hb2 (ht.keep (hE2.keeps _)) (fun b hb => by omega) hfit hLs).mono ?_
  rintro _ w3 ⟨cells, hb3, hR3, hU3⟩
  have hz3 := hU3.size
  have hE3 : Ext w w3 := hE2.more hU3 fun b hb h => by omega
  repeat ((first | refine W.seqR rfl ?_ | refine W.seq ?_ | refine W.regR rfl ?_ | refine W.condK ?_ | refine W.block ?_ | refine W.skip ?_ | refine W.ret ?_ | refine W.exit ?_); try simp (maxSteps := 1000000) (disch := (first | omega | (simp only [World.size_alloc, size_wr, size_drew] <;> omega) | exact not_noB _)) only [go_sem, ↓reduceIte, n0, reduceCtorEq, n1, n2, n3, n4, n5, i0, i1, i2, i3, i4, i5, i6, i7])
  have hcl : (0 ≤ (ver : Int) ∧ (ver : Int) ≤ 3) ∨ (4 ≤ (ver : Int) ∧ (ver : Int) ≤ 5) ∨ (6 ≤ (ver : Int) ∧ (ver : Int) ≤ 6) := by omega
  rcases hcl with ⟨h1, h2⟩ | ⟨h1, h2⟩ | ⟨h1, h2⟩
  · have hfl : flexB 4 ver = false := by simp only [flexB, Bool.and_eq_false_iff, decide_eq_false_iff_not]; omega
    rw [hfl] at hlen ⊢
    refine (appDeleteTopicsRequest_0 (d := 1) (B := w3.heap.size) (okM := okN (fun b => b < w.heap.size) w2.heap.size) h1 h2 t cells (.slice none 0 0) [] w3 (Own.nil _ _ _ _) (Nat.le_refl _) hb3 hR3 hfit (by rintro b _ _ ⟨a, n, c, h, _⟩; cases h) (by rintro ⟨a, n, c, h, _⟩; cases h) (by simpa using hlen)).mono ?_
    rintro r4 w4 h4
    repeat ((first | refine W.seqR rfl ?_ | refine W.seq ?_ | refine W.regR rfl ?_ | refine W.condK ?_ | refine W.block ?_ | refine W.skip ?_ | refine W.ret ?_ | refine W.exit ?_); try simp (maxSteps := 1000000) (disch := (first | omega | (simp only [World.size_alloc, size_wr, size_drew] <;> omega) | exact not_noB _)) only [go_sem, ↓reduceIte, n0, reduceCtorEq, n1, n2, n3, n4, n5, i0, i1, i2, i3, i4, i5, i6, i7])
    refine ⟨?_, hE3.more h4.upd fun b hb h => by obtain ⟨a, n, c, h, _⟩ := h; cases h⟩
    have := h4.own
    rw [List.nil_append] at this
    exact Own.mono this (by omega)
  · have hfl : flexB 4 ver = true := by simp only [flexB, Bool.and_eq_true, decide_eq_true_eq]; omega
    rw [hfl] at hlen ⊢
    refine (appDeleteTopicsRequest_1 (d := 1) (B := w3.heap.size) (okM := okN (fun b => b < w.heap.size) w2.heap.size) h1 h2 t cells (.slice none 0 0) [] w3 (Own.nil _ _ _ _) (Nat.le_refl _) hb3 hR3 hfit (by rintro b _ _ ⟨a, n, c, h, _⟩; cases h) (by rintro ⟨a, n, c, h, _⟩; cases h) (by simpa using hlen)).mono ?_
    rintro r4 w4 h4
    repeat ((first | refine W.seqR rfl ?_ | refine W.seq ?_ | refine W.regR rfl ?_ | refine W.condK ?_ | refine W.block ?_ | refine W.skip ?_ | refine W.ret ?_ | refine W.exit ?_); try simp (maxSteps := 1000000) (disch := (first | omega | (simp only [World.size_alloc, size_wr, size_drew] <;> omega) | exact not_noB _)) only [go_sem, ↓reduceIte, n0, reduceCtorEq, n1, n2, n3, n4, n5, i0, i1, i2, i3, i4, i5, i6, i7])
    refine ⟨?_, hE3.more h4.upd fun b hb h => by obtain ⟨a, n, c, h, _⟩ := h; cases h⟩
    have := h4.own
    rw [List.nil_append] at this
    exact Own.mono this (by omega)
  · have hfl : flexB 4 ver = true := by simp only [flexB, Bool.and_eq_true, decide_eq_true_eq]; omega
    rw [hfl] at hlen ⊢
    refine (appDeleteTopicsRequest_2 (d := 1) (B := w3.heap.size) (okM := okN (fun b => b < w.heap.size) w2.heap.size) h1 h2 t cells (.slice none 0 0) [] w3 (Own.nil _ _ _ _) (Nat.le_refl _) hb3 hR3 hfit (by rintro b _ _ ⟨a, n, c, h, _⟩; cases h) (by rintro ⟨a, n, c, h, _⟩; cases h) (by simpa using hlen)).mono ?_
    rintro r4 w4 h4
    repeat ((first | refine W.seqR rfl ?_ | refine W.seq ?_ | refine W.regR rfl ?_ | refine W.condK ?_ | refine W.block ?_ | refine W.skip ?_ | refine W.ret ?_ | refine W.exit ?_); try simp (maxSteps := 1000000) (disch := (first | omega | (simp only [World.size_alloc, size_wr, size_drew] <;> omega) | exact not_noB _)) only [go_sem, ↓reduceIte, n0, reduceCtorEq, n1, n2, n3, n4, n5, i0, i1, i2, i3, i4, i5, i6, i7])
    refine ⟨?_, hE3.more h4.upd fun b hb h => by obtain ⟨a, n, c, h, _⟩ := h; cases h⟩
    have := h4.own
    rw [List.nil_append] at this
    exact Own.mono this (by omega)

set_option maxHeartbeats 1000000 in
theorem law_DeleteTopicsRequest {ok : Blocks} (n : Nat) (hn : n < 256) (t : Tree) (ct : List Value) (w : World) (ht : TreeC ok w t ct) (hsm : Small 4611686018427387903 t) {N : Nat} (hN : N ≤ 1048576) (hsz : Sized N t) :
    Fn Try.prog 8 #[.int .u8 n, .agg ct.toArray] w fun r w' => r = .bool true ∧ Ext w w' := by
  obtain ⟨vS, vL, vU, rfl, hn', hS, hL, hU⟩ := ht.inv
  have f1 := hS.flat
  have f2 := SlR.flat hL
  have f3 := SlR.flat hU
  have hE : Ext w (w.alloc (.cells #[.int .i64 t.n, vS, .bool t.null, vL, vU] 26)) := Upd.alloc (Upd.refl _ _) _
  refine fn_of_W Try.func8 rfl Try.results8 Try.ntmps8 rfl ?_
  repeat ((first | refine W.seqR rfl ?_ | refine W.seq ?_ | refine W.regR rfl ?_ | refine W.condK ?_ | refine W.block ?_ | refine W.skip ?_ | refine W.ret ?_ | refine W.exit ?_); try simp (maxSteps := 1000000) (disch := (first | omega | (simp only [World.size_alloc, size_wr, size_drew] <;> omega) | exact not_noB _)) only [go_sem, ↓reduceIte, n0, reduceCtorEq, n1, n2, n3, n4, n5, i0, i1, i2, i3, i4, i5, i6, i7, f1, f2, f3, cellsAt_five])
  have hb : blk (w.alloc (.cells #[.int .i64 t.n, vS, .bool t.null, vL, vU] 26)) w.heap.size = some (#[.int .i64 t.n, vS, .bool t.null, vL, vU], 26, (0, 0)) := blk_alloc_new rfl
  generalize (w.alloc (.cells #[.int .i64 t.n, vS, .bool t.null, vL, vU] 26)) = w1 at *
  refine (zzFits1_fn (ok := ok) t _ w1 (ht.keep (hE.keeps _)) hsm).mono ?_
  rintro r2 w2 ⟨⟨bb, rfl⟩, hE2⟩
  cases bb with
  | false =>
    simp (maxSteps := 1000000) (disch := (first | omega | (simp only [World.size_alloc, size_wr, size_drew] <;> omega) | exact not_noB _)) only [go_sem, ↓reduceIte, n0, reduceCtorEq, n1, n2, n3, n4, n5, i0, i1, i2, i3, i4, i5, i6, i7]
    repeat ((first | refine W.seqR rfl ?_ | refine W.seq ?_ | refine W.regR rfl ?_ | refine W.condK ?_ | refine W.block ?_ | refine W.skip ?_ | refine W.ret ?_ | refine W.exit ?_); try simp (maxSteps := 1000000) (disch := (first | omega | (simp only [World.size_alloc, size_wr, size_drew] <;> omega) | exact not_noB _)) only [go_sem, ↓reduceIte, n0, reduceCtorEq, n1, n2, n3, n4, n5, i0, i1, i2, i3, i4, i5, i6, i7])
    exact hE.trans hE2
  | true =>
    simp (maxSteps := 1000000) (disch := (first | omega | (simp only [World.size_alloc, size_wr, size_drew] <;> omega) | exact not_noB _)) only [go_sem, ↓reduceIte, n0, reduceCtorEq, n1, n2, n3, n4, n5, i0, i1, i2, i3, i4, i5, i6, i7]
    repeat ((first | refine W.seqR rfl ?_ | refine W.seq ?_ | refine W.regR rfl ?_ | refine W.condK ?_ | refine W.block ?_ | refine W.skip ?_ | refine W.ret ?_ | refine W.exit ?_); try simp (maxSteps := 1000000) (disch := (first | omega | (simp only [World.size_alloc, size_wr, size_drew] <;> omega) | exact not_noB _)) only [go_sem, ↓reduceIte, n0, reduceCtorEq, n1, n2, n3, n4, n5, i0, i1, i2, i3, i4, i5, i6, i7])
    refine (MaxDeleteTopicsRequest_fn w2).mono ?_
    rintro _ w2m ⟨rfl, hE2m⟩
    repeat ((first | refine W.seqR rfl ?_ | refine W.seq ?_ | refine W.regR rfl ?_ | refine W.condK ?_ | refine W.block ?_ | refine W.skip ?_ | refine W.ret ?_ | refine W.exit ?_); try simp (maxSteps := 1000000) (disch := (first | omega | (simp only [World.size_alloc, size_wr, size_drew] <;> omega) | exact not_noB _)) only [go_sem, ↓reduceIte, n0, reduceCtorEq, n1, n2, n3, n4, n5, i0, i1, i2, i3, i4, i5, i6, i7])
    refine (cDeleteTopicsRequest_fn w2m).mono ?_
    rintro r3 w3 ⟨⟨vs, rfl, hF0⟩, hE3⟩
    have hF : FldsV AnyB w3 vs fs_DeleteTopicsRequest := hF0.weaken fun _ _ _ => trivial
    have fF := SlR.flat hF
    simp (maxSteps := 1000000) (disch := (first | omega | (simp only [World.size_alloc, size_wr, size_drew] <;> omega) | exact not_noB _)) only [go_sem, ↓reduceIte, n0, reduceCtorEq, n1, n2, n3, n4, n5, i0, i1, i2, i3, i4, i5, i6, i7]
    refine (version_fn w3 n 6 hn (by decide)).mono ?_
    rintro _ w3v ⟨rfl, rfl⟩
    have hE03 : Ext w w3v := ((hE.trans hE2).trans hE2m).trans hE3
    have hb3 := hE3.blk_some (hE2m.blk_some (hE2.blk_some hb id) id) id
    have hE4 : Ext w3v (wr (w3v.alloc (.cells #[.slice none 0 0, .int .i64 0] 31)) w3v.heap.size 0 [vs, .int .i64 4]) := (Upd.alloc (Upd.refl _ _) _).wr _ _ (.inl (Nat.le_refl _))
    have hb4 : blk (wr (w3v.alloc (.cells #[.slice none 0 0, .int .i64 0] 31)) w3v.heap.size 0 [vs, .int .i64 4]) w3v.heap.size = some (#[vs, .int .i64 4], 31, (0, 0)) := by simp (maxSteps := 1000000) (disch := (first | omega | (simp only [World.size_alloc, size_wr, size_drew] <;> omega) | exact not_noB _)) only [go_sem, ↓reduceIte, n0, reduceCtorEq, n1, n2, n3, n4, n5, i0, i1, i2, i3, i4, i5, i6, i7]
    simp (maxSteps := 1000000) (disch := (first | omega | (simp only [World.size_alloc, size_wr, size_drew] <;> omega) | exact not_noB _)) only [go_sem, ↓reduceIte, n0, reduceCtorEq, n1, n2, n3, n4, n5, i0, i1, i2, i3, i4, i5, i6, i7, fF]
    generalize (wr (w3v.alloc (.cells #[.slice none 0 0, .int .i64 0] 31)) w3v.heap.size 0 [vs, .int .i64 4]) = w4 at *
    have hb34 := hE4.blk_some hb3 id
    have hv3 : n % 7 < 7 := Nat.mod_lt _ (by omega)
    generalize n % 7 = ver at *
    have hs1 := blk_lt hb4
    have hs2 := blk_lt hb34
    repeat ((first | refine W.seqR rfl ?_ | refine W.seq ?_ | refine W.regR rfl ?_ | refine W.condK ?_ | refine W.block ?_ | refine W.skip ?_ | refine W.ret ?_ | refine W.exit ?_); try simp (maxSteps := 1000000) (disch := (first | omega | (simp only [World.size_alloc, size_wr, size_drew] <;> omega) | exact not_noB _)) only [go_sem, ↓reduceIte, n0, reduceCtorEq, n1, n2, n3, n4, n5, i0, i1, i2, i3, i4, i5, i6, i7])
    refine W.drawR (.take 0 (.take 1 (.take 2 (.take 3 (.take 4 (.take 8 (.take 9 (.take 10 (.only 5 (.only 6 (.only 7 (.only 11 (.only 12 (.only 13 .done)))))))))))))) NoB mixed (by kernel_rfl) ?_
    simp (maxSteps := 1000000) (disch := (first | omega | (simp only [World.size_alloc, size_wr, size_drew] <;> omega) | exact not_noB _)) only [go_sem, ↓reduceIte, n0, reduceCtorEq, n1, n2, n3, n4, n5, i0, i1, i2, i3, i4, i5, i6, i7, hb34, hb4, cellsAt_five, cellsAt_two]
    have hE04d : Ext w w4.drew := (hE03.trans hE4).drew
    have hE3d : Ext w3v w4.drew := hE4.drew
    have hokF : okF 2 fs_DeleteTopicsRequest = true := by decide
    have hokM : okM 2 fs_DeleteTopicsRequest = true := by decide
    refine (fit_ok 2 AnyB fs_DeleteTopicsRequest ver t vs _ w4.drew (hF.keep (hE3d.keeps _)) hokF ((ht.weaken fun _ _ _ => trivial).keep (hE04d.keeps _)) hsm).mono ?_
    rintro r5 w5 ⟨⟨c5, rfl, hc5⟩, hE5⟩
    refine ⟨hE5, ?_⟩
    have hLs := fitS_lists 2 fs_DeleteTopicsRequest ver t (by decide) hokF
    refine (given_fn hLs _ c5 w5 hc5).mono ?_
    rintro r6 w6 ⟨⟨c6, rfl, hc6⟩, hE6⟩
    have hE56 : Ext w4.drew w6 := hE5.trans hE6
    refine ⟨hE56, ?_⟩
    have hpl : (partS 3 fs_DeleteTopicsRequest ver (flexB 4 ver) t).length ≤ 2 ^ 40 := Nat.le_trans (partS_bound ver _ 2 fs_DeleteTopicsRequest N t hokM hsz) (Nat.le_trans (Nat.mul_le_mul_left _ (Nat.succ_le_succ hN)) (by decide))
    have hpf : partS 3 fs_DeleteTopicsRequest ver (flexB 4 ver) (fitS 3 fs_DeleteTopicsRequest ver t) = partS 3 fs_DeleteTopicsRequest ver (flexB 4 ver) t := partS_fit ver (flexB 4 ver) 2 fs_DeleteTopicsRequest t hokM
    refine (MakeDeleteTopicsRequest_fn (fitS 3 fs_DeleteTopicsRequest ver t) c6 w6 ver (by omega) hc6 (fitS_fit ver 2 fs_DeleteTopicsRequest t hokM) hLs (by rw [hpf]; omega)).mono ?_
    rintro r7 w7 ⟨ho7, hE7⟩
    rw [hpf] at ho7
    have hE57 : Ext w4.drew w7 := hE56.trans hE7
    refine ⟨hE57, ?_⟩
    have hE07 : Ext w w7 := hE04d.trans hE57
    refine (Write_fn (ok := AnyB) (d := 2) fs_DeleteTopicsRequest 4 ver t vs _ w7 (hF.keep (Ext.keeps (hE3d.trans hE57) _)) hokF ((ht.weaken fun _ _ _ => trivial).keep (Ext.keeps hE07 _)) hsm hpl).mono ?_
    rintro r8 w8 ⟨ho8, hE8⟩
    have hE58 : Ext w4.drew w8 := hE57.trans hE8
    refine ⟨hE58, ?_⟩
    refine (Same_fn (ok := AnyB) _ _ r7 r8 w8 ((Own.bytes ho7 fun _ _ => trivial).keep (hE8.keeps _)) (Own.bytes ho8 fun _ _ => trivial) (by omega)).mono ?_
    rintro r9 w9 ⟨rfl, hE9⟩
    have hE59 : Ext w4.drew w9 := hE58.trans hE9
    refine ⟨hE59, hE59, ?_⟩
    repeat ((first | refine W.seqR rfl ?_ | refine W.seq ?_ | refine W.regR rfl ?_ | refine W.condK ?_ | refine W.block ?_ | refine W.skip ?_ | refine W.ret ?_ | refine W.exit ?_); try simp (maxSteps := 1000000) (disch := (first | omega | (simp only [World.size_alloc, size_wr, size_drew] <;> omega) | exact not_noB _)) only [go_sem, ↓reduceIte, n0, reduceCtorEq, n1, n2, n3, n4, n5, i0, i1, i2, i3, i4, i5, i6, i7])
    exact hE04d.trans hE59
end Ms

