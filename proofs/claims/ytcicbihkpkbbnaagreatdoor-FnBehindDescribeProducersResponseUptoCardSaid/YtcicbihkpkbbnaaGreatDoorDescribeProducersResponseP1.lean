/- A part of the proof: see the last text. -/
import Derived.Test.YtcicbihkpkbbnaaGreatDoorDescribeProducersResponseP0
set_option linter.unusedSimpArgs false
set_option linter.unusedVariables false
namespace Ms
open Nat renaming reduceEqDiff → n0, reduceAdd → n1, reduceMul → n2, reduceSub → n3, reduceLT → n4, reduceLeDiff → n5
open Int renaming reduceEq → i0, reduceLT → i1, reduceLE → i2, reduceNeg → i3, reduceAdd → i4, reduceSub → i5, reduceMul → i6, reduceToNat → i7
set_option maxRecDepth 8000
open Go Go.Proofs Go.Shelf
attribute [local congr] W_congr WPsq_congr WPp_congr optK_congr addrK_congr intK_congr boolK_congr sliceK_congr tupleK_congr funcK_congr Fn_congr rawK_congr takeK_congr stepK_congr convK_congr aggK_congr

set_option maxHeartbeats 4000000 in
theorem readDescribeProducersResponse_0 {d : Nat} {ok : Blocks} {ver : Int} {ev : Value} (hlo : 0 ≤ ver) (hhi : ver ≤ 0) (w : World) {vb : Nat} (src : Value) (s : List UInt8) (hv : blk w vb = some (#[.int .i16 ver, .int .i32 0, .slice none 0 0, .map none], 62, (0, 0))) (hsrc : BytesV ok w src s) (hok0 : ∀ b, ok b → b < w.heap.size ∧ b ≠ vb) (hG : Glo ev w) (hgv : ¬ 0 = vb ∧ ¬ 1 = vb) :
    Fn Tryz.prog 30 #[.pointer (some ⟨vb, 0, none⟩), src, .bool false] w (ReadQ 62 ok ver (d + 4) fs_DescribeProducersResponse vb w (rdP (d + 4) ver true fs_DescribeProducersResponse (some s)) ev) := by
  have hvl := blk_lt hv
  have hgs := hG.lt
  obtain ⟨sa, sc, rfl, _⟩ := hsrc.shape
  refine fn_of_W Tryz.func30 rfl Tryz.results30 Tryz.ntmps30 rfl ?_
  repeat ((first | refine W.seqR rfl ?_ | refine W.seq ?_ | refine W.regR rfl ?_ | refine W.condK ?_ | refine W.block ?_ | refine W.skip ?_ | refine W.ret ?_ | refine W.exit ?_); try simp (maxSteps := 1000000) (disch := (first | omega | (simp only [World.size_alloc, size_wr, size_drew] <;> omega) | exact not_noB _)) only [go_sem, ↓reduceIte, n0, reduceCtorEq, n1, n2, n3, n4, n5, i0, i1, i2, i3, i4, i5, i6, i7, hv])
  refine (DefaultDescribeProducersResponse_fn w hv).mono ?_
  rintro _ w0 ⟨hv0, hu0⟩
  have hz0 := hu0.size
  have hsrc0 : BytesV ok w0 (.slice sa s.length sc) s := hsrc.keep (hu0.keeps fun b _ hk e => (hok0 b hk).2 e)
  obtain ⟨rb, hrb⟩ : ∃ r, r = w0.heap.size := ⟨_, rfl⟩
  have hE1 : Ext w0 (wr (w0.alloc (.cells #[.slice none 0 0, .bool false] 99)) w0.heap.size 0 [.slice sa s.length sc, .bool false]) := (Upd.alloc (Upd.refl _ _) _).wr _ _ (.inl (Nat.le_refl _))
  have hz1 : (wr (w0.alloc (.cells #[.slice none 0 0, .bool false] 99)) w0.heap.size 0 [.slice sa s.length sc, .bool false]).heap.size = w0.heap.size + 1 := by rw [size_wr, World.size_alloc]
  have hR1 : Rdr RT ok (wr (w0.alloc (.cells #[.slice none 0 0, .bool false] 99)) w0.heap.size 0 [.slice sa s.length sc, .bool false]) w0.heap.size (some s) := Rdr.good (v := .slice sa s.length sc) (by simp (maxSteps := 1000000) (disch := (first | omega | (simp only [World.size_alloc, size_wr, size_drew] <;> omega) | exact not_noB _)) only [go_sem, ↓reduceIte, n0, reduceCtorEq, n1, n2, n3, n4, n5, i0, i1, i2, i3, i4, i5, i6, i7]) (hsrc0.keep (hE1.keeps _))
  have hv_1 := hE1.blk_some hv0 id
  repeat ((first | refine W.seqR rfl ?_ | refine W.seq ?_ | refine W.regR rfl ?_ | refine W.condK ?_ | refine W.block ?_ | refine W.skip ?_ | refine W.ret ?_ | refine W.exit ?_); try simp (maxSteps := 1000000) (disch := (first | omega | (simp only [World.size_alloc, size_wr, size_drew] <;> omega) | exact not_noB _)) only [go_sem, ↓reduceIte, n0, reduceCtorEq, n1, n2, n3, n4, n5, i0, i1, i2, i3, i4, i5, i6, i7, hv0])
  generalize (wr (w0.alloc (.cells #[.slice none 0 0, .bool false] 99)) w0.heap.size 0 [.slice sa s.length sc, .bool false]) = w1 at *
  rw [← hrb] at hR1
  try rw [← hrb]
  have hok : ∀ b, ok b → b < w.heap.size ∧ b ≠ vb := hok0
  have hrok : ¬ ok rb := fun h => by have := (hok rb h).1; omega
  have hbase : Upd (fun b => b = vb) w w1 := hu0.trans (hE1.mono fun _ h => h.elim)
  have hG1 : Glo ev w1 := hG.updS hbase hgv.1 hgv.2
  have hgrb : ¬ 0 = rb := by omega
  have hgM1 : ¬ (0 = vb ∨ 0 = rb) := fun h => h.elim hgv.1 fun h => by omega
  have hgM2 : ¬ (1 = vb ∨ 1 = rb) := fun h => h.elim hgv.2 fun h => by omega
  obtain ⟨s0, hs0⟩ : ∃ s' : St, s' = some s := ⟨_, rfl⟩
  rw [← hs0] at hR1 ⊢
  have hU1 : Upd (fun b => b = vb ∨ b = rb) w1 w1 := Upd.refl _ _
  have hoM : ∀ b, (ok b ∨ w1.heap.size ≤ b) → ¬ (b = vb ∨ b = rb) := fun b hk h => by
    rcases hk with hk | hk
    · have := hok b hk; rcases h with h | h <;> omega
    · rcases h with h | h <;> omega
  have hq1 : Rdr RT ok w1 rb s0 := hR1
  obtain ⟨FB, hFB⟩ : ∃ P : Prop, P = ((rdP (d + 4) ver true fs_DescribeProducersResponse s0).2 = none) := ⟨_, rfl⟩
  have hb_0 : (rdL (rdP (d + 3) ver true) (dfP (d + 3)) ver true [fDescribeProducersResponse_0, fDescribeProducersResponse_1] s0).2 = none → FB := fun h => Eq.mpr hFB (rdP_bad h)
  have hh_0 : hasS fDescribeProducersResponse_0 ver = true := hasS_t (by show (0 : Int) ≤ ver; omega) (by show (-1 : Int) < 0 ∨ ver ≤ (-1 : Int); omega)
  obtain ⟨x_0, hx_0⟩ : ∃ x, x = (rdF (rdP (d + 3) ver true) ver true fDescribeProducersResponse_0 s0).1 := ⟨_, rfl⟩
  repeat ((first | refine W.seqR rfl ?_ | refine W.seq ?_ | refine W.regR rfl ?_ | refine W.condK ?_ | refine W.block ?_ | refine W.skip ?_ | refine W.ret ?_ | refine W.exit ?_); try simp (maxSteps := 1000000) (disch := (first | omega | (simp only [World.size_alloc, size_wr, size_drew] <;> omega) | exact not_noB _)) only [go_sem, ↓reduceIte, n0, reduceCtorEq, n1, n2, n3, n4, n5, i0, i1, i2, i3, i4, i5, i6, i7, hv_1])
  have hrd : rdF (rdP (d + 3) ver true) ver true fDescribeProducersResponse_0 s0 = _ := rdF_num 3 rfl (by decide)
  refine (Int32_fn w1 hq1 hrok hG1.1 hgrb).mono ?_
  rintro _ w2 ⟨rfl, hq2, hu2⟩
  have hv_2 := hu2.blk_some hv_1 (by omega)
  have hV2 : Upd (fun b => b = vb ∨ b = rb) w1 w2 := hu2.mono (fun _ h => .inr h)
  have hU2 : Upd (fun b => b = vb ∨ b = rb) w1 w2 := hU1.trans hV2
  have hz2 := hV2.size
  have hG2 : Glo ev w2 := hG1.updS hU2 hgM1 hgM2
  have hst : (rdF (rdP (d + 3) ver true) ver true fDescribeProducersResponse_0 s0).2 = (rdInt .i32 4 s0).2 := by first | (rw [hrd]; rfl) | rw [hrd]
  obtain ⟨s1, hs1⟩ : ∃ s, s = (rdF (rdP (d + 3) ver true) ver true fDescribeProducersResponse_0 s0).2 := ⟨_, rfl⟩
  rw [← hst, ← hs1] at hq2
  clear hst
  repeat ((first | refine W.seqR rfl ?_ | refine W.seq ?_ | refine W.regR rfl ?_ | refine W.condK ?_ | refine W.block ?_ | refine W.skip ?_ | refine W.ret ?_ | refine W.exit ?_); try simp (maxSteps := 1000000) (disch := (first | omega | (simp only [World.size_alloc, size_wr, size_drew] <;> omega) | exact not_noB _)) only [go_sem, ↓reduceIte, n0, reduceCtorEq, n1, n2, n3, n4, n5, i0, i1, i2, i3, i4, i5, i6, i7, hv_2])
  generalize hw3 : wr w2 vb 1 [.int .i32 (rdInt .i32 4 s0).1] = w3
  have hS3 : Upd (fun b => b = vb ∨ b = rb) w2 w3 := by rw [← hw3]; exact (Upd.refl _ _).wr _ _ (.inr (.inl rfl))
  have hv_3 : blk w3 vb = some (#[.int .i16 ver, .int .i32 (rdInt .i32 4 s0).1, .slice none 0 0, .map none], 62, (0, 0)) := by rw [← hw3, blk_wr_eq, hv_2]; rfl
  have hV3 := hS3
  have hU3 : Upd (fun b => b = vb ∨ b = rb) w1 w3 := hU2.trans hV3
  have hz3 := hV3.size
  have hG3 : Glo ev w3 := hG1.updS hU3 hgM1 hgM2
  have hq3 : Rdr RT ok w3 rb s1 ∧ NN w3 rb s1 := by
    have hn : ∀ x, x = w3 → (Rdr RT ok x rb s1 ∧ NN x rb s1) := fun x hx => by
      rw [hx, ← hw3]
      exact Rdr.store hq2 (by omega) (fun h => by have := (hok _ h).1; first | omega | exact (hok _ h).2 rfl)
    exact hn _ rfl
  clear hw3
  have hf_0 : RepF (RepS true (d + 3)) (szS true (d + 3)) fDescribeProducersResponse_0 (fun b => ok b ∨ w1.heap.size ≤ b) w3 (x_0) [.int .i32 (rdInt .i32 4 s0).1] := (RepF_num (by decide)).2 (by rw [hx_0, hrd]; exact congrArg (fun x => [x]) (numC_rd 3 (by decide) 4 s0).symm)
  clear hrd
  have hb_1 : (rdL (rdP (d + 3) ver true) (dfP (d + 3)) ver true [fDescribeProducersResponse_1] s1).2 = none → FB := fun h => hb_0 (by rw [rdL_st (by decide) hh_0, ← hs1]; exact h)
  have hh_1 : hasS fDescribeProducersResponse_1 ver = true := hasS_t (by show (0 : Int) ≤ ver; omega) (by show (-1 : Int) < 0 ∨ ver ≤ (-1 : Int); omega)
  obtain ⟨x_1, hx_1⟩ : ∃ x, x = (rdF (rdP (d + 3) ver true) ver true fDescribeProducersResponse_1 s1).1 := ⟨_, rfl⟩
  repeat ((first | refine W.seqR rfl ?_ | refine W.seq ?_ | refine W.regR rfl ?_ | refine W.condK ?_ | refine W.block ?_ | refine W.skip ?_ | refine W.ret ?_ | refine W.exit ?_); try simp (maxSteps := 1000000) (disch := (first | omega | (simp only [World.size_alloc, size_wr, size_drew] <;> omega) | exact not_noB _)) only [go_sem, ↓reduceIte, n0, reduceCtorEq, n1, n2, n3, n4, n5, i0, i1, i2, i3, i4, i5, i6, i7, hv_3])
  refine (RCompactArrayLen_fn w3 hq3.1 hrok hG3.1 hgrb).mono ?_
  rintro _ w4 ⟨rfl, hq4, hu4⟩
  have hv_4 := hu4.blk_some hv_3 (by omega)
  have hV4 : Upd (fun b => b = vb ∨ b = rb) w3 w4 := hu4.mono (fun _ h => .inr h)
  have hU4 : Upd (fun b => b = vb ∨ b = rb) w1 w4 := hU3.trans hV4
  have hz4 := hV4.size
  have hG4 : Glo ev w4 := hG1.updS hU4 hgM1 hgM2
  obtain ⟨s2, hs2⟩ : ∃ s, s = (rdALen true s1).2 := ⟨_, rfl⟩
  rw [← hs2] at hq4
  have hyr0 := rdALen_rng true s1
  generalize hy0 : (rdALen true s1).1 = y0 at *
  obtain ⟨N0, hN0⟩ : ∃ N, N = y0.toNat := ⟨_, rfl⟩
  have hlb0 : (rdMany (rd1 (rdP (d + 3) ver true) fDescribeProducersResponse_1.of fDescribeProducersResponse_1.sub false true) N0 s2).2 = none → FB := fun h => hb_1 (by rw [rdL_st (by decide) hh_1]; exact rdL_bad (rdF_listbad rfl (by rw [hy0, ← hN0, ← hs2]; exact h)))
  repeat ((first | refine W.seqR rfl ?_ | refine W.seq ?_ | refine W.regR rfl ?_ | refine W.block ?_ | refine W.skip ?_ | refine W.ret ?_ | refine W.exit ?_); try simp (maxSteps := 1000000) (disch := (first | omega | (simp only [World.size_alloc, size_wr, size_drew] <;> omega) | exact not_noB _)) only [go_sem, ↓reduceIte, n0, reduceCtorEq, n1, n2, n3, n4, n5, i0, i1, i2, i3, i4, i5, i6, i7, hv_4])
  refine (ROk_fn w4 hq4.1).mono ?_
  rintro _ wz ⟨rfl, hez⟩
  rw [hez]
  clear hez wz
  by_cases hsn0 : s2 = none
  · have hso : s2.isSome = false := by rw [hsn0]; rfl
    try simp (maxSteps := 1000000) (disch := (first | omega | (simp only [World.size_alloc, size_wr, size_drew] <;> omega) | exact not_noB _)) only [go_sem, ↓reduceIte, n0, reduceCtorEq, n1, n2, n3, n4, n5, i0, i1, i2, i3, i4, i5, i6, i7, hv_4, hso]
    repeat ((first | refine W.seqR rfl ?_ | refine W.seq ?_ | refine W.regR rfl ?_ | refine W.condK ?_ | refine W.block ?_ | refine W.skip ?_ | refine W.ret ?_ | refine W.exit ?_); try simp (maxSteps := 1000000) (disch := (first | omega | (simp only [World.size_alloc, size_wr, size_drew] <;> omega) | exact not_noB _)) only [go_sem, ↓reduceIte, n0, reduceCtorEq, n1, n2, n3, n4, n5, i0, i1, i2, i3, i4, i5, i6, i7, hv_4, hso])
    refine (RComplete_fn w4 hq4.1 hG4.2).mono ?_
    rintro _ wz ⟨rfl, hez⟩
    rw [hez]
    try simp (maxSteps := 1000000) (disch := (first | omega | (simp only [World.size_alloc, size_wr, size_drew] <;> omega) | exact not_noB _)) only [go_sem, ↓reduceIte, n0, reduceCtorEq, n1, n2, n3, n4, n5, i0, i1, i2, i3, i4, i5, i6, i7, hv_4]
    repeat ((first | refine W.seqR rfl ?_ | refine W.seq ?_ | refine W.regR rfl ?_ | refine W.condK ?_ | refine W.block ?_ | refine W.skip ?_ | refine W.ret ?_ | refine W.exit ?_); try simp (maxSteps := 1000000) (disch := (first | omega | (simp only [World.size_alloc, size_wr, size_drew] <;> omega) | exact not_noB _)) only [go_sem, ↓reduceIte, n0, reduceCtorEq, n1, n2, n3, n4, n5, i0, i1, i2, i3, i4, i5, i6, i7, hv_4])
    rw [errV_none hsn0]
    exact ReadQ.bad (Eq.mp hFB (hlb0 (by rw [hsn0]; exact rdMany_none rd1P_none _))) (hbase.trans' hU4 fun i hi h => h.elim id fun h => by omega)
  have hso0 : s2.isSome = true := isSome_some hsn0
  try simp (maxSteps := 1000000) (disch := (first | omega | (simp only [World.size_alloc, size_wr, size_drew] <;> omega) | exact not_noB _)) only [go_sem, ↓reduceIte, n0, reduceCtorEq, n1, n2, n3, n4, n5, i0, i1, i2, i3, i4, i5, i6, i7, hv_4, hso0]
  repeat ((first | refine W.seqR rfl ?_ | refine W.seq ?_ | refine W.regR rfl ?_ | refine W.block ?_ | refine W.skip ?_ | refine W.ret ?_ | refine W.exit ?_); try simp (maxSteps := 1000000) (disch := (first | omega | (simp only [World.size_alloc, size_wr, size_drew] <;> omega) | exact not_noB _)) only [go_sem, ↓reduceIte, n0, reduceCtorEq, n1, n2, n3, n4, n5, i0, i1, i2, i3, i4, i5, i6, i7, hv_4, hso0])
  refine W.condK ?_
  try simp (maxSteps := 1000000) (disch := (first | omega | (simp only [World.size_alloc, size_wr, size_drew] <;> omega) | exact not_noB _)) only [go_sem, ↓reduceIte, n0, reduceCtorEq, n1, n2, n3, n4, n5, i0, i1, i2, i3, i4, i5, i6, i7, hv_4, hso0]
  repeat ((first | refine W.seqR rfl ?_ | refine W.seq ?_ | refine W.regR rfl ?_ | refine W.block ?_ | refine W.skip ?_ | refine W.ret ?_ | refine W.exit ?_); try simp (maxSteps := 1000000) (disch := (first | omega | (simp only [World.size_alloc, size_wr, size_drew] <;> omega) | exact not_noB _)) only [go_sem, ↓reduceIte, n0, reduceCtorEq, n1, n2, n3, n4, n5, i0, i1, i2, i3, i4, i5, i6, i7, hv_4, hso0, slBase_00])
  refine W.normJ (RowQ [(2, .bool false), (7, .pointer (some ⟨rb, 0, none⟩)), (8, .int .i16 ver), (9, .bool true), (10, .pointer (some ⟨vb, 0, none⟩)), (14, .int .i32 y0)] 13 (fun va w' => LstI RT (rd1 (rdP (d + 3) ver true) fDescribeProducersResponse_1.of fDescribeProducersResponse_1.sub false true) (Rep1 (RepS true (d + 3)) fDescribeProducersResponse_1.of fDescribeProducersResponse_1.sub) 3 77 [.string ByteArray.empty, .slice none 0 0, .map none] w4.heap.size N0 ok (fun b => ok b ∨ w1.heap.size ≤ b) rb w4 s2 va 0 s2 [] [] w' ∧ (N0 = 0 → if nilS fDescribeProducersResponse_1 ver y0 = true then va = .slice none 0 0 else ∃ a, va = .slice (some a) 0 0))) ?_ ?_
  · by_cases hy0 : (0 : Int) < y0
    · have hyv : Value.int .i32 y0 = .int .i32 ((N0 : Nat) : Int) := by rw [show y0 = ((N0 : Nat) : Int) by omega]
      repeat ((first | refine W.seqR rfl ?_ | refine W.seq ?_ | refine W.regR rfl ?_ | refine W.condK ?_ | refine W.block ?_ | refine W.skip ?_ | refine W.ret ?_ | refine W.exit ?_); try simp (maxSteps := 1000000) (disch := (first | omega | (simp only [World.size_alloc, size_wr, size_drew] <;> omega) | exact not_noB _)) only [go_sem, ↓reduceIte, n0, reduceCtorEq, n1, n2, n3, n4, n5, i0, i1, i2, i3, i4, i5, i6, i7, hv_4])
      refine wp_appendZ (m := N0) utDescribeProducersResponse_57 utDescribeProducersResponse_21 inDescribeProducersResponse_77 (by decide) (by first | rfl | simp (maxSteps := 1000000) (disch := (first | omega | (simp only [World.size_alloc, size_wr, size_drew] <;> omega) | exact not_noB _)) only [go_sem, ↓reduceIte, n0, reduceCtorEq, n1, n2, n3, n4, n5, i0, i1, i2, i3, i4, i5, i6, i7]) (by first | exact hyv | (simp (maxSteps := 1000000) (disch := (first | omega | (simp only [World.size_alloc, size_wr, size_drew] <;> omega) | exact not_noB _)) only [go_sem, ↓reduceIte, n0, reduceCtorEq, n1, n2, n3, n4, n5, i0, i1, i2, i3, i4, i5, i6, i7]; exact hyv)) (by omega) (by omega) (by decide) ?_
      intro q rest hq1
      have hEw : Ext w4 (w4.drew.alloc (.cells (zs [.string ByteArray.empty, .slice none 0 0, .map none] N0 ++ rest).toArray 77)) := (Upd.refl _ _).drew.alloc _
      try simp (maxSteps := 1000000) (disch := (first | omega | (simp only [World.size_alloc, size_wr, size_drew] <;> omega) | exact not_noB _)) only [go_sem, ↓reduceIte, n0, reduceCtorEq, n1, n2, n3, n4, n5, i0, i1, i2, i3, i4, i5, i6, i7, hv_4]
      repeat ((first | refine W.seqR rfl ?_ | refine W.seq ?_ | refine W.regR rfl ?_ | refine W.condK ?_ | refine W.block ?_ | refine W.skip ?_ | refine W.ret ?_ | refine W.exit ?_); try simp (maxSteps := 1000000) (disch := (first | omega | (simp only [World.size_alloc, size_wr, size_drew] <;> omega) | exact not_noB _)) only [go_sem, ↓reduceIte, n0, reduceCtorEq, n1, n2, n3, n4, n5, i0, i1, i2, i3, i4, i5, i6, i7, hv_4])
      exact ⟨(by simp (maxSteps := 1000000) (disch := (first | omega | (simp only [World.size_alloc, size_wr, size_drew] <;> omega) | exact not_noB _)) only [go_sem, ↓reduceIte, n0, reduceCtorEq, n1, n2, n3, n4, n5, i0, i1, i2, i3, i4, i5, i6, i7, Holds_nil, Holds_cons]), .slice (some ⟨w4.heap.size, 0, none⟩) N0 q, (by simp (maxSteps := 1000000) (disch := (first | omega | (simp only [World.size_alloc, size_wr, size_drew] <;> omega) | exact not_noB _)) only [go_sem, ↓reduceIte, n0, reduceCtorEq, n1, n2, n3, n4, n5, i0, i1, i2, i3, i4, i5, i6, i7]), LstI.start (RowJ.start (by omega) hq1 (by show w4.heap.size ≤ w4.drew.heap.size; rw [size_drew]; omega) (blk_alloc_new rfl)) ⟨hq4.1.upd hEw (fun h => h) (fun _ _ _ h => h), hq4.2.upd hEw fun h => h⟩ (hEw.mono fun _ h => h.elim), fun h0 => by omega⟩
    · repeat ((first | refine W.seqR rfl ?_ | refine W.seq ?_ | refine W.regR rfl ?_ | refine W.condK ?_ | refine W.block ?_ | refine W.skip ?_ | refine W.ret ?_ | refine W.exit ?_); try simp (maxSteps := 1000000) (disch := (first | omega | (simp only [World.size_alloc, size_wr, size_drew] <;> omega) | exact not_noB _)) only [go_sem, ↓reduceIte, n0, reduceCtorEq, n1, n2, n3, n4, n5, i0, i1, i2, i3, i4, i5, i6, i7, hv_4])
      exact ⟨(by simp (maxSteps := 1000000) (disch := (first | omega | (simp only [World.size_alloc, size_wr, size_drew] <;> omega) | exact not_noB _)) only [go_sem, ↓reduceIte, n0, reduceCtorEq, n1, n2, n3, n4, n5, i0, i1, i2, i3, i4, i5, i6, i7, Holds_nil, Holds_cons]), .slice none 0 0, (by simp (maxSteps := 1000000) (disch := (first | omega | (simp only [World.size_alloc, size_wr, size_drew] <;> omega) | exact not_noB _)) only [go_sem, ↓reduceIte, n0, reduceCtorEq, n1, n2, n3, n4, n5, i0, i1, i2, i3, i4, i5, i6, i7, slBase_00]), LstI.start (RowJ.zero (by omega) (fun _ h => by cases h)) hq4 (Upd.refl _ _), fun _ => by rw [nilS_plain (by decide) (by omega)]; exact rfl⟩
  rintro ρ w5 ⟨⟨hrb0_2, hrb0_7, hrb0_8, hrb0_9, hrb0_10, hrb0_14, -⟩, va0, hra0, hL0, hnc0⟩
  repeat ((first | refine W.seqR rfl ?_ | refine W.seq ?_ | refine W.regR rfl ?_ | refine W.condK ?_ | refine W.block ?_ | refine W.skip ?_ | refine W.ret ?_ | refine W.exit ?_); try simp (maxSteps := 1000000) (disch := (first | omega | (simp only [World.size_alloc, size_wr, size_drew] <;> omega) | exact not_noB _)) only [go_sem, ↓reduceIte, n0, reduceCtorEq, n1, n2, n3, n4, n5, i0, i1, i2, i3, i4, i5, i6, i7, hv_4, hrb0_2, hrb0_7, hrb0_8, hrb0_9, hrb0_10, hrb0_14, hra0, exitRQ_ret, exitRQ_exit, Int.toNat_natCast, Nat.mul_one])
  refine W.exitRJ 0 (EndQ [(2, .bool false), (7, .pointer (some ⟨rb, 0, none⟩)), (8, .int .i16 ver), (9, .bool true), (10, .pointer (some ⟨vb, 0, none⟩)), (14, .int .i32 y0), (13, va0)] (fun w' => ∃ s xs css, LstI RT (rd1 (rdP (d + 3) ver true) fDescribeProducersResponse_1.of fDescribeProducersResponse_1.sub false true) (Rep1 (RepS true (d + 3)) fDescribeProducersResponse_1.of fDescribeProducersResponse_1.sub) 3 77 [.string ByteArray.empty, .slice none 0 0, .map none] w4.heap.size N0 ok (fun b => ok b ∨ w1.heap.size ≤ b) rb w4 s2 va0 N0 s xs css w')) (W.loop (LoopQ [(2, .bool false), (7, .pointer (some ⟨rb, 0, none⟩)), (8, .int .i16 ver), (9, .bool true), (10, .pointer (some ⟨vb, 0, none⟩)), (14, .int .i32 y0), (13, va0)] 15 (fun j w' => ∃ s xs css, LstI RT (rd1 (rdP (d + 3) ver true) fDescribeProducersResponse_1.of fDescribeProducersResponse_1.sub false true) (Rep1 (RepS true (d + 3)) fDescribeProducersResponse_1.of fDescribeProducersResponse_1.sub) 3 77 [.string ByteArray.empty, .slice none 0 0, .map none] w4.heap.size N0 ok (fun b => ok b ∨ w1.heap.size ≤ b) rb w4 s2 va0 j s xs css w')) (fun ρ _ => N0 - (RowKit.intOf (ρ 15)).toNat) ?_ ?_) ?_
  · exact ⟨(by simp (maxSteps := 1000000) (disch := (first | omega | (simp only [World.size_alloc, size_wr, size_drew] <;> omega) | exact not_noB _)) only [go_sem, ↓reduceIte, n0, reduceCtorEq, n1, n2, n3, n4, n5, i0, i1, i2, i3, i4, i5, i6, i7, Holds_nil, Holds_cons, hrb0_2, hrb0_7, hrb0_8, hrb0_9, hrb0_10, hrb0_14, hra0]), 0, (by simp (maxSteps := 1000000) (disch := (first | omega | (simp only [World.size_alloc, size_wr, size_drew] <;> omega) | exact not_noB _)) only [go_sem, ↓reduceIte, n0, reduceCtorEq, n1, n2, n3, n4, n5, i0, i1, i2, i3, i4, i5, i6, i7, hrb0_2, hrb0_7, hrb0_8, hrb0_9, hrb0_10, hrb0_14, hra0]; all_goals rfl), s2, [], [], hL0⟩
  · rintro ρ w6 ⟨⟨hrc0_2, hrc0_7, hrc0_8, hrc0_9, hrc0_10, hrc0_14, hrc0_13, -⟩, j1, hri0, s3, xs0, css0, hL0⟩
    have hj0 := hL0.le
    have hq6 := hL0.rd
    have hU6 : Upd (fun b => b = vb ∨ b = rb) w1 w6 := hU4.trans' hL0.upd fun i _ h => .inr h
    have hz6 := hL0.upd.size
    have hG6 : Glo ev w6 := hG1.updS hU6 hgM1 hgM2
    by_cases hlt0 : j1 < N0
    · obtain ⟨R1, q1, B1, hva1, hNq1, hLR1, hA1, hx1_6, hnext1⟩ := hL0.row.next hlt0
      have hRl1 := blk_lt hx1_6
      generalize css0.flatten = A1 at hA1 hx1_6 hnext1
      replace hra0 : ρ 13 = .slice (some ⟨R1, 0, none⟩) N0 q1 := hrc0_13.trans hva1
      have hown1 : ∀ b, ownB va0 b → w4.heap.size ≤ b ∧ b < w6.heap.size := fun b h => hL0.row.own h
      have hoM1 : ∀ b, (fun b => (ok b ∨ w1.heap.size ≤ b) ∧ ¬ ownB va0 b) b → ¬ (b = R1 ∨ b = rb) := fun b hk h => h.elim (fun e => hk.2 ⟨_, _, _, hva1, e⟩) (fun e => hoM b hk.1 (.inr e))
      obtain ⟨X6, hX6⟩ : ∃ X : Array Value, X = (A1 ++ (([.string ByteArray.empty, .slice none 0 0, .map none] : List Value) ++ B1)).toArray := ⟨_, rfl⟩
      have hxb6 : blk w6 R1 = some (X6, 77, (0, 0)) := by rw [hX6]; exact hx1_6
      have hXs6 : j1 * 3 + 3 ≤ X6.size := by rw [hX6]; simp only [List.size_toArray, List.length_append, List.length_cons, List.length_nil, hA1]; omega
      repeat ((first | refine W.seqR rfl ?_ | refine W.seq ?_ | refine W.regR rfl ?_ | refine W.condK ?_ | refine W.block ?_ | refine W.skip ?_ | refine W.ret ?_ | refine W.exit ?_); try simp (maxSteps := 1000000) (disch := (first | omega | (simp only [World.size_alloc, size_wr, size_drew] <;> omega) | exact not_noB _)) only [go_sem, ↓reduceIte, n0, reduceCtorEq, n1, n2, n3, n4, n5, i0, i1, i2, i3, i4, i5, i6, i7, hxb6, hrc0_2, hrc0_7, hrc0_8, hrc0_9, hrc0_10, hrc0_14, hra0, hri0, exitRQ_ret, exitRQ_exit, Int.toNat_natCast, Nat.mul_one])
      refine (DefaultEDescribeProducersResponseTopic_fn w6 hx1_6 hA1).mono ?_
      rintro _ w7 ⟨hx1_7, hu7⟩
      have hq7 := And.intro (hq6.1.upd hu7 (by omega) (fun b _ hk e => by have := (hok b hk).1; omega)) (hq6.2.upd hu7 (by omega))
      have hV7 : Upd (fun b => b = R1 ∨ b = rb) w6 w7 := hu7.mono (fun _ h => .inl h)
      have hU7 : Upd (fun b => b = vb ∨ b = rb) w1 w7 := hU6.trans' hV7 fun i hi h => h.elim (fun h => by omega) .inr
      have hz7 := hV7.size
      have hG7 : Glo ev w7 := hG1.updS hU7 hgM1 hgM2
      obtain ⟨X7, hX7⟩ : ∃ X : Array Value, X = (A1 ++ (([.string ByteArray.empty, .slice none 0 0, .map none] : List Value) ++ B1)).toArray := ⟨_, rfl⟩
      have hxb7 : blk w7 R1 = some (X7, 77, (0, 0)) := by rw [hX7]; exact hx1_7
      have hXs7 : j1 * 3 + 3 ≤ X7.size := by rw [hX7]; simp only [List.size_toArray, List.length_append, List.length_cons, List.length_nil, hA1]; omega
      have hbe0_0 : (rdL (rdP (d + 2) ver true) (dfP (d + 2)) ver true [fDescribeProducersResponseTopic_0, fDescribeProducersResponseTopic_1] s3).2 = none → FB := fun h => hlb0 (hL0.bad hlt0 rd1P_none (by show (rd1 (rdP (d + 3) ver true) 10 fs_DescribeProducersResponseTopic false true s3).2 = none; rw [rd1_part]; exact rdP_bad h))
      have hhe0_0 : hasS fDescribeProducersResponseTopic_0 ver = true := hasS_t (by show (0 : Int) ≤ ver; omega) (by show (-1 : Int) < 0 ∨ ver ≤ (-1 : Int); omega)
      obtain ⟨xe0_0, hxe0_0⟩ : ∃ x, x = (rdF (rdP (d + 2) ver true) ver true fDescribeProducersResponseTopic_0 s3).1 := ⟨_, rfl⟩
      repeat ((first | refine W.seqR rfl ?_ | refine W.seq ?_ | refine W.regR rfl ?_ | refine W.condK ?_ | refine W.block ?_ | refine W.skip ?_ | refine W.ret ?_ | refine W.exit ?_); try simp (maxSteps := 1000000) (disch := (first | omega | (simp only [World.size_alloc, size_wr, size_drew] <;> omega) | exact not_noB _)) only [go_sem, ↓reduceIte, n0, reduceCtorEq, n1, n2, n3, n4, n5, i0, i1, i2, i3, i4, i5, i6, i7, hxb7, hrc0_2, hrc0_7, hrc0_8, hrc0_9, hrc0_10, hrc0_14, hra0, hri0, exitRQ_ret, exitRQ_exit, Int.toNat_natCast, Nat.mul_one])
      have hmay : mayS fDescribeProducersResponseTopic_0 ver = false := mayS_no (by show (-1 : Int) < 0 ∨ ver < (-1 : Int); omega)
      have hrd : rdF (rdP (d + 2) ver true) ver true fDescribeProducersResponseTopic_0 s3 = _ := rdF_text rfl hmay
      refine (RCompactString_fn w7 hq7.1 hrok hG7.1 hgrb).mono ?_
      rintro _ w8 ⟨rfl, hq8, hu8⟩
      have hx1_8 := hu8.blk_some hx1_7 (by omega)
      have hV8 : Upd (fun b => b = R1 ∨ b = rb) w7 w8 := hu8.mono (fun _ h => .inr h)
      have hU8 : Upd (fun b => b = vb ∨ b = rb) w1 w8 := hU7.trans' hV8 fun i hi h => h.elim (fun h => by omega) .inr
      have hz8 := hV8.size
      have hG8 : Glo ev w8 := hG1.updS hU8 hgM1 hgM2
      obtain ⟨X8, hX8⟩ : ∃ X : Array Value, X = (A1 ++ (([.string ByteArray.empty, .slice none 0 0, .map none] : List Value) ++ B1)).toArray := ⟨_, rfl⟩
      have hxb8 : blk w8 R1 = some (X8, 77, (0, 0)) := by rw [hX8]; exact hx1_8
      have hXs8 : j1 * 3 + 3 ≤ X8.size := by rw [hX8]; simp only [List.size_toArray, List.length_append, List.length_cons, List.length_nil, hA1]; omega
      have hst : (rdF (rdP (d + 2) ver true) ver true fDescribeProducersResponseTopic_0 s3).2 = (rdStr true s3).2 := by first | (rw [hrd]; rfl) | rw [hrd]
      obtain ⟨s4, hs4⟩ : ∃ s, s = (rdF (rdP (d + 2) ver true) ver true fDescribeProducersResponseTopic_0 s3).2 := ⟨_, rfl⟩
      rw [← hst, ← hs4] at hq8
      clear hst
      have hst8_0 : j1 * 3 + 1 ≤ X8.size := by omega
      have hld8_1 : X8[j1 * 3 + 1]? = some (.slice none 0 0) := by rw [hX8]; exact el_cell (R := 0) hA1 (Nat.le_of_ble_eq_true rfl)
      repeat ((first | refine W.seqR rfl ?_ | refine W.seq ?_ | refine W.regR rfl ?_ | refine W.condK ?_ | refine W.block ?_ | refine W.skip ?_ | refine W.ret ?_ | refine W.exit ?_); try simp (maxSteps := 1000000) (disch := (first | omega | (simp only [World.size_alloc, size_wr, size_drew] <;> omega) | exact not_noB _)) only [go_sem, ↓reduceIte, n0, reduceCtorEq, n1, n2, n3, n4, n5, i0, i1, i2, i3, i4, i5, i6, i7, hxb8, hrc0_2, hrc0_7, hrc0_8, hrc0_9, hrc0_10, hrc0_14, hra0, hri0, exitRQ_ret, exitRQ_exit, Int.toNat_natCast, Nat.mul_one, hst8_0, hld8_1, Array.getElem?_setIfInBounds_ne])
      generalize hw9 : wr w8 R1 (j1 * 3) [strV (rdStr true s3).1] = w9
      have hS9 : Upd (fun b => b = R1 ∨ b = rb) w8 w9 := by rw [← hw9]; exact (Upd.refl _ _).wr _ _ (.inr (.inl rfl))
      have hx1_9 : blk w9 R1 = some ((A1 ++ (([strV (rdStr true s3).1, .slice none 0 0, .map none] : List Value) ++ B1)).toArray, 77, (0, 0)) := by rw [← hw9]; exact el_blk0 hx1_8 hA1 (Nat.le_of_ble_eq_true rfl)
      have hV9 := hS9
      have hU9 : Upd (fun b => b = vb ∨ b = rb) w1 w9 := hU8.trans' hV9 fun i hi h => h.elim (fun h => by omega) .inr
      have hz9 := hV9.size
      have hG9 : Glo ev w9 := hG1.updS hU9 hgM1 hgM2
      have hq9 : Rdr RT ok w9 rb s4 ∧ NN w9 rb s4 := by
        have hn : ∀ x, x = w9 → (Rdr RT ok x rb s4 ∧ NN x rb s4) := fun x hx => by
          rw [hx, ← hw9]
          exact Rdr.store hq8 (by omega) (fun h => by have := (hok _ h).1; first | omega | exact (hok _ h).2 rfl)
        exact hn _ rfl
      obtain ⟨X9, hX9⟩ : ∃ X : Array Value, X = (A1 ++ (([strV (rdStr true s3).1, .slice none 0 0, .map none] : List Value) ++ B1)).toArray := ⟨_, rfl⟩
      have hxb9 : blk w9 R1 = some (X9, 77, (0, 0)) := by rw [hX9]; exact hx1_9
      have hXs9 : j1 * 3 + 3 ≤ X9.size := by rw [hX9]; simp only [List.size_toArray, List.length_append, List.length_cons, List.length_nil, hA1]; omega
      clear hw9
      have hfe0_0 : RepF (RepS true (d + 2)) (szS true (d + 2)) fDescribeProducersResponseTopic_0 (fun b => (ok b ∨ w1.heap.size ≤ b) ∧ ¬ ownB va0 b) w9 (xe0_0) [strV (rdStr true s3).1] := (RepF_text rfl (by decide)).2 (by rw [hxe0_0, hrd]; rfl)
      clear hrd
      have hbe0_1 : (rdL (rdP (d + 2) ver true) (dfP (d + 2)) ver true [fDescribeProducersResponseTopic_1] s4).2 = none → FB := fun h => hbe0_0 (by rw [rdL_st (by decide) hhe0_0, ← hs4]; exact h)
      have hhe0_1 : hasS fDescribeProducersResponseTopic_1 ver = true := hasS_t (by show (0 : Int) ≤ ver; omega) (by show (-1 : Int) < 0 ∨ ver ≤ (-1 : Int); omega)
      obtain ⟨xe0_1, hxe0_1⟩ : ∃ x, x = (rdF (rdP (d + 2) ver true) ver true fDescribeProducersResponseTopic_1 s4).1 := ⟨_, rfl⟩
      have hld9_1 : X9[j1 * 3 + 1]? = some (.slice none 0 0) := by rw [hX9]; exact el_cell (R := 0) hA1 (Nat.le_of_ble_eq_true rfl)
      repeat ((first | refine W.seqR rfl ?_ | refine W.seq ?_ | refine W.regR rfl ?_ | refine W.condK ?_ | refine W.block ?_ | refine W.skip ?_ | refine W.ret ?_ | refine W.exit ?_); try simp (maxSteps := 1000000) (disch := (first | omega | (simp only [World.size_alloc, size_wr, size_drew] <;> omega) | exact not_noB _)) only [go_sem, ↓reduceIte, n0, reduceCtorEq, n1, n2, n3, n4, n5, i0, i1, i2, i3, i4, i5, i6, i7, hxb9, hrc0_2, hrc0_7, hrc0_8, hrc0_9, hrc0_10, hrc0_14, hra0, hri0, exitRQ_ret, exitRQ_exit, Int.toNat_natCast, Nat.mul_one, hld9_1])
      refine (RCompactArrayLen_fn w9 hq9.1 hrok hG9.1 hgrb).mono ?_
      rintro _ w10 ⟨rfl, hq10, hu10⟩
      have hx1_10 := hu10.blk_some hx1_9 (by omega)
      have hV10 : Upd (fun b => b = R1 ∨ b = rb) w9 w10 := hu10.mono (fun _ h => .inr h)
      have hU10 : Upd (fun b => b = vb ∨ b = rb) w1 w10 := hU9.trans' hV10 fun i hi h => h.elim (fun h => by omega) .inr
      have hz10 := hV10.size
      have hG10 : Glo ev w10 := hG1.updS hU10 hgM1 hgM2
      obtain ⟨X10, hX10⟩ : ∃ X : Array Value, X = (A1 ++ (([strV (rdStr true s3).1, .slice none 0 0, .map none] : List Value) ++ B1)).toArray := ⟨_, rfl⟩
      have hxb10 : blk w10 R1 = some (X10, 77, (0, 0)) := by rw [hX10]; exact hx1_10
      have hXs10 : j1 * 3 + 3 ≤ X10.size := by rw [hX10]; simp only [List.size_toArray, List.length_append, List.length_cons, List.length_nil, hA1]; omega
      obtain ⟨s5, hs5⟩ : ∃ s, s = (rdALen true s4).2 := ⟨_, rfl⟩
      rw [← hs5] at hq10
      have hyr1 := rdALen_rng true s4
      generalize hy1 : (rdALen true s4).1 = y1 at *
      obtain ⟨N1, hN1⟩ : ∃ N, N = y1.toNat := ⟨_, rfl⟩
      have hlb1 : (rdMany (rd1 (rdP (d + 2) ver true) fDescribeProducersResponseTopic_1.of fDescribeProducersResponseTopic_1.sub false true) N1 s5).2 = none → FB := fun h => hbe0_1 (by rw [rdL_st (by decide) hhe0_1]; exact rdL_bad (rdF_listbad rfl (by rw [hy1, ← hN1, ← hs5]; exact h)))
      repeat ((first | refine W.seqR rfl ?_ | refine W.seq ?_ | refine W.regR rfl ?_ | refine W.block ?_ | refine W.skip ?_ | refine W.ret ?_ | refine W.exit ?_); try simp (maxSteps := 1000000) (disch := (first | omega | (simp only [World.size_alloc, size_wr, size_drew] <;> omega) | exact not_noB _)) only [go_sem, ↓reduceIte, n0, reduceCtorEq, n1, n2, n3, n4, n5, i0, i1, i2, i3, i4, i5, i6, i7, hxb10, hrc0_2, hrc0_7, hrc0_8, hrc0_9, hrc0_10, hrc0_14, hra0, hri0, exitRQ_ret, exitRQ_exit, Int.toNat_natCast, Nat.mul_one])
      refine (ROk_fn w10 hq10.1).mono ?_
      rintro _ wz ⟨rfl, hez⟩
      rw [hez]
      clear hez wz
      by_cases hsn1 : s5 = none
      · have hso : s5.isSome = false := by rw [hsn1]; rfl
        try simp (maxSteps := 1000000) (disch := (first | omega | (simp only [World.size_alloc, size_wr, size_drew] <;> omega) | exact not_noB _)) only [go_sem, ↓reduceIte, n0, reduceCtorEq, n1, n2, n3, n4, n5, i0, i1, i2, i3, i4, i5, i6, i7, hxb10, hrc0_2, hrc0_7, hrc0_8, hrc0_9, hrc0_10, hrc0_14, hra0, hri0, exitRQ_ret, exitRQ_exit, Int.toNat_natCast, Nat.mul_one, hso]
        repeat ((first | refine W.seqR rfl ?_ | refine W.seq ?_ | refine W.regR rfl ?_ | refine W.condK ?_ | refine W.block ?_ | refine W.skip ?_ | refine W.ret ?_ | refine W.exit ?_); try simp (maxSteps := 1000000) (disch := (first | omega | (simp only [World.size_alloc, size_wr, size_drew] <;> omega) | exact not_noB _)) only [go_sem, ↓reduceIte, n0, reduceCtorEq, n1, n2, n3, n4, n5, i0, i1, i2, i3, i4, i5, i6, i7, hxb10, hrc0_2, hrc0_7, hrc0_8, hrc0_9, hrc0_10, hrc0_14, hra0, hri0, exitRQ_ret, exitRQ_exit, Int.toNat_natCast, Nat.mul_one, hso])
        refine (RComplete_fn w10 hq10.1 hG10.2).mono ?_
        rintro _ wz ⟨rfl, hez⟩
        rw [hez]
        try simp (maxSteps := 1000000) (disch := (first | omega | (simp only [World.size_alloc, size_wr, size_drew] <;> omega) | exact not_noB _)) only [go_sem, ↓reduceIte, n0, reduceCtorEq, n1, n2, n3, n4, n5, i0, i1, i2, i3, i4, i5, i6, i7, hxb10, hrc0_2, hrc0_7, hrc0_8, hrc0_9, hrc0_10, hrc0_14, hra0, hri0, exitRQ_ret, exitRQ_exit, Int.toNat_natCast, Nat.mul_one]
        repeat ((first | refine W.seqR rfl ?_ | refine W.seq ?_ | refine W.regR rfl ?_ | refine W.condK ?_ | refine W.block ?_ | refine W.skip ?_ | refine W.ret ?_ | refine W.exit ?_); try simp (maxSteps := 1000000) (disch := (first | omega | (simp only [World.size_alloc, size_wr, size_drew] <;> omega) | exact not_noB _)) only [go_sem, ↓reduceIte, n0, reduceCtorEq, n1, n2, n3, n4, n5, i0, i1, i2, i3, i4, i5, i6, i7, hxb10, hrc0_2, hrc0_7, hrc0_8, hrc0_9, hrc0_10, hrc0_14, hra0, hri0, exitRQ_ret, exitRQ_exit, Int.toNat_natCast, Nat.mul_one])
        rw [errV_none hsn1]
        exact ReadQ.bad (Eq.mp hFB (hlb1 (by rw [hsn1]; exact rdMany_none rd1P_none _))) (hbase.trans' hU10 fun i hi h => h.elim id fun h => by omega)
      have hso1 : s5.isSome = true := isSome_some hsn1
      try simp (maxSteps := 1000000) (disch := (first | omega | (simp only [World.size_alloc, size_wr, size_drew] <;> omega) | exact not_noB _)) only [go_sem, ↓reduceIte, n0, reduceCtorEq, n1, n2, n3, n4, n5, i0, i1, i2, i3, i4, i5, i6, i7, hxb10, hrc0_2, hrc0_7, hrc0_8, hrc0_9, hrc0_10, hrc0_14, hra0, hri0, exitRQ_ret, exitRQ_exit, Int.toNat_natCast, Nat.mul_one, hso1]
      repeat ((first | refine W.seqR rfl ?_ | refine W.seq ?_ | refine W.regR rfl ?_ | refine W.block ?_ | refine W.skip ?_ | refine W.ret ?_ | refine W.exit ?_); try simp (maxSteps := 1000000) (disch := (first | omega | (simp only [World.size_alloc, size_wr, size_drew] <;> omega) | exact not_noB _)) only [go_sem, ↓reduceIte, n0, reduceCtorEq, n1, n2, n3, n4, n5, i0, i1, i2, i3, i4, i5, i6, i7, hxb10, hrc0_2, hrc0_7, hrc0_8, hrc0_9, hrc0_10, hrc0_14, hra0, hri0, exitRQ_ret, exitRQ_exit, Int.toNat_natCast, Nat.mul_one, hso1])
      refine W.condK ?_
      try simp (maxSteps := 1000000) (disch := (first | omega | (simp only [World.size_alloc, size_wr, size_drew] <;> omega) | exact not_noB _)) only [go_sem, ↓reduceIte, n0, reduceCtorEq, n1, n2, n3, n4, n5, i0, i1, i2, i3, i4, i5, i6, i7, hxb10, hrc0_2, hrc0_7, hrc0_8, hrc0_9, hrc0_10, hrc0_14, hra0, hri0, exitRQ_ret, exitRQ_exit, Int.toNat_natCast, Nat.mul_one, hso1]
      repeat ((first | refine W.seqR rfl ?_ | refine W.seq ?_ | refine W.regR rfl ?_ | refine W.block ?_ | refine W.skip ?_ | refine W.ret ?_ | refine W.exit ?_); try simp (maxSteps := 1000000) (disch := (first | omega | (simp only [World.size_alloc, size_wr, size_drew] <;> omega) | exact not_noB _)) only [go_sem, ↓reduceIte, n0, reduceCtorEq, n1, n2, n3, n4, n5, i0, i1, i2, i3, i4, i5, i6, i7, hxb10, hrc0_2, hrc0_7, hrc0_8, hrc0_9, hrc0_10, hrc0_14, hra0, hri0, exitRQ_ret, exitRQ_exit, Int.toNat_natCast, Nat.mul_one, hso1, slBase_00])
      refine W.normJ (RowQ [(2, .bool false), (7, .pointer (some ⟨rb, 0, none⟩)), (8, .int .i16 ver), (9, .bool true), (10, .pointer (some ⟨vb, 0, none⟩)), (14, .int .i32 y0), (13, .slice (some ⟨R1, 0, none⟩) N0 q1), (15, .int .i32 j1), (17, .pointer (some ⟨R1, j1 * 3, none⟩)), (21, .int .i32 y1)] 20 (fun va w' => LstI RT (rd1 (rdP (d + 2) ver true) fDescribeProducersResponseTopic_1.of fDescribeProducersResponseTopic_1.sub false true) (Rep1 (RepS true (d + 2)) fDescribeProducersResponseTopic_1.of fDescribeProducersResponseTopic_1.sub) 5 83 [.int .i32 0, .int .i16 0, .pointer none, .slice none 0 0, .map none] w10.heap.size N1 ok (fun b => (ok b ∨ w1.heap.size ≤ b) ∧ ¬ ownB va0 b) rb w10 s5 va 0 s5 [] [] w' ∧ (N1 = 0 → if nilS fDescribeProducersResponseTopic_1 ver y1 = true then va = .slice none 0 0 else ∃ a, va = .slice (some a) 0 0))) ?_ ?_
      · by_cases hy0 : (0 : Int) < y1
        · have hyv : Value.int .i32 y1 = .int .i32 ((N1 : Nat) : Int) := by rw [show y1 = ((N1 : Nat) : Int) by omega]
          repeat ((first | refine W.seqR rfl ?_ | refine W.seq ?_ | refine W.regR rfl ?_ | refine W.condK ?_ | refine W.block ?_ | refine W.skip ?_ | refine W.ret ?_ | refine W.exit ?_); try simp (maxSteps := 1000000) (disch := (first | omega | (simp only [World.size_alloc, size_wr, size_drew] <;> omega) | exact not_noB _)) only [go_sem, ↓reduceIte, n0, reduceCtorEq, n1, n2, n3, n4, n5, i0, i1, i2, i3, i4, i5, i6, i7, hxb10, hrc0_2, hrc0_7, hrc0_8, hrc0_9, hrc0_10, hrc0_14, hra0, hri0, exitRQ_ret, exitRQ_exit, Int.toNat_natCast, Nat.mul_one])
          refine wp_appendZ (m := N1) utDescribeProducersResponse_75 utDescribeProducersResponse_21 inDescribeProducersResponse_83 (by decide) (by first | rfl | simp (maxSteps := 1000000) (disch := (first | omega | (simp only [World.size_alloc, size_wr, size_drew] <;> omega) | exact not_noB _)) only [go_sem, ↓reduceIte, n0, reduceCtorEq, n1, n2, n3, n4, n5, i0, i1, i2, i3, i4, i5, i6, i7, hrc0_2, hrc0_7, hrc0_8, hrc0_9, hrc0_10, hrc0_14, hra0, hri0]) (by first | exact hyv | (simp (maxSteps := 1000000) (disch := (first | omega | (simp only [World.size_alloc, size_wr, size_drew] <;> omega) | exact not_noB _)) only [go_sem, ↓reduceIte, n0, reduceCtorEq, n1, n2, n3, n4, n5, i0, i1, i2, i3, i4, i5, i6, i7, hrc0_2, hrc0_7, hrc0_8, hrc0_9, hrc0_10, hrc0_14, hra0, hri0]; exact hyv)) (by omega) (by omega) (by decide) ?_
          intro q rest hq1
          have hEw : Ext w10 (w10.drew.alloc (.cells (zs [.int .i32 0, .int .i16 0, .pointer none, .slice none 0 0, .map none] N1 ++ rest).toArray 83)) := (Upd.refl _ _).drew.alloc _
          try simp (maxSteps := 1000000) (disch := (first | omega | (simp only [World.size_alloc, size_wr, size_drew] <;> omega) | exact not_noB _)) only [go_sem, ↓reduceIte, n0, reduceCtorEq, n1, n2, n3, n4, n5, i0, i1, i2, i3, i4, i5, i6, i7, hxb10, hrc0_2, hrc0_7, hrc0_8, hrc0_9, hrc0_10, hrc0_14, hra0, hri0, exitRQ_ret, exitRQ_exit, Int.toNat_natCast, Nat.mul_one]
          repeat ((first | refine W.seqR rfl ?_ | refine W.seq ?_ | refine W.regR rfl ?_ | refine W.condK ?_ | refine W.block ?_ | refine W.skip ?_ | refine W.ret ?_ | refine W.exit ?_); try simp (maxSteps := 1000000) (disch := (first | omega | (simp only [World.size_alloc, size_wr, size_drew] <;> omega) | exact not_noB _)) only [go_sem, ↓reduceIte, n0, reduceCtorEq, n1, n2, n3, n4, n5, i0, i1, i2, i3, i4, i5, i6, i7, hxb10, hrc0_2, hrc0_7, hrc0_8, hrc0_9, hrc0_10, hrc0_14, hra0, hri0, exitRQ_ret, exitRQ_exit, Int.toNat_natCast, Nat.mul_one])
          exact ⟨(by simp (maxSteps := 1000000) (disch := (first | omega | (simp only [World.size_alloc, size_wr, size_drew] <;> omega) | exact not_noB _)) only [go_sem, ↓reduceIte, n0, reduceCtorEq, n1, n2, n3, n4, n5, i0, i1, i2, i3, i4, i5, i6, i7, Holds_nil, Holds_cons, hrc0_2, hrc0_7, hrc0_8, hrc0_9, hrc0_10, hrc0_14, hra0, hri0]), .slice (some ⟨w10.heap.size, 0, none⟩) N1 q, (by simp (maxSteps := 1000000) (disch := (first | omega | (simp only [World.size_alloc, size_wr, size_drew] <;> omega) | exact not_noB _)) only [go_sem, ↓reduceIte, n0, reduceCtorEq, n1, n2, n3, n4, n5, i0, i1, i2, i3, i4, i5, i6, i7, hrc0_2, hrc0_7, hrc0_8, hrc0_9, hrc0_10, hrc0_14, hra0, hri0]), LstI.start (RowJ.start (by omega) hq1 (by show w10.heap.size ≤ w10.drew.heap.size; rw [size_drew]; omega) (blk_alloc_new rfl)) ⟨hq10.1.upd hEw (fun h => h) (fun _ _ _ h => h), hq10.2.upd hEw fun h => h⟩ (hEw.mono fun _ h => h.elim), fun h0 => by omega⟩
        · repeat ((first | refine W.seqR rfl ?_ | refine W.seq ?_ | refine W.regR rfl ?_ | refine W.condK ?_ | refine W.block ?_ | refine W.skip ?_ | refine W.ret ?_ | refine W.exit ?_); try simp (maxSteps := 1000000) (disch := (first | omega | (simp only [World.size_alloc, size_wr, size_drew] <;> omega) | exact not_noB _)) only [go_sem, ↓reduceIte, n0, reduceCtorEq, n1, n2, n3, n4, n5, i0, i1, i2, i3, i4, i5, i6, i7, hxb10, hrc0_2, hrc0_7, hrc0_8, hrc0_9, hrc0_10, hrc0_14, hra0, hri0, exitRQ_ret, exitRQ_exit, Int.toNat_natCast, Nat.mul_one])
          exact ⟨(by simp (maxSteps := 1000000) (disch := (first | omega | (simp only [World.size_alloc, size_wr, size_drew] <;> omega) | exact not_noB _)) only [go_sem, ↓reduceIte, n0, reduceCtorEq, n1, n2, n3, n4, n5, i0, i1, i2, i3, i4, i5, i6, i7, Holds_nil, Holds_cons, hrc0_2, hrc0_7, hrc0_8, hrc0_9, hrc0_10, hrc0_14, hra0, hri0]), .slice none 0 0, (by simp (maxSteps := 1000000) (disch := (first | omega | (simp only [World.size_alloc, size_wr, size_drew] <;> omega) | exact not_noB _)) only [go_sem, ↓reduceIte, n0, reduceCtorEq, n1, n2, n3, n4, n5, i0, i1, i2, i3, i4, i5, i6, i7, hrc0_2, hrc0_7, hrc0_8, hrc0_9, hrc0_10, hrc0_14, hra0, hri0, slBase_00]), LstI.start (RowJ.zero (by omega) (fun _ h => by cases h)) hq10 (Upd.refl _ _), fun _ => by rw [nilS_plain (by decide) (by omega)]; exact rfl⟩
      rintro ρ w11 ⟨⟨hrb1_2, hrb1_7, hrb1_8, hrb1_9, hrb1_10, hrb1_14, hrb1_13, hrb1_15, hrb1_17, hrb1_21, -⟩, va1, hra1, hL1, hnc1⟩
      repeat ((first | refine W.seqR rfl ?_ | refine W.seq ?_ | refine W.regR rfl ?_ | refine W.condK ?_ | refine W.block ?_ | refine W.skip ?_ | refine W.ret ?_ | refine W.exit ?_); try simp (maxSteps := 1000000) (disch := (first | omega | (simp only [World.size_alloc, size_wr, size_drew] <;> omega) | exact not_noB _)) only [go_sem, ↓reduceIte, n0, reduceCtorEq, n1, n2, n3, n4, n5, i0, i1, i2, i3, i4, i5, i6, i7, hxb10, hrb1_2, hrb1_7, hrb1_8, hrb1_9, hrb1_10, hrb1_14, hrb1_13, hrb1_15, hrb1_17, hrb1_21, hra1, exitRQ_ret, exitRQ_exit, Int.toNat_natCast, Nat.mul_one])
      refine W.exitRJ 2 (EndQ [(2, .bool false), (7, .pointer (some ⟨rb, 0, none⟩)), (8, .int .i16 ver), (9, .bool true), (10, .pointer (some ⟨vb, 0, none⟩)), (14, .int .i32 y0), (13, .slice (some ⟨R1, 0, none⟩) N0 q1), (15, .int .i32 j1), (17, .pointer (some ⟨R1, j1 * 3, none⟩)), (21, .int .i32 y1), (20, va1)] (fun w' => ∃ s xs css, LstI RT (rd1 (rdP (d + 2) ver true) fDescribeProducersResponseTopic_1.of fDescribeProducersResponseTopic_1.sub false true) (Rep1 (RepS true (d + 2)) fDescribeProducersResponseTopic_1.of fDescribeProducersResponseTopic_1.sub) 5 83 [.int .i32 0, .int .i16 0, .pointer none, .slice none 0 0, .map none] w10.heap.size N1 ok (fun b => (ok b ∨ w1.heap.size ≤ b) ∧ ¬ ownB va0 b) rb w10 s5 va1 N1 s xs css w')) (W.loop (LoopQ [(2, .bool false), (7, .pointer (some ⟨rb, 0, none⟩)), (8, .int .i16 ver), (9, .bool true), (10, .pointer (some ⟨vb, 0, none⟩)), (14, .int .i32 y0), (13, .slice (some ⟨R1, 0, none⟩) N0 q1), (15, .int .i32 j1), (17, .pointer (some ⟨R1, j1 * 3, none⟩)), (21, .int .i32 y1), (20, va1)] 22 (fun j w' => ∃ s xs css, LstI RT (rd1 (rdP (d + 2) ver true) fDescribeProducersResponseTopic_1.of fDescribeProducersResponseTopic_1.sub false true) (Rep1 (RepS true (d + 2)) fDescribeProducersResponseTopic_1.of fDescribeProducersResponseTopic_1.sub) 5 83 [.int .i32 0, .int .i16 0, .pointer none, .slice none 0 0, .map none] w10.heap.size N1 ok (fun b => (ok b ∨ w1.heap.size ≤ b) ∧ ¬ ownB va0 b) rb w10 s5 va1 j s xs css w')) (fun ρ _ => N1 - (RowKit.intOf (ρ 22)).toNat) ?_ ?_) ?_
      · exact ⟨(by simp (maxSteps := 1000000) (disch := (first | omega | (simp only [World.size_alloc, size_wr, size_drew] <;> omega) | exact not_noB _)) only [go_sem, ↓reduceIte, n0, reduceCtorEq, n1, n2, n3, n4, n5, i0, i1, i2, i3, i4, i5, i6, i7, Holds_nil, Holds_cons, hrb1_2, hrb1_7, hrb1_8, hrb1_9, hrb1_10, hrb1_14, hrb1_13, hrb1_15, hrb1_17, hrb1_21, hra1]), 0, (by simp (maxSteps := 1000000) (disch := (first | omega | (simp only [World.size_alloc, size_wr, size_drew] <;> omega) | exact not_noB _)) only [go_sem, ↓reduceIte, n0, reduceCtorEq, n1, n2, n3, n4, n5, i0, i1, i2, i3, i4, i5, i6, i7, hrb1_2, hrb1_7, hrb1_8, hrb1_9, hrb1_10, hrb1_14, hrb1_13, hrb1_15, hrb1_17, hrb1_21, hra1]; all_goals rfl), s5, [], [], hL1⟩
      · rintro ρ w12 ⟨⟨hrc1_2, hrc1_7, hrc1_8, hrc1_9, hrc1_10, hrc1_14, hrc1_13, hrc1_15, hrc1_17, hrc1_21, hrc1_20, -⟩, j2, hri1, s6, xs1, css1, hL1⟩
        have hj1 := hL1.le
        have hq12 := hL1.rd
        have hU12 : Upd (fun b => b = vb ∨ b = rb) w1 w12 := hU10.trans' hL1.upd fun i _ h => .inr h
        have hz12 := hL1.upd.size
        have hG12 : Glo ev w12 := hG1.updS hU12 hgM1 hgM2
        by_cases hlt1 : j2 < N1
        · obtain ⟨R2, q2, B2, hva2, hNq2, hLR2, hA2, hx2_12, hnext2⟩ := hL1.row.next hlt1
          have hRl2 := blk_lt hx2_12
          generalize css1.flatten = A2 at hA2 hx2_12 hnext2
          replace hra1 : ρ 20 = .slice (some ⟨R2, 0, none⟩) N1 q2 := hrc1_20.trans hva2
          have hown2 : ∀ b, ownB va1 b → w10.heap.size ≤ b ∧ b < w12.heap.size := fun b h => hL1.row.own h
          have hoM2 : ∀ b, (fun b => (fun b => (ok b ∨ w1.heap.size ≤ b) ∧ ¬ ownB va0 b) b ∧ ¬ ownB va1 b) b → ¬ (b = R2 ∨ b = rb) := fun b hk h => h.elim (fun e => hk.2 ⟨_, _, _, hva2, e⟩) (fun e => hoM1 b hk.1 (.inr e))
          obtain ⟨X12, hX12⟩ : ∃ X : Array Value, X = (A2 ++ (([.int .i32 0, .int .i16 0, .pointer none, .slice none 0 0, .map none] : List Value) ++ B2)).toArray := ⟨_, rfl⟩
          have hxb12 : blk w12 R2 = some (X12, 83, (0, 0)) := by rw [hX12]; exact hx2_12
          have hXs12 : j2 * 5 + 5 ≤ X12.size := by rw [hX12]; simp only [List.size_toArray, List.length_append, List.length_cons, List.length_nil, hA2]; omega
          repeat ((first | refine W.seqR rfl ?_ | refine W.seq ?_ | refine W.regR rfl ?_ | refine W.condK ?_ | refine W.block ?_ | refine W.skip ?_ | refine W.ret ?_ | refine W.exit ?_); try simp (maxSteps := 1000000) (disch := (first | omega | (simp only [World.size_alloc, size_wr, size_drew] <;> omega) | exact not_noB _)) only [go_sem, ↓reduceIte, n0, reduceCtorEq, n1, n2, n3, n4, n5, i0, i1, i2, i3, i4, i5, i6, i7, hxb12, hrc1_2, hrc1_7, hrc1_8, hrc1_9, hrc1_10, hrc1_14, hrc1_13, hrc1_15, hrc1_17, hrc1_21, hra1, hri1, exitRQ_ret, exitRQ_exit, Int.toNat_natCast, Nat.mul_one])
          refine (DefaultEDescribeProducersResponseTopicPartition_fn w12 hx2_12 hA2).mono ?_
          rintro _ w13 ⟨hx2_13, hu13⟩
          have hq13 := And.intro (hq12.1.upd hu13 (by omega) (fun b _ hk e => by have := (hok b hk).1; omega)) (hq12.2.upd hu13 (by omega))
          have hV13 : Upd (fun b => b = R2 ∨ b = rb) w12 w13 := hu13.mono (fun _ h => .inl h)
          have hU13 : Upd (fun b => b = vb ∨ b = rb) w1 w13 := hU12.trans' hV13 fun i hi h => h.elim (fun h => by omega) .inr
          have hz13 := hV13.size
          have hG13 : Glo ev w13 := hG1.updS hU13 hgM1 hgM2
          obtain ⟨X13, hX13⟩ : ∃ X : Array Value, X = (A2 ++ (([.int .i32 0, .int .i16 0, .pointer none, .slice none 0 0, .map none] : List Value) ++ B2)).toArray := ⟨_, rfl⟩
          have hxb13 : blk w13 R2 = some (X13, 83, (0, 0)) := by rw [hX13]; exact hx2_13
          have hXs13 : j2 * 5 + 5 ≤ X13.size := by rw [hX13]; simp only [List.size_toArray, List.length_append, List.length_cons, List.length_nil, hA2]; omega
          have hbe0e1_0 : (rdL (rdP (d + 1) ver true) (dfP (d + 1)) ver true [fDescribeProducersResponseTopicPartition_0, fDescribeProducersResponseTopicPartition_1, fDescribeProducersResponseTopicPartition_2, fDescribeProducersResponseTopicPartition_3] s6).2 = none → FB := fun h => hlb1 (hL1.bad hlt1 rd1P_none (by show (rd1 (rdP (d + 2) ver true) 10 fs_DescribeProducersResponseTopicPartition false true s6).2 = none; rw [rd1_part]; exact rdP_bad h))
          have hhe0e1_0 : hasS fDescribeProducersResponseTopicPartition_0 ver = true := hasS_t (by show (0 : Int) ≤ ver; omega) (by show (-1 : Int) < 0 ∨ ver ≤ (-1 : Int); omega)
          obtain ⟨xe0e1_0, hxe0e1_0⟩ : ∃ x, x = (rdF (rdP (d + 1) ver true) ver true fDescribeProducersResponseTopicPartition_0 s6).1 := ⟨_, rfl⟩
          repeat ((first | refine W.seqR rfl ?_ | refine W.seq ?_ | refine W.regR rfl ?_ | refine W.condK ?_ | refine W.block ?_ | refine W.skip ?_ | refine W.ret ?_ | refine W.exit ?_); try simp (maxSteps := 1000000) (disch := (first | omega | (simp only [World.size_alloc, size_wr, size_drew] <;> omega) | exact not_noB _)) only [go_sem, ↓reduceIte, n0, reduceCtorEq, n1, n2, n3, n4, n5, i0, i1, i2, i3, i4, i5, i6, i7, hxb13, hrc1_2, hrc1_7, hrc1_8, hrc1_9, hrc1_10, hrc1_14, hrc1_13, hrc1_15, hrc1_17, hrc1_21, hra1, hri1, exitRQ_ret, exitRQ_exit, Int.toNat_natCast, Nat.mul_one])
          have hrd : rdF (rdP (d + 1) ver true) ver true fDescribeProducersResponseTopicPartition_0 s6 = _ := rdF_num 3 rfl (by decide)
          refine (Int32_fn w13 hq13.1 hrok hG13.1 hgrb).mono ?_
          rintro _ w14 ⟨rfl, hq14, hu14⟩
          have hx2_14 := hu14.blk_some hx2_13 (by omega)
          have hV14 : Upd (fun b => b = R2 ∨ b = rb) w13 w14 := hu14.mono (fun _ h => .inr h)
          have hU14 : Upd (fun b => b = vb ∨ b = rb) w1 w14 := hU13.trans' hV14 fun i hi h => h.elim (fun h => by omega) .inr
          have hz14 := hV14.size
          have hG14 : Glo ev w14 := hG1.updS hU14 hgM1 hgM2
          obtain ⟨X14, hX14⟩ : ∃ X : Array Value, X = (A2 ++ (([.int .i32 0, .int .i16 0, .pointer none, .slice none 0 0, .map none] : List Value) ++ B2)).toArray := ⟨_, rfl⟩
          have hxb14 : blk w14 R2 = some (X14, 83, (0, 0)) := by rw [hX14]; exact hx2_14
          have hXs14 : j2 * 5 + 5 ≤ X14.size := by rw [hX14]; simp only [List.size_toArray, List.length_append, List.length_cons, List.length_nil, hA2]; omega
          have hst : (rdF (rdP (d + 1) ver true) ver true fDescribeProducersResponseTopicPartition_0 s6).2 = (rdInt .i32 4 s6).2 := by first | (rw [hrd]; rfl) | rw [hrd]
          obtain ⟨s7, hs7⟩ : ∃ s, s = (rdF (rdP (d + 1) ver true) ver true fDescribeProducersResponseTopicPartition_0 s6).2 := ⟨_, rfl⟩
          rw [← hst, ← hs7] at hq14
          clear hst
          have hst14_0 : j2 * 5 + 1 ≤ X14.size := by omega
          have hld14_3 : X14[j2 * 5 + 3]? = some (.slice none 0 0) := by rw [hX14]; exact el_cell (R := 0) hA2 (Nat.le_of_ble_eq_true rfl)
          repeat ((first | refine W.seqR rfl ?_ | refine W.seq ?_ | refine W.regR rfl ?_ | refine W.condK ?_ | refine W.block ?_ | refine W.skip ?_ | refine W.ret ?_ | refine W.exit ?_); try simp (maxSteps := 1000000) (disch := (first | omega | (simp only [World.size_alloc, size_wr, size_drew] <;> omega) | exact not_noB _)) only [go_sem, ↓reduceIte, n0, reduceCtorEq, n1, n2, n3, n4, n5, i0, i1, i2, i3, i4, i5, i6, i7, hxb14, hrc1_2, hrc1_7, hrc1_8, hrc1_9, hrc1_10, hrc1_14, hrc1_13, hrc1_15, hrc1_17, hrc1_21, hra1, hri1, exitRQ_ret, exitRQ_exit, Int.toNat_natCast, Nat.mul_one, hst14_0, hld14_3, Array.getElem?_setIfInBounds_ne])
          generalize hw15 : wr w14 R2 (j2 * 5) [.int .i32 (rdInt .i32 4 s6).1] = w15
          have hS15 : Upd (fun b => b = R2 ∨ b = rb) w14 w15 := by rw [← hw15]; exact (Upd.refl _ _).wr _ _ (.inr (.inl rfl))
          have hx2_15 : blk w15 R2 = some ((A2 ++ (([.int .i32 (rdInt .i32 4 s6).1, .int .i16 0, .pointer none, .slice none 0 0, .map none] : List Value) ++ B2)).toArray, 83, (0, 0)) := by rw [← hw15]; exact el_blk0 hx2_14 hA2 (Nat.le_of_ble_eq_true rfl)
          have hV15 := hS15
          have hU15 : Upd (fun b => b = vb ∨ b = rb) w1 w15 := hU14.trans' hV15 fun i hi h => h.elim (fun h => by omega) .inr
          have hz15 := hV15.size
          have hG15 : Glo ev w15 := hG1.updS hU15 hgM1 hgM2
          have hq15 : Rdr RT ok w15 rb s7 ∧ NN w15 rb s7 := by
            have hn : ∀ x, x = w15 → (Rdr RT ok x rb s7 ∧ NN x rb s7) := fun x hx => by
              rw [hx, ← hw15]
              exact Rdr.store hq14 (by omega) (fun h => by have := (hok _ h).1; first | omega | exact (hok _ h).2 rfl)
            exact hn _ rfl
          obtain ⟨X15, hX15⟩ : ∃ X : Array Value, X = (A2 ++ (([.int .i32 (rdInt .i32 4 s6).1, .int .i16 0, .pointer none, .slice none 0 0, .map none] : List Value) ++ B2)).toArray := ⟨_, rfl⟩
          have hxb15 : blk w15 R2 = some (X15, 83, (0, 0)) := by rw [hX15]; exact hx2_15
          have hXs15 : j2 * 5 + 5 ≤ X15.size := by rw [hX15]; simp only [List.size_toArray, List.length_append, List.length_cons, List.length_nil, hA2]; omega
          clear hw15
          have hfe0e1_0 : RepF (RepS true (d + 1)) (szS true (d + 1)) fDescribeProducersResponseTopicPartition_0 (fun b => (fun b => (ok b ∨ w1.heap.size ≤ b) ∧ ¬ ownB va0 b) b ∧ ¬ ownB va1 b) w15 (xe0e1_0) [.int .i32 (rdInt .i32 4 s6).1] := (RepF_num (by decide)).2 (by rw [hxe0e1_0, hrd]; exact congrArg (fun x => [x]) (numC_rd 3 (by decide) 4 s6).symm)
          clear hrd
          have hbe0e1_1 : (rdL (rdP (d + 1) ver true) (dfP (d + 1)) ver true [fDescribeProducersResponseTopicPartition_1, fDescribeProducersResponseTopicPartition_2, fDescribeProducersResponseTopicPartition_3] s7).2 = none → FB := fun h => hbe0e1_0 (by rw [rdL_st (by decide) hhe0e1_0, ← hs7]; exact h)
          have hhe0e1_1 : hasS fDescribeProducersResponseTopicPartition_1 ver = true := hasS_t (by show (0 : Int) ≤ ver; omega) (by show (-1 : Int) < 0 ∨ ver ≤ (-1 : Int); omega)
          obtain ⟨xe0e1_1, hxe0e1_1⟩ : ∃ x, x = (rdF (rdP (d + 1) ver true) ver true fDescribeProducersResponseTopicPartition_1 s7).1 := ⟨_, rfl⟩
          repeat ((first | refine W.seqR rfl ?_ | refine W.seq ?_ | refine W.regR rfl ?_ | refine W.condK ?_ | refine W.block ?_ | refine W.skip ?_ | refine W.ret ?_ | refine W.exit ?_); try simp (maxSteps := 1000000) (disch := (first | omega | (simp only [World.size_alloc, size_wr, size_drew] <;> omega) | exact not_noB _)) only [go_sem, ↓reduceIte, n0, reduceCtorEq, n1, n2, n3, n4, n5, i0, i1, i2, i3, i4, i5, i6, i7, hxb15, hrc1_2, hrc1_7, hrc1_8, hrc1_9, hrc1_10, hrc1_14, hrc1_13, hrc1_15, hrc1_17, hrc1_21, hra1, hri1, exitRQ_ret, exitRQ_exit, Int.toNat_natCast, Nat.mul_one])
          have hrd : rdF (rdP (d + 1) ver true) ver true fDescribeProducersResponseTopicPartition_1 s7 = _ := rdF_num 2 rfl (by decide)
          refine (Int16_fn w15 hq15.1 hrok hG15.1 hgrb).mono ?_
          rintro _ w16 ⟨rfl, hq16, hu16⟩
          have hx2_16 := hu16.blk_some hx2_15 (by omega)
          have hV16 : Upd (fun b => b = R2 ∨ b = rb) w15 w16 := hu16.mono (fun _ h => .inr h)
          have hU16 : Upd (fun b => b = vb ∨ b = rb) w1 w16 := hU15.trans' hV16 fun i hi h => h.elim (fun h => by omega) .inr
          have hz16 := hV16.size
          have hG16 : Glo ev w16 := hG1.updS hU16 hgM1 hgM2
          obtain ⟨X16, hX16⟩ : ∃ X : Array Value, X = (A2 ++ (([.int .i32 (rdInt .i32 4 s6).1, .int .i16 0, .pointer none, .slice none 0 0, .map none] : List Value) ++ B2)).toArray := ⟨_, rfl⟩
          have hxb16 : blk w16 R2 = some (X16, 83, (0, 0)) := by rw [hX16]; exact hx2_16
          have hXs16 : j2 * 5 + 5 ≤ X16.size := by rw [hX16]; simp only [List.size_toArray, List.length_append, List.length_cons, List.length_nil, hA2]; omega
          have hst : (rdF (rdP (d + 1) ver true) ver true fDescribeProducersResponseTopicPartition_1 s7).2 = (rdInt .i16 2 s7).2 := by first | (rw [hrd]; rfl) | rw [hrd]
          obtain ⟨s8, hs8⟩ : ∃ s, s = (rdF (rdP (d + 1) ver true) ver true fDescribeProducersResponseTopicPartition_1 s7).2 := ⟨_, rfl⟩
          rw [← hst, ← hs8] at hq16
          clear hst
          have hst16_1 : j2 * 5 + 2 ≤ X16.size := by omega
          have hld16_3 : X16[j2 * 5 + 3]? = some (.slice none 0 0) := by rw [hX16]; exact el_cell (R := 0) hA2 (Nat.le_of_ble_eq_true rfl)
          repeat ((first | refine W.seqR rfl ?_ | refine W.seq ?_ | refine W.regR rfl ?_ | refine W.condK ?_ | refine W.block ?_ | refine W.skip ?_ | refine W.ret ?_ | refine W.exit ?_); try simp (maxSteps := 1000000) (disch := (first | omega | (simp only [World.size_alloc, size_wr, size_drew] <;> omega) | exact not_noB _)) only [go_sem, ↓reduceIte, n0, reduceCtorEq, n1, n2, n3, n4, n5, i0, i1, i2, i3, i4, i5, i6, i7, hxb16, hrc1_2, hrc1_7, hrc1_8, hrc1_9, hrc1_10, hrc1_14, hrc1_13, hrc1_15, hrc1_17, hrc1_21, hra1, hri1, exitRQ_ret, exitRQ_exit, Int.toNat_natCast, Nat.mul_one, hst16_1, hld16_3, Array.getElem?_setIfInBounds_ne])
          generalize hw17 : wr w16 R2 (j2 * 5 + 1) [.int .i16 (rdInt .i16 2 s7).1] = w17
          have hS17 : Upd (fun b => b = R2 ∨ b = rb) w16 w17 := by rw [← hw17]; exact (Upd.refl _ _).wr _ _ (.inr (.inl rfl))
          have hx2_17 : blk w17 R2 = some ((A2 ++ (([.int .i32 (rdInt .i32 4 s6).1, .int .i16 (rdInt .i16 2 s7).1, .pointer none, .slice none 0 0, .map none] : List Value) ++ B2)).toArray, 83, (0, 0)) := by rw [← hw17]; exact el_blk (o := 1) hx2_16 hA2 (Nat.le_of_ble_eq_true rfl)
          have hV17 := hS17
          have hU17 : Upd (fun b => b = vb ∨ b = rb) w1 w17 := hU16.trans' hV17 fun i hi h => h.elim (fun h => by omega) .inr
          have hz17 := hV17.size
          have hG17 : Glo ev w17 := hG1.updS hU17 hgM1 hgM2
          have hq17 : Rdr RT ok w17 rb s8 ∧ NN w17 rb s8 := by
            have hn : ∀ x, x = w17 → (Rdr RT ok x rb s8 ∧ NN x rb s8) := fun x hx => by
              rw [hx, ← hw17]
              exact Rdr.store hq16 (by omega) (fun h => by have := (hok _ h).1; first | omega | exact (hok _ h).2 rfl)
            exact hn _ rfl
          obtain ⟨X17, hX17⟩ : ∃ X : Array Value, X = (A2 ++ (([.int .i32 (rdInt .i32 4 s6).1, .int .i16 (rdInt .i16 2 s7).1, .pointer none, .slice none 0 0, .map none] : List Value) ++ B2)).toArray := ⟨_, rfl⟩
          have hxb17 : blk w17 R2 = some (X17, 83, (0, 0)) := by rw [hX17]; exact hx2_17
          have hXs17 : j2 * 5 + 5 ≤ X17.size := by rw [hX17]; simp only [List.size_toArray, List.length_append, List.length_cons, List.length_nil, hA2]; omega
          clear hw17
          have hfe0e1_1 : RepF (RepS true (d + 1)) (szS true (d + 1)) fDescribeProducersResponseTopicPartition_1 (fun b => (fun b => (ok b ∨ w1.heap.size ≤ b) ∧ ¬ ownB va0 b) b ∧ ¬ ownB va1 b) w17 (xe0e1_1) [.int .i16 (rdInt .i16 2 s7).1] := (RepF_num (by decide)).2 (by rw [hxe0e1_1, hrd]; exact congrArg (fun x => [x]) (numC_rd 2 (by decide) 2 s7).symm)
          clear hrd
          have hbe0e1_2 : (rdL (rdP (d + 1) ver true) (dfP (d + 1)) ver true [fDescribeProducersResponseTopicPartition_2, fDescribeProducersResponseTopicPartition_3] s8).2 = none → FB := fun h => hbe0e1_1 (by rw [rdL_st (by decide) hhe0e1_1, ← hs8]; exact h)
          have hhe0e1_2 : hasS fDescribeProducersResponseTopicPartition_2 ver = true := hasS_t (by show (0 : Int) ≤ ver; omega) (by show (-1 : Int) < 0 ∨ ver ≤ (-1 : Int); omega)
          obtain ⟨xe0e1_2, hxe0e1_2⟩ : ∃ x, x = (rdF (rdP (d + 1) ver true) ver true fDescribeProducersResponseTopicPartition_2 s8).1 := ⟨_, rfl⟩
          repeat ((first | refine W.seqR rfl ?_ | refine W.seq ?_ | refine W.regR rfl ?_ | refine W.condK ?_ | refine W.block ?_ | refine W.skip ?_ | refine W.ret ?_ | refine W.exit ?_); try simp (maxSteps := 1000000) (disch := (first | omega | (simp only [World.size_alloc, size_wr, size_drew] <;> omega) | exact not_noB _)) only [go_sem, ↓reduceIte, n0, reduceCtorEq, n1, n2, n3, n4, n5, i0, i1, i2, i3, i4, i5, i6, i7, hxb17, hrc1_2, hrc1_7, hrc1_8, hrc1_9, hrc1_10, hrc1_14, hrc1_13, hrc1_15, hrc1_17, hrc1_21, hra1, hri1, exitRQ_ret, exitRQ_exit, Int.toNat_natCast, Nat.mul_one])
          have hmay : mayS fDescribeProducersResponseTopicPartition_2 ver = true := mayS_yes (by decide) (by show (0 : Int) ≤ ver; omega)
          have hrd : rdF (rdP (d + 1) ver true) ver true fDescribeProducersResponseTopicPartition_2 s8 = _ := rdF_ptr rfl hmay
          refine (RCompactNullableString_fn w17 hq17.1 hrok hG17.1 hgrb).mono ?_
          rintro r18 w18 ⟨hp18, hq18, hu18⟩
          obtain ⟨ap18, rfl⟩ := hp18.shape
          have hx2_18 := hu18.blk_some hx2_17 (by omega)
          have hV18 : Upd (fun b => b = R2 ∨ b = rb) w17 w18 := hu18.mono (fun _ h => .inr h)
          have hU18 : Upd (fun b => b = vb ∨ b = rb) w1 w18 := hU17.trans' hV18 fun i hi h => h.elim (fun h => by omega) .inr
          have hz18 := hV18.size
          have hG18 : Glo ev w18 := hG1.updS hU18 hgM1 hgM2
          obtain ⟨X18, hX18⟩ : ∃ X : Array Value, X = (A2 ++ (([.int .i32 (rdInt .i32 4 s6).1, .int .i16 (rdInt .i16 2 s7).1, .pointer none, .slice none 0 0, .map none] : List Value) ++ B2)).toArray := ⟨_, rfl⟩
          have hxb18 : blk w18 R2 = some (X18, 83, (0, 0)) := by rw [hX18]; exact hx2_18
          have hXs18 : j2 * 5 + 5 ≤ X18.size := by rw [hX18]; simp only [List.size_toArray, List.length_append, List.length_cons, List.length_nil, hA2]; omega
          have hst : (rdF (rdP (d + 1) ver true) ver true fDescribeProducersResponseTopicPartition_2 s8).2 = (rdNStr true s8).2 := by first | (rw [hrd]; rfl) | rw [hrd]
          obtain ⟨s9, hs9⟩ : ∃ s, s = (rdF (rdP (d + 1) ver true) ver true fDescribeProducersResponseTopicPartition_2 s8).2 := ⟨_, rfl⟩
          rw [← hst, ← hs9] at hq18
          clear hst
          have hst18_2 : j2 * 5 + 3 ≤ X18.size := by omega
          have hld18_3 : X18[j2 * 5 + 3]? = some (.slice none 0 0) := by rw [hX18]; exact el_cell (R := 0) hA2 (Nat.le_of_ble_eq_true rfl)
          repeat ((first | refine W.seqR rfl ?_ | refine W.seq ?_ | refine W.regR rfl ?_ | refine W.condK ?_ | refine W.block ?_ | refine W.skip ?_ | refine W.ret ?_ | refine W.exit ?_); try simp (maxSteps := 1000000) (disch := (first | omega | (simp only [World.size_alloc, size_wr, size_drew] <;> omega) | exact not_noB _)) only [go_sem, ↓reduceIte, n0, reduceCtorEq, n1, n2, n3, n4, n5, i0, i1, i2, i3, i4, i5, i6, i7, hxb18, hrc1_2, hrc1_7, hrc1_8, hrc1_9, hrc1_10, hrc1_14, hrc1_13, hrc1_15, hrc1_17, hrc1_21, hra1, hri1, exitRQ_ret, exitRQ_exit, Int.toNat_natCast, Nat.mul_one, hst18_2, hld18_3, Array.getElem?_setIfInBounds_ne])
          generalize hw19 : wr w18 R2 (j2 * 5 + 2) [.pointer ap18] = w19
          have hS19 : Upd (fun b => b = R2 ∨ b = rb) w18 w19 := by rw [← hw19]; exact (Upd.refl _ _).wr _ _ (.inr (.inl rfl))
          have hx2_19 : blk w19 R2 = some ((A2 ++ (([.int .i32 (rdInt .i32 4 s6).1, .int .i16 (rdInt .i16 2 s7).1, .pointer ap18, .slice none 0 0, .map none] : List Value) ++ B2)).toArray, 83, (0, 0)) := by rw [← hw19]; exact el_blk (o := 2) hx2_18 hA2 (Nat.le_of_ble_eq_true rfl)
          have hV19 := hS19
          have hU19 : Upd (fun b => b = vb ∨ b = rb) w1 w19 := hU18.trans' hV19 fun i hi h => h.elim (fun h => by omega) .inr
          have hz19 := hV19.size
          have hG19 : Glo ev w19 := hG1.updS hU19 hgM1 hgM2
          have hq19 : Rdr RT ok w19 rb s9 ∧ NN w19 rb s9 := by
            have hn : ∀ x, x = w19 → (Rdr RT ok x rb s9 ∧ NN x rb s9) := fun x hx => by
              rw [hx, ← hw19]
              exact Rdr.store hq18 (by omega) (fun h => by have := (hok _ h).1; first | omega | exact (hok _ h).2 rfl)
            exact hn _ rfl
          obtain ⟨X19, hX19⟩ : ∃ X : Array Value, X = (A2 ++ (([.int .i32 (rdInt .i32 4 s6).1, .int .i16 (rdInt .i16 2 s7).1, .pointer ap18, .slice none 0 0, .map none] : List Value) ++ B2)).toArray := ⟨_, rfl⟩
          have hxb19 : blk w19 R2 = some (X19, 83, (0, 0)) := by rw [hX19]; exact hx2_19
          have hXs19 : j2 * 5 + 5 ≤ X19.size := by rw [hX19]; simp only [List.size_toArray, List.length_append, List.length_cons, List.length_nil, hA2]; omega
          clear hw19
          have hfe0e1_2 : RepF (RepS true (d + 1)) (szS true (d + 1)) fDescribeProducersResponseTopicPartition_2 (fun b => (fun b => (ok b ∨ w1.heap.size ≤ b) ∧ ¬ ownB va0 b) b ∧ ¬ ownB va1 b) w19 (xe0e1_2) [.pointer ap18] := (RepF_ptr rfl (by decide)).2 ⟨_, rfl, by rw [hxe0e1_2, hrd]; exact (hp18.weaken fun b _ hk => by have hk' : w17.heap.size ≤ b := hk; exact ⟨⟨.inr (by omega), fun ho => by have := (hown1 _ ho).2; omega⟩, fun ho => by have := (hown2 _ ho).2; omega⟩).keep (hV19.keeps fun b _ hk e => hoM2 b hk e)⟩
          clear hrd
          have hbe0e1_3 : (rdL (rdP (d + 1) ver true) (dfP (d + 1)) ver true [fDescribeProducersResponseTopicPartition_3] s9).2 = none → FB := fun h => hbe0e1_2 (by rw [rdL_st (by decide) hhe0e1_2, ← hs9]; exact h)
          have hhe0e1_3 : hasS fDescribeProducersResponseTopicPartition_3 ver = true := hasS_t (by show (0 : Int) ≤ ver; omega) (by show (-1 : Int) < 0 ∨ ver ≤ (-1 : Int); omega)
          obtain ⟨xe0e1_3, hxe0e1_3⟩ : ∃ x, x = (rdF (rdP (d + 1) ver true) ver true fDescribeProducersResponseTopicPartition_3 s9).1 := ⟨_, rfl⟩
          have hld19_3 : X19[j2 * 5 + 3]? = some (.slice none 0 0) := by rw [hX19]; exact el_cell (R := 0) hA2 (Nat.le_of_ble_eq_true rfl)
          repeat ((first | refine W.seqR rfl ?_ | refine W.seq ?_ | refine W.regR rfl ?_ | refine W.condK ?_ | refine W.block ?_ | refine W.skip ?_ | refine W.ret ?_ | refine W.exit ?_); try simp (maxSteps := 1000000) (disch := (first | omega | (simp only [World.size_alloc, size_wr, size_drew] <;> omega) | exact not_noB _)) only [go_sem, ↓reduceIte, n0, reduceCtorEq, n1, n2, n3, n4, n5, i0, i1, i2, i3, i4, i5, i6, i7, hxb19, hrc1_2, hrc1_7, hrc1_8, hrc1_9, hrc1_10, hrc1_14, hrc1_13, hrc1_15, hrc1_17, hrc1_21, hra1, hri1, exitRQ_ret, exitRQ_exit, Int.toNat_natCast, Nat.mul_one, hld19_3])
          refine (RCompactArrayLen_fn w19 hq19.1 hrok hG19.1 hgrb).mono ?_
          rintro _ w20 ⟨rfl, hq20, hu20⟩
          have hx2_20 := hu20.blk_some hx2_19 (by omega)
          have hV20 : Upd (fun b => b = R2 ∨ b = rb) w19 w20 := hu20.mono (fun _ h => .inr h)
          have hU20 : Upd (fun b => b = vb ∨ b = rb) w1 w20 := hU19.trans' hV20 fun i hi h => h.elim (fun h => by omega) .inr
          have hz20 := hV20.size
          have hG20 : Glo ev w20 := hG1.updS hU20 hgM1 hgM2
          obtain ⟨X20, hX20⟩ : ∃ X : Array Value, X = (A2 ++ (([.int .i32 (rdInt .i32 4 s6).1, .int .i16 (rdInt .i16 2 s7).1, .pointer ap18, .slice none 0 0, .map none] : List Value) ++ B2)).toArray := ⟨_, rfl⟩
          have hxb20 : blk w20 R2 = some (X20, 83, (0, 0)) := by rw [hX20]; exact hx2_20
          have hXs20 : j2 * 5 + 5 ≤ X20.size := by rw [hX20]; simp only [List.size_toArray, List.length_append, List.length_cons, List.length_nil, hA2]; omega
          obtain ⟨s10, hs10⟩ : ∃ s, s = (rdALen true s9).2 := ⟨_, rfl⟩
          rw [← hs10] at hq20
          have hyr2 := rdALen_rng true s9
          generalize hy2 : (rdALen true s9).1 = y2 at *
          obtain ⟨N2, hN2⟩ : ∃ N, N = y2.toNat := ⟨_, rfl⟩
          have hlb2 : (rdMany (rd1 (rdP (d + 1) ver true) fDescribeProducersResponseTopicPartition_3.of fDescribeProducersResponseTopicPartition_3.sub false true) N2 s10).2 = none → FB := fun h => hbe0e1_3 (by rw [rdL_st (by decide) hhe0e1_3]; exact rdL_bad (rdF_listbad rfl (by rw [hy2, ← hN2, ← hs10]; exact h)))
          repeat ((first | refine W.seqR rfl ?_ | refine W.seq ?_ | refine W.regR rfl ?_ | refine W.block ?_ | refine W.skip ?_ | refine W.ret ?_ | refine W.exit ?_); try simp (maxSteps := 1000000) (disch := (first | omega | (simp only [World.size_alloc, size_wr, size_drew] <;> omega) | exact not_noB _)) only [go_sem, ↓reduceIte, n0, reduceCtorEq, n1, n2, n3, n4, n5, i0, i1, i2, i3, i4, i5, i6, i7, hxb20, hrc1_2, hrc1_7, hrc1_8, hrc1_9, hrc1_10, hrc1_14, hrc1_13, hrc1_15, hrc1_17, hrc1_21, hra1, hri1, exitRQ_ret, exitRQ_exit, Int.toNat_natCast, Nat.mul_one])
          refine (ROk_fn w20 hq20.1).mono ?_
          rintro _ wz ⟨rfl, hez⟩
          rw [hez]
          clear hez wz
          by_cases hsn2 : s10 = none
          · have hso : s10.isSome = false := by rw [hsn2]; rfl
            try simp (maxSteps := 1000000) (disch := (first | omega | (simp only [World.size_alloc, size_wr, size_drew] <;> omega) | exact not_noB _)) only [go_sem, ↓reduceIte, n0, reduceCtorEq, n1, n2, n3, n4, n5, i0, i1, i2, i3, i4, i5, i6, i7, hxb20, hrc1_2, hrc1_7, hrc1_8, hrc1_9, hrc1_10, hrc1_14, hrc1_13, hrc1_15, hrc1_17, hrc1_21, hra1, hri1, exitRQ_ret, exitRQ_exit, Int.toNat_natCast, Nat.mul_one, hso]
            repeat ((first | refine W.seqR rfl ?_ | refine W.seq ?_ | refine W.regR rfl ?_ | refine W.condK ?_ | refine W.block ?_ | refine W.skip ?_ | refine W.ret ?_ | refine W.exit ?_); try simp (maxSteps := 1000000) (disch := (first | omega | (simp only [World.size_alloc, size_wr, size_drew] <;> omega) | exact not_noB _)) only [go_sem, ↓reduceIte, n0, reduceCtorEq, n1, n2, n3, n4, n5, i0, i1, i2, i3, i4, i5, i6, i7, hxb20, hrc1_2, hrc1_7, hrc1_8, hrc1_9, hrc1_10, hrc1_14, hrc1_13, hrc1_15, hrc1_17, hrc1_21, hra1, hri1, exitRQ_ret, exitRQ_exit, Int.toNat_natCast, Nat.mul_one, hso])
            refine (RComplete_fn w20 hq20.1 hG20.2).mono ?_
            rintro _ wz ⟨rfl, hez⟩
            rw [hez]
            try simp (maxSteps := 1000000) (disch := (first | omega | (simp only [World.size_alloc, size_wr, size_drew] <;> omega) | exact not_noB _)) only [go_sem, ↓reduceIte, n0, reduceCtorEq, n1, n2, n3, n4, n5, i0, i1, i2, i3, i4, i5, i6, i7, hxb20, hrc1_2, hrc1_7, hrc1_8, hrc1_9, hrc1_10, hrc1_14, hrc1_13, hrc1_15, hrc1_17, hrc1_21, hra1, hri1, exitRQ_ret, exitRQ_exit, Int.toNat_natCast, Nat.mul_one]
            repeat ((first | refine W.seqR rfl ?_ | refine W.seq ?_ | refine W.regR rfl ?_ | refine W.condK ?_ | refine W.block ?_ | refine W.skip ?_ | refine W.ret ?_ | refine W.exit ?_); try simp (maxSteps := 1000000) (disch := (first | omega | (simp only [World.size_alloc, size_wr, size_drew] <;> omega) | exact not_noB _)) only [go_sem, ↓reduceIte, n0, reduceCtorEq, n1, n2, n3, n4, n5, i0, i1, i2, i3, i4, i5, i6, i7, hxb20, hrc1_2, hrc1_7, hrc1_8, hrc1_9, hrc1_10, hrc1_14, hrc1_13, hrc1_15, hrc1_17, hrc1_21, hra1, hri1, exitRQ_ret, exitRQ_exit, Int.toNat_natCast, Nat.mul_one])
            rw [errV_none hsn2]
            exact ReadQ.bad (Eq.mp hFB (hlb2 (by rw [hsn2]; exact rdMany_none rd1P_none _))) (hbase.trans' hU20 fun i hi h => h.elim id fun h => by omega)
          have hso2 : s10.isSome = true := isSome_some hsn2
          try simp (maxSteps := 1000000) (disch := (first | omega | (simp only [World.size_alloc, size_wr, size_drew] <;> omega) | exact not_noB _)) only [go_sem, ↓reduceIte, n0, reduceCtorEq, n1, n2, n3, n4, n5, i0, i1, i2, i3, i4, i5, i6, i7, hxb20, hrc1_2, hrc1_7, hrc1_8, hrc1_9, hrc1_10, hrc1_14, hrc1_13, hrc1_15, hrc1_17, hrc1_21, hra1, hri1, exitRQ_ret, exitRQ_exit, Int.toNat_natCast, Nat.mul_one, hso2]
          repeat ((first | refine W.seqR rfl ?_ | refine W.seq ?_ | refine W.regR rfl ?_ | refine W.block ?_ | refine W.skip ?_ | refine W.ret ?_ | refine W.exit ?_); try simp (maxSteps := 1000000) (disch := (first | omega | (simp only [World.size_alloc, size_wr, size_drew] <;> omega) | exact not_noB _)) only [go_sem, ↓reduceIte, n0, reduceCtorEq, n1, n2, n3, n4, n5, i0, i1, i2, i3, i4, i5, i6, i7, hxb20, hrc1_2, hrc1_7, hrc1_8, hrc1_9, hrc1_10, hrc1_14, hrc1_13, hrc1_15, hrc1_17, hrc1_21, hra1, hri1, exitRQ_ret, exitRQ_exit, Int.toNat_natCast, Nat.mul_one, hso2])
          refine W.condK ?_
          try simp (maxSteps := 1000000) (disch := (first | omega | (simp only [World.size_alloc, size_wr, size_drew] <;> omega) | exact not_noB _)) only [go_sem, ↓reduceIte, n0, reduceCtorEq, n1, n2, n3, n4, n5, i0, i1, i2, i3, i4, i5, i6, i7, hxb20, hrc1_2, hrc1_7, hrc1_8, hrc1_9, hrc1_10, hrc1_14, hrc1_13, hrc1_15, hrc1_17, hrc1_21, hra1, hri1, exitRQ_ret, exitRQ_exit, Int.toNat_natCast, Nat.mul_one, hso2]
          repeat ((first | refine W.seqR rfl ?_ | refine W.seq ?_ | refine W.regR rfl ?_ | refine W.block ?_ | refine W.skip ?_ | refine W.ret ?_ | refine W.exit ?_); try simp (maxSteps := 1000000) (disch := (first | omega | (simp only [World.size_alloc, size_wr, size_drew] <;> omega) | exact not_noB _)) only [go_sem, ↓reduceIte, n0, reduceCtorEq, n1, n2, n3, n4, n5, i0, i1, i2, i3, i4, i5, i6, i7, hxb20, hrc1_2, hrc1_7, hrc1_8, hrc1_9, hrc1_10, hrc1_14, hrc1_13, hrc1_15, hrc1_17, hrc1_21, hra1, hri1, exitRQ_ret, exitRQ_exit, Int.toNat_natCast, Nat.mul_one, hso2, slBase_00])
          refine W.normJ (RowQ [(2, .bool false), (7, .pointer (some ⟨rb, 0, none⟩)), (8, .int .i16 ver), (9, .bool true), (10, .pointer (some ⟨vb, 0, none⟩)), (14, .int .i32 y0), (13, .slice (some ⟨R1, 0, none⟩) N0 q1), (15, .int .i32 j1), (17, .pointer (some ⟨R1, j1 * 3, none⟩)), (21, .int .i32 y1), (20, .slice (some ⟨R2, 0, none⟩) N1 q2), (22, .int .i32 j2), (24, .pointer (some ⟨R2, j2 * 5, none⟩)), (30, .int .i32 y2)] 29 (fun va w' => LstI RT (rd1 (rdP (d + 1) ver true) fDescribeProducersResponseTopicPartition_3.of fDescribeProducersResponseTopicPartition_3.sub false true) (Rep1 (RepS true (d + 1)) fDescribeProducersResponseTopicPartition_3.of fDescribeProducersResponseTopicPartition_3.sub) 7 88 [.int .i64 0, .int .i32 0, .int .i32 0, .int .i64 0, .int .i32 0, .int .i64 0, .map none] w20.heap.size N2 ok (fun b => (fun b => (ok b ∨ w1.heap.size ≤ b) ∧ ¬ ownB va0 b) b ∧ ¬ ownB va1 b) rb w20 s10 va 0 s10 [] [] w' ∧ (N2 = 0 → if nilS fDescribeProducersResponseTopicPartition_3 ver y2 = true then va = .slice none 0 0 else ∃ a, va = .slice (some a) 0 0))) ?_ ?_
          · by_cases hy0 : (0 : Int) < y2
            · have hyv : Value.int .i32 y2 = .int .i32 ((N2 : Nat) : Int) := by rw [show y2 = ((N2 : Nat) : Int) by omega]
              repeat ((first | refine W.seqR rfl ?_ | refine W.seq ?_ | refine W.regR rfl ?_ | refine W.condK ?_ | refine W.block ?_ | refine W.skip ?_ | refine W.ret ?_ | refine W.exit ?_); try simp (maxSteps := 1000000) (disch := (first | omega | (simp only [World.size_alloc, size_wr, size_drew] <;> omega) | exact not_noB _)) only [go_sem, ↓reduceIte, n0, reduceCtorEq, n1, n2, n3, n4, n5, i0, i1, i2, i3, i4, i5, i6, i7, hxb20, hrc1_2, hrc1_7, hrc1_8, hrc1_9, hrc1_10, hrc1_14, hrc1_13, hrc1_15, hrc1_17, hrc1_21, hra1, hri1, exitRQ_ret, exitRQ_exit, Int.toNat_natCast, Nat.mul_one])
              refine wp_appendZ (m := N2) utDescribeProducersResponse_81 utDescribeProducersResponse_21 inDescribeProducersResponse_88 (by decide) (by first | rfl | simp (maxSteps := 1000000) (disch := (first | omega | (simp only [World.size_alloc, size_wr, size_drew] <;> omega) | exact not_noB _)) only [go_sem, ↓reduceIte, n0, reduceCtorEq, n1, n2, n3, n4, n5, i0, i1, i2, i3, i4, i5, i6, i7, hrc1_2, hrc1_7, hrc1_8, hrc1_9, hrc1_10, hrc1_14, hrc1_13, hrc1_15, hrc1_17, hrc1_21, hra1, hri1]) (by first | exact hyv | (simp (maxSteps := 1000000) (disch := (first | omega | (simp only [World.size_alloc, size_wr, size_drew] <;> omega) | exact not_noB _)) only [go_sem, ↓reduceIte, n0, reduceCtorEq, n1, n2, n3, n4, n5, i0, i1, i2, i3, i4, i5, i6, i7, hrc1_2, hrc1_7, hrc1_8, hrc1_9, hrc1_10, hrc1_14, hrc1_13, hrc1_15, hrc1_17, hrc1_21, hra1, hri1]; exact hyv)) (by omega) (by omega) (by decide) ?_
              intro q rest hq1
              have hEw : Ext w20 (w20.drew.alloc (.cells (zs [.int .i64 0, .int .i32 0, .int .i32 0, .int .i64 0, .int .i32 0, .int .i64 0, .map none] N2 ++ rest).toArray 88)) := (Upd.refl _ _).drew.alloc _
              try simp (maxSteps := 1000000) (disch := (first | omega | (simp only [World.size_alloc, size_wr, size_drew] <;> omega) | exact not_noB _)) only [go_sem, ↓reduceIte, n0, reduceCtorEq, n1, n2, n3, n4, n5, i0, i1, i2, i3, i4, i5, i6, i7, hxb20, hrc1_2, hrc1_7, hrc1_8, hrc1_9, hrc1_10, hrc1_14, hrc1_13, hrc1_15, hrc1_17, hrc1_21, hra1, hri1, exitRQ_ret, exitRQ_exit, Int.toNat_natCast, Nat.mul_one]
              repeat ((first | refine W.seqR rfl ?_ | refine W.seq ?_ | refine W.regR rfl ?_ | refine W.condK ?_ | refine W.block ?_ | refine W.skip ?_ | refine W.ret ?_ | refine W.exit ?_); try simp (maxSteps := 1000000) (disch := (first | omega | (simp only [World.size_alloc, size_wr, size_drew] <;> omega) | exact not_noB _)) only [go_sem, ↓reduceIte, n0, reduceCtorEq, n1, n2, n3, n4, n5, i0, i1, i2, i3, i4, i5, i6, i7, hxb20, hrc1_2, hrc1_7, hrc1_8, hrc1_9, hrc1_10, hrc1_14, hrc1_13, hrc1_15, hrc1_17, hrc1_21, hra1, hri1, exitRQ_ret, exitRQ_exit, Int.toNat_natCast, Nat.mul_one])
              exact ⟨(by simp (maxSteps := 1000000) (disch := (first | omega | (simp only [World.size_alloc, size_wr, size_drew] <;> omega) | exact not_noB _)) only [go_sem, ↓reduceIte, n0, reduceCtorEq, n1, n2, n3, n4, n5, i0, i1, i2, i3, i4, i5, i6, i7, Holds_nil, Holds_cons, hrc1_2, hrc1_7, hrc1_8, hrc1_9, hrc1_10, hrc1_14, hrc1_13, hrc1_15, hrc1_17, hrc1_21, hra1, hri1]), .slice (some ⟨w20.heap.size, 0, none⟩) N2 q, (by simp (maxSteps := 1000000) (disch := (first | omega | (simp only [World.size_alloc, size_wr, size_drew] <;> omega) | exact not_noB _)) only [go_sem, ↓reduceIte, n0, reduceCtorEq, n1, n2, n3, n4, n5, i0, i1, i2, i3, i4, i5, i6, i7, hrc1_2, hrc1_7, hrc1_8, hrc1_9, hrc1_10, hrc1_14, hrc1_13, hrc1_15, hrc1_17, hrc1_21, hra1, hri1]), LstI.start (RowJ.start (by omega) hq1 (by show w20.heap.size ≤ w20.drew.heap.size; rw [size_drew]; omega) (blk_alloc_new rfl)) ⟨hq20.1.upd hEw (fun h => h) (fun _ _ _ h => h), hq20.2.upd hEw fun h => h⟩ (hEw.mono fun _ h => h.elim), fun h0 => by omega⟩
            · repeat ((first | refine W.seqR rfl ?_ | refine W.seq ?_ | refine W.regR rfl ?_ | refine W.condK ?_ | refine W.block ?_ | refine W.skip ?_ | refine W.ret ?_ | refine W.exit ?_); try simp (maxSteps := 1000000) (disch := (first | omega | (simp only [World.size_alloc, size_wr, size_drew] <;> omega) | exact not_noB _)) only [go_sem, ↓reduceIte, n0, reduceCtorEq, n1, n2, n3, n4, n5, i0, i1, i2, i3, i4, i5, i6, i7, hxb20, hrc1_2, hrc1_7, hrc1_8, hrc1_9, hrc1_10, hrc1_14, hrc1_13, hrc1_15, hrc1_17, hrc1_21, hra1, hri1, exitRQ_ret, exitRQ_exit, Int.toNat_natCast, Nat.mul_one])
              exact ⟨(by simp (maxSteps := 1000000) (disch := (first | omega | (simp only [World.size_alloc, size_wr, size_drew] <;> omega) | exact not_noB _)) only [go_sem, ↓reduceIte, n0, reduceCtorEq, n1, n2, n3, n4, n5, i0, i1, i2, i3, i4, i5, i6, i7, Holds_nil, Holds_cons, hrc1_2, hrc1_7, hrc1_8, hrc1_9, hrc1_10, hrc1_14, hrc1_13, hrc1_15, hrc1_17, hrc1_21, hra1, hri1]), .slice none 0 0, (by simp (maxSteps := 1000000) (disch := (first | omega | (simp only [World.size_alloc, size_wr, size_drew] <;> omega) | exact not_noB _)) only [go_sem, ↓reduceIte, n0, reduceCtorEq, n1, n2, n3, n4, n5, i0, i1, i2, i3, i4, i5, i6, i7, hrc1_2, hrc1_7, hrc1_8, hrc1_9, hrc1_10, hrc1_14, hrc1_13, hrc1_15, hrc1_17, hrc1_21, hra1, hri1, slBase_00]), LstI.start (RowJ.zero (by omega) (fun _ h => by cases h)) hq20 (Upd.refl _ _), fun _ => by rw [nilS_plain (by decide) (by omega)]; exact rfl⟩
          rintro ρ w21 ⟨⟨hrb2_2, hrb2_7, hrb2_8, hrb2_9, hrb2_10, hrb2_14, hrb2_13, hrb2_15, hrb2_17, hrb2_21, hrb2_20, hrb2_22, hrb2_24, hrb2_30, -⟩, va2, hra2, hL2, hnc2⟩
          repeat ((first | refine W.seqR rfl ?_ | refine W.seq ?_ | refine W.regR rfl ?_ | refine W.condK ?_ | refine W.block ?_ | refine W.skip ?_ | refine W.ret ?_ | refine W.exit ?_); try simp (maxSteps := 1000000) (disch := (first | omega | (simp only [World.size_alloc, size_wr, size_drew] <;> omega) | exact not_noB _)) only [go_sem, ↓reduceIte, n0, reduceCtorEq, n1, n2, n3, n4, n5, i0, i1, i2, i3, i4, i5, i6, i7, hxb20, hrb2_2, hrb2_7, hrb2_8, hrb2_9, hrb2_10, hrb2_14, hrb2_13, hrb2_15, hrb2_17, hrb2_21, hrb2_20, hrb2_22, hrb2_24, hrb2_30, hra2, exitRQ_ret, exitRQ_exit, Int.toNat_natCast, Nat.mul_one])
          refine W.exitRJ 4 (EndQ [(2, .bool false), (7, .pointer (some ⟨rb, 0, none⟩)), (8, .int .i16 ver), (9, .bool true), (10, .pointer (some ⟨vb, 0, none⟩)), (14, .int .i32 y0), (13, .slice (some ⟨R1, 0, none⟩) N0 q1), (15, .int .i32 j1), (17, .pointer (some ⟨R1, j1 * 3, none⟩)), (21, .int .i32 y1), (20, .slice (some ⟨R2, 0, none⟩) N1 q2), (22, .int .i32 j2), (24, .pointer (some ⟨R2, j2 * 5, none⟩)), (30, .int .i32 y2), (29, va2)] (fun w' => ∃ s xs css, LstI RT (rd1 (rdP (d + 1) ver true) fDescribeProducersResponseTopicPartition_3.of fDescribeProducersResponseTopicPartition_3.sub false true) (Rep1 (RepS true (d + 1)) fDescribeProducersResponseTopicPartition_3.of fDescribeProducersResponseTopicPartition_3.sub) 7 88 [.int .i64 0, .int .i32 0, .int .i32 0, .int .i64 0, .int .i32 0, .int .i64 0, .map none] w20.heap.size N2 ok (fun b => (fun b => (ok b ∨ w1.heap.size ≤ b) ∧ ¬ ownB va0 b) b ∧ ¬ ownB va1 b) rb w20 s10 va2 N2 s xs css w')) (W.loop (LoopQ [(2, .bool false), (7, .pointer (some ⟨rb, 0, none⟩)), (8, .int .i16 ver), (9, .bool true), (10, .pointer (some ⟨vb, 0, none⟩)), (14, .int .i32 y0), (13, .slice (some ⟨R1, 0, none⟩) N0 q1), (15, .int .i32 j1), (17, .pointer (some ⟨R1, j1 * 3, none⟩)), (21, .int .i32 y1), (20, .slice (some ⟨R2, 0, none⟩) N1 q2), (22, .int .i32 j2), (24, .pointer (some ⟨R2, j2 * 5, none⟩)), (30, .int .i32 y2), (29, va2)] 31 (fun j w' => ∃ s xs css, LstI RT (rd1 (rdP (d + 1) ver true) fDescribeProducersResponseTopicPartition_3.of fDescribeProducersResponseTopicPartition_3.sub false true) (Rep1 (RepS true (d + 1)) fDescribeProducersResponseTopicPartition_3.of fDescribeProducersResponseTopicPartition_3.sub) 7 88 [.int .i64 0, .int .i32 0, .int .i32 0, .int .i64 0, .int .i32 0, .int .i64 0, .map none] w20.heap.size N2 ok (fun b => (fun b => (ok b ∨ w1.heap.size ≤ b) ∧ ¬ ownB va0 b) b ∧ ¬ ownB va1 b) rb w20 s10 va2 j s xs css w')) (fun ρ _ => N2 - (RowKit.intOf (ρ 31)).toNat) ?_ ?_) ?_
          · exact ⟨(by simp (maxSteps := 1000000) (disch := (first | omega | (simp only [World.size_alloc, size_wr, size_drew] <;> omega) | exact not_noB _)) only [go_sem, ↓reduceIte, n0, reduceCtorEq, n1, n2, n3, n4, n5, i0, i1, i2, i3, i4, i5, i6, i7, Holds_nil, Holds_cons, hrb2_2, hrb2_7, hrb2_8, hrb2_9, hrb2_10, hrb2_14, hrb2_13, hrb2_15, hrb2_17, hrb2_21, hrb2_20, hrb2_22, hrb2_24, hrb2_30, hra2]), 0, (by simp (maxSteps := 1000000) (disch := (first | omega | (simp only [World.size_alloc, size_wr, size_drew] <;> omega) | exact not_noB _)) only [go_sem, ↓reduceIte, n0, reduceCtorEq, n1, n2, n3, n4, n5, i0, i1, i2, i3, i4, i5, i6, i7, hrb2_2, hrb2_7, hrb2_8, hrb2_9, hrb2_10, hrb2_14, hrb2_13, hrb2_15, hrb2_17, hrb2_21, hrb2_20, hrb2_22, hrb2_24, hrb2_30, hra2]; all_goals rfl), s10, [], [], hL2⟩
          · rintro ρ w22 ⟨⟨hrc2_2, hrc2_7, hrc2_8, hrc2_9, hrc2_10, hrc2_14, hrc2_13, hrc2_15, hrc2_17, hrc2_21, hrc2_20, hrc2_22, hrc2_24, hrc2_30, hrc2_29, -⟩, j3, hri2, s11, xs2, css2, hL2⟩
            have hj2 := hL2.le
            have hq22 := hL2.rd
            have hU22 : Upd (fun b => b = vb ∨ b = rb) w1 w22 := hU20.trans' hL2.upd fun i _ h => .inr h
            have hz22 := hL2.upd.size
            have hG22 : Glo ev w22 := hG1.updS hU22 hgM1 hgM2
            by_cases hlt2 : j3 < N2
            · obtain ⟨R3, q3, B3, hva3, hNq3, hLR3, hA3, hx3_22, hnext3⟩ := hL2.row.next hlt2
              have hRl3 := blk_lt hx3_22
              generalize css2.flatten = A3 at hA3 hx3_22 hnext3
              replace hra2 : ρ 29 = .slice (some ⟨R3, 0, none⟩) N2 q3 := hrc2_29.trans hva3
              have hown3 : ∀ b, ownB va2 b → w20.heap.size ≤ b ∧ b < w22.heap.size := fun b h => hL2.row.own h
              have hoM3 : ∀ b, (fun b => (fun b => (fun b => (ok b ∨ w1.heap.size ≤ b) ∧ ¬ ownB va0 b) b ∧ ¬ ownB va1 b) b ∧ ¬ ownB va2 b) b → ¬ (b = R3 ∨ b = rb) := fun b hk h => h.elim (fun e => hk.2 ⟨_, _, _, hva3, e⟩) (fun e => hoM2 b hk.1 (.inr e))
              obtain ⟨X22, hX22⟩ : ∃ X : Array Value, X = (A3 ++ (([.int .i64 0, .int .i32 0, .int .i32 0, .int .i64 0, .int .i32 0, .int .i64 0, .map none] : List Value) ++ B3)).toArray := ⟨_, rfl⟩
              have hxb22 : blk w22 R3 = some (X22, 88, (0, 0)) := by rw [hX22]; exact hx3_22
              have hXs22 : j3 * 7 + 7 ≤ X22.size := by rw [hX22]; simp only [List.size_toArray, List.length_append, List.length_cons, List.length_nil, hA3]; omega
              repeat ((first | refine W.seqR rfl ?_ | refine W.seq ?_ | refine W.regR rfl ?_ | refine W.condK ?_ | refine W.block ?_ | refine W.skip ?_ | refine W.ret ?_ | refine W.exit ?_); try simp (maxSteps := 1000000) (disch := (first | omega | (simp only [World.size_alloc, size_wr, size_drew] <;> omega) | exact not_noB _)) only [go_sem, ↓reduceIte, n0, reduceCtorEq, n1, n2, n3, n4, n5, i0, i1, i2, i3, i4, i5, i6, i7, hxb22, hrc2_2, hrc2_7, hrc2_8, hrc2_9, hrc2_10, hrc2_14, hrc2_13, hrc2_15, hrc2_17, hrc2_21, hrc2_20, hrc2_22, hrc2_24, hrc2_30, hra2, hri2, exitRQ_ret, exitRQ_exit, Int.toNat_natCast, Nat.mul_one])
              refine (DefaultEDescribeProducersResponseTopicPartitionActiveProducer_fn w22 hx3_22 hA3).mono ?_
              rintro _ w23 ⟨hx3_23, hu23⟩
              have hq23 := And.intro (hq22.1.upd hu23 (by omega) (fun b _ hk e => by have := (hok b hk).1; omega)) (hq22.2.upd hu23 (by omega))
              have hV23 : Upd (fun b => b = R3 ∨ b = rb) w22 w23 := hu23.mono (fun _ h => .inl h)
              have hU23 : Upd (fun b => b = vb ∨ b = rb) w1 w23 := hU22.trans' hV23 fun i hi h => h.elim (fun h => by omega) .inr
              have hz23 := hV23.size
              have hG23 : Glo ev w23 := hG1.updS hU23 hgM1 hgM2
              obtain ⟨X23, hX23⟩ : ∃ X : Array Value, X = (A3 ++ (([.int .i64 0, .int .i32 0, .int .i32 (-1), .int .i64 (-1), .int .i32 0, .int .i64 (-1), .map none] : List Value) ++ B3)).toArray := ⟨_, rfl⟩
              have hxb23 : blk w23 R3 = some (X23, 88, (0, 0)) := by rw [hX23]; exact hx3_23
              have hXs23 : j3 * 7 + 7 ≤ X23.size := by rw [hX23]; simp only [List.size_toArray, List.length_append, List.length_cons, List.length_nil, hA3]; omega
              have hbe0e1e2_0 : (rdL (rdP d ver true) (dfP d) ver true [fDescribeProducersResponseTopicPartitionActiveProducer_0, fDescribeProducersResponseTopicPartitionActiveProducer_1, fDescribeProducersResponseTopicPartitionActiveProducer_2, fDescribeProducersResponseTopicPartitionActiveProducer_3, fDescribeProducersResponseTopicPartitionActiveProducer_4, fDescribeProducersResponseTopicPartitionActiveProducer_5] s11).2 = none → FB := fun h => hlb2 (hL2.bad hlt2 rd1P_none (by show (rd1 (rdP (d + 1) ver true) 10 fs_DescribeProducersResponseTopicPartitionActiveProducer false true s11).2 = none; rw [rd1_part]; exact rdP_bad h))
              have hhe0e1e2_0 : hasS fDescribeProducersResponseTopicPartitionActiveProducer_0 ver = true := hasS_t (by show (0 : Int) ≤ ver; omega) (by show (-1 : Int) < 0 ∨ ver ≤ (-1 : Int); omega)
              obtain ⟨xe0e1e2_0, hxe0e1e2_0⟩ : ∃ x, x = (rdF (rdP d ver true) ver true fDescribeProducersResponseTopicPartitionActiveProducer_0 s11).1 := ⟨_, rfl⟩
              repeat ((first | refine W.seqR rfl ?_ | refine W.seq ?_ | refine W.regR rfl ?_ | refine W.condK ?_ | refine W.block ?_ | refine W.skip ?_ | refine W.ret ?_ | refine W.exit ?_); try simp (maxSteps := 1000000) (disch := (first | omega | (simp only [World.size_alloc, size_wr, size_drew] <;> omega) | exact not_noB _)) only [go_sem, ↓reduceIte, n0, reduceCtorEq, n1, n2, n3, n4, n5, i0, i1, i2, i3, i4, i5, i6, i7, hxb23, hrc2_2, hrc2_7, hrc2_8, hrc2_9, hrc2_10, hrc2_14, hrc2_13, hrc2_15, hrc2_17, hrc2_21, hrc2_20, hrc2_22, hrc2_24, hrc2_30, hra2, hri2, exitRQ_ret, exitRQ_exit, Int.toNat_natCast, Nat.mul_one])
              have hrd : rdF (rdP d ver true) ver true fDescribeProducersResponseTopicPartitionActiveProducer_0 s11 = _ := rdF_num 4 rfl (by decide)
              refine (Int64_fn w23 hq23.1 hrok hG23.1 hgrb).mono ?_
              rintro _ w24 ⟨rfl, hq24, hu24⟩
              have hx3_24 := hu24.blk_some hx3_23 (by omega)
              have hV24 : Upd (fun b => b = R3 ∨ b = rb) w23 w24 := hu24.mono (fun _ h => .inr h)
              have hU24 : Upd (fun b => b = vb ∨ b = rb) w1 w24 := hU23.trans' hV24 fun i hi h => h.elim (fun h => by omega) .inr
              have hz24 := hV24.size
              have hG24 : Glo ev w24 := hG1.updS hU24 hgM1 hgM2
              obtain ⟨X24, hX24⟩ : ∃ X : Array Value, X = (A3 ++ (([.int .i64 0, .int .i32 0, .int .i32 (-1), .int .i64 (-1), .int .i32 0, .int .i64 (-1), .map none] : List Value) ++ B3)).toArray := ⟨_, rfl⟩
              have hxb24 : blk w24 R3 = some (X24, 88, (0, 0)) := by rw [hX24]; exact hx3_24
              have hXs24 : j3 * 7 + 7 ≤ X24.size := by rw [hX24]; simp only [List.size_toArray, List.length_append, List.length_cons, List.length_nil, hA3]; omega
              have hst : (rdF (rdP d ver true) ver true fDescribeProducersResponseTopicPartitionActiveProducer_0 s11).2 = (rdInt .i64 8 s11).2 := by first | (rw [hrd]; rfl) | rw [hrd]
              obtain ⟨s12, hs12⟩ : ∃ s, s = (rdF (rdP d ver true) ver true fDescribeProducersResponseTopicPartitionActiveProducer_0 s11).2 := ⟨_, rfl⟩
              rw [← hst, ← hs12] at hq24
              clear hst
              have hst24_0 : j3 * 7 + 1 ≤ X24.size := by omega
              repeat ((first | refine W.seqR rfl ?_ | refine W.seq ?_ | refine W.regR rfl ?_ | refine W.condK ?_ | refine W.block ?_ | refine W.skip ?_ | refine W.ret ?_ | refine W.exit ?_); try simp (maxSteps := 1000000) (disch := (first | omega | (simp only [World.size_alloc, size_wr, size_drew] <;> omega) | exact not_noB _)) only [go_sem, ↓reduceIte, n0, reduceCtorEq, n1, n2, n3, n4, n5, i0, i1, i2, i3, i4, i5, i6, i7, hxb24, hrc2_2, hrc2_7, hrc2_8, hrc2_9, hrc2_10, hrc2_14, hrc2_13, hrc2_15, hrc2_17, hrc2_21, hrc2_20, hrc2_22, hrc2_24, hrc2_30, hra2, hri2, exitRQ_ret, exitRQ_exit, Int.toNat_natCast, Nat.mul_one, hst24_0])
              generalize hw25 : wr w24 R3 (j3 * 7) [.int .i64 (rdInt .i64 8 s11).1] = w25
              have hS25 : Upd (fun b => b = R3 ∨ b = rb) w24 w25 := by rw [← hw25]; exact (Upd.refl _ _).wr _ _ (.inr (.inl rfl))
              have hx3_25 : blk w25 R3 = some ((A3 ++ (([.int .i64 (rdInt .i64 8 s11).1, .int .i32 0, .int .i32 (-1), .int .i64 (-1), .int .i32 0, .int .i64 (-1), .map none] : List Value) ++ B3)).toArray, 88, (0, 0)) := by rw [← hw25]; exact el_blk0 hx3_24 hA3 (Nat.le_of_ble_eq_true rfl)
              have hV25 := hS25
              have hU25 : Upd (fun b => b = vb ∨ b = rb) w1 w25 := hU24.trans' hV25 fun i hi h => h.elim (fun h => by omega) .inr
              have hz25 := hV25.size
              have hG25 : Glo ev w25 := hG1.updS hU25 hgM1 hgM2
              have hq25 : Rdr RT ok w25 rb s12 ∧ NN w25 rb s12 := by
                have hn : ∀ x, x = w25 → (Rdr RT ok x rb s12 ∧ NN x rb s12) := fun x hx => by
                  rw [hx, ← hw25]
                  exact Rdr.store hq24 (by omega) (fun h => by have := (hok _ h).1; first | omega | exact (hok _ h).2 rfl)
                exact hn _ rfl
              obtain ⟨X25, hX25⟩ : ∃ X : Array Value, X = (A3 ++ (([.int .i64 (rdInt .i64 8 s11).1, .int .i32 0, .int .i32 (-1), .int .i64 (-1), .int .i32 0, .int .i64 (-1), .map none] : List Value) ++ B3)).toArray := ⟨_, rfl⟩
              have hxb25 : blk w25 R3 = some (X25, 88, (0, 0)) := by rw [hX25]; exact hx3_25
              have hXs25 : j3 * 7 + 7 ≤ X25.size := by rw [hX25]; simp only [List.size_toArray, List.length_append, List.length_cons, List.length_nil, hA3]; omega
              clear hw25
              have hfe0e1e2_0 : RepF (RepS true d) (szS true d) fDescribeProducersResponseTopicPartitionActiveProducer_0 (fun b => (fun b => (fun b => (ok b ∨ w1.heap.size ≤ b) ∧ ¬ ownB va0 b) b ∧ ¬ ownB va1 b) b ∧ ¬ ownB va2 b) w25 (xe0e1e2_0) [.int .i64 (rdInt .i64 8 s11).1] := (RepF_num (by decide)).2 (by rw [hxe0e1e2_0, hrd]; exact congrArg (fun x => [x]) (numC_rd 4 (by decide) 8 s11).symm)
              clear hrd
              have hbe0e1e2_1 : (rdL (rdP d ver true) (dfP d) ver true [fDescribeProducersResponseTopicPartitionActiveProducer_1, fDescribeProducersResponseTopicPartitionActiveProducer_2, fDescribeProducersResponseTopicPartitionActiveProducer_3, fDescribeProducersResponseTopicPartitionActiveProducer_4, fDescribeProducersResponseTopicPartitionActiveProducer_5] s12).2 = none → FB := fun h => hbe0e1e2_0 (by rw [rdL_st (by decide) hhe0e1e2_0, ← hs12]; exact h)
              have hhe0e1e2_1 : hasS fDescribeProducersResponseTopicPartitionActiveProducer_1 ver = true := hasS_t (by show (0 : Int) ≤ ver; omega) (by show (-1 : Int) < 0 ∨ ver ≤ (-1 : Int); omega)
              obtain ⟨xe0e1e2_1, hxe0e1e2_1⟩ : ∃ x, x = (rdF (rdP d ver true) ver true fDescribeProducersResponseTopicPartitionActiveProducer_1 s12).1 := ⟨_, rfl⟩
              repeat ((first | refine W.seqR rfl ?_ | refine W.seq ?_ | refine W.regR rfl ?_ | refine W.condK ?_ | refine W.block ?_ | refine W.skip ?_ | refine W.ret ?_ | refine W.exit ?_); try simp (maxSteps := 1000000) (disch := (first | omega | (simp only [World.size_alloc, size_wr, size_drew] <;> omega) | exact not_noB _)) only [go_sem, ↓reduceIte, n0, reduceCtorEq, n1, n2, n3, n4, n5, i0, i1, i2, i3, i4, i5, i6, i7, hxb25, hrc2_2, hrc2_7, hrc2_8, hrc2_9, hrc2_10, hrc2_14, hrc2_13, hrc2_15, hrc2_17, hrc2_21, hrc2_20, hrc2_22, hrc2_24, hrc2_30, hra2, hri2, exitRQ_ret, exitRQ_exit, Int.toNat_natCast, Nat.mul_one])
              have hrd : rdF (rdP d ver true) ver true fDescribeProducersResponseTopicPartitionActiveProducer_1 s12 = _ := rdF_num 3 rfl (by decide)
              refine (Int32_fn w25 hq25.1 hrok hG25.1 hgrb).mono ?_
              rintro _ w26 ⟨rfl, hq26, hu26⟩
              have hx3_26 := hu26.blk_some hx3_25 (by omega)
              have hV26 : Upd (fun b => b = R3 ∨ b = rb) w25 w26 := hu26.mono (fun _ h => .inr h)
              have hU26 : Upd (fun b => b = vb ∨ b = rb) w1 w26 := hU25.trans' hV26 fun i hi h => h.elim (fun h => by omega) .inr
              have hz26 := hV26.size
              have hG26 : Glo ev w26 := hG1.updS hU26 hgM1 hgM2
              obtain ⟨X26, hX26⟩ : ∃ X : Array Value, X = (A3 ++ (([.int .i64 (rdInt .i64 8 s11).1, .int .i32 0, .int .i32 (-1), .int .i64 (-1), .int .i32 0, .int .i64 (-1), .map none] : List Value) ++ B3)).toArray := ⟨_, rfl⟩
              have hxb26 : blk w26 R3 = some (X26, 88, (0, 0)) := by rw [hX26]; exact hx3_26
              have hXs26 : j3 * 7 + 7 ≤ X26.size := by rw [hX26]; simp only [List.size_toArray, List.length_append, List.length_cons, List.length_nil, hA3]; omega
              have hst : (rdF (rdP d ver true) ver true fDescribeProducersResponseTopicPartitionActiveProducer_1 s12).2 = (rdInt .i32 4 s12).2 := by first | (rw [hrd]; rfl) | rw [hrd]
              obtain ⟨s13, hs13⟩ : ∃ s, s = (rdF (rdP d ver true) ver true fDescribeProducersResponseTopicPartitionActiveProducer_1 s12).2 := ⟨_, rfl⟩
              rw [← hst, ← hs13] at hq26
              clear hst
              have hst26_1 : j3 * 7 + 2 ≤ X26.size := by omega
              repeat ((first | refine W.seqR rfl ?_ | refine W.seq ?_ | refine W.regR rfl ?_ | refine W.condK ?_ | refine W.block ?_ | refine W.skip ?_ | refine W.ret ?_ | refine W.exit ?_); try simp (maxSteps := 1000000) (disch := (first | omega | (simp only [World.size_alloc, size_wr, size_drew] <;> omega) | exact not_noB _)) only [go_sem, ↓reduceIte, n0, reduceCtorEq, n1, n2, n3, n4, n5, i0, i1, i2, i3, i4, i5, i6, i7, hxb26, hrc2_2, hrc2_7, hrc2_8, hrc2_9, hrc2_10, hrc2_14, hrc2_13, hrc2_15, hrc2_17, hrc2_21, hrc2_20, hrc2_22, hrc2_24, hrc2_30, hra2, hri2, exitRQ_ret, exitRQ_exit, Int.toNat_natCast, Nat.mul_one, hst26_1])
              generalize hw27 : wr w26 R3 (j3 * 7 + 1) [.int .i32 (rdInt .i32 4 s12).1] = w27
              have hS27 : Upd (fun b => b = R3 ∨ b = rb) w26 w27 := by rw [← hw27]; exact (Upd.refl _ _).wr _ _ (.inr (.inl rfl))
              have hx3_27 : blk w27 R3 = some ((A3 ++ (([.int .i64 (rdInt .i64 8 s11).1, .int .i32 (rdInt .i32 4 s12).1, .int .i32 (-1), .int .i64 (-1), .int .i32 0, .int .i64 (-1), .map none] : List Value) ++ B3)).toArray, 88, (0, 0)) := by rw [← hw27]; exact el_blk (o := 1) hx3_26 hA3 (Nat.le_of_ble_eq_true rfl)
              have hV27 := hS27
              have hU27 : Upd (fun b => b = vb ∨ b = rb) w1 w27 := hU26.trans' hV27 fun i hi h => h.elim (fun h => by omega) .inr
              have hz27 := hV27.size
              have hG27 : Glo ev w27 := hG1.updS hU27 hgM1 hgM2
              have hq27 : Rdr RT ok w27 rb s13 ∧ NN w27 rb s13 := by
                have hn : ∀ x, x = w27 → (Rdr RT ok x rb s13 ∧ NN x rb s13) := fun x hx => by
                  rw [hx, ← hw27]
                  exact Rdr.store hq26 (by omega) (fun h => by have := (hok _ h).1; first | omega | exact (hok _ h).2 rfl)
                exact hn _ rfl
              obtain ⟨X27, hX27⟩ : ∃ X : Array Value, X = (A3 ++ (([.int .i64 (rdInt .i64 8 s11).1, .int .i32 (rdInt .i32 4 s12).1, .int .i32 (-1), .int .i64 (-1), .int .i32 0, .int .i64 (-1), .map none] : List Value) ++ B3)).toArray := ⟨_, rfl⟩
              have hxb27 : blk w27 R3 = some (X27, 88, (0, 0)) := by rw [hX27]; exact hx3_27
              have hXs27 : j3 * 7 + 7 ≤ X27.size := by rw [hX27]; simp only [List.size_toArray, List.length_append, List.length_cons, List.length_nil, hA3]; omega
              clear hw27
              have hfe0e1e2_1 : RepF (RepS true d) (szS true d) fDescribeProducersResponseTopicPartitionActiveProducer_1 (fun b => (fun b => (fun b => (ok b ∨ w1.heap.size ≤ b) ∧ ¬ ownB va0 b) b ∧ ¬ ownB va1 b) b ∧ ¬ ownB va2 b) w27 (xe0e1e2_1) [.int .i32 (rdInt .i32 4 s12).1] := (RepF_num (by decide)).2 (by rw [hxe0e1e2_1, hrd]; exact congrArg (fun x => [x]) (numC_rd 3 (by decide) 4 s12).symm)
              clear hrd
              have hbe0e1e2_2 : (rdL (rdP d ver true) (dfP d) ver true [fDescribeProducersResponseTopicPartitionActiveProducer_2, fDescribeProducersResponseTopicPartitionActiveProducer_3, fDescribeProducersResponseTopicPartitionActiveProducer_4, fDescribeProducersResponseTopicPartitionActiveProducer_5] s13).2 = none → FB := fun h => hbe0e1e2_1 (by rw [rdL_st (by decide) hhe0e1e2_1, ← hs13]; exact h)
              have hhe0e1e2_2 : hasS fDescribeProducersResponseTopicPartitionActiveProducer_2 ver = true := hasS_t (by show (0 : Int) ≤ ver; omega) (by show (-1 : Int) < 0 ∨ ver ≤ (-1 : Int); omega)
              obtain ⟨xe0e1e2_2, hxe0e1e2_2⟩ : ∃ x, x = (rdF (rdP d ver true) ver true fDescribeProducersResponseTopicPartitionActiveProducer_2 s13).1 := ⟨_, rfl⟩
              repeat ((first | refine W.seqR rfl ?_ | refine W.seq ?_ | refine W.regR rfl ?_ | refine W.condK ?_ | refine W.block ?_ | refine W.skip ?_ | refine W.ret ?_ | refine W.exit ?_); try simp (maxSteps := 1000000) (disch := (first | omega | (simp only [World.size_alloc, size_wr, size_drew] <;> omega) | exact not_noB _)) only [go_sem, ↓reduceIte, n0, reduceCtorEq, n1, n2, n3, n4, n5, i0, i1, i2, i3, i4, i5, i6, i7, hxb27, hrc2_2, hrc2_7, hrc2_8, hrc2_9, hrc2_10, hrc2_14, hrc2_13, hrc2_15, hrc2_17, hrc2_21, hrc2_20, hrc2_22, hrc2_24, hrc2_30, hra2, hri2, exitRQ_ret, exitRQ_exit, Int.toNat_natCast, Nat.mul_one])
              have hrd : rdF (rdP d ver true) ver true fDescribeProducersResponseTopicPartitionActiveProducer_2 s13 = _ := rdF_num 3 rfl (by decide)
              refine (Int32_fn w27 hq27.1 hrok hG27.1 hgrb).mono ?_
              rintro _ w28 ⟨rfl, hq28, hu28⟩
              have hx3_28 := hu28.blk_some hx3_27 (by omega)
              have hV28 : Upd (fun b => b = R3 ∨ b = rb) w27 w28 := hu28.mono (fun _ h => .inr h)
              have hU28 : Upd (fun b => b = vb ∨ b = rb) w1 w28 := hU27.trans' hV28 fun i hi h => h.elim (fun h => by omega) .inr
              have hz28 := hV28.size
              have hG28 : Glo ev w28 := hG1.updS hU28 hgM1 hgM2
              obtain ⟨X28, hX28⟩ : ∃ X : Array Value, X = (A3 ++ (([.int .i64 (rdInt .i64 8 s11).1, .int .i32 (rdInt .i32 4 s12).1, .int .i32 (-1), .int .i64 (-1), .int .i32 0, .int .i64 (-1), .map none] : List Value) ++ B3)).toArray := ⟨_, rfl⟩
              have hxb28 : blk w28 R3 = some (X28, 88, (0, 0)) := by rw [hX28]; exact hx3_28
              have hXs28 : j3 * 7 + 7 ≤ X28.size := by rw [hX28]; simp only [List.size_toArray, List.length_append, List.length_cons, List.length_nil, hA3]; omega
              have hst : (rdF (rdP d ver true) ver true fDescribeProducersResponseTopicPartitionActiveProducer_2 s13).2 = (rdInt .i32 4 s13).2 := by first | (rw [hrd]; rfl) | rw [hrd]
              obtain ⟨s14, hs14⟩ : ∃ s, s = (rdF (rdP d ver true) ver true fDescribeProducersResponseTopicPartitionActiveProducer_2 s13).2 := ⟨_, rfl⟩
              rw [← hst, ← hs14] at hq28
              clear hst
              have hst28_2 : j3 * 7 + 3 ≤ X28.size := by omega
              repeat ((first | refine W.seqR rfl ?_ | refine W.seq ?_ | refine W.regR rfl ?_ | refine W.condK ?_ | refine W.block ?_ | refine W.skip ?_ | refine W.ret ?_ | refine W.exit ?_); try simp (maxSteps := 1000000) (disch := (first | omega | (simp only [World.size_alloc, size_wr, size_drew] <;> omega) | exact not_noB _)) only [go_sem, ↓reduceIte, n0, reduceCtorEq, n1, n2, n3, n4, n5, i0, i1, i2, i3, i4, i5, i6, i7, hxb28, hrc2_2, hrc2_7, hrc2_8, hrc2_9, hrc2_10, hrc2_14, hrc2_13, hrc2_15, hrc2_17, hrc2_21, hrc2_20, hrc2_22, hrc2_24, hrc2_30, hra2, hri2, exitRQ_ret, exitRQ_exit, Int.toNat_natCast, Nat.mul_one, hst28_2])
              generalize hw29 : wr w28 R3 (j3 * 7 + 2) [.int .i32 (rdInt .i32 4 s13).1] = w29
              have hS29 : Upd (fun b => b = R3 ∨ b = rb) w28 w29 := by rw [← hw29]; exact (Upd.refl _ _).wr _ _ (.inr (.inl rfl))
              have hx3_29 : blk w29 R3 = some ((A3 ++ (([.int .i64 (rdInt .i64 8 s11).1, .int .i32 (rdInt .i32 4 s12).1, .int .i32 (rdInt .i32 4 s13).1, .int .i64 (-1), .int .i32 0, .int .i64 (-1), .map none] : List Value) ++ B3)).toArray, 88, (0, 0)) := by rw [← hw29]; exact el_blk (o := 2) hx3_28 hA3 (Nat.le_of_ble_eq_true rfl)
              have hV29 := hS29
              have hU29 : Upd (fun b => b = vb ∨ b = rb) w1 w29 := hU28.trans' hV29 fun i hi h => h.elim (fun h => by omega) .inr
              have hz29 := hV29.size
              have hG29 : Glo ev w29 := hG1.updS hU29 hgM1 hgM2
              have hq29 : Rdr RT ok w29 rb s14 ∧ NN w29 rb s14 := by
                have hn : ∀ x, x = w29 → (Rdr RT ok x rb s14 ∧ NN x rb s14) := fun x hx => by
                  rw [hx, ← hw29]
                  exact Rdr.store hq28 (by omega) (fun h => by have := (hok _ h).1; first | omega | exact (hok _ h).2 rfl)
                exact hn _ rfl
              obtain ⟨X29, hX29⟩ : ∃ X : Array Value, X = (A3 ++ (([.int .i64 (rdInt .i64 8 s11).1, .int .i32 (rdInt .i32 4 s12).1, .int .i32 (rdInt .i32 4 s13).1, .int .i64 (-1), .int .i32 0, .int .i64 (-1), .map none] : List Value) ++ B3)).toArray := ⟨_, rfl⟩
              have hxb29 : blk w29 R3 = some (X29, 88, (0, 0)) := by rw [hX29]; exact hx3_29
              have hXs29 : j3 * 7 + 7 ≤ X29.size := by rw [hX29]; simp only [List.size_toArray, List.length_append, List.length_cons, List.length_nil, hA3]; omega
              clear hw29
              have hfe0e1e2_2 : RepF (RepS true d) (szS true d) fDescribeProducersResponseTopicPartitionActiveProducer_2 (fun b => (fun b => (fun b => (ok b ∨ w1.heap.size ≤ b) ∧ ¬ ownB va0 b) b ∧ ¬ ownB va1 b) b ∧ ¬ ownB va2 b) w29 (xe0e1e2_2) [.int .i32 (rdInt .i32 4 s13).1] := (RepF_num (by decide)).2 (by rw [hxe0e1e2_2, hrd]; exact congrArg (fun x => [x]) (numC_rd 3 (by decide) 4 s13).symm)
              clear hrd
              have hbe0e1e2_3 : (rdL (rdP d ver true) (dfP d) ver true [fDescribeProducersResponseTopicPartitionActiveProducer_3, fDescribeProducersResponseTopicPartitionActiveProducer_4, fDescribeProducersResponseTopicPartitionActiveProducer_5] s14).2 = none → FB := fun h => hbe0e1e2_2 (by rw [rdL_st (by decide) hhe0e1e2_2, ← hs14]; exact h)
              have hhe0e1e2_3 : hasS fDescribeProducersResponseTopicPartitionActiveProducer_3 ver = true := hasS_t (by show (0 : Int) ≤ ver; omega) (by show (-1 : Int) < 0 ∨ ver ≤ (-1 : Int); omega)
              obtain ⟨xe0e1e2_3, hxe0e1e2_3⟩ : ∃ x, x = (rdF (rdP d ver true) ver true fDescribeProducersResponseTopicPartitionActiveProducer_3 s14).1 := ⟨_, rfl⟩
              repeat ((first | refine W.seqR rfl ?_ | refine W.seq ?_ | refine W.regR rfl ?_ | refine W.condK ?_ | refine W.block ?_ | refine W.skip ?_ | refine W.ret ?_ | refine W.exit ?_); try simp (maxSteps := 1000000) (disch := (first | omega | (simp only [World.size_alloc, size_wr, size_drew] <;> omega) | exact not_noB _)) only [go_sem, ↓reduceIte, n0, reduceCtorEq, n1, n2, n3, n4, n5, i0, i1, i2, i3, i4, i5, i6, i7, hxb29, hrc2_2, hrc2_7, hrc2_8, hrc2_9, hrc2_10, hrc2_14, hrc2_13, hrc2_15, hrc2_17, hrc2_21, hrc2_20, hrc2_22, hrc2_24, hrc2_30, hra2, hri2, exitRQ_ret, exitRQ_exit, Int.toNat_natCast, Nat.mul_one])
              have hrd : rdF (rdP d ver true) ver true fDescribeProducersResponseTopicPartitionActiveProducer_3 s14 = _ := rdF_num 4 rfl (by decide)
              refine (Int64_fn w29 hq29.1 hrok hG29.1 hgrb).mono ?_
              rintro _ w30 ⟨rfl, hq30, hu30⟩
              have hx3_30 := hu30.blk_some hx3_29 (by omega)
              have hV30 : Upd (fun b => b = R3 ∨ b = rb) w29 w30 := hu30.mono (fun _ h => .inr h)
              have hU30 : Upd (fun b => b = vb ∨ b = rb) w1 w30 := hU29.trans' hV30 fun i hi h => h.elim (fun h => by omega) .inr
              have hz30 := hV30.size
              have hG30 : Glo ev w30 := hG1.updS hU30 hgM1 hgM2
              obtain ⟨X30, hX30⟩ : ∃ X : Array Value, X = (A3 ++ (([.int .i64 (rdInt .i64 8 s11).1, .int .i32 (rdInt .i32 4 s12).1, .int .i32 (rdInt .i32 4 s13).1, .int .i64 (-1), .int .i32 0, .int .i64 (-1), .map none] : List Value) ++ B3)).toArray := ⟨_, rfl⟩
              have hxb30 : blk w30 R3 = some (X30, 88, (0, 0)) := by rw [hX30]; exact hx3_30
              have hXs30 : j3 * 7 + 7 ≤ X30.size := by rw [hX30]; simp only [List.size_toArray, List.length_append, List.length_cons, List.length_nil, hA3]; omega
              have hst : (rdF (rdP d ver true) ver true fDescribeProducersResponseTopicPartitionActiveProducer_3 s14).2 = (rdInt .i64 8 s14).2 := by first | (rw [hrd]; rfl) | rw [hrd]
              obtain ⟨s15, hs15⟩ : ∃ s, s = (rdF (rdP d ver true) ver true fDescribeProducersResponseTopicPartitionActiveProducer_3 s14).2 := ⟨_, rfl⟩
              rw [← hst, ← hs15] at hq30
              clear hst
              have hst30_3 : j3 * 7 + 4 ≤ X30.size := by omega
              repeat ((first | refine W.seqR rfl ?_ | refine W.seq ?_ | refine W.regR rfl ?_ | refine W.condK ?_ | refine W.block ?_ | refine W.skip ?_ | refine W.ret ?_ | refine W.exit ?_); try simp (maxSteps := 1000000) (disch := (first | omega | (simp only [World.size_alloc, size_wr, size_drew] <;> omega) | exact not_noB _)) only [go_sem, ↓reduceIte, n0, reduceCtorEq, n1, n2, n3, n4, n5, i0, i1, i2, i3, i4, i5, i6, i7, hxb30, hrc2_2, hrc2_7, hrc2_8, hrc2_9, hrc2_10, hrc2_14, hrc2_13, hrc2_15, hrc2_17, hrc2_21, hrc2_20, hrc2_22, hrc2_24, hrc2_30, hra2, hri2, exitRQ_ret, exitRQ_exit, Int.toNat_natCast, Nat.mul_one, hst30_3])
              generalize hw31 : wr w30 R3 (j3 * 7 + 3) [.int .i64 (rdInt .i64 8 s14).1] = w31
              have hS31 : Upd (fun b => b = R3 ∨ b = rb) w30 w31 := by rw [← hw31]; exact (Upd.refl _ _).wr _ _ (.inr (.inl rfl))
              have hx3_31 : blk w31 R3 = some ((A3 ++ (([.int .i64 (rdInt .i64 8 s11).1, .int .i32 (rdInt .i32 4 s12).1, .int .i32 (rdInt .i32 4 s13).1, .int .i64 (rdInt .i64 8 s14).1, .int .i32 0, .int .i64 (-1), .map none] : List Value) ++ B3)).toArray, 88, (0, 0)) := by rw [← hw31]; exact el_blk (o := 3) hx3_30 hA3 (Nat.le_of_ble_eq_true rfl)
              have hV31 := hS31
              have hU31 : Upd (fun b => b = vb ∨ b = rb) w1 w31 := hU30.trans' hV31 fun i hi h => h.elim (fun h => by omega) .inr
              have hz31 := hV31.size
              have hG31 : Glo ev w31 := hG1.updS hU31 hgM1 hgM2
              have hq31 : Rdr RT ok w31 rb s15 ∧ NN w31 rb s15 := by
                have hn : ∀ x, x = w31 → (Rdr RT ok x rb s15 ∧ NN x rb s15) := fun x hx => by
                  rw [hx, ← hw31]
                  exact Rdr.store hq30 (by omega) (fun h => by have := (hok _ h).1; first | omega | exact (hok _ h).2 rfl)
                exact hn _ rfl
              obtain ⟨X31, hX31⟩ : ∃ X : Array Value, X = (A3 ++ (([.int .i64 (rdInt .i64 8 s11).1, .int .i32 (rdInt .i32 4 s12).1, .int .i32 (rdInt .i32 4 s13).1, .int .i64 (rdInt .i64 8 s14).1, .int .i32 0, .int .i64 (-1), .map none] : List Value) ++ B3)).toArray := ⟨_, rfl⟩
              have hxb31 : blk w31 R3 = some (X31, 88, (0, 0)) := by rw [hX31]; exact hx3_31
              have hXs31 : j3 * 7 + 7 ≤ X31.size := by rw [hX31]; simp only [List.size_toArray, List.length_append, List.length_cons, List.length_nil, hA3]; omega
              clear hw31
              have hfe0e1e2_3 : RepF (RepS true d) (szS true d) fDescribeProducersResponseTopicPartitionActiveProducer_3 (fun b => (fun b => (fun b => (ok b ∨ w1.heap.size ≤ b) ∧ ¬ ownB va0 b) b ∧ ¬ ownB va1 b) b ∧ ¬ ownB va2 b) w31 (xe0e1e2_3) [.int .i64 (rdInt .i64 8 s14).1] := (RepF_num (by decide)).2 (by rw [hxe0e1e2_3, hrd]; exact congrArg (fun x => [x]) (numC_rd 4 (by decide) 8 s14).symm)
              clear hrd
              have hbe0e1e2_4 : (rdL (rdP d ver true) (dfP d) ver true [fDescribeProducersResponseTopicPartitionActiveProducer_4, fDescribeProducersResponseTopicPartitionActiveProducer_5] s15).2 = none → FB := fun h => hbe0e1e2_3 (by rw [rdL_st (by decide) hhe0e1e2_3, ← hs15]; exact h)
              have hhe0e1e2_4 : hasS fDescribeProducersResponseTopicPartitionActiveProducer_4 ver = true := hasS_t (by show (0 : Int) ≤ ver; omega) (by show (-1 : Int) < 0 ∨ ver ≤ (-1 : Int); omega)
              obtain ⟨xe0e1e2_4, hxe0e1e2_4⟩ : ∃ x, x = (rdF (rdP d ver true) ver true fDescribeProducersResponseTopicPartitionActiveProducer_4 s15).1 := ⟨_, rfl⟩
              repeat ((first | refine W.seqR rfl ?_ | refine W.seq ?_ | refine W.regR rfl ?_ | refine W.condK ?_ | refine W.block ?_ | refine W.skip ?_ | refine W.ret ?_ | refine W.exit ?_); try simp (maxSteps := 1000000) (disch := (first | omega | (simp only [World.size_alloc, size_wr, size_drew] <;> omega) | exact not_noB _)) only [go_sem, ↓reduceIte, n0, reduceCtorEq, n1, n2, n3, n4, n5, i0, i1, i2, i3, i4, i5, i6, i7, hxb31, hrc2_2, hrc2_7, hrc2_8, hrc2_9, hrc2_10, hrc2_14, hrc2_13, hrc2_15, hrc2_17, hrc2_21, hrc2_20, hrc2_22, hrc2_24, hrc2_30, hra2, hri2, exitRQ_ret, exitRQ_exit, Int.toNat_natCast, Nat.mul_one])
              have hrd : rdF (rdP d ver true) ver true fDescribeProducersResponseTopicPartitionActiveProducer_4 s15 = _ := rdF_num 3 rfl (by decide)
              refine (Int32_fn w31 hq31.1 hrok hG31.1 hgrb).mono ?_
              rintro _ w32 ⟨rfl, hq32, hu32⟩
              have hx3_32 := hu32.blk_some hx3_31 (by omega)
              have hV32 : Upd (fun b => b = R3 ∨ b = rb) w31 w32 := hu32.mono (fun _ h => .inr h)
              have hU32 : Upd (fun b => b = vb ∨ b = rb) w1 w32 := hU31.trans' hV32 fun i hi h => h.elim (fun h => by omega) .inr
              have hz32 := hV32.size
              have hG32 : Glo ev w32 := hG1.updS hU32 hgM1 hgM2
              obtain ⟨X32, hX32⟩ : ∃ X : Array Value, X = (A3 ++ (([.int .i64 (rdInt .i64 8 s11).1, .int .i32 (rdInt .i32 4 s12).1, .int .i32 (rdInt .i32 4 s13).1, .int .i64 (rdInt .i64 8 s14).1, .int .i32 0, .int .i64 (-1), .map none] : List Value) ++ B3)).toArray := ⟨_, rfl⟩
              have hxb32 : blk w32 R3 = some (X32, 88, (0, 0)) := by rw [hX32]; exact hx3_32
              have hXs32 : j3 * 7 + 7 ≤ X32.size := by rw [hX32]; simp only [List.size_toArray, List.length_append, List.length_cons, List.length_nil, hA3]; omega
              have hst : (rdF (rdP d ver true) ver true fDescribeProducersResponseTopicPartitionActiveProducer_4 s15).2 = (rdInt .i32 4 s15).2 := by first | (rw [hrd]; rfl) | rw [hrd]
              obtain ⟨s16, hs16⟩ : ∃ s, s = (rdF (rdP d ver true) ver true fDescribeProducersResponseTopicPartitionActiveProducer_4 s15).2 := ⟨_, rfl⟩
              rw [← hst, ← hs16] at hq32
              clear hst
              have hst32_4 : j3 * 7 + 5 ≤ X32.size := by omega
              repeat ((first | refine W.seqR rfl ?_ | refine W.seq ?_ | refine W.regR rfl ?_ | refine W.condK ?_ | refine W.block ?_ | refine W.skip ?_ | refine W.ret ?_ | refine W.exit ?_); try simp (maxSteps := 1000000) (disch := (first | omega | (simp only [World.size_alloc, size_wr, size_drew] <;> omega) | exact not_noB _)) only [go_sem, ↓reduceIte, n0, reduceCtorEq, n1, n2, n3, n4, n5, i0, i1, i2, i3, i4, i5, i6, i7, hxb32, hrc2_2, hrc2_7, hrc2_8, hrc2_9, hrc2_10, hrc2_14, hrc2_13, hrc2_15, hrc2_17, hrc2_21, hrc2_20, hrc2_22, hrc2_24, hrc2_30, hra2, hri2, exitRQ_ret, exitRQ_exit, Int.toNat_natCast, Nat.mul_one, hst32_4])
              generalize hw33 : wr w32 R3 (j3 * 7 + 4) [.int .i32 (rdInt .i32 4 s15).1] = w33
              have hS33 : Upd (fun b => b = R3 ∨ b = rb) w32 w33 := by rw [← hw33]; exact (Upd.refl _ _).wr _ _ (.inr (.inl rfl))
              have hx3_33 : blk w33 R3 = some ((A3 ++ (([.int .i64 (rdInt .i64 8 s11).1, .int .i32 (rdInt .i32 4 s12).1, .int .i32 (rdInt .i32 4 s13).1, .int .i64 (rdInt .i64 8 s14).1, .int .i32 (rdInt .i32 4 s15).1, .int .i64 (-1), .map none] : List Value) ++ B3)).toArray, 88, (0, 0)) := by rw [← hw33]; exact el_blk (o := 4) hx3_32 hA3 (Nat.le_of_ble_eq_true rfl)
              have hV33 := hS33
              have hU33 : Upd (fun b => b = vb ∨ b = rb) w1 w33 := hU32.trans' hV33 fun i hi h => h.elim (fun h => by omega) .inr
              have hz33 := hV33.size
              have hG33 : Glo ev w33 := hG1.updS hU33 hgM1 hgM2
              have hq33 : Rdr RT ok w33 rb s16 ∧ NN w33 rb s16 := by
                have hn : ∀ x, x = w33 → (Rdr RT ok x rb s16 ∧ NN x rb s16) := fun x hx => by
                  rw [hx, ← hw33]
                  exact Rdr.store hq32 (by omega) (fun h => by have := (hok _ h).1; first | omega | exact (hok _ h).2 rfl)
                exact hn _ rfl
              obtain ⟨X33, hX33⟩ : ∃ X : Array Value, X = (A3 ++ (([.int .i64 (rdInt .i64 8 s11).1, .int .i32 (rdInt .i32 4 s12).1, .int .i32 (rdInt .i32 4 s13).1, .int .i64 (rdInt .i64 8 s14).1, .int .i32 (rdInt .i32 4 s15).1, .int .i64 (-1), .map none] : List Value) ++ B3)).toArray := ⟨_, rfl⟩
              have hxb33 : blk w33 R3 = some (X33, 88, (0, 0)) := by rw [hX33]; exact hx3_33
              have hXs33 : j3 * 7 + 7 ≤ X33.size := by rw [hX33]; simp only [List.size_toArray, List.length_append, List.length_cons, List.length_nil, hA3]; omega
              clear hw33
              have hfe0e1e2_4 : RepF (RepS true d) (szS true d) fDescribeProducersResponseTopicPartitionActiveProducer_4 (fun b => (fun b => (fun b => (ok b ∨ w1.heap.size ≤ b) ∧ ¬ ownB va0 b) b ∧ ¬ ownB va1 b) b ∧ ¬ ownB va2 b) w33 (xe0e1e2_4) [.int .i32 (rdInt .i32 4 s15).1] := (RepF_num (by decide)).2 (by rw [hxe0e1e2_4, hrd]; exact congrArg (fun x => [x]) (numC_rd 3 (by decide) 4 s15).symm)
              clear hrd
              have hbe0e1e2_5 : (rdL (rdP d ver true) (dfP d) ver true [fDescribeProducersResponseTopicPartitionActiveProducer_5] s16).2 = none → FB := fun h => hbe0e1e2_4 (by rw [rdL_st (by decide) hhe0e1e2_4, ← hs16]; exact h)
              have hhe0e1e2_5 : hasS fDescribeProducersResponseTopicPartitionActiveProducer_5 ver = true := hasS_t (by show (0 : Int) ≤ ver; omega) (by show (-1 : Int) < 0 ∨ ver ≤ (-1 : Int); omega)
              obtain ⟨xe0e1e2_5, hxe0e1e2_5⟩ : ∃ x, x = (rdF (rdP d ver true) ver true fDescribeProducersResponseTopicPartitionActiveProducer_5 s16).1 := ⟨_, rfl⟩
              repeat ((first | refine W.seqR rfl ?_ | refine W.seq ?_ | refine W.regR rfl ?_ | refine W.condK ?_ | refine W.block ?_ | refine W.skip ?_ | refine W.ret ?_ | refine W.exit ?_); try simp (maxSteps := 1000000) (disch := (first | omega | (simp only [World.size_alloc, size_wr, size_drew] <;> omega) | exact not_noB _)) only [go_sem, ↓reduceIte, n0, reduceCtorEq, n1, n2, n3, n4, n5, i0, i1, i2, i3, i4, i5, i6, i7, hxb33, hrc2_2, hrc2_7, hrc2_8, hrc2_9, hrc2_10, hrc2_14, hrc2_13, hrc2_15, hrc2_17, hrc2_21, hrc2_20, hrc2_22, hrc2_24, hrc2_30, hra2, hri2, exitRQ_ret, exitRQ_exit, Int.toNat_natCast, Nat.mul_one])
              have hrd : rdF (rdP d ver true) ver true fDescribeProducersResponseTopicPartitionActiveProducer_5 s16 = _ := rdF_num 4 rfl (by decide)
              refine (Int64_fn w33 hq33.1 hrok hG33.1 hgrb).mono ?_
              rintro _ w34 ⟨rfl, hq34, hu34⟩
              have hx3_34 := hu34.blk_some hx3_33 (by omega)
              have hV34 : Upd (fun b => b = R3 ∨ b = rb) w33 w34 := hu34.mono (fun _ h => .inr h)
              have hU34 : Upd (fun b => b = vb ∨ b = rb) w1 w34 := hU33.trans' hV34 fun i hi h => h.elim (fun h => by omega) .inr
              have hz34 := hV34.size
              have hG34 : Glo ev w34 := hG1.updS hU34 hgM1 hgM2
              obtain ⟨X34, hX34⟩ : ∃ X : Array Value, X = (A3 ++ (([.int .i64 (rdInt .i64 8 s11).1, .int .i32 (rdInt .i32 4 s12).1, .int .i32 (rdInt .i32 4 s13).1, .int .i64 (rdInt .i64 8 s14).1, .int .i32 (rdInt .i32 4 s15).1, .int .i64 (-1), .map none] : List Value) ++ B3)).toArray := ⟨_, rfl⟩
              have hxb34 : blk w34 R3 = some (X34, 88, (0, 0)) := by rw [hX34]; exact hx3_34
              have hXs34 : j3 * 7 + 7 ≤ X34.size := by rw [hX34]; simp only [List.size_toArray, List.length_append, List.length_cons, List.length_nil, hA3]; omega
              have hst : (rdF (rdP d ver true) ver true fDescribeProducersResponseTopicPartitionActiveProducer_5 s16).2 = (rdInt .i64 8 s16).2 := by first | (rw [hrd]; rfl) | rw [hrd]
              obtain ⟨s17, hs17⟩ : ∃ s, s = (rdF (rdP d ver true) ver true fDescribeProducersResponseTopicPartitionActiveProducer_5 s16).2 := ⟨_, rfl⟩
              rw [← hst, ← hs17] at hq34
              clear hst
              have hst34_5 : j3 * 7 + 6 ≤ X34.size := by omega
              repeat ((first | refine W.seqR rfl ?_ | refine W.seq ?_ | refine W.regR rfl ?_ | refine W.condK ?_ | refine W.block ?_ | refine W.skip ?_ | refine W.ret ?_ | refine W.exit ?_); try simp (maxSteps := 1000000) (disch := (first | omega | (simp only [World.size_alloc, size_wr, size_drew] <;> omega) | exact not_noB _)) only [go_sem, ↓reduceIte, n0, reduceCtorEq, n1, n2, n3, n4, n5, i0, i1, i2, i3, i4, i5, i6, i7, hxb34, hrc2_2, hrc2_7, hrc2_8, hrc2_9, hrc2_10, hrc2_14, hrc2_13, hrc2_15, hrc2_17, hrc2_21, hrc2_20, hrc2_22, hrc2_24, hrc2_30, hra2, hri2, exitRQ_ret, exitRQ_exit, Int.toNat_natCast, Nat.mul_one, hst34_5])
              generalize hw35 : wr w34 R3 (j3 * 7 + 5) [.int .i64 (rdInt .i64 8 s16).1] = w35
              have hS35 : Upd (fun b => b = R3 ∨ b = rb) w34 w35 := by rw [← hw35]; exact (Upd.refl _ _).wr _ _ (.inr (.inl rfl))
              have hx3_35 : blk w35 R3 = some ((A3 ++ (([.int .i64 (rdInt .i64 8 s11).1, .int .i32 (rdInt .i32 4 s12).1, .int .i32 (rdInt .i32 4 s13).1, .int .i64 (rdInt .i64 8 s14).1, .int .i32 (rdInt .i32 4 s15).1, .int .i64 (rdInt .i64 8 s16).1, .map none] : List Value) ++ B3)).toArray, 88, (0, 0)) := by rw [← hw35]; exact el_blk (o := 5) hx3_34 hA3 (Nat.le_of_ble_eq_true rfl)
              have hV35 := hS35
              have hU35 : Upd (fun b => b = vb ∨ b = rb) w1 w35 := hU34.trans' hV35 fun i hi h => h.elim (fun h => by omega) .inr
              have hz35 := hV35.size
              have hG35 : Glo ev w35 := hG1.updS hU35 hgM1 hgM2
              have hq35 : Rdr RT ok w35 rb s17 ∧ NN w35 rb s17 := by
                have hn : ∀ x, x = w35 → (Rdr RT ok x rb s17 ∧ NN x rb s17) := fun x hx => by
                  rw [hx, ← hw35]
                  exact Rdr.store hq34 (by omega) (fun h => by have := (hok _ h).1; first | omega | exact (hok _ h).2 rfl)
                exact hn _ rfl
              obtain ⟨X35, hX35⟩ : ∃ X : Array Value, X = (A3 ++ (([.int .i64 (rdInt .i64 8 s11).1, .int .i32 (rdInt .i32 4 s12).1, .int .i32 (rdInt .i32 4 s13).1, .int .i64 (rdInt .i64 8 s14).1, .int .i32 (rdInt .i32 4 s15).1, .int .i64 (rdInt .i64 8 s16).1, .map none] : List Value) ++ B3)).toArray := ⟨_, rfl⟩
              have hxb35 : blk w35 R3 = some (X35, 88, (0, 0)) := by rw [hX35]; exact hx3_35
              have hXs35 : j3 * 7 + 7 ≤ X35.size := by rw [hX35]; simp only [List.size_toArray, List.length_append, List.length_cons, List.length_nil, hA3]; omega
              clear hw35
              have hfe0e1e2_5 : RepF (RepS true d) (szS true d) fDescribeProducersResponseTopicPartitionActiveProducer_5 (fun b => (fun b => (fun b => (ok b ∨ w1.heap.size ≤ b) ∧ ¬ ownB va0 b) b ∧ ¬ ownB va1 b) b ∧ ¬ ownB va2 b) w35 (xe0e1e2_5) [.int .i64 (rdInt .i64 8 s16).1] := (RepF_num (by decide)).2 (by rw [hxe0e1e2_5, hrd]; exact congrArg (fun x => [x]) (numC_rd 4 (by decide) 8 s16).symm)
              clear hrd
              have hle0e1e2_6 : rdL (rdP d ver true) (dfP d) ver true [] s17 = ([], s17) := rfl
              have hle0e1e2_5 : rdL (rdP d ver true) (dfP d) ver true [fDescribeProducersResponseTopicPartitionActiveProducer_5] s16 = ([xe0e1e2_5], s17) := by rw [rdL_st (by decide) hhe0e1e2_5, ← hxe0e1e2_5, ← hs17, hle0e1e2_6]
              have hle0e1e2_4 : rdL (rdP d ver true) (dfP d) ver true [fDescribeProducersResponseTopicPartitionActiveProducer_4, fDescribeProducersResponseTopicPartitionActiveProducer_5] s15 = ([xe0e1e2_4, xe0e1e2_5], s17) := by rw [rdL_st (by decide) hhe0e1e2_4, ← hxe0e1e2_4, ← hs16, hle0e1e2_5]
              have hle0e1e2_3 : rdL (rdP d ver true) (dfP d) ver true [fDescribeProducersResponseTopicPartitionActiveProducer_3, fDescribeProducersResponseTopicPartitionActiveProducer_4, fDescribeProducersResponseTopicPartitionActiveProducer_5] s14 = ([xe0e1e2_3, xe0e1e2_4, xe0e1e2_5], s17) := by rw [rdL_st (by decide) hhe0e1e2_3, ← hxe0e1e2_3, ← hs15, hle0e1e2_4]
              have hle0e1e2_2 : rdL (rdP d ver true) (dfP d) ver true [fDescribeProducersResponseTopicPartitionActiveProducer_2, fDescribeProducersResponseTopicPartitionActiveProducer_3, fDescribeProducersResponseTopicPartitionActiveProducer_4, fDescribeProducersResponseTopicPartitionActiveProducer_5] s13 = ([xe0e1e2_2, xe0e1e2_3, xe0e1e2_4, xe0e1e2_5], s17) := by rw [rdL_st (by decide) hhe0e1e2_2, ← hxe0e1e2_2, ← hs14, hle0e1e2_3]
              have hle0e1e2_1 : rdL (rdP d ver true) (dfP d) ver true [fDescribeProducersResponseTopicPartitionActiveProducer_1, fDescribeProducersResponseTopicPartitionActiveProducer_2, fDescribeProducersResponseTopicPartitionActiveProducer_3, fDescribeProducersResponseTopicPartitionActiveProducer_4, fDescribeProducersResponseTopicPartitionActiveProducer_5] s12 = ([xe0e1e2_1, xe0e1e2_2, xe0e1e2_3, xe0e1e2_4, xe0e1e2_5], s17) := by rw [rdL_st (by decide) hhe0e1e2_1, ← hxe0e1e2_1, ← hs13, hle0e1e2_2]
              have hle0e1e2_0 : rdL (rdP d ver true) (dfP d) ver true [fDescribeProducersResponseTopicPartitionActiveProducer_0, fDescribeProducersResponseTopicPartitionActiveProducer_1, fDescribeProducersResponseTopicPartitionActiveProducer_2, fDescribeProducersResponseTopicPartitionActiveProducer_3, fDescribeProducersResponseTopicPartitionActiveProducer_4, fDescribeProducersResponseTopicPartitionActiveProducer_5] s11 = ([xe0e1e2_0, xe0e1e2_1, xe0e1e2_2, xe0e1e2_3, xe0e1e2_4, xe0e1e2_5], s17) := by rw [rdL_st (by decide) hhe0e1e2_0, ← hxe0e1e2_0, ← hs12, hle0e1e2_1]
              have hfine0e1e2 : rdP (d + 1) ver true fs_DescribeProducersResponseTopicPartitionActiveProducer s11 = (.mk 0 [] false [xe0e1e2_0, xe0e1e2_1, xe0e1e2_2, xe0e1e2_3, xe0e1e2_4, xe0e1e2_5] (rdTags s17).1, (rdTags s17).2) := rdP_t hle0e1e2_0
              repeat ((first | refine W.seqR rfl ?_ | refine W.seq ?_ | refine W.regR rfl ?_ | refine W.condK ?_ | refine W.block ?_ | refine W.skip ?_ | refine W.ret ?_ | refine W.exit ?_); try simp (maxSteps := 1000000) (disch := (first | omega | (simp only [World.size_alloc, size_wr, size_drew] <;> omega) | exact not_noB _)) only [go_sem, ↓reduceIte, n0, reduceCtorEq, n1, n2, n3, n4, n5, i0, i1, i2, i3, i4, i5, i6, i7, hxb35, hrc2_2, hrc2_7, hrc2_8, hrc2_9, hrc2_10, hrc2_14, hrc2_13, hrc2_15, hrc2_17, hrc2_21, hrc2_20, hrc2_22, hrc2_24, hrc2_30, hra2, hri2, exitRQ_ret, exitRQ_exit, Int.toNat_natCast, Nat.mul_one])
              refine (ReadTags_fn w35 hq35.1 hrok).mono ?_
              rintro _ w36 ⟨qme0e1e2, rfl, hT36, hTn, hq36, hu36⟩
              have hx3_36 := hu36.blk_some hx3_35 (by omega)
              have hV36 : Upd (fun b => b = R3 ∨ b = rb) w35 w36 := hu36.mono (fun _ h => .inr h)
              have hU36 : Upd (fun b => b = vb ∨ b = rb) w1 w36 := hU35.trans' hV36 fun i hi h => h.elim (fun h => by omega) .inr
              have hz36 := hV36.size
              have hG36 : Glo ev w36 := hG1.updS hU36 hgM1 hgM2
              obtain ⟨X36, hX36⟩ : ∃ X : Array Value, X = (A3 ++ (([.int .i64 (rdInt .i64 8 s11).1, .int .i32 (rdInt .i32 4 s12).1, .int .i32 (rdInt .i32 4 s13).1, .int .i64 (rdInt .i64 8 s14).1, .int .i32 (rdInt .i32 4 s15).1, .int .i64 (rdInt .i64 8 s16).1, .map none] : List Value) ++ B3)).toArray := ⟨_, rfl⟩
              have hxb36 : blk w36 R3 = some (X36, 88, (0, 0)) := by rw [hX36]; exact hx3_36
              have hXs36 : j3 * 7 + 7 ≤ X36.size := by rw [hX36]; simp only [List.size_toArray, List.length_append, List.length_cons, List.length_nil, hA3]; omega
              obtain ⟨s18, hs18⟩ : ∃ s, s = (rdTags s17).2 := ⟨_, rfl⟩
              rw [← hs18] at hq36 hfine0e1e2
              have hst36_6 : j3 * 7 + 7 ≤ X36.size := by omega
              try simp (maxSteps := 1000000) (disch := (first | omega | (simp only [World.size_alloc, size_wr, size_drew] <;> omega) | exact not_noB _)) only [go_sem, ↓reduceIte, n0, reduceCtorEq, n1, n2, n3, n4, n5, i0, i1, i2, i3, i4, i5, i6, i7, hxb36, hrc2_2, hrc2_7, hrc2_8, hrc2_9, hrc2_10, hrc2_14, hrc2_13, hrc2_15, hrc2_17, hrc2_21, hrc2_20, hrc2_22, hrc2_24, hrc2_30, hra2, hri2, exitRQ_ret, exitRQ_exit, Int.toNat_natCast, Nat.mul_one, hst36_6]
              repeat ((first | refine W.seqR rfl ?_ | refine W.seq ?_ | refine W.regR rfl ?_ | refine W.condK ?_ | refine W.block ?_ | refine W.skip ?_ | refine W.ret ?_ | refine W.exit ?_); try simp (maxSteps := 1000000) (disch := (first | omega | (simp only [World.size_alloc, size_wr, size_drew] <;> omega) | exact not_noB _)) only [go_sem, ↓reduceIte, n0, reduceCtorEq, n1, n2, n3, n4, n5, i0, i1, i2, i3, i4, i5, i6, i7, hxb36, hrc2_2, hrc2_7, hrc2_8, hrc2_9, hrc2_10, hrc2_14, hrc2_13, hrc2_15, hrc2_17, hrc2_21, hrc2_20, hrc2_22, hrc2_24, hrc2_30, hra2, hri2, exitRQ_ret, exitRQ_exit, Int.toNat_natCast, Nat.mul_one, hst36_6])
              generalize hw37 : wr w36 R3 (j3 * 7 + 6) [.map qme0e1e2] = w37
              have hS37 : Upd (fun b => b = R3 ∨ b = rb) w36 w37 := by rw [← hw37]; exact (Upd.refl _ _).wr _ _ (.inr (.inl rfl))
              have hx3_37 : blk w37 R3 = some ((A3 ++ (([.int .i64 (rdInt .i64 8 s11).1, .int .i32 (rdInt .i32 4 s12).1, .int .i32 (rdInt .i32 4 s13).1, .int .i64 (rdInt .i64 8 s14).1, .int .i32 (rdInt .i32 4 s15).1, .int .i64 (rdInt .i64 8 s16).1, .map qme0e1e2] : List Value) ++ B3)).toArray, 88, (0, 0)) := by rw [← hw37]; exact el_blk (o := 6) hx3_36 hA3 (Nat.le_of_ble_eq_true rfl)
              have hV37 := hS37
              have hU37 : Upd (fun b => b = vb ∨ b = rb) w1 w37 := hU36.trans' hV37 fun i hi h => h.elim (fun h => by omega) .inr
              have hz37 := hV37.size
              have hG37 : Glo ev w37 := hG1.updS hU37 hgM1 hgM2
              have hq37 : Rdr RT ok w37 rb s18 ∧ NN w37 rb s18 := by
                have hn : ∀ x, x = w37 → (Rdr RT ok x rb s18 ∧ NN x rb s18) := fun x hx => by
                  rw [hx, ← hw37]
                  exact Rdr.store hq36 (by omega) (fun h => by have := (hok _ h).1; first | omega | exact (hok _ h).2 rfl)
                exact hn _ rfl
              obtain ⟨X37, hX37⟩ : ∃ X : Array Value, X = (A3 ++ (([.int .i64 (rdInt .i64 8 s11).1, .int .i32 (rdInt .i32 4 s12).1, .int .i32 (rdInt .i32 4 s13).1, .int .i64 (rdInt .i64 8 s14).1, .int .i32 (rdInt .i32 4 s15).1, .int .i64 (rdInt .i64 8 s16).1, .map qme0e1e2] : List Value) ++ B3)).toArray := ⟨_, rfl⟩
              have hxb37 : blk w37 R3 = some (X37, 88, (0, 0)) := by rw [hX37]; exact hx3_37
              have hXs37 : j3 * 7 + 7 ≤ X37.size := by rw [hX37]; simp only [List.size_toArray, List.length_append, List.length_cons, List.length_nil, hA3]; omega
              clear hw37
              have hTge0e1e2 : TagsM (fun b => (fun b => (fun b => (ok b ∨ w1.heap.size ≤ b) ∧ ¬ ownB va0 b) b ∧ ¬ ownB va1 b) b ∧ ¬ ownB va2 b) w37 (.map qme0e1e2) (rdTags s17).1 := (hT36.weaken fun b _ hk => hk.elim (fun hk => ⟨⟨⟨.inl hk, fun ho => by have := (hown1 b ho).1; have := (hok b hk).1; omega⟩, fun ho => by have := (hown2 b ho).1; have := (hok b hk).1; omega⟩, fun ho => by have := (hown3 b ho).1; have := (hok b hk).1; omega⟩) (fun h => by have h' : w35.heap.size ≤ b := h; exact ⟨⟨⟨.inr (by omega), fun ho => by have := (hown1 _ ho).2; omega⟩, fun ho => by have := (hown2 _ ho).2; omega⟩, fun ho => by have := (hown3 _ ho).2; omega⟩)).keep (hV37.keeps fun b _ hk e => hoM3 b hk e)
              have hCe0e1e2_37 : Upd (fun b => b = R3 ∨ b = rb) w37 w37 := Upd.refl _ _
              have hCe0e1e2_36 : Upd (fun b => b = R3 ∨ b = rb) w36 w37 := hV37.trans hCe0e1e2_37
              have hCe0e1e2_35 : Upd (fun b => b = R3 ∨ b = rb) w35 w37 := hV36.trans hCe0e1e2_36
              have hCe0e1e2_34 : Upd (fun b => b = R3 ∨ b = rb) w34 w37 := hV35.trans hCe0e1e2_35
              have hCe0e1e2_33 : Upd (fun b => b = R3 ∨ b = rb) w33 w37 := hV34.trans hCe0e1e2_34
              have hCe0e1e2_32 : Upd (fun b => b = R3 ∨ b = rb) w32 w37 := hV33.trans hCe0e1e2_33
              have hCe0e1e2_31 : Upd (fun b => b = R3 ∨ b = rb) w31 w37 := hV32.trans hCe0e1e2_32
              have hCe0e1e2_30 : Upd (fun b => b = R3 ∨ b = rb) w30 w37 := hV31.trans hCe0e1e2_31
              have hCe0e1e2_29 : Upd (fun b => b = R3 ∨ b = rb) w29 w37 := hV30.trans hCe0e1e2_30
              have hCe0e1e2_28 : Upd (fun b => b = R3 ∨ b = rb) w28 w37 := hV29.trans hCe0e1e2_29
              have hCe0e1e2_27 : Upd (fun b => b = R3 ∨ b = rb) w27 w37 := hV28.trans hCe0e1e2_28
              have hCe0e1e2_26 : Upd (fun b => b = R3 ∨ b = rb) w26 w37 := hV27.trans hCe0e1e2_27
              have hCe0e1e2_25 : Upd (fun b => b = R3 ∨ b = rb) w25 w37 := hV26.trans hCe0e1e2_26
              have hCe0e1e2_24 : Upd (fun b => b = R3 ∨ b = rb) w24 w37 := hV25.trans hCe0e1e2_25
              have hCe0e1e2_23 : Upd (fun b => b = R3 ∨ b = rb) w23 w37 := hV24.trans hCe0e1e2_24
              have hCe0e1e2_22 : Upd (fun b => b = R3 ∨ b = rb) w22 w37 := hV23.trans hCe0e1e2_23
              have hRe0e1e2 : RepS true (d + 1) fs_DescribeProducersResponseTopicPartitionActiveProducer (fun b => (fun b => (fun b => (ok b ∨ w1.heap.size ≤ b) ∧ ¬ ownB va0 b) b ∧ ¬ ownB va1 b) b ∧ ¬ ownB va2 b) w37 (.mk 0 [] false [xe0e1e2_0, xe0e1e2_1, xe0e1e2_2, xe0e1e2_3, xe0e1e2_4, xe0e1e2_5] (rdTags s17).1) [.int .i64 (rdInt .i64 8 s11).1, .int .i32 (rdInt .i32 4 s12).1, .int .i32 (rdInt .i32 4 s13).1, .int .i64 (rdInt .i64 8 s14).1, .int .i32 (rdInt .i32 4 s15).1, .int .i64 (rdInt .i64 8 s16).1, .map qme0e1e2] := RepS.introT (c := [.int .i64 (rdInt .i64 8 s11).1, .int .i32 (rdInt .i32 4 s12).1, .int .i32 (rdInt .i32 4 s13).1, .int .i64 (rdInt .i64 8 s14).1, .int .i32 (rdInt .i32 4 s15).1, .int .i64 (rdInt .i64 8 s16).1]) (RepL.cons1 (hfe0e1e2_0.keepS (hCe0e1e2_25.keeps fun b _ hk e => hoM3 b hk e)) (RepL.cons1 (hfe0e1e2_1.keepS (hCe0e1e2_27.keeps fun b _ hk e => hoM3 b hk e)) (RepL.cons1 (hfe0e1e2_2.keepS (hCe0e1e2_29.keeps fun b _ hk e => hoM3 b hk e)) (RepL.cons1 (hfe0e1e2_3.keepS (hCe0e1e2_31.keeps fun b _ hk e => hoM3 b hk e)) (RepL.cons1 (hfe0e1e2_4.keepS (hCe0e1e2_33.keeps fun b _ hk e => hoM3 b hk e)) (RepL.cons1 (hfe0e1e2_5.keepS (hCe0e1e2_35.keeps fun b _ hk e => hoM3 b hk e)) RepL.nil)))))) hTge0e1e2
              have hrE : (rd1 (rdP (d + 1) ver true) fDescribeProducersResponseTopicPartition_3.of fDescribeProducersResponseTopicPartition_3.sub false true) s11 = ((.mk 0 [] false [xe0e1e2_0, xe0e1e2_1, xe0e1e2_2, xe0e1e2_3, xe0e1e2_4, xe0e1e2_5] (rdTags s17).1), s18) := by rw [show (rd1 (rdP (d + 1) ver true) fDescribeProducersResponseTopicPartition_3.of fDescribeProducersResponseTopicPartition_3.sub false true) s11 = _ from rd1_part]; exact hfine0e1e2
              have hxE : (Rep1 (RepS true (d + 1)) fDescribeProducersResponseTopicPartition_3.of fDescribeProducersResponseTopicPartition_3.sub) (fun b => (fun b => (fun b => (ok b ∨ w1.heap.size ≤ b) ∧ ¬ ownB va0 b) b ∧ ¬ ownB va1 b) b ∧ ¬ ownB va2 b) w37 (.mk 0 [] false [xe0e1e2_0, xe0e1e2_1, xe0e1e2_2, xe0e1e2_3, xe0e1e2_4, xe0e1e2_5] (rdTags s17).1) [.int .i64 (rdInt .i64 8 s11).1, .int .i32 (rdInt .i32 4 s12).1, .int .i32 (rdInt .i32 4 s13).1, .int .i64 (rdInt .i64 8 s14).1, .int .i32 (rdInt .i32 4 s15).1, .int .i64 (rdInt .i64 8 s16).1, .map qme0e1e2] := Rep1_part.2 hRe0e1e2
              repeat ((first | refine W.seqR rfl ?_ | refine W.seq ?_ | refine W.regR rfl ?_ | refine W.condK ?_ | refine W.block ?_ | refine W.skip ?_ | refine W.ret ?_ | refine W.exit ?_); try simp (maxSteps := 1000000) (disch := (first | omega | (simp only [World.size_alloc, size_wr, size_drew] <;> omega) | exact not_noB _)) only [go_sem, ↓reduceIte, n0, reduceCtorEq, n1, n2, n3, n4, n5, i0, i1, i2, i3, i4, i5, i6, i7, hxb37, hrc2_2, hrc2_7, hrc2_8, hrc2_9, hrc2_10, hrc2_14, hrc2_13, hrc2_15, hrc2_17, hrc2_21, hrc2_20, hrc2_22, hrc2_24, hrc2_30, hra2, hri2, exitRQ_ret, exitRQ_exit, Int.toNat_natCast, Nat.mul_one])
              have hTk : Upd (fun b => b = R3 ∨ b = rb) w22 w37 := ((((((((((((((hV23.trans hV24).trans hV25).trans hV26).trans hV27).trans hV28).trans hV29).trans hV30).trans hV31).trans hV32).trans hV33).trans hV34).trans hV35).trans hV36).trans hV37)
              have hL' := hL2.step (Rep1_lay _ _ fun _ => RepS_lay true _ _) hlt2 (hnext3 w37 [.int .i64 (rdInt .i64 8 s11).1, .int .i32 (rdInt .i32 4 s12).1, .int .i32 (rdInt .i32 4 s13).1, .int .i64 (rdInt .i64 8 s14).1, .int .i32 (rdInt .i32 4 s15).1, .int .i64 (rdInt .i64 8 s16).1, .map qme0e1e2] rfl hx3_37) (by rw [hrE]; exact hxE) (hTk.mono fun b h => h.imp (fun e => ⟨_, _, _, hva3, e⟩) id) (by rw [hrE]; exact hq37) (fun h => hoM2 rb h (.inr rfl)) (Nat.le_refl _)
              have hij : IntKind.i32.wrap ((j3 : Int) + 1) = ((j3 + 1 : Nat) : Int) := by rw [i32_wrap (by omega)]; omega
              repeat ((first | refine W.seqR rfl ?_ | refine W.seq ?_ | refine W.regR rfl ?_ | refine W.condK ?_ | refine W.block ?_ | refine W.skip ?_ | refine W.ret ?_ | refine W.exit ?_); try simp (maxSteps := 1000000) (disch := (first | omega | (simp only [World.size_alloc, size_wr, size_drew] <;> omega) | exact not_noB _)) only [go_sem, ↓reduceIte, n0, reduceCtorEq, n1, n2, n3, n4, n5, i0, i1, i2, i3, i4, i5, i6, i7, hxb37, hrc2_2, hrc2_7, hrc2_8, hrc2_9, hrc2_10, hrc2_14, hrc2_13, hrc2_15, hrc2_17, hrc2_21, hrc2_20, hrc2_22, hrc2_24, hrc2_30, hra2, hri2, exitRQ_ret, exitRQ_exit, Int.toNat_natCast, Nat.mul_one, hij])
              refine ⟨⟨(by simp (maxSteps := 1000000) (disch := (first | omega | (simp only [World.size_alloc, size_wr, size_drew] <;> omega) | exact not_noB _)) only [go_sem, ↓reduceIte, n0, reduceCtorEq, n1, n2, n3, n4, n5, i0, i1, i2, i3, i4, i5, i6, i7, Holds_nil, Holds_cons, hrc2_2, hrc2_7, hrc2_8, hrc2_9, hrc2_10, hrc2_14, hrc2_13, hrc2_15, hrc2_17, hrc2_21, hrc2_20, hrc2_22, hrc2_24, hrc2_30, hra2, hri2]; exact hva3.symm), j3 + 1, (by simp (maxSteps := 1000000) (disch := (first | omega | (simp only [World.size_alloc, size_wr, size_drew] <;> omega) | exact not_noB _)) only [go_sem, ↓reduceIte, n0, reduceCtorEq, n1, n2, n3, n4, n5, i0, i1, i2, i3, i4, i5, i6, i7, hrc2_2, hrc2_7, hrc2_8, hrc2_9, hrc2_10, hrc2_14, hrc2_13, hrc2_15, hrc2_17, hrc2_21, hrc2_20, hrc2_22, hrc2_24, hrc2_30, hra2, hri2, hij]; all_goals rfl), _, _, _, hL'⟩, ?_⟩
              try simp (maxSteps := 1000000) (disch := (first | omega | (simp only [World.size_alloc, size_wr, size_drew] <;> omega) | exact not_noB _)) only [go_sem, ↓reduceIte, n0, reduceCtorEq, n1, n2, n3, n4, n5, i0, i1, i2, i3, i4, i5, i6, i7, hrc2_2, hrc2_7, hrc2_8, hrc2_9, hrc2_10, hrc2_14, hrc2_13, hrc2_15, hrc2_17, hrc2_21, hrc2_20, hrc2_22, hrc2_24, hrc2_30, hra2, hri2]
              simp only [RowKit.intOf]
              omega
            · have hjN : j3 = N2 := by omega
              rw [hjN] at hL2
              repeat ((first | refine W.seqR rfl ?_ | refine W.seq ?_ | refine W.regR rfl ?_ | refine W.condK ?_ | refine W.block ?_ | refine W.skip ?_ | refine W.ret ?_ | refine W.exit ?_); try simp (maxSteps := 1000000) (disch := (first | omega | (simp only [World.size_alloc, size_wr, size_drew] <;> omega) | exact not_noB _)) only [go_sem, ↓reduceIte, n0, reduceCtorEq, n1, n2, n3, n4, n5, i0, i1, i2, i3, i4, i5, i6, i7, hrc2_2, hrc2_7, hrc2_8, hrc2_9, hrc2_10, hrc2_14, hrc2_13, hrc2_15, hrc2_17, hrc2_21, hrc2_20, hrc2_22, hrc2_24, hrc2_30, hrc2_29, hri2, exitRQ_ret, exitRQ_exit])
              exact ⟨(by simp (maxSteps := 1000000) (disch := (first | omega | (simp only [World.size_alloc, size_wr, size_drew] <;> omega) | exact not_noB _)) only [go_sem, ↓reduceIte, n0, reduceCtorEq, n1, n2, n3, n4, n5, i0, i1, i2, i3, i4, i5, i6, i7, Holds_nil, Holds_cons, hrc2_2, hrc2_7, hrc2_8, hrc2_9, hrc2_10, hrc2_14, hrc2_13, hrc2_15, hrc2_17, hrc2_21, hrc2_20, hrc2_22, hrc2_24, hrc2_30, hrc2_29, hri2]), s11, xs2, css2, hL2⟩
          rintro ρ w38 ⟨⟨hrd2_2, hrd2_7, hrd2_8, hrd2_9, hrd2_10, hrd2_14, hrd2_13, hrd2_15, hrd2_17, hrd2_21, hrd2_20, hrd2_22, hrd2_24, hrd2_30, hrd2_29, -⟩, s19, xs2, css2, hL2⟩
          have hq38 := hL2.rd
          have hu38 := hL2.upd
          have hx2_38 := hu38.blk_some hx2_20 (by omega)
          have hV38 : Upd (fun b => b = R2 ∨ b = rb) w20 w38 := hu38.mono (fun _ h => .inr h)
          have hU38 : Upd (fun b => b = vb ∨ b = rb) w1 w38 := hU20.trans' hV38 fun i hi h => h.elim (fun h => by omega) .inr
          have hz38 := hV38.size
          have hG38 : Glo ev w38 := hG1.updS hU38 hgM1 hgM2
          obtain ⟨X38, hX38⟩ : ∃ X : Array Value, X = (A2 ++ (([.int .i32 (rdInt .i32 4 s6).1, .int .i16 (rdInt .i16 2 s7).1, .pointer ap18, .slice none 0 0, .map none] : List Value) ++ B2)).toArray := ⟨_, rfl⟩
          have hxb38 : blk w38 R2 = some (X38, 83, (0, 0)) := by rw [hX38]; exact hx2_38
          have hXs38 : j2 * 5 + 5 ≤ X38.size := by rw [hX38]; simp only [List.size_toArray, List.length_append, List.length_cons, List.length_nil, hA2]; omega
          have hrd2 : rdF (rdP (d + 1) ver true) ver true fDescribeProducersResponseTopicPartition_3 s9 = (.mk 0 [] (nilS fDescribeProducersResponseTopicPartition_3 ver y2) xs2 [], s19) := by
            have h := rdF_listE (pt := (rdP (d + 1) ver true)) (v := ver) (flex := true) (f := fDescribeProducersResponseTopicPartition_3) (s := s9) (xs := xs2) (e := s19) rfl (by rw [hy2, ← hN2, ← hs10]; exact hL2.done)
            rw [hy2] at h; exact h
          have hs19 : s19 = (rdF (rdP (d + 1) ver true) ver true fDescribeProducersResponseTopicPartition_3 s9).2 := by rw [hrd2]
          obtain ⟨aa2, qq2, hvs2⟩ := hL2.row.shape
          subst hvs2
          have hst38_3 : j2 * 5 + 4 ≤ X38.size := by omega
          repeat ((first | refine W.seqR rfl ?_ | refine W.seq ?_ | refine W.regR rfl ?_ | refine W.condK ?_ | refine W.block ?_ | refine W.skip ?_ | refine W.ret ?_ | refine W.exit ?_); try simp (maxSteps := 1000000) (disch := (first | omega | (simp only [World.size_alloc, size_wr, size_drew] <;> omega) | exact not_noB _)) only [go_sem, ↓reduceIte, n0, reduceCtorEq, n1, n2, n3, n4, n5, i0, i1, i2, i3, i4, i5, i6, i7, hxb38, hrd2_2, hrd2_7, hrd2_8, hrd2_9, hrd2_10, hrd2_14, hrd2_13, hrd2_15, hrd2_17, hrd2_21, hrd2_20, hrd2_22, hrd2_24, hrd2_30, hrd2_29, exitRQ_ret, exitRQ_exit, Int.toNat_natCast, Nat.mul_one, hst38_3])
          generalize hw39 : wr w38 R2 (j2 * 5 + 3) [.slice aa2 N2 qq2] = w39
          have hS39 : Upd (fun b => b = R2 ∨ b = rb) w38 w39 := by rw [← hw39]; exact (Upd.refl _ _).wr _ _ (.inr (.inl rfl))
          have hx2_39 : blk w39 R2 = some ((A2 ++ (([.int .i32 (rdInt .i32 4 s6).1, .int .i16 (rdInt .i16 2 s7).1, .pointer ap18, .slice aa2 N2 qq2, .map none] : List Value) ++ B2)).toArray, 83, (0, 0)) := by rw [← hw39]; exact el_blk (o := 3) hx2_38 hA2 (Nat.le_of_ble_eq_true rfl)
          have hV39 := hS39
          have hU39 : Upd (fun b => b = vb ∨ b = rb) w1 w39 := hU38.trans' hV39 fun i hi h => h.elim (fun h => by omega) .inr
          have hz39 := hV39.size
          have hG39 : Glo ev w39 := hG1.updS hU39 hgM1 hgM2
          have hq39 : Rdr RT ok w39 rb s19 ∧ NN w39 rb s19 := by
            have hn : ∀ x, x = w39 → (Rdr RT ok x rb s19 ∧ NN x rb s19) := fun x hx => by
              rw [hx, ← hw39]
              exact Rdr.store hq38 (by omega) (fun h => by have := (hok _ h).1; first | omega | exact (hok _ h).2 rfl)
            exact hn _ rfl
          obtain ⟨X39, hX39⟩ : ∃ X : Array Value, X = (A2 ++ (([.int .i32 (rdInt .i32 4 s6).1, .int .i16 (rdInt .i16 2 s7).1, .pointer ap18, .slice aa2 N2 qq2, .map none] : List Value) ++ B2)).toArray := ⟨_, rfl⟩
          have hxb39 : blk w39 R2 = some (X39, 83, (0, 0)) := by rw [hX39]; exact hx2_39
          have hXs39 : j2 * 5 + 5 ≤ X39.size := by rw [hX39]; simp only [List.size_toArray, List.length_append, List.length_cons, List.length_nil, hA2]; omega
          clear hw39
          have hfe0e1_3 : RepF (RepS true (d + 1)) (szS true (d + 1)) fDescribeProducersResponseTopicPartition_3 (fun b => (fun b => (ok b ∨ w1.heap.size ≤ b) ∧ ¬ ownB va0 b) b ∧ ¬ ownB va1 b) w39 (xe0e1_3) [.slice aa2 N2 qq2] := by rw [hxe0e1_3, hrd2]; exact RepF.keepS (RepF_row rfl hnc2 hN2 rfl hL2.row hL2.all (fun b hb => ⟨⟨.inr (by omega), fun ho => by have := (hown1 _ ho).2; omega⟩, fun ho => by have := (hown2 _ ho).2; omega⟩)) (hV39.keeps fun b _ hk e => hoM2 b hk e)
          clear hL2 hnc2
          have hle0e1_4 : rdL (rdP (d + 1) ver true) (dfP (d + 1)) ver true [] s19 = ([], s19) := rfl
          have hle0e1_3 : rdL (rdP (d + 1) ver true) (dfP (d + 1)) ver true [fDescribeProducersResponseTopicPartition_3] s9 = ([xe0e1_3], s19) := by rw [rdL_st (by decide) hhe0e1_3, ← hxe0e1_3, ← hs19, hle0e1_4]
          have hle0e1_2 : rdL (rdP (d + 1) ver true) (dfP (d + 1)) ver true [fDescribeProducersResponseTopicPartition_2, fDescribeProducersResponseTopicPartition_3] s8 = ([xe0e1_2, xe0e1_3], s19) := by rw [rdL_st (by decide) hhe0e1_2, ← hxe0e1_2, ← hs9, hle0e1_3]
          have hle0e1_1 : rdL (rdP (d + 1) ver true) (dfP (d + 1)) ver true [fDescribeProducersResponseTopicPartition_1, fDescribeProducersResponseTopicPartition_2, fDescribeProducersResponseTopicPartition_3] s7 = ([xe0e1_1, xe0e1_2, xe0e1_3], s19) := by rw [rdL_st (by decide) hhe0e1_1, ← hxe0e1_1, ← hs8, hle0e1_2]
          have hle0e1_0 : rdL (rdP (d + 1) ver true) (dfP (d + 1)) ver true [fDescribeProducersResponseTopicPartition_0, fDescribeProducersResponseTopicPartition_1, fDescribeProducersResponseTopicPartition_2, fDescribeProducersResponseTopicPartition_3] s6 = ([xe0e1_0, xe0e1_1, xe0e1_2, xe0e1_3], s19) := by rw [rdL_st (by decide) hhe0e1_0, ← hxe0e1_0, ← hs7, hle0e1_1]
          have hfine0e1 : rdP (d + 2) ver true fs_DescribeProducersResponseTopicPartition s6 = (.mk 0 [] false [xe0e1_0, xe0e1_1, xe0e1_2, xe0e1_3] (rdTags s19).1, (rdTags s19).2) := rdP_t hle0e1_0
          repeat ((first | refine W.seqR rfl ?_ | refine W.seq ?_ | refine W.regR rfl ?_ | refine W.condK ?_ | refine W.block ?_ | refine W.skip ?_ | refine W.ret ?_ | refine W.exit ?_); try simp (maxSteps := 1000000) (disch := (first | omega | (simp only [World.size_alloc, size_wr, size_drew] <;> omega) | exact not_noB _)) only [go_sem, ↓reduceIte, n0, reduceCtorEq, n1, n2, n3, n4, n5, i0, i1, i2, i3, i4, i5, i6, i7, hxb39, hrd2_2, hrd2_7, hrd2_8, hrd2_9, hrd2_10, hrd2_14, hrd2_13, hrd2_15, hrd2_17, hrd2_21, hrd2_20, hrd2_22, hrd2_24, hrd2_30, hrd2_29, exitRQ_ret, exitRQ_exit, Int.toNat_natCast, Nat.mul_one])
          refine (ReadTags_fn w39 hq39.1 hrok).mono ?_
          rintro _ w40 ⟨qme0e1, rfl, hT40, hTn, hq40, hu40⟩
          have hx2_40 := hu40.blk_some hx2_39 (by omega)
          have hV40 : Upd (fun b => b = R2 ∨ b = rb) w39 w40 := hu40.mono (fun _ h => .inr h)
          have hU40 : Upd (fun b => b = vb ∨ b = rb) w1 w40 := hU39.trans' hV40 fun i hi h => h.elim (fun h => by omega) .inr
          have hz40 := hV40.size
          have hG40 : Glo ev w40 := hG1.updS hU40 hgM1 hgM2
          obtain ⟨X40, hX40⟩ : ∃ X : Array Value, X = (A2 ++ (([.int .i32 (rdInt .i32 4 s6).1, .int .i16 (rdInt .i16 2 s7).1, .pointer ap18, .slice aa2 N2 qq2, .map none] : List Value) ++ B2)).toArray := ⟨_, rfl⟩
          have hxb40 : blk w40 R2 = some (X40, 83, (0, 0)) := by rw [hX40]; exact hx2_40
          have hXs40 : j2 * 5 + 5 ≤ X40.size := by rw [hX40]; simp only [List.size_toArray, List.length_append, List.length_cons, List.length_nil, hA2]; omega
          obtain ⟨s20, hs20⟩ : ∃ s, s = (rdTags s19).2 := ⟨_, rfl⟩
          rw [← hs20] at hq40 hfine0e1
          have hst40_4 : j2 * 5 + 5 ≤ X40.size := by omega
          try simp (maxSteps := 1000000) (disch := (first | omega | (simp only [World.size_alloc, size_wr, size_drew] <;> omega) | exact not_noB _)) only [go_sem, ↓reduceIte, n0, reduceCtorEq, n1, n2, n3, n4, n5, i0, i1, i2, i3, i4, i5, i6, i7, hxb40, hrd2_2, hrd2_7, hrd2_8, hrd2_9, hrd2_10, hrd2_14, hrd2_13, hrd2_15, hrd2_17, hrd2_21, hrd2_20, hrd2_22, hrd2_24, hrd2_30, hrd2_29, exitRQ_ret, exitRQ_exit, Int.toNat_natCast, Nat.mul_one, hst40_4]
          repeat ((first | refine W.seqR rfl ?_ | refine W.seq ?_ | refine W.regR rfl ?_ | refine W.condK ?_ | refine W.block ?_ | refine W.skip ?_ | refine W.ret ?_ | refine W.exit ?_); try simp (maxSteps := 1000000) (disch := (first | omega | (simp only [World.size_alloc, size_wr, size_drew] <;> omega) | exact not_noB _)) only [go_sem, ↓reduceIte, n0, reduceCtorEq, n1, n2, n3, n4, n5, i0, i1, i2, i3, i4, i5, i6, i7, hxb40, hrd2_2, hrd2_7, hrd2_8, hrd2_9, hrd2_10, hrd2_14, hrd2_13, hrd2_15, hrd2_17, hrd2_21, hrd2_20, hrd2_22, hrd2_24, hrd2_30, hrd2_29, exitRQ_ret, exitRQ_exit, Int.toNat_natCast, Nat.mul_one, hst40_4])
          generalize hw41 : wr w40 R2 (j2 * 5 + 4) [.map qme0e1] = w41
          have hS41 : Upd (fun b => b = R2 ∨ b = rb) w40 w41 := by rw [← hw41]; exact (Upd.refl _ _).wr _ _ (.inr (.inl rfl))
          have hx2_41 : blk w41 R2 = some ((A2 ++ (([.int .i32 (rdInt .i32 4 s6).1, .int .i16 (rdInt .i16 2 s7).1, .pointer ap18, .slice aa2 N2 qq2, .map qme0e1] : List Value) ++ B2)).toArray, 83, (0, 0)) := by rw [← hw41]; exact el_blk (o := 4) hx2_40 hA2 (Nat.le_of_ble_eq_true rfl)
          have hV41 := hS41
          have hU41 : Upd (fun b => b = vb ∨ b = rb) w1 w41 := hU40.trans' hV41 fun i hi h => h.elim (fun h => by omega) .inr
          have hz41 := hV41.size
          have hG41 : Glo ev w41 := hG1.updS hU41 hgM1 hgM2
          have hq41 : Rdr RT ok w41 rb s20 ∧ NN w41 rb s20 := by
            have hn : ∀ x, x = w41 → (Rdr RT ok x rb s20 ∧ NN x rb s20) := fun x hx => by
              rw [hx, ← hw41]
              exact Rdr.store hq40 (by omega) (fun h => by have := (hok _ h).1; first | omega | exact (hok _ h).2 rfl)
            exact hn _ rfl
          obtain ⟨X41, hX41⟩ : ∃ X : Array Value, X = (A2 ++ (([.int .i32 (rdInt .i32 4 s6).1, .int .i16 (rdInt .i16 2 s7).1, .pointer ap18, .slice aa2 N2 qq2, .map qme0e1] : List Value) ++ B2)).toArray := ⟨_, rfl⟩
          have hxb41 : blk w41 R2 = some (X41, 83, (0, 0)) := by rw [hX41]; exact hx2_41
          have hXs41 : j2 * 5 + 5 ≤ X41.size := by rw [hX41]; simp only [List.size_toArray, List.length_append, List.length_cons, List.length_nil, hA2]; omega
          clear hw41
          have hTge0e1 : TagsM (fun b => (fun b => (ok b ∨ w1.heap.size ≤ b) ∧ ¬ ownB va0 b) b ∧ ¬ ownB va1 b) w41 (.map qme0e1) (rdTags s19).1 := (hT40.weaken fun b _ hk => hk.elim (fun hk => ⟨⟨.inl hk, fun ho => by have := (hown1 b ho).1; have := (hok b hk).1; omega⟩, fun ho => by have := (hown2 b ho).1; have := (hok b hk).1; omega⟩) (fun h => by have h' : w39.heap.size ≤ b := h; exact ⟨⟨.inr (by omega), fun ho => by have := (hown1 _ ho).2; omega⟩, fun ho => by have := (hown2 _ ho).2; omega⟩)).keep (hV41.keeps fun b _ hk e => hoM2 b hk e)
          have hCe0e1_41 : Upd (fun b => b = R2 ∨ b = rb) w41 w41 := Upd.refl _ _
          have hCe0e1_40 : Upd (fun b => b = R2 ∨ b = rb) w40 w41 := hV41.trans hCe0e1_41
          have hCe0e1_39 : Upd (fun b => b = R2 ∨ b = rb) w39 w41 := hV40.trans hCe0e1_40
          have hCe0e1_38 : Upd (fun b => b = R2 ∨ b = rb) w38 w41 := hV39.trans hCe0e1_39
          have hCe0e1_20 : Upd (fun b => b = R2 ∨ b = rb) w20 w41 := hV38.trans hCe0e1_38
          have hCe0e1_19 : Upd (fun b => b = R2 ∨ b = rb) w19 w41 := hV20.trans hCe0e1_20
          have hCe0e1_18 : Upd (fun b => b = R2 ∨ b = rb) w18 w41 := hV19.trans hCe0e1_19
          have hCe0e1_17 : Upd (fun b => b = R2 ∨ b = rb) w17 w41 := hV18.trans hCe0e1_18
          have hCe0e1_16 : Upd (fun b => b = R2 ∨ b = rb) w16 w41 := hV17.trans hCe0e1_17
          have hCe0e1_15 : Upd (fun b => b = R2 ∨ b = rb) w15 w41 := hV16.trans hCe0e1_16
          have hCe0e1_14 : Upd (fun b => b = R2 ∨ b = rb) w14 w41 := hV15.trans hCe0e1_15
          have hCe0e1_13 : Upd (fun b => b = R2 ∨ b = rb) w13 w41 := hV14.trans hCe0e1_14
          have hCe0e1_12 : Upd (fun b => b = R2 ∨ b = rb) w12 w41 := hV13.trans hCe0e1_13
          have hRe0e1 : RepS true (d + 2) fs_DescribeProducersResponseTopicPartition (fun b => (fun b => (ok b ∨ w1.heap.size ≤ b) ∧ ¬ ownB va0 b) b ∧ ¬ ownB va1 b) w41 (.mk 0 [] false [xe0e1_0, xe0e1_1, xe0e1_2, xe0e1_3] (rdTags s19).1) [.int .i32 (rdInt .i32 4 s6).1, .int .i16 (rdInt .i16 2 s7).1, .pointer ap18, .slice aa2 N2 qq2, .map qme0e1] := RepS.introT (c := [.int .i32 (rdInt .i32 4 s6).1, .int .i16 (rdInt .i16 2 s7).1, .pointer ap18, .slice aa2 N2 qq2]) (RepL.cons1 (hfe0e1_0.keepS (hCe0e1_15.keeps fun b _ hk e => hoM2 b hk e)) (RepL.cons1 (hfe0e1_1.keepS (hCe0e1_17.keeps fun b _ hk e => hoM2 b hk e)) (RepL.cons1 (hfe0e1_2.keepS (hCe0e1_19.keeps fun b _ hk e => hoM2 b hk e)) (RepL.cons1 (hfe0e1_3.keepS (hCe0e1_39.keeps fun b _ hk e => hoM2 b hk e)) RepL.nil)))) hTge0e1
          have hrE : (rd1 (rdP (d + 2) ver true) fDescribeProducersResponseTopic_1.of fDescribeProducersResponseTopic_1.sub false true) s6 = ((.mk 0 [] false [xe0e1_0, xe0e1_1, xe0e1_2, xe0e1_3] (rdTags s19).1), s20) := by rw [show (rd1 (rdP (d + 2) ver true) fDescribeProducersResponseTopic_1.of fDescribeProducersResponseTopic_1.sub false true) s6 = _ from rd1_part]; exact hfine0e1
          have hxE : (Rep1 (RepS true (d + 2)) fDescribeProducersResponseTopic_1.of fDescribeProducersResponseTopic_1.sub) (fun b => (fun b => (ok b ∨ w1.heap.size ≤ b) ∧ ¬ ownB va0 b) b ∧ ¬ ownB va1 b) w41 (.mk 0 [] false [xe0e1_0, xe0e1_1, xe0e1_2, xe0e1_3] (rdTags s19).1) [.int .i32 (rdInt .i32 4 s6).1, .int .i16 (rdInt .i16 2 s7).1, .pointer ap18, .slice aa2 N2 qq2, .map qme0e1] := Rep1_part.2 hRe0e1
          repeat ((first | refine W.seqR rfl ?_ | refine W.seq ?_ | refine W.regR rfl ?_ | refine W.condK ?_ | refine W.block ?_ | refine W.skip ?_ | refine W.ret ?_ | refine W.exit ?_); try simp (maxSteps := 1000000) (disch := (first | omega | (simp only [World.size_alloc, size_wr, size_drew] <;> omega) | exact not_noB _)) only [go_sem, ↓reduceIte, n0, reduceCtorEq, n1, n2, n3, n4, n5, i0, i1, i2, i3, i4, i5, i6, i7, hxb41, hrd2_2, hrd2_7, hrd2_8, hrd2_9, hrd2_10, hrd2_14, hrd2_13, hrd2_15, hrd2_17, hrd2_21, hrd2_20, hrd2_22, hrd2_24, hrd2_30, hrd2_29, exitRQ_ret, exitRQ_exit, Int.toNat_natCast, Nat.mul_one])
          have hTk : Upd (fun b => b = R2 ∨ b = rb) w12 w41 := (((((((((((hV13.trans hV14).trans hV15).trans hV16).trans hV17).trans hV18).trans hV19).trans hV20).trans hV38).trans hV39).trans hV40).trans hV41)
          have hL' := hL1.step (Rep1_lay _ _ fun _ => RepS_lay true _ _) hlt1 (hnext2 w41 [.int .i32 (rdInt .i32 4 s6).1, .int .i16 (rdInt .i16 2 s7).1, .pointer ap18, .slice aa2 N2 qq2, .map qme0e1] rfl hx2_41) (by rw [hrE]; exact hxE) (hTk.mono fun b h => h.imp (fun e => ⟨_, _, _, hva2, e⟩) id) (by rw [hrE]; exact hq41) (fun h => hoM1 rb h (.inr rfl)) (Nat.le_refl _)
          have hij : IntKind.i32.wrap ((j2 : Int) + 1) = ((j2 + 1 : Nat) : Int) := by rw [i32_wrap (by omega)]; omega
          repeat ((first | refine W.seqR rfl ?_ | refine W.seq ?_ | refine W.regR rfl ?_ | refine W.condK ?_ | refine W.block ?_ | refine W.skip ?_ | refine W.ret ?_ | refine W.exit ?_); try simp (maxSteps := 1000000) (disch := (first | omega | (simp only [World.size_alloc, size_wr, size_drew] <;> omega) | exact not_noB _)) only [go_sem, ↓reduceIte, n0, reduceCtorEq, n1, n2, n3, n4, n5, i0, i1, i2, i3, i4, i5, i6, i7, hxb41, hrd2_2, hrd2_7, hrd2_8, hrd2_9, hrd2_10, hrd2_14, hrd2_13, hrd2_15, hrd2_17, hrd2_21, hrd2_20, hrd2_22, hrd2_24, hrd2_30, hrd2_29, exitRQ_ret, exitRQ_exit, Int.toNat_natCast, Nat.mul_one, hij])
          refine ⟨⟨(by simp (maxSteps := 1000000) (disch := (first | omega | (simp only [World.size_alloc, size_wr, size_drew] <;> omega) | exact not_noB _)) only [go_sem, ↓reduceIte, n0, reduceCtorEq, n1, n2, n3, n4, n5, i0, i1, i2, i3, i4, i5, i6, i7, Holds_nil, Holds_cons, hrd2_2, hrd2_7, hrd2_8, hrd2_9, hrd2_10, hrd2_14, hrd2_13, hrd2_15, hrd2_17, hrd2_21, hrd2_20, hrd2_22, hrd2_24, hrd2_30, hrd2_29]; exact hva2.symm), j2 + 1, (by simp (maxSteps := 1000000) (disch := (first | omega | (simp only [World.size_alloc, size_wr, size_drew] <;> omega) | exact not_noB _)) only [go_sem, ↓reduceIte, n0, reduceCtorEq, n1, n2, n3, n4, n5, i0, i1, i2, i3, i4, i5, i6, i7, hrd2_2, hrd2_7, hrd2_8, hrd2_9, hrd2_10, hrd2_14, hrd2_13, hrd2_15, hrd2_17, hrd2_21, hrd2_20, hrd2_22, hrd2_24, hrd2_30, hrd2_29, hij]; all_goals rfl), _, _, _, hL'⟩, ?_⟩
          try simp (maxSteps := 1000000) (disch := (first | omega | (simp only [World.size_alloc, size_wr, size_drew] <;> omega) | exact not_noB _)) only [go_sem, ↓reduceIte, n0, reduceCtorEq, n1, n2, n3, n4, n5, i0, i1, i2, i3, i4, i5, i6, i7, hrd2_2, hrd2_7, hrd2_8, hrd2_9, hrd2_10, hrd2_14, hrd2_13, hrd2_15, hrd2_17, hrd2_21, hrd2_20, hrd2_22, hrd2_24, hrd2_30, hrd2_29]
          simp only [RowKit.intOf]
          omega
        · have hjN : j2 = N1 := by omega
          rw [hjN] at hL1
          repeat ((first | refine W.seqR rfl ?_ | refine W.seq ?_ | refine W.regR rfl ?_ | refine W.condK ?_ | refine W.block ?_ | refine W.skip ?_ | refine W.ret ?_ | refine W.exit ?_); try simp (maxSteps := 1000000) (disch := (first | omega | (simp only [World.size_alloc, size_wr, size_drew] <;> omega) | exact not_noB _)) only [go_sem, ↓reduceIte, n0, reduceCtorEq, n1, n2, n3, n4, n5, i0, i1, i2, i3, i4, i5, i6, i7, hrc1_2, hrc1_7, hrc1_8, hrc1_9, hrc1_10, hrc1_14, hrc1_13, hrc1_15, hrc1_17, hrc1_21, hrc1_20, hri1, exitRQ_ret, exitRQ_exit])
          exact ⟨(by simp (maxSteps := 1000000) (disch := (first | omega | (simp only [World.size_alloc, size_wr, size_drew] <;> omega) | exact not_noB _)) only [go_sem, ↓reduceIte, n0, reduceCtorEq, n1, n2, n3, n4, n5, i0, i1, i2, i3, i4, i5, i6, i7, Holds_nil, Holds_cons, hrc1_2, hrc1_7, hrc1_8, hrc1_9, hrc1_10, hrc1_14, hrc1_13, hrc1_15, hrc1_17, hrc1_21, hrc1_20, hri1]), s6, xs1, css1, hL1⟩
      rintro ρ w42 ⟨⟨hrd1_2, hrd1_7, hrd1_8, hrd1_9, hrd1_10, hrd1_14, hrd1_13, hrd1_15, hrd1_17, hrd1_21, hrd1_20, -⟩, s21, xs1, css1, hL1⟩
      have hq42 := hL1.rd
      have hu42 := hL1.upd
      have hx1_42 := hu42.blk_some hx1_10 (by omega)
      have hV42 : Upd (fun b => b = R1 ∨ b = rb) w10 w42 := hu42.mono (fun _ h => .inr h)
      have hU42 : Upd (fun b => b = vb ∨ b = rb) w1 w42 := hU10.trans' hV42 fun i hi h => h.elim (fun h => by omega) .inr
      have hz42 := hV42.size
      have hG42 : Glo ev w42 := hG1.updS hU42 hgM1 hgM2
      obtain ⟨X42, hX42⟩ : ∃ X : Array Value, X = (A1 ++ (([strV (rdStr true s3).1, .slice none 0 0, .map none] : List Value) ++ B1)).toArray := ⟨_, rfl⟩
      have hxb42 : blk w42 R1 = some (X42, 77, (0, 0)) := by rw [hX42]; exact hx1_42
      have hXs42 : j1 * 3 + 3 ≤ X42.size := by rw [hX42]; simp only [List.size_toArray, List.length_append, List.length_cons, List.length_nil, hA1]; omega
      have hrd1 : rdF (rdP (d + 2) ver true) ver true fDescribeProducersResponseTopic_1 s4 = (.mk 0 [] (nilS fDescribeProducersResponseTopic_1 ver y1) xs1 [], s21) := by
        have h := rdF_listE (pt := (rdP (d + 2) ver true)) (v := ver) (flex := true) (f := fDescribeProducersResponseTopic_1) (s := s4) (xs := xs1) (e := s21) rfl (by rw [hy1, ← hN1, ← hs5]; exact hL1.done)
        rw [hy1] at h; exact h
      have hs21 : s21 = (rdF (rdP (d + 2) ver true) ver true fDescribeProducersResponseTopic_1 s4).2 := by rw [hrd1]
      obtain ⟨aa1, qq1, hvs1⟩ := hL1.row.shape
      subst hvs1
      have hst42_1 : j1 * 3 + 2 ≤ X42.size := by omega
      repeat ((first | refine W.seqR rfl ?_ | refine W.seq ?_ | refine W.regR rfl ?_ | refine W.condK ?_ | refine W.block ?_ | refine W.skip ?_ | refine W.ret ?_ | refine W.exit ?_); try simp (maxSteps := 1000000) (disch := (first | omega | (simp only [World.size_alloc, size_wr, size_drew] <;> omega) | exact not_noB _)) only [go_sem, ↓reduceIte, n0, reduceCtorEq, n1, n2, n3, n4, n5, i0, i1, i2, i3, i4, i5, i6, i7, hxb42, hrd1_2, hrd1_7, hrd1_8, hrd1_9, hrd1_10, hrd1_14, hrd1_13, hrd1_15, hrd1_17, hrd1_21, hrd1_20, exitRQ_ret, exitRQ_exit, Int.toNat_natCast, Nat.mul_one, hst42_1])
      generalize hw43 : wr w42 R1 (j1 * 3 + 1) [.slice aa1 N1 qq1] = w43
      have hS43 : Upd (fun b => b = R1 ∨ b = rb) w42 w43 := by rw [← hw43]; exact (Upd.refl _ _).wr _ _ (.inr (.inl rfl))
      have hx1_43 : blk w43 R1 = some ((A1 ++ (([strV (rdStr true s3).1, .slice aa1 N1 qq1, .map none] : List Value) ++ B1)).toArray, 77, (0, 0)) := by rw [← hw43]; exact el_blk (o := 1) hx1_42 hA1 (Nat.le_of_ble_eq_true rfl)
      have hV43 := hS43
      have hU43 : Upd (fun b => b = vb ∨ b = rb) w1 w43 := hU42.trans' hV43 fun i hi h => h.elim (fun h => by omega) .inr
      have hz43 := hV43.size
      have hG43 : Glo ev w43 := hG1.updS hU43 hgM1 hgM2
      have hq43 : Rdr RT ok w43 rb s21 ∧ NN w43 rb s21 := by
        have hn : ∀ x, x = w43 → (Rdr RT ok x rb s21 ∧ NN x rb s21) := fun x hx => by
          rw [hx, ← hw43]
          exact Rdr.store hq42 (by omega) (fun h => by have := (hok _ h).1; first | omega | exact (hok _ h).2 rfl)
        exact hn _ rfl
      obtain ⟨X43, hX43⟩ : ∃ X : Array Value, X = (A1 ++ (([strV (rdStr true s3).1, .slice aa1 N1 qq1, .map none] : List Value) ++ B1)).toArray := ⟨_, rfl⟩
      have hxb43 : blk w43 R1 = some (X43, 77, (0, 0)) := by rw [hX43]; exact hx1_43
      have hXs43 : j1 * 3 + 3 ≤ X43.size := by rw [hX43]; simp only [List.size_toArray, List.length_append, List.length_cons, List.length_nil, hA1]; omega
      clear hw43
      have hfe0_1 : RepF (RepS true (d + 2)) (szS true (d + 2)) fDescribeProducersResponseTopic_1 (fun b => (ok b ∨ w1.heap.size ≤ b) ∧ ¬ ownB va0 b) w43 (xe0_1) [.slice aa1 N1 qq1] := by rw [hxe0_1, hrd1]; exact RepF.keepS (RepF_row rfl hnc1 hN1 rfl hL1.row hL1.all (fun b hb => ⟨.inr (by omega), fun ho => by have := (hown1 _ ho).2; omega⟩)) (hV43.keeps fun b _ hk e => hoM1 b hk e)
      clear hL1 hnc1
      have hle0_2 : rdL (rdP (d + 2) ver true) (dfP (d + 2)) ver true [] s21 = ([], s21) := rfl
      have hle0_1 : rdL (rdP (d + 2) ver true) (dfP (d + 2)) ver true [fDescribeProducersResponseTopic_1] s4 = ([xe0_1], s21) := by rw [rdL_st (by decide) hhe0_1, ← hxe0_1, ← hs21, hle0_2]
      have hle0_0 : rdL (rdP (d + 2) ver true) (dfP (d + 2)) ver true [fDescribeProducersResponseTopic_0, fDescribeProducersResponseTopic_1] s3 = ([xe0_0, xe0_1], s21) := by rw [rdL_st (by decide) hhe0_0, ← hxe0_0, ← hs4, hle0_1]
      have hfine0 : rdP (d + 3) ver true fs_DescribeProducersResponseTopic s3 = (.mk 0 [] false [xe0_0, xe0_1] (rdTags s21).1, (rdTags s21).2) := rdP_t hle0_0
      repeat ((first | refine W.seqR rfl ?_ | refine W.seq ?_ | refine W.regR rfl ?_ | refine W.condK ?_ | refine W.block ?_ | refine W.skip ?_ | refine W.ret ?_ | refine W.exit ?_); try simp (maxSteps := 1000000) (disch := (first | omega | (simp only [World.size_alloc, size_wr, size_drew] <;> omega) | exact not_noB _)) only [go_sem, ↓reduceIte, n0, reduceCtorEq, n1, n2, n3, n4, n5, i0, i1, i2, i3, i4, i5, i6, i7, hxb43, hrd1_2, hrd1_7, hrd1_8, hrd1_9, hrd1_10, hrd1_14, hrd1_13, hrd1_15, hrd1_17, hrd1_21, hrd1_20, exitRQ_ret, exitRQ_exit, Int.toNat_natCast, Nat.mul_one])
      refine (ReadTags_fn w43 hq43.1 hrok).mono ?_
      rintro _ w44 ⟨qme0, rfl, hT44, hTn, hq44, hu44⟩
      have hx1_44 := hu44.blk_some hx1_43 (by omega)
      have hV44 : Upd (fun b => b = R1 ∨ b = rb) w43 w44 := hu44.mono (fun _ h => .inr h)
      have hU44 : Upd (fun b => b = vb ∨ b = rb) w1 w44 := hU43.trans' hV44 fun i hi h => h.elim (fun h => by omega) .inr
      have hz44 := hV44.size
      have hG44 : Glo ev w44 := hG1.updS hU44 hgM1 hgM2
      obtain ⟨X44, hX44⟩ : ∃ X : Array Value, X = (A1 ++ (([strV (rdStr true s3).1, .slice aa1 N1 qq1, .map none] : List Value) ++ B1)).toArray := ⟨_, rfl⟩
      have hxb44 : blk w44 R1 = some (X44, 77, (0, 0)) := by rw [hX44]; exact hx1_44
      have hXs44 : j1 * 3 + 3 ≤ X44.size := by rw [hX44]; simp only [List.size_toArray, List.length_append, List.length_cons, List.length_nil, hA1]; omega
      obtain ⟨s22, hs22⟩ : ∃ s, s = (rdTags s21).2 := ⟨_, rfl⟩
      rw [← hs22] at hq44 hfine0
      have hst44_2 : j1 * 3 + 3 ≤ X44.size := by omega
      try simp (maxSteps := 1000000) (disch := (first | omega | (simp only [World.size_alloc, size_wr, size_drew] <;> omega) | exact not_noB _)) only [go_sem, ↓reduceIte, n0, reduceCtorEq, n1, n2, n3, n4, n5, i0, i1, i2, i3, i4, i5, i6, i7, hxb44, hrd1_2, hrd1_7, hrd1_8, hrd1_9, hrd1_10, hrd1_14, hrd1_13, hrd1_15, hrd1_17, hrd1_21, hrd1_20, exitRQ_ret, exitRQ_exit, Int.toNat_natCast, Nat.mul_one, hst44_2]
      repeat ((first | refine W.seqR rfl ?_ | refine W.seq ?_ | refine W.regR rfl ?_ | refine W.condK ?_ | refine W.block ?_ | refine W.skip ?_ | refine W.ret ?_ | refine W.exit ?_); try simp (maxSteps := 1000000) (disch := (first | omega | (simp only [World.size_alloc, size_wr, size_drew] <;> omega) | exact not_noB _)) only [go_sem, ↓reduceIte, n0, reduceCtorEq, n1, n2, n3, n4, n5, i0, i1, i2, i3, i4, i5, i6, i7, hxb44, hrd1_2, hrd1_7, hrd1_8, hrd1_9, hrd1_10, hrd1_14, hrd1_13, hrd1_15, hrd1_17, hrd1_21, hrd1_20, exitRQ_ret, exitRQ_exit, Int.toNat_natCast, Nat.mul_one, hst44_2])
      generalize hw45 : wr w44 R1 (j1 * 3 + 2) [.map qme0] = w45
      have hS45 : Upd (fun b => b = R1 ∨ b = rb) w44 w45 := by rw [← hw45]; exact (Upd.refl _ _).wr _ _ (.inr (.inl rfl))
      have hx1_45 : blk w45 R1 = some ((A1 ++ (([strV (rdStr true s3).1, .slice aa1 N1 qq1, .map qme0] : List Value) ++ B1)).toArray, 77, (0, 0)) := by rw [← hw45]; exact el_blk (o := 2) hx1_44 hA1 (Nat.le_of_ble_eq_true rfl)
      have hV45 := hS45
      have hU45 : Upd (fun b => b = vb ∨ b = rb) w1 w45 := hU44.trans' hV45 fun i hi h => h.elim (fun h => by omega) .inr
      have hz45 := hV45.size
      have hG45 : Glo ev w45 := hG1.updS hU45 hgM1 hgM2
      have hq45 : Rdr RT ok w45 rb s22 ∧ NN w45 rb s22 := by
        have hn : ∀ x, x = w45 → (Rdr RT ok x rb s22 ∧ NN x rb s22) := fun x hx => by
          rw [hx, ← hw45]
          exact Rdr.store hq44 (by omega) (fun h => by have := (hok _ h).1; first | omega | exact (hok _ h).2 rfl)
        exact hn _ rfl
      obtain ⟨X45, hX45⟩ : ∃ X : Array Value, X = (A1 ++ (([strV (rdStr true s3).1, .slice aa1 N1 qq1, .map qme0] : List Value) ++ B1)).toArray := ⟨_, rfl⟩
      have hxb45 : blk w45 R1 = some (X45, 77, (0, 0)) := by rw [hX45]; exact hx1_45
      have hXs45 : j1 * 3 + 3 ≤ X45.size := by rw [hX45]; simp only [List.size_toArray, List.length_append, List.length_cons, List.length_nil, hA1]; omega
      clear hw45
      have hTge0 : TagsM (fun b => (ok b ∨ w1.heap.size ≤ b) ∧ ¬ ownB va0 b) w45 (.map qme0) (rdTags s21).1 := (hT44.weaken fun b _ hk => hk.elim (fun hk => ⟨.inl hk, fun ho => by have := (hown1 b ho).1; have := (hok b hk).1; omega⟩) (fun h => by have h' : w43.heap.size ≤ b := h; exact ⟨.inr (by omega), fun ho => by have := (hown1 _ ho).2; omega⟩)).keep (hV45.keeps fun b _ hk e => hoM1 b hk e)
      have hCe0_45 : Upd (fun b => b = R1 ∨ b = rb) w45 w45 := Upd.refl _ _
      have hCe0_44 : Upd (fun b => b = R1 ∨ b = rb) w44 w45 := hV45.trans hCe0_45
      have hCe0_43 : Upd (fun b => b = R1 ∨ b = rb) w43 w45 := hV44.trans hCe0_44
      have hCe0_42 : Upd (fun b => b = R1 ∨ b = rb) w42 w45 := hV43.trans hCe0_43
      have hCe0_10 : Upd (fun b => b = R1 ∨ b = rb) w10 w45 := hV42.trans hCe0_42
      have hCe0_9 : Upd (fun b => b = R1 ∨ b = rb) w9 w45 := hV10.trans hCe0_10
      have hCe0_8 : Upd (fun b => b = R1 ∨ b = rb) w8 w45 := hV9.trans hCe0_9
      have hCe0_7 : Upd (fun b => b = R1 ∨ b = rb) w7 w45 := hV8.trans hCe0_8
      have hCe0_6 : Upd (fun b => b = R1 ∨ b = rb) w6 w45 := hV7.trans hCe0_7
      have hRe0 : RepS true (d + 3) fs_DescribeProducersResponseTopic (fun b => (ok b ∨ w1.heap.size ≤ b) ∧ ¬ ownB va0 b) w45 (.mk 0 [] false [xe0_0, xe0_1] (rdTags s21).1) [strV (rdStr true s3).1, .slice aa1 N1 qq1, .map qme0] := RepS.introT (c := [strV (rdStr true s3).1, .slice aa1 N1 qq1]) (RepL.cons1 (hfe0_0.keepS (hCe0_9.keeps fun b _ hk e => hoM1 b hk e)) (RepL.cons1 (hfe0_1.keepS (hCe0_43.keeps fun b _ hk e => hoM1 b hk e)) RepL.nil)) hTge0
      have hrE : (rd1 (rdP (d + 3) ver true) fDescribeProducersResponse_1.of fDescribeProducersResponse_1.sub false true) s3 = ((.mk 0 [] false [xe0_0, xe0_1] (rdTags s21).1), s22) := by rw [show (rd1 (rdP (d + 3) ver true) fDescribeProducersResponse_1.of fDescribeProducersResponse_1.sub false true) s3 = _ from rd1_part]; exact hfine0
      have hxE : (Rep1 (RepS true (d + 3)) fDescribeProducersResponse_1.of fDescribeProducersResponse_1.sub) (fun b => (ok b ∨ w1.heap.size ≤ b) ∧ ¬ ownB va0 b) w45 (.mk 0 [] false [xe0_0, xe0_1] (rdTags s21).1) [strV (rdStr true s3).1, .slice aa1 N1 qq1, .map qme0] := Rep1_part.2 hRe0
      repeat ((first | refine W.seqR rfl ?_ | refine W.seq ?_ | refine W.regR rfl ?_ | refine W.condK ?_ | refine W.block ?_ | refine W.skip ?_ | refine W.ret ?_ | refine W.exit ?_); try simp (maxSteps := 1000000) (disch := (first | omega | (simp only [World.size_alloc, size_wr, size_drew] <;> omega) | exact not_noB _)) only [go_sem, ↓reduceIte, n0, reduceCtorEq, n1, n2, n3, n4, n5, i0, i1, i2, i3, i4, i5, i6, i7, hxb45, hrd1_2, hrd1_7, hrd1_8, hrd1_9, hrd1_10, hrd1_14, hrd1_13, hrd1_15, hrd1_17, hrd1_21, hrd1_20, exitRQ_ret, exitRQ_exit, Int.toNat_natCast, Nat.mul_one])
      have hTk : Upd (fun b => b = R1 ∨ b = rb) w6 w45 := (((((((hV7.trans hV8).trans hV9).trans hV10).trans hV42).trans hV43).trans hV44).trans hV45)
      have hL' := hL0.step (Rep1_lay _ _ fun _ => RepS_lay true _ _) hlt0 (hnext1 w45 [strV (rdStr true s3).1, .slice aa1 N1 qq1, .map qme0] rfl hx1_45) (by rw [hrE]; exact hxE) (hTk.mono fun b h => h.imp (fun e => ⟨_, _, _, hva1, e⟩) id) (by rw [hrE]; exact hq45) (fun h => hoM rb h (.inr rfl)) (Nat.le_refl _)
      have hij : IntKind.i32.wrap ((j1 : Int) + 1) = ((j1 + 1 : Nat) : Int) := by rw [i32_wrap (by omega)]; omega
      repeat ((first | refine W.seqR rfl ?_ | refine W.seq ?_ | refine W.regR rfl ?_ | refine W.condK ?_ | refine W.block ?_ | refine W.skip ?_ | refine W.ret ?_ | refine W.exit ?_); try simp (maxSteps := 1000000) (disch := (first | omega | (simp only [World.size_alloc, size_wr, size_drew] <;> omega) | exact not_noB _)) only [go_sem, ↓reduceIte, n0, reduceCtorEq, n1, n2, n3, n4, n5, i0, i1, i2, i3, i4, i5, i6, i7, hxb45, hrd1_2, hrd1_7, hrd1_8, hrd1_9, hrd1_10, hrd1_14, hrd1_13, hrd1_15, hrd1_17, hrd1_21, hrd1_20, exitRQ_ret, exitRQ_exit, Int.toNat_natCast, Nat.mul_one, hij])
      refine ⟨⟨(by simp (maxSteps := 1000000) (disch := (first | omega | (simp only [World.size_alloc, size_wr, size_drew] <;> omega) | exact not_noB _)) only [go_sem, ↓reduceIte, n0, reduceCtorEq, n1, n2, n3, n4, n5, i0, i1, i2, i3, i4, i5, i6, i7, Holds_nil, Holds_cons, hrd1_2, hrd1_7, hrd1_8, hrd1_9, hrd1_10, hrd1_14, hrd1_13, hrd1_15, hrd1_17, hrd1_21, hrd1_20]; exact hva1.symm), j1 + 1, (by simp (maxSteps := 1000000) (disch := (first | omega | (simp only [World.size_alloc, size_wr, size_drew] <;> omega) | exact not_noB _)) only [go_sem, ↓reduceIte, n0, reduceCtorEq, n1, n2, n3, n4, n5, i0, i1, i2, i3, i4, i5, i6, i7, hrd1_2, hrd1_7, hrd1_8, hrd1_9, hrd1_10, hrd1_14, hrd1_13, hrd1_15, hrd1_17, hrd1_21, hrd1_20, hij]; all_goals rfl), _, _, _, hL'⟩, ?_⟩
      try simp (maxSteps := 1000000) (disch := (first | omega | (simp only [World.size_alloc, size_wr, size_drew] <;> omega) | exact not_noB _)) only [go_sem, ↓reduceIte, n0, reduceCtorEq, n1, n2, n3, n4, n5, i0, i1, i2, i3, i4, i5, i6, i7, hrd1_2, hrd1_7, hrd1_8, hrd1_9, hrd1_10, hrd1_14, hrd1_13, hrd1_15, hrd1_17, hrd1_21, hrd1_20]
      simp only [RowKit.intOf]
      omega
    · have hjN : j1 = N0 := by omega
      rw [hjN] at hL0
      repeat ((first | refine W.seqR rfl ?_ | refine W.seq ?_ | refine W.regR rfl ?_ | refine W.condK ?_ | refine W.block ?_ | refine W.skip ?_ | refine W.ret ?_ | refine W.exit ?_); try simp (maxSteps := 1000000) (disch := (first | omega | (simp only [World.size_alloc, size_wr, size_drew] <;> omega) | exact not_noB _)) only [go_sem, ↓reduceIte, n0, reduceCtorEq, n1, n2, n3, n4, n5, i0, i1, i2, i3, i4, i5, i6, i7, hrc0_2, hrc0_7, hrc0_8, hrc0_9, hrc0_10, hrc0_14, hrc0_13, hri0, exitRQ_ret, exitRQ_exit])
      exact ⟨(by simp (maxSteps := 1000000) (disch := (first | omega | (simp only [World.size_alloc, size_wr, size_drew] <;> omega) | exact not_noB _)) only [go_sem, ↓reduceIte, n0, reduceCtorEq, n1, n2, n3, n4, n5, i0, i1, i2, i3, i4, i5, i6, i7, Holds_nil, Holds_cons, hrc0_2, hrc0_7, hrc0_8, hrc0_9, hrc0_10, hrc0_14, hrc0_13, hri0]), s3, xs0, css0, hL0⟩
  rintro ρ w46 ⟨⟨hrd0_2, hrd0_7, hrd0_8, hrd0_9, hrd0_10, hrd0_14, hrd0_13, -⟩, s23, xs0, css0, hL0⟩
  have hq46 := hL0.rd
  have hu46 := hL0.upd
  have hv_46 := hu46.blk_some hv_4 (by omega)
  have hV46 : Upd (fun b => b = vb ∨ b = rb) w4 w46 := hu46.mono (fun _ h => .inr h)
  have hU46 : Upd (fun b => b = vb ∨ b = rb) w1 w46 := hU4.trans hV46
  have hz46 := hV46.size
  have hG46 : Glo ev w46 := hG1.updS hU46 hgM1 hgM2
  have hrd0 : rdF (rdP (d + 3) ver true) ver true fDescribeProducersResponse_1 s1 = (.mk 0 [] (nilS fDescribeProducersResponse_1 ver y0) xs0 [], s23) := by
    have h := rdF_listE (pt := (rdP (d + 3) ver true)) (v := ver) (flex := true) (f := fDescribeProducersResponse_1) (s := s1) (xs := xs0) (e := s23) rfl (by rw [hy0, ← hN0, ← hs2]; exact hL0.done)
    rw [hy0] at h; exact h
  have hs23 : s23 = (rdF (rdP (d + 3) ver true) ver true fDescribeProducersResponse_1 s1).2 := by rw [hrd0]
  obtain ⟨aa0, qq0, hvs0⟩ := hL0.row.shape
  subst hvs0
  repeat ((first | refine W.seqR rfl ?_ | refine W.seq ?_ | refine W.regR rfl ?_ | refine W.condK ?_ | refine W.block ?_ | refine W.skip ?_ | refine W.ret ?_ | refine W.exit ?_); try simp (maxSteps := 1000000) (disch := (first | omega | (simp only [World.size_alloc, size_wr, size_drew] <;> omega) | exact not_noB _)) only [go_sem, ↓reduceIte, n0, reduceCtorEq, n1, n2, n3, n4, n5, i0, i1, i2, i3, i4, i5, i6, i7, hv_46, hrd0_2, hrd0_7, hrd0_8, hrd0_9, hrd0_10, hrd0_14, hrd0_13])
  generalize hw47 : wr w46 vb 2 [.slice aa0 N0 qq0] = w47
  have hS47 : Upd (fun b => b = vb ∨ b = rb) w46 w47 := by rw [← hw47]; exact (Upd.refl _ _).wr _ _ (.inr (.inl rfl))
  have hv_47 : blk w47 vb = some (#[.int .i16 ver, .int .i32 (rdInt .i32 4 s0).1, .slice aa0 N0 qq0, .map none], 62, (0, 0)) := by rw [← hw47, blk_wr_eq, hv_46]; rfl
  have hV47 := hS47
  have hU47 : Upd (fun b => b = vb ∨ b = rb) w1 w47 := hU46.trans hV47
  have hz47 := hV47.size
  have hG47 : Glo ev w47 := hG1.updS hU47 hgM1 hgM2
  have hq47 : Rdr RT ok w47 rb s23 ∧ NN w47 rb s23 := by
    have hn : ∀ x, x = w47 → (Rdr RT ok x rb s23 ∧ NN x rb s23) := fun x hx => by
      rw [hx, ← hw47]
      exact Rdr.store hq46 (by omega) (fun h => by have := (hok _ h).1; first | omega | exact (hok _ h).2 rfl)
    exact hn _ rfl
  clear hw47
  have hf_1 : RepF (RepS true (d + 3)) (szS true (d + 3)) fDescribeProducersResponse_1 (fun b => ok b ∨ w1.heap.size ≤ b) w47 (x_1) [.slice aa0 N0 qq0] := by rw [hx_1, hrd0]; exact RepF.keepS (RepF_row rfl hnc0 hN0 rfl hL0.row hL0.all (fun b hb => .inr (by omega))) (hV47.keeps fun b _ hk e => (hoM b hk) e)
  clear hL0 hnc0
  have hl_2 : rdL (rdP (d + 3) ver true) (dfP (d + 3)) ver true [] s23 = ([], s23) := rfl
  have hl_1 : rdL (rdP (d + 3) ver true) (dfP (d + 3)) ver true [fDescribeProducersResponse_1] s1 = ([x_1], s23) := by rw [rdL_st (by decide) hh_1, ← hx_1, ← hs23, hl_2]
  have hl_0 : rdL (rdP (d + 3) ver true) (dfP (d + 3)) ver true [fDescribeProducersResponse_0, fDescribeProducersResponse_1] s0 = ([x_0, x_1], s23) := by rw [rdL_st (by decide) hh_0, ← hx_0, ← hs1, hl_1]
  have hfin : rdP (d + 4) ver true fs_DescribeProducersResponse s0 = (.mk 0 [] false [x_0, x_1] (rdTags s23).1, (rdTags s23).2) := rdP_t hl_0
  repeat ((first | refine W.seqR rfl ?_ | refine W.seq ?_ | refine W.regR rfl ?_ | refine W.condK ?_ | refine W.block ?_ | refine W.skip ?_ | refine W.ret ?_ | refine W.exit ?_); try simp (maxSteps := 1000000) (disch := (first | omega | (simp only [World.size_alloc, size_wr, size_drew] <;> omega) | exact not_noB _)) only [go_sem, ↓reduceIte, n0, reduceCtorEq, n1, n2, n3, n4, n5, i0, i1, i2, i3, i4, i5, i6, i7, hv_47, hrd0_2, hrd0_7, hrd0_8, hrd0_9, hrd0_10, hrd0_14, hrd0_13])
  refine (ReadTags_fn w47 hq47.1 hrok).mono ?_
  rintro _ w48 ⟨qm, rfl, hT48, hTn, hq48, hu48⟩
  have hv_48 := hu48.blk_some hv_47 (by omega)
  have hV48 : Upd (fun b => b = vb ∨ b = rb) w47 w48 := hu48.mono (fun _ h => .inr h)
  have hU48 : Upd (fun b => b = vb ∨ b = rb) w1 w48 := hU47.trans hV48
  have hz48 := hV48.size
  have hG48 : Glo ev w48 := hG1.updS hU48 hgM1 hgM2
  obtain ⟨s24, hs24⟩ : ∃ s, s = (rdTags s23).2 := ⟨_, rfl⟩
  rw [← hs24] at hq48 hfin
  try simp (maxSteps := 1000000) (disch := (first | omega | (simp only [World.size_alloc, size_wr, size_drew] <;> omega) | exact not_noB _)) only [go_sem, ↓reduceIte, n0, reduceCtorEq, n1, n2, n3, n4, n5, i0, i1, i2, i3, i4, i5, i6, i7, hv_48, hrd0_2, hrd0_7, hrd0_8, hrd0_9, hrd0_10, hrd0_14, hrd0_13]
  repeat ((first | refine W.seqR rfl ?_ | refine W.seq ?_ | refine W.regR rfl ?_ | refine W.condK ?_ | refine W.block ?_ | refine W.skip ?_ | refine W.ret ?_ | refine W.exit ?_); try simp (maxSteps := 1000000) (disch := (first | omega | (simp only [World.size_alloc, size_wr, size_drew] <;> omega) | exact not_noB _)) only [go_sem, ↓reduceIte, n0, reduceCtorEq, n1, n2, n3, n4, n5, i0, i1, i2, i3, i4, i5, i6, i7, hv_48, hrd0_2, hrd0_7, hrd0_8, hrd0_9, hrd0_10, hrd0_14, hrd0_13])
  generalize hw49 : wr w48 vb 3 [.map qm] = w49
  have hS49 : Upd (fun b => b = vb ∨ b = rb) w48 w49 := by rw [← hw49]; exact (Upd.refl _ _).wr _ _ (.inr (.inl rfl))
  have hv_49 : blk w49 vb = some (#[.int .i16 ver, .int .i32 (rdInt .i32 4 s0).1, .slice aa0 N0 qq0, .map qm], 62, (0, 0)) := by rw [← hw49, blk_wr_eq, hv_48]; rfl
  have hV49 := hS49
  have hU49 : Upd (fun b => b = vb ∨ b = rb) w1 w49 := hU48.trans hV49
  have hz49 := hV49.size
  have hG49 : Glo ev w49 := hG1.updS hU49 hgM1 hgM2
  have hq49 : Rdr RT ok w49 rb s24 ∧ NN w49 rb s24 := by
    have hn : ∀ x, x = w49 → (Rdr RT ok x rb s24 ∧ NN x rb s24) := fun x hx => by
      rw [hx, ← hw49]
      exact Rdr.store hq48 (by omega) (fun h => by have := (hok _ h).1; first | omega | exact (hok _ h).2 rfl)
    exact hn _ rfl
  clear hw49
  have hTg : TagsM (fun b => ok b ∨ w1.heap.size ≤ b) w49 (.map qm) (rdTags s23).1 := (hT48.weaken fun b _ hk => hk.elim (fun hk => .inl hk) (fun h => by have h' : w47.heap.size ≤ b := h; exact .inr (by omega))).keep (hV49.keeps fun b _ hk e => (hoM b hk) e)
  have hC_49 : Upd (fun b => b = vb ∨ b = rb) w49 w49 := Upd.refl _ _
  have hC_48 : Upd (fun b => b = vb ∨ b = rb) w48 w49 := hV49.trans hC_49
  have hC_47 : Upd (fun b => b = vb ∨ b = rb) w47 w49 := hV48.trans hC_48
  have hC_46 : Upd (fun b => b = vb ∨ b = rb) w46 w49 := hV47.trans hC_47
  have hC_4 : Upd (fun b => b = vb ∨ b = rb) w4 w49 := hV46.trans hC_46
  have hC_3 : Upd (fun b => b = vb ∨ b = rb) w3 w49 := hV4.trans hC_4
  have hC_2 : Upd (fun b => b = vb ∨ b = rb) w2 w49 := hV3.trans hC_3
  have hC_1 : Upd (fun b => b = vb ∨ b = rb) w1 w49 := hV2.trans hC_2
  have hR : RepS true (d + 4) fs_DescribeProducersResponse (fun b => ok b ∨ w1.heap.size ≤ b) w49 (.mk 0 [] false [x_0, x_1] (rdTags s23).1) [.int .i32 (rdInt .i32 4 s0).1, .slice aa0 N0 qq0, .map qm] := RepS.introT (c := [.int .i32 (rdInt .i32 4 s0).1, .slice aa0 N0 qq0]) (RepL.cons1 (hf_0.keepS (hC_3.keeps fun b _ hk e => (hoM b hk) e)) (RepL.cons1 (hf_1.keepS (hC_47.keeps fun b _ hk e => (hoM b hk) e)) RepL.nil)) hTg
  repeat ((first | refine W.seqR rfl ?_ | refine W.seq ?_ | refine W.regR rfl ?_ | refine W.condK ?_ | refine W.block ?_ | refine W.skip ?_ | refine W.ret ?_ | refine W.exit ?_); try simp (maxSteps := 1000000) (disch := (first | omega | (simp only [World.size_alloc, size_wr, size_drew] <;> omega) | exact not_noB _)) only [go_sem, ↓reduceIte, n0, reduceCtorEq, n1, n2, n3, n4, n5, i0, i1, i2, i3, i4, i5, i6, i7, hv_49, hrd0_2, hrd0_7, hrd0_8, hrd0_9, hrd0_10, hrd0_14, hrd0_13])
  refine (RComplete_fn w49 hq49.1 hG49.2).mono ?_
  rintro _ wz ⟨rfl, hez⟩
  rw [hez]
  repeat ((first | refine W.seqR rfl ?_ | refine W.seq ?_ | refine W.regR rfl ?_ | refine W.condK ?_ | refine W.block ?_ | refine W.skip ?_ | refine W.ret ?_ | refine W.exit ?_); try simp (maxSteps := 1000000) (disch := (first | omega | (simp only [World.size_alloc, size_wr, size_drew] <;> omega) | exact not_noB _)) only [go_sem, ↓reduceIte, n0, reduceCtorEq, n1, n2, n3, n4, n5, i0, i1, i2, i3, i4, i5, i6, i7, hv_49, hrd0_2, hrd0_7, hrd0_8, hrd0_9, hrd0_10, hrd0_14, hrd0_13])
  rw [hfin]
  refine ⟨fun h => ?_, fun h => ⟨?_, [.int .i32 (rdInt .i32 4 s0).1, .slice aa0 N0 qq0, .map qm], hv_49, ?_⟩, ?_⟩
  · have h' : s24 = none := h
    rw [h']; rfl
  · cases hsn : s24 with
    | none => exact absurd hsn h
    | some x => rfl
  · exact (RepS_lay true (d + 4) fs_DescribeProducersResponse).weaken hR fun b _ hk => hk.imp id fun h => by omega
  · exact hbase.trans' hU49 fun i hi h => h.elim id fun h => by omega
end Ms

