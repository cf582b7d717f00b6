/- A part of the proof: see the last text. -/
import Derived.Test.YtkoeaaababfjkaaGreatDoorC06
import Derived.Test.YtkoeaaababfjkaaGreatDoorC07
import Derived.Test.YtkoeaaababfjkaaGreatDoorC10
import Derived.Test.YtkoeaaababfjkaaGreatDoorAlterConfigsResponseP0
set_option linter.unusedSimpArgs false
set_option linter.unusedVariables false
namespace Ms
open Nat renaming reduceEqDiff → n0, reduceAdd → n1, reduceMul → n2, reduceSub → n3, reduceLT → n4, reduceLeDiff → n5
open Int renaming reduceEq → i0, reduceLT → i1, reduceLE → i2, reduceNeg → i3, reduceAdd → i4, reduceSub → i5, reduceMul → i6, reduceToNat → i7
set_option maxRecDepth 8000
open Go Go.Proofs Go.Shelf
attribute [local congr] W_congr WPsq_congr WPp_congr optK_congr addrK_congr intK_congr boolK_congr sliceK_congr tupleK_congr funcK_congr Fn_congr rawK_congr takeK_congr stepK_congr convK_congr aggK_congr

set_option maxHeartbeats 4000000 in
theorem readAlterConfigsResponse_1 {d : Nat} {ok : Blocks} {ver : Int} {ev : Value} (hlo : 2 ≤ ver) (hhi : ver ≤ 2) (w : World) {vb : Nat} (src : Value) (s : List UInt8) (hv : blk w vb = some (#[.int .i16 ver, .int .i32 0, .slice none 0 0, .map none], 104, (0, 0))) (hsrc : BytesV ok w src s) (hok0 : ∀ b, ok b → b < w.heap.size ∧ b ≠ vb) (hG : Glo ev w) (hgv : ¬ 0 = vb ∧ ¬ 1 = vb) :
    Fn Tryz.prog 107 #[.pointer (some ⟨vb, 0, none⟩), src, .bool false] w (ReadQ 104 ok ver (d + 2) fs_AlterConfigsResponse vb w (rdP (d + 2) ver true fs_AlterConfigsResponse (some s)) ev) := by
  have hvl := blk_lt hv
  have hgs := hG.lt
  obtain ⟨sa, sc, rfl, _⟩ := hsrc.shape
  refine fn_of_W Tryz.func107 rfl Tryz.results107 Tryz.ntmps107 rfl ?_
  repeat ((first | refine W.seqR rfl ?_ | refine W.seq ?_ | refine W.regR rfl ?_ | refine W.condK ?_ | refine W.block ?_ | refine W.skip ?_ | refine W.ret ?_ | refine W.exit ?_); try simp (maxSteps := 1000000) (disch := (first | omega | (simp only [World.size_alloc, size_wr, size_drew] <;> omega) | exact not_noB _)) only [go_sem, ↓reduceIte, n0, reduceCtorEq, n1, n2, n3, n4, n5, i0, i1, i2, i3, i4, i5, i6, i7, hv])
  refine (DefaultAlterConfigsResponse_fn w hv).mono ?_
  rintro _ w0 ⟨hv0, hu0⟩
  have hz0 := hu0.size
  have hsrc0 : BytesV ok w0 (.slice sa s.length sc) s := hsrc.keep (hu0.keeps fun b _ hk e => (hok0 b hk).2 e)
  obtain ⟨rb, hrb⟩ : ∃ r, r = w0.heap.size := ⟨_, rfl⟩
  have hE1 : Ext w0 (wr (w0.alloc (.cells #[.slice none 0 0, .bool false] 153)) w0.heap.size 0 [.slice sa s.length sc, .bool false]) := (Upd.alloc (Upd.refl _ _) _).wr _ _ (.inl (Nat.le_refl _))
  have hz1 : (wr (w0.alloc (.cells #[.slice none 0 0, .bool false] 153)) w0.heap.size 0 [.slice sa s.length sc, .bool false]).heap.size = w0.heap.size + 1 := by rw [size_wr, World.size_alloc]
  have hR1 : Rdr RT ok (wr (w0.alloc (.cells #[.slice none 0 0, .bool false] 153)) w0.heap.size 0 [.slice sa s.length sc, .bool false]) w0.heap.size (some s) := Rdr.good (v := .slice sa s.length sc) (by simp (maxSteps := 1000000) (disch := (first | omega | (simp only [World.size_alloc, size_wr, size_drew] <;> omega) | exact not_noB _)) only [go_sem, ↓reduceIte, n0, reduceCtorEq, n1, n2, n3, n4, n5, i0, i1, i2, i3, i4, i5, i6, i7]) (hsrc0.keep (hE1.keeps _))
  have hv_1 := hE1.blk_some hv0 id
  repeat ((first | refine W.seqR rfl ?_ | refine W.seq ?_ | refine W.regR rfl ?_ | refine W.condK ?_ | refine W.block ?_ | refine W.skip ?_ | refine W.ret ?_ | refine W.exit ?_); try simp (maxSteps := 1000000) (disch := (first | omega | (simp only [World.size_alloc, size_wr, size_drew] <;> omega) | exact not_noB _)) only [go_sem, ↓reduceIte, n0, reduceCtorEq, n1, n2, n3, n4, n5, i0, i1, i2, i3, i4, i5, i6, i7, hv0])
  generalize (wr (w0.alloc (.cells #[.slice none 0 0, .bool false] 153)) w0.heap.size 0 [.slice sa s.length sc, .bool false]) = w1 at *
  rw [← hrb] at hR1
  try rw [← hrb]
  have hok : ∀ b, ok b → b < w.heap.size ∧ b ≠ vb := hok0
  have hrok : ¬ ok rb := fun h => by have := (hok rb h).1; omega
  have hbase : Upd (fun b => b = vb) w w1 := hu0.trans (hE1.mono fun _ h => h.elim)
  have hG1 : Glo ev w1 := hG.updS hbase hgv.1 hgv.2
  have hgrb : ¬ 0 = rb := by omega
  have hgM1 : ¬ (0 = vb ∨ 0 = rb) := fun h => h.elim hgv.1 fun h => by omega
  have hgM2 : ¬ (1 = vb ∨ 1 = rb) := fun h => h.elim hgv.2 fun h => by omega
  obtain ⟨s0, hs0⟩ : ∃ s' : St, s' = some s := ⟨_, rfl⟩
  rw [← hs0] at hR1 ⊢
  have hU1 : Upd (fun b => b = vb ∨ b = rb) w1 w1 := Upd.refl _ _
  have hoM : ∀ b, (ok b ∨ w1.heap.size ≤ b) → ¬ (b = vb ∨ b = rb) := fun b hk h => by
    rcases hk with hk | hk
    · have := hok b hk; rcases h with h | h <;> omega
    · rcases h with h | h <;> omega
  have hq1 : Rdr RT ok w1 rb s0 := hR1
  obtain ⟨FB, hFB⟩ : ∃ P : Prop, P = ((rdP (d + 2) ver true fs_AlterConfigsResponse s0).2 = none) := ⟨_, rfl⟩
  have hb_0 : (rdL (rdP (d + 1) ver true) (dfP (d + 1)) ver true [fAlterConfigsResponse_0, fAlterConfigsResponse_1] s0).2 = none → FB := fun h => Eq.mpr hFB (rdP_bad h)
  have hh_0 : hasS fAlterConfigsResponse_0 ver = true := hasS_t (by show (0 : Int) ≤ ver; omega) (by show (-1 : Int) < 0 ∨ ver ≤ (-1 : Int); omega)
  obtain ⟨x_0, hx_0⟩ : ∃ x, x = (rdF (rdP (d + 1) ver true) ver true fAlterConfigsResponse_0 s0).1 := ⟨_, rfl⟩
  repeat ((first | refine W.seqR rfl ?_ | refine W.seq ?_ | refine W.regR rfl ?_ | refine W.condK ?_ | refine W.block ?_ | refine W.skip ?_ | refine W.ret ?_ | refine W.exit ?_); try simp (maxSteps := 1000000) (disch := (first | omega | (simp only [World.size_alloc, size_wr, size_drew] <;> omega) | exact not_noB _)) only [go_sem, ↓reduceIte, n0, reduceCtorEq, n1, n2, n3, n4, n5, i0, i1, i2, i3, i4, i5, i6, i7, hv_1])
  have hrd : rdF (rdP (d + 1) ver true) ver true fAlterConfigsResponse_0 s0 = _ := rdF_num 3 rfl (by decide)
  refine (Int32_fn w1 hq1 hrok hG1.1 hgrb).mono ?_
  rintro _ w2 ⟨rfl, hq2, hu2⟩
  have hv_2 := hu2.blk_some hv_1 (by omega)
  have hV2 : Upd (fun b => b = vb ∨ b = rb) w1 w2 := hu2.mono (fun _ h => .inr h)
  have hU2 : Upd (fun b => b = vb ∨ b = rb) w1 w2 := hU1.trans hV2
  have hz2 := hV2.size
  have hG2 : Glo ev w2 := hG1.updS hU2 hgM1 hgM2
  have hst : (rdF (rdP (d + 1) ver true) ver true fAlterConfigsResponse_0 s0).2 = (rdInt .i32 4 s0).2 := by first | (rw [hrd]; rfl) | rw [hrd]
  obtain ⟨s1, hs1⟩ : ∃ s, s = (rdF (rdP (d + 1) ver true) ver true fAlterConfigsResponse_0 s0).2 := ⟨_, rfl⟩
  rw [← hst, ← hs1] at hq2
  clear hst
  repeat ((first | refine W.seqR rfl ?_ | refine W.seq ?_ | refine W.regR rfl ?_ | refine W.condK ?_ | refine W.block ?_ | refine W.skip ?_ | refine W.ret ?_ | refine W.exit ?_); try simp (maxSteps := 1000000) (disch := (first | omega | (simp only [World.size_alloc, size_wr, size_drew] <;> omega) | exact not_noB _)) only [go_sem, ↓reduceIte, n0, reduceCtorEq, n1, n2, n3, n4, n5, i0, i1, i2, i3, i4, i5, i6, i7, hv_2])
  generalize hw3 : wr w2 vb 1 [.int .i32 (rdInt .i32 4 s0).1] = w3
  have hS3 : Upd (fun b => b = vb ∨ b = rb) w2 w3 := by rw [← hw3]; exact (Upd.refl _ _).wr _ _ (.inr (.inl rfl))
  have hv_3 : blk w3 vb = some (#[.int .i16 ver, .int .i32 (rdInt .i32 4 s0).1, .slice none 0 0, .map none], 104, (0, 0)) := by rw [← hw3, blk_wr_eq, hv_2]; rfl
  have hV3 := hS3
  have hU3 : Upd (fun b => b = vb ∨ b = rb) w1 w3 := hU2.trans hV3
  have hz3 := hV3.size
  have hG3 : Glo ev w3 := hG1.updS hU3 hgM1 hgM2
  have hq3 : Rdr RT ok w3 rb s1 ∧ NN w3 rb s1 := by
    have hn : ∀ x, x = w3 → (Rdr RT ok x rb s1 ∧ NN x rb s1) := fun x hx => by
      rw [hx, ← hw3]
      exact Rdr.store hq2 (by omega) (fun h => by have := (hok _ h).1; first | omega | exact (hok _ h).2 rfl)
    exact hn _ rfl
  clear hw3
  have hf_0 : RepF (RepS true (d + 1)) (szS true (d + 1)) fAlterConfigsResponse_0 (fun b => ok b ∨ w1.heap.size ≤ b) w3 (x_0) [.int .i32 (rdInt .i32 4 s0).1] := (RepF_num (by decide)).2 (by rw [hx_0, hrd]; exact congrArg (fun x => [x]) (numC_rd 3 (by decide) 4 s0).symm)
  clear hrd
  have hb_1 : (rdL (rdP (d + 1) ver true) (dfP (d + 1)) ver true [fAlterConfigsResponse_1] s1).2 = none → FB := fun h => hb_0 (by rw [rdL_st (by decide) hh_0, ← hs1]; exact h)
  have hh_1 : hasS fAlterConfigsResponse_1 ver = true := hasS_t (by show (0 : Int) ≤ ver; omega) (by show (-1 : Int) < 0 ∨ ver ≤ (-1 : Int); omega)
  obtain ⟨x_1, hx_1⟩ : ∃ x, x = (rdF (rdP (d + 1) ver true) ver true fAlterConfigsResponse_1 s1).1 := ⟨_, rfl⟩
  repeat ((first | refine W.seqR rfl ?_ | refine W.seq ?_ | refine W.regR rfl ?_ | refine W.condK ?_ | refine W.block ?_ | refine W.skip ?_ | refine W.ret ?_ | refine W.exit ?_); try simp (maxSteps := 1000000) (disch := (first | omega | (simp only [World.size_alloc, size_wr, size_drew] <;> omega) | exact not_noB _)) only [go_sem, ↓reduceIte, n0, reduceCtorEq, n1, n2, n3, n4, n5, i0, i1, i2, i3, i4, i5, i6, i7, hv_3])
  refine (RCompactArrayLen_fn w3 hq3.1 hrok hG3.1 hgrb).mono ?_
  rintro _ w4 ⟨rfl, hq4, hu4⟩
  have hv_4 := hu4.blk_some hv_3 (by omega)
  have hV4 : Upd (fun b => b = vb ∨ b = rb) w3 w4 := hu4.mono (fun _ h => .inr h)
  have hU4 : Upd (fun b => b = vb ∨ b = rb) w1 w4 := hU3.trans hV4
  have hz4 := hV4.size
  have hG4 : Glo ev w4 := hG1.updS hU4 hgM1 hgM2
  obtain ⟨s2, hs2⟩ : ∃ s, s = (rdALen true s1).2 := ⟨_, rfl⟩
  rw [← hs2] at hq4
  have hyr0 := rdALen_rng true s1
  generalize hy0 : (rdALen true s1).1 = y0 at *
  obtain ⟨N0, hN0⟩ : ∃ N, N = y0.toNat := ⟨_, rfl⟩
  have hlb0 : (rdMany (rd1 (rdP (d + 1) ver true) fAlterConfigsResponse_1.of fAlterConfigsResponse_1.sub false true) N0 s2).2 = none → FB := fun h => hb_1 (by rw [rdL_st (by decide) hh_1]; exact rdL_bad (rdF_listbad rfl (by rw [hy0, ← hN0, ← hs2]; exact h)))
  repeat ((first | refine W.seqR rfl ?_ | refine W.seq ?_ | refine W.regR rfl ?_ | refine W.block ?_ | refine W.skip ?_ | refine W.ret ?_ | refine W.exit ?_); try simp (maxSteps := 1000000) (disch := (first | omega | (simp only [World.size_alloc, size_wr, size_drew] <;> omega) | exact not_noB _)) only [go_sem, ↓reduceIte, n0, reduceCtorEq, n1, n2, n3, n4, n5, i0, i1, i2, i3, i4, i5, i6, i7, hv_4])
  refine (ROk_fn w4 hq4.1).mono ?_
  rintro _ wz ⟨rfl, hez⟩
  rw [hez]
  clear hez wz
  by_cases hsn0 : s2 = none
  · have hso : s2.isSome = false := by rw [hsn0]; rfl
    try simp (maxSteps := 1000000) (disch := (first | omega | (simp only [World.size_alloc, size_wr, size_drew] <;> omega) | exact not_noB _)) only [go_sem, ↓reduceIte, n0, reduceCtorEq, n1, n2, n3, n4, n5, i0, i1, i2, i3, i4, i5, i6, i7, hv_4, hso]
    repeat ((first | refine W.seqR rfl ?_ | refine W.seq ?_ | refine W.regR rfl ?_ | refine W.condK ?_ | refine W.block ?_ | refine W.skip ?_ | refine W.ret ?_ | refine W.exit ?_); try simp (maxSteps := 1000000) (disch := (first | omega | (simp only [World.size_alloc, size_wr, size_drew] <;> omega) | exact not_noB _)) only [go_sem, ↓reduceIte, n0, reduceCtorEq, n1, n2, n3, n4, n5, i0, i1, i2, i3, i4, i5, i6, i7, hv_4, hso])
    refine (RComplete_fn w4 hq4.1 hG4.2).mono ?_
    rintro _ wz ⟨rfl, hez⟩
    rw [hez]
    try simp (maxSteps := 1000000) (disch := (first | omega | (simp only [World.size_alloc, size_wr, size_drew] <;> omega) | exact not_noB _)) only [go_sem, ↓reduceIte, n0, reduceCtorEq, n1, n2, n3, n4, n5, i0, i1, i2, i3, i4, i5, i6, i7, hv_4]
    repeat ((first | refine W.seqR rfl ?_ | refine W.seq ?_ | refine W.regR rfl ?_ | refine W.condK ?_ | refine W.block ?_ | refine W.skip ?_ | refine W.ret ?_ | refine W.exit ?_); try simp (maxSteps := 1000000) (disch := (first | omega | (simp only [World.size_alloc, size_wr, size_drew] <;> omega) | exact not_noB _)) only [go_sem, ↓reduceIte, n0, reduceCtorEq, n1, n2, n3, n4, n5, i0, i1, i2, i3, i4, i5, i6, i7, hv_4])
    rw [errV_none hsn0]
    exact ReadQ.bad (Eq.mp hFB (hlb0 (by rw [hsn0]; exact rdMany_none rd1P_none _))) (hbase.trans' hU4 fun i hi h => h.elim id fun h => by omega)
  have hso0 : s2.isSome = true := isSome_some hsn0
  try simp (maxSteps := 1000000) (disch := (first | omega | (simp only [World.size_alloc, size_wr, size_drew] <;> omega) | exact not_noB _)) only [go_sem, ↓reduceIte, n0, reduceCtorEq, n1, n2, n3, n4, n5, i0, i1, i2, i3, i4, i5, i6, i7, hv_4, hso0]
  repeat ((first | refine W.seqR rfl ?_ | refine W.seq ?_ | refine W.regR rfl ?_ | refine W.block ?_ | refine W.skip ?_ | refine W.ret ?_ | refine W.exit ?_); try simp (maxSteps := 1000000) (disch := (first | omega | (simp only [World.size_alloc, size_wr, size_drew] <;> omega) | exact not_noB _)) only [go_sem, ↓reduceIte, n0, reduceCtorEq, n1, n2, n3, n4, n5, i0, i1, i2, i3, i4, i5, i6, i7, hv_4, hso0])
  refine W.condK ?_
  try simp (maxSteps := 1000000) (disch := (first | omega | (simp only [World.size_alloc, size_wr, size_drew] <;> omega) | exact not_noB _)) only [go_sem, ↓reduceIte, n0, reduceCtorEq, n1, n2, n3, n4, n5, i0, i1, i2, i3, i4, i5, i6, i7, hv_4, hso0]
  repeat ((first | refine W.seqR rfl ?_ | refine W.seq ?_ | refine W.regR rfl ?_ | refine W.block ?_ | refine W.skip ?_ | refine W.ret ?_ | refine W.exit ?_); try simp (maxSteps := 1000000) (disch := (first | omega | (simp only [World.size_alloc, size_wr, size_drew] <;> omega) | exact not_noB _)) only [go_sem, ↓reduceIte, n0, reduceCtorEq, n1, n2, n3, n4, n5, i0, i1, i2, i3, i4, i5, i6, i7, hv_4, hso0, slBase_00])
  refine W.normJ (RowQ [(2, .bool false), (7, .pointer (some ⟨rb, 0, none⟩)), (8, .int .i16 ver), (9, .bool true), (10, .pointer (some ⟨vb, 0, none⟩)), (14, .int .i32 y0)] 13 (fun va w' => LstI RT (rd1 (rdP (d + 1) ver true) fAlterConfigsResponse_1.of fAlterConfigsResponse_1.sub false true) (Rep1 (RepS true (d + 1)) fAlterConfigsResponse_1.of fAlterConfigsResponse_1.sub) 5 109 [.int .i16 0, .pointer none, .int .i8 0, .string ByteArray.empty, .map none] w4.heap.size N0 ok (fun b => ok b ∨ w1.heap.size ≤ b) rb w4 s2 va 0 s2 [] [] w' ∧ (N0 = 0 → if nilS fAlterConfigsResponse_1 ver y0 = true then va = .slice none 0 0 else ∃ a, va = .slice (some a) 0 0))) ?_ ?_
  · by_cases hy0 : (0 : Int) < y0
    · have hyv : Value.int .i32 y0 = .int .i32 ((N0 : Nat) : Int) := by rw [show y0 = ((N0 : Nat) : Int) by omega]
      repeat ((first | refine W.seqR rfl ?_ | refine W.seq ?_ | refine W.regR rfl ?_ | refine W.condK ?_ | refine W.block ?_ | refine W.skip ?_ | refine W.ret ?_ | refine W.exit ?_); try simp (maxSteps := 1000000) (disch := (first | omega | (simp only [World.size_alloc, size_wr, size_drew] <;> omega) | exact not_noB _)) only [go_sem, ↓reduceIte, n0, reduceCtorEq, n1, n2, n3, n4, n5, i0, i1, i2, i3, i4, i5, i6, i7, hv_4])
      refine wp_appendZ (m := N0) utAlterConfigsResponse_102 utAlterConfigsResponse_21 inAlterConfigsResponse_109 (by decide) (by first | rfl | simp (maxSteps := 1000000) (disch := (first | omega | (simp only [World.size_alloc, size_wr, size_drew] <;> omega) | exact not_noB _)) only [go_sem, ↓reduceIte, n0, reduceCtorEq, n1, n2, n3, n4, n5, i0, i1, i2, i3, i4, i5, i6, i7]) (by first | exact hyv | (simp (maxSteps := 1000000) (disch := (first | omega | (simp only [World.size_alloc, size_wr, size_drew] <;> omega) | exact not_noB _)) only [go_sem, ↓reduceIte, n0, reduceCtorEq, n1, n2, n3, n4, n5, i0, i1, i2, i3, i4, i5, i6, i7]; exact hyv)) (by omega) (by omega) (by decide) ?_
      intro q rest hq1
      have hEw : Ext w4 (w4.drew.alloc (.cells (zs [.int .i16 0, .pointer none, .int .i8 0, .string ByteArray.empty, .map none] N0 ++ rest).toArray 109)) := (Upd.refl _ _).drew.alloc _
      try simp (maxSteps := 1000000) (disch := (first | omega | (simp only [World.size_alloc, size_wr, size_drew] <;> omega) | exact not_noB _)) only [go_sem, ↓reduceIte, n0, reduceCtorEq, n1, n2, n3, n4, n5, i0, i1, i2, i3, i4, i5, i6, i7, hv_4]
      repeat ((first | refine W.seqR rfl ?_ | refine W.seq ?_ | refine W.regR rfl ?_ | refine W.condK ?_ | refine W.block ?_ | refine W.skip ?_ | refine W.ret ?_ | refine W.exit ?_); try simp (maxSteps := 1000000) (disch := (first | omega | (simp only [World.size_alloc, size_wr, size_drew] <;> omega) | exact not_noB _)) only [go_sem, ↓reduceIte, n0, reduceCtorEq, n1, n2, n3, n4, n5, i0, i1, i2, i3, i4, i5, i6, i7, hv_4])
      exact ⟨(by simp (maxSteps := 1000000) (disch := (first | omega | (simp only [World.size_alloc, size_wr, size_drew] <;> omega) | exact not_noB _)) only [go_sem, ↓reduceIte, n0, reduceCtorEq, n1, n2, n3, n4, n5, i0, i1, i2, i3, i4, i5, i6, i7, Holds_nil, Holds_cons]), .slice (some ⟨w4.heap.size, 0, none⟩) N0 q, (by simp (maxSteps := 1000000) (disch := (first | omega | (simp only [World.size_alloc, size_wr, size_drew] <;> omega) | exact not_noB _)) only [go_sem, ↓reduceIte, n0, reduceCtorEq, n1, n2, n3, n4, n5, i0, i1, i2, i3, i4, i5, i6, i7]), LstI.start (RowJ.start (by omega) hq1 (by show w4.heap.size ≤ w4.drew.heap.size; rw [size_drew]; omega) (blk_alloc_new rfl)) ⟨hq4.1.upd hEw (fun h => h) (fun _ _ _ h => h), hq4.2.upd hEw fun h => h⟩ (hEw.mono fun _ h => h.elim), fun h0 => by omega⟩
    · repeat ((first | refine W.seqR rfl ?_ | refine W.seq ?_ | refine W.regR rfl ?_ | refine W.condK ?_ | refine W.block ?_ | refine W.skip ?_ | refine W.ret ?_ | refine W.exit ?_); try simp (maxSteps := 1000000) (disch := (first | omega | (simp only [World.size_alloc, size_wr, size_drew] <;> omega) | exact not_noB _)) only [go_sem, ↓reduceIte, n0, reduceCtorEq, n1, n2, n3, n4, n5, i0, i1, i2, i3, i4, i5, i6, i7, hv_4])
      exact ⟨(by simp (maxSteps := 1000000) (disch := (first | omega | (simp only [World.size_alloc, size_wr, size_drew] <;> omega) | exact not_noB _)) only [go_sem, ↓reduceIte, n0, reduceCtorEq, n1, n2, n3, n4, n5, i0, i1, i2, i3, i4, i5, i6, i7, Holds_nil, Holds_cons]), .slice none 0 0, (by simp (maxSteps := 1000000) (disch := (first | omega | (simp only [World.size_alloc, size_wr, size_drew] <;> omega) | exact not_noB _)) only [go_sem, ↓reduceIte, n0, reduceCtorEq, n1, n2, n3, n4, n5, i0, i1, i2, i3, i4, i5, i6, i7, slBase_00]), LstI.start (RowJ.zero (by omega) (fun _ h => by cases h)) hq4 (Upd.refl _ _), fun _ => by rw [nilS_plain (by decide) (by omega)]; exact rfl⟩
  rintro ρ w5 ⟨⟨hrb0_2, hrb0_7, hrb0_8, hrb0_9, hrb0_10, hrb0_14, -⟩, va0, hra0, hL0, hnc0⟩
  repeat ((first | refine W.seqR rfl ?_ | refine W.seq ?_ | refine W.regR rfl ?_ | refine W.condK ?_ | refine W.block ?_ | refine W.skip ?_ | refine W.ret ?_ | refine W.exit ?_); try simp (maxSteps := 1000000) (disch := (first | omega | (simp only [World.size_alloc, size_wr, size_drew] <;> omega) | exact not_noB _)) only [go_sem, ↓reduceIte, n0, reduceCtorEq, n1, n2, n3, n4, n5, i0, i1, i2, i3, i4, i5, i6, i7, hv_4, hrb0_2, hrb0_7, hrb0_8, hrb0_9, hrb0_10, hrb0_14, hra0, exitRQ_ret, exitRQ_exit, Int.toNat_natCast, Nat.mul_one])
  refine W.exitRJ 0 (EndQ [(2, .bool false), (7, .pointer (some ⟨rb, 0, none⟩)), (8, .int .i16 ver), (9, .bool true), (10, .pointer (some ⟨vb, 0, none⟩)), (14, .int .i32 y0), (13, va0)] (fun w' => ∃ s xs css, LstI RT (rd1 (rdP (d + 1) ver true) fAlterConfigsResponse_1.of fAlterConfigsResponse_1.sub false true) (Rep1 (RepS true (d + 1)) fAlterConfigsResponse_1.of fAlterConfigsResponse_1.sub) 5 109 [.int .i16 0, .pointer none, .int .i8 0, .string ByteArray.empty, .map none] w4.heap.size N0 ok (fun b => ok b ∨ w1.heap.size ≤ b) rb w4 s2 va0 N0 s xs css w')) (W.loop (LoopQ [(2, .bool false), (7, .pointer (some ⟨rb, 0, none⟩)), (8, .int .i16 ver), (9, .bool true), (10, .pointer (some ⟨vb, 0, none⟩)), (14, .int .i32 y0), (13, va0)] 15 (fun j w' => ∃ s xs css, LstI RT (rd1 (rdP (d + 1) ver true) fAlterConfigsResponse_1.of fAlterConfigsResponse_1.sub false true) (Rep1 (RepS true (d + 1)) fAlterConfigsResponse_1.of fAlterConfigsResponse_1.sub) 5 109 [.int .i16 0, .pointer none, .int .i8 0, .string ByteArray.empty, .map none] w4.heap.size N0 ok (fun b => ok b ∨ w1.heap.size ≤ b) rb w4 s2 va0 j s xs css w')) (fun ρ _ => N0 - (RowKit.intOf (ρ 15)).toNat) ?_ ?_) ?_
  · exact ⟨(by simp (maxSteps := 1000000) (disch := (first | omega | (simp only [World.size_alloc, size_wr, size_drew] <;> omega) | exact not_noB _)) only [go_sem, ↓reduceIte, n0, reduceCtorEq, n1, n2, n3, n4, n5, i0, i1, i2, i3, i4, i5, i6, i7, Holds_nil, Holds_cons, hrb0_2, hrb0_7, hrb0_8, hrb0_9, hrb0_10, hrb0_14, hra0]), 0, (by simp (maxSteps := 1000000) (disch := (first | omega | (simp only [World.size_alloc, size_wr, size_drew] <;> omega) | exact not_noB _)) only [go_sem, ↓reduceIte, n0, reduceCtorEq, n1, n2, n3, n4, n5, i0, i1, i2, i3, i4, i5, i6, i7, hrb0_2, hrb0_7, hrb0_8, hrb0_9, hrb0_10, hrb0_14, hra0]; all_goals rfl), s2, [], [], hL0⟩
  · rintro ρ w6 ⟨⟨hrc0_2, hrc0_7, hrc0_8, hrc0_9, hrc0_10, hrc0_14, hrc0_13, -⟩, j1, hri0, s3, xs0, css0, hL0⟩
    have hj0 := hL0.le
    have hq6 := hL0.rd
    have hU6 : Upd (fun b => b = vb ∨ b = rb) w1 w6 := hU4.trans' hL0.upd fun i _ h => .inr h
    have hz6 := hL0.upd.size
    have hG6 : Glo ev w6 := hG1.updS hU6 hgM1 hgM2
    by_cases hlt0 : j1 < N0
    · obtain ⟨R1, q1, B1, hva1, hNq1, hLR1, hA1, hx1_6, hnext1⟩ := hL0.row.next hlt0
      have hRl1 := blk_lt hx1_6
      generalize css0.flatten = A1 at hA1 hx1_6 hnext1
      replace hra0 : ρ 13 = .slice (some ⟨R1, 0, none⟩) N0 q1 := hrc0_13.trans hva1
      have hown1 : ∀ b, ownB va0 b → w4.heap.size ≤ b ∧ b < w6.heap.size := fun b h => hL0.row.own h
      have hoM1 : ∀ b, (fun b => (ok b ∨ w1.heap.size ≤ b) ∧ ¬ ownB va0 b) b → ¬ (b = R1 ∨ b = rb) := fun b hk h => h.elim (fun e => hk.2 ⟨_, _, _, hva1, e⟩) (fun e => hoM b hk.1 (.inr e))
      obtain ⟨X6, hX6⟩ : ∃ X : Array Value, X = (A1 ++ (([.int .i16 0, .pointer none, .int .i8 0, .string ByteArray.empty, .map none] : List Value) ++ B1)).toArray := ⟨_, rfl⟩
      have hxb6 : blk w6 R1 = some (X6, 109, (0, 0)) := by rw [hX6]; exact hx1_6
      have hXs6 : j1 * 5 + 5 ≤ X6.size := by rw [hX6]; simp only [List.size_toArray, List.length_append, List.length_cons, List.length_nil, hA1]; omega
      repeat ((first | refine W.seqR rfl ?_ | refine W.seq ?_ | refine W.regR rfl ?_ | refine W.condK ?_ | refine W.block ?_ | refine W.skip ?_ | refine W.ret ?_ | refine W.exit ?_); try simp (maxSteps := 1000000) (disch := (first | omega | (simp only [World.size_alloc, size_wr, size_drew] <;> omega) | exact not_noB _)) only [go_sem, ↓reduceIte, n0, reduceCtorEq, n1, n2, n3, n4, n5, i0, i1, i2, i3, i4, i5, i6, i7, hxb6, hrc0_2, hrc0_7, hrc0_8, hrc0_9, hrc0_10, hrc0_14, hra0, hri0, exitRQ_ret, exitRQ_exit, Int.toNat_natCast, Nat.mul_one])
      refine (DefaultEAlterConfigsResponseResource_fn w6 hx1_6 hA1).mono ?_
      rintro _ w7 ⟨hx1_7, hu7⟩
      have hq7 := And.intro (hq6.1.upd hu7 (by omega) (fun b _ hk e => by have := (hok b hk).1; omega)) (hq6.2.upd hu7 (by omega))
      have hV7 : Upd (fun b => b = R1 ∨ b = rb) w6 w7 := hu7.mono (fun _ h => .inl h)
      have hU7 : Upd (fun b => b = vb ∨ b = rb) w1 w7 := hU6.trans' hV7 fun i hi h => h.elim (fun h => by omega) .inr
      have hz7 := hV7.size
      have hG7 : Glo ev w7 := hG1.updS hU7 hgM1 hgM2
      obtain ⟨X7, hX7⟩ : ∃ X : Array Value, X = (A1 ++ (([.int .i16 0, .pointer none, .int .i8 0, .string ByteArray.empty, .map none] : List Value) ++ B1)).toArray := ⟨_, rfl⟩
      have hxb7 : blk w7 R1 = some (X7, 109, (0, 0)) := by rw [hX7]; exact hx1_7
      have hXs7 : j1 * 5 + 5 ≤ X7.size := by rw [hX7]; simp only [List.size_toArray, List.length_append, List.length_cons, List.length_nil, hA1]; omega
      have hbe0_0 : (rdL (rdP d ver true) (dfP d) ver true [fAlterConfigsResponseResource_0, fAlterConfigsResponseResource_1, fAlterConfigsResponseResource_2, fAlterConfigsResponseResource_3] s3).2 = none → FB := fun h => hlb0 (hL0.bad hlt0 rd1P_none (by show (rd1 (rdP (d + 1) ver true) 10 fs_AlterConfigsResponseResource false true s3).2 = none; rw [rd1_part]; exact rdP_bad h))
      have hhe0_0 : hasS fAlterConfigsResponseResource_0 ver = true := hasS_t (by show (0 : Int) ≤ ver; omega) (by show (-1 : Int) < 0 ∨ ver ≤ (-1 : Int); omega)
      obtain ⟨xe0_0, hxe0_0⟩ : ∃ x, x = (rdF (rdP d ver true) ver true fAlterConfigsResponseResource_0 s3).1 := ⟨_, rfl⟩
      repeat ((first | refine W.seqR rfl ?_ | refine W.seq ?_ | refine W.regR rfl ?_ | refine W.condK ?_ | refine W.block ?_ | refine W.skip ?_ | refine W.ret ?_ | refine W.exit ?_); try simp (maxSteps := 1000000) (disch := (first | omega | (simp only [World.size_alloc, size_wr, size_drew] <;> omega) | exact not_noB _)) only [go_sem, ↓reduceIte, n0, reduceCtorEq, n1, n2, n3, n4, n5, i0, i1, i2, i3, i4, i5, i6, i7, hxb7, hrc0_2, hrc0_7, hrc0_8, hrc0_9, hrc0_10, hrc0_14, hra0, hri0, exitRQ_ret, exitRQ_exit, Int.toNat_natCast, Nat.mul_one])
      have hrd : rdF (rdP d ver true) ver true fAlterConfigsResponseResource_0 s3 = _ := rdF_num 2 rfl (by decide)
      refine (Int16_fn w7 hq7.1 hrok hG7.1 hgrb).mono ?_
      rintro _ w8 ⟨rfl, hq8, hu8⟩
      have hx1_8 := hu8.blk_some hx1_7 (by omega)
      have hV8 : Upd (fun b => b = R1 ∨ b = rb) w7 w8 := hu8.mono (fun _ h => .inr h)
      have hU8 : Upd (fun b => b = vb ∨ b = rb) w1 w8 := hU7.trans' hV8 fun i hi h => h.elim (fun h => by omega) .inr
      have hz8 := hV8.size
      have hG8 : Glo ev w8 := hG1.updS hU8 hgM1 hgM2
      obtain ⟨X8, hX8⟩ : ∃ X : Array Value, X = (A1 ++ (([.int .i16 0, .pointer none, .int .i8 0, .string ByteArray.empty, .map none] : List Value) ++ B1)).toArray := ⟨_, rfl⟩
      have hxb8 : blk w8 R1 = some (X8, 109, (0, 0)) := by rw [hX8]; exact hx1_8
      have hXs8 : j1 * 5 + 5 ≤ X8.size := by rw [hX8]; simp only [List.size_toArray, List.length_append, List.length_cons, List.length_nil, hA1]; omega
      have hst : (rdF (rdP d ver true) ver true fAlterConfigsResponseResource_0 s3).2 = (rdInt .i16 2 s3).2 := by first | (rw [hrd]; rfl) | rw [hrd]
      obtain ⟨s4, hs4⟩ : ∃ s, s = (rdF (rdP d ver true) ver true fAlterConfigsResponseResource_0 s3).2 := ⟨_, rfl⟩
      rw [← hst, ← hs4] at hq8
      clear hst
      have hst8_0 : j1 * 5 + 1 ≤ X8.size := by omega
      repeat ((first | refine W.seqR rfl ?_ | refine W.seq ?_ | refine W.regR rfl ?_ | refine W.condK ?_ | refine W.block ?_ | refine W.skip ?_ | refine W.ret ?_ | refine W.exit ?_); try simp (maxSteps := 1000000) (disch := (first | omega | (simp only [World.size_alloc, size_wr, size_drew] <;> omega) | exact not_noB _)) only [go_sem, ↓reduceIte, n0, reduceCtorEq, n1, n2, n3, n4, n5, i0, i1, i2, i3, i4, i5, i6, i7, hxb8, hrc0_2, hrc0_7, hrc0_8, hrc0_9, hrc0_10, hrc0_14, hra0, hri0, exitRQ_ret, exitRQ_exit, Int.toNat_natCast, Nat.mul_one, hst8_0])
      generalize hw9 : wr w8 R1 (j1 * 5) [.int .i16 (rdInt .i16 2 s3).1] = w9
      have hS9 : Upd (fun b => b = R1 ∨ b = rb) w8 w9 := by rw [← hw9]; exact (Upd.refl _ _).wr _ _ (.inr (.inl rfl))
      have hx1_9 : blk w9 R1 = some ((A1 ++ (([.int .i16 (rdInt .i16 2 s3).1, .pointer none, .int .i8 0, .string ByteArray.empty, .map none] : List Value) ++ B1)).toArray, 109, (0, 0)) := by rw [← hw9]; exact el_blk0 hx1_8 hA1 (Nat.le_of_ble_eq_true rfl)
      have hV9 := hS9
      have hU9 : Upd (fun b => b = vb ∨ b = rb) w1 w9 := hU8.trans' hV9 fun i hi h => h.elim (fun h => by omega) .inr
      have hz9 := hV9.size
      have hG9 : Glo ev w9 := hG1.updS hU9 hgM1 hgM2
      have hq9 : Rdr RT ok w9 rb s4 ∧ NN w9 rb s4 := by
        have hn : ∀ x, x = w9 → (Rdr RT ok x rb s4 ∧ NN x rb s4) := fun x hx => by
          rw [hx, ← hw9]
          exact Rdr.store hq8 (by omega) (fun h => by have := (hok _ h).1; first | omega | exact (hok _ h).2 rfl)
        exact hn _ rfl
      obtain ⟨X9, hX9⟩ : ∃ X : Array Value, X = (A1 ++ (([.int .i16 (rdInt .i16 2 s3).1, .pointer none, .int .i8 0, .string ByteArray.empty, .map none] : List Value) ++ B1)).toArray := ⟨_, rfl⟩
      have hxb9 : blk w9 R1 = some (X9, 109, (0, 0)) := by rw [hX9]; exact hx1_9
      have hXs9 : j1 * 5 + 5 ≤ X9.size := by rw [hX9]; simp only [List.size_toArray, List.length_append, List.length_cons, List.length_nil, hA1]; omega
      clear hw9
      have hfe0_0 : RepF (RepS true d) (szS true d) fAlterConfigsResponseResource_0 (fun b => (ok b ∨ w1.heap.size ≤ b) ∧ ¬ ownB va0 b) w9 (xe0_0) [.int .i16 (rdInt .i16 2 s3).1] := (RepF_num (by decide)).2 (by rw [hxe0_0, hrd]; exact congrArg (fun x => [x]) (numC_rd 2 (by decide) 2 s3).symm)
      clear hrd
      have hbe0_1 : (rdL (rdP d ver true) (dfP d) ver true [fAlterConfigsResponseResource_1, fAlterConfigsResponseResource_2, fAlterConfigsResponseResource_3] s4).2 = none → FB := fun h => hbe0_0 (by rw [rdL_st (by decide) hhe0_0, ← hs4]; exact h)
      have hhe0_1 : hasS fAlterConfigsResponseResource_1 ver = true := hasS_t (by show (0 : Int) ≤ ver; omega) (by show (-1 : Int) < 0 ∨ ver ≤ (-1 : Int); omega)
      obtain ⟨xe0_1, hxe0_1⟩ : ∃ x, x = (rdF (rdP d ver true) ver true fAlterConfigsResponseResource_1 s4).1 := ⟨_, rfl⟩
      repeat ((first | refine W.seqR rfl ?_ | refine W.seq ?_ | refine W.regR rfl ?_ | refine W.condK ?_ | refine W.block ?_ | refine W.skip ?_ | refine W.ret ?_ | refine W.exit ?_); try simp (maxSteps := 1000000) (disch := (first | omega | (simp only [World.size_alloc, size_wr, size_drew] <;> omega) | exact not_noB _)) only [go_sem, ↓reduceIte, n0, reduceCtorEq, n1, n2, n3, n4, n5, i0, i1, i2, i3, i4, i5, i6, i7, hxb9, hrc0_2, hrc0_7, hrc0_8, hrc0_9, hrc0_10, hrc0_14, hra0, hri0, exitRQ_ret, exitRQ_exit, Int.toNat_natCast, Nat.mul_one])
      have hmay : mayS fAlterConfigsResponseResource_1 ver = true := mayS_yes (by decide) (by show (0 : Int) ≤ ver; omega)
      have hrd : rdF (rdP d ver true) ver true fAlterConfigsResponseResource_1 s4 = _ := rdF_ptr rfl hmay
      refine (RCompactNullableString_fn w9 hq9.1 hrok hG9.1 hgrb).mono ?_
      rintro r10 w10 ⟨hp10, hq10, hu10⟩
      obtain ⟨ap10, rfl⟩ := hp10.shape
      have hx1_10 := hu10.blk_some hx1_9 (by omega)
      have hV10 : Upd (fun b => b = R1 ∨ b = rb) w9 w10 := hu10.mono (fun _ h => .inr h)
      have hU10 : Upd (fun b => b = vb ∨ b = rb) w1 w10 := hU9.trans' hV10 fun i hi h => h.elim (fun h => by omega) .inr
      have hz10 := hV10.size
      have hG10 : Glo ev w10 := hG1.updS hU10 hgM1 hgM2
      obtain ⟨X10, hX10⟩ : ∃ X : Array Value, X = (A1 ++ (([.int .i16 (rdInt .i16 2 s3).1, .pointer none, .int .i8 0, .string ByteArray.empty, .map none] : List Value) ++ B1)).toArray := ⟨_, rfl⟩
      have hxb10 : blk w10 R1 = some (X10, 109, (0, 0)) := by rw [hX10]; exact hx1_10
      have hXs10 : j1 * 5 + 5 ≤ X10.size := by rw [hX10]; simp only [List.size_toArray, List.length_append, List.length_cons, List.length_nil, hA1]; omega
      have hst : (rdF (rdP d ver true) ver true fAlterConfigsResponseResource_1 s4).2 = (rdNStr true s4).2 := by first | (rw [hrd]; rfl) | rw [hrd]
      obtain ⟨s5, hs5⟩ : ∃ s, s = (rdF (rdP d ver true) ver true fAlterConfigsResponseResource_1 s4).2 := ⟨_, rfl⟩
      rw [← hst, ← hs5] at hq10
      clear hst
      have hst10_1 : j1 * 5 + 2 ≤ X10.size := by omega
      repeat ((first | refine W.seqR rfl ?_ | refine W.seq ?_ | refine W.regR rfl ?_ | refine W.condK ?_ | refine W.block ?_ | refine W.skip ?_ | refine W.ret ?_ | refine W.exit ?_); try simp (maxSteps := 1000000) (disch := (first | omega | (simp only [World.size_alloc, size_wr, size_drew] <;> omega) | exact not_noB _)) only [go_sem, ↓reduceIte, n0, reduceCtorEq, n1, n2, n3, n4, n5, i0, i1, i2, i3, i4, i5, i6, i7, hxb10, hrc0_2, hrc0_7, hrc0_8, hrc0_9, hrc0_10, hrc0_14, hra0, hri0, exitRQ_ret, exitRQ_exit, Int.toNat_natCast, Nat.mul_one, hst10_1])
      generalize hw11 : wr w10 R1 (j1 * 5 + 1) [.pointer ap10] = w11
      have hS11 : Upd (fun b => b = R1 ∨ b = rb) w10 w11 := by rw [← hw11]; exact (Upd.refl _ _).wr _ _ (.inr (.inl rfl))
      have hx1_11 : blk w11 R1 = some ((A1 ++ (([.int .i16 (rdInt .i16 2 s3).1, .pointer ap10, .int .i8 0, .string ByteArray.empty, .map none] : List Value) ++ B1)).toArray, 109, (0, 0)) := by rw [← hw11]; exact el_blk (o := 1) hx1_10 hA1 (Nat.le_of_ble_eq_true rfl)
      have hV11 := hS11
      have hU11 : Upd (fun b => b = vb ∨ b = rb) w1 w11 := hU10.trans' hV11 fun i hi h => h.elim (fun h => by omega) .inr
      have hz11 := hV11.size
      have hG11 : Glo ev w11 := hG1.updS hU11 hgM1 hgM2
      have hq11 : Rdr RT ok w11 rb s5 ∧ NN w11 rb s5 := by
        have hn : ∀ x, x = w11 → (Rdr RT ok x rb s5 ∧ NN x rb s5) := fun x hx => by
          rw [hx, ← hw11]
          exact Rdr.store hq10 (by omega) (fun h => by have := (hok _ h).1; first | omega | exact (hok _ h).2 rfl)
        exact hn _ rfl
      obtain ⟨X11, hX11⟩ : ∃ X : Array Value, X = (A1 ++ (([.int .i16 (rdInt .i16 2 s3).1, .pointer ap10, .int .i8 0, .string ByteArray.empty, .map none] : List Value) ++ B1)).toArray := ⟨_, rfl⟩
      have hxb11 : blk w11 R1 = some (X11, 109, (0, 0)) := by rw [hX11]; exact hx1_11
      have hXs11 : j1 * 5 + 5 ≤ X11.size := by rw [hX11]; simp only [List.size_toArray, List.length_append, List.length_cons, List.length_nil, hA1]; omega
      clear hw11
      have hfe0_1 : RepF (RepS true d) (szS true d) fAlterConfigsResponseResource_1 (fun b => (ok b ∨ w1.heap.size ≤ b) ∧ ¬ ownB va0 b) w11 (xe0_1) [.pointer ap10] := (RepF_ptr rfl (by decide)).2 ⟨_, rfl, by rw [hxe0_1, hrd]; exact (hp10.weaken fun b _ hk => by have hk' : w9.heap.size ≤ b := hk; exact ⟨.inr (by omega), fun ho => by have := (hown1 _ ho).2; omega⟩).keep (hV11.keeps fun b _ hk e => hoM1 b hk e)⟩
      clear hrd
      have hbe0_2 : (rdL (rdP d ver true) (dfP d) ver true [fAlterConfigsResponseResource_2, fAlterConfigsResponseResource_3] s5).2 = none → FB := fun h => hbe0_1 (by rw [rdL_st (by decide) hhe0_1, ← hs5]; exact h)
      have hhe0_2 : hasS fAlterConfigsResponseResource_2 ver = true := hasS_t (by show (0 : Int) ≤ ver; omega) (by show (-1 : Int) < 0 ∨ ver ≤ (-1 : Int); omega)
      obtain ⟨xe0_2, hxe0_2⟩ : ∃ x, x = (rdF (rdP d ver true) ver true fAlterConfigsResponseResource_2 s5).1 := ⟨_, rfl⟩
      repeat ((first | refine W.seqR rfl ?_ | refine W.seq ?_ | refine W.regR rfl ?_ | refine W.condK ?_ | refine W.block ?_ | refine W.skip ?_ | refine W.ret ?_ | refine W.exit ?_); try simp (maxSteps := 1000000) (disch := (first | omega | (simp only [World.size_alloc, size_wr, size_drew] <;> omega) | exact not_noB _)) only [go_sem, ↓reduceIte, n0, reduceCtorEq, n1, n2, n3, n4, n5, i0, i1, i2, i3, i4, i5, i6, i7, hxb11, hrc0_2, hrc0_7, hrc0_8, hrc0_9, hrc0_10, hrc0_14, hra0, hri0, exitRQ_ret, exitRQ_exit, Int.toNat_natCast, Nat.mul_one])
      have hrd : rdF (rdP d ver true) ver true fAlterConfigsResponseResource_2 s5 = _ := rdF_num 1 rfl (by decide)
      refine (Int8_fn w11 hq11.1 hrok).mono ?_
      rintro _ w12 ⟨rfl, hq12, hu12⟩
      have hx1_12 := hu12.blk_some hx1_11 (by omega)
      have hV12 : Upd (fun b => b = R1 ∨ b = rb) w11 w12 := hu12.mono (fun _ h => .inr h)
      have hU12 : Upd (fun b => b = vb ∨ b = rb) w1 w12 := hU11.trans' hV12 fun i hi h => h.elim (fun h => by omega) .inr
      have hz12 := hV12.size
      have hG12 : Glo ev w12 := hG1.updS hU12 hgM1 hgM2
      obtain ⟨X12, hX12⟩ : ∃ X : Array Value, X = (A1 ++ (([.int .i16 (rdInt .i16 2 s3).1, .pointer ap10, .int .i8 0, .string ByteArray.empty, .map none] : List Value) ++ B1)).toArray := ⟨_, rfl⟩
      have hxb12 : blk w12 R1 = some (X12, 109, (0, 0)) := by rw [hX12]; exact hx1_12
      have hXs12 : j1 * 5 + 5 ≤ X12.size := by rw [hX12]; simp only [List.size_toArray, List.length_append, List.length_cons, List.length_nil, hA1]; omega
      have hst : (rdF (rdP d ver true) ver true fAlterConfigsResponseResource_2 s5).2 = (rdInt .i8 1 s5).2 := by first | (rw [hrd]; rfl) | rw [hrd]
      obtain ⟨s6, hs6⟩ : ∃ s, s = (rdF (rdP d ver true) ver true fAlterConfigsResponseResource_2 s5).2 := ⟨_, rfl⟩
      rw [← hst, ← hs6] at hq12
      clear hst
      have hst12_2 : j1 * 5 + 3 ≤ X12.size := by omega
      repeat ((first | refine W.seqR rfl ?_ | refine W.seq ?_ | refine W.regR rfl ?_ | refine W.condK ?_ | refine W.block ?_ | refine W.skip ?_ | refine W.ret ?_ | refine W.exit ?_); try simp (maxSteps := 1000000) (disch := (first | omega | (simp only [World.size_alloc, size_wr, size_drew] <;> omega) | exact not_noB _)) only [go_sem, ↓reduceIte, n0, reduceCtorEq, n1, n2, n3, n4, n5, i0, i1, i2, i3, i4, i5, i6, i7, hxb12, hrc0_2, hrc0_7, hrc0_8, hrc0_9, hrc0_10, hrc0_14, hra0, hri0, exitRQ_ret, exitRQ_exit, Int.toNat_natCast, Nat.mul_one, hst12_2])
      generalize hw13 : wr w12 R1 (j1 * 5 + 2) [.int .i8 (rdInt .i8 1 s5).1] = w13
      have hS13 : Upd (fun b => b = R1 ∨ b = rb) w12 w13 := by rw [← hw13]; exact (Upd.refl _ _).wr _ _ (.inr (.inl rfl))
      have hx1_13 : blk w13 R1 = some ((A1 ++ (([.int .i16 (rdInt .i16 2 s3).1, .pointer ap10, .int .i8 (rdInt .i8 1 s5).1, .string ByteArray.empty, .map none] : List Value) ++ B1)).toArray, 109, (0, 0)) := by rw [← hw13]; exact el_blk (o := 2) hx1_12 hA1 (Nat.le_of_ble_eq_true rfl)
      have hV13 := hS13
      have hU13 : Upd (fun b => b = vb ∨ b = rb) w1 w13 := hU12.trans' hV13 fun i hi h => h.elim (fun h => by omega) .inr
      have hz13 := hV13.size
      have hG13 : Glo ev w13 := hG1.updS hU13 hgM1 hgM2
      have hq13 : Rdr RT ok w13 rb s6 ∧ NN w13 rb s6 := by
        have hn : ∀ x, x = w13 → (Rdr RT ok x rb s6 ∧ NN x rb s6) := fun x hx => by
          rw [hx, ← hw13]
          exact Rdr.store hq12 (by omega) (fun h => by have := (hok _ h).1; first | omega | exact (hok _ h).2 rfl)
        exact hn _ rfl
      obtain ⟨X13, hX13⟩ : ∃ X : Array Value, X = (A1 ++ (([.int .i16 (rdInt .i16 2 s3).1, .pointer ap10, .int .i8 (rdInt .i8 1 s5).1, .string ByteArray.empty, .map none] : List Value) ++ B1)).toArray := ⟨_, rfl⟩
      have hxb13 : blk w13 R1 = some (X13, 109, (0, 0)) := by rw [hX13]; exact hx1_13
      have hXs13 : j1 * 5 + 5 ≤ X13.size := by rw [hX13]; simp only [List.size_toArray, List.length_append, List.length_cons, List.length_nil, hA1]; omega
      clear hw13
      have hfe0_2 : RepF (RepS true d) (szS true d) fAlterConfigsResponseResource_2 (fun b => (ok b ∨ w1.heap.size ≤ b) ∧ ¬ ownB va0 b) w13 (xe0_2) [.int .i8 (rdInt .i8 1 s5).1] := (RepF_num (by decide)).2 (by rw [hxe0_2, hrd]; exact congrArg (fun x => [x]) (numC_rd 1 (by decide) 1 s5).symm)
      clear hrd
      have hbe0_3 : (rdL (rdP d ver true) (dfP d) ver true [fAlterConfigsResponseResource_3] s6).2 = none → FB := fun h => hbe0_2 (by rw [rdL_st (by decide) hhe0_2, ← hs6]; exact h)
      have hhe0_3 : hasS fAlterConfigsResponseResource_3 ver = true := hasS_t (by show (0 : Int) ≤ ver; omega) (by show (-1 : Int) < 0 ∨ ver ≤ (-1 : Int); omega)
      obtain ⟨xe0_3, hxe0_3⟩ : ∃ x, x = (rdF (rdP d ver true) ver true fAlterConfigsResponseResource_3 s6).1 := ⟨_, rfl⟩
      repeat ((first | refine W.seqR rfl ?_ | refine W.seq ?_ | refine W.regR rfl ?_ | refine W.condK ?_ | refine W.block ?_ | refine W.skip ?_ | refine W.ret ?_ | refine W.exit ?_); try simp (maxSteps := 1000000) (disch := (first | omega | (simp only [World.size_alloc, size_wr, size_drew] <;> omega) | exact not_noB _)) only [go_sem, ↓reduceIte, n0, reduceCtorEq, n1, n2, n3, n4, n5, i0, i1, i2, i3, i4, i5, i6, i7, hxb13, hrc0_2, hrc0_7, hrc0_8, hrc0_9, hrc0_10, hrc0_14, hra0, hri0, exitRQ_ret, exitRQ_exit, Int.toNat_natCast, Nat.mul_one])
      have hmay : mayS fAlterConfigsResponseResource_3 ver = false := mayS_no (by show (-1 : Int) < 0 ∨ ver < (-1 : Int); omega)
      have hrd : rdF (rdP d ver true) ver true fAlterConfigsResponseResource_3 s6 = _ := rdF_text rfl hmay
      refine (RCompactString_fn w13 hq13.1 hrok hG13.1 hgrb).mono ?_
      rintro _ w14 ⟨rfl, hq14, hu14⟩
      have hx1_14 := hu14.blk_some hx1_13 (by omega)
      have hV14 : Upd (fun b => b = R1 ∨ b = rb) w13 w14 := hu14.mono (fun _ h => .inr h)
      have hU14 : Upd (fun b => b = vb ∨ b = rb) w1 w14 := hU13.trans' hV14 fun i hi h => h.elim (fun h => by omega) .inr
      have hz14 := hV14.size
      have hG14 : Glo ev w14 := hG1.updS hU14 hgM1 hgM2
      obtain ⟨X14, hX14⟩ : ∃ X : Array Value, X = (A1 ++ (([.int .i16 (rdInt .i16 2 s3).1, .pointer ap10, .int .i8 (rdInt .i8 1 s5).1, .string ByteArray.empty, .map none] : List Value) ++ B1)).toArray := ⟨_, rfl⟩
      have hxb14 : blk w14 R1 = some (X14, 109, (0, 0)) := by rw [hX14]; exact hx1_14
      have hXs14 : j1 * 5 + 5 ≤ X14.size := by rw [hX14]; simp only [List.size_toArray, List.length_append, List.length_cons, List.length_nil, hA1]; omega
      have hst : (rdF (rdP d ver true) ver true fAlterConfigsResponseResource_3 s6).2 = (rdStr true s6).2 := by first | (rw [hrd]; rfl) | rw [hrd]
      obtain ⟨s7, hs7⟩ : ∃ s, s = (rdF (rdP d ver true) ver true fAlterConfigsResponseResource_3 s6).2 := ⟨_, rfl⟩
      rw [← hst, ← hs7] at hq14
      clear hst
      have hst14_3 : j1 * 5 + 4 ≤ X14.size := by omega
      repeat ((first | refine W.seqR rfl ?_ | refine W.seq ?_ | refine W.regR rfl ?_ | refine W.condK ?_ | refine W.block ?_ | refine W.skip ?_ | refine W.ret ?_ | refine W.exit ?_); try simp (maxSteps := 1000000) (disch := (first | omega | (simp only [World.size_alloc, size_wr, size_drew] <;> omega) | exact not_noB _)) only [go_sem, ↓reduceIte, n0, reduceCtorEq, n1, n2, n3, n4, n5, i0, i1, i2, i3, i4, i5, i6, i7, hxb14, hrc0_2, hrc0_7, hrc0_8, hrc0_9, hrc0_10, hrc0_14, hra0, hri0, exitRQ_ret, exitRQ_exit, Int.toNat_natCast, Nat.mul_one, hst14_3])
      generalize hw15 : wr w14 R1 (j1 * 5 + 3) [strV (rdStr true s6).1] = w15
      have hS15 : Upd (fun b => b = R1 ∨ b = rb) w14 w15 := by rw [← hw15]; exact (Upd.refl _ _).wr _ _ (.inr (.inl rfl))
      have hx1_15 : blk w15 R1 = some ((A1 ++ (([.int .i16 (rdInt .i16 2 s3).1, .pointer ap10, .int .i8 (rdInt .i8 1 s5).1, strV (rdStr true s6).1, .map none] : List Value) ++ B1)).toArray, 109, (0, 0)) := by rw [← hw15]; exact el_blk (o := 3) hx1_14 hA1 (Nat.le_of_ble_eq_true rfl)
      have hV15 := hS15
      have hU15 : Upd (fun b => b = vb ∨ b = rb) w1 w15 := hU14.trans' hV15 fun i hi h => h.elim (fun h => by omega) .inr
      have hz15 := hV15.size
      have hG15 : Glo ev w15 := hG1.updS hU15 hgM1 hgM2
      have hq15 : Rdr RT ok w15 rb s7 ∧ NN w15 rb s7 := by
        have hn : ∀ x, x = w15 → (Rdr RT ok x rb s7 ∧ NN x rb s7) := fun x hx => by
          rw [hx, ← hw15]
          exact Rdr.store hq14 (by omega) (fun h => by have := (hok _ h).1; first | omega | exact (hok _ h).2 rfl)
        exact hn _ rfl
      obtain ⟨X15, hX15⟩ : ∃ X : Array Value, X = (A1 ++ (([.int .i16 (rdInt .i16 2 s3).1, .pointer ap10, .int .i8 (rdInt .i8 1 s5).1, strV (rdStr true s6).1, .map none] : List Value) ++ B1)).toArray := ⟨_, rfl⟩
      have hxb15 : blk w15 R1 = some (X15, 109, (0, 0)) := by rw [hX15]; exact hx1_15
      have hXs15 : j1 * 5 + 5 ≤ X15.size := by rw [hX15]; simp only [List.size_toArray, List.length_append, List.length_cons, List.length_nil, hA1]; omega
      clear hw15
      have hfe0_3 : RepF (RepS true d) (szS true d) fAlterConfigsResponseResource_3 (fun b => (ok b ∨ w1.heap.size ≤ b) ∧ ¬ ownB va0 b) w15 (xe0_3) [strV (rdStr true s6).1] := (RepF_text rfl (by decide)).2 (by rw [hxe0_3, hrd]; rfl)
      clear hrd
      have hle0_4 : rdL (rdP d ver true) (dfP d) ver true [] s7 = ([], s7) := rfl
      have hle0_3 : rdL (rdP d ver true) (dfP d) ver true [fAlterConfigsResponseResource_3] s6 = ([xe0_3], s7) := by rw [rdL_st (by decide) hhe0_3, ← hxe0_3, ← hs7, hle0_4]
      have hle0_2 : rdL (rdP d ver true) (dfP d) ver true [fAlterConfigsResponseResource_2, fAlterConfigsResponseResource_3] s5 = ([xe0_2, xe0_3], s7) := by rw [rdL_st (by decide) hhe0_2, ← hxe0_2, ← hs6, hle0_3]
      have hle0_1 : rdL (rdP d ver true) (dfP d) ver true [fAlterConfigsResponseResource_1, fAlterConfigsResponseResource_2, fAlterConfigsResponseResource_3] s4 = ([xe0_1, xe0_2, xe0_3], s7) := by rw [rdL_st (by decide) hhe0_1, ← hxe0_1, ← hs5, hle0_2]
      have hle0_0 : rdL (rdP d ver true) (dfP d) ver true [fAlterConfigsResponseResource_0, fAlterConfigsResponseResource_1, fAlterConfigsResponseResource_2, fAlterConfigsResponseResource_3] s3 = ([xe0_0, xe0_1, xe0_2, xe0_3], s7) := by rw [rdL_st (by decide) hhe0_0, ← hxe0_0, ← hs4, hle0_1]
      have hfine0 : rdP (d + 1) ver true fs_AlterConfigsResponseResource s3 = (.mk 0 [] false [xe0_0, xe0_1, xe0_2, xe0_3] (rdTags s7).1, (rdTags s7).2) := rdP_t hle0_0
      repeat ((first | refine W.seqR rfl ?_ | refine W.seq ?_ | refine W.regR rfl ?_ | refine W.condK ?_ | refine W.block ?_ | refine W.skip ?_ | refine W.ret ?_ | refine W.exit ?_); try simp (maxSteps := 1000000) (disch := (first | omega | (simp only [World.size_alloc, size_wr, size_drew] <;> omega) | exact not_noB _)) only [go_sem, ↓reduceIte, n0, reduceCtorEq, n1, n2, n3, n4, n5, i0, i1, i2, i3, i4, i5, i6, i7, hxb15, hrc0_2, hrc0_7, hrc0_8, hrc0_9, hrc0_10, hrc0_14, hra0, hri0, exitRQ_ret, exitRQ_exit, Int.toNat_natCast, Nat.mul_one])
      refine (ReadTags_fn w15 hq15.1 hrok).mono ?_
      rintro _ w16 ⟨qme0, rfl, hT16, hTn, hq16, hu16⟩
      have hx1_16 := hu16.blk_some hx1_15 (by omega)
      have hV16 : Upd (fun b => b = R1 ∨ b = rb) w15 w16 := hu16.mono (fun _ h => .inr h)
      have hU16 : Upd (fun b => b = vb ∨ b = rb) w1 w16 := hU15.trans' hV16 fun i hi h => h.elim (fun h => by omega) .inr
      have hz16 := hV16.size
      have hG16 : Glo ev w16 := hG1.updS hU16 hgM1 hgM2
      obtain ⟨X16, hX16⟩ : ∃ X : Array Value, X = (A1 ++ (([.int .i16 (rdInt .i16 2 s3).1, .pointer ap10, .int .i8 (rdInt .i8 1 s5).1, strV (rdStr true s6).1, .map none] : List Value) ++ B1)).toArray := ⟨_, rfl⟩
      have hxb16 : blk w16 R1 = some (X16, 109, (0, 0)) := by rw [hX16]; exact hx1_16
      have hXs16 : j1 * 5 + 5 ≤ X16.size := by rw [hX16]; simp only [List.size_toArray, List.length_append, List.length_cons, List.length_nil, hA1]; omega
      obtain ⟨s8, hs8⟩ : ∃ s, s = (rdTags s7).2 := ⟨_, rfl⟩
      rw [← hs8] at hq16 hfine0
      have hst16_4 : j1 * 5 + 5 ≤ X16.size := by omega
      try simp (maxSteps := 1000000) (disch := (first | omega | (simp only [World.size_alloc, size_wr, size_drew] <;> omega) | exact not_noB _)) only [go_sem, ↓reduceIte, n0, reduceCtorEq, n1, n2, n3, n4, n5, i0, i1, i2, i3, i4, i5, i6, i7, hxb16, hrc0_2, hrc0_7, hrc0_8, hrc0_9, hrc0_10, hrc0_14, hra0, hri0, exitRQ_ret, exitRQ_exit, Int.toNat_natCast, Nat.mul_one, hst16_4]
      repeat ((first | refine W.seqR rfl ?_ | refine W.seq ?_ | refine W.regR rfl ?_ | refine W.condK ?_ | refine W.block ?_ | refine W.skip ?_ | refine W.ret ?_ | refine W.exit ?_); try simp (maxSteps := 1000000) (disch := (first | omega | (simp only [World.size_alloc, size_wr, size_drew] <;> omega) | exact not_noB _)) only [go_sem, ↓reduceIte, n0, reduceCtorEq, n1, n2, n3, n4, n5, i0, i1, i2, i3, i4, i5, i6, i7, hxb16, hrc0_2, hrc0_7, hrc0_8, hrc0_9, hrc0_10, hrc0_14, hra0, hri0, exitRQ_ret, exitRQ_exit, Int.toNat_natCast, Nat.mul_one, hst16_4])
      generalize hw17 : wr w16 R1 (j1 * 5 + 4) [.map qme0] = w17
      have hS17 : Upd (fun b => b = R1 ∨ b = rb) w16 w17 := by rw [← hw17]; exact (Upd.refl _ _).wr _ _ (.inr (.inl rfl))
      have hx1_17 : blk w17 R1 = some ((A1 ++ (([.int .i16 (rdInt .i16 2 s3).1, .pointer ap10, .int .i8 (rdInt .i8 1 s5).1, strV (rdStr true s6).1, .map qme0] : List Value) ++ B1)).toArray, 109, (0, 0)) := by rw [← hw17]; exact el_blk (o := 4) hx1_16 hA1 (Nat.le_of_ble_eq_true rfl)
      have hV17 := hS17
      have hU17 : Upd (fun b => b = vb ∨ b = rb) w1 w17 := hU16.trans' hV17 fun i hi h => h.elim (fun h => by omega) .inr
      have hz17 := hV17.size
      have hG17 : Glo ev w17 := hG1.updS hU17 hgM1 hgM2
      have hq17 : Rdr RT ok w17 rb s8 ∧ NN w17 rb s8 := by
        have hn : ∀ x, x = w17 → (Rdr RT ok x rb s8 ∧ NN x rb s8) := fun x hx => by
          rw [hx, ← hw17]
          exact Rdr.store hq16 (by omega) (fun h => by have := (hok _ h).1; first | omega | exact (hok _ h).2 rfl)
        exact hn _ rfl
      obtain ⟨X17, hX17⟩ : ∃ X : Array Value, X = (A1 ++ (([.int .i16 (rdInt .i16 2 s3).1, .pointer ap10, .int .i8 (rdInt .i8 1 s5).1, strV (rdStr true s6).1, .map qme0] : List Value) ++ B1)).toArray := ⟨_, rfl⟩
      have hxb17 : blk w17 R1 = some (X17, 109, (0, 0)) := by rw [hX17]; exact hx1_17
      have hXs17 : j1 * 5 + 5 ≤ X17.size := by rw [hX17]; simp only [List.size_toArray, List.length_append, List.length_cons, List.length_nil, hA1]; omega
      clear hw17
      have hTge0 : TagsM (fun b => (ok b ∨ w1.heap.size ≤ b) ∧ ¬ ownB va0 b) w17 (.map qme0) (rdTags s7).1 := (hT16.weaken fun b _ hk => hk.elim (fun hk => ⟨.inl hk, fun ho => by have := (hown1 b ho).1; have := (hok b hk).1; omega⟩) (fun h => by have h' : w15.heap.size ≤ b := h; exact ⟨.inr (by omega), fun ho => by have := (hown1 _ ho).2; omega⟩)).keep (hV17.keeps fun b _ hk e => hoM1 b hk e)
      have hCe0_17 : Upd (fun b => b = R1 ∨ b = rb) w17 w17 := Upd.refl _ _
      have hCe0_16 : Upd (fun b => b = R1 ∨ b = rb) w16 w17 := hV17.trans hCe0_17
      have hCe0_15 : Upd (fun b => b = R1 ∨ b = rb) w15 w17 := hV16.trans hCe0_16
      have hCe0_14 : Upd (fun b => b = R1 ∨ b = rb) w14 w17 := hV15.trans hCe0_15
      have hCe0_13 : Upd (fun b => b = R1 ∨ b = rb) w13 w17 := hV14.trans hCe0_14
      have hCe0_12 : Upd (fun b => b = R1 ∨ b = rb) w12 w17 := hV13.trans hCe0_13
      have hCe0_11 : Upd (fun b => b = R1 ∨ b = rb) w11 w17 := hV12.trans hCe0_12
      have hCe0_10 : Upd (fun b => b = R1 ∨ b = rb) w10 w17 := hV11.trans hCe0_11
      have hCe0_9 : Upd (fun b => b = R1 ∨ b = rb) w9 w17 := hV10.trans hCe0_10
      have hCe0_8 : Upd (fun b => b = R1 ∨ b = rb) w8 w17 := hV9.trans hCe0_9
      have hCe0_7 : Upd (fun b => b = R1 ∨ b = rb) w7 w17 := hV8.trans hCe0_8
      have hCe0_6 : Upd (fun b => b = R1 ∨ b = rb) w6 w17 := hV7.trans hCe0_7
      have hRe0 : RepS true (d + 1) fs_AlterConfigsResponseResource (fun b => (ok b ∨ w1.heap.size ≤ b) ∧ ¬ ownB va0 b) w17 (.mk 0 [] false [xe0_0, xe0_1, xe0_2, xe0_3] (rdTags s7).1) [.int .i16 (rdInt .i16 2 s3).1, .pointer ap10, .int .i8 (rdInt .i8 1 s5).1, strV (rdStr true s6).1, .map qme0] := RepS.introT (c := [.int .i16 (rdInt .i16 2 s3).1, .pointer ap10, .int .i8 (rdInt .i8 1 s5).1, strV (rdStr true s6).1]) (RepL.cons1 (hfe0_0.keepS (hCe0_9.keeps fun b _ hk e => hoM1 b hk e)) (RepL.cons1 (hfe0_1.keepS (hCe0_11.keeps fun b _ hk e => hoM1 b hk e)) (RepL.cons1 (hfe0_2.keepS (hCe0_13.keeps fun b _ hk e => hoM1 b hk e)) (RepL.cons1 (hfe0_3.keepS (hCe0_15.keeps fun b _ hk e => hoM1 b hk e)) RepL.nil)))) hTge0
      have hrE : (rd1 (rdP (d + 1) ver true) fAlterConfigsResponse_1.of fAlterConfigsResponse_1.sub false true) s3 = ((.mk 0 [] false [xe0_0, xe0_1, xe0_2, xe0_3] (rdTags s7).1), s8) := by rw [show (rd1 (rdP (d + 1) ver true) fAlterConfigsResponse_1.of fAlterConfigsResponse_1.sub false true) s3 = _ from rd1_part]; exact hfine0
      have hxE : (Rep1 (RepS true (d + 1)) fAlterConfigsResponse_1.of fAlterConfigsResponse_1.sub) (fun b => (ok b ∨ w1.heap.size ≤ b) ∧ ¬ ownB va0 b) w17 (.mk 0 [] false [xe0_0, xe0_1, xe0_2, xe0_3] (rdTags s7).1) [.int .i16 (rdInt .i16 2 s3).1, .pointer ap10, .int .i8 (rdInt .i8 1 s5).1, strV (rdStr true s6).1, .map qme0] := Rep1_part.2 hRe0
      repeat ((first | refine W.seqR rfl ?_ | refine W.seq ?_ | refine W.regR rfl ?_ | refine W.condK ?_ | refine W.block ?_ | refine W.skip ?_ | refine W.ret ?_ | refine W.exit ?_); try simp (maxSteps := 1000000) (disch := (first | omega | (simp only [World.size_alloc, size_wr, size_drew] <;> omega) | exact not_noB _)) only [go_sem, ↓reduceIte, n0, reduceCtorEq, n1, n2, n3, n4, n5, i0, i1, i2, i3, i4, i5, i6, i7, hxb17, hrc0_2, hrc0_7, hrc0_8, hrc0_9, hrc0_10, hrc0_14, hra0, hri0, exitRQ_ret, exitRQ_exit, Int.toNat_natCast, Nat.mul_one])
      have hTk : Upd (fun b => b = R1 ∨ b = rb) w6 w17 := ((((((((((hV7.trans hV8).trans hV9).trans hV10).trans hV11).trans hV12).trans hV13).trans hV14).trans hV15).trans hV16).trans hV17)
      have hL' := hL0.step (Rep1_lay _ _ fun _ => RepS_lay true _ _) hlt0 (hnext1 w17 [.int .i16 (rdInt .i16 2 s3).1, .pointer ap10, .int .i8 (rdInt .i8 1 s5).1, strV (rdStr true s6).1, .map qme0] rfl hx1_17) (by rw [hrE]; exact hxE) (hTk.mono fun b h => h.imp (fun e => ⟨_, _, _, hva1, e⟩) id) (by rw [hrE]; exact hq17) (fun h => hoM rb h (.inr rfl)) (Nat.le_refl _)
      have hij : IntKind.i32.wrap ((j1 : Int) + 1) = ((j1 + 1 : Nat) : Int) := by rw [i32_wrap (by omega)]; omega
      repeat ((first | refine W.seqR rfl ?_ | refine W.seq ?_ | refine W.regR rfl ?_ | refine W.condK ?_ | refine W.block ?_ | refine W.skip ?_ | refine W.ret ?_ | refine W.exit ?_); try simp (maxSteps := 1000000) (disch := (first | omega | (simp only [World.size_alloc, size_wr, size_drew] <;> omega) | exact not_noB _)) only [go_sem, ↓reduceIte, n0, reduceCtorEq, n1, n2, n3, n4, n5, i0, i1, i2, i3, i4, i5, i6, i7, hxb17, hrc0_2, hrc0_7, hrc0_8, hrc0_9, hrc0_10, hrc0_14, hra0, hri0, exitRQ_ret, exitRQ_exit, Int.toNat_natCast, Nat.mul_one, hij])
      refine ⟨⟨(by simp (maxSteps := 1000000) (disch := (first | omega | (simp only [World.size_alloc, size_wr, size_drew] <;> omega) | exact not_noB _)) only [go_sem, ↓reduceIte, n0, reduceCtorEq, n1, n2, n3, n4, n5, i0, i1, i2, i3, i4, i5, i6, i7, Holds_nil, Holds_cons, hrc0_2, hrc0_7, hrc0_8, hrc0_9, hrc0_10, hrc0_14, hra0, hri0]; exact hva1.symm), j1 + 1, (by simp (maxSteps := 1000000) (disch := (first | omega | (simp only [World.size_alloc, size_wr, size_drew] <;> omega) | exact not_noB _)) only [go_sem, ↓reduceIte, n0, reduceCtorEq, n1, n2, n3, n4, n5, i0, i1, i2, i3, i4, i5, i6, i7, hrc0_2, hrc0_7, hrc0_8, hrc0_9, hrc0_10, hrc0_14, hra0, hri0, hij]; all_goals rfl), _, _, _, hL'⟩, ?_⟩
      try simp (maxSteps := 1000000) (disch := (first | omega | (simp only [World.size_alloc, size_wr, size_drew] <;> omega) | exact not_noB _)) only [go_sem, ↓reduceIte, n0, reduceCtorEq, n1, n2, n3, n4, n5, i0, i1, i2, i3, i4, i5, i6, i7, hrc0_2, hrc0_7, hrc0_8, hrc0_9, hrc0_10, hrc0_14, hra0, hri0]
      simp only [RowKit.intOf]
      omega
    · have hjN : j1 = N0 := by omega
      rw [hjN] at hL0
      repeat ((first | refine W.seqR rfl ?_ | refine W.seq ?_ | refine W.regR rfl ?_ | refine W.condK ?_ | refine W.block ?_ | refine W.skip ?_ | refine W.ret ?_ | refine W.exit ?_); try simp (maxSteps := 1000000) (disch := (first | omega | (simp only [World.size_alloc, size_wr, size_drew] <;> omega) | exact not_noB _)) only [go_sem, ↓reduceIte, n0, reduceCtorEq, n1, n2, n3, n4, n5, i0, i1, i2, i3, i4, i5, i6, i7, hrc0_2, hrc0_7, hrc0_8, hrc0_9, hrc0_10, hrc0_14, hrc0_13, hri0, exitRQ_ret, exitRQ_exit])
      exact ⟨(by simp (maxSteps := 1000000) (disch := (first | omega | (simp only [World.size_alloc, size_wr, size_drew] <;> omega) | exact not_noB _)) only [go_sem, ↓reduceIte, n0, reduceCtorEq, n1, n2, n3, n4, n5, i0, i1, i2, i3, i4, i5, i6, i7, Holds_nil, Holds_cons, hrc0_2, hrc0_7, hrc0_8, hrc0_9, hrc0_10, hrc0_14, hrc0_13, hri0]), s3, xs0, css0, hL0⟩
  rintro ρ w18 ⟨⟨hrd0_2, hrd0_7, hrd0_8, hrd0_9, hrd0_10, hrd0_14, hrd0_13, -⟩, s9, xs0, css0, hL0⟩
  have hq18 := hL0.rd
  have hu18 := hL0.upd
  have hv_18 := hu18.blk_some hv_4 (by omega)
  have hV18 : Upd (fun b => b = vb ∨ b = rb) w4 w18 := hu18.mono (fun _ h => .inr h)
  have hU18 : Upd (fun b => b = vb ∨ b = rb) w1 w18 := hU4.trans hV18
  have hz18 := hV18.size
  have hG18 : Glo ev w18 := hG1.updS hU18 hgM1 hgM2
  have hrd0 : rdF (rdP (d + 1) ver true) ver true fAlterConfigsResponse_1 s1 = (.mk 0 [] (nilS fAlterConfigsResponse_1 ver y0) xs0 [], s9) := by
    have h := rdF_listE (pt := (rdP (d + 1) ver true)) (v := ver) (flex := true) (f := fAlterConfigsResponse_1) (s := s1) (xs := xs0) (e := s9) rfl (by rw [hy0, ← hN0, ← hs2]; exact hL0.done)
    rw [hy0] at h; exact h
  have hs9 : s9 = (rdF (rdP (d + 1) ver true) ver true fAlterConfigsResponse_1 s1).2 := by rw [hrd0]
  obtain ⟨aa0, qq0, hvs0⟩ := hL0.row.shape
  subst hvs0
  repeat ((first | refine W.seqR rfl ?_ | refine W.seq ?_ | refine W.regR rfl ?_ | refine W.condK ?_ | refine W.block ?_ | refine W.skip ?_ | refine W.ret ?_ | refine W.exit ?_); try simp (maxSteps := 1000000) (disch := (first | omega | (simp only [World.size_alloc, size_wr, size_drew] <;> omega) | exact not_noB _)) only [go_sem, ↓reduceIte, n0, reduceCtorEq, n1, n2, n3, n4, n5, i0, i1, i2, i3, i4, i5, i6, i7, hv_18, hrd0_2, hrd0_7, hrd0_8, hrd0_9, hrd0_10, hrd0_14, hrd0_13])
  generalize hw19 : wr w18 vb 2 [.slice aa0 N0 qq0] = w19
  have hS19 : Upd (fun b => b = vb ∨ b = rb) w18 w19 := by rw [← hw19]; exact (Upd.refl _ _).wr _ _ (.inr (.inl rfl))
  have hv_19 : blk w19 vb = some (#[.int .i16 ver, .int .i32 (rdInt .i32 4 s0).1, .slice aa0 N0 qq0, .map none], 104, (0, 0)) := by rw [← hw19, blk_wr_eq, hv_18]; rfl
  have hV19 := hS19
  have hU19 : Upd (fun b => b = vb ∨ b = rb) w1 w19 := hU18.trans hV19
  have hz19 := hV19.size
  have hG19 : Glo ev w19 := hG1.updS hU19 hgM1 hgM2
  have hq19 : Rdr RT ok w19 rb s9 ∧ NN w19 rb s9 := by
    have hn : ∀ x, x = w19 → (Rdr RT ok x rb s9 ∧ NN x rb s9) := fun x hx => by
      rw [hx, ← hw19]
      exact Rdr.store hq18 (by omega) (fun h => by have := (hok _ h).1; first | omega | exact (hok _ h).2 rfl)
    exact hn _ rfl
  clear hw19
  have hf_1 : RepF (RepS true (d + 1)) (szS true (d + 1)) fAlterConfigsResponse_1 (fun b => ok b ∨ w1.heap.size ≤ b) w19 (x_1) [.slice aa0 N0 qq0] := by rw [hx_1, hrd0]; exact RepF.keepS (RepF_row rfl hnc0 hN0 rfl hL0.row hL0.all (fun b hb => .inr (by omega))) (hV19.keeps fun b _ hk e => (hoM b hk) e)
  clear hL0 hnc0
  have hl_2 : rdL (rdP (d + 1) ver true) (dfP (d + 1)) ver true [] s9 = ([], s9) := rfl
  have hl_1 : rdL (rdP (d + 1) ver true) (dfP (d + 1)) ver true [fAlterConfigsResponse_1] s1 = ([x_1], s9) := by rw [rdL_st (by decide) hh_1, ← hx_1, ← hs9, hl_2]
  have hl_0 : rdL (rdP (d + 1) ver true) (dfP (d + 1)) ver true [fAlterConfigsResponse_0, fAlterConfigsResponse_1] s0 = ([x_0, x_1], s9) := by rw [rdL_st (by decide) hh_0, ← hx_0, ← hs1, hl_1]
  have hfin : rdP (d + 2) ver true fs_AlterConfigsResponse s0 = (.mk 0 [] false [x_0, x_1] (rdTags s9).1, (rdTags s9).2) := rdP_t hl_0
  repeat ((first | refine W.seqR rfl ?_ | refine W.seq ?_ | refine W.regR rfl ?_ | refine W.condK ?_ | refine W.block ?_ | refine W.skip ?_ | refine W.ret ?_ | refine W.exit ?_); try simp (maxSteps := 1000000) (disch := (first | omega | (simp only [World.size_alloc, size_wr, size_drew] <;> omega) | exact not_noB _)) only [go_sem, ↓reduceIte, n0, reduceCtorEq, n1, n2, n3, n4, n5, i0, i1, i2, i3, i4, i5, i6, i7, hv_19, hrd0_2, hrd0_7, hrd0_8, hrd0_9, hrd0_10, hrd0_14, hrd0_13])
  refine (ReadTags_fn w19 hq19.1 hrok).mono ?_
  rintro _ w20 ⟨qm, rfl, hT20, hTn, hq20, hu20⟩
  have hv_20 := hu20.blk_some hv_19 (by omega)
  have hV20 : Upd (fun b => b = vb ∨ b = rb) w19 w20 := hu20.mono (fun _ h => .inr h)
  have hU20 : Upd (fun b => b = vb ∨ b = rb) w1 w20 := hU19.trans hV20
  have hz20 := hV20.size
  have hG20 : Glo ev w20 := hG1.updS hU20 hgM1 hgM2
  obtain ⟨s10, hs10⟩ : ∃ s, s = (rdTags s9).2 := ⟨_, rfl⟩
  rw [← hs10] at hq20 hfin
  try simp (maxSteps := 1000000) (disch := (first | omega | (simp only [World.size_alloc, size_wr, size_drew] <;> omega) | exact not_noB _)) only [go_sem, ↓reduceIte, n0, reduceCtorEq, n1, n2, n3, n4, n5, i0, i1, i2, i3, i4, i5, i6, i7, hv_20, hrd0_2, hrd0_7, hrd0_8, hrd0_9, hrd0_10, hrd0_14, hrd0_13]
  repeat ((first | refine W.seqR rfl ?_ | refine W.seq ?_ | refine W.regR rfl ?_ | refine W.condK ?_ | refine W.block ?_ | refine W.skip ?_ | refine W.ret ?_ | refine W.exit ?_); try simp (maxSteps := 1000000) (disch := (first | omega | (simp only [World.size_alloc, size_wr, size_drew] <;> omega) | exact not_noB _)) only [go_sem, ↓reduceIte, n0, reduceCtorEq, n1, n2, n3, n4, n5, i0, i1, i2, i3, i4, i5, i6, i7, hv_20, hrd0_2, hrd0_7, hrd0_8, hrd0_9, hrd0_10, hrd0_14, hrd0_13])
  generalize hw21 : wr w20 vb 3 [.map qm] = w21
  have hS21 : Upd (fun b => b = vb ∨ b = rb) w20 w21 := by rw [← hw21]; exact (Upd.refl _ _).wr _ _ (.inr (.inl rfl))
  have hv_21 : blk w21 vb = some (#[.int .i16 ver, .int .i32 (rdInt .i32 4 s0).1, .slice aa0 N0 qq0, .map qm], 104, (0, 0)) := by rw [← hw21, blk_wr_eq, hv_20]; rfl
  have hV21 := hS21
  have hU21 : Upd (fun b => b = vb ∨ b = rb) w1 w21 := hU20.trans hV21
  have hz21 := hV21.size
  have hG21 : Glo ev w21 := hG1.updS hU21 hgM1 hgM2
  have hq21 : Rdr RT ok w21 rb s10 ∧ NN w21 rb s10 := by
    have hn : ∀ x, x = w21 → (Rdr RT ok x rb s10 ∧ NN x rb s10) := fun x hx => by
      rw [hx, ← hw21]
      exact Rdr.store hq20 (by omega) (fun h => by have := (hok _ h).1; first | omega | exact (hok _ h).2 rfl)
    exact hn _ rfl
  clear hw21
  have hTg : TagsM (fun b => ok b ∨ w1.heap.size ≤ b) w21 (.map qm) (rdTags s9).1 := (hT20.weaken fun b _ hk => hk.elim (fun hk => .inl hk) (fun h => by have h' : w19.heap.size ≤ b := h; exact .inr (by omega))).keep (hV21.keeps fun b _ hk e => (hoM b hk) e)
  have hC_21 : Upd (fun b => b = vb ∨ b = rb) w21 w21 := Upd.refl _ _
  have hC_20 : Upd (fun b => b = vb ∨ b = rb) w20 w21 := hV21.trans hC_21
  have hC_19 : Upd (fun b => b = vb ∨ b = rb) w19 w21 := hV20.trans hC_20
  have hC_18 : Upd (fun b => b = vb ∨ b = rb) w18 w21 := hV19.trans hC_19
  have hC_4 : Upd (fun b => b = vb ∨ b = rb) w4 w21 := hV18.trans hC_18
  have hC_3 : Upd (fun b => b = vb ∨ b = rb) w3 w21 := hV4.trans hC_4
  have hC_2 : Upd (fun b => b = vb ∨ b = rb) w2 w21 := hV3.trans hC_3
  have hC_1 : Upd (fun b => b = vb ∨ b = rb) w1 w21 := hV2.trans hC_2
  have hR : RepS true (d + 2) fs_AlterConfigsResponse (fun b => ok b ∨ w1.heap.size ≤ b) w21 (.mk 0 [] false [x_0, x_1] (rdTags s9).1) [.int .i32 (rdInt .i32 4 s0).1, .slice aa0 N0 qq0, .map qm] := RepS.introT (c := [.int .i32 (rdInt .i32 4 s0).1, .slice aa0 N0 qq0]) (RepL.cons1 (hf_0.keepS (hC_3.keeps fun b _ hk e => (hoM b hk) e)) (RepL.cons1 (hf_1.keepS (hC_19.keeps fun b _ hk e => (hoM b hk) e)) RepL.nil)) hTg
  repeat ((first | refine W.seqR rfl ?_ | refine W.seq ?_ | refine W.regR rfl ?_ | refine W.condK ?_ | refine W.block ?_ | refine W.skip ?_ | refine W.ret ?_ | refine W.exit ?_); try simp (maxSteps := 1000000) (disch := (first | omega | (simp only [World.size_alloc, size_wr, size_drew] <;> omega) | exact not_noB _)) only [go_sem, ↓reduceIte, n0, reduceCtorEq, n1, n2, n3, n4, n5, i0, i1, i2, i3, i4, i5, i6, i7, hv_21, hrd0_2, hrd0_7, hrd0_8, hrd0_9, hrd0_10, hrd0_14, hrd0_13])
  refine (RComplete_fn w21 hq21.1 hG21.2).mono ?_
  rintro _ wz ⟨rfl, hez⟩
  rw [hez]
  repeat ((first | refine W.seqR rfl ?_ | refine W.seq ?_ | refine W.regR rfl ?_ | refine W.condK ?_ | refine W.block ?_ | refine W.skip ?_ | refine W.ret ?_ | refine W.exit ?_); try simp (maxSteps := 1000000) (disch := (first | omega | (simp only [World.size_alloc, size_wr, size_drew] <;> omega) | exact not_noB _)) only [go_sem, ↓reduceIte, n0, reduceCtorEq, n1, n2, n3, n4, n5, i0, i1, i2, i3, i4, i5, i6, i7, hv_21, hrd0_2, hrd0_7, hrd0_8, hrd0_9, hrd0_10, hrd0_14, hrd0_13])
  rw [hfin]
  refine ⟨fun h => ?_, fun h => ⟨?_, [.int .i32 (rdInt .i32 4 s0).1, .slice aa0 N0 qq0, .map qm], hv_21, ?_⟩, ?_⟩
  · have h' : s10 = none := h
    rw [h']; rfl
  · cases hsn : s10 with
    | none => exact absurd hsn h
    | some x => rfl
  · exact (RepS_lay true (d + 2) fs_AlterConfigsResponse).weaken hR fun b _ hk => hk.imp id fun h => by omega
  · exact hbase.trans' hU21 fun i hi h => h.elim id fun h => by omega
end Ms

namespace Ms
open Nat renaming reduceEqDiff → n0, reduceAdd → n1, reduceMul → n2, reduceSub → n3, reduceLT → n4, reduceLeDiff → n5
open Int renaming reduceEq → i0, reduceLT → i1, reduceLE → i2, reduceNeg → i3, reduceAdd → i4, reduceSub → i5, reduceMul → i6, reduceToNat → i7
set_option maxRecDepth 8000
open Go Go.Proofs Go.Shelf
attribute [local congr] W_congr WPsq_congr WPp_congr optK_congr addrK_congr intK_congr boolK_congr sliceK_congr tupleK_congr funcK_congr Fn_congr rawK_congr takeK_congr stepK_congr convK_congr aggK_congr

theorem ReadFromAlterConfigsResponse_fn {d : Nat} {ok : Blocks} {ver : Int} {ev : Value} (hlo : 0 ≤ ver) (hhi : ver ≤ 2) (w : World) {vb : Nat} (src : Value) (s : List UInt8) (hv : blk w vb = some (#[.int .i16 ver, .int .i32 0, .slice none 0 0, .map none], 104, (0, 0))) (hsrc : BytesV ok w src s) (hok0 : ∀ b, ok b → b < w.heap.size ∧ b ≠ vb) (hG : Glo ev w) (hgv : ¬ 0 = vb ∧ ¬ 1 = vb) :
    Fn Tryz.prog 57 #[.pointer (some ⟨vb, 0, none⟩), src] w (ReadQ 104 ok ver (d + 2) fs_AlterConfigsResponse vb w (rdP (d + 2) ver (flexB 2 ver) fs_AlterConfigsResponse (some s)) ev) := by
  obtain ⟨sa, sc, rfl, _⟩ := hsrc.shape
  refine fn_of_W Tryz.func57 rfl Tryz.results57 Tryz.ntmps57 rfl ?_
  repeat ((first | refine W.seqR rfl ?_ | refine W.seq ?_ | refine W.regR rfl ?_ | refine W.condK ?_ | refine W.block ?_ | refine W.skip ?_ | refine W.ret ?_ | refine W.exit ?_); try simp (maxSteps := 1000000) (disch := (first | omega | (simp only [World.size_alloc, size_wr, size_drew] <;> omega) | exact not_noB _)) only [go_sem, ↓reduceIte, n0, reduceCtorEq, n1, n2, n3, n4, n5, i0, i1, i2, i3, i4, i5, i6, i7])
  have hcl : (0 ≤ ver ∧ ver ≤ 1) ∨ (2 ≤ ver ∧ ver ≤ 2) := by omega
  rcases hcl with ⟨h1, h2⟩ | ⟨h1, h2⟩
  · have hfl : flexB 2 ver = false := by simp only [flexB, Bool.and_eq_false_iff, decide_eq_false_iff_not]; omega
    rw [hfl]
    refine (readAlterConfigsResponse_0 (d := d) h1 h2 w _ s hv hsrc hok0 hG hgv).mono ?_
    rintro r5 w5 h5
    repeat ((first | refine W.seqR rfl ?_ | refine W.seq ?_ | refine W.regR rfl ?_ | refine W.condK ?_ | refine W.block ?_ | refine W.skip ?_ | refine W.ret ?_ | refine W.exit ?_); try simp (maxSteps := 1000000) (disch := (first | omega | (simp only [World.size_alloc, size_wr, size_drew] <;> omega) | exact not_noB _)) only [go_sem, ↓reduceIte, n0, reduceCtorEq, n1, n2, n3, n4, n5, i0, i1, i2, i3, i4, i5, i6, i7])
    all_goals exact h5
  · have hfl : flexB 2 ver = true := by simp only [flexB, Bool.and_eq_true, decide_eq_true_eq]; omega
    rw [hfl]
    refine (readAlterConfigsResponse_1 (d := d) h1 h2 w _ s hv hsrc hok0 hG hgv).mono ?_
    rintro r5 w5 h5
    repeat ((first | refine W.seqR rfl ?_ | refine W.seq ?_ | refine W.regR rfl ?_ | refine W.condK ?_ | refine W.block ?_ | refine W.skip ?_ | refine W.ret ?_ | refine W.exit ?_); try simp (maxSteps := 1000000) (disch := (first | omega | (simp only [World.size_alloc, size_wr, size_drew] <;> omega) | exact not_noB _)) only [go_sem, ↓reduceIte, n0, reduceCtorEq, n1, n2, n3, n4, n5, i0, i1, i2, i3, i4, i5, i6, i7])
    all_goals exact h5

end Ms

namespace Ms
open Nat renaming reduceEqDiff → n0, reduceAdd → n1, reduceMul → n2, reduceSub → n3, reduceLT → n4, reduceLeDiff → n5
open Int renaming reduceEq → i0, reduceLT → i1, reduceLE → i2, reduceNeg → i3, reduceAdd → i4, reduceSub → i5, reduceMul → i6, reduceToNat → i7
set_option maxRecDepth 8000
open Go Go.Proofs Go.Shelf
attribute [local congr] W_congr WPsq_congr WPp_congr optK_congr addrK_congr intK_congr boolK_congr sliceK_congr tupleK_congr funcK_congr Fn_congr rawK_congr takeK_congr stepK_congr convK_congr aggK_congr

set_option maxHeartbeats 4000000 in
theorem appAlterConfigsResponse_0 {d B : Nat} {okM : Blocks} {ver : Int} (hlo : 0 ≤ ver) (hhi : ver ≤ 1) (t : Tree) (cells : List Value) (v : Value) (s : List UInt8) (w : World) {vb : Nat} (ho : OwnBy 5 B w v s) (hB : B ≤ w.heap.size) (hvb : blk w vb = some ((.int .i16 ver :: cells).toArray, 104, (0, 0)))
    (hR : RepS true (d + 2) fs_AlterConfigsResponse okM w t cells) (hfit : FitW ver (d + 2) fs_AlterConfigsResponse t) (hd : ∀ b, b < w.heap.size → okM b → ¬ ownB v b) (hdv : ¬ ownB v vb) (hlen : s.length + (partS (d + 2) fs_AlterConfigsResponse ver false t).length ≤ 2 ^ 41) :
    Fn Tryz.prog 58 #[.pointer (some ⟨vb, 0, none⟩), v] w fun r w' => AppR 5 B w v s (partS (d + 2) fs_AlterConfigsResponse ver false t) r w' := by
  obtain ⟨⟨g_0, g_1, -⟩, hfu⟩ := hfit
  replace g_0 : hasS fAlterConfigsResponse_0 ver = true → FitWF (FitW ver (d + 1)) ver fAlterConfigsResponse_0 (t.at 0) := g_0
  have hh_0 : hasS fAlterConfigsResponse_0 ver = true := hasS_t (by show (0 : Int) ≤ ver; omega) (by show (-1 : Int) < 0 ∨ ver ≤ (-1 : Int); omega)
  replace g_0 := g_0 hh_0
  replace g_1 : hasS fAlterConfigsResponse_1 ver = true → FitWF (FitW ver (d + 1)) ver fAlterConfigsResponse_1 (t.at 1) := g_1
  have hh_1 : hasS fAlterConfigsResponse_1 ver = true := hasS_t (by show (0 : Int) ≤ ver; omega) (by show (-1 : Int) < 0 ∨ ver ≤ (-1 : Int); omega)
  replace g_1 := g_1 hh_1
  obtain ⟨cs, q, hcs, hL, hT⟩ := hR.inv
  obtain ⟨c_0, e_0, rfl, h_0, c_1, e_1, rfl, h_1, rfl⟩ := hL
  replace h_0 : RepF (RepS true (d + 1)) (szS true (d + 1)) fAlterConfigsResponse_0 okM w (t.at 0) c_0 := h_0
  replace h_1 : RepF (RepS true (d + 1)) (szS true (d + 1)) fAlterConfigsResponse_1 okM w (t.at 1) c_1 := h_1
  obtain rfl := (RepF_num (by decide)).1 h_0
  obtain ⟨p_1, rfl, hs_1⟩ := RepF_listW g_1 rfl (by decide) h_1
  obtain ⟨ab_1, ac_1, rfl, _⟩ := SlR.shape hs_1
  have hll_1 := (g_1.list rfl).1
  obtain ⟨qm, rfl⟩ := hT.shape
  have hv : blk w vb = some (#[.int .i16 ver, .int .i32 (IntKind.i32.wrap (t.at 0).n), .slice ab_1 (t.at 1).l.length ac_1, .map qm], 104, (0, 0)) := by rw [hvb, hcs]; rfl
  clear hvb hcs
  obtain ⟨X_0, hXX_0⟩ : ∃ X, X = fixedS (t.at 0).n 4 := ⟨_, rfl⟩
  obtain ⟨XL_1, hXL_1⟩ : ∃ X, X = fixedS (t.at 1).l.length 4 := ⟨_, rfl⟩
  obtain ⟨XE_1, hXE_1⟩ : ∃ X, X = (t.at 1).l.flatMap (fun x => partS (d + 1) fs_AlterConfigsResponseResource ver false x) := ⟨_, rfl⟩
  have hP : partS (d + 2) fs_AlterConfigsResponse ver false t = X_0 ++ ((XL_1 ++ XE_1) ++ []) := partS_no (plainL_has (by decide) hh_0 ((fieldS_num 3 rfl (by decide)).trans hXX_0.symm) (plainL_has (by decide) hh_1 ((fieldS_list_f (g := (fun x => partS (d + 1) fs_AlterConfigsResponseResource ver false x)) g_1 rfl (by decide) (fun x _ => valueS_part)).trans (by rw [hXL_1, hXE_1])) rfl))
  rw [hP] at hlen
  simp only [List.length_append, List.length_nil] at hlen
  have hdK : ∀ {r : Value} {w' : World} {add : List UInt8}, AppR 5 B w v s add r w' → ∀ b, b < w'.heap.size → OkS okM w.heap.size b → ¬ ownB r b := fun h b _ hk ho => (h.frame b ho).elim (hd b hk.2 hk.1) (fun h => by have := hk.2; omega)
  have ownK : ∀ {r : Value} {w' : World} {add : List UInt8} {b : Nat}, AppR 5 B w v s add r w' → b < w.heap.size → ¬ ownB v b → ¬ ownB r b := fun h hb hn ho => (h.frame _ ho).elim hn (fun h => by omega)
  have ha0 : AppR 5 B w v s [] v w := AppR.refl ho
  obtain ⟨w0, hw0⟩ : ∃ w0, w0 = w := ⟨_, rfl⟩
  have hB0 := hB
  have hv_0 := hv
  refine fn_of_W Tryz.func58 rfl Tryz.results58 Tryz.ntmps58 rfl ?_
  repeat ((first | refine W.seqR rfl ?_ | refine W.seq ?_ | refine W.regR rfl ?_ | refine W.condK ?_ | refine W.block ?_ | refine W.skip ?_ | refine W.ret ?_ | refine W.exit ?_); try simp (maxSteps := 1000000) (disch := (first | omega | (simp only [World.size_alloc, size_wr, size_drew] <;> omega) | exact not_noB _)) only [go_sem, ↓reduceIte, n0, reduceCtorEq, n1, n2, n3, n4, n5, i0, i1, i2, i3, i4, i5, i6, i7, hv_0])
  refine (AppendInt32_fn _ _ _ ha0.own hB0 _ (by simp only [List.length_append, List.length_nil]; omega)).mono ?_
  rintro r1 w1 hc1
  rw [wrap32, ← hXX_0] at hc1
  have ha1 := ha0.trans hc1
  have hB1 : B ≤ w1.heap.size := Nat.le_trans hB ha1.upd.size
  have hv_1 := ha1.upd.blk_some hv hdv
  repeat ((first | refine W.seqR rfl ?_ | refine W.seq ?_ | refine W.regR rfl ?_ | refine W.condK ?_ | refine W.block ?_ | refine W.skip ?_ | refine W.ret ?_ | refine W.exit ?_); try simp (maxSteps := 1000000) (disch := (first | omega | (simp only [World.size_alloc, size_wr, size_drew] <;> omega) | exact not_noB _)) only [go_sem, ↓reduceIte, n0, reduceCtorEq, n1, n2, n3, n4, n5, i0, i1, i2, i3, i4, i5, i6, i7, hv_1])
  refine (AppendArrayLen_fn _ _ _ ha1.own hB1 (t.at 1).l.length hll_1 (by simp only [List.length_append, List.length_nil]; omega)).mono ?_
  rintro r2 w2 hc2
  rw [← hXL_1] at hc2
  have ha2 := ha1.trans hc2
  have hB2 : B ≤ w2.heap.size := Nat.le_trans hB ha2.upd.size
  have hv_2 := ha2.upd.blk_some hv hdv
  repeat ((first | refine W.seqR rfl ?_ | refine W.seq ?_ | refine W.regR rfl ?_ | refine W.condK ?_ | refine W.block ?_ | refine W.skip ?_ | refine W.ret ?_ | refine W.exit ?_); try simp (maxSteps := 1000000) (disch := (first | omega | (simp only [World.size_alloc, size_wr, size_drew] <;> omega) | exact not_noB _)) only [go_sem, ↓reduceIte, n0, reduceCtorEq, n1, n2, n3, n4, n5, i0, i1, i2, i3, i4, i5, i6, i7, hv_2])
  have hadd1 := ha2
  refine W.exitJ 0 (fun ρ w' => ∃ r, ρ 1 = r ∧ ρ 0 = .pointer (some ⟨vb, 0, none⟩) ∧ ρ 5 = .int .i16 ver ∧ ρ 6 = .bool false ∧ AppR 5 B w v s (([] ++ X_0 ++ XL_1) ++ XE_1) r w')
    (W.loop (fun ρ w' => ∃ (j : Nat) (r : Value), j ≤ (t.at 1).l.length ∧ ρ 46 = .int .i64 j ∧ ρ 45 = .int .i64 (t.at 1).l.length ∧ ρ 8 = .slice ab_1 (t.at 1).l.length ac_1 ∧ ρ 1 = r ∧ ρ 0 = .pointer (some ⟨vb, 0, none⟩) ∧ ρ 5 = .int .i16 ver ∧ ρ 6 = .bool false ∧ AppR 5 B w v s (([] ++ X_0 ++ XL_1) ++ ((t.at 1).l.take j).flatMap (fun x => partS (d + 1) fs_AlterConfigsResponseResource ver false x)) r w')
      (fun ρ _ => (t.at 1).l.length - (RowKit.intOf (ρ 46)).toNat) ?_ ?_) ?_
  · refine ⟨0, _, Nat.zero_le _, ?_, ?_, ?_, ?_, ?_, ?_, ?_, ha2.eqs (by rw [List.take_zero, List.flatMap_nil, List.append_nil])⟩ <;> simp (maxSteps := 1000000) (disch := (first | omega | (simp only [World.size_alloc, size_wr, size_drew] <;> omega) | exact not_noB _)) only [go_sem, ↓reduceIte, n0, reduceCtorEq, n1, n2, n3, n4, n5, i0, i1, i2, i3, i4, i5, i6, i7]
    all_goals rfl
  · rintro ρ w3 ⟨j1, r3, hj1, hI1, hN1, hS1, hr1_1, hr1_0, hr1_5, hr1_6, ha3⟩
    have hB3 : B ≤ w3.heap.size := Nat.le_trans hB ha3.upd.size
    have hv_3 := ha3.upd.blk_some hv hdv
    by_cases hlt1 : j1 < (t.at 1).l.length
    · obtain ⟨_, b1, o1, x1, ce1, hb1, hok1, hx1, hbl1, hxs1, hxe1, hq1, hRe1⟩ := SlR.get (size := 5) (by decide) hs_1 hlt1
      subst hb1
      have hcat1 : (t.at 1).l.take (j1 + 1) = (t.at 1).l.take j1 ++ [(t.at 1).l[j1]] := List.take_succ_eq_append_getElem hlt1
      have htl1 := take_flatMap_len (t.at 1).l (fun x => partS (d + 1) fs_AlterConfigsResponseResource ver false x) (j1 + 1)
      rw [← hXE_1, hcat1, List.flatMap_append, List.flatMap_cons, List.flatMap_nil, List.append_nil] at htl1
      have hge1 := (g_1.list rfl).2 _ (List.getElem_mem hlt1)
      generalize (t.at 1).l[j1] = y1 at *
      have hnx1 := hd b1 hbl1 hok1
      obtain ⟨T1, hTT1⟩ : ∃ T, T = ((t.at 1).l.take j1).flatMap (fun x => partS (d + 1) fs_AlterConfigsResponseResource ver false x) := ⟨_, rfl⟩
      rw [← hTT1] at ha3 htl1
      have hx1_3 := ha3.upd.blk_some hx1 hnx1
      replace hRe1 : RepS true (d + 1) fs_AlterConfigsResponseResource okM w y1 ce1 := Rep1_part.1 hRe1
      have hfe1 : FitW ver (d + 1) fs_AlterConfigsResponseResource y1 := hge1.2 rfl
      obtain ⟨⟨ge1_0, ge1_1, ge1_2, ge1_3, -⟩, hfue1⟩ := hfe1
      replace ge1_0 : hasS fAlterConfigsResponseResource_0 ver = true → FitWF (FitW ver d) ver fAlterConfigsResponseResource_0 (y1.at 0) := ge1_0
      have hhe1_0 : hasS fAlterConfigsResponseResource_0 ver = true := hasS_t (by show (0 : Int) ≤ ver; omega) (by show (-1 : Int) < 0 ∨ ver ≤ (-1 : Int); omega)
      replace ge1_0 := ge1_0 hhe1_0
      replace ge1_1 : hasS fAlterConfigsResponseResource_1 ver = true → FitWF (FitW ver d) ver fAlterConfigsResponseResource_1 (y1.at 1) := ge1_1
      have hhe1_1 : hasS fAlterConfigsResponseResource_1 ver = true := hasS_t (by show (0 : Int) ≤ ver; omega) (by show (-1 : Int) < 0 ∨ ver ≤ (-1 : Int); omega)
      replace ge1_1 := ge1_1 hhe1_1
      replace ge1_2 : hasS fAlterConfigsResponseResource_2 ver = true → FitWF (FitW ver d) ver fAlterConfigsResponseResource_2 (y1.at 2) := ge1_2
      have hhe1_2 : hasS fAlterConfigsResponseResource_2 ver = true := hasS_t (by show (0 : Int) ≤ ver; omega) (by show (-1 : Int) < 0 ∨ ver ≤ (-1 : Int); omega)
      replace ge1_2 := ge1_2 hhe1_2
      replace ge1_3 : hasS fAlterConfigsResponseResource_3 ver = true → FitWF (FitW ver d) ver fAlterConfigsResponseResource_3 (y1.at 3) := ge1_3
      have hhe1_3 : hasS fAlterConfigsResponseResource_3 ver = true := hasS_t (by show (0 : Int) ≤ ver; omega) (by show (-1 : Int) < 0 ∨ ver ≤ (-1 : Int); omega)
      replace ge1_3 := ge1_3 hhe1_3
      obtain ⟨cse1, qe1, hcse1, hLe1, hTe1⟩ := hRe1.inv
      obtain ⟨ce1_0, ee1_0, rfl, he1_0, ce1_1, ee1_1, rfl, he1_1, ce1_2, ee1_2, rfl, he1_2, ce1_3, ee1_3, rfl, he1_3, rfl⟩ := hLe1
      replace he1_0 : RepF (RepS true d) (szS true d) fAlterConfigsResponseResource_0 okM w (y1.at 0) ce1_0 := he1_0
      replace he1_1 : RepF (RepS true d) (szS true d) fAlterConfigsResponseResource_1 okM w (y1.at 1) ce1_1 := he1_1
      replace he1_2 : RepF (RepS true d) (szS true d) fAlterConfigsResponseResource_2 okM w (y1.at 2) ce1_2 := he1_2
      replace he1_3 : RepF (RepS true d) (szS true d) fAlterConfigsResponseResource_3 okM w (y1.at 3) ce1_3 := he1_3
      obtain rfl := (RepF_num (by decide)).1 he1_0
      obtain ⟨pe1_1, rfl, hpe1_1⟩ := (RepF_ptr rfl (by decide)).1 he1_1
      obtain rfl := (RepF_num (by decide)).1 he1_2
      obtain rfl := (RepF_text rfl (by decide)).1 he1_3
      obtain ⟨qme1, rfl⟩ := hTe1.shape
      subst hcse1
      have hq1_0 : x1.1[o1 + j1 * 5]? = some (.int .i16 (IntKind.i16.wrap (y1.at 0).n)) := hq1 0 (by decide)
      have hq1_1 : x1.1[o1 + (j1 * 5 + 1)]? = some (pe1_1) := hq1 1 (by decide)
      have hq1_2 : x1.1[o1 + (j1 * 5 + 2)]? = some (.int .i8 (IntKind.i8.wrap (y1.at 2).n)) := hq1 2 (by decide)
      have hq1_3 : x1.1[o1 + (j1 * 5 + 3)]? = some (strV (y1.at 3).s) := hq1 3 (by decide)
      have hq1_4 : x1.1[o1 + (j1 * 5 + 4)]? = some (.map qme1) := hq1 4 (by decide)
      obtain ⟨Xe1_0, hXXe1_0⟩ : ∃ X, X = fixedS (y1.at 0).n 2 := ⟨_, rfl⟩
      obtain ⟨Xe1_1, hXXe1_1⟩ : ∃ X, X = if (y1.at 1).null = true then fixedS (-1) 2 else fixedS (y1.at 1).s.length 2 ++ (y1.at 1).s := ⟨_, rfl⟩
      obtain ⟨Xe1_2, hXXe1_2⟩ : ∃ X, X = fixedS (y1.at 2).n 1 := ⟨_, rfl⟩
      obtain ⟨Xe1_3, hXXe1_3⟩ : ∃ X, X = fixedS (y1.at 3).s.length 2 ++ (y1.at 3).s := ⟨_, rfl⟩
      have hPe1 : partS (d + 1) fs_AlterConfigsResponseResource ver false y1 = Xe1_0 ++ (Xe1_1 ++ (Xe1_2 ++ (Xe1_3 ++ []))) := partS_no (plainL_has (by decide) hhe1_0 ((fieldS_num 2 rfl (by decide)).trans hXXe1_0.symm) (plainL_has (by decide) hhe1_1 ((fieldS_ptr_f ge1_1 rfl (by decide)).trans hXXe1_1.symm) (plainL_has (by decide) hhe1_2 ((fieldS_num 1 rfl (by decide)).trans hXXe1_2.symm) (plainL_has (by decide) hhe1_3 ((fieldS_text_f ge1_3 rfl (by decide)).trans hXXe1_3.symm) rfl))))
      rw [hPe1] at htl1
      simp only [List.length_append, List.length_nil] at htl1
      repeat ((first | refine W.seqR rfl ?_ | refine W.seq ?_ | refine W.regR rfl ?_ | refine W.condK ?_ | refine W.block ?_ | refine W.skip ?_ | refine W.ret ?_ | refine W.exit ?_); try simp (maxSteps := 1000000) (disch := (first | omega | (simp only [World.size_alloc, size_wr, size_drew] <;> omega) | exact not_noB _)) only [go_sem, ↓reduceIte, n0, reduceCtorEq, n1, n2, n3, n4, n5, i0, i1, i2, i3, i4, i5, i6, i7, hv_3, hx1_3, Int.toNat_natCast, Nat.mul_one, hq1_0, hq1_1, hq1_2, hq1_3, hq1_4, hr1_1, hr1_0, hr1_5, hr1_6, hI1, hN1, hS1])
      refine (AppendInt16_fn _ _ _ ha3.own hB3 _ (by simp only [List.length_append, List.length_nil]; omega)).mono ?_
      rintro r4 w4 hc4
      rw [wrap16, ← hXXe1_0] at hc4
      have ha4 := ha3.trans hc4
      have hB4 : B ≤ w4.heap.size := Nat.le_trans hB ha4.upd.size
      have hv_4 := ha4.upd.blk_some hv hdv
      have hx1_4 := ha4.upd.blk_some hx1 hnx1
      repeat ((first | refine W.seqR rfl ?_ | refine W.seq ?_ | refine W.regR rfl ?_ | refine W.condK ?_ | refine W.block ?_ | refine W.skip ?_ | refine W.ret ?_ | refine W.exit ?_); try simp (maxSteps := 1000000) (disch := (first | omega | (simp only [World.size_alloc, size_wr, size_drew] <;> omega) | exact not_noB _)) only [go_sem, ↓reduceIte, n0, reduceCtorEq, n1, n2, n3, n4, n5, i0, i1, i2, i3, i4, i5, i6, i7, hv_4, hx1_4, Int.toNat_natCast, Nat.mul_one, hq1_0, hq1_1, hq1_2, hq1_3, hq1_4, hr1_1, hr1_0, hr1_5, hr1_6, hI1, hN1, hS1])
      refine (AppendNullableString_fn (ok := okM) _ _ _ ha4.own hB4 _ (y1.at 1).null (y1.at 1).s (hpe1_1.keep (ha4.upd.keeps hd)) (ge1_1.text (.inl rfl)) (by simp only [List.length_append, List.length_nil]; omega)).mono ?_
      rintro r5 w5 hc5
      rw [← hXXe1_1] at hc5
      have ha5 := ha4.trans hc5
      have hB5 : B ≤ w5.heap.size := Nat.le_trans hB ha5.upd.size
      have hv_5 := ha5.upd.blk_some hv hdv
      have hx1_5 := ha5.upd.blk_some hx1 hnx1
      repeat ((first | refine W.seqR rfl ?_ | refine W.seq ?_ | refine W.regR rfl ?_ | refine W.condK ?_ | refine W.block ?_ | refine W.skip ?_ | refine W.ret ?_ | refine W.exit ?_); try simp (maxSteps := 1000000) (disch := (first | omega | (simp only [World.size_alloc, size_wr, size_drew] <;> omega) | exact not_noB _)) only [go_sem, ↓reduceIte, n0, reduceCtorEq, n1, n2, n3, n4, n5, i0, i1, i2, i3, i4, i5, i6, i7, hv_5, hx1_5, Int.toNat_natCast, Nat.mul_one, hq1_0, hq1_1, hq1_2, hq1_3, hq1_4, hr1_1, hr1_0, hr1_5, hr1_6, hI1, hN1, hS1])
      refine (AppendInt8_fn _ _ _ ha5.own hB5 _ (by simp only [List.length_append, List.length_nil]; omega)).mono ?_
      rintro r6 w6 hc6
      rw [wrap8, ← hXXe1_2] at hc6
      have ha6 := ha5.trans hc6
      have hB6 : B ≤ w6.heap.size := Nat.le_trans hB ha6.upd.size
      have hv_6 := ha6.upd.blk_some hv hdv
      have hx1_6 := ha6.upd.blk_some hx1 hnx1
      repeat ((first | refine W.seqR rfl ?_ | refine W.seq ?_ | refine W.regR rfl ?_ | refine W.condK ?_ | refine W.block ?_ | refine W.skip ?_ | refine W.ret ?_ | refine W.exit ?_); try simp (maxSteps := 1000000) (disch := (first | omega | (simp only [World.size_alloc, size_wr, size_drew] <;> omega) | exact not_noB _)) only [go_sem, ↓reduceIte, n0, reduceCtorEq, n1, n2, n3, n4, n5, i0, i1, i2, i3, i4, i5, i6, i7, hv_6, hx1_6, Int.toNat_natCast, Nat.mul_one, hq1_0, hq1_1, hq1_2, hq1_3, hq1_4, hr1_1, hr1_0, hr1_5, hr1_6, hI1, hN1, hS1])
      refine (AppendString_fn _ _ _ ha6.own hB6 (y1.at 3).s (ge1_3.text (.inl rfl)) (by simp only [List.length_append, List.length_nil]; omega)).mono ?_
      rintro r7 w7 hc7
      rw [← hXXe1_3] at hc7
      have ha7 := ha6.trans hc7
      have hB7 : B ≤ w7.heap.size := Nat.le_trans hB ha7.upd.size
      have hv_7 := ha7.upd.blk_some hv hdv
      have hx1_7 := ha7.upd.blk_some hx1 hnx1
      repeat ((first | refine W.seqR rfl ?_ | refine W.seq ?_ | refine W.regR rfl ?_ | refine W.condK ?_ | refine W.block ?_ | refine W.skip ?_ | refine W.ret ?_ | refine W.exit ?_); try simp (maxSteps := 1000000) (disch := (first | omega | (simp only [World.size_alloc, size_wr, size_drew] <;> omega) | exact not_noB _)) only [go_sem, ↓reduceIte, n0, reduceCtorEq, n1, n2, n3, n4, n5, i0, i1, i2, i3, i4, i5, i6, i7, hr1_1, hr1_0, hr1_5, hr1_6, hI1, hN1, hS1])
      refine ⟨⟨j1 + 1, _, by omega, rfl, rfl, ha7.eqs ?_⟩, ?_⟩
      · rw [hcat1, List.flatMap_append, List.flatMap_cons, List.flatMap_nil, List.append_nil, ← hTT1, hPe1]; simp only [List.append_assoc, List.append_nil, List.nil_append]
      · simp only [RowKit.intOf]; omega
    · have hjl1 : j1 = (t.at 1).l.length := by omega
      subst hjl1
      rw [List.take_length, ← hXE_1] at ha3
      repeat ((first | refine W.seqR rfl ?_ | refine W.seq ?_ | refine W.regR rfl ?_ | refine W.condK ?_ | refine W.block ?_ | refine W.skip ?_ | refine W.ret ?_ | refine W.exit ?_); try simp (maxSteps := 1000000) (disch := (first | omega | (simp only [World.size_alloc, size_wr, size_drew] <;> omega) | exact not_noB _)) only [go_sem, ↓reduceIte, n0, reduceCtorEq, n1, n2, n3, n4, n5, i0, i1, i2, i3, i4, i5, i6, i7, hI1, hN1])
      exact ⟨_, hr1_1, hr1_0, hr1_5, hr1_6, ha3⟩
  · rintro ρ w8 ⟨r8, hr1_2, hr2_0, hr2_5, hr2_6, ha8⟩
    have hB8 : B ≤ w8.heap.size := Nat.le_trans hB ha8.upd.size
    have hv_8 := ha8.upd.blk_some hv hdv
    repeat ((first | refine W.seqR rfl ?_ | refine W.seq ?_ | refine W.regR rfl ?_ | refine W.condK ?_ | refine W.block ?_ | refine W.skip ?_ | refine W.ret ?_ | refine W.exit ?_); try simp (maxSteps := 1000000) (disch := (first | omega | (simp only [World.size_alloc, size_wr, size_drew] <;> omega) | exact not_noB _)) only [go_sem, ↓reduceIte, n0, reduceCtorEq, n1, n2, n3, n4, n5, i0, i1, i2, i3, i4, i5, i6, i7, hv_8, hr1_2, hr2_0, hr2_5, hr2_6])
    refine ha8.eqs ?_
    rw [hP]; simp only [List.append_assoc, List.append_nil, List.nil_append]
end Ms

namespace Ms
open Nat renaming reduceEqDiff → n0, reduceAdd → n1, reduceMul → n2, reduceSub → n3, reduceLT → n4, reduceLeDiff → n5
open Int renaming reduceEq → i0, reduceLT → i1, reduceLE → i2, reduceNeg → i3, reduceAdd → i4, reduceSub → i5, reduceMul → i6, reduceToNat → i7
set_option maxRecDepth 8000
open Go Go.Proofs Go.Shelf
attribute [local congr] W_congr WPsq_congr WPp_congr optK_congr addrK_congr intK_congr boolK_congr sliceK_congr tupleK_congr funcK_congr Fn_congr rawK_congr takeK_congr stepK_congr convK_congr aggK_congr

set_option maxHeartbeats 4000000 in
theorem appAlterConfigsResponse_1 {d B : Nat} {okM : Blocks} {ver : Int} (hlo : 2 ≤ ver) (hhi : ver ≤ 2) (t : Tree) (cells : List Value) (v : Value) (s : List UInt8) (w : World) {vb : Nat} (ho : OwnBy 5 B w v s) (hB : B ≤ w.heap.size) (hvb : blk w vb = some ((.int .i16 ver :: cells).toArray, 104, (0, 0)))
    (hR : RepS true (d + 2) fs_AlterConfigsResponse okM w t cells) (hfit : FitW ver (d + 2) fs_AlterConfigsResponse t) (hd : ∀ b, b < w.heap.size → okM b → ¬ ownB v b) (hdv : ¬ ownB v vb) (hlen : s.length + (partS (d + 2) fs_AlterConfigsResponse ver true t).length ≤ 2 ^ 41) :
    Fn Tryz.prog 58 #[.pointer (some ⟨vb, 0, none⟩), v] w fun r w' => AppR 5 B w v s (partS (d + 2) fs_AlterConfigsResponse ver true t) r w' := by
  obtain ⟨⟨g_0, g_1, -⟩, hfu⟩ := hfit
  replace g_0 : hasS fAlterConfigsResponse_0 ver = true → FitWF (FitW ver (d + 1)) ver fAlterConfigsResponse_0 (t.at 0) := g_0
  have hh_0 : hasS fAlterConfigsResponse_0 ver = true := hasS_t (by show (0 : Int) ≤ ver; omega) (by show (-1 : Int) < 0 ∨ ver ≤ (-1 : Int); omega)
  replace g_0 := g_0 hh_0
  replace g_1 : hasS fAlterConfigsResponse_1 ver = true → FitWF (FitW ver (d + 1)) ver fAlterConfigsResponse_1 (t.at 1) := g_1
  have hh_1 : hasS fAlterConfigsResponse_1 ver = true := hasS_t (by show (0 : Int) ≤ ver; omega) (by show (-1 : Int) < 0 ∨ ver ≤ (-1 : Int); omega)
  replace g_1 := g_1 hh_1
  obtain ⟨cs, q, hcs, hL, hT⟩ := hR.inv
  obtain ⟨c_0, e_0, rfl, h_0, c_1, e_1, rfl, h_1, rfl⟩ := hL
  replace h_0 : RepF (RepS true (d + 1)) (szS true (d + 1)) fAlterConfigsResponse_0 okM w (t.at 0) c_0 := h_0
  replace h_1 : RepF (RepS true (d + 1)) (szS true (d + 1)) fAlterConfigsResponse_1 okM w (t.at 1) c_1 := h_1
  obtain rfl := (RepF_num (by decide)).1 h_0
  obtain ⟨p_1, rfl, hs_1⟩ := RepF_listW g_1 rfl (by decide) h_1
  obtain ⟨ab_1, ac_1, rfl, _⟩ := SlR.shape hs_1
  have hll_1 := (g_1.list rfl).1
  obtain ⟨qm, rfl⟩ := hT.shape
  have hv : blk w vb = some (#[.int .i16 ver, .int .i32 (IntKind.i32.wrap (t.at 0).n), .slice ab_1 (t.at 1).l.length ac_1, .map qm], 104, (0, 0)) := by rw [hvb, hcs]; rfl
  clear hvb hcs
  obtain ⟨X_0, hXX_0⟩ : ∃ X, X = fixedS (t.at 0).n 4 := ⟨_, rfl⟩
  obtain ⟨XL_1, hXL_1⟩ : ∃ X, X = uvarS ((t.at 1).l.length + 1) := ⟨_, rfl⟩
  obtain ⟨XE_1, hXE_1⟩ : ∃ X, X = (t.at 1).l.flatMap (fun x => partS (d + 1) fs_AlterConfigsResponseResource ver true x) := ⟨_, rfl⟩
  obtain ⟨XU, hXU⟩ : ∃ X, X = uvarS t.u.length := ⟨_, rfl⟩
  obtain ⟨XT, hXT⟩ : ∃ X, X = t.u.flatMap oneTag := ⟨_, rfl⟩
  have hP : partS (d + 2) fs_AlterConfigsResponse ver true t = (X_0 ++ ((XL_1 ++ XE_1) ++ [])) ++ (XU ++ XT) := by rw [hXU, hXT]; exact partS_yes rfl hfu (plainL_has (by decide) hh_0 ((fieldS_num 3 rfl (by decide)).trans hXX_0.symm) (plainL_has (by decide) hh_1 ((fieldS_list_t (g := (fun x => partS (d + 1) fs_AlterConfigsResponseResource ver true x)) g_1 rfl (by decide) (fun x _ => valueS_part)).trans (by rw [hXL_1, hXE_1])) rfl))
  rw [hP] at hlen
  simp only [List.length_append, List.length_nil] at hlen
  have hdK : ∀ {r : Value} {w' : World} {add : List UInt8}, AppR 5 B w v s add r w' → ∀ b, b < w'.heap.size → OkS okM w.heap.size b → ¬ ownB r b := fun h b _ hk ho => (h.frame b ho).elim (hd b hk.2 hk.1) (fun h => by have := hk.2; omega)
  have ownK : ∀ {r : Value} {w' : World} {add : List UInt8} {b : Nat}, AppR 5 B w v s add r w' → b < w.heap.size → ¬ ownB v b → ¬ ownB r b := fun h hb hn ho => (h.frame _ ho).elim hn (fun h => by omega)
  have ha0 : AppR 5 B w v s [] v w := AppR.refl ho
  obtain ⟨w0, hw0⟩ : ∃ w0, w0 = w := ⟨_, rfl⟩
  have hB0 := hB
  have hv_0 := hv
  refine fn_of_W Tryz.func58 rfl Tryz.results58 Tryz.ntmps58 rfl ?_
  repeat ((first | refine W.seqR rfl ?_ | refine W.seq ?_ | refine W.regR rfl ?_ | refine W.condK ?_ | refine W.block ?_ | refine W.skip ?_ | refine W.ret ?_ | refine W.exit ?_); try simp (maxSteps := 1000000) (disch := (first | omega | (simp only [World.size_alloc, size_wr, size_drew] <;> omega) | exact not_noB _)) only [go_sem, ↓reduceIte, n0, reduceCtorEq, n1, n2, n3, n4, n5, i0, i1, i2, i3, i4, i5, i6, i7, hv_0])
  refine (AppendInt32_fn _ _ _ ha0.own hB0 _ (by simp only [List.length_append, List.length_nil]; omega)).mono ?_
  rintro r1 w1 hc1
  rw [wrap32, ← hXX_0] at hc1
  have ha1 := ha0.trans hc1
  have hB1 : B ≤ w1.heap.size := Nat.le_trans hB ha1.upd.size
  have hv_1 := ha1.upd.blk_some hv hdv
  repeat ((first | refine W.seqR rfl ?_ | refine W.seq ?_ | refine W.regR rfl ?_ | refine W.condK ?_ | refine W.block ?_ | refine W.skip ?_ | refine W.ret ?_ | refine W.exit ?_); try simp (maxSteps := 1000000) (disch := (first | omega | (simp only [World.size_alloc, size_wr, size_drew] <;> omega) | exact not_noB _)) only [go_sem, ↓reduceIte, n0, reduceCtorEq, n1, n2, n3, n4, n5, i0, i1, i2, i3, i4, i5, i6, i7, hv_1])
  refine (AppendCompactArrayLen_fn _ _ _ ha1.own hB1 (t.at 1).l.length hll_1 (by simp only [List.length_append, List.length_nil]; omega)).mono ?_
  rintro r2 w2 hc2
  rw [← hXL_1] at hc2
  have ha2 := ha1.trans hc2
  have hB2 : B ≤ w2.heap.size := Nat.le_trans hB ha2.upd.size
  have hv_2 := ha2.upd.blk_some hv hdv
  repeat ((first | refine W.seqR rfl ?_ | refine W.seq ?_ | refine W.regR rfl ?_ | refine W.condK ?_ | refine W.block ?_ | refine W.skip ?_ | refine W.ret ?_ | refine W.exit ?_); try simp (maxSteps := 1000000) (disch := (first | omega | (simp only [World.size_alloc, size_wr, size_drew] <;> omega) | exact not_noB _)) only [go_sem, ↓reduceIte, n0, reduceCtorEq, n1, n2, n3, n4, n5, i0, i1, i2, i3, i4, i5, i6, i7, hv_2])
  have hadd1 := ha2
  refine W.exitJ 0 (fun ρ w' => ∃ r, ρ 1 = r ∧ ρ 0 = .pointer (some ⟨vb, 0, none⟩) ∧ ρ 5 = .int .i16 ver ∧ ρ 6 = .bool true ∧ AppR 5 B w v s (([] ++ X_0 ++ XL_1) ++ XE_1) r w')
    (W.loop (fun ρ w' => ∃ (j : Nat) (r : Value), j ≤ (t.at 1).l.length ∧ ρ 46 = .int .i64 j ∧ ρ 45 = .int .i64 (t.at 1).l.length ∧ ρ 8 = .slice ab_1 (t.at 1).l.length ac_1 ∧ ρ 1 = r ∧ ρ 0 = .pointer (some ⟨vb, 0, none⟩) ∧ ρ 5 = .int .i16 ver ∧ ρ 6 = .bool true ∧ AppR 5 B w v s (([] ++ X_0 ++ XL_1) ++ ((t.at 1).l.take j).flatMap (fun x => partS (d + 1) fs_AlterConfigsResponseResource ver true x)) r w')
      (fun ρ _ => (t.at 1).l.length - (RowKit.intOf (ρ 46)).toNat) ?_ ?_) ?_
  · refine ⟨0, _, Nat.zero_le _, ?_, ?_, ?_, ?_, ?_, ?_, ?_, ha2.eqs (by rw [List.take_zero, List.flatMap_nil, List.append_nil])⟩ <;> simp (maxSteps := 1000000) (disch := (first | omega | (simp only [World.size_alloc, size_wr, size_drew] <;> omega) | exact not_noB _)) only [go_sem, ↓reduceIte, n0, reduceCtorEq, n1, n2, n3, n4, n5, i0, i1, i2, i3, i4, i5, i6, i7]
    all_goals rfl
  · rintro ρ w3 ⟨j1, r3, hj1, hI1, hN1, hS1, hr1_1, hr1_0, hr1_5, hr1_6, ha3⟩
    have hB3 : B ≤ w3.heap.size := Nat.le_trans hB ha3.upd.size
    have hv_3 := ha3.upd.blk_some hv hdv
    by_cases hlt1 : j1 < (t.at 1).l.length
    · obtain ⟨_, b1, o1, x1, ce1, hb1, hok1, hx1, hbl1, hxs1, hxe1, hq1, hRe1⟩ := SlR.get (size := 5) (by decide) hs_1 hlt1
      subst hb1
      have hcat1 : (t.at 1).l.take (j1 + 1) = (t.at 1).l.take j1 ++ [(t.at 1).l[j1]] := List.take_succ_eq_append_getElem hlt1
      have htl1 := take_flatMap_len (t.at 1).l (fun x => partS (d + 1) fs_AlterConfigsResponseResource ver true x) (j1 + 1)
      rw [← hXE_1, hcat1, List.flatMap_append, List.flatMap_cons, List.flatMap_nil, List.append_nil] at htl1
      have hge1 := (g_1.list rfl).2 _ (List.getElem_mem hlt1)
      generalize (t.at 1).l[j1] = y1 at *
      have hnx1 := hd b1 hbl1 hok1
      obtain ⟨T1, hTT1⟩ : ∃ T, T = ((t.at 1).l.take j1).flatMap (fun x => partS (d + 1) fs_AlterConfigsResponseResource ver true x) := ⟨_, rfl⟩
      rw [← hTT1] at ha3 htl1
      have hx1_3 := ha3.upd.blk_some hx1 hnx1
      replace hRe1 : RepS true (d + 1) fs_AlterConfigsResponseResource okM w y1 ce1 := Rep1_part.1 hRe1
      have hfe1 : FitW ver (d + 1) fs_AlterConfigsResponseResource y1 := hge1.2 rfl
      obtain ⟨⟨ge1_0, ge1_1, ge1_2, ge1_3, -⟩, hfue1⟩ := hfe1
      replace ge1_0 : hasS fAlterConfigsResponseResource_0 ver = true → FitWF (FitW ver d) ver fAlterConfigsResponseResource_0 (y1.at 0) := ge1_0
      have hhe1_0 : hasS fAlterConfigsResponseResource_0 ver = true := hasS_t (by show (0 : Int) ≤ ver; omega) (by show (-1 : Int) < 0 ∨ ver ≤ (-1 : Int); omega)
      replace ge1_0 := ge1_0 hhe1_0
      replace ge1_1 : hasS fAlterConfigsResponseResource_1 ver = true → FitWF (FitW ver d) ver fAlterConfigsResponseResource_1 (y1.at 1) := ge1_1
      have hhe1_1 : hasS fAlterConfigsResponseResource_1 ver = true := hasS_t (by show (0 : Int) ≤ ver; omega) (by show (-1 : Int) < 0 ∨ ver ≤ (-1 : Int); omega)
      replace ge1_1 := ge1_1 hhe1_1
      replace ge1_2 : hasS fAlterConfigsResponseResource_2 ver = true → FitWF (FitW ver d) ver fAlterConfigsResponseResource_2 (y1.at 2) := ge1_2
      have hhe1_2 : hasS fAlterConfigsResponseResource_2 ver = true := hasS_t (by show (0 : Int) ≤ ver; omega) (by show (-1 : Int) < 0 ∨ ver ≤ (-1 : Int); omega)
      replace ge1_2 := ge1_2 hhe1_2
      replace ge1_3 : hasS fAlterConfigsResponseResource_3 ver = true → FitWF (FitW ver d) ver fAlterConfigsResponseResource_3 (y1.at 3) := ge1_3
      have hhe1_3 : hasS fAlterConfigsResponseResource_3 ver = true := hasS_t (by show (0 : Int) ≤ ver; omega) (by show (-1 : Int) < 0 ∨ ver ≤ (-1 : Int); omega)
      replace ge1_3 := ge1_3 hhe1_3
      obtain ⟨cse1, qe1, hcse1, hLe1, hTe1⟩ := hRe1.inv
      obtain ⟨ce1_0, ee1_0, rfl, he1_0, ce1_1, ee1_1, rfl, he1_1, ce1_2, ee1_2, rfl, he1_2, ce1_3, ee1_3, rfl, he1_3, rfl⟩ := hLe1
      replace he1_0 : RepF (RepS true d) (szS true d) fAlterConfigsResponseResource_0 okM w (y1.at 0) ce1_0 := he1_0
      replace he1_1 : RepF (RepS true d) (szS true d) fAlterConfigsResponseResource_1 okM w (y1.at 1) ce1_1 := he1_1
      replace he1_2 : RepF (RepS true d) (szS true d) fAlterConfigsResponseResource_2 okM w (y1.at 2) ce1_2 := he1_2
      replace he1_3 : RepF (RepS true d) (szS true d) fAlterConfigsResponseResource_3 okM w (y1.at 3) ce1_3 := he1_3
      obtain rfl := (RepF_num (by decide)).1 he1_0
      obtain ⟨pe1_1, rfl, hpe1_1⟩ := (RepF_ptr rfl (by decide)).1 he1_1
      obtain rfl := (RepF_num (by decide)).1 he1_2
      obtain rfl := (RepF_text rfl (by decide)).1 he1_3
      obtain ⟨qme1, rfl⟩ := hTe1.shape
      subst hcse1
      have hq1_0 : x1.1[o1 + j1 * 5]? = some (.int .i16 (IntKind.i16.wrap (y1.at 0).n)) := hq1 0 (by decide)
      have hq1_1 : x1.1[o1 + (j1 * 5 + 1)]? = some (pe1_1) := hq1 1 (by decide)
      have hq1_2 : x1.1[o1 + (j1 * 5 + 2)]? = some (.int .i8 (IntKind.i8.wrap (y1.at 2).n)) := hq1 2 (by decide)
      have hq1_3 : x1.1[o1 + (j1 * 5 + 3)]? = some (strV (y1.at 3).s) := hq1 3 (by decide)
      have hq1_4 : x1.1[o1 + (j1 * 5 + 4)]? = some (.map qme1) := hq1 4 (by decide)
      obtain ⟨Xe1_0, hXXe1_0⟩ : ∃ X, X = fixedS (y1.at 0).n 2 := ⟨_, rfl⟩
      obtain ⟨Xe1_1, hXXe1_1⟩ : ∃ X, X = if (y1.at 1).null = true then [0] else uvarS ((y1.at 1).s.length + 1) ++ (y1.at 1).s := ⟨_, rfl⟩
      obtain ⟨Xe1_2, hXXe1_2⟩ : ∃ X, X = fixedS (y1.at 2).n 1 := ⟨_, rfl⟩
      obtain ⟨Xe1_3, hXXe1_3⟩ : ∃ X, X = uvarS ((y1.at 3).s.length + 1) ++ (y1.at 3).s := ⟨_, rfl⟩
      obtain ⟨XUe1, hXUe1⟩ : ∃ X, X = uvarS y1.u.length := ⟨_, rfl⟩
      obtain ⟨XTe1, hXTe1⟩ : ∃ X, X = y1.u.flatMap oneTag := ⟨_, rfl⟩
      have hPe1 : partS (d + 1) fs_AlterConfigsResponseResource ver true y1 = (Xe1_0 ++ (Xe1_1 ++ (Xe1_2 ++ (Xe1_3 ++ [])))) ++ (XUe1 ++ XTe1) := by rw [hXUe1, hXTe1]; exact partS_yes rfl hfue1 (plainL_has (by decide) hhe1_0 ((fieldS_num 2 rfl (by decide)).trans hXXe1_0.symm) (plainL_has (by decide) hhe1_1 ((fieldS_ptr_t ge1_1 rfl (by decide)).trans hXXe1_1.symm) (plainL_has (by decide) hhe1_2 ((fieldS_num 1 rfl (by decide)).trans hXXe1_2.symm) (plainL_has (by decide) hhe1_3 ((fieldS_text_t ge1_3 rfl (by decide)).trans hXXe1_3.symm) rfl))))
      rw [hPe1] at htl1
      simp only [List.length_append, List.length_nil] at htl1
      repeat ((first | refine W.seqR rfl ?_ | refine W.seq ?_ | refine W.regR rfl ?_ | refine W.condK ?_ | refine W.block ?_ | refine W.skip ?_ | refine W.ret ?_ | refine W.exit ?_); try simp (maxSteps := 1000000) (disch := (first | omega | (simp only [World.size_alloc, size_wr, size_drew] <;> omega) | exact not_noB _)) only [go_sem, ↓reduceIte, n0, reduceCtorEq, n1, n2, n3, n4, n5, i0, i1, i2, i3, i4, i5, i6, i7, hv_3, hx1_3, Int.toNat_natCast, Nat.mul_one, hq1_0, hq1_1, hq1_2, hq1_3, hq1_4, hr1_1, hr1_0, hr1_5, hr1_6, hI1, hN1, hS1])
      refine (AppendInt16_fn _ _ _ ha3.own hB3 _ (by simp only [List.length_append, List.length_nil]; omega)).mono ?_
      rintro r4 w4 hc4
      rw [wrap16, ← hXXe1_0] at hc4
      have ha4 := ha3.trans hc4
      have hB4 : B ≤ w4.heap.size := Nat.le_trans hB ha4.upd.size
      have hv_4 := ha4.upd.blk_some hv hdv
      have hx1_4 := ha4.upd.blk_some hx1 hnx1
      repeat ((first | refine W.seqR rfl ?_ | refine W.seq ?_ | refine W.regR rfl ?_ | refine W.condK ?_ | refine W.block ?_ | refine W.skip ?_ | refine W.ret ?_ | refine W.exit ?_); try simp (maxSteps := 1000000) (disch := (first | omega | (simp only [World.size_alloc, size_wr, size_drew] <;> omega) | exact not_noB _)) only [go_sem, ↓reduceIte, n0, reduceCtorEq, n1, n2, n3, n4, n5, i0, i1, i2, i3, i4, i5, i6, i7, hv_4, hx1_4, Int.toNat_natCast, Nat.mul_one, hq1_0, hq1_1, hq1_2, hq1_3, hq1_4, hr1_1, hr1_0, hr1_5, hr1_6, hI1, hN1, hS1])
      refine (AppendCompactNullableString_fn (ok := okM) _ _ _ ha4.own hB4 _ (y1.at 1).null (y1.at 1).s (hpe1_1.keep (ha4.upd.keeps hd)) (ge1_1.text (.inl rfl)) (by simp only [List.length_append, List.length_nil]; omega)).mono ?_
      rintro r5 w5 hc5
      rw [← hXXe1_1] at hc5
      have ha5 := ha4.trans hc5
      have hB5 : B ≤ w5.heap.size := Nat.le_trans hB ha5.upd.size
      have hv_5 := ha5.upd.blk_some hv hdv
      have hx1_5 := ha5.upd.blk_some hx1 hnx1
      repeat ((first | refine W.seqR rfl ?_ | refine W.seq ?_ | refine W.regR rfl ?_ | refine W.condK ?_ | refine W.block ?_ | refine W.skip ?_ | refine W.ret ?_ | refine W.exit ?_); try simp (maxSteps := 1000000) (disch := (first | omega | (simp only [World.size_alloc, size_wr, size_drew] <;> omega) | exact not_noB _)) only [go_sem, ↓reduceIte, n0, reduceCtorEq, n1, n2, n3, n4, n5, i0, i1, i2, i3, i4, i5, i6, i7, hv_5, hx1_5, Int.toNat_natCast, Nat.mul_one, hq1_0, hq1_1, hq1_2, hq1_3, hq1_4, hr1_1, hr1_0, hr1_5, hr1_6, hI1, hN1, hS1])
      refine (AppendInt8_fn _ _ _ ha5.own hB5 _ (by simp only [List.length_append, List.length_nil]; omega)).mono ?_
      rintro r6 w6 hc6
      rw [wrap8, ← hXXe1_2] at hc6
      have ha6 := ha5.trans hc6
      have hB6 : B ≤ w6.heap.size := Nat.le_trans hB ha6.upd.size
      have hv_6 := ha6.upd.blk_some hv hdv
      have hx1_6 := ha6.upd.blk_some hx1 hnx1
      repeat ((first | refine W.seqR rfl ?_ | refine W.seq ?_ | refine W.regR rfl ?_ | refine W.condK ?_ | refine W.block ?_ | refine W.skip ?_ | refine W.ret ?_ | refine W.exit ?_); try simp (maxSteps := 1000000) (disch := (first | omega | (simp only [World.size_alloc, size_wr, size_drew] <;> omega) | exact not_noB _)) only [go_sem, ↓reduceIte, n0, reduceCtorEq, n1, n2, n3, n4, n5, i0, i1, i2, i3, i4, i5, i6, i7, hv_6, hx1_6, Int.toNat_natCast, Nat.mul_one, hq1_0, hq1_1, hq1_2, hq1_3, hq1_4, hr1_1, hr1_0, hr1_5, hr1_6, hI1, hN1, hS1])
      refine (AppendCompactString_fn _ _ _ ha6.own hB6 (y1.at 3).s (ge1_3.text (.inl rfl)) (by simp only [List.length_append, List.length_nil]; omega)).mono ?_
      rintro r7 w7 hc7
      rw [← hXXe1_3] at hc7
      have ha7 := ha6.trans hc7
      have hB7 : B ≤ w7.heap.size := Nat.le_trans hB ha7.upd.size
      have hv_7 := ha7.upd.blk_some hv hdv
      have hx1_7 := ha7.upd.blk_some hx1 hnx1
      repeat ((first | refine W.seqR rfl ?_ | refine W.seq ?_ | refine W.regR rfl ?_ | refine W.condK ?_ | refine W.block ?_ | refine W.skip ?_ | refine W.ret ?_ | refine W.exit ?_); try simp (maxSteps := 1000000) (disch := (first | omega | (simp only [World.size_alloc, size_wr, size_drew] <;> omega) | exact not_noB _)) only [go_sem, ↓reduceIte, n0, reduceCtorEq, n1, n2, n3, n4, n5, i0, i1, i2, i3, i4, i5, i6, i7, hv_7, hx1_7, Int.toNat_natCast, Nat.mul_one, hq1_0, hq1_1, hq1_2, hq1_3, hq1_4, hr1_1, hr1_0, hr1_5, hr1_6, hI1, hN1, hS1])
      have hTk7 : TagsM (OkS okM w.heap.size) w7 (.map qme1) y1.u := (hTe1.weaken fun b h1 h2 => ⟨h2, h1⟩).keep (ha7.upd.keeps fun b hb hk => hd b hb hk.1)
      refine (TagsLen_fn (ok := OkS okM w.heap.size) w7 hx1_7 (to := o1 + (j1 * 5 + 4)) hq1_4 hTk7).mono ?_
      rintro _ w7' ⟨rfl, rfl⟩
      have hul7 : y1.u.length ≤ 32767 := hfue1.1
      have ew7 : IntKind.u32.wrap (y1.u.length : Int) = y1.u.length := u32_wrap (by omega)
      have ez7 : IntKind.u32.wrap (0 + (y1.u.length : Int)) = y1.u.length := by rw [Int.zero_add, u32_wrap (by omega)]
      simp (maxSteps := 1000000) (disch := (first | omega | (simp only [World.size_alloc, size_wr, size_drew] <;> omega) | exact not_noB _)) only [go_sem, ↓reduceIte, n0, reduceCtorEq, n1, n2, n3, n4, n5, i0, i1, i2, i3, i4, i5, i6, i7, hv_7, hx1_7, Int.toNat_natCast, Nat.mul_one, hq1_0, hq1_1, hq1_2, hq1_3, hq1_4, hr1_1, hr1_0, hr1_5, hr1_6, hI1, hN1, hS1, ew7, ez7]
      refine (AppendUvarint_fn _ _ _ ha7.own hB7 y1.u.length (by omega) (by simp only [List.length_append, List.length_nil]; omega)).mono ?_
      rintro r8 w8 hc8
      rw [← hXUe1] at hc8
      have ha8 := ha7.trans hc8
      have hB8 : B ≤ w8.heap.size := Nat.le_trans hB ha8.upd.size
      have hv_8 := ha8.upd.blk_some hv hdv
      have hx1_8 := ha8.upd.blk_some hx1 hnx1
      repeat ((first | refine W.seqR rfl ?_ | refine W.seq ?_ | refine W.regR rfl ?_ | refine W.condK ?_ | refine W.block ?_ | refine W.skip ?_ | refine W.ret ?_ | refine W.exit ?_); try simp (maxSteps := 1000000) (disch := (first | omega | (simp only [World.size_alloc, size_wr, size_drew] <;> omega) | exact not_noB _)) only [go_sem, ↓reduceIte, n0, reduceCtorEq, n1, n2, n3, n4, n5, i0, i1, i2, i3, i4, i5, i6, i7, hv_8, hx1_8, Int.toNat_natCast, Nat.mul_one, hq1_0, hq1_1, hq1_2, hq1_3, hq1_4, hr1_1, hr1_0, hr1_5, hr1_6, hI1, hN1, hS1])
      have hTk8 : TagsM (OkS okM w.heap.size) w8 (.map qme1) y1.u := (hTe1.weaken fun b h1 h2 => ⟨h2, h1⟩).keep (ha8.upd.keeps fun b hb hk => hd b hb hk.1)
      refine (AppendEach_fn (ok := OkS okM w.heap.size) _ _ _ ha8.own hB8 hx1_8 (to := o1 + (j1 * 5 + 4)) hq1_4 hTk8 (rising_keys hfue1) hfue1.1 (tags_small hfue1 hTk8) (hdK ha8) (ownK ha8 (blk_lt hx1) hnx1) (by simp only [List.length_append, List.length_nil]; omega)).mono ?_
      rintro r9 w9 hc9
      rw [← hXTe1] at hc9
      have ha9 := ha8.trans hc9
      have hB9 : B ≤ w9.heap.size := Nat.le_trans hB ha9.upd.size
      have hv_9 := ha9.upd.blk_some hv hdv
      have hx1_9 := ha9.upd.blk_some hx1 hnx1
      repeat ((first | refine W.seqR rfl ?_ | refine W.seq ?_ | refine W.regR rfl ?_ | refine W.condK ?_ | refine W.block ?_ | refine W.skip ?_ | refine W.ret ?_ | refine W.exit ?_); try simp (maxSteps := 1000000) (disch := (first | omega | (simp only [World.size_alloc, size_wr, size_drew] <;> omega) | exact not_noB _)) only [go_sem, ↓reduceIte, n0, reduceCtorEq, n1, n2, n3, n4, n5, i0, i1, i2, i3, i4, i5, i6, i7, hr1_1, hr1_0, hr1_5, hr1_6, hI1, hN1, hS1])
      refine ⟨⟨j1 + 1, _, by omega, rfl, rfl, ha9.eqs ?_⟩, ?_⟩
      · rw [hcat1, List.flatMap_append, List.flatMap_cons, List.flatMap_nil, List.append_nil, ← hTT1, hPe1]; simp only [List.append_assoc, List.append_nil, List.nil_append]
      · simp only [RowKit.intOf]; omega
    · have hjl1 : j1 = (t.at 1).l.length := by omega
      subst hjl1
      rw [List.take_length, ← hXE_1] at ha3
      repeat ((first | refine W.seqR rfl ?_ | refine W.seq ?_ | refine W.regR rfl ?_ | refine W.condK ?_ | refine W.block ?_ | refine W.skip ?_ | refine W.ret ?_ | refine W.exit ?_); try simp (maxSteps := 1000000) (disch := (first | omega | (simp only [World.size_alloc, size_wr, size_drew] <;> omega) | exact not_noB _)) only [go_sem, ↓reduceIte, n0, reduceCtorEq, n1, n2, n3, n4, n5, i0, i1, i2, i3, i4, i5, i6, i7, hI1, hN1])
      exact ⟨_, hr1_1, hr1_0, hr1_5, hr1_6, ha3⟩
  · rintro ρ w10 ⟨r10, hr1_2, hr2_0, hr2_5, hr2_6, ha10⟩
    have hB10 : B ≤ w10.heap.size := Nat.le_trans hB ha10.upd.size
    have hv_10 := ha10.upd.blk_some hv hdv
    repeat ((first | refine W.seqR rfl ?_ | refine W.seq ?_ | refine W.regR rfl ?_ | refine W.condK ?_ | refine W.block ?_ | refine W.skip ?_ | refine W.ret ?_ | refine W.exit ?_); try simp (maxSteps := 1000000) (disch := (first | omega | (simp only [World.size_alloc, size_wr, size_drew] <;> omega) | exact not_noB _)) only [go_sem, ↓reduceIte, n0, reduceCtorEq, n1, n2, n3, n4, n5, i0, i1, i2, i3, i4, i5, i6, i7, hv_10, hr1_2, hr2_0, hr2_5, hr2_6])
    have hTk10 : TagsM (OkS okM w.heap.size) w10 (.map qm) t.u := (hT.weaken fun b h1 h2 => ⟨h2, h1⟩).keep (ha10.upd.keeps fun b hb hk => hd b hb hk.1)
    refine (TagsLen_fn (ok := OkS okM w.heap.size) w10 hv_10 (to := 3) (show (#[.int .i16 ver, .int .i32 (IntKind.i32.wrap (t.at 0).n), .slice ab_1 (t.at 1).l.length ac_1, .map qm] : Array Value)[3]? = some (.map qm) from rfl) hTk10).mono ?_
    rintro _ w10' ⟨rfl, rfl⟩
    have hul10 : t.u.length ≤ 32767 := hfu.1
    have ew10 : IntKind.u32.wrap (t.u.length : Int) = t.u.length := u32_wrap (by omega)
    have ez10 : IntKind.u32.wrap (0 + (t.u.length : Int)) = t.u.length := by rw [Int.zero_add, u32_wrap (by omega)]
    simp (maxSteps := 1000000) (disch := (first | omega | (simp only [World.size_alloc, size_wr, size_drew] <;> omega) | exact not_noB _)) only [go_sem, ↓reduceIte, n0, reduceCtorEq, n1, n2, n3, n4, n5, i0, i1, i2, i3, i4, i5, i6, i7, hv_10, hr1_2, hr2_0, hr2_5, hr2_6, ew10, ez10]
    refine (AppendUvarint_fn _ _ _ ha10.own hB10 t.u.length (by omega) (by simp only [List.length_append, List.length_nil]; omega)).mono ?_
    rintro r11 w11 hc11
    rw [← hXU] at hc11
    have ha11 := ha10.trans hc11
    have hB11 : B ≤ w11.heap.size := Nat.le_trans hB ha11.upd.size
    have hv_11 := ha11.upd.blk_some hv hdv
    repeat ((first | refine W.seqR rfl ?_ | refine W.seq ?_ | refine W.regR rfl ?_ | refine W.condK ?_ | refine W.block ?_ | refine W.skip ?_ | refine W.ret ?_ | refine W.exit ?_); try simp (maxSteps := 1000000) (disch := (first | omega | (simp only [World.size_alloc, size_wr, size_drew] <;> omega) | exact not_noB _)) only [go_sem, ↓reduceIte, n0, reduceCtorEq, n1, n2, n3, n4, n5, i0, i1, i2, i3, i4, i5, i6, i7, hv_11, hr1_2, hr2_0, hr2_5, hr2_6])
    have hTk11 : TagsM (OkS okM w.heap.size) w11 (.map qm) t.u := (hT.weaken fun b h1 h2 => ⟨h2, h1⟩).keep (ha11.upd.keeps fun b hb hk => hd b hb hk.1)
    refine (AppendEach_fn (ok := OkS okM w.heap.size) _ _ _ ha11.own hB11 hv_11 (to := 3) (show (#[.int .i16 ver, .int .i32 (IntKind.i32.wrap (t.at 0).n), .slice ab_1 (t.at 1).l.length ac_1, .map qm] : Array Value)[3]? = some (.map qm) from rfl) hTk11 (rising_keys hfu) hfu.1 (tags_small hfu hTk11) (hdK ha11) (ownK ha11 (blk_lt hv) hdv) (by simp only [List.length_append, List.length_nil]; omega)).mono ?_
    rintro r12 w12 hc12
    rw [← hXT] at hc12
    have ha12 := ha11.trans hc12
    have hB12 : B ≤ w12.heap.size := Nat.le_trans hB ha12.upd.size
    have hv_12 := ha12.upd.blk_some hv hdv
    repeat ((first | refine W.seqR rfl ?_ | refine W.seq ?_ | refine W.regR rfl ?_ | refine W.condK ?_ | refine W.block ?_ | refine W.skip ?_ | refine W.ret ?_ | refine W.exit ?_); try simp (maxSteps := 1000000) (disch := (first | omega | (simp only [World.size_alloc, size_wr, size_drew] <;> omega) | exact not_noB _)) only [go_sem, ↓reduceIte, n0, reduceCtorEq, n1, n2, n3, n4, n5, i0, i1, i2, i3, i4, i5, i6, i7, hv_12, hr1_2, hr2_0, hr2_5, hr2_6])
    refine ha12.eqs ?_
    rw [hP]; simp only [List.append_assoc, List.append_nil, List.nil_append]
end Ms

namespace Ms
open Nat renaming reduceEqDiff → n0, reduceAdd → n1, reduceMul → n2, reduceSub → n3, reduceLT → n4, reduceLeDiff → n5
open Int renaming reduceEq → i0, reduceLT → i1, reduceLE → i2, reduceNeg → i3, reduceAdd → i4, reduceSub → i5, reduceMul → i6, reduceToNat → i7
set_option maxRecDepth 8000
open Go Go.Proofs Go.Shelf
attribute [local congr] W_congr WPsq_congr WPp_congr optK_congr addrK_congr intK_congr boolK_congr sliceK_congr tupleK_congr funcK_congr Fn_congr rawK_congr takeK_congr stepK_congr convK_congr aggK_congr

set_option maxHeartbeats 2000000 in
theorem BehindAlterConfigsResponse_fn {d : Nat} {ok : Blocks} {ev : Value} (ver : Nat) (hv : ver ≤ 2) (t : Tree) (dst b : Value) (D : List UInt8) (w : World) (hd : BytesV ok w dst D) (hb : BytesV ok w b (partS (d + 2) fs_AlterConfigsResponse ver (flexB 2 ver) t)) (hG : Glo ev w) (hrd : rdP (d + 2) ver (flexB 2 ver) fs_AlterConfigsResponse (some (partS (d + 2) fs_AlterConfigsResponse ver (flexB 2 ver) t)) = (cnP (d + 2) ver (flexB 2 ver) fs_AlterConfigsResponse t, some []))
    (hcn : partS (d + 2) fs_AlterConfigsResponse ver (flexB 2 ver) (cnP (d + 2) ver (flexB 2 ver) fs_AlterConfigsResponse t) = (partS (d + 2) fs_AlterConfigsResponse ver (flexB 2 ver) t) ∧ FitW ver (d + 2) fs_AlterConfigsResponse (cnP (d + 2) ver (flexB 2 ver) fs_AlterConfigsResponse t)) (hD : D.length ≤ 1000) (hl : (partS (d + 2) fs_AlterConfigsResponse ver (flexB 2 ver) t).length ≤ 2 ^ 40) :
    Fn Tryz.prog 25 #[.int .i64 ver, dst, b] w fun r w' => (∃ v, r = .tuple #[v, .bool true] ∧ OwnBy 5 w.heap.size w' v (D ++ (partS (d + 2) fs_AlterConfigsResponse ver (flexB 2 ver) t))) ∧ Ext w w' := by
  obtain ⟨da, dc, rfl, _⟩ := hd.shape
  obtain ⟨ba, bc, rfl, _⟩ := hb.shape
  have hgl := hG.lt
  have ew : IntKind.i16.wrap (ver : Int) = ver := i16_wrap (by omega)
  refine fn_of_W Tryz.func25 rfl Tryz.results25 Tryz.ntmps25 rfl ?_
  repeat ((first | refine W.seqR rfl ?_ | refine W.seq ?_ | refine W.regR rfl ?_ | refine W.condK ?_ | refine W.block ?_ | refine W.skip ?_ | refine W.ret ?_ | refine W.exit ?_); try simp (maxSteps := 1000000) (disch := (first | omega | (simp only [World.size_alloc, size_wr, size_drew] <;> omega) | exact not_noB _)) only [go_sem, ↓reduceIte, n0, reduceCtorEq, n1, n2, n3, n4, n5, i0, i1, i2, i3, i4, i5, i6, i7, ew])
  refine (NewPtrAlterConfigsResponse_fn w).mono ?_
  rintro _ w1 ⟨rfl, hb1, hE1⟩
  have hz1 := blk_lt hb1
  repeat ((first | refine W.seqR rfl ?_ | refine W.seq ?_ | refine W.regR rfl ?_ | refine W.condK ?_ | refine W.block ?_ | refine W.skip ?_ | refine W.ret ?_ | refine W.exit ?_); try simp (maxSteps := 1000000) (disch := (first | omega | (simp only [World.size_alloc, size_wr, size_drew] <;> omega) | exact not_noB _)) only [go_sem, ↓reduceIte, n0, reduceCtorEq, n1, n2, n3, n4, n5, i0, i1, i2, i3, i4, i5, i6, i7, ew])
  refine (SetVersionAlterConfigsResponse_fn w1 (vb := w.heap.size) ver hb1).mono ?_
  rintro _ w2 ⟨hb2, hU2⟩
  have hz2 := hU2.size
  have hE2 : Ext w w2 := hE1.more hU2 fun b hb h => by omega
  repeat ((first | refine W.seqR rfl ?_ | refine W.seq ?_ | refine W.regR rfl ?_ | refine W.condK ?_ | refine W.block ?_ | refine W.skip ?_ | refine W.ret ?_ | refine W.exit ?_); try simp (maxSteps := 1000000) (disch := (first | omega | (simp only [World.size_alloc, size_wr, size_drew] <;> omega) | exact not_noB _)) only [go_sem, ↓reduceIte, n0, reduceCtorEq, n1, n2, n3, n4, n5, i0, i1, i2, i3, i4, i5, i6, i7, ew])
  refine wp_copyN ap_22_22 (ok := ok) (s := (partS (d + 2) fs_AlterConfigsResponse ver (flexB 2 ver) t)) (v := .slice ba _ bc) (by first | rfl | simp (maxSteps := 1000000) (disch := (first | omega | (simp only [World.size_alloc, size_wr, size_drew] <;> omega) | exact not_noB _)) only [go_sem, ↓reduceIte, n0, reduceCtorEq, n1, n2, n3, n4, n5, i0, i1, i2, i3, i4, i5, i6, i7]) (by first | rfl | simp (maxSteps := 1000000) (disch := (first | omega | (simp only [World.size_alloc, size_wr, size_drew] <;> omega) | exact not_noB _)) only [go_sem, ↓reduceIte, n0, reduceCtorEq, n1, n2, n3, n4, n5, i0, i1, i2, i3, i4, i5, i6, i7]) (hb.keep (hE2.keeps _)) (by omega) ?_
  intro v3 w3 ho3 hE3 hf3
  have hz3 := hE3.size
  have hb3 := hE3.blk_some hb2 id
  have hG3 : Glo ev w3 := hG.updS (hE2.trans hE3) id id
  obtain ⟨a3, c3, rfl, _⟩ := ho3.shape
  simp (maxSteps := 1000000) (disch := (first | omega | (simp only [World.size_alloc, size_wr, size_drew] <;> omega) | exact not_noB _)) only [go_sem, ↓reduceIte, n0, reduceCtorEq, n1, n2, n3, n4, n5, i0, i1, i2, i3, i4, i5, i6, i7]
  refine (ReadFromAlterConfigsResponse_fn (d := d) (ok := fun b => b < w3.heap.size ∧ b ≠ w.heap.size) (ev := ev) (ver := ver) (by omega) (by omega) w3 _ _ hb3 ((Own.bytes ho3 hf3).weaken fun b hb hk => ⟨hb, by omega⟩) (fun b hb => hb) hG3 ⟨by omega, by omega⟩).mono ?_
  rintro r4 w4 ⟨_, h4, hU4⟩
  rw [hrd] at h4
  obtain ⟨rfl, cells, hb4, hR4⟩ := h4 (by simp)
  have hz4 := hU4.size
  have hE4 : Ext w w4 := (hE2.trans hE3).more hU4 fun b hb h => by omega
  have hR4' : RepS true (d + 2) fs_AlterConfigsResponse (fun b => b < w4.heap.size) w4 (cnP (d + 2) ver (flexB 2 ver) fs_AlterConfigsResponse t) cells := (RepS_lay true (d + 2) fs_AlterConfigsResponse).weaken hR4 fun b hb _ => hb
  try simp (maxSteps := 1000000) (disch := (first | omega | (simp only [World.size_alloc, size_wr, size_drew] <;> omega) | exact not_noB _)) only [go_sem, ↓reduceIte, n0, reduceCtorEq, n1, n2, n3, n4, n5, i0, i1, i2, i3, i4, i5, i6, i7]
  repeat ((first | refine W.seqR rfl ?_ | refine W.seq ?_ | refine W.regR rfl ?_ | refine W.condK ?_ | refine W.block ?_ | refine W.skip ?_ | refine W.ret ?_ | refine W.exit ?_); try simp (maxSteps := 1000000) (disch := (first | omega | (simp only [World.size_alloc, size_wr, size_drew] <;> omega) | exact not_noB _)) only [go_sem, ↓reduceIte, n0, reduceCtorEq, n1, n2, n3, n4, n5, i0, i1, i2, i3, i4, i5, i6, i7])
  refine wp_copyN ap_22_22 (ok := ok) (s := D) (v := .slice da _ dc) (by first | rfl | simp (maxSteps := 1000000) (disch := (first | omega | (simp only [World.size_alloc, size_wr, size_drew] <;> omega) | exact not_noB _)) only [go_sem, ↓reduceIte, n0, reduceCtorEq, n1, n2, n3, n4, n5, i0, i1, i2, i3, i4, i5, i6, i7]) (by first | rfl | simp (maxSteps := 1000000) (disch := (first | omega | (simp only [World.size_alloc, size_wr, size_drew] <;> omega) | exact not_noB _)) only [go_sem, ↓reduceIte, n0, reduceCtorEq, n1, n2, n3, n4, n5, i0, i1, i2, i3, i4, i5, i6, i7]) (hd.keep (hE4.keeps _)) (by omega) ?_
  intro v5 w5 ho5 hE5 hf5
  have hz5 := hE5.size
  have hb5 := hE5.blk_some hb4 id
  have hR5 := (RepS_lay true (d + 2) fs_AlterConfigsResponse).keep hR4' (hE5.keeps _)
  obtain ⟨a5, c5, rfl, _⟩ := ho5.shape
  simp (maxSteps := 1000000) (disch := (first | omega | (simp only [World.size_alloc, size_wr, size_drew] <;> omega) | exact not_noB _)) only [go_sem, ↓reduceIte, n0, reduceCtorEq, n1, n2, n3, n4, n5, i0, i1, i2, i3, i4, i5, i6, i7]
  have hcl : (0 ≤ (ver : Int) ∧ (ver : Int) ≤ 1) ∨ (2 ≤ (ver : Int) ∧ (ver : Int) ≤ 2) := by omega
  rcases hcl with ⟨h1, h2⟩ | ⟨h1, h2⟩
  · have hfl : flexB 2 ver = false := by simp only [flexB, Bool.and_eq_false_iff, decide_eq_false_iff_not]; omega
    rw [hfl] at hcn hR5 hl ⊢
    refine (appAlterConfigsResponse_0 (d := d) (B := w.heap.size) h1 h2 _ cells _ D w5 (Own.mono ho5 (by omega)) (by omega) hb5 hR5 hcn.2 (fun b _ h1 h2 => by have := hf5 b h2; omega) (fun h => by have := hf5 _ h; omega) (by rw [hcn.1]; omega)).mono ?_
    rintro r6 w6 h6
    repeat ((first | refine W.seqR rfl ?_ | refine W.seq ?_ | refine W.regR rfl ?_ | refine W.condK ?_ | refine W.block ?_ | refine W.skip ?_ | refine W.ret ?_ | refine W.exit ?_); try simp (maxSteps := 1000000) (disch := (first | omega | (simp only [World.size_alloc, size_wr, size_drew] <;> omega) | exact not_noB _)) only [go_sem, ↓reduceIte, n0, reduceCtorEq, n1, n2, n3, n4, n5, i0, i1, i2, i3, i4, i5, i6, i7])
    refine ⟨by have := h6.own; rw [hcn.1] at this; exact ⟨_, rfl, this⟩, (hE4.trans hE5).more h6.upd fun b hb h => by have := hf5 b h; omega⟩
  · have hfl : flexB 2 ver = true := by simp only [flexB, Bool.and_eq_true, decide_eq_true_eq]; omega
    rw [hfl] at hcn hR5 hl ⊢
    refine (appAlterConfigsResponse_1 (d := d) (B := w.heap.size) h1 h2 _ cells _ D w5 (Own.mono ho5 (by omega)) (by omega) hb5 hR5 hcn.2 (fun b _ h1 h2 => by have := hf5 b h2; omega) (fun h => by have := hf5 _ h; omega) (by rw [hcn.1]; omega)).mono ?_
    rintro r6 w6 h6
    repeat ((first | refine W.seqR rfl ?_ | refine W.seq ?_ | refine W.regR rfl ?_ | refine W.condK ?_ | refine W.block ?_ | refine W.skip ?_ | refine W.ret ?_ | refine W.exit ?_); try simp (maxSteps := 1000000) (disch := (first | omega | (simp only [World.size_alloc, size_wr, size_drew] <;> omega) | exact not_noB _)) only [go_sem, ↓reduceIte, n0, reduceCtorEq, n1, n2, n3, n4, n5, i0, i1, i2, i3, i4, i5, i6, i7])
    refine ⟨by have := h6.own; rw [hcn.1] at this; exact ⟨_, rfl, this⟩, (hE4.trans hE5).more h6.upd fun b hb h => by have := hf5 b h; omega⟩

end Ms

