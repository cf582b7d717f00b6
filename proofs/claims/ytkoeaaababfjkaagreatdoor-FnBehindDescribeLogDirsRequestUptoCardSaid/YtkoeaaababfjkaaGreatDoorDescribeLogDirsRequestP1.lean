/- A part of the proof: see the last text. -/
import Derived.Test.YtkoeaaababfjkaaGreatDoorC03
import Derived.Test.YtkoeaaababfjkaaGreatDoorC07
import Derived.Test.YtkoeaaababfjkaaGreatDoorDescribeLogDirsRequestP0
set_option linter.unusedSimpArgs false
set_option linter.unusedVariables false
namespace Ms
open Nat renaming reduceEqDiff → n0, reduceAdd → n1, reduceMul → n2, reduceSub → n3, reduceLT → n4, reduceLeDiff → n5
open Int renaming reduceEq → i0, reduceLT → i1, reduceLE → i2, reduceNeg → i3, reduceAdd → i4, reduceSub → i5, reduceMul → i6, reduceToNat → i7
set_option maxRecDepth 8000
open Go Go.Proofs Go.Shelf
attribute [local congr] W_congr WPsq_congr WPp_congr optK_congr addrK_congr intK_congr boolK_congr sliceK_congr tupleK_congr funcK_congr Fn_congr rawK_congr takeK_congr stepK_congr convK_congr aggK_congr

set_option maxHeartbeats 4000000 in
theorem readDescribeLogDirsRequest_1 {d : Nat} {ok : Blocks} {ver : Int} {ev : Value} (hlo : 2 ≤ ver) (hhi : ver ≤ 5) (w : World) {vb : Nat} (src : Value) (s : List UInt8) (hv : blk w vb = some (#[.int .i16 ver, .slice none 0 0, .map none], 94, (0, 0))) (hsrc : BytesV ok w src s) (hok0 : ∀ b, ok b → b < w.heap.size ∧ b ≠ vb) (hG : Glo ev w) (hgv : ¬ 0 = vb ∧ ¬ 1 = vb) :
    Fn Tryz.prog 99 #[.pointer (some ⟨vb, 0, none⟩), src, .bool false] w (ReadQ 94 ok ver (d + 2) fs_DescribeLogDirsRequest vb w (rdP (d + 2) ver true fs_DescribeLogDirsRequest (some s)) ev) := by
  have hvl := blk_lt hv
  have hgs := hG.lt
  obtain ⟨sa, sc, rfl, _⟩ := hsrc.shape
  refine fn_of_W Tryz.func99 rfl Tryz.results99 Tryz.ntmps99 rfl ?_
  repeat ((first | refine W.seqR rfl ?_ | refine W.seq ?_ | refine W.regR rfl ?_ | refine W.condK ?_ | refine W.block ?_ | refine W.skip ?_ | refine W.ret ?_ | refine W.exit ?_); try simp (maxSteps := 1000000) (disch := (first | omega | (simp only [World.size_alloc, size_wr, size_drew] <;> omega) | exact not_noB _)) only [go_sem, ↓reduceIte, n0, reduceCtorEq, n1, n2, n3, n4, n5, i0, i1, i2, i3, i4, i5, i6, i7, hv])
  refine (DefaultDescribeLogDirsRequest_fn w hv).mono ?_
  rintro _ w0 ⟨hv0, hu0⟩
  have hz0 := hu0.size
  have hsrc0 : BytesV ok w0 (.slice sa s.length sc) s := hsrc.keep (hu0.keeps fun b _ hk e => (hok0 b hk).2 e)
  obtain ⟨rb, hrb⟩ : ∃ r, r = w0.heap.size := ⟨_, rfl⟩
  have hE1 : Ext w0 (wr (w0.alloc (.cells #[.slice none 0 0, .bool false] 153)) w0.heap.size 0 [.slice sa s.length sc, .bool false]) := (Upd.alloc (Upd.refl _ _) _).wr _ _ (.inl (Nat.le_refl _))
  have hz1 : (wr (w0.alloc (.cells #[.slice none 0 0, .bool false] 153)) w0.heap.size 0 [.slice sa s.length sc, .bool false]).heap.size = w0.heap.size + 1 := by rw [size_wr, World.size_alloc]
  have hR1 : Rdr RT ok (wr (w0.alloc (.cells #[.slice none 0 0, .bool false] 153)) w0.heap.size 0 [.slice sa s.length sc, .bool false]) w0.heap.size (some s) := Rdr.good (v := .slice sa s.length sc) (by simp (maxSteps := 1000000) (disch := (first | omega | (simp only [World.size_alloc, size_wr, size_drew] <;> omega) | exact not_noB _)) only [go_sem, ↓reduceIte, n0, reduceCtorEq, n1, n2, n3, n4, n5, i0, i1, i2, i3, i4, i5, i6, i7]) (hsrc0.keep (hE1.keeps _))
  have hv_1 := hE1.blk_some hv0 id
  repeat ((first | refine W.seqR rfl ?_ | refine W.seq ?_ | refine W.regR rfl ?_ | refine W.condK ?_ | refine W.block ?_ | refine W.skip ?_ | refine W.ret ?_ | refine W.exit ?_); try simp (maxSteps := 1000000) (disch := (first | omega | (simp only [World.size_alloc, size_wr, size_drew] <;> omega) | exact not_noB _)) only [go_sem, ↓reduceIte, n0, reduceCtorEq, n1, n2, n3, n4, n5, i0, i1, i2, i3, i4, i5, i6, i7, hv0])
  generalize (wr (w0.alloc (.cells #[.slice none 0 0, .bool false] 153)) w0.heap.size 0 [.slice sa s.length sc, .bool false]) = w1 at *
  rw [← hrb] at hR1
  try rw [← hrb]
  have hok : ∀ b, ok b → b < w.heap.size ∧ b ≠ vb := hok0
  have hrok : ¬ ok rb := fun h => by have := (hok rb h).1; omega
  have hbase : Upd (fun b => b = vb) w w1 := hu0.trans (hE1.mono fun _ h => h.elim)
  have hG1 : Glo ev w1 := hG.updS hbase hgv.1 hgv.2
  have hgrb : ¬ 0 = rb := by omega
  have hgM1 : ¬ (0 = vb ∨ 0 = rb) := fun h => h.elim hgv.1 fun h => by omega
  have hgM2 : ¬ (1 = vb ∨ 1 = rb) := fun h => h.elim hgv.2 fun h => by omega
  obtain ⟨s0, hs0⟩ : ∃ s' : St, s' = some s := ⟨_, rfl⟩
  rw [← hs0] at hR1 ⊢
  have hU1 : Upd (fun b => b = vb ∨ b = rb) w1 w1 := Upd.refl _ _
  have hoM : ∀ b, (ok b ∨ w1.heap.size ≤ b) → ¬ (b = vb ∨ b = rb) := fun b hk h => by
    rcases hk with hk | hk
    · have := hok b hk; rcases h with h | h <;> omega
    · rcases h with h | h <;> omega
  have hq1 : Rdr RT ok w1 rb s0 := hR1
  obtain ⟨FB, hFB⟩ : ∃ P : Prop, P = ((rdP (d + 2) ver true fs_DescribeLogDirsRequest s0).2 = none) := ⟨_, rfl⟩
  have hb_0 : (rdL (rdP (d + 1) ver true) (dfP (d + 1)) ver true [fDescribeLogDirsRequest_0] s0).2 = none → FB := fun h => Eq.mpr hFB (rdP_bad h)
  have hh_0 : hasS fDescribeLogDirsRequest_0 ver = true := hasS_t (by show (0 : Int) ≤ ver; omega) (by show (-1 : Int) < 0 ∨ ver ≤ (-1 : Int); omega)
  obtain ⟨x_0, hx_0⟩ : ∃ x, x = (rdF (rdP (d + 1) ver true) ver true fDescribeLogDirsRequest_0 s0).1 := ⟨_, rfl⟩
  repeat ((first | refine W.seqR rfl ?_ | refine W.seq ?_ | refine W.regR rfl ?_ | refine W.condK ?_ | refine W.block ?_ | refine W.skip ?_ | refine W.ret ?_ | refine W.exit ?_); try simp (maxSteps := 1000000) (disch := (first | omega | (simp only [World.size_alloc, size_wr, size_drew] <;> omega) | exact not_noB _)) only [go_sem, ↓reduceIte, n0, reduceCtorEq, n1, n2, n3, n4, n5, i0, i1, i2, i3, i4, i5, i6, i7, hv_1])
  refine (RCompactArrayLen_fn w1 hq1 hrok hG1.1 hgrb).mono ?_
  rintro _ w2 ⟨rfl, hq2, hu2⟩
  have hv_2 := hu2.blk_some hv_1 (by omega)
  have hV2 : Upd (fun b => b = vb ∨ b = rb) w1 w2 := hu2.mono (fun _ h => .inr h)
  have hU2 : Upd (fun b => b = vb ∨ b = rb) w1 w2 := hU1.trans hV2
  have hz2 := hV2.size
  have hG2 : Glo ev w2 := hG1.updS hU2 hgM1 hgM2
  obtain ⟨s1, hs1⟩ : ∃ s, s = (rdALen true s0).2 := ⟨_, rfl⟩
  rw [← hs1] at hq2
  have hyr0 := rdALen_rng true s0
  generalize hy0 : (rdALen true s0).1 = y0 at *
  obtain ⟨N0, hN0⟩ : ∃ N, N = y0.toNat := ⟨_, rfl⟩
  have hlb0 : (rdMany (rd1 (rdP (d + 1) ver true) fDescribeLogDirsRequest_0.of fDescribeLogDirsRequest_0.sub false true) N0 s1).2 = none → FB := fun h => hb_0 (by rw [rdL_st (by decide) hh_0]; exact rdL_bad (rdF_listbad rfl (by rw [hy0, ← hN0, ← hs1]; exact h)))
  repeat ((first | refine W.seqR rfl ?_ | refine W.seq ?_ | refine W.regR rfl ?_ | refine W.block ?_ | refine W.skip ?_ | refine W.ret ?_ | refine W.exit ?_); try simp (maxSteps := 1000000) (disch := (first | omega | (simp only [World.size_alloc, size_wr, size_drew] <;> omega) | exact not_noB _)) only [go_sem, ↓reduceIte, n0, reduceCtorEq, n1, n2, n3, n4, n5, i0, i1, i2, i3, i4, i5, i6, i7, hv_2])
  refine W.normJ (RowQ [(2, .bool false), (7, .pointer (some ⟨rb, 0, none⟩)), (8, .int .i16 ver), (9, .bool true), (10, .pointer (some ⟨vb, 0, none⟩)), (13, .int .i32 y0)] 12 (fun va w' => ∃ a0, va = .slice a0 0 0 ∧ Ext w2 w' ∧ (∀ x, a0 = some x → w2.heap.size ≤ x.block ∧ x.block < w'.heap.size) ∧ (N0 = 0 → if nilS fDescribeLogDirsRequest_0 ver y0 = true then va = .slice none 0 0 else ∃ a, va = .slice (some a) 0 0))) ?_ ?_
  · by_cases hye : y0 = 0
    · repeat ((first | refine W.seqR rfl ?_ | refine W.seq ?_ | refine W.regR rfl ?_ | refine W.condK ?_ | refine W.block ?_ | refine W.skip ?_ | refine W.ret ?_ | refine W.exit ?_); try simp (maxSteps := 1000000) (disch := (first | omega | (simp only [World.size_alloc, size_wr, size_drew] <;> omega) | exact not_noB _)) only [go_sem, ↓reduceIte, n0, reduceCtorEq, n1, n2, n3, n4, n5, i0, i1, i2, i3, i4, i5, i6, i7, hv_2, hye])
      exact ⟨(by simp (maxSteps := 1000000) (disch := (first | omega | (simp only [World.size_alloc, size_wr, size_drew] <;> omega) | exact not_noB _)) only [go_sem, ↓reduceIte, n0, reduceCtorEq, n1, n2, n3, n4, n5, i0, i1, i2, i3, i4, i5, i6, i7, Holds_nil, Holds_cons, hye]), .slice (some ⟨w2.heap.size, 0, none⟩) 0 0, (by simp (maxSteps := 1000000) (disch := (first | omega | (simp only [World.size_alloc, size_wr, size_drew] <;> omega) | exact not_noB _)) only [go_sem, ↓reduceIte, n0, reduceCtorEq, n1, n2, n3, n4, n5, i0, i1, i2, i3, i4, i5, i6, i7]), some ⟨w2.heap.size, 0, none⟩, rfl, (Upd.alloc (Upd.refl _ _) _ : Ext _ _), (fun x hx => by cases hx; exact ⟨Nat.le_refl _, by simp only [World.size_alloc]; omega⟩), (fun _ => by rw [nilS_may (by decide) (by show (0 : Int) ≤ ver; omega), decide_eq_false (by omega)]; exact ⟨_, rfl⟩)⟩
    · repeat ((first | refine W.seqR rfl ?_ | refine W.seq ?_ | refine W.regR rfl ?_ | refine W.condK ?_ | refine W.block ?_ | refine W.skip ?_ | refine W.ret ?_ | refine W.exit ?_); try simp (maxSteps := 1000000) (disch := (first | omega | (simp only [World.size_alloc, size_wr, size_drew] <;> omega) | exact not_noB _)) only [go_sem, ↓reduceIte, n0, reduceCtorEq, n1, n2, n3, n4, n5, i0, i1, i2, i3, i4, i5, i6, i7, hv_2, hye])
      exact ⟨(by simp (maxSteps := 1000000) (disch := (first | omega | (simp only [World.size_alloc, size_wr, size_drew] <;> omega) | exact not_noB _)) only [go_sem, ↓reduceIte, n0, reduceCtorEq, n1, n2, n3, n4, n5, i0, i1, i2, i3, i4, i5, i6, i7, Holds_nil, Holds_cons, hye]), .slice none 0 0, (by simp (maxSteps := 1000000) (disch := (first | omega | (simp only [World.size_alloc, size_wr, size_drew] <;> omega) | exact not_noB _)) only [go_sem, ↓reduceIte, n0, reduceCtorEq, n1, n2, n3, n4, n5, i0, i1, i2, i3, i4, i5, i6, i7]), none, rfl, Upd.refl _ _, (fun x hx => by cases hx), (fun _ => by rw [nilS_may (by decide) (by show (0 : Int) ≤ ver; omega), decide_eq_true (by omega)]; exact rfl)⟩
  rintro ρ w3 ⟨⟨hrn0_2, hrn0_7, hrn0_8, hrn0_9, hrn0_10, hrn0_13, -⟩, va, hra0, a0, rfl, hEn0, hab0, hnl0⟩
  have hun3 : Upd (fun b => b = rb) w2 w3 := hEn0.mono fun _ h => h.elim
  have hq3 := And.intro (hq2.1.upd hEn0 (fun h => h) (fun _ _ _ h => h)) (hq2.2.upd hEn0 fun h => h)
  have hv_3 := hun3.blk_some hv_2 (by omega)
  have hV3 : Upd (fun b => b = vb ∨ b = rb) w2 w3 := hun3.mono (fun _ h => .inr h)
  have hU3 : Upd (fun b => b = vb ∨ b = rb) w1 w3 := hU2.trans hV3
  have hz3 := hV3.size
  have hG3 : Glo ev w3 := hG1.updS hU3 hgM1 hgM2
  repeat ((first | refine W.seqR rfl ?_ | refine W.seq ?_ | refine W.regR rfl ?_ | refine W.block ?_ | refine W.skip ?_ | refine W.ret ?_ | refine W.exit ?_); try simp (maxSteps := 1000000) (disch := (first | omega | (simp only [World.size_alloc, size_wr, size_drew] <;> omega) | exact not_noB _)) only [go_sem, ↓reduceIte, n0, reduceCtorEq, n1, n2, n3, n4, n5, i0, i1, i2, i3, i4, i5, i6, i7, hv_3, hrn0_2, hrn0_7, hrn0_8, hrn0_9, hrn0_10, hrn0_13, hra0])
  refine (ROk_fn w3 hq3.1).mono ?_
  rintro _ wz ⟨rfl, hez⟩
  rw [hez]
  clear hez wz
  by_cases hsn0 : s1 = none
  · have hso : s1.isSome = false := by rw [hsn0]; rfl
    try simp (maxSteps := 1000000) (disch := (first | omega | (simp only [World.size_alloc, size_wr, size_drew] <;> omega) | exact not_noB _)) only [go_sem, ↓reduceIte, n0, reduceCtorEq, n1, n2, n3, n4, n5, i0, i1, i2, i3, i4, i5, i6, i7, hv_3, hrn0_2, hrn0_7, hrn0_8, hrn0_9, hrn0_10, hrn0_13, hra0, hso]
    repeat ((first | refine W.seqR rfl ?_ | refine W.seq ?_ | refine W.regR rfl ?_ | refine W.condK ?_ | refine W.block ?_ | refine W.skip ?_ | refine W.ret ?_ | refine W.exit ?_); try simp (maxSteps := 1000000) (disch := (first | omega | (simp only [World.size_alloc, size_wr, size_drew] <;> omega) | exact not_noB _)) only [go_sem, ↓reduceIte, n0, reduceCtorEq, n1, n2, n3, n4, n5, i0, i1, i2, i3, i4, i5, i6, i7, hv_3, hrn0_2, hrn0_7, hrn0_8, hrn0_9, hrn0_10, hrn0_13, hra0, hso])
    refine (RComplete_fn w3 hq3.1 hG3.2).mono ?_
    rintro _ wz ⟨rfl, hez⟩
    rw [hez]
    try simp (maxSteps := 1000000) (disch := (first | omega | (simp only [World.size_alloc, size_wr, size_drew] <;> omega) | exact not_noB _)) only [go_sem, ↓reduceIte, n0, reduceCtorEq, n1, n2, n3, n4, n5, i0, i1, i2, i3, i4, i5, i6, i7, hv_3, hrn0_2, hrn0_7, hrn0_8, hrn0_9, hrn0_10, hrn0_13, hra0]
    repeat ((first | refine W.seqR rfl ?_ | refine W.seq ?_ | refine W.regR rfl ?_ | refine W.condK ?_ | refine W.block ?_ | refine W.skip ?_ | refine W.ret ?_ | refine W.exit ?_); try simp (maxSteps := 1000000) (disch := (first | omega | (simp only [World.size_alloc, size_wr, size_drew] <;> omega) | exact not_noB _)) only [go_sem, ↓reduceIte, n0, reduceCtorEq, n1, n2, n3, n4, n5, i0, i1, i2, i3, i4, i5, i6, i7, hv_3, hrn0_2, hrn0_7, hrn0_8, hrn0_9, hrn0_10, hrn0_13, hra0])
    rw [errV_none hsn0]
    exact ReadQ.bad (Eq.mp hFB (hlb0 (by rw [hsn0]; exact rdMany_none rd1P_none _))) (hbase.trans' hU3 fun i hi h => h.elim id fun h => by omega)
  have hso0 : s1.isSome = true := isSome_some hsn0
  try simp (maxSteps := 1000000) (disch := (first | omega | (simp only [World.size_alloc, size_wr, size_drew] <;> omega) | exact not_noB _)) only [go_sem, ↓reduceIte, n0, reduceCtorEq, n1, n2, n3, n4, n5, i0, i1, i2, i3, i4, i5, i6, i7, hv_3, hrn0_2, hrn0_7, hrn0_8, hrn0_9, hrn0_10, hrn0_13, hra0, hso0]
  repeat ((first | refine W.seqR rfl ?_ | refine W.seq ?_ | refine W.regR rfl ?_ | refine W.block ?_ | refine W.skip ?_ | refine W.ret ?_ | refine W.exit ?_); try simp (maxSteps := 1000000) (disch := (first | omega | (simp only [World.size_alloc, size_wr, size_drew] <;> omega) | exact not_noB _)) only [go_sem, ↓reduceIte, n0, reduceCtorEq, n1, n2, n3, n4, n5, i0, i1, i2, i3, i4, i5, i6, i7, hv_3, hrn0_2, hrn0_7, hrn0_8, hrn0_9, hrn0_10, hrn0_13, hra0, hso0])
  refine W.condK ?_
  try simp (maxSteps := 1000000) (disch := (first | omega | (simp only [World.size_alloc, size_wr, size_drew] <;> omega) | exact not_noB _)) only [go_sem, ↓reduceIte, n0, reduceCtorEq, n1, n2, n3, n4, n5, i0, i1, i2, i3, i4, i5, i6, i7, hv_3, hrn0_2, hrn0_7, hrn0_8, hrn0_9, hrn0_10, hrn0_13, hra0, hso0]
  repeat ((first | refine W.seqR rfl ?_ | refine W.seq ?_ | refine W.regR rfl ?_ | refine W.block ?_ | refine W.skip ?_ | refine W.ret ?_ | refine W.exit ?_); try simp (maxSteps := 1000000) (disch := (first | omega | (simp only [World.size_alloc, size_wr, size_drew] <;> omega) | exact not_noB _)) only [go_sem, ↓reduceIte, n0, reduceCtorEq, n1, n2, n3, n4, n5, i0, i1, i2, i3, i4, i5, i6, i7, hv_3, hrn0_2, hrn0_7, hrn0_8, hrn0_9, hrn0_10, hrn0_13, hra0, hso0, slBase_00])
  refine W.normJ (RowQ [(2, .bool false), (7, .pointer (some ⟨rb, 0, none⟩)), (8, .int .i16 ver), (9, .bool true), (10, .pointer (some ⟨vb, 0, none⟩)), (13, .int .i32 y0)] 12 (fun va w' => LstI RT (rd1 (rdP (d + 1) ver true) fDescribeLogDirsRequest_0.of fDescribeLogDirsRequest_0.sub false true) (Rep1 (RepS true (d + 1)) fDescribeLogDirsRequest_0.of fDescribeLogDirsRequest_0.sub) 3 99 [.string ByteArray.empty, .slice none 0 0, .map none] w2.heap.size N0 ok (fun b => ok b ∨ w1.heap.size ≤ b) rb w2 s1 va 0 s1 [] [] w' ∧ (N0 = 0 → if nilS fDescribeLogDirsRequest_0 ver y0 = true then va = .slice none 0 0 else ∃ a, va = .slice (some a) 0 0))) ?_ ?_
  · by_cases hy0 : (0 : Int) < y0
    · have hyv : Value.int .i32 y0 = .int .i32 ((N0 : Nat) : Int) := by rw [show y0 = ((N0 : Nat) : Int) by omega]
      repeat ((first | refine W.seqR rfl ?_ | refine W.seq ?_ | refine W.regR rfl ?_ | refine W.condK ?_ | refine W.block ?_ | refine W.skip ?_ | refine W.ret ?_ | refine W.exit ?_); try simp (maxSteps := 1000000) (disch := (first | omega | (simp only [World.size_alloc, size_wr, size_drew] <;> omega) | exact not_noB _)) only [go_sem, ↓reduceIte, n0, reduceCtorEq, n1, n2, n3, n4, n5, i0, i1, i2, i3, i4, i5, i6, i7, hv_3, hrn0_2, hrn0_7, hrn0_8, hrn0_9, hrn0_10, hrn0_13, hra0])
      refine wp_appendZ (m := N0) utDescribeLogDirsRequest_92 utDescribeLogDirsRequest_21 inDescribeLogDirsRequest_99 (by decide) (by first | rfl | simp (maxSteps := 1000000) (disch := (first | omega | (simp only [World.size_alloc, size_wr, size_drew] <;> omega) | exact not_noB _)) only [go_sem, ↓reduceIte, n0, reduceCtorEq, n1, n2, n3, n4, n5, i0, i1, i2, i3, i4, i5, i6, i7, hrn0_2, hrn0_7, hrn0_8, hrn0_9, hrn0_10, hrn0_13, hra0]) (by first | exact hyv | (simp (maxSteps := 1000000) (disch := (first | omega | (simp only [World.size_alloc, size_wr, size_drew] <;> omega) | exact not_noB _)) only [go_sem, ↓reduceIte, n0, reduceCtorEq, n1, n2, n3, n4, n5, i0, i1, i2, i3, i4, i5, i6, i7, hrn0_2, hrn0_7, hrn0_8, hrn0_9, hrn0_10, hrn0_13, hra0]; exact hyv)) (by omega) (by omega) (by decide) ?_
      intro q rest hq1
      have hEw : Ext w3 (w3.drew.alloc (.cells (zs [.string ByteArray.empty, .slice none 0 0, .map none] N0 ++ rest).toArray 99)) := (Upd.refl _ _).drew.alloc _
      try simp (maxSteps := 1000000) (disch := (first | omega | (simp only [World.size_alloc, size_wr, size_drew] <;> omega) | exact not_noB _)) only [go_sem, ↓reduceIte, n0, reduceCtorEq, n1, n2, n3, n4, n5, i0, i1, i2, i3, i4, i5, i6, i7, hv_3, hrn0_2, hrn0_7, hrn0_8, hrn0_9, hrn0_10, hrn0_13, hra0]
      repeat ((first | refine W.seqR rfl ?_ | refine W.seq ?_ | refine W.regR rfl ?_ | refine W.condK ?_ | refine W.block ?_ | refine W.skip ?_ | refine W.ret ?_ | refine W.exit ?_); try simp (maxSteps := 1000000) (disch := (first | omega | (simp only [World.size_alloc, size_wr, size_drew] <;> omega) | exact not_noB _)) only [go_sem, ↓reduceIte, n0, reduceCtorEq, n1, n2, n3, n4, n5, i0, i1, i2, i3, i4, i5, i6, i7, hv_3, hrn0_2, hrn0_7, hrn0_8, hrn0_9, hrn0_10, hrn0_13, hra0])
      exact ⟨(by simp (maxSteps := 1000000) (disch := (first | omega | (simp only [World.size_alloc, size_wr, size_drew] <;> omega) | exact not_noB _)) only [go_sem, ↓reduceIte, n0, reduceCtorEq, n1, n2, n3, n4, n5, i0, i1, i2, i3, i4, i5, i6, i7, Holds_nil, Holds_cons, hrn0_2, hrn0_7, hrn0_8, hrn0_9, hrn0_10, hrn0_13, hra0]), .slice (some ⟨w3.heap.size, 0, none⟩) N0 q, (by simp (maxSteps := 1000000) (disch := (first | omega | (simp only [World.size_alloc, size_wr, size_drew] <;> omega) | exact not_noB _)) only [go_sem, ↓reduceIte, n0, reduceCtorEq, n1, n2, n3, n4, n5, i0, i1, i2, i3, i4, i5, i6, i7, hrn0_2, hrn0_7, hrn0_8, hrn0_9, hrn0_10, hrn0_13, hra0]), LstI.start (RowJ.start (by omega) hq1 (by show w2.heap.size ≤ w3.drew.heap.size; rw [size_drew]; omega) (blk_alloc_new rfl)) ⟨hq3.1.upd hEw (fun h => h) (fun _ _ _ h => h), hq3.2.upd hEw fun h => h⟩ (hun3.trans (hEw.mono fun _ h => h.elim)), fun h0 => by omega⟩
    · repeat ((first | refine W.seqR rfl ?_ | refine W.seq ?_ | refine W.regR rfl ?_ | refine W.condK ?_ | refine W.block ?_ | refine W.skip ?_ | refine W.ret ?_ | refine W.exit ?_); try simp (maxSteps := 1000000) (disch := (first | omega | (simp only [World.size_alloc, size_wr, size_drew] <;> omega) | exact not_noB _)) only [go_sem, ↓reduceIte, n0, reduceCtorEq, n1, n2, n3, n4, n5, i0, i1, i2, i3, i4, i5, i6, i7, hv_3, hrn0_2, hrn0_7, hrn0_8, hrn0_9, hrn0_10, hrn0_13, hra0])
      exact ⟨(by simp (maxSteps := 1000000) (disch := (first | omega | (simp only [World.size_alloc, size_wr, size_drew] <;> omega) | exact not_noB _)) only [go_sem, ↓reduceIte, n0, reduceCtorEq, n1, n2, n3, n4, n5, i0, i1, i2, i3, i4, i5, i6, i7, Holds_nil, Holds_cons, hrn0_2, hrn0_7, hrn0_8, hrn0_9, hrn0_10, hrn0_13, hra0]), .slice a0 0 0, (by simp (maxSteps := 1000000) (disch := (first | omega | (simp only [World.size_alloc, size_wr, size_drew] <;> omega) | exact not_noB _)) only [go_sem, ↓reduceIte, n0, reduceCtorEq, n1, n2, n3, n4, n5, i0, i1, i2, i3, i4, i5, i6, i7, hrn0_2, hrn0_7, hrn0_8, hrn0_9, hrn0_10, hrn0_13, hra0, slBase_00]), LstI.start (RowJ.zero (by omega) hab0) hq3 (hun3), hnl0⟩
  rintro ρ w4 ⟨⟨hrb0_2, hrb0_7, hrb0_8, hrb0_9, hrb0_10, hrb0_13, -⟩, va0, hra0, hL0, hnc0⟩
  repeat ((first | refine W.seqR rfl ?_ | refine W.seq ?_ | refine W.regR rfl ?_ | refine W.condK ?_ | refine W.block ?_ | refine W.skip ?_ | refine W.ret ?_ | refine W.exit ?_); try simp (maxSteps := 1000000) (disch := (first | omega | (simp only [World.size_alloc, size_wr, size_drew] <;> omega) | exact not_noB _)) only [go_sem, ↓reduceIte, n0, reduceCtorEq, n1, n2, n3, n4, n5, i0, i1, i2, i3, i4, i5, i6, i7, hv_3, hrb0_2, hrb0_7, hrb0_8, hrb0_9, hrb0_10, hrb0_13, hra0, exitRQ_ret, exitRQ_exit, Int.toNat_natCast, Nat.mul_one])
  refine W.exitRJ 0 (EndQ [(2, .bool false), (7, .pointer (some ⟨rb, 0, none⟩)), (8, .int .i16 ver), (9, .bool true), (10, .pointer (some ⟨vb, 0, none⟩)), (13, .int .i32 y0), (12, va0)] (fun w' => ∃ s xs css, LstI RT (rd1 (rdP (d + 1) ver true) fDescribeLogDirsRequest_0.of fDescribeLogDirsRequest_0.sub false true) (Rep1 (RepS true (d + 1)) fDescribeLogDirsRequest_0.of fDescribeLogDirsRequest_0.sub) 3 99 [.string ByteArray.empty, .slice none 0 0, .map none] w2.heap.size N0 ok (fun b => ok b ∨ w1.heap.size ≤ b) rb w2 s1 va0 N0 s xs css w')) (W.loop (LoopQ [(2, .bool false), (7, .pointer (some ⟨rb, 0, none⟩)), (8, .int .i16 ver), (9, .bool true), (10, .pointer (some ⟨vb, 0, none⟩)), (13, .int .i32 y0), (12, va0)] 14 (fun j w' => ∃ s xs css, LstI RT (rd1 (rdP (d + 1) ver true) fDescribeLogDirsRequest_0.of fDescribeLogDirsRequest_0.sub false true) (Rep1 (RepS true (d + 1)) fDescribeLogDirsRequest_0.of fDescribeLogDirsRequest_0.sub) 3 99 [.string ByteArray.empty, .slice none 0 0, .map none] w2.heap.size N0 ok (fun b => ok b ∨ w1.heap.size ≤ b) rb w2 s1 va0 j s xs css w')) (fun ρ _ => N0 - (RowKit.intOf (ρ 14)).toNat) ?_ ?_) ?_
  · exact ⟨(by simp (maxSteps := 1000000) (disch := (first | omega | (simp only [World.size_alloc, size_wr, size_drew] <;> omega) | exact not_noB _)) only [go_sem, ↓reduceIte, n0, reduceCtorEq, n1, n2, n3, n4, n5, i0, i1, i2, i3, i4, i5, i6, i7, Holds_nil, Holds_cons, hrb0_2, hrb0_7, hrb0_8, hrb0_9, hrb0_10, hrb0_13, hra0]), 0, (by simp (maxSteps := 1000000) (disch := (first | omega | (simp only [World.size_alloc, size_wr, size_drew] <;> omega) | exact not_noB _)) only [go_sem, ↓reduceIte, n0, reduceCtorEq, n1, n2, n3, n4, n5, i0, i1, i2, i3, i4, i5, i6, i7, hrb0_2, hrb0_7, hrb0_8, hrb0_9, hrb0_10, hrb0_13, hra0]; all_goals rfl), s1, [], [], hL0⟩
  · rintro ρ w5 ⟨⟨hrc0_2, hrc0_7, hrc0_8, hrc0_9, hrc0_10, hrc0_13, hrc0_12, -⟩, j1, hri0, s2, xs0, css0, hL0⟩
    have hj0 := hL0.le
    have hq5 := hL0.rd
    have hU5 : Upd (fun b => b = vb ∨ b = rb) w1 w5 := hU2.trans' hL0.upd fun i _ h => .inr h
    have hz5 := hL0.upd.size
    have hG5 : Glo ev w5 := hG1.updS hU5 hgM1 hgM2
    by_cases hlt0 : j1 < N0
    · obtain ⟨R1, q1, B1, hva1, hNq1, hLR1, hA1, hx1_5, hnext1⟩ := hL0.row.next hlt0
      have hRl1 := blk_lt hx1_5
      generalize css0.flatten = A1 at hA1 hx1_5 hnext1
      replace hra0 : ρ 12 = .slice (some ⟨R1, 0, none⟩) N0 q1 := hrc0_12.trans hva1
      have hown1 : ∀ b, ownB va0 b → w2.heap.size ≤ b ∧ b < w5.heap.size := fun b h => hL0.row.own h
      have hoM1 : ∀ b, (fun b => (ok b ∨ w1.heap.size ≤ b) ∧ ¬ ownB va0 b) b → ¬ (b = R1 ∨ b = rb) := fun b hk h => h.elim (fun e => hk.2 ⟨_, _, _, hva1, e⟩) (fun e => hoM b hk.1 (.inr e))
      obtain ⟨X5, hX5⟩ : ∃ X : Array Value, X = (A1 ++ (([.string ByteArray.empty, .slice none 0 0, .map none] : List Value) ++ B1)).toArray := ⟨_, rfl⟩
      have hxb5 : blk w5 R1 = some (X5, 99, (0, 0)) := by rw [hX5]; exact hx1_5
      have hXs5 : j1 * 3 + 3 ≤ X5.size := by rw [hX5]; simp only [List.size_toArray, List.length_append, List.length_cons, List.length_nil, hA1]; omega
      repeat ((first | refine W.seqR rfl ?_ | refine W.seq ?_ | refine W.regR rfl ?_ | refine W.condK ?_ | refine W.block ?_ | refine W.skip ?_ | refine W.ret ?_ | refine W.exit ?_); try simp (maxSteps := 1000000) (disch := (first | omega | (simp only [World.size_alloc, size_wr, size_drew] <;> omega) | exact not_noB _)) only [go_sem, ↓reduceIte, n0, reduceCtorEq, n1, n2, n3, n4, n5, i0, i1, i2, i3, i4, i5, i6, i7, hxb5, hrc0_2, hrc0_7, hrc0_8, hrc0_9, hrc0_10, hrc0_13, hra0, hri0, exitRQ_ret, exitRQ_exit, Int.toNat_natCast, Nat.mul_one])
      refine (DefaultEDescribeLogDirsRequestTopic_fn w5 hx1_5 hA1).mono ?_
      rintro _ w6 ⟨hx1_6, hu6⟩
      have hq6 := And.intro (hq5.1.upd hu6 (by omega) (fun b _ hk e => by have := (hok b hk).1; omega)) (hq5.2.upd hu6 (by omega))
      have hV6 : Upd (fun b => b = R1 ∨ b = rb) w5 w6 := hu6.mono (fun _ h => .inl h)
      have hU6 : Upd (fun b => b = vb ∨ b = rb) w1 w6 := hU5.trans' hV6 fun i hi h => h.elim (fun h => by omega) .inr
      have hz6 := hV6.size
      have hG6 : Glo ev w6 := hG1.updS hU6 hgM1 hgM2
      obtain ⟨X6, hX6⟩ : ∃ X : Array Value, X = (A1 ++ (([.string ByteArray.empty, .slice none 0 0, .map none] : List Value) ++ B1)).toArray := ⟨_, rfl⟩
      have hxb6 : blk w6 R1 = some (X6, 99, (0, 0)) := by rw [hX6]; exact hx1_6
      have hXs6 : j1 * 3 + 3 ≤ X6.size := by rw [hX6]; simp only [List.size_toArray, List.length_append, List.length_cons, List.length_nil, hA1]; omega
      have hbe0_0 : (rdL (rdP d ver true) (dfP d) ver true [fDescribeLogDirsRequestTopic_0, fDescribeLogDirsRequestTopic_1] s2).2 = none → FB := fun h => hlb0 (hL0.bad hlt0 rd1P_none (by show (rd1 (rdP (d + 1) ver true) 10 fs_DescribeLogDirsRequestTopic false true s2).2 = none; rw [rd1_part]; exact rdP_bad h))
      have hhe0_0 : hasS fDescribeLogDirsRequestTopic_0 ver = true := hasS_t (by show (0 : Int) ≤ ver; omega) (by show (-1 : Int) < 0 ∨ ver ≤ (-1 : Int); omega)
      obtain ⟨xe0_0, hxe0_0⟩ : ∃ x, x = (rdF (rdP d ver true) ver true fDescribeLogDirsRequestTopic_0 s2).1 := ⟨_, rfl⟩
      repeat ((first | refine W.seqR rfl ?_ | refine W.seq ?_ | refine W.regR rfl ?_ | refine W.condK ?_ | refine W.block ?_ | refine W.skip ?_ | refine W.ret ?_ | refine W.exit ?_); try simp (maxSteps := 1000000) (disch := (first | omega | (simp only [World.size_alloc, size_wr, size_drew] <;> omega) | exact not_noB _)) only [go_sem, ↓reduceIte, n0, reduceCtorEq, n1, n2, n3, n4, n5, i0, i1, i2, i3, i4, i5, i6, i7, hxb6, hrc0_2, hrc0_7, hrc0_8, hrc0_9, hrc0_10, hrc0_13, hra0, hri0, exitRQ_ret, exitRQ_exit, Int.toNat_natCast, Nat.mul_one])
      have hmay : mayS fDescribeLogDirsRequestTopic_0 ver = false := mayS_no (by show (-1 : Int) < 0 ∨ ver < (-1 : Int); omega)
      have hrd : rdF (rdP d ver true) ver true fDescribeLogDirsRequestTopic_0 s2 = _ := rdF_text rfl hmay
      refine (RCompactString_fn w6 hq6.1 hrok hG6.1 hgrb).mono ?_
      rintro _ w7 ⟨rfl, hq7, hu7⟩
      have hx1_7 := hu7.blk_some hx1_6 (by omega)
      have hV7 : Upd (fun b => b = R1 ∨ b = rb) w6 w7 := hu7.mono (fun _ h => .inr h)
      have hU7 : Upd (fun b => b = vb ∨ b = rb) w1 w7 := hU6.trans' hV7 fun i hi h => h.elim (fun h => by omega) .inr
      have hz7 := hV7.size
      have hG7 : Glo ev w7 := hG1.updS hU7 hgM1 hgM2
      obtain ⟨X7, hX7⟩ : ∃ X : Array Value, X = (A1 ++ (([.string ByteArray.empty, .slice none 0 0, .map none] : List Value) ++ B1)).toArray := ⟨_, rfl⟩
      have hxb7 : blk w7 R1 = some (X7, 99, (0, 0)) := by rw [hX7]; exact hx1_7
      have hXs7 : j1 * 3 + 3 ≤ X7.size := by rw [hX7]; simp only [List.size_toArray, List.length_append, List.length_cons, List.length_nil, hA1]; omega
      have hst : (rdF (rdP d ver true) ver true fDescribeLogDirsRequestTopic_0 s2).2 = (rdStr true s2).2 := by first | (rw [hrd]; rfl) | rw [hrd]
      obtain ⟨s3, hs3⟩ : ∃ s, s = (rdF (rdP d ver true) ver true fDescribeLogDirsRequestTopic_0 s2).2 := ⟨_, rfl⟩
      rw [← hst, ← hs3] at hq7
      clear hst
      have hst7_0 : j1 * 3 + 1 ≤ X7.size := by omega
      have hld7_1 : X7[j1 * 3 + 1]? = some (.slice none 0 0) := by rw [hX7]; exact el_cell (R := 0) hA1 (Nat.le_of_ble_eq_true rfl)
      repeat ((first | refine W.seqR rfl ?_ | refine W.seq ?_ | refine W.regR rfl ?_ | refine W.condK ?_ | refine W.block ?_ | refine W.skip ?_ | refine W.ret ?_ | refine W.exit ?_); try simp (maxSteps := 1000000) (disch := (first | omega | (simp only [World.size_alloc, size_wr, size_drew] <;> omega) | exact not_noB _)) only [go_sem, ↓reduceIte, n0, reduceCtorEq, n1, n2, n3, n4, n5, i0, i1, i2, i3, i4, i5, i6, i7, hxb7, hrc0_2, hrc0_7, hrc0_8, hrc0_9, hrc0_10, hrc0_13, hra0, hri0, exitRQ_ret, exitRQ_exit, Int.toNat_natCast, Nat.mul_one, hst7_0, hld7_1, Array.getElem?_setIfInBounds_ne])
      generalize hw8 : wr w7 R1 (j1 * 3) [strV (rdStr true s2).1] = w8
      have hS8 : Upd (fun b => b = R1 ∨ b = rb) w7 w8 := by rw [← hw8]; exact (Upd.refl _ _).wr _ _ (.inr (.inl rfl))
      have hx1_8 : blk w8 R1 = some ((A1 ++ (([strV (rdStr true s2).1, .slice none 0 0, .map none] : List Value) ++ B1)).toArray, 99, (0, 0)) := by rw [← hw8]; exact el_blk0 hx1_7 hA1 (Nat.le_of_ble_eq_true rfl)
      have hV8 := hS8
      have hU8 : Upd (fun b => b = vb ∨ b = rb) w1 w8 := hU7.trans' hV8 fun i hi h => h.elim (fun h => by omega) .inr
      have hz8 := hV8.size
      have hG8 : Glo ev w8 := hG1.updS hU8 hgM1 hgM2
      have hq8 : Rdr RT ok w8 rb s3 ∧ NN w8 rb s3 := by
        have hn : ∀ x, x = w8 → (Rdr RT ok x rb s3 ∧ NN x rb s3) := fun x hx => by
          rw [hx, ← hw8]
          exact Rdr.store hq7 (by omega) (fun h => by have := (hok _ h).1; first | omega | exact (hok _ h).2 rfl)
        exact hn _ rfl
      obtain ⟨X8, hX8⟩ : ∃ X : Array Value, X = (A1 ++ (([strV (rdStr true s2).1, .slice none 0 0, .map none] : List Value) ++ B1)).toArray := ⟨_, rfl⟩
      have hxb8 : blk w8 R1 = some (X8, 99, (0, 0)) := by rw [hX8]; exact hx1_8
      have hXs8 : j1 * 3 + 3 ≤ X8.size := by rw [hX8]; simp only [List.size_toArray, List.length_append, List.length_cons, List.length_nil, hA1]; omega
      clear hw8
      have hfe0_0 : RepF (RepS true d) (szS true d) fDescribeLogDirsRequestTopic_0 (fun b => (ok b ∨ w1.heap.size ≤ b) ∧ ¬ ownB va0 b) w8 (xe0_0) [strV (rdStr true s2).1] := (RepF_text rfl (by decide)).2 (by rw [hxe0_0, hrd]; rfl)
      clear hrd
      have hbe0_1 : (rdL (rdP d ver true) (dfP d) ver true [fDescribeLogDirsRequestTopic_1] s3).2 = none → FB := fun h => hbe0_0 (by rw [rdL_st (by decide) hhe0_0, ← hs3]; exact h)
      have hhe0_1 : hasS fDescribeLogDirsRequestTopic_1 ver = true := hasS_t (by show (0 : Int) ≤ ver; omega) (by show (-1 : Int) < 0 ∨ ver ≤ (-1 : Int); omega)
      obtain ⟨xe0_1, hxe0_1⟩ : ∃ x, x = (rdF (rdP d ver true) ver true fDescribeLogDirsRequestTopic_1 s3).1 := ⟨_, rfl⟩
      have hld8_1 : X8[j1 * 3 + 1]? = some (.slice none 0 0) := by rw [hX8]; exact el_cell (R := 0) hA1 (Nat.le_of_ble_eq_true rfl)
      repeat ((first | refine W.seqR rfl ?_ | refine W.seq ?_ | refine W.regR rfl ?_ | refine W.condK ?_ | refine W.block ?_ | refine W.skip ?_ | refine W.ret ?_ | refine W.exit ?_); try simp (maxSteps := 1000000) (disch := (first | omega | (simp only [World.size_alloc, size_wr, size_drew] <;> omega) | exact not_noB _)) only [go_sem, ↓reduceIte, n0, reduceCtorEq, n1, n2, n3, n4, n5, i0, i1, i2, i3, i4, i5, i6, i7, hxb8, hrc0_2, hrc0_7, hrc0_8, hrc0_9, hrc0_10, hrc0_13, hra0, hri0, exitRQ_ret, exitRQ_exit, Int.toNat_natCast, Nat.mul_one, hld8_1])
      refine (RCompactArrayLen_fn w8 hq8.1 hrok hG8.1 hgrb).mono ?_
      rintro _ w9 ⟨rfl, hq9, hu9⟩
      have hx1_9 := hu9.blk_some hx1_8 (by omega)
      have hV9 : Upd (fun b => b = R1 ∨ b = rb) w8 w9 := hu9.mono (fun _ h => .inr h)
      have hU9 : Upd (fun b => b = vb ∨ b = rb) w1 w9 := hU8.trans' hV9 fun i hi h => h.elim (fun h => by omega) .inr
      have hz9 := hV9.size
      have hG9 : Glo ev w9 := hG1.updS hU9 hgM1 hgM2
      obtain ⟨X9, hX9⟩ : ∃ X : Array Value, X = (A1 ++ (([strV (rdStr true s2).1, .slice none 0 0, .map none] : List Value) ++ B1)).toArray := ⟨_, rfl⟩
      have hxb9 : blk w9 R1 = some (X9, 99, (0, 0)) := by rw [hX9]; exact hx1_9
      have hXs9 : j1 * 3 + 3 ≤ X9.size := by rw [hX9]; simp only [List.size_toArray, List.length_append, List.length_cons, List.length_nil, hA1]; omega
      obtain ⟨s4, hs4⟩ : ∃ s, s = (rdALen true s3).2 := ⟨_, rfl⟩
      rw [← hs4] at hq9
      have hyr1 := rdALen_rng true s3
      generalize hy1 : (rdALen true s3).1 = y1 at *
      obtain ⟨N1, hN1⟩ : ∃ N, N = y1.toNat := ⟨_, rfl⟩
      have hlb1 : (rdMany (rd1 (rdP d ver true) fDescribeLogDirsRequestTopic_1.of fDescribeLogDirsRequestTopic_1.sub false true) N1 s4).2 = none → FB := fun h => hbe0_1 (by rw [rdL_st (by decide) hhe0_1]; exact rdL_bad (rdF_listbad rfl (by rw [hy1, ← hN1, ← hs4]; exact h)))
      repeat ((first | refine W.seqR rfl ?_ | refine W.seq ?_ | refine W.regR rfl ?_ | refine W.block ?_ | refine W.skip ?_ | refine W.ret ?_ | refine W.exit ?_); try simp (maxSteps := 1000000) (disch := (first | omega | (simp only [World.size_alloc, size_wr, size_drew] <;> omega) | exact not_noB _)) only [go_sem, ↓reduceIte, n0, reduceCtorEq, n1, n2, n3, n4, n5, i0, i1, i2, i3, i4, i5, i6, i7, hxb9, hrc0_2, hrc0_7, hrc0_8, hrc0_9, hrc0_10, hrc0_13, hra0, hri0, exitRQ_ret, exitRQ_exit, Int.toNat_natCast, Nat.mul_one])
      refine (ROk_fn w9 hq9.1).mono ?_
      rintro _ wz ⟨rfl, hez⟩
      rw [hez]
      clear hez wz
      by_cases hsn1 : s4 = none
      · have hso : s4.isSome = false := by rw [hsn1]; rfl
        try simp (maxSteps := 1000000) (disch := (first | omega | (simp only [World.size_alloc, size_wr, size_drew] <;> omega) | exact not_noB _)) only [go_sem, ↓reduceIte, n0, reduceCtorEq, n1, n2, n3, n4, n5, i0, i1, i2, i3, i4, i5, i6, i7, hxb9, hrc0_2, hrc0_7, hrc0_8, hrc0_9, hrc0_10, hrc0_13, hra0, hri0, exitRQ_ret, exitRQ_exit, Int.toNat_natCast, Nat.mul_one, hso]
        repeat ((first | refine W.seqR rfl ?_ | refine W.seq ?_ | refine W.regR rfl ?_ | refine W.condK ?_ | refine W.block ?_ | refine W.skip ?_ | refine W.ret ?_ | refine W.exit ?_); try simp (maxSteps := 1000000) (disch := (first | omega | (simp only [World.size_alloc, size_wr, size_drew] <;> omega) | exact not_noB _)) only [go_sem, ↓reduceIte, n0, reduceCtorEq, n1, n2, n3, n4, n5, i0, i1, i2, i3, i4, i5, i6, i7, hxb9, hrc0_2, hrc0_7, hrc0_8, hrc0_9, hrc0_10, hrc0_13, hra0, hri0, exitRQ_ret, exitRQ_exit, Int.toNat_natCast, Nat.mul_one, hso])
        refine (RComplete_fn w9 hq9.1 hG9.2).mono ?_
        rintro _ wz ⟨rfl, hez⟩
        rw [hez]
        try simp (maxSteps := 1000000) (disch := (first | omega | (simp only [World.size_alloc, size_wr, size_drew] <;> omega) | exact not_noB _)) only [go_sem, ↓reduceIte, n0, reduceCtorEq, n1, n2, n3, n4, n5, i0, i1, i2, i3, i4, i5, i6, i7, hxb9, hrc0_2, hrc0_7, hrc0_8, hrc0_9, hrc0_10, hrc0_13, hra0, hri0, exitRQ_ret, exitRQ_exit, Int.toNat_natCast, Nat.mul_one]
        repeat ((first | refine W.seqR rfl ?_ | refine W.seq ?_ | refine W.regR rfl ?_ | refine W.condK ?_ | refine W.block ?_ | refine W.skip ?_ | refine W.ret ?_ | refine W.exit ?_); try simp (maxSteps := 1000000) (disch := (first | omega | (simp only [World.size_alloc, size_wr, size_drew] <;> omega) | exact not_noB _)) only [go_sem, ↓reduceIte, n0, reduceCtorEq, n1, n2, n3, n4, n5, i0, i1, i2, i3, i4, i5, i6, i7, hxb9, hrc0_2, hrc0_7, hrc0_8, hrc0_9, hrc0_10, hrc0_13, hra0, hri0, exitRQ_ret, exitRQ_exit, Int.toNat_natCast, Nat.mul_one])
        rw [errV_none hsn1]
        exact ReadQ.bad (Eq.mp hFB (hlb1 (by rw [hsn1]; exact rdMany_none rd1P_none _))) (hbase.trans' hU9 fun i hi h => h.elim id fun h => by omega)
      have hso1 : s4.isSome = true := isSome_some hsn1
      try simp (maxSteps := 1000000) (disch := (first | omega | (simp only [World.size_alloc, size_wr, size_drew] <;> omega) | exact not_noB _)) only [go_sem, ↓reduceIte, n0, reduceCtorEq, n1, n2, n3, n4, n5, i0, i1, i2, i3, i4, i5, i6, i7, hxb9, hrc0_2, hrc0_7, hrc0_8, hrc0_9, hrc0_10, hrc0_13, hra0, hri0, exitRQ_ret, exitRQ_exit, Int.toNat_natCast, Nat.mul_one, hso1]
      repeat ((first | refine W.seqR rfl ?_ | refine W.seq ?_ | refine W.regR rfl ?_ | refine W.block ?_ | refine W.skip ?_ | refine W.ret ?_ | refine W.exit ?_); try simp (maxSteps := 1000000) (disch := (first | omega | (simp only [World.size_alloc, size_wr, size_drew] <;> omega) | exact not_noB _)) only [go_sem, ↓reduceIte, n0, reduceCtorEq, n1, n2, n3, n4, n5, i0, i1, i2, i3, i4, i5, i6, i7, hxb9, hrc0_2, hrc0_7, hrc0_8, hrc0_9, hrc0_10, hrc0_13, hra0, hri0, exitRQ_ret, exitRQ_exit, Int.toNat_natCast, Nat.mul_one, hso1])
      refine W.condK ?_
      try simp (maxSteps := 1000000) (disch := (first | omega | (simp only [World.size_alloc, size_wr, size_drew] <;> omega) | exact not_noB _)) only [go_sem, ↓reduceIte, n0, reduceCtorEq, n1, n2, n3, n4, n5, i0, i1, i2, i3, i4, i5, i6, i7, hxb9, hrc0_2, hrc0_7, hrc0_8, hrc0_9, hrc0_10, hrc0_13, hra0, hri0, exitRQ_ret, exitRQ_exit, Int.toNat_natCast, Nat.mul_one, hso1]
      repeat ((first | refine W.seqR rfl ?_ | refine W.seq ?_ | refine W.regR rfl ?_ | refine W.block ?_ | refine W.skip ?_ | refine W.ret ?_ | refine W.exit ?_); try simp (maxSteps := 1000000) (disch := (first | omega | (simp only [World.size_alloc, size_wr, size_drew] <;> omega) | exact not_noB _)) only [go_sem, ↓reduceIte, n0, reduceCtorEq, n1, n2, n3, n4, n5, i0, i1, i2, i3, i4, i5, i6, i7, hxb9, hrc0_2, hrc0_7, hrc0_8, hrc0_9, hrc0_10, hrc0_13, hra0, hri0, exitRQ_ret, exitRQ_exit, Int.toNat_natCast, Nat.mul_one, hso1, slBase_00])
      refine W.normJ (RowQ [(2, .bool false), (7, .pointer (some ⟨rb, 0, none⟩)), (8, .int .i16 ver), (9, .bool true), (10, .pointer (some ⟨vb, 0, none⟩)), (13, .int .i32 y0), (12, .slice (some ⟨R1, 0, none⟩) N0 q1), (14, .int .i32 j1), (16, .pointer (some ⟨R1, j1 * 3, none⟩)), (20, .int .i32 y1)] 19 (fun va w' => LstI RT (rd1 (rdP d ver true) fDescribeLogDirsRequestTopic_1.of fDescribeLogDirsRequestTopic_1.sub false true) (Rep1 (RepS true d) fDescribeLogDirsRequestTopic_1.of fDescribeLogDirsRequestTopic_1.sub) 1 21 [.int .i32 0] w9.heap.size N1 ok (fun b => (ok b ∨ w1.heap.size ≤ b) ∧ ¬ ownB va0 b) rb w9 s4 va 0 s4 [] [] w' ∧ (N1 = 0 → if nilS fDescribeLogDirsRequestTopic_1 ver y1 = true then va = .slice none 0 0 else ∃ a, va = .slice (some a) 0 0))) ?_ ?_
      · by_cases hy0 : (0 : Int) < y1
        · have hyv : Value.int .i32 y1 = .int .i32 ((N1 : Nat) : Int) := by rw [show y1 = ((N1 : Nat) : Int) by omega]
          repeat ((first | refine W.seqR rfl ?_ | refine W.seq ?_ | refine W.regR rfl ?_ | refine W.condK ?_ | refine W.block ?_ | refine W.skip ?_ | refine W.ret ?_ | refine W.exit ?_); try simp (maxSteps := 1000000) (disch := (first | omega | (simp only [World.size_alloc, size_wr, size_drew] <;> omega) | exact not_noB _)) only [go_sem, ↓reduceIte, n0, reduceCtorEq, n1, n2, n3, n4, n5, i0, i1, i2, i3, i4, i5, i6, i7, hxb9, hrc0_2, hrc0_7, hrc0_8, hrc0_9, hrc0_10, hrc0_13, hra0, hri0, exitRQ_ret, exitRQ_exit, Int.toNat_natCast, Nat.mul_one])
          refine wp_appendZ (m := N1) utDescribeLogDirsRequest_97 utDescribeLogDirsRequest_21 inDescribeLogDirsRequest_21 (by decide) (by first | rfl | simp (maxSteps := 1000000) (disch := (first | omega | (simp only [World.size_alloc, size_wr, size_drew] <;> omega) | exact not_noB _)) only [go_sem, ↓reduceIte, n0, reduceCtorEq, n1, n2, n3, n4, n5, i0, i1, i2, i3, i4, i5, i6, i7, hrc0_2, hrc0_7, hrc0_8, hrc0_9, hrc0_10, hrc0_13, hra0, hri0]) (by first | exact hyv | (simp (maxSteps := 1000000) (disch := (first | omega | (simp only [World.size_alloc, size_wr, size_drew] <;> omega) | exact not_noB _)) only [go_sem, ↓reduceIte, n0, reduceCtorEq, n1, n2, n3, n4, n5, i0, i1, i2, i3, i4, i5, i6, i7, hrc0_2, hrc0_7, hrc0_8, hrc0_9, hrc0_10, hrc0_13, hra0, hri0]; exact hyv)) (by omega) (by omega) (by decide) ?_
          intro q rest hq1
          have hEw : Ext w9 (w9.drew.alloc (.cells (zs [.int .i32 0] N1 ++ rest).toArray 21)) := (Upd.refl _ _).drew.alloc _
          try simp (maxSteps := 1000000) (disch := (first | omega | (simp only [World.size_alloc, size_wr, size_drew] <;> omega) | exact not_noB _)) only [go_sem, ↓reduceIte, n0, reduceCtorEq, n1, n2, n3, n4, n5, i0, i1, i2, i3, i4, i5, i6, i7, hxb9, hrc0_2, hrc0_7, hrc0_8, hrc0_9, hrc0_10, hrc0_13, hra0, hri0, exitRQ_ret, exitRQ_exit, Int.toNat_natCast, Nat.mul_one]
          repeat ((first | refine W.seqR rfl ?_ | refine W.seq ?_ | refine W.regR rfl ?_ | refine W.condK ?_ | refine W.block ?_ | refine W.skip ?_ | refine W.ret ?_ | refine W.exit ?_); try simp (maxSteps := 1000000) (disch := (first | omega | (simp only [World.size_alloc, size_wr, size_drew] <;> omega) | exact not_noB _)) only [go_sem, ↓reduceIte, n0, reduceCtorEq, n1, n2, n3, n4, n5, i0, i1, i2, i3, i4, i5, i6, i7, hxb9, hrc0_2, hrc0_7, hrc0_8, hrc0_9, hrc0_10, hrc0_13, hra0, hri0, exitRQ_ret, exitRQ_exit, Int.toNat_natCast, Nat.mul_one])
          exact ⟨(by simp (maxSteps := 1000000) (disch := (first | omega | (simp only [World.size_alloc, size_wr, size_drew] <;> omega) | exact not_noB _)) only [go_sem, ↓reduceIte, n0, reduceCtorEq, n1, n2, n3, n4, n5, i0, i1, i2, i3, i4, i5, i6, i7, Holds_nil, Holds_cons, hrc0_2, hrc0_7, hrc0_8, hrc0_9, hrc0_10, hrc0_13, hra0, hri0]), .slice (some ⟨w9.heap.size, 0, none⟩) N1 q, (by simp (maxSteps := 1000000) (disch := (first | omega | (simp only [World.size_alloc, size_wr, size_drew] <;> omega) | exact not_noB _)) only [go_sem, ↓reduceIte, n0, reduceCtorEq, n1, n2, n3, n4, n5, i0, i1, i2, i3, i4, i5, i6, i7, hrc0_2, hrc0_7, hrc0_8, hrc0_9, hrc0_10, hrc0_13, hra0, hri0]), LstI.start (RowJ.start (by omega) hq1 (by show w9.heap.size ≤ w9.drew.heap.size; rw [size_drew]; omega) (blk_alloc_new rfl)) ⟨hq9.1.upd hEw (fun h => h) (fun _ _ _ h => h), hq9.2.upd hEw fun h => h⟩ (hEw.mono fun _ h => h.elim), fun h0 => by omega⟩
        · repeat ((first | refine W.seqR rfl ?_ | refine W.seq ?_ | refine W.regR rfl ?_ | refine W.condK ?_ | refine W.block ?_ | refine W.skip ?_ | refine W.ret ?_ | refine W.exit ?_); try simp (maxSteps := 1000000) (disch := (first | omega | (simp only [World.size_alloc, size_wr, size_drew] <;> omega) | exact not_noB _)) only [go_sem, ↓reduceIte, n0, reduceCtorEq, n1, n2, n3, n4, n5, i0, i1, i2, i3, i4, i5, i6, i7, hxb9, hrc0_2, hrc0_7, hrc0_8, hrc0_9, hrc0_10, hrc0_13, hra0, hri0, exitRQ_ret, exitRQ_exit, Int.toNat_natCast, Nat.mul_one])
          exact ⟨(by simp (maxSteps := 1000000) (disch := (first | omega | (simp only [World.size_alloc, size_wr, size_drew] <;> omega) | exact not_noB _)) only [go_sem, ↓reduceIte, n0, reduceCtorEq, n1, n2, n3, n4, n5, i0, i1, i2, i3, i4, i5, i6, i7, Holds_nil, Holds_cons, hrc0_2, hrc0_7, hrc0_8, hrc0_9, hrc0_10, hrc0_13, hra0, hri0]), .slice none 0 0, (by simp (maxSteps := 1000000) (disch := (first | omega | (simp only [World.size_alloc, size_wr, size_drew] <;> omega) | exact not_noB _)) only [go_sem, ↓reduceIte, n0, reduceCtorEq, n1, n2, n3, n4, n5, i0, i1, i2, i3, i4, i5, i6, i7, hrc0_2, hrc0_7, hrc0_8, hrc0_9, hrc0_10, hrc0_13, hra0, hri0, slBase_00]), LstI.start (RowJ.zero (by omega) (fun _ h => by cases h)) hq9 (Upd.refl _ _), fun _ => by rw [nilS_plain (by decide) (by omega)]; exact rfl⟩
      rintro ρ w10 ⟨⟨hrb1_2, hrb1_7, hrb1_8, hrb1_9, hrb1_10, hrb1_13, hrb1_12, hrb1_14, hrb1_16, hrb1_20, -⟩, va1, hra1, hL1, hnc1⟩
      repeat ((first | refine W.seqR rfl ?_ | refine W.seq ?_ | refine W.regR rfl ?_ | refine W.condK ?_ | refine W.block ?_ | refine W.skip ?_ | refine W.ret ?_ | refine W.exit ?_); try simp (maxSteps := 1000000) (disch := (first | omega | (simp only [World.size_alloc, size_wr, size_drew] <;> omega) | exact not_noB _)) only [go_sem, ↓reduceIte, n0, reduceCtorEq, n1, n2, n3, n4, n5, i0, i1, i2, i3, i4, i5, i6, i7, hxb9, hrb1_2, hrb1_7, hrb1_8, hrb1_9, hrb1_10, hrb1_13, hrb1_12, hrb1_14, hrb1_16, hrb1_20, hra1, exitRQ_ret, exitRQ_exit, Int.toNat_natCast, Nat.mul_one])
      refine W.exitRJ 2 (EndQ [(2, .bool false), (7, .pointer (some ⟨rb, 0, none⟩)), (8, .int .i16 ver), (9, .bool true), (10, .pointer (some ⟨vb, 0, none⟩)), (13, .int .i32 y0), (12, .slice (some ⟨R1, 0, none⟩) N0 q1), (14, .int .i32 j1), (16, .pointer (some ⟨R1, j1 * 3, none⟩)), (20, .int .i32 y1), (19, va1)] (fun w' => ∃ s xs css, LstI RT (rd1 (rdP d ver true) fDescribeLogDirsRequestTopic_1.of fDescribeLogDirsRequestTopic_1.sub false true) (Rep1 (RepS true d) fDescribeLogDirsRequestTopic_1.of fDescribeLogDirsRequestTopic_1.sub) 1 21 [.int .i32 0] w9.heap.size N1 ok (fun b => (ok b ∨ w1.heap.size ≤ b) ∧ ¬ ownB va0 b) rb w9 s4 va1 N1 s xs css w')) (W.loop (LoopQ [(2, .bool false), (7, .pointer (some ⟨rb, 0, none⟩)), (8, .int .i16 ver), (9, .bool true), (10, .pointer (some ⟨vb, 0, none⟩)), (13, .int .i32 y0), (12, .slice (some ⟨R1, 0, none⟩) N0 q1), (14, .int .i32 j1), (16, .pointer (some ⟨R1, j1 * 3, none⟩)), (20, .int .i32 y1), (19, va1)] 21 (fun j w' => ∃ s xs css, LstI RT (rd1 (rdP d ver true) fDescribeLogDirsRequestTopic_1.of fDescribeLogDirsRequestTopic_1.sub false true) (Rep1 (RepS true d) fDescribeLogDirsRequestTopic_1.of fDescribeLogDirsRequestTopic_1.sub) 1 21 [.int .i32 0] w9.heap.size N1 ok (fun b => (ok b ∨ w1.heap.size ≤ b) ∧ ¬ ownB va0 b) rb w9 s4 va1 j s xs css w')) (fun ρ _ => N1 - (RowKit.intOf (ρ 21)).toNat) ?_ ?_) ?_
      · exact ⟨(by simp (maxSteps := 1000000) (disch := (first | omega | (simp only [World.size_alloc, size_wr, size_drew] <;> omega) | exact not_noB _)) only [go_sem, ↓reduceIte, n0, reduceCtorEq, n1, n2, n3, n4, n5, i0, i1, i2, i3, i4, i5, i6, i7, Holds_nil, Holds_cons, hrb1_2, hrb1_7, hrb1_8, hrb1_9, hrb1_10, hrb1_13, hrb1_12, hrb1_14, hrb1_16, hrb1_20, hra1]), 0, (by simp (maxSteps := 1000000) (disch := (first | omega | (simp only [World.size_alloc, size_wr, size_drew] <;> omega) | exact not_noB _)) only [go_sem, ↓reduceIte, n0, reduceCtorEq, n1, n2, n3, n4, n5, i0, i1, i2, i3, i4, i5, i6, i7, hrb1_2, hrb1_7, hrb1_8, hrb1_9, hrb1_10, hrb1_13, hrb1_12, hrb1_14, hrb1_16, hrb1_20, hra1]; all_goals rfl), s4, [], [], hL1⟩
      · rintro ρ w11 ⟨⟨hrc1_2, hrc1_7, hrc1_8, hrc1_9, hrc1_10, hrc1_13, hrc1_12, hrc1_14, hrc1_16, hrc1_20, hrc1_19, -⟩, j2, hri1, s5, xs1, css1, hL1⟩
        have hj1 := hL1.le
        have hq11 := hL1.rd
        have hU11 : Upd (fun b => b = vb ∨ b = rb) w1 w11 := hU9.trans' hL1.upd fun i _ h => .inr h
        have hz11 := hL1.upd.size
        have hG11 : Glo ev w11 := hG1.updS hU11 hgM1 hgM2
        by_cases hlt1 : j2 < N1
        · obtain ⟨R2, q2, B2, hva2, hNq2, hLR2, hA2, hx2_11, hnext2⟩ := hL1.row.next hlt1
          have hRl2 := blk_lt hx2_11
          generalize css1.flatten = A2 at hA2 hx2_11 hnext2
          rw [Nat.mul_one] at hA2
          replace hra1 : ρ 19 = .slice (some ⟨R2, 0, none⟩) N1 q2 := hrc1_19.trans hva2
          have hown2 : ∀ b, ownB va1 b → w9.heap.size ≤ b ∧ b < w11.heap.size := fun b h => hL1.row.own h
          have hoM2 : ∀ b, (fun b => (fun b => (ok b ∨ w1.heap.size ≤ b) ∧ ¬ ownB va0 b) b ∧ ¬ ownB va1 b) b → ¬ (b = R2 ∨ b = rb) := fun b hk h => h.elim (fun e => hk.2 ⟨_, _, _, hva2, e⟩) (fun e => hoM1 b hk.1 (.inr e))
          obtain ⟨X11, hX11⟩ : ∃ X : Array Value, X = (A2 ++ (([.int .i32 0] : List Value) ++ B2)).toArray := ⟨_, rfl⟩
          have hxb11 : blk w11 R2 = some (X11, 21, (0, 0)) := by rw [hX11]; exact hx2_11
          have hXs11 : j2 + 1 ≤ X11.size := by rw [hX11]; simp only [List.size_toArray, List.length_append, List.length_cons, List.length_nil, hA2]; omega
          repeat ((first | refine W.seqR rfl ?_ | refine W.seq ?_ | refine W.regR rfl ?_ | refine W.condK ?_ | refine W.block ?_ | refine W.skip ?_ | refine W.ret ?_ | refine W.exit ?_); try simp (maxSteps := 1000000) (disch := (first | omega | (simp only [World.size_alloc, size_wr, size_drew] <;> omega) | exact not_noB _)) only [go_sem, ↓reduceIte, n0, reduceCtorEq, n1, n2, n3, n4, n5, i0, i1, i2, i3, i4, i5, i6, i7, hxb11, hrc1_2, hrc1_7, hrc1_8, hrc1_9, hrc1_10, hrc1_13, hrc1_12, hrc1_14, hrc1_16, hrc1_20, hra1, hri1, exitRQ_ret, exitRQ_exit, Int.toNat_natCast, Nat.mul_one])
          refine (Int32_fn w11 hq11.1 hrok hG11.1 hgrb).mono ?_
          rintro _ w12 ⟨rfl, hq12, hu12⟩
          have hx2_12 := hu12.blk_some hx2_11 (by omega)
          have hV12 : Upd (fun b => b = R2 ∨ b = rb) w11 w12 := hu12.mono (fun _ h => .inr h)
          have hU12 : Upd (fun b => b = vb ∨ b = rb) w1 w12 := hU11.trans' hV12 fun i hi h => h.elim (fun h => by omega) .inr
          have hz12 := hV12.size
          have hG12 : Glo ev w12 := hG1.updS hU12 hgM1 hgM2
          obtain ⟨X12, hX12⟩ : ∃ X : Array Value, X = (A2 ++ (([.int .i32 0] : List Value) ++ B2)).toArray := ⟨_, rfl⟩
          have hxb12 : blk w12 R2 = some (X12, 21, (0, 0)) := by rw [hX12]; exact hx2_12
          have hXs12 : j2 + 1 ≤ X12.size := by rw [hX12]; simp only [List.size_toArray, List.length_append, List.length_cons, List.length_nil, hA2]; omega
          obtain ⟨s6, hs6⟩ : ∃ s, s = (rdInt .i32 4 s5).2 := ⟨_, rfl⟩
          rw [← hs6] at hq12
          have hrE : (rd1 (rdP d ver true) fDescribeLogDirsRequestTopic_1.of fDescribeLogDirsRequestTopic_1.sub false true) s5 = ((.num (rdInt .i32 4 s5).1), s6) := by rw [hs6]; exact rd1_num 3 (by decide)
          have hst12_0 : j2 + 1 ≤ X12.size := by omega
          repeat ((first | refine W.seqR rfl ?_ | refine W.seq ?_ | refine W.regR rfl ?_ | refine W.condK ?_ | refine W.block ?_ | refine W.skip ?_ | refine W.ret ?_ | refine W.exit ?_); try simp (maxSteps := 1000000) (disch := (first | omega | (simp only [World.size_alloc, size_wr, size_drew] <;> omega) | exact not_noB _)) only [go_sem, ↓reduceIte, n0, reduceCtorEq, n1, n2, n3, n4, n5, i0, i1, i2, i3, i4, i5, i6, i7, hxb12, hrc1_2, hrc1_7, hrc1_8, hrc1_9, hrc1_10, hrc1_13, hrc1_12, hrc1_14, hrc1_16, hrc1_20, hra1, hri1, exitRQ_ret, exitRQ_exit, Int.toNat_natCast, Nat.mul_one, hst12_0])
          generalize hw13 : wr w12 R2 (j2) [.int .i32 (rdInt .i32 4 s5).1] = w13
          have hS13 : Upd (fun b => b = R2 ∨ b = rb) w12 w13 := by rw [← hw13]; exact (Upd.refl _ _).wr _ _ (.inr (.inl rfl))
          have hx2_13 : blk w13 R2 = some ((A2 ++ (([.int .i32 (rdInt .i32 4 s5).1] : List Value) ++ B2)).toArray, 21, (0, 0)) := by rw [← hw13]; exact el_blk0 hx2_12 hA2 (Nat.le_of_ble_eq_true rfl)
          have hV13 := hS13
          have hU13 : Upd (fun b => b = vb ∨ b = rb) w1 w13 := hU12.trans' hV13 fun i hi h => h.elim (fun h => by omega) .inr
          have hz13 := hV13.size
          have hG13 : Glo ev w13 := hG1.updS hU13 hgM1 hgM2
          have hq13 : Rdr RT ok w13 rb s6 ∧ NN w13 rb s6 := by
            have hn : ∀ x, x = w13 → (Rdr RT ok x rb s6 ∧ NN x rb s6) := fun x hx => by
              rw [hx, ← hw13]
              exact Rdr.store hq12 (by omega) (fun h => by have := (hok _ h).1; first | omega | exact (hok _ h).2 rfl)
            exact hn _ rfl
          obtain ⟨X13, hX13⟩ : ∃ X : Array Value, X = (A2 ++ (([.int .i32 (rdInt .i32 4 s5).1] : List Value) ++ B2)).toArray := ⟨_, rfl⟩
          have hxb13 : blk w13 R2 = some (X13, 21, (0, 0)) := by rw [hX13]; exact hx2_13
          have hXs13 : j2 + 1 ≤ X13.size := by rw [hX13]; simp only [List.size_toArray, List.length_append, List.length_cons, List.length_nil, hA2]; omega
          clear hw13
          have hxE : (Rep1 (RepS true d) fDescribeLogDirsRequestTopic_1.of fDescribeLogDirsRequestTopic_1.sub) (fun b => (fun b => (ok b ∨ w1.heap.size ≤ b) ∧ ¬ ownB va0 b) b ∧ ¬ ownB va1 b) w13 (.num (rdInt .i32 4 s5).1) [.int .i32 (rdInt .i32 4 s5).1] := (Rep1_num (by decide)).2 (congrArg (fun x => [x]) (numC_rd 3 (by decide) 4 s5).symm)
          repeat ((first | refine W.seqR rfl ?_ | refine W.seq ?_ | refine W.regR rfl ?_ | refine W.condK ?_ | refine W.block ?_ | refine W.skip ?_ | refine W.ret ?_ | refine W.exit ?_); try simp (maxSteps := 1000000) (disch := (first | omega | (simp only [World.size_alloc, size_wr, size_drew] <;> omega) | exact not_noB _)) only [go_sem, ↓reduceIte, n0, reduceCtorEq, n1, n2, n3, n4, n5, i0, i1, i2, i3, i4, i5, i6, i7, hxb13, hrc1_2, hrc1_7, hrc1_8, hrc1_9, hrc1_10, hrc1_13, hrc1_12, hrc1_14, hrc1_16, hrc1_20, hra1, hri1, exitRQ_ret, exitRQ_exit, Int.toNat_natCast, Nat.mul_one])
          have hTk : Upd (fun b => b = R2 ∨ b = rb) w11 w13 := (hV12.trans hV13)
          have hL' := hL1.step (Rep1_lay _ _ fun _ => RepS_lay true _ _) hlt1 (hnext2 w13 [.int .i32 (rdInt .i32 4 s5).1] rfl hx2_13) (by rw [hrE]; exact hxE) (hTk.mono fun b h => h.imp (fun e => ⟨_, _, _, hva2, e⟩) id) (by rw [hrE]; exact hq13) (fun h => hoM1 rb h (.inr rfl)) (Nat.le_refl _)
          have hij : IntKind.i32.wrap ((j2 : Int) + 1) = ((j2 + 1 : Nat) : Int) := by rw [i32_wrap (by omega)]; omega
          repeat ((first | refine W.seqR rfl ?_ | refine W.seq ?_ | refine W.regR rfl ?_ | refine W.condK ?_ | refine W.block ?_ | refine W.skip ?_ | refine W.ret ?_ | refine W.exit ?_); try simp (maxSteps := 1000000) (disch := (first | omega | (simp only [World.size_alloc, size_wr, size_drew] <;> omega) | exact not_noB _)) only [go_sem, ↓reduceIte, n0, reduceCtorEq, n1, n2, n3, n4, n5, i0, i1, i2, i3, i4, i5, i6, i7, hxb13, hrc1_2, hrc1_7, hrc1_8, hrc1_9, hrc1_10, hrc1_13, hrc1_12, hrc1_14, hrc1_16, hrc1_20, hra1, hri1, exitRQ_ret, exitRQ_exit, Int.toNat_natCast, Nat.mul_one, hij])
          refine ⟨⟨(by simp (maxSteps := 1000000) (disch := (first | omega | (simp only [World.size_alloc, size_wr, size_drew] <;> omega) | exact not_noB _)) only [go_sem, ↓reduceIte, n0, reduceCtorEq, n1, n2, n3, n4, n5, i0, i1, i2, i3, i4, i5, i6, i7, Holds_nil, Holds_cons, hrc1_2, hrc1_7, hrc1_8, hrc1_9, hrc1_10, hrc1_13, hrc1_12, hrc1_14, hrc1_16, hrc1_20, hra1, hri1]; exact hva2.symm), j2 + 1, (by simp (maxSteps := 1000000) (disch := (first | omega | (simp only [World.size_alloc, size_wr, size_drew] <;> omega) | exact not_noB _)) only [go_sem, ↓reduceIte, n0, reduceCtorEq, n1, n2, n3, n4, n5, i0, i1, i2, i3, i4, i5, i6, i7, hrc1_2, hrc1_7, hrc1_8, hrc1_9, hrc1_10, hrc1_13, hrc1_12, hrc1_14, hrc1_16, hrc1_20, hra1, hri1, hij]; all_goals rfl), _, _, _, hL'⟩, ?_⟩
          try simp (maxSteps := 1000000) (disch := (first | omega | (simp only [World.size_alloc, size_wr, size_drew] <;> omega) | exact not_noB _)) only [go_sem, ↓reduceIte, n0, reduceCtorEq, n1, n2, n3, n4, n5, i0, i1, i2, i3, i4, i5, i6, i7, hrc1_2, hrc1_7, hrc1_8, hrc1_9, hrc1_10, hrc1_13, hrc1_12, hrc1_14, hrc1_16, hrc1_20, hra1, hri1]
          simp only [RowKit.intOf]
          omega
        · have hjN : j2 = N1 := by omega
          rw [hjN] at hL1
          repeat ((first | refine W.seqR rfl ?_ | refine W.seq ?_ | refine W.regR rfl ?_ | refine W.condK ?_ | refine W.block ?_ | refine W.skip ?_ | refine W.ret ?_ | refine W.exit ?_); try simp (maxSteps := 1000000) (disch := (first | omega | (simp only [World.size_alloc, size_wr, size_drew] <;> omega) | exact not_noB _)) only [go_sem, ↓reduceIte, n0, reduceCtorEq, n1, n2, n3, n4, n5, i0, i1, i2, i3, i4, i5, i6, i7, hrc1_2, hrc1_7, hrc1_8, hrc1_9, hrc1_10, hrc1_13, hrc1_12, hrc1_14, hrc1_16, hrc1_20, hrc1_19, hri1, exitRQ_ret, exitRQ_exit])
          exact ⟨(by simp (maxSteps := 1000000) (disch := (first | omega | (simp only [World.size_alloc, size_wr, size_drew] <;> omega) | exact not_noB _)) only [go_sem, ↓reduceIte, n0, reduceCtorEq, n1, n2, n3, n4, n5, i0, i1, i2, i3, i4, i5, i6, i7, Holds_nil, Holds_cons, hrc1_2, hrc1_7, hrc1_8, hrc1_9, hrc1_10, hrc1_13, hrc1_12, hrc1_14, hrc1_16, hrc1_20, hrc1_19, hri1]), s5, xs1, css1, hL1⟩
      rintro ρ w14 ⟨⟨hrd1_2, hrd1_7, hrd1_8, hrd1_9, hrd1_10, hrd1_13, hrd1_12, hrd1_14, hrd1_16, hrd1_20, hrd1_19, -⟩, s7, xs1, css1, hL1⟩
      have hq14 := hL1.rd
      have hu14 := hL1.upd
      have hx1_14 := hu14.blk_some hx1_9 (by omega)
      have hV14 : Upd (fun b => b = R1 ∨ b = rb) w9 w14 := hu14.mono (fun _ h => .inr h)
      have hU14 : Upd (fun b => b = vb ∨ b = rb) w1 w14 := hU9.trans' hV14 fun i hi h => h.elim (fun h => by omega) .inr
      have hz14 := hV14.size
      have hG14 : Glo ev w14 := hG1.updS hU14 hgM1 hgM2
      obtain ⟨X14, hX14⟩ : ∃ X : Array Value, X = (A1 ++ (([strV (rdStr true s2).1, .slice none 0 0, .map none] : List Value) ++ B1)).toArray := ⟨_, rfl⟩
      have hxb14 : blk w14 R1 = some (X14, 99, (0, 0)) := by rw [hX14]; exact hx1_14
      have hXs14 : j1 * 3 + 3 ≤ X14.size := by rw [hX14]; simp only [List.size_toArray, List.length_append, List.length_cons, List.length_nil, hA1]; omega
      have hrd1 : rdF (rdP d ver true) ver true fDescribeLogDirsRequestTopic_1 s3 = (.mk 0 [] (nilS fDescribeLogDirsRequestTopic_1 ver y1) xs1 [], s7) := by
        have h := rdF_listE (pt := (rdP d ver true)) (v := ver) (flex := true) (f := fDescribeLogDirsRequestTopic_1) (s := s3) (xs := xs1) (e := s7) rfl (by rw [hy1, ← hN1, ← hs4]; exact hL1.done)
        rw [hy1] at h; exact h
      have hs7 : s7 = (rdF (rdP d ver true) ver true fDescribeLogDirsRequestTopic_1 s3).2 := by rw [hrd1]
      obtain ⟨aa1, qq1, hvs1⟩ := hL1.row.shape
      subst hvs1
      have hst14_1 : j1 * 3 + 2 ≤ X14.size := by omega
      repeat ((first | refine W.seqR rfl ?_ | refine W.seq ?_ | refine W.regR rfl ?_ | refine W.condK ?_ | refine W.block ?_ | refine W.skip ?_ | refine W.ret ?_ | refine W.exit ?_); try simp (maxSteps := 1000000) (disch := (first | omega | (simp only [World.size_alloc, size_wr, size_drew] <;> omega) | exact not_noB _)) only [go_sem, ↓reduceIte, n0, reduceCtorEq, n1, n2, n3, n4, n5, i0, i1, i2, i3, i4, i5, i6, i7, hxb14, hrd1_2, hrd1_7, hrd1_8, hrd1_9, hrd1_10, hrd1_13, hrd1_12, hrd1_14, hrd1_16, hrd1_20, hrd1_19, exitRQ_ret, exitRQ_exit, Int.toNat_natCast, Nat.mul_one, hst14_1])
      generalize hw15 : wr w14 R1 (j1 * 3 + 1) [.slice aa1 N1 qq1] = w15
      have hS15 : Upd (fun b => b = R1 ∨ b = rb) w14 w15 := by rw [← hw15]; exact (Upd.refl _ _).wr _ _ (.inr (.inl rfl))
      have hx1_15 : blk w15 R1 = some ((A1 ++ (([strV (rdStr true s2).1, .slice aa1 N1 qq1, .map none] : List Value) ++ B1)).toArray, 99, (0, 0)) := by rw [← hw15]; exact el_blk (o := 1) hx1_14 hA1 (Nat.le_of_ble_eq_true rfl)
      have hV15 := hS15
      have hU15 : Upd (fun b => b = vb ∨ b = rb) w1 w15 := hU14.trans' hV15 fun i hi h => h.elim (fun h => by omega) .inr
      have hz15 := hV15.size
      have hG15 : Glo ev w15 := hG1.updS hU15 hgM1 hgM2
      have hq15 : Rdr RT ok w15 rb s7 ∧ NN w15 rb s7 := by
        have hn : ∀ x, x = w15 → (Rdr RT ok x rb s7 ∧ NN x rb s7) := fun x hx => by
          rw [hx, ← hw15]
          exact Rdr.store hq14 (by omega) (fun h => by have := (hok _ h).1; first | omega | exact (hok _ h).2 rfl)
        exact hn _ rfl
      obtain ⟨X15, hX15⟩ : ∃ X : Array Value, X = (A1 ++ (([strV (rdStr true s2).1, .slice aa1 N1 qq1, .map none] : List Value) ++ B1)).toArray := ⟨_, rfl⟩
      have hxb15 : blk w15 R1 = some (X15, 99, (0, 0)) := by rw [hX15]; exact hx1_15
      have hXs15 : j1 * 3 + 3 ≤ X15.size := by rw [hX15]; simp only [List.size_toArray, List.length_append, List.length_cons, List.length_nil, hA1]; omega
      clear hw15
      have hfe0_1 : RepF (RepS true d) (szS true d) fDescribeLogDirsRequestTopic_1 (fun b => (ok b ∨ w1.heap.size ≤ b) ∧ ¬ ownB va0 b) w15 (xe0_1) [.slice aa1 N1 qq1] := by rw [hxe0_1, hrd1]; exact RepF.keepS (RepF_row rfl hnc1 hN1 rfl hL1.row hL1.all (fun b hb => ⟨.inr (by omega), fun ho => by have := (hown1 _ ho).2; omega⟩)) (hV15.keeps fun b _ hk e => hoM1 b hk e)
      clear hL1 hnc1
      have hle0_2 : rdL (rdP d ver true) (dfP d) ver true [] s7 = ([], s7) := rfl
      have hle0_1 : rdL (rdP d ver true) (dfP d) ver true [fDescribeLogDirsRequestTopic_1] s3 = ([xe0_1], s7) := by rw [rdL_st (by decide) hhe0_1, ← hxe0_1, ← hs7, hle0_2]
      have hle0_0 : rdL (rdP d ver true) (dfP d) ver true [fDescribeLogDirsRequestTopic_0, fDescribeLogDirsRequestTopic_1] s2 = ([xe0_0, xe0_1], s7) := by rw [rdL_st (by decide) hhe0_0, ← hxe0_0, ← hs3, hle0_1]
      have hfine0 : rdP (d + 1) ver true fs_DescribeLogDirsRequestTopic s2 = (.mk 0 [] false [xe0_0, xe0_1] (rdTags s7).1, (rdTags s7).2) := rdP_t hle0_0
      repeat ((first | refine W.seqR rfl ?_ | refine W.seq ?_ | refine W.regR rfl ?_ | refine W.condK ?_ | refine W.block ?_ | refine W.skip ?_ | refine W.ret ?_ | refine W.exit ?_); try simp (maxSteps := 1000000) (disch := (first | omega | (simp only [World.size_alloc, size_wr, size_drew] <;> omega) | exact not_noB _)) only [go_sem, ↓reduceIte, n0, reduceCtorEq, n1, n2, n3, n4, n5, i0, i1, i2, i3, i4, i5, i6, i7, hxb15, hrd1_2, hrd1_7, hrd1_8, hrd1_9, hrd1_10, hrd1_13, hrd1_12, hrd1_14, hrd1_16, hrd1_20, hrd1_19, exitRQ_ret, exitRQ_exit, Int.toNat_natCast, Nat.mul_one])
      refine (ReadTags_fn w15 hq15.1 hrok).mono ?_
      rintro _ w16 ⟨qme0, rfl, hT16, hTn, hq16, hu16⟩
      have hx1_16 := hu16.blk_some hx1_15 (by omega)
      have hV16 : Upd (fun b => b = R1 ∨ b = rb) w15 w16 := hu16.mono (fun _ h => .inr h)
      have hU16 : Upd (fun b => b = vb ∨ b = rb) w1 w16 := hU15.trans' hV16 fun i hi h => h.elim (fun h => by omega) .inr
      have hz16 := hV16.size
      have hG16 : Glo ev w16 := hG1.updS hU16 hgM1 hgM2
      obtain ⟨X16, hX16⟩ : ∃ X : Array Value, X = (A1 ++ (([strV (rdStr true s2).1, .slice aa1 N1 qq1, .map none] : List Value) ++ B1)).toArray := ⟨_, rfl⟩
      have hxb16 : blk w16 R1 = some (X16, 99, (0, 0)) := by rw [hX16]; exact hx1_16
      have hXs16 : j1 * 3 + 3 ≤ X16.size := by rw [hX16]; simp only [List.size_toArray, List.length_append, List.length_cons, List.length_nil, hA1]; omega
      obtain ⟨s8, hs8⟩ : ∃ s, s = (rdTags s7).2 := ⟨_, rfl⟩
      rw [← hs8] at hq16 hfine0
      have hst16_2 : j1 * 3 + 3 ≤ X16.size := by omega
      try simp (maxSteps := 1000000) (disch := (first | omega | (simp only [World.size_alloc, size_wr, size_drew] <;> omega) | exact not_noB _)) only [go_sem, ↓reduceIte, n0, reduceCtorEq, n1, n2, n3, n4, n5, i0, i1, i2, i3, i4, i5, i6, i7, hxb16, hrd1_2, hrd1_7, hrd1_8, hrd1_9, hrd1_10, hrd1_13, hrd1_12, hrd1_14, hrd1_16, hrd1_20, hrd1_19, exitRQ_ret, exitRQ_exit, Int.toNat_natCast, Nat.mul_one, hst16_2]
      repeat ((first | refine W.seqR rfl ?_ | refine W.seq ?_ | refine W.regR rfl ?_ | refine W.condK ?_ | refine W.block ?_ | refine W.skip ?_ | refine W.ret ?_ | refine W.exit ?_); try simp (maxSteps := 1000000) (disch := (first | omega | (simp only [World.size_alloc, size_wr, size_drew] <;> omega) | exact not_noB _)) only [go_sem, ↓reduceIte, n0, reduceCtorEq, n1, n2, n3, n4, n5, i0, i1, i2, i3, i4, i5, i6, i7, hxb16, hrd1_2, hrd1_7, hrd1_8, hrd1_9, hrd1_10, hrd1_13, hrd1_12, hrd1_14, hrd1_16, hrd1_20, hrd1_19, exitRQ_ret, exitRQ_exit, Int.toNat_natCast, Nat.mul_one, hst16_2])
      generalize hw17 : wr w16 R1 (j1 * 3 + 2) [.map qme0] = w17
      have hS17 : Upd (fun b => b = R1 ∨ b = rb) w16 w17 := by rw [← hw17]; exact (Upd.refl _ _).wr _ _ (.inr (.inl rfl))
      have hx1_17 : blk w17 R1 = some ((A1 ++ (([strV (rdStr true s2).1, .slice aa1 N1 qq1, .map qme0] : List Value) ++ B1)).toArray, 99, (0, 0)) := by rw [← hw17]; exact el_blk (o := 2) hx1_16 hA1 (Nat.le_of_ble_eq_true rfl)
      have hV17 := hS17
      have hU17 : Upd (fun b => b = vb ∨ b = rb) w1 w17 := hU16.trans' hV17 fun i hi h => h.elim (fun h => by omega) .inr
      have hz17 := hV17.size
      have hG17 : Glo ev w17 := hG1.updS hU17 hgM1 hgM2
      have hq17 : Rdr RT ok w17 rb s8 ∧ NN w17 rb s8 := by
        have hn : ∀ x, x = w17 → (Rdr RT ok x rb s8 ∧ NN x rb s8) := fun x hx => by
          rw [hx, ← hw17]
          exact Rdr.store hq16 (by omega) (fun h => by have := (hok _ h).1; first | omega | exact (hok _ h).2 rfl)
        exact hn _ rfl
      obtain ⟨X17, hX17⟩ : ∃ X : Array Value, X = (A1 ++ (([strV (rdStr true s2).1, .slice aa1 N1 qq1, .map qme0] : List Value) ++ B1)).toArray := ⟨_, rfl⟩
      have hxb17 : blk w17 R1 = some (X17, 99, (0, 0)) := by rw [hX17]; exact hx1_17
      have hXs17 : j1 * 3 + 3 ≤ X17.size := by rw [hX17]; simp only [List.size_toArray, List.length_append, List.length_cons, List.length_nil, hA1]; omega
      clear hw17
      have hTge0 : TagsM (fun b => (ok b ∨ w1.heap.size ≤ b) ∧ ¬ ownB va0 b) w17 (.map qme0) (rdTags s7).1 := (hT16.weaken fun b _ hk => hk.elim (fun hk => ⟨.inl hk, fun ho => by have := (hown1 b ho).1; have := (hok b hk).1; omega⟩) (fun h => by have h' : w15.heap.size ≤ b := h; exact ⟨.inr (by omega), fun ho => by have := (hown1 _ ho).2; omega⟩)).keep (hV17.keeps fun b _ hk e => hoM1 b hk e)
      have hCe0_17 : Upd (fun b => b = R1 ∨ b = rb) w17 w17 := Upd.refl _ _
      have hCe0_16 : Upd (fun b => b = R1 ∨ b = rb) w16 w17 := hV17.trans hCe0_17
      have hCe0_15 : Upd (fun b => b = R1 ∨ b = rb) w15 w17 := hV16.trans hCe0_16
      have hCe0_14 : Upd (fun b => b = R1 ∨ b = rb) w14 w17 := hV15.trans hCe0_15
      have hCe0_9 : Upd (fun b => b = R1 ∨ b = rb) w9 w17 := hV14.trans hCe0_14
      have hCe0_8 : Upd (fun b => b = R1 ∨ b = rb) w8 w17 := hV9.trans hCe0_9
      have hCe0_7 : Upd (fun b => b = R1 ∨ b = rb) w7 w17 := hV8.trans hCe0_8
      have hCe0_6 : Upd (fun b => b = R1 ∨ b = rb) w6 w17 := hV7.trans hCe0_7
      have hCe0_5 : Upd (fun b => b = R1 ∨ b = rb) w5 w17 := hV6.trans hCe0_6
      have hRe0 : RepS true (d + 1) fs_DescribeLogDirsRequestTopic (fun b => (ok b ∨ w1.heap.size ≤ b) ∧ ¬ ownB va0 b) w17 (.mk 0 [] false [xe0_0, xe0_1] (rdTags s7).1) [strV (rdStr true s2).1, .slice aa1 N1 qq1, .map qme0] := RepS.introT (c := [strV (rdStr true s2).1, .slice aa1 N1 qq1]) (RepL.cons1 (hfe0_0.keepS (hCe0_8.keeps fun b _ hk e => hoM1 b hk e)) (RepL.cons1 (hfe0_1.keepS (hCe0_15.keeps fun b _ hk e => hoM1 b hk e)) RepL.nil)) hTge0
      have hrE : (rd1 (rdP (d + 1) ver true) fDescribeLogDirsRequest_0.of fDescribeLogDirsRequest_0.sub false true) s2 = ((.mk 0 [] false [xe0_0, xe0_1] (rdTags s7).1), s8) := by rw [show (rd1 (rdP (d + 1) ver true) fDescribeLogDirsRequest_0.of fDescribeLogDirsRequest_0.sub false true) s2 = _ from rd1_part]; exact hfine0
      have hxE : (Rep1 (RepS true (d + 1)) fDescribeLogDirsRequest_0.of fDescribeLogDirsRequest_0.sub) (fun b => (ok b ∨ w1.heap.size ≤ b) ∧ ¬ ownB va0 b) w17 (.mk 0 [] false [xe0_0, xe0_1] (rdTags s7).1) [strV (rdStr true s2).1, .slice aa1 N1 qq1, .map qme0] := Rep1_part.2 hRe0
      repeat ((first | refine W.seqR rfl ?_ | refine W.seq ?_ | refine W.regR rfl ?_ | refine W.condK ?_ | refine W.block ?_ | refine W.skip ?_ | refine W.ret ?_ | refine W.exit ?_); try simp (maxSteps := 1000000) (disch := (first | omega | (simp only [World.size_alloc, size_wr, size_drew] <;> omega) | exact not_noB _)) only [go_sem, ↓reduceIte, n0, reduceCtorEq, n1, n2, n3, n4, n5, i0, i1, i2, i3, i4, i5, i6, i7, hxb17, hrd1_2, hrd1_7, hrd1_8, hrd1_9, hrd1_10, hrd1_13, hrd1_12, hrd1_14, hrd1_16, hrd1_20, hrd1_19, exitRQ_ret, exitRQ_exit, Int.toNat_natCast, Nat.mul_one])
      have hTk : Upd (fun b => b = R1 ∨ b = rb) w5 w17 := (((((((hV6.trans hV7).trans hV8).trans hV9).trans hV14).trans hV15).trans hV16).trans hV17)
      have hL' := hL0.step (Rep1_lay _ _ fun _ => RepS_lay true _ _) hlt0 (hnext1 w17 [strV (rdStr true s2).1, .slice aa1 N1 qq1, .map qme0] rfl hx1_17) (by rw [hrE]; exact hxE) (hTk.mono fun b h => h.imp (fun e => ⟨_, _, _, hva1, e⟩) id) (by rw [hrE]; exact hq17) (fun h => hoM rb h (.inr rfl)) (Nat.le_refl _)
      have hij : IntKind.i32.wrap ((j1 : Int) + 1) = ((j1 + 1 : Nat) : Int) := by rw [i32_wrap (by omega)]; omega
      repeat ((first | refine W.seqR rfl ?_ | refine W.seq ?_ | refine W.regR rfl ?_ | refine W.condK ?_ | refine W.block ?_ | refine W.skip ?_ | refine W.ret ?_ | refine W.exit ?_); try simp (maxSteps := 1000000) (disch := (first | omega | (simp only [World.size_alloc, size_wr, size_drew] <;> omega) | exact not_noB _)) only [go_sem, ↓reduceIte, n0, reduceCtorEq, n1, n2, n3, n4, n5, i0, i1, i2, i3, i4, i5, i6, i7, hxb17, hrd1_2, hrd1_7, hrd1_8, hrd1_9, hrd1_10, hrd1_13, hrd1_12, hrd1_14, hrd1_16, hrd1_20, hrd1_19, exitRQ_ret, exitRQ_exit, Int.toNat_natCast, Nat.mul_one, hij])
      refine ⟨⟨(by simp (maxSteps := 1000000) (disch := (first | omega | (simp only [World.size_alloc, size_wr, size_drew] <;> omega) | exact not_noB _)) only [go_sem, ↓reduceIte, n0, reduceCtorEq, n1, n2, n3, n4, n5, i0, i1, i2, i3, i4, i5, i6, i7, Holds_nil, Holds_cons, hrd1_2, hrd1_7, hrd1_8, hrd1_9, hrd1_10, hrd1_13, hrd1_12, hrd1_14, hrd1_16, hrd1_20, hrd1_19]; exact hva1.symm), j1 + 1, (by simp (maxSteps := 1000000) (disch := (first | omega | (simp only [World.size_alloc, size_wr, size_drew] <;> omega) | exact not_noB _)) only [go_sem, ↓reduceIte, n0, reduceCtorEq, n1, n2, n3, n4, n5, i0, i1, i2, i3, i4, i5, i6, i7, hrd1_2, hrd1_7, hrd1_8, hrd1_9, hrd1_10, hrd1_13, hrd1_12, hrd1_14, hrd1_16, hrd1_20, hrd1_19, hij]; all_goals rfl), _, _, _, hL'⟩, ?_⟩
      try simp (maxSteps := 1000000) (disch := (first | omega | (simp only [World.size_alloc, size_wr, size_drew] <;> omega) | exact not_noB _)) only [go_sem, ↓reduceIte, n0, reduceCtorEq, n1, n2, n3, n4, n5, i0, i1, i2, i3, i4, i5, i6, i7, hrd1_2, hrd1_7, hrd1_8, hrd1_9, hrd1_10, hrd1_13, hrd1_12, hrd1_14, hrd1_16, hrd1_20, hrd1_19]
      simp only [RowKit.intOf]
      omega
    · have hjN : j1 = N0 := by omega
      rw [hjN] at hL0
      repeat ((first | refine W.seqR rfl ?_ | refine W.seq ?_ | refine W.regR rfl ?_ | refine W.condK ?_ | refine W.block ?_ | refine W.skip ?_ | refine W.ret ?_ | refine W.exit ?_); try simp (maxSteps := 1000000) (disch := (first | omega | (simp only [World.size_alloc, size_wr, size_drew] <;> omega) | exact not_noB _)) only [go_sem, ↓reduceIte, n0, reduceCtorEq, n1, n2, n3, n4, n5, i0, i1, i2, i3, i4, i5, i6, i7, hrc0_2, hrc0_7, hrc0_8, hrc0_9, hrc0_10, hrc0_13, hrc0_12, hri0, exitRQ_ret, exitRQ_exit])
      exact ⟨(by simp (maxSteps := 1000000) (disch := (first | omega | (simp only [World.size_alloc, size_wr, size_drew] <;> omega) | exact not_noB _)) only [go_sem, ↓reduceIte, n0, reduceCtorEq, n1, n2, n3, n4, n5, i0, i1, i2, i3, i4, i5, i6, i7, Holds_nil, Holds_cons, hrc0_2, hrc0_7, hrc0_8, hrc0_9, hrc0_10, hrc0_13, hrc0_12, hri0]), s2, xs0, css0, hL0⟩
  rintro ρ w18 ⟨⟨hrd0_2, hrd0_7, hrd0_8, hrd0_9, hrd0_10, hrd0_13, hrd0_12, -⟩, s9, xs0, css0, hL0⟩
  have hq18 := hL0.rd
  have hu18 := hL0.upd
  have hv_18 := hu18.blk_some hv_2 (by omega)
  have hV18 : Upd (fun b => b = vb ∨ b = rb) w2 w18 := hu18.mono (fun _ h => .inr h)
  have hU18 : Upd (fun b => b = vb ∨ b = rb) w1 w18 := hU2.trans hV18
  have hz18 := hV18.size
  have hG18 : Glo ev w18 := hG1.updS hU18 hgM1 hgM2
  have hrd0 : rdF (rdP (d + 1) ver true) ver true fDescribeLogDirsRequest_0 s0 = (.mk 0 [] (nilS fDescribeLogDirsRequest_0 ver y0) xs0 [], s9) := by
    have h := rdF_listE (pt := (rdP (d + 1) ver true)) (v := ver) (flex := true) (f := fDescribeLogDirsRequest_0) (s := s0) (xs := xs0) (e := s9) rfl (by rw [hy0, ← hN0, ← hs1]; exact hL0.done)
    rw [hy0] at h; exact h
  have hs9 : s9 = (rdF (rdP (d + 1) ver true) ver true fDescribeLogDirsRequest_0 s0).2 := by rw [hrd0]
  obtain ⟨aa0, qq0, hvs0⟩ := hL0.row.shape
  subst hvs0
  repeat ((first | refine W.seqR rfl ?_ | refine W.seq ?_ | refine W.regR rfl ?_ | refine W.condK ?_ | refine W.block ?_ | refine W.skip ?_ | refine W.ret ?_ | refine W.exit ?_); try simp (maxSteps := 1000000) (disch := (first | omega | (simp only [World.size_alloc, size_wr, size_drew] <;> omega) | exact not_noB _)) only [go_sem, ↓reduceIte, n0, reduceCtorEq, n1, n2, n3, n4, n5, i0, i1, i2, i3, i4, i5, i6, i7, hv_18, hrd0_2, hrd0_7, hrd0_8, hrd0_9, hrd0_10, hrd0_13, hrd0_12])
  generalize hw19 : wr w18 vb 1 [.slice aa0 N0 qq0] = w19
  have hS19 : Upd (fun b => b = vb ∨ b = rb) w18 w19 := by rw [← hw19]; exact (Upd.refl _ _).wr _ _ (.inr (.inl rfl))
  have hv_19 : blk w19 vb = some (#[.int .i16 ver, .slice aa0 N0 qq0, .map none], 94, (0, 0)) := by rw [← hw19, blk_wr_eq, hv_18]; rfl
  have hV19 := hS19
  have hU19 : Upd (fun b => b = vb ∨ b = rb) w1 w19 := hU18.trans hV19
  have hz19 := hV19.size
  have hG19 : Glo ev w19 := hG1.updS hU19 hgM1 hgM2
  have hq19 : Rdr RT ok w19 rb s9 ∧ NN w19 rb s9 := by
    have hn : ∀ x, x = w19 → (Rdr RT ok x rb s9 ∧ NN x rb s9) := fun x hx => by
      rw [hx, ← hw19]
      exact Rdr.store hq18 (by omega) (fun h => by have := (hok _ h).1; first | omega | exact (hok _ h).2 rfl)
    exact hn _ rfl
  clear hw19
  have hf_0 : RepF (RepS true (d + 1)) (szS true (d + 1)) fDescribeLogDirsRequest_0 (fun b => ok b ∨ w1.heap.size ≤ b) w19 (x_0) [.slice aa0 N0 qq0] := by rw [hx_0, hrd0]; exact RepF.keepS (RepF_row rfl hnc0 hN0 rfl hL0.row hL0.all (fun b hb => .inr (by omega))) (hV19.keeps fun b _ hk e => (hoM b hk) e)
  clear hL0 hnc0
  have hl_1 : rdL (rdP (d + 1) ver true) (dfP (d + 1)) ver true [] s9 = ([], s9) := rfl
  have hl_0 : rdL (rdP (d + 1) ver true) (dfP (d + 1)) ver true [fDescribeLogDirsRequest_0] s0 = ([x_0], s9) := by rw [rdL_st (by decide) hh_0, ← hx_0, ← hs9, hl_1]
  have hfin : rdP (d + 2) ver true fs_DescribeLogDirsRequest s0 = (.mk 0 [] false [x_0] (rdTags s9).1, (rdTags s9).2) := rdP_t hl_0
  repeat ((first | refine W.seqR rfl ?_ | refine W.seq ?_ | refine W.regR rfl ?_ | refine W.condK ?_ | refine W.block ?_ | refine W.skip ?_ | refine W.ret ?_ | refine W.exit ?_); try simp (maxSteps := 1000000) (disch := (first | omega | (simp only [World.size_alloc, size_wr, size_drew] <;> omega) | exact not_noB _)) only [go_sem, ↓reduceIte, n0, reduceCtorEq, n1, n2, n3, n4, n5, i0, i1, i2, i3, i4, i5, i6, i7, hv_19, hrd0_2, hrd0_7, hrd0_8, hrd0_9, hrd0_10, hrd0_13, hrd0_12])
  refine (ReadTags_fn w19 hq19.1 hrok).mono ?_
  rintro _ w20 ⟨qm, rfl, hT20, hTn, hq20, hu20⟩
  have hv_20 := hu20.blk_some hv_19 (by omega)
  have hV20 : Upd (fun b => b = vb ∨ b = rb) w19 w20 := hu20.mono (fun _ h => .inr h)
  have hU20 : Upd (fun b => b = vb ∨ b = rb) w1 w20 := hU19.trans hV20
  have hz20 := hV20.size
  have hG20 : Glo ev w20 := hG1.updS hU20 hgM1 hgM2
  obtain ⟨s10, hs10⟩ : ∃ s, s = (rdTags s9).2 := ⟨_, rfl⟩
  rw [← hs10] at hq20 hfin
  try simp (maxSteps := 1000000) (disch := (first | omega | (simp only [World.size_alloc, size_wr, size_drew] <;> omega) | exact not_noB _)) only [go_sem, ↓reduceIte, n0, reduceCtorEq, n1, n2, n3, n4, n5, i0, i1, i2, i3, i4, i5, i6, i7, hv_20, hrd0_2, hrd0_7, hrd0_8, hrd0_9, hrd0_10, hrd0_13, hrd0_12]
  repeat ((first | refine W.seqR rfl ?_ | refine W.seq ?_ | refine W.regR rfl ?_ | refine W.condK ?_ | refine W.block ?_ | refine W.skip ?_ | refine W.ret ?_ | refine W.exit ?_); try simp (maxSteps := 1000000) (disch := (first | omega | (simp only [World.size_alloc, size_wr, size_drew] <;> omega) | exact not_noB _)) only [go_sem, ↓reduceIte, n0, reduceCtorEq, n1, n2, n3, n4, n5, i0, i1, i2, i3, i4, i5, i6, i7, hv_20, hrd0_2, hrd0_7, hrd0_8, hrd0_9, hrd0_10, hrd0_13, hrd0_12])
  generalize hw21 : wr w20 vb 2 [.map qm] = w21
  have hS21 : Upd (fun b => b = vb ∨ b = rb) w20 w21 := by rw [← hw21]; exact (Upd.refl _ _).wr _ _ (.inr (.inl rfl))
  have hv_21 : blk w21 vb = some (#[.int .i16 ver, .slice aa0 N0 qq0, .map qm], 94, (0, 0)) := by rw [← hw21, blk_wr_eq, hv_20]; rfl
  have hV21 := hS21
  have hU21 : Upd (fun b => b = vb ∨ b = rb) w1 w21 := hU20.trans hV21
  have hz21 := hV21.size
  have hG21 : Glo ev w21 := hG1.updS hU21 hgM1 hgM2
  have hq21 : Rdr RT ok w21 rb s10 ∧ NN w21 rb s10 := by
    have hn : ∀ x, x = w21 → (Rdr RT ok x rb s10 ∧ NN x rb s10) := fun x hx => by
      rw [hx, ← hw21]
      exact Rdr.store hq20 (by omega) (fun h => by have := (hok _ h).1; first | omega | exact (hok _ h).2 rfl)
    exact hn _ rfl
  clear hw21
  have hTg : TagsM (fun b => ok b ∨ w1.heap.size ≤ b) w21 (.map qm) (rdTags s9).1 := (hT20.weaken fun b _ hk => hk.elim (fun hk => .inl hk) (fun h => by have h' : w19.heap.size ≤ b := h; exact .inr (by omega))).keep (hV21.keeps fun b _ hk e => (hoM b hk) e)
  have hC_21 : Upd (fun b => b = vb ∨ b = rb) w21 w21 := Upd.refl _ _
  have hC_20 : Upd (fun b => b = vb ∨ b = rb) w20 w21 := hV21.trans hC_21
  have hC_19 : Upd (fun b => b = vb ∨ b = rb) w19 w21 := hV20.trans hC_20
  have hC_18 : Upd (fun b => b = vb ∨ b = rb) w18 w21 := hV19.trans hC_19
  have hC_2 : Upd (fun b => b = vb ∨ b = rb) w2 w21 := hV18.trans hC_18
  have hC_1 : Upd (fun b => b = vb ∨ b = rb) w1 w21 := hV2.trans hC_2
  have hR : RepS true (d + 2) fs_DescribeLogDirsRequest (fun b => ok b ∨ w1.heap.size ≤ b) w21 (.mk 0 [] false [x_0] (rdTags s9).1) [.slice aa0 N0 qq0, .map qm] := RepS.introT (c := [.slice aa0 N0 qq0]) (RepL.cons1 (hf_0.keepS (hC_19.keeps fun b _ hk e => (hoM b hk) e)) RepL.nil) hTg
  repeat ((first | refine W.seqR rfl ?_ | refine W.seq ?_ | refine W.regR rfl ?_ | refine W.condK ?_ | refine W.block ?_ | refine W.skip ?_ | refine W.ret ?_ | refine W.exit ?_); try simp (maxSteps := 1000000) (disch := (first | omega | (simp only [World.size_alloc, size_wr, size_drew] <;> omega) | exact not_noB _)) only [go_sem, ↓reduceIte, n0, reduceCtorEq, n1, n2, n3, n4, n5, i0, i1, i2, i3, i4, i5, i6, i7, hv_21, hrd0_2, hrd0_7, hrd0_8, hrd0_9, hrd0_10, hrd0_13, hrd0_12])
  refine (RComplete_fn w21 hq21.1 hG21.2).mono ?_
  rintro _ wz ⟨rfl, hez⟩
  rw [hez]
  repeat ((first | refine W.seqR rfl ?_ | refine W.seq ?_ | refine W.regR rfl ?_ | refine W.condK ?_ | refine W.block ?_ | refine W.skip ?_ | refine W.ret ?_ | refine W.exit ?_); try simp (maxSteps := 1000000) (disch := (first | omega | (simp only [World.size_alloc, size_wr, size_drew] <;> omega) | exact not_noB _)) only [go_sem, ↓reduceIte, n0, reduceCtorEq, n1, n2, n3, n4, n5, i0, i1, i2, i3, i4, i5, i6, i7, hv_21, hrd0_2, hrd0_7, hrd0_8, hrd0_9, hrd0_10, hrd0_13, hrd0_12])
  rw [hfin]
  refine ⟨fun h => ?_, fun h => ⟨?_, [.slice aa0 N0 qq0, .map qm], hv_21, ?_⟩, ?_⟩
  · have h' : s10 = none := h
    rw [h']; rfl
  · cases hsn : s10 with
    | none => exact absurd hsn h
    | some x => rfl
  · exact (RepS_lay true (d + 2) fs_DescribeLogDirsRequest).weaken hR fun b _ hk => hk.imp id fun h => by omega
  · exact hbase.trans' hU21 fun i hi h => h.elim id fun h => by omega
end Ms

namespace Ms
open Nat renaming reduceEqDiff → n0, reduceAdd → n1, reduceMul → n2, reduceSub → n3, reduceLT → n4, reduceLeDiff → n5
open Int renaming reduceEq → i0, reduceLT → i1, reduceLE → i2, reduceNeg → i3, reduceAdd → i4, reduceSub → i5, reduceMul → i6, reduceToNat → i7
set_option maxRecDepth 8000
open Go Go.Proofs Go.Shelf
attribute [local congr] W_congr WPsq_congr WPp_congr optK_congr addrK_congr intK_congr boolK_congr sliceK_congr tupleK_congr funcK_congr Fn_congr rawK_congr takeK_congr stepK_congr convK_congr aggK_congr

theorem ReadFromDescribeLogDirsRequest_fn {d : Nat} {ok : Blocks} {ver : Int} {ev : Value} (hlo : 0 ≤ ver) (hhi : ver ≤ 5) (w : World) {vb : Nat} (src : Value) (s : List UInt8) (hv : blk w vb = some (#[.int .i16 ver, .slice none 0 0, .map none], 94, (0, 0))) (hsrc : BytesV ok w src s) (hok0 : ∀ b, ok b → b < w.heap.size ∧ b ≠ vb) (hG : Glo ev w) (hgv : ¬ 0 = vb ∧ ¬ 1 = vb) :
    Fn Tryz.prog 51 #[.pointer (some ⟨vb, 0, none⟩), src] w (ReadQ 94 ok ver (d + 2) fs_DescribeLogDirsRequest vb w (rdP (d + 2) ver (flexB 2 ver) fs_DescribeLogDirsRequest (some s)) ev) := by
  obtain ⟨sa, sc, rfl, _⟩ := hsrc.shape
  refine fn_of_W Tryz.func51 rfl Tryz.results51 Tryz.ntmps51 rfl ?_
  repeat ((first | refine W.seqR rfl ?_ | refine W.seq ?_ | refine W.regR rfl ?_ | refine W.condK ?_ | refine W.block ?_ | refine W.skip ?_ | refine W.ret ?_ | refine W.exit ?_); try simp (maxSteps := 1000000) (disch := (first | omega | (simp only [World.size_alloc, size_wr, size_drew] <;> omega) | exact not_noB _)) only [go_sem, ↓reduceIte, n0, reduceCtorEq, n1, n2, n3, n4, n5, i0, i1, i2, i3, i4, i5, i6, i7])
  have hcl : (0 ≤ ver ∧ ver ≤ 1) ∨ (2 ≤ ver ∧ ver ≤ 5) := by omega
  rcases hcl with ⟨h1, h2⟩ | ⟨h1, h2⟩
  · have hfl : flexB 2 ver = false := by simp only [flexB, Bool.and_eq_false_iff, decide_eq_false_iff_not]; omega
    rw [hfl]
    refine (readDescribeLogDirsRequest_0 (d := d) h1 h2 w _ s hv hsrc hok0 hG hgv).mono ?_
    rintro r5 w5 h5
    repeat ((first | refine W.seqR rfl ?_ | refine W.seq ?_ | refine W.regR rfl ?_ | refine W.condK ?_ | refine W.block ?_ | refine W.skip ?_ | refine W.ret ?_ | refine W.exit ?_); try simp (maxSteps := 1000000) (disch := (first | omega | (simp only [World.size_alloc, size_wr, size_drew] <;> omega) | exact not_noB _)) only [go_sem, ↓reduceIte, n0, reduceCtorEq, n1, n2, n3, n4, n5, i0, i1, i2, i3, i4, i5, i6, i7])
    all_goals exact h5
  · have hfl : flexB 2 ver = true := by simp only [flexB, Bool.and_eq_true, decide_eq_true_eq]; omega
    rw [hfl]
    refine (readDescribeLogDirsRequest_1 (d := d) h1 h2 w _ s hv hsrc hok0 hG hgv).mono ?_
    rintro r5 w5 h5
    repeat ((first | refine W.seqR rfl ?_ | refine W.seq ?_ | refine W.regR rfl ?_ | refine W.condK ?_ | refine W.block ?_ | refine W.skip ?_ | refine W.ret ?_ | refine W.exit ?_); try simp (maxSteps := 1000000) (disch := (first | omega | (simp only [World.size_alloc, size_wr, size_drew] <;> omega) | exact not_noB _)) only [go_sem, ↓reduceIte, n0, reduceCtorEq, n1, n2, n3, n4, n5, i0, i1, i2, i3, i4, i5, i6, i7])
    all_goals exact h5

end Ms

namespace Ms
open Go
theorem nullS_early {f : Fld} {v : Int} {t : Tree} (h : v < f.null) : nullS f v t = false := by
  unfold nullS
  have : decide (v ≥ f.null) = false := by simp; omega
  rw [this]; simp
section
variable {P : List Fld → Tree → Prop} {V : Int} {f : Fld} {t : Tree}
theorem FitWF.listL (h : FitWF P V f t) (hk : f.kind = 11) {L : List Tree} (hL : L = if nullS f V t = true then [] else t.l) : L.length ≤ 32767 ∧ ∀ x ∈ L, Fit1 P f.of f.sub x := by
  subst hL
  split
  · exact ⟨by simp, fun x hx => by cases hx⟩
  · exact h.list hk
theorem RepF_listN {R : List Fld → Rel Tree} {S : List Fld → Nat} {ok : Blocks} {w : World} {c : List Value} (hg : FitWF P V f t) (h : f.kind = 11) (hn : 0 ≤ f.null) (hr : RepF R S f ok w t c) :
    ∃ v L, c = [v] ∧ L = (if nullS f V t = true then [] else t.l) ∧ SlR ok w (sz1 S f.of f.sub) (Rep1 R f.of f.sub ok w) v L ∧ ∀ a n k, v = .slice a n k → a.isNone = nullS f V t := by
  unfold RepF at hr
  rw [if_neg (by omega), if_pos h] at hr
  obtain ⟨v, rfl, hr⟩ := hr
  rw [hg.isnull hn] at hr
  refine ⟨v, _, rfl, rfl, ?_⟩
  by_cases ht : nullS f V t = true
  · rw [if_pos ht] at hr ⊢
    subst hr
    refine ⟨⟨[], ⟨none, 0, rfl, Nat.le_refl _, by simp, .inl rfl⟩, rfl, fun i h => by simp at h⟩, fun a n k e => ?_⟩
    cases e; rw [ht]; rfl
  · rw [if_neg ht] at hr ⊢
    refine ⟨hr.1, fun a n k e => ?_⟩
    obtain ⟨a', n', k', e'⟩ := hr.2
    rw [e'] at e; cases e
    cases hb : nullS f V t with
    | true => exact absurd hb ht
    | false => rfl
theorem RepF_bytesN {R : List Fld → Rel Tree} {S : List Fld → Nat} {ok : Blocks} {w : World} {c : List Value} (hg : FitWF P V f t) (h : f.kind = 9) (hn : 0 ≤ f.null) (hr : RepF R S f ok w t c) : ∃ v, c = [v] ∧ OptBytes ok w v (nullS f V t) t.s := by
  obtain ⟨v, rfl, ho⟩ := (RepF_bytes h).1 hr
  rw [hg.isnull hn] at ho
  exact ⟨v, rfl, ho⟩
variable {pt : List Fld → Int → Bool → Tree → List UInt8} {flex : Bool}
theorem fieldS_listN (hg : FitWF P V f t) (hk : f.kind = 11) {L : List Tree} (hL : L = if nullS f V t = true then [] else t.l) {g : Tree → List UInt8} (hx : ∀ x ∈ L, valueS pt f.of f.sub false V flex x = g x) : fieldS pt f V flex t = countedS flex (nullS f V t) L.length 4 ++ L.flatMap g := by
  unfold fieldS
  rw [if_pos hk, thingsS_id (hg.list hk).1, ← hL, flatMap_ext hx]
theorem fieldS_nbytes_t (hg : FitWF P V f t) (hk : f.kind = 9) : fieldS pt f V true t = if nullS f V t = true then [0] else uvarS (t.s.length + 1) ++ t.s := by
  rw [fieldS_one (by omega), hk, valueS_bytes (hg.text (.inr hk))]
  simp
theorem fieldS_nbytes_f (hg : FitWF P V f t) (hk : f.kind = 9) : fieldS pt f V false t = if nullS f V t = true then fixedS (-1) 4 else fixedS t.s.length 4 ++ t.s := by
  rw [fieldS_one (by omega), hk, valueS_bytes (hg.text (.inr hk))]
  simp
end
theorem optBytes_shapeN {ok : Blocks} {w : World} {v : Value} {null : Bool} {s : List UInt8} (h : OptBytes ok w v null s) : (null = true ∧ v = .slice none 0 0) ∨ (null = false ∧ ∃ a c, v = .slice (some a) s.length c ∧ BytesV ok w v s) := by
  unfold OptBytes at h
  cases null with
  | true => rw [if_pos rfl] at h; exact .inl ⟨rfl, h⟩
  | false =>
    rw [if_neg (by decide)] at h
    obtain ⟨hb, a, n, c, rfl⟩ := h
    obtain ⟨a', c', e, _⟩ := id hb
    rw [List.length_map] at e
    cases e
    exact .inr ⟨rfl, _, _, rfl, hb⟩
end Ms

namespace Ms
open Nat renaming reduceEqDiff → n0, reduceAdd → n1, reduceMul → n2, reduceSub → n3, reduceLT → n4, reduceLeDiff → n5
open Int renaming reduceEq → i0, reduceLT → i1, reduceLE → i2, reduceNeg → i3, reduceAdd → i4, reduceSub → i5, reduceMul → i6, reduceToNat → i7
set_option maxRecDepth 4000
open Go Go.Proofs
attribute [local congr] W_congr WPsq_congr WPp_congr optK_congr addrK_congr intK_congr boolK_congr sliceK_congr tupleK_congr funcK_congr Fn_congr rawK_congr takeK_congr stepK_congr convK_congr aggK_congr

theorem AppendNullableArrayLen_fn {B : Nat} (v : Value) (s : List UInt8) (w : World) (ho : OwnBy 5 B w v s) (hB : B ≤ w.heap.size) (n : Nat) (hn : n ≤ 32767) (null : Bool) (hl : s.length ≤ 2 ^ 44) :
    Fn Tryz.prog 101 #[v, .int .i64 n, .bool null] w fun r w' => AppR 5 B w v s (countedS false null n 4) r w' := by
  obtain ⟨a, c, rfl, hc⟩ := ho.len
  refine fn_of_W Tryz.func101 rfl Tryz.results101 Tryz.ntmps101 rfl ?_
  have ew : IntKind.i32.wrap (n : Int) = n := i32_wrap (by omega)
  cases null with
  | true =>
    rw [counted_none]
    repeat ((first | refine W.seqR rfl ?_ | refine W.seq ?_ | refine W.regR rfl ?_ | refine W.condK ?_ | refine W.block ?_ | refine W.skip ?_ | refine W.ret ?_ | refine W.exit ?_); try simp (maxSteps := 1000000) (disch := (first | omega | (simp only [World.size_alloc, size_wr, size_drew] <;> omega) | exact not_noB _)) only [go_sem, ↓reduceIte, n0, reduceCtorEq, n1, n2, n3, n4, n5, i0, i1, i2, i3, i4, i5, i6, i7, ew])
    refine (AppendInt32_fn _ s w ho hB _ (by omega)).mono ?_
    rintro r w1 h1
    repeat ((first | refine W.seqR rfl ?_ | refine W.seq ?_ | refine W.regR rfl ?_ | refine W.condK ?_ | refine W.block ?_ | refine W.skip ?_ | refine W.ret ?_ | refine W.exit ?_); try simp (maxSteps := 1000000) (disch := (first | omega | (simp only [World.size_alloc, size_wr, size_drew] <;> omega) | exact not_noB _)) only [go_sem, ↓reduceIte, n0, reduceCtorEq, n1, n2, n3, n4, n5, i0, i1, i2, i3, i4, i5, i6, i7])
    exact h1
  | false =>
    rw [counted_some]
    repeat ((first | refine W.seqR rfl ?_ | refine W.seq ?_ | refine W.regR rfl ?_ | refine W.condK ?_ | refine W.block ?_ | refine W.skip ?_ | refine W.ret ?_ | refine W.exit ?_); try simp (maxSteps := 1000000) (disch := (first | omega | (simp only [World.size_alloc, size_wr, size_drew] <;> omega) | exact not_noB _)) only [go_sem, ↓reduceIte, n0, reduceCtorEq, n1, n2, n3, n4, n5, i0, i1, i2, i3, i4, i5, i6, i7, ew])
    refine (AppendInt32_fn _ s w ho hB _ (by omega)).mono ?_
    rintro r w1 h1
    repeat ((first | refine W.seqR rfl ?_ | refine W.seq ?_ | refine W.regR rfl ?_ | refine W.condK ?_ | refine W.block ?_ | refine W.skip ?_ | refine W.ret ?_ | refine W.exit ?_); try simp (maxSteps := 1000000) (disch := (first | omega | (simp only [World.size_alloc, size_wr, size_drew] <;> omega) | exact not_noB _)) only [go_sem, ↓reduceIte, n0, reduceCtorEq, n1, n2, n3, n4, n5, i0, i1, i2, i3, i4, i5, i6, i7])
    exact h1

theorem AppendCompactNullableArrayLen_fn {B : Nat} (v : Value) (s : List UInt8) (w : World) (ho : OwnBy 5 B w v s) (hB : B ≤ w.heap.size) (n : Nat) (hn : n ≤ 32767) (null : Bool) (hl : s.length ≤ 2 ^ 44) :
    Fn Tryz.prog 100 #[v, .int .i64 n, .bool null] w fun r w' => AppR 5 B w v s (countedS true null n 4) r w' := by
  obtain ⟨a, c, rfl, hc⟩ := ho.len
  refine fn_of_W Tryz.func100 rfl Tryz.results100 Tryz.ntmps100 rfl ?_
  have ew : IntKind.u32.wrap (n : Int) = n := u32_wrap (by omega)
  have ew2 : IntKind.u32.wrap (1 + (n : Int)) = ((n + 1 : Nat) : Int) := by rw [u32_wrap (by omega)]; omega
  cases null with
  | true =>
    rw [counted_none, if_pos rfl, ← show uvarS 0 = [0] from by rw [uvarS_1 (by omega)]; rfl]
    repeat ((first | refine W.seqR rfl ?_ | refine W.seq ?_ | refine W.regR rfl ?_ | refine W.condK ?_ | refine W.block ?_ | refine W.skip ?_ | refine W.ret ?_ | refine W.exit ?_); try simp (maxSteps := 1000000) (disch := (first | omega | (simp only [World.size_alloc, size_wr, size_drew] <;> omega) | exact not_noB _)) only [go_sem, ↓reduceIte, n0, reduceCtorEq, n1, n2, n3, n4, n5, i0, i1, i2, i3, i4, i5, i6, i7, ew, ew2])
    refine (AppendUvarint_fn _ s w ho hB 0 (by omega) (by omega)).mono ?_
    rintro r w1 h1
    repeat ((first | refine W.seqR rfl ?_ | refine W.seq ?_ | refine W.regR rfl ?_ | refine W.condK ?_ | refine W.block ?_ | refine W.skip ?_ | refine W.ret ?_ | refine W.exit ?_); try simp (maxSteps := 1000000) (disch := (first | omega | (simp only [World.size_alloc, size_wr, size_drew] <;> omega) | exact not_noB _)) only [go_sem, ↓reduceIte, n0, reduceCtorEq, n1, n2, n3, n4, n5, i0, i1, i2, i3, i4, i5, i6, i7])
    exact h1
  | false =>
    rw [counted_some, if_pos rfl]
    repeat ((first | refine W.seqR rfl ?_ | refine W.seq ?_ | refine W.regR rfl ?_ | refine W.condK ?_ | refine W.block ?_ | refine W.skip ?_ | refine W.ret ?_ | refine W.exit ?_); try simp (maxSteps := 1000000) (disch := (first | omega | (simp only [World.size_alloc, size_wr, size_drew] <;> omega) | exact not_noB _)) only [go_sem, ↓reduceIte, n0, reduceCtorEq, n1, n2, n3, n4, n5, i0, i1, i2, i3, i4, i5, i6, i7, ew, ew2])
    refine (AppendUvarint_fn _ s w ho hB (n + 1) (by omega) (by omega)).mono ?_
    rintro r w1 h1
    repeat ((first | refine W.seqR rfl ?_ | refine W.seq ?_ | refine W.regR rfl ?_ | refine W.condK ?_ | refine W.block ?_ | refine W.skip ?_ | refine W.ret ?_ | refine W.exit ?_); try simp (maxSteps := 1000000) (disch := (first | omega | (simp only [World.size_alloc, size_wr, size_drew] <;> omega) | exact not_noB _)) only [go_sem, ↓reduceIte, n0, reduceCtorEq, n1, n2, n3, n4, n5, i0, i1, i2, i3, i4, i5, i6, i7])
    exact h1

end Ms

namespace Ms
open Nat renaming reduceEqDiff → n0, reduceAdd → n1, reduceMul → n2, reduceSub → n3, reduceLT → n4, reduceLeDiff → n5
open Int renaming reduceEq → i0, reduceLT → i1, reduceLE → i2, reduceNeg → i3, reduceAdd → i4, reduceSub → i5, reduceMul → i6, reduceToNat → i7
set_option maxRecDepth 8000
open Go Go.Proofs Go.Shelf
attribute [local congr] W_congr WPsq_congr WPp_congr optK_congr addrK_congr intK_congr boolK_congr sliceK_congr tupleK_congr funcK_congr Fn_congr rawK_congr takeK_congr stepK_congr convK_congr aggK_congr

set_option maxHeartbeats 4000000 in
theorem appDescribeLogDirsRequest_0 {d B : Nat} {okM : Blocks} {ver : Int} (hlo : 0 ≤ ver) (hhi : ver ≤ 1) (t : Tree) (cells : List Value) (v : Value) (s : List UInt8) (w : World) {vb : Nat} (ho : OwnBy 5 B w v s) (hB : B ≤ w.heap.size) (hvb : blk w vb = some ((.int .i16 ver :: cells).toArray, 94, (0, 0)))
    (hR : RepS true (d + 2) fs_DescribeLogDirsRequest okM w t cells) (hfit : FitW ver (d + 2) fs_DescribeLogDirsRequest t) (hd : ∀ b, b < w.heap.size → okM b → ¬ ownB v b) (hdv : ¬ ownB v vb) (hlen : s.length + (partS (d + 2) fs_DescribeLogDirsRequest ver false t).length ≤ 2 ^ 41) :
    Fn Tryz.prog 52 #[.pointer (some ⟨vb, 0, none⟩), v] w fun r w' => AppR 5 B w v s (partS (d + 2) fs_DescribeLogDirsRequest ver false t) r w' := by
  obtain ⟨⟨g_0, -⟩, hfu⟩ := hfit
  replace g_0 : hasS fDescribeLogDirsRequest_0 ver = true → FitWF (FitW ver (d + 1)) ver fDescribeLogDirsRequest_0 (t.at 0) := g_0
  have hh_0 : hasS fDescribeLogDirsRequest_0 ver = true := hasS_t (by show (0 : Int) ≤ ver; omega) (by show (-1 : Int) < 0 ∨ ver ≤ (-1 : Int); omega)
  replace g_0 := g_0 hh_0
  obtain ⟨cs, q, hcs, hL, hT⟩ := hR.inv
  obtain ⟨c_0, e_0, rfl, h_0, rfl⟩ := hL
  replace h_0 : RepF (RepS true (d + 1)) (szS true (d + 1)) fDescribeLogDirsRequest_0 okM w (t.at 0) c_0 := h_0
  obtain ⟨p_0, L_0, rfl, hLL_0, hs_0, hnn_0⟩ := RepF_listN g_0 rfl (by decide) h_0
  obtain ⟨ab_0, ac_0, rfl, _⟩ := SlR.shape hs_0
  have hni_0 := hnn_0 _ _ _ rfl
  have hgl_0 := g_0.listL rfl hLL_0
  have hll_0 := hgl_0.1
  obtain ⟨qm, rfl⟩ := hT.shape
  have hv : blk w vb = some (#[.int .i16 ver, .slice ab_0 L_0.length ac_0, .map qm], 94, (0, 0)) := by rw [hvb, hcs]; rfl
  clear hvb hcs
  obtain ⟨XL_0, hXL_0⟩ : ∃ X, X = countedS false (nullS fDescribeLogDirsRequest_0 ver (t.at 0)) L_0.length 4 := ⟨_, rfl⟩
  obtain ⟨XE_0, hXE_0⟩ : ∃ X, X = L_0.flatMap (fun x => partS (d + 1) fs_DescribeLogDirsRequestTopic ver false x) := ⟨_, rfl⟩
  have hP : partS (d + 2) fs_DescribeLogDirsRequest ver false t = (XL_0 ++ XE_0) ++ [] := partS_no (plainL_has (by decide) hh_0 ((fieldS_listN (g := (fun x => partS (d + 1) fs_DescribeLogDirsRequestTopic ver false x)) g_0 rfl hLL_0 (fun x _ => valueS_part)).trans (by rw [hXL_0, hXE_0])) rfl)
  rw [hP] at hlen
  simp only [List.length_append, List.length_nil] at hlen
  have hdK : ∀ {r : Value} {w' : World} {add : List UInt8}, AppR 5 B w v s add r w' → ∀ b, b < w'.heap.size → OkS okM w.heap.size b → ¬ ownB r b := fun h b _ hk ho => (h.frame b ho).elim (hd b hk.2 hk.1) (fun h => by have := hk.2; omega)
  have ownK : ∀ {r : Value} {w' : World} {add : List UInt8} {b : Nat}, AppR 5 B w v s add r w' → b < w.heap.size → ¬ ownB v b → ¬ ownB r b := fun h hb hn ho => (h.frame _ ho).elim hn (fun h => by omega)
  have ha0 : AppR 5 B w v s [] v w := AppR.refl ho
  obtain ⟨w0, hw0⟩ : ∃ w0, w0 = w := ⟨_, rfl⟩
  have hB0 := hB
  have hv_0 := hv
  refine fn_of_W Tryz.func52 rfl Tryz.results52 Tryz.ntmps52 rfl ?_
  repeat ((first | refine W.seqR rfl ?_ | refine W.seq ?_ | refine W.regR rfl ?_ | refine W.condK ?_ | refine W.block ?_ | refine W.skip ?_ | refine W.ret ?_ | refine W.exit ?_); try simp (maxSteps := 1000000) (disch := (first | omega | (simp only [World.size_alloc, size_wr, size_drew] <;> omega) | exact not_noB _)) only [go_sem, ↓reduceIte, n0, reduceCtorEq, n1, n2, n3, n4, n5, i0, i1, i2, i3, i4, i5, i6, i7, hv_0, hni_0])
  refine (AppendNullableArrayLen_fn _ _ _ ha0.own hB0 L_0.length hll_0 (nullS fDescribeLogDirsRequest_0 ver (t.at 0)) (by simp only [List.length_append, List.length_nil]; omega)).mono ?_
  rintro r1 w1 hc1
  rw [← hXL_0] at hc1
  have ha1 := ha0.trans hc1
  have hB1 : B ≤ w1.heap.size := Nat.le_trans hB ha1.upd.size
  have hv_1 := ha1.upd.blk_some hv hdv
  repeat ((first | refine W.seqR rfl ?_ | refine W.seq ?_ | refine W.regR rfl ?_ | refine W.condK ?_ | refine W.block ?_ | refine W.skip ?_ | refine W.ret ?_ | refine W.exit ?_); try simp (maxSteps := 1000000) (disch := (first | omega | (simp only [World.size_alloc, size_wr, size_drew] <;> omega) | exact not_noB _)) only [go_sem, ↓reduceIte, n0, reduceCtorEq, n1, n2, n3, n4, n5, i0, i1, i2, i3, i4, i5, i6, i7, hv_1, hni_0])
  have hadd1 := ha1
  refine W.exitJ 0 (fun ρ w' => ∃ r, ρ 1 = r ∧ ρ 0 = .pointer (some ⟨vb, 0, none⟩) ∧ ρ 5 = .int .i16 ver ∧ ρ 6 = .bool false ∧ AppR 5 B w v s (([] ++ XL_0) ++ XE_0) r w')
    (W.loop (fun ρ w' => ∃ (j : Nat) (r : Value), j ≤ L_0.length ∧ ρ 41 = .int .i64 j ∧ ρ 40 = .int .i64 L_0.length ∧ ρ 7 = .slice ab_0 L_0.length ac_0 ∧ ρ 1 = r ∧ ρ 0 = .pointer (some ⟨vb, 0, none⟩) ∧ ρ 5 = .int .i16 ver ∧ ρ 6 = .bool false ∧ AppR 5 B w v s (([] ++ XL_0) ++ (L_0.take j).flatMap (fun x => partS (d + 1) fs_DescribeLogDirsRequestTopic ver false x)) r w')
      (fun ρ _ => L_0.length - (RowKit.intOf (ρ 41)).toNat) ?_ ?_) ?_
  · refine ⟨0, _, Nat.zero_le _, ?_, ?_, ?_, ?_, ?_, ?_, ?_, ha1.eqs (by rw [List.take_zero, List.flatMap_nil, List.append_nil])⟩ <;> simp (maxSteps := 1000000) (disch := (first | omega | (simp only [World.size_alloc, size_wr, size_drew] <;> omega) | exact not_noB _)) only [go_sem, ↓reduceIte, n0, reduceCtorEq, n1, n2, n3, n4, n5, i0, i1, i2, i3, i4, i5, i6, i7]
    all_goals rfl
  · rintro ρ w2 ⟨j1, r2, hj1, hI1, hN1, hS1, hr1_1, hr1_0, hr1_5, hr1_6, ha2⟩
    have hB2 : B ≤ w2.heap.size := Nat.le_trans hB ha2.upd.size
    have hv_2 := ha2.upd.blk_some hv hdv
    by_cases hlt1 : j1 < L_0.length
    · obtain ⟨_, b1, o1, x1, ce1, hb1, hok1, hx1, hbl1, hxs1, hxe1, hq1, hRe1⟩ := SlR.get (size := 3) (by decide) hs_0 hlt1
      subst hb1
      have hcat1 : L_0.take (j1 + 1) = L_0.take j1 ++ [L_0[j1]] := List.take_succ_eq_append_getElem hlt1
      have htl1 := take_flatMap_len L_0 (fun x => partS (d + 1) fs_DescribeLogDirsRequestTopic ver false x) (j1 + 1)
      rw [← hXE_0, hcat1, List.flatMap_append, List.flatMap_cons, List.flatMap_nil, List.append_nil] at htl1
      have hge1 := hgl_0.2 _ (List.getElem_mem hlt1)
      generalize L_0[j1] = y1 at *
      have hnx1 := hd b1 hbl1 hok1
      obtain ⟨T1, hTT1⟩ : ∃ T, T = (L_0.take j1).flatMap (fun x => partS (d + 1) fs_DescribeLogDirsRequestTopic ver false x) := ⟨_, rfl⟩
      rw [← hTT1] at ha2 htl1
      have hx1_2 := ha2.upd.blk_some hx1 hnx1
      replace hRe1 : RepS true (d + 1) fs_DescribeLogDirsRequestTopic okM w y1 ce1 := Rep1_part.1 hRe1
      have hfe1 : FitW ver (d + 1) fs_DescribeLogDirsRequestTopic y1 := hge1.2 rfl
      obtain ⟨⟨ge1_0, ge1_1, -⟩, hfue1⟩ := hfe1
      replace ge1_0 : hasS fDescribeLogDirsRequestTopic_0 ver = true → FitWF (FitW ver d) ver fDescribeLogDirsRequestTopic_0 (y1.at 0) := ge1_0
      have hhe1_0 : hasS fDescribeLogDirsRequestTopic_0 ver = true := hasS_t (by show (0 : Int) ≤ ver; omega) (by show (-1 : Int) < 0 ∨ ver ≤ (-1 : Int); omega)
      replace ge1_0 := ge1_0 hhe1_0
      replace ge1_1 : hasS fDescribeLogDirsRequestTopic_1 ver = true → FitWF (FitW ver d) ver fDescribeLogDirsRequestTopic_1 (y1.at 1) := ge1_1
      have hhe1_1 : hasS fDescribeLogDirsRequestTopic_1 ver = true := hasS_t (by show (0 : Int) ≤ ver; omega) (by show (-1 : Int) < 0 ∨ ver ≤ (-1 : Int); omega)
      replace ge1_1 := ge1_1 hhe1_1
      obtain ⟨cse1, qe1, hcse1, hLe1, hTe1⟩ := hRe1.inv
      obtain ⟨ce1_0, ee1_0, rfl, he1_0, ce1_1, ee1_1, rfl, he1_1, rfl⟩ := hLe1
      replace he1_0 : RepF (RepS true d) (szS true d) fDescribeLogDirsRequestTopic_0 okM w (y1.at 0) ce1_0 := he1_0
      replace he1_1 : RepF (RepS true d) (szS true d) fDescribeLogDirsRequestTopic_1 okM w (y1.at 1) ce1_1 := he1_1
      obtain rfl := (RepF_text rfl (by decide)).1 he1_0
      obtain ⟨pe1_1, rfl, hse1_1⟩ := RepF_listW ge1_1 rfl (by decide) he1_1
      obtain ⟨abe1_1, ace1_1, rfl, _⟩ := SlR.shape hse1_1
      have hgle1_1 := ge1_1.list rfl
      have hlle1_1 := hgle1_1.1
      obtain ⟨qme1, rfl⟩ := hTe1.shape
      subst hcse1
      have hq1_0 : x1.1[o1 + j1 * 3]? = some (strV (y1.at 0).s) := hq1 0 (by decide)
      have hq1_1 : x1.1[o1 + (j1 * 3 + 1)]? = some (.slice abe1_1 (y1.at 1).l.length ace1_1) := hq1 1 (by decide)
      have hq1_2 : x1.1[o1 + (j1 * 3 + 2)]? = some (.map qme1) := hq1 2 (by decide)
      obtain ⟨Xe1_0, hXXe1_0⟩ : ∃ X, X = fixedS (y1.at 0).s.length 2 ++ (y1.at 0).s := ⟨_, rfl⟩
      obtain ⟨XLe1_1, hXLe1_1⟩ : ∃ X, X = fixedS (y1.at 1).l.length 4 := ⟨_, rfl⟩
      obtain ⟨XEe1_1, hXEe1_1⟩ : ∃ X, X = (y1.at 1).l.flatMap (fun x : Tree => fixedS x.n 4) := ⟨_, rfl⟩
      have hPe1 : partS (d + 1) fs_DescribeLogDirsRequestTopic ver false y1 = Xe1_0 ++ ((XLe1_1 ++ XEe1_1) ++ []) := partS_no (plainL_has (by decide) hhe1_0 ((fieldS_text_f ge1_0 rfl (by decide)).trans hXXe1_0.symm) (plainL_has (by decide) hhe1_1 ((fieldS_list_f (g := (fun x : Tree => fixedS x.n 4)) ge1_1 rfl (by decide) (fun x _ => valueS_num 3 (by decide))).trans (by rw [hXLe1_1, hXEe1_1])) rfl))
      rw [hPe1] at htl1
      simp only [List.length_append, List.length_nil] at htl1
      repeat ((first | refine W.seqR rfl ?_ | refine W.seq ?_ | refine W.regR rfl ?_ | refine W.condK ?_ | refine W.block ?_ | refine W.skip ?_ | refine W.ret ?_ | refine W.exit ?_); try simp (maxSteps := 1000000) (disch := (first | omega | (simp only [World.size_alloc, size_wr, size_drew] <;> omega) | exact not_noB _)) only [go_sem, ↓reduceIte, n0, reduceCtorEq, n1, n2, n3, n4, n5, i0, i1, i2, i3, i4, i5, i6, i7, hv_2, hx1_2, hni_0, Int.toNat_natCast, Nat.mul_one, hq1_0, hq1_1, hq1_2, hr1_1, hr1_0, hr1_5, hr1_6, hI1, hN1, hS1])
      refine (AppendString_fn _ _ _ ha2.own hB2 (y1.at 0).s (ge1_0.text (.inl rfl)) (by simp only [List.length_append, List.length_nil]; omega)).mono ?_
      rintro r3 w3 hc3
      rw [← hXXe1_0] at hc3
      have ha3 := ha2.trans hc3
      have hB3 : B ≤ w3.heap.size := Nat.le_trans hB ha3.upd.size
      have hv_3 := ha3.upd.blk_some hv hdv
      have hx1_3 := ha3.upd.blk_some hx1 hnx1
      repeat ((first | refine W.seqR rfl ?_ | refine W.seq ?_ | refine W.regR rfl ?_ | refine W.condK ?_ | refine W.block ?_ | refine W.skip ?_ | refine W.ret ?_ | refine W.exit ?_); try simp (maxSteps := 1000000) (disch := (first | omega | (simp only [World.size_alloc, size_wr, size_drew] <;> omega) | exact not_noB _)) only [go_sem, ↓reduceIte, n0, reduceCtorEq, n1, n2, n3, n4, n5, i0, i1, i2, i3, i4, i5, i6, i7, hv_3, hx1_3, hni_0, Int.toNat_natCast, Nat.mul_one, hq1_0, hq1_1, hq1_2, hr1_1, hr1_0, hr1_5, hr1_6, hI1, hN1, hS1])
      refine (AppendArrayLen_fn _ _ _ ha3.own hB3 (y1.at 1).l.length hlle1_1 (by simp only [List.length_append, List.length_nil]; omega)).mono ?_
      rintro r4 w4 hc4
      rw [← hXLe1_1] at hc4
      have ha4 := ha3.trans hc4
      have hB4 : B ≤ w4.heap.size := Nat.le_trans hB ha4.upd.size
      have hv_4 := ha4.upd.blk_some hv hdv
      have hx1_4 := ha4.upd.blk_some hx1 hnx1
      repeat ((first | refine W.seqR rfl ?_ | refine W.seq ?_ | refine W.regR rfl ?_ | refine W.condK ?_ | refine W.block ?_ | refine W.skip ?_ | refine W.ret ?_ | refine W.exit ?_); try simp (maxSteps := 1000000) (disch := (first | omega | (simp only [World.size_alloc, size_wr, size_drew] <;> omega) | exact not_noB _)) only [go_sem, ↓reduceIte, n0, reduceCtorEq, n1, n2, n3, n4, n5, i0, i1, i2, i3, i4, i5, i6, i7, hv_4, hx1_4, hni_0, Int.toNat_natCast, Nat.mul_one, hq1_0, hq1_1, hq1_2, hr1_1, hr1_0, hr1_5, hr1_6, hI1, hN1, hS1])
      have hadd2 := ha4
      refine W.exitJ 2 (fun ρ w' => ∃ r, ρ 1 = r ∧ ρ 0 = .pointer (some ⟨vb, 0, none⟩) ∧ ρ 5 = .int .i16 ver ∧ ρ 6 = .bool false ∧ ρ 41 = .int .i64 j1 ∧ ρ 40 = .int .i64 L_0.length ∧ ρ 7 = .slice (some ⟨b1, o1, none⟩) L_0.length ac_0 ∧ ρ 9 = .pointer (some ⟨b1, o1 + j1 * 3, none⟩) ∧ AppR 5 B w v s (([] ++ XL_0 ++ T1 ++ Xe1_0 ++ XLe1_1) ++ XEe1_1) r w')
        (W.loop (fun ρ w' => ∃ (j : Nat) (r : Value), j ≤ (y1.at 1).l.length ∧ ρ 73 = .int .i64 j ∧ ρ 72 = .int .i64 (y1.at 1).l.length ∧ ρ 11 = .slice abe1_1 (y1.at 1).l.length ace1_1 ∧ ρ 1 = r ∧ ρ 0 = .pointer (some ⟨vb, 0, none⟩) ∧ ρ 5 = .int .i16 ver ∧ ρ 6 = .bool false ∧ ρ 41 = .int .i64 j1 ∧ ρ 40 = .int .i64 L_0.length ∧ ρ 7 = .slice (some ⟨b1, o1, none⟩) L_0.length ac_0 ∧ ρ 9 = .pointer (some ⟨b1, o1 + j1 * 3, none⟩) ∧ AppR 5 B w v s (([] ++ XL_0 ++ T1 ++ Xe1_0 ++ XLe1_1) ++ ((y1.at 1).l.take j).flatMap (fun x : Tree => fixedS x.n 4)) r w')
          (fun ρ _ => (y1.at 1).l.length - (RowKit.intOf (ρ 73)).toNat) ?_ ?_) ?_
      · refine ⟨0, _, Nat.zero_le _, ?_, ?_, ?_, ?_, ?_, ?_, ?_, ?_, ?_, ?_, ?_, ha4.eqs (by rw [List.take_zero, List.flatMap_nil, List.append_nil])⟩ <;> simp (maxSteps := 1000000) (disch := (first | omega | (simp only [World.size_alloc, size_wr, size_drew] <;> omega) | exact not_noB _)) only [go_sem, ↓reduceIte, n0, reduceCtorEq, n1, n2, n3, n4, n5, i0, i1, i2, i3, i4, i5, i6, i7, hr1_1, hr1_0, hr1_5, hr1_6, hI1, hN1, hS1]
        all_goals rfl
      · rintro ρ w5 ⟨j2, r5, hj2, hI2, hN2, hS2, hr1_2, hr2_0, hr2_5, hr2_6, hr2_41, hr2_40, hr2_7, hr2_9, ha5⟩
        have hB5 : B ≤ w5.heap.size := Nat.le_trans hB ha5.upd.size
        have hv_5 := ha5.upd.blk_some hv hdv
        have hx1_5 := ha5.upd.blk_some hx1 hnx1
        by_cases hlt2 : j2 < (y1.at 1).l.length
        · obtain ⟨_, b2, o2, x2, ce2, hb2, hok2, hx2, hbl2, hxs2, hxe2, hq2, hRe2⟩ := SlR.get (size := 1) (by decide) hse1_1 hlt2
          subst hb2
          have hcat2 : (y1.at 1).l.take (j2 + 1) = (y1.at 1).l.take j2 ++ [(y1.at 1).l[j2]] := List.take_succ_eq_append_getElem hlt2
          have htl2 := take_flatMap_len (y1.at 1).l (fun x : Tree => fixedS x.n 4) (j2 + 1)
          rw [← hXEe1_1, hcat2, List.flatMap_append, List.flatMap_cons, List.flatMap_nil, List.append_nil] at htl2
          have hge2 := hgle1_1.2 _ (List.getElem_mem hlt2)
          generalize (y1.at 1).l[j2] = y2 at *
          have hnx2 := hd b2 hbl2 hok2
          obtain ⟨T2, hTT2⟩ : ∃ T, T = ((y1.at 1).l.take j2).flatMap (fun x : Tree => fixedS x.n 4) := ⟨_, rfl⟩
          rw [← hTT2] at ha5 htl2
          have hx2_5 := ha5.upd.blk_some hx2 hnx2
          obtain rfl := (Rep1_num (by decide)).1 hRe2
          have hq2_0 : x2.1[o2 + j2]? = some (.int .i32 (IntKind.i32.wrap y2.n)) := by have := hq2 0 (by decide); rw [Nat.mul_one] at this; exact this
          obtain ⟨Y2, hY2⟩ : ∃ Y, Y = fixedS (y2).n 4 := ⟨_, rfl⟩
          replace htl2 : (T2 ++ Y2).length ≤ XEe1_1.length := by rw [hY2]; exact htl2
          simp only [List.length_append] at htl2
          repeat ((first | refine W.seqR rfl ?_ | refine W.seq ?_ | refine W.regR rfl ?_ | refine W.condK ?_ | refine W.block ?_ | refine W.skip ?_ | refine W.ret ?_ | refine W.exit ?_); try simp (maxSteps := 1000000) (disch := (first | omega | (simp only [World.size_alloc, size_wr, size_drew] <;> omega) | exact not_noB _)) only [go_sem, ↓reduceIte, n0, reduceCtorEq, n1, n2, n3, n4, n5, i0, i1, i2, i3, i4, i5, i6, i7, hv_5, hx1_5, hx2_5, hni_0, Int.toNat_natCast, Nat.mul_one, hq1_0, hq1_1, hq1_2, hq2_0, hr1_2, hr2_0, hr2_5, hr2_6, hr2_41, hr2_40, hr2_7, hr2_9, hI2, hN2, hS2])
          refine (AppendInt32_fn _ _ _ ha5.own hB5 _ (by simp only [List.length_append, List.length_nil]; omega)).mono ?_
          rintro r6 w6 hc6
          rw [wrap32, ← hY2] at hc6
          have ha6 := ha5.trans hc6
          have hB6 : B ≤ w6.heap.size := Nat.le_trans hB ha6.upd.size
          have hv_6 := ha6.upd.blk_some hv hdv
          have hx1_6 := ha6.upd.blk_some hx1 hnx1
          have hx2_6 := ha6.upd.blk_some hx2 hnx2
          repeat ((first | refine W.seqR rfl ?_ | refine W.seq ?_ | refine W.regR rfl ?_ | refine W.condK ?_ | refine W.block ?_ | refine W.skip ?_ | refine W.ret ?_ | refine W.exit ?_); try simp (maxSteps := 1000000) (disch := (first | omega | (simp only [World.size_alloc, size_wr, size_drew] <;> omega) | exact not_noB _)) only [go_sem, ↓reduceIte, n0, reduceCtorEq, n1, n2, n3, n4, n5, i0, i1, i2, i3, i4, i5, i6, i7, hr1_2, hr2_0, hr2_5, hr2_6, hr2_41, hr2_40, hr2_7, hr2_9, hI2, hN2, hS2])
          refine ⟨⟨j2 + 1, _, by omega, rfl, rfl, ha6.eqs ?_⟩, ?_⟩
          · rw [hcat2, List.flatMap_append, List.flatMap_cons, List.flatMap_nil, List.append_nil, ← hTT2, hY2]; simp only [List.append_assoc, List.append_nil, List.nil_append]
          · simp only [RowKit.intOf]; omega
        · have hjl2 : j2 = (y1.at 1).l.length := by omega
          subst hjl2
          rw [List.take_length, ← hXEe1_1] at ha5
          repeat ((first | refine W.seqR rfl ?_ | refine W.seq ?_ | refine W.regR rfl ?_ | refine W.condK ?_ | refine W.block ?_ | refine W.skip ?_ | refine W.ret ?_ | refine W.exit ?_); try simp (maxSteps := 1000000) (disch := (first | omega | (simp only [World.size_alloc, size_wr, size_drew] <;> omega) | exact not_noB _)) only [go_sem, ↓reduceIte, n0, reduceCtorEq, n1, n2, n3, n4, n5, i0, i1, i2, i3, i4, i5, i6, i7, hI2, hN2])
          exact ⟨_, hr1_2, hr2_0, hr2_5, hr2_6, hr2_41, hr2_40, hr2_7, hr2_9, ha5⟩
      · rintro ρ w7 ⟨r7, hr1_3, hr3_0, hr3_5, hr3_6, hr3_41, hr3_40, hr3_7, hr3_9, ha7⟩
        have hB7 : B ≤ w7.heap.size := Nat.le_trans hB ha7.upd.size
        have hv_7 := ha7.upd.blk_some hv hdv
        have hx1_7 := ha7.upd.blk_some hx1 hnx1
        repeat ((first | refine W.seqR rfl ?_ | refine W.seq ?_ | refine W.regR rfl ?_ | refine W.condK ?_ | refine W.block ?_ | refine W.skip ?_ | refine W.ret ?_ | refine W.exit ?_); try simp (maxSteps := 1000000) (disch := (first | omega | (simp only [World.size_alloc, size_wr, size_drew] <;> omega) | exact not_noB _)) only [go_sem, ↓reduceIte, n0, reduceCtorEq, n1, n2, n3, n4, n5, i0, i1, i2, i3, i4, i5, i6, i7, hr1_3, hr3_0, hr3_5, hr3_6, hr3_41, hr3_40, hr3_7, hr3_9])
        refine ⟨⟨j1 + 1, _, by omega, rfl, rfl, ha7.eqs ?_⟩, ?_⟩
        · rw [hcat1, List.flatMap_append, List.flatMap_cons, List.flatMap_nil, List.append_nil, ← hTT1, hPe1]; simp only [List.append_assoc, List.append_nil, List.nil_append]
        · simp only [RowKit.intOf]; omega
    · have hjl1 : j1 = L_0.length := by omega
      subst hjl1
      rw [List.take_length, ← hXE_0] at ha2
      repeat ((first | refine W.seqR rfl ?_ | refine W.seq ?_ | refine W.regR rfl ?_ | refine W.condK ?_ | refine W.block ?_ | refine W.skip ?_ | refine W.ret ?_ | refine W.exit ?_); try simp (maxSteps := 1000000) (disch := (first | omega | (simp only [World.size_alloc, size_wr, size_drew] <;> omega) | exact not_noB _)) only [go_sem, ↓reduceIte, n0, reduceCtorEq, n1, n2, n3, n4, n5, i0, i1, i2, i3, i4, i5, i6, i7, hI1, hN1])
      exact ⟨_, hr1_1, hr1_0, hr1_5, hr1_6, ha2⟩
  · rintro ρ w8 ⟨r8, hr1_4, hr4_0, hr4_5, hr4_6, ha8⟩
    have hB8 : B ≤ w8.heap.size := Nat.le_trans hB ha8.upd.size
    have hv_8 := ha8.upd.blk_some hv hdv
    repeat ((first | refine W.seqR rfl ?_ | refine W.seq ?_ | refine W.regR rfl ?_ | refine W.condK ?_ | refine W.block ?_ | refine W.skip ?_ | refine W.ret ?_ | refine W.exit ?_); try simp (maxSteps := 1000000) (disch := (first | omega | (simp only [World.size_alloc, size_wr, size_drew] <;> omega) | exact not_noB _)) only [go_sem, ↓reduceIte, n0, reduceCtorEq, n1, n2, n3, n4, n5, i0, i1, i2, i3, i4, i5, i6, i7, hv_8, hni_0, hr1_4, hr4_0, hr4_5, hr4_6])
    refine ha8.eqs ?_
    rw [hP]; simp only [List.append_assoc, List.append_nil, List.nil_append]
end Ms

