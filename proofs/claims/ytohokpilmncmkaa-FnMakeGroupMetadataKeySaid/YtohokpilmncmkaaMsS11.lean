/- A part of the proof: see the last text. -/
import Derived.Test.YtohokpilmncmkaaMsS10
import Derived.Test.YtohokpilmncmkaaMsAppR
set_option linter.unusedSimpArgs false
set_option linter.unusedVariables false
namespace Ms
open Go Go.Proofs
attribute [local congr] W_congr WPsq_congr WPp_congr optK_congr addrK_congr intK_congr boolK_congr sliceK_congr tupleK_congr funcK_congr Fn_congr rawK_congr takeK_congr stepK_congr convK_congr aggK_congr

theorem AppendUint16_fn {B : Nat} (v : Value) (s : List UInt8) (w : World) (ho : OwnBy 5 B w v s) (hB : B ≤ w.heap.size) (u : Int) (hu : 0 ≤ u ∧ u < 65536) (hl : s.length ≤ 2 ^ 45) :
    Fn Try.prog 28 #[v, .int .u16 u] w fun r w' => AppR 5 B w v s (fixedS u 2) r w' := by
  obtain ⟨a, c, rfl, hc⟩ := ho.len
  refine fn_of_W Try.func28 rfl Try.results28 Try.ntmps28 rfl ?_
  have e1 : u.fdiv (2 ^ (min 8 16)) = u.fdiv 256 := by rw [show (2 : Int) ^ (min 8 16) = 256 by decide]
  repeat ((first | refine W.seqR rfl ?_ | refine W.seq ?_ | refine W.regR rfl ?_ | refine W.condK ?_ | refine W.block ?_ | refine W.skip ?_ | refine W.ret ?_ | refine W.exit ?_); try simp (disch := (first | omega | (simp only [World.size_alloc, size_wr, size_drew]; done) | (simp only [World.size_alloc, size_wr, size_drew]; omega) | exact not_noB _)) only [go_sem, ↓reduceIte, Nat.reduceEqDiff, reduceCtorEq, Nat.reduceAdd, Nat.reduceMul, Nat.reduceSub, Nat.reduceLT, Nat.reduceLeDiff, Int.reduceEq, Int.reduceLT, Int.reduceLE, Int.reduceNeg, Int.reduceAdd, Int.reduceSub, Int.reduceMul, Int.reduceToNat, it_5, kn_68, se_22, kbits, e1, u8_byte])
  have ho1 := ho.alloc (.cells #[byteV (b8 (u.fdiv 256)), byteV (b8 u)] 5)
  refine wp_append ap_22_22 (m := 2) (news := [byteV (b8 (u.fdiv 256)), byteV (b8 u)]) (n := s.length) (cs := s.map byteV) (v := .slice a s.length c) ?_ rfl ho1 (flat_bytes _) (Src.blk (fr := (0, 0)) (T := 5) (blk_alloc_new rfl) rfl rfl) ?_ ?_ ?_
  · simp (disch := (first | omega | (simp only [World.size_alloc, size_wr, size_drew]; done) | (simp only [World.size_alloc, size_wr, size_drew]; omega) | exact not_noB _)) only [go_sem, ↓reduceIte, Nat.reduceEqDiff, reduceCtorEq, Nat.reduceAdd, Nat.reduceMul, Nat.reduceSub, Nat.reduceLT, Nat.reduceLeDiff, Int.reduceEq, Int.reduceLT, Int.reduceLE, Int.reduceNeg, Int.reduceAdd, Int.reduceSub, Int.reduceMul, Int.reduceToNat]
  · simp only [World.size_alloc]; omega
  · omega
  intro v' w4 ho4 hu4 hfr
  simp (disch := (first | omega | (simp only [World.size_alloc, size_wr, size_drew]; done) | (simp only [World.size_alloc, size_wr, size_drew]; omega) | exact not_noB _)) only [go_sem, ↓reduceIte, Nat.reduceEqDiff, reduceCtorEq, Nat.reduceAdd, Nat.reduceMul, Nat.reduceSub, Nat.reduceLT, Nat.reduceLeDiff, Int.reduceEq, Int.reduceLT, Int.reduceLE, Int.reduceNeg, Int.reduceAdd, Int.reduceSub, Int.reduceMul, Int.reduceToNat]
  repeat ((first | refine W.seqR rfl ?_ | refine W.seq ?_ | refine W.regR rfl ?_ | refine W.condK ?_ | refine W.block ?_ | refine W.skip ?_ | refine W.ret ?_ | refine W.exit ?_); try simp (disch := (first | omega | (simp only [World.size_alloc, size_wr, size_drew]; done) | (simp only [World.size_alloc, size_wr, size_drew]; omega) | exact not_noB _)) only [go_sem, ↓reduceIte, Nat.reduceEqDiff, reduceCtorEq, Nat.reduceAdd, Nat.reduceMul, Nat.reduceSub, Nat.reduceLT, Nat.reduceLeDiff, Int.reduceEq, Int.reduceLT, Int.reduceLE, Int.reduceNeg, Int.reduceAdd, Int.reduceSub, Int.reduceMul, Int.reduceToNat, it_5, kn_68, se_22])
  rw [fixedS_two]
  refine AppR.after (Upd.alloc (Upd.refl _ _) _) (AppR.of (t := [b8 (u.fdiv 256), b8 u]) ho4 rfl hu4 hfr)

theorem AppendInt16_fn {B : Nat} (v : Value) (s : List UInt8) (w : World) (ho : OwnBy 5 B w v s) (hB : B ≤ w.heap.size) (n : Int) (hl : s.length ≤ 2 ^ 45) :
    Fn Try.prog 22 #[v, .int .i16 n] w fun r w' => AppR 5 B w v s (fixedS n 2) r w' := by
  obtain ⟨a, c, rfl, hc⟩ := ho.len
  refine fn_of_W Try.func22 rfl Try.results22 Try.ntmps22 rfl ?_
  repeat ((first | refine W.seqR rfl ?_ | refine W.seq ?_ | refine W.regR rfl ?_ | refine W.condK ?_ | refine W.block ?_ | refine W.skip ?_ | refine W.ret ?_ | refine W.exit ?_); try simp (disch := (first | omega | (simp only [World.size_alloc, size_wr, size_drew]; done) | (simp only [World.size_alloc, size_wr, size_drew]; omega) | exact not_noB _)) only [go_sem, ↓reduceIte, Nat.reduceEqDiff, reduceCtorEq, Nat.reduceAdd, Nat.reduceMul, Nat.reduceSub, Nat.reduceLT, Nat.reduceLeDiff, Int.reduceEq, Int.reduceLT, Int.reduceLE, Int.reduceNeg, Int.reduceAdd, Int.reduceSub, Int.reduceMul, Int.reduceToNat, ca_28, it_68, kn_46])
  have hw : IntKind.u16.wrap n = n % 65536 := by unfold IntKind.wrap; simp [IntKind.bits, IntKind.signed]
  rw [hw]
  refine (AppendUint16_fn _ s w ho hB (n % 65536) (by omega) hl).mono ?_
  rintro r w1 h
  repeat ((first | refine W.seqR rfl ?_ | refine W.seq ?_ | refine W.regR rfl ?_ | refine W.condK ?_ | refine W.block ?_ | refine W.skip ?_ | refine W.ret ?_ | refine W.exit ?_); try simp (disch := (first | omega | (simp only [World.size_alloc, size_wr, size_drew]; done) | (simp only [World.size_alloc, size_wr, size_drew]; omega) | exact not_noB _)) only [go_sem, ↓reduceIte, Nat.reduceEqDiff, reduceCtorEq, Nat.reduceAdd, Nat.reduceMul, Nat.reduceSub, Nat.reduceLT, Nat.reduceLeDiff, Int.reduceEq, Int.reduceLT, Int.reduceLE, Int.reduceNeg, Int.reduceAdd, Int.reduceSub, Int.reduceMul, Int.reduceToNat, ca_28, it_68, kn_46])
  have e : fixedS (n % 65536) 2 = fixedS n 2 := by
    rw [fixedS_two, fixedS_two]
    have e1 := b8_fdiv (x := n % 65536) (y := n) 256 (by omega) (by omega)
    have e2 := b8_eq (x := n % 65536) (y := n) (by omega)
    rw [show ((256 : Nat) : Int) = 256 from rfl] at e1
    rw [e1, e2]
  rw [← e]; exact h

theorem AppendString_fn {B : Nat} (v : Value) (s : List UInt8) (w : World) (ho : OwnBy 5 B w v s) (hB : B ≤ w.heap.size) (x : List UInt8) (hx : x.length ≤ 32767) (hl : s.length ≤ 2 ^ 44) :
    Fn Try.prog 23 #[v, strV x] w fun r w' => AppR 5 B w v s (fixedS x.length 2 ++ x) r w' := by
  obtain ⟨a, c, rfl, hc⟩ := ho.len
  refine fn_of_W Try.func23 rfl Try.results23 Try.ntmps23 rfl ?_
  have ew : IntKind.i16.wrap (x.length : Int) = x.length := i16_wrap (by omega)
  repeat ((first | refine W.seqR rfl ?_ | refine W.seq ?_ | refine W.regR rfl ?_ | refine W.condK ?_ | refine W.block ?_ | refine W.skip ?_ | refine W.ret ?_ | refine W.exit ?_); try simp (disch := (first | omega | (simp only [World.size_alloc, size_wr, size_drew]; done) | (simp only [World.size_alloc, size_wr, size_drew]; omega) | exact not_noB _)) only [go_sem, ↓reduceIte, Nat.reduceEqDiff, reduceCtorEq, Nat.reduceAdd, Nat.reduceMul, Nat.reduceSub, Nat.reduceLT, Nat.reduceLeDiff, Int.reduceEq, Int.reduceLT, Int.reduceLE, Int.reduceNeg, Int.reduceAdd, Int.reduceSub, Int.reduceMul, Int.reduceToNat, ca_22, it_46, kn_3, st_9, lenV_strV, ew])
  refine (AppendInt16_fn _ s w ho hB _ (by omega)).mono ?_
  rintro r w1 h1
  have hz := h1.upd.size
  have hl2 : (s ++ fixedS x.length 2).length = s.length + 2 := by rw [List.length_append, fixedS_len]
  repeat ((first | refine W.seqR rfl ?_ | refine W.seq ?_ | refine W.regR rfl ?_ | refine W.condK ?_ | refine W.block ?_ | refine W.skip ?_ | refine W.ret ?_ | refine W.exit ?_); try simp (disch := (first | omega | (simp only [World.size_alloc, size_wr, size_drew]; done) | (simp only [World.size_alloc, size_wr, size_drew]; omega) | exact not_noB _)) only [go_sem, ↓reduceIte, Nat.reduceEqDiff, reduceCtorEq, Nat.reduceAdd, Nat.reduceMul, Nat.reduceSub, Nat.reduceLT, Nat.reduceLeDiff, Int.reduceEq, Int.reduceLT, Int.reduceLE, Int.reduceNeg, Int.reduceAdd, Int.reduceSub, Int.reduceMul, Int.reduceToNat, ca_22, it_46, kn_3, st_9])
  refine wp_append ap_22_9 (m := x.length) (news := x.map byteV) (n := (s ++ fixedS x.length 2).length) (cs := (s ++ fixedS x.length 2).map byteV) (v := r) ?_ rfl h1.own (flat_bytes _) ?_ ?_ ?_ ?_
  · simp (disch := (first | omega | (simp only [World.size_alloc, size_wr, size_drew]; done) | (simp only [World.size_alloc, size_wr, size_drew]; omega) | exact not_noB _)) only [go_sem, ↓reduceIte, Nat.reduceEqDiff, reduceCtorEq, Nat.reduceAdd, Nat.reduceMul, Nat.reduceSub, Nat.reduceLT, Nat.reduceLeDiff, Int.reduceEq, Int.reduceLT, Int.reduceLE, Int.reduceNeg, Int.reduceAdd, Int.reduceSub, Int.reduceMul, Int.reduceToNat]
  · simp (disch := (first | omega | (simp only [World.size_alloc, size_wr, size_drew]; done) | (simp only [World.size_alloc, size_wr, size_drew]; omega) | exact not_noB _)) only [go_sem, ↓reduceIte, Nat.reduceEqDiff, reduceCtorEq, Nat.reduceAdd, Nat.reduceMul, Nat.reduceSub, Nat.reduceLT, Nat.reduceLeDiff, Int.reduceEq, Int.reduceLT, Int.reduceLE, Int.reduceNeg, Int.reduceAdd, Int.reduceSub, Int.reduceMul, Int.reduceToNat]
    exact strV_src _ _
  · omega
  · omega
  intro v' w4 ho4 hu4 hfr
  simp (disch := (first | omega | (simp only [World.size_alloc, size_wr, size_drew]; done) | (simp only [World.size_alloc, size_wr, size_drew]; omega) | exact not_noB _)) only [go_sem, ↓reduceIte, Nat.reduceEqDiff, reduceCtorEq, Nat.reduceAdd, Nat.reduceMul, Nat.reduceSub, Nat.reduceLT, Nat.reduceLeDiff, Int.reduceEq, Int.reduceLT, Int.reduceLE, Int.reduceNeg, Int.reduceAdd, Int.reduceSub, Int.reduceMul, Int.reduceToNat]
  repeat ((first | refine W.seqR rfl ?_ | refine W.seq ?_ | refine W.regR rfl ?_ | refine W.condK ?_ | refine W.block ?_ | refine W.skip ?_ | refine W.ret ?_ | refine W.exit ?_); try simp (disch := (first | omega | (simp only [World.size_alloc, size_wr, size_drew]; done) | (simp only [World.size_alloc, size_wr, size_drew]; omega) | exact not_noB _)) only [go_sem, ↓reduceIte, Nat.reduceEqDiff, reduceCtorEq, Nat.reduceAdd, Nat.reduceMul, Nat.reduceSub, Nat.reduceLT, Nat.reduceLeDiff, Int.reduceEq, Int.reduceLT, Int.reduceLE, Int.reduceNeg, Int.reduceAdd, Int.reduceSub, Int.reduceMul, Int.reduceToNat, ca_22, it_46, kn_3, st_9])
  exact h1.trans (AppR.of ho4 rfl hu4 hfr)
end Ms
