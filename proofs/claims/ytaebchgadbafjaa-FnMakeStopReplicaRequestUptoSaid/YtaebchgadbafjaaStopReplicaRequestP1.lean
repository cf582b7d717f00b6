/- A part of the proof: see the last text. -/
import Derived.Test.YtaebchgadbafjaaC08
import Derived.Test.YtaebchgadbafjaaStopReplicaRequestP0
set_option linter.unusedSimpArgs false
set_option linter.unusedVariables false
namespace Ms
open Nat renaming reduceEqDiff → n0, reduceAdd → n1, reduceMul → n2, reduceSub → n3, reduceLT → n4, reduceLeDiff → n5
open Int renaming reduceEq → i0, reduceLT → i1, reduceLE → i2, reduceNeg → i3, reduceAdd → i4, reduceSub → i5, reduceMul → i6, reduceToNat → i7
set_option maxRecDepth 8000
open Go Go.Proofs Go.Shelf
attribute [local congr] W_congr WPsq_congr WPp_congr optK_congr addrK_congr intK_congr boolK_congr sliceK_congr tupleK_congr funcK_congr Fn_congr rawK_congr takeK_congr stepK_congr convK_congr aggK_congr

def fStopReplicaRequestTopicPartitionState_0 : Fld := .mk 3 0 (-1) (-1) (-1) 0 0 []
def fStopReplicaRequestTopicPartitionState_1 : Fld := .mk 3 0 (-1) (-1) (-1) (-1) 0 []
def fStopReplicaRequestTopicPartitionState_2 : Fld := .mk 0 0 (-1) (-1) (-1) 0 0 []
def fs_StopReplicaRequestTopicPartitionState : List Fld := [fStopReplicaRequestTopicPartitionState_0, fStopReplicaRequestTopicPartitionState_1, fStopReplicaRequestTopicPartitionState_2]
def fStopReplicaRequestTopic_0 : Fld := .mk 8 0 (-1) (-1) (-1) 0 0 []
def fStopReplicaRequestTopic_1 : Fld := .mk 3 0 0 (-1) (-1) 0 0 []
def fStopReplicaRequestTopic_2 : Fld := .mk 11 1 2 (-1) (-1) 0 3 []
def fStopReplicaRequestTopic_3 : Fld := .mk 11 3 (-1) (-1) (-1) 0 10 fs_StopReplicaRequestTopicPartitionState
def fs_StopReplicaRequestTopic : List Fld := [fStopReplicaRequestTopic_0, fStopReplicaRequestTopic_1, fStopReplicaRequestTopic_2, fStopReplicaRequestTopic_3]
def fStopReplicaRequest_0 : Fld := .mk 3 0 (-1) (-1) (-1) 0 0 []
def fStopReplicaRequest_1 : Fld := .mk 3 0 (-1) (-1) (-1) 0 0 []
def fStopReplicaRequest_2 : Fld := .mk 0 4 (-1) (-1) (-1) 0 0 []
def fStopReplicaRequest_3 : Fld := .mk 4 1 (-1) (-1) (-1) (-1) 0 []
def fStopReplicaRequest_4 : Fld := .mk 0 0 2 (-1) (-1) 0 0 []
def fStopReplicaRequest_5 : Fld := .mk 11 0 (-1) (-1) (-1) 0 10 fs_StopReplicaRequestTopic
def fs_StopReplicaRequest : List Fld := [fStopReplicaRequest_0, fStopReplicaRequest_1, fStopReplicaRequest_2, fStopReplicaRequest_3, fStopReplicaRequest_4, fStopReplicaRequest_5]

set_option maxHeartbeats 2000000 in
theorem makeStopReplicaRequestTopicPartitionState_fn {d : Nat} {okT : Blocks} {V : Int} (t : Tree) (ct : List Value) (w : World) (ht : TreeC okT w t ct) (hfit : FitP V (d + 1) fs_StopReplicaRequestTopicPartitionState t) (hLs : Lists t) :
    Fn Try.prog 181 #[.agg ct.toArray] w fun r w' => (∃ cs, r = .agg cs.toArray ∧ RepS true (d + 1) fs_StopReplicaRequestTopicPartitionState (okN okT w.heap.size) w' t cs) ∧ Ext w w' := by
  obtain ⟨vS, vL, vU, rfl, hn, hSx, hLx0, hUx⟩ := ht.inv
  obtain ⟨bS, cS, rfl, hcS⟩ := hSx.shape
  obtain ⟨bL, cL, rfl, hcL⟩ := SlR.shape hLx0
  obtain ⟨bU, cU, rfl, hcU⟩ := SlR.shape hUx
  obtain ⟨⟨g0, g1, g2, -⟩, hfu⟩ := hfit
  replace g0 : FitF (FitP V d) V fStopReplicaRequestTopicPartitionState_0 (t.at 0) := g0
  replace g1 : FitF (FitP V d) V fStopReplicaRequestTopicPartitionState_1 (t.at 1) := g1
  replace g2 : FitF (FitP V d) V fStopReplicaRequestTopicPartitionState_2 (t.at 2) := g2
  have hllt : t.l.length < 4611686018427387903 := Nat.lt_of_le_of_lt hLs.len (by decide)
  have hul := hLs.ulen
  refine fn_of_W Try.func181 rfl Try.results181 Try.ntmps181 rfl ?_
  obtain ⟨w1, hw1⟩ : ∃ w1, w1 = (((w.alloc (.cells #[.int .i64 t.n, .slice bS t.s.length cS, .bool t.null, .slice bL t.l.length cL, .slice bU t.u.length cU] 39)).alloc (.cells #[.int .i32 0, .int .i32 0, .bool false, .map none] 191)).alloc (.cells #[.int .i32 0, .int .i32 0, .bool false, .map none] 191)) := ⟨_, rfl⟩
  have hE1 : Ext w w1 := by rw [hw1]; exact ((Upd.refl _ _).alloc _).alloc _ |>.alloc _
  have hz1 : w1.heap.size = w.heap.size + 3 := by rw [hw1]; simp only [World.size_alloc]
  have htb1 : blk w1 w.heap.size = some (#[.int .i64 t.n, .slice bS t.s.length cS, .bool t.null, .slice bL t.l.length cL, .slice bU t.u.length cU], 39, (0, 0)) := by rw [hw1]; simp (maxSteps := 1000000) (disch := (first | omega | (simp only [World.size_alloc, size_wr, size_drew] <;> omega) | exact not_noB _)) only [go_sem, ↓reduceIte, n0, reduceCtorEq, n1, n2, n3, n4, n5, i0, i1, i2, i3, i4, i5, i6, i7]
  have hrb1 : blk w1 (w.heap.size + 1) = some (#[.int .i32 0, .int .i32 0, .bool false, .map none], 191, (0, 0)) := by rw [hw1]; simp (maxSteps := 1000000) (disch := (first | omega | (simp only [World.size_alloc, size_wr, size_drew] <;> omega) | exact not_noB _)) only [go_sem, ↓reduceIte, n0, reduceCtorEq, n1, n2, n3, n4, n5, i0, i1, i2, i3, i4, i5, i6, i7]
  have hb1 : blk w1 (w.heap.size + 2) = some (#[.int .i32 0, .int .i32 0, .bool false, .map none], 191, (0, 0)) := by rw [hw1]; simp (maxSteps := 1000000) (disch := (first | omega | (simp only [World.size_alloc, size_wr, size_drew] <;> omega) | exact not_noB _)) only [go_sem, ↓reduceIte, n0, reduceCtorEq, n1, n2, n3, n4, n5, i0, i1, i2, i3, i4, i5, i6, i7]
  have hoS : ∀ b, (OkS okT w.heap.size) b → b ≠ (w.heap.size + 2) := fun b h => by have := h.2; omega
  have hoR : ∀ b, (OkF okT w.heap.size w1.heap.size) b → b ≠ w.heap.size + 1 := fun b h => by
    rcases h with h | h
    · have := h.2; omega
    · omega
  have htv : ¬ w.heap.size = (w.heap.size + 2) := by omega
  have hoF : ∀ b, (OkF okT w.heap.size w1.heap.size) b → b ≠ (w.heap.size + 2) := fun b h => by
    rcases h with h | h
    · exact hoS b h
    · omega
  have hU1 : Upd (fun b => b = (w.heap.size + 2)) w1 w1 := Upd.refl _ _
  have hvl1 := blk_lt hb1
  have hsz1 := Nat.le_refl w1.heap.size
  have ht1 : TreeC (OkS okT w.heap.size) w1 t [.int .i64 t.n, .slice bS t.s.length cS, .bool t.null, .slice bL t.l.length cL, .slice bU t.u.length cU] := (ht.weaken fun b h1 h2 => ⟨h2, h1⟩).keep (hE1.keeps _)
  have hU1v : TagsV (OkS okT w.heap.size) w1 (.slice bU t.u.length cU) t.u := (hUx.weaken fun b h1 h2 => ⟨h2, h1⟩).keep (hE1.keeps _)
  repeat ((first | refine W.seqR rfl ?_ | refine W.seq ?_ | refine W.regR rfl ?_ | refine W.condK ?_ | refine W.block ?_ | refine W.skip ?_ | refine W.ret ?_ | refine W.exit ?_); try simp (maxSteps := 1000000) (disch := (first | omega | (simp only [World.size_alloc, size_wr, size_drew] <;> omega) | exact not_noB _)) only [go_sem, ↓reduceIte, n0, reduceCtorEq, n1, n2, n3, n4, n5, i0, i1, i2, i3, i4, i5, i6, i7])
  rw [← hw1]
  clear hw1
  refine (iat_fn (ok := (OkS okT w.heap.size)) t 0 _ _ (ht1.keep (hU1.keeps fun b _ hk e => hoS b hk e)) (by decide) hllt).mono ?_
  rintro r2 w2 ⟨⟨ca2, rfl, hca2⟩, hEa2⟩
  obtain ⟨vSa2, vLa2, vUa2, rfl, hna2, hSa2, hLa2, hUa2⟩ := hca2.inv
  obtain ⟨bSa2, cSa2, rfl, hcSa2⟩ := hSa2.shape
  obtain ⟨bLa2, cLa2, rfl, hcLa2⟩ := SlR.shape hLa2
  have hfU2 := SlR.flat hUa2
  clear hcSa2 hcLa2 hna2
  have hV2 : Upd (fun b => b = (w.heap.size + 2)) w1 w2 := hEa2.mono fun _ h => h.elim
  have hU2 : Upd (fun b => b = (w.heap.size + 2)) w1 w2 := hU1.trans hV2
  have htb2 := hU2.blk_some htb1 htv
  have hvl2 : (w.heap.size + 2) < w2.heap.size := Nat.lt_of_lt_of_le hvl1 hU2.size
  have hsz2 := hU2.size
  have hb2 : blk w2 (w.heap.size + 2) = some (#[.int .i32 0, .int .i32 0, .bool false, .map none], 191, (0, 0)) := hEa2.blk_some hb1 id
  simp (maxSteps := 1000000) (disch := (first | omega | (simp only [World.size_alloc, size_wr, size_drew] <;> omega) | exact not_noB _)) only [go_sem, ↓reduceIte, n0, reduceCtorEq, n1, n2, n3, n4, n5, i0, i1, i2, i3, i4, i5, i6, i7, hb2, htb2]
  generalize hw3 : wr w2 (w.heap.size + 2) 0 [.int .i32 (IntKind.i32.wrap (t.at 0).n)] = w3
  have hV3 : Upd (fun b => b = (w.heap.size + 2)) w2 w3 := by rw [← hw3]; exact (Upd.refl _ _).wr _ _ (.inr rfl)
  have hb3 : blk w3 (w.heap.size + 2) = some (#[.int .i32 (IntKind.i32.wrap (t.at 0).n), .int .i32 0, .bool false, .map none], 191, (0, 0)) := by rw [← hw3, blk_wr_eq, hb2]; rfl
  have hU3 : Upd (fun b => b = (w.heap.size + 2)) w1 w3 := hU2.trans hV3
  have htb3 := hU3.blk_some htb1 htv
  have hvl3 : (w.heap.size + 2) < w3.heap.size := Nat.lt_of_lt_of_le hvl1 hU3.size
  have hsz3 := hU3.size
  clear hvl2 hsz2
  clear hw3
  have hf0 : RepF (RepS true d) (szS true d) fStopReplicaRequestTopicPartitionState_0 (OkF okT w.heap.size w1.heap.size) w3 (t.at 0) [.int .i32 (IntKind.i32.wrap (t.at 0).n)] := (RepF_num (by decide)).2 rfl
  repeat ((first | refine W.seqR rfl ?_ | refine W.seq ?_ | refine W.regR rfl ?_ | refine W.condK ?_ | refine W.block ?_ | refine W.skip ?_ | refine W.ret ?_ | refine W.exit ?_); try simp (maxSteps := 1000000) (disch := (first | omega | (simp only [World.size_alloc, size_wr, size_drew] <;> omega) | exact not_noB _)) only [go_sem, ↓reduceIte, n0, reduceCtorEq, n1, n2, n3, n4, n5, i0, i1, i2, i3, i4, i5, i6, i7, hb3, htb3])
  refine (iat_fn (ok := (OkS okT w.heap.size)) t 1 _ _ (ht1.keep (hU3.keeps fun b _ hk e => hoS b hk e)) (by decide) hllt).mono ?_
  rintro r4 w4 ⟨⟨ca4, rfl, hca4⟩, hEa4⟩
  obtain ⟨vSa4, vLa4, vUa4, rfl, hna4, hSa4, hLa4, hUa4⟩ := hca4.inv
  obtain ⟨bSa4, cSa4, rfl, hcSa4⟩ := hSa4.shape
  obtain ⟨bLa4, cLa4, rfl, hcLa4⟩ := SlR.shape hLa4
  have hfU4 := SlR.flat hUa4
  clear hcSa4 hcLa4 hna4
  have hV4 : Upd (fun b => b = (w.heap.size + 2)) w3 w4 := hEa4.mono fun _ h => h.elim
  have hU4 : Upd (fun b => b = (w.heap.size + 2)) w1 w4 := hU3.trans hV4
  have htb4 := hU4.blk_some htb1 htv
  have hvl4 : (w.heap.size + 2) < w4.heap.size := Nat.lt_of_lt_of_le hvl1 hU4.size
  have hsz4 := hU4.size
  clear hvl3 hsz3
  have hb4 : blk w4 (w.heap.size + 2) = some (#[.int .i32 (IntKind.i32.wrap (t.at 0).n), .int .i32 0, .bool false, .map none], 191, (0, 0)) := hEa4.blk_some hb3 id
  simp (maxSteps := 1000000) (disch := (first | omega | (simp only [World.size_alloc, size_wr, size_drew] <;> omega) | exact not_noB _)) only [go_sem, ↓reduceIte, n0, reduceCtorEq, n1, n2, n3, n4, n5, i0, i1, i2, i3, i4, i5, i6, i7, hb4, htb4]
  generalize hw5 : wr w4 (w.heap.size + 2) 1 [.int .i32 (IntKind.i32.wrap (t.at 1).n)] = w5
  have hV5 : Upd (fun b => b = (w.heap.size + 2)) w4 w5 := by rw [← hw5]; exact (Upd.refl _ _).wr _ _ (.inr rfl)
  have hb5 : blk w5 (w.heap.size + 2) = some (#[.int .i32 (IntKind.i32.wrap (t.at 0).n), .int .i32 (IntKind.i32.wrap (t.at 1).n), .bool false, .map none], 191, (0, 0)) := by rw [← hw5, blk_wr_eq, hb4]; rfl
  have hU5 : Upd (fun b => b = (w.heap.size + 2)) w1 w5 := hU4.trans hV5
  have htb5 := hU5.blk_some htb1 htv
  have hvl5 : (w.heap.size + 2) < w5.heap.size := Nat.lt_of_lt_of_le hvl1 hU5.size
  have hsz5 := hU5.size
  clear hvl4 hsz4
  clear hw5
  have hf1 : RepF (RepS true d) (szS true d) fStopReplicaRequestTopicPartitionState_1 (OkF okT w.heap.size w1.heap.size) w5 (t.at 1) [.int .i32 (IntKind.i32.wrap (t.at 1).n)] := (RepF_num (by decide)).2 rfl
  repeat ((first | refine W.seqR rfl ?_ | refine W.seq ?_ | refine W.regR rfl ?_ | refine W.condK ?_ | refine W.block ?_ | refine W.skip ?_ | refine W.ret ?_ | refine W.exit ?_); try simp (maxSteps := 1000000) (disch := (first | omega | (simp only [World.size_alloc, size_wr, size_drew] <;> omega) | exact not_noB _)) only [go_sem, ↓reduceIte, n0, reduceCtorEq, n1, n2, n3, n4, n5, i0, i1, i2, i3, i4, i5, i6, i7, hb5, htb5])
  refine (iat_fn (ok := (OkS okT w.heap.size)) t 2 _ _ (ht1.keep (hU5.keeps fun b _ hk e => hoS b hk e)) (by decide) hllt).mono ?_
  rintro r6 w6 ⟨⟨ca6, rfl, hca6⟩, hEa6⟩
  obtain ⟨vSa6, vLa6, vUa6, rfl, hna6, hSa6, hLa6, hUa6⟩ := hca6.inv
  obtain ⟨bSa6, cSa6, rfl, hcSa6⟩ := hSa6.shape
  obtain ⟨bLa6, cLa6, rfl, hcLa6⟩ := SlR.shape hLa6
  have hfU6 := SlR.flat hUa6
  clear hcSa6 hcLa6 hna6
  have hV6 : Upd (fun b => b = (w.heap.size + 2)) w5 w6 := hEa6.mono fun _ h => h.elim
  have hU6 : Upd (fun b => b = (w.heap.size + 2)) w1 w6 := hU5.trans hV6
  have htb6 := hU6.blk_some htb1 htv
  have hvl6 : (w.heap.size + 2) < w6.heap.size := Nat.lt_of_lt_of_le hvl1 hU6.size
  have hsz6 := hU6.size
  clear hvl5 hsz5
  have hb6 : blk w6 (w.heap.size + 2) = some (#[.int .i32 (IntKind.i32.wrap (t.at 0).n), .int .i32 (IntKind.i32.wrap (t.at 1).n), .bool false, .map none], 191, (0, 0)) := hEa6.blk_some hb5 id
  have hq6 : ((t.at 2).n % 2 == 1) = decide ((t.at 2).n % 2 = 1) := rfl
  simp (maxSteps := 1000000) (disch := (first | omega | (simp only [World.size_alloc, size_wr, size_drew] <;> omega) | exact not_noB _)) only [go_sem, ↓reduceIte, n0, reduceCtorEq, n1, n2, n3, n4, n5, i0, i1, i2, i3, i4, i5, i6, i7, hb6, htb6, and1_i64, hq6]
  generalize hw7 : wr w6 (w.heap.size + 2) 2 [.bool (decide ((t.at 2).n % 2 = 1))] = w7
  have hV7 : Upd (fun b => b = (w.heap.size + 2)) w6 w7 := by rw [← hw7]; exact (Upd.refl _ _).wr _ _ (.inr rfl)
  have hb7 : blk w7 (w.heap.size + 2) = some (#[.int .i32 (IntKind.i32.wrap (t.at 0).n), .int .i32 (IntKind.i32.wrap (t.at 1).n), .bool (decide ((t.at 2).n % 2 = 1)), .map none], 191, (0, 0)) := by rw [← hw7, blk_wr_eq, hb6]; rfl
  have hU7 : Upd (fun b => b = (w.heap.size + 2)) w1 w7 := hU6.trans hV7
  have htb7 := hU7.blk_some htb1 htv
  have hvl7 : (w.heap.size + 2) < w7.heap.size := Nat.lt_of_lt_of_le hvl1 hU7.size
  have hsz7 := hU7.size
  clear hvl6 hsz6
  clear hw7
  have hf2 : RepF (RepS true d) (szS true d) fStopReplicaRequestTopicPartitionState_2 (OkF okT w.heap.size w1.heap.size) w7 (t.at 2) [.bool (decide ((t.at 2).n % 2 = 1))] := (RepF_num (by decide)).2 rfl
  repeat ((first | refine W.seqR rfl ?_ | refine W.seq ?_ | refine W.regR rfl ?_ | refine W.condK ?_ | refine W.block ?_ | refine W.skip ?_ | refine W.ret ?_ | refine W.exit ?_); try simp (maxSteps := 1000000) (disch := (first | omega | (simp only [World.size_alloc, size_wr, size_drew] <;> omega) | exact not_noB _)) only [go_sem, ↓reduceIte, n0, reduceCtorEq, n1, n2, n3, n4, n5, i0, i1, i2, i3, i4, i5, i6, i7, hb7, htb7])
  have hUv := hU1v.keep (hU7.keeps fun b _ hk e => hoS b hk e)
  refine W.loop (fun ρ w' => ∃ (j : Nat) (q : Option Nat), j ≤ t.u.length ∧ ρ 25 = .int .i64 j ∧ ρ 24 = .int .i64 t.u.length ∧ ρ 23 = .slice bU t.u.length cU ∧ ρ 1 = .pointer (some ⟨w.heap.size, 0, none⟩) ∧ ρ 2 = .pointer (some ⟨w.heap.size + 1, 0, none⟩) ∧ ρ 3 = .pointer (some ⟨(w.heap.size + 2), 0, none⟩) ∧ blk w' (w.heap.size + 2) = some (#[.int .i32 (IntKind.i32.wrap (t.at 0).n), .int .i32 (IntKind.i32.wrap (t.at 1).n), .bool (decide ((t.at 2).n % 2 = 1)), .map q], 191, (0, 0)) ∧ TagsG (OkS okT w.heap.size) w7.heap.size w' (.map q) (t.u.take j) ∧ Upd (fun b => b = (w.heap.size + 2)) w7 w')
      (fun ρ _ => t.u.length - (RowKit.intOf (ρ 25)).toNat) ?_ ?_
  · refine ⟨0, none, Nat.zero_le _, ?_, ?_, ?_, ?_, ?_, ?_, hb7, TagsG.start _ _ _, Upd.refl _ _⟩ <;> simp (maxSteps := 1000000) (disch := (first | omega | (simp only [World.size_alloc, size_wr, size_drew] <;> omega) | exact not_noB _)) only [go_sem, ↓reduceIte, n0, reduceCtorEq, n1, n2, n3, n4, n5, i0, i1, i2, i3, i4, i5, i6, i7]
    all_goals rfl
  · rintro ρ w_6 ⟨j, q, hj, hI, hN, hS, hr1, hr2, hr3, hbv, hG, hU_6⟩
    have hz_6 := hU_6.size
    have hUv_6 := hUv.keep (hU_6.keeps fun b _ hk e => hoS b hk e)
    have hU_16 : Upd (fun b => b = (w.heap.size + 2)) w1 w_6 := hU7.trans hU_6
    have hz_16 := hU_16.size
    by_cases hlt : j < t.u.length
    · obtain ⟨_, b, o, x, vv, hb, hokb, hx, hblt, hxs, hxe, _, _, hfv, hbvv, h32⟩ := TagsV.get hUv_6 hlt
      subst hb
      have hcat : t.u.take (j + 1) = t.u.take j ++ [t.u[j]] := List.take_succ_eq_append_getElem hlt
      have hnew : ∀ z ∈ t.u.take j, z.1 ≠ t.u[j].1 := by
        intro z hz
        obtain ⟨k, hk, rfl⟩ := List.getElem_of_mem hz
        simp only [List.length_take] at hk
        have := List.pairwise_iff_getElem.1 hfu.2.2 k j (by omega) hlt (by omega)
        rw [List.getElem_take]; omega
      generalize t.u[j] = y at *
      obtain ⟨bSy, cSy, rfl, hcSy⟩ := hbvv.shape
      repeat ((first | refine W.seqR rfl ?_ | refine W.seq ?_ | refine W.regR rfl ?_ | refine W.condK ?_ | refine W.block ?_ | refine W.skip ?_ | refine W.ret ?_ | refine W.exit ?_); try simp (maxSteps := 1000000) (disch := (first | omega | (simp only [World.size_alloc, size_wr, size_drew] <;> omega) | exact not_noB _)) only [go_sem, ↓reduceIte, n0, reduceCtorEq, n1, n2, n3, n4, n5, i0, i1, i2, i3, i4, i5, i6, i7, hI, hN, hS, hx, hxe, hfv, cellsAt_two, Int.toNat_natCast])
      generalize hw_7 : (wr (w_6.alloc (.cells #[.int .u32 0, .slice none 0 0] 64)) w_6.heap.size 0 [.int .u32 y.1, .slice bSy y.2.length cSy]) = w_7
      have hE_7 : Ext w_6 w_7 := by rw [← hw_7]; exact (Upd.alloc (Upd.refl _ _) _).wr _ _ (.inl (Nat.le_refl _))
      have hb_7 : blk w_7 w_6.heap.size = some (#[.int .u32 y.1, .slice bSy y.2.length cSy], 64, (0, 0)) := by rw [← hw_7]; simp (maxSteps := 1000000) (disch := (first | omega | (simp only [World.size_alloc, size_wr, size_drew] <;> omega) | exact not_noB _)) only [go_sem, ↓reduceIte, n0, reduceCtorEq, n1, n2, n3, n4, n5, i0, i1, i2, i3, i4, i5, i6, i7]
      have hz_7 : w_7.heap.size = w_6.heap.size + 1 := by rw [← hw_7]; simp only [size_wr, World.size_alloc]
      clear hw_7
      have hbt_7 := hE_7.blk_some hbv id
      simp (maxSteps := 1000000) (disch := (first | omega | (simp only [World.size_alloc, size_wr, size_drew] <;> omega) | exact not_noB _)) only [go_sem, ↓reduceIte, n0, reduceCtorEq, n1, n2, n3, n4, n5, i0, i1, i2, i3, i4, i5, i6, i7, hr1, hr2, hr3, hbt_7, hb_7, cellsAt_two]
      have hE_7d : Ext w_7 w_7 := Upd.refl _ _
      have hE_6d : Ext w_6 w_7 := hE_7.trans hE_7d
      have hG_7 : TagsG (OkS okT w.heap.size) w7.heap.size w_7 (.map q) (t.u.take j) := hG.keep fun b hb _ => hE_6d.keep b hb id
      have hbt_8 := hE_7d.blk_some hbt_7 id
      have hm_8 : (#[.int .i32 (IntKind.i32.wrap (t.at 0).n), .int .i32 (IntKind.i32.wrap (t.at 1).n), .bool (decide ((t.at 2).n % 2 = 1)), .map q] : Array Value)[3]? = some (.map q) := rfl
      refine (TagsSet_fn (okT := (OkS okT w.heap.size)) (L := w7.heap.size) w_7 hG_7 (by have := hE_6d.size; omega) (by omega) hbt_8 (o := 3) hm_8 (thaw_00 _ _) y _ ((hbvv.weaken fun b _ hk => ⟨hk, by have := hk.2; omega⟩).keep (hE_6d.keeps _)) h32 hnew hoS).mono ?_
      rintro _ w_8 ⟨m', hb_8, hG_8, hM_8⟩
      simp only [List.setIfInBounds_toArray, List.set_cons_succ, List.set_cons_zero] at hb_8
      repeat ((first | refine W.seqR rfl ?_ | refine W.seq ?_ | refine W.regR rfl ?_ | refine W.condK ?_ | refine W.block ?_ | refine W.skip ?_ | refine W.ret ?_ | refine W.exit ?_); try simp (maxSteps := 1000000) (disch := (first | omega | (simp only [World.size_alloc, size_wr, size_drew] <;> omega) | exact not_noB _)) only [go_sem, ↓reduceIte, n0, reduceCtorEq, n1, n2, n3, n4, n5, i0, i1, i2, i3, i4, i5, i6, i7, hI])
      refine ⟨⟨j + 1, m', by omega, rfl, hN, hS, hr1, hr2, hr3, hb_8, by rw [hcat]; exact hG_8, ?_⟩, ?_⟩
      · exact hU_6.more ((hE_6d.mono fun _ h => h.elim).trans hM_8) fun b hb h => by
          rcases h with h | h
          · exact h
          · cases h; have := (hG.lt rfl).2; omega
      · simp only [RowKit.intOf]; omega
    · have hjl : j = t.u.length := by omega
      subst hjl
      rw [List.take_length] at hG
      have hT6 : Upd (fun b => b = (w.heap.size + 2)) w6 w_6 := hV7.trans hU_6
      have hT5 : Upd (fun b => b = (w.heap.size + 2)) w5 w_6 := hV6.trans hT6
      have hT4 : Upd (fun b => b = (w.heap.size + 2)) w4 w_6 := hV5.trans hT5
      have hT3 : Upd (fun b => b = (w.heap.size + 2)) w3 w_6 := hV4.trans hT4
      have hT2 : Upd (fun b => b = (w.heap.size + 2)) w2 w_6 := hV3.trans hT3
      have hT1 : Upd (fun b => b = (w.heap.size + 2)) w1 w_6 := hV2.trans hT2
      have hz0_f := hf0.keepS (hT3.keeps fun b _ hk e => hoF b hk e)
      have hz1_f := hf1.keepS (hT5.keeps fun b _ hk e => hoF b hk e)
      have hz2_f := hf2.keepS (hU_6.keeps fun b _ hk e => hoF b hk e)
      have hTg := hG.tags (ok' := (OkF okT w.heap.size w1.heap.size)) (fun b _ hk => .inl hk) (fun b hb => .inr (by omega))
      have hL : RepL (RepS true d) (szS true d) (OkF okT w.heap.size w1.heap.size) w_6 t [fStopReplicaRequestTopicPartitionState_0, fStopReplicaRequestTopicPartitionState_1, fStopReplicaRequestTopicPartitionState_2] 0 [.int .i32 (IntKind.i32.wrap (t.at 0).n), .int .i32 (IntKind.i32.wrap (t.at 1).n), .bool (decide ((t.at 2).n % 2 = 1))] := (RepL.cons1 hz0_f (RepL.cons1 hz1_f (RepL.cons1 hz2_f RepL.nil)))
      have hR : RepS true (d + 1) fs_StopReplicaRequestTopicPartitionState (OkF okT w.heap.size w1.heap.size) w_6 t [.int .i32 (IntKind.i32.wrap (t.at 0).n), .int .i32 (IntKind.i32.wrap (t.at 1).n), .bool (decide ((t.at 2).n % 2 = 1)), .map q] := RepS.intro (c := [.int .i32 (IntKind.i32.wrap (t.at 0).n), .int .i32 (IntKind.i32.wrap (t.at 1).n), .bool (decide ((t.at 2).n % 2 = 1))]) rfl hL hTg
      have hcA : cellsAt #[.int .i32 (IntKind.i32.wrap (t.at 0).n), .int .i32 (IntKind.i32.wrap (t.at 1).n), .bool (decide ((t.at 2).n % 2 = 1)), .map q] 0 4 = some (.agg #[.int .i32 (IntKind.i32.wrap (t.at 0).n), .int .i32 (IntKind.i32.wrap (t.at 1).n), .bool (decide ((t.at 2).n % 2 = 1)), .map q]) := cellsAt_full rfl
      have hrb_6 := hT1.blk_some hrb1 (by omega)
      repeat ((first | refine W.seqR rfl ?_ | refine W.seq ?_ | refine W.regR rfl ?_ | refine W.condK ?_ | refine W.block ?_ | refine W.skip ?_ | refine W.ret ?_ | refine W.exit ?_); try simp (maxSteps := 1000000) (disch := (first | omega | (simp only [World.size_alloc, size_wr, size_drew] <;> omega) | exact not_noB _)) only [go_sem, ↓reduceIte, n0, reduceCtorEq, n1, n2, n3, n4, n5, i0, i1, i2, i3, i4, i5, i6, i7, hI, hN, hr1, hr2, hr3, hbv, hrb_6, hcA])
      have hUr : Upd (fun b => b = w.heap.size + 1) w_6 (wr w_6 (w.heap.size + 1) 0 [.int .i32 (IntKind.i32.wrap (t.at 0).n), .int .i32 (IntKind.i32.wrap (t.at 1).n), .bool (decide ((t.at 2).n % 2 = 1)), .map q]) := (Upd.refl _ _).wr _ _ (.inr rfl)
      refine ⟨⟨_, rfl, (RepS_lay true (d + 1) fs_StopReplicaRequestTopicPartitionState).weaken ((RepS_lay true (d + 1) fs_StopReplicaRequestTopicPartitionState).keep hR (hUr.keeps fun b _ hk e => hoR b hk e)) (fun b _ hk => hk.imp And.left fun h => by omega)⟩, ?_⟩
      exact (hE1.more hT1 fun b hb h => by omega).wr _ _ (.inl (by omega))

set_option maxHeartbeats 2000000 in
theorem makeStopReplicaRequestTopic_fn {d : Nat} {okT : Blocks} {V : Int} (t : Tree) (ct : List Value) (w : World) (ht : TreeC okT w t ct) (hfit : FitP V (d + 2) fs_StopReplicaRequestTopic t) (hLs : Lists t) :
    Fn Try.prog 158 #[.agg ct.toArray] w fun r w' => (∃ cs, r = .agg cs.toArray ∧ RepS true (d + 2) fs_StopReplicaRequestTopic (okN okT w.heap.size) w' t cs) ∧ Ext w w' := by
  obtain ⟨vS, vL, vU, rfl, hn, hSx, hLx0, hUx⟩ := ht.inv
  obtain ⟨bS, cS, rfl, hcS⟩ := hSx.shape
  obtain ⟨bL, cL, rfl, hcL⟩ := SlR.shape hLx0
  obtain ⟨bU, cU, rfl, hcU⟩ := SlR.shape hUx
  obtain ⟨⟨g0, g1, g2, g3, -⟩, hfu⟩ := hfit
  replace g0 : FitF (FitP V (d + 1)) V fStopReplicaRequestTopic_0 (t.at 0) := g0
  replace g1 : FitF (FitP V (d + 1)) V fStopReplicaRequestTopic_1 (t.at 1) := g1
  replace g2 : FitF (FitP V (d + 1)) V fStopReplicaRequestTopic_2 (t.at 2) := g2
  replace g3 : FitF (FitP V (d + 1)) V fStopReplicaRequestTopic_3 (t.at 3) := g3
  have hllt : t.l.length < 4611686018427387903 := Nat.lt_of_le_of_lt hLs.len (by decide)
  have hul := hLs.ulen
  refine fn_of_W Try.func158 rfl Try.results158 Try.ntmps158 rfl ?_
  obtain ⟨w1, hw1⟩ : ∃ w1, w1 = (((w.alloc (.cells #[.int .i64 t.n, .slice bS t.s.length cS, .bool t.null, .slice bL t.l.length cL, .slice bU t.u.length cU] 39)).alloc (.cells #[.string ByteArray.empty, .int .i32 0, .slice none 0 0, .slice none 0 0, .map none] 185)).alloc (.cells #[.string ByteArray.empty, .int .i32 0, .slice none 0 0, .slice none 0 0, .map none] 185)) := ⟨_, rfl⟩
  have hE1 : Ext w w1 := by rw [hw1]; exact ((Upd.refl _ _).alloc _).alloc _ |>.alloc _
  have hz1 : w1.heap.size = w.heap.size + 3 := by rw [hw1]; simp only [World.size_alloc]
  have htb1 : blk w1 w.heap.size = some (#[.int .i64 t.n, .slice bS t.s.length cS, .bool t.null, .slice bL t.l.length cL, .slice bU t.u.length cU], 39, (0, 0)) := by rw [hw1]; simp (maxSteps := 1000000) (disch := (first | omega | (simp only [World.size_alloc, size_wr, size_drew] <;> omega) | exact not_noB _)) only [go_sem, ↓reduceIte, n0, reduceCtorEq, n1, n2, n3, n4, n5, i0, i1, i2, i3, i4, i5, i6, i7]
  have hrb1 : blk w1 (w.heap.size + 1) = some (#[.string ByteArray.empty, .int .i32 0, .slice none 0 0, .slice none 0 0, .map none], 185, (0, 0)) := by rw [hw1]; simp (maxSteps := 1000000) (disch := (first | omega | (simp only [World.size_alloc, size_wr, size_drew] <;> omega) | exact not_noB _)) only [go_sem, ↓reduceIte, n0, reduceCtorEq, n1, n2, n3, n4, n5, i0, i1, i2, i3, i4, i5, i6, i7]
  have hb1 : blk w1 (w.heap.size + 2) = some (#[.string ByteArray.empty, .int .i32 0, .slice none 0 0, .slice none 0 0, .map none], 185, (0, 0)) := by rw [hw1]; simp (maxSteps := 1000000) (disch := (first | omega | (simp only [World.size_alloc, size_wr, size_drew] <;> omega) | exact not_noB _)) only [go_sem, ↓reduceIte, n0, reduceCtorEq, n1, n2, n3, n4, n5, i0, i1, i2, i3, i4, i5, i6, i7]
  have hoS : ∀ b, (OkS okT w.heap.size) b → b ≠ (w.heap.size + 2) := fun b h => by have := h.2; omega
  have hoR : ∀ b, (OkF okT w.heap.size w1.heap.size) b → b ≠ w.heap.size + 1 := fun b h => by
    rcases h with h | h
    · have := h.2; omega
    · omega
  have htv : ¬ w.heap.size = (w.heap.size + 2) := by omega
  have hoF : ∀ b, (OkF okT w.heap.size w1.heap.size) b → b ≠ (w.heap.size + 2) := fun b h => by
    rcases h with h | h
    · exact hoS b h
    · omega
  have hU1 : Upd (fun b => b = (w.heap.size + 2)) w1 w1 := Upd.refl _ _
  have hvl1 := blk_lt hb1
  have hsz1 := Nat.le_refl w1.heap.size
  have ht1 : TreeC (OkS okT w.heap.size) w1 t [.int .i64 t.n, .slice bS t.s.length cS, .bool t.null, .slice bL t.l.length cL, .slice bU t.u.length cU] := (ht.weaken fun b h1 h2 => ⟨h2, h1⟩).keep (hE1.keeps _)
  have hU1v : TagsV (OkS okT w.heap.size) w1 (.slice bU t.u.length cU) t.u := (hUx.weaken fun b h1 h2 => ⟨h2, h1⟩).keep (hE1.keeps _)
  repeat ((first | refine W.seqR rfl ?_ | refine W.seq ?_ | refine W.regR rfl ?_ | refine W.condK ?_ | refine W.block ?_ | refine W.skip ?_ | refine W.ret ?_ | refine W.exit ?_); try simp (maxSteps := 1000000) (disch := (first | omega | (simp only [World.size_alloc, size_wr, size_drew] <;> omega) | exact not_noB _)) only [go_sem, ↓reduceIte, n0, reduceCtorEq, n1, n2, n3, n4, n5, i0, i1, i2, i3, i4, i5, i6, i7])
  rw [← hw1]
  clear hw1
  refine (iat_fn (ok := (OkS okT w.heap.size)) t 0 _ _ (ht1.keep (hU1.keeps fun b _ hk e => hoS b hk e)) (by decide) hllt).mono ?_
  rintro r2 w2 ⟨⟨ca2, rfl, hca2⟩, hEa2⟩
  obtain ⟨vSa2, vLa2, vUa2, rfl, hna2, hSa2, hLa2, hUa2⟩ := hca2.inv
  obtain ⟨bSa2, cSa2, rfl, hcSa2⟩ := hSa2.shape
  obtain ⟨bLa2, cLa2, rfl, hcLa2⟩ := SlR.shape hLa2
  have hfU2 := SlR.flat hUa2
  clear hcSa2 hcLa2 hna2
  have hV2 : Upd (fun b => b = (w.heap.size + 2)) w1 w2 := hEa2.mono fun _ h => h.elim
  have hU2 : Upd (fun b => b = (w.heap.size + 2)) w1 w2 := hU1.trans hV2
  have htb2 := hU2.blk_some htb1 htv
  have hvl2 : (w.heap.size + 2) < w2.heap.size := Nat.lt_of_lt_of_le hvl1 hU2.size
  have hsz2 := hU2.size
  have hb2 : blk w2 (w.heap.size + 2) = some (#[.string ByteArray.empty, .int .i32 0, .slice none 0 0, .slice none 0 0, .map none], 185, (0, 0)) := hEa2.blk_some hb1 id
  simp (maxSteps := 1000000) (disch := (first | omega | (simp only [World.size_alloc, size_wr, size_drew] <;> omega) | exact not_noB _)) only [go_sem, ↓reduceIte, n0, reduceCtorEq, n1, n2, n3, n4, n5, i0, i1, i2, i3, i4, i5, i6, i7, hb2, htb2]
  refine wp_string (S := 22) (T := 9) (E := 5) (s := (t.at 0).s) (ok := (OkS okT w.heap.size)) (by kernel_rfl) (by kernel_rfl) (by kernel_rfl) (by simp (maxSteps := 1000000) (disch := (first | omega | (simp only [World.size_alloc, size_wr, size_drew] <;> omega) | exact not_noB _)) only [go_sem, ↓reduceIte, n0, reduceCtorEq, n1, n2, n3, n4, n5, i0, i1, i2, i3, i4, i5, i6, i7]; exact hSa2) ?_
  simp (maxSteps := 1000000) (disch := (first | omega | (simp only [World.size_alloc, size_wr, size_drew] <;> omega) | exact not_noB _)) only [go_sem, ↓reduceIte, n0, reduceCtorEq, n1, n2, n3, n4, n5, i0, i1, i2, i3, i4, i5, i6, i7, hb2, htb2]
  generalize hw3 : wr w2 (w.heap.size + 2) 0 [strV (t.at 0).s] = w3
  have hV3 : Upd (fun b => b = (w.heap.size + 2)) w2 w3 := by rw [← hw3]; exact (Upd.refl _ _).wr _ _ (.inr rfl)
  have hb3 : blk w3 (w.heap.size + 2) = some (#[strV (t.at 0).s, .int .i32 0, .slice none 0 0, .slice none 0 0, .map none], 185, (0, 0)) := by rw [← hw3, blk_wr_eq, hb2]; rfl
  have hU3 : Upd (fun b => b = (w.heap.size + 2)) w1 w3 := hU2.trans hV3
  have htb3 := hU3.blk_some htb1 htv
  have hvl3 : (w.heap.size + 2) < w3.heap.size := Nat.lt_of_lt_of_le hvl1 hU3.size
  have hsz3 := hU3.size
  clear hvl2 hsz2
  clear hw3
  have hf0 : RepF (RepS true (d + 1)) (szS true (d + 1)) fStopReplicaRequestTopic_0 (OkF okT w.heap.size w1.heap.size) w3 (t.at 0) [strV (t.at 0).s] := (RepF_text rfl (by decide)).2 rfl
  repeat ((first | refine W.seqR rfl ?_ | refine W.seq ?_ | refine W.regR rfl ?_ | refine W.condK ?_ | refine W.block ?_ | refine W.skip ?_ | refine W.ret ?_ | refine W.exit ?_); try simp (maxSteps := 1000000) (disch := (first | omega | (simp only [World.size_alloc, size_wr, size_drew] <;> omega) | exact not_noB _)) only [go_sem, ↓reduceIte, n0, reduceCtorEq, n1, n2, n3, n4, n5, i0, i1, i2, i3, i4, i5, i6, i7, hb3, htb3])
  refine (iat_fn (ok := (OkS okT w.heap.size)) t 1 _ _ (ht1.keep (hU3.keeps fun b _ hk e => hoS b hk e)) (by decide) hllt).mono ?_
  rintro r4 w4 ⟨⟨ca4, rfl, hca4⟩, hEa4⟩
  obtain ⟨vSa4, vLa4, vUa4, rfl, hna4, hSa4, hLa4, hUa4⟩ := hca4.inv
  obtain ⟨bSa4, cSa4, rfl, hcSa4⟩ := hSa4.shape
  obtain ⟨bLa4, cLa4, rfl, hcLa4⟩ := SlR.shape hLa4
  have hfU4 := SlR.flat hUa4
  clear hcSa4 hcLa4 hna4
  have hV4 : Upd (fun b => b = (w.heap.size + 2)) w3 w4 := hEa4.mono fun _ h => h.elim
  have hU4 : Upd (fun b => b = (w.heap.size + 2)) w1 w4 := hU3.trans hV4
  have htb4 := hU4.blk_some htb1 htv
  have hvl4 : (w.heap.size + 2) < w4.heap.size := Nat.lt_of_lt_of_le hvl1 hU4.size
  have hsz4 := hU4.size
  clear hvl3 hsz3
  have hb4 : blk w4 (w.heap.size + 2) = some (#[strV (t.at 0).s, .int .i32 0, .slice none 0 0, .slice none 0 0, .map none], 185, (0, 0)) := hEa4.blk_some hb3 id
  simp (maxSteps := 1000000) (disch := (first | omega | (simp only [World.size_alloc, size_wr, size_drew] <;> omega) | exact not_noB _)) only [go_sem, ↓reduceIte, n0, reduceCtorEq, n1, n2, n3, n4, n5, i0, i1, i2, i3, i4, i5, i6, i7, hb4, htb4]
  generalize hw5 : wr w4 (w.heap.size + 2) 1 [.int .i32 (IntKind.i32.wrap (t.at 1).n)] = w5
  have hV5 : Upd (fun b => b = (w.heap.size + 2)) w4 w5 := by rw [← hw5]; exact (Upd.refl _ _).wr _ _ (.inr rfl)
  have hb5 : blk w5 (w.heap.size + 2) = some (#[strV (t.at 0).s, .int .i32 (IntKind.i32.wrap (t.at 1).n), .slice none 0 0, .slice none 0 0, .map none], 185, (0, 0)) := by rw [← hw5, blk_wr_eq, hb4]; rfl
  have hU5 : Upd (fun b => b = (w.heap.size + 2)) w1 w5 := hU4.trans hV5
  have htb5 := hU5.blk_some htb1 htv
  have hvl5 : (w.heap.size + 2) < w5.heap.size := Nat.lt_of_lt_of_le hvl1 hU5.size
  have hsz5 := hU5.size
  clear hvl4 hsz4
  clear hw5
  have hf1 : RepF (RepS true (d + 1)) (szS true (d + 1)) fStopReplicaRequestTopic_1 (OkF okT w.heap.size w1.heap.size) w5 (t.at 1) [.int .i32 (IntKind.i32.wrap (t.at 1).n)] := (RepF_num (by decide)).2 rfl
  have hn0_2 : (t.at 2).null = false := g2.notnull (by decide)
  have hll2 := (g2.list rfl).1
  repeat ((first | refine W.seqR rfl ?_ | refine W.seq ?_ | refine W.regR rfl ?_ | refine W.condK ?_ | refine W.block ?_ | refine W.skip ?_ | refine W.ret ?_ | refine W.exit ?_); try simp (maxSteps := 1000000) (disch := (first | omega | (simp only [World.size_alloc, size_wr, size_drew] <;> omega) | exact not_noB _)) only [go_sem, ↓reduceIte, n0, reduceCtorEq, n1, n2, n3, n4, n5, i0, i1, i2, i3, i4, i5, i6, i7, hb5, htb5])
  refine (iat_fn (ok := (OkS okT w.heap.size)) t 2 _ _ (ht1.keep (hU5.keeps fun b _ hk e => hoS b hk e)) (by decide) hllt).mono ?_
  rintro r6 w6 ⟨⟨ca6, rfl, hca6⟩, hEa6⟩
  obtain ⟨vSa6, vLa6, vUa6, rfl, hna6, hSa6, hLa6, hUa6⟩ := hca6.inv
  obtain ⟨bSa6, cSa6, rfl, hcSa6⟩ := hSa6.shape
  obtain ⟨bLa6, cLa6, rfl, hcLa6⟩ := SlR.shape hLa6
  have hfU6 := SlR.flat hUa6
  clear hcSa6 hcLa6 hna6
  have hV6 : Upd (fun b => b = (w.heap.size + 2)) w5 w6 := hEa6.mono fun _ h => h.elim
  have hU6 : Upd (fun b => b = (w.heap.size + 2)) w1 w6 := hU5.trans hV6
  have htb6 := hU6.blk_some htb1 htv
  have hvl6 : (w.heap.size + 2) < w6.heap.size := Nat.lt_of_lt_of_le hvl1 hU6.size
  have hsz6 := hU6.size
  clear hvl5 hsz5
  have hb6 : blk w6 (w.heap.size + 2) = some (#[strV (t.at 0).s, .int .i32 (IntKind.i32.wrap (t.at 1).n), .slice none 0 0, .slice none 0 0, .map none], 185, (0, 0)) := hEa6.blk_some hb5 id
  simp (maxSteps := 1000000) (disch := (first | omega | (simp only [World.size_alloc, size_wr, size_drew] <;> omega) | exact not_noB _)) only [go_sem, ↓reduceIte, n0, reduceCtorEq, n1, n2, n3, n4, n5, i0, i1, i2, i3, i4, i5, i6, i7, hn0_2, hb6, htb6]
  repeat ((first | refine W.seqR rfl ?_ | refine W.seq ?_ | refine W.regR rfl ?_ | refine W.condK ?_ | refine W.block ?_ | refine W.skip ?_ | refine W.ret ?_ | refine W.exit ?_); try simp (maxSteps := 1000000) (disch := (first | omega | (simp only [World.size_alloc, size_wr, size_drew] <;> omega) | exact not_noB _)) only [go_sem, ↓reduceIte, n0, reduceCtorEq, n1, n2, n3, n4, n5, i0, i1, i2, i3, i4, i5, i6, i7, hb6, htb6])
  refine (iat_fn (ok := (OkS okT w.heap.size)) t 2 _ _ (ht1.keep (hU6.keeps fun b _ hk e => hoS b hk e)) (by decide) hllt).mono ?_
  rintro r7 w7 ⟨⟨ca7, rfl, hca7⟩, hEa7⟩
  obtain ⟨vSa7, vLa7, vUa7, rfl, hna7, hSa7, hLa7, hUa7⟩ := hca7.inv
  obtain ⟨bSa7, cSa7, rfl, hcSa7⟩ := hSa7.shape
  obtain ⟨bLa7, cLa7, rfl, hcLa7⟩ := SlR.shape hLa7
  have hfU7 := SlR.flat hUa7
  clear hcSa7 hcLa7 hna7
  have hV7 : Upd (fun b => b = (w.heap.size + 2)) w6 w7 := hEa7.mono fun _ h => h.elim
  have hU7 : Upd (fun b => b = (w.heap.size + 2)) w1 w7 := hU6.trans hV7
  have htb7 := hU7.blk_some htb1 htv
  have hvl7 : (w.heap.size + 2) < w7.heap.size := Nat.lt_of_lt_of_le hvl1 hU7.size
  have hsz7 := hU7.size
  clear hvl6 hsz6
  have hb7 : blk w7 (w.heap.size + 2) = some (#[strV (t.at 0).s, .int .i32 (IntKind.i32.wrap (t.at 1).n), .slice none 0 0, .slice none 0 0, .map none], 185, (0, 0)) := hEa7.blk_some hb6 id
  simp (maxSteps := 1000000) (disch := (first | omega | (simp only [World.size_alloc, size_wr, size_drew] <;> omega) | exact not_noB _)) only [go_sem, ↓reduceIte, n0, reduceCtorEq, n1, n2, n3, n4, n5, i0, i1, i2, i3, i4, i5, i6, i7, hb7, htb7]
  refine wp_make (T := 182) (E := 21) (size := 1) (bytes := 4) (z := (.int .i32 0)) (l := 0) (c := (t.at 2).l.length) (kl := .i64) (kc := .i64) (by kernel_rfl) (by kernel_rfl) (by simp (maxSteps := 1000000) (disch := (first | omega | (simp only [World.size_alloc, size_wr, size_drew] <;> omega) | exact not_noB _)) only [go_sem, ↓reduceIte, n0, reduceCtorEq, n1, n2, n3, n4, n5, i0, i1, i2, i3, i4, i5, i6, i7]; rfl) (by simp (maxSteps := 1000000) (disch := (first | omega | (simp only [World.size_alloc, size_wr, size_drew] <;> omega) | exact not_noB _)) only [go_sem, ↓reduceIte, n0, reduceCtorEq, n1, n2, n3, n4, n5, i0, i1, i2, i3, i4, i5, i6, i7]) (by omega) (by omega) (by omega) ?_
  simp (maxSteps := 1000000) (disch := (first | omega | (simp only [World.size_alloc, size_wr, size_drew] <;> omega) | exact not_noB _)) only [go_sem, ↓reduceIte, n0, reduceCtorEq, n1, n2, n3, n4, n5, i0, i1, i2, i3, i4, i5, i6, i7, hb7, hvl7, htb7]
  have hszB2 := hsz7
  generalize hw8 : wr (w7.alloc (.cells (madeCells #[.int .i32 0] ((t.at 2).l.length * 1)) 21)) (w.heap.size + 2) 2 [.slice (some ⟨w7.heap.size, 0, none⟩) 0 (t.at 2).l.length] = w8
  have hV8 : Upd (fun b => b = (w.heap.size + 2)) w7 w8 := by rw [← hw8]; exact ((Upd.refl _ _).alloc _).wr _ _ (.inr rfl)
  have hb8 : blk w8 (w.heap.size + 2) = some (#[strV (t.at 0).s, .int .i32 (IntKind.i32.wrap (t.at 1).n), .slice (some ⟨w7.heap.size, 0, none⟩) 0 (t.at 2).l.length, .slice none 0 0, .map none], 185, (0, 0)) := by rw [← hw8, blk_wr_eq, blk_alloc_old hvl7, hb7]; rfl
  have hrow8 : blk w8 w7.heap.size = some (madeCells #[.int .i32 0] ((t.at 2).l.length * 1), 21, (0, 0)) := by rw [← hw8, blk_wr_ne (Nat.ne_of_gt hvl7), blk_alloc_new rfl]
  have hg8 : GrowR (Rep1 (RepS true (d + 1)) fStopReplicaRequestTopic_2.of fStopReplicaRequestTopic_2.sub) 1 (OkF okT w.heap.size w1.heap.size) w7.heap.size (w.heap.size + 2) w8 21 (.slice (some ⟨w7.heap.size, 0, none⟩) 0 (t.at 2).l.length) [] := GrowR.made hrow8 (size_madeCells _ _) (Nat.le_refl _)
  have hU8 : Upd (fun b => b = (w.heap.size + 2)) w1 w8 := hU7.trans hV8
  have htb8 := hU8.blk_some htb1 htv
  have hvl8 : (w.heap.size + 2) < w8.heap.size := Nat.lt_of_lt_of_le hvl1 hU8.size
  have hsz8 := hU8.size
  clear hvl7 hsz7
  clear hw8 hrow8
  repeat ((first | refine W.seqR rfl ?_ | refine W.seq ?_ | refine W.regR rfl ?_ | refine W.condK ?_ | refine W.block ?_ | refine W.skip ?_ | refine W.ret ?_ | refine W.exit ?_); try simp (maxSteps := 1000000) (disch := (first | omega | (simp only [World.size_alloc, size_wr, size_drew] <;> omega) | exact not_noB _)) only [go_sem, ↓reduceIte, n0, reduceCtorEq, n1, n2, n3, n4, n5, i0, i1, i2, i3, i4, i5, i6, i7, hb8, htb8])
  refine (iat_fn (ok := (OkS okT w.heap.size)) t 2 _ _ (ht1.keep (hU8.keeps fun b _ hk e => hoS b hk e)) (by decide) hllt).mono ?_
  rintro r9 w9 ⟨⟨ca9, rfl, hca9⟩, hEa9⟩
  obtain ⟨vSa9, vLa9, vUa9, rfl, hna9, hSa9, hLa9, hUa9⟩ := hca9.inv
  obtain ⟨bSa9, cSa9, rfl, hcSa9⟩ := hSa9.shape
  obtain ⟨bLa9, cLa9, rfl, hcLa9⟩ := SlR.shape hLa9
  have hfU9 := SlR.flat hUa9
  clear hcSa9 hcLa9 hna9
  have hV9 : Upd (fun b => b = (w.heap.size + 2)) w8 w9 := hEa9.mono fun _ h => h.elim
  have hU9 : Upd (fun b => b = (w.heap.size + 2)) w1 w9 := hU8.trans hV9
  have htb9 := hU9.blk_some htb1 htv
  have hvl9 : (w.heap.size + 2) < w9.heap.size := Nat.lt_of_lt_of_le hvl1 hU9.size
  have hsz9 := hU9.size
  clear hvl8 hsz8
  have hb9 : blk w9 (w.heap.size + 2) = some (#[strV (t.at 0).s, .int .i32 (IntKind.i32.wrap (t.at 1).n), .slice (some ⟨w7.heap.size, 0, none⟩) 0 (t.at 2).l.length, .slice none 0 0, .map none], 185, (0, 0)) := hEa9.blk_some hb8 id
  have hg9 := hg8.ext (Rep1_lay _ _ fun _ => RepS_lay true (d + 1) _) hEa9
  simp (maxSteps := 1000000) (disch := (first | omega | (simp only [World.size_alloc, size_wr, size_drew] <;> omega) | exact not_noB _)) only [go_sem, ↓reduceIte, n0, reduceCtorEq, n1, n2, n3, n4, n5, i0, i1, i2, i3, i4, i5, i6, i7, hb9, htb9]
  repeat ((first | refine W.seqR rfl ?_ | refine W.seq ?_ | refine W.regR rfl ?_ | refine W.condK ?_ | refine W.block ?_ | refine W.skip ?_ | refine W.ret ?_ | refine W.exit ?_); try simp (maxSteps := 1000000) (disch := (first | omega | (simp only [World.size_alloc, size_wr, size_drew] <;> omega) | exact not_noB _)) only [go_sem, ↓reduceIte, n0, reduceCtorEq, n1, n2, n3, n4, n5, i0, i1, i2, i3, i4, i5, i6, i7, hb9, htb9])
  have hVb2 : Upd (fun b => b = (w.heap.size + 2)) w7 w9 := hV8.trans hV9
  have hUb2 := hU7
  have hvlB2 : (w.heap.size + 2) < w7.heap.size := Nat.lt_of_lt_of_le hvl1 hszB2
  have hszL2 : w7.heap.size ≤ w9.heap.size := hVb2.size
  refine W.exitJ 0 (fun ρ w' => ∃ v, ρ 1 = .pointer (some ⟨w.heap.size, 0, none⟩) ∧ ρ 2 = .pointer (some ⟨w.heap.size + 1, 0, none⟩) ∧ ρ 3 = .pointer (some ⟨(w.heap.size + 2), 0, none⟩) ∧ blk w' (w.heap.size + 2) = some (#[strV (t.at 0).s, .int .i32 (IntKind.i32.wrap (t.at 1).n), v, .slice none 0 0, .map none], 185, (0, 0)) ∧ GrowR (Rep1 (RepS true (d + 1)) fStopReplicaRequestTopic_2.of fStopReplicaRequestTopic_2.sub) 1 (OkF okT w.heap.size w1.heap.size) w7.heap.size (w.heap.size + 2) w' 21 v (t.at 2).l ∧ v ≠ .slice none 0 0 ∧ Upd (fun b => b = (w.heap.size + 2) ∨ w7.heap.size ≤ b) w9 w')
    (W.loop (fun ρ w' => ∃ (j : Nat) (v : Value), j ≤ (t.at 2).l.length ∧ ρ 34 = .int .i64 j ∧ ρ 33 = .int .i64 (t.at 2).l.length ∧ ρ 32 = .slice bLa9 (t.at 2).l.length cLa9 ∧ ρ 1 = .pointer (some ⟨w.heap.size, 0, none⟩) ∧ ρ 2 = .pointer (some ⟨w.heap.size + 1, 0, none⟩) ∧ ρ 3 = .pointer (some ⟨(w.heap.size + 2), 0, none⟩) ∧ blk w' (w.heap.size + 2) = some (#[strV (t.at 0).s, .int .i32 (IntKind.i32.wrap (t.at 1).n), v, .slice none 0 0, .map none], 185, (0, 0)) ∧ GrowR (Rep1 (RepS true (d + 1)) fStopReplicaRequestTopic_2.of fStopReplicaRequestTopic_2.sub) 1 (OkF okT w.heap.size w1.heap.size) w7.heap.size (w.heap.size + 2) w' 21 v ((t.at 2).l.take j) ∧ v ≠ .slice none 0 0 ∧ Upd (fun b => b = (w.heap.size + 2) ∨ w7.heap.size ≤ b) w9 w')
      (fun ρ _ => (t.at 2).l.length - (RowKit.intOf (ρ 34)).toNat) ?_ ?_) ?_
  · refine ⟨0, _, Nat.zero_le _, ?_, ?_, ?_, ?_, ?_, ?_, hb9, hg9, (by intro h; cases h), Upd.refl _ _⟩ <;> simp (maxSteps := 1000000) (disch := (first | omega | (simp only [World.size_alloc, size_wr, size_drew] <;> omega) | exact not_noB _)) only [go_sem, ↓reduceIte, n0, reduceCtorEq, n1, n2, n3, n4, n5, i0, i1, i2, i3, i4, i5, i6, i7]
    all_goals rfl
  · rintro ρ w_6 ⟨j, v, hj, hI, hN, hS, hr1, hr2, hr3, hbv, hg, hnil, hU_6⟩
    have hz_6 := hU_6.size
    have hJ_6 : Upd (fun b => b = (w.heap.size + 2)) w7 w_6 := hVb2.more hU_6 fun b hb h => h.elim id fun h => absurd h (by omega)
    have hU_16 : Upd (fun b => b = (w.heap.size + 2)) w1 w_6 := hUb2.trans hJ_6
    have hht_6 := hU_16.blk_some htb1 htv
    have hLt_6 := hLa9.keep (hU_6.keeps fun b _ hk e => e.elim (hoS b hk) fun e => by have := hk.2; omega)
    by_cases hlt : j < (t.at 2).l.length
    · obtain ⟨_, b, o, x, vS', vL', vU', hb, hokb, hx, hblt, hxs, hxe, q1, q2, q3, hc⟩ := TreesV.get hLt_6 hlt
      subst hb
      have hbS := (TreeC.inv hc)
      have hcat : (t.at 2).l.take (j + 1) = (t.at 2).l.take j ++ [(t.at 2).l[j]] := List.take_succ_eq_append_getElem hlt
      have hlen_9 : ((t.at 2).l.take j).length = j := by simp; omega
      have hgx := (g2.list rfl).2 _ (List.getElem_mem hlt)
      have hLx := (hLs.at 2).get hlt
      have hnb : ∀ b, b < w7.heap.size ∨ b = w_6.heap.size → ¬ ownB v b := fun b hb h => by
        have := hg.above h
        have := hg.below h
        omega
      generalize (t.at 2).l[j] = y at *
      obtain ⟨vSy, vLy, vUy, hcells, hny, hSy, hLy, hUy⟩ := hbS
      simp only [List.cons.injEq, true_and, and_true] at hcells
      obtain ⟨rfl, rfl, rfl⟩ := hcells
      obtain ⟨bSy, cSy, rfl, hcSy⟩ := hSy.shape
      repeat ((first | refine W.seqR rfl ?_ | refine W.seq ?_ | refine W.regR rfl ?_ | refine W.condK ?_ | refine W.block ?_ | refine W.skip ?_ | refine W.ret ?_ | refine W.exit ?_); try simp (maxSteps := 1000000) (disch := (first | omega | (simp only [World.size_alloc, size_wr, size_drew] <;> omega) | exact not_noB _)) only [go_sem, ↓reduceIte, n0, reduceCtorEq, n1, n2, n3, n4, n5, i0, i1, i2, i3, i4, i5, i6, i7, hI, hN, hS, hx, hxe, q1, q2, q3, cellsAt_five, Int.toNat_natCast])
      generalize hw_7 : (wr (w_6.alloc (.cells #[.int .i64 0, .slice none 0 0, .bool false, .slice none 0 0, .slice none 0 0] 39)) w_6.heap.size 0 [.int .i64 y.n, .slice bSy y.s.length cSy, .bool y.null, vL', vU']) = w_7
      have hE_7 : Ext w_6 w_7 := by rw [← hw_7]; exact (Upd.alloc (Upd.refl _ _) _).wr _ _ (.inl (Nat.le_refl _))
      have hb_7 : blk w_7 w_6.heap.size = some (#[.int .i64 y.n, .slice bSy y.s.length cSy, .bool y.null, vL', vU'], 39, (0, 0)) := by rw [← hw_7]; simp (maxSteps := 1000000) (disch := (first | omega | (simp only [World.size_alloc, size_wr, size_drew] <;> omega) | exact not_noB _)) only [go_sem, ↓reduceIte, n0, reduceCtorEq, n1, n2, n3, n4, n5, i0, i1, i2, i3, i4, i5, i6, i7]
      have hz_7 : w_7.heap.size = w_6.heap.size + 1 := by rw [← hw_7]; simp only [size_wr, World.size_alloc]
      have hbt_7 := hE_7.blk_some hbv id
      have hgv_7 := hE_7.blk_some hht_6 id
      have hc_7 := hc.keep (hE_7.keeps _)
      have hS_7 := hSy.keep (hE_7.keeps _)
      have hg_7 := hg.ext (Rep1_lay _ _ fun _ => RepS_lay true (d + 1) _) hE_7
      clear hw_7
      simp (maxSteps := 1000000) (disch := (first | omega | (simp only [World.size_alloc, size_wr, size_drew] <;> omega) | exact not_noB _)) only [go_sem, ↓reduceIte, n0, reduceCtorEq, n1, n2, n3, n4, n5, i0, i1, i2, i3, i4, i5, i6, i7, hr1, hr2, hr3, hbt_7, hb_7, hgv_7, cellsAt_five]
      have hE_7d : Ext w_7 w_7 := Upd.refl _ _
      have hg_7d := hg_7
      have hzd : w_7.heap.size = w_7.heap.size := rfl
      have hbt_7d := hbt_7
      have hM_9 : Upd (ownB v) w_7 (w_7.alloc (.cells #[.int .i32 (IntKind.i32.wrap y.n)] 21)) := (Upd.refl _ _).alloc _
      have hE_79 : Ext w_7 (w_7.alloc (.cells #[.int .i32 (IntKind.i32.wrap y.n)] 21)) := Upd.alloc (Upd.refl _ _) _
      have hg_9 := hg_7d.ext (Rep1_lay _ _ fun _ => RepS_lay true (d + 1) _) hE_79
      have hx_9 : Rep1 (RepS true (d + 1)) fStopReplicaRequestTopic_2.of fStopReplicaRequestTopic_2.sub (fun b => (OkF okT w.heap.size w1.heap.size) b ∧ b ≠ (w.heap.size + 2) ∧ ¬ ownB v b) (w_7.alloc (.cells #[.int .i32 (IntKind.i32.wrap y.n)] 21)) y [.int .i32 (IntKind.i32.wrap y.n)] := (Rep1_num (by decide)).2 rfl
      obtain ⟨css, hown, hall⟩ := hg_9.ex
      have hcl_9 := hall.1
      refine wp_append ap_182_182 (m := 1) (news := [.int .i32 (IntKind.i32.wrap y.n)]) (n := css.length) (cs := css.flatten) (v := v) ?_ rfl hown.1 (all2_flat_R (Rep1_lay _ _ fun _ => RepS_lay true (d + 1) _) hall) (Src.blk (fr := (0, 0)) (T := 21) (blk_alloc_new (by first | rfl | omega | (simp only [size_drew]; omega))) rfl rfl) ?_ ?_ ?_
      · simp (maxSteps := 1000000) (disch := (first | omega | (simp only [World.size_alloc, size_wr, size_drew] <;> omega) | exact not_noB _)) only [go_sem, ↓reduceIte, n0, reduceCtorEq, n1, n2, n3, n4, n5, i0, i1, i2, i3, i4, i5, i6, i7]
      · simp only [World.size_alloc, size_drew]; omega
      · omega
      intro v' w_10 ho hu hfr
      have hg_10 := GrowR.snoc (Rep1_lay _ _ fun _ => RepS_lay true (d + 1) _) hown hall hx_9 hu hfr ho
      have hz_10 := hu.size
      simp only [World.size_alloc, size_drew] at hz_10
      obtain ⟨va, vc, hv', _⟩ := ho.shape
      subst hv'
      have hbt_10 := (hM_9.trans hu).blk_some hbt_7d (hnb _ (.inl hvlB2))
      have htb' : ¬ ownB (.slice va (css.length + 1) vc) (w.heap.size + 2) := fun h => by
        rcases hfr _ h with h | h
        · exact hnb _ (.inl hvlB2) h
        · simp only [World.size_alloc, size_drew] at h; omega
      simp (maxSteps := 1000000) (disch := (first | omega | (simp only [World.size_alloc, size_wr, size_drew] <;> omega) | exact not_noB _)) only [go_sem, ↓reduceIte, n0, reduceCtorEq, n1, n2, n3, n4, n5, i0, i1, i2, i3, i4, i5, i6, i7, hr1, hr2, hr3, hbt_10]
      repeat ((first | refine W.seqR rfl ?_ | refine W.seq ?_ | refine W.regR rfl ?_ | refine W.condK ?_ | refine W.block ?_ | refine W.skip ?_ | refine W.ret ?_ | refine W.exit ?_); try simp (maxSteps := 1000000) (disch := (first | omega | (simp only [World.size_alloc, size_wr, size_drew] <;> omega) | exact not_noB _)) only [go_sem, ↓reduceIte, n0, reduceCtorEq, n1, n2, n3, n4, n5, i0, i1, i2, i3, i4, i5, i6, i7, hI])
      refine ⟨⟨j + 1, .slice va (css.length + 1) vc, by omega, rfl, hN, hS, hr1, hr2, hr3, ?_, ?_, ?_, ?_⟩, ?_⟩
      · simp (maxSteps := 1000000) (disch := (first | omega | (simp only [World.size_alloc, size_wr, size_drew] <;> omega) | exact not_noB _)) only [go_sem, ↓reduceIte, n0, reduceCtorEq, n1, n2, n3, n4, n5, i0, i1, i2, i3, i4, i5, i6, i7, hbt_10]
      · rw [hcat]; exact hg_10.upd (Rep1_lay _ _ fun _ => RepS_lay true (d + 1) _) ((Upd.refl _ _).wr _ _ (.inr rfl)) htb'
      · intro h; cases h
      · refine Upd.wr ?_ _ _ (.inr (.inl rfl))
        exact hU_6.more (((hE_7.mono fun _ h => h.elim).trans (hE_7d.mono fun _ h => h.elim)).trans (hM_9.trans hu)) fun b hb h => .inr (hg.above h)
      · simp only [RowKit.intOf]; omega
    · have hjl : j = (t.at 2).l.length := by omega
      subst hjl
      rw [List.take_length] at hg
      repeat ((first | refine W.seqR rfl ?_ | refine W.seq ?_ | refine W.regR rfl ?_ | refine W.condK ?_ | refine W.block ?_ | refine W.skip ?_ | refine W.ret ?_ | refine W.exit ?_); try simp (maxSteps := 1000000) (disch := (first | omega | (simp only [World.size_alloc, size_wr, size_drew] <;> omega) | exact not_noB _)) only [go_sem, ↓reduceIte, n0, reduceCtorEq, n1, n2, n3, n4, n5, i0, i1, i2, i3, i4, i5, i6, i7, hI, hN])
      exact ⟨v, hr1, hr2, hr3, hbv, hg, hnil, hU_6⟩
  · rintro ρ w10 ⟨v2, hr1, hr2, hr3, hb10, hg10, hnil2, hK10⟩
    have hV10 : Upd (fun b => b = (w.heap.size + 2)) w7 w10 := hVb2.more hK10 fun b hb h => h.elim id fun h => absurd h (by omega)
    have hU10 : Upd (fun b => b = (w.heap.size + 2)) w1 w10 := hU7.trans hV10
    have htb10 := hU10.blk_some htb1 htv
    have hvl10 : (w.heap.size + 2) < w10.heap.size := Nat.lt_of_lt_of_le hvl1 hU10.size
    have hsz10 := hU10.size
    clear hvl9 hsz9
    obtain ⟨al2, kl2, rfl, _⟩ := hg10.shape
    have hf2 : RepF (RepS true (d + 1)) (szS true (d + 1)) fStopReplicaRequestTopic_2 (OkF okT w.heap.size w1.heap.size) w10 (t.at 2) [.slice al2 (t.at 2).l.length kl2] := (RepF_list rfl hn0_2).2 ⟨_, rfl, hg10.sl (Rep1_lay _ _ fun _ => RepS_lay true (d + 1) _) (fun _ _ h => h) (fun b hb => .inr (by omega)), hg10.some hnil2⟩
    have hn0_3 : (t.at 3).null = false := g3.notnull (by decide)
    have hll3 := (g3.list rfl).1
    repeat ((first | refine W.seqR rfl ?_ | refine W.seq ?_ | refine W.regR rfl ?_ | refine W.condK ?_ | refine W.block ?_ | refine W.skip ?_ | refine W.ret ?_ | refine W.exit ?_); try simp (maxSteps := 1000000) (disch := (first | omega | (simp only [World.size_alloc, size_wr, size_drew] <;> omega) | exact not_noB _)) only [go_sem, ↓reduceIte, n0, reduceCtorEq, n1, n2, n3, n4, n5, i0, i1, i2, i3, i4, i5, i6, i7, hb10, htb10, hr1, hr2, hr3])
    refine (iat_fn (ok := (OkS okT w.heap.size)) t 3 _ _ (ht1.keep (hU10.keeps fun b _ hk e => hoS b hk e)) (by decide) hllt).mono ?_
    rintro r11 w11 ⟨⟨ca11, rfl, hca11⟩, hEa11⟩
    obtain ⟨vSa11, vLa11, vUa11, rfl, hna11, hSa11, hLa11, hUa11⟩ := hca11.inv
    obtain ⟨bSa11, cSa11, rfl, hcSa11⟩ := hSa11.shape
    obtain ⟨bLa11, cLa11, rfl, hcLa11⟩ := SlR.shape hLa11
    have hfU11 := SlR.flat hUa11
    clear hcSa11 hcLa11 hna11
    have hV11 : Upd (fun b => b = (w.heap.size + 2)) w10 w11 := hEa11.mono fun _ h => h.elim
    have hU11 : Upd (fun b => b = (w.heap.size + 2)) w1 w11 := hU10.trans hV11
    have htb11 := hU11.blk_some htb1 htv
    have hvl11 : (w.heap.size + 2) < w11.heap.size := Nat.lt_of_lt_of_le hvl1 hU11.size
    have hsz11 := hU11.size
    clear hvl10 hsz10
    have hb11 : blk w11 (w.heap.size + 2) = some (#[strV (t.at 0).s, .int .i32 (IntKind.i32.wrap (t.at 1).n), .slice al2 (t.at 2).l.length kl2, .slice none 0 0, .map none], 185, (0, 0)) := hEa11.blk_some hb10 id
    simp (maxSteps := 1000000) (disch := (first | omega | (simp only [World.size_alloc, size_wr, size_drew] <;> omega) | exact not_noB _)) only [go_sem, ↓reduceIte, n0, reduceCtorEq, n1, n2, n3, n4, n5, i0, i1, i2, i3, i4, i5, i6, i7, hn0_3, hb11, htb11, hr1, hr2, hr3]
    repeat ((first | refine W.seqR rfl ?_ | refine W.seq ?_ | refine W.regR rfl ?_ | refine W.condK ?_ | refine W.block ?_ | refine W.skip ?_ | refine W.ret ?_ | refine W.exit ?_); try simp (maxSteps := 1000000) (disch := (first | omega | (simp only [World.size_alloc, size_wr, size_drew] <;> omega) | exact not_noB _)) only [go_sem, ↓reduceIte, n0, reduceCtorEq, n1, n2, n3, n4, n5, i0, i1, i2, i3, i4, i5, i6, i7, hb11, htb11, hr1, hr2, hr3])
    refine (iat_fn (ok := (OkS okT w.heap.size)) t 3 _ _ (ht1.keep (hU11.keeps fun b _ hk e => hoS b hk e)) (by decide) hllt).mono ?_
    rintro r12 w12 ⟨⟨ca12, rfl, hca12⟩, hEa12⟩
    obtain ⟨vSa12, vLa12, vUa12, rfl, hna12, hSa12, hLa12, hUa12⟩ := hca12.inv
    obtain ⟨bSa12, cSa12, rfl, hcSa12⟩ := hSa12.shape
    obtain ⟨bLa12, cLa12, rfl, hcLa12⟩ := SlR.shape hLa12
    have hfU12 := SlR.flat hUa12
    clear hcSa12 hcLa12 hna12
    have hV12 : Upd (fun b => b = (w.heap.size + 2)) w11 w12 := hEa12.mono fun _ h => h.elim
    have hU12 : Upd (fun b => b = (w.heap.size + 2)) w1 w12 := hU11.trans hV12
    have htb12 := hU12.blk_some htb1 htv
    have hvl12 : (w.heap.size + 2) < w12.heap.size := Nat.lt_of_lt_of_le hvl1 hU12.size
    have hsz12 := hU12.size
    clear hvl11 hsz11
    have hb12 : blk w12 (w.heap.size + 2) = some (#[strV (t.at 0).s, .int .i32 (IntKind.i32.wrap (t.at 1).n), .slice al2 (t.at 2).l.length kl2, .slice none 0 0, .map none], 185, (0, 0)) := hEa12.blk_some hb11 id
    simp (maxSteps := 1000000) (disch := (first | omega | (simp only [World.size_alloc, size_wr, size_drew] <;> omega) | exact not_noB _)) only [go_sem, ↓reduceIte, n0, reduceCtorEq, n1, n2, n3, n4, n5, i0, i1, i2, i3, i4, i5, i6, i7, hb12, htb12, hr1, hr2, hr3]
    refine wp_make (T := 183) (E := 191) (size := 4) (bytes := 24) (z := (.agg #[.int .i32 0, .int .i32 0, .bool false, .map none])) (l := 0) (c := (t.at 3).l.length) (kl := .i64) (kc := .i64) (by kernel_rfl) (by kernel_rfl) (by simp (maxSteps := 1000000) (disch := (first | omega | (simp only [World.size_alloc, size_wr, size_drew] <;> omega) | exact not_noB _)) only [go_sem, ↓reduceIte, n0, reduceCtorEq, n1, n2, n3, n4, n5, i0, i1, i2, i3, i4, i5, i6, i7]; rfl) (by simp (maxSteps := 1000000) (disch := (first | omega | (simp only [World.size_alloc, size_wr, size_drew] <;> omega) | exact not_noB _)) only [go_sem, ↓reduceIte, n0, reduceCtorEq, n1, n2, n3, n4, n5, i0, i1, i2, i3, i4, i5, i6, i7]) (by omega) (by omega) (by omega) ?_
    simp (maxSteps := 1000000) (disch := (first | omega | (simp only [World.size_alloc, size_wr, size_drew] <;> omega) | exact not_noB _)) only [go_sem, ↓reduceIte, n0, reduceCtorEq, n1, n2, n3, n4, n5, i0, i1, i2, i3, i4, i5, i6, i7, hb12, hvl12, htb12, hr1, hr2, hr3]
    have hszB3 := hsz12
    generalize hw13 : wr (w12.alloc (.cells (madeCells #[.int .i32 0, .int .i32 0, .bool false, .map none] ((t.at 3).l.length * 4)) 191)) (w.heap.size + 2) 3 [.slice (some ⟨w12.heap.size, 0, none⟩) 0 (t.at 3).l.length] = w13
    have hV13 : Upd (fun b => b = (w.heap.size + 2)) w12 w13 := by rw [← hw13]; exact ((Upd.refl _ _).alloc _).wr _ _ (.inr rfl)
    have hb13 : blk w13 (w.heap.size + 2) = some (#[strV (t.at 0).s, .int .i32 (IntKind.i32.wrap (t.at 1).n), .slice al2 (t.at 2).l.length kl2, .slice (some ⟨w12.heap.size, 0, none⟩) 0 (t.at 3).l.length, .map none], 185, (0, 0)) := by rw [← hw13, blk_wr_eq, blk_alloc_old hvl12, hb12]; rfl
    have hrow13 : blk w13 w12.heap.size = some (madeCells #[.int .i32 0, .int .i32 0, .bool false, .map none] ((t.at 3).l.length * 4), 191, (0, 0)) := by rw [← hw13, blk_wr_ne (Nat.ne_of_gt hvl12), blk_alloc_new rfl]
    have hg13 : GrowR (Rep1 (RepS true (d + 1)) fStopReplicaRequestTopic_3.of fStopReplicaRequestTopic_3.sub) 4 (OkF okT w.heap.size w1.heap.size) w12.heap.size (w.heap.size + 2) w13 191 (.slice (some ⟨w12.heap.size, 0, none⟩) 0 (t.at 3).l.length) [] := GrowR.made hrow13 (size_madeCells _ _) (Nat.le_refl _)
    have hU13 : Upd (fun b => b = (w.heap.size + 2)) w1 w13 := hU12.trans hV13
    have htb13 := hU13.blk_some htb1 htv
    have hvl13 : (w.heap.size + 2) < w13.heap.size := Nat.lt_of_lt_of_le hvl1 hU13.size
    have hsz13 := hU13.size
    clear hvl12 hsz12
    clear hw13 hrow13
    repeat ((first | refine W.seqR rfl ?_ | refine W.seq ?_ | refine W.regR rfl ?_ | refine W.condK ?_ | refine W.block ?_ | refine W.skip ?_ | refine W.ret ?_ | refine W.exit ?_); try simp (maxSteps := 1000000) (disch := (first | omega | (simp only [World.size_alloc, size_wr, size_drew] <;> omega) | exact not_noB _)) only [go_sem, ↓reduceIte, n0, reduceCtorEq, n1, n2, n3, n4, n5, i0, i1, i2, i3, i4, i5, i6, i7, hb13, htb13, hr1, hr2, hr3])
    refine (iat_fn (ok := (OkS okT w.heap.size)) t 3 _ _ (ht1.keep (hU13.keeps fun b _ hk e => hoS b hk e)) (by decide) hllt).mono ?_
    rintro r14 w14 ⟨⟨ca14, rfl, hca14⟩, hEa14⟩
    obtain ⟨vSa14, vLa14, vUa14, rfl, hna14, hSa14, hLa14, hUa14⟩ := hca14.inv
    obtain ⟨bSa14, cSa14, rfl, hcSa14⟩ := hSa14.shape
    obtain ⟨bLa14, cLa14, rfl, hcLa14⟩ := SlR.shape hLa14
    have hfU14 := SlR.flat hUa14
    clear hcSa14 hcLa14 hna14
    have hV14 : Upd (fun b => b = (w.heap.size + 2)) w13 w14 := hEa14.mono fun _ h => h.elim
    have hU14 : Upd (fun b => b = (w.heap.size + 2)) w1 w14 := hU13.trans hV14
    have htb14 := hU14.blk_some htb1 htv
    have hvl14 : (w.heap.size + 2) < w14.heap.size := Nat.lt_of_lt_of_le hvl1 hU14.size
    have hsz14 := hU14.size
    clear hvl13 hsz13
    have hb14 : blk w14 (w.heap.size + 2) = some (#[strV (t.at 0).s, .int .i32 (IntKind.i32.wrap (t.at 1).n), .slice al2 (t.at 2).l.length kl2, .slice (some ⟨w12.heap.size, 0, none⟩) 0 (t.at 3).l.length, .map none], 185, (0, 0)) := hEa14.blk_some hb13 id
    have hg14 := hg13.ext (Rep1_lay _ _ fun _ => RepS_lay true (d + 1) _) hEa14
    simp (maxSteps := 1000000) (disch := (first | omega | (simp only [World.size_alloc, size_wr, size_drew] <;> omega) | exact not_noB _)) only [go_sem, ↓reduceIte, n0, reduceCtorEq, n1, n2, n3, n4, n5, i0, i1, i2, i3, i4, i5, i6, i7, hb14, htb14, hr1, hr2, hr3]
    repeat ((first | refine W.seqR rfl ?_ | refine W.seq ?_ | refine W.regR rfl ?_ | refine W.condK ?_ | refine W.block ?_ | refine W.skip ?_ | refine W.ret ?_ | refine W.exit ?_); try simp (maxSteps := 1000000) (disch := (first | omega | (simp only [World.size_alloc, size_wr, size_drew] <;> omega) | exact not_noB _)) only [go_sem, ↓reduceIte, n0, reduceCtorEq, n1, n2, n3, n4, n5, i0, i1, i2, i3, i4, i5, i6, i7, hb14, htb14, hr1, hr2, hr3])
    have hVb3 : Upd (fun b => b = (w.heap.size + 2)) w12 w14 := hV13.trans hV14
    have hUb3 := hU12
    have hvlB3 : (w.heap.size + 2) < w12.heap.size := Nat.lt_of_lt_of_le hvl1 hszB3
    have hszL3 : w12.heap.size ≤ w14.heap.size := hVb3.size
    refine W.exitJ 2 (fun ρ w' => ∃ v, ρ 1 = .pointer (some ⟨w.heap.size, 0, none⟩) ∧ ρ 2 = .pointer (some ⟨w.heap.size + 1, 0, none⟩) ∧ ρ 3 = .pointer (some ⟨(w.heap.size + 2), 0, none⟩) ∧ blk w' (w.heap.size + 2) = some (#[strV (t.at 0).s, .int .i32 (IntKind.i32.wrap (t.at 1).n), .slice al2 (t.at 2).l.length kl2, v, .map none], 185, (0, 0)) ∧ GrowR (Rep1 (RepS true (d + 1)) fStopReplicaRequestTopic_3.of fStopReplicaRequestTopic_3.sub) 4 (OkF okT w.heap.size w1.heap.size) w12.heap.size (w.heap.size + 2) w' 191 v (t.at 3).l ∧ v ≠ .slice none 0 0 ∧ Upd (fun b => b = (w.heap.size + 2) ∨ w12.heap.size ≤ b) w14 w')
      (W.loop (fun ρ w' => ∃ (j : Nat) (v : Value), j ≤ (t.at 3).l.length ∧ ρ 61 = .int .i64 j ∧ ρ 60 = .int .i64 (t.at 3).l.length ∧ ρ 59 = .slice bLa14 (t.at 3).l.length cLa14 ∧ ρ 1 = .pointer (some ⟨w.heap.size, 0, none⟩) ∧ ρ 2 = .pointer (some ⟨w.heap.size + 1, 0, none⟩) ∧ ρ 3 = .pointer (some ⟨(w.heap.size + 2), 0, none⟩) ∧ blk w' (w.heap.size + 2) = some (#[strV (t.at 0).s, .int .i32 (IntKind.i32.wrap (t.at 1).n), .slice al2 (t.at 2).l.length kl2, v, .map none], 185, (0, 0)) ∧ GrowR (Rep1 (RepS true (d + 1)) fStopReplicaRequestTopic_3.of fStopReplicaRequestTopic_3.sub) 4 (OkF okT w.heap.size w1.heap.size) w12.heap.size (w.heap.size + 2) w' 191 v ((t.at 3).l.take j) ∧ v ≠ .slice none 0 0 ∧ Upd (fun b => b = (w.heap.size + 2) ∨ w12.heap.size ≤ b) w14 w')
        (fun ρ _ => (t.at 3).l.length - (RowKit.intOf (ρ 61)).toNat) ?_ ?_) ?_
    · refine ⟨0, _, Nat.zero_le _, ?_, ?_, ?_, ?_, ?_, ?_, hb14, hg14, (by intro h; cases h), Upd.refl _ _⟩ <;> simp (maxSteps := 1000000) (disch := (first | omega | (simp only [World.size_alloc, size_wr, size_drew] <;> omega) | exact not_noB _)) only [go_sem, ↓reduceIte, n0, reduceCtorEq, n1, n2, n3, n4, n5, i0, i1, i2, i3, i4, i5, i6, i7, hr1, hr2, hr3]
      all_goals rfl
    · rintro ρ w_6 ⟨j, v, hj, hI, hN, hS, hr1, hr2, hr3, hbv, hg, hnil, hU_6⟩
      have hz_6 := hU_6.size
      have hJ_6 : Upd (fun b => b = (w.heap.size + 2)) w12 w_6 := hVb3.more hU_6 fun b hb h => h.elim id fun h => absurd h (by omega)
      have hU_16 : Upd (fun b => b = (w.heap.size + 2)) w1 w_6 := hUb3.trans hJ_6
      have hht_6 := hU_16.blk_some htb1 htv
      have hLt_6 := hLa14.keep (hU_6.keeps fun b _ hk e => e.elim (hoS b hk) fun e => by have := hk.2; omega)
      by_cases hlt : j < (t.at 3).l.length
      · obtain ⟨_, b, o, x, vS', vL', vU', hb, hokb, hx, hblt, hxs, hxe, q1, q2, q3, hc⟩ := TreesV.get hLt_6 hlt
        subst hb
        have hbS := (TreeC.inv hc)
        have hcat : (t.at 3).l.take (j + 1) = (t.at 3).l.take j ++ [(t.at 3).l[j]] := List.take_succ_eq_append_getElem hlt
        have hlen_9 : ((t.at 3).l.take j).length = j := by simp; omega
        have hgx := (g3.list rfl).2 _ (List.getElem_mem hlt)
        have hLx := (hLs.at 3).get hlt
        have hnb : ∀ b, b < w12.heap.size ∨ b = w_6.heap.size → ¬ ownB v b := fun b hb h => by
          have := hg.above h
          have := hg.below h
          omega
        generalize (t.at 3).l[j] = y at *
        obtain ⟨vSy, vLy, vUy, hcells, hny, hSy, hLy, hUy⟩ := hbS
        simp only [List.cons.injEq, true_and, and_true] at hcells
        obtain ⟨rfl, rfl, rfl⟩ := hcells
        obtain ⟨bSy, cSy, rfl, hcSy⟩ := hSy.shape
        repeat ((first | refine W.seqR rfl ?_ | refine W.seq ?_ | refine W.regR rfl ?_ | refine W.condK ?_ | refine W.block ?_ | refine W.skip ?_ | refine W.ret ?_ | refine W.exit ?_); try simp (maxSteps := 1000000) (disch := (first | omega | (simp only [World.size_alloc, size_wr, size_drew] <;> omega) | exact not_noB _)) only [go_sem, ↓reduceIte, n0, reduceCtorEq, n1, n2, n3, n4, n5, i0, i1, i2, i3, i4, i5, i6, i7, hI, hN, hS, hx, hxe, q1, q2, q3, cellsAt_five, Int.toNat_natCast])
        generalize hw_7 : (wr (w_6.alloc (.cells #[.int .i64 0, .slice none 0 0, .bool false, .slice none 0 0, .slice none 0 0] 39)) w_6.heap.size 0 [.int .i64 y.n, .slice bSy y.s.length cSy, .bool y.null, vL', vU']) = w_7
        have hE_7 : Ext w_6 w_7 := by rw [← hw_7]; exact (Upd.alloc (Upd.refl _ _) _).wr _ _ (.inl (Nat.le_refl _))
        have hb_7 : blk w_7 w_6.heap.size = some (#[.int .i64 y.n, .slice bSy y.s.length cSy, .bool y.null, vL', vU'], 39, (0, 0)) := by rw [← hw_7]; simp (maxSteps := 1000000) (disch := (first | omega | (simp only [World.size_alloc, size_wr, size_drew] <;> omega) | exact not_noB _)) only [go_sem, ↓reduceIte, n0, reduceCtorEq, n1, n2, n3, n4, n5, i0, i1, i2, i3, i4, i5, i6, i7]
        have hz_7 : w_7.heap.size = w_6.heap.size + 1 := by rw [← hw_7]; simp only [size_wr, World.size_alloc]
        have hbt_7 := hE_7.blk_some hbv id
        have hgv_7 := hE_7.blk_some hht_6 id
        have hc_7 := hc.keep (hE_7.keeps _)
        have hS_7 := hSy.keep (hE_7.keeps _)
        have hg_7 := hg.ext (Rep1_lay _ _ fun _ => RepS_lay true (d + 1) _) hE_7
        clear hw_7
        refine W.drawR (.take 0 (.take 1 (.take 2 (.only 3 (.only 4 (.only 5 (.take 6 (.last 7)))))))) (ownB v) mixed (by kernel_rfl) ?_
        simp (maxSteps := 1000000) (disch := (first | omega | (simp only [World.size_alloc, size_wr, size_drew] <;> omega) | exact not_noB _ | (refine hnb _ ?_; first | omega | (simp only [World.size_alloc, size_wr, size_drew] <;> omega)))) only [go_sem, ↓reduceIte, n0, reduceCtorEq, n1, n2, n3, n4, n5, i0, i1, i2, i3, i4, i5, i6, i7, hr1, hr2, hr3, hbt_7, hb_7, hgv_7, cellsAt_five]
        have hE_7d : Ext w_7 w_7.drew := (Upd.refl _ _).drew
        have hg_7d := hg_7.ext (Rep1_lay _ _ fun _ => RepS_lay true (d + 1) _) hE_7d
        have hzd : w_7.drew.heap.size = w_7.heap.size := size_drew _
        have hbt_7d := hE_7d.blk_some hbt_7 id
        refine (makeStopReplicaRequestTopicPartitionState_fn (d := d) (okT := (OkS okT w.heap.size)) (V := V) y _ w_7.drew (hc_7.keep (hE_7d.keeps _)) (hgx.2.2 rfl) hLx).mono ?_
        rintro r8 w_8 ⟨⟨cs8, rfl, hc_8⟩, hE_8⟩
        obtain ⟨hfl_8, hcl_8⟩ := (RepS_lay true (d + 1) fs_StopReplicaRequestTopicPartitionState).flat hc_8
        obtain ⟨y0, y1, y2, y3, rfl⟩ : ∃ y0 y1 y2 y3, cs8 = [y0, y1, y2, y3] := by
          have hcl_8' : cs8.length = 4 := hcl_8
          match cs8, hcl_8' with
          | [y0, y1, y2, y3], _ => exact ⟨y0, y1, y2, y3, rfl⟩
        simp only [List.all_cons, List.all_nil, Bool.and_true, Bool.and_eq_true] at hfl_8
        obtain ⟨fy0, fy1, fy2, fy3⟩ := hfl_8
        have hz_8 := hE_8.size
        have hM_8 : Upd (ownB v) w_7.drew w_8 := hE_8.mono (fun _ h => h.elim)
        refine ⟨hM_8, ?_⟩
        have hE_9 : Ext w_8 (w_8.alloc (.cells #[y0, y1, y2, y3] 191)) := Upd.alloc (Upd.refl _ _) _
        have hM_9 : Upd (ownB v) w_7.drew (w_8.alloc (.cells #[y0, y1, y2, y3] 191)) := hM_8.alloc _
        simp (maxSteps := 1000000) (disch := (first | omega | (simp only [World.size_alloc, size_wr, size_drew] <;> omega) | exact not_noB _)) only [go_sem, ↓reduceIte, n0, reduceCtorEq, n1, n2, n3, n4, n5, i0, i1, i2, i3, i4, i5, i6, i7, hr1, hr2, hr3, hbt_7d, fy0, fy1, fy2, fy3]
        refine ⟨hM_9, ?_⟩
        have hE_79 : Ext w_7.drew (w_8.alloc (.cells #[y0, y1, y2, y3] 191)) := hE_8.trans hE_9
        have hg_9 := (hg_7d.ext (Rep1_lay _ _ fun _ => RepS_lay true (d + 1) _) hE_8).ext (Rep1_lay _ _ fun _ => RepS_lay true (d + 1) _) hE_9
        have hx_9 : Rep1 (RepS true (d + 1)) fStopReplicaRequestTopic_3.of fStopReplicaRequestTopic_3.sub (fun b => (OkF okT w.heap.size w1.heap.size) b ∧ b ≠ (w.heap.size + 2) ∧ ¬ ownB v b) (w_8.alloc (.cells #[y0, y1, y2, y3] 191)) y [y0, y1, y2, y3] :=
          Rep1_part.2 (((RepS_lay true (d + 1) fs_StopReplicaRequestTopicPartitionState).keep hc_8 (hE_9.keeps _)) |> fun h => (RepS_lay true (d + 1) fs_StopReplicaRequestTopicPartitionState).weaken h fun b _ hk => by
            rcases hk with hk | hk
            · exact ⟨.inl hk, hoS b hk, fun h => by have := hg.above h; have := hk.2; omega⟩
            · exact ⟨.inr (by omega), by omega, fun h => by have := hg.below h; omega⟩)
        obtain ⟨css, hown, hall⟩ := hg_9.ex
        have hcl_9 := hall.1
        refine wp_append ap_183_183 (m := 1) (news := [y0, y1, y2, y3]) (n := css.length) (cs := css.flatten) (v := v) ?_ rfl hown.1 (all2_flat_R (Rep1_lay _ _ fun _ => RepS_lay true (d + 1) _) hall) (Src.blk (fr := (0, 0)) (T := 191) (blk_alloc_new (by first | rfl | omega | (simp only [size_drew]; omega))) rfl (by simp only [List.all_cons, List.all_nil, Bool.and_true, Bool.and_eq_true]; exact ⟨fy0, fy1, fy2, fy3⟩)) ?_ ?_ ?_
        · simp (maxSteps := 1000000) (disch := (first | omega | (simp only [World.size_alloc, size_wr, size_drew] <;> omega) | exact not_noB _)) only [go_sem, ↓reduceIte, n0, reduceCtorEq, n1, n2, n3, n4, n5, i0, i1, i2, i3, i4, i5, i6, i7]
        · simp only [World.size_alloc, size_drew]; omega
        · omega
        intro v' w_10 ho hu hfr
        have hg_10 := GrowR.snoc (Rep1_lay _ _ fun _ => RepS_lay true (d + 1) _) hown hall hx_9 hu hfr ho
        have hz_10 := hu.size
        simp only [World.size_alloc, size_drew] at hz_10
        obtain ⟨va, vc, hv', _⟩ := ho.shape
        subst hv'
        have hbt_10 := (hM_9.trans hu).blk_some hbt_7d (hnb _ (.inl hvlB3))
        have htb' : ¬ ownB (.slice va (css.length + 1) vc) (w.heap.size + 2) := fun h => by
          rcases hfr _ h with h | h
          · exact hnb _ (.inl hvlB3) h
          · simp only [World.size_alloc, size_drew] at h; omega
        simp (maxSteps := 1000000) (disch := (first | omega | (simp only [World.size_alloc, size_wr, size_drew] <;> omega) | exact not_noB _)) only [go_sem, ↓reduceIte, n0, reduceCtorEq, n1, n2, n3, n4, n5, i0, i1, i2, i3, i4, i5, i6, i7]
        refine ⟨hM_9.trans hu, ?_⟩
        simp (maxSteps := 1000000) (disch := (first | omega | (simp only [World.size_alloc, size_wr, size_drew] <;> omega) | exact not_noB _)) only [go_sem, ↓reduceIte, n0, reduceCtorEq, n1, n2, n3, n4, n5, i0, i1, i2, i3, i4, i5, i6, i7, hr1, hr2, hr3, hbt_10]
        repeat ((first | refine W.seqR rfl ?_ | refine W.seq ?_ | refine W.regR rfl ?_ | refine W.condK ?_ | refine W.block ?_ | refine W.skip ?_ | refine W.ret ?_ | refine W.exit ?_); try simp (maxSteps := 1000000) (disch := (first | omega | (simp only [World.size_alloc, size_wr, size_drew] <;> omega) | exact not_noB _)) only [go_sem, ↓reduceIte, n0, reduceCtorEq, n1, n2, n3, n4, n5, i0, i1, i2, i3, i4, i5, i6, i7, hI])
        refine ⟨⟨j + 1, .slice va (css.length + 1) vc, by omega, rfl, hN, hS, hr1, hr2, hr3, ?_, ?_, ?_, ?_⟩, ?_⟩
        · simp (maxSteps := 1000000) (disch := (first | omega | (simp only [World.size_alloc, size_wr, size_drew] <;> omega) | exact not_noB _)) only [go_sem, ↓reduceIte, n0, reduceCtorEq, n1, n2, n3, n4, n5, i0, i1, i2, i3, i4, i5, i6, i7, hbt_10]
        · rw [hcat]; exact hg_10.upd (Rep1_lay _ _ fun _ => RepS_lay true (d + 1) _) ((Upd.refl _ _).wr _ _ (.inr rfl)) htb'
        · intro h; cases h
        · refine Upd.wr ?_ _ _ (.inr (.inl rfl))
          exact hU_6.more (((hE_7.mono fun _ h => h.elim).trans (hE_7d.mono fun _ h => h.elim)).trans (hM_9.trans hu)) fun b hb h => .inr (hg.above h)
        · simp only [RowKit.intOf]; omega
      · have hjl : j = (t.at 3).l.length := by omega
        subst hjl
        rw [List.take_length] at hg
        repeat ((first | refine W.seqR rfl ?_ | refine W.seq ?_ | refine W.regR rfl ?_ | refine W.condK ?_ | refine W.block ?_ | refine W.skip ?_ | refine W.ret ?_ | refine W.exit ?_); try simp (maxSteps := 1000000) (disch := (first | omega | (simp only [World.size_alloc, size_wr, size_drew] <;> omega) | exact not_noB _)) only [go_sem, ↓reduceIte, n0, reduceCtorEq, n1, n2, n3, n4, n5, i0, i1, i2, i3, i4, i5, i6, i7, hI, hN])
        exact ⟨v, hr1, hr2, hr3, hbv, hg, hnil, hU_6⟩
    · rintro ρ w15 ⟨v3, hr1, hr2, hr3, hb15, hg15, hnil3, hK15⟩
      have hV15 : Upd (fun b => b = (w.heap.size + 2)) w12 w15 := hVb3.more hK15 fun b hb h => h.elim id fun h => absurd h (by omega)
      have hU15 : Upd (fun b => b = (w.heap.size + 2)) w1 w15 := hU12.trans hV15
      have htb15 := hU15.blk_some htb1 htv
      have hvl15 : (w.heap.size + 2) < w15.heap.size := Nat.lt_of_lt_of_le hvl1 hU15.size
      have hsz15 := hU15.size
      clear hvl14 hsz14
      obtain ⟨al3, kl3, rfl, _⟩ := hg15.shape
      have hf3 : RepF (RepS true (d + 1)) (szS true (d + 1)) fStopReplicaRequestTopic_3 (OkF okT w.heap.size w1.heap.size) w15 (t.at 3) [.slice al3 (t.at 3).l.length kl3] := (RepF_list rfl hn0_3).2 ⟨_, rfl, hg15.sl (Rep1_lay _ _ fun _ => RepS_lay true (d + 1) _) (fun _ _ h => h) (fun b hb => .inr (by omega)), hg15.some hnil3⟩
      repeat ((first | refine W.seqR rfl ?_ | refine W.seq ?_ | refine W.regR rfl ?_ | refine W.condK ?_ | refine W.block ?_ | refine W.skip ?_ | refine W.ret ?_ | refine W.exit ?_); try simp (maxSteps := 1000000) (disch := (first | omega | (simp only [World.size_alloc, size_wr, size_drew] <;> omega) | exact not_noB _)) only [go_sem, ↓reduceIte, n0, reduceCtorEq, n1, n2, n3, n4, n5, i0, i1, i2, i3, i4, i5, i6, i7, hb15, htb15, hr1, hr2, hr3])
      have hUv := hU1v.keep (hU15.keeps fun b _ hk e => hoS b hk e)
      refine W.loop (fun ρ w' => ∃ (j : Nat) (q : Option Nat), j ≤ t.u.length ∧ ρ 76 = .int .i64 j ∧ ρ 75 = .int .i64 t.u.length ∧ ρ 74 = .slice bU t.u.length cU ∧ ρ 1 = .pointer (some ⟨w.heap.size, 0, none⟩) ∧ ρ 2 = .pointer (some ⟨w.heap.size + 1, 0, none⟩) ∧ ρ 3 = .pointer (some ⟨(w.heap.size + 2), 0, none⟩) ∧ blk w' (w.heap.size + 2) = some (#[strV (t.at 0).s, .int .i32 (IntKind.i32.wrap (t.at 1).n), .slice al2 (t.at 2).l.length kl2, .slice al3 (t.at 3).l.length kl3, .map q], 185, (0, 0)) ∧ TagsG (OkS okT w.heap.size) w15.heap.size w' (.map q) (t.u.take j) ∧ Upd (fun b => b = (w.heap.size + 2)) w15 w')
          (fun ρ _ => t.u.length - (RowKit.intOf (ρ 76)).toNat) ?_ ?_
      · refine ⟨0, none, Nat.zero_le _, ?_, ?_, ?_, ?_, ?_, ?_, hb15, TagsG.start _ _ _, Upd.refl _ _⟩ <;> simp (maxSteps := 1000000) (disch := (first | omega | (simp only [World.size_alloc, size_wr, size_drew] <;> omega) | exact not_noB _)) only [go_sem, ↓reduceIte, n0, reduceCtorEq, n1, n2, n3, n4, n5, i0, i1, i2, i3, i4, i5, i6, i7, hr1, hr2, hr3]
        all_goals rfl
      · rintro ρ w_6 ⟨j, q, hj, hI, hN, hS, hr1, hr2, hr3, hbv, hG, hU_6⟩
        have hz_6 := hU_6.size
        have hUv_6 := hUv.keep (hU_6.keeps fun b _ hk e => hoS b hk e)
        have hU_16 : Upd (fun b => b = (w.heap.size + 2)) w1 w_6 := hU15.trans hU_6
        have hz_16 := hU_16.size
        by_cases hlt : j < t.u.length
        · obtain ⟨_, b, o, x, vv, hb, hokb, hx, hblt, hxs, hxe, _, _, hfv, hbvv, h32⟩ := TagsV.get hUv_6 hlt
          subst hb
          have hcat : t.u.take (j + 1) = t.u.take j ++ [t.u[j]] := List.take_succ_eq_append_getElem hlt
          have hnew : ∀ z ∈ t.u.take j, z.1 ≠ t.u[j].1 := by
            intro z hz
            obtain ⟨k, hk, rfl⟩ := List.getElem_of_mem hz
            simp only [List.length_take] at hk
            have := List.pairwise_iff_getElem.1 hfu.2.2 k j (by omega) hlt (by omega)
            rw [List.getElem_take]; omega
          generalize t.u[j] = y at *
          obtain ⟨bSy, cSy, rfl, hcSy⟩ := hbvv.shape
          repeat ((first | refine W.seqR rfl ?_ | refine W.seq ?_ | refine W.regR rfl ?_ | refine W.condK ?_ | refine W.block ?_ | refine W.skip ?_ | refine W.ret ?_ | refine W.exit ?_); try simp (maxSteps := 1000000) (disch := (first | omega | (simp only [World.size_alloc, size_wr, size_drew] <;> omega) | exact not_noB _)) only [go_sem, ↓reduceIte, n0, reduceCtorEq, n1, n2, n3, n4, n5, i0, i1, i2, i3, i4, i5, i6, i7, hI, hN, hS, hx, hxe, hfv, cellsAt_two, Int.toNat_natCast])
          generalize hw_7 : (wr (w_6.alloc (.cells #[.int .u32 0, .slice none 0 0] 64)) w_6.heap.size 0 [.int .u32 y.1, .slice bSy y.2.length cSy]) = w_7
          have hE_7 : Ext w_6 w_7 := by rw [← hw_7]; exact (Upd.alloc (Upd.refl _ _) _).wr _ _ (.inl (Nat.le_refl _))
          have hb_7 : blk w_7 w_6.heap.size = some (#[.int .u32 y.1, .slice bSy y.2.length cSy], 64, (0, 0)) := by rw [← hw_7]; simp (maxSteps := 1000000) (disch := (first | omega | (simp only [World.size_alloc, size_wr, size_drew] <;> omega) | exact not_noB _)) only [go_sem, ↓reduceIte, n0, reduceCtorEq, n1, n2, n3, n4, n5, i0, i1, i2, i3, i4, i5, i6, i7]
          have hz_7 : w_7.heap.size = w_6.heap.size + 1 := by rw [← hw_7]; simp only [size_wr, World.size_alloc]
          clear hw_7
          have hbt_7 := hE_7.blk_some hbv id
          simp (maxSteps := 1000000) (disch := (first | omega | (simp only [World.size_alloc, size_wr, size_drew] <;> omega) | exact not_noB _)) only [go_sem, ↓reduceIte, n0, reduceCtorEq, n1, n2, n3, n4, n5, i0, i1, i2, i3, i4, i5, i6, i7, hr1, hr2, hr3, hbt_7, hb_7, cellsAt_two]
          have hE_7d : Ext w_7 w_7 := Upd.refl _ _
          have hE_6d : Ext w_6 w_7 := hE_7.trans hE_7d
          have hG_7 : TagsG (OkS okT w.heap.size) w15.heap.size w_7 (.map q) (t.u.take j) := hG.keep fun b hb _ => hE_6d.keep b hb id
          have hbt_8 := hE_7d.blk_some hbt_7 id
          have hm_8 : (#[strV (t.at 0).s, .int .i32 (IntKind.i32.wrap (t.at 1).n), .slice al2 (t.at 2).l.length kl2, .slice al3 (t.at 3).l.length kl3, .map q] : Array Value)[4]? = some (.map q) := rfl
          refine (TagsSet_fn (okT := (OkS okT w.heap.size)) (L := w15.heap.size) w_7 hG_7 (by have := hE_6d.size; omega) (by omega) hbt_8 (o := 4) hm_8 (thaw_00 _ _) y _ ((hbvv.weaken fun b _ hk => ⟨hk, by have := hk.2; omega⟩).keep (hE_6d.keeps _)) h32 hnew hoS).mono ?_
          rintro _ w_8 ⟨m', hb_8, hG_8, hM_8⟩
          simp only [List.setIfInBounds_toArray, List.set_cons_succ, List.set_cons_zero] at hb_8
          repeat ((first | refine W.seqR rfl ?_ | refine W.seq ?_ | refine W.regR rfl ?_ | refine W.condK ?_ | refine W.block ?_ | refine W.skip ?_ | refine W.ret ?_ | refine W.exit ?_); try simp (maxSteps := 1000000) (disch := (first | omega | (simp only [World.size_alloc, size_wr, size_drew] <;> omega) | exact not_noB _)) only [go_sem, ↓reduceIte, n0, reduceCtorEq, n1, n2, n3, n4, n5, i0, i1, i2, i3, i4, i5, i6, i7, hI])
          refine ⟨⟨j + 1, m', by omega, rfl, hN, hS, hr1, hr2, hr3, hb_8, by rw [hcat]; exact hG_8, ?_⟩, ?_⟩
          · exact hU_6.more ((hE_6d.mono fun _ h => h.elim).trans hM_8) fun b hb h => by
              rcases h with h | h
              · exact h
              · cases h; have := (hG.lt rfl).2; omega
          · simp only [RowKit.intOf]; omega
        · have hjl : j = t.u.length := by omega
          subst hjl
          rw [List.take_length] at hG
          have hT12 : Upd (fun b => b = (w.heap.size + 2)) w12 w_6 := hV15.trans hU_6
          have hT11 : Upd (fun b => b = (w.heap.size + 2)) w11 w_6 := hV12.trans hT12
          have hT10 : Upd (fun b => b = (w.heap.size + 2)) w10 w_6 := hV11.trans hT11
          have hT7 : Upd (fun b => b = (w.heap.size + 2)) w7 w_6 := hV10.trans hT10
          have hT6 : Upd (fun b => b = (w.heap.size + 2)) w6 w_6 := hV7.trans hT7
          have hT5 : Upd (fun b => b = (w.heap.size + 2)) w5 w_6 := hV6.trans hT6
          have hT4 : Upd (fun b => b = (w.heap.size + 2)) w4 w_6 := hV5.trans hT5
          have hT3 : Upd (fun b => b = (w.heap.size + 2)) w3 w_6 := hV4.trans hT4
          have hT2 : Upd (fun b => b = (w.heap.size + 2)) w2 w_6 := hV3.trans hT3
          have hT1 : Upd (fun b => b = (w.heap.size + 2)) w1 w_6 := hV2.trans hT2
          have hz0_f := hf0.keepS (hT3.keeps fun b _ hk e => hoF b hk e)
          have hz1_f := hf1.keepS (hT5.keeps fun b _ hk e => hoF b hk e)
          have hz2_f := hf2.keepS (hT10.keeps fun b _ hk e => hoF b hk e)
          have hz3_f := hf3.keepS (hU_6.keeps fun b _ hk e => hoF b hk e)
          have hTg := hG.tags (ok' := (OkF okT w.heap.size w1.heap.size)) (fun b _ hk => .inl hk) (fun b hb => .inr (by omega))
          have hL : RepL (RepS true (d + 1)) (szS true (d + 1)) (OkF okT w.heap.size w1.heap.size) w_6 t [fStopReplicaRequestTopic_0, fStopReplicaRequestTopic_1, fStopReplicaRequestTopic_2, fStopReplicaRequestTopic_3] 0 [strV (t.at 0).s, .int .i32 (IntKind.i32.wrap (t.at 1).n), .slice al2 (t.at 2).l.length kl2, .slice al3 (t.at 3).l.length kl3] := (RepL.cons1 hz0_f (RepL.cons1 hz1_f (RepL.cons1 hz2_f (RepL.cons1 hz3_f RepL.nil))))
          have hR : RepS true (d + 2) fs_StopReplicaRequestTopic (OkF okT w.heap.size w1.heap.size) w_6 t [strV (t.at 0).s, .int .i32 (IntKind.i32.wrap (t.at 1).n), .slice al2 (t.at 2).l.length kl2, .slice al3 (t.at 3).l.length kl3, .map q] := RepS.intro (c := [strV (t.at 0).s, .int .i32 (IntKind.i32.wrap (t.at 1).n), .slice al2 (t.at 2).l.length kl2, .slice al3 (t.at 3).l.length kl3]) rfl hL hTg
          have hcA : cellsAt #[strV (t.at 0).s, .int .i32 (IntKind.i32.wrap (t.at 1).n), .slice al2 (t.at 2).l.length kl2, .slice al3 (t.at 3).l.length kl3, .map q] 0 5 = some (.agg #[strV (t.at 0).s, .int .i32 (IntKind.i32.wrap (t.at 1).n), .slice al2 (t.at 2).l.length kl2, .slice al3 (t.at 3).l.length kl3, .map q]) := cellsAt_full rfl
          have hrb_6 := hT1.blk_some hrb1 (by omega)
          repeat ((first | refine W.seqR rfl ?_ | refine W.seq ?_ | refine W.regR rfl ?_ | refine W.condK ?_ | refine W.block ?_ | refine W.skip ?_ | refine W.ret ?_ | refine W.exit ?_); try simp (maxSteps := 1000000) (disch := (first | omega | (simp only [World.size_alloc, size_wr, size_drew] <;> omega) | exact not_noB _)) only [go_sem, ↓reduceIte, n0, reduceCtorEq, n1, n2, n3, n4, n5, i0, i1, i2, i3, i4, i5, i6, i7, hI, hN, hr1, hr2, hr3, hbv, hrb_6, hcA])
          have hUr : Upd (fun b => b = w.heap.size + 1) w_6 (wr w_6 (w.heap.size + 1) 0 [strV (t.at 0).s, .int .i32 (IntKind.i32.wrap (t.at 1).n), .slice al2 (t.at 2).l.length kl2, .slice al3 (t.at 3).l.length kl3, .map q]) := (Upd.refl _ _).wr _ _ (.inr rfl)
          refine ⟨⟨_, rfl, (RepS_lay true (d + 2) fs_StopReplicaRequestTopic).weaken ((RepS_lay true (d + 2) fs_StopReplicaRequestTopic).keep hR (hUr.keeps fun b _ hk e => hoR b hk e)) (fun b _ hk => hk.imp And.left fun h => by omega)⟩, ?_⟩
          exact (hE1.more hT1 fun b hb h => by omega).wr _ _ (.inl (by omega))

set_option maxHeartbeats 2000000 in
theorem fillStopReplicaRequest_fn {d : Nat} {okT : Blocks} {V ver : Int} (t : Tree) (ct : List Value) (w : World) {vb : Nat} (hvb : blk w vb = some (#[.int .i16 ver, .int .i32 0, .int .i32 0, .bool false, .int .i64 0, .bool false, .slice none 0 0, .map none], 110, (0, 0))) (ht : TreeC okT w t ct) (hok : ∀ b, okT b → b ≠ vb) (hfit : FitP V (d + 3) fs_StopReplicaRequest t) (hLs : Lists t) :
    Fn Try.prog 99 #[.pointer (some ⟨vb, 0, none⟩), .agg ct.toArray] w fun _ w' => ∃ cells, blk w' vb = some ((.int .i16 ver :: cells).toArray, 110, (0, 0)) ∧ RepS true (d + 3) fs_StopReplicaRequest (okN okT w.heap.size) w' t cells ∧ Upd (fun b => b = vb) w w' := by
  obtain ⟨vS, vL, vU, rfl, hn, hSx, hLx0, hUx⟩ := ht.inv
  obtain ⟨bS, cS, rfl, hcS⟩ := hSx.shape
  obtain ⟨bL, cL, rfl, hcL⟩ := SlR.shape hLx0
  obtain ⟨bU, cU, rfl, hcU⟩ := SlR.shape hUx
  obtain ⟨⟨g0, g1, g2, g3, g4, g5, -⟩, hfu⟩ := hfit
  replace g0 : FitF (FitP V (d + 2)) V fStopReplicaRequest_0 (t.at 0) := g0
  replace g1 : FitF (FitP V (d + 2)) V fStopReplicaRequest_1 (t.at 1) := g1
  replace g2 : FitF (FitP V (d + 2)) V fStopReplicaRequest_2 (t.at 2) := g2
  replace g3 : FitF (FitP V (d + 2)) V fStopReplicaRequest_3 (t.at 3) := g3
  replace g4 : FitF (FitP V (d + 2)) V fStopReplicaRequest_4 (t.at 4) := g4
  replace g5 : FitF (FitP V (d + 2)) V fStopReplicaRequest_5 (t.at 5) := g5
  have hllt : t.l.length < 4611686018427387903 := Nat.lt_of_le_of_lt hLs.len (by decide)
  have hul := hLs.ulen
  have hvl := blk_lt hvb
  refine fn_of_W Try.func99 rfl Try.results99 Try.ntmps99 rfl ?_
  obtain ⟨w1, hw1⟩ : ∃ w1, w1 = (w.alloc (.cells #[.int .i64 t.n, .slice bS t.s.length cS, .bool t.null, .slice bL t.l.length cL, .slice bU t.u.length cU] 39)) := ⟨_, rfl⟩
  have hE1 : Ext w w1 := by rw [hw1]; exact Upd.alloc (Upd.refl _ _) _
  have hz1 : w1.heap.size = w.heap.size + 1 := by rw [hw1, World.size_alloc]
  have htb1 : blk w1 w.heap.size = some (#[.int .i64 t.n, .slice bS t.s.length cS, .bool t.null, .slice bL t.l.length cL, .slice bU t.u.length cU], 39, (0, 0)) := by rw [hw1]; exact blk_alloc_new rfl
  have hb1 : blk w1 vb = some (#[.int .i16 ver, .int .i32 0, .int .i32 0, .bool false, .int .i64 0, .bool false, .slice none 0 0, .map none], 110, (0, 0)) := hE1.blk_some hvb id
  have hoS : ∀ b, (OkS okT w.heap.size) b → b ≠ vb := fun b h => hok b h.1
  have htv : ¬ w.heap.size = vb := by omega
  have hoF : ∀ b, (OkF okT w.heap.size w1.heap.size) b → b ≠ vb := fun b h => by
    rcases h with h | h
    · exact hoS b h
    · omega
  have hU1 : Upd (fun b => b = vb) w1 w1 := Upd.refl _ _
  have hvl1 := blk_lt hb1
  have hsz1 := Nat.le_refl w1.heap.size
  have ht1 : TreeC (OkS okT w.heap.size) w1 t [.int .i64 t.n, .slice bS t.s.length cS, .bool t.null, .slice bL t.l.length cL, .slice bU t.u.length cU] := (ht.weaken fun b h1 h2 => ⟨h2, h1⟩).keep (hE1.keeps _)
  have hU1v : TagsV (OkS okT w.heap.size) w1 (.slice bU t.u.length cU) t.u := (hUx.weaken fun b h1 h2 => ⟨h2, h1⟩).keep (hE1.keeps _)
  repeat ((first | refine W.seqR rfl ?_ | refine W.seq ?_ | refine W.regR rfl ?_ | refine W.condK ?_ | refine W.block ?_ | refine W.skip ?_ | refine W.ret ?_ | refine W.exit ?_); try simp (maxSteps := 1000000) (disch := (first | omega | (simp only [World.size_alloc, size_wr, size_drew] <;> omega) | exact not_noB _)) only [go_sem, ↓reduceIte, n0, reduceCtorEq, n1, n2, n3, n4, n5, i0, i1, i2, i3, i4, i5, i6, i7])
  rw [← hw1]
  clear hw1
  refine (iat_fn (ok := (OkS okT w.heap.size)) t 0 _ _ (ht1.keep (hU1.keeps fun b _ hk e => hoS b hk e)) (by decide) hllt).mono ?_
  rintro r2 w2 ⟨⟨ca2, rfl, hca2⟩, hEa2⟩
  obtain ⟨vSa2, vLa2, vUa2, rfl, hna2, hSa2, hLa2, hUa2⟩ := hca2.inv
  obtain ⟨bSa2, cSa2, rfl, hcSa2⟩ := hSa2.shape
  obtain ⟨bLa2, cLa2, rfl, hcLa2⟩ := SlR.shape hLa2
  have hfU2 := SlR.flat hUa2
  clear hcSa2 hcLa2 hna2
  have hV2 : Upd (fun b => b = vb) w1 w2 := hEa2.mono fun _ h => h.elim
  have hU2 : Upd (fun b => b = vb) w1 w2 := hU1.trans hV2
  have htb2 := hU2.blk_some htb1 htv
  have hvl2 : vb < w2.heap.size := Nat.lt_of_lt_of_le hvl1 hU2.size
  have hsz2 := hU2.size
  have hb2 : blk w2 vb = some (#[.int .i16 ver, .int .i32 0, .int .i32 0, .bool false, .int .i64 0, .bool false, .slice none 0 0, .map none], 110, (0, 0)) := hEa2.blk_some hb1 id
  simp (maxSteps := 1000000) (disch := (first | omega | (simp only [World.size_alloc, size_wr, size_drew] <;> omega) | exact not_noB _)) only [go_sem, ↓reduceIte, n0, reduceCtorEq, n1, n2, n3, n4, n5, i0, i1, i2, i3, i4, i5, i6, i7, hb2, htb2]
  generalize hw3 : wr w2 vb 1 [.int .i32 (IntKind.i32.wrap (t.at 0).n)] = w3
  have hV3 : Upd (fun b => b = vb) w2 w3 := by rw [← hw3]; exact (Upd.refl _ _).wr _ _ (.inr rfl)
  have hb3 : blk w3 vb = some (#[.int .i16 ver, .int .i32 (IntKind.i32.wrap (t.at 0).n), .int .i32 0, .bool false, .int .i64 0, .bool false, .slice none 0 0, .map none], 110, (0, 0)) := by rw [← hw3, blk_wr_eq, hb2]; rfl
  have hU3 : Upd (fun b => b = vb) w1 w3 := hU2.trans hV3
  have htb3 := hU3.blk_some htb1 htv
  have hvl3 : vb < w3.heap.size := Nat.lt_of_lt_of_le hvl1 hU3.size
  have hsz3 := hU3.size
  clear hvl2 hsz2
  clear hw3
  have hf0 : RepF (RepS true (d + 2)) (szS true (d + 2)) fStopReplicaRequest_0 (OkF okT w.heap.size w1.heap.size) w3 (t.at 0) [.int .i32 (IntKind.i32.wrap (t.at 0).n)] := (RepF_num (by decide)).2 rfl
  repeat ((first | refine W.seqR rfl ?_ | refine W.seq ?_ | refine W.regR rfl ?_ | refine W.condK ?_ | refine W.block ?_ | refine W.skip ?_ | refine W.ret ?_ | refine W.exit ?_); try simp (maxSteps := 1000000) (disch := (first | omega | (simp only [World.size_alloc, size_wr, size_drew] <;> omega) | exact not_noB _)) only [go_sem, ↓reduceIte, n0, reduceCtorEq, n1, n2, n3, n4, n5, i0, i1, i2, i3, i4, i5, i6, i7, hb3, htb3])
  refine (iat_fn (ok := (OkS okT w.heap.size)) t 1 _ _ (ht1.keep (hU3.keeps fun b _ hk e => hoS b hk e)) (by decide) hllt).mono ?_
  rintro r4 w4 ⟨⟨ca4, rfl, hca4⟩, hEa4⟩
  obtain ⟨vSa4, vLa4, vUa4, rfl, hna4, hSa4, hLa4, hUa4⟩ := hca4.inv
  obtain ⟨bSa4, cSa4, rfl, hcSa4⟩ := hSa4.shape
  obtain ⟨bLa4, cLa4, rfl, hcLa4⟩ := SlR.shape hLa4
  have hfU4 := SlR.flat hUa4
  clear hcSa4 hcLa4 hna4
  have hV4 : Upd (fun b => b = vb) w3 w4 := hEa4.mono fun _ h => h.elim
  have hU4 : Upd (fun b => b = vb) w1 w4 := hU3.trans hV4
  have htb4 := hU4.blk_some htb1 htv
  have hvl4 : vb < w4.heap.size := Nat.lt_of_lt_of_le hvl1 hU4.size
  have hsz4 := hU4.size
  clear hvl3 hsz3
  have hb4 : blk w4 vb = some (#[.int .i16 ver, .int .i32 (IntKind.i32.wrap (t.at 0).n), .int .i32 0, .bool false, .int .i64 0, .bool false, .slice none 0 0, .map none], 110, (0, 0)) := hEa4.blk_some hb3 id
  simp (maxSteps := 1000000) (disch := (first | omega | (simp only [World.size_alloc, size_wr, size_drew] <;> omega) | exact not_noB _)) only [go_sem, ↓reduceIte, n0, reduceCtorEq, n1, n2, n3, n4, n5, i0, i1, i2, i3, i4, i5, i6, i7, hb4, htb4]
  generalize hw5 : wr w4 vb 2 [.int .i32 (IntKind.i32.wrap (t.at 1).n)] = w5
  have hV5 : Upd (fun b => b = vb) w4 w5 := by rw [← hw5]; exact (Upd.refl _ _).wr _ _ (.inr rfl)
  have hb5 : blk w5 vb = some (#[.int .i16 ver, .int .i32 (IntKind.i32.wrap (t.at 0).n), .int .i32 (IntKind.i32.wrap (t.at 1).n), .bool false, .int .i64 0, .bool false, .slice none 0 0, .map none], 110, (0, 0)) := by rw [← hw5, blk_wr_eq, hb4]; rfl
  have hU5 : Upd (fun b => b = vb) w1 w5 := hU4.trans hV5
  have htb5 := hU5.blk_some htb1 htv
  have hvl5 : vb < w5.heap.size := Nat.lt_of_lt_of_le hvl1 hU5.size
  have hsz5 := hU5.size
  clear hvl4 hsz4
  clear hw5
  have hf1 : RepF (RepS true (d + 2)) (szS true (d + 2)) fStopReplicaRequest_1 (OkF okT w.heap.size w1.heap.size) w5 (t.at 1) [.int .i32 (IntKind.i32.wrap (t.at 1).n)] := (RepF_num (by decide)).2 rfl
  repeat ((first | refine W.seqR rfl ?_ | refine W.seq ?_ | refine W.regR rfl ?_ | refine W.condK ?_ | refine W.block ?_ | refine W.skip ?_ | refine W.ret ?_ | refine W.exit ?_); try simp (maxSteps := 1000000) (disch := (first | omega | (simp only [World.size_alloc, size_wr, size_drew] <;> omega) | exact not_noB _)) only [go_sem, ↓reduceIte, n0, reduceCtorEq, n1, n2, n3, n4, n5, i0, i1, i2, i3, i4, i5, i6, i7, hb5, htb5])
  refine (iat_fn (ok := (OkS okT w.heap.size)) t 2 _ _ (ht1.keep (hU5.keeps fun b _ hk e => hoS b hk e)) (by decide) hllt).mono ?_
  rintro r6 w6 ⟨⟨ca6, rfl, hca6⟩, hEa6⟩
  obtain ⟨vSa6, vLa6, vUa6, rfl, hna6, hSa6, hLa6, hUa6⟩ := hca6.inv
  obtain ⟨bSa6, cSa6, rfl, hcSa6⟩ := hSa6.shape
  obtain ⟨bLa6, cLa6, rfl, hcLa6⟩ := SlR.shape hLa6
  have hfU6 := SlR.flat hUa6
  clear hcSa6 hcLa6 hna6
  have hV6 : Upd (fun b => b = vb) w5 w6 := hEa6.mono fun _ h => h.elim
  have hU6 : Upd (fun b => b = vb) w1 w6 := hU5.trans hV6
  have htb6 := hU6.blk_some htb1 htv
  have hvl6 : vb < w6.heap.size := Nat.lt_of_lt_of_le hvl1 hU6.size
  have hsz6 := hU6.size
  clear hvl5 hsz5
  have hb6 : blk w6 vb = some (#[.int .i16 ver, .int .i32 (IntKind.i32.wrap (t.at 0).n), .int .i32 (IntKind.i32.wrap (t.at 1).n), .bool false, .int .i64 0, .bool false, .slice none 0 0, .map none], 110, (0, 0)) := hEa6.blk_some hb5 id
  have hq6 : ((t.at 2).n % 2 == 1) = decide ((t.at 2).n % 2 = 1) := rfl
  simp (maxSteps := 1000000) (disch := (first | omega | (simp only [World.size_alloc, size_wr, size_drew] <;> omega) | exact not_noB _)) only [go_sem, ↓reduceIte, n0, reduceCtorEq, n1, n2, n3, n4, n5, i0, i1, i2, i3, i4, i5, i6, i7, hb6, htb6, and1_i64, hq6]
  generalize hw7 : wr w6 vb 3 [.bool (decide ((t.at 2).n % 2 = 1))] = w7
  have hV7 : Upd (fun b => b = vb) w6 w7 := by rw [← hw7]; exact (Upd.refl _ _).wr _ _ (.inr rfl)
  have hb7 : blk w7 vb = some (#[.int .i16 ver, .int .i32 (IntKind.i32.wrap (t.at 0).n), .int .i32 (IntKind.i32.wrap (t.at 1).n), .bool (decide ((t.at 2).n % 2 = 1)), .int .i64 0, .bool false, .slice none 0 0, .map none], 110, (0, 0)) := by rw [← hw7, blk_wr_eq, hb6]; rfl
  have hU7 : Upd (fun b => b = vb) w1 w7 := hU6.trans hV7
  have htb7 := hU7.blk_some htb1 htv
  have hvl7 : vb < w7.heap.size := Nat.lt_of_lt_of_le hvl1 hU7.size
  have hsz7 := hU7.size
  clear hvl6 hsz6
  clear hw7
  have hf2 : RepF (RepS true (d + 2)) (szS true (d + 2)) fStopReplicaRequest_2 (OkF okT w.heap.size w1.heap.size) w7 (t.at 2) [.bool (decide ((t.at 2).n % 2 = 1))] := (RepF_num (by decide)).2 rfl
  repeat ((first | refine W.seqR rfl ?_ | refine W.seq ?_ | refine W.regR rfl ?_ | refine W.condK ?_ | refine W.block ?_ | refine W.skip ?_ | refine W.ret ?_ | refine W.exit ?_); try simp (maxSteps := 1000000) (disch := (first | omega | (simp only [World.size_alloc, size_wr, size_drew] <;> omega) | exact not_noB _)) only [go_sem, ↓reduceIte, n0, reduceCtorEq, n1, n2, n3, n4, n5, i0, i1, i2, i3, i4, i5, i6, i7, hb7, htb7])
  refine (iat_fn (ok := (OkS okT w.heap.size)) t 3 _ _ (ht1.keep (hU7.keeps fun b _ hk e => hoS b hk e)) (by decide) hllt).mono ?_
  rintro r8 w8 ⟨⟨ca8, rfl, hca8⟩, hEa8⟩
  obtain ⟨vSa8, vLa8, vUa8, rfl, hna8, hSa8, hLa8, hUa8⟩ := hca8.inv
  obtain ⟨bSa8, cSa8, rfl, hcSa8⟩ := hSa8.shape
  obtain ⟨bLa8, cLa8, rfl, hcLa8⟩ := SlR.shape hLa8
  have hfU8 := SlR.flat hUa8
  clear hcSa8 hcLa8 hna8
  have hV8 : Upd (fun b => b = vb) w7 w8 := hEa8.mono fun _ h => h.elim
  have hU8 : Upd (fun b => b = vb) w1 w8 := hU7.trans hV8
  have htb8 := hU8.blk_some htb1 htv
  have hvl8 : vb < w8.heap.size := Nat.lt_of_lt_of_le hvl1 hU8.size
  have hsz8 := hU8.size
  clear hvl7 hsz7
  have hb8 : blk w8 vb = some (#[.int .i16 ver, .int .i32 (IntKind.i32.wrap (t.at 0).n), .int .i32 (IntKind.i32.wrap (t.at 1).n), .bool (decide ((t.at 2).n % 2 = 1)), .int .i64 0, .bool false, .slice none 0 0, .map none], 110, (0, 0)) := hEa8.blk_some hb7 id
  simp (maxSteps := 1000000) (disch := (first | omega | (simp only [World.size_alloc, size_wr, size_drew] <;> omega) | exact not_noB _)) only [go_sem, ↓reduceIte, n0, reduceCtorEq, n1, n2, n3, n4, n5, i0, i1, i2, i3, i4, i5, i6, i7, hb8, htb8]
  generalize hw9 : wr w8 vb 4 [.int .i64 (t.at 3).n] = w9
  have hV9 : Upd (fun b => b = vb) w8 w9 := by rw [← hw9]; exact (Upd.refl _ _).wr _ _ (.inr rfl)
  have hb9 : blk w9 vb = some (#[.int .i16 ver, .int .i32 (IntKind.i32.wrap (t.at 0).n), .int .i32 (IntKind.i32.wrap (t.at 1).n), .bool (decide ((t.at 2).n % 2 = 1)), .int .i64 (t.at 3).n, .bool false, .slice none 0 0, .map none], 110, (0, 0)) := by rw [← hw9, blk_wr_eq, hb8]; rfl
  have hU9 : Upd (fun b => b = vb) w1 w9 := hU8.trans hV9
  have htb9 := hU9.blk_some htb1 htv
  have hvl9 : vb < w9.heap.size := Nat.lt_of_lt_of_le hvl1 hU9.size
  have hsz9 := hU9.size
  clear hvl8 hsz8
  clear hw9
  have hf3 : RepF (RepS true (d + 2)) (szS true (d + 2)) fStopReplicaRequest_3 (OkF okT w.heap.size w1.heap.size) w9 (t.at 3) [.int .i64 (t.at 3).n] := (RepF_num (by decide)).2 rfl
  repeat ((first | refine W.seqR rfl ?_ | refine W.seq ?_ | refine W.regR rfl ?_ | refine W.condK ?_ | refine W.block ?_ | refine W.skip ?_ | refine W.ret ?_ | refine W.exit ?_); try simp (maxSteps := 1000000) (disch := (first | omega | (simp only [World.size_alloc, size_wr, size_drew] <;> omega) | exact not_noB _)) only [go_sem, ↓reduceIte, n0, reduceCtorEq, n1, n2, n3, n4, n5, i0, i1, i2, i3, i4, i5, i6, i7, hb9, htb9])
  refine (iat_fn (ok := (OkS okT w.heap.size)) t 4 _ _ (ht1.keep (hU9.keeps fun b _ hk e => hoS b hk e)) (by decide) hllt).mono ?_
  rintro r10 w10 ⟨⟨ca10, rfl, hca10⟩, hEa10⟩
  obtain ⟨vSa10, vLa10, vUa10, rfl, hna10, hSa10, hLa10, hUa10⟩ := hca10.inv
  obtain ⟨bSa10, cSa10, rfl, hcSa10⟩ := hSa10.shape
  obtain ⟨bLa10, cLa10, rfl, hcLa10⟩ := SlR.shape hLa10
  have hfU10 := SlR.flat hUa10
  clear hcSa10 hcLa10 hna10
  have hV10 : Upd (fun b => b = vb) w9 w10 := hEa10.mono fun _ h => h.elim
  have hU10 : Upd (fun b => b = vb) w1 w10 := hU9.trans hV10
  have htb10 := hU10.blk_some htb1 htv
  have hvl10 : vb < w10.heap.size := Nat.lt_of_lt_of_le hvl1 hU10.size
  have hsz10 := hU10.size
  clear hvl9 hsz9
  have hb10 : blk w10 vb = some (#[.int .i16 ver, .int .i32 (IntKind.i32.wrap (t.at 0).n), .int .i32 (IntKind.i32.wrap (t.at 1).n), .bool (decide ((t.at 2).n % 2 = 1)), .int .i64 (t.at 3).n, .bool false, .slice none 0 0, .map none], 110, (0, 0)) := hEa10.blk_some hb9 id
  have hq10 : ((t.at 4).n % 2 == 1) = decide ((t.at 4).n % 2 = 1) := rfl
  simp (maxSteps := 1000000) (disch := (first | omega | (simp only [World.size_alloc, size_wr, size_drew] <;> omega) | exact not_noB _)) only [go_sem, ↓reduceIte, n0, reduceCtorEq, n1, n2, n3, n4, n5, i0, i1, i2, i3, i4, i5, i6, i7, hb10, htb10, and1_i64, hq10]
  generalize hw11 : wr w10 vb 5 [.bool (decide ((t.at 4).n % 2 = 1))] = w11
  have hV11 : Upd (fun b => b = vb) w10 w11 := by rw [← hw11]; exact (Upd.refl _ _).wr _ _ (.inr rfl)
  have hb11 : blk w11 vb = some (#[.int .i16 ver, .int .i32 (IntKind.i32.wrap (t.at 0).n), .int .i32 (IntKind.i32.wrap (t.at 1).n), .bool (decide ((t.at 2).n % 2 = 1)), .int .i64 (t.at 3).n, .bool (decide ((t.at 4).n % 2 = 1)), .slice none 0 0, .map none], 110, (0, 0)) := by rw [← hw11, blk_wr_eq, hb10]; rfl
  have hU11 : Upd (fun b => b = vb) w1 w11 := hU10.trans hV11
  have htb11 := hU11.blk_some htb1 htv
  have hvl11 : vb < w11.heap.size := Nat.lt_of_lt_of_le hvl1 hU11.size
  have hsz11 := hU11.size
  clear hvl10 hsz10
  clear hw11
  have hf4 : RepF (RepS true (d + 2)) (szS true (d + 2)) fStopReplicaRequest_4 (OkF okT w.heap.size w1.heap.size) w11 (t.at 4) [.bool (decide ((t.at 4).n % 2 = 1))] := (RepF_num (by decide)).2 rfl
  have hn0_5 : (t.at 5).null = false := g5.notnull (by decide)
  have hll5 := (g5.list rfl).1
  repeat ((first | refine W.seqR rfl ?_ | refine W.seq ?_ | refine W.regR rfl ?_ | refine W.condK ?_ | refine W.block ?_ | refine W.skip ?_ | refine W.ret ?_ | refine W.exit ?_); try simp (maxSteps := 1000000) (disch := (first | omega | (simp only [World.size_alloc, size_wr, size_drew] <;> omega) | exact not_noB _)) only [go_sem, ↓reduceIte, n0, reduceCtorEq, n1, n2, n3, n4, n5, i0, i1, i2, i3, i4, i5, i6, i7, hb11, htb11])
  refine (iat_fn (ok := (OkS okT w.heap.size)) t 5 _ _ (ht1.keep (hU11.keeps fun b _ hk e => hoS b hk e)) (by decide) hllt).mono ?_
  rintro r12 w12 ⟨⟨ca12, rfl, hca12⟩, hEa12⟩
  obtain ⟨vSa12, vLa12, vUa12, rfl, hna12, hSa12, hLa12, hUa12⟩ := hca12.inv
  obtain ⟨bSa12, cSa12, rfl, hcSa12⟩ := hSa12.shape
  obtain ⟨bLa12, cLa12, rfl, hcLa12⟩ := SlR.shape hLa12
  have hfU12 := SlR.flat hUa12
  clear hcSa12 hcLa12 hna12
  have hV12 : Upd (fun b => b = vb) w11 w12 := hEa12.mono fun _ h => h.elim
  have hU12 : Upd (fun b => b = vb) w1 w12 := hU11.trans hV12
  have htb12 := hU12.blk_some htb1 htv
  have hvl12 : vb < w12.heap.size := Nat.lt_of_lt_of_le hvl1 hU12.size
  have hsz12 := hU12.size
  clear hvl11 hsz11
  have hb12 : blk w12 vb = some (#[.int .i16 ver, .int .i32 (IntKind.i32.wrap (t.at 0).n), .int .i32 (IntKind.i32.wrap (t.at 1).n), .bool (decide ((t.at 2).n % 2 = 1)), .int .i64 (t.at 3).n, .bool (decide ((t.at 4).n % 2 = 1)), .slice none 0 0, .map none], 110, (0, 0)) := hEa12.blk_some hb11 id
  simp (maxSteps := 1000000) (disch := (first | omega | (simp only [World.size_alloc, size_wr, size_drew] <;> omega) | exact not_noB _)) only [go_sem, ↓reduceIte, n0, reduceCtorEq, n1, n2, n3, n4, n5, i0, i1, i2, i3, i4, i5, i6, i7, hn0_5, hb12, htb12]
  repeat ((first | refine W.seqR rfl ?_ | refine W.seq ?_ | refine W.regR rfl ?_ | refine W.condK ?_ | refine W.block ?_ | refine W.skip ?_ | refine W.ret ?_ | refine W.exit ?_); try simp (maxSteps := 1000000) (disch := (first | omega | (simp only [World.size_alloc, size_wr, size_drew] <;> omega) | exact not_noB _)) only [go_sem, ↓reduceIte, n0, reduceCtorEq, n1, n2, n3, n4, n5, i0, i1, i2, i3, i4, i5, i6, i7, hb12, htb12])
  refine (iat_fn (ok := (OkS okT w.heap.size)) t 5 _ _ (ht1.keep (hU12.keeps fun b _ hk e => hoS b hk e)) (by decide) hllt).mono ?_
  rintro r13 w13 ⟨⟨ca13, rfl, hca13⟩, hEa13⟩
  obtain ⟨vSa13, vLa13, vUa13, rfl, hna13, hSa13, hLa13, hUa13⟩ := hca13.inv
  obtain ⟨bSa13, cSa13, rfl, hcSa13⟩ := hSa13.shape
  obtain ⟨bLa13, cLa13, rfl, hcLa13⟩ := SlR.shape hLa13
  have hfU13 := SlR.flat hUa13
  clear hcSa13 hcLa13 hna13
  have hV13 : Upd (fun b => b = vb) w12 w13 := hEa13.mono fun _ h => h.elim
  have hU13 : Upd (fun b => b = vb) w1 w13 := hU12.trans hV13
  have htb13 := hU13.blk_some htb1 htv
  have hvl13 : vb < w13.heap.size := Nat.lt_of_lt_of_le hvl1 hU13.size
  have hsz13 := hU13.size
  clear hvl12 hsz12
  have hb13 : blk w13 vb = some (#[.int .i16 ver, .int .i32 (IntKind.i32.wrap (t.at 0).n), .int .i32 (IntKind.i32.wrap (t.at 1).n), .bool (decide ((t.at 2).n % 2 = 1)), .int .i64 (t.at 3).n, .bool (decide ((t.at 4).n % 2 = 1)), .slice none 0 0, .map none], 110, (0, 0)) := hEa13.blk_some hb12 id
  simp (maxSteps := 1000000) (disch := (first | omega | (simp only [World.size_alloc, size_wr, size_drew] <;> omega) | exact not_noB _)) only [go_sem, ↓reduceIte, n0, reduceCtorEq, n1, n2, n3, n4, n5, i0, i1, i2, i3, i4, i5, i6, i7, hb13, htb13]
  refine wp_make (T := 108) (E := 185) (size := 5) (bytes := 80) (z := (.agg #[.string ByteArray.empty, .int .i32 0, .slice none 0 0, .slice none 0 0, .map none])) (l := 0) (c := (t.at 5).l.length) (kl := .i64) (kc := .i64) (by kernel_rfl) (by kernel_rfl) (by simp (maxSteps := 1000000) (disch := (first | omega | (simp only [World.size_alloc, size_wr, size_drew] <;> omega) | exact not_noB _)) only [go_sem, ↓reduceIte, n0, reduceCtorEq, n1, n2, n3, n4, n5, i0, i1, i2, i3, i4, i5, i6, i7]; rfl) (by simp (maxSteps := 1000000) (disch := (first | omega | (simp only [World.size_alloc, size_wr, size_drew] <;> omega) | exact not_noB _)) only [go_sem, ↓reduceIte, n0, reduceCtorEq, n1, n2, n3, n4, n5, i0, i1, i2, i3, i4, i5, i6, i7]) (by omega) (by omega) (by omega) ?_
  simp (maxSteps := 1000000) (disch := (first | omega | (simp only [World.size_alloc, size_wr, size_drew] <;> omega) | exact not_noB _)) only [go_sem, ↓reduceIte, n0, reduceCtorEq, n1, n2, n3, n4, n5, i0, i1, i2, i3, i4, i5, i6, i7, hb13, hvl13, htb13]
  have hszB5 := hsz13
  generalize hw14 : wr (w13.alloc (.cells (madeCells #[.string ByteArray.empty, .int .i32 0, .slice none 0 0, .slice none 0 0, .map none] ((t.at 5).l.length * 5)) 185)) vb 6 [.slice (some ⟨w13.heap.size, 0, none⟩) 0 (t.at 5).l.length] = w14
  have hV14 : Upd (fun b => b = vb) w13 w14 := by rw [← hw14]; exact ((Upd.refl _ _).alloc _).wr _ _ (.inr rfl)
  have hb14 : blk w14 vb = some (#[.int .i16 ver, .int .i32 (IntKind.i32.wrap (t.at 0).n), .int .i32 (IntKind.i32.wrap (t.at 1).n), .bool (decide ((t.at 2).n % 2 = 1)), .int .i64 (t.at 3).n, .bool (decide ((t.at 4).n % 2 = 1)), .slice (some ⟨w13.heap.size, 0, none⟩) 0 (t.at 5).l.length, .map none], 110, (0, 0)) := by rw [← hw14, blk_wr_eq, blk_alloc_old hvl13, hb13]; rfl
  have hrow14 : blk w14 w13.heap.size = some (madeCells #[.string ByteArray.empty, .int .i32 0, .slice none 0 0, .slice none 0 0, .map none] ((t.at 5).l.length * 5), 185, (0, 0)) := by rw [← hw14, blk_wr_ne (Nat.ne_of_gt hvl13), blk_alloc_new rfl]
  have hg14 : GrowR (Rep1 (RepS true (d + 2)) fStopReplicaRequest_5.of fStopReplicaRequest_5.sub) 5 (OkF okT w.heap.size w1.heap.size) w13.heap.size vb w14 185 (.slice (some ⟨w13.heap.size, 0, none⟩) 0 (t.at 5).l.length) [] := GrowR.made hrow14 (size_madeCells _ _) (Nat.le_refl _)
  have hU14 : Upd (fun b => b = vb) w1 w14 := hU13.trans hV14
  have htb14 := hU14.blk_some htb1 htv
  have hvl14 : vb < w14.heap.size := Nat.lt_of_lt_of_le hvl1 hU14.size
  have hsz14 := hU14.size
  clear hvl13 hsz13
  clear hw14 hrow14
  repeat ((first | refine W.seqR rfl ?_ | refine W.seq ?_ | refine W.regR rfl ?_ | refine W.condK ?_ | refine W.block ?_ | refine W.skip ?_ | refine W.ret ?_ | refine W.exit ?_); try simp (maxSteps := 1000000) (disch := (first | omega | (simp only [World.size_alloc, size_wr, size_drew] <;> omega) | exact not_noB _)) only [go_sem, ↓reduceIte, n0, reduceCtorEq, n1, n2, n3, n4, n5, i0, i1, i2, i3, i4, i5, i6, i7, hb14, htb14])
  refine (iat_fn (ok := (OkS okT w.heap.size)) t 5 _ _ (ht1.keep (hU14.keeps fun b _ hk e => hoS b hk e)) (by decide) hllt).mono ?_
  rintro r15 w15 ⟨⟨ca15, rfl, hca15⟩, hEa15⟩
  obtain ⟨vSa15, vLa15, vUa15, rfl, hna15, hSa15, hLa15, hUa15⟩ := hca15.inv
  obtain ⟨bSa15, cSa15, rfl, hcSa15⟩ := hSa15.shape
  obtain ⟨bLa15, cLa15, rfl, hcLa15⟩ := SlR.shape hLa15
  have hfU15 := SlR.flat hUa15
  clear hcSa15 hcLa15 hna15
  have hV15 : Upd (fun b => b = vb) w14 w15 := hEa15.mono fun _ h => h.elim
  have hU15 : Upd (fun b => b = vb) w1 w15 := hU14.trans hV15
  have htb15 := hU15.blk_some htb1 htv
  have hvl15 : vb < w15.heap.size := Nat.lt_of_lt_of_le hvl1 hU15.size
  have hsz15 := hU15.size
  clear hvl14 hsz14
  have hb15 : blk w15 vb = some (#[.int .i16 ver, .int .i32 (IntKind.i32.wrap (t.at 0).n), .int .i32 (IntKind.i32.wrap (t.at 1).n), .bool (decide ((t.at 2).n % 2 = 1)), .int .i64 (t.at 3).n, .bool (decide ((t.at 4).n % 2 = 1)), .slice (some ⟨w13.heap.size, 0, none⟩) 0 (t.at 5).l.length, .map none], 110, (0, 0)) := hEa15.blk_some hb14 id
  have hg15 := hg14.ext (Rep1_lay _ _ fun _ => RepS_lay true (d + 2) _) hEa15
  simp (maxSteps := 1000000) (disch := (first | omega | (simp only [World.size_alloc, size_wr, size_drew] <;> omega) | exact not_noB _)) only [go_sem, ↓reduceIte, n0, reduceCtorEq, n1, n2, n3, n4, n5, i0, i1, i2, i3, i4, i5, i6, i7, hb15, htb15]
  repeat ((first | refine W.seqR rfl ?_ | refine W.seq ?_ | refine W.regR rfl ?_ | refine W.condK ?_ | refine W.block ?_ | refine W.skip ?_ | refine W.ret ?_ | refine W.exit ?_); try simp (maxSteps := 1000000) (disch := (first | omega | (simp only [World.size_alloc, size_wr, size_drew] <;> omega) | exact not_noB _)) only [go_sem, ↓reduceIte, n0, reduceCtorEq, n1, n2, n3, n4, n5, i0, i1, i2, i3, i4, i5, i6, i7, hb15, htb15])
  have hVb5 : Upd (fun b => b = vb) w13 w15 := hV14.trans hV15
  have hUb5 := hU13
  have hvlB5 : vb < w13.heap.size := Nat.lt_of_lt_of_le hvl1 hszB5
  have hszL5 : w13.heap.size ≤ w15.heap.size := hVb5.size
  refine W.exitJ 0 (fun ρ w' => ∃ v, ρ 0 = .pointer (some ⟨vb, 0, none⟩) ∧ ρ 3 = .pointer (some ⟨w.heap.size, 0, none⟩) ∧ blk w' vb = some (#[.int .i16 ver, .int .i32 (IntKind.i32.wrap (t.at 0).n), .int .i32 (IntKind.i32.wrap (t.at 1).n), .bool (decide ((t.at 2).n % 2 = 1)), .int .i64 (t.at 3).n, .bool (decide ((t.at 4).n % 2 = 1)), v, .map none], 110, (0, 0)) ∧ GrowR (Rep1 (RepS true (d + 2)) fStopReplicaRequest_5.of fStopReplicaRequest_5.sub) 5 (OkF okT w.heap.size w1.heap.size) w13.heap.size vb w' 185 v (t.at 5).l ∧ v ≠ .slice none 0 0 ∧ Upd (fun b => b = vb ∨ w13.heap.size ≤ b) w15 w')
    (W.loop (fun ρ w' => ∃ (j : Nat) (v : Value), j ≤ (t.at 5).l.length ∧ ρ 60 = .int .i64 j ∧ ρ 59 = .int .i64 (t.at 5).l.length ∧ ρ 58 = .slice bLa15 (t.at 5).l.length cLa15 ∧ ρ 0 = .pointer (some ⟨vb, 0, none⟩) ∧ ρ 3 = .pointer (some ⟨w.heap.size, 0, none⟩) ∧ blk w' vb = some (#[.int .i16 ver, .int .i32 (IntKind.i32.wrap (t.at 0).n), .int .i32 (IntKind.i32.wrap (t.at 1).n), .bool (decide ((t.at 2).n % 2 = 1)), .int .i64 (t.at 3).n, .bool (decide ((t.at 4).n % 2 = 1)), v, .map none], 110, (0, 0)) ∧ GrowR (Rep1 (RepS true (d + 2)) fStopReplicaRequest_5.of fStopReplicaRequest_5.sub) 5 (OkF okT w.heap.size w1.heap.size) w13.heap.size vb w' 185 v ((t.at 5).l.take j) ∧ v ≠ .slice none 0 0 ∧ Upd (fun b => b = vb ∨ w13.heap.size ≤ b) w15 w')
      (fun ρ _ => (t.at 5).l.length - (RowKit.intOf (ρ 60)).toNat) ?_ ?_) ?_
  · refine ⟨0, _, Nat.zero_le _, ?_, ?_, ?_, ?_, ?_, hb15, hg15, (by intro h; cases h), Upd.refl _ _⟩ <;> simp (maxSteps := 1000000) (disch := (first | omega | (simp only [World.size_alloc, size_wr, size_drew] <;> omega) | exact not_noB _)) only [go_sem, ↓reduceIte, n0, reduceCtorEq, n1, n2, n3, n4, n5, i0, i1, i2, i3, i4, i5, i6, i7]
    all_goals rfl
  · rintro ρ w_6 ⟨j, v, hj, hI, hN, hS, hr0, hr3, hbv, hg, hnil, hU_6⟩
    have hz_6 := hU_6.size
    have hJ_6 : Upd (fun b => b = vb) w13 w_6 := hVb5.more hU_6 fun b hb h => h.elim id fun h => absurd h (by omega)
    have hU_16 : Upd (fun b => b = vb) w1 w_6 := hUb5.trans hJ_6
    have hht_6 := hU_16.blk_some htb1 htv
    have hLt_6 := hLa15.keep (hU_6.keeps fun b _ hk e => e.elim (hoS b hk) fun e => by have := hk.2; omega)
    by_cases hlt : j < (t.at 5).l.length
    · obtain ⟨_, b, o, x, vS', vL', vU', hb, hokb, hx, hblt, hxs, hxe, q1, q2, q3, hc⟩ := TreesV.get hLt_6 hlt
      subst hb
      have hbS := (TreeC.inv hc)
      have hcat : (t.at 5).l.take (j + 1) = (t.at 5).l.take j ++ [(t.at 5).l[j]] := List.take_succ_eq_append_getElem hlt
      have hlen_9 : ((t.at 5).l.take j).length = j := by simp; omega
      have hgx := (g5.list rfl).2 _ (List.getElem_mem hlt)
      have hLx := (hLs.at 5).get hlt
      have hnb : ∀ b, b < w13.heap.size ∨ b = w_6.heap.size → ¬ ownB v b := fun b hb h => by
        have := hg.above h
        have := hg.below h
        omega
      generalize (t.at 5).l[j] = y at *
      obtain ⟨vSy, vLy, vUy, hcells, hny, hSy, hLy, hUy⟩ := hbS
      simp only [List.cons.injEq, true_and, and_true] at hcells
      obtain ⟨rfl, rfl, rfl⟩ := hcells
      obtain ⟨bSy, cSy, rfl, hcSy⟩ := hSy.shape
      repeat ((first | refine W.seqR rfl ?_ | refine W.seq ?_ | refine W.regR rfl ?_ | refine W.condK ?_ | refine W.block ?_ | refine W.skip ?_ | refine W.ret ?_ | refine W.exit ?_); try simp (maxSteps := 1000000) (disch := (first | omega | (simp only [World.size_alloc, size_wr, size_drew] <;> omega) | exact not_noB _)) only [go_sem, ↓reduceIte, n0, reduceCtorEq, n1, n2, n3, n4, n5, i0, i1, i2, i3, i4, i5, i6, i7, hI, hN, hS, hx, hxe, q1, q2, q3, cellsAt_five, Int.toNat_natCast])
      generalize hw_7 : (wr (w_6.alloc (.cells #[.int .i64 0, .slice none 0 0, .bool false, .slice none 0 0, .slice none 0 0] 39)) w_6.heap.size 0 [.int .i64 y.n, .slice bSy y.s.length cSy, .bool y.null, vL', vU']) = w_7
      have hE_7 : Ext w_6 w_7 := by rw [← hw_7]; exact (Upd.alloc (Upd.refl _ _) _).wr _ _ (.inl (Nat.le_refl _))
      have hb_7 : blk w_7 w_6.heap.size = some (#[.int .i64 y.n, .slice bSy y.s.length cSy, .bool y.null, vL', vU'], 39, (0, 0)) := by rw [← hw_7]; simp (maxSteps := 1000000) (disch := (first | omega | (simp only [World.size_alloc, size_wr, size_drew] <;> omega) | exact not_noB _)) only [go_sem, ↓reduceIte, n0, reduceCtorEq, n1, n2, n3, n4, n5, i0, i1, i2, i3, i4, i5, i6, i7]
      have hz_7 : w_7.heap.size = w_6.heap.size + 1 := by rw [← hw_7]; simp only [size_wr, World.size_alloc]
      have hbt_7 := hE_7.blk_some hbv id
      have hgv_7 := hE_7.blk_some hht_6 id
      have hc_7 := hc.keep (hE_7.keeps _)
      have hS_7 := hSy.keep (hE_7.keeps _)
      have hg_7 := hg.ext (Rep1_lay _ _ fun _ => RepS_lay true (d + 2) _) hE_7
      clear hw_7
      refine W.drawR (.take 0 (.take 1 (.take 2 (.take 3 (.take 4 (.take 5 (.only 6 (.only 7 (.only 8 (.take 9 (.take 10 (.last 11)))))))))))) (ownB v) mixed (by kernel_rfl) ?_
      simp (maxSteps := 1000000) (disch := (first | omega | (simp only [World.size_alloc, size_wr, size_drew] <;> omega) | exact not_noB _ | (refine hnb _ ?_; first | omega | (simp only [World.size_alloc, size_wr, size_drew] <;> omega)))) only [go_sem, ↓reduceIte, n0, reduceCtorEq, n1, n2, n3, n4, n5, i0, i1, i2, i3, i4, i5, i6, i7, hr0, hr3, hbt_7, hb_7, hgv_7, cellsAt_five]
      have hE_7d : Ext w_7 w_7.drew := (Upd.refl _ _).drew
      have hg_7d := hg_7.ext (Rep1_lay _ _ fun _ => RepS_lay true (d + 2) _) hE_7d
      have hzd : w_7.drew.heap.size = w_7.heap.size := size_drew _
      have hbt_7d := hE_7d.blk_some hbt_7 id
      refine (makeStopReplicaRequestTopic_fn (d := d) (okT := (OkS okT w.heap.size)) (V := V) y _ w_7.drew (hc_7.keep (hE_7d.keeps _)) (hgx.2.2 rfl) hLx).mono ?_
      rintro r8 w_8 ⟨⟨cs8, rfl, hc_8⟩, hE_8⟩
      obtain ⟨hfl_8, hcl_8⟩ := (RepS_lay true (d + 2) fs_StopReplicaRequestTopic).flat hc_8
      obtain ⟨y0, y1, y2, y3, y4, rfl⟩ : ∃ y0 y1 y2 y3 y4, cs8 = [y0, y1, y2, y3, y4] := by
        have hcl_8' : cs8.length = 5 := hcl_8
        match cs8, hcl_8' with
        | [y0, y1, y2, y3, y4], _ => exact ⟨y0, y1, y2, y3, y4, rfl⟩
      simp only [List.all_cons, List.all_nil, Bool.and_true, Bool.and_eq_true] at hfl_8
      obtain ⟨fy0, fy1, fy2, fy3, fy4⟩ := hfl_8
      have hz_8 := hE_8.size
      have hM_8 : Upd (ownB v) w_7.drew w_8 := hE_8.mono (fun _ h => h.elim)
      refine ⟨hM_8, ?_⟩
      have hE_9 : Ext w_8 (w_8.alloc (.cells #[y0, y1, y2, y3, y4] 185)) := Upd.alloc (Upd.refl _ _) _
      have hM_9 : Upd (ownB v) w_7.drew (w_8.alloc (.cells #[y0, y1, y2, y3, y4] 185)) := hM_8.alloc _
      simp (maxSteps := 1000000) (disch := (first | omega | (simp only [World.size_alloc, size_wr, size_drew] <;> omega) | exact not_noB _)) only [go_sem, ↓reduceIte, n0, reduceCtorEq, n1, n2, n3, n4, n5, i0, i1, i2, i3, i4, i5, i6, i7, hr0, hr3, hbt_7d, fy0, fy1, fy2, fy3, fy4]
      refine ⟨hM_9, ?_⟩
      have hE_79 : Ext w_7.drew (w_8.alloc (.cells #[y0, y1, y2, y3, y4] 185)) := hE_8.trans hE_9
      have hg_9 := (hg_7d.ext (Rep1_lay _ _ fun _ => RepS_lay true (d + 2) _) hE_8).ext (Rep1_lay _ _ fun _ => RepS_lay true (d + 2) _) hE_9
      have hx_9 : Rep1 (RepS true (d + 2)) fStopReplicaRequest_5.of fStopReplicaRequest_5.sub (fun b => (OkF okT w.heap.size w1.heap.size) b ∧ b ≠ vb ∧ ¬ ownB v b) (w_8.alloc (.cells #[y0, y1, y2, y3, y4] 185)) y [y0, y1, y2, y3, y4] :=
        Rep1_part.2 (((RepS_lay true (d + 2) fs_StopReplicaRequestTopic).keep hc_8 (hE_9.keeps _)) |> fun h => (RepS_lay true (d + 2) fs_StopReplicaRequestTopic).weaken h fun b _ hk => by
          rcases hk with hk | hk
          · exact ⟨.inl hk, hoS b hk, fun h => by have := hg.above h; have := hk.2; omega⟩
          · exact ⟨.inr (by omega), by omega, fun h => by have := hg.below h; omega⟩)
      obtain ⟨css, hown, hall⟩ := hg_9.ex
      have hcl_9 := hall.1
      refine wp_append ap_108_108 (m := 1) (news := [y0, y1, y2, y3, y4]) (n := css.length) (cs := css.flatten) (v := v) ?_ rfl hown.1 (all2_flat_R (Rep1_lay _ _ fun _ => RepS_lay true (d + 2) _) hall) (Src.blk (fr := (0, 0)) (T := 185) (blk_alloc_new (by first | rfl | omega | (simp only [size_drew]; omega))) rfl (by simp only [List.all_cons, List.all_nil, Bool.and_true, Bool.and_eq_true]; exact ⟨fy0, fy1, fy2, fy3, fy4⟩)) ?_ ?_ ?_
      · simp (maxSteps := 1000000) (disch := (first | omega | (simp only [World.size_alloc, size_wr, size_drew] <;> omega) | exact not_noB _)) only [go_sem, ↓reduceIte, n0, reduceCtorEq, n1, n2, n3, n4, n5, i0, i1, i2, i3, i4, i5, i6, i7]
      · simp only [World.size_alloc, size_drew]; omega
      · omega
      intro v' w_10 ho hu hfr
      have hg_10 := GrowR.snoc (Rep1_lay _ _ fun _ => RepS_lay true (d + 2) _) hown hall hx_9 hu hfr ho
      have hz_10 := hu.size
      simp only [World.size_alloc, size_drew] at hz_10
      obtain ⟨va, vc, hv', _⟩ := ho.shape
      subst hv'
      have hbt_10 := (hM_9.trans hu).blk_some hbt_7d (hnb _ (.inl hvlB5))
      have htb' : ¬ ownB (.slice va (css.length + 1) vc) vb := fun h => by
        rcases hfr _ h with h | h
        · exact hnb _ (.inl hvlB5) h
        · simp only [World.size_alloc, size_drew] at h; omega
      simp (maxSteps := 1000000) (disch := (first | omega | (simp only [World.size_alloc, size_wr, size_drew] <;> omega) | exact not_noB _)) only [go_sem, ↓reduceIte, n0, reduceCtorEq, n1, n2, n3, n4, n5, i0, i1, i2, i3, i4, i5, i6, i7]
      refine ⟨hM_9.trans hu, ?_⟩
      simp (maxSteps := 1000000) (disch := (first | omega | (simp only [World.size_alloc, size_wr, size_drew] <;> omega) | exact not_noB _)) only [go_sem, ↓reduceIte, n0, reduceCtorEq, n1, n2, n3, n4, n5, i0, i1, i2, i3, i4, i5, i6, i7, hr0, hr3, hbt_10]
      repeat ((first | refine W.seqR rfl ?_ | refine W.seq ?_ | refine W.regR rfl ?_ | refine W.condK ?_ | refine W.block ?_ | refine W.skip ?_ | refine W.ret ?_ | refine W.exit ?_); try simp (maxSteps := 1000000) (disch := (first | omega | (simp only [World.size_alloc, size_wr, size_drew] <;> omega) | exact not_noB _)) only [go_sem, ↓reduceIte, n0, reduceCtorEq, n1, n2, n3, n4, n5, i0, i1, i2, i3, i4, i5, i6, i7, hI])
      refine ⟨⟨j + 1, .slice va (css.length + 1) vc, by omega, rfl, hN, hS, hr0, hr3, ?_, ?_, ?_, ?_⟩, ?_⟩
      · simp (maxSteps := 1000000) (disch := (first | omega | (simp only [World.size_alloc, size_wr, size_drew] <;> omega) | exact not_noB _)) only [go_sem, ↓reduceIte, n0, reduceCtorEq, n1, n2, n3, n4, n5, i0, i1, i2, i3, i4, i5, i6, i7, hbt_10]
      · rw [hcat]; exact hg_10.upd (Rep1_lay _ _ fun _ => RepS_lay true (d + 2) _) ((Upd.refl _ _).wr _ _ (.inr rfl)) htb'
      · intro h; cases h
      · refine Upd.wr ?_ _ _ (.inr (.inl rfl))
        exact hU_6.more (((hE_7.mono fun _ h => h.elim).trans (hE_7d.mono fun _ h => h.elim)).trans (hM_9.trans hu)) fun b hb h => .inr (hg.above h)
      · simp only [RowKit.intOf]; omega
    · have hjl : j = (t.at 5).l.length := by omega
      subst hjl
      rw [List.take_length] at hg
      repeat ((first | refine W.seqR rfl ?_ | refine W.seq ?_ | refine W.regR rfl ?_ | refine W.condK ?_ | refine W.block ?_ | refine W.skip ?_ | refine W.ret ?_ | refine W.exit ?_); try simp (maxSteps := 1000000) (disch := (first | omega | (simp only [World.size_alloc, size_wr, size_drew] <;> omega) | exact not_noB _)) only [go_sem, ↓reduceIte, n0, reduceCtorEq, n1, n2, n3, n4, n5, i0, i1, i2, i3, i4, i5, i6, i7, hI, hN])
      exact ⟨v, hr0, hr3, hbv, hg, hnil, hU_6⟩
  · rintro ρ w16 ⟨v5, hr0, hr3, hb16, hg16, hnil5, hK16⟩
    have hV16 : Upd (fun b => b = vb) w13 w16 := hVb5.more hK16 fun b hb h => h.elim id fun h => absurd h (by omega)
    have hU16 : Upd (fun b => b = vb) w1 w16 := hU13.trans hV16
    have htb16 := hU16.blk_some htb1 htv
    have hvl16 : vb < w16.heap.size := Nat.lt_of_lt_of_le hvl1 hU16.size
    have hsz16 := hU16.size
    clear hvl15 hsz15
    obtain ⟨al5, kl5, rfl, _⟩ := hg16.shape
    have hf5 : RepF (RepS true (d + 2)) (szS true (d + 2)) fStopReplicaRequest_5 (OkF okT w.heap.size w1.heap.size) w16 (t.at 5) [.slice al5 (t.at 5).l.length kl5] := (RepF_list rfl hn0_5).2 ⟨_, rfl, hg16.sl (Rep1_lay _ _ fun _ => RepS_lay true (d + 2) _) (fun _ _ h => h) (fun b hb => .inr (by omega)), hg16.some hnil5⟩
    repeat ((first | refine W.seqR rfl ?_ | refine W.seq ?_ | refine W.regR rfl ?_ | refine W.condK ?_ | refine W.block ?_ | refine W.skip ?_ | refine W.ret ?_ | refine W.exit ?_); try simp (maxSteps := 1000000) (disch := (first | omega | (simp only [World.size_alloc, size_wr, size_drew] <;> omega) | exact not_noB _)) only [go_sem, ↓reduceIte, n0, reduceCtorEq, n1, n2, n3, n4, n5, i0, i1, i2, i3, i4, i5, i6, i7, hb16, htb16, hr0, hr3])
    have hUv := hU1v.keep (hU16.keeps fun b _ hk e => hoS b hk e)
    refine W.loop (fun ρ w' => ∃ (j : Nat) (q : Option Nat), j ≤ t.u.length ∧ ρ 79 = .int .i64 j ∧ ρ 78 = .int .i64 t.u.length ∧ ρ 77 = .slice bU t.u.length cU ∧ ρ 0 = .pointer (some ⟨vb, 0, none⟩) ∧ ρ 3 = .pointer (some ⟨w.heap.size, 0, none⟩) ∧ blk w' vb = some (#[.int .i16 ver, .int .i32 (IntKind.i32.wrap (t.at 0).n), .int .i32 (IntKind.i32.wrap (t.at 1).n), .bool (decide ((t.at 2).n % 2 = 1)), .int .i64 (t.at 3).n, .bool (decide ((t.at 4).n % 2 = 1)), .slice al5 (t.at 5).l.length kl5, .map q], 110, (0, 0)) ∧ TagsG (OkS okT w.heap.size) w16.heap.size w' (.map q) (t.u.take j) ∧ Upd (fun b => b = vb) w16 w')
        (fun ρ _ => t.u.length - (RowKit.intOf (ρ 79)).toNat) ?_ ?_
    · refine ⟨0, none, Nat.zero_le _, ?_, ?_, ?_, ?_, ?_, hb16, TagsG.start _ _ _, Upd.refl _ _⟩ <;> simp (maxSteps := 1000000) (disch := (first | omega | (simp only [World.size_alloc, size_wr, size_drew] <;> omega) | exact not_noB _)) only [go_sem, ↓reduceIte, n0, reduceCtorEq, n1, n2, n3, n4, n5, i0, i1, i2, i3, i4, i5, i6, i7, hr0, hr3]
      all_goals rfl
    · rintro ρ w_6 ⟨j, q, hj, hI, hN, hS, hr0, hr3, hbv, hG, hU_6⟩
      have hz_6 := hU_6.size
      have hUv_6 := hUv.keep (hU_6.keeps fun b _ hk e => hoS b hk e)
      have hU_16 : Upd (fun b => b = vb) w1 w_6 := hU16.trans hU_6
      have hz_16 := hU_16.size
      by_cases hlt : j < t.u.length
      · obtain ⟨_, b, o, x, vv, hb, hokb, hx, hblt, hxs, hxe, _, _, hfv, hbvv, h32⟩ := TagsV.get hUv_6 hlt
        subst hb
        have hcat : t.u.take (j + 1) = t.u.take j ++ [t.u[j]] := List.take_succ_eq_append_getElem hlt
        have hnew : ∀ z ∈ t.u.take j, z.1 ≠ t.u[j].1 := by
          intro z hz
          obtain ⟨k, hk, rfl⟩ := List.getElem_of_mem hz
          simp only [List.length_take] at hk
          have := List.pairwise_iff_getElem.1 hfu.2.2 k j (by omega) hlt (by omega)
          rw [List.getElem_take]; omega
        generalize t.u[j] = y at *
        obtain ⟨bSy, cSy, rfl, hcSy⟩ := hbvv.shape
        repeat ((first | refine W.seqR rfl ?_ | refine W.seq ?_ | refine W.regR rfl ?_ | refine W.condK ?_ | refine W.block ?_ | refine W.skip ?_ | refine W.ret ?_ | refine W.exit ?_); try simp (maxSteps := 1000000) (disch := (first | omega | (simp only [World.size_alloc, size_wr, size_drew] <;> omega) | exact not_noB _)) only [go_sem, ↓reduceIte, n0, reduceCtorEq, n1, n2, n3, n4, n5, i0, i1, i2, i3, i4, i5, i6, i7, hI, hN, hS, hx, hxe, hfv, cellsAt_two, Int.toNat_natCast])
        generalize hw_7 : (wr (w_6.alloc (.cells #[.int .u32 0, .slice none 0 0] 64)) w_6.heap.size 0 [.int .u32 y.1, .slice bSy y.2.length cSy]) = w_7
        have hE_7 : Ext w_6 w_7 := by rw [← hw_7]; exact (Upd.alloc (Upd.refl _ _) _).wr _ _ (.inl (Nat.le_refl _))
        have hb_7 : blk w_7 w_6.heap.size = some (#[.int .u32 y.1, .slice bSy y.2.length cSy], 64, (0, 0)) := by rw [← hw_7]; simp (maxSteps := 1000000) (disch := (first | omega | (simp only [World.size_alloc, size_wr, size_drew] <;> omega) | exact not_noB _)) only [go_sem, ↓reduceIte, n0, reduceCtorEq, n1, n2, n3, n4, n5, i0, i1, i2, i3, i4, i5, i6, i7]
        have hz_7 : w_7.heap.size = w_6.heap.size + 1 := by rw [← hw_7]; simp only [size_wr, World.size_alloc]
        clear hw_7
        have hbt_7 := hE_7.blk_some hbv id
        have hnb : ∀ b, b = w_6.heap.size → ¬ (b = vb ∨ Value.map q = .map (some b)) := fun b hb h => by
          rcases h with h | h
          · omega
          · cases h; have := (hG.lt rfl).1; omega
        refine W.drawR (.take 0 (.take 1 (.take 2 (.take 3 (.take 4 (.take 5 (.take 6 (.only 7 .done)))))))) (fun b => b = vb ∨ Value.map q = .map (some b)) mixed (by kernel_rfl) ?_
        simp (maxSteps := 1000000) (disch := (first | omega | (simp only [World.size_alloc, size_wr, size_drew] <;> omega) | exact not_noB _ | (refine hnb _ ?_; first | omega | (simp only [World.size_alloc, size_wr, size_drew] <;> omega)))) only [go_sem, ↓reduceIte, n0, reduceCtorEq, n1, n2, n3, n4, n5, i0, i1, i2, i3, i4, i5, i6, i7, hr0, hr3, hbt_7, hb_7, cellsAt_two]
        have hE_7d : Ext w_7 w_7.drew := (Upd.refl _ _).drew
        have hE_6d : Ext w_6 w_7.drew := hE_7.trans hE_7d
        have hG_7 : TagsG (OkS okT w.heap.size) w16.heap.size w_7.drew (.map q) (t.u.take j) := hG.keep fun b hb _ => hE_6d.keep b hb id
        have hbt_8 := hE_7d.blk_some hbt_7 id
        have hm_8 : (#[.int .i16 ver, .int .i32 (IntKind.i32.wrap (t.at 0).n), .int .i32 (IntKind.i32.wrap (t.at 1).n), .bool (decide ((t.at 2).n % 2 = 1)), .int .i64 (t.at 3).n, .bool (decide ((t.at 4).n % 2 = 1)), .slice al5 (t.at 5).l.length kl5, .map q] : Array Value)[7]? = some (.map q) := rfl
        refine (TagsSet_fn (okT := (OkS okT w.heap.size)) (L := w16.heap.size) w_7.drew hG_7 (by have := hE_6d.size; omega) (by omega) hbt_8 (o := 7) hm_8 (thaw_00 _ _) y _ ((hbvv.weaken fun b _ hk => ⟨hk, by have := hk.2; omega⟩).keep (hE_6d.keeps _)) h32 hnew hoS).mono ?_
        rintro _ w_8 ⟨m', hb_8, hG_8, hM_8⟩
        simp only [List.setIfInBounds_toArray, List.set_cons_succ, List.set_cons_zero] at hb_8
        refine ⟨hM_8, ?_⟩
        repeat ((first | refine W.seqR rfl ?_ | refine W.seq ?_ | refine W.regR rfl ?_ | refine W.condK ?_ | refine W.block ?_ | refine W.skip ?_ | refine W.ret ?_ | refine W.exit ?_); try simp (maxSteps := 1000000) (disch := (first | omega | (simp only [World.size_alloc, size_wr, size_drew] <;> omega) | exact not_noB _)) only [go_sem, ↓reduceIte, n0, reduceCtorEq, n1, n2, n3, n4, n5, i0, i1, i2, i3, i4, i5, i6, i7, hI])
        refine ⟨⟨j + 1, m', by omega, rfl, hN, hS, hr0, hr3, hb_8, by rw [hcat]; exact hG_8, ?_⟩, ?_⟩
        · exact hU_6.more ((hE_6d.mono fun _ h => h.elim).trans hM_8) fun b hb h => by
            rcases h with h | h
            · exact h
            · cases h; have := (hG.lt rfl).2; omega
        · simp only [RowKit.intOf]; omega
      · have hjl : j = t.u.length := by omega
        subst hjl
        rw [List.take_length] at hG
        have hT13 : Upd (fun b => b = vb) w13 w_6 := hV16.trans hU_6
        have hT12 : Upd (fun b => b = vb) w12 w_6 := hV13.trans hT13
        have hT11 : Upd (fun b => b = vb) w11 w_6 := hV12.trans hT12
        have hT10 : Upd (fun b => b = vb) w10 w_6 := hV11.trans hT11
        have hT9 : Upd (fun b => b = vb) w9 w_6 := hV10.trans hT10
        have hT8 : Upd (fun b => b = vb) w8 w_6 := hV9.trans hT9
        have hT7 : Upd (fun b => b = vb) w7 w_6 := hV8.trans hT8
        have hT6 : Upd (fun b => b = vb) w6 w_6 := hV7.trans hT7
        have hT5 : Upd (fun b => b = vb) w5 w_6 := hV6.trans hT6
        have hT4 : Upd (fun b => b = vb) w4 w_6 := hV5.trans hT5
        have hT3 : Upd (fun b => b = vb) w3 w_6 := hV4.trans hT4
        have hT2 : Upd (fun b => b = vb) w2 w_6 := hV3.trans hT3
        have hT1 : Upd (fun b => b = vb) w1 w_6 := hV2.trans hT2
        have hz0_f := hf0.keepS (hT3.keeps fun b _ hk e => hoF b hk e)
        have hz1_f := hf1.keepS (hT5.keeps fun b _ hk e => hoF b hk e)
        have hz2_f := hf2.keepS (hT7.keeps fun b _ hk e => hoF b hk e)
        have hz3_f := hf3.keepS (hT9.keeps fun b _ hk e => hoF b hk e)
        have hz4_f := hf4.keepS (hT11.keeps fun b _ hk e => hoF b hk e)
        have hz5_f := hf5.keepS (hU_6.keeps fun b _ hk e => hoF b hk e)
        have hTg := hG.tags (ok' := (OkF okT w.heap.size w1.heap.size)) (fun b _ hk => .inl hk) (fun b hb => .inr (by omega))
        have hL : RepL (RepS true (d + 2)) (szS true (d + 2)) (OkF okT w.heap.size w1.heap.size) w_6 t [fStopReplicaRequest_0, fStopReplicaRequest_1, fStopReplicaRequest_2, fStopReplicaRequest_3, fStopReplicaRequest_4, fStopReplicaRequest_5] 0 [.int .i32 (IntKind.i32.wrap (t.at 0).n), .int .i32 (IntKind.i32.wrap (t.at 1).n), .bool (decide ((t.at 2).n % 2 = 1)), .int .i64 (t.at 3).n, .bool (decide ((t.at 4).n % 2 = 1)), .slice al5 (t.at 5).l.length kl5] := (RepL.cons1 hz0_f (RepL.cons1 hz1_f (RepL.cons1 hz2_f (RepL.cons1 hz3_f (RepL.cons1 hz4_f (RepL.cons1 hz5_f RepL.nil))))))
        have hR : RepS true (d + 3) fs_StopReplicaRequest (OkF okT w.heap.size w1.heap.size) w_6 t [.int .i32 (IntKind.i32.wrap (t.at 0).n), .int .i32 (IntKind.i32.wrap (t.at 1).n), .bool (decide ((t.at 2).n % 2 = 1)), .int .i64 (t.at 3).n, .bool (decide ((t.at 4).n % 2 = 1)), .slice al5 (t.at 5).l.length kl5, .map q] := RepS.intro (c := [.int .i32 (IntKind.i32.wrap (t.at 0).n), .int .i32 (IntKind.i32.wrap (t.at 1).n), .bool (decide ((t.at 2).n % 2 = 1)), .int .i64 (t.at 3).n, .bool (decide ((t.at 4).n % 2 = 1)), .slice al5 (t.at 5).l.length kl5]) rfl hL hTg
        repeat ((first | refine W.seqR rfl ?_ | refine W.seq ?_ | refine W.regR rfl ?_ | refine W.condK ?_ | refine W.block ?_ | refine W.skip ?_ | refine W.ret ?_ | refine W.exit ?_); try simp (maxSteps := 1000000) (disch := (first | omega | (simp only [World.size_alloc, size_wr, size_drew] <;> omega) | exact not_noB _)) only [go_sem, ↓reduceIte, n0, reduceCtorEq, n1, n2, n3, n4, n5, i0, i1, i2, i3, i4, i5, i6, i7, hI, hN])
        exact ⟨_, hbv, (RepS_lay true (d + 3) fs_StopReplicaRequest).weaken hR (fun b _ hk => hk.imp And.left fun h => by omega), Upd.more (hE1.mono fun _ h => h.elim) hT1 fun _ _ h => h⟩
end Ms

