/- A part of the proof: see the last text. -/
import Derived.Test.YtaebchgadbafjaaC08
import Derived.Test.YtaebchgadbafjaaBeginQuorumEpochRequestP0
set_option linter.unusedSimpArgs false
set_option linter.unusedVariables false
namespace Ms
open Nat renaming reduceEqDiff → n0, reduceAdd → n1, reduceMul → n2, reduceSub → n3, reduceLT → n4, reduceLeDiff → n5
open Int renaming reduceEq → i0, reduceLT → i1, reduceLE → i2, reduceNeg → i3, reduceAdd → i4, reduceSub → i5, reduceMul → i6, reduceToNat → i7
set_option maxRecDepth 8000
open Go Go.Proofs Go.Shelf
attribute [local congr] W_congr WPsq_congr WPp_congr optK_congr addrK_congr intK_congr boolK_congr sliceK_congr tupleK_congr funcK_congr Fn_congr rawK_congr takeK_congr stepK_congr convK_congr aggK_congr

def fBeginQuorumEpochRequestTopicPartition_0 : Fld := .mk 3 0 (-1) (-1) (-1) 0 0 []
def fBeginQuorumEpochRequestTopicPartition_1 : Fld := .mk 7 1 (-1) (-1) (-1) 0 0 []
def fBeginQuorumEpochRequestTopicPartition_2 : Fld := .mk 3 0 (-1) (-1) (-1) 0 0 []
def fBeginQuorumEpochRequestTopicPartition_3 : Fld := .mk 3 0 (-1) (-1) (-1) 0 0 []
def fs_BeginQuorumEpochRequestTopicPartition : List Fld := [fBeginQuorumEpochRequestTopicPartition_0, fBeginQuorumEpochRequestTopicPartition_1, fBeginQuorumEpochRequestTopicPartition_2, fBeginQuorumEpochRequestTopicPartition_3]
def fBeginQuorumEpochRequestTopic_0 : Fld := .mk 8 0 (-1) (-1) (-1) 0 0 []
def fBeginQuorumEpochRequestTopic_1 : Fld := .mk 11 0 (-1) (-1) (-1) 0 10 fs_BeginQuorumEpochRequestTopicPartition
def fs_BeginQuorumEpochRequestTopic : List Fld := [fBeginQuorumEpochRequestTopic_0, fBeginQuorumEpochRequestTopic_1]
def fBeginQuorumEpochRequestLeaderEndpoint_0 : Fld := .mk 8 0 (-1) (-1) (-1) 0 0 []
def fBeginQuorumEpochRequestLeaderEndpoint_1 : Fld := .mk 8 0 (-1) (-1) (-1) 0 0 []
def fBeginQuorumEpochRequestLeaderEndpoint_2 : Fld := .mk 5 0 (-1) (-1) (-1) 0 0 []
def fs_BeginQuorumEpochRequestLeaderEndpoint : List Fld := [fBeginQuorumEpochRequestLeaderEndpoint_0, fBeginQuorumEpochRequestLeaderEndpoint_1, fBeginQuorumEpochRequestLeaderEndpoint_2]
def fBeginQuorumEpochRequest_0 : Fld := .mk 8 0 (-1) 0 (-1) 0 0 []
def fBeginQuorumEpochRequest_1 : Fld := .mk 3 1 (-1) (-1) (-1) (-1) 0 []
def fBeginQuorumEpochRequest_2 : Fld := .mk 11 0 (-1) (-1) (-1) 0 10 fs_BeginQuorumEpochRequestTopic
def fBeginQuorumEpochRequest_3 : Fld := .mk 11 1 (-1) (-1) (-1) 0 10 fs_BeginQuorumEpochRequestLeaderEndpoint
def fs_BeginQuorumEpochRequest : List Fld := [fBeginQuorumEpochRequest_0, fBeginQuorumEpochRequest_1, fBeginQuorumEpochRequest_2, fBeginQuorumEpochRequest_3]

set_option maxHeartbeats 2000000 in
theorem makeBeginQuorumEpochRequestTopicPartition_fn {d : Nat} {okT : Blocks} {V : Int} (t : Tree) (ct : List Value) (w : World) (ht : TreeC okT w t ct) (hfit : FitP V (d + 1) fs_BeginQuorumEpochRequestTopicPartition t) (hLs : Lists t) :
    Fn Try.prog 182 #[.agg ct.toArray] w fun r w' => (∃ cs, r = .agg cs.toArray ∧ RepS true (d + 1) fs_BeginQuorumEpochRequestTopicPartition (okN okT w.heap.size) w' t cs) ∧ Ext w w' := by
  obtain ⟨vS, vL, vU, rfl, hn, hSx, hLx0, hUx⟩ := ht.inv
  obtain ⟨bS, cS, rfl, hcS⟩ := hSx.shape
  obtain ⟨bL, cL, rfl, hcL⟩ := SlR.shape hLx0
  obtain ⟨bU, cU, rfl, hcU⟩ := SlR.shape hUx
  obtain ⟨⟨g0, g1, g2, g3, -⟩, hfu⟩ := hfit
  replace g0 : FitF (FitP V d) V fBeginQuorumEpochRequestTopicPartition_0 (t.at 0) := g0
  replace g1 : FitF (FitP V d) V fBeginQuorumEpochRequestTopicPartition_1 (t.at 1) := g1
  replace g2 : FitF (FitP V d) V fBeginQuorumEpochRequestTopicPartition_2 (t.at 2) := g2
  replace g3 : FitF (FitP V d) V fBeginQuorumEpochRequestTopicPartition_3 (t.at 3) := g3
  have hllt : t.l.length < 4611686018427387903 := Nat.lt_of_le_of_lt hLs.len (by decide)
  have hul := hLs.ulen
  refine fn_of_W Try.func182 rfl Try.results182 Try.ntmps182 rfl ?_
  obtain ⟨w1, hw1⟩ : ∃ w1, w1 = (((w.alloc (.cells #[.int .i64 t.n, .slice bS t.s.length cS, .bool t.null, .slice bL t.l.length cL, .slice bU t.u.length cU] 39)).alloc (.cells #[.int .i32 0, .int .u8 0, .int .u8 0, .int .u8 0, .int .u8 0, .int .u8 0, .int .u8 0, .int .u8 0, .int .u8 0, .int .u8 0, .int .u8 0, .int .u8 0, .int .u8 0, .int .u8 0, .int .u8 0, .int .u8 0, .int .u8 0, .int .i32 0, .int .i32 0, .map none] 203)).alloc (.cells #[.int .i32 0, .int .u8 0, .int .u8 0, .int .u8 0, .int .u8 0, .int .u8 0, .int .u8 0, .int .u8 0, .int .u8 0, .int .u8 0, .int .u8 0, .int .u8 0, .int .u8 0, .int .u8 0, .int .u8 0, .int .u8 0, .int .u8 0, .int .i32 0, .int .i32 0, .map none] 203)) := ⟨_, rfl⟩
  have hE1 : Ext w w1 := by rw [hw1]; exact ((Upd.refl _ _).alloc _).alloc _ |>.alloc _
  have hz1 : w1.heap.size = w.heap.size + 3 := by rw [hw1]; simp only [World.size_alloc]
  have htb1 : blk w1 w.heap.size = some (#[.int .i64 t.n, .slice bS t.s.length cS, .bool t.null, .slice bL t.l.length cL, .slice bU t.u.length cU], 39, (0, 0)) := by rw [hw1]; simp (maxSteps := 1000000) (disch := (first | omega | (simp only [World.size_alloc, size_wr, size_drew] <;> omega) | exact not_noB _)) only [go_sem, ↓reduceIte, n0, reduceCtorEq, n1, n2, n3, n4, n5, i0, i1, i2, i3, i4, i5, i6, i7]
  have hrb1 : blk w1 (w.heap.size + 1) = some (#[.int .i32 0, .int .u8 0, .int .u8 0, .int .u8 0, .int .u8 0, .int .u8 0, .int .u8 0, .int .u8 0, .int .u8 0, .int .u8 0, .int .u8 0, .int .u8 0, .int .u8 0, .int .u8 0, .int .u8 0, .int .u8 0, .int .u8 0, .int .i32 0, .int .i32 0, .map none], 203, (0, 0)) := by rw [hw1]; simp (maxSteps := 1000000) (disch := (first | omega | (simp only [World.size_alloc, size_wr, size_drew] <;> omega) | exact not_noB _)) only [go_sem, ↓reduceIte, n0, reduceCtorEq, n1, n2, n3, n4, n5, i0, i1, i2, i3, i4, i5, i6, i7]
  have hb1 : blk w1 (w.heap.size + 2) = some (#[.int .i32 0, .int .u8 0, .int .u8 0, .int .u8 0, .int .u8 0, .int .u8 0, .int .u8 0, .int .u8 0, .int .u8 0, .int .u8 0, .int .u8 0, .int .u8 0, .int .u8 0, .int .u8 0, .int .u8 0, .int .u8 0, .int .u8 0, .int .i32 0, .int .i32 0, .map none], 203, (0, 0)) := by rw [hw1]; simp (maxSteps := 1000000) (disch := (first | omega | (simp only [World.size_alloc, size_wr, size_drew] <;> omega) | exact not_noB _)) only [go_sem, ↓reduceIte, n0, reduceCtorEq, n1, n2, n3, n4, n5, i0, i1, i2, i3, i4, i5, i6, i7]
  have hoS : ∀ b, (OkS okT w.heap.size) b → b ≠ (w.heap.size + 2) := fun b h => by have := h.2; omega
  have hoR : ∀ b, (OkF okT w.heap.size w1.heap.size) b → b ≠ w.heap.size + 1 := fun b h => by
    rcases h with h | h
    · have := h.2; omega
    · omega
  have htv : ¬ w.heap.size = (w.heap.size + 2) := by omega
  have hoF : ∀ b, (OkF okT w.heap.size w1.heap.size) b → b ≠ (w.heap.size + 2) := fun b h => by
    rcases h with h | h
    · exact hoS b h
    · omega
  have hU1 : Upd (fun b => b = (w.heap.size + 2)) w1 w1 := Upd.refl _ _
  have hvl1 := blk_lt hb1
  have hsz1 := Nat.le_refl w1.heap.size
  have ht1 : TreeC (OkS okT w.heap.size) w1 t [.int .i64 t.n, .slice bS t.s.length cS, .bool t.null, .slice bL t.l.length cL, .slice bU t.u.length cU] := (ht.weaken fun b h1 h2 => ⟨h2, h1⟩).keep (hE1.keeps _)
  have hU1v : TagsV (OkS okT w.heap.size) w1 (.slice bU t.u.length cU) t.u := (hUx.weaken fun b h1 h2 => ⟨h2, h1⟩).keep (hE1.keeps _)
  repeat ((first | refine W.seqR rfl ?_ | refine W.seq ?_ | refine W.regR rfl ?_ | refine W.condK ?_ | refine W.block ?_ | refine W.skip ?_ | refine W.ret ?_ | refine W.exit ?_); try simp (maxSteps := 1000000) (disch := (first | omega | (simp only [World.size_alloc, size_wr, size_drew] <;> omega) | exact not_noB _)) only [go_sem, ↓reduceIte, n0, reduceCtorEq, n1, n2, n3, n4, n5, i0, i1, i2, i3, i4, i5, i6, i7])
  rw [← hw1]
  clear hw1
  refine (iat_fn (ok := (OkS okT w.heap.size)) t 0 _ _ (ht1.keep (hU1.keeps fun b _ hk e => hoS b hk e)) (by decide) hllt).mono ?_
  rintro r2 w2 ⟨⟨ca2, rfl, hca2⟩, hEa2⟩
  obtain ⟨vSa2, vLa2, vUa2, rfl, hna2, hSa2, hLa2, hUa2⟩ := hca2.inv
  obtain ⟨bSa2, cSa2, rfl, hcSa2⟩ := hSa2.shape
  obtain ⟨bLa2, cLa2, rfl, hcLa2⟩ := SlR.shape hLa2
  have hfU2 := SlR.flat hUa2
  clear hcSa2 hcLa2 hna2
  have hV2 : Upd (fun b => b = (w.heap.size + 2)) w1 w2 := hEa2.mono fun _ h => h.elim
  have hU2 : Upd (fun b => b = (w.heap.size + 2)) w1 w2 := hU1.trans hV2
  have htb2 := hU2.blk_some htb1 htv
  have hvl2 : (w.heap.size + 2) < w2.heap.size := Nat.lt_of_lt_of_le hvl1 hU2.size
  have hsz2 := hU2.size
  have hb2 : blk w2 (w.heap.size + 2) = some (#[.int .i32 0, .int .u8 0, .int .u8 0, .int .u8 0, .int .u8 0, .int .u8 0, .int .u8 0, .int .u8 0, .int .u8 0, .int .u8 0, .int .u8 0, .int .u8 0, .int .u8 0, .int .u8 0, .int .u8 0, .int .u8 0, .int .u8 0, .int .i32 0, .int .i32 0, .map none], 203, (0, 0)) := hEa2.blk_some hb1 id
  simp (maxSteps := 1000000) (disch := (first | omega | (simp only [World.size_alloc, size_wr, size_drew] <;> omega) | exact not_noB _)) only [go_sem, ↓reduceIte, n0, reduceCtorEq, n1, n2, n3, n4, n5, i0, i1, i2, i3, i4, i5, i6, i7, hb2, htb2]
  generalize hw3 : wr w2 (w.heap.size + 2) 0 [.int .i32 (IntKind.i32.wrap (t.at 0).n)] = w3
  have hV3 : Upd (fun b => b = (w.heap.size + 2)) w2 w3 := by rw [← hw3]; exact (Upd.refl _ _).wr _ _ (.inr rfl)
  have hb3 : blk w3 (w.heap.size + 2) = some (#[.int .i32 (IntKind.i32.wrap (t.at 0).n), .int .u8 0, .int .u8 0, .int .u8 0, .int .u8 0, .int .u8 0, .int .u8 0, .int .u8 0, .int .u8 0, .int .u8 0, .int .u8 0, .int .u8 0, .int .u8 0, .int .u8 0, .int .u8 0, .int .u8 0, .int .u8 0, .int .i32 0, .int .i32 0, .map none], 203, (0, 0)) := by rw [← hw3, blk_wr_eq, hb2]; rfl
  have hU3 : Upd (fun b => b = (w.heap.size + 2)) w1 w3 := hU2.trans hV3
  have htb3 := hU3.blk_some htb1 htv
  have hvl3 : (w.heap.size + 2) < w3.heap.size := Nat.lt_of_lt_of_le hvl1 hU3.size
  have hsz3 := hU3.size
  clear hvl2 hsz2
  clear hw3
  have hf0 : RepF (RepS true d) (szS true d) fBeginQuorumEpochRequestTopicPartition_0 (OkF okT w.heap.size w1.heap.size) w3 (t.at 0) [.int .i32 (IntKind.i32.wrap (t.at 0).n)] := (RepF_num (by decide)).2 rfl
  repeat ((first | refine W.seqR rfl ?_ | refine W.seq ?_ | refine W.regR rfl ?_ | refine W.condK ?_ | refine W.block ?_ | refine W.skip ?_ | refine W.ret ?_ | refine W.exit ?_); try simp (maxSteps := 1000000) (disch := (first | omega | (simp only [World.size_alloc, size_wr, size_drew] <;> omega) | exact not_noB _)) only [go_sem, ↓reduceIte, n0, reduceCtorEq, n1, n2, n3, n4, n5, i0, i1, i2, i3, i4, i5, i6, i7, hb3, htb3])
  refine (iat_fn (ok := (OkS okT w.heap.size)) t 1 _ _ (ht1.keep (hU3.keeps fun b _ hk e => hoS b hk e)) (by decide) hllt).mono ?_
  rintro r4 w4 ⟨⟨ca4, rfl, hca4⟩, hEa4⟩
  obtain ⟨vSa4, vLa4, vUa4, rfl, hna4, hSa4, hLa4, hUa4⟩ := hca4.inv
  obtain ⟨bSa4, cSa4, rfl, hcSa4⟩ := hSa4.shape
  obtain ⟨bLa4, cLa4, rfl, hcLa4⟩ := SlR.shape hLa4
  have hfU4 := SlR.flat hUa4
  clear hcSa4 hcLa4 hna4
  have hV4 : Upd (fun b => b = (w.heap.size + 2)) w3 w4 := hEa4.mono fun _ h => h.elim
  have hU4 : Upd (fun b => b = (w.heap.size + 2)) w1 w4 := hU3.trans hV4
  have htb4 := hU4.blk_some htb1 htv
  have hvl4 : (w.heap.size + 2) < w4.heap.size := Nat.lt_of_lt_of_le hvl1 hU4.size
  have hsz4 := hU4.size
  clear hvl3 hsz3
  have hb4 : blk w4 (w.heap.size + 2) = some (#[.int .i32 (IntKind.i32.wrap (t.at 0).n), .int .u8 0, .int .u8 0, .int .u8 0, .int .u8 0, .int .u8 0, .int .u8 0, .int .u8 0, .int .u8 0, .int .u8 0, .int .u8 0, .int .u8 0, .int .u8 0, .int .u8 0, .int .u8 0, .int .u8 0, .int .u8 0, .int .i32 0, .int .i32 0, .map none], 203, (0, 0)) := hEa4.blk_some hb3 id
  simp (maxSteps := 1000000) (disch := (first | omega | (simp only [World.size_alloc, size_wr, size_drew] <;> omega) | exact not_noB _)) only [go_sem, ↓reduceIte, n0, reduceCtorEq, n1, n2, n3, n4, n5, i0, i1, i2, i3, i4, i5, i6, i7, hb4, htb4]
  refine (sixteen_fn (okT := (OkS okT w.heap.size)) _ (t.at 1).s _ hSa4).mono ?_
  rintro r5 w5 ⟨hp5, hEa5⟩
  have hsp5 := hsz4
  have hV5 : Upd (fun b => b = (w.heap.size + 2)) w4 w5 := hEa5.mono fun _ h => h.elim
  have hU5 : Upd (fun b => b = (w.heap.size + 2)) w1 w5 := hU4.trans hV5
  have htb5 := hU5.blk_some htb1 htv
  have hvl5 : (w.heap.size + 2) < w5.heap.size := Nat.lt_of_lt_of_le hvl1 hU5.size
  have hsz5 := hU5.size
  clear hvl4 hsz4
  have hb5 : blk w5 (w.heap.size + 2) = some (#[.int .i32 (IntKind.i32.wrap (t.at 0).n), .int .u8 0, .int .u8 0, .int .u8 0, .int .u8 0, .int .u8 0, .int .u8 0, .int .u8 0, .int .u8 0, .int .u8 0, .int .u8 0, .int .u8 0, .int .u8 0, .int .u8 0, .int .u8 0, .int .u8 0, .int .u8 0, .int .i32 0, .int .i32 0, .map none], 203, (0, 0)) := hEa5.blk_some hb4 id
  subst hp5
  have hl16_1 : ((uuidS (t.at 1).s).map byteV).length = 16 := by rw [List.length_map, uuidS_len]
  have hx16_1 := flat_bytes (uuidS (t.at 1).s)
  generalize hX1 : (uuidS (t.at 1).s).map byteV = X1 at *
  obtain ⟨x1_0, x1_1, x1_2, x1_3, x1_4, x1_5, x1_6, x1_7, x1_8, x1_9, x1_10, x1_11, x1_12, x1_13, x1_14, x1_15, rfl⟩ := list16 hl16_1
  simp only [List.all_cons, List.all_nil, Bool.and_true, Bool.and_eq_true] at hx16_1
  obtain ⟨fx1_0, fx1_1, fx1_2, fx1_3, fx1_4, fx1_5, fx1_6, fx1_7, fx1_8, fx1_9, fx1_10, fx1_11, fx1_12, fx1_13, fx1_14, fx1_15⟩ := hx16_1
  simp (maxSteps := 1000000) (disch := (first | omega | (simp only [World.size_alloc, size_wr, size_drew] <;> omega) | exact not_noB _)) only [go_sem, ↓reduceIte, n0, reduceCtorEq, n1, n2, n3, n4, n5, i0, i1, i2, i3, i4, i5, i6, i7, hb5, htb5, fx1_0, fx1_1, fx1_2, fx1_3, fx1_4, fx1_5, fx1_6, fx1_7, fx1_8, fx1_9, fx1_10, fx1_11, fx1_12, fx1_13, fx1_14, fx1_15]
  generalize hw6 : wr w5 (w.heap.size + 2) 1 [x1_0, x1_1, x1_2, x1_3, x1_4, x1_5, x1_6, x1_7, x1_8, x1_9, x1_10, x1_11, x1_12, x1_13, x1_14, x1_15] = w6
  have hV6 : Upd (fun b => b = (w.heap.size + 2)) w5 w6 := by rw [← hw6]; exact (Upd.refl _ _).wr _ _ (.inr rfl)
  have hb6 : blk w6 (w.heap.size + 2) = some (#[.int .i32 (IntKind.i32.wrap (t.at 0).n), x1_0, x1_1, x1_2, x1_3, x1_4, x1_5, x1_6, x1_7, x1_8, x1_9, x1_10, x1_11, x1_12, x1_13, x1_14, x1_15, .int .i32 0, .int .i32 0, .map none], 203, (0, 0)) := by rw [← hw6, blk_wr_eq, hb5]; simp only [Option.map_some, wrArr_cons, wrArr_nil, List.setIfInBounds_toArray, List.set_cons_zero, List.set_cons_succ, Nat.reduceAdd]
  have hU6 : Upd (fun b => b = (w.heap.size + 2)) w1 w6 := hU5.trans hV6
  have htb6 := hU6.blk_some htb1 htv
  have hvl6 : (w.heap.size + 2) < w6.heap.size := Nat.lt_of_lt_of_le hvl1 hU6.size
  have hsz6 := hU6.size
  clear hvl5 hsz5
  clear hw6
  have hf1 : RepF (RepS true d) (szS true d) fBeginQuorumEpochRequestTopicPartition_1 (OkF okT w.heap.size w1.heap.size) w6 (t.at 1) [x1_0, x1_1, x1_2, x1_3, x1_4, x1_5, x1_6, x1_7, x1_8, x1_9, x1_10, x1_11, x1_12, x1_13, x1_14, x1_15] := (RepF_uuid rfl).2 hX1.symm
  repeat ((first | refine W.seqR rfl ?_ | refine W.seq ?_ | refine W.regR rfl ?_ | refine W.condK ?_ | refine W.block ?_ | refine W.skip ?_ | refine W.ret ?_ | refine W.exit ?_); try simp (maxSteps := 1000000) (disch := (first | omega | (simp only [World.size_alloc, size_wr, size_drew] <;> omega) | exact not_noB _)) only [go_sem, ↓reduceIte, n0, reduceCtorEq, n1, n2, n3, n4, n5, i0, i1, i2, i3, i4, i5, i6, i7, hb6, htb6])
  refine (iat_fn (ok := (OkS okT w.heap.size)) t 2 _ _ (ht1.keep (hU6.keeps fun b _ hk e => hoS b hk e)) (by decide) hllt).mono ?_
  rintro r7 w7 ⟨⟨ca7, rfl, hca7⟩, hEa7⟩
  obtain ⟨vSa7, vLa7, vUa7, rfl, hna7, hSa7, hLa7, hUa7⟩ := hca7.inv
  obtain ⟨bSa7, cSa7, rfl, hcSa7⟩ := hSa7.shape
  obtain ⟨bLa7, cLa7, rfl, hcLa7⟩ := SlR.shape hLa7
  have hfU7 := SlR.flat hUa7
  clear hcSa7 hcLa7 hna7
  have hV7 : Upd (fun b => b = (w.heap.size + 2)) w6 w7 := hEa7.mono fun _ h => h.elim
  have hU7 : Upd (fun b => b = (w.heap.size + 2)) w1 w7 := hU6.trans hV7
  have htb7 := hU7.blk_some htb1 htv
  have hvl7 : (w.heap.size + 2) < w7.heap.size := Nat.lt_of_lt_of_le hvl1 hU7.size
  have hsz7 := hU7.size
  clear hvl6 hsz6
  have hb7 : blk w7 (w.heap.size + 2) = some (#[.int .i32 (IntKind.i32.wrap (t.at 0).n), x1_0, x1_1, x1_2, x1_3, x1_4, x1_5, x1_6, x1_7, x1_8, x1_9, x1_10, x1_11, x1_12, x1_13, x1_14, x1_15, .int .i32 0, .int .i32 0, .map none], 203, (0, 0)) := hEa7.blk_some hb6 id
  simp (maxSteps := 1000000) (disch := (first | omega | (simp only [World.size_alloc, size_wr, size_drew] <;> omega) | exact not_noB _)) only [go_sem, ↓reduceIte, n0, reduceCtorEq, n1, n2, n3, n4, n5, i0, i1, i2, i3, i4, i5, i6, i7, hb7, htb7]
  generalize hw8 : wr w7 (w.heap.size + 2) 17 [.int .i32 (IntKind.i32.wrap (t.at 2).n)] = w8
  have hV8 : Upd (fun b => b = (w.heap.size + 2)) w7 w8 := by rw [← hw8]; exact (Upd.refl _ _).wr _ _ (.inr rfl)
  have hb8 : blk w8 (w.heap.size + 2) = some (#[.int .i32 (IntKind.i32.wrap (t.at 0).n), x1_0, x1_1, x1_2, x1_3, x1_4, x1_5, x1_6, x1_7, x1_8, x1_9, x1_10, x1_11, x1_12, x1_13, x1_14, x1_15, .int .i32 (IntKind.i32.wrap (t.at 2).n), .int .i32 0, .map none], 203, (0, 0)) := by rw [← hw8, blk_wr_eq, hb7]; rfl
  have hU8 : Upd (fun b => b = (w.heap.size + 2)) w1 w8 := hU7.trans hV8
  have htb8 := hU8.blk_some htb1 htv
  have hvl8 : (w.heap.size + 2) < w8.heap.size := Nat.lt_of_lt_of_le hvl1 hU8.size
  have hsz8 := hU8.size
  clear hvl7 hsz7
  clear hw8
  have hf2 : RepF (RepS true d) (szS true d) fBeginQuorumEpochRequestTopicPartition_2 (OkF okT w.heap.size w1.heap.size) w8 (t.at 2) [.int .i32 (IntKind.i32.wrap (t.at 2).n)] := (RepF_num (by decide)).2 rfl
  repeat ((first | refine W.seqR rfl ?_ | refine W.seq ?_ | refine W.regR rfl ?_ | refine W.condK ?_ | refine W.block ?_ | refine W.skip ?_ | refine W.ret ?_ | refine W.exit ?_); try simp (maxSteps := 1000000) (disch := (first | omega | (simp only [World.size_alloc, size_wr, size_drew] <;> omega) | exact not_noB _)) only [go_sem, ↓reduceIte, n0, reduceCtorEq, n1, n2, n3, n4, n5, i0, i1, i2, i3, i4, i5, i6, i7, hb8, htb8])
  refine (iat_fn (ok := (OkS okT w.heap.size)) t 3 _ _ (ht1.keep (hU8.keeps fun b _ hk e => hoS b hk e)) (by decide) hllt).mono ?_
  rintro r9 w9 ⟨⟨ca9, rfl, hca9⟩, hEa9⟩
  obtain ⟨vSa9, vLa9, vUa9, rfl, hna9, hSa9, hLa9, hUa9⟩ := hca9.inv
  obtain ⟨bSa9, cSa9, rfl, hcSa9⟩ := hSa9.shape
  obtain ⟨bLa9, cLa9, rfl, hcLa9⟩ := SlR.shape hLa9
  have hfU9 := SlR.flat hUa9
  clear hcSa9 hcLa9 hna9
  have hV9 : Upd (fun b => b = (w.heap.size + 2)) w8 w9 := hEa9.mono fun _ h => h.elim
  have hU9 : Upd (fun b => b = (w.heap.size + 2)) w1 w9 := hU8.trans hV9
  have htb9 := hU9.blk_some htb1 htv
  have hvl9 : (w.heap.size + 2) < w9.heap.size := Nat.lt_of_lt_of_le hvl1 hU9.size
  have hsz9 := hU9.size
  clear hvl8 hsz8
  have hb9 : blk w9 (w.heap.size + 2) = some (#[.int .i32 (IntKind.i32.wrap (t.at 0).n), x1_0, x1_1, x1_2, x1_3, x1_4, x1_5, x1_6, x1_7, x1_8, x1_9, x1_10, x1_11, x1_12, x1_13, x1_14, x1_15, .int .i32 (IntKind.i32.wrap (t.at 2).n), .int .i32 0, .map none], 203, (0, 0)) := hEa9.blk_some hb8 id
  simp (maxSteps := 1000000) (disch := (first | omega | (simp only [World.size_alloc, size_wr, size_drew] <;> omega) | exact not_noB _)) only [go_sem, ↓reduceIte, n0, reduceCtorEq, n1, n2, n3, n4, n5, i0, i1, i2, i3, i4, i5, i6, i7, hb9, htb9]
  generalize hw10 : wr w9 (w.heap.size + 2) 18 [.int .i32 (IntKind.i32.wrap (t.at 3).n)] = w10
  have hV10 : Upd (fun b => b = (w.heap.size + 2)) w9 w10 := by rw [← hw10]; exact (Upd.refl _ _).wr _ _ (.inr rfl)
  have hb10 : blk w10 (w.heap.size + 2) = some (#[.int .i32 (IntKind.i32.wrap (t.at 0).n), x1_0, x1_1, x1_2, x1_3, x1_4, x1_5, x1_6, x1_7, x1_8, x1_9, x1_10, x1_11, x1_12, x1_13, x1_14, x1_15, .int .i32 (IntKind.i32.wrap (t.at 2).n), .int .i32 (IntKind.i32.wrap (t.at 3).n), .map none], 203, (0, 0)) := by rw [← hw10, blk_wr_eq, hb9]; rfl
  have hU10 : Upd (fun b => b = (w.heap.size + 2)) w1 w10 := hU9.trans hV10
  have htb10 := hU10.blk_some htb1 htv
  have hvl10 : (w.heap.size + 2) < w10.heap.size := Nat.lt_of_lt_of_le hvl1 hU10.size
  have hsz10 := hU10.size
  clear hvl9 hsz9
  clear hw10
  have hf3 : RepF (RepS true d) (szS true d) fBeginQuorumEpochRequestTopicPartition_3 (OkF okT w.heap.size w1.heap.size) w10 (t.at 3) [.int .i32 (IntKind.i32.wrap (t.at 3).n)] := (RepF_num (by decide)).2 rfl
  repeat ((first | refine W.seqR rfl ?_ | refine W.seq ?_ | refine W.regR rfl ?_ | refine W.condK ?_ | refine W.block ?_ | refine W.skip ?_ | refine W.ret ?_ | refine W.exit ?_); try simp (maxSteps := 1000000) (disch := (first | omega | (simp only [World.size_alloc, size_wr, size_drew] <;> omega) | exact not_noB _)) only [go_sem, ↓reduceIte, n0, reduceCtorEq, n1, n2, n3, n4, n5, i0, i1, i2, i3, i4, i5, i6, i7, hb10, htb10])
  have hUv := hU1v.keep (hU10.keeps fun b _ hk e => hoS b hk e)
  refine W.loop (fun ρ w' => ∃ (j : Nat) (q : Option Nat), j ≤ t.u.length ∧ ρ 29 = .int .i64 j ∧ ρ 28 = .int .i64 t.u.length ∧ ρ 27 = .slice bU t.u.length cU ∧ ρ 1 = .pointer (some ⟨w.heap.size, 0, none⟩) ∧ ρ 2 = .pointer (some ⟨w.heap.size + 1, 0, none⟩) ∧ ρ 3 = .pointer (some ⟨(w.heap.size + 2), 0, none⟩) ∧ blk w' (w.heap.size + 2) = some (#[.int .i32 (IntKind.i32.wrap (t.at 0).n), x1_0, x1_1, x1_2, x1_3, x1_4, x1_5, x1_6, x1_7, x1_8, x1_9, x1_10, x1_11, x1_12, x1_13, x1_14, x1_15, .int .i32 (IntKind.i32.wrap (t.at 2).n), .int .i32 (IntKind.i32.wrap (t.at 3).n), .map q], 203, (0, 0)) ∧ TagsG (OkS okT w.heap.size) w10.heap.size w' (.map q) (t.u.take j) ∧ Upd (fun b => b = (w.heap.size + 2)) w10 w')
      (fun ρ _ => t.u.length - (RowKit.intOf (ρ 29)).toNat) ?_ ?_
  · refine ⟨0, none, Nat.zero_le _, ?_, ?_, ?_, ?_, ?_, ?_, hb10, TagsG.start _ _ _, Upd.refl _ _⟩ <;> simp (maxSteps := 1000000) (disch := (first | omega | (simp only [World.size_alloc, size_wr, size_drew] <;> omega) | exact not_noB _)) only [go_sem, ↓reduceIte, n0, reduceCtorEq, n1, n2, n3, n4, n5, i0, i1, i2, i3, i4, i5, i6, i7]
    all_goals rfl
  · rintro ρ w_6 ⟨j, q, hj, hI, hN, hS, hr1, hr2, hr3, hbv, hG, hU_6⟩
    have hz_6 := hU_6.size
    have hUv_6 := hUv.keep (hU_6.keeps fun b _ hk e => hoS b hk e)
    have hU_16 : Upd (fun b => b = (w.heap.size + 2)) w1 w_6 := hU10.trans hU_6
    have hz_16 := hU_16.size
    by_cases hlt : j < t.u.length
    · obtain ⟨_, b, o, x, vv, hb, hokb, hx, hblt, hxs, hxe, _, _, hfv, hbvv, h32⟩ := TagsV.get hUv_6 hlt
      subst hb
      have hcat : t.u.take (j + 1) = t.u.take j ++ [t.u[j]] := List.take_succ_eq_append_getElem hlt
      have hnew : ∀ z ∈ t.u.take j, z.1 ≠ t.u[j].1 := by
        intro z hz
        obtain ⟨k, hk, rfl⟩ := List.getElem_of_mem hz
        simp only [List.length_take] at hk
        have := List.pairwise_iff_getElem.1 hfu.2.2 k j (by omega) hlt (by omega)
        rw [List.getElem_take]; omega
      generalize t.u[j] = y at *
      obtain ⟨bSy, cSy, rfl, hcSy⟩ := hbvv.shape
      repeat ((first | refine W.seqR rfl ?_ | refine W.seq ?_ | refine W.regR rfl ?_ | refine W.condK ?_ | refine W.block ?_ | refine W.skip ?_ | refine W.ret ?_ | refine W.exit ?_); try simp (maxSteps := 1000000) (disch := (first | omega | (simp only [World.size_alloc, size_wr, size_drew] <;> omega) | exact not_noB _)) only [go_sem, ↓reduceIte, n0, reduceCtorEq, n1, n2, n3, n4, n5, i0, i1, i2, i3, i4, i5, i6, i7, hI, hN, hS, hx, hxe, hfv, cellsAt_two, Int.toNat_natCast])
      generalize hw_7 : (wr (w_6.alloc (.cells #[.int .u32 0, .slice none 0 0] 64)) w_6.heap.size 0 [.int .u32 y.1, .slice bSy y.2.length cSy]) = w_7
      have hE_7 : Ext w_6 w_7 := by rw [← hw_7]; exact (Upd.alloc (Upd.refl _ _) _).wr _ _ (.inl (Nat.le_refl _))
      have hb_7 : blk w_7 w_6.heap.size = some (#[.int .u32 y.1, .slice bSy y.2.length cSy], 64, (0, 0)) := by rw [← hw_7]; simp (maxSteps := 1000000) (disch := (first | omega | (simp only [World.size_alloc, size_wr, size_drew] <;> omega) | exact not_noB _)) only [go_sem, ↓reduceIte, n0, reduceCtorEq, n1, n2, n3, n4, n5, i0, i1, i2, i3, i4, i5, i6, i7]
      have hz_7 : w_7.heap.size = w_6.heap.size + 1 := by rw [← hw_7]; simp only [size_wr, World.size_alloc]
      clear hw_7
      have hbt_7 := hE_7.blk_some hbv id
      simp (maxSteps := 1000000) (disch := (first | omega | (simp only [World.size_alloc, size_wr, size_drew] <;> omega) | exact not_noB _)) only [go_sem, ↓reduceIte, n0, reduceCtorEq, n1, n2, n3, n4, n5, i0, i1, i2, i3, i4, i5, i6, i7, hr1, hr2, hr3, hbt_7, hb_7, cellsAt_two]
      have hE_7d : Ext w_7 w_7 := Upd.refl _ _
      have hE_6d : Ext w_6 w_7 := hE_7.trans hE_7d
      have hG_7 : TagsG (OkS okT w.heap.size) w10.heap.size w_7 (.map q) (t.u.take j) := hG.keep fun b hb _ => hE_6d.keep b hb id
      have hbt_8 := hE_7d.blk_some hbt_7 id
      have hm_8 : (#[.int .i32 (IntKind.i32.wrap (t.at 0).n), x1_0, x1_1, x1_2, x1_3, x1_4, x1_5, x1_6, x1_7, x1_8, x1_9, x1_10, x1_11, x1_12, x1_13, x1_14, x1_15, .int .i32 (IntKind.i32.wrap (t.at 2).n), .int .i32 (IntKind.i32.wrap (t.at 3).n), .map q] : Array Value)[19]? = some (.map q) := rfl
      refine (TagsSet_fn (okT := (OkS okT w.heap.size)) (L := w10.heap.size) w_7 hG_7 (by have := hE_6d.size; omega) (by omega) hbt_8 (o := 19) hm_8 (thaw_00 _ _) y _ ((hbvv.weaken fun b _ hk => ⟨hk, by have := hk.2; omega⟩).keep (hE_6d.keeps _)) h32 hnew hoS).mono ?_
      rintro _ w_8 ⟨m', hb_8, hG_8, hM_8⟩
      simp only [List.setIfInBounds_toArray, List.set_cons_succ, List.set_cons_zero] at hb_8
      repeat ((first | refine W.seqR rfl ?_ | refine W.seq ?_ | refine W.regR rfl ?_ | refine W.condK ?_ | refine W.block ?_ | refine W.skip ?_ | refine W.ret ?_ | refine W.exit ?_); try simp (maxSteps := 1000000) (disch := (first | omega | (simp only [World.size_alloc, size_wr, size_drew] <;> omega) | exact not_noB _)) only [go_sem, ↓reduceIte, n0, reduceCtorEq, n1, n2, n3, n4, n5, i0, i1, i2, i3, i4, i5, i6, i7, hI])
      refine ⟨⟨j + 1, m', by omega, rfl, hN, hS, hr1, hr2, hr3, hb_8, by rw [hcat]; exact hG_8, ?_⟩, ?_⟩
      · exact hU_6.more ((hE_6d.mono fun _ h => h.elim).trans hM_8) fun b hb h => by
          rcases h with h | h
          · exact h
          · cases h; have := (hG.lt rfl).2; omega
      · simp only [RowKit.intOf]; omega
    · have hjl : j = t.u.length := by omega
      subst hjl
      rw [List.take_length] at hG
      have hT9 : Upd (fun b => b = (w.heap.size + 2)) w9 w_6 := hV10.trans hU_6
      have hT8 : Upd (fun b => b = (w.heap.size + 2)) w8 w_6 := hV9.trans hT9
      have hT7 : Upd (fun b => b = (w.heap.size + 2)) w7 w_6 := hV8.trans hT8
      have hT6 : Upd (fun b => b = (w.heap.size + 2)) w6 w_6 := hV7.trans hT7
      have hT5 : Upd (fun b => b = (w.heap.size + 2)) w5 w_6 := hV6.trans hT6
      have hT4 : Upd (fun b => b = (w.heap.size + 2)) w4 w_6 := hV5.trans hT5
      have hT3 : Upd (fun b => b = (w.heap.size + 2)) w3 w_6 := hV4.trans hT4
      have hT2 : Upd (fun b => b = (w.heap.size + 2)) w2 w_6 := hV3.trans hT3
      have hT1 : Upd (fun b => b = (w.heap.size + 2)) w1 w_6 := hV2.trans hT2
      have hz0_f := hf0.keepS (hT3.keeps fun b _ hk e => hoF b hk e)
      have hz1_f := hf1.keepS (hT6.keeps fun b _ hk e => hoF b hk e)
      have hz2_f := hf2.keepS (hT8.keeps fun b _ hk e => hoF b hk e)
      have hz3_f := hf3.keepS (hU_6.keeps fun b _ hk e => hoF b hk e)
      have hTg := hG.tags (ok' := (OkF okT w.heap.size w1.heap.size)) (fun b _ hk => .inl hk) (fun b hb => .inr (by omega))
      have hL : RepL (RepS true d) (szS true d) (OkF okT w.heap.size w1.heap.size) w_6 t [fBeginQuorumEpochRequestTopicPartition_0, fBeginQuorumEpochRequestTopicPartition_1, fBeginQuorumEpochRequestTopicPartition_2, fBeginQuorumEpochRequestTopicPartition_3] 0 [.int .i32 (IntKind.i32.wrap (t.at 0).n), x1_0, x1_1, x1_2, x1_3, x1_4, x1_5, x1_6, x1_7, x1_8, x1_9, x1_10, x1_11, x1_12, x1_13, x1_14, x1_15, .int .i32 (IntKind.i32.wrap (t.at 2).n), .int .i32 (IntKind.i32.wrap (t.at 3).n)] := (RepL.cons1 hz0_f (RepL.cons16 hz1_f (RepL.cons1 hz2_f (RepL.cons1 hz3_f RepL.nil))))
      have hR : RepS true (d + 1) fs_BeginQuorumEpochRequestTopicPartition (OkF okT w.heap.size w1.heap.size) w_6 t [.int .i32 (IntKind.i32.wrap (t.at 0).n), x1_0, x1_1, x1_2, x1_3, x1_4, x1_5, x1_6, x1_7, x1_8, x1_9, x1_10, x1_11, x1_12, x1_13, x1_14, x1_15, .int .i32 (IntKind.i32.wrap (t.at 2).n), .int .i32 (IntKind.i32.wrap (t.at 3).n), .map q] := RepS.intro (c := [.int .i32 (IntKind.i32.wrap (t.at 0).n), x1_0, x1_1, x1_2, x1_3, x1_4, x1_5, x1_6, x1_7, x1_8, x1_9, x1_10, x1_11, x1_12, x1_13, x1_14, x1_15, .int .i32 (IntKind.i32.wrap (t.at 2).n), .int .i32 (IntKind.i32.wrap (t.at 3).n)]) rfl hL hTg
      have hcA : cellsAt #[.int .i32 (IntKind.i32.wrap (t.at 0).n), x1_0, x1_1, x1_2, x1_3, x1_4, x1_5, x1_6, x1_7, x1_8, x1_9, x1_10, x1_11, x1_12, x1_13, x1_14, x1_15, .int .i32 (IntKind.i32.wrap (t.at 2).n), .int .i32 (IntKind.i32.wrap (t.at 3).n), .map q] 0 20 = some (.agg #[.int .i32 (IntKind.i32.wrap (t.at 0).n), x1_0, x1_1, x1_2, x1_3, x1_4, x1_5, x1_6, x1_7, x1_8, x1_9, x1_10, x1_11, x1_12, x1_13, x1_14, x1_15, .int .i32 (IntKind.i32.wrap (t.at 2).n), .int .i32 (IntKind.i32.wrap (t.at 3).n), .map q]) := cellsAt_full rfl
      have hrb_6 := hT1.blk_some hrb1 (by omega)
      repeat ((first | refine W.seqR rfl ?_ | refine W.seq ?_ | refine W.regR rfl ?_ | refine W.condK ?_ | refine W.block ?_ | refine W.skip ?_ | refine W.ret ?_ | refine W.exit ?_); try simp (maxSteps := 1000000) (disch := (first | omega | (simp only [World.size_alloc, size_wr, size_drew] <;> omega) | exact not_noB _)) only [go_sem, ↓reduceIte, n0, reduceCtorEq, n1, n2, n3, n4, n5, i0, i1, i2, i3, i4, i5, i6, i7, hI, hN, hr1, hr2, hr3, hbv, hrb_6, hcA, fx1_0, fx1_1, fx1_2, fx1_3, fx1_4, fx1_5, fx1_6, fx1_7, fx1_8, fx1_9, fx1_10, fx1_11, fx1_12, fx1_13, fx1_14, fx1_15])
      have hUr : Upd (fun b => b = w.heap.size + 1) w_6 (wr w_6 (w.heap.size + 1) 0 [.int .i32 (IntKind.i32.wrap (t.at 0).n), x1_0, x1_1, x1_2, x1_3, x1_4, x1_5, x1_6, x1_7, x1_8, x1_9, x1_10, x1_11, x1_12, x1_13, x1_14, x1_15, .int .i32 (IntKind.i32.wrap (t.at 2).n), .int .i32 (IntKind.i32.wrap (t.at 3).n), .map q]) := (Upd.refl _ _).wr _ _ (.inr rfl)
      refine ⟨⟨_, rfl, (RepS_lay true (d + 1) fs_BeginQuorumEpochRequestTopicPartition).weaken ((RepS_lay true (d + 1) fs_BeginQuorumEpochRequestTopicPartition).keep hR (hUr.keeps fun b _ hk e => hoR b hk e)) (fun b _ hk => hk.imp And.left fun h => by omega)⟩, ?_⟩
      exact (hE1.more hT1 fun b hb h => by omega).wr _ _ (.inl (by omega))

set_option maxHeartbeats 2000000 in
theorem makeBeginQuorumEpochRequestTopic_fn {d : Nat} {okT : Blocks} {V : Int} (t : Tree) (ct : List Value) (w : World) (ht : TreeC okT w t ct) (hfit : FitP V (d + 2) fs_BeginQuorumEpochRequestTopic t) (hLs : Lists t) :
    Fn Try.prog 162 #[.agg ct.toArray] w fun r w' => (∃ cs, r = .agg cs.toArray ∧ RepS true (d + 2) fs_BeginQuorumEpochRequestTopic (okN okT w.heap.size) w' t cs) ∧ Ext w w' := by
  obtain ⟨vS, vL, vU, rfl, hn, hSx, hLx0, hUx⟩ := ht.inv
  obtain ⟨bS, cS, rfl, hcS⟩ := hSx.shape
  obtain ⟨bL, cL, rfl, hcL⟩ := SlR.shape hLx0
  obtain ⟨bU, cU, rfl, hcU⟩ := SlR.shape hUx
  obtain ⟨⟨g0, g1, -⟩, hfu⟩ := hfit
  replace g0 : FitF (FitP V (d + 1)) V fBeginQuorumEpochRequestTopic_0 (t.at 0) := g0
  replace g1 : FitF (FitP V (d + 1)) V fBeginQuorumEpochRequestTopic_1 (t.at 1) := g1
  have hllt : t.l.length < 4611686018427387903 := Nat.lt_of_le_of_lt hLs.len (by decide)
  have hul := hLs.ulen
  refine fn_of_W Try.func162 rfl Try.results162 Try.ntmps162 rfl ?_
  obtain ⟨w1, hw1⟩ : ∃ w1, w1 = (((w.alloc (.cells #[.int .i64 t.n, .slice bS t.s.length cS, .bool t.null, .slice bL t.l.length cL, .slice bU t.u.length cU] 39)).alloc (.cells #[.string ByteArray.empty, .slice none 0 0, .map none] 194)).alloc (.cells #[.string ByteArray.empty, .slice none 0 0, .map none] 194)) := ⟨_, rfl⟩
  have hE1 : Ext w w1 := by rw [hw1]; exact ((Upd.refl _ _).alloc _).alloc _ |>.alloc _
  have hz1 : w1.heap.size = w.heap.size + 3 := by rw [hw1]; simp only [World.size_alloc]
  have htb1 : blk w1 w.heap.size = some (#[.int .i64 t.n, .slice bS t.s.length cS, .bool t.null, .slice bL t.l.length cL, .slice bU t.u.length cU], 39, (0, 0)) := by rw [hw1]; simp (maxSteps := 1000000) (disch := (first | omega | (simp only [World.size_alloc, size_wr, size_drew] <;> omega) | exact not_noB _)) only [go_sem, ↓reduceIte, n0, reduceCtorEq, n1, n2, n3, n4, n5, i0, i1, i2, i3, i4, i5, i6, i7]
  have hrb1 : blk w1 (w.heap.size + 1) = some (#[.string ByteArray.empty, .slice none 0 0, .map none], 194, (0, 0)) := by rw [hw1]; simp (maxSteps := 1000000) (disch := (first | omega | (simp only [World.size_alloc, size_wr, size_drew] <;> omega) | exact not_noB _)) only [go_sem, ↓reduceIte, n0, reduceCtorEq, n1, n2, n3, n4, n5, i0, i1, i2, i3, i4, i5, i6, i7]
  have hb1 : blk w1 (w.heap.size + 2) = some (#[.string ByteArray.empty, .slice none 0 0, .map none], 194, (0, 0)) := by rw [hw1]; simp (maxSteps := 1000000) (disch := (first | omega | (simp only [World.size_alloc, size_wr, size_drew] <;> omega) | exact not_noB _)) only [go_sem, ↓reduceIte, n0, reduceCtorEq, n1, n2, n3, n4, n5, i0, i1, i2, i3, i4, i5, i6, i7]
  have hoS : ∀ b, (OkS okT w.heap.size) b → b ≠ (w.heap.size + 2) := fun b h => by have := h.2; omega
  have hoR : ∀ b, (OkF okT w.heap.size w1.heap.size) b → b ≠ w.heap.size + 1 := fun b h => by
    rcases h with h | h
    · have := h.2; omega
    · omega
  have htv : ¬ w.heap.size = (w.heap.size + 2) := by omega
  have hoF : ∀ b, (OkF okT w.heap.size w1.heap.size) b → b ≠ (w.heap.size + 2) := fun b h => by
    rcases h with h | h
    · exact hoS b h
    · omega
  have hU1 : Upd (fun b => b = (w.heap.size + 2)) w1 w1 := Upd.refl _ _
  have hvl1 := blk_lt hb1
  have hsz1 := Nat.le_refl w1.heap.size
  have ht1 : TreeC (OkS okT w.heap.size) w1 t [.int .i64 t.n, .slice bS t.s.length cS, .bool t.null, .slice bL t.l.length cL, .slice bU t.u.length cU] := (ht.weaken fun b h1 h2 => ⟨h2, h1⟩).keep (hE1.keeps _)
  have hU1v : TagsV (OkS okT w.heap.size) w1 (.slice bU t.u.length cU) t.u := (hUx.weaken fun b h1 h2 => ⟨h2, h1⟩).keep (hE1.keeps _)
  repeat ((first | refine W.seqR rfl ?_ | refine W.seq ?_ | refine W.regR rfl ?_ | refine W.condK ?_ | refine W.block ?_ | refine W.skip ?_ | refine W.ret ?_ | refine W.exit ?_); try simp (maxSteps := 1000000) (disch := (first | omega | (simp only [World.size_alloc, size_wr, size_drew] <;> omega) | exact not_noB _)) only [go_sem, ↓reduceIte, n0, reduceCtorEq, n1, n2, n3, n4, n5, i0, i1, i2, i3, i4, i5, i6, i7])
  rw [← hw1]
  clear hw1
  refine (iat_fn (ok := (OkS okT w.heap.size)) t 0 _ _ (ht1.keep (hU1.keeps fun b _ hk e => hoS b hk e)) (by decide) hllt).mono ?_
  rintro r2 w2 ⟨⟨ca2, rfl, hca2⟩, hEa2⟩
  obtain ⟨vSa2, vLa2, vUa2, rfl, hna2, hSa2, hLa2, hUa2⟩ := hca2.inv
  obtain ⟨bSa2, cSa2, rfl, hcSa2⟩ := hSa2.shape
  obtain ⟨bLa2, cLa2, rfl, hcLa2⟩ := SlR.shape hLa2
  have hfU2 := SlR.flat hUa2
  clear hcSa2 hcLa2 hna2
  have hV2 : Upd (fun b => b = (w.heap.size + 2)) w1 w2 := hEa2.mono fun _ h => h.elim
  have hU2 : Upd (fun b => b = (w.heap.size + 2)) w1 w2 := hU1.trans hV2
  have htb2 := hU2.blk_some htb1 htv
  have hvl2 : (w.heap.size + 2) < w2.heap.size := Nat.lt_of_lt_of_le hvl1 hU2.size
  have hsz2 := hU2.size
  have hb2 : blk w2 (w.heap.size + 2) = some (#[.string ByteArray.empty, .slice none 0 0, .map none], 194, (0, 0)) := hEa2.blk_some hb1 id
  simp (maxSteps := 1000000) (disch := (first | omega | (simp only [World.size_alloc, size_wr, size_drew] <;> omega) | exact not_noB _)) only [go_sem, ↓reduceIte, n0, reduceCtorEq, n1, n2, n3, n4, n5, i0, i1, i2, i3, i4, i5, i6, i7, hb2, htb2]
  refine wp_string (S := 22) (T := 9) (E := 5) (s := (t.at 0).s) (ok := (OkS okT w.heap.size)) (by kernel_rfl) (by kernel_rfl) (by kernel_rfl) (by simp (maxSteps := 1000000) (disch := (first | omega | (simp only [World.size_alloc, size_wr, size_drew] <;> omega) | exact not_noB _)) only [go_sem, ↓reduceIte, n0, reduceCtorEq, n1, n2, n3, n4, n5, i0, i1, i2, i3, i4, i5, i6, i7]; exact hSa2) ?_
  simp (maxSteps := 1000000) (disch := (first | omega | (simp only [World.size_alloc, size_wr, size_drew] <;> omega) | exact not_noB _)) only [go_sem, ↓reduceIte, n0, reduceCtorEq, n1, n2, n3, n4, n5, i0, i1, i2, i3, i4, i5, i6, i7, hb2, htb2]
  generalize hw3 : wr w2 (w.heap.size + 2) 0 [strV (t.at 0).s] = w3
  have hV3 : Upd (fun b => b = (w.heap.size + 2)) w2 w3 := by rw [← hw3]; exact (Upd.refl _ _).wr _ _ (.inr rfl)
  have hb3 : blk w3 (w.heap.size + 2) = some (#[strV (t.at 0).s, .slice none 0 0, .map none], 194, (0, 0)) := by rw [← hw3, blk_wr_eq, hb2]; rfl
  have hU3 : Upd (fun b => b = (w.heap.size + 2)) w1 w3 := hU2.trans hV3
  have htb3 := hU3.blk_some htb1 htv
  have hvl3 : (w.heap.size + 2) < w3.heap.size := Nat.lt_of_lt_of_le hvl1 hU3.size
  have hsz3 := hU3.size
  clear hvl2 hsz2
  clear hw3
  have hf0 : RepF (RepS true (d + 1)) (szS true (d + 1)) fBeginQuorumEpochRequestTopic_0 (OkF okT w.heap.size w1.heap.size) w3 (t.at 0) [strV (t.at 0).s] := (RepF_text rfl (by decide)).2 rfl
  have hn0_1 : (t.at 1).null = false := g1.notnull (by decide)
  have hll1 := (g1.list rfl).1
  repeat ((first | refine W.seqR rfl ?_ | refine W.seq ?_ | refine W.regR rfl ?_ | refine W.condK ?_ | refine W.block ?_ | refine W.skip ?_ | refine W.ret ?_ | refine W.exit ?_); try simp (maxSteps := 1000000) (disch := (first | omega | (simp only [World.size_alloc, size_wr, size_drew] <;> omega) | exact not_noB _)) only [go_sem, ↓reduceIte, n0, reduceCtorEq, n1, n2, n3, n4, n5, i0, i1, i2, i3, i4, i5, i6, i7, hb3, htb3])
  refine (iat_fn (ok := (OkS okT w.heap.size)) t 1 _ _ (ht1.keep (hU3.keeps fun b _ hk e => hoS b hk e)) (by decide) hllt).mono ?_
  rintro r4 w4 ⟨⟨ca4, rfl, hca4⟩, hEa4⟩
  obtain ⟨vSa4, vLa4, vUa4, rfl, hna4, hSa4, hLa4, hUa4⟩ := hca4.inv
  obtain ⟨bSa4, cSa4, rfl, hcSa4⟩ := hSa4.shape
  obtain ⟨bLa4, cLa4, rfl, hcLa4⟩ := SlR.shape hLa4
  have hfU4 := SlR.flat hUa4
  clear hcSa4 hcLa4 hna4
  have hV4 : Upd (fun b => b = (w.heap.size + 2)) w3 w4 := hEa4.mono fun _ h => h.elim
  have hU4 : Upd (fun b => b = (w.heap.size + 2)) w1 w4 := hU3.trans hV4
  have htb4 := hU4.blk_some htb1 htv
  have hvl4 : (w.heap.size + 2) < w4.heap.size := Nat.lt_of_lt_of_le hvl1 hU4.size
  have hsz4 := hU4.size
  clear hvl3 hsz3
  have hb4 : blk w4 (w.heap.size + 2) = some (#[strV (t.at 0).s, .slice none 0 0, .map none], 194, (0, 0)) := hEa4.blk_some hb3 id
  simp (maxSteps := 1000000) (disch := (first | omega | (simp only [World.size_alloc, size_wr, size_drew] <;> omega) | exact not_noB _)) only [go_sem, ↓reduceIte, n0, reduceCtorEq, n1, n2, n3, n4, n5, i0, i1, i2, i3, i4, i5, i6, i7, hn0_1, hb4, htb4]
  repeat ((first | refine W.seqR rfl ?_ | refine W.seq ?_ | refine W.regR rfl ?_ | refine W.condK ?_ | refine W.block ?_ | refine W.skip ?_ | refine W.ret ?_ | refine W.exit ?_); try simp (maxSteps := 1000000) (disch := (first | omega | (simp only [World.size_alloc, size_wr, size_drew] <;> omega) | exact not_noB _)) only [go_sem, ↓reduceIte, n0, reduceCtorEq, n1, n2, n3, n4, n5, i0, i1, i2, i3, i4, i5, i6, i7, hb4, htb4])
  refine (iat_fn (ok := (OkS okT w.heap.size)) t 1 _ _ (ht1.keep (hU4.keeps fun b _ hk e => hoS b hk e)) (by decide) hllt).mono ?_
  rintro r5 w5 ⟨⟨ca5, rfl, hca5⟩, hEa5⟩
  obtain ⟨vSa5, vLa5, vUa5, rfl, hna5, hSa5, hLa5, hUa5⟩ := hca5.inv
  obtain ⟨bSa5, cSa5, rfl, hcSa5⟩ := hSa5.shape
  obtain ⟨bLa5, cLa5, rfl, hcLa5⟩ := SlR.shape hLa5
  have hfU5 := SlR.flat hUa5
  clear hcSa5 hcLa5 hna5
  have hV5 : Upd (fun b => b = (w.heap.size + 2)) w4 w5 := hEa5.mono fun _ h => h.elim
  have hU5 : Upd (fun b => b = (w.heap.size + 2)) w1 w5 := hU4.trans hV5
  have htb5 := hU5.blk_some htb1 htv
  have hvl5 : (w.heap.size + 2) < w5.heap.size := Nat.lt_of_lt_of_le hvl1 hU5.size
  have hsz5 := hU5.size
  clear hvl4 hsz4
  have hb5 : blk w5 (w.heap.size + 2) = some (#[strV (t.at 0).s, .slice none 0 0, .map none], 194, (0, 0)) := hEa5.blk_some hb4 id
  simp (maxSteps := 1000000) (disch := (first | omega | (simp only [World.size_alloc, size_wr, size_drew] <;> omega) | exact not_noB _)) only [go_sem, ↓reduceIte, n0, reduceCtorEq, n1, n2, n3, n4, n5, i0, i1, i2, i3, i4, i5, i6, i7, hb5, htb5]
  refine wp_make (T := 192) (E := 203) (size := 20) (bytes := 40) (z := (.agg #[.int .i32 0, .int .u8 0, .int .u8 0, .int .u8 0, .int .u8 0, .int .u8 0, .int .u8 0, .int .u8 0, .int .u8 0, .int .u8 0, .int .u8 0, .int .u8 0, .int .u8 0, .int .u8 0, .int .u8 0, .int .u8 0, .int .u8 0, .int .i32 0, .int .i32 0, .map none])) (l := 0) (c := (t.at 1).l.length) (kl := .i64) (kc := .i64) (by kernel_rfl) (by kernel_rfl) (by simp (maxSteps := 1000000) (disch := (first | omega | (simp only [World.size_alloc, size_wr, size_drew] <;> omega) | exact not_noB _)) only [go_sem, ↓reduceIte, n0, reduceCtorEq, n1, n2, n3, n4, n5, i0, i1, i2, i3, i4, i5, i6, i7]; rfl) (by simp (maxSteps := 1000000) (disch := (first | omega | (simp only [World.size_alloc, size_wr, size_drew] <;> omega) | exact not_noB _)) only [go_sem, ↓reduceIte, n0, reduceCtorEq, n1, n2, n3, n4, n5, i0, i1, i2, i3, i4, i5, i6, i7]) (by omega) (by omega) (by omega) ?_
  simp (maxSteps := 1000000) (disch := (first | omega | (simp only [World.size_alloc, size_wr, size_drew] <;> omega) | exact not_noB _)) only [go_sem, ↓reduceIte, n0, reduceCtorEq, n1, n2, n3, n4, n5, i0, i1, i2, i3, i4, i5, i6, i7, hb5, hvl5, htb5]
  have hszB1 := hsz5
  generalize hw6 : wr (w5.alloc (.cells (madeCells #[.int .i32 0, .int .u8 0, .int .u8 0, .int .u8 0, .int .u8 0, .int .u8 0, .int .u8 0, .int .u8 0, .int .u8 0, .int .u8 0, .int .u8 0, .int .u8 0, .int .u8 0, .int .u8 0, .int .u8 0, .int .u8 0, .int .u8 0, .int .i32 0, .int .i32 0, .map none] ((t.at 1).l.length * 20)) 203)) (w.heap.size + 2) 1 [.slice (some ⟨w5.heap.size, 0, none⟩) 0 (t.at 1).l.length] = w6
  have hV6 : Upd (fun b => b = (w.heap.size + 2)) w5 w6 := by rw [← hw6]; exact ((Upd.refl _ _).alloc _).wr _ _ (.inr rfl)
  have hb6 : blk w6 (w.heap.size + 2) = some (#[strV (t.at 0).s, .slice (some ⟨w5.heap.size, 0, none⟩) 0 (t.at 1).l.length, .map none], 194, (0, 0)) := by rw [← hw6, blk_wr_eq, blk_alloc_old hvl5, hb5]; rfl
  have hrow6 : blk w6 w5.heap.size = some (madeCells #[.int .i32 0, .int .u8 0, .int .u8 0, .int .u8 0, .int .u8 0, .int .u8 0, .int .u8 0, .int .u8 0, .int .u8 0, .int .u8 0, .int .u8 0, .int .u8 0, .int .u8 0, .int .u8 0, .int .u8 0, .int .u8 0, .int .u8 0, .int .i32 0, .int .i32 0, .map none] ((t.at 1).l.length * 20), 203, (0, 0)) := by rw [← hw6, blk_wr_ne (Nat.ne_of_gt hvl5), blk_alloc_new rfl]
  have hg6 : GrowR (Rep1 (RepS true (d + 1)) fBeginQuorumEpochRequestTopic_1.of fBeginQuorumEpochRequestTopic_1.sub) 20 (OkF okT w.heap.size w1.heap.size) w5.heap.size (w.heap.size + 2) w6 203 (.slice (some ⟨w5.heap.size, 0, none⟩) 0 (t.at 1).l.length) [] := GrowR.made hrow6 (size_madeCells _ _) (Nat.le_refl _)
  have hU6 : Upd (fun b => b = (w.heap.size + 2)) w1 w6 := hU5.trans hV6
  have htb6 := hU6.blk_some htb1 htv
  have hvl6 : (w.heap.size + 2) < w6.heap.size := Nat.lt_of_lt_of_le hvl1 hU6.size
  have hsz6 := hU6.size
  clear hvl5 hsz5
  clear hw6 hrow6
  repeat ((first | refine W.seqR rfl ?_ | refine W.seq ?_ | refine W.regR rfl ?_ | refine W.condK ?_ | refine W.block ?_ | refine W.skip ?_ | refine W.ret ?_ | refine W.exit ?_); try simp (maxSteps := 1000000) (disch := (first | omega | (simp only [World.size_alloc, size_wr, size_drew] <;> omega) | exact not_noB _)) only [go_sem, ↓reduceIte, n0, reduceCtorEq, n1, n2, n3, n4, n5, i0, i1, i2, i3, i4, i5, i6, i7, hb6, htb6])
  refine (iat_fn (ok := (OkS okT w.heap.size)) t 1 _ _ (ht1.keep (hU6.keeps fun b _ hk e => hoS b hk e)) (by decide) hllt).mono ?_
  rintro r7 w7 ⟨⟨ca7, rfl, hca7⟩, hEa7⟩
  obtain ⟨vSa7, vLa7, vUa7, rfl, hna7, hSa7, hLa7, hUa7⟩ := hca7.inv
  obtain ⟨bSa7, cSa7, rfl, hcSa7⟩ := hSa7.shape
  obtain ⟨bLa7, cLa7, rfl, hcLa7⟩ := SlR.shape hLa7
  have hfU7 := SlR.flat hUa7
  clear hcSa7 hcLa7 hna7
  have hV7 : Upd (fun b => b = (w.heap.size + 2)) w6 w7 := hEa7.mono fun _ h => h.elim
  have hU7 : Upd (fun b => b = (w.heap.size + 2)) w1 w7 := hU6.trans hV7
  have htb7 := hU7.blk_some htb1 htv
  have hvl7 : (w.heap.size + 2) < w7.heap.size := Nat.lt_of_lt_of_le hvl1 hU7.size
  have hsz7 := hU7.size
  clear hvl6 hsz6
  have hb7 : blk w7 (w.heap.size + 2) = some (#[strV (t.at 0).s, .slice (some ⟨w5.heap.size, 0, none⟩) 0 (t.at 1).l.length, .map none], 194, (0, 0)) := hEa7.blk_some hb6 id
  have hg7 := hg6.ext (Rep1_lay _ _ fun _ => RepS_lay true (d + 1) _) hEa7
  simp (maxSteps := 1000000) (disch := (first | omega | (simp only [World.size_alloc, size_wr, size_drew] <;> omega) | exact not_noB _)) only [go_sem, ↓reduceIte, n0, reduceCtorEq, n1, n2, n3, n4, n5, i0, i1, i2, i3, i4, i5, i6, i7, hb7, htb7]
  repeat ((first | refine W.seqR rfl ?_ | refine W.seq ?_ | refine W.regR rfl ?_ | refine W.condK ?_ | refine W.block ?_ | refine W.skip ?_ | refine W.ret ?_ | refine W.exit ?_); try simp (maxSteps := 1000000) (disch := (first | omega | (simp only [World.size_alloc, size_wr, size_drew] <;> omega) | exact not_noB _)) only [go_sem, ↓reduceIte, n0, reduceCtorEq, n1, n2, n3, n4, n5, i0, i1, i2, i3, i4, i5, i6, i7, hb7, htb7])
  have hVb1 : Upd (fun b => b = (w.heap.size + 2)) w5 w7 := hV6.trans hV7
  have hUb1 := hU5
  have hvlB1 : (w.heap.size + 2) < w5.heap.size := Nat.lt_of_lt_of_le hvl1 hszB1
  have hszL1 : w5.heap.size ≤ w7.heap.size := hVb1.size
  refine W.exitJ 0 (fun ρ w' => ∃ v, ρ 1 = .pointer (some ⟨w.heap.size, 0, none⟩) ∧ ρ 2 = .pointer (some ⟨w.heap.size + 1, 0, none⟩) ∧ ρ 3 = .pointer (some ⟨(w.heap.size + 2), 0, none⟩) ∧ blk w' (w.heap.size + 2) = some (#[strV (t.at 0).s, v, .map none], 194, (0, 0)) ∧ GrowR (Rep1 (RepS true (d + 1)) fBeginQuorumEpochRequestTopic_1.of fBeginQuorumEpochRequestTopic_1.sub) 20 (OkF okT w.heap.size w1.heap.size) w5.heap.size (w.heap.size + 2) w' 203 v (t.at 1).l ∧ v ≠ .slice none 0 0 ∧ Upd (fun b => b = (w.heap.size + 2) ∨ w5.heap.size ≤ b) w7 w')
    (W.loop (fun ρ w' => ∃ (j : Nat) (v : Value), j ≤ (t.at 1).l.length ∧ ρ 27 = .int .i64 j ∧ ρ 26 = .int .i64 (t.at 1).l.length ∧ ρ 25 = .slice bLa7 (t.at 1).l.length cLa7 ∧ ρ 1 = .pointer (some ⟨w.heap.size, 0, none⟩) ∧ ρ 2 = .pointer (some ⟨w.heap.size + 1, 0, none⟩) ∧ ρ 3 = .pointer (some ⟨(w.heap.size + 2), 0, none⟩) ∧ blk w' (w.heap.size + 2) = some (#[strV (t.at 0).s, v, .map none], 194, (0, 0)) ∧ GrowR (Rep1 (RepS true (d + 1)) fBeginQuorumEpochRequestTopic_1.of fBeginQuorumEpochRequestTopic_1.sub) 20 (OkF okT w.heap.size w1.heap.size) w5.heap.size (w.heap.size + 2) w' 203 v ((t.at 1).l.take j) ∧ v ≠ .slice none 0 0 ∧ Upd (fun b => b = (w.heap.size + 2) ∨ w5.heap.size ≤ b) w7 w')
      (fun ρ _ => (t.at 1).l.length - (RowKit.intOf (ρ 27)).toNat) ?_ ?_) ?_
  · refine ⟨0, _, Nat.zero_le _, ?_, ?_, ?_, ?_, ?_, ?_, hb7, hg7, (by intro h; cases h), Upd.refl _ _⟩ <;> simp (maxSteps := 1000000) (disch := (first | omega | (simp only [World.size_alloc, size_wr, size_drew] <;> omega) | exact not_noB _)) only [go_sem, ↓reduceIte, n0, reduceCtorEq, n1, n2, n3, n4, n5, i0, i1, i2, i3, i4, i5, i6, i7]
    all_goals rfl
  · rintro ρ w_6 ⟨j, v, hj, hI, hN, hS, hr1, hr2, hr3, hbv, hg, hnil, hU_6⟩
    have hz_6 := hU_6.size
    have hJ_6 : Upd (fun b => b = (w.heap.size + 2)) w5 w_6 := hVb1.more hU_6 fun b hb h => h.elim id fun h => absurd h (by omega)
    have hU_16 : Upd (fun b => b = (w.heap.size + 2)) w1 w_6 := hUb1.trans hJ_6
    have hht_6 := hU_16.blk_some htb1 htv
    have hLt_6 := hLa7.keep (hU_6.keeps fun b _ hk e => e.elim (hoS b hk) fun e => by have := hk.2; omega)
    by_cases hlt : j < (t.at 1).l.length
    · obtain ⟨_, b, o, x, vS', vL', vU', hb, hokb, hx, hblt, hxs, hxe, q1, q2, q3, hc⟩ := TreesV.get hLt_6 hlt
      subst hb
      have hbS := (TreeC.inv hc)
      have hcat : (t.at 1).l.take (j + 1) = (t.at 1).l.take j ++ [(t.at 1).l[j]] := List.take_succ_eq_append_getElem hlt
      have hlen_9 : ((t.at 1).l.take j).length = j := by simp; omega
      have hgx := (g1.list rfl).2 _ (List.getElem_mem hlt)
      have hLx := (hLs.at 1).get hlt
      have hnb : ∀ b, b < w5.heap.size ∨ b = w_6.heap.size → ¬ ownB v b := fun b hb h => by
        have := hg.above h
        have := hg.below h
        omega
      generalize (t.at 1).l[j] = y at *
      obtain ⟨vSy, vLy, vUy, hcells, hny, hSy, hLy, hUy⟩ := hbS
      simp only [List.cons.injEq, true_and, and_true] at hcells
      obtain ⟨rfl, rfl, rfl⟩ := hcells
      obtain ⟨bSy, cSy, rfl, hcSy⟩ := hSy.shape
      repeat ((first | refine W.seqR rfl ?_ | refine W.seq ?_ | refine W.regR rfl ?_ | refine W.condK ?_ | refine W.block ?_ | refine W.skip ?_ | refine W.ret ?_ | refine W.exit ?_); try simp (maxSteps := 1000000) (disch := (first | omega | (simp only [World.size_alloc, size_wr, size_drew] <;> omega) | exact not_noB _)) only [go_sem, ↓reduceIte, n0, reduceCtorEq, n1, n2, n3, n4, n5, i0, i1, i2, i3, i4, i5, i6, i7, hI, hN, hS, hx, hxe, q1, q2, q3, cellsAt_five, Int.toNat_natCast])
      generalize hw_7 : (wr (w_6.alloc (.cells #[.int .i64 0, .slice none 0 0, .bool false, .slice none 0 0, .slice none 0 0] 39)) w_6.heap.size 0 [.int .i64 y.n, .slice bSy y.s.length cSy, .bool y.null, vL', vU']) = w_7
      have hE_7 : Ext w_6 w_7 := by rw [← hw_7]; exact (Upd.alloc (Upd.refl _ _) _).wr _ _ (.inl (Nat.le_refl _))
      have hb_7 : blk w_7 w_6.heap.size = some (#[.int .i64 y.n, .slice bSy y.s.length cSy, .bool y.null, vL', vU'], 39, (0, 0)) := by rw [← hw_7]; simp (maxSteps := 1000000) (disch := (first | omega | (simp only [World.size_alloc, size_wr, size_drew] <;> omega) | exact not_noB _)) only [go_sem, ↓reduceIte, n0, reduceCtorEq, n1, n2, n3, n4, n5, i0, i1, i2, i3, i4, i5, i6, i7]
      have hz_7 : w_7.heap.size = w_6.heap.size + 1 := by rw [← hw_7]; simp only [size_wr, World.size_alloc]
      have hbt_7 := hE_7.blk_some hbv id
      have hgv_7 := hE_7.blk_some hht_6 id
      have hc_7 := hc.keep (hE_7.keeps _)
      have hS_7 := hSy.keep (hE_7.keeps _)
      have hg_7 := hg.ext (Rep1_lay _ _ fun _ => RepS_lay true (d + 1) _) hE_7
      clear hw_7
      refine W.drawR (.take 0 (.take 1 (.take 2 (.only 3 (.only 4 (.only 5 (.take 6 (.last 7)))))))) (ownB v) mixed (by kernel_rfl) ?_
      simp (maxSteps := 1000000) (disch := (first | omega | (simp only [World.size_alloc, size_wr, size_drew] <;> omega) | exact not_noB _ | (refine hnb _ ?_; first | omega | (simp only [World.size_alloc, size_wr, size_drew] <;> omega)))) only [go_sem, ↓reduceIte, n0, reduceCtorEq, n1, n2, n3, n4, n5, i0, i1, i2, i3, i4, i5, i6, i7, hr1, hr2, hr3, hbt_7, hb_7, hgv_7, cellsAt_five]
      have hE_7d : Ext w_7 w_7.drew := (Upd.refl _ _).drew
      have hg_7d := hg_7.ext (Rep1_lay _ _ fun _ => RepS_lay true (d + 1) _) hE_7d
      have hzd : w_7.drew.heap.size = w_7.heap.size := size_drew _
      have hbt_7d := hE_7d.blk_some hbt_7 id
      refine (makeBeginQuorumEpochRequestTopicPartition_fn (d := d) (okT := (OkS okT w.heap.size)) (V := V) y _ w_7.drew (hc_7.keep (hE_7d.keeps _)) (hgx.2.2 rfl) hLx).mono ?_
      rintro r8 w_8 ⟨⟨cs8, rfl, hc_8⟩, hE_8⟩
      obtain ⟨hfl_8, hcl_8⟩ := (RepS_lay true (d + 1) fs_BeginQuorumEpochRequestTopicPartition).flat hc_8
      obtain ⟨y0, y1, y2, y3, y4, y5, y6, y7, y8, y9, y10, y11, y12, y13, y14, y15, y16, y17, y18, y19, rfl⟩ : ∃ y0 y1 y2 y3 y4 y5 y6 y7 y8 y9 y10 y11 y12 y13 y14 y15 y16 y17 y18 y19, cs8 = [y0, y1, y2, y3, y4, y5, y6, y7, y8, y9, y10, y11, y12, y13, y14, y15, y16, y17, y18, y19] := by
        have hcl_8' : cs8.length = 20 := hcl_8
        match cs8, hcl_8' with
        | [y0, y1, y2, y3, y4, y5, y6, y7, y8, y9, y10, y11, y12, y13, y14, y15, y16, y17, y18, y19], _ => exact ⟨y0, y1, y2, y3, y4, y5, y6, y7, y8, y9, y10, y11, y12, y13, y14, y15, y16, y17, y18, y19, rfl⟩
      simp only [List.all_cons, List.all_nil, Bool.and_true, Bool.and_eq_true] at hfl_8
      obtain ⟨fy0, fy1, fy2, fy3, fy4, fy5, fy6, fy7, fy8, fy9, fy10, fy11, fy12, fy13, fy14, fy15, fy16, fy17, fy18, fy19⟩ := hfl_8
      have hz_8 := hE_8.size
      have hM_8 : Upd (ownB v) w_7.drew w_8 := hE_8.mono (fun _ h => h.elim)
      refine ⟨hM_8, ?_⟩
      have hE_9 : Ext w_8 (w_8.alloc (.cells #[y0, y1, y2, y3, y4, y5, y6, y7, y8, y9, y10, y11, y12, y13, y14, y15, y16, y17, y18, y19] 203)) := Upd.alloc (Upd.refl _ _) _
      have hM_9 : Upd (ownB v) w_7.drew (w_8.alloc (.cells #[y0, y1, y2, y3, y4, y5, y6, y7, y8, y9, y10, y11, y12, y13, y14, y15, y16, y17, y18, y19] 203)) := hM_8.alloc _
      simp (maxSteps := 1000000) (disch := (first | omega | (simp only [World.size_alloc, size_wr, size_drew] <;> omega) | exact not_noB _)) only [go_sem, ↓reduceIte, n0, reduceCtorEq, n1, n2, n3, n4, n5, i0, i1, i2, i3, i4, i5, i6, i7, hr1, hr2, hr3, hbt_7d, fy0, fy1, fy2, fy3, fy4, fy5, fy6, fy7, fy8, fy9, fy10, fy11, fy12, fy13, fy14, fy15, fy16, fy17, fy18, fy19]
      refine ⟨hM_9, ?_⟩
      have hE_79 : Ext w_7.drew (w_8.alloc (.cells #[y0, y1, y2, y3, y4, y5, y6, y7, y8, y9, y10, y11, y12, y13, y14, y15, y16, y17, y18, y19] 203)) := hE_8.trans hE_9
      have hg_9 := (hg_7d.ext (Rep1_lay _ _ fun _ => RepS_lay true (d + 1) _) hE_8).ext (Rep1_lay _ _ fun _ => RepS_lay true (d + 1) _) hE_9
      have hx_9 : Rep1 (RepS true (d + 1)) fBeginQuorumEpochRequestTopic_1.of fBeginQuorumEpochRequestTopic_1.sub (fun b => (OkF okT w.heap.size w1.heap.size) b ∧ b ≠ (w.heap.size + 2) ∧ ¬ ownB v b) (w_8.alloc (.cells #[y0, y1, y2, y3, y4, y5, y6, y7, y8, y9, y10, y11, y12, y13, y14, y15, y16, y17, y18, y19] 203)) y [y0, y1, y2, y3, y4, y5, y6, y7, y8, y9, y10, y11, y12, y13, y14, y15, y16, y17, y18, y19] :=
        Rep1_part.2 (((RepS_lay true (d + 1) fs_BeginQuorumEpochRequestTopicPartition).keep hc_8 (hE_9.keeps _)) |> fun h => (RepS_lay true (d + 1) fs_BeginQuorumEpochRequestTopicPartition).weaken h fun b _ hk => by
          rcases hk with hk | hk
          · exact ⟨.inl hk, hoS b hk, fun h => by have := hg.above h; have := hk.2; omega⟩
          · exact ⟨.inr (by omega), by omega, fun h => by have := hg.below h; omega⟩)
      obtain ⟨css, hown, hall⟩ := hg_9.ex
      have hcl_9 := hall.1
      refine wp_append ap_192_192 (m := 1) (news := [y0, y1, y2, y3, y4, y5, y6, y7, y8, y9, y10, y11, y12, y13, y14, y15, y16, y17, y18, y19]) (n := css.length) (cs := css.flatten) (v := v) ?_ rfl hown.1 (all2_flat_R (Rep1_lay _ _ fun _ => RepS_lay true (d + 1) _) hall) (Src.blk (fr := (0, 0)) (T := 203) (blk_alloc_new (by first | rfl | omega | (simp only [size_drew]; omega))) rfl (by simp only [List.all_cons, List.all_nil, Bool.and_true, Bool.and_eq_true]; exact ⟨fy0, fy1, fy2, fy3, fy4, fy5, fy6, fy7, fy8, fy9, fy10, fy11, fy12, fy13, fy14, fy15, fy16, fy17, fy18, fy19⟩)) ?_ ?_ ?_
      · simp (maxSteps := 1000000) (disch := (first | omega | (simp only [World.size_alloc, size_wr, size_drew] <;> omega) | exact not_noB _)) only [go_sem, ↓reduceIte, n0, reduceCtorEq, n1, n2, n3, n4, n5, i0, i1, i2, i3, i4, i5, i6, i7]
      · simp only [World.size_alloc, size_drew]; omega
      · omega
      intro v' w_10 ho hu hfr
      have hg_10 := GrowR.snoc (Rep1_lay _ _ fun _ => RepS_lay true (d + 1) _) hown hall hx_9 hu hfr ho
      have hz_10 := hu.size
      simp only [World.size_alloc, size_drew] at hz_10
      obtain ⟨va, vc, hv', _⟩ := ho.shape
      subst hv'
      have hbt_10 := (hM_9.trans hu).blk_some hbt_7d (hnb _ (.inl hvlB1))
      have htb' : ¬ ownB (.slice va (css.length + 1) vc) (w.heap.size + 2) := fun h => by
        rcases hfr _ h with h | h
        · exact hnb _ (.inl hvlB1) h
        · simp only [World.size_alloc, size_drew] at h; omega
      simp (maxSteps := 1000000) (disch := (first | omega | (simp only [World.size_alloc, size_wr, size_drew] <;> omega) | exact not_noB _)) only [go_sem, ↓reduceIte, n0, reduceCtorEq, n1, n2, n3, n4, n5, i0, i1, i2, i3, i4, i5, i6, i7]
      refine ⟨hM_9.trans hu, ?_⟩
      simp (maxSteps := 1000000) (disch := (first | omega | (simp only [World.size_alloc, size_wr, size_drew] <;> omega) | exact not_noB _)) only [go_sem, ↓reduceIte, n0, reduceCtorEq, n1, n2, n3, n4, n5, i0, i1, i2, i3, i4, i5, i6, i7, hr1, hr2, hr3, hbt_10]
      repeat ((first | refine W.seqR rfl ?_ | refine W.seq ?_ | refine W.regR rfl ?_ | refine W.condK ?_ | refine W.block ?_ | refine W.skip ?_ | refine W.ret ?_ | refine W.exit ?_); try simp (maxSteps := 1000000) (disch := (first | omega | (simp only [World.size_alloc, size_wr, size_drew] <;> omega) | exact not_noB _)) only [go_sem, ↓reduceIte, n0, reduceCtorEq, n1, n2, n3, n4, n5, i0, i1, i2, i3, i4, i5, i6, i7, hI])
      refine ⟨⟨j + 1, .slice va (css.length + 1) vc, by omega, rfl, hN, hS, hr1, hr2, hr3, ?_, ?_, ?_, ?_⟩, ?_⟩
      · simp (maxSteps := 1000000) (disch := (first | omega | (simp only [World.size_alloc, size_wr, size_drew] <;> omega) | exact not_noB _)) only [go_sem, ↓reduceIte, n0, reduceCtorEq, n1, n2, n3, n4, n5, i0, i1, i2, i3, i4, i5, i6, i7, hbt_10]
      · rw [hcat]; exact hg_10.upd (Rep1_lay _ _ fun _ => RepS_lay true (d + 1) _) ((Upd.refl _ _).wr _ _ (.inr rfl)) htb'
      · intro h; cases h
      · refine Upd.wr ?_ _ _ (.inr (.inl rfl))
        exact hU_6.more (((hE_7.mono fun _ h => h.elim).trans (hE_7d.mono fun _ h => h.elim)).trans (hM_9.trans hu)) fun b hb h => .inr (hg.above h)
      · simp only [RowKit.intOf]; omega
    · have hjl : j = (t.at 1).l.length := by omega
      subst hjl
      rw [List.take_length] at hg
      repeat ((first | refine W.seqR rfl ?_ | refine W.seq ?_ | refine W.regR rfl ?_ | refine W.condK ?_ | refine W.block ?_ | refine W.skip ?_ | refine W.ret ?_ | refine W.exit ?_); try simp (maxSteps := 1000000) (disch := (first | omega | (simp only [World.size_alloc, size_wr, size_drew] <;> omega) | exact not_noB _)) only [go_sem, ↓reduceIte, n0, reduceCtorEq, n1, n2, n3, n4, n5, i0, i1, i2, i3, i4, i5, i6, i7, hI, hN])
      exact ⟨v, hr1, hr2, hr3, hbv, hg, hnil, hU_6⟩
  · rintro ρ w8 ⟨v1, hr1, hr2, hr3, hb8, hg8, hnil1, hK8⟩
    have hV8 : Upd (fun b => b = (w.heap.size + 2)) w5 w8 := hVb1.more hK8 fun b hb h => h.elim id fun h => absurd h (by omega)
    have hU8 : Upd (fun b => b = (w.heap.size + 2)) w1 w8 := hU5.trans hV8
    have htb8 := hU8.blk_some htb1 htv
    have hvl8 : (w.heap.size + 2) < w8.heap.size := Nat.lt_of_lt_of_le hvl1 hU8.size
    have hsz8 := hU8.size
    clear hvl7 hsz7
    obtain ⟨al1, kl1, rfl, _⟩ := hg8.shape
    have hf1 : RepF (RepS true (d + 1)) (szS true (d + 1)) fBeginQuorumEpochRequestTopic_1 (OkF okT w.heap.size w1.heap.size) w8 (t.at 1) [.slice al1 (t.at 1).l.length kl1] := (RepF_list rfl hn0_1).2 ⟨_, rfl, hg8.sl (Rep1_lay _ _ fun _ => RepS_lay true (d + 1) _) (fun _ _ h => h) (fun b hb => .inr (by omega)), hg8.some hnil1⟩
    repeat ((first | refine W.seqR rfl ?_ | refine W.seq ?_ | refine W.regR rfl ?_ | refine W.condK ?_ | refine W.block ?_ | refine W.skip ?_ | refine W.ret ?_ | refine W.exit ?_); try simp (maxSteps := 1000000) (disch := (first | omega | (simp only [World.size_alloc, size_wr, size_drew] <;> omega) | exact not_noB _)) only [go_sem, ↓reduceIte, n0, reduceCtorEq, n1, n2, n3, n4, n5, i0, i1, i2, i3, i4, i5, i6, i7, hb8, htb8, hr1, hr2, hr3])
    have hUv := hU1v.keep (hU8.keeps fun b _ hk e => hoS b hk e)
    refine W.loop (fun ρ w' => ∃ (j : Nat) (q : Option Nat), j ≤ t.u.length ∧ ρ 42 = .int .i64 j ∧ ρ 41 = .int .i64 t.u.length ∧ ρ 40 = .slice bU t.u.length cU ∧ ρ 1 = .pointer (some ⟨w.heap.size, 0, none⟩) ∧ ρ 2 = .pointer (some ⟨w.heap.size + 1, 0, none⟩) ∧ ρ 3 = .pointer (some ⟨(w.heap.size + 2), 0, none⟩) ∧ blk w' (w.heap.size + 2) = some (#[strV (t.at 0).s, .slice al1 (t.at 1).l.length kl1, .map q], 194, (0, 0)) ∧ TagsG (OkS okT w.heap.size) w8.heap.size w' (.map q) (t.u.take j) ∧ Upd (fun b => b = (w.heap.size + 2)) w8 w')
        (fun ρ _ => t.u.length - (RowKit.intOf (ρ 42)).toNat) ?_ ?_
    · refine ⟨0, none, Nat.zero_le _, ?_, ?_, ?_, ?_, ?_, ?_, hb8, TagsG.start _ _ _, Upd.refl _ _⟩ <;> simp (maxSteps := 1000000) (disch := (first | omega | (simp only [World.size_alloc, size_wr, size_drew] <;> omega) | exact not_noB _)) only [go_sem, ↓reduceIte, n0, reduceCtorEq, n1, n2, n3, n4, n5, i0, i1, i2, i3, i4, i5, i6, i7, hr1, hr2, hr3]
      all_goals rfl
    · rintro ρ w_6 ⟨j, q, hj, hI, hN, hS, hr1, hr2, hr3, hbv, hG, hU_6⟩
      have hz_6 := hU_6.size
      have hUv_6 := hUv.keep (hU_6.keeps fun b _ hk e => hoS b hk e)
      have hU_16 : Upd (fun b => b = (w.heap.size + 2)) w1 w_6 := hU8.trans hU_6
      have hz_16 := hU_16.size
      by_cases hlt : j < t.u.length
      · obtain ⟨_, b, o, x, vv, hb, hokb, hx, hblt, hxs, hxe, _, _, hfv, hbvv, h32⟩ := TagsV.get hUv_6 hlt
        subst hb
        have hcat : t.u.take (j + 1) = t.u.take j ++ [t.u[j]] := List.take_succ_eq_append_getElem hlt
        have hnew : ∀ z ∈ t.u.take j, z.1 ≠ t.u[j].1 := by
          intro z hz
          obtain ⟨k, hk, rfl⟩ := List.getElem_of_mem hz
          simp only [List.length_take] at hk
          have := List.pairwise_iff_getElem.1 hfu.2.2 k j (by omega) hlt (by omega)
          rw [List.getElem_take]; omega
        generalize t.u[j] = y at *
        obtain ⟨bSy, cSy, rfl, hcSy⟩ := hbvv.shape
        repeat ((first | refine W.seqR rfl ?_ | refine W.seq ?_ | refine W.regR rfl ?_ | refine W.condK ?_ | refine W.block ?_ | refine W.skip ?_ | refine W.ret ?_ | refine W.exit ?_); try simp (maxSteps := 1000000) (disch := (first | omega | (simp only [World.size_alloc, size_wr, size_drew] <;> omega) | exact not_noB _)) only [go_sem, ↓reduceIte, n0, reduceCtorEq, n1, n2, n3, n4, n5, i0, i1, i2, i3, i4, i5, i6, i7, hI, hN, hS, hx, hxe, hfv, cellsAt_two, Int.toNat_natCast])
        generalize hw_7 : (wr (w_6.alloc (.cells #[.int .u32 0, .slice none 0 0] 64)) w_6.heap.size 0 [.int .u32 y.1, .slice bSy y.2.length cSy]) = w_7
        have hE_7 : Ext w_6 w_7 := by rw [← hw_7]; exact (Upd.alloc (Upd.refl _ _) _).wr _ _ (.inl (Nat.le_refl _))
        have hb_7 : blk w_7 w_6.heap.size = some (#[.int .u32 y.1, .slice bSy y.2.length cSy], 64, (0, 0)) := by rw [← hw_7]; simp (maxSteps := 1000000) (disch := (first | omega | (simp only [World.size_alloc, size_wr, size_drew] <;> omega) | exact not_noB _)) only [go_sem, ↓reduceIte, n0, reduceCtorEq, n1, n2, n3, n4, n5, i0, i1, i2, i3, i4, i5, i6, i7]
        have hz_7 : w_7.heap.size = w_6.heap.size + 1 := by rw [← hw_7]; simp only [size_wr, World.size_alloc]
        clear hw_7
        have hbt_7 := hE_7.blk_some hbv id
        simp (maxSteps := 1000000) (disch := (first | omega | (simp only [World.size_alloc, size_wr, size_drew] <;> omega) | exact not_noB _)) only [go_sem, ↓reduceIte, n0, reduceCtorEq, n1, n2, n3, n4, n5, i0, i1, i2, i3, i4, i5, i6, i7, hr1, hr2, hr3, hbt_7, hb_7, cellsAt_two]
        have hE_7d : Ext w_7 w_7 := Upd.refl _ _
        have hE_6d : Ext w_6 w_7 := hE_7.trans hE_7d
        have hG_7 : TagsG (OkS okT w.heap.size) w8.heap.size w_7 (.map q) (t.u.take j) := hG.keep fun b hb _ => hE_6d.keep b hb id
        have hbt_8 := hE_7d.blk_some hbt_7 id
        have hm_8 : (#[strV (t.at 0).s, .slice al1 (t.at 1).l.length kl1, .map q] : Array Value)[2]? = some (.map q) := rfl
        refine (TagsSet_fn (okT := (OkS okT w.heap.size)) (L := w8.heap.size) w_7 hG_7 (by have := hE_6d.size; omega) (by omega) hbt_8 (o := 2) hm_8 (thaw_00 _ _) y _ ((hbvv.weaken fun b _ hk => ⟨hk, by have := hk.2; omega⟩).keep (hE_6d.keeps _)) h32 hnew hoS).mono ?_
        rintro _ w_8 ⟨m', hb_8, hG_8, hM_8⟩
        simp only [List.setIfInBounds_toArray, List.set_cons_succ, List.set_cons_zero] at hb_8
        repeat ((first | refine W.seqR rfl ?_ | refine W.seq ?_ | refine W.regR rfl ?_ | refine W.condK ?_ | refine W.block ?_ | refine W.skip ?_ | refine W.ret ?_ | refine W.exit ?_); try simp (maxSteps := 1000000) (disch := (first | omega | (simp only [World.size_alloc, size_wr, size_drew] <;> omega) | exact not_noB _)) only [go_sem, ↓reduceIte, n0, reduceCtorEq, n1, n2, n3, n4, n5, i0, i1, i2, i3, i4, i5, i6, i7, hI])
        refine ⟨⟨j + 1, m', by omega, rfl, hN, hS, hr1, hr2, hr3, hb_8, by rw [hcat]; exact hG_8, ?_⟩, ?_⟩
        · exact hU_6.more ((hE_6d.mono fun _ h => h.elim).trans hM_8) fun b hb h => by
            rcases h with h | h
            · exact h
            · cases h; have := (hG.lt rfl).2; omega
        · simp only [RowKit.intOf]; omega
      · have hjl : j = t.u.length := by omega
        subst hjl
        rw [List.take_length] at hG
        have hT5 : Upd (fun b => b = (w.heap.size + 2)) w5 w_6 := hV8.trans hU_6
        have hT4 : Upd (fun b => b = (w.heap.size + 2)) w4 w_6 := hV5.trans hT5
        have hT3 : Upd (fun b => b = (w.heap.size + 2)) w3 w_6 := hV4.trans hT4
        have hT2 : Upd (fun b => b = (w.heap.size + 2)) w2 w_6 := hV3.trans hT3
        have hT1 : Upd (fun b => b = (w.heap.size + 2)) w1 w_6 := hV2.trans hT2
        have hz0_f := hf0.keepS (hT3.keeps fun b _ hk e => hoF b hk e)
        have hz1_f := hf1.keepS (hU_6.keeps fun b _ hk e => hoF b hk e)
        have hTg := hG.tags (ok' := (OkF okT w.heap.size w1.heap.size)) (fun b _ hk => .inl hk) (fun b hb => .inr (by omega))
        have hL : RepL (RepS true (d + 1)) (szS true (d + 1)) (OkF okT w.heap.size w1.heap.size) w_6 t [fBeginQuorumEpochRequestTopic_0, fBeginQuorumEpochRequestTopic_1] 0 [strV (t.at 0).s, .slice al1 (t.at 1).l.length kl1] := (RepL.cons1 hz0_f (RepL.cons1 hz1_f RepL.nil))
        have hR : RepS true (d + 2) fs_BeginQuorumEpochRequestTopic (OkF okT w.heap.size w1.heap.size) w_6 t [strV (t.at 0).s, .slice al1 (t.at 1).l.length kl1, .map q] := RepS.intro (c := [strV (t.at 0).s, .slice al1 (t.at 1).l.length kl1]) rfl hL hTg
        have hcA : cellsAt #[strV (t.at 0).s, .slice al1 (t.at 1).l.length kl1, .map q] 0 3 = some (.agg #[strV (t.at 0).s, .slice al1 (t.at 1).l.length kl1, .map q]) := cellsAt_full rfl
        have hrb_6 := hT1.blk_some hrb1 (by omega)
        repeat ((first | refine W.seqR rfl ?_ | refine W.seq ?_ | refine W.regR rfl ?_ | refine W.condK ?_ | refine W.block ?_ | refine W.skip ?_ | refine W.ret ?_ | refine W.exit ?_); try simp (maxSteps := 1000000) (disch := (first | omega | (simp only [World.size_alloc, size_wr, size_drew] <;> omega) | exact not_noB _)) only [go_sem, ↓reduceIte, n0, reduceCtorEq, n1, n2, n3, n4, n5, i0, i1, i2, i3, i4, i5, i6, i7, hI, hN, hr1, hr2, hr3, hbv, hrb_6, hcA])
        have hUr : Upd (fun b => b = w.heap.size + 1) w_6 (wr w_6 (w.heap.size + 1) 0 [strV (t.at 0).s, .slice al1 (t.at 1).l.length kl1, .map q]) := (Upd.refl _ _).wr _ _ (.inr rfl)
        refine ⟨⟨_, rfl, (RepS_lay true (d + 2) fs_BeginQuorumEpochRequestTopic).weaken ((RepS_lay true (d + 2) fs_BeginQuorumEpochRequestTopic).keep hR (hUr.keeps fun b _ hk e => hoR b hk e)) (fun b _ hk => hk.imp And.left fun h => by omega)⟩, ?_⟩
        exact (hE1.more hT1 fun b hb h => by omega).wr _ _ (.inl (by omega))

set_option maxHeartbeats 2000000 in
theorem makeBeginQuorumEpochRequestLeaderEndpoint_fn {d : Nat} {okT : Blocks} {V : Int} (t : Tree) (ct : List Value) (w : World) (ht : TreeC okT w t ct) (hfit : FitP V (d + 1) fs_BeginQuorumEpochRequestLeaderEndpoint t) (hLs : Lists t) :
    Fn Try.prog 163 #[.agg ct.toArray] w fun r w' => (∃ cs, r = .agg cs.toArray ∧ RepS true (d + 1) fs_BeginQuorumEpochRequestLeaderEndpoint (okN okT w.heap.size) w' t cs) ∧ Ext w w' := by
  obtain ⟨vS, vL, vU, rfl, hn, hSx, hLx0, hUx⟩ := ht.inv
  obtain ⟨bS, cS, rfl, hcS⟩ := hSx.shape
  obtain ⟨bL, cL, rfl, hcL⟩ := SlR.shape hLx0
  obtain ⟨bU, cU, rfl, hcU⟩ := SlR.shape hUx
  obtain ⟨⟨g0, g1, g2, -⟩, hfu⟩ := hfit
  replace g0 : FitF (FitP V d) V fBeginQuorumEpochRequestLeaderEndpoint_0 (t.at 0) := g0
  replace g1 : FitF (FitP V d) V fBeginQuorumEpochRequestLeaderEndpoint_1 (t.at 1) := g1
  replace g2 : FitF (FitP V d) V fBeginQuorumEpochRequestLeaderEndpoint_2 (t.at 2) := g2
  have hllt : t.l.length < 4611686018427387903 := Nat.lt_of_le_of_lt hLs.len (by decide)
  have hul := hLs.ulen
  refine fn_of_W Try.func163 rfl Try.results163 Try.ntmps163 rfl ?_
  obtain ⟨w1, hw1⟩ : ∃ w1, w1 = (((w.alloc (.cells #[.int .i64 t.n, .slice bS t.s.length cS, .bool t.null, .slice bL t.l.length cL, .slice bU t.u.length cU] 39)).alloc (.cells #[.string ByteArray.empty, .string ByteArray.empty, .int .u16 0, .map none] 198)).alloc (.cells #[.string ByteArray.empty, .string ByteArray.empty, .int .u16 0, .map none] 198)) := ⟨_, rfl⟩
  have hE1 : Ext w w1 := by rw [hw1]; exact ((Upd.refl _ _).alloc _).alloc _ |>.alloc _
  have hz1 : w1.heap.size = w.heap.size + 3 := by rw [hw1]; simp only [World.size_alloc]
  have htb1 : blk w1 w.heap.size = some (#[.int .i64 t.n, .slice bS t.s.length cS, .bool t.null, .slice bL t.l.length cL, .slice bU t.u.length cU], 39, (0, 0)) := by rw [hw1]; simp (maxSteps := 1000000) (disch := (first | omega | (simp only [World.size_alloc, size_wr, size_drew] <;> omega) | exact not_noB _)) only [go_sem, ↓reduceIte, n0, reduceCtorEq, n1, n2, n3, n4, n5, i0, i1, i2, i3, i4, i5, i6, i7]
  have hrb1 : blk w1 (w.heap.size + 1) = some (#[.string ByteArray.empty, .string ByteArray.empty, .int .u16 0, .map none], 198, (0, 0)) := by rw [hw1]; simp (maxSteps := 1000000) (disch := (first | omega | (simp only [World.size_alloc, size_wr, size_drew] <;> omega) | exact not_noB _)) only [go_sem, ↓reduceIte, n0, reduceCtorEq, n1, n2, n3, n4, n5, i0, i1, i2, i3, i4, i5, i6, i7]
  have hb1 : blk w1 (w.heap.size + 2) = some (#[.string ByteArray.empty, .string ByteArray.empty, .int .u16 0, .map none], 198, (0, 0)) := by rw [hw1]; simp (maxSteps := 1000000) (disch := (first | omega | (simp only [World.size_alloc, size_wr, size_drew] <;> omega) | exact not_noB _)) only [go_sem, ↓reduceIte, n0, reduceCtorEq, n1, n2, n3, n4, n5, i0, i1, i2, i3, i4, i5, i6, i7]
  have hoS : ∀ b, (OkS okT w.heap.size) b → b ≠ (w.heap.size + 2) := fun b h => by have := h.2; omega
  have hoR : ∀ b, (OkF okT w.heap.size w1.heap.size) b → b ≠ w.heap.size + 1 := fun b h => by
    rcases h with h | h
    · have := h.2; omega
    · omega
  have htv : ¬ w.heap.size = (w.heap.size + 2) := by omega
  have hoF : ∀ b, (OkF okT w.heap.size w1.heap.size) b → b ≠ (w.heap.size + 2) := fun b h => by
    rcases h with h | h
    · exact hoS b h
    · omega
  have hU1 : Upd (fun b => b = (w.heap.size + 2)) w1 w1 := Upd.refl _ _
  have hvl1 := blk_lt hb1
  have hsz1 := Nat.le_refl w1.heap.size
  have ht1 : TreeC (OkS okT w.heap.size) w1 t [.int .i64 t.n, .slice bS t.s.length cS, .bool t.null, .slice bL t.l.length cL, .slice bU t.u.length cU] := (ht.weaken fun b h1 h2 => ⟨h2, h1⟩).keep (hE1.keeps _)
  have hU1v : TagsV (OkS okT w.heap.size) w1 (.slice bU t.u.length cU) t.u := (hUx.weaken fun b h1 h2 => ⟨h2, h1⟩).keep (hE1.keeps _)
  repeat ((first | refine W.seqR rfl ?_ | refine W.seq ?_ | refine W.regR rfl ?_ | refine W.condK ?_ | refine W.block ?_ | refine W.skip ?_ | refine W.ret ?_ | refine W.exit ?_); try simp (maxSteps := 1000000) (disch := (first | omega | (simp only [World.size_alloc, size_wr, size_drew] <;> omega) | exact not_noB _)) only [go_sem, ↓reduceIte, n0, reduceCtorEq, n1, n2, n3, n4, n5, i0, i1, i2, i3, i4, i5, i6, i7])
  rw [← hw1]
  clear hw1
  refine (iat_fn (ok := (OkS okT w.heap.size)) t 0 _ _ (ht1.keep (hU1.keeps fun b _ hk e => hoS b hk e)) (by decide) hllt).mono ?_
  rintro r2 w2 ⟨⟨ca2, rfl, hca2⟩, hEa2⟩
  obtain ⟨vSa2, vLa2, vUa2, rfl, hna2, hSa2, hLa2, hUa2⟩ := hca2.inv
  obtain ⟨bSa2, cSa2, rfl, hcSa2⟩ := hSa2.shape
  obtain ⟨bLa2, cLa2, rfl, hcLa2⟩ := SlR.shape hLa2
  have hfU2 := SlR.flat hUa2
  clear hcSa2 hcLa2 hna2
  have hV2 : Upd (fun b => b = (w.heap.size + 2)) w1 w2 := hEa2.mono fun _ h => h.elim
  have hU2 : Upd (fun b => b = (w.heap.size + 2)) w1 w2 := hU1.trans hV2
  have htb2 := hU2.blk_some htb1 htv
  have hvl2 : (w.heap.size + 2) < w2.heap.size := Nat.lt_of_lt_of_le hvl1 hU2.size
  have hsz2 := hU2.size
  have hb2 : blk w2 (w.heap.size + 2) = some (#[.string ByteArray.empty, .string ByteArray.empty, .int .u16 0, .map none], 198, (0, 0)) := hEa2.blk_some hb1 id
  simp (maxSteps := 1000000) (disch := (first | omega | (simp only [World.size_alloc, size_wr, size_drew] <;> omega) | exact not_noB _)) only [go_sem, ↓reduceIte, n0, reduceCtorEq, n1, n2, n3, n4, n5, i0, i1, i2, i3, i4, i5, i6, i7, hb2, htb2]
  refine wp_string (S := 22) (T := 9) (E := 5) (s := (t.at 0).s) (ok := (OkS okT w.heap.size)) (by kernel_rfl) (by kernel_rfl) (by kernel_rfl) (by simp (maxSteps := 1000000) (disch := (first | omega | (simp only [World.size_alloc, size_wr, size_drew] <;> omega) | exact not_noB _)) only [go_sem, ↓reduceIte, n0, reduceCtorEq, n1, n2, n3, n4, n5, i0, i1, i2, i3, i4, i5, i6, i7]; exact hSa2) ?_
  simp (maxSteps := 1000000) (disch := (first | omega | (simp only [World.size_alloc, size_wr, size_drew] <;> omega) | exact not_noB _)) only [go_sem, ↓reduceIte, n0, reduceCtorEq, n1, n2, n3, n4, n5, i0, i1, i2, i3, i4, i5, i6, i7, hb2, htb2]
  generalize hw3 : wr w2 (w.heap.size + 2) 0 [strV (t.at 0).s] = w3
  have hV3 : Upd (fun b => b = (w.heap.size + 2)) w2 w3 := by rw [← hw3]; exact (Upd.refl _ _).wr _ _ (.inr rfl)
  have hb3 : blk w3 (w.heap.size + 2) = some (#[strV (t.at 0).s, .string ByteArray.empty, .int .u16 0, .map none], 198, (0, 0)) := by rw [← hw3, blk_wr_eq, hb2]; rfl
  have hU3 : Upd (fun b => b = (w.heap.size + 2)) w1 w3 := hU2.trans hV3
  have htb3 := hU3.blk_some htb1 htv
  have hvl3 : (w.heap.size + 2) < w3.heap.size := Nat.lt_of_lt_of_le hvl1 hU3.size
  have hsz3 := hU3.size
  clear hvl2 hsz2
  clear hw3
  have hf0 : RepF (RepS true d) (szS true d) fBeginQuorumEpochRequestLeaderEndpoint_0 (OkF okT w.heap.size w1.heap.size) w3 (t.at 0) [strV (t.at 0).s] := (RepF_text rfl (by decide)).2 rfl
  repeat ((first | refine W.seqR rfl ?_ | refine W.seq ?_ | refine W.regR rfl ?_ | refine W.condK ?_ | refine W.block ?_ | refine W.skip ?_ | refine W.ret ?_ | refine W.exit ?_); try simp (maxSteps := 1000000) (disch := (first | omega | (simp only [World.size_alloc, size_wr, size_drew] <;> omega) | exact not_noB _)) only [go_sem, ↓reduceIte, n0, reduceCtorEq, n1, n2, n3, n4, n5, i0, i1, i2, i3, i4, i5, i6, i7, hb3, htb3])
  refine (iat_fn (ok := (OkS okT w.heap.size)) t 1 _ _ (ht1.keep (hU3.keeps fun b _ hk e => hoS b hk e)) (by decide) hllt).mono ?_
  rintro r4 w4 ⟨⟨ca4, rfl, hca4⟩, hEa4⟩
  obtain ⟨vSa4, vLa4, vUa4, rfl, hna4, hSa4, hLa4, hUa4⟩ := hca4.inv
  obtain ⟨bSa4, cSa4, rfl, hcSa4⟩ := hSa4.shape
  obtain ⟨bLa4, cLa4, rfl, hcLa4⟩ := SlR.shape hLa4
  have hfU4 := SlR.flat hUa4
  clear hcSa4 hcLa4 hna4
  have hV4 : Upd (fun b => b = (w.heap.size + 2)) w3 w4 := hEa4.mono fun _ h => h.elim
  have hU4 : Upd (fun b => b = (w.heap.size + 2)) w1 w4 := hU3.trans hV4
  have htb4 := hU4.blk_some htb1 htv
  have hvl4 : (w.heap.size + 2) < w4.heap.size := Nat.lt_of_lt_of_le hvl1 hU4.size
  have hsz4 := hU4.size
  clear hvl3 hsz3
  have hb4 : blk w4 (w.heap.size + 2) = some (#[strV (t.at 0).s, .string ByteArray.empty, .int .u16 0, .map none], 198, (0, 0)) := hEa4.blk_some hb3 id
  simp (maxSteps := 1000000) (disch := (first | omega | (simp only [World.size_alloc, size_wr, size_drew] <;> omega) | exact not_noB _)) only [go_sem, ↓reduceIte, n0, reduceCtorEq, n1, n2, n3, n4, n5, i0, i1, i2, i3, i4, i5, i6, i7, hb4, htb4]
  refine wp_string (S := 22) (T := 9) (E := 5) (s := (t.at 1).s) (ok := (OkS okT w.heap.size)) (by kernel_rfl) (by kernel_rfl) (by kernel_rfl) (by simp (maxSteps := 1000000) (disch := (first | omega | (simp only [World.size_alloc, size_wr, size_drew] <;> omega) | exact not_noB _)) only [go_sem, ↓reduceIte, n0, reduceCtorEq, n1, n2, n3, n4, n5, i0, i1, i2, i3, i4, i5, i6, i7]; exact hSa4) ?_
  simp (maxSteps := 1000000) (disch := (first | omega | (simp only [World.size_alloc, size_wr, size_drew] <;> omega) | exact not_noB _)) only [go_sem, ↓reduceIte, n0, reduceCtorEq, n1, n2, n3, n4, n5, i0, i1, i2, i3, i4, i5, i6, i7, hb4, htb4]
  generalize hw5 : wr w4 (w.heap.size + 2) 1 [strV (t.at 1).s] = w5
  have hV5 : Upd (fun b => b = (w.heap.size + 2)) w4 w5 := by rw [← hw5]; exact (Upd.refl _ _).wr _ _ (.inr rfl)
  have hb5 : blk w5 (w.heap.size + 2) = some (#[strV (t.at 0).s, strV (t.at 1).s, .int .u16 0, .map none], 198, (0, 0)) := by rw [← hw5, blk_wr_eq, hb4]; rfl
  have hU5 : Upd (fun b => b = (w.heap.size + 2)) w1 w5 := hU4.trans hV5
  have htb5 := hU5.blk_some htb1 htv
  have hvl5 : (w.heap.size + 2) < w5.heap.size := Nat.lt_of_lt_of_le hvl1 hU5.size
  have hsz5 := hU5.size
  clear hvl4 hsz4
  clear hw5
  have hf1 : RepF (RepS true d) (szS true d) fBeginQuorumEpochRequestLeaderEndpoint_1 (OkF okT w.heap.size w1.heap.size) w5 (t.at 1) [strV (t.at 1).s] := (RepF_text rfl (by decide)).2 rfl
  repeat ((first | refine W.seqR rfl ?_ | refine W.seq ?_ | refine W.regR rfl ?_ | refine W.condK ?_ | refine W.block ?_ | refine W.skip ?_ | refine W.ret ?_ | refine W.exit ?_); try simp (maxSteps := 1000000) (disch := (first | omega | (simp only [World.size_alloc, size_wr, size_drew] <;> omega) | exact not_noB _)) only [go_sem, ↓reduceIte, n0, reduceCtorEq, n1, n2, n3, n4, n5, i0, i1, i2, i3, i4, i5, i6, i7, hb5, htb5])
  refine (iat_fn (ok := (OkS okT w.heap.size)) t 2 _ _ (ht1.keep (hU5.keeps fun b _ hk e => hoS b hk e)) (by decide) hllt).mono ?_
  rintro r6 w6 ⟨⟨ca6, rfl, hca6⟩, hEa6⟩
  obtain ⟨vSa6, vLa6, vUa6, rfl, hna6, hSa6, hLa6, hUa6⟩ := hca6.inv
  obtain ⟨bSa6, cSa6, rfl, hcSa6⟩ := hSa6.shape
  obtain ⟨bLa6, cLa6, rfl, hcLa6⟩ := SlR.shape hLa6
  have hfU6 := SlR.flat hUa6
  clear hcSa6 hcLa6 hna6
  have hV6 : Upd (fun b => b = (w.heap.size + 2)) w5 w6 := hEa6.mono fun _ h => h.elim
  have hU6 : Upd (fun b => b = (w.heap.size + 2)) w1 w6 := hU5.trans hV6
  have htb6 := hU6.blk_some htb1 htv
  have hvl6 : (w.heap.size + 2) < w6.heap.size := Nat.lt_of_lt_of_le hvl1 hU6.size
  have hsz6 := hU6.size
  clear hvl5 hsz5
  have hb6 : blk w6 (w.heap.size + 2) = some (#[strV (t.at 0).s, strV (t.at 1).s, .int .u16 0, .map none], 198, (0, 0)) := hEa6.blk_some hb5 id
  simp (maxSteps := 1000000) (disch := (first | omega | (simp only [World.size_alloc, size_wr, size_drew] <;> omega) | exact not_noB _)) only [go_sem, ↓reduceIte, n0, reduceCtorEq, n1, n2, n3, n4, n5, i0, i1, i2, i3, i4, i5, i6, i7, hb6, htb6]
  generalize hw7 : wr w6 (w.heap.size + 2) 2 [.int .u16 (IntKind.u16.wrap (t.at 2).n)] = w7
  have hV7 : Upd (fun b => b = (w.heap.size + 2)) w6 w7 := by rw [← hw7]; exact (Upd.refl _ _).wr _ _ (.inr rfl)
  have hb7 : blk w7 (w.heap.size + 2) = some (#[strV (t.at 0).s, strV (t.at 1).s, .int .u16 (IntKind.u16.wrap (t.at 2).n), .map none], 198, (0, 0)) := by rw [← hw7, blk_wr_eq, hb6]; rfl
  have hU7 : Upd (fun b => b = (w.heap.size + 2)) w1 w7 := hU6.trans hV7
  have htb7 := hU7.blk_some htb1 htv
  have hvl7 : (w.heap.size + 2) < w7.heap.size := Nat.lt_of_lt_of_le hvl1 hU7.size
  have hsz7 := hU7.size
  clear hvl6 hsz6
  clear hw7
  have hf2 : RepF (RepS true d) (szS true d) fBeginQuorumEpochRequestLeaderEndpoint_2 (OkF okT w.heap.size w1.heap.size) w7 (t.at 2) [.int .u16 (IntKind.u16.wrap (t.at 2).n)] := (RepF_num (by decide)).2 rfl
  repeat ((first | refine W.seqR rfl ?_ | refine W.seq ?_ | refine W.regR rfl ?_ | refine W.condK ?_ | refine W.block ?_ | refine W.skip ?_ | refine W.ret ?_ | refine W.exit ?_); try simp (maxSteps := 1000000) (disch := (first | omega | (simp only [World.size_alloc, size_wr, size_drew] <;> omega) | exact not_noB _)) only [go_sem, ↓reduceIte, n0, reduceCtorEq, n1, n2, n3, n4, n5, i0, i1, i2, i3, i4, i5, i6, i7, hb7, htb7])
  have hUv := hU1v.keep (hU7.keeps fun b _ hk e => hoS b hk e)
  refine W.loop (fun ρ w' => ∃ (j : Nat) (q : Option Nat), j ≤ t.u.length ∧ ρ 24 = .int .i64 j ∧ ρ 23 = .int .i64 t.u.length ∧ ρ 22 = .slice bU t.u.length cU ∧ ρ 1 = .pointer (some ⟨w.heap.size, 0, none⟩) ∧ ρ 2 = .pointer (some ⟨w.heap.size + 1, 0, none⟩) ∧ ρ 3 = .pointer (some ⟨(w.heap.size + 2), 0, none⟩) ∧ blk w' (w.heap.size + 2) = some (#[strV (t.at 0).s, strV (t.at 1).s, .int .u16 (IntKind.u16.wrap (t.at 2).n), .map q], 198, (0, 0)) ∧ TagsG (OkS okT w.heap.size) w7.heap.size w' (.map q) (t.u.take j) ∧ Upd (fun b => b = (w.heap.size + 2)) w7 w')
      (fun ρ _ => t.u.length - (RowKit.intOf (ρ 24)).toNat) ?_ ?_
  · refine ⟨0, none, Nat.zero_le _, ?_, ?_, ?_, ?_, ?_, ?_, hb7, TagsG.start _ _ _, Upd.refl _ _⟩ <;> simp (maxSteps := 1000000) (disch := (first | omega | (simp only [World.size_alloc, size_wr, size_drew] <;> omega) | exact not_noB _)) only [go_sem, ↓reduceIte, n0, reduceCtorEq, n1, n2, n3, n4, n5, i0, i1, i2, i3, i4, i5, i6, i7]
    all_goals rfl
  · rintro ρ w_6 ⟨j, q, hj, hI, hN, hS, hr1, hr2, hr3, hbv, hG, hU_6⟩
    have hz_6 := hU_6.size
    have hUv_6 := hUv.keep (hU_6.keeps fun b _ hk e => hoS b hk e)
    have hU_16 : Upd (fun b => b = (w.heap.size + 2)) w1 w_6 := hU7.trans hU_6
    have hz_16 := hU_16.size
    by_cases hlt : j < t.u.length
    · obtain ⟨_, b, o, x, vv, hb, hokb, hx, hblt, hxs, hxe, _, _, hfv, hbvv, h32⟩ := TagsV.get hUv_6 hlt
      subst hb
      have hcat : t.u.take (j + 1) = t.u.take j ++ [t.u[j]] := List.take_succ_eq_append_getElem hlt
      have hnew : ∀ z ∈ t.u.take j, z.1 ≠ t.u[j].1 := by
        intro z hz
        obtain ⟨k, hk, rfl⟩ := List.getElem_of_mem hz
        simp only [List.length_take] at hk
        have := List.pairwise_iff_getElem.1 hfu.2.2 k j (by omega) hlt (by omega)
        rw [List.getElem_take]; omega
      generalize t.u[j] = y at *
      obtain ⟨bSy, cSy, rfl, hcSy⟩ := hbvv.shape
      repeat ((first | refine W.seqR rfl ?_ | refine W.seq ?_ | refine W.regR rfl ?_ | refine W.condK ?_ | refine W.block ?_ | refine W.skip ?_ | refine W.ret ?_ | refine W.exit ?_); try simp (maxSteps := 1000000) (disch := (first | omega | (simp only [World.size_alloc, size_wr, size_drew] <;> omega) | exact not_noB _)) only [go_sem, ↓reduceIte, n0, reduceCtorEq, n1, n2, n3, n4, n5, i0, i1, i2, i3, i4, i5, i6, i7, hI, hN, hS, hx, hxe, hfv, cellsAt_two, Int.toNat_natCast])
      generalize hw_7 : (wr (w_6.alloc (.cells #[.int .u32 0, .slice none 0 0] 64)) w_6.heap.size 0 [.int .u32 y.1, .slice bSy y.2.length cSy]) = w_7
      have hE_7 : Ext w_6 w_7 := by rw [← hw_7]; exact (Upd.alloc (Upd.refl _ _) _).wr _ _ (.inl (Nat.le_refl _))
      have hb_7 : blk w_7 w_6.heap.size = some (#[.int .u32 y.1, .slice bSy y.2.length cSy], 64, (0, 0)) := by rw [← hw_7]; simp (maxSteps := 1000000) (disch := (first | omega | (simp only [World.size_alloc, size_wr, size_drew] <;> omega) | exact not_noB _)) only [go_sem, ↓reduceIte, n0, reduceCtorEq, n1, n2, n3, n4, n5, i0, i1, i2, i3, i4, i5, i6, i7]
      have hz_7 : w_7.heap.size = w_6.heap.size + 1 := by rw [← hw_7]; simp only [size_wr, World.size_alloc]
      clear hw_7
      have hbt_7 := hE_7.blk_some hbv id
      simp (maxSteps := 1000000) (disch := (first | omega | (simp only [World.size_alloc, size_wr, size_drew] <;> omega) | exact not_noB _)) only [go_sem, ↓reduceIte, n0, reduceCtorEq, n1, n2, n3, n4, n5, i0, i1, i2, i3, i4, i5, i6, i7, hr1, hr2, hr3, hbt_7, hb_7, cellsAt_two]
      have hE_7d : Ext w_7 w_7 := Upd.refl _ _
      have hE_6d : Ext w_6 w_7 := hE_7.trans hE_7d
      have hG_7 : TagsG (OkS okT w.heap.size) w7.heap.size w_7 (.map q) (t.u.take j) := hG.keep fun b hb _ => hE_6d.keep b hb id
      have hbt_8 := hE_7d.blk_some hbt_7 id
      have hm_8 : (#[strV (t.at 0).s, strV (t.at 1).s, .int .u16 (IntKind.u16.wrap (t.at 2).n), .map q] : Array Value)[3]? = some (.map q) := rfl
      refine (TagsSet_fn (okT := (OkS okT w.heap.size)) (L := w7.heap.size) w_7 hG_7 (by have := hE_6d.size; omega) (by omega) hbt_8 (o := 3) hm_8 (thaw_00 _ _) y _ ((hbvv.weaken fun b _ hk => ⟨hk, by have := hk.2; omega⟩).keep (hE_6d.keeps _)) h32 hnew hoS).mono ?_
      rintro _ w_8 ⟨m', hb_8, hG_8, hM_8⟩
      simp only [List.setIfInBounds_toArray, List.set_cons_succ, List.set_cons_zero] at hb_8
      repeat ((first | refine W.seqR rfl ?_ | refine W.seq ?_ | refine W.regR rfl ?_ | refine W.condK ?_ | refine W.block ?_ | refine W.skip ?_ | refine W.ret ?_ | refine W.exit ?_); try simp (maxSteps := 1000000) (disch := (first | omega | (simp only [World.size_alloc, size_wr, size_drew] <;> omega) | exact not_noB _)) only [go_sem, ↓reduceIte, n0, reduceCtorEq, n1, n2, n3, n4, n5, i0, i1, i2, i3, i4, i5, i6, i7, hI])
      refine ⟨⟨j + 1, m', by omega, rfl, hN, hS, hr1, hr2, hr3, hb_8, by rw [hcat]; exact hG_8, ?_⟩, ?_⟩
      · exact hU_6.more ((hE_6d.mono fun _ h => h.elim).trans hM_8) fun b hb h => by
          rcases h with h | h
          · exact h
          · cases h; have := (hG.lt rfl).2; omega
      · simp only [RowKit.intOf]; omega
    · have hjl : j = t.u.length := by omega
      subst hjl
      rw [List.take_length] at hG
      have hT6 : Upd (fun b => b = (w.heap.size + 2)) w6 w_6 := hV7.trans hU_6
      have hT5 : Upd (fun b => b = (w.heap.size + 2)) w5 w_6 := hV6.trans hT6
      have hT4 : Upd (fun b => b = (w.heap.size + 2)) w4 w_6 := hV5.trans hT5
      have hT3 : Upd (fun b => b = (w.heap.size + 2)) w3 w_6 := hV4.trans hT4
      have hT2 : Upd (fun b => b = (w.heap.size + 2)) w2 w_6 := hV3.trans hT3
      have hT1 : Upd (fun b => b = (w.heap.size + 2)) w1 w_6 := hV2.trans hT2
      have hz0_f := hf0.keepS (hT3.keeps fun b _ hk e => hoF b hk e)
      have hz1_f := hf1.keepS (hT5.keeps fun b _ hk e => hoF b hk e)
      have hz2_f := hf2.keepS (hU_6.keeps fun b _ hk e => hoF b hk e)
      have hTg := hG.tags (ok' := (OkF okT w.heap.size w1.heap.size)) (fun b _ hk => .inl hk) (fun b hb => .inr (by omega))
      have hL : RepL (RepS true d) (szS true d) (OkF okT w.heap.size w1.heap.size) w_6 t [fBeginQuorumEpochRequestLeaderEndpoint_0, fBeginQuorumEpochRequestLeaderEndpoint_1, fBeginQuorumEpochRequestLeaderEndpoint_2] 0 [strV (t.at 0).s, strV (t.at 1).s, .int .u16 (IntKind.u16.wrap (t.at 2).n)] := (RepL.cons1 hz0_f (RepL.cons1 hz1_f (RepL.cons1 hz2_f RepL.nil)))
      have hR : RepS true (d + 1) fs_BeginQuorumEpochRequestLeaderEndpoint (OkF okT w.heap.size w1.heap.size) w_6 t [strV (t.at 0).s, strV (t.at 1).s, .int .u16 (IntKind.u16.wrap (t.at 2).n), .map q] := RepS.intro (c := [strV (t.at 0).s, strV (t.at 1).s, .int .u16 (IntKind.u16.wrap (t.at 2).n)]) rfl hL hTg
      have hcA : cellsAt #[strV (t.at 0).s, strV (t.at 1).s, .int .u16 (IntKind.u16.wrap (t.at 2).n), .map q] 0 4 = some (.agg #[strV (t.at 0).s, strV (t.at 1).s, .int .u16 (IntKind.u16.wrap (t.at 2).n), .map q]) := cellsAt_full rfl
      have hrb_6 := hT1.blk_some hrb1 (by omega)
      repeat ((first | refine W.seqR rfl ?_ | refine W.seq ?_ | refine W.regR rfl ?_ | refine W.condK ?_ | refine W.block ?_ | refine W.skip ?_ | refine W.ret ?_ | refine W.exit ?_); try simp (maxSteps := 1000000) (disch := (first | omega | (simp only [World.size_alloc, size_wr, size_drew] <;> omega) | exact not_noB _)) only [go_sem, ↓reduceIte, n0, reduceCtorEq, n1, n2, n3, n4, n5, i0, i1, i2, i3, i4, i5, i6, i7, hI, hN, hr1, hr2, hr3, hbv, hrb_6, hcA])
      have hUr : Upd (fun b => b = w.heap.size + 1) w_6 (wr w_6 (w.heap.size + 1) 0 [strV (t.at 0).s, strV (t.at 1).s, .int .u16 (IntKind.u16.wrap (t.at 2).n), .map q]) := (Upd.refl _ _).wr _ _ (.inr rfl)
      refine ⟨⟨_, rfl, (RepS_lay true (d + 1) fs_BeginQuorumEpochRequestLeaderEndpoint).weaken ((RepS_lay true (d + 1) fs_BeginQuorumEpochRequestLeaderEndpoint).keep hR (hUr.keeps fun b _ hk e => hoR b hk e)) (fun b _ hk => hk.imp And.left fun h => by omega)⟩, ?_⟩
      exact (hE1.more hT1 fun b hb h => by omega).wr _ _ (.inl (by omega))

set_option maxHeartbeats 2000000 in
theorem fillBeginQuorumEpochRequest_fn {d : Nat} {okT : Blocks} {V ver : Int} (t : Tree) (ct : List Value) (w : World) {vb : Nat} (hvb : blk w vb = some (#[.int .i16 ver, .pointer none, .int .i32 0, .slice none 0 0, .slice none 0 0, .map none], 117, (0, 0))) (ht : TreeC okT w t ct) (hok : ∀ b, okT b → b ≠ vb) (hfit : FitP V (d + 3) fs_BeginQuorumEpochRequest t) (hLs : Lists t) :
    Fn Try.prog 106 #[.pointer (some ⟨vb, 0, none⟩), .agg ct.toArray] w fun _ w' => ∃ cells, blk w' vb = some ((.int .i16 ver :: cells).toArray, 117, (0, 0)) ∧ RepS true (d + 3) fs_BeginQuorumEpochRequest (okN okT w.heap.size) w' t cells ∧ Upd (fun b => b = vb) w w' := by
  obtain ⟨vS, vL, vU, rfl, hn, hSx, hLx0, hUx⟩ := ht.inv
  obtain ⟨bS, cS, rfl, hcS⟩ := hSx.shape
  obtain ⟨bL, cL, rfl, hcL⟩ := SlR.shape hLx0
  obtain ⟨bU, cU, rfl, hcU⟩ := SlR.shape hUx
  obtain ⟨⟨g0, g1, g2, g3, -⟩, hfu⟩ := hfit
  replace g0 : FitF (FitP V (d + 2)) V fBeginQuorumEpochRequest_0 (t.at 0) := g0
  replace g1 : FitF (FitP V (d + 2)) V fBeginQuorumEpochRequest_1 (t.at 1) := g1
  replace g2 : FitF (FitP V (d + 2)) V fBeginQuorumEpochRequest_2 (t.at 2) := g2
  replace g3 : FitF (FitP V (d + 2)) V fBeginQuorumEpochRequest_3 (t.at 3) := g3
  have hllt : t.l.length < 4611686018427387903 := Nat.lt_of_le_of_lt hLs.len (by decide)
  have hul := hLs.ulen
  have hvl := blk_lt hvb
  refine fn_of_W Try.func106 rfl Try.results106 Try.ntmps106 rfl ?_
  obtain ⟨w1, hw1⟩ : ∃ w1, w1 = (w.alloc (.cells #[.int .i64 t.n, .slice bS t.s.length cS, .bool t.null, .slice bL t.l.length cL, .slice bU t.u.length cU] 39)) := ⟨_, rfl⟩
  have hE1 : Ext w w1 := by rw [hw1]; exact Upd.alloc (Upd.refl _ _) _
  have hz1 : w1.heap.size = w.heap.size + 1 := by rw [hw1, World.size_alloc]
  have htb1 : blk w1 w.heap.size = some (#[.int .i64 t.n, .slice bS t.s.length cS, .bool t.null, .slice bL t.l.length cL, .slice bU t.u.length cU], 39, (0, 0)) := by rw [hw1]; exact blk_alloc_new rfl
  have hb1 : blk w1 vb = some (#[.int .i16 ver, .pointer none, .int .i32 0, .slice none 0 0, .slice none 0 0, .map none], 117, (0, 0)) := hE1.blk_some hvb id
  have hoS : ∀ b, (OkS okT w.heap.size) b → b ≠ vb := fun b h => hok b h.1
  have htv : ¬ w.heap.size = vb := by omega
  have hoF : ∀ b, (OkF okT w.heap.size w1.heap.size) b → b ≠ vb := fun b h => by
    rcases h with h | h
    · exact hoS b h
    · omega
  have hU1 : Upd (fun b => b = vb) w1 w1 := Upd.refl _ _
  have hvl1 := blk_lt hb1
  have hsz1 := Nat.le_refl w1.heap.size
  have ht1 : TreeC (OkS okT w.heap.size) w1 t [.int .i64 t.n, .slice bS t.s.length cS, .bool t.null, .slice bL t.l.length cL, .slice bU t.u.length cU] := (ht.weaken fun b h1 h2 => ⟨h2, h1⟩).keep (hE1.keeps _)
  have hU1v : TagsV (OkS okT w.heap.size) w1 (.slice bU t.u.length cU) t.u := (hUx.weaken fun b h1 h2 => ⟨h2, h1⟩).keep (hE1.keeps _)
  repeat ((first | refine W.seqR rfl ?_ | refine W.seq ?_ | refine W.regR rfl ?_ | refine W.condK ?_ | refine W.block ?_ | refine W.skip ?_ | refine W.ret ?_ | refine W.exit ?_); try simp (maxSteps := 1000000) (disch := (first | omega | (simp only [World.size_alloc, size_wr, size_drew] <;> omega) | exact not_noB _)) only [go_sem, ↓reduceIte, n0, reduceCtorEq, n1, n2, n3, n4, n5, i0, i1, i2, i3, i4, i5, i6, i7])
  rw [← hw1]
  clear hw1
  refine (iat_fn (ok := (OkS okT w.heap.size)) t 0 _ _ (ht1.keep (hU1.keeps fun b _ hk e => hoS b hk e)) (by decide) hllt).mono ?_
  rintro r2 w2 ⟨⟨ca2, rfl, hca2⟩, hEa2⟩
  obtain ⟨vSa2, vLa2, vUa2, rfl, hna2, hSa2, hLa2, hUa2⟩ := hca2.inv
  obtain ⟨bSa2, cSa2, rfl, hcSa2⟩ := hSa2.shape
  obtain ⟨bLa2, cLa2, rfl, hcLa2⟩ := SlR.shape hLa2
  have hfU2 := SlR.flat hUa2
  clear hcSa2 hcLa2 hna2
  have hV2 : Upd (fun b => b = vb) w1 w2 := hEa2.mono fun _ h => h.elim
  have hU2 : Upd (fun b => b = vb) w1 w2 := hU1.trans hV2
  have htb2 := hU2.blk_some htb1 htv
  have hvl2 : vb < w2.heap.size := Nat.lt_of_lt_of_le hvl1 hU2.size
  have hsz2 := hU2.size
  have hb2 : blk w2 vb = some (#[.int .i16 ver, .pointer none, .int .i32 0, .slice none 0 0, .slice none 0 0, .map none], 117, (0, 0)) := hEa2.blk_some hb1 id
  simp (maxSteps := 1000000) (disch := (first | omega | (simp only [World.size_alloc, size_wr, size_drew] <;> omega) | exact not_noB _)) only [go_sem, ↓reduceIte, n0, reduceCtorEq, n1, n2, n3, n4, n5, i0, i1, i2, i3, i4, i5, i6, i7, hb2, htb2]
  refine (textOf_fn (okT := (OkS okT w.heap.size)) (t.at 0) _ _ hca2).mono ?_
  rintro r3 w3 ⟨hp3, hEa3⟩
  have hsp3 := hsz2
  have hV3 : Upd (fun b => b = vb) w2 w3 := hEa3.mono fun _ h => h.elim
  have hU3 : Upd (fun b => b = vb) w1 w3 := hU2.trans hV3
  have htb3 := hU3.blk_some htb1 htv
  have hvl3 : vb < w3.heap.size := Nat.lt_of_lt_of_le hvl1 hU3.size
  have hsz3 := hU3.size
  clear hvl2 hsz2
  have hb3 : blk w3 vb = some (#[.int .i16 ver, .pointer none, .int .i32 0, .slice none 0 0, .slice none 0 0, .map none], 117, (0, 0)) := hEa3.blk_some hb2 id
  obtain ⟨ap0, rfl⟩ := hp3.shape
  simp (maxSteps := 1000000) (disch := (first | omega | (simp only [World.size_alloc, size_wr, size_drew] <;> omega) | exact not_noB _)) only [go_sem, ↓reduceIte, n0, reduceCtorEq, n1, n2, n3, n4, n5, i0, i1, i2, i3, i4, i5, i6, i7, hb3, htb3]
  generalize hw4 : wr w3 vb 1 [.pointer ap0] = w4
  have hV4 : Upd (fun b => b = vb) w3 w4 := by rw [← hw4]; exact (Upd.refl _ _).wr _ _ (.inr rfl)
  have hb4 : blk w4 vb = some (#[.int .i16 ver, .pointer ap0, .int .i32 0, .slice none 0 0, .slice none 0 0, .map none], 117, (0, 0)) := by rw [← hw4, blk_wr_eq, hb3]; rfl
  have hU4 : Upd (fun b => b = vb) w1 w4 := hU3.trans hV4
  have htb4 := hU4.blk_some htb1 htv
  have hvl4 : vb < w4.heap.size := Nat.lt_of_lt_of_le hvl1 hU4.size
  have hsz4 := hU4.size
  clear hvl3 hsz3
  clear hw4
  have hf0 : RepF (RepS true (d + 2)) (szS true (d + 2)) fBeginQuorumEpochRequest_0 (OkF okT w.heap.size w1.heap.size) w4 (t.at 0) [.pointer ap0] := (RepF_ptr rfl (by decide)).2 ⟨_, rfl, (hp3.weaken fun b _ hk => .inr (Nat.le_trans hsp3 hk)).keep (hV4.keeps fun b _ hk e => hoF b hk e)⟩
  repeat ((first | refine W.seqR rfl ?_ | refine W.seq ?_ | refine W.regR rfl ?_ | refine W.condK ?_ | refine W.block ?_ | refine W.skip ?_ | refine W.ret ?_ | refine W.exit ?_); try simp (maxSteps := 1000000) (disch := (first | omega | (simp only [World.size_alloc, size_wr, size_drew] <;> omega) | exact not_noB _)) only [go_sem, ↓reduceIte, n0, reduceCtorEq, n1, n2, n3, n4, n5, i0, i1, i2, i3, i4, i5, i6, i7, hb4, htb4])
  refine (iat_fn (ok := (OkS okT w.heap.size)) t 1 _ _ (ht1.keep (hU4.keeps fun b _ hk e => hoS b hk e)) (by decide) hllt).mono ?_
  rintro r5 w5 ⟨⟨ca5, rfl, hca5⟩, hEa5⟩
  obtain ⟨vSa5, vLa5, vUa5, rfl, hna5, hSa5, hLa5, hUa5⟩ := hca5.inv
  obtain ⟨bSa5, cSa5, rfl, hcSa5⟩ := hSa5.shape
  obtain ⟨bLa5, cLa5, rfl, hcLa5⟩ := SlR.shape hLa5
  have hfU5 := SlR.flat hUa5
  clear hcSa5 hcLa5 hna5
  have hV5 : Upd (fun b => b = vb) w4 w5 := hEa5.mono fun _ h => h.elim
  have hU5 : Upd (fun b => b = vb) w1 w5 := hU4.trans hV5
  have htb5 := hU5.blk_some htb1 htv
  have hvl5 : vb < w5.heap.size := Nat.lt_of_lt_of_le hvl1 hU5.size
  have hsz5 := hU5.size
  clear hvl4 hsz4
  have hb5 : blk w5 vb = some (#[.int .i16 ver, .pointer ap0, .int .i32 0, .slice none 0 0, .slice none 0 0, .map none], 117, (0, 0)) := hEa5.blk_some hb4 id
  simp (maxSteps := 1000000) (disch := (first | omega | (simp only [World.size_alloc, size_wr, size_drew] <;> omega) | exact not_noB _)) only [go_sem, ↓reduceIte, n0, reduceCtorEq, n1, n2, n3, n4, n5, i0, i1, i2, i3, i4, i5, i6, i7, hb5, htb5]
  generalize hw6 : wr w5 vb 2 [.int .i32 (IntKind.i32.wrap (t.at 1).n)] = w6
  have hV6 : Upd (fun b => b = vb) w5 w6 := by rw [← hw6]; exact (Upd.refl _ _).wr _ _ (.inr rfl)
  have hb6 : blk w6 vb = some (#[.int .i16 ver, .pointer ap0, .int .i32 (IntKind.i32.wrap (t.at 1).n), .slice none 0 0, .slice none 0 0, .map none], 117, (0, 0)) := by rw [← hw6, blk_wr_eq, hb5]; rfl
  have hU6 : Upd (fun b => b = vb) w1 w6 := hU5.trans hV6
  have htb6 := hU6.blk_some htb1 htv
  have hvl6 : vb < w6.heap.size := Nat.lt_of_lt_of_le hvl1 hU6.size
  have hsz6 := hU6.size
  clear hvl5 hsz5
  clear hw6
  have hf1 : RepF (RepS true (d + 2)) (szS true (d + 2)) fBeginQuorumEpochRequest_1 (OkF okT w.heap.size w1.heap.size) w6 (t.at 1) [.int .i32 (IntKind.i32.wrap (t.at 1).n)] := (RepF_num (by decide)).2 rfl
  have hn0_2 : (t.at 2).null = false := g2.notnull (by decide)
  have hll2 := (g2.list rfl).1
  repeat ((first | refine W.seqR rfl ?_ | refine W.seq ?_ | refine W.regR rfl ?_ | refine W.condK ?_ | refine W.block ?_ | refine W.skip ?_ | refine W.ret ?_ | refine W.exit ?_); try simp (maxSteps := 1000000) (disch := (first | omega | (simp only [World.size_alloc, size_wr, size_drew] <;> omega) | exact not_noB _)) only [go_sem, ↓reduceIte, n0, reduceCtorEq, n1, n2, n3, n4, n5, i0, i1, i2, i3, i4, i5, i6, i7, hb6, htb6])
  refine (iat_fn (ok := (OkS okT w.heap.size)) t 2 _ _ (ht1.keep (hU6.keeps fun b _ hk e => hoS b hk e)) (by decide) hllt).mono ?_
  rintro r7 w7 ⟨⟨ca7, rfl, hca7⟩, hEa7⟩
  obtain ⟨vSa7, vLa7, vUa7, rfl, hna7, hSa7, hLa7, hUa7⟩ := hca7.inv
  obtain ⟨bSa7, cSa7, rfl, hcSa7⟩ := hSa7.shape
  obtain ⟨bLa7, cLa7, rfl, hcLa7⟩ := SlR.shape hLa7
  have hfU7 := SlR.flat hUa7
  clear hcSa7 hcLa7 hna7
  have hV7 : Upd (fun b => b = vb) w6 w7 := hEa7.mono fun _ h => h.elim
  have hU7 : Upd (fun b => b = vb) w1 w7 := hU6.trans hV7
  have htb7 := hU7.blk_some htb1 htv
  have hvl7 : vb < w7.heap.size := Nat.lt_of_lt_of_le hvl1 hU7.size
  have hsz7 := hU7.size
  clear hvl6 hsz6
  have hb7 : blk w7 vb = some (#[.int .i16 ver, .pointer ap0, .int .i32 (IntKind.i32.wrap (t.at 1).n), .slice none 0 0, .slice none 0 0, .map none], 117, (0, 0)) := hEa7.blk_some hb6 id
  simp (maxSteps := 1000000) (disch := (first | omega | (simp only [World.size_alloc, size_wr, size_drew] <;> omega) | exact not_noB _)) only [go_sem, ↓reduceIte, n0, reduceCtorEq, n1, n2, n3, n4, n5, i0, i1, i2, i3, i4, i5, i6, i7, hn0_2, hb7, htb7]
  repeat ((first | refine W.seqR rfl ?_ | refine W.seq ?_ | refine W.regR rfl ?_ | refine W.condK ?_ | refine W.block ?_ | refine W.skip ?_ | refine W.ret ?_ | refine W.exit ?_); try simp (maxSteps := 1000000) (disch := (first | omega | (simp only [World.size_alloc, size_wr, size_drew] <;> omega) | exact not_noB _)) only [go_sem, ↓reduceIte, n0, reduceCtorEq, n1, n2, n3, n4, n5, i0, i1, i2, i3, i4, i5, i6, i7, hb7, htb7])
  refine (iat_fn (ok := (OkS okT w.heap.size)) t 2 _ _ (ht1.keep (hU7.keeps fun b _ hk e => hoS b hk e)) (by decide) hllt).mono ?_
  rintro r8 w8 ⟨⟨ca8, rfl, hca8⟩, hEa8⟩
  obtain ⟨vSa8, vLa8, vUa8, rfl, hna8, hSa8, hLa8, hUa8⟩ := hca8.inv
  obtain ⟨bSa8, cSa8, rfl, hcSa8⟩ := hSa8.shape
  obtain ⟨bLa8, cLa8, rfl, hcLa8⟩ := SlR.shape hLa8
  have hfU8 := SlR.flat hUa8
  clear hcSa8 hcLa8 hna8
  have hV8 : Upd (fun b => b = vb) w7 w8 := hEa8.mono fun _ h => h.elim
  have hU8 : Upd (fun b => b = vb) w1 w8 := hU7.trans hV8
  have htb8 := hU8.blk_some htb1 htv
  have hvl8 : vb < w8.heap.size := Nat.lt_of_lt_of_le hvl1 hU8.size
  have hsz8 := hU8.size
  clear hvl7 hsz7
  have hb8 : blk w8 vb = some (#[.int .i16 ver, .pointer ap0, .int .i32 (IntKind.i32.wrap (t.at 1).n), .slice none 0 0, .slice none 0 0, .map none], 117, (0, 0)) := hEa8.blk_some hb7 id
  simp (maxSteps := 1000000) (disch := (first | omega | (simp only [World.size_alloc, size_wr, size_drew] <;> omega) | exact not_noB _)) only [go_sem, ↓reduceIte, n0, reduceCtorEq, n1, n2, n3, n4, n5, i0, i1, i2, i3, i4, i5, i6, i7, hb8, htb8]
  refine wp_make (T := 114) (E := 194) (size := 3) (bytes := 48) (z := (.agg #[.string ByteArray.empty, .slice none 0 0, .map none])) (l := 0) (c := (t.at 2).l.length) (kl := .i64) (kc := .i64) (by kernel_rfl) (by kernel_rfl) (by simp (maxSteps := 1000000) (disch := (first | omega | (simp only [World.size_alloc, size_wr, size_drew] <;> omega) | exact not_noB _)) only [go_sem, ↓reduceIte, n0, reduceCtorEq, n1, n2, n3, n4, n5, i0, i1, i2, i3, i4, i5, i6, i7]; rfl) (by simp (maxSteps := 1000000) (disch := (first | omega | (simp only [World.size_alloc, size_wr, size_drew] <;> omega) | exact not_noB _)) only [go_sem, ↓reduceIte, n0, reduceCtorEq, n1, n2, n3, n4, n5, i0, i1, i2, i3, i4, i5, i6, i7]) (by omega) (by omega) (by omega) ?_
  simp (maxSteps := 1000000) (disch := (first | omega | (simp only [World.size_alloc, size_wr, size_drew] <;> omega) | exact not_noB _)) only [go_sem, ↓reduceIte, n0, reduceCtorEq, n1, n2, n3, n4, n5, i0, i1, i2, i3, i4, i5, i6, i7, hb8, hvl8, htb8]
  have hszB2 := hsz8
  generalize hw9 : wr (w8.alloc (.cells (madeCells #[.string ByteArray.empty, .slice none 0 0, .map none] ((t.at 2).l.length * 3)) 194)) vb 3 [.slice (some ⟨w8.heap.size, 0, none⟩) 0 (t.at 2).l.length] = w9
  have hV9 : Upd (fun b => b = vb) w8 w9 := by rw [← hw9]; exact ((Upd.refl _ _).alloc _).wr _ _ (.inr rfl)
  have hb9 : blk w9 vb = some (#[.int .i16 ver, .pointer ap0, .int .i32 (IntKind.i32.wrap (t.at 1).n), .slice (some ⟨w8.heap.size, 0, none⟩) 0 (t.at 2).l.length, .slice none 0 0, .map none], 117, (0, 0)) := by rw [← hw9, blk_wr_eq, blk_alloc_old hvl8, hb8]; rfl
  have hrow9 : blk w9 w8.heap.size = some (madeCells #[.string ByteArray.empty, .slice none 0 0, .map none] ((t.at 2).l.length * 3), 194, (0, 0)) := by rw [← hw9, blk_wr_ne (Nat.ne_of_gt hvl8), blk_alloc_new rfl]
  have hg9 : GrowR (Rep1 (RepS true (d + 2)) fBeginQuorumEpochRequest_2.of fBeginQuorumEpochRequest_2.sub) 3 (OkF okT w.heap.size w1.heap.size) w8.heap.size vb w9 194 (.slice (some ⟨w8.heap.size, 0, none⟩) 0 (t.at 2).l.length) [] := GrowR.made hrow9 (size_madeCells _ _) (Nat.le_refl _)
  have hU9 : Upd (fun b => b = vb) w1 w9 := hU8.trans hV9
  have htb9 := hU9.blk_some htb1 htv
  have hvl9 : vb < w9.heap.size := Nat.lt_of_lt_of_le hvl1 hU9.size
  have hsz9 := hU9.size
  clear hvl8 hsz8
  clear hw9 hrow9
  repeat ((first | refine W.seqR rfl ?_ | refine W.seq ?_ | refine W.regR rfl ?_ | refine W.condK ?_ | refine W.block ?_ | refine W.skip ?_ | refine W.ret ?_ | refine W.exit ?_); try simp (maxSteps := 1000000) (disch := (first | omega | (simp only [World.size_alloc, size_wr, size_drew] <;> omega) | exact not_noB _)) only [go_sem, ↓reduceIte, n0, reduceCtorEq, n1, n2, n3, n4, n5, i0, i1, i2, i3, i4, i5, i6, i7, hb9, htb9])
  refine (iat_fn (ok := (OkS okT w.heap.size)) t 2 _ _ (ht1.keep (hU9.keeps fun b _ hk e => hoS b hk e)) (by decide) hllt).mono ?_
  rintro r10 w10 ⟨⟨ca10, rfl, hca10⟩, hEa10⟩
  obtain ⟨vSa10, vLa10, vUa10, rfl, hna10, hSa10, hLa10, hUa10⟩ := hca10.inv
  obtain ⟨bSa10, cSa10, rfl, hcSa10⟩ := hSa10.shape
  obtain ⟨bLa10, cLa10, rfl, hcLa10⟩ := SlR.shape hLa10
  have hfU10 := SlR.flat hUa10
  clear hcSa10 hcLa10 hna10
  have hV10 : Upd (fun b => b = vb) w9 w10 := hEa10.mono fun _ h => h.elim
  have hU10 : Upd (fun b => b = vb) w1 w10 := hU9.trans hV10
  have htb10 := hU10.blk_some htb1 htv
  have hvl10 : vb < w10.heap.size := Nat.lt_of_lt_of_le hvl1 hU10.size
  have hsz10 := hU10.size
  clear hvl9 hsz9
  have hb10 : blk w10 vb = some (#[.int .i16 ver, .pointer ap0, .int .i32 (IntKind.i32.wrap (t.at 1).n), .slice (some ⟨w8.heap.size, 0, none⟩) 0 (t.at 2).l.length, .slice none 0 0, .map none], 117, (0, 0)) := hEa10.blk_some hb9 id
  have hg10 := hg9.ext (Rep1_lay _ _ fun _ => RepS_lay true (d + 2) _) hEa10
  simp (maxSteps := 1000000) (disch := (first | omega | (simp only [World.size_alloc, size_wr, size_drew] <;> omega) | exact not_noB _)) only [go_sem, ↓reduceIte, n0, reduceCtorEq, n1, n2, n3, n4, n5, i0, i1, i2, i3, i4, i5, i6, i7, hb10, htb10]
  repeat ((first | refine W.seqR rfl ?_ | refine W.seq ?_ | refine W.regR rfl ?_ | refine W.condK ?_ | refine W.block ?_ | refine W.skip ?_ | refine W.ret ?_ | refine W.exit ?_); try simp (maxSteps := 1000000) (disch := (first | omega | (simp only [World.size_alloc, size_wr, size_drew] <;> omega) | exact not_noB _)) only [go_sem, ↓reduceIte, n0, reduceCtorEq, n1, n2, n3, n4, n5, i0, i1, i2, i3, i4, i5, i6, i7, hb10, htb10])
  have hVb2 : Upd (fun b => b = vb) w8 w10 := hV9.trans hV10
  have hUb2 := hU8
  have hvlB2 : vb < w8.heap.size := Nat.lt_of_lt_of_le hvl1 hszB2
  have hszL2 : w8.heap.size ≤ w10.heap.size := hVb2.size
  refine W.exitJ 0 (fun ρ w' => ∃ v, ρ 0 = .pointer (some ⟨vb, 0, none⟩) ∧ ρ 3 = .pointer (some ⟨w.heap.size, 0, none⟩) ∧ blk w' vb = some (#[.int .i16 ver, .pointer ap0, .int .i32 (IntKind.i32.wrap (t.at 1).n), v, .slice none 0 0, .map none], 117, (0, 0)) ∧ GrowR (Rep1 (RepS true (d + 2)) fBeginQuorumEpochRequest_2.of fBeginQuorumEpochRequest_2.sub) 3 (OkF okT w.heap.size w1.heap.size) w8.heap.size vb w' 194 v (t.at 2).l ∧ v ≠ .slice none 0 0 ∧ Upd (fun b => b = vb ∨ w8.heap.size ≤ b) w10 w')
    (W.loop (fun ρ w' => ∃ (j : Nat) (v : Value), j ≤ (t.at 2).l.length ∧ ρ 39 = .int .i64 j ∧ ρ 38 = .int .i64 (t.at 2).l.length ∧ ρ 37 = .slice bLa10 (t.at 2).l.length cLa10 ∧ ρ 0 = .pointer (some ⟨vb, 0, none⟩) ∧ ρ 3 = .pointer (some ⟨w.heap.size, 0, none⟩) ∧ blk w' vb = some (#[.int .i16 ver, .pointer ap0, .int .i32 (IntKind.i32.wrap (t.at 1).n), v, .slice none 0 0, .map none], 117, (0, 0)) ∧ GrowR (Rep1 (RepS true (d + 2)) fBeginQuorumEpochRequest_2.of fBeginQuorumEpochRequest_2.sub) 3 (OkF okT w.heap.size w1.heap.size) w8.heap.size vb w' 194 v ((t.at 2).l.take j) ∧ v ≠ .slice none 0 0 ∧ Upd (fun b => b = vb ∨ w8.heap.size ≤ b) w10 w')
      (fun ρ _ => (t.at 2).l.length - (RowKit.intOf (ρ 39)).toNat) ?_ ?_) ?_
  · refine ⟨0, _, Nat.zero_le _, ?_, ?_, ?_, ?_, ?_, hb10, hg10, (by intro h; cases h), Upd.refl _ _⟩ <;> simp (maxSteps := 1000000) (disch := (first | omega | (simp only [World.size_alloc, size_wr, size_drew] <;> omega) | exact not_noB _)) only [go_sem, ↓reduceIte, n0, reduceCtorEq, n1, n2, n3, n4, n5, i0, i1, i2, i3, i4, i5, i6, i7]
    all_goals rfl
  · rintro ρ w_6 ⟨j, v, hj, hI, hN, hS, hr0, hr3, hbv, hg, hnil, hU_6⟩
    have hz_6 := hU_6.size
    have hJ_6 : Upd (fun b => b = vb) w8 w_6 := hVb2.more hU_6 fun b hb h => h.elim id fun h => absurd h (by omega)
    have hU_16 : Upd (fun b => b = vb) w1 w_6 := hUb2.trans hJ_6
    have hht_6 := hU_16.blk_some htb1 htv
    have hLt_6 := hLa10.keep (hU_6.keeps fun b _ hk e => e.elim (hoS b hk) fun e => by have := hk.2; omega)
    by_cases hlt : j < (t.at 2).l.length
    · obtain ⟨_, b, o, x, vS', vL', vU', hb, hokb, hx, hblt, hxs, hxe, q1, q2, q3, hc⟩ := TreesV.get hLt_6 hlt
      subst hb
      have hbS := (TreeC.inv hc)
      have hcat : (t.at 2).l.take (j + 1) = (t.at 2).l.take j ++ [(t.at 2).l[j]] := List.take_succ_eq_append_getElem hlt
      have hlen_9 : ((t.at 2).l.take j).length = j := by simp; omega
      have hgx := (g2.list rfl).2 _ (List.getElem_mem hlt)
      have hLx := (hLs.at 2).get hlt
      have hnb : ∀ b, b < w8.heap.size ∨ b = w_6.heap.size → ¬ ownB v b := fun b hb h => by
        have := hg.above h
        have := hg.below h
        omega
      generalize (t.at 2).l[j] = y at *
      obtain ⟨vSy, vLy, vUy, hcells, hny, hSy, hLy, hUy⟩ := hbS
      simp only [List.cons.injEq, true_and, and_true] at hcells
      obtain ⟨rfl, rfl, rfl⟩ := hcells
      obtain ⟨bSy, cSy, rfl, hcSy⟩ := hSy.shape
      repeat ((first | refine W.seqR rfl ?_ | refine W.seq ?_ | refine W.regR rfl ?_ | refine W.condK ?_ | refine W.block ?_ | refine W.skip ?_ | refine W.ret ?_ | refine W.exit ?_); try simp (maxSteps := 1000000) (disch := (first | omega | (simp only [World.size_alloc, size_wr, size_drew] <;> omega) | exact not_noB _)) only [go_sem, ↓reduceIte, n0, reduceCtorEq, n1, n2, n3, n4, n5, i0, i1, i2, i3, i4, i5, i6, i7, hI, hN, hS, hx, hxe, q1, q2, q3, cellsAt_five, Int.toNat_natCast])
      generalize hw_7 : (wr (w_6.alloc (.cells #[.int .i64 0, .slice none 0 0, .bool false, .slice none 0 0, .slice none 0 0] 39)) w_6.heap.size 0 [.int .i64 y.n, .slice bSy y.s.length cSy, .bool y.null, vL', vU']) = w_7
      have hE_7 : Ext w_6 w_7 := by rw [← hw_7]; exact (Upd.alloc (Upd.refl _ _) _).wr _ _ (.inl (Nat.le_refl _))
      have hb_7 : blk w_7 w_6.heap.size = some (#[.int .i64 y.n, .slice bSy y.s.length cSy, .bool y.null, vL', vU'], 39, (0, 0)) := by rw [← hw_7]; simp (maxSteps := 1000000) (disch := (first | omega | (simp only [World.size_alloc, size_wr, size_drew] <;> omega) | exact not_noB _)) only [go_sem, ↓reduceIte, n0, reduceCtorEq, n1, n2, n3, n4, n5, i0, i1, i2, i3, i4, i5, i6, i7]
      have hz_7 : w_7.heap.size = w_6.heap.size + 1 := by rw [← hw_7]; simp only [size_wr, World.size_alloc]
      have hbt_7 := hE_7.blk_some hbv id
      have hgv_7 := hE_7.blk_some hht_6 id
      have hc_7 := hc.keep (hE_7.keeps _)
      have hS_7 := hSy.keep (hE_7.keeps _)
      have hg_7 := hg.ext (Rep1_lay _ _ fun _ => RepS_lay true (d + 2) _) hE_7
      clear hw_7
      refine W.drawR (.take 0 (.take 1 (.take 2 (.take 3 (.take 4 (.take 5 (.only 6 (.only 7 (.only 8 (.take 9 (.take 10 (.last 11)))))))))))) (ownB v) mixed (by kernel_rfl) ?_
      simp (maxSteps := 1000000) (disch := (first | omega | (simp only [World.size_alloc, size_wr, size_drew] <;> omega) | exact not_noB _ | (refine hnb _ ?_; first | omega | (simp only [World.size_alloc, size_wr, size_drew] <;> omega)))) only [go_sem, ↓reduceIte, n0, reduceCtorEq, n1, n2, n3, n4, n5, i0, i1, i2, i3, i4, i5, i6, i7, hr0, hr3, hbt_7, hb_7, hgv_7, cellsAt_five]
      have hE_7d : Ext w_7 w_7.drew := (Upd.refl _ _).drew
      have hg_7d := hg_7.ext (Rep1_lay _ _ fun _ => RepS_lay true (d + 2) _) hE_7d
      have hzd : w_7.drew.heap.size = w_7.heap.size := size_drew _
      have hbt_7d := hE_7d.blk_some hbt_7 id
      refine (makeBeginQuorumEpochRequestTopic_fn (d := d) (okT := (OkS okT w.heap.size)) (V := V) y _ w_7.drew (hc_7.keep (hE_7d.keeps _)) (hgx.2.2 rfl) hLx).mono ?_
      rintro r8 w_8 ⟨⟨cs8, rfl, hc_8⟩, hE_8⟩
      obtain ⟨hfl_8, hcl_8⟩ := (RepS_lay true (d + 2) fs_BeginQuorumEpochRequestTopic).flat hc_8
      obtain ⟨y0, y1, y2, rfl⟩ : ∃ y0 y1 y2, cs8 = [y0, y1, y2] := by
        have hcl_8' : cs8.length = 3 := hcl_8
        match cs8, hcl_8' with
        | [y0, y1, y2], _ => exact ⟨y0, y1, y2, rfl⟩
      simp only [List.all_cons, List.all_nil, Bool.and_true, Bool.and_eq_true] at hfl_8
      obtain ⟨fy0, fy1, fy2⟩ := hfl_8
      have hz_8 := hE_8.size
      have hM_8 : Upd (ownB v) w_7.drew w_8 := hE_8.mono (fun _ h => h.elim)
      refine ⟨hM_8, ?_⟩
      have hE_9 : Ext w_8 (w_8.alloc (.cells #[y0, y1, y2] 194)) := Upd.alloc (Upd.refl _ _) _
      have hM_9 : Upd (ownB v) w_7.drew (w_8.alloc (.cells #[y0, y1, y2] 194)) := hM_8.alloc _
      simp (maxSteps := 1000000) (disch := (first | omega | (simp only [World.size_alloc, size_wr, size_drew] <;> omega) | exact not_noB _)) only [go_sem, ↓reduceIte, n0, reduceCtorEq, n1, n2, n3, n4, n5, i0, i1, i2, i3, i4, i5, i6, i7, hr0, hr3, hbt_7d, fy0, fy1, fy2]
      refine ⟨hM_9, ?_⟩
      have hE_79 : Ext w_7.drew (w_8.alloc (.cells #[y0, y1, y2] 194)) := hE_8.trans hE_9
      have hg_9 := (hg_7d.ext (Rep1_lay _ _ fun _ => RepS_lay true (d + 2) _) hE_8).ext (Rep1_lay _ _ fun _ => RepS_lay true (d + 2) _) hE_9
      have hx_9 : Rep1 (RepS true (d + 2)) fBeginQuorumEpochRequest_2.of fBeginQuorumEpochRequest_2.sub (fun b => (OkF okT w.heap.size w1.heap.size) b ∧ b ≠ vb ∧ ¬ ownB v b) (w_8.alloc (.cells #[y0, y1, y2] 194)) y [y0, y1, y2] :=
        Rep1_part.2 (((RepS_lay true (d + 2) fs_BeginQuorumEpochRequestTopic).keep hc_8 (hE_9.keeps _)) |> fun h => (RepS_lay true (d + 2) fs_BeginQuorumEpochRequestTopic).weaken h fun b _ hk => by
          rcases hk with hk | hk
          · exact ⟨.inl hk, hoS b hk, fun h => by have := hg.above h; have := hk.2; omega⟩
          · exact ⟨.inr (by omega), by omega, fun h => by have := hg.below h; omega⟩)
      obtain ⟨css, hown, hall⟩ := hg_9.ex
      have hcl_9 := hall.1
      refine wp_append ap_114_114 (m := 1) (news := [y0, y1, y2]) (n := css.length) (cs := css.flatten) (v := v) ?_ rfl hown.1 (all2_flat_R (Rep1_lay _ _ fun _ => RepS_lay true (d + 2) _) hall) (Src.blk (fr := (0, 0)) (T := 194) (blk_alloc_new (by first | rfl | omega | (simp only [size_drew]; omega))) rfl (by simp only [List.all_cons, List.all_nil, Bool.and_true, Bool.and_eq_true]; exact ⟨fy0, fy1, fy2⟩)) ?_ ?_ ?_
      · simp (maxSteps := 1000000) (disch := (first | omega | (simp only [World.size_alloc, size_wr, size_drew] <;> omega) | exact not_noB _)) only [go_sem, ↓reduceIte, n0, reduceCtorEq, n1, n2, n3, n4, n5, i0, i1, i2, i3, i4, i5, i6, i7]
      · simp only [World.size_alloc, size_drew]; omega
      · omega
      intro v' w_10 ho hu hfr
      have hg_10 := GrowR.snoc (Rep1_lay _ _ fun _ => RepS_lay true (d + 2) _) hown hall hx_9 hu hfr ho
      have hz_10 := hu.size
      simp only [World.size_alloc, size_drew] at hz_10
      obtain ⟨va, vc, hv', _⟩ := ho.shape
      subst hv'
      have hbt_10 := (hM_9.trans hu).blk_some hbt_7d (hnb _ (.inl hvlB2))
      have htb' : ¬ ownB (.slice va (css.length + 1) vc) vb := fun h => by
        rcases hfr _ h with h | h
        · exact hnb _ (.inl hvlB2) h
        · simp only [World.size_alloc, size_drew] at h; omega
      simp (maxSteps := 1000000) (disch := (first | omega | (simp only [World.size_alloc, size_wr, size_drew] <;> omega) | exact not_noB _)) only [go_sem, ↓reduceIte, n0, reduceCtorEq, n1, n2, n3, n4, n5, i0, i1, i2, i3, i4, i5, i6, i7]
      refine ⟨hM_9.trans hu, ?_⟩
      simp (maxSteps := 1000000) (disch := (first | omega | (simp only [World.size_alloc, size_wr, size_drew] <;> omega) | exact not_noB _)) only [go_sem, ↓reduceIte, n0, reduceCtorEq, n1, n2, n3, n4, n5, i0, i1, i2, i3, i4, i5, i6, i7, hr0, hr3, hbt_10]
      repeat ((first | refine W.seqR rfl ?_ | refine W.seq ?_ | refine W.regR rfl ?_ | refine W.condK ?_ | refine W.block ?_ | refine W.skip ?_ | refine W.ret ?_ | refine W.exit ?_); try simp (maxSteps := 1000000) (disch := (first | omega | (simp only [World.size_alloc, size_wr, size_drew] <;> omega) | exact not_noB _)) only [go_sem, ↓reduceIte, n0, reduceCtorEq, n1, n2, n3, n4, n5, i0, i1, i2, i3, i4, i5, i6, i7, hI])
      refine ⟨⟨j + 1, .slice va (css.length + 1) vc, by omega, rfl, hN, hS, hr0, hr3, ?_, ?_, ?_, ?_⟩, ?_⟩
      · simp (maxSteps := 1000000) (disch := (first | omega | (simp only [World.size_alloc, size_wr, size_drew] <;> omega) | exact not_noB _)) only [go_sem, ↓reduceIte, n0, reduceCtorEq, n1, n2, n3, n4, n5, i0, i1, i2, i3, i4, i5, i6, i7, hbt_10]
      · rw [hcat]; exact hg_10.upd (Rep1_lay _ _ fun _ => RepS_lay true (d + 2) _) ((Upd.refl _ _).wr _ _ (.inr rfl)) htb'
      · intro h; cases h
      · refine Upd.wr ?_ _ _ (.inr (.inl rfl))
        exact hU_6.more (((hE_7.mono fun _ h => h.elim).trans (hE_7d.mono fun _ h => h.elim)).trans (hM_9.trans hu)) fun b hb h => .inr (hg.above h)
      · simp only [RowKit.intOf]; omega
    · have hjl : j = (t.at 2).l.length := by omega
      subst hjl
      rw [List.take_length] at hg
      repeat ((first | refine W.seqR rfl ?_ | refine W.seq ?_ | refine W.regR rfl ?_ | refine W.condK ?_ | refine W.block ?_ | refine W.skip ?_ | refine W.ret ?_ | refine W.exit ?_); try simp (maxSteps := 1000000) (disch := (first | omega | (simp only [World.size_alloc, size_wr, size_drew] <;> omega) | exact not_noB _)) only [go_sem, ↓reduceIte, n0, reduceCtorEq, n1, n2, n3, n4, n5, i0, i1, i2, i3, i4, i5, i6, i7, hI, hN])
      exact ⟨v, hr0, hr3, hbv, hg, hnil, hU_6⟩
  · rintro ρ w11 ⟨v2, hr0, hr3, hb11, hg11, hnil2, hK11⟩
    have hV11 : Upd (fun b => b = vb) w8 w11 := hVb2.more hK11 fun b hb h => h.elim id fun h => absurd h (by omega)
    have hU11 : Upd (fun b => b = vb) w1 w11 := hU8.trans hV11
    have htb11 := hU11.blk_some htb1 htv
    have hvl11 : vb < w11.heap.size := Nat.lt_of_lt_of_le hvl1 hU11.size
    have hsz11 := hU11.size
    clear hvl10 hsz10
    obtain ⟨al2, kl2, rfl, _⟩ := hg11.shape
    have hf2 : RepF (RepS true (d + 2)) (szS true (d + 2)) fBeginQuorumEpochRequest_2 (OkF okT w.heap.size w1.heap.size) w11 (t.at 2) [.slice al2 (t.at 2).l.length kl2] := (RepF_list rfl hn0_2).2 ⟨_, rfl, hg11.sl (Rep1_lay _ _ fun _ => RepS_lay true (d + 2) _) (fun _ _ h => h) (fun b hb => .inr (by omega)), hg11.some hnil2⟩
    have hn0_3 : (t.at 3).null = false := g3.notnull (by decide)
    have hll3 := (g3.list rfl).1
    repeat ((first | refine W.seqR rfl ?_ | refine W.seq ?_ | refine W.regR rfl ?_ | refine W.condK ?_ | refine W.block ?_ | refine W.skip ?_ | refine W.ret ?_ | refine W.exit ?_); try simp (maxSteps := 1000000) (disch := (first | omega | (simp only [World.size_alloc, size_wr, size_drew] <;> omega) | exact not_noB _)) only [go_sem, ↓reduceIte, n0, reduceCtorEq, n1, n2, n3, n4, n5, i0, i1, i2, i3, i4, i5, i6, i7, hb11, htb11, hr0, hr3])
    refine (iat_fn (ok := (OkS okT w.heap.size)) t 3 _ _ (ht1.keep (hU11.keeps fun b _ hk e => hoS b hk e)) (by decide) hllt).mono ?_
    rintro r12 w12 ⟨⟨ca12, rfl, hca12⟩, hEa12⟩
    obtain ⟨vSa12, vLa12, vUa12, rfl, hna12, hSa12, hLa12, hUa12⟩ := hca12.inv
    obtain ⟨bSa12, cSa12, rfl, hcSa12⟩ := hSa12.shape
    obtain ⟨bLa12, cLa12, rfl, hcLa12⟩ := SlR.shape hLa12
    have hfU12 := SlR.flat hUa12
    clear hcSa12 hcLa12 hna12
    have hV12 : Upd (fun b => b = vb) w11 w12 := hEa12.mono fun _ h => h.elim
    have hU12 : Upd (fun b => b = vb) w1 w12 := hU11.trans hV12
    have htb12 := hU12.blk_some htb1 htv
    have hvl12 : vb < w12.heap.size := Nat.lt_of_lt_of_le hvl1 hU12.size
    have hsz12 := hU12.size
    clear hvl11 hsz11
    have hb12 : blk w12 vb = some (#[.int .i16 ver, .pointer ap0, .int .i32 (IntKind.i32.wrap (t.at 1).n), .slice al2 (t.at 2).l.length kl2, .slice none 0 0, .map none], 117, (0, 0)) := hEa12.blk_some hb11 id
    simp (maxSteps := 1000000) (disch := (first | omega | (simp only [World.size_alloc, size_wr, size_drew] <;> omega) | exact not_noB _)) only [go_sem, ↓reduceIte, n0, reduceCtorEq, n1, n2, n3, n4, n5, i0, i1, i2, i3, i4, i5, i6, i7, hn0_3, hb12, htb12, hr0, hr3]
    repeat ((first | refine W.seqR rfl ?_ | refine W.seq ?_ | refine W.regR rfl ?_ | refine W.condK ?_ | refine W.block ?_ | refine W.skip ?_ | refine W.ret ?_ | refine W.exit ?_); try simp (maxSteps := 1000000) (disch := (first | omega | (simp only [World.size_alloc, size_wr, size_drew] <;> omega) | exact not_noB _)) only [go_sem, ↓reduceIte, n0, reduceCtorEq, n1, n2, n3, n4, n5, i0, i1, i2, i3, i4, i5, i6, i7, hb12, htb12, hr0, hr3])
    refine (iat_fn (ok := (OkS okT w.heap.size)) t 3 _ _ (ht1.keep (hU12.keeps fun b _ hk e => hoS b hk e)) (by decide) hllt).mono ?_
    rintro r13 w13 ⟨⟨ca13, rfl, hca13⟩, hEa13⟩
    obtain ⟨vSa13, vLa13, vUa13, rfl, hna13, hSa13, hLa13, hUa13⟩ := hca13.inv
    obtain ⟨bSa13, cSa13, rfl, hcSa13⟩ := hSa13.shape
    obtain ⟨bLa13, cLa13, rfl, hcLa13⟩ := SlR.shape hLa13
    have hfU13 := SlR.flat hUa13
    clear hcSa13 hcLa13 hna13
    have hV13 : Upd (fun b => b = vb) w12 w13 := hEa13.mono fun _ h => h.elim
    have hU13 : Upd (fun b => b = vb) w1 w13 := hU12.trans hV13
    have htb13 := hU13.blk_some htb1 htv
    have hvl13 : vb < w13.heap.size := Nat.lt_of_lt_of_le hvl1 hU13.size
    have hsz13 := hU13.size
    clear hvl12 hsz12
    have hb13 : blk w13 vb = some (#[.int .i16 ver, .pointer ap0, .int .i32 (IntKind.i32.wrap (t.at 1).n), .slice al2 (t.at 2).l.length kl2, .slice none 0 0, .map none], 117, (0, 0)) := hEa13.blk_some hb12 id
    simp (maxSteps := 1000000) (disch := (first | omega | (simp only [World.size_alloc, size_wr, size_drew] <;> omega) | exact not_noB _)) only [go_sem, ↓reduceIte, n0, reduceCtorEq, n1, n2, n3, n4, n5, i0, i1, i2, i3, i4, i5, i6, i7, hb13, htb13, hr0, hr3]
    refine wp_make (T := 115) (E := 198) (size := 4) (bytes := 48) (z := (.agg #[.string ByteArray.empty, .string ByteArray.empty, .int .u16 0, .map none])) (l := 0) (c := (t.at 3).l.length) (kl := .i64) (kc := .i64) (by kernel_rfl) (by kernel_rfl) (by simp (maxSteps := 1000000) (disch := (first | omega | (simp only [World.size_alloc, size_wr, size_drew] <;> omega) | exact not_noB _)) only [go_sem, ↓reduceIte, n0, reduceCtorEq, n1, n2, n3, n4, n5, i0, i1, i2, i3, i4, i5, i6, i7]; rfl) (by simp (maxSteps := 1000000) (disch := (first | omega | (simp only [World.size_alloc, size_wr, size_drew] <;> omega) | exact not_noB _)) only [go_sem, ↓reduceIte, n0, reduceCtorEq, n1, n2, n3, n4, n5, i0, i1, i2, i3, i4, i5, i6, i7]) (by omega) (by omega) (by omega) ?_
    simp (maxSteps := 1000000) (disch := (first | omega | (simp only [World.size_alloc, size_wr, size_drew] <;> omega) | exact not_noB _)) only [go_sem, ↓reduceIte, n0, reduceCtorEq, n1, n2, n3, n4, n5, i0, i1, i2, i3, i4, i5, i6, i7, hb13, hvl13, htb13, hr0, hr3]
    have hszB3 := hsz13
    generalize hw14 : wr (w13.alloc (.cells (madeCells #[.string ByteArray.empty, .string ByteArray.empty, .int .u16 0, .map none] ((t.at 3).l.length * 4)) 198)) vb 4 [.slice (some ⟨w13.heap.size, 0, none⟩) 0 (t.at 3).l.length] = w14
    have hV14 : Upd (fun b => b = vb) w13 w14 := by rw [← hw14]; exact ((Upd.refl _ _).alloc _).wr _ _ (.inr rfl)
    have hb14 : blk w14 vb = some (#[.int .i16 ver, .pointer ap0, .int .i32 (IntKind.i32.wrap (t.at 1).n), .slice al2 (t.at 2).l.length kl2, .slice (some ⟨w13.heap.size, 0, none⟩) 0 (t.at 3).l.length, .map none], 117, (0, 0)) := by rw [← hw14, blk_wr_eq, blk_alloc_old hvl13, hb13]; rfl
    have hrow14 : blk w14 w13.heap.size = some (madeCells #[.string ByteArray.empty, .string ByteArray.empty, .int .u16 0, .map none] ((t.at 3).l.length * 4), 198, (0, 0)) := by rw [← hw14, blk_wr_ne (Nat.ne_of_gt hvl13), blk_alloc_new rfl]
    have hg14 : GrowR (Rep1 (RepS true (d + 2)) fBeginQuorumEpochRequest_3.of fBeginQuorumEpochRequest_3.sub) 4 (OkF okT w.heap.size w1.heap.size) w13.heap.size vb w14 198 (.slice (some ⟨w13.heap.size, 0, none⟩) 0 (t.at 3).l.length) [] := GrowR.made hrow14 (size_madeCells _ _) (Nat.le_refl _)
    have hU14 : Upd (fun b => b = vb) w1 w14 := hU13.trans hV14
    have htb14 := hU14.blk_some htb1 htv
    have hvl14 : vb < w14.heap.size := Nat.lt_of_lt_of_le hvl1 hU14.size
    have hsz14 := hU14.size
    clear hvl13 hsz13
    clear hw14 hrow14
    repeat ((first | refine W.seqR rfl ?_ | refine W.seq ?_ | refine W.regR rfl ?_ | refine W.condK ?_ | refine W.block ?_ | refine W.skip ?_ | refine W.ret ?_ | refine W.exit ?_); try simp (maxSteps := 1000000) (disch := (first | omega | (simp only [World.size_alloc, size_wr, size_drew] <;> omega) | exact not_noB _)) only [go_sem, ↓reduceIte, n0, reduceCtorEq, n1, n2, n3, n4, n5, i0, i1, i2, i3, i4, i5, i6, i7, hb14, htb14, hr0, hr3])
    refine (iat_fn (ok := (OkS okT w.heap.size)) t 3 _ _ (ht1.keep (hU14.keeps fun b _ hk e => hoS b hk e)) (by decide) hllt).mono ?_
    rintro r15 w15 ⟨⟨ca15, rfl, hca15⟩, hEa15⟩
    obtain ⟨vSa15, vLa15, vUa15, rfl, hna15, hSa15, hLa15, hUa15⟩ := hca15.inv
    obtain ⟨bSa15, cSa15, rfl, hcSa15⟩ := hSa15.shape
    obtain ⟨bLa15, cLa15, rfl, hcLa15⟩ := SlR.shape hLa15
    have hfU15 := SlR.flat hUa15
    clear hcSa15 hcLa15 hna15
    have hV15 : Upd (fun b => b = vb) w14 w15 := hEa15.mono fun _ h => h.elim
    have hU15 : Upd (fun b => b = vb) w1 w15 := hU14.trans hV15
    have htb15 := hU15.blk_some htb1 htv
    have hvl15 : vb < w15.heap.size := Nat.lt_of_lt_of_le hvl1 hU15.size
    have hsz15 := hU15.size
    clear hvl14 hsz14
    have hb15 : blk w15 vb = some (#[.int .i16 ver, .pointer ap0, .int .i32 (IntKind.i32.wrap (t.at 1).n), .slice al2 (t.at 2).l.length kl2, .slice (some ⟨w13.heap.size, 0, none⟩) 0 (t.at 3).l.length, .map none], 117, (0, 0)) := hEa15.blk_some hb14 id
    have hg15 := hg14.ext (Rep1_lay _ _ fun _ => RepS_lay true (d + 2) _) hEa15
    simp (maxSteps := 1000000) (disch := (first | omega | (simp only [World.size_alloc, size_wr, size_drew] <;> omega) | exact not_noB _)) only [go_sem, ↓reduceIte, n0, reduceCtorEq, n1, n2, n3, n4, n5, i0, i1, i2, i3, i4, i5, i6, i7, hb15, htb15, hr0, hr3]
    repeat ((first | refine W.seqR rfl ?_ | refine W.seq ?_ | refine W.regR rfl ?_ | refine W.condK ?_ | refine W.block ?_ | refine W.skip ?_ | refine W.ret ?_ | refine W.exit ?_); try simp (maxSteps := 1000000) (disch := (first | omega | (simp only [World.size_alloc, size_wr, size_drew] <;> omega) | exact not_noB _)) only [go_sem, ↓reduceIte, n0, reduceCtorEq, n1, n2, n3, n4, n5, i0, i1, i2, i3, i4, i5, i6, i7, hb15, htb15, hr0, hr3])
    have hVb3 : Upd (fun b => b = vb) w13 w15 := hV14.trans hV15
    have hUb3 := hU13
    have hvlB3 : vb < w13.heap.size := Nat.lt_of_lt_of_le hvl1 hszB3
    have hszL3 : w13.heap.size ≤ w15.heap.size := hVb3.size
    refine W.exitJ 2 (fun ρ w' => ∃ v, ρ 0 = .pointer (some ⟨vb, 0, none⟩) ∧ ρ 3 = .pointer (some ⟨w.heap.size, 0, none⟩) ∧ blk w' vb = some (#[.int .i16 ver, .pointer ap0, .int .i32 (IntKind.i32.wrap (t.at 1).n), .slice al2 (t.at 2).l.length kl2, v, .map none], 117, (0, 0)) ∧ GrowR (Rep1 (RepS true (d + 2)) fBeginQuorumEpochRequest_3.of fBeginQuorumEpochRequest_3.sub) 4 (OkF okT w.heap.size w1.heap.size) w13.heap.size vb w' 198 v (t.at 3).l ∧ v ≠ .slice none 0 0 ∧ Upd (fun b => b = vb ∨ w13.heap.size ≤ b) w15 w')
      (W.loop (fun ρ w' => ∃ (j : Nat) (v : Value), j ≤ (t.at 3).l.length ∧ ρ 71 = .int .i64 j ∧ ρ 70 = .int .i64 (t.at 3).l.length ∧ ρ 69 = .slice bLa15 (t.at 3).l.length cLa15 ∧ ρ 0 = .pointer (some ⟨vb, 0, none⟩) ∧ ρ 3 = .pointer (some ⟨w.heap.size, 0, none⟩) ∧ blk w' vb = some (#[.int .i16 ver, .pointer ap0, .int .i32 (IntKind.i32.wrap (t.at 1).n), .slice al2 (t.at 2).l.length kl2, v, .map none], 117, (0, 0)) ∧ GrowR (Rep1 (RepS true (d + 2)) fBeginQuorumEpochRequest_3.of fBeginQuorumEpochRequest_3.sub) 4 (OkF okT w.heap.size w1.heap.size) w13.heap.size vb w' 198 v ((t.at 3).l.take j) ∧ v ≠ .slice none 0 0 ∧ Upd (fun b => b = vb ∨ w13.heap.size ≤ b) w15 w')
        (fun ρ _ => (t.at 3).l.length - (RowKit.intOf (ρ 71)).toNat) ?_ ?_) ?_
    · refine ⟨0, _, Nat.zero_le _, ?_, ?_, ?_, ?_, ?_, hb15, hg15, (by intro h; cases h), Upd.refl _ _⟩ <;> simp (maxSteps := 1000000) (disch := (first | omega | (simp only [World.size_alloc, size_wr, size_drew] <;> omega) | exact not_noB _)) only [go_sem, ↓reduceIte, n0, reduceCtorEq, n1, n2, n3, n4, n5, i0, i1, i2, i3, i4, i5, i6, i7, hr0, hr3]
      all_goals rfl
    · rintro ρ w_6 ⟨j, v, hj, hI, hN, hS, hr0, hr3, hbv, hg, hnil, hU_6⟩
      have hz_6 := hU_6.size
      have hJ_6 : Upd (fun b => b = vb) w13 w_6 := hVb3.more hU_6 fun b hb h => h.elim id fun h => absurd h (by omega)
      have hU_16 : Upd (fun b => b = vb) w1 w_6 := hUb3.trans hJ_6
      have hht_6 := hU_16.blk_some htb1 htv
      have hLt_6 := hLa15.keep (hU_6.keeps fun b _ hk e => e.elim (hoS b hk) fun e => by have := hk.2; omega)
      by_cases hlt : j < (t.at 3).l.length
      · obtain ⟨_, b, o, x, vS', vL', vU', hb, hokb, hx, hblt, hxs, hxe, q1, q2, q3, hc⟩ := TreesV.get hLt_6 hlt
        subst hb
        have hbS := (TreeC.inv hc)
        have hcat : (t.at 3).l.take (j + 1) = (t.at 3).l.take j ++ [(t.at 3).l[j]] := List.take_succ_eq_append_getElem hlt
        have hlen_9 : ((t.at 3).l.take j).length = j := by simp; omega
        have hgx := (g3.list rfl).2 _ (List.getElem_mem hlt)
        have hLx := (hLs.at 3).get hlt
        have hnb : ∀ b, b < w13.heap.size ∨ b = w_6.heap.size → ¬ ownB v b := fun b hb h => by
          have := hg.above h
          have := hg.below h
          omega
        generalize (t.at 3).l[j] = y at *
        obtain ⟨vSy, vLy, vUy, hcells, hny, hSy, hLy, hUy⟩ := hbS
        simp only [List.cons.injEq, true_and, and_true] at hcells
        obtain ⟨rfl, rfl, rfl⟩ := hcells
        obtain ⟨bSy, cSy, rfl, hcSy⟩ := hSy.shape
        repeat ((first | refine W.seqR rfl ?_ | refine W.seq ?_ | refine W.regR rfl ?_ | refine W.condK ?_ | refine W.block ?_ | refine W.skip ?_ | refine W.ret ?_ | refine W.exit ?_); try simp (maxSteps := 1000000) (disch := (first | omega | (simp only [World.size_alloc, size_wr, size_drew] <;> omega) | exact not_noB _)) only [go_sem, ↓reduceIte, n0, reduceCtorEq, n1, n2, n3, n4, n5, i0, i1, i2, i3, i4, i5, i6, i7, hI, hN, hS, hx, hxe, q1, q2, q3, cellsAt_five, Int.toNat_natCast])
        generalize hw_7 : (wr (w_6.alloc (.cells #[.int .i64 0, .slice none 0 0, .bool false, .slice none 0 0, .slice none 0 0] 39)) w_6.heap.size 0 [.int .i64 y.n, .slice bSy y.s.length cSy, .bool y.null, vL', vU']) = w_7
        have hE_7 : Ext w_6 w_7 := by rw [← hw_7]; exact (Upd.alloc (Upd.refl _ _) _).wr _ _ (.inl (Nat.le_refl _))
        have hb_7 : blk w_7 w_6.heap.size = some (#[.int .i64 y.n, .slice bSy y.s.length cSy, .bool y.null, vL', vU'], 39, (0, 0)) := by rw [← hw_7]; simp (maxSteps := 1000000) (disch := (first | omega | (simp only [World.size_alloc, size_wr, size_drew] <;> omega) | exact not_noB _)) only [go_sem, ↓reduceIte, n0, reduceCtorEq, n1, n2, n3, n4, n5, i0, i1, i2, i3, i4, i5, i6, i7]
        have hz_7 : w_7.heap.size = w_6.heap.size + 1 := by rw [← hw_7]; simp only [size_wr, World.size_alloc]
        have hbt_7 := hE_7.blk_some hbv id
        have hgv_7 := hE_7.blk_some hht_6 id
        have hc_7 := hc.keep (hE_7.keeps _)
        have hS_7 := hSy.keep (hE_7.keeps _)
        have hg_7 := hg.ext (Rep1_lay _ _ fun _ => RepS_lay true (d + 2) _) hE_7
        clear hw_7
        refine W.drawR (.take 0 (.take 1 (.take 2 (.take 3 (.take 4 (.take 5 (.only 6 (.only 7 (.only 8 (.take 9 (.take 10 (.last 11)))))))))))) (ownB v) mixed (by kernel_rfl) ?_
        simp (maxSteps := 1000000) (disch := (first | omega | (simp only [World.size_alloc, size_wr, size_drew] <;> omega) | exact not_noB _ | (refine hnb _ ?_; first | omega | (simp only [World.size_alloc, size_wr, size_drew] <;> omega)))) only [go_sem, ↓reduceIte, n0, reduceCtorEq, n1, n2, n3, n4, n5, i0, i1, i2, i3, i4, i5, i6, i7, hr0, hr3, hbt_7, hb_7, hgv_7, cellsAt_five]
        have hE_7d : Ext w_7 w_7.drew := (Upd.refl _ _).drew
        have hg_7d := hg_7.ext (Rep1_lay _ _ fun _ => RepS_lay true (d + 2) _) hE_7d
        have hzd : w_7.drew.heap.size = w_7.heap.size := size_drew _
        have hbt_7d := hE_7d.blk_some hbt_7 id
        refine (makeBeginQuorumEpochRequestLeaderEndpoint_fn (d := d + 1) (okT := (OkS okT w.heap.size)) (V := V) y _ w_7.drew (hc_7.keep (hE_7d.keeps _)) (hgx.2.2 rfl) hLx).mono ?_
        rintro r8 w_8 ⟨⟨cs8, rfl, hc_8⟩, hE_8⟩
        obtain ⟨hfl_8, hcl_8⟩ := (RepS_lay true (d + 2) fs_BeginQuorumEpochRequestLeaderEndpoint).flat hc_8
        obtain ⟨y0, y1, y2, y3, rfl⟩ : ∃ y0 y1 y2 y3, cs8 = [y0, y1, y2, y3] := by
          have hcl_8' : cs8.length = 4 := hcl_8
          match cs8, hcl_8' with
          | [y0, y1, y2, y3], _ => exact ⟨y0, y1, y2, y3, rfl⟩
        simp only [List.all_cons, List.all_nil, Bool.and_true, Bool.and_eq_true] at hfl_8
        obtain ⟨fy0, fy1, fy2, fy3⟩ := hfl_8
        have hz_8 := hE_8.size
        have hM_8 : Upd (ownB v) w_7.drew w_8 := hE_8.mono (fun _ h => h.elim)
        refine ⟨hM_8, ?_⟩
        have hE_9 : Ext w_8 (w_8.alloc (.cells #[y0, y1, y2, y3] 198)) := Upd.alloc (Upd.refl _ _) _
        have hM_9 : Upd (ownB v) w_7.drew (w_8.alloc (.cells #[y0, y1, y2, y3] 198)) := hM_8.alloc _
        simp (maxSteps := 1000000) (disch := (first | omega | (simp only [World.size_alloc, size_wr, size_drew] <;> omega) | exact not_noB _)) only [go_sem, ↓reduceIte, n0, reduceCtorEq, n1, n2, n3, n4, n5, i0, i1, i2, i3, i4, i5, i6, i7, hr0, hr3, hbt_7d, fy0, fy1, fy2, fy3]
        refine ⟨hM_9, ?_⟩
        have hE_79 : Ext w_7.drew (w_8.alloc (.cells #[y0, y1, y2, y3] 198)) := hE_8.trans hE_9
        have hg_9 := (hg_7d.ext (Rep1_lay _ _ fun _ => RepS_lay true (d + 2) _) hE_8).ext (Rep1_lay _ _ fun _ => RepS_lay true (d + 2) _) hE_9
        have hx_9 : Rep1 (RepS true (d + 2)) fBeginQuorumEpochRequest_3.of fBeginQuorumEpochRequest_3.sub (fun b => (OkF okT w.heap.size w1.heap.size) b ∧ b ≠ vb ∧ ¬ ownB v b) (w_8.alloc (.cells #[y0, y1, y2, y3] 198)) y [y0, y1, y2, y3] :=
          Rep1_part.2 (((RepS_lay true (d + 2) fs_BeginQuorumEpochRequestLeaderEndpoint).keep hc_8 (hE_9.keeps _)) |> fun h => (RepS_lay true (d + 2) fs_BeginQuorumEpochRequestLeaderEndpoint).weaken h fun b _ hk => by
            rcases hk with hk | hk
            · exact ⟨.inl hk, hoS b hk, fun h => by have := hg.above h; have := hk.2; omega⟩
            · exact ⟨.inr (by omega), by omega, fun h => by have := hg.below h; omega⟩)
        obtain ⟨css, hown, hall⟩ := hg_9.ex
        have hcl_9 := hall.1
        refine wp_append ap_115_115 (m := 1) (news := [y0, y1, y2, y3]) (n := css.length) (cs := css.flatten) (v := v) ?_ rfl hown.1 (all2_flat_R (Rep1_lay _ _ fun _ => RepS_lay true (d + 2) _) hall) (Src.blk (fr := (0, 0)) (T := 198) (blk_alloc_new (by first | rfl | omega | (simp only [size_drew]; omega))) rfl (by simp only [List.all_cons, List.all_nil, Bool.and_true, Bool.and_eq_true]; exact ⟨fy0, fy1, fy2, fy3⟩)) ?_ ?_ ?_
        · simp (maxSteps := 1000000) (disch := (first | omega | (simp only [World.size_alloc, size_wr, size_drew] <;> omega) | exact not_noB _)) only [go_sem, ↓reduceIte, n0, reduceCtorEq, n1, n2, n3, n4, n5, i0, i1, i2, i3, i4, i5, i6, i7]
        · simp only [World.size_alloc, size_drew]; omega
        · omega
        intro v' w_10 ho hu hfr
        have hg_10 := GrowR.snoc (Rep1_lay _ _ fun _ => RepS_lay true (d + 2) _) hown hall hx_9 hu hfr ho
        have hz_10 := hu.size
        simp only [World.size_alloc, size_drew] at hz_10
        obtain ⟨va, vc, hv', _⟩ := ho.shape
        subst hv'
        have hbt_10 := (hM_9.trans hu).blk_some hbt_7d (hnb _ (.inl hvlB3))
        have htb' : ¬ ownB (.slice va (css.length + 1) vc) vb := fun h => by
          rcases hfr _ h with h | h
          · exact hnb _ (.inl hvlB3) h
          · simp only [World.size_alloc, size_drew] at h; omega
        simp (maxSteps := 1000000) (disch := (first | omega | (simp only [World.size_alloc, size_wr, size_drew] <;> omega) | exact not_noB _)) only [go_sem, ↓reduceIte, n0, reduceCtorEq, n1, n2, n3, n4, n5, i0, i1, i2, i3, i4, i5, i6, i7]
        refine ⟨hM_9.trans hu, ?_⟩
        simp (maxSteps := 1000000) (disch := (first | omega | (simp only [World.size_alloc, size_wr, size_drew] <;> omega) | exact not_noB _)) only [go_sem, ↓reduceIte, n0, reduceCtorEq, n1, n2, n3, n4, n5, i0, i1, i2, i3, i4, i5, i6, i7, hr0, hr3, hbt_10]
        repeat ((first | refine W.seqR rfl ?_ | refine W.seq ?_ | refine W.regR rfl ?_ | refine W.condK ?_ | refine W.block ?_ | refine W.skip ?_ | refine W.ret ?_ | refine W.exit ?_); try simp (maxSteps := 1000000) (disch := (first | omega | (simp only [World.size_alloc, size_wr, size_drew] <;> omega) | exact not_noB _)) only [go_sem, ↓reduceIte, n0, reduceCtorEq, n1, n2, n3, n4, n5, i0, i1, i2, i3, i4, i5, i6, i7, hI])
        refine ⟨⟨j + 1, .slice va (css.length + 1) vc, by omega, rfl, hN, hS, hr0, hr3, ?_, ?_, ?_, ?_⟩, ?_⟩
        · simp (maxSteps := 1000000) (disch := (first | omega | (simp only [World.size_alloc, size_wr, size_drew] <;> omega) | exact not_noB _)) only [go_sem, ↓reduceIte, n0, reduceCtorEq, n1, n2, n3, n4, n5, i0, i1, i2, i3, i4, i5, i6, i7, hbt_10]
        · rw [hcat]; exact hg_10.upd (Rep1_lay _ _ fun _ => RepS_lay true (d + 2) _) ((Upd.refl _ _).wr _ _ (.inr rfl)) htb'
        · intro h; cases h
        · refine Upd.wr ?_ _ _ (.inr (.inl rfl))
          exact hU_6.more (((hE_7.mono fun _ h => h.elim).trans (hE_7d.mono fun _ h => h.elim)).trans (hM_9.trans hu)) fun b hb h => .inr (hg.above h)
        · simp only [RowKit.intOf]; omega
      · have hjl : j = (t.at 3).l.length := by omega
        subst hjl
        rw [List.take_length] at hg
        repeat ((first | refine W.seqR rfl ?_ | refine W.seq ?_ | refine W.regR rfl ?_ | refine W.condK ?_ | refine W.block ?_ | refine W.skip ?_ | refine W.ret ?_ | refine W.exit ?_); try simp (maxSteps := 1000000) (disch := (first | omega | (simp only [World.size_alloc, size_wr, size_drew] <;> omega) | exact not_noB _)) only [go_sem, ↓reduceIte, n0, reduceCtorEq, n1, n2, n3, n4, n5, i0, i1, i2, i3, i4, i5, i6, i7, hI, hN])
        exact ⟨v, hr0, hr3, hbv, hg, hnil, hU_6⟩
    · rintro ρ w16 ⟨v3, hr0, hr3, hb16, hg16, hnil3, hK16⟩
      have hV16 : Upd (fun b => b = vb) w13 w16 := hVb3.more hK16 fun b hb h => h.elim id fun h => absurd h (by omega)
      have hU16 : Upd (fun b => b = vb) w1 w16 := hU13.trans hV16
      have htb16 := hU16.blk_some htb1 htv
      have hvl16 : vb < w16.heap.size := Nat.lt_of_lt_of_le hvl1 hU16.size
      have hsz16 := hU16.size
      clear hvl15 hsz15
      obtain ⟨al3, kl3, rfl, _⟩ := hg16.shape
      have hf3 : RepF (RepS true (d + 2)) (szS true (d + 2)) fBeginQuorumEpochRequest_3 (OkF okT w.heap.size w1.heap.size) w16 (t.at 3) [.slice al3 (t.at 3).l.length kl3] := (RepF_list rfl hn0_3).2 ⟨_, rfl, hg16.sl (Rep1_lay _ _ fun _ => RepS_lay true (d + 2) _) (fun _ _ h => h) (fun b hb => .inr (by omega)), hg16.some hnil3⟩
      repeat ((first | refine W.seqR rfl ?_ | refine W.seq ?_ | refine W.regR rfl ?_ | refine W.condK ?_ | refine W.block ?_ | refine W.skip ?_ | refine W.ret ?_ | refine W.exit ?_); try simp (maxSteps := 1000000) (disch := (first | omega | (simp only [World.size_alloc, size_wr, size_drew] <;> omega) | exact not_noB _)) only [go_sem, ↓reduceIte, n0, reduceCtorEq, n1, n2, n3, n4, n5, i0, i1, i2, i3, i4, i5, i6, i7, hb16, htb16, hr0, hr3])
      have hUv := hU1v.keep (hU16.keeps fun b _ hk e => hoS b hk e)
      refine W.loop (fun ρ w' => ∃ (j : Nat) (q : Option Nat), j ≤ t.u.length ∧ ρ 90 = .int .i64 j ∧ ρ 89 = .int .i64 t.u.length ∧ ρ 88 = .slice bU t.u.length cU ∧ ρ 0 = .pointer (some ⟨vb, 0, none⟩) ∧ ρ 3 = .pointer (some ⟨w.heap.size, 0, none⟩) ∧ blk w' vb = some (#[.int .i16 ver, .pointer ap0, .int .i32 (IntKind.i32.wrap (t.at 1).n), .slice al2 (t.at 2).l.length kl2, .slice al3 (t.at 3).l.length kl3, .map q], 117, (0, 0)) ∧ TagsG (OkS okT w.heap.size) w16.heap.size w' (.map q) (t.u.take j) ∧ Upd (fun b => b = vb) w16 w')
          (fun ρ _ => t.u.length - (RowKit.intOf (ρ 90)).toNat) ?_ ?_
      · refine ⟨0, none, Nat.zero_le _, ?_, ?_, ?_, ?_, ?_, hb16, TagsG.start _ _ _, Upd.refl _ _⟩ <;> simp (maxSteps := 1000000) (disch := (first | omega | (simp only [World.size_alloc, size_wr, size_drew] <;> omega) | exact not_noB _)) only [go_sem, ↓reduceIte, n0, reduceCtorEq, n1, n2, n3, n4, n5, i0, i1, i2, i3, i4, i5, i6, i7, hr0, hr3]
        all_goals rfl
      · rintro ρ w_6 ⟨j, q, hj, hI, hN, hS, hr0, hr3, hbv, hG, hU_6⟩
        have hz_6 := hU_6.size
        have hUv_6 := hUv.keep (hU_6.keeps fun b _ hk e => hoS b hk e)
        have hU_16 : Upd (fun b => b = vb) w1 w_6 := hU16.trans hU_6
        have hz_16 := hU_16.size
        by_cases hlt : j < t.u.length
        · obtain ⟨_, b, o, x, vv, hb, hokb, hx, hblt, hxs, hxe, _, _, hfv, hbvv, h32⟩ := TagsV.get hUv_6 hlt
          subst hb
          have hcat : t.u.take (j + 1) = t.u.take j ++ [t.u[j]] := List.take_succ_eq_append_getElem hlt
          have hnew : ∀ z ∈ t.u.take j, z.1 ≠ t.u[j].1 := by
            intro z hz
            obtain ⟨k, hk, rfl⟩ := List.getElem_of_mem hz
            simp only [List.length_take] at hk
            have := List.pairwise_iff_getElem.1 hfu.2.2 k j (by omega) hlt (by omega)
            rw [List.getElem_take]; omega
          generalize t.u[j] = y at *
          obtain ⟨bSy, cSy, rfl, hcSy⟩ := hbvv.shape
          repeat ((first | refine W.seqR rfl ?_ | refine W.seq ?_ | refine W.regR rfl ?_ | refine W.condK ?_ | refine W.block ?_ | refine W.skip ?_ | refine W.ret ?_ | refine W.exit ?_); try simp (maxSteps := 1000000) (disch := (first | omega | (simp only [World.size_alloc, size_wr, size_drew] <;> omega) | exact not_noB _)) only [go_sem, ↓reduceIte, n0, reduceCtorEq, n1, n2, n3, n4, n5, i0, i1, i2, i3, i4, i5, i6, i7, hI, hN, hS, hx, hxe, hfv, cellsAt_two, Int.toNat_natCast])
          generalize hw_7 : (wr (w_6.alloc (.cells #[.int .u32 0, .slice none 0 0] 64)) w_6.heap.size 0 [.int .u32 y.1, .slice bSy y.2.length cSy]) = w_7
          have hE_7 : Ext w_6 w_7 := by rw [← hw_7]; exact (Upd.alloc (Upd.refl _ _) _).wr _ _ (.inl (Nat.le_refl _))
          have hb_7 : blk w_7 w_6.heap.size = some (#[.int .u32 y.1, .slice bSy y.2.length cSy], 64, (0, 0)) := by rw [← hw_7]; simp (maxSteps := 1000000) (disch := (first | omega | (simp only [World.size_alloc, size_wr, size_drew] <;> omega) | exact not_noB _)) only [go_sem, ↓reduceIte, n0, reduceCtorEq, n1, n2, n3, n4, n5, i0, i1, i2, i3, i4, i5, i6, i7]
          have hz_7 : w_7.heap.size = w_6.heap.size + 1 := by rw [← hw_7]; simp only [size_wr, World.size_alloc]
          clear hw_7
          have hbt_7 := hE_7.blk_some hbv id
          have hnb : ∀ b, b = w_6.heap.size → ¬ (b = vb ∨ Value.map q = .map (some b)) := fun b hb h => by
            rcases h with h | h
            · omega
            · cases h; have := (hG.lt rfl).1; omega
          refine W.drawR (.take 0 (.take 1 (.take 2 (.take 3 (.take 4 (.take 5 (.take 6 (.only 7 .done)))))))) (fun b => b = vb ∨ Value.map q = .map (some b)) mixed (by kernel_rfl) ?_
          simp (maxSteps := 1000000) (disch := (first | omega | (simp only [World.size_alloc, size_wr, size_drew] <;> omega) | exact not_noB _ | (refine hnb _ ?_; first | omega | (simp only [World.size_alloc, size_wr, size_drew] <;> omega)))) only [go_sem, ↓reduceIte, n0, reduceCtorEq, n1, n2, n3, n4, n5, i0, i1, i2, i3, i4, i5, i6, i7, hr0, hr3, hbt_7, hb_7, cellsAt_two]
          have hE_7d : Ext w_7 w_7.drew := (Upd.refl _ _).drew
          have hE_6d : Ext w_6 w_7.drew := hE_7.trans hE_7d
          have hG_7 : TagsG (OkS okT w.heap.size) w16.heap.size w_7.drew (.map q) (t.u.take j) := hG.keep fun b hb _ => hE_6d.keep b hb id
          have hbt_8 := hE_7d.blk_some hbt_7 id
          have hm_8 : (#[.int .i16 ver, .pointer ap0, .int .i32 (IntKind.i32.wrap (t.at 1).n), .slice al2 (t.at 2).l.length kl2, .slice al3 (t.at 3).l.length kl3, .map q] : Array Value)[5]? = some (.map q) := rfl
          refine (TagsSet_fn (okT := (OkS okT w.heap.size)) (L := w16.heap.size) w_7.drew hG_7 (by have := hE_6d.size; omega) (by omega) hbt_8 (o := 5) hm_8 (thaw_00 _ _) y _ ((hbvv.weaken fun b _ hk => ⟨hk, by have := hk.2; omega⟩).keep (hE_6d.keeps _)) h32 hnew hoS).mono ?_
          rintro _ w_8 ⟨m', hb_8, hG_8, hM_8⟩
          simp only [List.setIfInBounds_toArray, List.set_cons_succ, List.set_cons_zero] at hb_8
          refine ⟨hM_8, ?_⟩
          repeat ((first | refine W.seqR rfl ?_ | refine W.seq ?_ | refine W.regR rfl ?_ | refine W.condK ?_ | refine W.block ?_ | refine W.skip ?_ | refine W.ret ?_ | refine W.exit ?_); try simp (maxSteps := 1000000) (disch := (first | omega | (simp only [World.size_alloc, size_wr, size_drew] <;> omega) | exact not_noB _)) only [go_sem, ↓reduceIte, n0, reduceCtorEq, n1, n2, n3, n4, n5, i0, i1, i2, i3, i4, i5, i6, i7, hI])
          refine ⟨⟨j + 1, m', by omega, rfl, hN, hS, hr0, hr3, hb_8, by rw [hcat]; exact hG_8, ?_⟩, ?_⟩
          · exact hU_6.more ((hE_6d.mono fun _ h => h.elim).trans hM_8) fun b hb h => by
              rcases h with h | h
              · exact h
              · cases h; have := (hG.lt rfl).2; omega
          · simp only [RowKit.intOf]; omega
        · have hjl : j = t.u.length := by omega
          subst hjl
          rw [List.take_length] at hG
          have hT13 : Upd (fun b => b = vb) w13 w_6 := hV16.trans hU_6
          have hT12 : Upd (fun b => b = vb) w12 w_6 := hV13.trans hT13
          have hT11 : Upd (fun b => b = vb) w11 w_6 := hV12.trans hT12
          have hT8 : Upd (fun b => b = vb) w8 w_6 := hV11.trans hT11
          have hT7 : Upd (fun b => b = vb) w7 w_6 := hV8.trans hT8
          have hT6 : Upd (fun b => b = vb) w6 w_6 := hV7.trans hT7
          have hT5 : Upd (fun b => b = vb) w5 w_6 := hV6.trans hT6
          have hT4 : Upd (fun b => b = vb) w4 w_6 := hV5.trans hT5
          have hT3 : Upd (fun b => b = vb) w3 w_6 := hV4.trans hT4
          have hT2 : Upd (fun b => b = vb) w2 w_6 := hV3.trans hT3
          have hT1 : Upd (fun b => b = vb) w1 w_6 := hV2.trans hT2
          have hz0_f := hf0.keepS (hT4.keeps fun b _ hk e => hoF b hk e)
          have hz1_f := hf1.keepS (hT6.keeps fun b _ hk e => hoF b hk e)
          have hz2_f := hf2.keepS (hT11.keeps fun b _ hk e => hoF b hk e)
          have hz3_f := hf3.keepS (hU_6.keeps fun b _ hk e => hoF b hk e)
          have hTg := hG.tags (ok' := (OkF okT w.heap.size w1.heap.size)) (fun b _ hk => .inl hk) (fun b hb => .inr (by omega))
          have hL : RepL (RepS true (d + 2)) (szS true (d + 2)) (OkF okT w.heap.size w1.heap.size) w_6 t [fBeginQuorumEpochRequest_0, fBeginQuorumEpochRequest_1, fBeginQuorumEpochRequest_2, fBeginQuorumEpochRequest_3] 0 [.pointer ap0, .int .i32 (IntKind.i32.wrap (t.at 1).n), .slice al2 (t.at 2).l.length kl2, .slice al3 (t.at 3).l.length kl3] := (RepL.cons1 hz0_f (RepL.cons1 hz1_f (RepL.cons1 hz2_f (RepL.cons1 hz3_f RepL.nil))))
          have hR : RepS true (d + 3) fs_BeginQuorumEpochRequest (OkF okT w.heap.size w1.heap.size) w_6 t [.pointer ap0, .int .i32 (IntKind.i32.wrap (t.at 1).n), .slice al2 (t.at 2).l.length kl2, .slice al3 (t.at 3).l.length kl3, .map q] := RepS.intro (c := [.pointer ap0, .int .i32 (IntKind.i32.wrap (t.at 1).n), .slice al2 (t.at 2).l.length kl2, .slice al3 (t.at 3).l.length kl3]) rfl hL hTg
          repeat ((first | refine W.seqR rfl ?_ | refine W.seq ?_ | refine W.regR rfl ?_ | refine W.condK ?_ | refine W.block ?_ | refine W.skip ?_ | refine W.ret ?_ | refine W.exit ?_); try simp (maxSteps := 1000000) (disch := (first | omega | (simp only [World.size_alloc, size_wr, size_drew] <;> omega) | exact not_noB _)) only [go_sem, ↓reduceIte, n0, reduceCtorEq, n1, n2, n3, n4, n5, i0, i1, i2, i3, i4, i5, i6, i7, hI, hN])
          exact ⟨_, hbv, (RepS_lay true (d + 3) fs_BeginQuorumEpochRequest).weaken hR (fun b _ hk => hk.imp And.left fun h => by omega), Upd.more (hE1.mono fun _ h => h.elim) hT1 fun _ _ h => h⟩
end Ms

