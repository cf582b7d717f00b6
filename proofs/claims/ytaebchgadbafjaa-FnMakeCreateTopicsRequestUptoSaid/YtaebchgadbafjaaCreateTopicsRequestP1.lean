/- A part of the proof: see the last text. -/
import Derived.Test.YtaebchgadbafjaaC08
import Derived.Test.YtaebchgadbafjaaCreateTopicsRequestP0
set_option linter.unusedSimpArgs false
set_option linter.unusedVariables false
namespace Ms
open Nat renaming reduceEqDiff → n0, reduceAdd → n1, reduceMul → n2, reduceSub → n3, reduceLT → n4, reduceLeDiff → n5
open Int renaming reduceEq → i0, reduceLT → i1, reduceLE → i2, reduceNeg → i3, reduceAdd → i4, reduceSub → i5, reduceMul → i6, reduceToNat → i7
set_option maxRecDepth 8000
open Go Go.Proofs Go.Shelf
attribute [local congr] W_congr WPsq_congr WPp_congr optK_congr addrK_congr intK_congr boolK_congr sliceK_congr tupleK_congr funcK_congr Fn_congr rawK_congr takeK_congr stepK_congr convK_congr aggK_congr

def fCreateTopicsRequestTopicReplicaAssignment_0 : Fld := .mk 3 0 (-1) (-1) (-1) 0 0 []
def fCreateTopicsRequestTopicReplicaAssignment_1 : Fld := .mk 11 0 (-1) (-1) (-1) 0 3 []
def fs_CreateTopicsRequestTopicReplicaAssignment : List Fld := [fCreateTopicsRequestTopicReplicaAssignment_0, fCreateTopicsRequestTopicReplicaAssignment_1]
def fCreateTopicsRequestTopicConfig_0 : Fld := .mk 8 0 (-1) (-1) (-1) 0 0 []
def fCreateTopicsRequestTopicConfig_1 : Fld := .mk 8 0 (-1) 0 (-1) 0 0 []
def fs_CreateTopicsRequestTopicConfig : List Fld := [fCreateTopicsRequestTopicConfig_0, fCreateTopicsRequestTopicConfig_1]
def fCreateTopicsRequestTopic_0 : Fld := .mk 8 0 (-1) (-1) (-1) 0 0 []
def fCreateTopicsRequestTopic_1 : Fld := .mk 3 0 (-1) (-1) (-1) 0 0 []
def fCreateTopicsRequestTopic_2 : Fld := .mk 2 0 (-1) (-1) (-1) 0 0 []
def fCreateTopicsRequestTopic_3 : Fld := .mk 11 0 (-1) (-1) (-1) 0 10 fs_CreateTopicsRequestTopicReplicaAssignment
def fCreateTopicsRequestTopic_4 : Fld := .mk 11 0 (-1) (-1) (-1) 0 10 fs_CreateTopicsRequestTopicConfig
def fs_CreateTopicsRequestTopic : List Fld := [fCreateTopicsRequestTopic_0, fCreateTopicsRequestTopic_1, fCreateTopicsRequestTopic_2, fCreateTopicsRequestTopic_3, fCreateTopicsRequestTopic_4]
def fCreateTopicsRequest_0 : Fld := .mk 11 0 (-1) (-1) (-1) 0 10 fs_CreateTopicsRequestTopic
def fCreateTopicsRequest_1 : Fld := .mk 3 0 (-1) (-1) (-1) 60000 0 []
def fCreateTopicsRequest_2 : Fld := .mk 0 1 (-1) (-1) (-1) 0 0 []
def fs_CreateTopicsRequest : List Fld := [fCreateTopicsRequest_0, fCreateTopicsRequest_1, fCreateTopicsRequest_2]

set_option maxHeartbeats 2000000 in
theorem makeCreateTopicsRequestTopicReplicaAssignment_fn {d : Nat} {okT : Blocks} {V : Int} (t : Tree) (ct : List Value) (w : World) (ht : TreeC okT w t ct) (hfit : FitP V (d + 1) fs_CreateTopicsRequestTopicReplicaAssignment t) (hLs : Lists t) :
    Fn Try.prog 183 #[.agg ct.toArray] w fun r w' => (∃ cs, r = .agg cs.toArray ∧ RepS true (d + 1) fs_CreateTopicsRequestTopicReplicaAssignment (okN okT w.heap.size) w' t cs) ∧ Ext w w' := by
  obtain ⟨vS, vL, vU, rfl, hn, hSx, hLx0, hUx⟩ := ht.inv
  obtain ⟨bS, cS, rfl, hcS⟩ := hSx.shape
  obtain ⟨bL, cL, rfl, hcL⟩ := SlR.shape hLx0
  obtain ⟨bU, cU, rfl, hcU⟩ := SlR.shape hUx
  obtain ⟨⟨g0, g1, -⟩, hfu⟩ := hfit
  replace g0 : FitF (FitP V d) V fCreateTopicsRequestTopicReplicaAssignment_0 (t.at 0) := g0
  replace g1 : FitF (FitP V d) V fCreateTopicsRequestTopicReplicaAssignment_1 (t.at 1) := g1
  have hllt : t.l.length < 4611686018427387903 := Nat.lt_of_le_of_lt hLs.len (by decide)
  have hul := hLs.ulen
  refine fn_of_W Try.func183 rfl Try.results183 Try.ntmps183 rfl ?_
  obtain ⟨w1, hw1⟩ : ∃ w1, w1 = (((w.alloc (.cells #[.int .i64 t.n, .slice bS t.s.length cS, .bool t.null, .slice bL t.l.length cL, .slice bU t.u.length cU] 39)).alloc (.cells #[.int .i32 0, .slice none 0 0, .map none] 214)).alloc (.cells #[.int .i32 0, .slice none 0 0, .map none] 214)) := ⟨_, rfl⟩
  have hE1 : Ext w w1 := by rw [hw1]; exact ((Upd.refl _ _).alloc _).alloc _ |>.alloc _
  have hz1 : w1.heap.size = w.heap.size + 3 := by rw [hw1]; simp only [World.size_alloc]
  have htb1 : blk w1 w.heap.size = some (#[.int .i64 t.n, .slice bS t.s.length cS, .bool t.null, .slice bL t.l.length cL, .slice bU t.u.length cU], 39, (0, 0)) := by rw [hw1]; simp (maxSteps := 1000000) (disch := (first | omega | (simp only [World.size_alloc, size_wr, size_drew] <;> omega) | exact not_noB _)) only [go_sem, ↓reduceIte, n0, reduceCtorEq, n1, n2, n3, n4, n5, i0, i1, i2, i3, i4, i5, i6, i7]
  have hrb1 : blk w1 (w.heap.size + 1) = some (#[.int .i32 0, .slice none 0 0, .map none], 214, (0, 0)) := by rw [hw1]; simp (maxSteps := 1000000) (disch := (first | omega | (simp only [World.size_alloc, size_wr, size_drew] <;> omega) | exact not_noB _)) only [go_sem, ↓reduceIte, n0, reduceCtorEq, n1, n2, n3, n4, n5, i0, i1, i2, i3, i4, i5, i6, i7]
  have hb1 : blk w1 (w.heap.size + 2) = some (#[.int .i32 0, .slice none 0 0, .map none], 214, (0, 0)) := by rw [hw1]; simp (maxSteps := 1000000) (disch := (first | omega | (simp only [World.size_alloc, size_wr, size_drew] <;> omega) | exact not_noB _)) only [go_sem, ↓reduceIte, n0, reduceCtorEq, n1, n2, n3, n4, n5, i0, i1, i2, i3, i4, i5, i6, i7]
  have hoS : ∀ b, (OkS okT w.heap.size) b → b ≠ (w.heap.size + 2) := fun b h => by have := h.2; omega
  have hoR : ∀ b, (OkF okT w.heap.size w1.heap.size) b → b ≠ w.heap.size + 1 := fun b h => by
    rcases h with h | h
    · have := h.2; omega
    · omega
  have htv : ¬ w.heap.size = (w.heap.size + 2) := by omega
  have hoF : ∀ b, (OkF okT w.heap.size w1.heap.size) b → b ≠ (w.heap.size + 2) := fun b h => by
    rcases h with h | h
    · exact hoS b h
    · omega
  have hU1 : Upd (fun b => b = (w.heap.size + 2)) w1 w1 := Upd.refl _ _
  have hvl1 := blk_lt hb1
  have hsz1 := Nat.le_refl w1.heap.size
  have ht1 : TreeC (OkS okT w.heap.size) w1 t [.int .i64 t.n, .slice bS t.s.length cS, .bool t.null, .slice bL t.l.length cL, .slice bU t.u.length cU] := (ht.weaken fun b h1 h2 => ⟨h2, h1⟩).keep (hE1.keeps _)
  have hU1v : TagsV (OkS okT w.heap.size) w1 (.slice bU t.u.length cU) t.u := (hUx.weaken fun b h1 h2 => ⟨h2, h1⟩).keep (hE1.keeps _)
  repeat ((first | refine W.seqR rfl ?_ | refine W.seq ?_ | refine W.regR rfl ?_ | refine W.condK ?_ | refine W.block ?_ | refine W.skip ?_ | refine W.ret ?_ | refine W.exit ?_); try simp (maxSteps := 1000000) (disch := (first | omega | (simp only [World.size_alloc, size_wr, size_drew] <;> omega) | exact not_noB _)) only [go_sem, ↓reduceIte, n0, reduceCtorEq, n1, n2, n3, n4, n5, i0, i1, i2, i3, i4, i5, i6, i7])
  rw [← hw1]
  clear hw1
  refine (iat_fn (ok := (OkS okT w.heap.size)) t 0 _ _ (ht1.keep (hU1.keeps fun b _ hk e => hoS b hk e)) (by decide) hllt).mono ?_
  rintro r2 w2 ⟨⟨ca2, rfl, hca2⟩, hEa2⟩
  obtain ⟨vSa2, vLa2, vUa2, rfl, hna2, hSa2, hLa2, hUa2⟩ := hca2.inv
  obtain ⟨bSa2, cSa2, rfl, hcSa2⟩ := hSa2.shape
  obtain ⟨bLa2, cLa2, rfl, hcLa2⟩ := SlR.shape hLa2
  have hfU2 := SlR.flat hUa2
  clear hcSa2 hcLa2 hna2
  have hV2 : Upd (fun b => b = (w.heap.size + 2)) w1 w2 := hEa2.mono fun _ h => h.elim
  have hU2 : Upd (fun b => b = (w.heap.size + 2)) w1 w2 := hU1.trans hV2
  have htb2 := hU2.blk_some htb1 htv
  have hvl2 : (w.heap.size + 2) < w2.heap.size := Nat.lt_of_lt_of_le hvl1 hU2.size
  have hsz2 := hU2.size
  have hb2 : blk w2 (w.heap.size + 2) = some (#[.int .i32 0, .slice none 0 0, .map none], 214, (0, 0)) := hEa2.blk_some hb1 id
  simp (maxSteps := 1000000) (disch := (first | omega | (simp only [World.size_alloc, size_wr, size_drew] <;> omega) | exact not_noB _)) only [go_sem, ↓reduceIte, n0, reduceCtorEq, n1, n2, n3, n4, n5, i0, i1, i2, i3, i4, i5, i6, i7, hb2, htb2]
  generalize hw3 : wr w2 (w.heap.size + 2) 0 [.int .i32 (IntKind.i32.wrap (t.at 0).n)] = w3
  have hV3 : Upd (fun b => b = (w.heap.size + 2)) w2 w3 := by rw [← hw3]; exact (Upd.refl _ _).wr _ _ (.inr rfl)
  have hb3 : blk w3 (w.heap.size + 2) = some (#[.int .i32 (IntKind.i32.wrap (t.at 0).n), .slice none 0 0, .map none], 214, (0, 0)) := by rw [← hw3, blk_wr_eq, hb2]; rfl
  have hU3 : Upd (fun b => b = (w.heap.size + 2)) w1 w3 := hU2.trans hV3
  have htb3 := hU3.blk_some htb1 htv
  have hvl3 : (w.heap.size + 2) < w3.heap.size := Nat.lt_of_lt_of_le hvl1 hU3.size
  have hsz3 := hU3.size
  clear hvl2 hsz2
  clear hw3
  have hf0 : RepF (RepS true d) (szS true d) fCreateTopicsRequestTopicReplicaAssignment_0 (OkF okT w.heap.size w1.heap.size) w3 (t.at 0) [.int .i32 (IntKind.i32.wrap (t.at 0).n)] := (RepF_num (by decide)).2 rfl
  have hn0_1 : (t.at 1).null = false := g1.notnull (by decide)
  have hll1 := (g1.list rfl).1
  repeat ((first | refine W.seqR rfl ?_ | refine W.seq ?_ | refine W.regR rfl ?_ | refine W.condK ?_ | refine W.block ?_ | refine W.skip ?_ | refine W.ret ?_ | refine W.exit ?_); try simp (maxSteps := 1000000) (disch := (first | omega | (simp only [World.size_alloc, size_wr, size_drew] <;> omega) | exact not_noB _)) only [go_sem, ↓reduceIte, n0, reduceCtorEq, n1, n2, n3, n4, n5, i0, i1, i2, i3, i4, i5, i6, i7, hb3, htb3])
  refine (iat_fn (ok := (OkS okT w.heap.size)) t 1 _ _ (ht1.keep (hU3.keeps fun b _ hk e => hoS b hk e)) (by decide) hllt).mono ?_
  rintro r4 w4 ⟨⟨ca4, rfl, hca4⟩, hEa4⟩
  obtain ⟨vSa4, vLa4, vUa4, rfl, hna4, hSa4, hLa4, hUa4⟩ := hca4.inv
  obtain ⟨bSa4, cSa4, rfl, hcSa4⟩ := hSa4.shape
  obtain ⟨bLa4, cLa4, rfl, hcLa4⟩ := SlR.shape hLa4
  have hfU4 := SlR.flat hUa4
  clear hcSa4 hcLa4 hna4
  have hV4 : Upd (fun b => b = (w.heap.size + 2)) w3 w4 := hEa4.mono fun _ h => h.elim
  have hU4 : Upd (fun b => b = (w.heap.size + 2)) w1 w4 := hU3.trans hV4
  have htb4 := hU4.blk_some htb1 htv
  have hvl4 : (w.heap.size + 2) < w4.heap.size := Nat.lt_of_lt_of_le hvl1 hU4.size
  have hsz4 := hU4.size
  clear hvl3 hsz3
  have hb4 : blk w4 (w.heap.size + 2) = some (#[.int .i32 (IntKind.i32.wrap (t.at 0).n), .slice none 0 0, .map none], 214, (0, 0)) := hEa4.blk_some hb3 id
  simp (maxSteps := 1000000) (disch := (first | omega | (simp only [World.size_alloc, size_wr, size_drew] <;> omega) | exact not_noB _)) only [go_sem, ↓reduceIte, n0, reduceCtorEq, n1, n2, n3, n4, n5, i0, i1, i2, i3, i4, i5, i6, i7, hn0_1, hb4, htb4]
  repeat ((first | refine W.seqR rfl ?_ | refine W.seq ?_ | refine W.regR rfl ?_ | refine W.condK ?_ | refine W.block ?_ | refine W.skip ?_ | refine W.ret ?_ | refine W.exit ?_); try simp (maxSteps := 1000000) (disch := (first | omega | (simp only [World.size_alloc, size_wr, size_drew] <;> omega) | exact not_noB _)) only [go_sem, ↓reduceIte, n0, reduceCtorEq, n1, n2, n3, n4, n5, i0, i1, i2, i3, i4, i5, i6, i7, hb4, htb4])
  refine (iat_fn (ok := (OkS okT w.heap.size)) t 1 _ _ (ht1.keep (hU4.keeps fun b _ hk e => hoS b hk e)) (by decide) hllt).mono ?_
  rintro r5 w5 ⟨⟨ca5, rfl, hca5⟩, hEa5⟩
  obtain ⟨vSa5, vLa5, vUa5, rfl, hna5, hSa5, hLa5, hUa5⟩ := hca5.inv
  obtain ⟨bSa5, cSa5, rfl, hcSa5⟩ := hSa5.shape
  obtain ⟨bLa5, cLa5, rfl, hcLa5⟩ := SlR.shape hLa5
  have hfU5 := SlR.flat hUa5
  clear hcSa5 hcLa5 hna5
  have hV5 : Upd (fun b => b = (w.heap.size + 2)) w4 w5 := hEa5.mono fun _ h => h.elim
  have hU5 : Upd (fun b => b = (w.heap.size + 2)) w1 w5 := hU4.trans hV5
  have htb5 := hU5.blk_some htb1 htv
  have hvl5 : (w.heap.size + 2) < w5.heap.size := Nat.lt_of_lt_of_le hvl1 hU5.size
  have hsz5 := hU5.size
  clear hvl4 hsz4
  have hb5 : blk w5 (w.heap.size + 2) = some (#[.int .i32 (IntKind.i32.wrap (t.at 0).n), .slice none 0 0, .map none], 214, (0, 0)) := hEa5.blk_some hb4 id
  simp (maxSteps := 1000000) (disch := (first | omega | (simp only [World.size_alloc, size_wr, size_drew] <;> omega) | exact not_noB _)) only [go_sem, ↓reduceIte, n0, reduceCtorEq, n1, n2, n3, n4, n5, i0, i1, i2, i3, i4, i5, i6, i7, hb5, htb5]
  refine wp_make (T := 182) (E := 21) (size := 1) (bytes := 4) (z := (.int .i32 0)) (l := 0) (c := (t.at 1).l.length) (kl := .i64) (kc := .i64) (by kernel_rfl) (by kernel_rfl) (by simp (maxSteps := 1000000) (disch := (first | omega | (simp only [World.size_alloc, size_wr, size_drew] <;> omega) | exact not_noB _)) only [go_sem, ↓reduceIte, n0, reduceCtorEq, n1, n2, n3, n4, n5, i0, i1, i2, i3, i4, i5, i6, i7]; rfl) (by simp (maxSteps := 1000000) (disch := (first | omega | (simp only [World.size_alloc, size_wr, size_drew] <;> omega) | exact not_noB _)) only [go_sem, ↓reduceIte, n0, reduceCtorEq, n1, n2, n3, n4, n5, i0, i1, i2, i3, i4, i5, i6, i7]) (by omega) (by omega) (by omega) ?_
  simp (maxSteps := 1000000) (disch := (first | omega | (simp only [World.size_alloc, size_wr, size_drew] <;> omega) | exact not_noB _)) only [go_sem, ↓reduceIte, n0, reduceCtorEq, n1, n2, n3, n4, n5, i0, i1, i2, i3, i4, i5, i6, i7, hb5, hvl5, htb5]
  have hszB1 := hsz5
  generalize hw6 : wr (w5.alloc (.cells (madeCells #[.int .i32 0] ((t.at 1).l.length * 1)) 21)) (w.heap.size + 2) 1 [.slice (some ⟨w5.heap.size, 0, none⟩) 0 (t.at 1).l.length] = w6
  have hV6 : Upd (fun b => b = (w.heap.size + 2)) w5 w6 := by rw [← hw6]; exact ((Upd.refl _ _).alloc _).wr _ _ (.inr rfl)
  have hb6 : blk w6 (w.heap.size + 2) = some (#[.int .i32 (IntKind.i32.wrap (t.at 0).n), .slice (some ⟨w5.heap.size, 0, none⟩) 0 (t.at 1).l.length, .map none], 214, (0, 0)) := by rw [← hw6, blk_wr_eq, blk_alloc_old hvl5, hb5]; rfl
  have hrow6 : blk w6 w5.heap.size = some (madeCells #[.int .i32 0] ((t.at 1).l.length * 1), 21, (0, 0)) := by rw [← hw6, blk_wr_ne (Nat.ne_of_gt hvl5), blk_alloc_new rfl]
  have hg6 : GrowR (Rep1 (RepS true d) fCreateTopicsRequestTopicReplicaAssignment_1.of fCreateTopicsRequestTopicReplicaAssignment_1.sub) 1 (OkF okT w.heap.size w1.heap.size) w5.heap.size (w.heap.size + 2) w6 21 (.slice (some ⟨w5.heap.size, 0, none⟩) 0 (t.at 1).l.length) [] := GrowR.made hrow6 (size_madeCells _ _) (Nat.le_refl _)
  have hU6 : Upd (fun b => b = (w.heap.size + 2)) w1 w6 := hU5.trans hV6
  have htb6 := hU6.blk_some htb1 htv
  have hvl6 : (w.heap.size + 2) < w6.heap.size := Nat.lt_of_lt_of_le hvl1 hU6.size
  have hsz6 := hU6.size
  clear hvl5 hsz5
  clear hw6 hrow6
  repeat ((first | refine W.seqR rfl ?_ | refine W.seq ?_ | refine W.regR rfl ?_ | refine W.condK ?_ | refine W.block ?_ | refine W.skip ?_ | refine W.ret ?_ | refine W.exit ?_); try simp (maxSteps := 1000000) (disch := (first | omega | (simp only [World.size_alloc, size_wr, size_drew] <;> omega) | exact not_noB _)) only [go_sem, ↓reduceIte, n0, reduceCtorEq, n1, n2, n3, n4, n5, i0, i1, i2, i3, i4, i5, i6, i7, hb6, htb6])
  refine (iat_fn (ok := (OkS okT w.heap.size)) t 1 _ _ (ht1.keep (hU6.keeps fun b _ hk e => hoS b hk e)) (by decide) hllt).mono ?_
  rintro r7 w7 ⟨⟨ca7, rfl, hca7⟩, hEa7⟩
  obtain ⟨vSa7, vLa7, vUa7, rfl, hna7, hSa7, hLa7, hUa7⟩ := hca7.inv
  obtain ⟨bSa7, cSa7, rfl, hcSa7⟩ := hSa7.shape
  obtain ⟨bLa7, cLa7, rfl, hcLa7⟩ := SlR.shape hLa7
  have hfU7 := SlR.flat hUa7
  clear hcSa7 hcLa7 hna7
  have hV7 : Upd (fun b => b = (w.heap.size + 2)) w6 w7 := hEa7.mono fun _ h => h.elim
  have hU7 : Upd (fun b => b = (w.heap.size + 2)) w1 w7 := hU6.trans hV7
  have htb7 := hU7.blk_some htb1 htv
  have hvl7 : (w.heap.size + 2) < w7.heap.size := Nat.lt_of_lt_of_le hvl1 hU7.size
  have hsz7 := hU7.size
  clear hvl6 hsz6
  have hb7 : blk w7 (w.heap.size + 2) = some (#[.int .i32 (IntKind.i32.wrap (t.at 0).n), .slice (some ⟨w5.heap.size, 0, none⟩) 0 (t.at 1).l.length, .map none], 214, (0, 0)) := hEa7.blk_some hb6 id
  have hg7 := hg6.ext (Rep1_lay _ _ fun _ => RepS_lay true d _) hEa7
  simp (maxSteps := 1000000) (disch := (first | omega | (simp only [World.size_alloc, size_wr, size_drew] <;> omega) | exact not_noB _)) only [go_sem, ↓reduceIte, n0, reduceCtorEq, n1, n2, n3, n4, n5, i0, i1, i2, i3, i4, i5, i6, i7, hb7, htb7]
  repeat ((first | refine W.seqR rfl ?_ | refine W.seq ?_ | refine W.regR rfl ?_ | refine W.condK ?_ | refine W.block ?_ | refine W.skip ?_ | refine W.ret ?_ | refine W.exit ?_); try simp (maxSteps := 1000000) (disch := (first | omega | (simp only [World.size_alloc, size_wr, size_drew] <;> omega) | exact not_noB _)) only [go_sem, ↓reduceIte, n0, reduceCtorEq, n1, n2, n3, n4, n5, i0, i1, i2, i3, i4, i5, i6, i7, hb7, htb7])
  have hVb1 : Upd (fun b => b = (w.heap.size + 2)) w5 w7 := hV6.trans hV7
  have hUb1 := hU5
  have hvlB1 : (w.heap.size + 2) < w5.heap.size := Nat.lt_of_lt_of_le hvl1 hszB1
  have hszL1 : w5.heap.size ≤ w7.heap.size := hVb1.size
  refine W.exitJ 0 (fun ρ w' => ∃ v, ρ 1 = .pointer (some ⟨w.heap.size, 0, none⟩) ∧ ρ 2 = .pointer (some ⟨w.heap.size + 1, 0, none⟩) ∧ ρ 3 = .pointer (some ⟨(w.heap.size + 2), 0, none⟩) ∧ blk w' (w.heap.size + 2) = some (#[.int .i32 (IntKind.i32.wrap (t.at 0).n), v, .map none], 214, (0, 0)) ∧ GrowR (Rep1 (RepS true d) fCreateTopicsRequestTopicReplicaAssignment_1.of fCreateTopicsRequestTopicReplicaAssignment_1.sub) 1 (OkF okT w.heap.size w1.heap.size) w5.heap.size (w.heap.size + 2) w' 21 v (t.at 1).l ∧ v ≠ .slice none 0 0 ∧ Upd (fun b => b = (w.heap.size + 2) ∨ w5.heap.size ≤ b) w7 w')
    (W.loop (fun ρ w' => ∃ (j : Nat) (v : Value), j ≤ (t.at 1).l.length ∧ ρ 27 = .int .i64 j ∧ ρ 26 = .int .i64 (t.at 1).l.length ∧ ρ 25 = .slice bLa7 (t.at 1).l.length cLa7 ∧ ρ 1 = .pointer (some ⟨w.heap.size, 0, none⟩) ∧ ρ 2 = .pointer (some ⟨w.heap.size + 1, 0, none⟩) ∧ ρ 3 = .pointer (some ⟨(w.heap.size + 2), 0, none⟩) ∧ blk w' (w.heap.size + 2) = some (#[.int .i32 (IntKind.i32.wrap (t.at 0).n), v, .map none], 214, (0, 0)) ∧ GrowR (Rep1 (RepS true d) fCreateTopicsRequestTopicReplicaAssignment_1.of fCreateTopicsRequestTopicReplicaAssignment_1.sub) 1 (OkF okT w.heap.size w1.heap.size) w5.heap.size (w.heap.size + 2) w' 21 v ((t.at 1).l.take j) ∧ v ≠ .slice none 0 0 ∧ Upd (fun b => b = (w.heap.size + 2) ∨ w5.heap.size ≤ b) w7 w')
      (fun ρ _ => (t.at 1).l.length - (RowKit.intOf (ρ 27)).toNat) ?_ ?_) ?_
  · refine ⟨0, _, Nat.zero_le _, ?_, ?_, ?_, ?_, ?_, ?_, hb7, hg7, (by intro h; cases h), Upd.refl _ _⟩ <;> simp (maxSteps := 1000000) (disch := (first | omega | (simp only [World.size_alloc, size_wr, size_drew] <;> omega) | exact not_noB _)) only [go_sem, ↓reduceIte, n0, reduceCtorEq, n1, n2, n3, n4, n5, i0, i1, i2, i3, i4, i5, i6, i7]
    all_goals rfl
  · rintro ρ w_6 ⟨j, v, hj, hI, hN, hS, hr1, hr2, hr3, hbv, hg, hnil, hU_6⟩
    have hz_6 := hU_6.size
    have hJ_6 : Upd (fun b => b = (w.heap.size + 2)) w5 w_6 := hVb1.more hU_6 fun b hb h => h.elim id fun h => absurd h (by omega)
    have hU_16 : Upd (fun b => b = (w.heap.size + 2)) w1 w_6 := hUb1.trans hJ_6
    have hht_6 := hU_16.blk_some htb1 htv
    have hLt_6 := hLa7.keep (hU_6.keeps fun b _ hk e => e.elim (hoS b hk) fun e => by have := hk.2; omega)
    by_cases hlt : j < (t.at 1).l.length
    · obtain ⟨_, b, o, x, vS', vL', vU', hb, hokb, hx, hblt, hxs, hxe, q1, q2, q3, hc⟩ := TreesV.get hLt_6 hlt
      subst hb
      have hbS := (TreeC.inv hc)
      have hcat : (t.at 1).l.take (j + 1) = (t.at 1).l.take j ++ [(t.at 1).l[j]] := List.take_succ_eq_append_getElem hlt
      have hlen_9 : ((t.at 1).l.take j).length = j := by simp; omega
      have hgx := (g1.list rfl).2 _ (List.getElem_mem hlt)
      have hLx := (hLs.at 1).get hlt
      have hnb : ∀ b, b < w5.heap.size ∨ b = w_6.heap.size → ¬ ownB v b := fun b hb h => by
        have := hg.above h
        have := hg.below h
        omega
      generalize (t.at 1).l[j] = y at *
      obtain ⟨vSy, vLy, vUy, hcells, hny, hSy, hLy, hUy⟩ := hbS
      simp only [List.cons.injEq, true_and, and_true] at hcells
      obtain ⟨rfl, rfl, rfl⟩ := hcells
      obtain ⟨bSy, cSy, rfl, hcSy⟩ := hSy.shape
      repeat ((first | refine W.seqR rfl ?_ | refine W.seq ?_ | refine W.regR rfl ?_ | refine W.condK ?_ | refine W.block ?_ | refine W.skip ?_ | refine W.ret ?_ | refine W.exit ?_); try simp (maxSteps := 1000000) (disch := (first | omega | (simp only [World.size_alloc, size_wr, size_drew] <;> omega) | exact not_noB _)) only [go_sem, ↓reduceIte, n0, reduceCtorEq, n1, n2, n3, n4, n5, i0, i1, i2, i3, i4, i5, i6, i7, hI, hN, hS, hx, hxe, q1, q2, q3, cellsAt_five, Int.toNat_natCast])
      generalize hw_7 : (wr (w_6.alloc (.cells #[.int .i64 0, .slice none 0 0, .bool false, .slice none 0 0, .slice none 0 0] 39)) w_6.heap.size 0 [.int .i64 y.n, .slice bSy y.s.length cSy, .bool y.null, vL', vU']) = w_7
      have hE_7 : Ext w_6 w_7 := by rw [← hw_7]; exact (Upd.alloc (Upd.refl _ _) _).wr _ _ (.inl (Nat.le_refl _))
      have hb_7 : blk w_7 w_6.heap.size = some (#[.int .i64 y.n, .slice bSy y.s.length cSy, .bool y.null, vL', vU'], 39, (0, 0)) := by rw [← hw_7]; simp (maxSteps := 1000000) (disch := (first | omega | (simp only [World.size_alloc, size_wr, size_drew] <;> omega) | exact not_noB _)) only [go_sem, ↓reduceIte, n0, reduceCtorEq, n1, n2, n3, n4, n5, i0, i1, i2, i3, i4, i5, i6, i7]
      have hz_7 : w_7.heap.size = w_6.heap.size + 1 := by rw [← hw_7]; simp only [size_wr, World.size_alloc]
      have hbt_7 := hE_7.blk_some hbv id
      have hgv_7 := hE_7.blk_some hht_6 id
      have hc_7 := hc.keep (hE_7.keeps _)
      have hS_7 := hSy.keep (hE_7.keeps _)
      have hg_7 := hg.ext (Rep1_lay _ _ fun _ => RepS_lay true d _) hE_7
      clear hw_7
      simp (maxSteps := 1000000) (disch := (first | omega | (simp only [World.size_alloc, size_wr, size_drew] <;> omega) | exact not_noB _)) only [go_sem, ↓reduceIte, n0, reduceCtorEq, n1, n2, n3, n4, n5, i0, i1, i2, i3, i4, i5, i6, i7, hr1, hr2, hr3, hbt_7, hb_7, hgv_7, cellsAt_five]
      have hE_7d : Ext w_7 w_7 := Upd.refl _ _
      have hg_7d := hg_7
      have hzd : w_7.heap.size = w_7.heap.size := rfl
      have hbt_7d := hbt_7
      have hM_9 : Upd (ownB v) w_7 (w_7.alloc (.cells #[.int .i32 (IntKind.i32.wrap y.n)] 21)) := (Upd.refl _ _).alloc _
      have hE_79 : Ext w_7 (w_7.alloc (.cells #[.int .i32 (IntKind.i32.wrap y.n)] 21)) := Upd.alloc (Upd.refl _ _) _
      have hg_9 := hg_7d.ext (Rep1_lay _ _ fun _ => RepS_lay true d _) hE_79
      have hx_9 : Rep1 (RepS true d) fCreateTopicsRequestTopicReplicaAssignment_1.of fCreateTopicsRequestTopicReplicaAssignment_1.sub (fun b => (OkF okT w.heap.size w1.heap.size) b ∧ b ≠ (w.heap.size + 2) ∧ ¬ ownB v b) (w_7.alloc (.cells #[.int .i32 (IntKind.i32.wrap y.n)] 21)) y [.int .i32 (IntKind.i32.wrap y.n)] := (Rep1_num (by decide)).2 rfl
      obtain ⟨css, hown, hall⟩ := hg_9.ex
      have hcl_9 := hall.1
      refine wp_append ap_182_182 (m := 1) (news := [.int .i32 (IntKind.i32.wrap y.n)]) (n := css.length) (cs := css.flatten) (v := v) ?_ rfl hown.1 (all2_flat_R (Rep1_lay _ _ fun _ => RepS_lay true d _) hall) (Src.blk (fr := (0, 0)) (T := 21) (blk_alloc_new (by first | rfl | omega | (simp only [size_drew]; omega))) rfl rfl) ?_ ?_ ?_
      · simp (maxSteps := 1000000) (disch := (first | omega | (simp only [World.size_alloc, size_wr, size_drew] <;> omega) | exact not_noB _)) only [go_sem, ↓reduceIte, n0, reduceCtorEq, n1, n2, n3, n4, n5, i0, i1, i2, i3, i4, i5, i6, i7]
      · simp only [World.size_alloc, size_drew]; omega
      · omega
      intro v' w_10 ho hu hfr
      have hg_10 := GrowR.snoc (Rep1_lay _ _ fun _ => RepS_lay true d _) hown hall hx_9 hu hfr ho
      have hz_10 := hu.size
      simp only [World.size_alloc, size_drew] at hz_10
      obtain ⟨va, vc, hv', _⟩ := ho.shape
      subst hv'
      have hbt_10 := (hM_9.trans hu).blk_some hbt_7d (hnb _ (.inl hvlB1))
      have htb' : ¬ ownB (.slice va (css.length + 1) vc) (w.heap.size + 2) := fun h => by
        rcases hfr _ h with h | h
        · exact hnb _ (.inl hvlB1) h
        · simp only [World.size_alloc, size_drew] at h; omega
      simp (maxSteps := 1000000) (disch := (first | omega | (simp only [World.size_alloc, size_wr, size_drew] <;> omega) | exact not_noB _)) only [go_sem, ↓reduceIte, n0, reduceCtorEq, n1, n2, n3, n4, n5, i0, i1, i2, i3, i4, i5, i6, i7, hr1, hr2, hr3, hbt_10]
      repeat ((first | refine W.seqR rfl ?_ | refine W.seq ?_ | refine W.regR rfl ?_ | refine W.condK ?_ | refine W.block ?_ | refine W.skip ?_ | refine W.ret ?_ | refine W.exit ?_); try simp (maxSteps := 1000000) (disch := (first | omega | (simp only [World.size_alloc, size_wr, size_drew] <;> omega) | exact not_noB _)) only [go_sem, ↓reduceIte, n0, reduceCtorEq, n1, n2, n3, n4, n5, i0, i1, i2, i3, i4, i5, i6, i7, hI])
      refine ⟨⟨j + 1, .slice va (css.length + 1) vc, by omega, rfl, hN, hS, hr1, hr2, hr3, ?_, ?_, ?_, ?_⟩, ?_⟩
      · simp (maxSteps := 1000000) (disch := (first | omega | (simp only [World.size_alloc, size_wr, size_drew] <;> omega) | exact not_noB _)) only [go_sem, ↓reduceIte, n0, reduceCtorEq, n1, n2, n3, n4, n5, i0, i1, i2, i3, i4, i5, i6, i7, hbt_10]
      · rw [hcat]; exact hg_10.upd (Rep1_lay _ _ fun _ => RepS_lay true d _) ((Upd.refl _ _).wr _ _ (.inr rfl)) htb'
      · intro h; cases h
      · refine Upd.wr ?_ _ _ (.inr (.inl rfl))
        exact hU_6.more (((hE_7.mono fun _ h => h.elim).trans (hE_7d.mono fun _ h => h.elim)).trans (hM_9.trans hu)) fun b hb h => .inr (hg.above h)
      · simp only [RowKit.intOf]; omega
    · have hjl : j = (t.at 1).l.length := by omega
      subst hjl
      rw [List.take_length] at hg
      repeat ((first | refine W.seqR rfl ?_ | refine W.seq ?_ | refine W.regR rfl ?_ | refine W.condK ?_ | refine W.block ?_ | refine W.skip ?_ | refine W.ret ?_ | refine W.exit ?_); try simp (maxSteps := 1000000) (disch := (first | omega | (simp only [World.size_alloc, size_wr, size_drew] <;> omega) | exact not_noB _)) only [go_sem, ↓reduceIte, n0, reduceCtorEq, n1, n2, n3, n4, n5, i0, i1, i2, i3, i4, i5, i6, i7, hI, hN])
      exact ⟨v, hr1, hr2, hr3, hbv, hg, hnil, hU_6⟩
  · rintro ρ w8 ⟨v1, hr1, hr2, hr3, hb8, hg8, hnil1, hK8⟩
    have hV8 : Upd (fun b => b = (w.heap.size + 2)) w5 w8 := hVb1.more hK8 fun b hb h => h.elim id fun h => absurd h (by omega)
    have hU8 : Upd (fun b => b = (w.heap.size + 2)) w1 w8 := hU5.trans hV8
    have htb8 := hU8.blk_some htb1 htv
    have hvl8 : (w.heap.size + 2) < w8.heap.size := Nat.lt_of_lt_of_le hvl1 hU8.size
    have hsz8 := hU8.size
    clear hvl7 hsz7
    obtain ⟨al1, kl1, rfl, _⟩ := hg8.shape
    have hf1 : RepF (RepS true d) (szS true d) fCreateTopicsRequestTopicReplicaAssignment_1 (OkF okT w.heap.size w1.heap.size) w8 (t.at 1) [.slice al1 (t.at 1).l.length kl1] := (RepF_list rfl hn0_1).2 ⟨_, rfl, hg8.sl (Rep1_lay _ _ fun _ => RepS_lay true d _) (fun _ _ h => h) (fun b hb => .inr (by omega)), hg8.some hnil1⟩
    repeat ((first | refine W.seqR rfl ?_ | refine W.seq ?_ | refine W.regR rfl ?_ | refine W.condK ?_ | refine W.block ?_ | refine W.skip ?_ | refine W.ret ?_ | refine W.exit ?_); try simp (maxSteps := 1000000) (disch := (first | omega | (simp only [World.size_alloc, size_wr, size_drew] <;> omega) | exact not_noB _)) only [go_sem, ↓reduceIte, n0, reduceCtorEq, n1, n2, n3, n4, n5, i0, i1, i2, i3, i4, i5, i6, i7, hb8, htb8, hr1, hr2, hr3])
    have hUv := hU1v.keep (hU8.keeps fun b _ hk e => hoS b hk e)
    refine W.loop (fun ρ w' => ∃ (j : Nat) (q : Option Nat), j ≤ t.u.length ∧ ρ 43 = .int .i64 j ∧ ρ 42 = .int .i64 t.u.length ∧ ρ 41 = .slice bU t.u.length cU ∧ ρ 1 = .pointer (some ⟨w.heap.size, 0, none⟩) ∧ ρ 2 = .pointer (some ⟨w.heap.size + 1, 0, none⟩) ∧ ρ 3 = .pointer (some ⟨(w.heap.size + 2), 0, none⟩) ∧ blk w' (w.heap.size + 2) = some (#[.int .i32 (IntKind.i32.wrap (t.at 0).n), .slice al1 (t.at 1).l.length kl1, .map q], 214, (0, 0)) ∧ TagsG (OkS okT w.heap.size) w8.heap.size w' (.map q) (t.u.take j) ∧ Upd (fun b => b = (w.heap.size + 2)) w8 w')
        (fun ρ _ => t.u.length - (RowKit.intOf (ρ 43)).toNat) ?_ ?_
    · refine ⟨0, none, Nat.zero_le _, ?_, ?_, ?_, ?_, ?_, ?_, hb8, TagsG.start _ _ _, Upd.refl _ _⟩ <;> simp (maxSteps := 1000000) (disch := (first | omega | (simp only [World.size_alloc, size_wr, size_drew] <;> omega) | exact not_noB _)) only [go_sem, ↓reduceIte, n0, reduceCtorEq, n1, n2, n3, n4, n5, i0, i1, i2, i3, i4, i5, i6, i7, hr1, hr2, hr3]
      all_goals rfl
    · rintro ρ w_6 ⟨j, q, hj, hI, hN, hS, hr1, hr2, hr3, hbv, hG, hU_6⟩
      have hz_6 := hU_6.size
      have hUv_6 := hUv.keep (hU_6.keeps fun b _ hk e => hoS b hk e)
      have hU_16 : Upd (fun b => b = (w.heap.size + 2)) w1 w_6 := hU8.trans hU_6
      have hz_16 := hU_16.size
      by_cases hlt : j < t.u.length
      · obtain ⟨_, b, o, x, vv, hb, hokb, hx, hblt, hxs, hxe, _, _, hfv, hbvv, h32⟩ := TagsV.get hUv_6 hlt
        subst hb
        have hcat : t.u.take (j + 1) = t.u.take j ++ [t.u[j]] := List.take_succ_eq_append_getElem hlt
        have hnew : ∀ z ∈ t.u.take j, z.1 ≠ t.u[j].1 := by
          intro z hz
          obtain ⟨k, hk, rfl⟩ := List.getElem_of_mem hz
          simp only [List.length_take] at hk
          have := List.pairwise_iff_getElem.1 hfu.2.2 k j (by omega) hlt (by omega)
          rw [List.getElem_take]; omega
        generalize t.u[j] = y at *
        obtain ⟨bSy, cSy, rfl, hcSy⟩ := hbvv.shape
        repeat ((first | refine W.seqR rfl ?_ | refine W.seq ?_ | refine W.regR rfl ?_ | refine W.condK ?_ | refine W.block ?_ | refine W.skip ?_ | refine W.ret ?_ | refine W.exit ?_); try simp (maxSteps := 1000000) (disch := (first | omega | (simp only [World.size_alloc, size_wr, size_drew] <;> omega) | exact not_noB _)) only [go_sem, ↓reduceIte, n0, reduceCtorEq, n1, n2, n3, n4, n5, i0, i1, i2, i3, i4, i5, i6, i7, hI, hN, hS, hx, hxe, hfv, cellsAt_two, Int.toNat_natCast])
        generalize hw_7 : (wr (w_6.alloc (.cells #[.int .u32 0, .slice none 0 0] 64)) w_6.heap.size 0 [.int .u32 y.1, .slice bSy y.2.length cSy]) = w_7
        have hE_7 : Ext w_6 w_7 := by rw [← hw_7]; exact (Upd.alloc (Upd.refl _ _) _).wr _ _ (.inl (Nat.le_refl _))
        have hb_7 : blk w_7 w_6.heap.size = some (#[.int .u32 y.1, .slice bSy y.2.length cSy], 64, (0, 0)) := by rw [← hw_7]; simp (maxSteps := 1000000) (disch := (first | omega | (simp only [World.size_alloc, size_wr, size_drew] <;> omega) | exact not_noB _)) only [go_sem, ↓reduceIte, n0, reduceCtorEq, n1, n2, n3, n4, n5, i0, i1, i2, i3, i4, i5, i6, i7]
        have hz_7 : w_7.heap.size = w_6.heap.size + 1 := by rw [← hw_7]; simp only [size_wr, World.size_alloc]
        clear hw_7
        have hbt_7 := hE_7.blk_some hbv id
        simp (maxSteps := 1000000) (disch := (first | omega | (simp only [World.size_alloc, size_wr, size_drew] <;> omega) | exact not_noB _)) only [go_sem, ↓reduceIte, n0, reduceCtorEq, n1, n2, n3, n4, n5, i0, i1, i2, i3, i4, i5, i6, i7, hr1, hr2, hr3, hbt_7, hb_7, cellsAt_two]
        have hE_7d : Ext w_7 w_7 := Upd.refl _ _
        have hE_6d : Ext w_6 w_7 := hE_7.trans hE_7d
        have hG_7 : TagsG (OkS okT w.heap.size) w8.heap.size w_7 (.map q) (t.u.take j) := hG.keep fun b hb _ => hE_6d.keep b hb id
        have hbt_8 := hE_7d.blk_some hbt_7 id
        have hm_8 : (#[.int .i32 (IntKind.i32.wrap (t.at 0).n), .slice al1 (t.at 1).l.length kl1, .map q] : Array Value)[2]? = some (.map q) := rfl
        refine (TagsSet_fn (okT := (OkS okT w.heap.size)) (L := w8.heap.size) w_7 hG_7 (by have := hE_6d.size; omega) (by omega) hbt_8 (o := 2) hm_8 (thaw_00 _ _) y _ ((hbvv.weaken fun b _ hk => ⟨hk, by have := hk.2; omega⟩).keep (hE_6d.keeps _)) h32 hnew hoS).mono ?_
        rintro _ w_8 ⟨m', hb_8, hG_8, hM_8⟩
        simp only [List.setIfInBounds_toArray, List.set_cons_succ, List.set_cons_zero] at hb_8
        repeat ((first | refine W.seqR rfl ?_ | refine W.seq ?_ | refine W.regR rfl ?_ | refine W.condK ?_ | refine W.block ?_ | refine W.skip ?_ | refine W.ret ?_ | refine W.exit ?_); try simp (maxSteps := 1000000) (disch := (first | omega | (simp only [World.size_alloc, size_wr, size_drew] <;> omega) | exact not_noB _)) only [go_sem, ↓reduceIte, n0, reduceCtorEq, n1, n2, n3, n4, n5, i0, i1, i2, i3, i4, i5, i6, i7, hI])
        refine ⟨⟨j + 1, m', by omega, rfl, hN, hS, hr1, hr2, hr3, hb_8, by rw [hcat]; exact hG_8, ?_⟩, ?_⟩
        · exact hU_6.more ((hE_6d.mono fun _ h => h.elim).trans hM_8) fun b hb h => by
            rcases h with h | h
            · exact h
            · cases h; have := (hG.lt rfl).2; omega
        · simp only [RowKit.intOf]; omega
      · have hjl : j = t.u.length := by omega
        subst hjl
        rw [List.take_length] at hG
        have hT5 : Upd (fun b => b = (w.heap.size + 2)) w5 w_6 := hV8.trans hU_6
        have hT4 : Upd (fun b => b = (w.heap.size + 2)) w4 w_6 := hV5.trans hT5
        have hT3 : Upd (fun b => b = (w.heap.size + 2)) w3 w_6 := hV4.trans hT4
        have hT2 : Upd (fun b => b = (w.heap.size + 2)) w2 w_6 := hV3.trans hT3
        have hT1 : Upd (fun b => b = (w.heap.size + 2)) w1 w_6 := hV2.trans hT2
        have hz0_f := hf0.keepS (hT3.keeps fun b _ hk e => hoF b hk e)
        have hz1_f := hf1.keepS (hU_6.keeps fun b _ hk e => hoF b hk e)
        have hTg := hG.tags (ok' := (OkF okT w.heap.size w1.heap.size)) (fun b _ hk => .inl hk) (fun b hb => .inr (by omega))
        have hL : RepL (RepS true d) (szS true d) (OkF okT w.heap.size w1.heap.size) w_6 t [fCreateTopicsRequestTopicReplicaAssignment_0, fCreateTopicsRequestTopicReplicaAssignment_1] 0 [.int .i32 (IntKind.i32.wrap (t.at 0).n), .slice al1 (t.at 1).l.length kl1] := (RepL.cons1 hz0_f (RepL.cons1 hz1_f RepL.nil))
        have hR : RepS true (d + 1) fs_CreateTopicsRequestTopicReplicaAssignment (OkF okT w.heap.size w1.heap.size) w_6 t [.int .i32 (IntKind.i32.wrap (t.at 0).n), .slice al1 (t.at 1).l.length kl1, .map q] := RepS.intro (c := [.int .i32 (IntKind.i32.wrap (t.at 0).n), .slice al1 (t.at 1).l.length kl1]) rfl hL hTg
        have hcA : cellsAt #[.int .i32 (IntKind.i32.wrap (t.at 0).n), .slice al1 (t.at 1).l.length kl1, .map q] 0 3 = some (.agg #[.int .i32 (IntKind.i32.wrap (t.at 0).n), .slice al1 (t.at 1).l.length kl1, .map q]) := cellsAt_full rfl
        have hrb_6 := hT1.blk_some hrb1 (by omega)
        repeat ((first | refine W.seqR rfl ?_ | refine W.seq ?_ | refine W.regR rfl ?_ | refine W.condK ?_ | refine W.block ?_ | refine W.skip ?_ | refine W.ret ?_ | refine W.exit ?_); try simp (maxSteps := 1000000) (disch := (first | omega | (simp only [World.size_alloc, size_wr, size_drew] <;> omega) | exact not_noB _)) only [go_sem, ↓reduceIte, n0, reduceCtorEq, n1, n2, n3, n4, n5, i0, i1, i2, i3, i4, i5, i6, i7, hI, hN, hr1, hr2, hr3, hbv, hrb_6, hcA])
        have hUr : Upd (fun b => b = w.heap.size + 1) w_6 (wr w_6 (w.heap.size + 1) 0 [.int .i32 (IntKind.i32.wrap (t.at 0).n), .slice al1 (t.at 1).l.length kl1, .map q]) := (Upd.refl _ _).wr _ _ (.inr rfl)
        refine ⟨⟨_, rfl, (RepS_lay true (d + 1) fs_CreateTopicsRequestTopicReplicaAssignment).weaken ((RepS_lay true (d + 1) fs_CreateTopicsRequestTopicReplicaAssignment).keep hR (hUr.keeps fun b _ hk e => hoR b hk e)) (fun b _ hk => hk.imp And.left fun h => by omega)⟩, ?_⟩
        exact (hE1.more hT1 fun b hb h => by omega).wr _ _ (.inl (by omega))

set_option maxHeartbeats 2000000 in
theorem makeCreateTopicsRequestTopicConfig_fn {d : Nat} {okT : Blocks} {V : Int} (t : Tree) (ct : List Value) (w : World) (ht : TreeC okT w t ct) (hfit : FitP V (d + 1) fs_CreateTopicsRequestTopicConfig t) (hLs : Lists t) :
    Fn Try.prog 184 #[.agg ct.toArray] w fun r w' => (∃ cs, r = .agg cs.toArray ∧ RepS true (d + 1) fs_CreateTopicsRequestTopicConfig (okN okT w.heap.size) w' t cs) ∧ Ext w w' := by
  obtain ⟨vS, vL, vU, rfl, hn, hSx, hLx0, hUx⟩ := ht.inv
  obtain ⟨bS, cS, rfl, hcS⟩ := hSx.shape
  obtain ⟨bL, cL, rfl, hcL⟩ := SlR.shape hLx0
  obtain ⟨bU, cU, rfl, hcU⟩ := SlR.shape hUx
  obtain ⟨⟨g0, g1, -⟩, hfu⟩ := hfit
  replace g0 : FitF (FitP V d) V fCreateTopicsRequestTopicConfig_0 (t.at 0) := g0
  replace g1 : FitF (FitP V d) V fCreateTopicsRequestTopicConfig_1 (t.at 1) := g1
  have hllt : t.l.length < 4611686018427387903 := Nat.lt_of_le_of_lt hLs.len (by decide)
  have hul := hLs.ulen
  refine fn_of_W Try.func184 rfl Try.results184 Try.ntmps184 rfl ?_
  obtain ⟨w1, hw1⟩ : ∃ w1, w1 = (((w.alloc (.cells #[.int .i64 t.n, .slice bS t.s.length cS, .bool t.null, .slice bL t.l.length cL, .slice bU t.u.length cU] 39)).alloc (.cells #[.string ByteArray.empty, .pointer none, .map none] 217)).alloc (.cells #[.string ByteArray.empty, .pointer none, .map none] 217)) := ⟨_, rfl⟩
  have hE1 : Ext w w1 := by rw [hw1]; exact ((Upd.refl _ _).alloc _).alloc _ |>.alloc _
  have hz1 : w1.heap.size = w.heap.size + 3 := by rw [hw1]; simp only [World.size_alloc]
  have htb1 : blk w1 w.heap.size = some (#[.int .i64 t.n, .slice bS t.s.length cS, .bool t.null, .slice bL t.l.length cL, .slice bU t.u.length cU], 39, (0, 0)) := by rw [hw1]; simp (maxSteps := 1000000) (disch := (first | omega | (simp only [World.size_alloc, size_wr, size_drew] <;> omega) | exact not_noB _)) only [go_sem, ↓reduceIte, n0, reduceCtorEq, n1, n2, n3, n4, n5, i0, i1, i2, i3, i4, i5, i6, i7]
  have hrb1 : blk w1 (w.heap.size + 1) = some (#[.string ByteArray.empty, .pointer none, .map none], 217, (0, 0)) := by rw [hw1]; simp (maxSteps := 1000000) (disch := (first | omega | (simp only [World.size_alloc, size_wr, size_drew] <;> omega) | exact not_noB _)) only [go_sem, ↓reduceIte, n0, reduceCtorEq, n1, n2, n3, n4, n5, i0, i1, i2, i3, i4, i5, i6, i7]
  have hb1 : blk w1 (w.heap.size + 2) = some (#[.string ByteArray.empty, .pointer none, .map none], 217, (0, 0)) := by rw [hw1]; simp (maxSteps := 1000000) (disch := (first | omega | (simp only [World.size_alloc, size_wr, size_drew] <;> omega) | exact not_noB _)) only [go_sem, ↓reduceIte, n0, reduceCtorEq, n1, n2, n3, n4, n5, i0, i1, i2, i3, i4, i5, i6, i7]
  have hoS : ∀ b, (OkS okT w.heap.size) b → b ≠ (w.heap.size + 2) := fun b h => by have := h.2; omega
  have hoR : ∀ b, (OkF okT w.heap.size w1.heap.size) b → b ≠ w.heap.size + 1 := fun b h => by
    rcases h with h | h
    · have := h.2; omega
    · omega
  have htv : ¬ w.heap.size = (w.heap.size + 2) := by omega
  have hoF : ∀ b, (OkF okT w.heap.size w1.heap.size) b → b ≠ (w.heap.size + 2) := fun b h => by
    rcases h with h | h
    · exact hoS b h
    · omega
  have hU1 : Upd (fun b => b = (w.heap.size + 2)) w1 w1 := Upd.refl _ _
  have hvl1 := blk_lt hb1
  have hsz1 := Nat.le_refl w1.heap.size
  have ht1 : TreeC (OkS okT w.heap.size) w1 t [.int .i64 t.n, .slice bS t.s.length cS, .bool t.null, .slice bL t.l.length cL, .slice bU t.u.length cU] := (ht.weaken fun b h1 h2 => ⟨h2, h1⟩).keep (hE1.keeps _)
  have hU1v : TagsV (OkS okT w.heap.size) w1 (.slice bU t.u.length cU) t.u := (hUx.weaken fun b h1 h2 => ⟨h2, h1⟩).keep (hE1.keeps _)
  repeat ((first | refine W.seqR rfl ?_ | refine W.seq ?_ | refine W.regR rfl ?_ | refine W.condK ?_ | refine W.block ?_ | refine W.skip ?_ | refine W.ret ?_ | refine W.exit ?_); try simp (maxSteps := 1000000) (disch := (first | omega | (simp only [World.size_alloc, size_wr, size_drew] <;> omega) | exact not_noB _)) only [go_sem, ↓reduceIte, n0, reduceCtorEq, n1, n2, n3, n4, n5, i0, i1, i2, i3, i4, i5, i6, i7])
  rw [← hw1]
  clear hw1
  refine (iat_fn (ok := (OkS okT w.heap.size)) t 0 _ _ (ht1.keep (hU1.keeps fun b _ hk e => hoS b hk e)) (by decide) hllt).mono ?_
  rintro r2 w2 ⟨⟨ca2, rfl, hca2⟩, hEa2⟩
  obtain ⟨vSa2, vLa2, vUa2, rfl, hna2, hSa2, hLa2, hUa2⟩ := hca2.inv
  obtain ⟨bSa2, cSa2, rfl, hcSa2⟩ := hSa2.shape
  obtain ⟨bLa2, cLa2, rfl, hcLa2⟩ := SlR.shape hLa2
  have hfU2 := SlR.flat hUa2
  clear hcSa2 hcLa2 hna2
  have hV2 : Upd (fun b => b = (w.heap.size + 2)) w1 w2 := hEa2.mono fun _ h => h.elim
  have hU2 : Upd (fun b => b = (w.heap.size + 2)) w1 w2 := hU1.trans hV2
  have htb2 := hU2.blk_some htb1 htv
  have hvl2 : (w.heap.size + 2) < w2.heap.size := Nat.lt_of_lt_of_le hvl1 hU2.size
  have hsz2 := hU2.size
  have hb2 : blk w2 (w.heap.size + 2) = some (#[.string ByteArray.empty, .pointer none, .map none], 217, (0, 0)) := hEa2.blk_some hb1 id
  simp (maxSteps := 1000000) (disch := (first | omega | (simp only [World.size_alloc, size_wr, size_drew] <;> omega) | exact not_noB _)) only [go_sem, ↓reduceIte, n0, reduceCtorEq, n1, n2, n3, n4, n5, i0, i1, i2, i3, i4, i5, i6, i7, hb2, htb2]
  refine wp_string (S := 22) (T := 9) (E := 5) (s := (t.at 0).s) (ok := (OkS okT w.heap.size)) (by kernel_rfl) (by kernel_rfl) (by kernel_rfl) (by simp (maxSteps := 1000000) (disch := (first | omega | (simp only [World.size_alloc, size_wr, size_drew] <;> omega) | exact not_noB _)) only [go_sem, ↓reduceIte, n0, reduceCtorEq, n1, n2, n3, n4, n5, i0, i1, i2, i3, i4, i5, i6, i7]; exact hSa2) ?_
  simp (maxSteps := 1000000) (disch := (first | omega | (simp only [World.size_alloc, size_wr, size_drew] <;> omega) | exact not_noB _)) only [go_sem, ↓reduceIte, n0, reduceCtorEq, n1, n2, n3, n4, n5, i0, i1, i2, i3, i4, i5, i6, i7, hb2, htb2]
  generalize hw3 : wr w2 (w.heap.size + 2) 0 [strV (t.at 0).s] = w3
  have hV3 : Upd (fun b => b = (w.heap.size + 2)) w2 w3 := by rw [← hw3]; exact (Upd.refl _ _).wr _ _ (.inr rfl)
  have hb3 : blk w3 (w.heap.size + 2) = some (#[strV (t.at 0).s, .pointer none, .map none], 217, (0, 0)) := by rw [← hw3, blk_wr_eq, hb2]; rfl
  have hU3 : Upd (fun b => b = (w.heap.size + 2)) w1 w3 := hU2.trans hV3
  have htb3 := hU3.blk_some htb1 htv
  have hvl3 : (w.heap.size + 2) < w3.heap.size := Nat.lt_of_lt_of_le hvl1 hU3.size
  have hsz3 := hU3.size
  clear hvl2 hsz2
  clear hw3
  have hf0 : RepF (RepS true d) (szS true d) fCreateTopicsRequestTopicConfig_0 (OkF okT w.heap.size w1.heap.size) w3 (t.at 0) [strV (t.at 0).s] := (RepF_text rfl (by decide)).2 rfl
  repeat ((first | refine W.seqR rfl ?_ | refine W.seq ?_ | refine W.regR rfl ?_ | refine W.condK ?_ | refine W.block ?_ | refine W.skip ?_ | refine W.ret ?_ | refine W.exit ?_); try simp (maxSteps := 1000000) (disch := (first | omega | (simp only [World.size_alloc, size_wr, size_drew] <;> omega) | exact not_noB _)) only [go_sem, ↓reduceIte, n0, reduceCtorEq, n1, n2, n3, n4, n5, i0, i1, i2, i3, i4, i5, i6, i7, hb3, htb3])
  refine (iat_fn (ok := (OkS okT w.heap.size)) t 1 _ _ (ht1.keep (hU3.keeps fun b _ hk e => hoS b hk e)) (by decide) hllt).mono ?_
  rintro r4 w4 ⟨⟨ca4, rfl, hca4⟩, hEa4⟩
  obtain ⟨vSa4, vLa4, vUa4, rfl, hna4, hSa4, hLa4, hUa4⟩ := hca4.inv
  obtain ⟨bSa4, cSa4, rfl, hcSa4⟩ := hSa4.shape
  obtain ⟨bLa4, cLa4, rfl, hcLa4⟩ := SlR.shape hLa4
  have hfU4 := SlR.flat hUa4
  clear hcSa4 hcLa4 hna4
  have hV4 : Upd (fun b => b = (w.heap.size + 2)) w3 w4 := hEa4.mono fun _ h => h.elim
  have hU4 : Upd (fun b => b = (w.heap.size + 2)) w1 w4 := hU3.trans hV4
  have htb4 := hU4.blk_some htb1 htv
  have hvl4 : (w.heap.size + 2) < w4.heap.size := Nat.lt_of_lt_of_le hvl1 hU4.size
  have hsz4 := hU4.size
  clear hvl3 hsz3
  have hb4 : blk w4 (w.heap.size + 2) = some (#[strV (t.at 0).s, .pointer none, .map none], 217, (0, 0)) := hEa4.blk_some hb3 id
  simp (maxSteps := 1000000) (disch := (first | omega | (simp only [World.size_alloc, size_wr, size_drew] <;> omega) | exact not_noB _)) only [go_sem, ↓reduceIte, n0, reduceCtorEq, n1, n2, n3, n4, n5, i0, i1, i2, i3, i4, i5, i6, i7, hb4, htb4]
  refine (textOf_fn (okT := (OkS okT w.heap.size)) (t.at 1) _ _ hca4).mono ?_
  rintro r5 w5 ⟨hp5, hEa5⟩
  have hsp5 := hsz4
  have hV5 : Upd (fun b => b = (w.heap.size + 2)) w4 w5 := hEa5.mono fun _ h => h.elim
  have hU5 : Upd (fun b => b = (w.heap.size + 2)) w1 w5 := hU4.trans hV5
  have htb5 := hU5.blk_some htb1 htv
  have hvl5 : (w.heap.size + 2) < w5.heap.size := Nat.lt_of_lt_of_le hvl1 hU5.size
  have hsz5 := hU5.size
  clear hvl4 hsz4
  have hb5 : blk w5 (w.heap.size + 2) = some (#[strV (t.at 0).s, .pointer none, .map none], 217, (0, 0)) := hEa5.blk_some hb4 id
  obtain ⟨ap1, rfl⟩ := hp5.shape
  simp (maxSteps := 1000000) (disch := (first | omega | (simp only [World.size_alloc, size_wr, size_drew] <;> omega) | exact not_noB _)) only [go_sem, ↓reduceIte, n0, reduceCtorEq, n1, n2, n3, n4, n5, i0, i1, i2, i3, i4, i5, i6, i7, hb5, htb5]
  generalize hw6 : wr w5 (w.heap.size + 2) 1 [.pointer ap1] = w6
  have hV6 : Upd (fun b => b = (w.heap.size + 2)) w5 w6 := by rw [← hw6]; exact (Upd.refl _ _).wr _ _ (.inr rfl)
  have hb6 : blk w6 (w.heap.size + 2) = some (#[strV (t.at 0).s, .pointer ap1, .map none], 217, (0, 0)) := by rw [← hw6, blk_wr_eq, hb5]; rfl
  have hU6 : Upd (fun b => b = (w.heap.size + 2)) w1 w6 := hU5.trans hV6
  have htb6 := hU6.blk_some htb1 htv
  have hvl6 : (w.heap.size + 2) < w6.heap.size := Nat.lt_of_lt_of_le hvl1 hU6.size
  have hsz6 := hU6.size
  clear hvl5 hsz5
  clear hw6
  have hf1 : RepF (RepS true d) (szS true d) fCreateTopicsRequestTopicConfig_1 (OkF okT w.heap.size w1.heap.size) w6 (t.at 1) [.pointer ap1] := (RepF_ptr rfl (by decide)).2 ⟨_, rfl, (hp5.weaken fun b _ hk => .inr (Nat.le_trans hsp5 hk)).keep (hV6.keeps fun b _ hk e => hoF b hk e)⟩
  repeat ((first | refine W.seqR rfl ?_ | refine W.seq ?_ | refine W.regR rfl ?_ | refine W.condK ?_ | refine W.block ?_ | refine W.skip ?_ | refine W.ret ?_ | refine W.exit ?_); try simp (maxSteps := 1000000) (disch := (first | omega | (simp only [World.size_alloc, size_wr, size_drew] <;> omega) | exact not_noB _)) only [go_sem, ↓reduceIte, n0, reduceCtorEq, n1, n2, n3, n4, n5, i0, i1, i2, i3, i4, i5, i6, i7, hb6, htb6])
  have hUv := hU1v.keep (hU6.keeps fun b _ hk e => hoS b hk e)
  refine W.loop (fun ρ w' => ∃ (j : Nat) (q : Option Nat), j ≤ t.u.length ∧ ρ 18 = .int .i64 j ∧ ρ 17 = .int .i64 t.u.length ∧ ρ 16 = .slice bU t.u.length cU ∧ ρ 1 = .pointer (some ⟨w.heap.size, 0, none⟩) ∧ ρ 2 = .pointer (some ⟨w.heap.size + 1, 0, none⟩) ∧ ρ 3 = .pointer (some ⟨(w.heap.size + 2), 0, none⟩) ∧ blk w' (w.heap.size + 2) = some (#[strV (t.at 0).s, .pointer ap1, .map q], 217, (0, 0)) ∧ TagsG (OkS okT w.heap.size) w6.heap.size w' (.map q) (t.u.take j) ∧ Upd (fun b => b = (w.heap.size + 2)) w6 w')
      (fun ρ _ => t.u.length - (RowKit.intOf (ρ 18)).toNat) ?_ ?_
  · refine ⟨0, none, Nat.zero_le _, ?_, ?_, ?_, ?_, ?_, ?_, hb6, TagsG.start _ _ _, Upd.refl _ _⟩ <;> simp (maxSteps := 1000000) (disch := (first | omega | (simp only [World.size_alloc, size_wr, size_drew] <;> omega) | exact not_noB _)) only [go_sem, ↓reduceIte, n0, reduceCtorEq, n1, n2, n3, n4, n5, i0, i1, i2, i3, i4, i5, i6, i7]
    all_goals rfl
  · rintro ρ w_6 ⟨j, q, hj, hI, hN, hS, hr1, hr2, hr3, hbv, hG, hU_6⟩
    have hz_6 := hU_6.size
    have hUv_6 := hUv.keep (hU_6.keeps fun b _ hk e => hoS b hk e)
    have hU_16 : Upd (fun b => b = (w.heap.size + 2)) w1 w_6 := hU6.trans hU_6
    have hz_16 := hU_16.size
    by_cases hlt : j < t.u.length
    · obtain ⟨_, b, o, x, vv, hb, hokb, hx, hblt, hxs, hxe, _, _, hfv, hbvv, h32⟩ := TagsV.get hUv_6 hlt
      subst hb
      have hcat : t.u.take (j + 1) = t.u.take j ++ [t.u[j]] := List.take_succ_eq_append_getElem hlt
      have hnew : ∀ z ∈ t.u.take j, z.1 ≠ t.u[j].1 := by
        intro z hz
        obtain ⟨k, hk, rfl⟩ := List.getElem_of_mem hz
        simp only [List.length_take] at hk
        have := List.pairwise_iff_getElem.1 hfu.2.2 k j (by omega) hlt (by omega)
        rw [List.getElem_take]; omega
      generalize t.u[j] = y at *
      obtain ⟨bSy, cSy, rfl, hcSy⟩ := hbvv.shape
      repeat ((first | refine W.seqR rfl ?_ | refine W.seq ?_ | refine W.regR rfl ?_ | refine W.condK ?_ | refine W.block ?_ | refine W.skip ?_ | refine W.ret ?_ | refine W.exit ?_); try simp (maxSteps := 1000000) (disch := (first | omega | (simp only [World.size_alloc, size_wr, size_drew] <;> omega) | exact not_noB _)) only [go_sem, ↓reduceIte, n0, reduceCtorEq, n1, n2, n3, n4, n5, i0, i1, i2, i3, i4, i5, i6, i7, hI, hN, hS, hx, hxe, hfv, cellsAt_two, Int.toNat_natCast])
      generalize hw_7 : (wr (w_6.alloc (.cells #[.int .u32 0, .slice none 0 0] 64)) w_6.heap.size 0 [.int .u32 y.1, .slice bSy y.2.length cSy]) = w_7
      have hE_7 : Ext w_6 w_7 := by rw [← hw_7]; exact (Upd.alloc (Upd.refl _ _) _).wr _ _ (.inl (Nat.le_refl _))
      have hb_7 : blk w_7 w_6.heap.size = some (#[.int .u32 y.1, .slice bSy y.2.length cSy], 64, (0, 0)) := by rw [← hw_7]; simp (maxSteps := 1000000) (disch := (first | omega | (simp only [World.size_alloc, size_wr, size_drew] <;> omega) | exact not_noB _)) only [go_sem, ↓reduceIte, n0, reduceCtorEq, n1, n2, n3, n4, n5, i0, i1, i2, i3, i4, i5, i6, i7]
      have hz_7 : w_7.heap.size = w_6.heap.size + 1 := by rw [← hw_7]; simp only [size_wr, World.size_alloc]
      clear hw_7
      have hbt_7 := hE_7.blk_some hbv id
      simp (maxSteps := 1000000) (disch := (first | omega | (simp only [World.size_alloc, size_wr, size_drew] <;> omega) | exact not_noB _)) only [go_sem, ↓reduceIte, n0, reduceCtorEq, n1, n2, n3, n4, n5, i0, i1, i2, i3, i4, i5, i6, i7, hr1, hr2, hr3, hbt_7, hb_7, cellsAt_two]
      have hE_7d : Ext w_7 w_7 := Upd.refl _ _
      have hE_6d : Ext w_6 w_7 := hE_7.trans hE_7d
      have hG_7 : TagsG (OkS okT w.heap.size) w6.heap.size w_7 (.map q) (t.u.take j) := hG.keep fun b hb _ => hE_6d.keep b hb id
      have hbt_8 := hE_7d.blk_some hbt_7 id
      have hm_8 : (#[strV (t.at 0).s, .pointer ap1, .map q] : Array Value)[2]? = some (.map q) := rfl
      refine (TagsSet_fn (okT := (OkS okT w.heap.size)) (L := w6.heap.size) w_7 hG_7 (by have := hE_6d.size; omega) (by omega) hbt_8 (o := 2) hm_8 (thaw_00 _ _) y _ ((hbvv.weaken fun b _ hk => ⟨hk, by have := hk.2; omega⟩).keep (hE_6d.keeps _)) h32 hnew hoS).mono ?_
      rintro _ w_8 ⟨m', hb_8, hG_8, hM_8⟩
      simp only [List.setIfInBounds_toArray, List.set_cons_succ, List.set_cons_zero] at hb_8
      repeat ((first | refine W.seqR rfl ?_ | refine W.seq ?_ | refine W.regR rfl ?_ | refine W.condK ?_ | refine W.block ?_ | refine W.skip ?_ | refine W.ret ?_ | refine W.exit ?_); try simp (maxSteps := 1000000) (disch := (first | omega | (simp only [World.size_alloc, size_wr, size_drew] <;> omega) | exact not_noB _)) only [go_sem, ↓reduceIte, n0, reduceCtorEq, n1, n2, n3, n4, n5, i0, i1, i2, i3, i4, i5, i6, i7, hI])
      refine ⟨⟨j + 1, m', by omega, rfl, hN, hS, hr1, hr2, hr3, hb_8, by rw [hcat]; exact hG_8, ?_⟩, ?_⟩
      · exact hU_6.more ((hE_6d.mono fun _ h => h.elim).trans hM_8) fun b hb h => by
          rcases h with h | h
          · exact h
          · cases h; have := (hG.lt rfl).2; omega
      · simp only [RowKit.intOf]; omega
    · have hjl : j = t.u.length := by omega
      subst hjl
      rw [List.take_length] at hG
      have hT5 : Upd (fun b => b = (w.heap.size + 2)) w5 w_6 := hV6.trans hU_6
      have hT4 : Upd (fun b => b = (w.heap.size + 2)) w4 w_6 := hV5.trans hT5
      have hT3 : Upd (fun b => b = (w.heap.size + 2)) w3 w_6 := hV4.trans hT4
      have hT2 : Upd (fun b => b = (w.heap.size + 2)) w2 w_6 := hV3.trans hT3
      have hT1 : Upd (fun b => b = (w.heap.size + 2)) w1 w_6 := hV2.trans hT2
      have hz0_f := hf0.keepS (hT3.keeps fun b _ hk e => hoF b hk e)
      have hz1_f := hf1.keepS (hU_6.keeps fun b _ hk e => hoF b hk e)
      have hTg := hG.tags (ok' := (OkF okT w.heap.size w1.heap.size)) (fun b _ hk => .inl hk) (fun b hb => .inr (by omega))
      have hL : RepL (RepS true d) (szS true d) (OkF okT w.heap.size w1.heap.size) w_6 t [fCreateTopicsRequestTopicConfig_0, fCreateTopicsRequestTopicConfig_1] 0 [strV (t.at 0).s, .pointer ap1] := (RepL.cons1 hz0_f (RepL.cons1 hz1_f RepL.nil))
      have hR : RepS true (d + 1) fs_CreateTopicsRequestTopicConfig (OkF okT w.heap.size w1.heap.size) w_6 t [strV (t.at 0).s, .pointer ap1, .map q] := RepS.intro (c := [strV (t.at 0).s, .pointer ap1]) rfl hL hTg
      have hcA : cellsAt #[strV (t.at 0).s, .pointer ap1, .map q] 0 3 = some (.agg #[strV (t.at 0).s, .pointer ap1, .map q]) := cellsAt_full rfl
      have hrb_6 := hT1.blk_some hrb1 (by omega)
      repeat ((first | refine W.seqR rfl ?_ | refine W.seq ?_ | refine W.regR rfl ?_ | refine W.condK ?_ | refine W.block ?_ | refine W.skip ?_ | refine W.ret ?_ | refine W.exit ?_); try simp (maxSteps := 1000000) (disch := (first | omega | (simp only [World.size_alloc, size_wr, size_drew] <;> omega) | exact not_noB _)) only [go_sem, ↓reduceIte, n0, reduceCtorEq, n1, n2, n3, n4, n5, i0, i1, i2, i3, i4, i5, i6, i7, hI, hN, hr1, hr2, hr3, hbv, hrb_6, hcA])
      have hUr : Upd (fun b => b = w.heap.size + 1) w_6 (wr w_6 (w.heap.size + 1) 0 [strV (t.at 0).s, .pointer ap1, .map q]) := (Upd.refl _ _).wr _ _ (.inr rfl)
      refine ⟨⟨_, rfl, (RepS_lay true (d + 1) fs_CreateTopicsRequestTopicConfig).weaken ((RepS_lay true (d + 1) fs_CreateTopicsRequestTopicConfig).keep hR (hUr.keeps fun b _ hk e => hoR b hk e)) (fun b _ hk => hk.imp And.left fun h => by omega)⟩, ?_⟩
      exact (hE1.more hT1 fun b hb h => by omega).wr _ _ (.inl (by omega))

set_option maxHeartbeats 2000000 in
theorem makeCreateTopicsRequestTopic_fn {d : Nat} {okT : Blocks} {V : Int} (t : Tree) (ct : List Value) (w : World) (ht : TreeC okT w t ct) (hfit : FitP V (d + 2) fs_CreateTopicsRequestTopic t) (hLs : Lists t) :
    Fn Try.prog 168 #[.agg ct.toArray] w fun r w' => (∃ cs, r = .agg cs.toArray ∧ RepS true (d + 2) fs_CreateTopicsRequestTopic (okN okT w.heap.size) w' t cs) ∧ Ext w w' := by
  obtain ⟨vS, vL, vU, rfl, hn, hSx, hLx0, hUx⟩ := ht.inv
  obtain ⟨bS, cS, rfl, hcS⟩ := hSx.shape
  obtain ⟨bL, cL, rfl, hcL⟩ := SlR.shape hLx0
  obtain ⟨bU, cU, rfl, hcU⟩ := SlR.shape hUx
  obtain ⟨⟨g0, g1, g2, g3, g4, -⟩, hfu⟩ := hfit
  replace g0 : FitF (FitP V (d + 1)) V fCreateTopicsRequestTopic_0 (t.at 0) := g0
  replace g1 : FitF (FitP V (d + 1)) V fCreateTopicsRequestTopic_1 (t.at 1) := g1
  replace g2 : FitF (FitP V (d + 1)) V fCreateTopicsRequestTopic_2 (t.at 2) := g2
  replace g3 : FitF (FitP V (d + 1)) V fCreateTopicsRequestTopic_3 (t.at 3) := g3
  replace g4 : FitF (FitP V (d + 1)) V fCreateTopicsRequestTopic_4 (t.at 4) := g4
  have hllt : t.l.length < 4611686018427387903 := Nat.lt_of_le_of_lt hLs.len (by decide)
  have hul := hLs.ulen
  refine fn_of_W Try.func168 rfl Try.results168 Try.ntmps168 rfl ?_
  obtain ⟨w1, hw1⟩ : ∃ w1, w1 = (((w.alloc (.cells #[.int .i64 t.n, .slice bS t.s.length cS, .bool t.null, .slice bL t.l.length cL, .slice bU t.u.length cU] 39)).alloc (.cells #[.string ByteArray.empty, .int .i32 0, .int .i16 0, .slice none 0 0, .slice none 0 0, .map none] 209)).alloc (.cells #[.string ByteArray.empty, .int .i32 0, .int .i16 0, .slice none 0 0, .slice none 0 0, .map none] 209)) := ⟨_, rfl⟩
  have hE1 : Ext w w1 := by rw [hw1]; exact ((Upd.refl _ _).alloc _).alloc _ |>.alloc _
  have hz1 : w1.heap.size = w.heap.size + 3 := by rw [hw1]; simp only [World.size_alloc]
  have htb1 : blk w1 w.heap.size = some (#[.int .i64 t.n, .slice bS t.s.length cS, .bool t.null, .slice bL t.l.length cL, .slice bU t.u.length cU], 39, (0, 0)) := by rw [hw1]; simp (maxSteps := 1000000) (disch := (first | omega | (simp only [World.size_alloc, size_wr, size_drew] <;> omega) | exact not_noB _)) only [go_sem, ↓reduceIte, n0, reduceCtorEq, n1, n2, n3, n4, n5, i0, i1, i2, i3, i4, i5, i6, i7]
  have hrb1 : blk w1 (w.heap.size + 1) = some (#[.string ByteArray.empty, .int .i32 0, .int .i16 0, .slice none 0 0, .slice none 0 0, .map none], 209, (0, 0)) := by rw [hw1]; simp (maxSteps := 1000000) (disch := (first | omega | (simp only [World.size_alloc, size_wr, size_drew] <;> omega) | exact not_noB _)) only [go_sem, ↓reduceIte, n0, reduceCtorEq, n1, n2, n3, n4, n5, i0, i1, i2, i3, i4, i5, i6, i7]
  have hb1 : blk w1 (w.heap.size + 2) = some (#[.string ByteArray.empty, .int .i32 0, .int .i16 0, .slice none 0 0, .slice none 0 0, .map none], 209, (0, 0)) := by rw [hw1]; simp (maxSteps := 1000000) (disch := (first | omega | (simp only [World.size_alloc, size_wr, size_drew] <;> omega) | exact not_noB _)) only [go_sem, ↓reduceIte, n0, reduceCtorEq, n1, n2, n3, n4, n5, i0, i1, i2, i3, i4, i5, i6, i7]
  have hoS : ∀ b, (OkS okT w.heap.size) b → b ≠ (w.heap.size + 2) := fun b h => by have := h.2; omega
  have hoR : ∀ b, (OkF okT w.heap.size w1.heap.size) b → b ≠ w.heap.size + 1 := fun b h => by
    rcases h with h | h
    · have := h.2; omega
    · omega
  have htv : ¬ w.heap.size = (w.heap.size + 2) := by omega
  have hoF : ∀ b, (OkF okT w.heap.size w1.heap.size) b → b ≠ (w.heap.size + 2) := fun b h => by
    rcases h with h | h
    · exact hoS b h
    · omega
  have hU1 : Upd (fun b => b = (w.heap.size + 2)) w1 w1 := Upd.refl _ _
  have hvl1 := blk_lt hb1
  have hsz1 := Nat.le_refl w1.heap.size
  have ht1 : TreeC (OkS okT w.heap.size) w1 t [.int .i64 t.n, .slice bS t.s.length cS, .bool t.null, .slice bL t.l.length cL, .slice bU t.u.length cU] := (ht.weaken fun b h1 h2 => ⟨h2, h1⟩).keep (hE1.keeps _)
  have hU1v : TagsV (OkS okT w.heap.size) w1 (.slice bU t.u.length cU) t.u := (hUx.weaken fun b h1 h2 => ⟨h2, h1⟩).keep (hE1.keeps _)
  repeat ((first | refine W.seqR rfl ?_ | refine W.seq ?_ | refine W.regR rfl ?_ | refine W.condK ?_ | refine W.block ?_ | refine W.skip ?_ | refine W.ret ?_ | refine W.exit ?_); try simp (maxSteps := 1000000) (disch := (first | omega | (simp only [World.size_alloc, size_wr, size_drew] <;> omega) | exact not_noB _)) only [go_sem, ↓reduceIte, n0, reduceCtorEq, n1, n2, n3, n4, n5, i0, i1, i2, i3, i4, i5, i6, i7])
  rw [← hw1]
  clear hw1
  refine (iat_fn (ok := (OkS okT w.heap.size)) t 0 _ _ (ht1.keep (hU1.keeps fun b _ hk e => hoS b hk e)) (by decide) hllt).mono ?_
  rintro r2 w2 ⟨⟨ca2, rfl, hca2⟩, hEa2⟩
  obtain ⟨vSa2, vLa2, vUa2, rfl, hna2, hSa2, hLa2, hUa2⟩ := hca2.inv
  obtain ⟨bSa2, cSa2, rfl, hcSa2⟩ := hSa2.shape
  obtain ⟨bLa2, cLa2, rfl, hcLa2⟩ := SlR.shape hLa2
  have hfU2 := SlR.flat hUa2
  clear hcSa2 hcLa2 hna2
  have hV2 : Upd (fun b => b = (w.heap.size + 2)) w1 w2 := hEa2.mono fun _ h => h.elim
  have hU2 : Upd (fun b => b = (w.heap.size + 2)) w1 w2 := hU1.trans hV2
  have htb2 := hU2.blk_some htb1 htv
  have hvl2 : (w.heap.size + 2) < w2.heap.size := Nat.lt_of_lt_of_le hvl1 hU2.size
  have hsz2 := hU2.size
  have hb2 : blk w2 (w.heap.size + 2) = some (#[.string ByteArray.empty, .int .i32 0, .int .i16 0, .slice none 0 0, .slice none 0 0, .map none], 209, (0, 0)) := hEa2.blk_some hb1 id
  simp (maxSteps := 1000000) (disch := (first | omega | (simp only [World.size_alloc, size_wr, size_drew] <;> omega) | exact not_noB _)) only [go_sem, ↓reduceIte, n0, reduceCtorEq, n1, n2, n3, n4, n5, i0, i1, i2, i3, i4, i5, i6, i7, hb2, htb2]
  refine wp_string (S := 22) (T := 9) (E := 5) (s := (t.at 0).s) (ok := (OkS okT w.heap.size)) (by kernel_rfl) (by kernel_rfl) (by kernel_rfl) (by simp (maxSteps := 1000000) (disch := (first | omega | (simp only [World.size_alloc, size_wr, size_drew] <;> omega) | exact not_noB _)) only [go_sem, ↓reduceIte, n0, reduceCtorEq, n1, n2, n3, n4, n5, i0, i1, i2, i3, i4, i5, i6, i7]; exact hSa2) ?_
  simp (maxSteps := 1000000) (disch := (first | omega | (simp only [World.size_alloc, size_wr, size_drew] <;> omega) | exact not_noB _)) only [go_sem, ↓reduceIte, n0, reduceCtorEq, n1, n2, n3, n4, n5, i0, i1, i2, i3, i4, i5, i6, i7, hb2, htb2]
  generalize hw3 : wr w2 (w.heap.size + 2) 0 [strV (t.at 0).s] = w3
  have hV3 : Upd (fun b => b = (w.heap.size + 2)) w2 w3 := by rw [← hw3]; exact (Upd.refl _ _).wr _ _ (.inr rfl)
  have hb3 : blk w3 (w.heap.size + 2) = some (#[strV (t.at 0).s, .int .i32 0, .int .i16 0, .slice none 0 0, .slice none 0 0, .map none], 209, (0, 0)) := by rw [← hw3, blk_wr_eq, hb2]; rfl
  have hU3 : Upd (fun b => b = (w.heap.size + 2)) w1 w3 := hU2.trans hV3
  have htb3 := hU3.blk_some htb1 htv
  have hvl3 : (w.heap.size + 2) < w3.heap.size := Nat.lt_of_lt_of_le hvl1 hU3.size
  have hsz3 := hU3.size
  clear hvl2 hsz2
  clear hw3
  have hf0 : RepF (RepS true (d + 1)) (szS true (d + 1)) fCreateTopicsRequestTopic_0 (OkF okT w.heap.size w1.heap.size) w3 (t.at 0) [strV (t.at 0).s] := (RepF_text rfl (by decide)).2 rfl
  repeat ((first | refine W.seqR rfl ?_ | refine W.seq ?_ | refine W.regR rfl ?_ | refine W.condK ?_ | refine W.block ?_ | refine W.skip ?_ | refine W.ret ?_ | refine W.exit ?_); try simp (maxSteps := 1000000) (disch := (first | omega | (simp only [World.size_alloc, size_wr, size_drew] <;> omega) | exact not_noB _)) only [go_sem, ↓reduceIte, n0, reduceCtorEq, n1, n2, n3, n4, n5, i0, i1, i2, i3, i4, i5, i6, i7, hb3, htb3])
  refine (iat_fn (ok := (OkS okT w.heap.size)) t 1 _ _ (ht1.keep (hU3.keeps fun b _ hk e => hoS b hk e)) (by decide) hllt).mono ?_
  rintro r4 w4 ⟨⟨ca4, rfl, hca4⟩, hEa4⟩
  obtain ⟨vSa4, vLa4, vUa4, rfl, hna4, hSa4, hLa4, hUa4⟩ := hca4.inv
  obtain ⟨bSa4, cSa4, rfl, hcSa4⟩ := hSa4.shape
  obtain ⟨bLa4, cLa4, rfl, hcLa4⟩ := SlR.shape hLa4
  have hfU4 := SlR.flat hUa4
  clear hcSa4 hcLa4 hna4
  have hV4 : Upd (fun b => b = (w.heap.size + 2)) w3 w4 := hEa4.mono fun _ h => h.elim
  have hU4 : Upd (fun b => b = (w.heap.size + 2)) w1 w4 := hU3.trans hV4
  have htb4 := hU4.blk_some htb1 htv
  have hvl4 : (w.heap.size + 2) < w4.heap.size := Nat.lt_of_lt_of_le hvl1 hU4.size
  have hsz4 := hU4.size
  clear hvl3 hsz3
  have hb4 : blk w4 (w.heap.size + 2) = some (#[strV (t.at 0).s, .int .i32 0, .int .i16 0, .slice none 0 0, .slice none 0 0, .map none], 209, (0, 0)) := hEa4.blk_some hb3 id
  simp (maxSteps := 1000000) (disch := (first | omega | (simp only [World.size_alloc, size_wr, size_drew] <;> omega) | exact not_noB _)) only [go_sem, ↓reduceIte, n0, reduceCtorEq, n1, n2, n3, n4, n5, i0, i1, i2, i3, i4, i5, i6, i7, hb4, htb4]
  generalize hw5 : wr w4 (w.heap.size + 2) 1 [.int .i32 (IntKind.i32.wrap (t.at 1).n)] = w5
  have hV5 : Upd (fun b => b = (w.heap.size + 2)) w4 w5 := by rw [← hw5]; exact (Upd.refl _ _).wr _ _ (.inr rfl)
  have hb5 : blk w5 (w.heap.size + 2) = some (#[strV (t.at 0).s, .int .i32 (IntKind.i32.wrap (t.at 1).n), .int .i16 0, .slice none 0 0, .slice none 0 0, .map none], 209, (0, 0)) := by rw [← hw5, blk_wr_eq, hb4]; rfl
  have hU5 : Upd (fun b => b = (w.heap.size + 2)) w1 w5 := hU4.trans hV5
  have htb5 := hU5.blk_some htb1 htv
  have hvl5 : (w.heap.size + 2) < w5.heap.size := Nat.lt_of_lt_of_le hvl1 hU5.size
  have hsz5 := hU5.size
  clear hvl4 hsz4
  clear hw5
  have hf1 : RepF (RepS true (d + 1)) (szS true (d + 1)) fCreateTopicsRequestTopic_1 (OkF okT w.heap.size w1.heap.size) w5 (t.at 1) [.int .i32 (IntKind.i32.wrap (t.at 1).n)] := (RepF_num (by decide)).2 rfl
  repeat ((first | refine W.seqR rfl ?_ | refine W.seq ?_ | refine W.regR rfl ?_ | refine W.condK ?_ | refine W.block ?_ | refine W.skip ?_ | refine W.ret ?_ | refine W.exit ?_); try simp (maxSteps := 1000000) (disch := (first | omega | (simp only [World.size_alloc, size_wr, size_drew] <;> omega) | exact not_noB _)) only [go_sem, ↓reduceIte, n0, reduceCtorEq, n1, n2, n3, n4, n5, i0, i1, i2, i3, i4, i5, i6, i7, hb5, htb5])
  refine (iat_fn (ok := (OkS okT w.heap.size)) t 2 _ _ (ht1.keep (hU5.keeps fun b _ hk e => hoS b hk e)) (by decide) hllt).mono ?_
  rintro r6 w6 ⟨⟨ca6, rfl, hca6⟩, hEa6⟩
  obtain ⟨vSa6, vLa6, vUa6, rfl, hna6, hSa6, hLa6, hUa6⟩ := hca6.inv
  obtain ⟨bSa6, cSa6, rfl, hcSa6⟩ := hSa6.shape
  obtain ⟨bLa6, cLa6, rfl, hcLa6⟩ := SlR.shape hLa6
  have hfU6 := SlR.flat hUa6
  clear hcSa6 hcLa6 hna6
  have hV6 : Upd (fun b => b = (w.heap.size + 2)) w5 w6 := hEa6.mono fun _ h => h.elim
  have hU6 : Upd (fun b => b = (w.heap.size + 2)) w1 w6 := hU5.trans hV6
  have htb6 := hU6.blk_some htb1 htv
  have hvl6 : (w.heap.size + 2) < w6.heap.size := Nat.lt_of_lt_of_le hvl1 hU6.size
  have hsz6 := hU6.size
  clear hvl5 hsz5
  have hb6 : blk w6 (w.heap.size + 2) = some (#[strV (t.at 0).s, .int .i32 (IntKind.i32.wrap (t.at 1).n), .int .i16 0, .slice none 0 0, .slice none 0 0, .map none], 209, (0, 0)) := hEa6.blk_some hb5 id
  simp (maxSteps := 1000000) (disch := (first | omega | (simp only [World.size_alloc, size_wr, size_drew] <;> omega) | exact not_noB _)) only [go_sem, ↓reduceIte, n0, reduceCtorEq, n1, n2, n3, n4, n5, i0, i1, i2, i3, i4, i5, i6, i7, hb6, htb6]
  generalize hw7 : wr w6 (w.heap.size + 2) 2 [.int .i16 (IntKind.i16.wrap (t.at 2).n)] = w7
  have hV7 : Upd (fun b => b = (w.heap.size + 2)) w6 w7 := by rw [← hw7]; exact (Upd.refl _ _).wr _ _ (.inr rfl)
  have hb7 : blk w7 (w.heap.size + 2) = some (#[strV (t.at 0).s, .int .i32 (IntKind.i32.wrap (t.at 1).n), .int .i16 (IntKind.i16.wrap (t.at 2).n), .slice none 0 0, .slice none 0 0, .map none], 209, (0, 0)) := by rw [← hw7, blk_wr_eq, hb6]; rfl
  have hU7 : Upd (fun b => b = (w.heap.size + 2)) w1 w7 := hU6.trans hV7
  have htb7 := hU7.blk_some htb1 htv
  have hvl7 : (w.heap.size + 2) < w7.heap.size := Nat.lt_of_lt_of_le hvl1 hU7.size
  have hsz7 := hU7.size
  clear hvl6 hsz6
  clear hw7
  have hf2 : RepF (RepS true (d + 1)) (szS true (d + 1)) fCreateTopicsRequestTopic_2 (OkF okT w.heap.size w1.heap.size) w7 (t.at 2) [.int .i16 (IntKind.i16.wrap (t.at 2).n)] := (RepF_num (by decide)).2 rfl
  have hn0_3 : (t.at 3).null = false := g3.notnull (by decide)
  have hll3 := (g3.list rfl).1
  repeat ((first | refine W.seqR rfl ?_ | refine W.seq ?_ | refine W.regR rfl ?_ | refine W.condK ?_ | refine W.block ?_ | refine W.skip ?_ | refine W.ret ?_ | refine W.exit ?_); try simp (maxSteps := 1000000) (disch := (first | omega | (simp only [World.size_alloc, size_wr, size_drew] <;> omega) | exact not_noB _)) only [go_sem, ↓reduceIte, n0, reduceCtorEq, n1, n2, n3, n4, n5, i0, i1, i2, i3, i4, i5, i6, i7, hb7, htb7])
  refine (iat_fn (ok := (OkS okT w.heap.size)) t 3 _ _ (ht1.keep (hU7.keeps fun b _ hk e => hoS b hk e)) (by decide) hllt).mono ?_
  rintro r8 w8 ⟨⟨ca8, rfl, hca8⟩, hEa8⟩
  obtain ⟨vSa8, vLa8, vUa8, rfl, hna8, hSa8, hLa8, hUa8⟩ := hca8.inv
  obtain ⟨bSa8, cSa8, rfl, hcSa8⟩ := hSa8.shape
  obtain ⟨bLa8, cLa8, rfl, hcLa8⟩ := SlR.shape hLa8
  have hfU8 := SlR.flat hUa8
  clear hcSa8 hcLa8 hna8
  have hV8 : Upd (fun b => b = (w.heap.size + 2)) w7 w8 := hEa8.mono fun _ h => h.elim
  have hU8 : Upd (fun b => b = (w.heap.size + 2)) w1 w8 := hU7.trans hV8
  have htb8 := hU8.blk_some htb1 htv
  have hvl8 : (w.heap.size + 2) < w8.heap.size := Nat.lt_of_lt_of_le hvl1 hU8.size
  have hsz8 := hU8.size
  clear hvl7 hsz7
  have hb8 : blk w8 (w.heap.size + 2) = some (#[strV (t.at 0).s, .int .i32 (IntKind.i32.wrap (t.at 1).n), .int .i16 (IntKind.i16.wrap (t.at 2).n), .slice none 0 0, .slice none 0 0, .map none], 209, (0, 0)) := hEa8.blk_some hb7 id
  simp (maxSteps := 1000000) (disch := (first | omega | (simp only [World.size_alloc, size_wr, size_drew] <;> omega) | exact not_noB _)) only [go_sem, ↓reduceIte, n0, reduceCtorEq, n1, n2, n3, n4, n5, i0, i1, i2, i3, i4, i5, i6, i7, hn0_3, hb8, htb8]
  repeat ((first | refine W.seqR rfl ?_ | refine W.seq ?_ | refine W.regR rfl ?_ | refine W.condK ?_ | refine W.block ?_ | refine W.skip ?_ | refine W.ret ?_ | refine W.exit ?_); try simp (maxSteps := 1000000) (disch := (first | omega | (simp only [World.size_alloc, size_wr, size_drew] <;> omega) | exact not_noB _)) only [go_sem, ↓reduceIte, n0, reduceCtorEq, n1, n2, n3, n4, n5, i0, i1, i2, i3, i4, i5, i6, i7, hb8, htb8])
  refine (iat_fn (ok := (OkS okT w.heap.size)) t 3 _ _ (ht1.keep (hU8.keeps fun b _ hk e => hoS b hk e)) (by decide) hllt).mono ?_
  rintro r9 w9 ⟨⟨ca9, rfl, hca9⟩, hEa9⟩
  obtain ⟨vSa9, vLa9, vUa9, rfl, hna9, hSa9, hLa9, hUa9⟩ := hca9.inv
  obtain ⟨bSa9, cSa9, rfl, hcSa9⟩ := hSa9.shape
  obtain ⟨bLa9, cLa9, rfl, hcLa9⟩ := SlR.shape hLa9
  have hfU9 := SlR.flat hUa9
  clear hcSa9 hcLa9 hna9
  have hV9 : Upd (fun b => b = (w.heap.size + 2)) w8 w9 := hEa9.mono fun _ h => h.elim
  have hU9 : Upd (fun b => b = (w.heap.size + 2)) w1 w9 := hU8.trans hV9
  have htb9 := hU9.blk_some htb1 htv
  have hvl9 : (w.heap.size + 2) < w9.heap.size := Nat.lt_of_lt_of_le hvl1 hU9.size
  have hsz9 := hU9.size
  clear hvl8 hsz8
  have hb9 : blk w9 (w.heap.size + 2) = some (#[strV (t.at 0).s, .int .i32 (IntKind.i32.wrap (t.at 1).n), .int .i16 (IntKind.i16.wrap (t.at 2).n), .slice none 0 0, .slice none 0 0, .map none], 209, (0, 0)) := hEa9.blk_some hb8 id
  simp (maxSteps := 1000000) (disch := (first | omega | (simp only [World.size_alloc, size_wr, size_drew] <;> omega) | exact not_noB _)) only [go_sem, ↓reduceIte, n0, reduceCtorEq, n1, n2, n3, n4, n5, i0, i1, i2, i3, i4, i5, i6, i7, hb9, htb9]
  refine wp_make (T := 206) (E := 214) (size := 3) (bytes := 40) (z := (.agg #[.int .i32 0, .slice none 0 0, .map none])) (l := 0) (c := (t.at 3).l.length) (kl := .i64) (kc := .i64) (by kernel_rfl) (by kernel_rfl) (by simp (maxSteps := 1000000) (disch := (first | omega | (simp only [World.size_alloc, size_wr, size_drew] <;> omega) | exact not_noB _)) only [go_sem, ↓reduceIte, n0, reduceCtorEq, n1, n2, n3, n4, n5, i0, i1, i2, i3, i4, i5, i6, i7]; rfl) (by simp (maxSteps := 1000000) (disch := (first | omega | (simp only [World.size_alloc, size_wr, size_drew] <;> omega) | exact not_noB _)) only [go_sem, ↓reduceIte, n0, reduceCtorEq, n1, n2, n3, n4, n5, i0, i1, i2, i3, i4, i5, i6, i7]) (by omega) (by omega) (by omega) ?_
  simp (maxSteps := 1000000) (disch := (first | omega | (simp only [World.size_alloc, size_wr, size_drew] <;> omega) | exact not_noB _)) only [go_sem, ↓reduceIte, n0, reduceCtorEq, n1, n2, n3, n4, n5, i0, i1, i2, i3, i4, i5, i6, i7, hb9, hvl9, htb9]
  have hszB3 := hsz9
  generalize hw10 : wr (w9.alloc (.cells (madeCells #[.int .i32 0, .slice none 0 0, .map none] ((t.at 3).l.length * 3)) 214)) (w.heap.size + 2) 3 [.slice (some ⟨w9.heap.size, 0, none⟩) 0 (t.at 3).l.length] = w10
  have hV10 : Upd (fun b => b = (w.heap.size + 2)) w9 w10 := by rw [← hw10]; exact ((Upd.refl _ _).alloc _).wr _ _ (.inr rfl)
  have hb10 : blk w10 (w.heap.size + 2) = some (#[strV (t.at 0).s, .int .i32 (IntKind.i32.wrap (t.at 1).n), .int .i16 (IntKind.i16.wrap (t.at 2).n), .slice (some ⟨w9.heap.size, 0, none⟩) 0 (t.at 3).l.length, .slice none 0 0, .map none], 209, (0, 0)) := by rw [← hw10, blk_wr_eq, blk_alloc_old hvl9, hb9]; rfl
  have hrow10 : blk w10 w9.heap.size = some (madeCells #[.int .i32 0, .slice none 0 0, .map none] ((t.at 3).l.length * 3), 214, (0, 0)) := by rw [← hw10, blk_wr_ne (Nat.ne_of_gt hvl9), blk_alloc_new rfl]
  have hg10 : GrowR (Rep1 (RepS true (d + 1)) fCreateTopicsRequestTopic_3.of fCreateTopicsRequestTopic_3.sub) 3 (OkF okT w.heap.size w1.heap.size) w9.heap.size (w.heap.size + 2) w10 214 (.slice (some ⟨w9.heap.size, 0, none⟩) 0 (t.at 3).l.length) [] := GrowR.made hrow10 (size_madeCells _ _) (Nat.le_refl _)
  have hU10 : Upd (fun b => b = (w.heap.size + 2)) w1 w10 := hU9.trans hV10
  have htb10 := hU10.blk_some htb1 htv
  have hvl10 : (w.heap.size + 2) < w10.heap.size := Nat.lt_of_lt_of_le hvl1 hU10.size
  have hsz10 := hU10.size
  clear hvl9 hsz9
  clear hw10 hrow10
  repeat ((first | refine W.seqR rfl ?_ | refine W.seq ?_ | refine W.regR rfl ?_ | refine W.condK ?_ | refine W.block ?_ | refine W.skip ?_ | refine W.ret ?_ | refine W.exit ?_); try simp (maxSteps := 1000000) (disch := (first | omega | (simp only [World.size_alloc, size_wr, size_drew] <;> omega) | exact not_noB _)) only [go_sem, ↓reduceIte, n0, reduceCtorEq, n1, n2, n3, n4, n5, i0, i1, i2, i3, i4, i5, i6, i7, hb10, htb10])
  refine (iat_fn (ok := (OkS okT w.heap.size)) t 3 _ _ (ht1.keep (hU10.keeps fun b _ hk e => hoS b hk e)) (by decide) hllt).mono ?_
  rintro r11 w11 ⟨⟨ca11, rfl, hca11⟩, hEa11⟩
  obtain ⟨vSa11, vLa11, vUa11, rfl, hna11, hSa11, hLa11, hUa11⟩ := hca11.inv
  obtain ⟨bSa11, cSa11, rfl, hcSa11⟩ := hSa11.shape
  obtain ⟨bLa11, cLa11, rfl, hcLa11⟩ := SlR.shape hLa11
  have hfU11 := SlR.flat hUa11
  clear hcSa11 hcLa11 hna11
  have hV11 : Upd (fun b => b = (w.heap.size + 2)) w10 w11 := hEa11.mono fun _ h => h.elim
  have hU11 : Upd (fun b => b = (w.heap.size + 2)) w1 w11 := hU10.trans hV11
  have htb11 := hU11.blk_some htb1 htv
  have hvl11 : (w.heap.size + 2) < w11.heap.size := Nat.lt_of_lt_of_le hvl1 hU11.size
  have hsz11 := hU11.size
  clear hvl10 hsz10
  have hb11 : blk w11 (w.heap.size + 2) = some (#[strV (t.at 0).s, .int .i32 (IntKind.i32.wrap (t.at 1).n), .int .i16 (IntKind.i16.wrap (t.at 2).n), .slice (some ⟨w9.heap.size, 0, none⟩) 0 (t.at 3).l.length, .slice none 0 0, .map none], 209, (0, 0)) := hEa11.blk_some hb10 id
  have hg11 := hg10.ext (Rep1_lay _ _ fun _ => RepS_lay true (d + 1) _) hEa11
  simp (maxSteps := 1000000) (disch := (first | omega | (simp only [World.size_alloc, size_wr, size_drew] <;> omega) | exact not_noB _)) only [go_sem, ↓reduceIte, n0, reduceCtorEq, n1, n2, n3, n4, n5, i0, i1, i2, i3, i4, i5, i6, i7, hb11, htb11]
  repeat ((first | refine W.seqR rfl ?_ | refine W.seq ?_ | refine W.regR rfl ?_ | refine W.condK ?_ | refine W.block ?_ | refine W.skip ?_ | refine W.ret ?_ | refine W.exit ?_); try simp (maxSteps := 1000000) (disch := (first | omega | (simp only [World.size_alloc, size_wr, size_drew] <;> omega) | exact not_noB _)) only [go_sem, ↓reduceIte, n0, reduceCtorEq, n1, n2, n3, n4, n5, i0, i1, i2, i3, i4, i5, i6, i7, hb11, htb11])
  have hVb3 : Upd (fun b => b = (w.heap.size + 2)) w9 w11 := hV10.trans hV11
  have hUb3 := hU9
  have hvlB3 : (w.heap.size + 2) < w9.heap.size := Nat.lt_of_lt_of_le hvl1 hszB3
  have hszL3 : w9.heap.size ≤ w11.heap.size := hVb3.size
  refine W.exitJ 0 (fun ρ w' => ∃ v, ρ 1 = .pointer (some ⟨w.heap.size, 0, none⟩) ∧ ρ 2 = .pointer (some ⟨w.heap.size + 1, 0, none⟩) ∧ ρ 3 = .pointer (some ⟨(w.heap.size + 2), 0, none⟩) ∧ blk w' (w.heap.size + 2) = some (#[strV (t.at 0).s, .int .i32 (IntKind.i32.wrap (t.at 1).n), .int .i16 (IntKind.i16.wrap (t.at 2).n), v, .slice none 0 0, .map none], 209, (0, 0)) ∧ GrowR (Rep1 (RepS true (d + 1)) fCreateTopicsRequestTopic_3.of fCreateTopicsRequestTopic_3.sub) 3 (OkF okT w.heap.size w1.heap.size) w9.heap.size (w.heap.size + 2) w' 214 v (t.at 3).l ∧ v ≠ .slice none 0 0 ∧ Upd (fun b => b = (w.heap.size + 2) ∨ w9.heap.size ≤ b) w11 w')
    (W.loop (fun ρ w' => ∃ (j : Nat) (v : Value), j ≤ (t.at 3).l.length ∧ ρ 39 = .int .i64 j ∧ ρ 38 = .int .i64 (t.at 3).l.length ∧ ρ 37 = .slice bLa11 (t.at 3).l.length cLa11 ∧ ρ 1 = .pointer (some ⟨w.heap.size, 0, none⟩) ∧ ρ 2 = .pointer (some ⟨w.heap.size + 1, 0, none⟩) ∧ ρ 3 = .pointer (some ⟨(w.heap.size + 2), 0, none⟩) ∧ blk w' (w.heap.size + 2) = some (#[strV (t.at 0).s, .int .i32 (IntKind.i32.wrap (t.at 1).n), .int .i16 (IntKind.i16.wrap (t.at 2).n), v, .slice none 0 0, .map none], 209, (0, 0)) ∧ GrowR (Rep1 (RepS true (d + 1)) fCreateTopicsRequestTopic_3.of fCreateTopicsRequestTopic_3.sub) 3 (OkF okT w.heap.size w1.heap.size) w9.heap.size (w.heap.size + 2) w' 214 v ((t.at 3).l.take j) ∧ v ≠ .slice none 0 0 ∧ Upd (fun b => b = (w.heap.size + 2) ∨ w9.heap.size ≤ b) w11 w')
      (fun ρ _ => (t.at 3).l.length - (RowKit.intOf (ρ 39)).toNat) ?_ ?_) ?_
  · refine ⟨0, _, Nat.zero_le _, ?_, ?_, ?_, ?_, ?_, ?_, hb11, hg11, (by intro h; cases h), Upd.refl _ _⟩ <;> simp (maxSteps := 1000000) (disch := (first | omega | (simp only [World.size_alloc, size_wr, size_drew] <;> omega) | exact not_noB _)) only [go_sem, ↓reduceIte, n0, reduceCtorEq, n1, n2, n3, n4, n5, i0, i1, i2, i3, i4, i5, i6, i7]
    all_goals rfl
  · rintro ρ w_6 ⟨j, v, hj, hI, hN, hS, hr1, hr2, hr3, hbv, hg, hnil, hU_6⟩
    have hz_6 := hU_6.size
    have hJ_6 : Upd (fun b => b = (w.heap.size + 2)) w9 w_6 := hVb3.more hU_6 fun b hb h => h.elim id fun h => absurd h (by omega)
    have hU_16 : Upd (fun b => b = (w.heap.size + 2)) w1 w_6 := hUb3.trans hJ_6
    have hht_6 := hU_16.blk_some htb1 htv
    have hLt_6 := hLa11.keep (hU_6.keeps fun b _ hk e => e.elim (hoS b hk) fun e => by have := hk.2; omega)
    by_cases hlt : j < (t.at 3).l.length
    · obtain ⟨_, b, o, x, vS', vL', vU', hb, hokb, hx, hblt, hxs, hxe, q1, q2, q3, hc⟩ := TreesV.get hLt_6 hlt
      subst hb
      have hbS := (TreeC.inv hc)
      have hcat : (t.at 3).l.take (j + 1) = (t.at 3).l.take j ++ [(t.at 3).l[j]] := List.take_succ_eq_append_getElem hlt
      have hlen_9 : ((t.at 3).l.take j).length = j := by simp; omega
      have hgx := (g3.list rfl).2 _ (List.getElem_mem hlt)
      have hLx := (hLs.at 3).get hlt
      have hnb : ∀ b, b < w9.heap.size ∨ b = w_6.heap.size → ¬ ownB v b := fun b hb h => by
        have := hg.above h
        have := hg.below h
        omega
      generalize (t.at 3).l[j] = y at *
      obtain ⟨vSy, vLy, vUy, hcells, hny, hSy, hLy, hUy⟩ := hbS
      simp only [List.cons.injEq, true_and, and_true] at hcells
      obtain ⟨rfl, rfl, rfl⟩ := hcells
      obtain ⟨bSy, cSy, rfl, hcSy⟩ := hSy.shape
      repeat ((first | refine W.seqR rfl ?_ | refine W.seq ?_ | refine W.regR rfl ?_ | refine W.condK ?_ | refine W.block ?_ | refine W.skip ?_ | refine W.ret ?_ | refine W.exit ?_); try simp (maxSteps := 1000000) (disch := (first | omega | (simp only [World.size_alloc, size_wr, size_drew] <;> omega) | exact not_noB _)) only [go_sem, ↓reduceIte, n0, reduceCtorEq, n1, n2, n3, n4, n5, i0, i1, i2, i3, i4, i5, i6, i7, hI, hN, hS, hx, hxe, q1, q2, q3, cellsAt_five, Int.toNat_natCast])
      generalize hw_7 : (wr (w_6.alloc (.cells #[.int .i64 0, .slice none 0 0, .bool false, .slice none 0 0, .slice none 0 0] 39)) w_6.heap.size 0 [.int .i64 y.n, .slice bSy y.s.length cSy, .bool y.null, vL', vU']) = w_7
      have hE_7 : Ext w_6 w_7 := by rw [← hw_7]; exact (Upd.alloc (Upd.refl _ _) _).wr _ _ (.inl (Nat.le_refl _))
      have hb_7 : blk w_7 w_6.heap.size = some (#[.int .i64 y.n, .slice bSy y.s.length cSy, .bool y.null, vL', vU'], 39, (0, 0)) := by rw [← hw_7]; simp (maxSteps := 1000000) (disch := (first | omega | (simp only [World.size_alloc, size_wr, size_drew] <;> omega) | exact not_noB _)) only [go_sem, ↓reduceIte, n0, reduceCtorEq, n1, n2, n3, n4, n5, i0, i1, i2, i3, i4, i5, i6, i7]
      have hz_7 : w_7.heap.size = w_6.heap.size + 1 := by rw [← hw_7]; simp only [size_wr, World.size_alloc]
      have hbt_7 := hE_7.blk_some hbv id
      have hgv_7 := hE_7.blk_some hht_6 id
      have hc_7 := hc.keep (hE_7.keeps _)
      have hS_7 := hSy.keep (hE_7.keeps _)
      have hg_7 := hg.ext (Rep1_lay _ _ fun _ => RepS_lay true (d + 1) _) hE_7
      clear hw_7
      refine W.drawR (.take 0 (.take 1 (.take 2 (.only 3 (.only 4 (.only 5 (.take 6 (.last 7)))))))) (ownB v) mixed (by kernel_rfl) ?_
      simp (maxSteps := 1000000) (disch := (first | omega | (simp only [World.size_alloc, size_wr, size_drew] <;> omega) | exact not_noB _ | (refine hnb _ ?_; first | omega | (simp only [World.size_alloc, size_wr, size_drew] <;> omega)))) only [go_sem, ↓reduceIte, n0, reduceCtorEq, n1, n2, n3, n4, n5, i0, i1, i2, i3, i4, i5, i6, i7, hr1, hr2, hr3, hbt_7, hb_7, hgv_7, cellsAt_five]
      have hE_7d : Ext w_7 w_7.drew := (Upd.refl _ _).drew
      have hg_7d := hg_7.ext (Rep1_lay _ _ fun _ => RepS_lay true (d + 1) _) hE_7d
      have hzd : w_7.drew.heap.size = w_7.heap.size := size_drew _
      have hbt_7d := hE_7d.blk_some hbt_7 id
      refine (makeCreateTopicsRequestTopicReplicaAssignment_fn (d := d) (okT := (OkS okT w.heap.size)) (V := V) y _ w_7.drew (hc_7.keep (hE_7d.keeps _)) (hgx.2.2 rfl) hLx).mono ?_
      rintro r8 w_8 ⟨⟨cs8, rfl, hc_8⟩, hE_8⟩
      obtain ⟨hfl_8, hcl_8⟩ := (RepS_lay true (d + 1) fs_CreateTopicsRequestTopicReplicaAssignment).flat hc_8
      obtain ⟨y0, y1, y2, rfl⟩ : ∃ y0 y1 y2, cs8 = [y0, y1, y2] := by
        have hcl_8' : cs8.length = 3 := hcl_8
        match cs8, hcl_8' with
        | [y0, y1, y2], _ => exact ⟨y0, y1, y2, rfl⟩
      simp only [List.all_cons, List.all_nil, Bool.and_true, Bool.and_eq_true] at hfl_8
      obtain ⟨fy0, fy1, fy2⟩ := hfl_8
      have hz_8 := hE_8.size
      have hM_8 : Upd (ownB v) w_7.drew w_8 := hE_8.mono (fun _ h => h.elim)
      refine ⟨hM_8, ?_⟩
      have hE_9 : Ext w_8 (w_8.alloc (.cells #[y0, y1, y2] 214)) := Upd.alloc (Upd.refl _ _) _
      have hM_9 : Upd (ownB v) w_7.drew (w_8.alloc (.cells #[y0, y1, y2] 214)) := hM_8.alloc _
      simp (maxSteps := 1000000) (disch := (first | omega | (simp only [World.size_alloc, size_wr, size_drew] <;> omega) | exact not_noB _)) only [go_sem, ↓reduceIte, n0, reduceCtorEq, n1, n2, n3, n4, n5, i0, i1, i2, i3, i4, i5, i6, i7, hr1, hr2, hr3, hbt_7d, fy0, fy1, fy2]
      refine ⟨hM_9, ?_⟩
      have hE_79 : Ext w_7.drew (w_8.alloc (.cells #[y0, y1, y2] 214)) := hE_8.trans hE_9
      have hg_9 := (hg_7d.ext (Rep1_lay _ _ fun _ => RepS_lay true (d + 1) _) hE_8).ext (Rep1_lay _ _ fun _ => RepS_lay true (d + 1) _) hE_9
      have hx_9 : Rep1 (RepS true (d + 1)) fCreateTopicsRequestTopic_3.of fCreateTopicsRequestTopic_3.sub (fun b => (OkF okT w.heap.size w1.heap.size) b ∧ b ≠ (w.heap.size + 2) ∧ ¬ ownB v b) (w_8.alloc (.cells #[y0, y1, y2] 214)) y [y0, y1, y2] :=
        Rep1_part.2 (((RepS_lay true (d + 1) fs_CreateTopicsRequestTopicReplicaAssignment).keep hc_8 (hE_9.keeps _)) |> fun h => (RepS_lay true (d + 1) fs_CreateTopicsRequestTopicReplicaAssignment).weaken h fun b _ hk => by
          rcases hk with hk | hk
          · exact ⟨.inl hk, hoS b hk, fun h => by have := hg.above h; have := hk.2; omega⟩
          · exact ⟨.inr (by omega), by omega, fun h => by have := hg.below h; omega⟩)
      obtain ⟨css, hown, hall⟩ := hg_9.ex
      have hcl_9 := hall.1
      refine wp_append ap_206_206 (m := 1) (news := [y0, y1, y2]) (n := css.length) (cs := css.flatten) (v := v) ?_ rfl hown.1 (all2_flat_R (Rep1_lay _ _ fun _ => RepS_lay true (d + 1) _) hall) (Src.blk (fr := (0, 0)) (T := 214) (blk_alloc_new (by first | rfl | omega | (simp only [size_drew]; omega))) rfl (by simp only [List.all_cons, List.all_nil, Bool.and_true, Bool.and_eq_true]; exact ⟨fy0, fy1, fy2⟩)) ?_ ?_ ?_
      · simp (maxSteps := 1000000) (disch := (first | omega | (simp only [World.size_alloc, size_wr, size_drew] <;> omega) | exact not_noB _)) only [go_sem, ↓reduceIte, n0, reduceCtorEq, n1, n2, n3, n4, n5, i0, i1, i2, i3, i4, i5, i6, i7]
      · simp only [World.size_alloc, size_drew]; omega
      · omega
      intro v' w_10 ho hu hfr
      have hg_10 := GrowR.snoc (Rep1_lay _ _ fun _ => RepS_lay true (d + 1) _) hown hall hx_9 hu hfr ho
      have hz_10 := hu.size
      simp only [World.size_alloc, size_drew] at hz_10
      obtain ⟨va, vc, hv', _⟩ := ho.shape
      subst hv'
      have hbt_10 := (hM_9.trans hu).blk_some hbt_7d (hnb _ (.inl hvlB3))
      have htb' : ¬ ownB (.slice va (css.length + 1) vc) (w.heap.size + 2) := fun h => by
        rcases hfr _ h with h | h
        · exact hnb _ (.inl hvlB3) h
        · simp only [World.size_alloc, size_drew] at h; omega
      simp (maxSteps := 1000000) (disch := (first | omega | (simp only [World.size_alloc, size_wr, size_drew] <;> omega) | exact not_noB _)) only [go_sem, ↓reduceIte, n0, reduceCtorEq, n1, n2, n3, n4, n5, i0, i1, i2, i3, i4, i5, i6, i7]
      refine ⟨hM_9.trans hu, ?_⟩
      simp (maxSteps := 1000000) (disch := (first | omega | (simp only [World.size_alloc, size_wr, size_drew] <;> omega) | exact not_noB _)) only [go_sem, ↓reduceIte, n0, reduceCtorEq, n1, n2, n3, n4, n5, i0, i1, i2, i3, i4, i5, i6, i7, hr1, hr2, hr3, hbt_10]
      repeat ((first | refine W.seqR rfl ?_ | refine W.seq ?_ | refine W.regR rfl ?_ | refine W.condK ?_ | refine W.block ?_ | refine W.skip ?_ | refine W.ret ?_ | refine W.exit ?_); try simp (maxSteps := 1000000) (disch := (first | omega | (simp only [World.size_alloc, size_wr, size_drew] <;> omega) | exact not_noB _)) only [go_sem, ↓reduceIte, n0, reduceCtorEq, n1, n2, n3, n4, n5, i0, i1, i2, i3, i4, i5, i6, i7, hI])
      refine ⟨⟨j + 1, .slice va (css.length + 1) vc, by omega, rfl, hN, hS, hr1, hr2, hr3, ?_, ?_, ?_, ?_⟩, ?_⟩
      · simp (maxSteps := 1000000) (disch := (first | omega | (simp only [World.size_alloc, size_wr, size_drew] <;> omega) | exact not_noB _)) only [go_sem, ↓reduceIte, n0, reduceCtorEq, n1, n2, n3, n4, n5, i0, i1, i2, i3, i4, i5, i6, i7, hbt_10]
      · rw [hcat]; exact hg_10.upd (Rep1_lay _ _ fun _ => RepS_lay true (d + 1) _) ((Upd.refl _ _).wr _ _ (.inr rfl)) htb'
      · intro h; cases h
      · refine Upd.wr ?_ _ _ (.inr (.inl rfl))
        exact hU_6.more (((hE_7.mono fun _ h => h.elim).trans (hE_7d.mono fun _ h => h.elim)).trans (hM_9.trans hu)) fun b hb h => .inr (hg.above h)
      · simp only [RowKit.intOf]; omega
    · have hjl : j = (t.at 3).l.length := by omega
      subst hjl
      rw [List.take_length] at hg
      repeat ((first | refine W.seqR rfl ?_ | refine W.seq ?_ | refine W.regR rfl ?_ | refine W.condK ?_ | refine W.block ?_ | refine W.skip ?_ | refine W.ret ?_ | refine W.exit ?_); try simp (maxSteps := 1000000) (disch := (first | omega | (simp only [World.size_alloc, size_wr, size_drew] <;> omega) | exact not_noB _)) only [go_sem, ↓reduceIte, n0, reduceCtorEq, n1, n2, n3, n4, n5, i0, i1, i2, i3, i4, i5, i6, i7, hI, hN])
      exact ⟨v, hr1, hr2, hr3, hbv, hg, hnil, hU_6⟩
  · rintro ρ w12 ⟨v3, hr1, hr2, hr3, hb12, hg12, hnil3, hK12⟩
    have hV12 : Upd (fun b => b = (w.heap.size + 2)) w9 w12 := hVb3.more hK12 fun b hb h => h.elim id fun h => absurd h (by omega)
    have hU12 : Upd (fun b => b = (w.heap.size + 2)) w1 w12 := hU9.trans hV12
    have htb12 := hU12.blk_some htb1 htv
    have hvl12 : (w.heap.size + 2) < w12.heap.size := Nat.lt_of_lt_of_le hvl1 hU12.size
    have hsz12 := hU12.size
    clear hvl11 hsz11
    obtain ⟨al3, kl3, rfl, _⟩ := hg12.shape
    have hf3 : RepF (RepS true (d + 1)) (szS true (d + 1)) fCreateTopicsRequestTopic_3 (OkF okT w.heap.size w1.heap.size) w12 (t.at 3) [.slice al3 (t.at 3).l.length kl3] := (RepF_list rfl hn0_3).2 ⟨_, rfl, hg12.sl (Rep1_lay _ _ fun _ => RepS_lay true (d + 1) _) (fun _ _ h => h) (fun b hb => .inr (by omega)), hg12.some hnil3⟩
    have hn0_4 : (t.at 4).null = false := g4.notnull (by decide)
    have hll4 := (g4.list rfl).1
    repeat ((first | refine W.seqR rfl ?_ | refine W.seq ?_ | refine W.regR rfl ?_ | refine W.condK ?_ | refine W.block ?_ | refine W.skip ?_ | refine W.ret ?_ | refine W.exit ?_); try simp (maxSteps := 1000000) (disch := (first | omega | (simp only [World.size_alloc, size_wr, size_drew] <;> omega) | exact not_noB _)) only [go_sem, ↓reduceIte, n0, reduceCtorEq, n1, n2, n3, n4, n5, i0, i1, i2, i3, i4, i5, i6, i7, hb12, htb12, hr1, hr2, hr3])
    refine (iat_fn (ok := (OkS okT w.heap.size)) t 4 _ _ (ht1.keep (hU12.keeps fun b _ hk e => hoS b hk e)) (by decide) hllt).mono ?_
    rintro r13 w13 ⟨⟨ca13, rfl, hca13⟩, hEa13⟩
    obtain ⟨vSa13, vLa13, vUa13, rfl, hna13, hSa13, hLa13, hUa13⟩ := hca13.inv
    obtain ⟨bSa13, cSa13, rfl, hcSa13⟩ := hSa13.shape
    obtain ⟨bLa13, cLa13, rfl, hcLa13⟩ := SlR.shape hLa13
    have hfU13 := SlR.flat hUa13
    clear hcSa13 hcLa13 hna13
    have hV13 : Upd (fun b => b = (w.heap.size + 2)) w12 w13 := hEa13.mono fun _ h => h.elim
    have hU13 : Upd (fun b => b = (w.heap.size + 2)) w1 w13 := hU12.trans hV13
    have htb13 := hU13.blk_some htb1 htv
    have hvl13 : (w.heap.size + 2) < w13.heap.size := Nat.lt_of_lt_of_le hvl1 hU13.size
    have hsz13 := hU13.size
    clear hvl12 hsz12
    have hb13 : blk w13 (w.heap.size + 2) = some (#[strV (t.at 0).s, .int .i32 (IntKind.i32.wrap (t.at 1).n), .int .i16 (IntKind.i16.wrap (t.at 2).n), .slice al3 (t.at 3).l.length kl3, .slice none 0 0, .map none], 209, (0, 0)) := hEa13.blk_some hb12 id
    simp (maxSteps := 1000000) (disch := (first | omega | (simp only [World.size_alloc, size_wr, size_drew] <;> omega) | exact not_noB _)) only [go_sem, ↓reduceIte, n0, reduceCtorEq, n1, n2, n3, n4, n5, i0, i1, i2, i3, i4, i5, i6, i7, hn0_4, hb13, htb13, hr1, hr2, hr3]
    repeat ((first | refine W.seqR rfl ?_ | refine W.seq ?_ | refine W.regR rfl ?_ | refine W.condK ?_ | refine W.block ?_ | refine W.skip ?_ | refine W.ret ?_ | refine W.exit ?_); try simp (maxSteps := 1000000) (disch := (first | omega | (simp only [World.size_alloc, size_wr, size_drew] <;> omega) | exact not_noB _)) only [go_sem, ↓reduceIte, n0, reduceCtorEq, n1, n2, n3, n4, n5, i0, i1, i2, i3, i4, i5, i6, i7, hb13, htb13, hr1, hr2, hr3])
    refine (iat_fn (ok := (OkS okT w.heap.size)) t 4 _ _ (ht1.keep (hU13.keeps fun b _ hk e => hoS b hk e)) (by decide) hllt).mono ?_
    rintro r14 w14 ⟨⟨ca14, rfl, hca14⟩, hEa14⟩
    obtain ⟨vSa14, vLa14, vUa14, rfl, hna14, hSa14, hLa14, hUa14⟩ := hca14.inv
    obtain ⟨bSa14, cSa14, rfl, hcSa14⟩ := hSa14.shape
    obtain ⟨bLa14, cLa14, rfl, hcLa14⟩ := SlR.shape hLa14
    have hfU14 := SlR.flat hUa14
    clear hcSa14 hcLa14 hna14
    have hV14 : Upd (fun b => b = (w.heap.size + 2)) w13 w14 := hEa14.mono fun _ h => h.elim
    have hU14 : Upd (fun b => b = (w.heap.size + 2)) w1 w14 := hU13.trans hV14
    have htb14 := hU14.blk_some htb1 htv
    have hvl14 : (w.heap.size + 2) < w14.heap.size := Nat.lt_of_lt_of_le hvl1 hU14.size
    have hsz14 := hU14.size
    clear hvl13 hsz13
    have hb14 : blk w14 (w.heap.size + 2) = some (#[strV (t.at 0).s, .int .i32 (IntKind.i32.wrap (t.at 1).n), .int .i16 (IntKind.i16.wrap (t.at 2).n), .slice al3 (t.at 3).l.length kl3, .slice none 0 0, .map none], 209, (0, 0)) := hEa14.blk_some hb13 id
    simp (maxSteps := 1000000) (disch := (first | omega | (simp only [World.size_alloc, size_wr, size_drew] <;> omega) | exact not_noB _)) only [go_sem, ↓reduceIte, n0, reduceCtorEq, n1, n2, n3, n4, n5, i0, i1, i2, i3, i4, i5, i6, i7, hb14, htb14, hr1, hr2, hr3]
    refine wp_make (T := 207) (E := 217) (size := 3) (bytes := 32) (z := (.agg #[.string ByteArray.empty, .pointer none, .map none])) (l := 0) (c := (t.at 4).l.length) (kl := .i64) (kc := .i64) (by kernel_rfl) (by kernel_rfl) (by simp (maxSteps := 1000000) (disch := (first | omega | (simp only [World.size_alloc, size_wr, size_drew] <;> omega) | exact not_noB _)) only [go_sem, ↓reduceIte, n0, reduceCtorEq, n1, n2, n3, n4, n5, i0, i1, i2, i3, i4, i5, i6, i7]; rfl) (by simp (maxSteps := 1000000) (disch := (first | omega | (simp only [World.size_alloc, size_wr, size_drew] <;> omega) | exact not_noB _)) only [go_sem, ↓reduceIte, n0, reduceCtorEq, n1, n2, n3, n4, n5, i0, i1, i2, i3, i4, i5, i6, i7]) (by omega) (by omega) (by omega) ?_
    simp (maxSteps := 1000000) (disch := (first | omega | (simp only [World.size_alloc, size_wr, size_drew] <;> omega) | exact not_noB _)) only [go_sem, ↓reduceIte, n0, reduceCtorEq, n1, n2, n3, n4, n5, i0, i1, i2, i3, i4, i5, i6, i7, hb14, hvl14, htb14, hr1, hr2, hr3]
    have hszB4 := hsz14
    generalize hw15 : wr (w14.alloc (.cells (madeCells #[.string ByteArray.empty, .pointer none, .map none] ((t.at 4).l.length * 3)) 217)) (w.heap.size + 2) 4 [.slice (some ⟨w14.heap.size, 0, none⟩) 0 (t.at 4).l.length] = w15
    have hV15 : Upd (fun b => b = (w.heap.size + 2)) w14 w15 := by rw [← hw15]; exact ((Upd.refl _ _).alloc _).wr _ _ (.inr rfl)
    have hb15 : blk w15 (w.heap.size + 2) = some (#[strV (t.at 0).s, .int .i32 (IntKind.i32.wrap (t.at 1).n), .int .i16 (IntKind.i16.wrap (t.at 2).n), .slice al3 (t.at 3).l.length kl3, .slice (some ⟨w14.heap.size, 0, none⟩) 0 (t.at 4).l.length, .map none], 209, (0, 0)) := by rw [← hw15, blk_wr_eq, blk_alloc_old hvl14, hb14]; rfl
    have hrow15 : blk w15 w14.heap.size = some (madeCells #[.string ByteArray.empty, .pointer none, .map none] ((t.at 4).l.length * 3), 217, (0, 0)) := by rw [← hw15, blk_wr_ne (Nat.ne_of_gt hvl14), blk_alloc_new rfl]
    have hg15 : GrowR (Rep1 (RepS true (d + 1)) fCreateTopicsRequestTopic_4.of fCreateTopicsRequestTopic_4.sub) 3 (OkF okT w.heap.size w1.heap.size) w14.heap.size (w.heap.size + 2) w15 217 (.slice (some ⟨w14.heap.size, 0, none⟩) 0 (t.at 4).l.length) [] := GrowR.made hrow15 (size_madeCells _ _) (Nat.le_refl _)
    have hU15 : Upd (fun b => b = (w.heap.size + 2)) w1 w15 := hU14.trans hV15
    have htb15 := hU15.blk_some htb1 htv
    have hvl15 : (w.heap.size + 2) < w15.heap.size := Nat.lt_of_lt_of_le hvl1 hU15.size
    have hsz15 := hU15.size
    clear hvl14 hsz14
    clear hw15 hrow15
    repeat ((first | refine W.seqR rfl ?_ | refine W.seq ?_ | refine W.regR rfl ?_ | refine W.condK ?_ | refine W.block ?_ | refine W.skip ?_ | refine W.ret ?_ | refine W.exit ?_); try simp (maxSteps := 1000000) (disch := (first | omega | (simp only [World.size_alloc, size_wr, size_drew] <;> omega) | exact not_noB _)) only [go_sem, ↓reduceIte, n0, reduceCtorEq, n1, n2, n3, n4, n5, i0, i1, i2, i3, i4, i5, i6, i7, hb15, htb15, hr1, hr2, hr3])
    refine (iat_fn (ok := (OkS okT w.heap.size)) t 4 _ _ (ht1.keep (hU15.keeps fun b _ hk e => hoS b hk e)) (by decide) hllt).mono ?_
    rintro r16 w16 ⟨⟨ca16, rfl, hca16⟩, hEa16⟩
    obtain ⟨vSa16, vLa16, vUa16, rfl, hna16, hSa16, hLa16, hUa16⟩ := hca16.inv
    obtain ⟨bSa16, cSa16, rfl, hcSa16⟩ := hSa16.shape
    obtain ⟨bLa16, cLa16, rfl, hcLa16⟩ := SlR.shape hLa16
    have hfU16 := SlR.flat hUa16
    clear hcSa16 hcLa16 hna16
    have hV16 : Upd (fun b => b = (w.heap.size + 2)) w15 w16 := hEa16.mono fun _ h => h.elim
    have hU16 : Upd (fun b => b = (w.heap.size + 2)) w1 w16 := hU15.trans hV16
    have htb16 := hU16.blk_some htb1 htv
    have hvl16 : (w.heap.size + 2) < w16.heap.size := Nat.lt_of_lt_of_le hvl1 hU16.size
    have hsz16 := hU16.size
    clear hvl15 hsz15
    have hb16 : blk w16 (w.heap.size + 2) = some (#[strV (t.at 0).s, .int .i32 (IntKind.i32.wrap (t.at 1).n), .int .i16 (IntKind.i16.wrap (t.at 2).n), .slice al3 (t.at 3).l.length kl3, .slice (some ⟨w14.heap.size, 0, none⟩) 0 (t.at 4).l.length, .map none], 209, (0, 0)) := hEa16.blk_some hb15 id
    have hg16 := hg15.ext (Rep1_lay _ _ fun _ => RepS_lay true (d + 1) _) hEa16
    simp (maxSteps := 1000000) (disch := (first | omega | (simp only [World.size_alloc, size_wr, size_drew] <;> omega) | exact not_noB _)) only [go_sem, ↓reduceIte, n0, reduceCtorEq, n1, n2, n3, n4, n5, i0, i1, i2, i3, i4, i5, i6, i7, hb16, htb16, hr1, hr2, hr3]
    repeat ((first | refine W.seqR rfl ?_ | refine W.seq ?_ | refine W.regR rfl ?_ | refine W.condK ?_ | refine W.block ?_ | refine W.skip ?_ | refine W.ret ?_ | refine W.exit ?_); try simp (maxSteps := 1000000) (disch := (first | omega | (simp only [World.size_alloc, size_wr, size_drew] <;> omega) | exact not_noB _)) only [go_sem, ↓reduceIte, n0, reduceCtorEq, n1, n2, n3, n4, n5, i0, i1, i2, i3, i4, i5, i6, i7, hb16, htb16, hr1, hr2, hr3])
    have hVb4 : Upd (fun b => b = (w.heap.size + 2)) w14 w16 := hV15.trans hV16
    have hUb4 := hU14
    have hvlB4 : (w.heap.size + 2) < w14.heap.size := Nat.lt_of_lt_of_le hvl1 hszB4
    have hszL4 : w14.heap.size ≤ w16.heap.size := hVb4.size
    refine W.exitJ 2 (fun ρ w' => ∃ v, ρ 1 = .pointer (some ⟨w.heap.size, 0, none⟩) ∧ ρ 2 = .pointer (some ⟨w.heap.size + 1, 0, none⟩) ∧ ρ 3 = .pointer (some ⟨(w.heap.size + 2), 0, none⟩) ∧ blk w' (w.heap.size + 2) = some (#[strV (t.at 0).s, .int .i32 (IntKind.i32.wrap (t.at 1).n), .int .i16 (IntKind.i16.wrap (t.at 2).n), .slice al3 (t.at 3).l.length kl3, v, .map none], 209, (0, 0)) ∧ GrowR (Rep1 (RepS true (d + 1)) fCreateTopicsRequestTopic_4.of fCreateTopicsRequestTopic_4.sub) 3 (OkF okT w.heap.size w1.heap.size) w14.heap.size (w.heap.size + 2) w' 217 v (t.at 4).l ∧ v ≠ .slice none 0 0 ∧ Upd (fun b => b = (w.heap.size + 2) ∨ w14.heap.size ≤ b) w16 w')
      (W.loop (fun ρ w' => ∃ (j : Nat) (v : Value), j ≤ (t.at 4).l.length ∧ ρ 65 = .int .i64 j ∧ ρ 64 = .int .i64 (t.at 4).l.length ∧ ρ 63 = .slice bLa16 (t.at 4).l.length cLa16 ∧ ρ 1 = .pointer (some ⟨w.heap.size, 0, none⟩) ∧ ρ 2 = .pointer (some ⟨w.heap.size + 1, 0, none⟩) ∧ ρ 3 = .pointer (some ⟨(w.heap.size + 2), 0, none⟩) ∧ blk w' (w.heap.size + 2) = some (#[strV (t.at 0).s, .int .i32 (IntKind.i32.wrap (t.at 1).n), .int .i16 (IntKind.i16.wrap (t.at 2).n), .slice al3 (t.at 3).l.length kl3, v, .map none], 209, (0, 0)) ∧ GrowR (Rep1 (RepS true (d + 1)) fCreateTopicsRequestTopic_4.of fCreateTopicsRequestTopic_4.sub) 3 (OkF okT w.heap.size w1.heap.size) w14.heap.size (w.heap.size + 2) w' 217 v ((t.at 4).l.take j) ∧ v ≠ .slice none 0 0 ∧ Upd (fun b => b = (w.heap.size + 2) ∨ w14.heap.size ≤ b) w16 w')
        (fun ρ _ => (t.at 4).l.length - (RowKit.intOf (ρ 65)).toNat) ?_ ?_) ?_
    · refine ⟨0, _, Nat.zero_le _, ?_, ?_, ?_, ?_, ?_, ?_, hb16, hg16, (by intro h; cases h), Upd.refl _ _⟩ <;> simp (maxSteps := 1000000) (disch := (first | omega | (simp only [World.size_alloc, size_wr, size_drew] <;> omega) | exact not_noB _)) only [go_sem, ↓reduceIte, n0, reduceCtorEq, n1, n2, n3, n4, n5, i0, i1, i2, i3, i4, i5, i6, i7, hr1, hr2, hr3]
      all_goals rfl
    · rintro ρ w_6 ⟨j, v, hj, hI, hN, hS, hr1, hr2, hr3, hbv, hg, hnil, hU_6⟩
      have hz_6 := hU_6.size
      have hJ_6 : Upd (fun b => b = (w.heap.size + 2)) w14 w_6 := hVb4.more hU_6 fun b hb h => h.elim id fun h => absurd h (by omega)
      have hU_16 : Upd (fun b => b = (w.heap.size + 2)) w1 w_6 := hUb4.trans hJ_6
      have hht_6 := hU_16.blk_some htb1 htv
      have hLt_6 := hLa16.keep (hU_6.keeps fun b _ hk e => e.elim (hoS b hk) fun e => by have := hk.2; omega)
      by_cases hlt : j < (t.at 4).l.length
      · obtain ⟨_, b, o, x, vS', vL', vU', hb, hokb, hx, hblt, hxs, hxe, q1, q2, q3, hc⟩ := TreesV.get hLt_6 hlt
        subst hb
        have hbS := (TreeC.inv hc)
        have hcat : (t.at 4).l.take (j + 1) = (t.at 4).l.take j ++ [(t.at 4).l[j]] := List.take_succ_eq_append_getElem hlt
        have hlen_9 : ((t.at 4).l.take j).length = j := by simp; omega
        have hgx := (g4.list rfl).2 _ (List.getElem_mem hlt)
        have hLx := (hLs.at 4).get hlt
        have hnb : ∀ b, b < w14.heap.size ∨ b = w_6.heap.size → ¬ ownB v b := fun b hb h => by
          have := hg.above h
          have := hg.below h
          omega
        generalize (t.at 4).l[j] = y at *
        obtain ⟨vSy, vLy, vUy, hcells, hny, hSy, hLy, hUy⟩ := hbS
        simp only [List.cons.injEq, true_and, and_true] at hcells
        obtain ⟨rfl, rfl, rfl⟩ := hcells
        obtain ⟨bSy, cSy, rfl, hcSy⟩ := hSy.shape
        repeat ((first | refine W.seqR rfl ?_ | refine W.seq ?_ | refine W.regR rfl ?_ | refine W.condK ?_ | refine W.block ?_ | refine W.skip ?_ | refine W.ret ?_ | refine W.exit ?_); try simp (maxSteps := 1000000) (disch := (first | omega | (simp only [World.size_alloc, size_wr, size_drew] <;> omega) | exact not_noB _)) only [go_sem, ↓reduceIte, n0, reduceCtorEq, n1, n2, n3, n4, n5, i0, i1, i2, i3, i4, i5, i6, i7, hI, hN, hS, hx, hxe, q1, q2, q3, cellsAt_five, Int.toNat_natCast])
        generalize hw_7 : (wr (w_6.alloc (.cells #[.int .i64 0, .slice none 0 0, .bool false, .slice none 0 0, .slice none 0 0] 39)) w_6.heap.size 0 [.int .i64 y.n, .slice bSy y.s.length cSy, .bool y.null, vL', vU']) = w_7
        have hE_7 : Ext w_6 w_7 := by rw [← hw_7]; exact (Upd.alloc (Upd.refl _ _) _).wr _ _ (.inl (Nat.le_refl _))
        have hb_7 : blk w_7 w_6.heap.size = some (#[.int .i64 y.n, .slice bSy y.s.length cSy, .bool y.null, vL', vU'], 39, (0, 0)) := by rw [← hw_7]; simp (maxSteps := 1000000) (disch := (first | omega | (simp only [World.size_alloc, size_wr, size_drew] <;> omega) | exact not_noB _)) only [go_sem, ↓reduceIte, n0, reduceCtorEq, n1, n2, n3, n4, n5, i0, i1, i2, i3, i4, i5, i6, i7]
        have hz_7 : w_7.heap.size = w_6.heap.size + 1 := by rw [← hw_7]; simp only [size_wr, World.size_alloc]
        have hbt_7 := hE_7.blk_some hbv id
        have hgv_7 := hE_7.blk_some hht_6 id
        have hc_7 := hc.keep (hE_7.keeps _)
        have hS_7 := hSy.keep (hE_7.keeps _)
        have hg_7 := hg.ext (Rep1_lay _ _ fun _ => RepS_lay true (d + 1) _) hE_7
        clear hw_7
        refine W.drawR (.take 0 (.take 1 (.take 2 (.only 3 (.only 4 (.only 5 (.take 6 (.last 7)))))))) (ownB v) mixed (by kernel_rfl) ?_
        simp (maxSteps := 1000000) (disch := (first | omega | (simp only [World.size_alloc, size_wr, size_drew] <;> omega) | exact not_noB _ | (refine hnb _ ?_; first | omega | (simp only [World.size_alloc, size_wr, size_drew] <;> omega)))) only [go_sem, ↓reduceIte, n0, reduceCtorEq, n1, n2, n3, n4, n5, i0, i1, i2, i3, i4, i5, i6, i7, hr1, hr2, hr3, hbt_7, hb_7, hgv_7, cellsAt_five]
        have hE_7d : Ext w_7 w_7.drew := (Upd.refl _ _).drew
        have hg_7d := hg_7.ext (Rep1_lay _ _ fun _ => RepS_lay true (d + 1) _) hE_7d
        have hzd : w_7.drew.heap.size = w_7.heap.size := size_drew _
        have hbt_7d := hE_7d.blk_some hbt_7 id
        refine (makeCreateTopicsRequestTopicConfig_fn (d := d) (okT := (OkS okT w.heap.size)) (V := V) y _ w_7.drew (hc_7.keep (hE_7d.keeps _)) (hgx.2.2 rfl) hLx).mono ?_
        rintro r8 w_8 ⟨⟨cs8, rfl, hc_8⟩, hE_8⟩
        obtain ⟨hfl_8, hcl_8⟩ := (RepS_lay true (d + 1) fs_CreateTopicsRequestTopicConfig).flat hc_8
        obtain ⟨y0, y1, y2, rfl⟩ : ∃ y0 y1 y2, cs8 = [y0, y1, y2] := by
          have hcl_8' : cs8.length = 3 := hcl_8
          match cs8, hcl_8' with
          | [y0, y1, y2], _ => exact ⟨y0, y1, y2, rfl⟩
        simp only [List.all_cons, List.all_nil, Bool.and_true, Bool.and_eq_true] at hfl_8
        obtain ⟨fy0, fy1, fy2⟩ := hfl_8
        have hz_8 := hE_8.size
        have hM_8 : Upd (ownB v) w_7.drew w_8 := hE_8.mono (fun _ h => h.elim)
        refine ⟨hM_8, ?_⟩
        have hE_9 : Ext w_8 (w_8.alloc (.cells #[y0, y1, y2] 217)) := Upd.alloc (Upd.refl _ _) _
        have hM_9 : Upd (ownB v) w_7.drew (w_8.alloc (.cells #[y0, y1, y2] 217)) := hM_8.alloc _
        simp (maxSteps := 1000000) (disch := (first | omega | (simp only [World.size_alloc, size_wr, size_drew] <;> omega) | exact not_noB _)) only [go_sem, ↓reduceIte, n0, reduceCtorEq, n1, n2, n3, n4, n5, i0, i1, i2, i3, i4, i5, i6, i7, hr1, hr2, hr3, hbt_7d, fy0, fy1, fy2]
        refine ⟨hM_9, ?_⟩
        have hE_79 : Ext w_7.drew (w_8.alloc (.cells #[y0, y1, y2] 217)) := hE_8.trans hE_9
        have hg_9 := (hg_7d.ext (Rep1_lay _ _ fun _ => RepS_lay true (d + 1) _) hE_8).ext (Rep1_lay _ _ fun _ => RepS_lay true (d + 1) _) hE_9
        have hx_9 : Rep1 (RepS true (d + 1)) fCreateTopicsRequestTopic_4.of fCreateTopicsRequestTopic_4.sub (fun b => (OkF okT w.heap.size w1.heap.size) b ∧ b ≠ (w.heap.size + 2) ∧ ¬ ownB v b) (w_8.alloc (.cells #[y0, y1, y2] 217)) y [y0, y1, y2] :=
          Rep1_part.2 (((RepS_lay true (d + 1) fs_CreateTopicsRequestTopicConfig).keep hc_8 (hE_9.keeps _)) |> fun h => (RepS_lay true (d + 1) fs_CreateTopicsRequestTopicConfig).weaken h fun b _ hk => by
            rcases hk with hk | hk
            · exact ⟨.inl hk, hoS b hk, fun h => by have := hg.above h; have := hk.2; omega⟩
            · exact ⟨.inr (by omega), by omega, fun h => by have := hg.below h; omega⟩)
        obtain ⟨css, hown, hall⟩ := hg_9.ex
        have hcl_9 := hall.1
        refine wp_append ap_207_207 (m := 1) (news := [y0, y1, y2]) (n := css.length) (cs := css.flatten) (v := v) ?_ rfl hown.1 (all2_flat_R (Rep1_lay _ _ fun _ => RepS_lay true (d + 1) _) hall) (Src.blk (fr := (0, 0)) (T := 217) (blk_alloc_new (by first | rfl | omega | (simp only [size_drew]; omega))) rfl (by simp only [List.all_cons, List.all_nil, Bool.and_true, Bool.and_eq_true]; exact ⟨fy0, fy1, fy2⟩)) ?_ ?_ ?_
        · simp (maxSteps := 1000000) (disch := (first | omega | (simp only [World.size_alloc, size_wr, size_drew] <;> omega) | exact not_noB _)) only [go_sem, ↓reduceIte, n0, reduceCtorEq, n1, n2, n3, n4, n5, i0, i1, i2, i3, i4, i5, i6, i7]
        · simp only [World.size_alloc, size_drew]; omega
        · omega
        intro v' w_10 ho hu hfr
        have hg_10 := GrowR.snoc (Rep1_lay _ _ fun _ => RepS_lay true (d + 1) _) hown hall hx_9 hu hfr ho
        have hz_10 := hu.size
        simp only [World.size_alloc, size_drew] at hz_10
        obtain ⟨va, vc, hv', _⟩ := ho.shape
        subst hv'
        have hbt_10 := (hM_9.trans hu).blk_some hbt_7d (hnb _ (.inl hvlB4))
        have htb' : ¬ ownB (.slice va (css.length + 1) vc) (w.heap.size + 2) := fun h => by
          rcases hfr _ h with h | h
          · exact hnb _ (.inl hvlB4) h
          · simp only [World.size_alloc, size_drew] at h; omega
        simp (maxSteps := 1000000) (disch := (first | omega | (simp only [World.size_alloc, size_wr, size_drew] <;> omega) | exact not_noB _)) only [go_sem, ↓reduceIte, n0, reduceCtorEq, n1, n2, n3, n4, n5, i0, i1, i2, i3, i4, i5, i6, i7]
        refine ⟨hM_9.trans hu, ?_⟩
        simp (maxSteps := 1000000) (disch := (first | omega | (simp only [World.size_alloc, size_wr, size_drew] <;> omega) | exact not_noB _)) only [go_sem, ↓reduceIte, n0, reduceCtorEq, n1, n2, n3, n4, n5, i0, i1, i2, i3, i4, i5, i6, i7, hr1, hr2, hr3, hbt_10]
        repeat ((first | refine W.seqR rfl ?_ | refine W.seq ?_ | refine W.regR rfl ?_ | refine W.condK ?_ | refine W.block ?_ | refine W.skip ?_ | refine W.ret ?_ | refine W.exit ?_); try simp (maxSteps := 1000000) (disch := (first | omega | (simp only [World.size_alloc, size_wr, size_drew] <;> omega) | exact not_noB _)) only [go_sem, ↓reduceIte, n0, reduceCtorEq, n1, n2, n3, n4, n5, i0, i1, i2, i3, i4, i5, i6, i7, hI])
        refine ⟨⟨j + 1, .slice va (css.length + 1) vc, by omega, rfl, hN, hS, hr1, hr2, hr3, ?_, ?_, ?_, ?_⟩, ?_⟩
        · simp (maxSteps := 1000000) (disch := (first | omega | (simp only [World.size_alloc, size_wr, size_drew] <;> omega) | exact not_noB _)) only [go_sem, ↓reduceIte, n0, reduceCtorEq, n1, n2, n3, n4, n5, i0, i1, i2, i3, i4, i5, i6, i7, hbt_10]
        · rw [hcat]; exact hg_10.upd (Rep1_lay _ _ fun _ => RepS_lay true (d + 1) _) ((Upd.refl _ _).wr _ _ (.inr rfl)) htb'
        · intro h; cases h
        · refine Upd.wr ?_ _ _ (.inr (.inl rfl))
          exact hU_6.more (((hE_7.mono fun _ h => h.elim).trans (hE_7d.mono fun _ h => h.elim)).trans (hM_9.trans hu)) fun b hb h => .inr (hg.above h)
        · simp only [RowKit.intOf]; omega
      · have hjl : j = (t.at 4).l.length := by omega
        subst hjl
        rw [List.take_length] at hg
        repeat ((first | refine W.seqR rfl ?_ | refine W.seq ?_ | refine W.regR rfl ?_ | refine W.condK ?_ | refine W.block ?_ | refine W.skip ?_ | refine W.ret ?_ | refine W.exit ?_); try simp (maxSteps := 1000000) (disch := (first | omega | (simp only [World.size_alloc, size_wr, size_drew] <;> omega) | exact not_noB _)) only [go_sem, ↓reduceIte, n0, reduceCtorEq, n1, n2, n3, n4, n5, i0, i1, i2, i3, i4, i5, i6, i7, hI, hN])
        exact ⟨v, hr1, hr2, hr3, hbv, hg, hnil, hU_6⟩
    · rintro ρ w17 ⟨v4, hr1, hr2, hr3, hb17, hg17, hnil4, hK17⟩
      have hV17 : Upd (fun b => b = (w.heap.size + 2)) w14 w17 := hVb4.more hK17 fun b hb h => h.elim id fun h => absurd h (by omega)
      have hU17 : Upd (fun b => b = (w.heap.size + 2)) w1 w17 := hU14.trans hV17
      have htb17 := hU17.blk_some htb1 htv
      have hvl17 : (w.heap.size + 2) < w17.heap.size := Nat.lt_of_lt_of_le hvl1 hU17.size
      have hsz17 := hU17.size
      clear hvl16 hsz16
      obtain ⟨al4, kl4, rfl, _⟩ := hg17.shape
      have hf4 : RepF (RepS true (d + 1)) (szS true (d + 1)) fCreateTopicsRequestTopic_4 (OkF okT w.heap.size w1.heap.size) w17 (t.at 4) [.slice al4 (t.at 4).l.length kl4] := (RepF_list rfl hn0_4).2 ⟨_, rfl, hg17.sl (Rep1_lay _ _ fun _ => RepS_lay true (d + 1) _) (fun _ _ h => h) (fun b hb => .inr (by omega)), hg17.some hnil4⟩
      repeat ((first | refine W.seqR rfl ?_ | refine W.seq ?_ | refine W.regR rfl ?_ | refine W.condK ?_ | refine W.block ?_ | refine W.skip ?_ | refine W.ret ?_ | refine W.exit ?_); try simp (maxSteps := 1000000) (disch := (first | omega | (simp only [World.size_alloc, size_wr, size_drew] <;> omega) | exact not_noB _)) only [go_sem, ↓reduceIte, n0, reduceCtorEq, n1, n2, n3, n4, n5, i0, i1, i2, i3, i4, i5, i6, i7, hb17, htb17, hr1, hr2, hr3])
      have hUv := hU1v.keep (hU17.keeps fun b _ hk e => hoS b hk e)
      refine W.loop (fun ρ w' => ∃ (j : Nat) (q : Option Nat), j ≤ t.u.length ∧ ρ 80 = .int .i64 j ∧ ρ 79 = .int .i64 t.u.length ∧ ρ 78 = .slice bU t.u.length cU ∧ ρ 1 = .pointer (some ⟨w.heap.size, 0, none⟩) ∧ ρ 2 = .pointer (some ⟨w.heap.size + 1, 0, none⟩) ∧ ρ 3 = .pointer (some ⟨(w.heap.size + 2), 0, none⟩) ∧ blk w' (w.heap.size + 2) = some (#[strV (t.at 0).s, .int .i32 (IntKind.i32.wrap (t.at 1).n), .int .i16 (IntKind.i16.wrap (t.at 2).n), .slice al3 (t.at 3).l.length kl3, .slice al4 (t.at 4).l.length kl4, .map q], 209, (0, 0)) ∧ TagsG (OkS okT w.heap.size) w17.heap.size w' (.map q) (t.u.take j) ∧ Upd (fun b => b = (w.heap.size + 2)) w17 w')
          (fun ρ _ => t.u.length - (RowKit.intOf (ρ 80)).toNat) ?_ ?_
      · refine ⟨0, none, Nat.zero_le _, ?_, ?_, ?_, ?_, ?_, ?_, hb17, TagsG.start _ _ _, Upd.refl _ _⟩ <;> simp (maxSteps := 1000000) (disch := (first | omega | (simp only [World.size_alloc, size_wr, size_drew] <;> omega) | exact not_noB _)) only [go_sem, ↓reduceIte, n0, reduceCtorEq, n1, n2, n3, n4, n5, i0, i1, i2, i3, i4, i5, i6, i7, hr1, hr2, hr3]
        all_goals rfl
      · rintro ρ w_6 ⟨j, q, hj, hI, hN, hS, hr1, hr2, hr3, hbv, hG, hU_6⟩
        have hz_6 := hU_6.size
        have hUv_6 := hUv.keep (hU_6.keeps fun b _ hk e => hoS b hk e)
        have hU_16 : Upd (fun b => b = (w.heap.size + 2)) w1 w_6 := hU17.trans hU_6
        have hz_16 := hU_16.size
        by_cases hlt : j < t.u.length
        · obtain ⟨_, b, o, x, vv, hb, hokb, hx, hblt, hxs, hxe, _, _, hfv, hbvv, h32⟩ := TagsV.get hUv_6 hlt
          subst hb
          have hcat : t.u.take (j + 1) = t.u.take j ++ [t.u[j]] := List.take_succ_eq_append_getElem hlt
          have hnew : ∀ z ∈ t.u.take j, z.1 ≠ t.u[j].1 := by
            intro z hz
            obtain ⟨k, hk, rfl⟩ := List.getElem_of_mem hz
            simp only [List.length_take] at hk
            have := List.pairwise_iff_getElem.1 hfu.2.2 k j (by omega) hlt (by omega)
            rw [List.getElem_take]; omega
          generalize t.u[j] = y at *
          obtain ⟨bSy, cSy, rfl, hcSy⟩ := hbvv.shape
          repeat ((first | refine W.seqR rfl ?_ | refine W.seq ?_ | refine W.regR rfl ?_ | refine W.condK ?_ | refine W.block ?_ | refine W.skip ?_ | refine W.ret ?_ | refine W.exit ?_); try simp (maxSteps := 1000000) (disch := (first | omega | (simp only [World.size_alloc, size_wr, size_drew] <;> omega) | exact not_noB _)) only [go_sem, ↓reduceIte, n0, reduceCtorEq, n1, n2, n3, n4, n5, i0, i1, i2, i3, i4, i5, i6, i7, hI, hN, hS, hx, hxe, hfv, cellsAt_two, Int.toNat_natCast])
          generalize hw_7 : (wr (w_6.alloc (.cells #[.int .u32 0, .slice none 0 0] 64)) w_6.heap.size 0 [.int .u32 y.1, .slice bSy y.2.length cSy]) = w_7
          have hE_7 : Ext w_6 w_7 := by rw [← hw_7]; exact (Upd.alloc (Upd.refl _ _) _).wr _ _ (.inl (Nat.le_refl _))
          have hb_7 : blk w_7 w_6.heap.size = some (#[.int .u32 y.1, .slice bSy y.2.length cSy], 64, (0, 0)) := by rw [← hw_7]; simp (maxSteps := 1000000) (disch := (first | omega | (simp only [World.size_alloc, size_wr, size_drew] <;> omega) | exact not_noB _)) only [go_sem, ↓reduceIte, n0, reduceCtorEq, n1, n2, n3, n4, n5, i0, i1, i2, i3, i4, i5, i6, i7]
          have hz_7 : w_7.heap.size = w_6.heap.size + 1 := by rw [← hw_7]; simp only [size_wr, World.size_alloc]
          clear hw_7
          have hbt_7 := hE_7.blk_some hbv id
          simp (maxSteps := 1000000) (disch := (first | omega | (simp only [World.size_alloc, size_wr, size_drew] <;> omega) | exact not_noB _)) only [go_sem, ↓reduceIte, n0, reduceCtorEq, n1, n2, n3, n4, n5, i0, i1, i2, i3, i4, i5, i6, i7, hr1, hr2, hr3, hbt_7, hb_7, cellsAt_two]
          have hE_7d : Ext w_7 w_7 := Upd.refl _ _
          have hE_6d : Ext w_6 w_7 := hE_7.trans hE_7d
          have hG_7 : TagsG (OkS okT w.heap.size) w17.heap.size w_7 (.map q) (t.u.take j) := hG.keep fun b hb _ => hE_6d.keep b hb id
          have hbt_8 := hE_7d.blk_some hbt_7 id
          have hm_8 : (#[strV (t.at 0).s, .int .i32 (IntKind.i32.wrap (t.at 1).n), .int .i16 (IntKind.i16.wrap (t.at 2).n), .slice al3 (t.at 3).l.length kl3, .slice al4 (t.at 4).l.length kl4, .map q] : Array Value)[5]? = some (.map q) := rfl
          refine (TagsSet_fn (okT := (OkS okT w.heap.size)) (L := w17.heap.size) w_7 hG_7 (by have := hE_6d.size; omega) (by omega) hbt_8 (o := 5) hm_8 (thaw_00 _ _) y _ ((hbvv.weaken fun b _ hk => ⟨hk, by have := hk.2; omega⟩).keep (hE_6d.keeps _)) h32 hnew hoS).mono ?_
          rintro _ w_8 ⟨m', hb_8, hG_8, hM_8⟩
          simp only [List.setIfInBounds_toArray, List.set_cons_succ, List.set_cons_zero] at hb_8
          repeat ((first | refine W.seqR rfl ?_ | refine W.seq ?_ | refine W.regR rfl ?_ | refine W.condK ?_ | refine W.block ?_ | refine W.skip ?_ | refine W.ret ?_ | refine W.exit ?_); try simp (maxSteps := 1000000) (disch := (first | omega | (simp only [World.size_alloc, size_wr, size_drew] <;> omega) | exact not_noB _)) only [go_sem, ↓reduceIte, n0, reduceCtorEq, n1, n2, n3, n4, n5, i0, i1, i2, i3, i4, i5, i6, i7, hI])
          refine ⟨⟨j + 1, m', by omega, rfl, hN, hS, hr1, hr2, hr3, hb_8, by rw [hcat]; exact hG_8, ?_⟩, ?_⟩
          · exact hU_6.more ((hE_6d.mono fun _ h => h.elim).trans hM_8) fun b hb h => by
              rcases h with h | h
              · exact h
              · cases h; have := (hG.lt rfl).2; omega
          · simp only [RowKit.intOf]; omega
        · have hjl : j = t.u.length := by omega
          subst hjl
          rw [List.take_length] at hG
          have hT14 : Upd (fun b => b = (w.heap.size + 2)) w14 w_6 := hV17.trans hU_6
          have hT13 : Upd (fun b => b = (w.heap.size + 2)) w13 w_6 := hV14.trans hT14
          have hT12 : Upd (fun b => b = (w.heap.size + 2)) w12 w_6 := hV13.trans hT13
          have hT9 : Upd (fun b => b = (w.heap.size + 2)) w9 w_6 := hV12.trans hT12
          have hT8 : Upd (fun b => b = (w.heap.size + 2)) w8 w_6 := hV9.trans hT9
          have hT7 : Upd (fun b => b = (w.heap.size + 2)) w7 w_6 := hV8.trans hT8
          have hT6 : Upd (fun b => b = (w.heap.size + 2)) w6 w_6 := hV7.trans hT7
          have hT5 : Upd (fun b => b = (w.heap.size + 2)) w5 w_6 := hV6.trans hT6
          have hT4 : Upd (fun b => b = (w.heap.size + 2)) w4 w_6 := hV5.trans hT5
          have hT3 : Upd (fun b => b = (w.heap.size + 2)) w3 w_6 := hV4.trans hT4
          have hT2 : Upd (fun b => b = (w.heap.size + 2)) w2 w_6 := hV3.trans hT3
          have hT1 : Upd (fun b => b = (w.heap.size + 2)) w1 w_6 := hV2.trans hT2
          have hz0_f := hf0.keepS (hT3.keeps fun b _ hk e => hoF b hk e)
          have hz1_f := hf1.keepS (hT5.keeps fun b _ hk e => hoF b hk e)
          have hz2_f := hf2.keepS (hT7.keeps fun b _ hk e => hoF b hk e)
          have hz3_f := hf3.keepS (hT12.keeps fun b _ hk e => hoF b hk e)
          have hz4_f := hf4.keepS (hU_6.keeps fun b _ hk e => hoF b hk e)
          have hTg := hG.tags (ok' := (OkF okT w.heap.size w1.heap.size)) (fun b _ hk => .inl hk) (fun b hb => .inr (by omega))
          have hL : RepL (RepS true (d + 1)) (szS true (d + 1)) (OkF okT w.heap.size w1.heap.size) w_6 t [fCreateTopicsRequestTopic_0, fCreateTopicsRequestTopic_1, fCreateTopicsRequestTopic_2, fCreateTopicsRequestTopic_3, fCreateTopicsRequestTopic_4] 0 [strV (t.at 0).s, .int .i32 (IntKind.i32.wrap (t.at 1).n), .int .i16 (IntKind.i16.wrap (t.at 2).n), .slice al3 (t.at 3).l.length kl3, .slice al4 (t.at 4).l.length kl4] := (RepL.cons1 hz0_f (RepL.cons1 hz1_f (RepL.cons1 hz2_f (RepL.cons1 hz3_f (RepL.cons1 hz4_f RepL.nil)))))
          have hR : RepS true (d + 2) fs_CreateTopicsRequestTopic (OkF okT w.heap.size w1.heap.size) w_6 t [strV (t.at 0).s, .int .i32 (IntKind.i32.wrap (t.at 1).n), .int .i16 (IntKind.i16.wrap (t.at 2).n), .slice al3 (t.at 3).l.length kl3, .slice al4 (t.at 4).l.length kl4, .map q] := RepS.intro (c := [strV (t.at 0).s, .int .i32 (IntKind.i32.wrap (t.at 1).n), .int .i16 (IntKind.i16.wrap (t.at 2).n), .slice al3 (t.at 3).l.length kl3, .slice al4 (t.at 4).l.length kl4]) rfl hL hTg
          have hcA : cellsAt #[strV (t.at 0).s, .int .i32 (IntKind.i32.wrap (t.at 1).n), .int .i16 (IntKind.i16.wrap (t.at 2).n), .slice al3 (t.at 3).l.length kl3, .slice al4 (t.at 4).l.length kl4, .map q] 0 6 = some (.agg #[strV (t.at 0).s, .int .i32 (IntKind.i32.wrap (t.at 1).n), .int .i16 (IntKind.i16.wrap (t.at 2).n), .slice al3 (t.at 3).l.length kl3, .slice al4 (t.at 4).l.length kl4, .map q]) := cellsAt_full rfl
          have hrb_6 := hT1.blk_some hrb1 (by omega)
          repeat ((first | refine W.seqR rfl ?_ | refine W.seq ?_ | refine W.regR rfl ?_ | refine W.condK ?_ | refine W.block ?_ | refine W.skip ?_ | refine W.ret ?_ | refine W.exit ?_); try simp (maxSteps := 1000000) (disch := (first | omega | (simp only [World.size_alloc, size_wr, size_drew] <;> omega) | exact not_noB _)) only [go_sem, ↓reduceIte, n0, reduceCtorEq, n1, n2, n3, n4, n5, i0, i1, i2, i3, i4, i5, i6, i7, hI, hN, hr1, hr2, hr3, hbv, hrb_6, hcA])
          have hUr : Upd (fun b => b = w.heap.size + 1) w_6 (wr w_6 (w.heap.size + 1) 0 [strV (t.at 0).s, .int .i32 (IntKind.i32.wrap (t.at 1).n), .int .i16 (IntKind.i16.wrap (t.at 2).n), .slice al3 (t.at 3).l.length kl3, .slice al4 (t.at 4).l.length kl4, .map q]) := (Upd.refl _ _).wr _ _ (.inr rfl)
          refine ⟨⟨_, rfl, (RepS_lay true (d + 2) fs_CreateTopicsRequestTopic).weaken ((RepS_lay true (d + 2) fs_CreateTopicsRequestTopic).keep hR (hUr.keeps fun b _ hk e => hoR b hk e)) (fun b _ hk => hk.imp And.left fun h => by omega)⟩, ?_⟩
          exact (hE1.more hT1 fun b hb h => by omega).wr _ _ (.inl (by omega))

set_option maxHeartbeats 2000000 in
theorem fillCreateTopicsRequest_fn {d : Nat} {okT : Blocks} {V ver : Int} (t : Tree) (ct : List Value) (w : World) {vb : Nat} (hvb : blk w vb = some (#[.int .i16 ver, .slice none 0 0, .int .i32 0, .bool false, .map none], 123, (0, 0))) (ht : TreeC okT w t ct) (hok : ∀ b, okT b → b ≠ vb) (hfit : FitP V (d + 3) fs_CreateTopicsRequest t) (hLs : Lists t) :
    Fn Try.prog 112 #[.pointer (some ⟨vb, 0, none⟩), .agg ct.toArray] w fun _ w' => ∃ cells, blk w' vb = some ((.int .i16 ver :: cells).toArray, 123, (0, 0)) ∧ RepS true (d + 3) fs_CreateTopicsRequest (okN okT w.heap.size) w' t cells ∧ Upd (fun b => b = vb) w w' := by
  obtain ⟨vS, vL, vU, rfl, hn, hSx, hLx0, hUx⟩ := ht.inv
  obtain ⟨bS, cS, rfl, hcS⟩ := hSx.shape
  obtain ⟨bL, cL, rfl, hcL⟩ := SlR.shape hLx0
  obtain ⟨bU, cU, rfl, hcU⟩ := SlR.shape hUx
  obtain ⟨⟨g0, g1, g2, -⟩, hfu⟩ := hfit
  replace g0 : FitF (FitP V (d + 2)) V fCreateTopicsRequest_0 (t.at 0) := g0
  replace g1 : FitF (FitP V (d + 2)) V fCreateTopicsRequest_1 (t.at 1) := g1
  replace g2 : FitF (FitP V (d + 2)) V fCreateTopicsRequest_2 (t.at 2) := g2
  have hllt : t.l.length < 4611686018427387903 := Nat.lt_of_le_of_lt hLs.len (by decide)
  have hul := hLs.ulen
  have hvl := blk_lt hvb
  refine fn_of_W Try.func112 rfl Try.results112 Try.ntmps112 rfl ?_
  obtain ⟨w1, hw1⟩ : ∃ w1, w1 = (w.alloc (.cells #[.int .i64 t.n, .slice bS t.s.length cS, .bool t.null, .slice bL t.l.length cL, .slice bU t.u.length cU] 39)) := ⟨_, rfl⟩
  have hE1 : Ext w w1 := by rw [hw1]; exact Upd.alloc (Upd.refl _ _) _
  have hz1 : w1.heap.size = w.heap.size + 1 := by rw [hw1, World.size_alloc]
  have htb1 : blk w1 w.heap.size = some (#[.int .i64 t.n, .slice bS t.s.length cS, .bool t.null, .slice bL t.l.length cL, .slice bU t.u.length cU], 39, (0, 0)) := by rw [hw1]; exact blk_alloc_new rfl
  have hb1 : blk w1 vb = some (#[.int .i16 ver, .slice none 0 0, .int .i32 0, .bool false, .map none], 123, (0, 0)) := hE1.blk_some hvb id
  have hoS : ∀ b, (OkS okT w.heap.size) b → b ≠ vb := fun b h => hok b h.1
  have htv : ¬ w.heap.size = vb := by omega
  have hoF : ∀ b, (OkF okT w.heap.size w1.heap.size) b → b ≠ vb := fun b h => by
    rcases h with h | h
    · exact hoS b h
    · omega
  have hU1 : Upd (fun b => b = vb) w1 w1 := Upd.refl _ _
  have hvl1 := blk_lt hb1
  have hsz1 := Nat.le_refl w1.heap.size
  have ht1 : TreeC (OkS okT w.heap.size) w1 t [.int .i64 t.n, .slice bS t.s.length cS, .bool t.null, .slice bL t.l.length cL, .slice bU t.u.length cU] := (ht.weaken fun b h1 h2 => ⟨h2, h1⟩).keep (hE1.keeps _)
  have hU1v : TagsV (OkS okT w.heap.size) w1 (.slice bU t.u.length cU) t.u := (hUx.weaken fun b h1 h2 => ⟨h2, h1⟩).keep (hE1.keeps _)
  have hn0_0 : (t.at 0).null = false := g0.notnull (by decide)
  have hll0 := (g0.list rfl).1
  repeat ((first | refine W.seqR rfl ?_ | refine W.seq ?_ | refine W.regR rfl ?_ | refine W.condK ?_ | refine W.block ?_ | refine W.skip ?_ | refine W.ret ?_ | refine W.exit ?_); try simp (maxSteps := 1000000) (disch := (first | omega | (simp only [World.size_alloc, size_wr, size_drew] <;> omega) | exact not_noB _)) only [go_sem, ↓reduceIte, n0, reduceCtorEq, n1, n2, n3, n4, n5, i0, i1, i2, i3, i4, i5, i6, i7])
  rw [← hw1]
  clear hw1
  refine (iat_fn (ok := (OkS okT w.heap.size)) t 0 _ _ (ht1.keep (hU1.keeps fun b _ hk e => hoS b hk e)) (by decide) hllt).mono ?_
  rintro r2 w2 ⟨⟨ca2, rfl, hca2⟩, hEa2⟩
  obtain ⟨vSa2, vLa2, vUa2, rfl, hna2, hSa2, hLa2, hUa2⟩ := hca2.inv
  obtain ⟨bSa2, cSa2, rfl, hcSa2⟩ := hSa2.shape
  obtain ⟨bLa2, cLa2, rfl, hcLa2⟩ := SlR.shape hLa2
  have hfU2 := SlR.flat hUa2
  clear hcSa2 hcLa2 hna2
  have hV2 : Upd (fun b => b = vb) w1 w2 := hEa2.mono fun _ h => h.elim
  have hU2 : Upd (fun b => b = vb) w1 w2 := hU1.trans hV2
  have htb2 := hU2.blk_some htb1 htv
  have hvl2 : vb < w2.heap.size := Nat.lt_of_lt_of_le hvl1 hU2.size
  have hsz2 := hU2.size
  have hb2 : blk w2 vb = some (#[.int .i16 ver, .slice none 0 0, .int .i32 0, .bool false, .map none], 123, (0, 0)) := hEa2.blk_some hb1 id
  simp (maxSteps := 1000000) (disch := (first | omega | (simp only [World.size_alloc, size_wr, size_drew] <;> omega) | exact not_noB _)) only [go_sem, ↓reduceIte, n0, reduceCtorEq, n1, n2, n3, n4, n5, i0, i1, i2, i3, i4, i5, i6, i7, hn0_0, hb2, htb2]
  repeat ((first | refine W.seqR rfl ?_ | refine W.seq ?_ | refine W.regR rfl ?_ | refine W.condK ?_ | refine W.block ?_ | refine W.skip ?_ | refine W.ret ?_ | refine W.exit ?_); try simp (maxSteps := 1000000) (disch := (first | omega | (simp only [World.size_alloc, size_wr, size_drew] <;> omega) | exact not_noB _)) only [go_sem, ↓reduceIte, n0, reduceCtorEq, n1, n2, n3, n4, n5, i0, i1, i2, i3, i4, i5, i6, i7, hb2, htb2])
  refine (iat_fn (ok := (OkS okT w.heap.size)) t 0 _ _ (ht1.keep (hU2.keeps fun b _ hk e => hoS b hk e)) (by decide) hllt).mono ?_
  rintro r3 w3 ⟨⟨ca3, rfl, hca3⟩, hEa3⟩
  obtain ⟨vSa3, vLa3, vUa3, rfl, hna3, hSa3, hLa3, hUa3⟩ := hca3.inv
  obtain ⟨bSa3, cSa3, rfl, hcSa3⟩ := hSa3.shape
  obtain ⟨bLa3, cLa3, rfl, hcLa3⟩ := SlR.shape hLa3
  have hfU3 := SlR.flat hUa3
  clear hcSa3 hcLa3 hna3
  have hV3 : Upd (fun b => b = vb) w2 w3 := hEa3.mono fun _ h => h.elim
  have hU3 : Upd (fun b => b = vb) w1 w3 := hU2.trans hV3
  have htb3 := hU3.blk_some htb1 htv
  have hvl3 : vb < w3.heap.size := Nat.lt_of_lt_of_le hvl1 hU3.size
  have hsz3 := hU3.size
  clear hvl2 hsz2
  have hb3 : blk w3 vb = some (#[.int .i16 ver, .slice none 0 0, .int .i32 0, .bool false, .map none], 123, (0, 0)) := hEa3.blk_some hb2 id
  simp (maxSteps := 1000000) (disch := (first | omega | (simp only [World.size_alloc, size_wr, size_drew] <;> omega) | exact not_noB _)) only [go_sem, ↓reduceIte, n0, reduceCtorEq, n1, n2, n3, n4, n5, i0, i1, i2, i3, i4, i5, i6, i7, hb3, htb3]
  refine wp_make (T := 121) (E := 209) (size := 6) (bytes := 80) (z := (.agg #[.string ByteArray.empty, .int .i32 0, .int .i16 0, .slice none 0 0, .slice none 0 0, .map none])) (l := 0) (c := (t.at 0).l.length) (kl := .i64) (kc := .i64) (by kernel_rfl) (by kernel_rfl) (by simp (maxSteps := 1000000) (disch := (first | omega | (simp only [World.size_alloc, size_wr, size_drew] <;> omega) | exact not_noB _)) only [go_sem, ↓reduceIte, n0, reduceCtorEq, n1, n2, n3, n4, n5, i0, i1, i2, i3, i4, i5, i6, i7]; rfl) (by simp (maxSteps := 1000000) (disch := (first | omega | (simp only [World.size_alloc, size_wr, size_drew] <;> omega) | exact not_noB _)) only [go_sem, ↓reduceIte, n0, reduceCtorEq, n1, n2, n3, n4, n5, i0, i1, i2, i3, i4, i5, i6, i7]) (by omega) (by omega) (by omega) ?_
  simp (maxSteps := 1000000) (disch := (first | omega | (simp only [World.size_alloc, size_wr, size_drew] <;> omega) | exact not_noB _)) only [go_sem, ↓reduceIte, n0, reduceCtorEq, n1, n2, n3, n4, n5, i0, i1, i2, i3, i4, i5, i6, i7, hb3, hvl3, htb3]
  have hszB0 := hsz3
  generalize hw4 : wr (w3.alloc (.cells (madeCells #[.string ByteArray.empty, .int .i32 0, .int .i16 0, .slice none 0 0, .slice none 0 0, .map none] ((t.at 0).l.length * 6)) 209)) vb 1 [.slice (some ⟨w3.heap.size, 0, none⟩) 0 (t.at 0).l.length] = w4
  have hV4 : Upd (fun b => b = vb) w3 w4 := by rw [← hw4]; exact ((Upd.refl _ _).alloc _).wr _ _ (.inr rfl)
  have hb4 : blk w4 vb = some (#[.int .i16 ver, .slice (some ⟨w3.heap.size, 0, none⟩) 0 (t.at 0).l.length, .int .i32 0, .bool false, .map none], 123, (0, 0)) := by rw [← hw4, blk_wr_eq, blk_alloc_old hvl3, hb3]; rfl
  have hrow4 : blk w4 w3.heap.size = some (madeCells #[.string ByteArray.empty, .int .i32 0, .int .i16 0, .slice none 0 0, .slice none 0 0, .map none] ((t.at 0).l.length * 6), 209, (0, 0)) := by rw [← hw4, blk_wr_ne (Nat.ne_of_gt hvl3), blk_alloc_new rfl]
  have hg4 : GrowR (Rep1 (RepS true (d + 2)) fCreateTopicsRequest_0.of fCreateTopicsRequest_0.sub) 6 (OkF okT w.heap.size w1.heap.size) w3.heap.size vb w4 209 (.slice (some ⟨w3.heap.size, 0, none⟩) 0 (t.at 0).l.length) [] := GrowR.made hrow4 (size_madeCells _ _) (Nat.le_refl _)
  have hU4 : Upd (fun b => b = vb) w1 w4 := hU3.trans hV4
  have htb4 := hU4.blk_some htb1 htv
  have hvl4 : vb < w4.heap.size := Nat.lt_of_lt_of_le hvl1 hU4.size
  have hsz4 := hU4.size
  clear hvl3 hsz3
  clear hw4 hrow4
  repeat ((first | refine W.seqR rfl ?_ | refine W.seq ?_ | refine W.regR rfl ?_ | refine W.condK ?_ | refine W.block ?_ | refine W.skip ?_ | refine W.ret ?_ | refine W.exit ?_); try simp (maxSteps := 1000000) (disch := (first | omega | (simp only [World.size_alloc, size_wr, size_drew] <;> omega) | exact not_noB _)) only [go_sem, ↓reduceIte, n0, reduceCtorEq, n1, n2, n3, n4, n5, i0, i1, i2, i3, i4, i5, i6, i7, hb4, htb4])
  refine (iat_fn (ok := (OkS okT w.heap.size)) t 0 _ _ (ht1.keep (hU4.keeps fun b _ hk e => hoS b hk e)) (by decide) hllt).mono ?_
  rintro r5 w5 ⟨⟨ca5, rfl, hca5⟩, hEa5⟩
  obtain ⟨vSa5, vLa5, vUa5, rfl, hna5, hSa5, hLa5, hUa5⟩ := hca5.inv
  obtain ⟨bSa5, cSa5, rfl, hcSa5⟩ := hSa5.shape
  obtain ⟨bLa5, cLa5, rfl, hcLa5⟩ := SlR.shape hLa5
  have hfU5 := SlR.flat hUa5
  clear hcSa5 hcLa5 hna5
  have hV5 : Upd (fun b => b = vb) w4 w5 := hEa5.mono fun _ h => h.elim
  have hU5 : Upd (fun b => b = vb) w1 w5 := hU4.trans hV5
  have htb5 := hU5.blk_some htb1 htv
  have hvl5 : vb < w5.heap.size := Nat.lt_of_lt_of_le hvl1 hU5.size
  have hsz5 := hU5.size
  clear hvl4 hsz4
  have hb5 : blk w5 vb = some (#[.int .i16 ver, .slice (some ⟨w3.heap.size, 0, none⟩) 0 (t.at 0).l.length, .int .i32 0, .bool false, .map none], 123, (0, 0)) := hEa5.blk_some hb4 id
  have hg5 := hg4.ext (Rep1_lay _ _ fun _ => RepS_lay true (d + 2) _) hEa5
  simp (maxSteps := 1000000) (disch := (first | omega | (simp only [World.size_alloc, size_wr, size_drew] <;> omega) | exact not_noB _)) only [go_sem, ↓reduceIte, n0, reduceCtorEq, n1, n2, n3, n4, n5, i0, i1, i2, i3, i4, i5, i6, i7, hb5, htb5]
  repeat ((first | refine W.seqR rfl ?_ | refine W.seq ?_ | refine W.regR rfl ?_ | refine W.condK ?_ | refine W.block ?_ | refine W.skip ?_ | refine W.ret ?_ | refine W.exit ?_); try simp (maxSteps := 1000000) (disch := (first | omega | (simp only [World.size_alloc, size_wr, size_drew] <;> omega) | exact not_noB _)) only [go_sem, ↓reduceIte, n0, reduceCtorEq, n1, n2, n3, n4, n5, i0, i1, i2, i3, i4, i5, i6, i7, hb5, htb5])
  have hVb0 : Upd (fun b => b = vb) w3 w5 := hV4.trans hV5
  have hUb0 := hU3
  have hvlB0 : vb < w3.heap.size := Nat.lt_of_lt_of_le hvl1 hszB0
  have hszL0 : w3.heap.size ≤ w5.heap.size := hVb0.size
  refine W.exitJ 0 (fun ρ w' => ∃ v, ρ 0 = .pointer (some ⟨vb, 0, none⟩) ∧ ρ 3 = .pointer (some ⟨w.heap.size, 0, none⟩) ∧ blk w' vb = some (#[.int .i16 ver, v, .int .i32 0, .bool false, .map none], 123, (0, 0)) ∧ GrowR (Rep1 (RepS true (d + 2)) fCreateTopicsRequest_0.of fCreateTopicsRequest_0.sub) 6 (OkF okT w.heap.size w1.heap.size) w3.heap.size vb w' 209 v (t.at 0).l ∧ v ≠ .slice none 0 0 ∧ Upd (fun b => b = vb ∨ w3.heap.size ≤ b) w5 w')
    (W.loop (fun ρ w' => ∃ (j : Nat) (v : Value), j ≤ (t.at 0).l.length ∧ ρ 24 = .int .i64 j ∧ ρ 23 = .int .i64 (t.at 0).l.length ∧ ρ 22 = .slice bLa5 (t.at 0).l.length cLa5 ∧ ρ 0 = .pointer (some ⟨vb, 0, none⟩) ∧ ρ 3 = .pointer (some ⟨w.heap.size, 0, none⟩) ∧ blk w' vb = some (#[.int .i16 ver, v, .int .i32 0, .bool false, .map none], 123, (0, 0)) ∧ GrowR (Rep1 (RepS true (d + 2)) fCreateTopicsRequest_0.of fCreateTopicsRequest_0.sub) 6 (OkF okT w.heap.size w1.heap.size) w3.heap.size vb w' 209 v ((t.at 0).l.take j) ∧ v ≠ .slice none 0 0 ∧ Upd (fun b => b = vb ∨ w3.heap.size ≤ b) w5 w')
      (fun ρ _ => (t.at 0).l.length - (RowKit.intOf (ρ 24)).toNat) ?_ ?_) ?_
  · refine ⟨0, _, Nat.zero_le _, ?_, ?_, ?_, ?_, ?_, hb5, hg5, (by intro h; cases h), Upd.refl _ _⟩ <;> simp (maxSteps := 1000000) (disch := (first | omega | (simp only [World.size_alloc, size_wr, size_drew] <;> omega) | exact not_noB _)) only [go_sem, ↓reduceIte, n0, reduceCtorEq, n1, n2, n3, n4, n5, i0, i1, i2, i3, i4, i5, i6, i7]
    all_goals rfl
  · rintro ρ w_6 ⟨j, v, hj, hI, hN, hS, hr0, hr3, hbv, hg, hnil, hU_6⟩
    have hz_6 := hU_6.size
    have hJ_6 : Upd (fun b => b = vb) w3 w_6 := hVb0.more hU_6 fun b hb h => h.elim id fun h => absurd h (by omega)
    have hU_16 : Upd (fun b => b = vb) w1 w_6 := hUb0.trans hJ_6
    have hht_6 := hU_16.blk_some htb1 htv
    have hLt_6 := hLa5.keep (hU_6.keeps fun b _ hk e => e.elim (hoS b hk) fun e => by have := hk.2; omega)
    by_cases hlt : j < (t.at 0).l.length
    · obtain ⟨_, b, o, x, vS', vL', vU', hb, hokb, hx, hblt, hxs, hxe, q1, q2, q3, hc⟩ := TreesV.get hLt_6 hlt
      subst hb
      have hbS := (TreeC.inv hc)
      have hcat : (t.at 0).l.take (j + 1) = (t.at 0).l.take j ++ [(t.at 0).l[j]] := List.take_succ_eq_append_getElem hlt
      have hlen_9 : ((t.at 0).l.take j).length = j := by simp; omega
      have hgx := (g0.list rfl).2 _ (List.getElem_mem hlt)
      have hLx := (hLs.at 0).get hlt
      have hnb : ∀ b, b < w3.heap.size ∨ b = w_6.heap.size → ¬ ownB v b := fun b hb h => by
        have := hg.above h
        have := hg.below h
        omega
      generalize (t.at 0).l[j] = y at *
      obtain ⟨vSy, vLy, vUy, hcells, hny, hSy, hLy, hUy⟩ := hbS
      simp only [List.cons.injEq, true_and, and_true] at hcells
      obtain ⟨rfl, rfl, rfl⟩ := hcells
      obtain ⟨bSy, cSy, rfl, hcSy⟩ := hSy.shape
      repeat ((first | refine W.seqR rfl ?_ | refine W.seq ?_ | refine W.regR rfl ?_ | refine W.condK ?_ | refine W.block ?_ | refine W.skip ?_ | refine W.ret ?_ | refine W.exit ?_); try simp (maxSteps := 1000000) (disch := (first | omega | (simp only [World.size_alloc, size_wr, size_drew] <;> omega) | exact not_noB _)) only [go_sem, ↓reduceIte, n0, reduceCtorEq, n1, n2, n3, n4, n5, i0, i1, i2, i3, i4, i5, i6, i7, hI, hN, hS, hx, hxe, q1, q2, q3, cellsAt_five, Int.toNat_natCast])
      generalize hw_7 : (wr (w_6.alloc (.cells #[.int .i64 0, .slice none 0 0, .bool false, .slice none 0 0, .slice none 0 0] 39)) w_6.heap.size 0 [.int .i64 y.n, .slice bSy y.s.length cSy, .bool y.null, vL', vU']) = w_7
      have hE_7 : Ext w_6 w_7 := by rw [← hw_7]; exact (Upd.alloc (Upd.refl _ _) _).wr _ _ (.inl (Nat.le_refl _))
      have hb_7 : blk w_7 w_6.heap.size = some (#[.int .i64 y.n, .slice bSy y.s.length cSy, .bool y.null, vL', vU'], 39, (0, 0)) := by rw [← hw_7]; simp (maxSteps := 1000000) (disch := (first | omega | (simp only [World.size_alloc, size_wr, size_drew] <;> omega) | exact not_noB _)) only [go_sem, ↓reduceIte, n0, reduceCtorEq, n1, n2, n3, n4, n5, i0, i1, i2, i3, i4, i5, i6, i7]
      have hz_7 : w_7.heap.size = w_6.heap.size + 1 := by rw [← hw_7]; simp only [size_wr, World.size_alloc]
      have hbt_7 := hE_7.blk_some hbv id
      have hgv_7 := hE_7.blk_some hht_6 id
      have hc_7 := hc.keep (hE_7.keeps _)
      have hS_7 := hSy.keep (hE_7.keeps _)
      have hg_7 := hg.ext (Rep1_lay _ _ fun _ => RepS_lay true (d + 2) _) hE_7
      clear hw_7
      refine W.drawR (.take 0 (.take 1 (.take 2 (.take 3 (.take 4 (.take 5 (.only 6 (.only 7 (.only 8 (.take 9 (.take 10 (.last 11)))))))))))) (ownB v) mixed (by kernel_rfl) ?_
      simp (maxSteps := 1000000) (disch := (first | omega | (simp only [World.size_alloc, size_wr, size_drew] <;> omega) | exact not_noB _ | (refine hnb _ ?_; first | omega | (simp only [World.size_alloc, size_wr, size_drew] <;> omega)))) only [go_sem, ↓reduceIte, n0, reduceCtorEq, n1, n2, n3, n4, n5, i0, i1, i2, i3, i4, i5, i6, i7, hr0, hr3, hbt_7, hb_7, hgv_7, cellsAt_five]
      have hE_7d : Ext w_7 w_7.drew := (Upd.refl _ _).drew
      have hg_7d := hg_7.ext (Rep1_lay _ _ fun _ => RepS_lay true (d + 2) _) hE_7d
      have hzd : w_7.drew.heap.size = w_7.heap.size := size_drew _
      have hbt_7d := hE_7d.blk_some hbt_7 id
      refine (makeCreateTopicsRequestTopic_fn (d := d) (okT := (OkS okT w.heap.size)) (V := V) y _ w_7.drew (hc_7.keep (hE_7d.keeps _)) (hgx.2.2 rfl) hLx).mono ?_
      rintro r8 w_8 ⟨⟨cs8, rfl, hc_8⟩, hE_8⟩
      obtain ⟨hfl_8, hcl_8⟩ := (RepS_lay true (d + 2) fs_CreateTopicsRequestTopic).flat hc_8
      obtain ⟨y0, y1, y2, y3, y4, y5, rfl⟩ : ∃ y0 y1 y2 y3 y4 y5, cs8 = [y0, y1, y2, y3, y4, y5] := by
        have hcl_8' : cs8.length = 6 := hcl_8
        match cs8, hcl_8' with
        | [y0, y1, y2, y3, y4, y5], _ => exact ⟨y0, y1, y2, y3, y4, y5, rfl⟩
      simp only [List.all_cons, List.all_nil, Bool.and_true, Bool.and_eq_true] at hfl_8
      obtain ⟨fy0, fy1, fy2, fy3, fy4, fy5⟩ := hfl_8
      have hz_8 := hE_8.size
      have hM_8 : Upd (ownB v) w_7.drew w_8 := hE_8.mono (fun _ h => h.elim)
      refine ⟨hM_8, ?_⟩
      have hE_9 : Ext w_8 (w_8.alloc (.cells #[y0, y1, y2, y3, y4, y5] 209)) := Upd.alloc (Upd.refl _ _) _
      have hM_9 : Upd (ownB v) w_7.drew (w_8.alloc (.cells #[y0, y1, y2, y3, y4, y5] 209)) := hM_8.alloc _
      simp (maxSteps := 1000000) (disch := (first | omega | (simp only [World.size_alloc, size_wr, size_drew] <;> omega) | exact not_noB _)) only [go_sem, ↓reduceIte, n0, reduceCtorEq, n1, n2, n3, n4, n5, i0, i1, i2, i3, i4, i5, i6, i7, hr0, hr3, hbt_7d, fy0, fy1, fy2, fy3, fy4, fy5]
      refine ⟨hM_9, ?_⟩
      have hE_79 : Ext w_7.drew (w_8.alloc (.cells #[y0, y1, y2, y3, y4, y5] 209)) := hE_8.trans hE_9
      have hg_9 := (hg_7d.ext (Rep1_lay _ _ fun _ => RepS_lay true (d + 2) _) hE_8).ext (Rep1_lay _ _ fun _ => RepS_lay true (d + 2) _) hE_9
      have hx_9 : Rep1 (RepS true (d + 2)) fCreateTopicsRequest_0.of fCreateTopicsRequest_0.sub (fun b => (OkF okT w.heap.size w1.heap.size) b ∧ b ≠ vb ∧ ¬ ownB v b) (w_8.alloc (.cells #[y0, y1, y2, y3, y4, y5] 209)) y [y0, y1, y2, y3, y4, y5] :=
        Rep1_part.2 (((RepS_lay true (d + 2) fs_CreateTopicsRequestTopic).keep hc_8 (hE_9.keeps _)) |> fun h => (RepS_lay true (d + 2) fs_CreateTopicsRequestTopic).weaken h fun b _ hk => by
          rcases hk with hk | hk
          · exact ⟨.inl hk, hoS b hk, fun h => by have := hg.above h; have := hk.2; omega⟩
          · exact ⟨.inr (by omega), by omega, fun h => by have := hg.below h; omega⟩)
      obtain ⟨css, hown, hall⟩ := hg_9.ex
      have hcl_9 := hall.1
      refine wp_append ap_121_121 (m := 1) (news := [y0, y1, y2, y3, y4, y5]) (n := css.length) (cs := css.flatten) (v := v) ?_ rfl hown.1 (all2_flat_R (Rep1_lay _ _ fun _ => RepS_lay true (d + 2) _) hall) (Src.blk (fr := (0, 0)) (T := 209) (blk_alloc_new (by first | rfl | omega | (simp only [size_drew]; omega))) rfl (by simp only [List.all_cons, List.all_nil, Bool.and_true, Bool.and_eq_true]; exact ⟨fy0, fy1, fy2, fy3, fy4, fy5⟩)) ?_ ?_ ?_
      · simp (maxSteps := 1000000) (disch := (first | omega | (simp only [World.size_alloc, size_wr, size_drew] <;> omega) | exact not_noB _)) only [go_sem, ↓reduceIte, n0, reduceCtorEq, n1, n2, n3, n4, n5, i0, i1, i2, i3, i4, i5, i6, i7]
      · simp only [World.size_alloc, size_drew]; omega
      · omega
      intro v' w_10 ho hu hfr
      have hg_10 := GrowR.snoc (Rep1_lay _ _ fun _ => RepS_lay true (d + 2) _) hown hall hx_9 hu hfr ho
      have hz_10 := hu.size
      simp only [World.size_alloc, size_drew] at hz_10
      obtain ⟨va, vc, hv', _⟩ := ho.shape
      subst hv'
      have hbt_10 := (hM_9.trans hu).blk_some hbt_7d (hnb _ (.inl hvlB0))
      have htb' : ¬ ownB (.slice va (css.length + 1) vc) vb := fun h => by
        rcases hfr _ h with h | h
        · exact hnb _ (.inl hvlB0) h
        · simp only [World.size_alloc, size_drew] at h; omega
      simp (maxSteps := 1000000) (disch := (first | omega | (simp only [World.size_alloc, size_wr, size_drew] <;> omega) | exact not_noB _)) only [go_sem, ↓reduceIte, n0, reduceCtorEq, n1, n2, n3, n4, n5, i0, i1, i2, i3, i4, i5, i6, i7]
      refine ⟨hM_9.trans hu, ?_⟩
      simp (maxSteps := 1000000) (disch := (first | omega | (simp only [World.size_alloc, size_wr, size_drew] <;> omega) | exact not_noB _)) only [go_sem, ↓reduceIte, n0, reduceCtorEq, n1, n2, n3, n4, n5, i0, i1, i2, i3, i4, i5, i6, i7, hr0, hr3, hbt_10]
      repeat ((first | refine W.seqR rfl ?_ | refine W.seq ?_ | refine W.regR rfl ?_ | refine W.condK ?_ | refine W.block ?_ | refine W.skip ?_ | refine W.ret ?_ | refine W.exit ?_); try simp (maxSteps := 1000000) (disch := (first | omega | (simp only [World.size_alloc, size_wr, size_drew] <;> omega) | exact not_noB _)) only [go_sem, ↓reduceIte, n0, reduceCtorEq, n1, n2, n3, n4, n5, i0, i1, i2, i3, i4, i5, i6, i7, hI])
      refine ⟨⟨j + 1, .slice va (css.length + 1) vc, by omega, rfl, hN, hS, hr0, hr3, ?_, ?_, ?_, ?_⟩, ?_⟩
      · simp (maxSteps := 1000000) (disch := (first | omega | (simp only [World.size_alloc, size_wr, size_drew] <;> omega) | exact not_noB _)) only [go_sem, ↓reduceIte, n0, reduceCtorEq, n1, n2, n3, n4, n5, i0, i1, i2, i3, i4, i5, i6, i7, hbt_10]
      · rw [hcat]; exact hg_10.upd (Rep1_lay _ _ fun _ => RepS_lay true (d + 2) _) ((Upd.refl _ _).wr _ _ (.inr rfl)) htb'
      · intro h; cases h
      · refine Upd.wr ?_ _ _ (.inr (.inl rfl))
        exact hU_6.more (((hE_7.mono fun _ h => h.elim).trans (hE_7d.mono fun _ h => h.elim)).trans (hM_9.trans hu)) fun b hb h => .inr (hg.above h)
      · simp only [RowKit.intOf]; omega
    · have hjl : j = (t.at 0).l.length := by omega
      subst hjl
      rw [List.take_length] at hg
      repeat ((first | refine W.seqR rfl ?_ | refine W.seq ?_ | refine W.regR rfl ?_ | refine W.condK ?_ | refine W.block ?_ | refine W.skip ?_ | refine W.ret ?_ | refine W.exit ?_); try simp (maxSteps := 1000000) (disch := (first | omega | (simp only [World.size_alloc, size_wr, size_drew] <;> omega) | exact not_noB _)) only [go_sem, ↓reduceIte, n0, reduceCtorEq, n1, n2, n3, n4, n5, i0, i1, i2, i3, i4, i5, i6, i7, hI, hN])
      exact ⟨v, hr0, hr3, hbv, hg, hnil, hU_6⟩
  · rintro ρ w6 ⟨v0, hr0, hr3, hb6, hg6, hnil0, hK6⟩
    have hV6 : Upd (fun b => b = vb) w3 w6 := hVb0.more hK6 fun b hb h => h.elim id fun h => absurd h (by omega)
    have hU6 : Upd (fun b => b = vb) w1 w6 := hU3.trans hV6
    have htb6 := hU6.blk_some htb1 htv
    have hvl6 : vb < w6.heap.size := Nat.lt_of_lt_of_le hvl1 hU6.size
    have hsz6 := hU6.size
    clear hvl5 hsz5
    obtain ⟨al0, kl0, rfl, _⟩ := hg6.shape
    have hf0 : RepF (RepS true (d + 2)) (szS true (d + 2)) fCreateTopicsRequest_0 (OkF okT w.heap.size w1.heap.size) w6 (t.at 0) [.slice al0 (t.at 0).l.length kl0] := (RepF_list rfl hn0_0).2 ⟨_, rfl, hg6.sl (Rep1_lay _ _ fun _ => RepS_lay true (d + 2) _) (fun _ _ h => h) (fun b hb => .inr (by omega)), hg6.some hnil0⟩
    repeat ((first | refine W.seqR rfl ?_ | refine W.seq ?_ | refine W.regR rfl ?_ | refine W.condK ?_ | refine W.block ?_ | refine W.skip ?_ | refine W.ret ?_ | refine W.exit ?_); try simp (maxSteps := 1000000) (disch := (first | omega | (simp only [World.size_alloc, size_wr, size_drew] <;> omega) | exact not_noB _)) only [go_sem, ↓reduceIte, n0, reduceCtorEq, n1, n2, n3, n4, n5, i0, i1, i2, i3, i4, i5, i6, i7, hb6, htb6, hr0, hr3])
    refine (iat_fn (ok := (OkS okT w.heap.size)) t 1 _ _ (ht1.keep (hU6.keeps fun b _ hk e => hoS b hk e)) (by decide) hllt).mono ?_
    rintro r7 w7 ⟨⟨ca7, rfl, hca7⟩, hEa7⟩
    obtain ⟨vSa7, vLa7, vUa7, rfl, hna7, hSa7, hLa7, hUa7⟩ := hca7.inv
    obtain ⟨bSa7, cSa7, rfl, hcSa7⟩ := hSa7.shape
    obtain ⟨bLa7, cLa7, rfl, hcLa7⟩ := SlR.shape hLa7
    have hfU7 := SlR.flat hUa7
    clear hcSa7 hcLa7 hna7
    have hV7 : Upd (fun b => b = vb) w6 w7 := hEa7.mono fun _ h => h.elim
    have hU7 : Upd (fun b => b = vb) w1 w7 := hU6.trans hV7
    have htb7 := hU7.blk_some htb1 htv
    have hvl7 : vb < w7.heap.size := Nat.lt_of_lt_of_le hvl1 hU7.size
    have hsz7 := hU7.size
    clear hvl6 hsz6
    have hb7 : blk w7 vb = some (#[.int .i16 ver, .slice al0 (t.at 0).l.length kl0, .int .i32 0, .bool false, .map none], 123, (0, 0)) := hEa7.blk_some hb6 id
    simp (maxSteps := 1000000) (disch := (first | omega | (simp only [World.size_alloc, size_wr, size_drew] <;> omega) | exact not_noB _)) only [go_sem, ↓reduceIte, n0, reduceCtorEq, n1, n2, n3, n4, n5, i0, i1, i2, i3, i4, i5, i6, i7, hb7, htb7, hr0, hr3]
    generalize hw8 : wr w7 vb 2 [.int .i32 (IntKind.i32.wrap (t.at 1).n)] = w8
    have hV8 : Upd (fun b => b = vb) w7 w8 := by rw [← hw8]; exact (Upd.refl _ _).wr _ _ (.inr rfl)
    have hb8 : blk w8 vb = some (#[.int .i16 ver, .slice al0 (t.at 0).l.length kl0, .int .i32 (IntKind.i32.wrap (t.at 1).n), .bool false, .map none], 123, (0, 0)) := by rw [← hw8, blk_wr_eq, hb7]; rfl
    have hU8 : Upd (fun b => b = vb) w1 w8 := hU7.trans hV8
    have htb8 := hU8.blk_some htb1 htv
    have hvl8 : vb < w8.heap.size := Nat.lt_of_lt_of_le hvl1 hU8.size
    have hsz8 := hU8.size
    clear hvl7 hsz7
    clear hw8
    have hf1 : RepF (RepS true (d + 2)) (szS true (d + 2)) fCreateTopicsRequest_1 (OkF okT w.heap.size w1.heap.size) w8 (t.at 1) [.int .i32 (IntKind.i32.wrap (t.at 1).n)] := (RepF_num (by decide)).2 rfl
    repeat ((first | refine W.seqR rfl ?_ | refine W.seq ?_ | refine W.regR rfl ?_ | refine W.condK ?_ | refine W.block ?_ | refine W.skip ?_ | refine W.ret ?_ | refine W.exit ?_); try simp (maxSteps := 1000000) (disch := (first | omega | (simp only [World.size_alloc, size_wr, size_drew] <;> omega) | exact not_noB _)) only [go_sem, ↓reduceIte, n0, reduceCtorEq, n1, n2, n3, n4, n5, i0, i1, i2, i3, i4, i5, i6, i7, hb8, htb8, hr0, hr3])
    refine (iat_fn (ok := (OkS okT w.heap.size)) t 2 _ _ (ht1.keep (hU8.keeps fun b _ hk e => hoS b hk e)) (by decide) hllt).mono ?_
    rintro r9 w9 ⟨⟨ca9, rfl, hca9⟩, hEa9⟩
    obtain ⟨vSa9, vLa9, vUa9, rfl, hna9, hSa9, hLa9, hUa9⟩ := hca9.inv
    obtain ⟨bSa9, cSa9, rfl, hcSa9⟩ := hSa9.shape
    obtain ⟨bLa9, cLa9, rfl, hcLa9⟩ := SlR.shape hLa9
    have hfU9 := SlR.flat hUa9
    clear hcSa9 hcLa9 hna9
    have hV9 : Upd (fun b => b = vb) w8 w9 := hEa9.mono fun _ h => h.elim
    have hU9 : Upd (fun b => b = vb) w1 w9 := hU8.trans hV9
    have htb9 := hU9.blk_some htb1 htv
    have hvl9 : vb < w9.heap.size := Nat.lt_of_lt_of_le hvl1 hU9.size
    have hsz9 := hU9.size
    clear hvl8 hsz8
    have hb9 : blk w9 vb = some (#[.int .i16 ver, .slice al0 (t.at 0).l.length kl0, .int .i32 (IntKind.i32.wrap (t.at 1).n), .bool false, .map none], 123, (0, 0)) := hEa9.blk_some hb8 id
    have hq9 : ((t.at 2).n % 2 == 1) = decide ((t.at 2).n % 2 = 1) := rfl
    simp (maxSteps := 1000000) (disch := (first | omega | (simp only [World.size_alloc, size_wr, size_drew] <;> omega) | exact not_noB _)) only [go_sem, ↓reduceIte, n0, reduceCtorEq, n1, n2, n3, n4, n5, i0, i1, i2, i3, i4, i5, i6, i7, hb9, htb9, and1_i64, hq9, hr0, hr3]
    generalize hw10 : wr w9 vb 3 [.bool (decide ((t.at 2).n % 2 = 1))] = w10
    have hV10 : Upd (fun b => b = vb) w9 w10 := by rw [← hw10]; exact (Upd.refl _ _).wr _ _ (.inr rfl)
    have hb10 : blk w10 vb = some (#[.int .i16 ver, .slice al0 (t.at 0).l.length kl0, .int .i32 (IntKind.i32.wrap (t.at 1).n), .bool (decide ((t.at 2).n % 2 = 1)), .map none], 123, (0, 0)) := by rw [← hw10, blk_wr_eq, hb9]; rfl
    have hU10 : Upd (fun b => b = vb) w1 w10 := hU9.trans hV10
    have htb10 := hU10.blk_some htb1 htv
    have hvl10 : vb < w10.heap.size := Nat.lt_of_lt_of_le hvl1 hU10.size
    have hsz10 := hU10.size
    clear hvl9 hsz9
    clear hw10
    have hf2 : RepF (RepS true (d + 2)) (szS true (d + 2)) fCreateTopicsRequest_2 (OkF okT w.heap.size w1.heap.size) w10 (t.at 2) [.bool (decide ((t.at 2).n % 2 = 1))] := (RepF_num (by decide)).2 rfl
    repeat ((first | refine W.seqR rfl ?_ | refine W.seq ?_ | refine W.regR rfl ?_ | refine W.condK ?_ | refine W.block ?_ | refine W.skip ?_ | refine W.ret ?_ | refine W.exit ?_); try simp (maxSteps := 1000000) (disch := (first | omega | (simp only [World.size_alloc, size_wr, size_drew] <;> omega) | exact not_noB _)) only [go_sem, ↓reduceIte, n0, reduceCtorEq, n1, n2, n3, n4, n5, i0, i1, i2, i3, i4, i5, i6, i7, hb10, htb10, hr0, hr3])
    have hUv := hU1v.keep (hU10.keeps fun b _ hk e => hoS b hk e)
    refine W.loop (fun ρ w' => ∃ (j : Nat) (q : Option Nat), j ≤ t.u.length ∧ ρ 58 = .int .i64 j ∧ ρ 57 = .int .i64 t.u.length ∧ ρ 56 = .slice bU t.u.length cU ∧ ρ 0 = .pointer (some ⟨vb, 0, none⟩) ∧ ρ 3 = .pointer (some ⟨w.heap.size, 0, none⟩) ∧ blk w' vb = some (#[.int .i16 ver, .slice al0 (t.at 0).l.length kl0, .int .i32 (IntKind.i32.wrap (t.at 1).n), .bool (decide ((t.at 2).n % 2 = 1)), .map q], 123, (0, 0)) ∧ TagsG (OkS okT w.heap.size) w10.heap.size w' (.map q) (t.u.take j) ∧ Upd (fun b => b = vb) w10 w')
        (fun ρ _ => t.u.length - (RowKit.intOf (ρ 58)).toNat) ?_ ?_
    · refine ⟨0, none, Nat.zero_le _, ?_, ?_, ?_, ?_, ?_, hb10, TagsG.start _ _ _, Upd.refl _ _⟩ <;> simp (maxSteps := 1000000) (disch := (first | omega | (simp only [World.size_alloc, size_wr, size_drew] <;> omega) | exact not_noB _)) only [go_sem, ↓reduceIte, n0, reduceCtorEq, n1, n2, n3, n4, n5, i0, i1, i2, i3, i4, i5, i6, i7, hr0, hr3]
      all_goals rfl
    · rintro ρ w_6 ⟨j, q, hj, hI, hN, hS, hr0, hr3, hbv, hG, hU_6⟩
      have hz_6 := hU_6.size
      have hUv_6 := hUv.keep (hU_6.keeps fun b _ hk e => hoS b hk e)
      have hU_16 : Upd (fun b => b = vb) w1 w_6 := hU10.trans hU_6
      have hz_16 := hU_16.size
      by_cases hlt : j < t.u.length
      · obtain ⟨_, b, o, x, vv, hb, hokb, hx, hblt, hxs, hxe, _, _, hfv, hbvv, h32⟩ := TagsV.get hUv_6 hlt
        subst hb
        have hcat : t.u.take (j + 1) = t.u.take j ++ [t.u[j]] := List.take_succ_eq_append_getElem hlt
        have hnew : ∀ z ∈ t.u.take j, z.1 ≠ t.u[j].1 := by
          intro z hz
          obtain ⟨k, hk, rfl⟩ := List.getElem_of_mem hz
          simp only [List.length_take] at hk
          have := List.pairwise_iff_getElem.1 hfu.2.2 k j (by omega) hlt (by omega)
          rw [List.getElem_take]; omega
        generalize t.u[j] = y at *
        obtain ⟨bSy, cSy, rfl, hcSy⟩ := hbvv.shape
        repeat ((first | refine W.seqR rfl ?_ | refine W.seq ?_ | refine W.regR rfl ?_ | refine W.condK ?_ | refine W.block ?_ | refine W.skip ?_ | refine W.ret ?_ | refine W.exit ?_); try simp (maxSteps := 1000000) (disch := (first | omega | (simp only [World.size_alloc, size_wr, size_drew] <;> omega) | exact not_noB _)) only [go_sem, ↓reduceIte, n0, reduceCtorEq, n1, n2, n3, n4, n5, i0, i1, i2, i3, i4, i5, i6, i7, hI, hN, hS, hx, hxe, hfv, cellsAt_two, Int.toNat_natCast])
        generalize hw_7 : (wr (w_6.alloc (.cells #[.int .u32 0, .slice none 0 0] 64)) w_6.heap.size 0 [.int .u32 y.1, .slice bSy y.2.length cSy]) = w_7
        have hE_7 : Ext w_6 w_7 := by rw [← hw_7]; exact (Upd.alloc (Upd.refl _ _) _).wr _ _ (.inl (Nat.le_refl _))
        have hb_7 : blk w_7 w_6.heap.size = some (#[.int .u32 y.1, .slice bSy y.2.length cSy], 64, (0, 0)) := by rw [← hw_7]; simp (maxSteps := 1000000) (disch := (first | omega | (simp only [World.size_alloc, size_wr, size_drew] <;> omega) | exact not_noB _)) only [go_sem, ↓reduceIte, n0, reduceCtorEq, n1, n2, n3, n4, n5, i0, i1, i2, i3, i4, i5, i6, i7]
        have hz_7 : w_7.heap.size = w_6.heap.size + 1 := by rw [← hw_7]; simp only [size_wr, World.size_alloc]
        clear hw_7
        have hbt_7 := hE_7.blk_some hbv id
        have hnb : ∀ b, b = w_6.heap.size → ¬ (b = vb ∨ Value.map q = .map (some b)) := fun b hb h => by
          rcases h with h | h
          · omega
          · cases h; have := (hG.lt rfl).1; omega
        refine W.drawR (.take 0 (.take 1 (.take 2 (.take 3 (.take 4 (.take 5 (.take 6 (.only 7 .done)))))))) (fun b => b = vb ∨ Value.map q = .map (some b)) mixed (by kernel_rfl) ?_
        simp (maxSteps := 1000000) (disch := (first | omega | (simp only [World.size_alloc, size_wr, size_drew] <;> omega) | exact not_noB _ | (refine hnb _ ?_; first | omega | (simp only [World.size_alloc, size_wr, size_drew] <;> omega)))) only [go_sem, ↓reduceIte, n0, reduceCtorEq, n1, n2, n3, n4, n5, i0, i1, i2, i3, i4, i5, i6, i7, hr0, hr3, hbt_7, hb_7, cellsAt_two]
        have hE_7d : Ext w_7 w_7.drew := (Upd.refl _ _).drew
        have hE_6d : Ext w_6 w_7.drew := hE_7.trans hE_7d
        have hG_7 : TagsG (OkS okT w.heap.size) w10.heap.size w_7.drew (.map q) (t.u.take j) := hG.keep fun b hb _ => hE_6d.keep b hb id
        have hbt_8 := hE_7d.blk_some hbt_7 id
        have hm_8 : (#[.int .i16 ver, .slice al0 (t.at 0).l.length kl0, .int .i32 (IntKind.i32.wrap (t.at 1).n), .bool (decide ((t.at 2).n % 2 = 1)), .map q] : Array Value)[4]? = some (.map q) := rfl
        refine (TagsSet_fn (okT := (OkS okT w.heap.size)) (L := w10.heap.size) w_7.drew hG_7 (by have := hE_6d.size; omega) (by omega) hbt_8 (o := 4) hm_8 (thaw_00 _ _) y _ ((hbvv.weaken fun b _ hk => ⟨hk, by have := hk.2; omega⟩).keep (hE_6d.keeps _)) h32 hnew hoS).mono ?_
        rintro _ w_8 ⟨m', hb_8, hG_8, hM_8⟩
        simp only [List.setIfInBounds_toArray, List.set_cons_succ, List.set_cons_zero] at hb_8
        refine ⟨hM_8, ?_⟩
        repeat ((first | refine W.seqR rfl ?_ | refine W.seq ?_ | refine W.regR rfl ?_ | refine W.condK ?_ | refine W.block ?_ | refine W.skip ?_ | refine W.ret ?_ | refine W.exit ?_); try simp (maxSteps := 1000000) (disch := (first | omega | (simp only [World.size_alloc, size_wr, size_drew] <;> omega) | exact not_noB _)) only [go_sem, ↓reduceIte, n0, reduceCtorEq, n1, n2, n3, n4, n5, i0, i1, i2, i3, i4, i5, i6, i7, hI])
        refine ⟨⟨j + 1, m', by omega, rfl, hN, hS, hr0, hr3, hb_8, by rw [hcat]; exact hG_8, ?_⟩, ?_⟩
        · exact hU_6.more ((hE_6d.mono fun _ h => h.elim).trans hM_8) fun b hb h => by
            rcases h with h | h
            · exact h
            · cases h; have := (hG.lt rfl).2; omega
        · simp only [RowKit.intOf]; omega
      · have hjl : j = t.u.length := by omega
        subst hjl
        rw [List.take_length] at hG
        have hT9 : Upd (fun b => b = vb) w9 w_6 := hV10.trans hU_6
        have hT8 : Upd (fun b => b = vb) w8 w_6 := hV9.trans hT9
        have hT7 : Upd (fun b => b = vb) w7 w_6 := hV8.trans hT8
        have hT6 : Upd (fun b => b = vb) w6 w_6 := hV7.trans hT7
        have hT3 : Upd (fun b => b = vb) w3 w_6 := hV6.trans hT6
        have hT2 : Upd (fun b => b = vb) w2 w_6 := hV3.trans hT3
        have hT1 : Upd (fun b => b = vb) w1 w_6 := hV2.trans hT2
        have hz0_f := hf0.keepS (hT6.keeps fun b _ hk e => hoF b hk e)
        have hz1_f := hf1.keepS (hT8.keeps fun b _ hk e => hoF b hk e)
        have hz2_f := hf2.keepS (hU_6.keeps fun b _ hk e => hoF b hk e)
        have hTg := hG.tags (ok' := (OkF okT w.heap.size w1.heap.size)) (fun b _ hk => .inl hk) (fun b hb => .inr (by omega))
        have hL : RepL (RepS true (d + 2)) (szS true (d + 2)) (OkF okT w.heap.size w1.heap.size) w_6 t [fCreateTopicsRequest_0, fCreateTopicsRequest_1, fCreateTopicsRequest_2] 0 [.slice al0 (t.at 0).l.length kl0, .int .i32 (IntKind.i32.wrap (t.at 1).n), .bool (decide ((t.at 2).n % 2 = 1))] := (RepL.cons1 hz0_f (RepL.cons1 hz1_f (RepL.cons1 hz2_f RepL.nil)))
        have hR : RepS true (d + 3) fs_CreateTopicsRequest (OkF okT w.heap.size w1.heap.size) w_6 t [.slice al0 (t.at 0).l.length kl0, .int .i32 (IntKind.i32.wrap (t.at 1).n), .bool (decide ((t.at 2).n % 2 = 1)), .map q] := RepS.intro (c := [.slice al0 (t.at 0).l.length kl0, .int .i32 (IntKind.i32.wrap (t.at 1).n), .bool (decide ((t.at 2).n % 2 = 1))]) rfl hL hTg
        repeat ((first | refine W.seqR rfl ?_ | refine W.seq ?_ | refine W.regR rfl ?_ | refine W.condK ?_ | refine W.block ?_ | refine W.skip ?_ | refine W.ret ?_ | refine W.exit ?_); try simp (maxSteps := 1000000) (disch := (first | omega | (simp only [World.size_alloc, size_wr, size_drew] <;> omega) | exact not_noB _)) only [go_sem, ↓reduceIte, n0, reduceCtorEq, n1, n2, n3, n4, n5, i0, i1, i2, i3, i4, i5, i6, i7, hI, hN])
        exact ⟨_, hbv, (RepS_lay true (d + 3) fs_CreateTopicsRequest).weaken hR (fun b _ hk => hk.imp And.left fun h => by omega), Upd.more (hE1.mono fun _ h => h.elim) hT1 fun _ _ h => h⟩
end Ms

