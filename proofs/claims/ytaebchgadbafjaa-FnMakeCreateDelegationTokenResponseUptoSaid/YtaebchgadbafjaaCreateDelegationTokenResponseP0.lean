/- A part of the proof: see the last text. -/
import Derived.Test.YtaebchgadbafjaaC08
set_option linter.unusedSimpArgs false
set_option linter.unusedVariables false
namespace Ms
open Nat renaming reduceEqDiff → n0, reduceAdd → n1, reduceMul → n2, reduceSub → n3, reduceLT → n4, reduceLeDiff → n5
open Int renaming reduceEq → i0, reduceLT → i1, reduceLE → i2, reduceNeg → i3, reduceAdd → i4, reduceSub → i5, reduceMul → i6, reduceToNat → i7
set_option maxRecDepth 4000
open Go Go.Proofs
theorem ca_116 : callable Try.prog 116 = true := nr (by kernel_rfl)
theorem ca_118 : callable Try.prog 118 = true := nr (by kernel_rfl)
theorem ca_128 : callable Try.prog 128 = true := nr (by kernel_rfl)
theorem ca_129 : callable Try.prog 129 = true := nr (by kernel_rfl)
theorem ca_13 : callable Try.prog 13 = true := nr (by kernel_rfl)
theorem ca_139 : callable Try.prog 139 = true := nr (by kernel_rfl)
theorem ca_146 : callable Try.prog 146 = true := nr (by kernel_rfl)
theorem ca_147 : callable Try.prog 147 = true := nr (by kernel_rfl)
theorem ca_148 : callable Try.prog 148 = true := nr (by kernel_rfl)
theorem ca_149 : callable Try.prog 149 = true := nr (by kernel_rfl)
theorem ca_16 : callable Try.prog 16 = true := nr (by kernel_rfl)
theorem ca_21 : callable Try.prog 21 = true := nr (by kernel_rfl)
theorem ca_31 : callable Try.prog 31 = true := nr (by kernel_rfl)
theorem ca_32 : callable Try.prog 32 = true := nr (by kernel_rfl)
theorem ca_33 : callable Try.prog 33 = true := nr (by kernel_rfl)
theorem ca_78 : callable Try.prog 78 = true := nr (by kernel_rfl)
theorem ca_79 : callable Try.prog 79 = true := nr (by kernel_rfl)
theorem ca_80 : callable Try.prog 80 = true := nr (by kernel_rfl)
theorem ca_81 : callable Try.prog 81 = true := nr (by kernel_rfl)
theorem ca_82 : callable Try.prog 82 = true := nr (by kernel_rfl)
theorem es_37 : elemSize Try.prog 37 = some 2 := nr (by kernel_rfl)
theorem fo_64_0 : fieldOff Try.prog 64 0 = some 0 := nr (by kernel_rfl)
theorem fo_64_1 : fieldOff Try.prog 64 1 = some 1 := nr (by kernel_rfl)
theorem fo_92_0 : fieldOff Try.prog 92 0 = some 0 := nr (by kernel_rfl)
theorem fo_92_1 : fieldOff Try.prog 92 1 = some 1 := nr (by kernel_rfl)
theorem fo_92_10 : fieldOff Try.prog 92 10 = some 10 := nr (by kernel_rfl)
theorem fo_92_11 : fieldOff Try.prog 92 11 = some 11 := nr (by kernel_rfl)
theorem fo_92_12 : fieldOff Try.prog 92 12 = some 12 := nr (by kernel_rfl)
theorem fo_92_2 : fieldOff Try.prog 92 2 = some 2 := nr (by kernel_rfl)
theorem fo_92_3 : fieldOff Try.prog 92 3 = some 3 := nr (by kernel_rfl)
theorem fo_92_4 : fieldOff Try.prog 92 4 = some 4 := nr (by kernel_rfl)
theorem fo_92_5 : fieldOff Try.prog 92 5 = some 5 := nr (by kernel_rfl)
theorem fo_92_6 : fieldOff Try.prog 92 6 = some 6 := nr (by kernel_rfl)
theorem fo_92_7 : fieldOff Try.prog 92 7 = some 7 := nr (by kernel_rfl)
theorem fo_92_8 : fieldOff Try.prog 92 8 = some 8 := nr (by kernel_rfl)
theorem fo_92_9 : fieldOff Try.prog 92 9 = some 9 := nr (by kernel_rfl)
theorem fv_39_0 (cs : Array Value) : fieldV Try.prog 39 0 cs = cs[0]? := fieldV_one (by kernel_rfl) cs
theorem fv_39_1 (cs : Array Value) : fieldV Try.prog 39 1 cs = cs[1]? := fieldV_one (by kernel_rfl) cs
theorem ld_21 (w : World) (b o : Nat) : loadOf Try.prog 21 w ⟨b, o, none⟩ = (blk w b).bind fun x => x.1[o]? := loadOf_one (by kernel_rfl) w b o
theorem ld_31 (w : World) (b o : Nat) : loadOf Try.prog 31 w ⟨b, o, none⟩ = (blk w b).bind fun x => cellsAt x.1 o 2 := loadOf_agg (by kernel_rfl) w b o
theorem ld_45 (w : World) (b o : Nat) : loadOf Try.prog 45 w ⟨b, o, none⟩ = (blk w b).bind fun x => x.1[o]? := loadOf_one (by kernel_rfl) w b o
theorem ld_64 (w : World) (b o : Nat) : loadOf Try.prog 64 w ⟨b, o, none⟩ = (blk w b).bind fun x => cellsAt x.1 o 2 := loadOf_agg (by kernel_rfl) w b o
theorem pl_31 : placesOf Try.prog 31 = some [(0, 1), (1, 1)] := nr (by kernel_rfl)
theorem pl_50 : placesOf Try.prog 50 = some [(0, 1), (1, 1), (2, 1), (3, 1), (4, 1), (5, 1), (6, 1), (7, 1)] := nr (by kernel_rfl)
theorem pl_92 : placesOf Try.prog 92 = some [(0, 1), (1, 1), (2, 1), (3, 1), (4, 1), (5, 1), (6, 1), (7, 1), (8, 1), (9, 1), (10, 1), (11, 1), (12, 1)] := nr (by kernel_rfl)
theorem se_29 : slElem Try.prog 29 = some (50, 8) := nr (by kernel_rfl)
theorem sl_37 : isSliceT Try.prog 37 = true := nr (by kernel_rfl)
theorem sz_2 (w : World) (b o : Nat) (v : Value) : storeOf Try.prog 2 w ⟨b, o, none⟩ v = (blk w b).bind fun x => stO w b o v x 1 := storeOf_n (by kernel_rfl) w b o v
theorem sz_21 (w : World) (b o : Nat) (v : Value) : storeOf Try.prog 21 w ⟨b, o, none⟩ v = (blk w b).bind fun x => stO w b o v x 1 := storeOf_n (by kernel_rfl) w b o v
theorem sz_31 (w : World) (b o : Nat) (v : Value) : storeOf Try.prog 31 w ⟨b, o, none⟩ v = (blk w b).bind fun x => stO w b o v x 2 := storeOf_n (by kernel_rfl) w b o v
theorem sz_45 (w : World) (b o : Nat) (v : Value) : storeOf Try.prog 45 w ⟨b, o, none⟩ v = (blk w b).bind fun x => stO w b o v x 1 := storeOf_n (by kernel_rfl) w b o v
theorem sz_64 (w : World) (b o : Nat) (v : Value) : storeOf Try.prog 64 w ⟨b, o, none⟩ v = (blk w b).bind fun x => stO w b o v x 2 := storeOf_n (by kernel_rfl) w b o v
theorem z_31 : zeroOf Try.prog 31 = some #[.slice none 0 0, .int .i64 0] := nr (by kernel_rfl)
theorem z_92 : zeroOf Try.prog 92 = some #[.int .i16 0, .int .i16 0, .string ByteArray.empty, .string ByteArray.empty, .string ByteArray.empty, .string ByteArray.empty, .int .i64 0, .int .i64 0, .int .i64 0, .string ByteArray.empty, .slice none 0 0, .int .i32 0, .map none] := nr (by kernel_rfl)
attribute [go_sem] ca_116 ca_118 ca_128 ca_129 ca_13 ca_139 ca_146 ca_147 ca_148 ca_149 ca_16 ca_21 ca_31 ca_32 ca_33 ca_78 ca_79 ca_80 ca_81 ca_82 es_37 fo_64_0 fo_64_1 fo_92_0 fo_92_1 fo_92_10 fo_92_11 fo_92_12 fo_92_2 fo_92_3 fo_92_4 fo_92_5 fo_92_6 fo_92_7 fo_92_8 fo_92_9 fv_39_0 fv_39_1 ld_21 ld_31 ld_45 ld_64 pl_31 pl_50 pl_92 se_29 sl_37 sz_2 sz_21 sz_31 sz_45 sz_64 z_31 z_92
end Ms

namespace Ms
open Nat renaming reduceEqDiff → n0, reduceAdd → n1, reduceMul → n2, reduceSub → n3, reduceLT → n4, reduceLeDiff → n5
open Int renaming reduceEq → i0, reduceLT → i1, reduceLE → i2, reduceNeg → i3, reduceAdd → i4, reduceSub → i5, reduceMul → i6, reduceToNat → i7
set_option maxRecDepth 8000
open Go Go.Proofs Go.Shelf
attribute [local congr] W_congr WPsq_congr WPp_congr optK_congr addrK_congr intK_congr boolK_congr sliceK_congr tupleK_congr funcK_congr Fn_congr rawK_congr takeK_congr stepK_congr convK_congr aggK_congr

def fCreateDelegationTokenResponse_0 : Fld := .mk 2 0 (-1) (-1) (-1) 0 0 []
def fCreateDelegationTokenResponse_1 : Fld := .mk 8 0 (-1) (-1) (-1) 0 0 []
def fCreateDelegationTokenResponse_2 : Fld := .mk 8 0 (-1) (-1) (-1) 0 0 []
def fCreateDelegationTokenResponse_3 : Fld := .mk 8 3 (-1) (-1) (-1) 0 0 []
def fCreateDelegationTokenResponse_4 : Fld := .mk 8 3 (-1) (-1) (-1) 0 0 []
def fCreateDelegationTokenResponse_5 : Fld := .mk 4 0 (-1) (-1) (-1) 0 0 []
def fCreateDelegationTokenResponse_6 : Fld := .mk 4 0 (-1) (-1) (-1) 0 0 []
def fCreateDelegationTokenResponse_7 : Fld := .mk 4 0 (-1) (-1) (-1) 0 0 []
def fCreateDelegationTokenResponse_8 : Fld := .mk 8 0 (-1) (-1) (-1) 0 0 []
def fCreateDelegationTokenResponse_9 : Fld := .mk 9 0 (-1) (-1) (-1) 0 0 []
def fCreateDelegationTokenResponse_10 : Fld := .mk 3 0 (-1) (-1) (-1) 0 0 []
def fs_CreateDelegationTokenResponse : List Fld := [fCreateDelegationTokenResponse_0, fCreateDelegationTokenResponse_1, fCreateDelegationTokenResponse_2, fCreateDelegationTokenResponse_3, fCreateDelegationTokenResponse_4, fCreateDelegationTokenResponse_5, fCreateDelegationTokenResponse_6, fCreateDelegationTokenResponse_7, fCreateDelegationTokenResponse_8, fCreateDelegationTokenResponse_9, fCreateDelegationTokenResponse_10]

set_option maxHeartbeats 2000000 in
theorem fillCreateDelegationTokenResponse_fn {d : Nat} {okT : Blocks} {V ver : Int} (t : Tree) (ct : List Value) (w : World) {vb : Nat} (hvb : blk w vb = some (#[.int .i16 ver, .int .i16 0, .string ByteArray.empty, .string ByteArray.empty, .string ByteArray.empty, .string ByteArray.empty, .int .i64 0, .int .i64 0, .int .i64 0, .string ByteArray.empty, .slice none 0 0, .int .i32 0, .map none], 92, (0, 0))) (ht : TreeC okT w t ct) (hok : ∀ b, okT b → b ≠ vb) (hfit : FitP V (d + 1) fs_CreateDelegationTokenResponse t) (hLs : Lists t) :
    Fn Try.prog 81 #[.pointer (some ⟨vb, 0, none⟩), .agg ct.toArray] w fun _ w' => ∃ cells, blk w' vb = some ((.int .i16 ver :: cells).toArray, 92, (0, 0)) ∧ RepS true (d + 1) fs_CreateDelegationTokenResponse (okN okT w.heap.size) w' t cells ∧ Upd (fun b => b = vb) w w' := by
  obtain ⟨vS, vL, vU, rfl, hn, hSx, hLx0, hUx⟩ := ht.inv
  obtain ⟨bS, cS, rfl, hcS⟩ := hSx.shape
  obtain ⟨bL, cL, rfl, hcL⟩ := SlR.shape hLx0
  obtain ⟨bU, cU, rfl, hcU⟩ := SlR.shape hUx
  obtain ⟨⟨g0, g1, g2, g3, g4, g5, g6, g7, g8, g9, g10, -⟩, hfu⟩ := hfit
  replace g0 : FitF (FitP V d) V fCreateDelegationTokenResponse_0 (t.at 0) := g0
  replace g1 : FitF (FitP V d) V fCreateDelegationTokenResponse_1 (t.at 1) := g1
  replace g2 : FitF (FitP V d) V fCreateDelegationTokenResponse_2 (t.at 2) := g2
  replace g3 : FitF (FitP V d) V fCreateDelegationTokenResponse_3 (t.at 3) := g3
  replace g4 : FitF (FitP V d) V fCreateDelegationTokenResponse_4 (t.at 4) := g4
  replace g5 : FitF (FitP V d) V fCreateDelegationTokenResponse_5 (t.at 5) := g5
  replace g6 : FitF (FitP V d) V fCreateDelegationTokenResponse_6 (t.at 6) := g6
  replace g7 : FitF (FitP V d) V fCreateDelegationTokenResponse_7 (t.at 7) := g7
  replace g8 : FitF (FitP V d) V fCreateDelegationTokenResponse_8 (t.at 8) := g8
  replace g9 : FitF (FitP V d) V fCreateDelegationTokenResponse_9 (t.at 9) := g9
  replace g10 : FitF (FitP V d) V fCreateDelegationTokenResponse_10 (t.at 10) := g10
  have hllt : t.l.length < 4611686018427387903 := Nat.lt_of_le_of_lt hLs.len (by decide)
  have hul := hLs.ulen
  have hvl := blk_lt hvb
  refine fn_of_W Try.func81 rfl Try.results81 Try.ntmps81 rfl ?_
  obtain ⟨w1, hw1⟩ : ∃ w1, w1 = (w.alloc (.cells #[.int .i64 t.n, .slice bS t.s.length cS, .bool t.null, .slice bL t.l.length cL, .slice bU t.u.length cU] 39)) := ⟨_, rfl⟩
  have hE1 : Ext w w1 := by rw [hw1]; exact Upd.alloc (Upd.refl _ _) _
  have hz1 : w1.heap.size = w.heap.size + 1 := by rw [hw1, World.size_alloc]
  have htb1 : blk w1 w.heap.size = some (#[.int .i64 t.n, .slice bS t.s.length cS, .bool t.null, .slice bL t.l.length cL, .slice bU t.u.length cU], 39, (0, 0)) := by rw [hw1]; exact blk_alloc_new rfl
  have hb1 : blk w1 vb = some (#[.int .i16 ver, .int .i16 0, .string ByteArray.empty, .string ByteArray.empty, .string ByteArray.empty, .string ByteArray.empty, .int .i64 0, .int .i64 0, .int .i64 0, .string ByteArray.empty, .slice none 0 0, .int .i32 0, .map none], 92, (0, 0)) := hE1.blk_some hvb id
  have hoS : ∀ b, (OkS okT w.heap.size) b → b ≠ vb := fun b h => hok b h.1
  have htv : ¬ w.heap.size = vb := by omega
  have hoF : ∀ b, (OkF okT w.heap.size w1.heap.size) b → b ≠ vb := fun b h => by
    rcases h with h | h
    · exact hoS b h
    · omega
  have hU1 : Upd (fun b => b = vb) w1 w1 := Upd.refl _ _
  have hvl1 := blk_lt hb1
  have hsz1 := Nat.le_refl w1.heap.size
  have ht1 : TreeC (OkS okT w.heap.size) w1 t [.int .i64 t.n, .slice bS t.s.length cS, .bool t.null, .slice bL t.l.length cL, .slice bU t.u.length cU] := (ht.weaken fun b h1 h2 => ⟨h2, h1⟩).keep (hE1.keeps _)
  have hU1v : TagsV (OkS okT w.heap.size) w1 (.slice bU t.u.length cU) t.u := (hUx.weaken fun b h1 h2 => ⟨h2, h1⟩).keep (hE1.keeps _)
  repeat ((first | refine W.seqR rfl ?_ | refine W.seq ?_ | refine W.regR rfl ?_ | refine W.condK ?_ | refine W.block ?_ | refine W.skip ?_ | refine W.ret ?_ | refine W.exit ?_); try simp (maxSteps := 1000000) (disch := (first | omega | (simp only [World.size_alloc, size_wr, size_drew] <;> omega) | exact not_noB _)) only [go_sem, ↓reduceIte, n0, reduceCtorEq, n1, n2, n3, n4, n5, i0, i1, i2, i3, i4, i5, i6, i7])
  rw [← hw1]
  clear hw1
  refine (iat_fn (ok := (OkS okT w.heap.size)) t 0 _ _ (ht1.keep (hU1.keeps fun b _ hk e => hoS b hk e)) (by decide) hllt).mono ?_
  rintro r2 w2 ⟨⟨ca2, rfl, hca2⟩, hEa2⟩
  obtain ⟨vSa2, vLa2, vUa2, rfl, hna2, hSa2, hLa2, hUa2⟩ := hca2.inv
  obtain ⟨bSa2, cSa2, rfl, hcSa2⟩ := hSa2.shape
  obtain ⟨bLa2, cLa2, rfl, hcLa2⟩ := SlR.shape hLa2
  have hfU2 := SlR.flat hUa2
  clear hcSa2 hcLa2 hna2
  have hV2 : Upd (fun b => b = vb) w1 w2 := hEa2.mono fun _ h => h.elim
  have hU2 : Upd (fun b => b = vb) w1 w2 := hU1.trans hV2
  have htb2 := hU2.blk_some htb1 htv
  have hvl2 : vb < w2.heap.size := Nat.lt_of_lt_of_le hvl1 hU2.size
  have hsz2 := hU2.size
  have hb2 : blk w2 vb = some (#[.int .i16 ver, .int .i16 0, .string ByteArray.empty, .string ByteArray.empty, .string ByteArray.empty, .string ByteArray.empty, .int .i64 0, .int .i64 0, .int .i64 0, .string ByteArray.empty, .slice none 0 0, .int .i32 0, .map none], 92, (0, 0)) := hEa2.blk_some hb1 id
  simp (maxSteps := 1000000) (disch := (first | omega | (simp only [World.size_alloc, size_wr, size_drew] <;> omega) | exact not_noB _)) only [go_sem, ↓reduceIte, n0, reduceCtorEq, n1, n2, n3, n4, n5, i0, i1, i2, i3, i4, i5, i6, i7, hb2, htb2]
  generalize hw3 : wr w2 vb 1 [.int .i16 (IntKind.i16.wrap (t.at 0).n)] = w3
  have hV3 : Upd (fun b => b = vb) w2 w3 := by rw [← hw3]; exact (Upd.refl _ _).wr _ _ (.inr rfl)
  have hb3 : blk w3 vb = some (#[.int .i16 ver, .int .i16 (IntKind.i16.wrap (t.at 0).n), .string ByteArray.empty, .string ByteArray.empty, .string ByteArray.empty, .string ByteArray.empty, .int .i64 0, .int .i64 0, .int .i64 0, .string ByteArray.empty, .slice none 0 0, .int .i32 0, .map none], 92, (0, 0)) := by rw [← hw3, blk_wr_eq, hb2]; rfl
  have hU3 : Upd (fun b => b = vb) w1 w3 := hU2.trans hV3
  have htb3 := hU3.blk_some htb1 htv
  have hvl3 : vb < w3.heap.size := Nat.lt_of_lt_of_le hvl1 hU3.size
  have hsz3 := hU3.size
  clear hvl2 hsz2
  clear hw3
  have hf0 : RepF (RepS true d) (szS true d) fCreateDelegationTokenResponse_0 (OkF okT w.heap.size w1.heap.size) w3 (t.at 0) [.int .i16 (IntKind.i16.wrap (t.at 0).n)] := (RepF_num (by decide)).2 rfl
  repeat ((first | refine W.seqR rfl ?_ | refine W.seq ?_ | refine W.regR rfl ?_ | refine W.condK ?_ | refine W.block ?_ | refine W.skip ?_ | refine W.ret ?_ | refine W.exit ?_); try simp (maxSteps := 1000000) (disch := (first | omega | (simp only [World.size_alloc, size_wr, size_drew] <;> omega) | exact not_noB _)) only [go_sem, ↓reduceIte, n0, reduceCtorEq, n1, n2, n3, n4, n5, i0, i1, i2, i3, i4, i5, i6, i7, hb3, htb3])
  refine (iat_fn (ok := (OkS okT w.heap.size)) t 1 _ _ (ht1.keep (hU3.keeps fun b _ hk e => hoS b hk e)) (by decide) hllt).mono ?_
  rintro r4 w4 ⟨⟨ca4, rfl, hca4⟩, hEa4⟩
  obtain ⟨vSa4, vLa4, vUa4, rfl, hna4, hSa4, hLa4, hUa4⟩ := hca4.inv
  obtain ⟨bSa4, cSa4, rfl, hcSa4⟩ := hSa4.shape
  obtain ⟨bLa4, cLa4, rfl, hcLa4⟩ := SlR.shape hLa4
  have hfU4 := SlR.flat hUa4
  clear hcSa4 hcLa4 hna4
  have hV4 : Upd (fun b => b = vb) w3 w4 := hEa4.mono fun _ h => h.elim
  have hU4 : Upd (fun b => b = vb) w1 w4 := hU3.trans hV4
  have htb4 := hU4.blk_some htb1 htv
  have hvl4 : vb < w4.heap.size := Nat.lt_of_lt_of_le hvl1 hU4.size
  have hsz4 := hU4.size
  clear hvl3 hsz3
  have hb4 : blk w4 vb = some (#[.int .i16 ver, .int .i16 (IntKind.i16.wrap (t.at 0).n), .string ByteArray.empty, .string ByteArray.empty, .string ByteArray.empty, .string ByteArray.empty, .int .i64 0, .int .i64 0, .int .i64 0, .string ByteArray.empty, .slice none 0 0, .int .i32 0, .map none], 92, (0, 0)) := hEa4.blk_some hb3 id
  simp (maxSteps := 1000000) (disch := (first | omega | (simp only [World.size_alloc, size_wr, size_drew] <;> omega) | exact not_noB _)) only [go_sem, ↓reduceIte, n0, reduceCtorEq, n1, n2, n3, n4, n5, i0, i1, i2, i3, i4, i5, i6, i7, hb4, htb4]
  refine wp_string (S := 22) (T := 9) (E := 5) (s := (t.at 1).s) (ok := (OkS okT w.heap.size)) (by kernel_rfl) (by kernel_rfl) (by kernel_rfl) (by simp (maxSteps := 1000000) (disch := (first | omega | (simp only [World.size_alloc, size_wr, size_drew] <;> omega) | exact not_noB _)) only [go_sem, ↓reduceIte, n0, reduceCtorEq, n1, n2, n3, n4, n5, i0, i1, i2, i3, i4, i5, i6, i7]; exact hSa4) ?_
  simp (maxSteps := 1000000) (disch := (first | omega | (simp only [World.size_alloc, size_wr, size_drew] <;> omega) | exact not_noB _)) only [go_sem, ↓reduceIte, n0, reduceCtorEq, n1, n2, n3, n4, n5, i0, i1, i2, i3, i4, i5, i6, i7, hb4, htb4]
  generalize hw5 : wr w4 vb 2 [strV (t.at 1).s] = w5
  have hV5 : Upd (fun b => b = vb) w4 w5 := by rw [← hw5]; exact (Upd.refl _ _).wr _ _ (.inr rfl)
  have hb5 : blk w5 vb = some (#[.int .i16 ver, .int .i16 (IntKind.i16.wrap (t.at 0).n), strV (t.at 1).s, .string ByteArray.empty, .string ByteArray.empty, .string ByteArray.empty, .int .i64 0, .int .i64 0, .int .i64 0, .string ByteArray.empty, .slice none 0 0, .int .i32 0, .map none], 92, (0, 0)) := by rw [← hw5, blk_wr_eq, hb4]; rfl
  have hU5 : Upd (fun b => b = vb) w1 w5 := hU4.trans hV5
  have htb5 := hU5.blk_some htb1 htv
  have hvl5 : vb < w5.heap.size := Nat.lt_of_lt_of_le hvl1 hU5.size
  have hsz5 := hU5.size
  clear hvl4 hsz4
  clear hw5
  have hf1 : RepF (RepS true d) (szS true d) fCreateDelegationTokenResponse_1 (OkF okT w.heap.size w1.heap.size) w5 (t.at 1) [strV (t.at 1).s] := (RepF_text rfl (by decide)).2 rfl
  repeat ((first | refine W.seqR rfl ?_ | refine W.seq ?_ | refine W.regR rfl ?_ | refine W.condK ?_ | refine W.block ?_ | refine W.skip ?_ | refine W.ret ?_ | refine W.exit ?_); try simp (maxSteps := 1000000) (disch := (first | omega | (simp only [World.size_alloc, size_wr, size_drew] <;> omega) | exact not_noB _)) only [go_sem, ↓reduceIte, n0, reduceCtorEq, n1, n2, n3, n4, n5, i0, i1, i2, i3, i4, i5, i6, i7, hb5, htb5])
  refine (iat_fn (ok := (OkS okT w.heap.size)) t 2 _ _ (ht1.keep (hU5.keeps fun b _ hk e => hoS b hk e)) (by decide) hllt).mono ?_
  rintro r6 w6 ⟨⟨ca6, rfl, hca6⟩, hEa6⟩
  obtain ⟨vSa6, vLa6, vUa6, rfl, hna6, hSa6, hLa6, hUa6⟩ := hca6.inv
  obtain ⟨bSa6, cSa6, rfl, hcSa6⟩ := hSa6.shape
  obtain ⟨bLa6, cLa6, rfl, hcLa6⟩ := SlR.shape hLa6
  have hfU6 := SlR.flat hUa6
  clear hcSa6 hcLa6 hna6
  have hV6 : Upd (fun b => b = vb) w5 w6 := hEa6.mono fun _ h => h.elim
  have hU6 : Upd (fun b => b = vb) w1 w6 := hU5.trans hV6
  have htb6 := hU6.blk_some htb1 htv
  have hvl6 : vb < w6.heap.size := Nat.lt_of_lt_of_le hvl1 hU6.size
  have hsz6 := hU6.size
  clear hvl5 hsz5
  have hb6 : blk w6 vb = some (#[.int .i16 ver, .int .i16 (IntKind.i16.wrap (t.at 0).n), strV (t.at 1).s, .string ByteArray.empty, .string ByteArray.empty, .string ByteArray.empty, .int .i64 0, .int .i64 0, .int .i64 0, .string ByteArray.empty, .slice none 0 0, .int .i32 0, .map none], 92, (0, 0)) := hEa6.blk_some hb5 id
  simp (maxSteps := 1000000) (disch := (first | omega | (simp only [World.size_alloc, size_wr, size_drew] <;> omega) | exact not_noB _)) only [go_sem, ↓reduceIte, n0, reduceCtorEq, n1, n2, n3, n4, n5, i0, i1, i2, i3, i4, i5, i6, i7, hb6, htb6]
  refine wp_string (S := 22) (T := 9) (E := 5) (s := (t.at 2).s) (ok := (OkS okT w.heap.size)) (by kernel_rfl) (by kernel_rfl) (by kernel_rfl) (by simp (maxSteps := 1000000) (disch := (first | omega | (simp only [World.size_alloc, size_wr, size_drew] <;> omega) | exact not_noB _)) only [go_sem, ↓reduceIte, n0, reduceCtorEq, n1, n2, n3, n4, n5, i0, i1, i2, i3, i4, i5, i6, i7]; exact hSa6) ?_
  simp (maxSteps := 1000000) (disch := (first | omega | (simp only [World.size_alloc, size_wr, size_drew] <;> omega) | exact not_noB _)) only [go_sem, ↓reduceIte, n0, reduceCtorEq, n1, n2, n3, n4, n5, i0, i1, i2, i3, i4, i5, i6, i7, hb6, htb6]
  generalize hw7 : wr w6 vb 3 [strV (t.at 2).s] = w7
  have hV7 : Upd (fun b => b = vb) w6 w7 := by rw [← hw7]; exact (Upd.refl _ _).wr _ _ (.inr rfl)
  have hb7 : blk w7 vb = some (#[.int .i16 ver, .int .i16 (IntKind.i16.wrap (t.at 0).n), strV (t.at 1).s, strV (t.at 2).s, .string ByteArray.empty, .string ByteArray.empty, .int .i64 0, .int .i64 0, .int .i64 0, .string ByteArray.empty, .slice none 0 0, .int .i32 0, .map none], 92, (0, 0)) := by rw [← hw7, blk_wr_eq, hb6]; rfl
  have hU7 : Upd (fun b => b = vb) w1 w7 := hU6.trans hV7
  have htb7 := hU7.blk_some htb1 htv
  have hvl7 : vb < w7.heap.size := Nat.lt_of_lt_of_le hvl1 hU7.size
  have hsz7 := hU7.size
  clear hvl6 hsz6
  clear hw7
  have hf2 : RepF (RepS true d) (szS true d) fCreateDelegationTokenResponse_2 (OkF okT w.heap.size w1.heap.size) w7 (t.at 2) [strV (t.at 2).s] := (RepF_text rfl (by decide)).2 rfl
  repeat ((first | refine W.seqR rfl ?_ | refine W.seq ?_ | refine W.regR rfl ?_ | refine W.condK ?_ | refine W.block ?_ | refine W.skip ?_ | refine W.ret ?_ | refine W.exit ?_); try simp (maxSteps := 1000000) (disch := (first | omega | (simp only [World.size_alloc, size_wr, size_drew] <;> omega) | exact not_noB _)) only [go_sem, ↓reduceIte, n0, reduceCtorEq, n1, n2, n3, n4, n5, i0, i1, i2, i3, i4, i5, i6, i7, hb7, htb7])
  refine (iat_fn (ok := (OkS okT w.heap.size)) t 3 _ _ (ht1.keep (hU7.keeps fun b _ hk e => hoS b hk e)) (by decide) hllt).mono ?_
  rintro r8 w8 ⟨⟨ca8, rfl, hca8⟩, hEa8⟩
  obtain ⟨vSa8, vLa8, vUa8, rfl, hna8, hSa8, hLa8, hUa8⟩ := hca8.inv
  obtain ⟨bSa8, cSa8, rfl, hcSa8⟩ := hSa8.shape
  obtain ⟨bLa8, cLa8, rfl, hcLa8⟩ := SlR.shape hLa8
  have hfU8 := SlR.flat hUa8
  clear hcSa8 hcLa8 hna8
  have hV8 : Upd (fun b => b = vb) w7 w8 := hEa8.mono fun _ h => h.elim
  have hU8 : Upd (fun b => b = vb) w1 w8 := hU7.trans hV8
  have htb8 := hU8.blk_some htb1 htv
  have hvl8 : vb < w8.heap.size := Nat.lt_of_lt_of_le hvl1 hU8.size
  have hsz8 := hU8.size
  clear hvl7 hsz7
  have hb8 : blk w8 vb = some (#[.int .i16 ver, .int .i16 (IntKind.i16.wrap (t.at 0).n), strV (t.at 1).s, strV (t.at 2).s, .string ByteArray.empty, .string ByteArray.empty, .int .i64 0, .int .i64 0, .int .i64 0, .string ByteArray.empty, .slice none 0 0, .int .i32 0, .map none], 92, (0, 0)) := hEa8.blk_some hb7 id
  simp (maxSteps := 1000000) (disch := (first | omega | (simp only [World.size_alloc, size_wr, size_drew] <;> omega) | exact not_noB _)) only [go_sem, ↓reduceIte, n0, reduceCtorEq, n1, n2, n3, n4, n5, i0, i1, i2, i3, i4, i5, i6, i7, hb8, htb8]
  refine wp_string (S := 22) (T := 9) (E := 5) (s := (t.at 3).s) (ok := (OkS okT w.heap.size)) (by kernel_rfl) (by kernel_rfl) (by kernel_rfl) (by simp (maxSteps := 1000000) (disch := (first | omega | (simp only [World.size_alloc, size_wr, size_drew] <;> omega) | exact not_noB _)) only [go_sem, ↓reduceIte, n0, reduceCtorEq, n1, n2, n3, n4, n5, i0, i1, i2, i3, i4, i5, i6, i7]; exact hSa8) ?_
  simp (maxSteps := 1000000) (disch := (first | omega | (simp only [World.size_alloc, size_wr, size_drew] <;> omega) | exact not_noB _)) only [go_sem, ↓reduceIte, n0, reduceCtorEq, n1, n2, n3, n4, n5, i0, i1, i2, i3, i4, i5, i6, i7, hb8, htb8]
  generalize hw9 : wr w8 vb 4 [strV (t.at 3).s] = w9
  have hV9 : Upd (fun b => b = vb) w8 w9 := by rw [← hw9]; exact (Upd.refl _ _).wr _ _ (.inr rfl)
  have hb9 : blk w9 vb = some (#[.int .i16 ver, .int .i16 (IntKind.i16.wrap (t.at 0).n), strV (t.at 1).s, strV (t.at 2).s, strV (t.at 3).s, .string ByteArray.empty, .int .i64 0, .int .i64 0, .int .i64 0, .string ByteArray.empty, .slice none 0 0, .int .i32 0, .map none], 92, (0, 0)) := by rw [← hw9, blk_wr_eq, hb8]; rfl
  have hU9 : Upd (fun b => b = vb) w1 w9 := hU8.trans hV9
  have htb9 := hU9.blk_some htb1 htv
  have hvl9 : vb < w9.heap.size := Nat.lt_of_lt_of_le hvl1 hU9.size
  have hsz9 := hU9.size
  clear hvl8 hsz8
  clear hw9
  have hf3 : RepF (RepS true d) (szS true d) fCreateDelegationTokenResponse_3 (OkF okT w.heap.size w1.heap.size) w9 (t.at 3) [strV (t.at 3).s] := (RepF_text rfl (by decide)).2 rfl
  repeat ((first | refine W.seqR rfl ?_ | refine W.seq ?_ | refine W.regR rfl ?_ | refine W.condK ?_ | refine W.block ?_ | refine W.skip ?_ | refine W.ret ?_ | refine W.exit ?_); try simp (maxSteps := 1000000) (disch := (first | omega | (simp only [World.size_alloc, size_wr, size_drew] <;> omega) | exact not_noB _)) only [go_sem, ↓reduceIte, n0, reduceCtorEq, n1, n2, n3, n4, n5, i0, i1, i2, i3, i4, i5, i6, i7, hb9, htb9])
  refine (iat_fn (ok := (OkS okT w.heap.size)) t 4 _ _ (ht1.keep (hU9.keeps fun b _ hk e => hoS b hk e)) (by decide) hllt).mono ?_
  rintro r10 w10 ⟨⟨ca10, rfl, hca10⟩, hEa10⟩
  obtain ⟨vSa10, vLa10, vUa10, rfl, hna10, hSa10, hLa10, hUa10⟩ := hca10.inv
  obtain ⟨bSa10, cSa10, rfl, hcSa10⟩ := hSa10.shape
  obtain ⟨bLa10, cLa10, rfl, hcLa10⟩ := SlR.shape hLa10
  have hfU10 := SlR.flat hUa10
  clear hcSa10 hcLa10 hna10
  have hV10 : Upd (fun b => b = vb) w9 w10 := hEa10.mono fun _ h => h.elim
  have hU10 : Upd (fun b => b = vb) w1 w10 := hU9.trans hV10
  have htb10 := hU10.blk_some htb1 htv
  have hvl10 : vb < w10.heap.size := Nat.lt_of_lt_of_le hvl1 hU10.size
  have hsz10 := hU10.size
  clear hvl9 hsz9
  have hb10 : blk w10 vb = some (#[.int .i16 ver, .int .i16 (IntKind.i16.wrap (t.at 0).n), strV (t.at 1).s, strV (t.at 2).s, strV (t.at 3).s, .string ByteArray.empty, .int .i64 0, .int .i64 0, .int .i64 0, .string ByteArray.empty, .slice none 0 0, .int .i32 0, .map none], 92, (0, 0)) := hEa10.blk_some hb9 id
  simp (maxSteps := 1000000) (disch := (first | omega | (simp only [World.size_alloc, size_wr, size_drew] <;> omega) | exact not_noB _)) only [go_sem, ↓reduceIte, n0, reduceCtorEq, n1, n2, n3, n4, n5, i0, i1, i2, i3, i4, i5, i6, i7, hb10, htb10]
  refine wp_string (S := 22) (T := 9) (E := 5) (s := (t.at 4).s) (ok := (OkS okT w.heap.size)) (by kernel_rfl) (by kernel_rfl) (by kernel_rfl) (by simp (maxSteps := 1000000) (disch := (first | omega | (simp only [World.size_alloc, size_wr, size_drew] <;> omega) | exact not_noB _)) only [go_sem, ↓reduceIte, n0, reduceCtorEq, n1, n2, n3, n4, n5, i0, i1, i2, i3, i4, i5, i6, i7]; exact hSa10) ?_
  simp (maxSteps := 1000000) (disch := (first | omega | (simp only [World.size_alloc, size_wr, size_drew] <;> omega) | exact not_noB _)) only [go_sem, ↓reduceIte, n0, reduceCtorEq, n1, n2, n3, n4, n5, i0, i1, i2, i3, i4, i5, i6, i7, hb10, htb10]
  generalize hw11 : wr w10 vb 5 [strV (t.at 4).s] = w11
  have hV11 : Upd (fun b => b = vb) w10 w11 := by rw [← hw11]; exact (Upd.refl _ _).wr _ _ (.inr rfl)
  have hb11 : blk w11 vb = some (#[.int .i16 ver, .int .i16 (IntKind.i16.wrap (t.at 0).n), strV (t.at 1).s, strV (t.at 2).s, strV (t.at 3).s, strV (t.at 4).s, .int .i64 0, .int .i64 0, .int .i64 0, .string ByteArray.empty, .slice none 0 0, .int .i32 0, .map none], 92, (0, 0)) := by rw [← hw11, blk_wr_eq, hb10]; rfl
  have hU11 : Upd (fun b => b = vb) w1 w11 := hU10.trans hV11
  have htb11 := hU11.blk_some htb1 htv
  have hvl11 : vb < w11.heap.size := Nat.lt_of_lt_of_le hvl1 hU11.size
  have hsz11 := hU11.size
  clear hvl10 hsz10
  clear hw11
  have hf4 : RepF (RepS true d) (szS true d) fCreateDelegationTokenResponse_4 (OkF okT w.heap.size w1.heap.size) w11 (t.at 4) [strV (t.at 4).s] := (RepF_text rfl (by decide)).2 rfl
  repeat ((first | refine W.seqR rfl ?_ | refine W.seq ?_ | refine W.regR rfl ?_ | refine W.condK ?_ | refine W.block ?_ | refine W.skip ?_ | refine W.ret ?_ | refine W.exit ?_); try simp (maxSteps := 1000000) (disch := (first | omega | (simp only [World.size_alloc, size_wr, size_drew] <;> omega) | exact not_noB _)) only [go_sem, ↓reduceIte, n0, reduceCtorEq, n1, n2, n3, n4, n5, i0, i1, i2, i3, i4, i5, i6, i7, hb11, htb11])
  refine (iat_fn (ok := (OkS okT w.heap.size)) t 5 _ _ (ht1.keep (hU11.keeps fun b _ hk e => hoS b hk e)) (by decide) hllt).mono ?_
  rintro r12 w12 ⟨⟨ca12, rfl, hca12⟩, hEa12⟩
  obtain ⟨vSa12, vLa12, vUa12, rfl, hna12, hSa12, hLa12, hUa12⟩ := hca12.inv
  obtain ⟨bSa12, cSa12, rfl, hcSa12⟩ := hSa12.shape
  obtain ⟨bLa12, cLa12, rfl, hcLa12⟩ := SlR.shape hLa12
  have hfU12 := SlR.flat hUa12
  clear hcSa12 hcLa12 hna12
  have hV12 : Upd (fun b => b = vb) w11 w12 := hEa12.mono fun _ h => h.elim
  have hU12 : Upd (fun b => b = vb) w1 w12 := hU11.trans hV12
  have htb12 := hU12.blk_some htb1 htv
  have hvl12 : vb < w12.heap.size := Nat.lt_of_lt_of_le hvl1 hU12.size
  have hsz12 := hU12.size
  clear hvl11 hsz11
  have hb12 : blk w12 vb = some (#[.int .i16 ver, .int .i16 (IntKind.i16.wrap (t.at 0).n), strV (t.at 1).s, strV (t.at 2).s, strV (t.at 3).s, strV (t.at 4).s, .int .i64 0, .int .i64 0, .int .i64 0, .string ByteArray.empty, .slice none 0 0, .int .i32 0, .map none], 92, (0, 0)) := hEa12.blk_some hb11 id
  simp (maxSteps := 1000000) (disch := (first | omega | (simp only [World.size_alloc, size_wr, size_drew] <;> omega) | exact not_noB _)) only [go_sem, ↓reduceIte, n0, reduceCtorEq, n1, n2, n3, n4, n5, i0, i1, i2, i3, i4, i5, i6, i7, hb12, htb12]
  generalize hw13 : wr w12 vb 6 [.int .i64 (t.at 5).n] = w13
  have hV13 : Upd (fun b => b = vb) w12 w13 := by rw [← hw13]; exact (Upd.refl _ _).wr _ _ (.inr rfl)
  have hb13 : blk w13 vb = some (#[.int .i16 ver, .int .i16 (IntKind.i16.wrap (t.at 0).n), strV (t.at 1).s, strV (t.at 2).s, strV (t.at 3).s, strV (t.at 4).s, .int .i64 (t.at 5).n, .int .i64 0, .int .i64 0, .string ByteArray.empty, .slice none 0 0, .int .i32 0, .map none], 92, (0, 0)) := by rw [← hw13, blk_wr_eq, hb12]; rfl
  have hU13 : Upd (fun b => b = vb) w1 w13 := hU12.trans hV13
  have htb13 := hU13.blk_some htb1 htv
  have hvl13 : vb < w13.heap.size := Nat.lt_of_lt_of_le hvl1 hU13.size
  have hsz13 := hU13.size
  clear hvl12 hsz12
  clear hw13
  have hf5 : RepF (RepS true d) (szS true d) fCreateDelegationTokenResponse_5 (OkF okT w.heap.size w1.heap.size) w13 (t.at 5) [.int .i64 (t.at 5).n] := (RepF_num (by decide)).2 rfl
  repeat ((first | refine W.seqR rfl ?_ | refine W.seq ?_ | refine W.regR rfl ?_ | refine W.condK ?_ | refine W.block ?_ | refine W.skip ?_ | refine W.ret ?_ | refine W.exit ?_); try simp (maxSteps := 1000000) (disch := (first | omega | (simp only [World.size_alloc, size_wr, size_drew] <;> omega) | exact not_noB _)) only [go_sem, ↓reduceIte, n0, reduceCtorEq, n1, n2, n3, n4, n5, i0, i1, i2, i3, i4, i5, i6, i7, hb13, htb13])
  refine (iat_fn (ok := (OkS okT w.heap.size)) t 6 _ _ (ht1.keep (hU13.keeps fun b _ hk e => hoS b hk e)) (by decide) hllt).mono ?_
  rintro r14 w14 ⟨⟨ca14, rfl, hca14⟩, hEa14⟩
  obtain ⟨vSa14, vLa14, vUa14, rfl, hna14, hSa14, hLa14, hUa14⟩ := hca14.inv
  obtain ⟨bSa14, cSa14, rfl, hcSa14⟩ := hSa14.shape
  obtain ⟨bLa14, cLa14, rfl, hcLa14⟩ := SlR.shape hLa14
  have hfU14 := SlR.flat hUa14
  clear hcSa14 hcLa14 hna14
  have hV14 : Upd (fun b => b = vb) w13 w14 := hEa14.mono fun _ h => h.elim
  have hU14 : Upd (fun b => b = vb) w1 w14 := hU13.trans hV14
  have htb14 := hU14.blk_some htb1 htv
  have hvl14 : vb < w14.heap.size := Nat.lt_of_lt_of_le hvl1 hU14.size
  have hsz14 := hU14.size
  clear hvl13 hsz13
  have hb14 : blk w14 vb = some (#[.int .i16 ver, .int .i16 (IntKind.i16.wrap (t.at 0).n), strV (t.at 1).s, strV (t.at 2).s, strV (t.at 3).s, strV (t.at 4).s, .int .i64 (t.at 5).n, .int .i64 0, .int .i64 0, .string ByteArray.empty, .slice none 0 0, .int .i32 0, .map none], 92, (0, 0)) := hEa14.blk_some hb13 id
  simp (maxSteps := 1000000) (disch := (first | omega | (simp only [World.size_alloc, size_wr, size_drew] <;> omega) | exact not_noB _)) only [go_sem, ↓reduceIte, n0, reduceCtorEq, n1, n2, n3, n4, n5, i0, i1, i2, i3, i4, i5, i6, i7, hb14, htb14]
  generalize hw15 : wr w14 vb 7 [.int .i64 (t.at 6).n] = w15
  have hV15 : Upd (fun b => b = vb) w14 w15 := by rw [← hw15]; exact (Upd.refl _ _).wr _ _ (.inr rfl)
  have hb15 : blk w15 vb = some (#[.int .i16 ver, .int .i16 (IntKind.i16.wrap (t.at 0).n), strV (t.at 1).s, strV (t.at 2).s, strV (t.at 3).s, strV (t.at 4).s, .int .i64 (t.at 5).n, .int .i64 (t.at 6).n, .int .i64 0, .string ByteArray.empty, .slice none 0 0, .int .i32 0, .map none], 92, (0, 0)) := by rw [← hw15, blk_wr_eq, hb14]; rfl
  have hU15 : Upd (fun b => b = vb) w1 w15 := hU14.trans hV15
  have htb15 := hU15.blk_some htb1 htv
  have hvl15 : vb < w15.heap.size := Nat.lt_of_lt_of_le hvl1 hU15.size
  have hsz15 := hU15.size
  clear hvl14 hsz14
  clear hw15
  have hf6 : RepF (RepS true d) (szS true d) fCreateDelegationTokenResponse_6 (OkF okT w.heap.size w1.heap.size) w15 (t.at 6) [.int .i64 (t.at 6).n] := (RepF_num (by decide)).2 rfl
  repeat ((first | refine W.seqR rfl ?_ | refine W.seq ?_ | refine W.regR rfl ?_ | refine W.condK ?_ | refine W.block ?_ | refine W.skip ?_ | refine W.ret ?_ | refine W.exit ?_); try simp (maxSteps := 1000000) (disch := (first | omega | (simp only [World.size_alloc, size_wr, size_drew] <;> omega) | exact not_noB _)) only [go_sem, ↓reduceIte, n0, reduceCtorEq, n1, n2, n3, n4, n5, i0, i1, i2, i3, i4, i5, i6, i7, hb15, htb15])
  refine (iat_fn (ok := (OkS okT w.heap.size)) t 7 _ _ (ht1.keep (hU15.keeps fun b _ hk e => hoS b hk e)) (by decide) hllt).mono ?_
  rintro r16 w16 ⟨⟨ca16, rfl, hca16⟩, hEa16⟩
  obtain ⟨vSa16, vLa16, vUa16, rfl, hna16, hSa16, hLa16, hUa16⟩ := hca16.inv
  obtain ⟨bSa16, cSa16, rfl, hcSa16⟩ := hSa16.shape
  obtain ⟨bLa16, cLa16, rfl, hcLa16⟩ := SlR.shape hLa16
  have hfU16 := SlR.flat hUa16
  clear hcSa16 hcLa16 hna16
  have hV16 : Upd (fun b => b = vb) w15 w16 := hEa16.mono fun _ h => h.elim
  have hU16 : Upd (fun b => b = vb) w1 w16 := hU15.trans hV16
  have htb16 := hU16.blk_some htb1 htv
  have hvl16 : vb < w16.heap.size := Nat.lt_of_lt_of_le hvl1 hU16.size
  have hsz16 := hU16.size
  clear hvl15 hsz15
  have hb16 : blk w16 vb = some (#[.int .i16 ver, .int .i16 (IntKind.i16.wrap (t.at 0).n), strV (t.at 1).s, strV (t.at 2).s, strV (t.at 3).s, strV (t.at 4).s, .int .i64 (t.at 5).n, .int .i64 (t.at 6).n, .int .i64 0, .string ByteArray.empty, .slice none 0 0, .int .i32 0, .map none], 92, (0, 0)) := hEa16.blk_some hb15 id
  simp (maxSteps := 1000000) (disch := (first | omega | (simp only [World.size_alloc, size_wr, size_drew] <;> omega) | exact not_noB _)) only [go_sem, ↓reduceIte, n0, reduceCtorEq, n1, n2, n3, n4, n5, i0, i1, i2, i3, i4, i5, i6, i7, hb16, htb16]
  generalize hw17 : wr w16 vb 8 [.int .i64 (t.at 7).n] = w17
  have hV17 : Upd (fun b => b = vb) w16 w17 := by rw [← hw17]; exact (Upd.refl _ _).wr _ _ (.inr rfl)
  have hb17 : blk w17 vb = some (#[.int .i16 ver, .int .i16 (IntKind.i16.wrap (t.at 0).n), strV (t.at 1).s, strV (t.at 2).s, strV (t.at 3).s, strV (t.at 4).s, .int .i64 (t.at 5).n, .int .i64 (t.at 6).n, .int .i64 (t.at 7).n, .string ByteArray.empty, .slice none 0 0, .int .i32 0, .map none], 92, (0, 0)) := by rw [← hw17, blk_wr_eq, hb16]; rfl
  have hU17 : Upd (fun b => b = vb) w1 w17 := hU16.trans hV17
  have htb17 := hU17.blk_some htb1 htv
  have hvl17 : vb < w17.heap.size := Nat.lt_of_lt_of_le hvl1 hU17.size
  have hsz17 := hU17.size
  clear hvl16 hsz16
  clear hw17
  have hf7 : RepF (RepS true d) (szS true d) fCreateDelegationTokenResponse_7 (OkF okT w.heap.size w1.heap.size) w17 (t.at 7) [.int .i64 (t.at 7).n] := (RepF_num (by decide)).2 rfl
  repeat ((first | refine W.seqR rfl ?_ | refine W.seq ?_ | refine W.regR rfl ?_ | refine W.condK ?_ | refine W.block ?_ | refine W.skip ?_ | refine W.ret ?_ | refine W.exit ?_); try simp (maxSteps := 1000000) (disch := (first | omega | (simp only [World.size_alloc, size_wr, size_drew] <;> omega) | exact not_noB _)) only [go_sem, ↓reduceIte, n0, reduceCtorEq, n1, n2, n3, n4, n5, i0, i1, i2, i3, i4, i5, i6, i7, hb17, htb17])
  refine (iat_fn (ok := (OkS okT w.heap.size)) t 8 _ _ (ht1.keep (hU17.keeps fun b _ hk e => hoS b hk e)) (by decide) hllt).mono ?_
  rintro r18 w18 ⟨⟨ca18, rfl, hca18⟩, hEa18⟩
  obtain ⟨vSa18, vLa18, vUa18, rfl, hna18, hSa18, hLa18, hUa18⟩ := hca18.inv
  obtain ⟨bSa18, cSa18, rfl, hcSa18⟩ := hSa18.shape
  obtain ⟨bLa18, cLa18, rfl, hcLa18⟩ := SlR.shape hLa18
  have hfU18 := SlR.flat hUa18
  clear hcSa18 hcLa18 hna18
  have hV18 : Upd (fun b => b = vb) w17 w18 := hEa18.mono fun _ h => h.elim
  have hU18 : Upd (fun b => b = vb) w1 w18 := hU17.trans hV18
  have htb18 := hU18.blk_some htb1 htv
  have hvl18 : vb < w18.heap.size := Nat.lt_of_lt_of_le hvl1 hU18.size
  have hsz18 := hU18.size
  clear hvl17 hsz17
  have hb18 : blk w18 vb = some (#[.int .i16 ver, .int .i16 (IntKind.i16.wrap (t.at 0).n), strV (t.at 1).s, strV (t.at 2).s, strV (t.at 3).s, strV (t.at 4).s, .int .i64 (t.at 5).n, .int .i64 (t.at 6).n, .int .i64 (t.at 7).n, .string ByteArray.empty, .slice none 0 0, .int .i32 0, .map none], 92, (0, 0)) := hEa18.blk_some hb17 id
  simp (maxSteps := 1000000) (disch := (first | omega | (simp only [World.size_alloc, size_wr, size_drew] <;> omega) | exact not_noB _)) only [go_sem, ↓reduceIte, n0, reduceCtorEq, n1, n2, n3, n4, n5, i0, i1, i2, i3, i4, i5, i6, i7, hb18, htb18]
  refine wp_string (S := 22) (T := 9) (E := 5) (s := (t.at 8).s) (ok := (OkS okT w.heap.size)) (by kernel_rfl) (by kernel_rfl) (by kernel_rfl) (by simp (maxSteps := 1000000) (disch := (first | omega | (simp only [World.size_alloc, size_wr, size_drew] <;> omega) | exact not_noB _)) only [go_sem, ↓reduceIte, n0, reduceCtorEq, n1, n2, n3, n4, n5, i0, i1, i2, i3, i4, i5, i6, i7]; exact hSa18) ?_
  simp (maxSteps := 1000000) (disch := (first | omega | (simp only [World.size_alloc, size_wr, size_drew] <;> omega) | exact not_noB _)) only [go_sem, ↓reduceIte, n0, reduceCtorEq, n1, n2, n3, n4, n5, i0, i1, i2, i3, i4, i5, i6, i7, hb18, htb18]
  generalize hw19 : wr w18 vb 9 [strV (t.at 8).s] = w19
  have hV19 : Upd (fun b => b = vb) w18 w19 := by rw [← hw19]; exact (Upd.refl _ _).wr _ _ (.inr rfl)
  have hb19 : blk w19 vb = some (#[.int .i16 ver, .int .i16 (IntKind.i16.wrap (t.at 0).n), strV (t.at 1).s, strV (t.at 2).s, strV (t.at 3).s, strV (t.at 4).s, .int .i64 (t.at 5).n, .int .i64 (t.at 6).n, .int .i64 (t.at 7).n, strV (t.at 8).s, .slice none 0 0, .int .i32 0, .map none], 92, (0, 0)) := by rw [← hw19, blk_wr_eq, hb18]; rfl
  have hU19 : Upd (fun b => b = vb) w1 w19 := hU18.trans hV19
  have htb19 := hU19.blk_some htb1 htv
  have hvl19 : vb < w19.heap.size := Nat.lt_of_lt_of_le hvl1 hU19.size
  have hsz19 := hU19.size
  clear hvl18 hsz18
  clear hw19
  have hf8 : RepF (RepS true d) (szS true d) fCreateDelegationTokenResponse_8 (OkF okT w.heap.size w1.heap.size) w19 (t.at 8) [strV (t.at 8).s] := (RepF_text rfl (by decide)).2 rfl
  repeat ((first | refine W.seqR rfl ?_ | refine W.seq ?_ | refine W.regR rfl ?_ | refine W.condK ?_ | refine W.block ?_ | refine W.skip ?_ | refine W.ret ?_ | refine W.exit ?_); try simp (maxSteps := 1000000) (disch := (first | omega | (simp only [World.size_alloc, size_wr, size_drew] <;> omega) | exact not_noB _)) only [go_sem, ↓reduceIte, n0, reduceCtorEq, n1, n2, n3, n4, n5, i0, i1, i2, i3, i4, i5, i6, i7, hb19, htb19])
  refine (iat_fn (ok := (OkS okT w.heap.size)) t 9 _ _ (ht1.keep (hU19.keeps fun b _ hk e => hoS b hk e)) (by decide) hllt).mono ?_
  rintro r20 w20 ⟨⟨ca20, rfl, hca20⟩, hEa20⟩
  obtain ⟨vSa20, vLa20, vUa20, rfl, hna20, hSa20, hLa20, hUa20⟩ := hca20.inv
  obtain ⟨bSa20, cSa20, rfl, hcSa20⟩ := hSa20.shape
  obtain ⟨bLa20, cLa20, rfl, hcLa20⟩ := SlR.shape hLa20
  have hfU20 := SlR.flat hUa20
  clear hcSa20 hcLa20 hna20
  have hV20 : Upd (fun b => b = vb) w19 w20 := hEa20.mono fun _ h => h.elim
  have hU20 : Upd (fun b => b = vb) w1 w20 := hU19.trans hV20
  have htb20 := hU20.blk_some htb1 htv
  have hvl20 : vb < w20.heap.size := Nat.lt_of_lt_of_le hvl1 hU20.size
  have hsz20 := hU20.size
  clear hvl19 hsz19
  have hb20 : blk w20 vb = some (#[.int .i16 ver, .int .i16 (IntKind.i16.wrap (t.at 0).n), strV (t.at 1).s, strV (t.at 2).s, strV (t.at 3).s, strV (t.at 4).s, .int .i64 (t.at 5).n, .int .i64 (t.at 6).n, .int .i64 (t.at 7).n, strV (t.at 8).s, .slice none 0 0, .int .i32 0, .map none], 92, (0, 0)) := hEa20.blk_some hb19 id
  simp (maxSteps := 1000000) (disch := (first | omega | (simp only [World.size_alloc, size_wr, size_drew] <;> omega) | exact not_noB _)) only [go_sem, ↓reduceIte, n0, reduceCtorEq, n1, n2, n3, n4, n5, i0, i1, i2, i3, i4, i5, i6, i7, hb20, htb20]
  refine (octetsOf_fn (okT := (OkS okT w.heap.size)) (t.at 9) _ _ hca20 (by have := g9.text (.inr rfl); omega)).mono ?_
  rintro r21 w21 ⟨hp21, hEa21⟩
  have hsp21 := hsz20
  have hV21 : Upd (fun b => b = vb) w20 w21 := hEa21.mono fun _ h => h.elim
  have hU21 : Upd (fun b => b = vb) w1 w21 := hU20.trans hV21
  have htb21 := hU21.blk_some htb1 htv
  have hvl21 : vb < w21.heap.size := Nat.lt_of_lt_of_le hvl1 hU21.size
  have hsz21 := hU21.size
  clear hvl20 hsz20
  have hb21 : blk w21 vb = some (#[.int .i16 ver, .int .i16 (IntKind.i16.wrap (t.at 0).n), strV (t.at 1).s, strV (t.at 2).s, strV (t.at 3).s, strV (t.at 4).s, .int .i64 (t.at 5).n, .int .i64 (t.at 6).n, .int .i64 (t.at 7).n, strV (t.at 8).s, .slice none 0 0, .int .i32 0, .map none], 92, (0, 0)) := hEa21.blk_some hb20 id
  obtain ⟨ao9, no9, co9, rfl⟩ := hp21.shape
  simp (maxSteps := 1000000) (disch := (first | omega | (simp only [World.size_alloc, size_wr, size_drew] <;> omega) | exact not_noB _)) only [go_sem, ↓reduceIte, n0, reduceCtorEq, n1, n2, n3, n4, n5, i0, i1, i2, i3, i4, i5, i6, i7, hb21, htb21]
  generalize hw22 : wr w21 vb 10 [.slice ao9 no9 co9] = w22
  have hV22 : Upd (fun b => b = vb) w21 w22 := by rw [← hw22]; exact (Upd.refl _ _).wr _ _ (.inr rfl)
  have hb22 : blk w22 vb = some (#[.int .i16 ver, .int .i16 (IntKind.i16.wrap (t.at 0).n), strV (t.at 1).s, strV (t.at 2).s, strV (t.at 3).s, strV (t.at 4).s, .int .i64 (t.at 5).n, .int .i64 (t.at 6).n, .int .i64 (t.at 7).n, strV (t.at 8).s, .slice ao9 no9 co9, .int .i32 0, .map none], 92, (0, 0)) := by rw [← hw22, blk_wr_eq, hb21]; rfl
  have hU22 : Upd (fun b => b = vb) w1 w22 := hU21.trans hV22
  have htb22 := hU22.blk_some htb1 htv
  have hvl22 : vb < w22.heap.size := Nat.lt_of_lt_of_le hvl1 hU22.size
  have hsz22 := hU22.size
  clear hvl21 hsz21
  clear hw22
  have hf9 : RepF (RepS true d) (szS true d) fCreateDelegationTokenResponse_9 (OkF okT w.heap.size w1.heap.size) w22 (t.at 9) [.slice ao9 no9 co9] := (RepF_bytes rfl).2 ⟨_, rfl, (hp21.weaken fun b _ hk => .inr (Nat.le_trans hsp21 hk)).keep (hV22.keeps fun b _ hk e => hoF b hk e)⟩
  repeat ((first | refine W.seqR rfl ?_ | refine W.seq ?_ | refine W.regR rfl ?_ | refine W.condK ?_ | refine W.block ?_ | refine W.skip ?_ | refine W.ret ?_ | refine W.exit ?_); try simp (maxSteps := 1000000) (disch := (first | omega | (simp only [World.size_alloc, size_wr, size_drew] <;> omega) | exact not_noB _)) only [go_sem, ↓reduceIte, n0, reduceCtorEq, n1, n2, n3, n4, n5, i0, i1, i2, i3, i4, i5, i6, i7, hb22, htb22])
  refine (iat_fn (ok := (OkS okT w.heap.size)) t 10 _ _ (ht1.keep (hU22.keeps fun b _ hk e => hoS b hk e)) (by decide) hllt).mono ?_
  rintro r23 w23 ⟨⟨ca23, rfl, hca23⟩, hEa23⟩
  obtain ⟨vSa23, vLa23, vUa23, rfl, hna23, hSa23, hLa23, hUa23⟩ := hca23.inv
  obtain ⟨bSa23, cSa23, rfl, hcSa23⟩ := hSa23.shape
  obtain ⟨bLa23, cLa23, rfl, hcLa23⟩ := SlR.shape hLa23
  have hfU23 := SlR.flat hUa23
  clear hcSa23 hcLa23 hna23
  have hV23 : Upd (fun b => b = vb) w22 w23 := hEa23.mono fun _ h => h.elim
  have hU23 : Upd (fun b => b = vb) w1 w23 := hU22.trans hV23
  have htb23 := hU23.blk_some htb1 htv
  have hvl23 : vb < w23.heap.size := Nat.lt_of_lt_of_le hvl1 hU23.size
  have hsz23 := hU23.size
  clear hvl22 hsz22
  have hb23 : blk w23 vb = some (#[.int .i16 ver, .int .i16 (IntKind.i16.wrap (t.at 0).n), strV (t.at 1).s, strV (t.at 2).s, strV (t.at 3).s, strV (t.at 4).s, .int .i64 (t.at 5).n, .int .i64 (t.at 6).n, .int .i64 (t.at 7).n, strV (t.at 8).s, .slice ao9 no9 co9, .int .i32 0, .map none], 92, (0, 0)) := hEa23.blk_some hb22 id
  simp (maxSteps := 1000000) (disch := (first | omega | (simp only [World.size_alloc, size_wr, size_drew] <;> omega) | exact not_noB _)) only [go_sem, ↓reduceIte, n0, reduceCtorEq, n1, n2, n3, n4, n5, i0, i1, i2, i3, i4, i5, i6, i7, hb23, htb23]
  generalize hw24 : wr w23 vb 11 [.int .i32 (IntKind.i32.wrap (t.at 10).n)] = w24
  have hV24 : Upd (fun b => b = vb) w23 w24 := by rw [← hw24]; exact (Upd.refl _ _).wr _ _ (.inr rfl)
  have hb24 : blk w24 vb = some (#[.int .i16 ver, .int .i16 (IntKind.i16.wrap (t.at 0).n), strV (t.at 1).s, strV (t.at 2).s, strV (t.at 3).s, strV (t.at 4).s, .int .i64 (t.at 5).n, .int .i64 (t.at 6).n, .int .i64 (t.at 7).n, strV (t.at 8).s, .slice ao9 no9 co9, .int .i32 (IntKind.i32.wrap (t.at 10).n), .map none], 92, (0, 0)) := by rw [← hw24, blk_wr_eq, hb23]; rfl
  have hU24 : Upd (fun b => b = vb) w1 w24 := hU23.trans hV24
  have htb24 := hU24.blk_some htb1 htv
  have hvl24 : vb < w24.heap.size := Nat.lt_of_lt_of_le hvl1 hU24.size
  have hsz24 := hU24.size
  clear hvl23 hsz23
  clear hw24
  have hf10 : RepF (RepS true d) (szS true d) fCreateDelegationTokenResponse_10 (OkF okT w.heap.size w1.heap.size) w24 (t.at 10) [.int .i32 (IntKind.i32.wrap (t.at 10).n)] := (RepF_num (by decide)).2 rfl
  repeat ((first | refine W.seqR rfl ?_ | refine W.seq ?_ | refine W.regR rfl ?_ | refine W.condK ?_ | refine W.block ?_ | refine W.skip ?_ | refine W.ret ?_ | refine W.exit ?_); try simp (maxSteps := 1000000) (disch := (first | omega | (simp only [World.size_alloc, size_wr, size_drew] <;> omega) | exact not_noB _)) only [go_sem, ↓reduceIte, n0, reduceCtorEq, n1, n2, n3, n4, n5, i0, i1, i2, i3, i4, i5, i6, i7, hb24, htb24])
  have hUv := hU1v.keep (hU24.keeps fun b _ hk e => hoS b hk e)
  refine W.loop (fun ρ w' => ∃ (j : Nat) (q : Option Nat), j ≤ t.u.length ∧ ρ 82 = .int .i64 j ∧ ρ 81 = .int .i64 t.u.length ∧ ρ 80 = .slice bU t.u.length cU ∧ ρ 0 = .pointer (some ⟨vb, 0, none⟩) ∧ ρ 3 = .pointer (some ⟨w.heap.size, 0, none⟩) ∧ blk w' vb = some (#[.int .i16 ver, .int .i16 (IntKind.i16.wrap (t.at 0).n), strV (t.at 1).s, strV (t.at 2).s, strV (t.at 3).s, strV (t.at 4).s, .int .i64 (t.at 5).n, .int .i64 (t.at 6).n, .int .i64 (t.at 7).n, strV (t.at 8).s, .slice ao9 no9 co9, .int .i32 (IntKind.i32.wrap (t.at 10).n), .map q], 92, (0, 0)) ∧ TagsG (OkS okT w.heap.size) w24.heap.size w' (.map q) (t.u.take j) ∧ Upd (fun b => b = vb) w24 w')
      (fun ρ _ => t.u.length - (RowKit.intOf (ρ 82)).toNat) ?_ ?_
  · refine ⟨0, none, Nat.zero_le _, ?_, ?_, ?_, ?_, ?_, hb24, TagsG.start _ _ _, Upd.refl _ _⟩ <;> simp (maxSteps := 1000000) (disch := (first | omega | (simp only [World.size_alloc, size_wr, size_drew] <;> omega) | exact not_noB _)) only [go_sem, ↓reduceIte, n0, reduceCtorEq, n1, n2, n3, n4, n5, i0, i1, i2, i3, i4, i5, i6, i7]
    all_goals rfl
  · rintro ρ w_6 ⟨j, q, hj, hI, hN, hS, hr0, hr3, hbv, hG, hU_6⟩
    have hz_6 := hU_6.size
    have hUv_6 := hUv.keep (hU_6.keeps fun b _ hk e => hoS b hk e)
    have hU_16 : Upd (fun b => b = vb) w1 w_6 := hU24.trans hU_6
    have hz_16 := hU_16.size
    by_cases hlt : j < t.u.length
    · obtain ⟨_, b, o, x, vv, hb, hokb, hx, hblt, hxs, hxe, _, _, hfv, hbvv, h32⟩ := TagsV.get hUv_6 hlt
      subst hb
      have hcat : t.u.take (j + 1) = t.u.take j ++ [t.u[j]] := List.take_succ_eq_append_getElem hlt
      have hnew : ∀ z ∈ t.u.take j, z.1 ≠ t.u[j].1 := by
        intro z hz
        obtain ⟨k, hk, rfl⟩ := List.getElem_of_mem hz
        simp only [List.length_take] at hk
        have := List.pairwise_iff_getElem.1 hfu.2.2 k j (by omega) hlt (by omega)
        rw [List.getElem_take]; omega
      generalize t.u[j] = y at *
      obtain ⟨bSy, cSy, rfl, hcSy⟩ := hbvv.shape
      repeat ((first | refine W.seqR rfl ?_ | refine W.seq ?_ | refine W.regR rfl ?_ | refine W.condK ?_ | refine W.block ?_ | refine W.skip ?_ | refine W.ret ?_ | refine W.exit ?_); try simp (maxSteps := 1000000) (disch := (first | omega | (simp only [World.size_alloc, size_wr, size_drew] <;> omega) | exact not_noB _)) only [go_sem, ↓reduceIte, n0, reduceCtorEq, n1, n2, n3, n4, n5, i0, i1, i2, i3, i4, i5, i6, i7, hI, hN, hS, hx, hxe, hfv, cellsAt_two, Int.toNat_natCast])
      generalize hw_7 : (wr (w_6.alloc (.cells #[.int .u32 0, .slice none 0 0] 64)) w_6.heap.size 0 [.int .u32 y.1, .slice bSy y.2.length cSy]) = w_7
      have hE_7 : Ext w_6 w_7 := by rw [← hw_7]; exact (Upd.alloc (Upd.refl _ _) _).wr _ _ (.inl (Nat.le_refl _))
      have hb_7 : blk w_7 w_6.heap.size = some (#[.int .u32 y.1, .slice bSy y.2.length cSy], 64, (0, 0)) := by rw [← hw_7]; simp (maxSteps := 1000000) (disch := (first | omega | (simp only [World.size_alloc, size_wr, size_drew] <;> omega) | exact not_noB _)) only [go_sem, ↓reduceIte, n0, reduceCtorEq, n1, n2, n3, n4, n5, i0, i1, i2, i3, i4, i5, i6, i7]
      have hz_7 : w_7.heap.size = w_6.heap.size + 1 := by rw [← hw_7]; simp only [size_wr, World.size_alloc]
      clear hw_7
      have hbt_7 := hE_7.blk_some hbv id
      have hnb : ∀ b, b = w_6.heap.size → ¬ (b = vb ∨ Value.map q = .map (some b)) := fun b hb h => by
        rcases h with h | h
        · omega
        · cases h; have := (hG.lt rfl).1; omega
      refine W.drawR (.take 0 (.take 1 (.take 2 (.take 3 (.take 4 (.take 5 (.take 6 (.only 7 .done)))))))) (fun b => b = vb ∨ Value.map q = .map (some b)) mixed (by kernel_rfl) ?_
      simp (maxSteps := 1000000) (disch := (first | omega | (simp only [World.size_alloc, size_wr, size_drew] <;> omega) | exact not_noB _ | (refine hnb _ ?_; first | omega | (simp only [World.size_alloc, size_wr, size_drew] <;> omega)))) only [go_sem, ↓reduceIte, n0, reduceCtorEq, n1, n2, n3, n4, n5, i0, i1, i2, i3, i4, i5, i6, i7, hr0, hr3, hbt_7, hb_7, cellsAt_two]
      have hE_7d : Ext w_7 w_7.drew := (Upd.refl _ _).drew
      have hE_6d : Ext w_6 w_7.drew := hE_7.trans hE_7d
      have hG_7 : TagsG (OkS okT w.heap.size) w24.heap.size w_7.drew (.map q) (t.u.take j) := hG.keep fun b hb _ => hE_6d.keep b hb id
      have hbt_8 := hE_7d.blk_some hbt_7 id
      have hm_8 : (#[.int .i16 ver, .int .i16 (IntKind.i16.wrap (t.at 0).n), strV (t.at 1).s, strV (t.at 2).s, strV (t.at 3).s, strV (t.at 4).s, .int .i64 (t.at 5).n, .int .i64 (t.at 6).n, .int .i64 (t.at 7).n, strV (t.at 8).s, .slice ao9 no9 co9, .int .i32 (IntKind.i32.wrap (t.at 10).n), .map q] : Array Value)[12]? = some (.map q) := rfl
      refine (TagsSet_fn (okT := (OkS okT w.heap.size)) (L := w24.heap.size) w_7.drew hG_7 (by have := hE_6d.size; omega) (by omega) hbt_8 (o := 12) hm_8 (thaw_00 _ _) y _ ((hbvv.weaken fun b _ hk => ⟨hk, by have := hk.2; omega⟩).keep (hE_6d.keeps _)) h32 hnew hoS).mono ?_
      rintro _ w_8 ⟨m', hb_8, hG_8, hM_8⟩
      simp only [List.setIfInBounds_toArray, List.set_cons_succ, List.set_cons_zero] at hb_8
      refine ⟨hM_8, ?_⟩
      repeat ((first | refine W.seqR rfl ?_ | refine W.seq ?_ | refine W.regR rfl ?_ | refine W.condK ?_ | refine W.block ?_ | refine W.skip ?_ | refine W.ret ?_ | refine W.exit ?_); try simp (maxSteps := 1000000) (disch := (first | omega | (simp only [World.size_alloc, size_wr, size_drew] <;> omega) | exact not_noB _)) only [go_sem, ↓reduceIte, n0, reduceCtorEq, n1, n2, n3, n4, n5, i0, i1, i2, i3, i4, i5, i6, i7, hI])
      refine ⟨⟨j + 1, m', by omega, rfl, hN, hS, hr0, hr3, hb_8, by rw [hcat]; exact hG_8, ?_⟩, ?_⟩
      · exact hU_6.more ((hE_6d.mono fun _ h => h.elim).trans hM_8) fun b hb h => by
          rcases h with h | h
          · exact h
          · cases h; have := (hG.lt rfl).2; omega
      · simp only [RowKit.intOf]; omega
    · have hjl : j = t.u.length := by omega
      subst hjl
      rw [List.take_length] at hG
      have hT23 : Upd (fun b => b = vb) w23 w_6 := hV24.trans hU_6
      have hT22 : Upd (fun b => b = vb) w22 w_6 := hV23.trans hT23
      have hT21 : Upd (fun b => b = vb) w21 w_6 := hV22.trans hT22
      have hT20 : Upd (fun b => b = vb) w20 w_6 := hV21.trans hT21
      have hT19 : Upd (fun b => b = vb) w19 w_6 := hV20.trans hT20
      have hT18 : Upd (fun b => b = vb) w18 w_6 := hV19.trans hT19
      have hT17 : Upd (fun b => b = vb) w17 w_6 := hV18.trans hT18
      have hT16 : Upd (fun b => b = vb) w16 w_6 := hV17.trans hT17
      have hT15 : Upd (fun b => b = vb) w15 w_6 := hV16.trans hT16
      have hT14 : Upd (fun b => b = vb) w14 w_6 := hV15.trans hT15
      have hT13 : Upd (fun b => b = vb) w13 w_6 := hV14.trans hT14
      have hT12 : Upd (fun b => b = vb) w12 w_6 := hV13.trans hT13
      have hT11 : Upd (fun b => b = vb) w11 w_6 := hV12.trans hT12
      have hT10 : Upd (fun b => b = vb) w10 w_6 := hV11.trans hT11
      have hT9 : Upd (fun b => b = vb) w9 w_6 := hV10.trans hT10
      have hT8 : Upd (fun b => b = vb) w8 w_6 := hV9.trans hT9
      have hT7 : Upd (fun b => b = vb) w7 w_6 := hV8.trans hT8
      have hT6 : Upd (fun b => b = vb) w6 w_6 := hV7.trans hT7
      have hT5 : Upd (fun b => b = vb) w5 w_6 := hV6.trans hT6
      have hT4 : Upd (fun b => b = vb) w4 w_6 := hV5.trans hT5
      have hT3 : Upd (fun b => b = vb) w3 w_6 := hV4.trans hT4
      have hT2 : Upd (fun b => b = vb) w2 w_6 := hV3.trans hT3
      have hT1 : Upd (fun b => b = vb) w1 w_6 := hV2.trans hT2
      have hz0_f := hf0.keepS (hT3.keeps fun b _ hk e => hoF b hk e)
      have hz1_f := hf1.keepS (hT5.keeps fun b _ hk e => hoF b hk e)
      have hz2_f := hf2.keepS (hT7.keeps fun b _ hk e => hoF b hk e)
      have hz3_f := hf3.keepS (hT9.keeps fun b _ hk e => hoF b hk e)
      have hz4_f := hf4.keepS (hT11.keeps fun b _ hk e => hoF b hk e)
      have hz5_f := hf5.keepS (hT13.keeps fun b _ hk e => hoF b hk e)
      have hz6_f := hf6.keepS (hT15.keeps fun b _ hk e => hoF b hk e)
      have hz7_f := hf7.keepS (hT17.keeps fun b _ hk e => hoF b hk e)
      have hz8_f := hf8.keepS (hT19.keeps fun b _ hk e => hoF b hk e)
      have hz9_f := hf9.keepS (hT22.keeps fun b _ hk e => hoF b hk e)
      have hz10_f := hf10.keepS (hU_6.keeps fun b _ hk e => hoF b hk e)
      have hTg := hG.tags (ok' := (OkF okT w.heap.size w1.heap.size)) (fun b _ hk => .inl hk) (fun b hb => .inr (by omega))
      have hL : RepL (RepS true d) (szS true d) (OkF okT w.heap.size w1.heap.size) w_6 t [fCreateDelegationTokenResponse_0, fCreateDelegationTokenResponse_1, fCreateDelegationTokenResponse_2, fCreateDelegationTokenResponse_3, fCreateDelegationTokenResponse_4, fCreateDelegationTokenResponse_5, fCreateDelegationTokenResponse_6, fCreateDelegationTokenResponse_7, fCreateDelegationTokenResponse_8, fCreateDelegationTokenResponse_9, fCreateDelegationTokenResponse_10] 0 [.int .i16 (IntKind.i16.wrap (t.at 0).n), strV (t.at 1).s, strV (t.at 2).s, strV (t.at 3).s, strV (t.at 4).s, .int .i64 (t.at 5).n, .int .i64 (t.at 6).n, .int .i64 (t.at 7).n, strV (t.at 8).s, .slice ao9 no9 co9, .int .i32 (IntKind.i32.wrap (t.at 10).n)] := (RepL.cons1 hz0_f (RepL.cons1 hz1_f (RepL.cons1 hz2_f (RepL.cons1 hz3_f (RepL.cons1 hz4_f (RepL.cons1 hz5_f (RepL.cons1 hz6_f (RepL.cons1 hz7_f (RepL.cons1 hz8_f (RepL.cons1 hz9_f (RepL.cons1 hz10_f RepL.nil)))))))))))
      have hR : RepS true (d + 1) fs_CreateDelegationTokenResponse (OkF okT w.heap.size w1.heap.size) w_6 t [.int .i16 (IntKind.i16.wrap (t.at 0).n), strV (t.at 1).s, strV (t.at 2).s, strV (t.at 3).s, strV (t.at 4).s, .int .i64 (t.at 5).n, .int .i64 (t.at 6).n, .int .i64 (t.at 7).n, strV (t.at 8).s, .slice ao9 no9 co9, .int .i32 (IntKind.i32.wrap (t.at 10).n), .map q] := RepS.intro (c := [.int .i16 (IntKind.i16.wrap (t.at 0).n), strV (t.at 1).s, strV (t.at 2).s, strV (t.at 3).s, strV (t.at 4).s, .int .i64 (t.at 5).n, .int .i64 (t.at 6).n, .int .i64 (t.at 7).n, strV (t.at 8).s, .slice ao9 no9 co9, .int .i32 (IntKind.i32.wrap (t.at 10).n)]) rfl hL hTg
      repeat ((first | refine W.seqR rfl ?_ | refine W.seq ?_ | refine W.regR rfl ?_ | refine W.condK ?_ | refine W.block ?_ | refine W.skip ?_ | refine W.ret ?_ | refine W.exit ?_); try simp (maxSteps := 1000000) (disch := (first | omega | (simp only [World.size_alloc, size_wr, size_drew] <;> omega) | exact not_noB _)) only [go_sem, ↓reduceIte, n0, reduceCtorEq, n1, n2, n3, n4, n5, i0, i1, i2, i3, i4, i5, i6, i7, hI, hN])
      exact ⟨_, hbv, (RepS_lay true (d + 1) fs_CreateDelegationTokenResponse).weaken hR (fun b _ hk => hk.imp And.left fun h => by omega), Upd.more (hE1.mono fun _ h => h.elim) hT1 fun _ _ h => h⟩
end Ms

namespace Ms
open Nat renaming reduceEqDiff → n0, reduceAdd → n1, reduceMul → n2, reduceSub → n3, reduceLT → n4, reduceLeDiff → n5
open Int renaming reduceEq → i0, reduceLT → i1, reduceLE → i2, reduceNeg → i3, reduceAdd → i4, reduceSub → i5, reduceMul → i6, reduceToNat → i7
set_option maxRecDepth 8000
open Go Go.Proofs Go.Shelf
attribute [local congr] W_congr WPsq_congr WPp_congr optK_congr addrK_congr intK_congr boolK_congr sliceK_congr tupleK_congr funcK_congr Fn_congr rawK_congr takeK_congr stepK_congr convK_congr aggK_congr

set_option maxHeartbeats 4000000 in
theorem cCreateDelegationTokenResponse_fn (w : World) : Fn Try.prog 32 #[] w fun r w' => (∃ vs, r = .agg #[vs, .int .i64 2] ∧ FldsV (fun b => w.heap.size ≤ b) w' vs fs_CreateDelegationTokenResponse) ∧ Ext w w' := by
  refine fn_of_W Try.func32 rfl Try.results32 Try.ntmps32 rfl ?_
  repeat ((first | refine W.seqR rfl ?_ | refine W.seq ?_ | refine W.regR rfl ?_ | refine W.condK ?_ | refine W.block ?_ | refine W.skip ?_ | refine W.ret ?_ | refine W.exit ?_); try simp (maxSteps := 1000000) (disch := (first | omega | (simp only [World.size_alloc, size_wr, size_drew] <;> omega) | exact not_noB _)) only [go_sem, ↓reduceIte, n0, reduceCtorEq, n1, n2, n3, n4, n5, i0, i1, i2, i3, i4, i5, i6, i7, fill_fld, fillN_nil, fillN_int, fillN_slice])
  have hz0 : (w.alloc (.cells #[.slice none 0 0, .int .i64 0] 31)).heap.size = w.heap.size + 1 := World.size_alloc _ _
  repeat ((first | refine W.seqR rfl ?_ | refine W.seq ?_ | refine W.regR rfl ?_ | refine W.condK ?_ | refine W.block ?_ | refine W.skip ?_ | refine W.ret ?_ | refine W.exit ?_); try simp (maxSteps := 1000000) (disch := (first | omega | (simp only [World.size_alloc, size_wr, size_drew] <;> omega) | exact not_noB _)) only [go_sem, ↓reduceIte, n0, reduceCtorEq, n1, n2, n3, n4, n5, i0, i1, i2, i3, i4, i5, i6, i7, fill_fld, fillN_nil, fillN_int, fillN_slice])
  exact ⟨⟨_, rfl, FldsV.litO (fs := fs_CreateDelegationTokenResponse) (css := [[.int .i64 2, .int .i64 0, .int .i64 (-1), .int .i64 (-1), .int .i64 (-1), .int .i64 0, .int .i64 0, .slice none 0 0], [.int .i64 8, .int .i64 0, .int .i64 (-1), .int .i64 (-1), .int .i64 (-1), .int .i64 0, .int .i64 0, .slice none 0 0], [.int .i64 8, .int .i64 0, .int .i64 (-1), .int .i64 (-1), .int .i64 (-1), .int .i64 0, .int .i64 0, .slice none 0 0], [.int .i64 8, .int .i64 3, .int .i64 (-1), .int .i64 (-1), .int .i64 (-1), .int .i64 0, .int .i64 0, .slice none 0 0], [.int .i64 8, .int .i64 3, .int .i64 (-1), .int .i64 (-1), .int .i64 (-1), .int .i64 0, .int .i64 0, .slice none 0 0], [.int .i64 4, .int .i64 0, .int .i64 (-1), .int .i64 (-1), .int .i64 (-1), .int .i64 0, .int .i64 0, .slice none 0 0], [.int .i64 4, .int .i64 0, .int .i64 (-1), .int .i64 (-1), .int .i64 (-1), .int .i64 0, .int .i64 0, .slice none 0 0], [.int .i64 4, .int .i64 0, .int .i64 (-1), .int .i64 (-1), .int .i64 (-1), .int .i64 0, .int .i64 0, .slice none 0 0], [.int .i64 8, .int .i64 0, .int .i64 (-1), .int .i64 (-1), .int .i64 (-1), .int .i64 0, .int .i64 0, .slice none 0 0], [.int .i64 9, .int .i64 0, .int .i64 (-1), .int .i64 (-1), .int .i64 (-1), .int .i64 0, .int .i64 0, .slice none 0 0], [.int .i64 3, .int .i64 0, .int .i64 (-1), .int .i64 (-1), .int .i64 (-1), .int .i64 0, .int .i64 0, .slice none 0 0]]) (T := 50) (fr := (0, 0)) (by first | omega | (simp only [World.size_alloc]; omega)) (by first | (simp (maxSteps := 1000000) (disch := (first | omega | (simp only [World.size_alloc, size_wr, size_drew] <;> omega) | exact not_noB _)) only [go_sem, ↓reduceIte, n0, reduceCtorEq, n1, n2, n3, n4, n5, i0, i1, i2, i3, i4, i5, i6, i7]; rfl) | rfl) (by simp) (All2.cons (FldC.intro (kind := 2) (FldsV.none _ _)) (All2.cons (FldC.intro (kind := 8) (FldsV.none _ _)) (All2.cons (FldC.intro (kind := 8) (FldsV.none _ _)) (All2.cons (FldC.intro (kind := 8) (FldsV.none _ _)) (All2.cons (FldC.intro (kind := 8) (FldsV.none _ _)) (All2.cons (FldC.intro (kind := 4) (FldsV.none _ _)) (All2.cons (FldC.intro (kind := 4) (FldsV.none _ _)) (All2.cons (FldC.intro (kind := 4) (FldsV.none _ _)) (All2.cons (FldC.intro (kind := 8) (FldsV.none _ _)) (All2.cons (FldC.intro (kind := 9) (FldsV.none _ _)) (All2.cons (FldC.intro (kind := 3) (FldsV.none _ _)) All2.nil)))))))))))⟩, (Upd.wr (Upd.alloc (Upd.alloc (Upd.refl _ _) _) _) _ _ (.inl (Nat.le_refl _)))⟩

theorem DefaultCreateDelegationTokenResponse_fn (w : World) {vb : Nat} {c0 c1 c2 c3 c4 c5 c6 c7 c8 c9 c10 c11 c12 : Value} (hb : blk w vb = some (#[c0, c1, c2, c3, c4, c5, c6, c7, c8, c9, c10, c11, c12], 92, (0, 0))) :
    Fn Try.prog 146 #[.pointer (some ⟨vb, 0, none⟩)] w fun _ w' => blk w' vb = some (#[c0, c1, c2, c3, c4, c5, c6, c7, c8, c9, c10, c11, c12], 92, (0, 0)) ∧ Upd (fun b => b = vb) w w' := by
  have hvl := blk_lt hb
  refine fn_of_W Try.func146 rfl Try.results146 Try.ntmps146 rfl ?_
  repeat ((first | refine W.seqR rfl ?_ | refine W.seq ?_ | refine W.regR rfl ?_ | refine W.condK ?_ | refine W.block ?_ | refine W.skip ?_ | refine W.ret ?_ | refine W.exit ?_); try simp (maxSteps := 1000000) (disch := (first | omega | (simp only [World.size_alloc, size_wr, size_drew] <;> omega) | exact not_noB _)) only [go_sem, ↓reduceIte, n0, reduceCtorEq, n1, n2, n3, n4, n5, i0, i1, i2, i3, i4, i5, i6, i7, hb])
  first | exact Upd.refl _ _ | exact ⟨hb, Upd.refl _ _⟩

theorem NewPtrCreateDelegationTokenResponse_fn (w : World) : Fn Try.prog 78 #[] w fun r w' => r = .pointer (some ⟨w.heap.size, 0, none⟩) ∧ blk w' w.heap.size = some (#[.int .i16 0, .int .i16 0, .string ByteArray.empty, .string ByteArray.empty, .string ByteArray.empty, .string ByteArray.empty, .int .i64 0, .int .i64 0, .int .i64 0, .string ByteArray.empty, .slice none 0 0, .int .i32 0, .map none], 92, (0, 0)) ∧ Ext w w' := by
  refine fn_of_W Try.func78 rfl Try.results78 Try.ntmps78 rfl ?_
  repeat ((first | refine W.seqR rfl ?_ | refine W.seq ?_ | refine W.regR rfl ?_ | refine W.condK ?_ | refine W.block ?_ | refine W.skip ?_ | refine W.ret ?_ | refine W.exit ?_); try simp (maxSteps := 1000000) (disch := (first | omega | (simp only [World.size_alloc, size_wr, size_drew] <;> omega) | exact not_noB _)) only [go_sem, ↓reduceIte, n0, reduceCtorEq, n1, n2, n3, n4, n5, i0, i1, i2, i3, i4, i5, i6, i7])
  refine (DefaultCreateDelegationTokenResponse_fn _ (blk_alloc_new rfl)).mono ?_
  rintro _ w1 ⟨hb1, hU1⟩
  have hz := World.size_alloc w (.cells #[.int .i16 0, .int .i16 0, .string ByteArray.empty, .string ByteArray.empty, .string ByteArray.empty, .string ByteArray.empty, .int .i64 0, .int .i64 0, .int .i64 0, .string ByteArray.empty, .slice none 0 0, .int .i32 0, .map none] 92)
  repeat ((first | refine W.seqR rfl ?_ | refine W.seq ?_ | refine W.regR rfl ?_ | refine W.condK ?_ | refine W.block ?_ | refine W.skip ?_ | refine W.ret ?_ | refine W.exit ?_); try simp (maxSteps := 1000000) (disch := (first | omega | (simp only [World.size_alloc, size_wr, size_drew] <;> omega) | exact not_noB _)) only [go_sem, ↓reduceIte, n0, reduceCtorEq, n1, n2, n3, n4, n5, i0, i1, i2, i3, i4, i5, i6, i7])
  exact ⟨hb1, (Upd.alloc (Upd.refl _ _) _ : Ext w _).more hU1 fun b hb h => by omega⟩

theorem SetVersionCreateDelegationTokenResponse_fn (w : World) {vb : Nat} {c0 c1 c2 c3 c4 c5 c6 c7 c8 c9 c10 c11 c12 : Value} (n : Int) (hb : blk w vb = some (#[c0, c1, c2, c3, c4, c5, c6, c7, c8, c9, c10, c11, c12], 92, (0, 0))) :
    Fn Try.prog 80 #[.pointer (some ⟨vb, 0, none⟩), .int .i16 n] w fun _ w' => blk w' vb = some (#[.int .i16 n, c1, c2, c3, c4, c5, c6, c7, c8, c9, c10, c11, c12], 92, (0, 0)) ∧ Upd (fun b => b = vb) w w' := by
  have hvl := blk_lt hb
  refine fn_of_W Try.func80 rfl Try.results80 Try.ntmps80 rfl ?_
  repeat ((first | refine W.seqR rfl ?_ | refine W.seq ?_ | refine W.regR rfl ?_ | refine W.condK ?_ | refine W.block ?_ | refine W.skip ?_ | refine W.ret ?_ | refine W.exit ?_); try simp (maxSteps := 1000000) (disch := (first | omega | (simp only [World.size_alloc, size_wr, size_drew] <;> omega) | exact not_noB _)) only [go_sem, ↓reduceIte, n0, reduceCtorEq, n1, n2, n3, n4, n5, i0, i1, i2, i3, i4, i5, i6, i7, hb])
  first | exact Upd.wr (Upd.refl _ _) _ _ (.inr rfl) | exact ⟨by simp (maxSteps := 1000000) (disch := (first | omega | (simp only [World.size_alloc, size_wr, size_drew] <;> omega) | exact not_noB _)) only [go_sem, ↓reduceIte, n0, reduceCtorEq, n1, n2, n3, n4, n5, i0, i1, i2, i3, i4, i5, i6, i7, hb], Upd.wr (Upd.refl _ _) _ _ (.inr rfl)⟩

theorem MaxCreateDelegationTokenResponse_fn (w : World) : Fn Try.prog 31 #[] w fun r w' => r = .int .i64 3 ∧ Ext w w' := by
  refine fn_of_W Try.func31 rfl Try.results31 Try.ntmps31 rfl ?_
  repeat ((first | refine W.seqR rfl ?_ | refine W.seq ?_ | refine W.regR rfl ?_ | refine W.condK ?_ | refine W.block ?_ | refine W.skip ?_ | refine W.ret ?_ | refine W.exit ?_); try simp (maxSteps := 1000000) (disch := (first | omega | (simp only [World.size_alloc, size_wr, size_drew] <;> omega) | exact not_noB _)) only [go_sem, ↓reduceIte, n0, reduceCtorEq, n1, n2, n3, n4, n5, i0, i1, i2, i3, i4, i5, i6, i7])
  refine (NewPtrCreateDelegationTokenResponse_fn w).mono ?_
  rintro _ w1 ⟨rfl, hb1, hE1⟩
  repeat ((first | refine W.seqR rfl ?_ | refine W.seq ?_ | refine W.regR rfl ?_ | refine W.condK ?_ | refine W.block ?_ | refine W.skip ?_ | refine W.ret ?_ | refine W.exit ?_); try simp (maxSteps := 1000000) (disch := (first | omega | (simp only [World.size_alloc, size_wr, size_drew] <;> omega) | exact not_noB _)) only [go_sem, ↓reduceIte, n0, reduceCtorEq, n1, n2, n3, n4, n5, i0, i1, i2, i3, i4, i5, i6, i7])
  have hm : Fn Try.prog 79 #[.pointer (some ⟨w.heap.size, 0, none⟩)] w1 fun r w' => r = .int .i16 3 ∧ w' = w1 := by
    refine fn_of_W Try.func79 rfl Try.results79 Try.ntmps79 rfl ?_
    repeat ((first | refine W.seqR rfl ?_ | refine W.seq ?_ | refine W.regR rfl ?_ | refine W.condK ?_ | refine W.block ?_ | refine W.skip ?_ | refine W.ret ?_ | refine W.exit ?_); try simp (maxSteps := 1000000) (disch := (first | omega | (simp only [World.size_alloc, size_wr, size_drew] <;> omega) | exact not_noB _)) only [go_sem, ↓reduceIte, n0, reduceCtorEq, n1, n2, n3, n4, n5, i0, i1, i2, i3, i4, i5, i6, i7])
  refine hm.mono ?_
  rintro _ w2 ⟨rfl, rfl⟩
  have ew : IntKind.i64.wrap (3 : Int) = 3 := i64_wrap (by decide)
  repeat ((first | refine W.seqR rfl ?_ | refine W.seq ?_ | refine W.regR rfl ?_ | refine W.condK ?_ | refine W.block ?_ | refine W.skip ?_ | refine W.ret ?_ | refine W.exit ?_); try simp (maxSteps := 1000000) (disch := (first | omega | (simp only [World.size_alloc, size_wr, size_drew] <;> omega) | exact not_noB _)) only [go_sem, ↓reduceIte, n0, reduceCtorEq, n1, n2, n3, n4, n5, i0, i1, i2, i3, i4, i5, i6, i7, ew])
  exact hE1
end Ms

namespace Ms
open Nat renaming reduceEqDiff → n0, reduceAdd → n1, reduceMul → n2, reduceSub → n3, reduceLT → n4, reduceLeDiff → n5
open Int renaming reduceEq → i0, reduceLT → i1, reduceLE → i2, reduceNeg → i3, reduceAdd → i4, reduceSub → i5, reduceMul → i6, reduceToNat → i7
set_option maxRecDepth 8000
open Go Go.Proofs Go.Shelf
attribute [local congr] W_congr WPsq_congr WPp_congr optK_congr addrK_congr intK_congr boolK_congr sliceK_congr tupleK_congr funcK_congr Fn_congr rawK_congr takeK_congr stepK_congr convK_congr aggK_congr

set_option maxHeartbeats 4000000 in
theorem appCreateDelegationTokenResponse_0 {d B : Nat} {okM : Blocks} {ver : Int} (hlo : 0 ≤ ver) (hhi : ver ≤ 1) (t : Tree) (cells : List Value) (v : Value) (s : List UInt8) (w : World) {vb : Nat} (ho : OwnBy 5 B w v s) (hB : B ≤ w.heap.size) (hvb : blk w vb = some ((.int .i16 ver :: cells).toArray, 92, (0, 0)))
    (hR : RepS true (d + 1) fs_CreateDelegationTokenResponse okM w t cells) (hfit : FitP ver (d + 1) fs_CreateDelegationTokenResponse t) (hd : ∀ b, b < w.heap.size → okM b → ¬ ownB v b) (hdv : ¬ ownB v vb) (hlen : s.length + (partS (d + 1) fs_CreateDelegationTokenResponse ver false t).length ≤ 2 ^ 41) :
    Fn Try.prog 82 #[.pointer (some ⟨vb, 0, none⟩), v] w fun r w' => AppR 5 B w v s (partS (d + 1) fs_CreateDelegationTokenResponse ver false t) r w' := by
  obtain ⟨⟨g_0, g_1, g_2, g_3, g_4, g_5, g_6, g_7, g_8, g_9, g_10, -⟩, hfu⟩ := hfit
  replace g_0 : FitF (FitP ver d) ver fCreateDelegationTokenResponse_0 (t.at 0) := g_0
  replace g_1 : FitF (FitP ver d) ver fCreateDelegationTokenResponse_1 (t.at 1) := g_1
  replace g_2 : FitF (FitP ver d) ver fCreateDelegationTokenResponse_2 (t.at 2) := g_2
  replace g_3 : FitF (FitP ver d) ver fCreateDelegationTokenResponse_3 (t.at 3) := g_3
  replace g_4 : FitF (FitP ver d) ver fCreateDelegationTokenResponse_4 (t.at 4) := g_4
  replace g_5 : FitF (FitP ver d) ver fCreateDelegationTokenResponse_5 (t.at 5) := g_5
  replace g_6 : FitF (FitP ver d) ver fCreateDelegationTokenResponse_6 (t.at 6) := g_6
  replace g_7 : FitF (FitP ver d) ver fCreateDelegationTokenResponse_7 (t.at 7) := g_7
  replace g_8 : FitF (FitP ver d) ver fCreateDelegationTokenResponse_8 (t.at 8) := g_8
  replace g_9 : FitF (FitP ver d) ver fCreateDelegationTokenResponse_9 (t.at 9) := g_9
  replace g_10 : FitF (FitP ver d) ver fCreateDelegationTokenResponse_10 (t.at 10) := g_10
  obtain ⟨cs, q, hcs, hL, hT⟩ := hR.inv
  obtain ⟨c_0, e_0, rfl, h_0, c_1, e_1, rfl, h_1, c_2, e_2, rfl, h_2, c_3, e_3, rfl, h_3, c_4, e_4, rfl, h_4, c_5, e_5, rfl, h_5, c_6, e_6, rfl, h_6, c_7, e_7, rfl, h_7, c_8, e_8, rfl, h_8, c_9, e_9, rfl, h_9, c_10, e_10, rfl, h_10, rfl⟩ := hL
  replace h_0 : RepF (RepS true d) (szS true d) fCreateDelegationTokenResponse_0 okM w (t.at 0) c_0 := h_0
  replace h_1 : RepF (RepS true d) (szS true d) fCreateDelegationTokenResponse_1 okM w (t.at 1) c_1 := h_1
  replace h_2 : RepF (RepS true d) (szS true d) fCreateDelegationTokenResponse_2 okM w (t.at 2) c_2 := h_2
  replace h_3 : RepF (RepS true d) (szS true d) fCreateDelegationTokenResponse_3 okM w (t.at 3) c_3 := h_3
  replace h_4 : RepF (RepS true d) (szS true d) fCreateDelegationTokenResponse_4 okM w (t.at 4) c_4 := h_4
  replace h_5 : RepF (RepS true d) (szS true d) fCreateDelegationTokenResponse_5 okM w (t.at 5) c_5 := h_5
  replace h_6 : RepF (RepS true d) (szS true d) fCreateDelegationTokenResponse_6 okM w (t.at 6) c_6 := h_6
  replace h_7 : RepF (RepS true d) (szS true d) fCreateDelegationTokenResponse_7 okM w (t.at 7) c_7 := h_7
  replace h_8 : RepF (RepS true d) (szS true d) fCreateDelegationTokenResponse_8 okM w (t.at 8) c_8 := h_8
  replace h_9 : RepF (RepS true d) (szS true d) fCreateDelegationTokenResponse_9 okM w (t.at 9) c_9 := h_9
  replace h_10 : RepF (RepS true d) (szS true d) fCreateDelegationTokenResponse_10 okM w (t.at 10) c_10 := h_10
  obtain rfl := (RepF_num (by decide)).1 h_0
  obtain rfl := (RepF_text rfl (by decide)).1 h_1
  obtain rfl := (RepF_text rfl (by decide)).1 h_2
  obtain rfl := (RepF_text rfl (by decide)).1 h_3
  obtain rfl := (RepF_text rfl (by decide)).1 h_4
  obtain rfl := (RepF_num (by decide)).1 h_5
  obtain rfl := (RepF_num (by decide)).1 h_6
  obtain rfl := (RepF_num (by decide)).1 h_7
  obtain rfl := (RepF_text rfl (by decide)).1 h_8
  have hn_9 := g_9.notnull (by decide)
  obtain ⟨p_9, rfl, hp_9⟩ := (RepF_bytes rfl).1 h_9
  rw [hn_9] at hp_9
  replace hp_9 := hp_9.some
  obtain rfl := (RepF_num (by decide)).1 h_10
  obtain ⟨qm, rfl⟩ := hT.shape
  have hv : blk w vb = some (#[.int .i16 ver, .int .i16 (IntKind.i16.wrap (t.at 0).n), strV (t.at 1).s, strV (t.at 2).s, strV (t.at 3).s, strV (t.at 4).s, .int .i64 (t.at 5).n, .int .i64 (t.at 6).n, .int .i64 (t.at 7).n, strV (t.at 8).s, p_9, .int .i32 (IntKind.i32.wrap (t.at 10).n), .map qm], 92, (0, 0)) := by rw [hvb, hcs]; rfl
  clear hvb hcs
  have hh_0 : hasS fCreateDelegationTokenResponse_0 ver = true := hasS_t (by show (0 : Int) ≤ ver; omega) (by show (-1 : Int) < 0 ∨ ver ≤ (-1 : Int); omega)
  obtain ⟨X_0, hXX_0⟩ : ∃ X, X = fixedS (t.at 0).n 2 := ⟨_, rfl⟩
  have hh_1 : hasS fCreateDelegationTokenResponse_1 ver = true := hasS_t (by show (0 : Int) ≤ ver; omega) (by show (-1 : Int) < 0 ∨ ver ≤ (-1 : Int); omega)
  obtain ⟨X_1, hXX_1⟩ : ∃ X, X = fixedS (t.at 1).s.length 2 ++ (t.at 1).s := ⟨_, rfl⟩
  have hh_2 : hasS fCreateDelegationTokenResponse_2 ver = true := hasS_t (by show (0 : Int) ≤ ver; omega) (by show (-1 : Int) < 0 ∨ ver ≤ (-1 : Int); omega)
  obtain ⟨X_2, hXX_2⟩ : ∃ X, X = fixedS (t.at 2).s.length 2 ++ (t.at 2).s := ⟨_, rfl⟩
  have hh_3 : hasS fCreateDelegationTokenResponse_3 ver = false := hasS_f (by show ver < 3 ∨ (0 ≤ (-1 : Int) ∧ (-1 : Int) < ver); omega)
  have hh_4 : hasS fCreateDelegationTokenResponse_4 ver = false := hasS_f (by show ver < 3 ∨ (0 ≤ (-1 : Int) ∧ (-1 : Int) < ver); omega)
  have hh_5 : hasS fCreateDelegationTokenResponse_5 ver = true := hasS_t (by show (0 : Int) ≤ ver; omega) (by show (-1 : Int) < 0 ∨ ver ≤ (-1 : Int); omega)
  obtain ⟨X_5, hXX_5⟩ : ∃ X, X = fixedS (t.at 5).n 8 := ⟨_, rfl⟩
  have hh_6 : hasS fCreateDelegationTokenResponse_6 ver = true := hasS_t (by show (0 : Int) ≤ ver; omega) (by show (-1 : Int) < 0 ∨ ver ≤ (-1 : Int); omega)
  obtain ⟨X_6, hXX_6⟩ : ∃ X, X = fixedS (t.at 6).n 8 := ⟨_, rfl⟩
  have hh_7 : hasS fCreateDelegationTokenResponse_7 ver = true := hasS_t (by show (0 : Int) ≤ ver; omega) (by show (-1 : Int) < 0 ∨ ver ≤ (-1 : Int); omega)
  obtain ⟨X_7, hXX_7⟩ : ∃ X, X = fixedS (t.at 7).n 8 := ⟨_, rfl⟩
  have hh_8 : hasS fCreateDelegationTokenResponse_8 ver = true := hasS_t (by show (0 : Int) ≤ ver; omega) (by show (-1 : Int) < 0 ∨ ver ≤ (-1 : Int); omega)
  obtain ⟨X_8, hXX_8⟩ : ∃ X, X = fixedS (t.at 8).s.length 2 ++ (t.at 8).s := ⟨_, rfl⟩
  have hh_9 : hasS fCreateDelegationTokenResponse_9 ver = true := hasS_t (by show (0 : Int) ≤ ver; omega) (by show (-1 : Int) < 0 ∨ ver ≤ (-1 : Int); omega)
  obtain ⟨X_9, hXX_9⟩ : ∃ X, X = fixedS (t.at 9).s.length 4 ++ (t.at 9).s := ⟨_, rfl⟩
  have hh_10 : hasS fCreateDelegationTokenResponse_10 ver = true := hasS_t (by show (0 : Int) ≤ ver; omega) (by show (-1 : Int) < 0 ∨ ver ≤ (-1 : Int); omega)
  obtain ⟨X_10, hXX_10⟩ : ∃ X, X = fixedS (t.at 10).n 4 := ⟨_, rfl⟩
  have hP : partS (d + 1) fs_CreateDelegationTokenResponse ver false t = X_0 ++ (X_1 ++ (X_2 ++ (X_5 ++ (X_6 ++ (X_7 ++ (X_8 ++ (X_9 ++ (X_10 ++ [])))))))) := partS_no (plainL_has (by decide) hh_0 ((fieldS_num 2 rfl (by decide)).trans hXX_0.symm) (plainL_has (by decide) hh_1 ((fieldS_text_f g_1 rfl (by decide)).trans hXX_1.symm) (plainL_has (by decide) hh_2 ((fieldS_text_f g_2 rfl (by decide)).trans hXX_2.symm) (plainL_not hh_3 (plainL_not hh_4 (plainL_has (by decide) hh_5 ((fieldS_num 4 rfl (by decide)).trans hXX_5.symm) (plainL_has (by decide) hh_6 ((fieldS_num 4 rfl (by decide)).trans hXX_6.symm) (plainL_has (by decide) hh_7 ((fieldS_num 4 rfl (by decide)).trans hXX_7.symm) (plainL_has (by decide) hh_8 ((fieldS_text_f g_8 rfl (by decide)).trans hXX_8.symm) (plainL_has (by decide) hh_9 ((fieldS_bytes_f g_9 rfl (by decide)).trans hXX_9.symm) (plainL_has (by decide) hh_10 ((fieldS_num 3 rfl (by decide)).trans hXX_10.symm) rfl)))))))))))
  rw [hP] at hlen
  simp only [List.length_append, List.length_nil] at hlen
  have hdK : ∀ {r : Value} {w' : World} {add : List UInt8}, AppR 5 B w v s add r w' → ∀ b, b < w'.heap.size → OkS okM w.heap.size b → ¬ ownB r b := fun h b _ hk ho => (h.frame b ho).elim (hd b hk.2 hk.1) (fun h => by have := hk.2; omega)
  have ownK : ∀ {r : Value} {w' : World} {add : List UInt8} {b : Nat}, AppR 5 B w v s add r w' → b < w.heap.size → ¬ ownB v b → ¬ ownB r b := fun h hb hn ho => (h.frame _ ho).elim hn (fun h => by omega)
  have ha0 : AppR 5 B w v s [] v w := AppR.refl ho
  obtain ⟨w0, hw0⟩ : ∃ w0, w0 = w := ⟨_, rfl⟩
  have hB0 := hB
  have hv_0 := hv
  refine fn_of_W Try.func82 rfl Try.results82 Try.ntmps82 rfl ?_
  repeat ((first | refine W.seqR rfl ?_ | refine W.seq ?_ | refine W.regR rfl ?_ | refine W.condK ?_ | refine W.block ?_ | refine W.skip ?_ | refine W.ret ?_ | refine W.exit ?_); try simp (maxSteps := 1000000) (disch := (first | omega | (simp only [World.size_alloc, size_wr, size_drew] <;> omega) | exact not_noB _)) only [go_sem, ↓reduceIte, n0, reduceCtorEq, n1, n2, n3, n4, n5, i0, i1, i2, i3, i4, i5, i6, i7, hv_0])
  refine (AppendInt16_fn _ _ _ ha0.own hB0 _ (by simp only [List.length_append, List.length_nil]; omega)).mono ?_
  rintro r1 w1 hc1
  rw [wrap16, ← hXX_0] at hc1
  have ha1 := ha0.trans hc1
  have hB1 : B ≤ w1.heap.size := Nat.le_trans hB ha1.upd.size
  have hv_1 := ha1.upd.blk_some hv hdv
  repeat ((first | refine W.seqR rfl ?_ | refine W.seq ?_ | refine W.regR rfl ?_ | refine W.condK ?_ | refine W.block ?_ | refine W.skip ?_ | refine W.ret ?_ | refine W.exit ?_); try simp (maxSteps := 1000000) (disch := (first | omega | (simp only [World.size_alloc, size_wr, size_drew] <;> omega) | exact not_noB _)) only [go_sem, ↓reduceIte, n0, reduceCtorEq, n1, n2, n3, n4, n5, i0, i1, i2, i3, i4, i5, i6, i7, hv_1])
  refine (AppendString_fn _ _ _ ha1.own hB1 (t.at 1).s (g_1.text (.inl rfl)) (by simp only [List.length_append, List.length_nil]; omega)).mono ?_
  rintro r2 w2 hc2
  rw [← hXX_1] at hc2
  have ha2 := ha1.trans hc2
  have hB2 : B ≤ w2.heap.size := Nat.le_trans hB ha2.upd.size
  have hv_2 := ha2.upd.blk_some hv hdv
  repeat ((first | refine W.seqR rfl ?_ | refine W.seq ?_ | refine W.regR rfl ?_ | refine W.condK ?_ | refine W.block ?_ | refine W.skip ?_ | refine W.ret ?_ | refine W.exit ?_); try simp (maxSteps := 1000000) (disch := (first | omega | (simp only [World.size_alloc, size_wr, size_drew] <;> omega) | exact not_noB _)) only [go_sem, ↓reduceIte, n0, reduceCtorEq, n1, n2, n3, n4, n5, i0, i1, i2, i3, i4, i5, i6, i7, hv_2])
  refine (AppendString_fn _ _ _ ha2.own hB2 (t.at 2).s (g_2.text (.inl rfl)) (by simp only [List.length_append, List.length_nil]; omega)).mono ?_
  rintro r3 w3 hc3
  rw [← hXX_2] at hc3
  have ha3 := ha2.trans hc3
  have hB3 : B ≤ w3.heap.size := Nat.le_trans hB ha3.upd.size
  have hv_3 := ha3.upd.blk_some hv hdv
  repeat ((first | refine W.seqR rfl ?_ | refine W.seq ?_ | refine W.regR rfl ?_ | refine W.condK ?_ | refine W.block ?_ | refine W.skip ?_ | refine W.ret ?_ | refine W.exit ?_); try simp (maxSteps := 1000000) (disch := (first | omega | (simp only [World.size_alloc, size_wr, size_drew] <;> omega) | exact not_noB _)) only [go_sem, ↓reduceIte, n0, reduceCtorEq, n1, n2, n3, n4, n5, i0, i1, i2, i3, i4, i5, i6, i7, hv_3])
  refine (AppendInt64_fn _ _ _ ha3.own hB3 _ (by simp only [List.length_append, List.length_nil]; omega)).mono ?_
  rintro r4 w4 hc4
  rw [← hXX_5] at hc4
  have ha4 := ha3.trans hc4
  have hB4 : B ≤ w4.heap.size := Nat.le_trans hB ha4.upd.size
  have hv_4 := ha4.upd.blk_some hv hdv
  repeat ((first | refine W.seqR rfl ?_ | refine W.seq ?_ | refine W.regR rfl ?_ | refine W.condK ?_ | refine W.block ?_ | refine W.skip ?_ | refine W.ret ?_ | refine W.exit ?_); try simp (maxSteps := 1000000) (disch := (first | omega | (simp only [World.size_alloc, size_wr, size_drew] <;> omega) | exact not_noB _)) only [go_sem, ↓reduceIte, n0, reduceCtorEq, n1, n2, n3, n4, n5, i0, i1, i2, i3, i4, i5, i6, i7, hv_4])
  refine (AppendInt64_fn _ _ _ ha4.own hB4 _ (by simp only [List.length_append, List.length_nil]; omega)).mono ?_
  rintro r5 w5 hc5
  rw [← hXX_6] at hc5
  have ha5 := ha4.trans hc5
  have hB5 : B ≤ w5.heap.size := Nat.le_trans hB ha5.upd.size
  have hv_5 := ha5.upd.blk_some hv hdv
  repeat ((first | refine W.seqR rfl ?_ | refine W.seq ?_ | refine W.regR rfl ?_ | refine W.condK ?_ | refine W.block ?_ | refine W.skip ?_ | refine W.ret ?_ | refine W.exit ?_); try simp (maxSteps := 1000000) (disch := (first | omega | (simp only [World.size_alloc, size_wr, size_drew] <;> omega) | exact not_noB _)) only [go_sem, ↓reduceIte, n0, reduceCtorEq, n1, n2, n3, n4, n5, i0, i1, i2, i3, i4, i5, i6, i7, hv_5])
  refine (AppendInt64_fn _ _ _ ha5.own hB5 _ (by simp only [List.length_append, List.length_nil]; omega)).mono ?_
  rintro r6 w6 hc6
  rw [← hXX_7] at hc6
  have ha6 := ha5.trans hc6
  have hB6 : B ≤ w6.heap.size := Nat.le_trans hB ha6.upd.size
  have hv_6 := ha6.upd.blk_some hv hdv
  repeat ((first | refine W.seqR rfl ?_ | refine W.seq ?_ | refine W.regR rfl ?_ | refine W.condK ?_ | refine W.block ?_ | refine W.skip ?_ | refine W.ret ?_ | refine W.exit ?_); try simp (maxSteps := 1000000) (disch := (first | omega | (simp only [World.size_alloc, size_wr, size_drew] <;> omega) | exact not_noB _)) only [go_sem, ↓reduceIte, n0, reduceCtorEq, n1, n2, n3, n4, n5, i0, i1, i2, i3, i4, i5, i6, i7, hv_6])
  refine (AppendString_fn _ _ _ ha6.own hB6 (t.at 8).s (g_8.text (.inl rfl)) (by simp only [List.length_append, List.length_nil]; omega)).mono ?_
  rintro r7 w7 hc7
  rw [← hXX_8] at hc7
  have ha7 := ha6.trans hc7
  have hB7 : B ≤ w7.heap.size := Nat.le_trans hB ha7.upd.size
  have hv_7 := ha7.upd.blk_some hv hdv
  repeat ((first | refine W.seqR rfl ?_ | refine W.seq ?_ | refine W.regR rfl ?_ | refine W.condK ?_ | refine W.block ?_ | refine W.skip ?_ | refine W.ret ?_ | refine W.exit ?_); try simp (maxSteps := 1000000) (disch := (first | omega | (simp only [World.size_alloc, size_wr, size_drew] <;> omega) | exact not_noB _)) only [go_sem, ↓reduceIte, n0, reduceCtorEq, n1, n2, n3, n4, n5, i0, i1, i2, i3, i4, i5, i6, i7, hv_7])
  refine (AppendBytes_fn (ok := OkS okM w.heap.size) _ _ _ ha7.own hB7 _ (t.at 9).s ((hp_9.weaken fun b h1 h2 => ⟨h2, h1⟩).keep (ha7.upd.keeps fun b hb hk => hd b hb hk.1)) (hdK ha7) (g_9.text (.inr rfl)) (by simp only [List.length_append, List.length_nil]; omega)).mono ?_
  rintro r8 w8 hc8
  rw [← hXX_9] at hc8
  have ha8 := ha7.trans hc8
  have hB8 : B ≤ w8.heap.size := Nat.le_trans hB ha8.upd.size
  have hv_8 := ha8.upd.blk_some hv hdv
  repeat ((first | refine W.seqR rfl ?_ | refine W.seq ?_ | refine W.regR rfl ?_ | refine W.condK ?_ | refine W.block ?_ | refine W.skip ?_ | refine W.ret ?_ | refine W.exit ?_); try simp (maxSteps := 1000000) (disch := (first | omega | (simp only [World.size_alloc, size_wr, size_drew] <;> omega) | exact not_noB _)) only [go_sem, ↓reduceIte, n0, reduceCtorEq, n1, n2, n3, n4, n5, i0, i1, i2, i3, i4, i5, i6, i7, hv_8])
  refine (AppendInt32_fn _ _ _ ha8.own hB8 _ (by simp only [List.length_append, List.length_nil]; omega)).mono ?_
  rintro r9 w9 hc9
  rw [wrap32, ← hXX_10] at hc9
  have ha9 := ha8.trans hc9
  have hB9 : B ≤ w9.heap.size := Nat.le_trans hB ha9.upd.size
  have hv_9 := ha9.upd.blk_some hv hdv
  repeat ((first | refine W.seqR rfl ?_ | refine W.seq ?_ | refine W.regR rfl ?_ | refine W.condK ?_ | refine W.block ?_ | refine W.skip ?_ | refine W.ret ?_ | refine W.exit ?_); try simp (maxSteps := 1000000) (disch := (first | omega | (simp only [World.size_alloc, size_wr, size_drew] <;> omega) | exact not_noB _)) only [go_sem, ↓reduceIte, n0, reduceCtorEq, n1, n2, n3, n4, n5, i0, i1, i2, i3, i4, i5, i6, i7, hv_9])
  refine ha9.eqs ?_
  rw [hP]; simp only [List.append_assoc, List.append_nil, List.nil_append]
end Ms

namespace Ms
open Nat renaming reduceEqDiff → n0, reduceAdd → n1, reduceMul → n2, reduceSub → n3, reduceLT → n4, reduceLeDiff → n5
open Int renaming reduceEq → i0, reduceLT → i1, reduceLE → i2, reduceNeg → i3, reduceAdd → i4, reduceSub → i5, reduceMul → i6, reduceToNat → i7
set_option maxRecDepth 8000
open Go Go.Proofs Go.Shelf
attribute [local congr] W_congr WPsq_congr WPp_congr optK_congr addrK_congr intK_congr boolK_congr sliceK_congr tupleK_congr funcK_congr Fn_congr rawK_congr takeK_congr stepK_congr convK_congr aggK_congr

set_option maxHeartbeats 4000000 in
theorem appCreateDelegationTokenResponse_1 {d B : Nat} {okM : Blocks} {ver : Int} (hlo : 2 ≤ ver) (hhi : ver ≤ 2) (t : Tree) (cells : List Value) (v : Value) (s : List UInt8) (w : World) {vb : Nat} (ho : OwnBy 5 B w v s) (hB : B ≤ w.heap.size) (hvb : blk w vb = some ((.int .i16 ver :: cells).toArray, 92, (0, 0)))
    (hR : RepS true (d + 1) fs_CreateDelegationTokenResponse okM w t cells) (hfit : FitP ver (d + 1) fs_CreateDelegationTokenResponse t) (hd : ∀ b, b < w.heap.size → okM b → ¬ ownB v b) (hdv : ¬ ownB v vb) (hlen : s.length + (partS (d + 1) fs_CreateDelegationTokenResponse ver true t).length ≤ 2 ^ 41) :
    Fn Try.prog 82 #[.pointer (some ⟨vb, 0, none⟩), v] w fun r w' => AppR 5 B w v s (partS (d + 1) fs_CreateDelegationTokenResponse ver true t) r w' := by
  obtain ⟨⟨g_0, g_1, g_2, g_3, g_4, g_5, g_6, g_7, g_8, g_9, g_10, -⟩, hfu⟩ := hfit
  replace g_0 : FitF (FitP ver d) ver fCreateDelegationTokenResponse_0 (t.at 0) := g_0
  replace g_1 : FitF (FitP ver d) ver fCreateDelegationTokenResponse_1 (t.at 1) := g_1
  replace g_2 : FitF (FitP ver d) ver fCreateDelegationTokenResponse_2 (t.at 2) := g_2
  replace g_3 : FitF (FitP ver d) ver fCreateDelegationTokenResponse_3 (t.at 3) := g_3
  replace g_4 : FitF (FitP ver d) ver fCreateDelegationTokenResponse_4 (t.at 4) := g_4
  replace g_5 : FitF (FitP ver d) ver fCreateDelegationTokenResponse_5 (t.at 5) := g_5
  replace g_6 : FitF (FitP ver d) ver fCreateDelegationTokenResponse_6 (t.at 6) := g_6
  replace g_7 : FitF (FitP ver d) ver fCreateDelegationTokenResponse_7 (t.at 7) := g_7
  replace g_8 : FitF (FitP ver d) ver fCreateDelegationTokenResponse_8 (t.at 8) := g_8
  replace g_9 : FitF (FitP ver d) ver fCreateDelegationTokenResponse_9 (t.at 9) := g_9
  replace g_10 : FitF (FitP ver d) ver fCreateDelegationTokenResponse_10 (t.at 10) := g_10
  obtain ⟨cs, q, hcs, hL, hT⟩ := hR.inv
  obtain ⟨c_0, e_0, rfl, h_0, c_1, e_1, rfl, h_1, c_2, e_2, rfl, h_2, c_3, e_3, rfl, h_3, c_4, e_4, rfl, h_4, c_5, e_5, rfl, h_5, c_6, e_6, rfl, h_6, c_7, e_7, rfl, h_7, c_8, e_8, rfl, h_8, c_9, e_9, rfl, h_9, c_10, e_10, rfl, h_10, rfl⟩ := hL
  replace h_0 : RepF (RepS true d) (szS true d) fCreateDelegationTokenResponse_0 okM w (t.at 0) c_0 := h_0
  replace h_1 : RepF (RepS true d) (szS true d) fCreateDelegationTokenResponse_1 okM w (t.at 1) c_1 := h_1
  replace h_2 : RepF (RepS true d) (szS true d) fCreateDelegationTokenResponse_2 okM w (t.at 2) c_2 := h_2
  replace h_3 : RepF (RepS true d) (szS true d) fCreateDelegationTokenResponse_3 okM w (t.at 3) c_3 := h_3
  replace h_4 : RepF (RepS true d) (szS true d) fCreateDelegationTokenResponse_4 okM w (t.at 4) c_4 := h_4
  replace h_5 : RepF (RepS true d) (szS true d) fCreateDelegationTokenResponse_5 okM w (t.at 5) c_5 := h_5
  replace h_6 : RepF (RepS true d) (szS true d) fCreateDelegationTokenResponse_6 okM w (t.at 6) c_6 := h_6
  replace h_7 : RepF (RepS true d) (szS true d) fCreateDelegationTokenResponse_7 okM w (t.at 7) c_7 := h_7
  replace h_8 : RepF (RepS true d) (szS true d) fCreateDelegationTokenResponse_8 okM w (t.at 8) c_8 := h_8
  replace h_9 : RepF (RepS true d) (szS true d) fCreateDelegationTokenResponse_9 okM w (t.at 9) c_9 := h_9
  replace h_10 : RepF (RepS true d) (szS true d) fCreateDelegationTokenResponse_10 okM w (t.at 10) c_10 := h_10
  obtain rfl := (RepF_num (by decide)).1 h_0
  obtain rfl := (RepF_text rfl (by decide)).1 h_1
  obtain rfl := (RepF_text rfl (by decide)).1 h_2
  obtain rfl := (RepF_text rfl (by decide)).1 h_3
  obtain rfl := (RepF_text rfl (by decide)).1 h_4
  obtain rfl := (RepF_num (by decide)).1 h_5
  obtain rfl := (RepF_num (by decide)).1 h_6
  obtain rfl := (RepF_num (by decide)).1 h_7
  obtain rfl := (RepF_text rfl (by decide)).1 h_8
  have hn_9 := g_9.notnull (by decide)
  obtain ⟨p_9, rfl, hp_9⟩ := (RepF_bytes rfl).1 h_9
  rw [hn_9] at hp_9
  replace hp_9 := hp_9.some
  obtain rfl := (RepF_num (by decide)).1 h_10
  obtain ⟨qm, rfl⟩ := hT.shape
  have hv : blk w vb = some (#[.int .i16 ver, .int .i16 (IntKind.i16.wrap (t.at 0).n), strV (t.at 1).s, strV (t.at 2).s, strV (t.at 3).s, strV (t.at 4).s, .int .i64 (t.at 5).n, .int .i64 (t.at 6).n, .int .i64 (t.at 7).n, strV (t.at 8).s, p_9, .int .i32 (IntKind.i32.wrap (t.at 10).n), .map qm], 92, (0, 0)) := by rw [hvb, hcs]; rfl
  clear hvb hcs
  have hh_0 : hasS fCreateDelegationTokenResponse_0 ver = true := hasS_t (by show (0 : Int) ≤ ver; omega) (by show (-1 : Int) < 0 ∨ ver ≤ (-1 : Int); omega)
  obtain ⟨X_0, hXX_0⟩ : ∃ X, X = fixedS (t.at 0).n 2 := ⟨_, rfl⟩
  have hh_1 : hasS fCreateDelegationTokenResponse_1 ver = true := hasS_t (by show (0 : Int) ≤ ver; omega) (by show (-1 : Int) < 0 ∨ ver ≤ (-1 : Int); omega)
  obtain ⟨X_1, hXX_1⟩ : ∃ X, X = uvarS ((t.at 1).s.length + 1) ++ (t.at 1).s := ⟨_, rfl⟩
  have hh_2 : hasS fCreateDelegationTokenResponse_2 ver = true := hasS_t (by show (0 : Int) ≤ ver; omega) (by show (-1 : Int) < 0 ∨ ver ≤ (-1 : Int); omega)
  obtain ⟨X_2, hXX_2⟩ : ∃ X, X = uvarS ((t.at 2).s.length + 1) ++ (t.at 2).s := ⟨_, rfl⟩
  have hh_3 : hasS fCreateDelegationTokenResponse_3 ver = false := hasS_f (by show ver < 3 ∨ (0 ≤ (-1 : Int) ∧ (-1 : Int) < ver); omega)
  have hh_4 : hasS fCreateDelegationTokenResponse_4 ver = false := hasS_f (by show ver < 3 ∨ (0 ≤ (-1 : Int) ∧ (-1 : Int) < ver); omega)
  have hh_5 : hasS fCreateDelegationTokenResponse_5 ver = true := hasS_t (by show (0 : Int) ≤ ver; omega) (by show (-1 : Int) < 0 ∨ ver ≤ (-1 : Int); omega)
  obtain ⟨X_5, hXX_5⟩ : ∃ X, X = fixedS (t.at 5).n 8 := ⟨_, rfl⟩
  have hh_6 : hasS fCreateDelegationTokenResponse_6 ver = true := hasS_t (by show (0 : Int) ≤ ver; omega) (by show (-1 : Int) < 0 ∨ ver ≤ (-1 : Int); omega)
  obtain ⟨X_6, hXX_6⟩ : ∃ X, X = fixedS (t.at 6).n 8 := ⟨_, rfl⟩
  have hh_7 : hasS fCreateDelegationTokenResponse_7 ver = true := hasS_t (by show (0 : Int) ≤ ver; omega) (by show (-1 : Int) < 0 ∨ ver ≤ (-1 : Int); omega)
  obtain ⟨X_7, hXX_7⟩ : ∃ X, X = fixedS (t.at 7).n 8 := ⟨_, rfl⟩
  have hh_8 : hasS fCreateDelegationTokenResponse_8 ver = true := hasS_t (by show (0 : Int) ≤ ver; omega) (by show (-1 : Int) < 0 ∨ ver ≤ (-1 : Int); omega)
  obtain ⟨X_8, hXX_8⟩ : ∃ X, X = uvarS ((t.at 8).s.length + 1) ++ (t.at 8).s := ⟨_, rfl⟩
  have hh_9 : hasS fCreateDelegationTokenResponse_9 ver = true := hasS_t (by show (0 : Int) ≤ ver; omega) (by show (-1 : Int) < 0 ∨ ver ≤ (-1 : Int); omega)
  obtain ⟨X_9, hXX_9⟩ : ∃ X, X = uvarS ((t.at 9).s.length + 1) ++ (t.at 9).s := ⟨_, rfl⟩
  have hh_10 : hasS fCreateDelegationTokenResponse_10 ver = true := hasS_t (by show (0 : Int) ≤ ver; omega) (by show (-1 : Int) < 0 ∨ ver ≤ (-1 : Int); omega)
  obtain ⟨X_10, hXX_10⟩ : ∃ X, X = fixedS (t.at 10).n 4 := ⟨_, rfl⟩
  obtain ⟨XU, hXU⟩ : ∃ X, X = uvarS t.u.length := ⟨_, rfl⟩
  obtain ⟨XT, hXT⟩ : ∃ X, X = t.u.flatMap oneTag := ⟨_, rfl⟩
  have hP : partS (d + 1) fs_CreateDelegationTokenResponse ver true t = (X_0 ++ (X_1 ++ (X_2 ++ (X_5 ++ (X_6 ++ (X_7 ++ (X_8 ++ (X_9 ++ (X_10 ++ []))))))))) ++ (XU ++ XT) := by rw [hXU, hXT]; exact partS_yes rfl hfu (plainL_has (by decide) hh_0 ((fieldS_num 2 rfl (by decide)).trans hXX_0.symm) (plainL_has (by decide) hh_1 ((fieldS_text_t g_1 rfl (by decide)).trans hXX_1.symm) (plainL_has (by decide) hh_2 ((fieldS_text_t g_2 rfl (by decide)).trans hXX_2.symm) (plainL_not hh_3 (plainL_not hh_4 (plainL_has (by decide) hh_5 ((fieldS_num 4 rfl (by decide)).trans hXX_5.symm) (plainL_has (by decide) hh_6 ((fieldS_num 4 rfl (by decide)).trans hXX_6.symm) (plainL_has (by decide) hh_7 ((fieldS_num 4 rfl (by decide)).trans hXX_7.symm) (plainL_has (by decide) hh_8 ((fieldS_text_t g_8 rfl (by decide)).trans hXX_8.symm) (plainL_has (by decide) hh_9 ((fieldS_bytes_t g_9 rfl (by decide)).trans hXX_9.symm) (plainL_has (by decide) hh_10 ((fieldS_num 3 rfl (by decide)).trans hXX_10.symm) rfl)))))))))))
  rw [hP] at hlen
  simp only [List.length_append, List.length_nil] at hlen
  have hdK : ∀ {r : Value} {w' : World} {add : List UInt8}, AppR 5 B w v s add r w' → ∀ b, b < w'.heap.size → OkS okM w.heap.size b → ¬ ownB r b := fun h b _ hk ho => (h.frame b ho).elim (hd b hk.2 hk.1) (fun h => by have := hk.2; omega)
  have ownK : ∀ {r : Value} {w' : World} {add : List UInt8} {b : Nat}, AppR 5 B w v s add r w' → b < w.heap.size → ¬ ownB v b → ¬ ownB r b := fun h hb hn ho => (h.frame _ ho).elim hn (fun h => by omega)
  have ha0 : AppR 5 B w v s [] v w := AppR.refl ho
  obtain ⟨w0, hw0⟩ : ∃ w0, w0 = w := ⟨_, rfl⟩
  have hB0 := hB
  have hv_0 := hv
  refine fn_of_W Try.func82 rfl Try.results82 Try.ntmps82 rfl ?_
  repeat ((first | refine W.seqR rfl ?_ | refine W.seq ?_ | refine W.regR rfl ?_ | refine W.condK ?_ | refine W.block ?_ | refine W.skip ?_ | refine W.ret ?_ | refine W.exit ?_); try simp (maxSteps := 1000000) (disch := (first | omega | (simp only [World.size_alloc, size_wr, size_drew] <;> omega) | exact not_noB _)) only [go_sem, ↓reduceIte, n0, reduceCtorEq, n1, n2, n3, n4, n5, i0, i1, i2, i3, i4, i5, i6, i7, hv_0])
  refine (AppendInt16_fn _ _ _ ha0.own hB0 _ (by simp only [List.length_append, List.length_nil]; omega)).mono ?_
  rintro r1 w1 hc1
  rw [wrap16, ← hXX_0] at hc1
  have ha1 := ha0.trans hc1
  have hB1 : B ≤ w1.heap.size := Nat.le_trans hB ha1.upd.size
  have hv_1 := ha1.upd.blk_some hv hdv
  repeat ((first | refine W.seqR rfl ?_ | refine W.seq ?_ | refine W.regR rfl ?_ | refine W.condK ?_ | refine W.block ?_ | refine W.skip ?_ | refine W.ret ?_ | refine W.exit ?_); try simp (maxSteps := 1000000) (disch := (first | omega | (simp only [World.size_alloc, size_wr, size_drew] <;> omega) | exact not_noB _)) only [go_sem, ↓reduceIte, n0, reduceCtorEq, n1, n2, n3, n4, n5, i0, i1, i2, i3, i4, i5, i6, i7, hv_1])
  refine (AppendCompactString_fn _ _ _ ha1.own hB1 (t.at 1).s (g_1.text (.inl rfl)) (by simp only [List.length_append, List.length_nil]; omega)).mono ?_
  rintro r2 w2 hc2
  rw [← hXX_1] at hc2
  have ha2 := ha1.trans hc2
  have hB2 : B ≤ w2.heap.size := Nat.le_trans hB ha2.upd.size
  have hv_2 := ha2.upd.blk_some hv hdv
  repeat ((first | refine W.seqR rfl ?_ | refine W.seq ?_ | refine W.regR rfl ?_ | refine W.condK ?_ | refine W.block ?_ | refine W.skip ?_ | refine W.ret ?_ | refine W.exit ?_); try simp (maxSteps := 1000000) (disch := (first | omega | (simp only [World.size_alloc, size_wr, size_drew] <;> omega) | exact not_noB _)) only [go_sem, ↓reduceIte, n0, reduceCtorEq, n1, n2, n3, n4, n5, i0, i1, i2, i3, i4, i5, i6, i7, hv_2])
  refine (AppendCompactString_fn _ _ _ ha2.own hB2 (t.at 2).s (g_2.text (.inl rfl)) (by simp only [List.length_append, List.length_nil]; omega)).mono ?_
  rintro r3 w3 hc3
  rw [← hXX_2] at hc3
  have ha3 := ha2.trans hc3
  have hB3 : B ≤ w3.heap.size := Nat.le_trans hB ha3.upd.size
  have hv_3 := ha3.upd.blk_some hv hdv
  repeat ((first | refine W.seqR rfl ?_ | refine W.seq ?_ | refine W.regR rfl ?_ | refine W.condK ?_ | refine W.block ?_ | refine W.skip ?_ | refine W.ret ?_ | refine W.exit ?_); try simp (maxSteps := 1000000) (disch := (first | omega | (simp only [World.size_alloc, size_wr, size_drew] <;> omega) | exact not_noB _)) only [go_sem, ↓reduceIte, n0, reduceCtorEq, n1, n2, n3, n4, n5, i0, i1, i2, i3, i4, i5, i6, i7, hv_3])
  refine (AppendInt64_fn _ _ _ ha3.own hB3 _ (by simp only [List.length_append, List.length_nil]; omega)).mono ?_
  rintro r4 w4 hc4
  rw [← hXX_5] at hc4
  have ha4 := ha3.trans hc4
  have hB4 : B ≤ w4.heap.size := Nat.le_trans hB ha4.upd.size
  have hv_4 := ha4.upd.blk_some hv hdv
  repeat ((first | refine W.seqR rfl ?_ | refine W.seq ?_ | refine W.regR rfl ?_ | refine W.condK ?_ | refine W.block ?_ | refine W.skip ?_ | refine W.ret ?_ | refine W.exit ?_); try simp (maxSteps := 1000000) (disch := (first | omega | (simp only [World.size_alloc, size_wr, size_drew] <;> omega) | exact not_noB _)) only [go_sem, ↓reduceIte, n0, reduceCtorEq, n1, n2, n3, n4, n5, i0, i1, i2, i3, i4, i5, i6, i7, hv_4])
  refine (AppendInt64_fn _ _ _ ha4.own hB4 _ (by simp only [List.length_append, List.length_nil]; omega)).mono ?_
  rintro r5 w5 hc5
  rw [← hXX_6] at hc5
  have ha5 := ha4.trans hc5
  have hB5 : B ≤ w5.heap.size := Nat.le_trans hB ha5.upd.size
  have hv_5 := ha5.upd.blk_some hv hdv
  repeat ((first | refine W.seqR rfl ?_ | refine W.seq ?_ | refine W.regR rfl ?_ | refine W.condK ?_ | refine W.block ?_ | refine W.skip ?_ | refine W.ret ?_ | refine W.exit ?_); try simp (maxSteps := 1000000) (disch := (first | omega | (simp only [World.size_alloc, size_wr, size_drew] <;> omega) | exact not_noB _)) only [go_sem, ↓reduceIte, n0, reduceCtorEq, n1, n2, n3, n4, n5, i0, i1, i2, i3, i4, i5, i6, i7, hv_5])
  refine (AppendInt64_fn _ _ _ ha5.own hB5 _ (by simp only [List.length_append, List.length_nil]; omega)).mono ?_
  rintro r6 w6 hc6
  rw [← hXX_7] at hc6
  have ha6 := ha5.trans hc6
  have hB6 : B ≤ w6.heap.size := Nat.le_trans hB ha6.upd.size
  have hv_6 := ha6.upd.blk_some hv hdv
  repeat ((first | refine W.seqR rfl ?_ | refine W.seq ?_ | refine W.regR rfl ?_ | refine W.condK ?_ | refine W.block ?_ | refine W.skip ?_ | refine W.ret ?_ | refine W.exit ?_); try simp (maxSteps := 1000000) (disch := (first | omega | (simp only [World.size_alloc, size_wr, size_drew] <;> omega) | exact not_noB _)) only [go_sem, ↓reduceIte, n0, reduceCtorEq, n1, n2, n3, n4, n5, i0, i1, i2, i3, i4, i5, i6, i7, hv_6])
  refine (AppendCompactString_fn _ _ _ ha6.own hB6 (t.at 8).s (g_8.text (.inl rfl)) (by simp only [List.length_append, List.length_nil]; omega)).mono ?_
  rintro r7 w7 hc7
  rw [← hXX_8] at hc7
  have ha7 := ha6.trans hc7
  have hB7 : B ≤ w7.heap.size := Nat.le_trans hB ha7.upd.size
  have hv_7 := ha7.upd.blk_some hv hdv
  repeat ((first | refine W.seqR rfl ?_ | refine W.seq ?_ | refine W.regR rfl ?_ | refine W.condK ?_ | refine W.block ?_ | refine W.skip ?_ | refine W.ret ?_ | refine W.exit ?_); try simp (maxSteps := 1000000) (disch := (first | omega | (simp only [World.size_alloc, size_wr, size_drew] <;> omega) | exact not_noB _)) only [go_sem, ↓reduceIte, n0, reduceCtorEq, n1, n2, n3, n4, n5, i0, i1, i2, i3, i4, i5, i6, i7, hv_7])
  refine (AppendCompactBytes_fn (ok := OkS okM w.heap.size) _ _ _ ha7.own hB7 _ (t.at 9).s ((hp_9.weaken fun b h1 h2 => ⟨h2, h1⟩).keep (ha7.upd.keeps fun b hb hk => hd b hb hk.1)) (hdK ha7) (g_9.text (.inr rfl)) (by simp only [List.length_append, List.length_nil]; omega)).mono ?_
  rintro r8 w8 hc8
  rw [← hXX_9] at hc8
  have ha8 := ha7.trans hc8
  have hB8 : B ≤ w8.heap.size := Nat.le_trans hB ha8.upd.size
  have hv_8 := ha8.upd.blk_some hv hdv
  repeat ((first | refine W.seqR rfl ?_ | refine W.seq ?_ | refine W.regR rfl ?_ | refine W.condK ?_ | refine W.block ?_ | refine W.skip ?_ | refine W.ret ?_ | refine W.exit ?_); try simp (maxSteps := 1000000) (disch := (first | omega | (simp only [World.size_alloc, size_wr, size_drew] <;> omega) | exact not_noB _)) only [go_sem, ↓reduceIte, n0, reduceCtorEq, n1, n2, n3, n4, n5, i0, i1, i2, i3, i4, i5, i6, i7, hv_8])
  refine (AppendInt32_fn _ _ _ ha8.own hB8 _ (by simp only [List.length_append, List.length_nil]; omega)).mono ?_
  rintro r9 w9 hc9
  rw [wrap32, ← hXX_10] at hc9
  have ha9 := ha8.trans hc9
  have hB9 : B ≤ w9.heap.size := Nat.le_trans hB ha9.upd.size
  have hv_9 := ha9.upd.blk_some hv hdv
  repeat ((first | refine W.seqR rfl ?_ | refine W.seq ?_ | refine W.regR rfl ?_ | refine W.condK ?_ | refine W.block ?_ | refine W.skip ?_ | refine W.ret ?_ | refine W.exit ?_); try simp (maxSteps := 1000000) (disch := (first | omega | (simp only [World.size_alloc, size_wr, size_drew] <;> omega) | exact not_noB _)) only [go_sem, ↓reduceIte, n0, reduceCtorEq, n1, n2, n3, n4, n5, i0, i1, i2, i3, i4, i5, i6, i7, hv_9])
  have hTk9 : TagsM (OkS okM w.heap.size) w9 (.map qm) t.u := (hT.weaken fun b h1 h2 => ⟨h2, h1⟩).keep (ha9.upd.keeps fun b hb hk => hd b hb hk.1)
  refine (TagsLen_fn (ok := OkS okM w.heap.size) w9 hv_9 (to := 12) (show (#[.int .i16 ver, .int .i16 (IntKind.i16.wrap (t.at 0).n), strV (t.at 1).s, strV (t.at 2).s, strV (t.at 3).s, strV (t.at 4).s, .int .i64 (t.at 5).n, .int .i64 (t.at 6).n, .int .i64 (t.at 7).n, strV (t.at 8).s, p_9, .int .i32 (IntKind.i32.wrap (t.at 10).n), .map qm] : Array Value)[12]? = some (.map qm) from rfl) hTk9).mono ?_
  rintro _ w9' ⟨rfl, rfl⟩
  have hul9 : t.u.length ≤ 32767 := hfu.1
  have ew9 : IntKind.u32.wrap (t.u.length : Int) = t.u.length := u32_wrap (by omega)
  have ez9 : IntKind.u32.wrap (0 + (t.u.length : Int)) = t.u.length := by rw [Int.zero_add, u32_wrap (by omega)]
  simp (maxSteps := 1000000) (disch := (first | omega | (simp only [World.size_alloc, size_wr, size_drew] <;> omega) | exact not_noB _)) only [go_sem, ↓reduceIte, n0, reduceCtorEq, n1, n2, n3, n4, n5, i0, i1, i2, i3, i4, i5, i6, i7, hv_9, ew9, ez9]
  refine (AppendUvarint_fn _ _ _ ha9.own hB9 t.u.length (by omega) (by simp only [List.length_append, List.length_nil]; omega)).mono ?_
  rintro r10 w10 hc10
  rw [← hXU] at hc10
  have ha10 := ha9.trans hc10
  have hB10 : B ≤ w10.heap.size := Nat.le_trans hB ha10.upd.size
  have hv_10 := ha10.upd.blk_some hv hdv
  repeat ((first | refine W.seqR rfl ?_ | refine W.seq ?_ | refine W.regR rfl ?_ | refine W.condK ?_ | refine W.block ?_ | refine W.skip ?_ | refine W.ret ?_ | refine W.exit ?_); try simp (maxSteps := 1000000) (disch := (first | omega | (simp only [World.size_alloc, size_wr, size_drew] <;> omega) | exact not_noB _)) only [go_sem, ↓reduceIte, n0, reduceCtorEq, n1, n2, n3, n4, n5, i0, i1, i2, i3, i4, i5, i6, i7, hv_10])
  have hTk10 : TagsM (OkS okM w.heap.size) w10 (.map qm) t.u := (hT.weaken fun b h1 h2 => ⟨h2, h1⟩).keep (ha10.upd.keeps fun b hb hk => hd b hb hk.1)
  refine (AppendEach_fn (ok := OkS okM w.heap.size) _ _ _ ha10.own hB10 hv_10 (to := 12) (show (#[.int .i16 ver, .int .i16 (IntKind.i16.wrap (t.at 0).n), strV (t.at 1).s, strV (t.at 2).s, strV (t.at 3).s, strV (t.at 4).s, .int .i64 (t.at 5).n, .int .i64 (t.at 6).n, .int .i64 (t.at 7).n, strV (t.at 8).s, p_9, .int .i32 (IntKind.i32.wrap (t.at 10).n), .map qm] : Array Value)[12]? = some (.map qm) from rfl) hTk10 (rising_keys hfu) hfu.1 (tags_small hfu hTk10) (hdK ha10) (ownK ha10 (blk_lt hv) hdv) (by simp only [List.length_append, List.length_nil]; omega)).mono ?_
  rintro r11 w11 hc11
  rw [← hXT] at hc11
  have ha11 := ha10.trans hc11
  have hB11 : B ≤ w11.heap.size := Nat.le_trans hB ha11.upd.size
  have hv_11 := ha11.upd.blk_some hv hdv
  repeat ((first | refine W.seqR rfl ?_ | refine W.seq ?_ | refine W.regR rfl ?_ | refine W.condK ?_ | refine W.block ?_ | refine W.skip ?_ | refine W.ret ?_ | refine W.exit ?_); try simp (maxSteps := 1000000) (disch := (first | omega | (simp only [World.size_alloc, size_wr, size_drew] <;> omega) | exact not_noB _)) only [go_sem, ↓reduceIte, n0, reduceCtorEq, n1, n2, n3, n4, n5, i0, i1, i2, i3, i4, i5, i6, i7, hv_11])
  refine ha11.eqs ?_
  rw [hP]; simp only [List.append_assoc, List.append_nil, List.nil_append]
end Ms

