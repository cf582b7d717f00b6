/- A part of the proof: see the last text. -/
import Derived.Test.YtaebchgadbafjaaC08
set_option linter.unusedSimpArgs false
set_option linter.unusedVariables false
namespace Ms
open Nat renaming reduceEqDiff → n0, reduceAdd → n1, reduceMul → n2, reduceSub → n3, reduceLT → n4, reduceLeDiff → n5
open Int renaming reduceEq → i0, reduceLT → i1, reduceLE → i2, reduceNeg → i3, reduceAdd → i4, reduceSub → i5, reduceMul → i6, reduceToNat → i7
set_option maxRecDepth 4000
open Go Go.Proofs
theorem ap_71_71 : AppT Try.prog 71 71 9 1 16 := AppT.of (by kernel_rfl)
theorem ap_72_72 : AppT Try.prog 72 72 2 1 8 := AppT.of (by kernel_rfl)
theorem ca_116 : callable Try.prog 116 = true := nr (by kernel_rfl)
theorem ca_118 : callable Try.prog 118 = true := nr (by kernel_rfl)
theorem ca_121 : callable Try.prog 121 = true := nr (by kernel_rfl)
theorem ca_122 : callable Try.prog 122 = true := nr (by kernel_rfl)
theorem ca_125 : callable Try.prog 125 = true := nr (by kernel_rfl)
theorem ca_126 : callable Try.prog 126 = true := nr (by kernel_rfl)
theorem ca_128 : callable Try.prog 128 = true := nr (by kernel_rfl)
theorem ca_129 : callable Try.prog 129 = true := nr (by kernel_rfl)
theorem ca_13 : callable Try.prog 13 = true := nr (by kernel_rfl)
theorem ca_137 : callable Try.prog 137 = true := nr (by kernel_rfl)
theorem ca_138 : callable Try.prog 138 = true := nr (by kernel_rfl)
theorem ca_139 : callable Try.prog 139 = true := nr (by kernel_rfl)
theorem ca_16 : callable Try.prog 16 = true := nr (by kernel_rfl)
theorem ca_21 : callable Try.prog 21 = true := nr (by kernel_rfl)
theorem ca_22 : callable Try.prog 22 = true := nr (by kernel_rfl)
theorem ca_23 : callable Try.prog 23 = true := nr (by kernel_rfl)
theorem ca_24 : callable Try.prog 24 = true := nr (by kernel_rfl)
theorem ca_61 : callable Try.prog 61 = true := nr (by kernel_rfl)
theorem ca_62 : callable Try.prog 62 = true := nr (by kernel_rfl)
theorem ca_63 : callable Try.prog 63 = true := nr (by kernel_rfl)
theorem ca_64 : callable Try.prog 64 = true := nr (by kernel_rfl)
theorem ca_65 : callable Try.prog 65 = true := nr (by kernel_rfl)
theorem es_37 : elemSize Try.prog 37 = some 2 := nr (by kernel_rfl)
theorem es_71 : elemSize Try.prog 71 = some 1 := nr (by kernel_rfl)
theorem es_72 : elemSize Try.prog 72 = some 1 := nr (by kernel_rfl)
theorem fo_39_0 : fieldOff Try.prog 39 0 = some 0 := nr (by kernel_rfl)
theorem fo_64_0 : fieldOff Try.prog 64 0 = some 0 := nr (by kernel_rfl)
theorem fo_64_1 : fieldOff Try.prog 64 1 = some 1 := nr (by kernel_rfl)
theorem fo_75_0 : fieldOff Try.prog 75 0 = some 0 := nr (by kernel_rfl)
theorem fo_75_1 : fieldOff Try.prog 75 1 = some 1 := nr (by kernel_rfl)
theorem fo_75_2 : fieldOff Try.prog 75 2 = some 2 := nr (by kernel_rfl)
theorem fo_75_3 : fieldOff Try.prog 75 3 = some 3 := nr (by kernel_rfl)
theorem fo_75_4 : fieldOff Try.prog 75 4 = some 4 := nr (by kernel_rfl)
theorem fo_75_5 : fieldOff Try.prog 75 5 = some 5 := nr (by kernel_rfl)
theorem fv_39_0 (cs : Array Value) : fieldV Try.prog 39 0 cs = cs[0]? := fieldV_one (by kernel_rfl) cs
theorem fv_39_2 (cs : Array Value) : fieldV Try.prog 39 2 cs = cs[2]? := fieldV_one (by kernel_rfl) cs
theorem fv_39_3 (cs : Array Value) : fieldV Try.prog 39 3 cs = cs[3]? := fieldV_one (by kernel_rfl) cs
theorem ld_31 (w : World) (b o : Nat) : loadOf Try.prog 31 w ⟨b, o, none⟩ = (blk w b).bind fun x => cellsAt x.1 o 2 := loadOf_agg (by kernel_rfl) w b o
theorem ld_45 (w : World) (b o : Nat) : loadOf Try.prog 45 w ⟨b, o, none⟩ = (blk w b).bind fun x => x.1[o]? := loadOf_one (by kernel_rfl) w b o
theorem ld_64 (w : World) (b o : Nat) : loadOf Try.prog 64 w ⟨b, o, none⟩ = (blk w b).bind fun x => cellsAt x.1 o 2 := loadOf_agg (by kernel_rfl) w b o
theorem ld_71 (w : World) (b o : Nat) : loadOf Try.prog 71 w ⟨b, o, none⟩ = (blk w b).bind fun x => x.1[o]? := loadOf_one (by kernel_rfl) w b o
theorem ld_72 (w : World) (b o : Nat) : loadOf Try.prog 72 w ⟨b, o, none⟩ = (blk w b).bind fun x => x.1[o]? := loadOf_one (by kernel_rfl) w b o
theorem ld_73 (w : World) (b o : Nat) : loadOf Try.prog 73 w ⟨b, o, none⟩ = (blk w b).bind fun x => x.1[o]? := loadOf_one (by kernel_rfl) w b o
theorem pl_31 : placesOf Try.prog 31 = some [(0, 1), (1, 1)] := nr (by kernel_rfl)
theorem pl_50 : placesOf Try.prog 50 = some [(0, 1), (1, 1), (2, 1), (3, 1), (4, 1), (5, 1), (6, 1), (7, 1)] := nr (by kernel_rfl)
theorem pl_75 : placesOf Try.prog 75 = some [(0, 1), (1, 1), (2, 1), (3, 1), (4, 1), (5, 1)] := nr (by kernel_rfl)
theorem se_29 : slElem Try.prog 29 = some (50, 8) := nr (by kernel_rfl)
theorem se_71 : slElem Try.prog 71 = some (9, 1) := nr (by kernel_rfl)
theorem se_72 : slElem Try.prog 72 = some (2, 1) := nr (by kernel_rfl)
theorem sl_37 : isSliceT Try.prog 37 = true := nr (by kernel_rfl)
theorem sl_71 : isSliceT Try.prog 71 = true := nr (by kernel_rfl)
theorem sl_72 : isSliceT Try.prog 72 = true := nr (by kernel_rfl)
theorem sz_2 (w : World) (b o : Nat) (v : Value) : storeOf Try.prog 2 w ⟨b, o, none⟩ v = (blk w b).bind fun x => stO w b o v x 1 := storeOf_n (by kernel_rfl) w b o v
theorem sz_31 (w : World) (b o : Nat) (v : Value) : storeOf Try.prog 31 w ⟨b, o, none⟩ v = (blk w b).bind fun x => stO w b o v x 2 := storeOf_n (by kernel_rfl) w b o v
theorem sz_45 (w : World) (b o : Nat) (v : Value) : storeOf Try.prog 45 w ⟨b, o, none⟩ v = (blk w b).bind fun x => stO w b o v x 1 := storeOf_n (by kernel_rfl) w b o v
theorem sz_64 (w : World) (b o : Nat) (v : Value) : storeOf Try.prog 64 w ⟨b, o, none⟩ v = (blk w b).bind fun x => stO w b o v x 2 := storeOf_n (by kernel_rfl) w b o v
theorem sz_71 (w : World) (b o : Nat) (v : Value) : storeOf Try.prog 71 w ⟨b, o, none⟩ v = (blk w b).bind fun x => stO w b o v x 1 := storeOf_n (by kernel_rfl) w b o v
theorem sz_72 (w : World) (b o : Nat) (v : Value) : storeOf Try.prog 72 w ⟨b, o, none⟩ v = (blk w b).bind fun x => stO w b o v x 1 := storeOf_n (by kernel_rfl) w b o v
theorem sz_73 (w : World) (b o : Nat) (v : Value) : storeOf Try.prog 73 w ⟨b, o, none⟩ v = (blk w b).bind fun x => stO w b o v x 1 := storeOf_n (by kernel_rfl) w b o v
theorem z_31 : zeroOf Try.prog 31 = some #[.slice none 0 0, .int .i64 0] := nr (by kernel_rfl)
theorem z_75 : zeroOf Try.prog 75 = some #[.int .i16 0, .slice none 0 0, .slice none 0 0, .int .i64 0, .pointer none, .map none] := nr (by kernel_rfl)
attribute [go_sem] ca_116 ca_118 ca_121 ca_122 ca_125 ca_126 ca_128 ca_129 ca_13 ca_137 ca_138 ca_139 ca_16 ca_21 ca_22 ca_23 ca_24 ca_61 ca_62 ca_63 ca_64 ca_65 es_37 es_71 es_72 fo_39_0 fo_64_0 fo_64_1 fo_75_0 fo_75_1 fo_75_2 fo_75_3 fo_75_4 fo_75_5 fv_39_0 fv_39_2 fv_39_3 ld_31 ld_45 ld_64 ld_71 ld_72 ld_73 pl_31 pl_50 pl_75 se_29 se_71 se_72 sl_37 sl_71 sl_72 sz_2 sz_31 sz_45 sz_64 sz_71 sz_72 sz_73 z_31 z_75
end Ms

namespace Ms
open Nat renaming reduceEqDiff → n0, reduceAdd → n1, reduceMul → n2, reduceSub → n3, reduceLT → n4, reduceLeDiff → n5
open Int renaming reduceEq → i0, reduceLT → i1, reduceLE → i2, reduceNeg → i3, reduceAdd → i4, reduceSub → i5, reduceMul → i6, reduceToNat → i7
set_option maxRecDepth 8000
open Go Go.Proofs Go.Shelf
attribute [local congr] W_congr WPsq_congr WPp_congr optK_congr addrK_congr intK_congr boolK_congr sliceK_congr tupleK_congr funcK_congr Fn_congr rawK_congr takeK_congr stepK_congr convK_congr aggK_congr

def fListTransactionsRequest_0 : Fld := .mk 11 0 (-1) (-1) (-1) 0 8 []
def fListTransactionsRequest_1 : Fld := .mk 11 0 (-1) (-1) (-1) 0 4 []
def fListTransactionsRequest_2 : Fld := .mk 4 1 (-1) (-1) (-1) (-1) 0 []
def fListTransactionsRequest_3 : Fld := .mk 8 2 (-1) 2 (-1) 0 0 []
def fs_ListTransactionsRequest : List Fld := [fListTransactionsRequest_0, fListTransactionsRequest_1, fListTransactionsRequest_2, fListTransactionsRequest_3]

set_option maxHeartbeats 2000000 in
theorem fillListTransactionsRequest_fn {d : Nat} {okT : Blocks} {V ver : Int} (t : Tree) (ct : List Value) (w : World) {vb : Nat} (hvb : blk w vb = some (#[.int .i16 ver, .slice none 0 0, .slice none 0 0, .int .i64 0, .pointer none, .map none], 75, (0, 0))) (ht : TreeC okT w t ct) (hok : ∀ b, okT b → b ≠ vb) (hfit : FitP V (d + 1) fs_ListTransactionsRequest t) (hLs : Lists t) :
    Fn Try.prog 64 #[.pointer (some ⟨vb, 0, none⟩), .agg ct.toArray] w fun _ w' => ∃ cells, blk w' vb = some ((.int .i16 ver :: cells).toArray, 75, (0, 0)) ∧ RepS true (d + 1) fs_ListTransactionsRequest (okN okT w.heap.size) w' t cells ∧ Upd (fun b => b = vb) w w' := by
  obtain ⟨vS, vL, vU, rfl, hn, hSx, hLx0, hUx⟩ := ht.inv
  obtain ⟨bS, cS, rfl, hcS⟩ := hSx.shape
  obtain ⟨bL, cL, rfl, hcL⟩ := SlR.shape hLx0
  obtain ⟨bU, cU, rfl, hcU⟩ := SlR.shape hUx
  obtain ⟨⟨g0, g1, g2, g3, -⟩, hfu⟩ := hfit
  replace g0 : FitF (FitP V d) V fListTransactionsRequest_0 (t.at 0) := g0
  replace g1 : FitF (FitP V d) V fListTransactionsRequest_1 (t.at 1) := g1
  replace g2 : FitF (FitP V d) V fListTransactionsRequest_2 (t.at 2) := g2
  replace g3 : FitF (FitP V d) V fListTransactionsRequest_3 (t.at 3) := g3
  have hllt : t.l.length < 4611686018427387903 := Nat.lt_of_le_of_lt hLs.len (by decide)
  have hul := hLs.ulen
  have hvl := blk_lt hvb
  refine fn_of_W Try.func64 rfl Try.results64 Try.ntmps64 rfl ?_
  obtain ⟨w1, hw1⟩ : ∃ w1, w1 = (w.alloc (.cells #[.int .i64 t.n, .slice bS t.s.length cS, .bool t.null, .slice bL t.l.length cL, .slice bU t.u.length cU] 39)) := ⟨_, rfl⟩
  have hE1 : Ext w w1 := by rw [hw1]; exact Upd.alloc (Upd.refl _ _) _
  have hz1 : w1.heap.size = w.heap.size + 1 := by rw [hw1, World.size_alloc]
  have htb1 : blk w1 w.heap.size = some (#[.int .i64 t.n, .slice bS t.s.length cS, .bool t.null, .slice bL t.l.length cL, .slice bU t.u.length cU], 39, (0, 0)) := by rw [hw1]; exact blk_alloc_new rfl
  have hb1 : blk w1 vb = some (#[.int .i16 ver, .slice none 0 0, .slice none 0 0, .int .i64 0, .pointer none, .map none], 75, (0, 0)) := hE1.blk_some hvb id
  have hoS : ∀ b, (OkS okT w.heap.size) b → b ≠ vb := fun b h => hok b h.1
  have htv : ¬ w.heap.size = vb := by omega
  have hoF : ∀ b, (OkF okT w.heap.size w1.heap.size) b → b ≠ vb := fun b h => by
    rcases h with h | h
    · exact hoS b h
    · omega
  have hU1 : Upd (fun b => b = vb) w1 w1 := Upd.refl _ _
  have hvl1 := blk_lt hb1
  have hsz1 := Nat.le_refl w1.heap.size
  have ht1 : TreeC (OkS okT w.heap.size) w1 t [.int .i64 t.n, .slice bS t.s.length cS, .bool t.null, .slice bL t.l.length cL, .slice bU t.u.length cU] := (ht.weaken fun b h1 h2 => ⟨h2, h1⟩).keep (hE1.keeps _)
  have hU1v : TagsV (OkS okT w.heap.size) w1 (.slice bU t.u.length cU) t.u := (hUx.weaken fun b h1 h2 => ⟨h2, h1⟩).keep (hE1.keeps _)
  have hn0_0 : (t.at 0).null = false := g0.notnull (by decide)
  have hll0 := (g0.list rfl).1
  repeat ((first | refine W.seqR rfl ?_ | refine W.seq ?_ | refine W.regR rfl ?_ | refine W.condK ?_ | refine W.block ?_ | refine W.skip ?_ | refine W.ret ?_ | refine W.exit ?_); try simp (maxSteps := 1000000) (disch := (first | omega | (simp only [World.size_alloc, size_wr, size_drew] <;> omega) | exact not_noB _)) only [go_sem, ↓reduceIte, n0, reduceCtorEq, n1, n2, n3, n4, n5, i0, i1, i2, i3, i4, i5, i6, i7])
  rw [← hw1]
  clear hw1
  refine (iat_fn (ok := (OkS okT w.heap.size)) t 0 _ _ (ht1.keep (hU1.keeps fun b _ hk e => hoS b hk e)) (by decide) hllt).mono ?_
  rintro r2 w2 ⟨⟨ca2, rfl, hca2⟩, hEa2⟩
  obtain ⟨vSa2, vLa2, vUa2, rfl, hna2, hSa2, hLa2, hUa2⟩ := hca2.inv
  obtain ⟨bSa2, cSa2, rfl, hcSa2⟩ := hSa2.shape
  obtain ⟨bLa2, cLa2, rfl, hcLa2⟩ := SlR.shape hLa2
  have hfU2 := SlR.flat hUa2
  clear hcSa2 hcLa2 hna2
  have hV2 : Upd (fun b => b = vb) w1 w2 := hEa2.mono fun _ h => h.elim
  have hU2 : Upd (fun b => b = vb) w1 w2 := hU1.trans hV2
  have htb2 := hU2.blk_some htb1 htv
  have hvl2 : vb < w2.heap.size := Nat.lt_of_lt_of_le hvl1 hU2.size
  have hsz2 := hU2.size
  have hb2 : blk w2 vb = some (#[.int .i16 ver, .slice none 0 0, .slice none 0 0, .int .i64 0, .pointer none, .map none], 75, (0, 0)) := hEa2.blk_some hb1 id
  simp (maxSteps := 1000000) (disch := (first | omega | (simp only [World.size_alloc, size_wr, size_drew] <;> omega) | exact not_noB _)) only [go_sem, ↓reduceIte, n0, reduceCtorEq, n1, n2, n3, n4, n5, i0, i1, i2, i3, i4, i5, i6, i7, hn0_0, hb2, htb2]
  repeat ((first | refine W.seqR rfl ?_ | refine W.seq ?_ | refine W.regR rfl ?_ | refine W.condK ?_ | refine W.block ?_ | refine W.skip ?_ | refine W.ret ?_ | refine W.exit ?_); try simp (maxSteps := 1000000) (disch := (first | omega | (simp only [World.size_alloc, size_wr, size_drew] <;> omega) | exact not_noB _)) only [go_sem, ↓reduceIte, n0, reduceCtorEq, n1, n2, n3, n4, n5, i0, i1, i2, i3, i4, i5, i6, i7, hb2, htb2])
  refine (iat_fn (ok := (OkS okT w.heap.size)) t 0 _ _ (ht1.keep (hU2.keeps fun b _ hk e => hoS b hk e)) (by decide) hllt).mono ?_
  rintro r3 w3 ⟨⟨ca3, rfl, hca3⟩, hEa3⟩
  obtain ⟨vSa3, vLa3, vUa3, rfl, hna3, hSa3, hLa3, hUa3⟩ := hca3.inv
  obtain ⟨bSa3, cSa3, rfl, hcSa3⟩ := hSa3.shape
  obtain ⟨bLa3, cLa3, rfl, hcLa3⟩ := SlR.shape hLa3
  have hfU3 := SlR.flat hUa3
  clear hcSa3 hcLa3 hna3
  have hV3 : Upd (fun b => b = vb) w2 w3 := hEa3.mono fun _ h => h.elim
  have hU3 : Upd (fun b => b = vb) w1 w3 := hU2.trans hV3
  have htb3 := hU3.blk_some htb1 htv
  have hvl3 : vb < w3.heap.size := Nat.lt_of_lt_of_le hvl1 hU3.size
  have hsz3 := hU3.size
  clear hvl2 hsz2
  have hb3 : blk w3 vb = some (#[.int .i16 ver, .slice none 0 0, .slice none 0 0, .int .i64 0, .pointer none, .map none], 75, (0, 0)) := hEa3.blk_some hb2 id
  simp (maxSteps := 1000000) (disch := (first | omega | (simp only [World.size_alloc, size_wr, size_drew] <;> omega) | exact not_noB _)) only [go_sem, ↓reduceIte, n0, reduceCtorEq, n1, n2, n3, n4, n5, i0, i1, i2, i3, i4, i5, i6, i7, hb3, htb3]
  refine wp_make (T := 71) (E := 9) (size := 1) (bytes := 16) (z := (.string ByteArray.empty)) (l := 0) (c := (t.at 0).l.length) (kl := .i64) (kc := .i64) (by kernel_rfl) (by kernel_rfl) (by simp (maxSteps := 1000000) (disch := (first | omega | (simp only [World.size_alloc, size_wr, size_drew] <;> omega) | exact not_noB _)) only [go_sem, ↓reduceIte, n0, reduceCtorEq, n1, n2, n3, n4, n5, i0, i1, i2, i3, i4, i5, i6, i7]; rfl) (by simp (maxSteps := 1000000) (disch := (first | omega | (simp only [World.size_alloc, size_wr, size_drew] <;> omega) | exact not_noB _)) only [go_sem, ↓reduceIte, n0, reduceCtorEq, n1, n2, n3, n4, n5, i0, i1, i2, i3, i4, i5, i6, i7]) (by omega) (by omega) (by omega) ?_
  simp (maxSteps := 1000000) (disch := (first | omega | (simp only [World.size_alloc, size_wr, size_drew] <;> omega) | exact not_noB _)) only [go_sem, ↓reduceIte, n0, reduceCtorEq, n1, n2, n3, n4, n5, i0, i1, i2, i3, i4, i5, i6, i7, hb3, hvl3, htb3]
  have hszB0 := hsz3
  generalize hw4 : wr (w3.alloc (.cells (madeCells #[.string ByteArray.empty] ((t.at 0).l.length * 1)) 9)) vb 1 [.slice (some ⟨w3.heap.size, 0, none⟩) 0 (t.at 0).l.length] = w4
  have hV4 : Upd (fun b => b = vb) w3 w4 := by rw [← hw4]; exact ((Upd.refl _ _).alloc _).wr _ _ (.inr rfl)
  have hb4 : blk w4 vb = some (#[.int .i16 ver, .slice (some ⟨w3.heap.size, 0, none⟩) 0 (t.at 0).l.length, .slice none 0 0, .int .i64 0, .pointer none, .map none], 75, (0, 0)) := by rw [← hw4, blk_wr_eq, blk_alloc_old hvl3, hb3]; rfl
  have hrow4 : blk w4 w3.heap.size = some (madeCells #[.string ByteArray.empty] ((t.at 0).l.length * 1), 9, (0, 0)) := by rw [← hw4, blk_wr_ne (Nat.ne_of_gt hvl3), blk_alloc_new rfl]
  have hg4 : GrowR (Rep1 (RepS true d) fListTransactionsRequest_0.of fListTransactionsRequest_0.sub) 1 (OkF okT w.heap.size w1.heap.size) w3.heap.size vb w4 9 (.slice (some ⟨w3.heap.size, 0, none⟩) 0 (t.at 0).l.length) [] := GrowR.made hrow4 (size_madeCells _ _) (Nat.le_refl _)
  have hU4 : Upd (fun b => b = vb) w1 w4 := hU3.trans hV4
  have htb4 := hU4.blk_some htb1 htv
  have hvl4 : vb < w4.heap.size := Nat.lt_of_lt_of_le hvl1 hU4.size
  have hsz4 := hU4.size
  clear hvl3 hsz3
  clear hw4 hrow4
  repeat ((first | refine W.seqR rfl ?_ | refine W.seq ?_ | refine W.regR rfl ?_ | refine W.condK ?_ | refine W.block ?_ | refine W.skip ?_ | refine W.ret ?_ | refine W.exit ?_); try simp (maxSteps := 1000000) (disch := (first | omega | (simp only [World.size_alloc, size_wr, size_drew] <;> omega) | exact not_noB _)) only [go_sem, ↓reduceIte, n0, reduceCtorEq, n1, n2, n3, n4, n5, i0, i1, i2, i3, i4, i5, i6, i7, hb4, htb4])
  refine (iat_fn (ok := (OkS okT w.heap.size)) t 0 _ _ (ht1.keep (hU4.keeps fun b _ hk e => hoS b hk e)) (by decide) hllt).mono ?_
  rintro r5 w5 ⟨⟨ca5, rfl, hca5⟩, hEa5⟩
  obtain ⟨vSa5, vLa5, vUa5, rfl, hna5, hSa5, hLa5, hUa5⟩ := hca5.inv
  obtain ⟨bSa5, cSa5, rfl, hcSa5⟩ := hSa5.shape
  obtain ⟨bLa5, cLa5, rfl, hcLa5⟩ := SlR.shape hLa5
  have hfU5 := SlR.flat hUa5
  clear hcSa5 hcLa5 hna5
  have hV5 : Upd (fun b => b = vb) w4 w5 := hEa5.mono fun _ h => h.elim
  have hU5 : Upd (fun b => b = vb) w1 w5 := hU4.trans hV5
  have htb5 := hU5.blk_some htb1 htv
  have hvl5 : vb < w5.heap.size := Nat.lt_of_lt_of_le hvl1 hU5.size
  have hsz5 := hU5.size
  clear hvl4 hsz4
  have hb5 : blk w5 vb = some (#[.int .i16 ver, .slice (some ⟨w3.heap.size, 0, none⟩) 0 (t.at 0).l.length, .slice none 0 0, .int .i64 0, .pointer none, .map none], 75, (0, 0)) := hEa5.blk_some hb4 id
  have hg5 := hg4.ext (Rep1_lay _ _ fun _ => RepS_lay true d _) hEa5
  simp (maxSteps := 1000000) (disch := (first | omega | (simp only [World.size_alloc, size_wr, size_drew] <;> omega) | exact not_noB _)) only [go_sem, ↓reduceIte, n0, reduceCtorEq, n1, n2, n3, n4, n5, i0, i1, i2, i3, i4, i5, i6, i7, hb5, htb5]
  repeat ((first | refine W.seqR rfl ?_ | refine W.seq ?_ | refine W.regR rfl ?_ | refine W.condK ?_ | refine W.block ?_ | refine W.skip ?_ | refine W.ret ?_ | refine W.exit ?_); try simp (maxSteps := 1000000) (disch := (first | omega | (simp only [World.size_alloc, size_wr, size_drew] <;> omega) | exact not_noB _)) only [go_sem, ↓reduceIte, n0, reduceCtorEq, n1, n2, n3, n4, n5, i0, i1, i2, i3, i4, i5, i6, i7, hb5, htb5])
  have hVb0 : Upd (fun b => b = vb) w3 w5 := hV4.trans hV5
  have hUb0 := hU3
  have hvlB0 : vb < w3.heap.size := Nat.lt_of_lt_of_le hvl1 hszB0
  have hszL0 : w3.heap.size ≤ w5.heap.size := hVb0.size
  refine W.exitJ 0 (fun ρ w' => ∃ v, ρ 0 = .pointer (some ⟨vb, 0, none⟩) ∧ ρ 3 = .pointer (some ⟨w.heap.size, 0, none⟩) ∧ blk w' vb = some (#[.int .i16 ver, v, .slice none 0 0, .int .i64 0, .pointer none, .map none], 75, (0, 0)) ∧ GrowR (Rep1 (RepS true d) fListTransactionsRequest_0.of fListTransactionsRequest_0.sub) 1 (OkF okT w.heap.size w1.heap.size) w3.heap.size vb w' 9 v (t.at 0).l ∧ v ≠ .slice none 0 0 ∧ Upd (fun b => b = vb ∨ w3.heap.size ≤ b) w5 w')
    (W.loop (fun ρ w' => ∃ (j : Nat) (v : Value), j ≤ (t.at 0).l.length ∧ ρ 26 = .int .i64 j ∧ ρ 25 = .int .i64 (t.at 0).l.length ∧ ρ 24 = .slice bLa5 (t.at 0).l.length cLa5 ∧ ρ 0 = .pointer (some ⟨vb, 0, none⟩) ∧ ρ 3 = .pointer (some ⟨w.heap.size, 0, none⟩) ∧ blk w' vb = some (#[.int .i16 ver, v, .slice none 0 0, .int .i64 0, .pointer none, .map none], 75, (0, 0)) ∧ GrowR (Rep1 (RepS true d) fListTransactionsRequest_0.of fListTransactionsRequest_0.sub) 1 (OkF okT w.heap.size w1.heap.size) w3.heap.size vb w' 9 v ((t.at 0).l.take j) ∧ v ≠ .slice none 0 0 ∧ Upd (fun b => b = vb ∨ w3.heap.size ≤ b) w5 w')
      (fun ρ _ => (t.at 0).l.length - (RowKit.intOf (ρ 26)).toNat) ?_ ?_) ?_
  · refine ⟨0, _, Nat.zero_le _, ?_, ?_, ?_, ?_, ?_, hb5, hg5, (by intro h; cases h), Upd.refl _ _⟩ <;> simp (maxSteps := 1000000) (disch := (first | omega | (simp only [World.size_alloc, size_wr, size_drew] <;> omega) | exact not_noB _)) only [go_sem, ↓reduceIte, n0, reduceCtorEq, n1, n2, n3, n4, n5, i0, i1, i2, i3, i4, i5, i6, i7]
    all_goals rfl
  · rintro ρ w_6 ⟨j, v, hj, hI, hN, hS, hr0, hr3, hbv, hg, hnil, hU_6⟩
    have hz_6 := hU_6.size
    have hJ_6 : Upd (fun b => b = vb) w3 w_6 := hVb0.more hU_6 fun b hb h => h.elim id fun h => absurd h (by omega)
    have hU_16 : Upd (fun b => b = vb) w1 w_6 := hUb0.trans hJ_6
    have hht_6 := hU_16.blk_some htb1 htv
    have hLt_6 := hLa5.keep (hU_6.keeps fun b _ hk e => e.elim (hoS b hk) fun e => by have := hk.2; omega)
    by_cases hlt : j < (t.at 0).l.length
    · obtain ⟨_, b, o, x, vS', vL', vU', hb, hokb, hx, hblt, hxs, hxe, q1, q2, q3, hc⟩ := TreesV.get hLt_6 hlt
      subst hb
      have hbS := (TreeC.inv hc)
      have hcat : (t.at 0).l.take (j + 1) = (t.at 0).l.take j ++ [(t.at 0).l[j]] := List.take_succ_eq_append_getElem hlt
      have hlen_9 : ((t.at 0).l.take j).length = j := by simp; omega
      have hgx := (g0.list rfl).2 _ (List.getElem_mem hlt)
      have hLx := (hLs.at 0).get hlt
      have hnb : ∀ b, b < w3.heap.size ∨ b = w_6.heap.size → ¬ ownB v b := fun b hb h => by
        have := hg.above h
        have := hg.below h
        omega
      generalize (t.at 0).l[j] = y at *
      obtain ⟨vSy, vLy, vUy, hcells, hny, hSy, hLy, hUy⟩ := hbS
      simp only [List.cons.injEq, true_and, and_true] at hcells
      obtain ⟨rfl, rfl, rfl⟩ := hcells
      obtain ⟨bSy, cSy, rfl, hcSy⟩ := hSy.shape
      repeat ((first | refine W.seqR rfl ?_ | refine W.seq ?_ | refine W.regR rfl ?_ | refine W.condK ?_ | refine W.block ?_ | refine W.skip ?_ | refine W.ret ?_ | refine W.exit ?_); try simp (maxSteps := 1000000) (disch := (first | omega | (simp only [World.size_alloc, size_wr, size_drew] <;> omega) | exact not_noB _)) only [go_sem, ↓reduceIte, n0, reduceCtorEq, n1, n2, n3, n4, n5, i0, i1, i2, i3, i4, i5, i6, i7, hI, hN, hS, hx, hxe, q1, q2, q3, cellsAt_five, Int.toNat_natCast])
      generalize hw_7 : (wr (w_6.alloc (.cells #[.int .i64 0, .slice none 0 0, .bool false, .slice none 0 0, .slice none 0 0] 39)) w_6.heap.size 0 [.int .i64 y.n, .slice bSy y.s.length cSy, .bool y.null, vL', vU']) = w_7
      have hE_7 : Ext w_6 w_7 := by rw [← hw_7]; exact (Upd.alloc (Upd.refl _ _) _).wr _ _ (.inl (Nat.le_refl _))
      have hb_7 : blk w_7 w_6.heap.size = some (#[.int .i64 y.n, .slice bSy y.s.length cSy, .bool y.null, vL', vU'], 39, (0, 0)) := by rw [← hw_7]; simp (maxSteps := 1000000) (disch := (first | omega | (simp only [World.size_alloc, size_wr, size_drew] <;> omega) | exact not_noB _)) only [go_sem, ↓reduceIte, n0, reduceCtorEq, n1, n2, n3, n4, n5, i0, i1, i2, i3, i4, i5, i6, i7]
      have hz_7 : w_7.heap.size = w_6.heap.size + 1 := by rw [← hw_7]; simp only [size_wr, World.size_alloc]
      have hbt_7 := hE_7.blk_some hbv id
      have hgv_7 := hE_7.blk_some hht_6 id
      have hc_7 := hc.keep (hE_7.keeps _)
      have hS_7 := hSy.keep (hE_7.keeps _)
      have hg_7 := hg.ext (Rep1_lay _ _ fun _ => RepS_lay true d _) hE_7
      clear hw_7
      refine W.drawR (.take 0 (.take 1 (.take 2 (.take 3 (.take 4 (.take 5 (.take 6 (.only 7 (.only 8 (.only 9 (.take 10 (.take 11 (.last 12))))))))))))) (ownB v) mixed (by kernel_rfl) ?_
      simp (maxSteps := 1000000) (disch := (first | omega | (simp only [World.size_alloc, size_wr, size_drew] <;> omega) | exact not_noB _ | (refine hnb _ ?_; first | omega | (simp only [World.size_alloc, size_wr, size_drew] <;> omega)))) only [go_sem, ↓reduceIte, n0, reduceCtorEq, n1, n2, n3, n4, n5, i0, i1, i2, i3, i4, i5, i6, i7, hr0, hr3, hbt_7, hb_7, hgv_7, cellsAt_five]
      have hE_7d : Ext w_7 w_7.drew := (Upd.refl _ _).drew
      have hg_7d := hg_7.ext (Rep1_lay _ _ fun _ => RepS_lay true d _) hE_7d
      have hzd : w_7.drew.heap.size = w_7.heap.size := size_drew _
      have hbt_7d := hE_7d.blk_some hbt_7 id
      refine wp_string (S := 22) (T := 9) (E := 5) (s := y.s) (ok := (OkS okT w.heap.size)) (by kernel_rfl) (by kernel_rfl) (by kernel_rfl) (by (try simp (maxSteps := 1000000) (disch := (first | omega | (simp only [World.size_alloc, size_wr, size_drew] <;> omega) | exact not_noB _)) only [go_sem, ↓reduceIte, n0, reduceCtorEq, n1, n2, n3, n4, n5, i0, i1, i2, i3, i4, i5, i6, i7]); exact hS_7.keep (hE_7d.keeps _)) ?_
      refine ⟨Upd.refl _ _, ?_⟩
      have hM_9 : Upd (ownB v) w_7.drew (w_7.drew.alloc (.cells #[strV y.s] 9)) := (Upd.refl _ _).alloc _
      simp (maxSteps := 1000000) (disch := (first | omega | (simp only [World.size_alloc, size_wr, size_drew] <;> omega) | exact not_noB _)) only [go_sem, ↓reduceIte, n0, reduceCtorEq, n1, n2, n3, n4, n5, i0, i1, i2, i3, i4, i5, i6, i7, hr0, hr3, hbt_7d]
      refine ⟨hM_9, ?_⟩
      have hE_79 : Ext w_7.drew (w_7.drew.alloc (.cells #[strV y.s] 9)) := Upd.alloc (Upd.refl _ _) _
      have hg_9 := hg_7d.ext (Rep1_lay _ _ fun _ => RepS_lay true d _) hE_79
      have hx_9 : Rep1 (RepS true d) fListTransactionsRequest_0.of fListTransactionsRequest_0.sub (fun b => (OkF okT w.heap.size w1.heap.size) b ∧ b ≠ vb ∧ ¬ ownB v b) (w_7.drew.alloc (.cells #[strV y.s] 9)) y [strV y.s] := Rep1_text.2 rfl
      obtain ⟨css, hown, hall⟩ := hg_9.ex
      have hcl_9 := hall.1
      refine wp_append ap_71_71 (m := 1) (news := [strV y.s]) (n := css.length) (cs := css.flatten) (v := v) ?_ rfl hown.1 (all2_flat_R (Rep1_lay _ _ fun _ => RepS_lay true d _) hall) (Src.blk (fr := (0, 0)) (T := 9) (blk_alloc_new (by first | rfl | omega | (simp only [size_drew]; omega))) rfl rfl) ?_ ?_ ?_
      · simp (maxSteps := 1000000) (disch := (first | omega | (simp only [World.size_alloc, size_wr, size_drew] <;> omega) | exact not_noB _)) only [go_sem, ↓reduceIte, n0, reduceCtorEq, n1, n2, n3, n4, n5, i0, i1, i2, i3, i4, i5, i6, i7]
      · simp only [World.size_alloc, size_drew]; omega
      · omega
      intro v' w_10 ho hu hfr
      have hg_10 := GrowR.snoc (Rep1_lay _ _ fun _ => RepS_lay true d _) hown hall hx_9 hu hfr ho
      have hz_10 := hu.size
      simp only [World.size_alloc, size_drew] at hz_10
      obtain ⟨va, vc, hv', _⟩ := ho.shape
      subst hv'
      have hbt_10 := (hM_9.trans hu).blk_some hbt_7d (hnb _ (.inl hvlB0))
      have htb' : ¬ ownB (.slice va (css.length + 1) vc) vb := fun h => by
        rcases hfr _ h with h | h
        · exact hnb _ (.inl hvlB0) h
        · simp only [World.size_alloc, size_drew] at h; omega
      simp (maxSteps := 1000000) (disch := (first | omega | (simp only [World.size_alloc, size_wr, size_drew] <;> omega) | exact not_noB _)) only [go_sem, ↓reduceIte, n0, reduceCtorEq, n1, n2, n3, n4, n5, i0, i1, i2, i3, i4, i5, i6, i7]
      refine ⟨hM_9.trans hu, ?_⟩
      simp (maxSteps := 1000000) (disch := (first | omega | (simp only [World.size_alloc, size_wr, size_drew] <;> omega) | exact not_noB _)) only [go_sem, ↓reduceIte, n0, reduceCtorEq, n1, n2, n3, n4, n5, i0, i1, i2, i3, i4, i5, i6, i7, hr0, hr3, hbt_10]
      repeat ((first | refine W.seqR rfl ?_ | refine W.seq ?_ | refine W.regR rfl ?_ | refine W.condK ?_ | refine W.block ?_ | refine W.skip ?_ | refine W.ret ?_ | refine W.exit ?_); try simp (maxSteps := 1000000) (disch := (first | omega | (simp only [World.size_alloc, size_wr, size_drew] <;> omega) | exact not_noB _)) only [go_sem, ↓reduceIte, n0, reduceCtorEq, n1, n2, n3, n4, n5, i0, i1, i2, i3, i4, i5, i6, i7, hI])
      refine ⟨⟨j + 1, .slice va (css.length + 1) vc, by omega, rfl, hN, hS, hr0, hr3, ?_, ?_, ?_, ?_⟩, ?_⟩
      · simp (maxSteps := 1000000) (disch := (first | omega | (simp only [World.size_alloc, size_wr, size_drew] <;> omega) | exact not_noB _)) only [go_sem, ↓reduceIte, n0, reduceCtorEq, n1, n2, n3, n4, n5, i0, i1, i2, i3, i4, i5, i6, i7, hbt_10]
      · rw [hcat]; exact hg_10.upd (Rep1_lay _ _ fun _ => RepS_lay true d _) ((Upd.refl _ _).wr _ _ (.inr rfl)) htb'
      · intro h; cases h
      · refine Upd.wr ?_ _ _ (.inr (.inl rfl))
        exact hU_6.more (((hE_7.mono fun _ h => h.elim).trans (hE_7d.mono fun _ h => h.elim)).trans (hM_9.trans hu)) fun b hb h => .inr (hg.above h)
      · simp only [RowKit.intOf]; omega
    · have hjl : j = (t.at 0).l.length := by omega
      subst hjl
      rw [List.take_length] at hg
      repeat ((first | refine W.seqR rfl ?_ | refine W.seq ?_ | refine W.regR rfl ?_ | refine W.condK ?_ | refine W.block ?_ | refine W.skip ?_ | refine W.ret ?_ | refine W.exit ?_); try simp (maxSteps := 1000000) (disch := (first | omega | (simp only [World.size_alloc, size_wr, size_drew] <;> omega) | exact not_noB _)) only [go_sem, ↓reduceIte, n0, reduceCtorEq, n1, n2, n3, n4, n5, i0, i1, i2, i3, i4, i5, i6, i7, hI, hN])
      exact ⟨v, hr0, hr3, hbv, hg, hnil, hU_6⟩
  · rintro ρ w6 ⟨v0, hr0, hr3, hb6, hg6, hnil0, hK6⟩
    have hV6 : Upd (fun b => b = vb) w3 w6 := hVb0.more hK6 fun b hb h => h.elim id fun h => absurd h (by omega)
    have hU6 : Upd (fun b => b = vb) w1 w6 := hU3.trans hV6
    have htb6 := hU6.blk_some htb1 htv
    have hvl6 : vb < w6.heap.size := Nat.lt_of_lt_of_le hvl1 hU6.size
    have hsz6 := hU6.size
    clear hvl5 hsz5
    obtain ⟨al0, kl0, rfl, _⟩ := hg6.shape
    have hf0 : RepF (RepS true d) (szS true d) fListTransactionsRequest_0 (OkF okT w.heap.size w1.heap.size) w6 (t.at 0) [.slice al0 (t.at 0).l.length kl0] := (RepF_list rfl hn0_0).2 ⟨_, rfl, hg6.sl (Rep1_lay _ _ fun _ => RepS_lay true d _) (fun _ _ h => h) (fun b hb => .inr (by omega)), hg6.some hnil0⟩
    have hn0_1 : (t.at 1).null = false := g1.notnull (by decide)
    have hll1 := (g1.list rfl).1
    repeat ((first | refine W.seqR rfl ?_ | refine W.seq ?_ | refine W.regR rfl ?_ | refine W.condK ?_ | refine W.block ?_ | refine W.skip ?_ | refine W.ret ?_ | refine W.exit ?_); try simp (maxSteps := 1000000) (disch := (first | omega | (simp only [World.size_alloc, size_wr, size_drew] <;> omega) | exact not_noB _)) only [go_sem, ↓reduceIte, n0, reduceCtorEq, n1, n2, n3, n4, n5, i0, i1, i2, i3, i4, i5, i6, i7, hb6, htb6, hr0, hr3])
    refine (iat_fn (ok := (OkS okT w.heap.size)) t 1 _ _ (ht1.keep (hU6.keeps fun b _ hk e => hoS b hk e)) (by decide) hllt).mono ?_
    rintro r7 w7 ⟨⟨ca7, rfl, hca7⟩, hEa7⟩
    obtain ⟨vSa7, vLa7, vUa7, rfl, hna7, hSa7, hLa7, hUa7⟩ := hca7.inv
    obtain ⟨bSa7, cSa7, rfl, hcSa7⟩ := hSa7.shape
    obtain ⟨bLa7, cLa7, rfl, hcLa7⟩ := SlR.shape hLa7
    have hfU7 := SlR.flat hUa7
    clear hcSa7 hcLa7 hna7
    have hV7 : Upd (fun b => b = vb) w6 w7 := hEa7.mono fun _ h => h.elim
    have hU7 : Upd (fun b => b = vb) w1 w7 := hU6.trans hV7
    have htb7 := hU7.blk_some htb1 htv
    have hvl7 : vb < w7.heap.size := Nat.lt_of_lt_of_le hvl1 hU7.size
    have hsz7 := hU7.size
    clear hvl6 hsz6
    have hb7 : blk w7 vb = some (#[.int .i16 ver, .slice al0 (t.at 0).l.length kl0, .slice none 0 0, .int .i64 0, .pointer none, .map none], 75, (0, 0)) := hEa7.blk_some hb6 id
    simp (maxSteps := 1000000) (disch := (first | omega | (simp only [World.size_alloc, size_wr, size_drew] <;> omega) | exact not_noB _)) only [go_sem, ↓reduceIte, n0, reduceCtorEq, n1, n2, n3, n4, n5, i0, i1, i2, i3, i4, i5, i6, i7, hn0_1, hb7, htb7, hr0, hr3]
    repeat ((first | refine W.seqR rfl ?_ | refine W.seq ?_ | refine W.regR rfl ?_ | refine W.condK ?_ | refine W.block ?_ | refine W.skip ?_ | refine W.ret ?_ | refine W.exit ?_); try simp (maxSteps := 1000000) (disch := (first | omega | (simp only [World.size_alloc, size_wr, size_drew] <;> omega) | exact not_noB _)) only [go_sem, ↓reduceIte, n0, reduceCtorEq, n1, n2, n3, n4, n5, i0, i1, i2, i3, i4, i5, i6, i7, hb7, htb7, hr0, hr3])
    refine (iat_fn (ok := (OkS okT w.heap.size)) t 1 _ _ (ht1.keep (hU7.keeps fun b _ hk e => hoS b hk e)) (by decide) hllt).mono ?_
    rintro r8 w8 ⟨⟨ca8, rfl, hca8⟩, hEa8⟩
    obtain ⟨vSa8, vLa8, vUa8, rfl, hna8, hSa8, hLa8, hUa8⟩ := hca8.inv
    obtain ⟨bSa8, cSa8, rfl, hcSa8⟩ := hSa8.shape
    obtain ⟨bLa8, cLa8, rfl, hcLa8⟩ := SlR.shape hLa8
    have hfU8 := SlR.flat hUa8
    clear hcSa8 hcLa8 hna8
    have hV8 : Upd (fun b => b = vb) w7 w8 := hEa8.mono fun _ h => h.elim
    have hU8 : Upd (fun b => b = vb) w1 w8 := hU7.trans hV8
    have htb8 := hU8.blk_some htb1 htv
    have hvl8 : vb < w8.heap.size := Nat.lt_of_lt_of_le hvl1 hU8.size
    have hsz8 := hU8.size
    clear hvl7 hsz7
    have hb8 : blk w8 vb = some (#[.int .i16 ver, .slice al0 (t.at 0).l.length kl0, .slice none 0 0, .int .i64 0, .pointer none, .map none], 75, (0, 0)) := hEa8.blk_some hb7 id
    simp (maxSteps := 1000000) (disch := (first | omega | (simp only [World.size_alloc, size_wr, size_drew] <;> omega) | exact not_noB _)) only [go_sem, ↓reduceIte, n0, reduceCtorEq, n1, n2, n3, n4, n5, i0, i1, i2, i3, i4, i5, i6, i7, hb8, htb8, hr0, hr3]
    refine wp_make (T := 72) (E := 2) (size := 1) (bytes := 8) (z := (.int .i64 0)) (l := 0) (c := (t.at 1).l.length) (kl := .i64) (kc := .i64) (by kernel_rfl) (by kernel_rfl) (by simp (maxSteps := 1000000) (disch := (first | omega | (simp only [World.size_alloc, size_wr, size_drew] <;> omega) | exact not_noB _)) only [go_sem, ↓reduceIte, n0, reduceCtorEq, n1, n2, n3, n4, n5, i0, i1, i2, i3, i4, i5, i6, i7]; rfl) (by simp (maxSteps := 1000000) (disch := (first | omega | (simp only [World.size_alloc, size_wr, size_drew] <;> omega) | exact not_noB _)) only [go_sem, ↓reduceIte, n0, reduceCtorEq, n1, n2, n3, n4, n5, i0, i1, i2, i3, i4, i5, i6, i7]) (by omega) (by omega) (by omega) ?_
    simp (maxSteps := 1000000) (disch := (first | omega | (simp only [World.size_alloc, size_wr, size_drew] <;> omega) | exact not_noB _)) only [go_sem, ↓reduceIte, n0, reduceCtorEq, n1, n2, n3, n4, n5, i0, i1, i2, i3, i4, i5, i6, i7, hb8, hvl8, htb8, hr0, hr3]
    have hszB1 := hsz8
    generalize hw9 : wr (w8.alloc (.cells (madeCells #[.int .i64 0] ((t.at 1).l.length * 1)) 2)) vb 2 [.slice (some ⟨w8.heap.size, 0, none⟩) 0 (t.at 1).l.length] = w9
    have hV9 : Upd (fun b => b = vb) w8 w9 := by rw [← hw9]; exact ((Upd.refl _ _).alloc _).wr _ _ (.inr rfl)
    have hb9 : blk w9 vb = some (#[.int .i16 ver, .slice al0 (t.at 0).l.length kl0, .slice (some ⟨w8.heap.size, 0, none⟩) 0 (t.at 1).l.length, .int .i64 0, .pointer none, .map none], 75, (0, 0)) := by rw [← hw9, blk_wr_eq, blk_alloc_old hvl8, hb8]; rfl
    have hrow9 : blk w9 w8.heap.size = some (madeCells #[.int .i64 0] ((t.at 1).l.length * 1), 2, (0, 0)) := by rw [← hw9, blk_wr_ne (Nat.ne_of_gt hvl8), blk_alloc_new rfl]
    have hg9 : GrowR (Rep1 (RepS true d) fListTransactionsRequest_1.of fListTransactionsRequest_1.sub) 1 (OkF okT w.heap.size w1.heap.size) w8.heap.size vb w9 2 (.slice (some ⟨w8.heap.size, 0, none⟩) 0 (t.at 1).l.length) [] := GrowR.made hrow9 (size_madeCells _ _) (Nat.le_refl _)
    have hU9 : Upd (fun b => b = vb) w1 w9 := hU8.trans hV9
    have htb9 := hU9.blk_some htb1 htv
    have hvl9 : vb < w9.heap.size := Nat.lt_of_lt_of_le hvl1 hU9.size
    have hsz9 := hU9.size
    clear hvl8 hsz8
    clear hw9 hrow9
    repeat ((first | refine W.seqR rfl ?_ | refine W.seq ?_ | refine W.regR rfl ?_ | refine W.condK ?_ | refine W.block ?_ | refine W.skip ?_ | refine W.ret ?_ | refine W.exit ?_); try simp (maxSteps := 1000000) (disch := (first | omega | (simp only [World.size_alloc, size_wr, size_drew] <;> omega) | exact not_noB _)) only [go_sem, ↓reduceIte, n0, reduceCtorEq, n1, n2, n3, n4, n5, i0, i1, i2, i3, i4, i5, i6, i7, hb9, htb9, hr0, hr3])
    refine (iat_fn (ok := (OkS okT w.heap.size)) t 1 _ _ (ht1.keep (hU9.keeps fun b _ hk e => hoS b hk e)) (by decide) hllt).mono ?_
    rintro r10 w10 ⟨⟨ca10, rfl, hca10⟩, hEa10⟩
    obtain ⟨vSa10, vLa10, vUa10, rfl, hna10, hSa10, hLa10, hUa10⟩ := hca10.inv
    obtain ⟨bSa10, cSa10, rfl, hcSa10⟩ := hSa10.shape
    obtain ⟨bLa10, cLa10, rfl, hcLa10⟩ := SlR.shape hLa10
    have hfU10 := SlR.flat hUa10
    clear hcSa10 hcLa10 hna10
    have hV10 : Upd (fun b => b = vb) w9 w10 := hEa10.mono fun _ h => h.elim
    have hU10 : Upd (fun b => b = vb) w1 w10 := hU9.trans hV10
    have htb10 := hU10.blk_some htb1 htv
    have hvl10 : vb < w10.heap.size := Nat.lt_of_lt_of_le hvl1 hU10.size
    have hsz10 := hU10.size
    clear hvl9 hsz9
    have hb10 : blk w10 vb = some (#[.int .i16 ver, .slice al0 (t.at 0).l.length kl0, .slice (some ⟨w8.heap.size, 0, none⟩) 0 (t.at 1).l.length, .int .i64 0, .pointer none, .map none], 75, (0, 0)) := hEa10.blk_some hb9 id
    have hg10 := hg9.ext (Rep1_lay _ _ fun _ => RepS_lay true d _) hEa10
    simp (maxSteps := 1000000) (disch := (first | omega | (simp only [World.size_alloc, size_wr, size_drew] <;> omega) | exact not_noB _)) only [go_sem, ↓reduceIte, n0, reduceCtorEq, n1, n2, n3, n4, n5, i0, i1, i2, i3, i4, i5, i6, i7, hb10, htb10, hr0, hr3]
    repeat ((first | refine W.seqR rfl ?_ | refine W.seq ?_ | refine W.regR rfl ?_ | refine W.condK ?_ | refine W.block ?_ | refine W.skip ?_ | refine W.ret ?_ | refine W.exit ?_); try simp (maxSteps := 1000000) (disch := (first | omega | (simp only [World.size_alloc, size_wr, size_drew] <;> omega) | exact not_noB _)) only [go_sem, ↓reduceIte, n0, reduceCtorEq, n1, n2, n3, n4, n5, i0, i1, i2, i3, i4, i5, i6, i7, hb10, htb10, hr0, hr3])
    have hVb1 : Upd (fun b => b = vb) w8 w10 := hV9.trans hV10
    have hUb1 := hU8
    have hvlB1 : vb < w8.heap.size := Nat.lt_of_lt_of_le hvl1 hszB1
    have hszL1 : w8.heap.size ≤ w10.heap.size := hVb1.size
    refine W.exitJ 2 (fun ρ w' => ∃ v, ρ 0 = .pointer (some ⟨vb, 0, none⟩) ∧ ρ 3 = .pointer (some ⟨w.heap.size, 0, none⟩) ∧ blk w' vb = some (#[.int .i16 ver, .slice al0 (t.at 0).l.length kl0, v, .int .i64 0, .pointer none, .map none], 75, (0, 0)) ∧ GrowR (Rep1 (RepS true d) fListTransactionsRequest_1.of fListTransactionsRequest_1.sub) 1 (OkF okT w.heap.size w1.heap.size) w8.heap.size vb w' 2 v (t.at 1).l ∧ v ≠ .slice none 0 0 ∧ Upd (fun b => b = vb ∨ w8.heap.size ≤ b) w10 w')
      (W.loop (fun ρ w' => ∃ (j : Nat) (v : Value), j ≤ (t.at 1).l.length ∧ ρ 59 = .int .i64 j ∧ ρ 58 = .int .i64 (t.at 1).l.length ∧ ρ 57 = .slice bLa10 (t.at 1).l.length cLa10 ∧ ρ 0 = .pointer (some ⟨vb, 0, none⟩) ∧ ρ 3 = .pointer (some ⟨w.heap.size, 0, none⟩) ∧ blk w' vb = some (#[.int .i16 ver, .slice al0 (t.at 0).l.length kl0, v, .int .i64 0, .pointer none, .map none], 75, (0, 0)) ∧ GrowR (Rep1 (RepS true d) fListTransactionsRequest_1.of fListTransactionsRequest_1.sub) 1 (OkF okT w.heap.size w1.heap.size) w8.heap.size vb w' 2 v ((t.at 1).l.take j) ∧ v ≠ .slice none 0 0 ∧ Upd (fun b => b = vb ∨ w8.heap.size ≤ b) w10 w')
        (fun ρ _ => (t.at 1).l.length - (RowKit.intOf (ρ 59)).toNat) ?_ ?_) ?_
    · refine ⟨0, _, Nat.zero_le _, ?_, ?_, ?_, ?_, ?_, hb10, hg10, (by intro h; cases h), Upd.refl _ _⟩ <;> simp (maxSteps := 1000000) (disch := (first | omega | (simp only [World.size_alloc, size_wr, size_drew] <;> omega) | exact not_noB _)) only [go_sem, ↓reduceIte, n0, reduceCtorEq, n1, n2, n3, n4, n5, i0, i1, i2, i3, i4, i5, i6, i7, hr0, hr3]
      all_goals rfl
    · rintro ρ w_6 ⟨j, v, hj, hI, hN, hS, hr0, hr3, hbv, hg, hnil, hU_6⟩
      have hz_6 := hU_6.size
      have hJ_6 : Upd (fun b => b = vb) w8 w_6 := hVb1.more hU_6 fun b hb h => h.elim id fun h => absurd h (by omega)
      have hU_16 : Upd (fun b => b = vb) w1 w_6 := hUb1.trans hJ_6
      have hht_6 := hU_16.blk_some htb1 htv
      have hLt_6 := hLa10.keep (hU_6.keeps fun b _ hk e => e.elim (hoS b hk) fun e => by have := hk.2; omega)
      by_cases hlt : j < (t.at 1).l.length
      · obtain ⟨_, b, o, x, vS', vL', vU', hb, hokb, hx, hblt, hxs, hxe, q1, q2, q3, hc⟩ := TreesV.get hLt_6 hlt
        subst hb
        have hbS := (TreeC.inv hc)
        have hcat : (t.at 1).l.take (j + 1) = (t.at 1).l.take j ++ [(t.at 1).l[j]] := List.take_succ_eq_append_getElem hlt
        have hlen_9 : ((t.at 1).l.take j).length = j := by simp; omega
        have hgx := (g1.list rfl).2 _ (List.getElem_mem hlt)
        have hLx := (hLs.at 1).get hlt
        have hnb : ∀ b, b < w8.heap.size ∨ b = w_6.heap.size → ¬ ownB v b := fun b hb h => by
          have := hg.above h
          have := hg.below h
          omega
        generalize (t.at 1).l[j] = y at *
        obtain ⟨vSy, vLy, vUy, hcells, hny, hSy, hLy, hUy⟩ := hbS
        simp only [List.cons.injEq, true_and, and_true] at hcells
        obtain ⟨rfl, rfl, rfl⟩ := hcells
        obtain ⟨bSy, cSy, rfl, hcSy⟩ := hSy.shape
        repeat ((first | refine W.seqR rfl ?_ | refine W.seq ?_ | refine W.regR rfl ?_ | refine W.condK ?_ | refine W.block ?_ | refine W.skip ?_ | refine W.ret ?_ | refine W.exit ?_); try simp (maxSteps := 1000000) (disch := (first | omega | (simp only [World.size_alloc, size_wr, size_drew] <;> omega) | exact not_noB _)) only [go_sem, ↓reduceIte, n0, reduceCtorEq, n1, n2, n3, n4, n5, i0, i1, i2, i3, i4, i5, i6, i7, hI, hN, hS, hx, hxe, q1, q2, q3, cellsAt_five, Int.toNat_natCast])
        generalize hw_7 : (wr (w_6.alloc (.cells #[.int .i64 0, .slice none 0 0, .bool false, .slice none 0 0, .slice none 0 0] 39)) w_6.heap.size 0 [.int .i64 y.n, .slice bSy y.s.length cSy, .bool y.null, vL', vU']) = w_7
        have hE_7 : Ext w_6 w_7 := by rw [← hw_7]; exact (Upd.alloc (Upd.refl _ _) _).wr _ _ (.inl (Nat.le_refl _))
        have hb_7 : blk w_7 w_6.heap.size = some (#[.int .i64 y.n, .slice bSy y.s.length cSy, .bool y.null, vL', vU'], 39, (0, 0)) := by rw [← hw_7]; simp (maxSteps := 1000000) (disch := (first | omega | (simp only [World.size_alloc, size_wr, size_drew] <;> omega) | exact not_noB _)) only [go_sem, ↓reduceIte, n0, reduceCtorEq, n1, n2, n3, n4, n5, i0, i1, i2, i3, i4, i5, i6, i7]
        have hz_7 : w_7.heap.size = w_6.heap.size + 1 := by rw [← hw_7]; simp only [size_wr, World.size_alloc]
        have hbt_7 := hE_7.blk_some hbv id
        have hgv_7 := hE_7.blk_some hht_6 id
        have hc_7 := hc.keep (hE_7.keeps _)
        have hS_7 := hSy.keep (hE_7.keeps _)
        have hg_7 := hg.ext (Rep1_lay _ _ fun _ => RepS_lay true d _) hE_7
        clear hw_7
        refine W.drawR (.take 0 (.take 1 (.take 2 (.take 3 (.take 4 (.take 5 (.take 6 (.only 7 (.only 8 (.take 9 (.take 10 (.last 11)))))))))))) (ownB v) mixed (by kernel_rfl) ?_
        simp (maxSteps := 1000000) (disch := (first | omega | (simp only [World.size_alloc, size_wr, size_drew] <;> omega) | exact not_noB _ | (refine hnb _ ?_; first | omega | (simp only [World.size_alloc, size_wr, size_drew] <;> omega)))) only [go_sem, ↓reduceIte, n0, reduceCtorEq, n1, n2, n3, n4, n5, i0, i1, i2, i3, i4, i5, i6, i7, hr0, hr3, hbt_7, hb_7, hgv_7, cellsAt_five]
        have hE_7d : Ext w_7 w_7.drew := (Upd.refl _ _).drew
        have hg_7d := hg_7.ext (Rep1_lay _ _ fun _ => RepS_lay true d _) hE_7d
        have hzd : w_7.drew.heap.size = w_7.heap.size := size_drew _
        have hbt_7d := hE_7d.blk_some hbt_7 id
        have hM_9 : Upd (ownB v) w_7.drew (w_7.drew.alloc (.cells #[.int .i64 y.n] 2)) := (Upd.refl _ _).alloc _
        refine ⟨hM_9, ?_⟩
        have hE_79 : Ext w_7.drew (w_7.drew.alloc (.cells #[.int .i64 y.n] 2)) := Upd.alloc (Upd.refl _ _) _
        have hg_9 := hg_7d.ext (Rep1_lay _ _ fun _ => RepS_lay true d _) hE_79
        have hx_9 : Rep1 (RepS true d) fListTransactionsRequest_1.of fListTransactionsRequest_1.sub (fun b => (OkF okT w.heap.size w1.heap.size) b ∧ b ≠ vb ∧ ¬ ownB v b) (w_7.drew.alloc (.cells #[.int .i64 y.n] 2)) y [.int .i64 y.n] := (Rep1_num (by decide)).2 rfl
        obtain ⟨css, hown, hall⟩ := hg_9.ex
        have hcl_9 := hall.1
        refine wp_append ap_72_72 (m := 1) (news := [.int .i64 y.n]) (n := css.length) (cs := css.flatten) (v := v) ?_ rfl hown.1 (all2_flat_R (Rep1_lay _ _ fun _ => RepS_lay true d _) hall) (Src.blk (fr := (0, 0)) (T := 2) (blk_alloc_new (by first | rfl | omega | (simp only [size_drew]; omega))) rfl rfl) ?_ ?_ ?_
        · simp (maxSteps := 1000000) (disch := (first | omega | (simp only [World.size_alloc, size_wr, size_drew] <;> omega) | exact not_noB _)) only [go_sem, ↓reduceIte, n0, reduceCtorEq, n1, n2, n3, n4, n5, i0, i1, i2, i3, i4, i5, i6, i7]
        · simp only [World.size_alloc, size_drew]; omega
        · omega
        intro v' w_10 ho hu hfr
        have hg_10 := GrowR.snoc (Rep1_lay _ _ fun _ => RepS_lay true d _) hown hall hx_9 hu hfr ho
        have hz_10 := hu.size
        simp only [World.size_alloc, size_drew] at hz_10
        obtain ⟨va, vc, hv', _⟩ := ho.shape
        subst hv'
        have hbt_10 := (hM_9.trans hu).blk_some hbt_7d (hnb _ (.inl hvlB1))
        have htb' : ¬ ownB (.slice va (css.length + 1) vc) vb := fun h => by
          rcases hfr _ h with h | h
          · exact hnb _ (.inl hvlB1) h
          · simp only [World.size_alloc, size_drew] at h; omega
        simp (maxSteps := 1000000) (disch := (first | omega | (simp only [World.size_alloc, size_wr, size_drew] <;> omega) | exact not_noB _)) only [go_sem, ↓reduceIte, n0, reduceCtorEq, n1, n2, n3, n4, n5, i0, i1, i2, i3, i4, i5, i6, i7]
        refine ⟨hM_9.trans hu, ?_⟩
        simp (maxSteps := 1000000) (disch := (first | omega | (simp only [World.size_alloc, size_wr, size_drew] <;> omega) | exact not_noB _)) only [go_sem, ↓reduceIte, n0, reduceCtorEq, n1, n2, n3, n4, n5, i0, i1, i2, i3, i4, i5, i6, i7, hr0, hr3, hbt_10]
        repeat ((first | refine W.seqR rfl ?_ | refine W.seq ?_ | refine W.regR rfl ?_ | refine W.condK ?_ | refine W.block ?_ | refine W.skip ?_ | refine W.ret ?_ | refine W.exit ?_); try simp (maxSteps := 1000000) (disch := (first | omega | (simp only [World.size_alloc, size_wr, size_drew] <;> omega) | exact not_noB _)) only [go_sem, ↓reduceIte, n0, reduceCtorEq, n1, n2, n3, n4, n5, i0, i1, i2, i3, i4, i5, i6, i7, hI])
        refine ⟨⟨j + 1, .slice va (css.length + 1) vc, by omega, rfl, hN, hS, hr0, hr3, ?_, ?_, ?_, ?_⟩, ?_⟩
        · simp (maxSteps := 1000000) (disch := (first | omega | (simp only [World.size_alloc, size_wr, size_drew] <;> omega) | exact not_noB _)) only [go_sem, ↓reduceIte, n0, reduceCtorEq, n1, n2, n3, n4, n5, i0, i1, i2, i3, i4, i5, i6, i7, hbt_10]
        · rw [hcat]; exact hg_10.upd (Rep1_lay _ _ fun _ => RepS_lay true d _) ((Upd.refl _ _).wr _ _ (.inr rfl)) htb'
        · intro h; cases h
        · refine Upd.wr ?_ _ _ (.inr (.inl rfl))
          exact hU_6.more (((hE_7.mono fun _ h => h.elim).trans (hE_7d.mono fun _ h => h.elim)).trans (hM_9.trans hu)) fun b hb h => .inr (hg.above h)
        · simp only [RowKit.intOf]; omega
      · have hjl : j = (t.at 1).l.length := by omega
        subst hjl
        rw [List.take_length] at hg
        repeat ((first | refine W.seqR rfl ?_ | refine W.seq ?_ | refine W.regR rfl ?_ | refine W.condK ?_ | refine W.block ?_ | refine W.skip ?_ | refine W.ret ?_ | refine W.exit ?_); try simp (maxSteps := 1000000) (disch := (first | omega | (simp only [World.size_alloc, size_wr, size_drew] <;> omega) | exact not_noB _)) only [go_sem, ↓reduceIte, n0, reduceCtorEq, n1, n2, n3, n4, n5, i0, i1, i2, i3, i4, i5, i6, i7, hI, hN])
        exact ⟨v, hr0, hr3, hbv, hg, hnil, hU_6⟩
    · rintro ρ w11 ⟨v1, hr0, hr3, hb11, hg11, hnil1, hK11⟩
      have hV11 : Upd (fun b => b = vb) w8 w11 := hVb1.more hK11 fun b hb h => h.elim id fun h => absurd h (by omega)
      have hU11 : Upd (fun b => b = vb) w1 w11 := hU8.trans hV11
      have htb11 := hU11.blk_some htb1 htv
      have hvl11 : vb < w11.heap.size := Nat.lt_of_lt_of_le hvl1 hU11.size
      have hsz11 := hU11.size
      clear hvl10 hsz10
      obtain ⟨al1, kl1, rfl, _⟩ := hg11.shape
      have hf1 : RepF (RepS true d) (szS true d) fListTransactionsRequest_1 (OkF okT w.heap.size w1.heap.size) w11 (t.at 1) [.slice al1 (t.at 1).l.length kl1] := (RepF_list rfl hn0_1).2 ⟨_, rfl, hg11.sl (Rep1_lay _ _ fun _ => RepS_lay true d _) (fun _ _ h => h) (fun b hb => .inr (by omega)), hg11.some hnil1⟩
      repeat ((first | refine W.seqR rfl ?_ | refine W.seq ?_ | refine W.regR rfl ?_ | refine W.condK ?_ | refine W.block ?_ | refine W.skip ?_ | refine W.ret ?_ | refine W.exit ?_); try simp (maxSteps := 1000000) (disch := (first | omega | (simp only [World.size_alloc, size_wr, size_drew] <;> omega) | exact not_noB _)) only [go_sem, ↓reduceIte, n0, reduceCtorEq, n1, n2, n3, n4, n5, i0, i1, i2, i3, i4, i5, i6, i7, hb11, htb11, hr0, hr3])
      refine (iat_fn (ok := (OkS okT w.heap.size)) t 2 _ _ (ht1.keep (hU11.keeps fun b _ hk e => hoS b hk e)) (by decide) hllt).mono ?_
      rintro r12 w12 ⟨⟨ca12, rfl, hca12⟩, hEa12⟩
      obtain ⟨vSa12, vLa12, vUa12, rfl, hna12, hSa12, hLa12, hUa12⟩ := hca12.inv
      obtain ⟨bSa12, cSa12, rfl, hcSa12⟩ := hSa12.shape
      obtain ⟨bLa12, cLa12, rfl, hcLa12⟩ := SlR.shape hLa12
      have hfU12 := SlR.flat hUa12
      clear hcSa12 hcLa12 hna12
      have hV12 : Upd (fun b => b = vb) w11 w12 := hEa12.mono fun _ h => h.elim
      have hU12 : Upd (fun b => b = vb) w1 w12 := hU11.trans hV12
      have htb12 := hU12.blk_some htb1 htv
      have hvl12 : vb < w12.heap.size := Nat.lt_of_lt_of_le hvl1 hU12.size
      have hsz12 := hU12.size
      clear hvl11 hsz11
      have hb12 : blk w12 vb = some (#[.int .i16 ver, .slice al0 (t.at 0).l.length kl0, .slice al1 (t.at 1).l.length kl1, .int .i64 0, .pointer none, .map none], 75, (0, 0)) := hEa12.blk_some hb11 id
      simp (maxSteps := 1000000) (disch := (first | omega | (simp only [World.size_alloc, size_wr, size_drew] <;> omega) | exact not_noB _)) only [go_sem, ↓reduceIte, n0, reduceCtorEq, n1, n2, n3, n4, n5, i0, i1, i2, i3, i4, i5, i6, i7, hb12, htb12, hr0, hr3]
      generalize hw13 : wr w12 vb 3 [.int .i64 (t.at 2).n] = w13
      have hV13 : Upd (fun b => b = vb) w12 w13 := by rw [← hw13]; exact (Upd.refl _ _).wr _ _ (.inr rfl)
      have hb13 : blk w13 vb = some (#[.int .i16 ver, .slice al0 (t.at 0).l.length kl0, .slice al1 (t.at 1).l.length kl1, .int .i64 (t.at 2).n, .pointer none, .map none], 75, (0, 0)) := by rw [← hw13, blk_wr_eq, hb12]; rfl
      have hU13 : Upd (fun b => b = vb) w1 w13 := hU12.trans hV13
      have htb13 := hU13.blk_some htb1 htv
      have hvl13 : vb < w13.heap.size := Nat.lt_of_lt_of_le hvl1 hU13.size
      have hsz13 := hU13.size
      clear hvl12 hsz12
      clear hw13
      have hf2 : RepF (RepS true d) (szS true d) fListTransactionsRequest_2 (OkF okT w.heap.size w1.heap.size) w13 (t.at 2) [.int .i64 (t.at 2).n] := (RepF_num (by decide)).2 rfl
      repeat ((first | refine W.seqR rfl ?_ | refine W.seq ?_ | refine W.regR rfl ?_ | refine W.condK ?_ | refine W.block ?_ | refine W.skip ?_ | refine W.ret ?_ | refine W.exit ?_); try simp (maxSteps := 1000000) (disch := (first | omega | (simp only [World.size_alloc, size_wr, size_drew] <;> omega) | exact not_noB _)) only [go_sem, ↓reduceIte, n0, reduceCtorEq, n1, n2, n3, n4, n5, i0, i1, i2, i3, i4, i5, i6, i7, hb13, htb13, hr0, hr3])
      refine (iat_fn (ok := (OkS okT w.heap.size)) t 3 _ _ (ht1.keep (hU13.keeps fun b _ hk e => hoS b hk e)) (by decide) hllt).mono ?_
      rintro r14 w14 ⟨⟨ca14, rfl, hca14⟩, hEa14⟩
      obtain ⟨vSa14, vLa14, vUa14, rfl, hna14, hSa14, hLa14, hUa14⟩ := hca14.inv
      obtain ⟨bSa14, cSa14, rfl, hcSa14⟩ := hSa14.shape
      obtain ⟨bLa14, cLa14, rfl, hcLa14⟩ := SlR.shape hLa14
      have hfU14 := SlR.flat hUa14
      clear hcSa14 hcLa14 hna14
      have hV14 : Upd (fun b => b = vb) w13 w14 := hEa14.mono fun _ h => h.elim
      have hU14 : Upd (fun b => b = vb) w1 w14 := hU13.trans hV14
      have htb14 := hU14.blk_some htb1 htv
      have hvl14 : vb < w14.heap.size := Nat.lt_of_lt_of_le hvl1 hU14.size
      have hsz14 := hU14.size
      clear hvl13 hsz13
      have hb14 : blk w14 vb = some (#[.int .i16 ver, .slice al0 (t.at 0).l.length kl0, .slice al1 (t.at 1).l.length kl1, .int .i64 (t.at 2).n, .pointer none, .map none], 75, (0, 0)) := hEa14.blk_some hb13 id
      simp (maxSteps := 1000000) (disch := (first | omega | (simp only [World.size_alloc, size_wr, size_drew] <;> omega) | exact not_noB _)) only [go_sem, ↓reduceIte, n0, reduceCtorEq, n1, n2, n3, n4, n5, i0, i1, i2, i3, i4, i5, i6, i7, hb14, htb14, hr0, hr3]
      refine (textOf_fn (okT := (OkS okT w.heap.size)) (t.at 3) _ _ hca14).mono ?_
      rintro r15 w15 ⟨hp15, hEa15⟩
      have hsp15 := hsz14
      have hV15 : Upd (fun b => b = vb) w14 w15 := hEa15.mono fun _ h => h.elim
      have hU15 : Upd (fun b => b = vb) w1 w15 := hU14.trans hV15
      have htb15 := hU15.blk_some htb1 htv
      have hvl15 : vb < w15.heap.size := Nat.lt_of_lt_of_le hvl1 hU15.size
      have hsz15 := hU15.size
      clear hvl14 hsz14
      have hb15 : blk w15 vb = some (#[.int .i16 ver, .slice al0 (t.at 0).l.length kl0, .slice al1 (t.at 1).l.length kl1, .int .i64 (t.at 2).n, .pointer none, .map none], 75, (0, 0)) := hEa15.blk_some hb14 id
      obtain ⟨ap3, rfl⟩ := hp15.shape
      simp (maxSteps := 1000000) (disch := (first | omega | (simp only [World.size_alloc, size_wr, size_drew] <;> omega) | exact not_noB _)) only [go_sem, ↓reduceIte, n0, reduceCtorEq, n1, n2, n3, n4, n5, i0, i1, i2, i3, i4, i5, i6, i7, hb15, htb15, hr0, hr3]
      generalize hw16 : wr w15 vb 4 [.pointer ap3] = w16
      have hV16 : Upd (fun b => b = vb) w15 w16 := by rw [← hw16]; exact (Upd.refl _ _).wr _ _ (.inr rfl)
      have hb16 : blk w16 vb = some (#[.int .i16 ver, .slice al0 (t.at 0).l.length kl0, .slice al1 (t.at 1).l.length kl1, .int .i64 (t.at 2).n, .pointer ap3, .map none], 75, (0, 0)) := by rw [← hw16, blk_wr_eq, hb15]; rfl
      have hU16 : Upd (fun b => b = vb) w1 w16 := hU15.trans hV16
      have htb16 := hU16.blk_some htb1 htv
      have hvl16 : vb < w16.heap.size := Nat.lt_of_lt_of_le hvl1 hU16.size
      have hsz16 := hU16.size
      clear hvl15 hsz15
      clear hw16
      have hf3 : RepF (RepS true d) (szS true d) fListTransactionsRequest_3 (OkF okT w.heap.size w1.heap.size) w16 (t.at 3) [.pointer ap3] := (RepF_ptr rfl (by decide)).2 ⟨_, rfl, (hp15.weaken fun b _ hk => .inr (Nat.le_trans hsp15 hk)).keep (hV16.keeps fun b _ hk e => hoF b hk e)⟩
      repeat ((first | refine W.seqR rfl ?_ | refine W.seq ?_ | refine W.regR rfl ?_ | refine W.condK ?_ | refine W.block ?_ | refine W.skip ?_ | refine W.ret ?_ | refine W.exit ?_); try simp (maxSteps := 1000000) (disch := (first | omega | (simp only [World.size_alloc, size_wr, size_drew] <;> omega) | exact not_noB _)) only [go_sem, ↓reduceIte, n0, reduceCtorEq, n1, n2, n3, n4, n5, i0, i1, i2, i3, i4, i5, i6, i7, hb16, htb16, hr0, hr3])
      have hUv := hU1v.keep (hU16.keeps fun b _ hk e => hoS b hk e)
      refine W.loop (fun ρ w' => ∃ (j : Nat) (q : Option Nat), j ≤ t.u.length ∧ ρ 90 = .int .i64 j ∧ ρ 89 = .int .i64 t.u.length ∧ ρ 88 = .slice bU t.u.length cU ∧ ρ 0 = .pointer (some ⟨vb, 0, none⟩) ∧ ρ 3 = .pointer (some ⟨w.heap.size, 0, none⟩) ∧ blk w' vb = some (#[.int .i16 ver, .slice al0 (t.at 0).l.length kl0, .slice al1 (t.at 1).l.length kl1, .int .i64 (t.at 2).n, .pointer ap3, .map q], 75, (0, 0)) ∧ TagsG (OkS okT w.heap.size) w16.heap.size w' (.map q) (t.u.take j) ∧ Upd (fun b => b = vb) w16 w')
          (fun ρ _ => t.u.length - (RowKit.intOf (ρ 90)).toNat) ?_ ?_
      · refine ⟨0, none, Nat.zero_le _, ?_, ?_, ?_, ?_, ?_, hb16, TagsG.start _ _ _, Upd.refl _ _⟩ <;> simp (maxSteps := 1000000) (disch := (first | omega | (simp only [World.size_alloc, size_wr, size_drew] <;> omega) | exact not_noB _)) only [go_sem, ↓reduceIte, n0, reduceCtorEq, n1, n2, n3, n4, n5, i0, i1, i2, i3, i4, i5, i6, i7, hr0, hr3]
        all_goals rfl
      · rintro ρ w_6 ⟨j, q, hj, hI, hN, hS, hr0, hr3, hbv, hG, hU_6⟩
        have hz_6 := hU_6.size
        have hUv_6 := hUv.keep (hU_6.keeps fun b _ hk e => hoS b hk e)
        have hU_16 : Upd (fun b => b = vb) w1 w_6 := hU16.trans hU_6
        have hz_16 := hU_16.size
        by_cases hlt : j < t.u.length
        · obtain ⟨_, b, o, x, vv, hb, hokb, hx, hblt, hxs, hxe, _, _, hfv, hbvv, h32⟩ := TagsV.get hUv_6 hlt
          subst hb
          have hcat : t.u.take (j + 1) = t.u.take j ++ [t.u[j]] := List.take_succ_eq_append_getElem hlt
          have hnew : ∀ z ∈ t.u.take j, z.1 ≠ t.u[j].1 := by
            intro z hz
            obtain ⟨k, hk, rfl⟩ := List.getElem_of_mem hz
            simp only [List.length_take] at hk
            have := List.pairwise_iff_getElem.1 hfu.2.2 k j (by omega) hlt (by omega)
            rw [List.getElem_take]; omega
          generalize t.u[j] = y at *
          obtain ⟨bSy, cSy, rfl, hcSy⟩ := hbvv.shape
          repeat ((first | refine W.seqR rfl ?_ | refine W.seq ?_ | refine W.regR rfl ?_ | refine W.condK ?_ | refine W.block ?_ | refine W.skip ?_ | refine W.ret ?_ | refine W.exit ?_); try simp (maxSteps := 1000000) (disch := (first | omega | (simp only [World.size_alloc, size_wr, size_drew] <;> omega) | exact not_noB _)) only [go_sem, ↓reduceIte, n0, reduceCtorEq, n1, n2, n3, n4, n5, i0, i1, i2, i3, i4, i5, i6, i7, hI, hN, hS, hx, hxe, hfv, cellsAt_two, Int.toNat_natCast])
          generalize hw_7 : (wr (w_6.alloc (.cells #[.int .u32 0, .slice none 0 0] 64)) w_6.heap.size 0 [.int .u32 y.1, .slice bSy y.2.length cSy]) = w_7
          have hE_7 : Ext w_6 w_7 := by rw [← hw_7]; exact (Upd.alloc (Upd.refl _ _) _).wr _ _ (.inl (Nat.le_refl _))
          have hb_7 : blk w_7 w_6.heap.size = some (#[.int .u32 y.1, .slice bSy y.2.length cSy], 64, (0, 0)) := by rw [← hw_7]; simp (maxSteps := 1000000) (disch := (first | omega | (simp only [World.size_alloc, size_wr, size_drew] <;> omega) | exact not_noB _)) only [go_sem, ↓reduceIte, n0, reduceCtorEq, n1, n2, n3, n4, n5, i0, i1, i2, i3, i4, i5, i6, i7]
          have hz_7 : w_7.heap.size = w_6.heap.size + 1 := by rw [← hw_7]; simp only [size_wr, World.size_alloc]
          clear hw_7
          have hbt_7 := hE_7.blk_some hbv id
          have hnb : ∀ b, b = w_6.heap.size → ¬ (b = vb ∨ Value.map q = .map (some b)) := fun b hb h => by
            rcases h with h | h
            · omega
            · cases h; have := (hG.lt rfl).1; omega
          refine W.drawR (.take 0 (.take 1 (.take 2 (.take 3 (.take 4 (.take 5 (.take 6 (.only 7 .done)))))))) (fun b => b = vb ∨ Value.map q = .map (some b)) mixed (by kernel_rfl) ?_
          simp (maxSteps := 1000000) (disch := (first | omega | (simp only [World.size_alloc, size_wr, size_drew] <;> omega) | exact not_noB _ | (refine hnb _ ?_; first | omega | (simp only [World.size_alloc, size_wr, size_drew] <;> omega)))) only [go_sem, ↓reduceIte, n0, reduceCtorEq, n1, n2, n3, n4, n5, i0, i1, i2, i3, i4, i5, i6, i7, hr0, hr3, hbt_7, hb_7, cellsAt_two]
          have hE_7d : Ext w_7 w_7.drew := (Upd.refl _ _).drew
          have hE_6d : Ext w_6 w_7.drew := hE_7.trans hE_7d
          have hG_7 : TagsG (OkS okT w.heap.size) w16.heap.size w_7.drew (.map q) (t.u.take j) := hG.keep fun b hb _ => hE_6d.keep b hb id
          have hbt_8 := hE_7d.blk_some hbt_7 id
          have hm_8 : (#[.int .i16 ver, .slice al0 (t.at 0).l.length kl0, .slice al1 (t.at 1).l.length kl1, .int .i64 (t.at 2).n, .pointer ap3, .map q] : Array Value)[5]? = some (.map q) := rfl
          refine (TagsSet_fn (okT := (OkS okT w.heap.size)) (L := w16.heap.size) w_7.drew hG_7 (by have := hE_6d.size; omega) (by omega) hbt_8 (o := 5) hm_8 (thaw_00 _ _) y _ ((hbvv.weaken fun b _ hk => ⟨hk, by have := hk.2; omega⟩).keep (hE_6d.keeps _)) h32 hnew hoS).mono ?_
          rintro _ w_8 ⟨m', hb_8, hG_8, hM_8⟩
          simp only [List.setIfInBounds_toArray, List.set_cons_succ, List.set_cons_zero] at hb_8
          refine ⟨hM_8, ?_⟩
          repeat ((first | refine W.seqR rfl ?_ | refine W.seq ?_ | refine W.regR rfl ?_ | refine W.condK ?_ | refine W.block ?_ | refine W.skip ?_ | refine W.ret ?_ | refine W.exit ?_); try simp (maxSteps := 1000000) (disch := (first | omega | (simp only [World.size_alloc, size_wr, size_drew] <;> omega) | exact not_noB _)) only [go_sem, ↓reduceIte, n0, reduceCtorEq, n1, n2, n3, n4, n5, i0, i1, i2, i3, i4, i5, i6, i7, hI])
          refine ⟨⟨j + 1, m', by omega, rfl, hN, hS, hr0, hr3, hb_8, by rw [hcat]; exact hG_8, ?_⟩, ?_⟩
          · exact hU_6.more ((hE_6d.mono fun _ h => h.elim).trans hM_8) fun b hb h => by
              rcases h with h | h
              · exact h
              · cases h; have := (hG.lt rfl).2; omega
          · simp only [RowKit.intOf]; omega
        · have hjl : j = t.u.length := by omega
          subst hjl
          rw [List.take_length] at hG
          have hT15 : Upd (fun b => b = vb) w15 w_6 := hV16.trans hU_6
          have hT14 : Upd (fun b => b = vb) w14 w_6 := hV15.trans hT15
          have hT13 : Upd (fun b => b = vb) w13 w_6 := hV14.trans hT14
          have hT12 : Upd (fun b => b = vb) w12 w_6 := hV13.trans hT13
          have hT11 : Upd (fun b => b = vb) w11 w_6 := hV12.trans hT12
          have hT8 : Upd (fun b => b = vb) w8 w_6 := hV11.trans hT11
          have hT7 : Upd (fun b => b = vb) w7 w_6 := hV8.trans hT8
          have hT6 : Upd (fun b => b = vb) w6 w_6 := hV7.trans hT7
          have hT3 : Upd (fun b => b = vb) w3 w_6 := hV6.trans hT6
          have hT2 : Upd (fun b => b = vb) w2 w_6 := hV3.trans hT3
          have hT1 : Upd (fun b => b = vb) w1 w_6 := hV2.trans hT2
          have hz0_f := hf0.keepS (hT6.keeps fun b _ hk e => hoF b hk e)
          have hz1_f := hf1.keepS (hT11.keeps fun b _ hk e => hoF b hk e)
          have hz2_f := hf2.keepS (hT13.keeps fun b _ hk e => hoF b hk e)
          have hz3_f := hf3.keepS (hU_6.keeps fun b _ hk e => hoF b hk e)
          have hTg := hG.tags (ok' := (OkF okT w.heap.size w1.heap.size)) (fun b _ hk => .inl hk) (fun b hb => .inr (by omega))
          have hL : RepL (RepS true d) (szS true d) (OkF okT w.heap.size w1.heap.size) w_6 t [fListTransactionsRequest_0, fListTransactionsRequest_1, fListTransactionsRequest_2, fListTransactionsRequest_3] 0 [.slice al0 (t.at 0).l.length kl0, .slice al1 (t.at 1).l.length kl1, .int .i64 (t.at 2).n, .pointer ap3] := (RepL.cons1 hz0_f (RepL.cons1 hz1_f (RepL.cons1 hz2_f (RepL.cons1 hz3_f RepL.nil))))
          have hR : RepS true (d + 1) fs_ListTransactionsRequest (OkF okT w.heap.size w1.heap.size) w_6 t [.slice al0 (t.at 0).l.length kl0, .slice al1 (t.at 1).l.length kl1, .int .i64 (t.at 2).n, .pointer ap3, .map q] := RepS.intro (c := [.slice al0 (t.at 0).l.length kl0, .slice al1 (t.at 1).l.length kl1, .int .i64 (t.at 2).n, .pointer ap3]) rfl hL hTg
          repeat ((first | refine W.seqR rfl ?_ | refine W.seq ?_ | refine W.regR rfl ?_ | refine W.condK ?_ | refine W.block ?_ | refine W.skip ?_ | refine W.ret ?_ | refine W.exit ?_); try simp (maxSteps := 1000000) (disch := (first | omega | (simp only [World.size_alloc, size_wr, size_drew] <;> omega) | exact not_noB _)) only [go_sem, ↓reduceIte, n0, reduceCtorEq, n1, n2, n3, n4, n5, i0, i1, i2, i3, i4, i5, i6, i7, hI, hN])
          exact ⟨_, hbv, (RepS_lay true (d + 1) fs_ListTransactionsRequest).weaken hR (fun b _ hk => hk.imp And.left fun h => by omega), Upd.more (hE1.mono fun _ h => h.elim) hT1 fun _ _ h => h⟩
end Ms

namespace Ms
open Nat renaming reduceEqDiff → n0, reduceAdd → n1, reduceMul → n2, reduceSub → n3, reduceLT → n4, reduceLeDiff → n5
open Int renaming reduceEq → i0, reduceLT → i1, reduceLE → i2, reduceNeg → i3, reduceAdd → i4, reduceSub → i5, reduceMul → i6, reduceToNat → i7
set_option maxRecDepth 8000
open Go Go.Proofs Go.Shelf
attribute [local congr] W_congr WPsq_congr WPp_congr optK_congr addrK_congr intK_congr boolK_congr sliceK_congr tupleK_congr funcK_congr Fn_congr rawK_congr takeK_congr stepK_congr convK_congr aggK_congr

set_option maxHeartbeats 4000000 in
theorem cListTransactionsRequest_fn (w : World) : Fn Try.prog 23 #[] w fun r w' => (∃ vs, r = .agg #[vs, .int .i64 0] ∧ FldsV (fun b => w.heap.size ≤ b) w' vs fs_ListTransactionsRequest) ∧ Ext w w' := by
  refine fn_of_W Try.func23 rfl Try.results23 Try.ntmps23 rfl ?_
  repeat ((first | refine W.seqR rfl ?_ | refine W.seq ?_ | refine W.regR rfl ?_ | refine W.condK ?_ | refine W.block ?_ | refine W.skip ?_ | refine W.ret ?_ | refine W.exit ?_); try simp (maxSteps := 1000000) (disch := (first | omega | (simp only [World.size_alloc, size_wr, size_drew] <;> omega) | exact not_noB _)) only [go_sem, ↓reduceIte, n0, reduceCtorEq, n1, n2, n3, n4, n5, i0, i1, i2, i3, i4, i5, i6, i7, fill_fld, fillN_nil, fillN_int, fillN_slice])
  have hz0 : (w.alloc (.cells #[.slice none 0 0, .int .i64 0] 31)).heap.size = w.heap.size + 1 := World.size_alloc _ _
  repeat ((first | refine W.seqR rfl ?_ | refine W.seq ?_ | refine W.regR rfl ?_ | refine W.condK ?_ | refine W.block ?_ | refine W.skip ?_ | refine W.ret ?_ | refine W.exit ?_); try simp (maxSteps := 1000000) (disch := (first | omega | (simp only [World.size_alloc, size_wr, size_drew] <;> omega) | exact not_noB _)) only [go_sem, ↓reduceIte, n0, reduceCtorEq, n1, n2, n3, n4, n5, i0, i1, i2, i3, i4, i5, i6, i7, fill_fld, fillN_nil, fillN_int, fillN_slice])
  exact ⟨⟨_, rfl, FldsV.litO (fs := fs_ListTransactionsRequest) (css := [[.int .i64 11, .int .i64 0, .int .i64 (-1), .int .i64 (-1), .int .i64 (-1), .int .i64 0, .int .i64 8, .slice none 0 0], [.int .i64 11, .int .i64 0, .int .i64 (-1), .int .i64 (-1), .int .i64 (-1), .int .i64 0, .int .i64 4, .slice none 0 0], [.int .i64 4, .int .i64 1, .int .i64 (-1), .int .i64 (-1), .int .i64 (-1), .int .i64 (-1), .int .i64 0, .slice none 0 0], [.int .i64 8, .int .i64 2, .int .i64 (-1), .int .i64 2, .int .i64 (-1), .int .i64 0, .int .i64 0, .slice none 0 0]]) (T := 50) (fr := (0, 0)) (by first | omega | (simp only [World.size_alloc]; omega)) (by first | (simp (maxSteps := 1000000) (disch := (first | omega | (simp only [World.size_alloc, size_wr, size_drew] <;> omega) | exact not_noB _)) only [go_sem, ↓reduceIte, n0, reduceCtorEq, n1, n2, n3, n4, n5, i0, i1, i2, i3, i4, i5, i6, i7]; rfl) | rfl) (by simp) (All2.cons (FldC.intro (kind := 11) (FldsV.none _ _)) (All2.cons (FldC.intro (kind := 11) (FldsV.none _ _)) (All2.cons (FldC.intro (kind := 4) (FldsV.none _ _)) (All2.cons (FldC.intro (kind := 8) (FldsV.none _ _)) All2.nil))))⟩, (Upd.wr (Upd.alloc (Upd.alloc (Upd.refl _ _) _) _) _ _ (.inl (Nat.le_refl _)))⟩

theorem DefaultListTransactionsRequest_fn (w : World) {vb : Nat} {c0 c1 c2 c3 c4 c5 : Value} (hb : blk w vb = some (#[c0, c1, c2, c3, c4, c5], 75, (0, 0))) :
    Fn Try.prog 137 #[.pointer (some ⟨vb, 0, none⟩)] w fun _ w' => blk w' vb = some (#[c0, c1, c2, .int .i64 (-1), c4, c5], 75, (0, 0)) ∧ Upd (fun b => b = vb) w w' := by
  have hvl := blk_lt hb
  refine fn_of_W Try.func137 rfl Try.results137 Try.ntmps137 rfl ?_
  repeat ((first | refine W.seqR rfl ?_ | refine W.seq ?_ | refine W.regR rfl ?_ | refine W.condK ?_ | refine W.block ?_ | refine W.skip ?_ | refine W.ret ?_ | refine W.exit ?_); try simp (maxSteps := 1000000) (disch := (first | omega | (simp only [World.size_alloc, size_wr, size_drew] <;> omega) | exact not_noB _)) only [go_sem, ↓reduceIte, n0, reduceCtorEq, n1, n2, n3, n4, n5, i0, i1, i2, i3, i4, i5, i6, i7, hb])
  first | exact (Upd.wr (Upd.refl _ _) _ _ (.inr rfl)) | exact ⟨by simp (maxSteps := 1000000) (disch := (first | omega | (simp only [World.size_alloc, size_wr, size_drew] <;> omega) | exact not_noB _)) only [go_sem, ↓reduceIte, n0, reduceCtorEq, n1, n2, n3, n4, n5, i0, i1, i2, i3, i4, i5, i6, i7, hb], (Upd.wr (Upd.refl _ _) _ _ (.inr rfl))⟩

theorem NewPtrListTransactionsRequest_fn (w : World) : Fn Try.prog 61 #[] w fun r w' => r = .pointer (some ⟨w.heap.size, 0, none⟩) ∧ blk w' w.heap.size = some (#[.int .i16 0, .slice none 0 0, .slice none 0 0, .int .i64 (-1), .pointer none, .map none], 75, (0, 0)) ∧ Ext w w' := by
  refine fn_of_W Try.func61 rfl Try.results61 Try.ntmps61 rfl ?_
  repeat ((first | refine W.seqR rfl ?_ | refine W.seq ?_ | refine W.regR rfl ?_ | refine W.condK ?_ | refine W.block ?_ | refine W.skip ?_ | refine W.ret ?_ | refine W.exit ?_); try simp (maxSteps := 1000000) (disch := (first | omega | (simp only [World.size_alloc, size_wr, size_drew] <;> omega) | exact not_noB _)) only [go_sem, ↓reduceIte, n0, reduceCtorEq, n1, n2, n3, n4, n5, i0, i1, i2, i3, i4, i5, i6, i7])
  refine (DefaultListTransactionsRequest_fn _ (blk_alloc_new rfl)).mono ?_
  rintro _ w1 ⟨hb1, hU1⟩
  have hz := World.size_alloc w (.cells #[.int .i16 0, .slice none 0 0, .slice none 0 0, .int .i64 0, .pointer none, .map none] 75)
  repeat ((first | refine W.seqR rfl ?_ | refine W.seq ?_ | refine W.regR rfl ?_ | refine W.condK ?_ | refine W.block ?_ | refine W.skip ?_ | refine W.ret ?_ | refine W.exit ?_); try simp (maxSteps := 1000000) (disch := (first | omega | (simp only [World.size_alloc, size_wr, size_drew] <;> omega) | exact not_noB _)) only [go_sem, ↓reduceIte, n0, reduceCtorEq, n1, n2, n3, n4, n5, i0, i1, i2, i3, i4, i5, i6, i7])
  exact ⟨hb1, (Upd.alloc (Upd.refl _ _) _ : Ext w _).more hU1 fun b hb h => by omega⟩

theorem SetVersionListTransactionsRequest_fn (w : World) {vb : Nat} {c0 c1 c2 c3 c4 c5 : Value} (n : Int) (hb : blk w vb = some (#[c0, c1, c2, c3, c4, c5], 75, (0, 0))) :
    Fn Try.prog 63 #[.pointer (some ⟨vb, 0, none⟩), .int .i16 n] w fun _ w' => blk w' vb = some (#[.int .i16 n, c1, c2, c3, c4, c5], 75, (0, 0)) ∧ Upd (fun b => b = vb) w w' := by
  have hvl := blk_lt hb
  refine fn_of_W Try.func63 rfl Try.results63 Try.ntmps63 rfl ?_
  repeat ((first | refine W.seqR rfl ?_ | refine W.seq ?_ | refine W.regR rfl ?_ | refine W.condK ?_ | refine W.block ?_ | refine W.skip ?_ | refine W.ret ?_ | refine W.exit ?_); try simp (maxSteps := 1000000) (disch := (first | omega | (simp only [World.size_alloc, size_wr, size_drew] <;> omega) | exact not_noB _)) only [go_sem, ↓reduceIte, n0, reduceCtorEq, n1, n2, n3, n4, n5, i0, i1, i2, i3, i4, i5, i6, i7, hb])
  first | exact Upd.wr (Upd.refl _ _) _ _ (.inr rfl) | exact ⟨by simp (maxSteps := 1000000) (disch := (first | omega | (simp only [World.size_alloc, size_wr, size_drew] <;> omega) | exact not_noB _)) only [go_sem, ↓reduceIte, n0, reduceCtorEq, n1, n2, n3, n4, n5, i0, i1, i2, i3, i4, i5, i6, i7, hb], Upd.wr (Upd.refl _ _) _ _ (.inr rfl)⟩

theorem MaxListTransactionsRequest_fn (w : World) : Fn Try.prog 22 #[] w fun r w' => r = .int .i64 2 ∧ Ext w w' := by
  refine fn_of_W Try.func22 rfl Try.results22 Try.ntmps22 rfl ?_
  repeat ((first | refine W.seqR rfl ?_ | refine W.seq ?_ | refine W.regR rfl ?_ | refine W.condK ?_ | refine W.block ?_ | refine W.skip ?_ | refine W.ret ?_ | refine W.exit ?_); try simp (maxSteps := 1000000) (disch := (first | omega | (simp only [World.size_alloc, size_wr, size_drew] <;> omega) | exact not_noB _)) only [go_sem, ↓reduceIte, n0, reduceCtorEq, n1, n2, n3, n4, n5, i0, i1, i2, i3, i4, i5, i6, i7])
  refine (NewPtrListTransactionsRequest_fn w).mono ?_
  rintro _ w1 ⟨rfl, hb1, hE1⟩
  repeat ((first | refine W.seqR rfl ?_ | refine W.seq ?_ | refine W.regR rfl ?_ | refine W.condK ?_ | refine W.block ?_ | refine W.skip ?_ | refine W.ret ?_ | refine W.exit ?_); try simp (maxSteps := 1000000) (disch := (first | omega | (simp only [World.size_alloc, size_wr, size_drew] <;> omega) | exact not_noB _)) only [go_sem, ↓reduceIte, n0, reduceCtorEq, n1, n2, n3, n4, n5, i0, i1, i2, i3, i4, i5, i6, i7])
  have hm : Fn Try.prog 62 #[.pointer (some ⟨w.heap.size, 0, none⟩)] w1 fun r w' => r = .int .i16 2 ∧ w' = w1 := by
    refine fn_of_W Try.func62 rfl Try.results62 Try.ntmps62 rfl ?_
    repeat ((first | refine W.seqR rfl ?_ | refine W.seq ?_ | refine W.regR rfl ?_ | refine W.condK ?_ | refine W.block ?_ | refine W.skip ?_ | refine W.ret ?_ | refine W.exit ?_); try simp (maxSteps := 1000000) (disch := (first | omega | (simp only [World.size_alloc, size_wr, size_drew] <;> omega) | exact not_noB _)) only [go_sem, ↓reduceIte, n0, reduceCtorEq, n1, n2, n3, n4, n5, i0, i1, i2, i3, i4, i5, i6, i7])
  refine hm.mono ?_
  rintro _ w2 ⟨rfl, rfl⟩
  have ew : IntKind.i64.wrap (2 : Int) = 2 := i64_wrap (by decide)
  repeat ((first | refine W.seqR rfl ?_ | refine W.seq ?_ | refine W.regR rfl ?_ | refine W.condK ?_ | refine W.block ?_ | refine W.skip ?_ | refine W.ret ?_ | refine W.exit ?_); try simp (maxSteps := 1000000) (disch := (first | omega | (simp only [World.size_alloc, size_wr, size_drew] <;> omega) | exact not_noB _)) only [go_sem, ↓reduceIte, n0, reduceCtorEq, n1, n2, n3, n4, n5, i0, i1, i2, i3, i4, i5, i6, i7, ew])
  exact hE1
end Ms

namespace Ms
open Nat renaming reduceEqDiff → n0, reduceAdd → n1, reduceMul → n2, reduceSub → n3, reduceLT → n4, reduceLeDiff → n5
open Int renaming reduceEq → i0, reduceLT → i1, reduceLE → i2, reduceNeg → i3, reduceAdd → i4, reduceSub → i5, reduceMul → i6, reduceToNat → i7
set_option maxRecDepth 8000
open Go Go.Proofs Go.Shelf
attribute [local congr] W_congr WPsq_congr WPp_congr optK_congr addrK_congr intK_congr boolK_congr sliceK_congr tupleK_congr funcK_congr Fn_congr rawK_congr takeK_congr stepK_congr convK_congr aggK_congr

set_option maxHeartbeats 4000000 in
theorem appListTransactionsRequest_0 {d B : Nat} {okM : Blocks} {ver : Int} (hlo : 0 ≤ ver) (hhi : ver ≤ 0) (t : Tree) (cells : List Value) (v : Value) (s : List UInt8) (w : World) {vb : Nat} (ho : OwnBy 5 B w v s) (hB : B ≤ w.heap.size) (hvb : blk w vb = some ((.int .i16 ver :: cells).toArray, 75, (0, 0)))
    (hR : RepS true (d + 1) fs_ListTransactionsRequest okM w t cells) (hfit : FitP ver (d + 1) fs_ListTransactionsRequest t) (hd : ∀ b, b < w.heap.size → okM b → ¬ ownB v b) (hdv : ¬ ownB v vb) (hlen : s.length + (partS (d + 1) fs_ListTransactionsRequest ver true t).length ≤ 2 ^ 41) :
    Fn Try.prog 65 #[.pointer (some ⟨vb, 0, none⟩), v] w fun r w' => AppR 5 B w v s (partS (d + 1) fs_ListTransactionsRequest ver true t) r w' := by
  obtain ⟨⟨g_0, g_1, g_2, g_3, -⟩, hfu⟩ := hfit
  replace g_0 : FitF (FitP ver d) ver fListTransactionsRequest_0 (t.at 0) := g_0
  replace g_1 : FitF (FitP ver d) ver fListTransactionsRequest_1 (t.at 1) := g_1
  replace g_2 : FitF (FitP ver d) ver fListTransactionsRequest_2 (t.at 2) := g_2
  replace g_3 : FitF (FitP ver d) ver fListTransactionsRequest_3 (t.at 3) := g_3
  obtain ⟨cs, q, hcs, hL, hT⟩ := hR.inv
  obtain ⟨c_0, e_0, rfl, h_0, c_1, e_1, rfl, h_1, c_2, e_2, rfl, h_2, c_3, e_3, rfl, h_3, rfl⟩ := hL
  replace h_0 : RepF (RepS true d) (szS true d) fListTransactionsRequest_0 okM w (t.at 0) c_0 := h_0
  replace h_1 : RepF (RepS true d) (szS true d) fListTransactionsRequest_1 okM w (t.at 1) c_1 := h_1
  replace h_2 : RepF (RepS true d) (szS true d) fListTransactionsRequest_2 okM w (t.at 2) c_2 := h_2
  replace h_3 : RepF (RepS true d) (szS true d) fListTransactionsRequest_3 okM w (t.at 3) c_3 := h_3
  have hn_0 := g_0.notnull (by decide)
  obtain ⟨p_0, rfl, hs_0, -⟩ := (RepF_list rfl hn_0).1 h_0
  obtain ⟨ab_0, ac_0, rfl, _⟩ := SlR.shape hs_0
  have hll_0 := (g_0.list rfl).1
  have hn_1 := g_1.notnull (by decide)
  obtain ⟨p_1, rfl, hs_1, -⟩ := (RepF_list rfl hn_1).1 h_1
  obtain ⟨ab_1, ac_1, rfl, _⟩ := SlR.shape hs_1
  have hll_1 := (g_1.list rfl).1
  obtain rfl := (RepF_num (by decide)).1 h_2
  obtain ⟨p_3, rfl, hp_3⟩ := (RepF_ptr rfl (by decide)).1 h_3
  obtain ⟨qm, rfl⟩ := hT.shape
  have hv : blk w vb = some (#[.int .i16 ver, .slice ab_0 (t.at 0).l.length ac_0, .slice ab_1 (t.at 1).l.length ac_1, .int .i64 (t.at 2).n, p_3, .map qm], 75, (0, 0)) := by rw [hvb, hcs]; rfl
  clear hvb hcs
  have hh_0 : hasS fListTransactionsRequest_0 ver = true := hasS_t (by show (0 : Int) ≤ ver; omega) (by show (-1 : Int) < 0 ∨ ver ≤ (-1 : Int); omega)
  obtain ⟨XL_0, hXL_0⟩ : ∃ X, X = uvarS ((t.at 0).l.length + 1) := ⟨_, rfl⟩
  obtain ⟨XE_0, hXE_0⟩ : ∃ X, X = (t.at 0).l.flatMap (fun x : Tree => uvarS (x.s.length + 1) ++ x.s) := ⟨_, rfl⟩
  have hh_1 : hasS fListTransactionsRequest_1 ver = true := hasS_t (by show (0 : Int) ≤ ver; omega) (by show (-1 : Int) < 0 ∨ ver ≤ (-1 : Int); omega)
  obtain ⟨XL_1, hXL_1⟩ : ∃ X, X = uvarS ((t.at 1).l.length + 1) := ⟨_, rfl⟩
  obtain ⟨XE_1, hXE_1⟩ : ∃ X, X = (t.at 1).l.flatMap (fun x : Tree => fixedS x.n 8) := ⟨_, rfl⟩
  have hh_2 : hasS fListTransactionsRequest_2 ver = false := hasS_f (by show ver < 1 ∨ (0 ≤ (-1 : Int) ∧ (-1 : Int) < ver); omega)
  have hh_3 : hasS fListTransactionsRequest_3 ver = false := hasS_f (by show ver < 2 ∨ (0 ≤ (-1 : Int) ∧ (-1 : Int) < ver); omega)
  obtain ⟨XU, hXU⟩ : ∃ X, X = uvarS t.u.length := ⟨_, rfl⟩
  obtain ⟨XT, hXT⟩ : ∃ X, X = t.u.flatMap oneTag := ⟨_, rfl⟩
  have hP : partS (d + 1) fs_ListTransactionsRequest ver true t = ((XL_0 ++ XE_0) ++ ((XL_1 ++ XE_1) ++ [])) ++ (XU ++ XT) := by rw [hXU, hXT]; exact partS_yes rfl hfu (plainL_has (by decide) hh_0 ((fieldS_list_t (g := (fun x : Tree => uvarS (x.s.length + 1) ++ x.s)) g_0 rfl (by decide) (fun x hx => valueS_text (((g_0.list rfl).2 x hx).2.1 (.inl rfl)))).trans (by rw [hXL_0, hXE_0])) (plainL_has (by decide) hh_1 ((fieldS_list_t (g := (fun x : Tree => fixedS x.n 8)) g_1 rfl (by decide) (fun x _ => valueS_num 4 (by decide))).trans (by rw [hXL_1, hXE_1])) (plainL_not hh_2 (plainL_not hh_3 rfl))))
  rw [hP] at hlen
  simp only [List.length_append, List.length_nil] at hlen
  have hdK : ∀ {r : Value} {w' : World} {add : List UInt8}, AppR 5 B w v s add r w' → ∀ b, b < w'.heap.size → OkS okM w.heap.size b → ¬ ownB r b := fun h b _ hk ho => (h.frame b ho).elim (hd b hk.2 hk.1) (fun h => by have := hk.2; omega)
  have ownK : ∀ {r : Value} {w' : World} {add : List UInt8} {b : Nat}, AppR 5 B w v s add r w' → b < w.heap.size → ¬ ownB v b → ¬ ownB r b := fun h hb hn ho => (h.frame _ ho).elim hn (fun h => by omega)
  have ha0 : AppR 5 B w v s [] v w := AppR.refl ho
  obtain ⟨w0, hw0⟩ : ∃ w0, w0 = w := ⟨_, rfl⟩
  have hB0 := hB
  have hv_0 := hv
  refine fn_of_W Try.func65 rfl Try.results65 Try.ntmps65 rfl ?_
  repeat ((first | refine W.seqR rfl ?_ | refine W.seq ?_ | refine W.regR rfl ?_ | refine W.condK ?_ | refine W.block ?_ | refine W.skip ?_ | refine W.ret ?_ | refine W.exit ?_); try simp (maxSteps := 1000000) (disch := (first | omega | (simp only [World.size_alloc, size_wr, size_drew] <;> omega) | exact not_noB _)) only [go_sem, ↓reduceIte, n0, reduceCtorEq, n1, n2, n3, n4, n5, i0, i1, i2, i3, i4, i5, i6, i7, hv_0])
  refine (AppendCompactArrayLen_fn _ _ _ ha0.own hB0 (t.at 0).l.length hll_0 (by simp only [List.length_append, List.length_nil]; omega)).mono ?_
  rintro r1 w1 hc1
  rw [← hXL_0] at hc1
  have ha1 := ha0.trans hc1
  have hB1 : B ≤ w1.heap.size := Nat.le_trans hB ha1.upd.size
  have hv_1 := ha1.upd.blk_some hv hdv
  repeat ((first | refine W.seqR rfl ?_ | refine W.seq ?_ | refine W.regR rfl ?_ | refine W.condK ?_ | refine W.block ?_ | refine W.skip ?_ | refine W.ret ?_ | refine W.exit ?_); try simp (maxSteps := 1000000) (disch := (first | omega | (simp only [World.size_alloc, size_wr, size_drew] <;> omega) | exact not_noB _)) only [go_sem, ↓reduceIte, n0, reduceCtorEq, n1, n2, n3, n4, n5, i0, i1, i2, i3, i4, i5, i6, i7, hv_1])
  have hadd1 := ha1
  refine W.exitJ 0 (fun ρ w' => ∃ r, ρ 1 = r ∧ ρ 0 = .pointer (some ⟨vb, 0, none⟩) ∧ ρ 5 = .int .i16 ver ∧ ρ 6 = .bool true ∧ AppR 5 B w v s (([] ++ XL_0) ++ XE_0) r w')
    (W.loop (fun ρ w' => ∃ (j : Nat) (r : Value), j ≤ (t.at 0).l.length ∧ ρ 38 = .int .i64 j ∧ ρ 37 = .int .i64 (t.at 0).l.length ∧ ρ 7 = .slice ab_0 (t.at 0).l.length ac_0 ∧ ρ 1 = r ∧ ρ 0 = .pointer (some ⟨vb, 0, none⟩) ∧ ρ 5 = .int .i16 ver ∧ ρ 6 = .bool true ∧ AppR 5 B w v s (([] ++ XL_0) ++ ((t.at 0).l.take j).flatMap (fun x : Tree => uvarS (x.s.length + 1) ++ x.s)) r w')
      (fun ρ _ => (t.at 0).l.length - (RowKit.intOf (ρ 38)).toNat) ?_ ?_) ?_
  · refine ⟨0, _, Nat.zero_le _, ?_, ?_, ?_, ?_, ?_, ?_, ?_, ha1.eqs (by rw [List.take_zero, List.flatMap_nil, List.append_nil])⟩ <;> simp (maxSteps := 1000000) (disch := (first | omega | (simp only [World.size_alloc, size_wr, size_drew] <;> omega) | exact not_noB _)) only [go_sem, ↓reduceIte, n0, reduceCtorEq, n1, n2, n3, n4, n5, i0, i1, i2, i3, i4, i5, i6, i7]
    all_goals rfl
  · rintro ρ w2 ⟨j1, r2, hj1, hI1, hN1, hS1, hr1_1, hr1_0, hr1_5, hr1_6, ha2⟩
    have hB2 : B ≤ w2.heap.size := Nat.le_trans hB ha2.upd.size
    have hv_2 := ha2.upd.blk_some hv hdv
    by_cases hlt1 : j1 < (t.at 0).l.length
    · obtain ⟨_, b1, o1, x1, ce1, hb1, hok1, hx1, hbl1, hxs1, hxe1, hq1, hRe1⟩ := SlR.get (size := 1) (by decide) hs_0 hlt1
      subst hb1
      have hcat1 : (t.at 0).l.take (j1 + 1) = (t.at 0).l.take j1 ++ [(t.at 0).l[j1]] := List.take_succ_eq_append_getElem hlt1
      have htl1 := take_flatMap_len (t.at 0).l (fun x : Tree => uvarS (x.s.length + 1) ++ x.s) (j1 + 1)
      rw [← hXE_0, hcat1, List.flatMap_append, List.flatMap_cons, List.flatMap_nil, List.append_nil] at htl1
      have hge1 := (g_0.list rfl).2 _ (List.getElem_mem hlt1)
      generalize (t.at 0).l[j1] = y1 at *
      have hnx1 := hd b1 hbl1 hok1
      obtain ⟨T1, hTT1⟩ : ∃ T, T = ((t.at 0).l.take j1).flatMap (fun x : Tree => uvarS (x.s.length + 1) ++ x.s) := ⟨_, rfl⟩
      rw [← hTT1] at ha2 htl1
      have hx1_2 := ha2.upd.blk_some hx1 hnx1
      obtain rfl := Rep1_text.1 hRe1
      have hq1_0 : x1.1[o1 + j1]? = some (strV y1.s) := by have := hq1 0 (by decide); rw [Nat.mul_one] at this; exact this
      obtain ⟨Y1, hY1⟩ : ∃ Y, Y = uvarS ((y1).s.length + 1) ++ (y1).s := ⟨_, rfl⟩
      replace htl1 : (T1 ++ Y1).length ≤ XE_0.length := by rw [hY1]; exact htl1
      simp only [List.length_append] at htl1
      repeat ((first | refine W.seqR rfl ?_ | refine W.seq ?_ | refine W.regR rfl ?_ | refine W.condK ?_ | refine W.block ?_ | refine W.skip ?_ | refine W.ret ?_ | refine W.exit ?_); try simp (maxSteps := 1000000) (disch := (first | omega | (simp only [World.size_alloc, size_wr, size_drew] <;> omega) | exact not_noB _)) only [go_sem, ↓reduceIte, n0, reduceCtorEq, n1, n2, n3, n4, n5, i0, i1, i2, i3, i4, i5, i6, i7, hv_2, hx1_2, Int.toNat_natCast, Nat.mul_one, hq1_0, hr1_1, hr1_0, hr1_5, hr1_6, hI1, hN1, hS1])
      refine (AppendCompactString_fn _ _ _ ha2.own hB2 y1.s (hge1.2.1 (.inl rfl)) (by simp only [List.length_append, List.length_nil]; omega)).mono ?_
      rintro r3 w3 hc3
      rw [← hY1] at hc3
      have ha3 := ha2.trans hc3
      have hB3 : B ≤ w3.heap.size := Nat.le_trans hB ha3.upd.size
      have hv_3 := ha3.upd.blk_some hv hdv
      have hx1_3 := ha3.upd.blk_some hx1 hnx1
      repeat ((first | refine W.seqR rfl ?_ | refine W.seq ?_ | refine W.regR rfl ?_ | refine W.condK ?_ | refine W.block ?_ | refine W.skip ?_ | refine W.ret ?_ | refine W.exit ?_); try simp (maxSteps := 1000000) (disch := (first | omega | (simp only [World.size_alloc, size_wr, size_drew] <;> omega) | exact not_noB _)) only [go_sem, ↓reduceIte, n0, reduceCtorEq, n1, n2, n3, n4, n5, i0, i1, i2, i3, i4, i5, i6, i7, hr1_1, hr1_0, hr1_5, hr1_6, hI1, hN1, hS1])
      refine ⟨⟨j1 + 1, _, by omega, rfl, rfl, ha3.eqs ?_⟩, ?_⟩
      · rw [hcat1, List.flatMap_append, List.flatMap_cons, List.flatMap_nil, List.append_nil, ← hTT1, hY1]; simp only [List.append_assoc, List.append_nil, List.nil_append]
      · simp only [RowKit.intOf]; omega
    · have hjl1 : j1 = (t.at 0).l.length := by omega
      subst hjl1
      rw [List.take_length, ← hXE_0] at ha2
      repeat ((first | refine W.seqR rfl ?_ | refine W.seq ?_ | refine W.regR rfl ?_ | refine W.condK ?_ | refine W.block ?_ | refine W.skip ?_ | refine W.ret ?_ | refine W.exit ?_); try simp (maxSteps := 1000000) (disch := (first | omega | (simp only [World.size_alloc, size_wr, size_drew] <;> omega) | exact not_noB _)) only [go_sem, ↓reduceIte, n0, reduceCtorEq, n1, n2, n3, n4, n5, i0, i1, i2, i3, i4, i5, i6, i7, hI1, hN1])
      exact ⟨_, hr1_1, hr1_0, hr1_5, hr1_6, ha2⟩
  · rintro ρ w4 ⟨r4, hr1_2, hr2_0, hr2_5, hr2_6, ha4⟩
    have hB4 : B ≤ w4.heap.size := Nat.le_trans hB ha4.upd.size
    have hv_4 := ha4.upd.blk_some hv hdv
    repeat ((first | refine W.seqR rfl ?_ | refine W.seq ?_ | refine W.regR rfl ?_ | refine W.condK ?_ | refine W.block ?_ | refine W.skip ?_ | refine W.ret ?_ | refine W.exit ?_); try simp (maxSteps := 1000000) (disch := (first | omega | (simp only [World.size_alloc, size_wr, size_drew] <;> omega) | exact not_noB _)) only [go_sem, ↓reduceIte, n0, reduceCtorEq, n1, n2, n3, n4, n5, i0, i1, i2, i3, i4, i5, i6, i7, hv_4, hr1_2, hr2_0, hr2_5, hr2_6])
    refine (AppendCompactArrayLen_fn _ _ _ ha4.own hB4 (t.at 1).l.length hll_1 (by simp only [List.length_append, List.length_nil]; omega)).mono ?_
    rintro r5 w5 hc5
    rw [← hXL_1] at hc5
    have ha5 := ha4.trans hc5
    have hB5 : B ≤ w5.heap.size := Nat.le_trans hB ha5.upd.size
    have hv_5 := ha5.upd.blk_some hv hdv
    repeat ((first | refine W.seqR rfl ?_ | refine W.seq ?_ | refine W.regR rfl ?_ | refine W.condK ?_ | refine W.block ?_ | refine W.skip ?_ | refine W.ret ?_ | refine W.exit ?_); try simp (maxSteps := 1000000) (disch := (first | omega | (simp only [World.size_alloc, size_wr, size_drew] <;> omega) | exact not_noB _)) only [go_sem, ↓reduceIte, n0, reduceCtorEq, n1, n2, n3, n4, n5, i0, i1, i2, i3, i4, i5, i6, i7, hv_5, hr1_2, hr2_0, hr2_5, hr2_6])
    have hadd3 := ha5
    refine W.exitJ 2 (fun ρ w' => ∃ r, ρ 1 = r ∧ ρ 0 = .pointer (some ⟨vb, 0, none⟩) ∧ ρ 5 = .int .i16 ver ∧ ρ 6 = .bool true ∧ AppR 5 B w v s (([] ++ XL_0 ++ XE_0 ++ XL_1) ++ XE_1) r w')
      (W.loop (fun ρ w' => ∃ (j : Nat) (r : Value), j ≤ (t.at 1).l.length ∧ ρ 68 = .int .i64 j ∧ ρ 67 = .int .i64 (t.at 1).l.length ∧ ρ 10 = .slice ab_1 (t.at 1).l.length ac_1 ∧ ρ 1 = r ∧ ρ 0 = .pointer (some ⟨vb, 0, none⟩) ∧ ρ 5 = .int .i16 ver ∧ ρ 6 = .bool true ∧ AppR 5 B w v s (([] ++ XL_0 ++ XE_0 ++ XL_1) ++ ((t.at 1).l.take j).flatMap (fun x : Tree => fixedS x.n 8)) r w')
        (fun ρ _ => (t.at 1).l.length - (RowKit.intOf (ρ 68)).toNat) ?_ ?_) ?_
    · refine ⟨0, _, Nat.zero_le _, ?_, ?_, ?_, ?_, ?_, ?_, ?_, ha5.eqs (by rw [List.take_zero, List.flatMap_nil, List.append_nil])⟩ <;> simp (maxSteps := 1000000) (disch := (first | omega | (simp only [World.size_alloc, size_wr, size_drew] <;> omega) | exact not_noB _)) only [go_sem, ↓reduceIte, n0, reduceCtorEq, n1, n2, n3, n4, n5, i0, i1, i2, i3, i4, i5, i6, i7, hr1_2, hr2_0, hr2_5, hr2_6]
      all_goals rfl
    · rintro ρ w6 ⟨j3, r6, hj3, hI3, hN3, hS3, hr1_3, hr3_0, hr3_5, hr3_6, ha6⟩
      have hB6 : B ≤ w6.heap.size := Nat.le_trans hB ha6.upd.size
      have hv_6 := ha6.upd.blk_some hv hdv
      by_cases hlt3 : j3 < (t.at 1).l.length
      · obtain ⟨_, b3, o3, x3, ce3, hb3, hok3, hx3, hbl3, hxs3, hxe3, hq3, hRe3⟩ := SlR.get (size := 1) (by decide) hs_1 hlt3
        subst hb3
        have hcat3 : (t.at 1).l.take (j3 + 1) = (t.at 1).l.take j3 ++ [(t.at 1).l[j3]] := List.take_succ_eq_append_getElem hlt3
        have htl3 := take_flatMap_len (t.at 1).l (fun x : Tree => fixedS x.n 8) (j3 + 1)
        rw [← hXE_1, hcat3, List.flatMap_append, List.flatMap_cons, List.flatMap_nil, List.append_nil] at htl3
        have hge3 := (g_1.list rfl).2 _ (List.getElem_mem hlt3)
        generalize (t.at 1).l[j3] = y3 at *
        have hnx3 := hd b3 hbl3 hok3
        obtain ⟨T3, hTT3⟩ : ∃ T, T = ((t.at 1).l.take j3).flatMap (fun x : Tree => fixedS x.n 8) := ⟨_, rfl⟩
        rw [← hTT3] at ha6 htl3
        have hx3_6 := ha6.upd.blk_some hx3 hnx3
        obtain rfl := (Rep1_num (by decide)).1 hRe3
        have hq3_0 : x3.1[o3 + j3]? = some (.int .i64 y3.n) := by have := hq3 0 (by decide); rw [Nat.mul_one] at this; exact this
        obtain ⟨Y3, hY3⟩ : ∃ Y, Y = fixedS (y3).n 8 := ⟨_, rfl⟩
        replace htl3 : (T3 ++ Y3).length ≤ XE_1.length := by rw [hY3]; exact htl3
        simp only [List.length_append] at htl3
        repeat ((first | refine W.seqR rfl ?_ | refine W.seq ?_ | refine W.regR rfl ?_ | refine W.condK ?_ | refine W.block ?_ | refine W.skip ?_ | refine W.ret ?_ | refine W.exit ?_); try simp (maxSteps := 1000000) (disch := (first | omega | (simp only [World.size_alloc, size_wr, size_drew] <;> omega) | exact not_noB _)) only [go_sem, ↓reduceIte, n0, reduceCtorEq, n1, n2, n3, n4, n5, i0, i1, i2, i3, i4, i5, i6, i7, hv_6, hx3_6, Int.toNat_natCast, Nat.mul_one, hq3_0, hr1_3, hr3_0, hr3_5, hr3_6, hI3, hN3, hS3])
        refine (AppendInt64_fn _ _ _ ha6.own hB6 _ (by simp only [List.length_append, List.length_nil]; omega)).mono ?_
        rintro r7 w7 hc7
        rw [← hY3] at hc7
        have ha7 := ha6.trans hc7
        have hB7 : B ≤ w7.heap.size := Nat.le_trans hB ha7.upd.size
        have hv_7 := ha7.upd.blk_some hv hdv
        have hx3_7 := ha7.upd.blk_some hx3 hnx3
        repeat ((first | refine W.seqR rfl ?_ | refine W.seq ?_ | refine W.regR rfl ?_ | refine W.condK ?_ | refine W.block ?_ | refine W.skip ?_ | refine W.ret ?_ | refine W.exit ?_); try simp (maxSteps := 1000000) (disch := (first | omega | (simp only [World.size_alloc, size_wr, size_drew] <;> omega) | exact not_noB _)) only [go_sem, ↓reduceIte, n0, reduceCtorEq, n1, n2, n3, n4, n5, i0, i1, i2, i3, i4, i5, i6, i7, hr1_3, hr3_0, hr3_5, hr3_6, hI3, hN3, hS3])
        refine ⟨⟨j3 + 1, _, by omega, rfl, rfl, ha7.eqs ?_⟩, ?_⟩
        · rw [hcat3, List.flatMap_append, List.flatMap_cons, List.flatMap_nil, List.append_nil, ← hTT3, hY3]; simp only [List.append_assoc, List.append_nil, List.nil_append]
        · simp only [RowKit.intOf]; omega
      · have hjl3 : j3 = (t.at 1).l.length := by omega
        subst hjl3
        rw [List.take_length, ← hXE_1] at ha6
        repeat ((first | refine W.seqR rfl ?_ | refine W.seq ?_ | refine W.regR rfl ?_ | refine W.condK ?_ | refine W.block ?_ | refine W.skip ?_ | refine W.ret ?_ | refine W.exit ?_); try simp (maxSteps := 1000000) (disch := (first | omega | (simp only [World.size_alloc, size_wr, size_drew] <;> omega) | exact not_noB _)) only [go_sem, ↓reduceIte, n0, reduceCtorEq, n1, n2, n3, n4, n5, i0, i1, i2, i3, i4, i5, i6, i7, hI3, hN3])
        exact ⟨_, hr1_3, hr3_0, hr3_5, hr3_6, ha6⟩
    · rintro ρ w8 ⟨r8, hr1_4, hr4_0, hr4_5, hr4_6, ha8⟩
      have hB8 : B ≤ w8.heap.size := Nat.le_trans hB ha8.upd.size
      have hv_8 := ha8.upd.blk_some hv hdv
      repeat ((first | refine W.seqR rfl ?_ | refine W.seq ?_ | refine W.regR rfl ?_ | refine W.condK ?_ | refine W.block ?_ | refine W.skip ?_ | refine W.ret ?_ | refine W.exit ?_); try simp (maxSteps := 1000000) (disch := (first | omega | (simp only [World.size_alloc, size_wr, size_drew] <;> omega) | exact not_noB _)) only [go_sem, ↓reduceIte, n0, reduceCtorEq, n1, n2, n3, n4, n5, i0, i1, i2, i3, i4, i5, i6, i7, hv_8, hr1_4, hr4_0, hr4_5, hr4_6])
      have hTk8 : TagsM (OkS okM w.heap.size) w8 (.map qm) t.u := (hT.weaken fun b h1 h2 => ⟨h2, h1⟩).keep (ha8.upd.keeps fun b hb hk => hd b hb hk.1)
      refine (TagsLen_fn (ok := OkS okM w.heap.size) w8 hv_8 (to := 5) (show (#[.int .i16 ver, .slice ab_0 (t.at 0).l.length ac_0, .slice ab_1 (t.at 1).l.length ac_1, .int .i64 (t.at 2).n, p_3, .map qm] : Array Value)[5]? = some (.map qm) from rfl) hTk8).mono ?_
      rintro _ w8' ⟨rfl, rfl⟩
      have hul8 : t.u.length ≤ 32767 := hfu.1
      have ew8 : IntKind.u32.wrap (t.u.length : Int) = t.u.length := u32_wrap (by omega)
      have ez8 : IntKind.u32.wrap (0 + (t.u.length : Int)) = t.u.length := by rw [Int.zero_add, u32_wrap (by omega)]
      simp (maxSteps := 1000000) (disch := (first | omega | (simp only [World.size_alloc, size_wr, size_drew] <;> omega) | exact not_noB _)) only [go_sem, ↓reduceIte, n0, reduceCtorEq, n1, n2, n3, n4, n5, i0, i1, i2, i3, i4, i5, i6, i7, hv_8, hr1_4, hr4_0, hr4_5, hr4_6, ew8, ez8]
      refine (AppendUvarint_fn _ _ _ ha8.own hB8 t.u.length (by omega) (by simp only [List.length_append, List.length_nil]; omega)).mono ?_
      rintro r9 w9 hc9
      rw [← hXU] at hc9
      have ha9 := ha8.trans hc9
      have hB9 : B ≤ w9.heap.size := Nat.le_trans hB ha9.upd.size
      have hv_9 := ha9.upd.blk_some hv hdv
      repeat ((first | refine W.seqR rfl ?_ | refine W.seq ?_ | refine W.regR rfl ?_ | refine W.condK ?_ | refine W.block ?_ | refine W.skip ?_ | refine W.ret ?_ | refine W.exit ?_); try simp (maxSteps := 1000000) (disch := (first | omega | (simp only [World.size_alloc, size_wr, size_drew] <;> omega) | exact not_noB _)) only [go_sem, ↓reduceIte, n0, reduceCtorEq, n1, n2, n3, n4, n5, i0, i1, i2, i3, i4, i5, i6, i7, hv_9, hr1_4, hr4_0, hr4_5, hr4_6])
      have hTk9 : TagsM (OkS okM w.heap.size) w9 (.map qm) t.u := (hT.weaken fun b h1 h2 => ⟨h2, h1⟩).keep (ha9.upd.keeps fun b hb hk => hd b hb hk.1)
      refine (AppendEach_fn (ok := OkS okM w.heap.size) _ _ _ ha9.own hB9 hv_9 (to := 5) (show (#[.int .i16 ver, .slice ab_0 (t.at 0).l.length ac_0, .slice ab_1 (t.at 1).l.length ac_1, .int .i64 (t.at 2).n, p_3, .map qm] : Array Value)[5]? = some (.map qm) from rfl) hTk9 (rising_keys hfu) hfu.1 (tags_small hfu hTk9) (hdK ha9) (ownK ha9 (blk_lt hv) hdv) (by simp only [List.length_append, List.length_nil]; omega)).mono ?_
      rintro r10 w10 hc10
      rw [← hXT] at hc10
      have ha10 := ha9.trans hc10
      have hB10 : B ≤ w10.heap.size := Nat.le_trans hB ha10.upd.size
      have hv_10 := ha10.upd.blk_some hv hdv
      repeat ((first | refine W.seqR rfl ?_ | refine W.seq ?_ | refine W.regR rfl ?_ | refine W.condK ?_ | refine W.block ?_ | refine W.skip ?_ | refine W.ret ?_ | refine W.exit ?_); try simp (maxSteps := 1000000) (disch := (first | omega | (simp only [World.size_alloc, size_wr, size_drew] <;> omega) | exact not_noB _)) only [go_sem, ↓reduceIte, n0, reduceCtorEq, n1, n2, n3, n4, n5, i0, i1, i2, i3, i4, i5, i6, i7, hv_10, hr1_4, hr4_0, hr4_5, hr4_6])
      refine ha10.eqs ?_
      rw [hP]; simp only [List.append_assoc, List.append_nil, List.nil_append]
end Ms

namespace Ms
open Nat renaming reduceEqDiff → n0, reduceAdd → n1, reduceMul → n2, reduceSub → n3, reduceLT → n4, reduceLeDiff → n5
open Int renaming reduceEq → i0, reduceLT → i1, reduceLE → i2, reduceNeg → i3, reduceAdd → i4, reduceSub → i5, reduceMul → i6, reduceToNat → i7
set_option maxRecDepth 8000
open Go Go.Proofs Go.Shelf
attribute [local congr] W_congr WPsq_congr WPp_congr optK_congr addrK_congr intK_congr boolK_congr sliceK_congr tupleK_congr funcK_congr Fn_congr rawK_congr takeK_congr stepK_congr convK_congr aggK_congr

set_option maxHeartbeats 4000000 in
theorem appListTransactionsRequest_1 {d B : Nat} {okM : Blocks} {ver : Int} (hlo : 1 ≤ ver) (hhi : ver ≤ 1) (t : Tree) (cells : List Value) (v : Value) (s : List UInt8) (w : World) {vb : Nat} (ho : OwnBy 5 B w v s) (hB : B ≤ w.heap.size) (hvb : blk w vb = some ((.int .i16 ver :: cells).toArray, 75, (0, 0)))
    (hR : RepS true (d + 1) fs_ListTransactionsRequest okM w t cells) (hfit : FitP ver (d + 1) fs_ListTransactionsRequest t) (hd : ∀ b, b < w.heap.size → okM b → ¬ ownB v b) (hdv : ¬ ownB v vb) (hlen : s.length + (partS (d + 1) fs_ListTransactionsRequest ver true t).length ≤ 2 ^ 41) :
    Fn Try.prog 65 #[.pointer (some ⟨vb, 0, none⟩), v] w fun r w' => AppR 5 B w v s (partS (d + 1) fs_ListTransactionsRequest ver true t) r w' := by
  obtain ⟨⟨g_0, g_1, g_2, g_3, -⟩, hfu⟩ := hfit
  replace g_0 : FitF (FitP ver d) ver fListTransactionsRequest_0 (t.at 0) := g_0
  replace g_1 : FitF (FitP ver d) ver fListTransactionsRequest_1 (t.at 1) := g_1
  replace g_2 : FitF (FitP ver d) ver fListTransactionsRequest_2 (t.at 2) := g_2
  replace g_3 : FitF (FitP ver d) ver fListTransactionsRequest_3 (t.at 3) := g_3
  obtain ⟨cs, q, hcs, hL, hT⟩ := hR.inv
  obtain ⟨c_0, e_0, rfl, h_0, c_1, e_1, rfl, h_1, c_2, e_2, rfl, h_2, c_3, e_3, rfl, h_3, rfl⟩ := hL
  replace h_0 : RepF (RepS true d) (szS true d) fListTransactionsRequest_0 okM w (t.at 0) c_0 := h_0
  replace h_1 : RepF (RepS true d) (szS true d) fListTransactionsRequest_1 okM w (t.at 1) c_1 := h_1
  replace h_2 : RepF (RepS true d) (szS true d) fListTransactionsRequest_2 okM w (t.at 2) c_2 := h_2
  replace h_3 : RepF (RepS true d) (szS true d) fListTransactionsRequest_3 okM w (t.at 3) c_3 := h_3
  have hn_0 := g_0.notnull (by decide)
  obtain ⟨p_0, rfl, hs_0, -⟩ := (RepF_list rfl hn_0).1 h_0
  obtain ⟨ab_0, ac_0, rfl, _⟩ := SlR.shape hs_0
  have hll_0 := (g_0.list rfl).1
  have hn_1 := g_1.notnull (by decide)
  obtain ⟨p_1, rfl, hs_1, -⟩ := (RepF_list rfl hn_1).1 h_1
  obtain ⟨ab_1, ac_1, rfl, _⟩ := SlR.shape hs_1
  have hll_1 := (g_1.list rfl).1
  obtain rfl := (RepF_num (by decide)).1 h_2
  obtain ⟨p_3, rfl, hp_3⟩ := (RepF_ptr rfl (by decide)).1 h_3
  obtain ⟨qm, rfl⟩ := hT.shape
  have hv : blk w vb = some (#[.int .i16 ver, .slice ab_0 (t.at 0).l.length ac_0, .slice ab_1 (t.at 1).l.length ac_1, .int .i64 (t.at 2).n, p_3, .map qm], 75, (0, 0)) := by rw [hvb, hcs]; rfl
  clear hvb hcs
  have hh_0 : hasS fListTransactionsRequest_0 ver = true := hasS_t (by show (0 : Int) ≤ ver; omega) (by show (-1 : Int) < 0 ∨ ver ≤ (-1 : Int); omega)
  obtain ⟨XL_0, hXL_0⟩ : ∃ X, X = uvarS ((t.at 0).l.length + 1) := ⟨_, rfl⟩
  obtain ⟨XE_0, hXE_0⟩ : ∃ X, X = (t.at 0).l.flatMap (fun x : Tree => uvarS (x.s.length + 1) ++ x.s) := ⟨_, rfl⟩
  have hh_1 : hasS fListTransactionsRequest_1 ver = true := hasS_t (by show (0 : Int) ≤ ver; omega) (by show (-1 : Int) < 0 ∨ ver ≤ (-1 : Int); omega)
  obtain ⟨XL_1, hXL_1⟩ : ∃ X, X = uvarS ((t.at 1).l.length + 1) := ⟨_, rfl⟩
  obtain ⟨XE_1, hXE_1⟩ : ∃ X, X = (t.at 1).l.flatMap (fun x : Tree => fixedS x.n 8) := ⟨_, rfl⟩
  have hh_2 : hasS fListTransactionsRequest_2 ver = true := hasS_t (by show (1 : Int) ≤ ver; omega) (by show (-1 : Int) < 0 ∨ ver ≤ (-1 : Int); omega)
  obtain ⟨X_2, hXX_2⟩ : ∃ X, X = fixedS (t.at 2).n 8 := ⟨_, rfl⟩
  have hh_3 : hasS fListTransactionsRequest_3 ver = false := hasS_f (by show ver < 2 ∨ (0 ≤ (-1 : Int) ∧ (-1 : Int) < ver); omega)
  obtain ⟨XU, hXU⟩ : ∃ X, X = uvarS t.u.length := ⟨_, rfl⟩
  obtain ⟨XT, hXT⟩ : ∃ X, X = t.u.flatMap oneTag := ⟨_, rfl⟩
  have hP : partS (d + 1) fs_ListTransactionsRequest ver true t = ((XL_0 ++ XE_0) ++ ((XL_1 ++ XE_1) ++ (X_2 ++ []))) ++ (XU ++ XT) := by rw [hXU, hXT]; exact partS_yes rfl hfu (plainL_has (by decide) hh_0 ((fieldS_list_t (g := (fun x : Tree => uvarS (x.s.length + 1) ++ x.s)) g_0 rfl (by decide) (fun x hx => valueS_text (((g_0.list rfl).2 x hx).2.1 (.inl rfl)))).trans (by rw [hXL_0, hXE_0])) (plainL_has (by decide) hh_1 ((fieldS_list_t (g := (fun x : Tree => fixedS x.n 8)) g_1 rfl (by decide) (fun x _ => valueS_num 4 (by decide))).trans (by rw [hXL_1, hXE_1])) (plainL_has (by decide) hh_2 ((fieldS_num 4 rfl (by decide)).trans hXX_2.symm) (plainL_not hh_3 rfl))))
  rw [hP] at hlen
  simp only [List.length_append, List.length_nil] at hlen
  have hdK : ∀ {r : Value} {w' : World} {add : List UInt8}, AppR 5 B w v s add r w' → ∀ b, b < w'.heap.size → OkS okM w.heap.size b → ¬ ownB r b := fun h b _ hk ho => (h.frame b ho).elim (hd b hk.2 hk.1) (fun h => by have := hk.2; omega)
  have ownK : ∀ {r : Value} {w' : World} {add : List UInt8} {b : Nat}, AppR 5 B w v s add r w' → b < w.heap.size → ¬ ownB v b → ¬ ownB r b := fun h hb hn ho => (h.frame _ ho).elim hn (fun h => by omega)
  have ha0 : AppR 5 B w v s [] v w := AppR.refl ho
  obtain ⟨w0, hw0⟩ : ∃ w0, w0 = w := ⟨_, rfl⟩
  have hB0 := hB
  have hv_0 := hv
  refine fn_of_W Try.func65 rfl Try.results65 Try.ntmps65 rfl ?_
  repeat ((first | refine W.seqR rfl ?_ | refine W.seq ?_ | refine W.regR rfl ?_ | refine W.condK ?_ | refine W.block ?_ | refine W.skip ?_ | refine W.ret ?_ | refine W.exit ?_); try simp (maxSteps := 1000000) (disch := (first | omega | (simp only [World.size_alloc, size_wr, size_drew] <;> omega) | exact not_noB _)) only [go_sem, ↓reduceIte, n0, reduceCtorEq, n1, n2, n3, n4, n5, i0, i1, i2, i3, i4, i5, i6, i7, hv_0])
  refine (AppendCompactArrayLen_fn _ _ _ ha0.own hB0 (t.at 0).l.length hll_0 (by simp only [List.length_append, List.length_nil]; omega)).mono ?_
  rintro r1 w1 hc1
  rw [← hXL_0] at hc1
  have ha1 := ha0.trans hc1
  have hB1 : B ≤ w1.heap.size := Nat.le_trans hB ha1.upd.size
  have hv_1 := ha1.upd.blk_some hv hdv
  repeat ((first | refine W.seqR rfl ?_ | refine W.seq ?_ | refine W.regR rfl ?_ | refine W.condK ?_ | refine W.block ?_ | refine W.skip ?_ | refine W.ret ?_ | refine W.exit ?_); try simp (maxSteps := 1000000) (disch := (first | omega | (simp only [World.size_alloc, size_wr, size_drew] <;> omega) | exact not_noB _)) only [go_sem, ↓reduceIte, n0, reduceCtorEq, n1, n2, n3, n4, n5, i0, i1, i2, i3, i4, i5, i6, i7, hv_1])
  have hadd1 := ha1
  refine W.exitJ 0 (fun ρ w' => ∃ r, ρ 1 = r ∧ ρ 0 = .pointer (some ⟨vb, 0, none⟩) ∧ ρ 5 = .int .i16 ver ∧ ρ 6 = .bool true ∧ AppR 5 B w v s (([] ++ XL_0) ++ XE_0) r w')
    (W.loop (fun ρ w' => ∃ (j : Nat) (r : Value), j ≤ (t.at 0).l.length ∧ ρ 38 = .int .i64 j ∧ ρ 37 = .int .i64 (t.at 0).l.length ∧ ρ 7 = .slice ab_0 (t.at 0).l.length ac_0 ∧ ρ 1 = r ∧ ρ 0 = .pointer (some ⟨vb, 0, none⟩) ∧ ρ 5 = .int .i16 ver ∧ ρ 6 = .bool true ∧ AppR 5 B w v s (([] ++ XL_0) ++ ((t.at 0).l.take j).flatMap (fun x : Tree => uvarS (x.s.length + 1) ++ x.s)) r w')
      (fun ρ _ => (t.at 0).l.length - (RowKit.intOf (ρ 38)).toNat) ?_ ?_) ?_
  · refine ⟨0, _, Nat.zero_le _, ?_, ?_, ?_, ?_, ?_, ?_, ?_, ha1.eqs (by rw [List.take_zero, List.flatMap_nil, List.append_nil])⟩ <;> simp (maxSteps := 1000000) (disch := (first | omega | (simp only [World.size_alloc, size_wr, size_drew] <;> omega) | exact not_noB _)) only [go_sem, ↓reduceIte, n0, reduceCtorEq, n1, n2, n3, n4, n5, i0, i1, i2, i3, i4, i5, i6, i7]
    all_goals rfl
  · rintro ρ w2 ⟨j1, r2, hj1, hI1, hN1, hS1, hr1_1, hr1_0, hr1_5, hr1_6, ha2⟩
    have hB2 : B ≤ w2.heap.size := Nat.le_trans hB ha2.upd.size
    have hv_2 := ha2.upd.blk_some hv hdv
    by_cases hlt1 : j1 < (t.at 0).l.length
    · obtain ⟨_, b1, o1, x1, ce1, hb1, hok1, hx1, hbl1, hxs1, hxe1, hq1, hRe1⟩ := SlR.get (size := 1) (by decide) hs_0 hlt1
      subst hb1
      have hcat1 : (t.at 0).l.take (j1 + 1) = (t.at 0).l.take j1 ++ [(t.at 0).l[j1]] := List.take_succ_eq_append_getElem hlt1
      have htl1 := take_flatMap_len (t.at 0).l (fun x : Tree => uvarS (x.s.length + 1) ++ x.s) (j1 + 1)
      rw [← hXE_0, hcat1, List.flatMap_append, List.flatMap_cons, List.flatMap_nil, List.append_nil] at htl1
      have hge1 := (g_0.list rfl).2 _ (List.getElem_mem hlt1)
      generalize (t.at 0).l[j1] = y1 at *
      have hnx1 := hd b1 hbl1 hok1
      obtain ⟨T1, hTT1⟩ : ∃ T, T = ((t.at 0).l.take j1).flatMap (fun x : Tree => uvarS (x.s.length + 1) ++ x.s) := ⟨_, rfl⟩
      rw [← hTT1] at ha2 htl1
      have hx1_2 := ha2.upd.blk_some hx1 hnx1
      obtain rfl := Rep1_text.1 hRe1
      have hq1_0 : x1.1[o1 + j1]? = some (strV y1.s) := by have := hq1 0 (by decide); rw [Nat.mul_one] at this; exact this
      obtain ⟨Y1, hY1⟩ : ∃ Y, Y = uvarS ((y1).s.length + 1) ++ (y1).s := ⟨_, rfl⟩
      replace htl1 : (T1 ++ Y1).length ≤ XE_0.length := by rw [hY1]; exact htl1
      simp only [List.length_append] at htl1
      repeat ((first | refine W.seqR rfl ?_ | refine W.seq ?_ | refine W.regR rfl ?_ | refine W.condK ?_ | refine W.block ?_ | refine W.skip ?_ | refine W.ret ?_ | refine W.exit ?_); try simp (maxSteps := 1000000) (disch := (first | omega | (simp only [World.size_alloc, size_wr, size_drew] <;> omega) | exact not_noB _)) only [go_sem, ↓reduceIte, n0, reduceCtorEq, n1, n2, n3, n4, n5, i0, i1, i2, i3, i4, i5, i6, i7, hv_2, hx1_2, Int.toNat_natCast, Nat.mul_one, hq1_0, hr1_1, hr1_0, hr1_5, hr1_6, hI1, hN1, hS1])
      refine (AppendCompactString_fn _ _ _ ha2.own hB2 y1.s (hge1.2.1 (.inl rfl)) (by simp only [List.length_append, List.length_nil]; omega)).mono ?_
      rintro r3 w3 hc3
      rw [← hY1] at hc3
      have ha3 := ha2.trans hc3
      have hB3 : B ≤ w3.heap.size := Nat.le_trans hB ha3.upd.size
      have hv_3 := ha3.upd.blk_some hv hdv
      have hx1_3 := ha3.upd.blk_some hx1 hnx1
      repeat ((first | refine W.seqR rfl ?_ | refine W.seq ?_ | refine W.regR rfl ?_ | refine W.condK ?_ | refine W.block ?_ | refine W.skip ?_ | refine W.ret ?_ | refine W.exit ?_); try simp (maxSteps := 1000000) (disch := (first | omega | (simp only [World.size_alloc, size_wr, size_drew] <;> omega) | exact not_noB _)) only [go_sem, ↓reduceIte, n0, reduceCtorEq, n1, n2, n3, n4, n5, i0, i1, i2, i3, i4, i5, i6, i7, hr1_1, hr1_0, hr1_5, hr1_6, hI1, hN1, hS1])
      refine ⟨⟨j1 + 1, _, by omega, rfl, rfl, ha3.eqs ?_⟩, ?_⟩
      · rw [hcat1, List.flatMap_append, List.flatMap_cons, List.flatMap_nil, List.append_nil, ← hTT1, hY1]; simp only [List.append_assoc, List.append_nil, List.nil_append]
      · simp only [RowKit.intOf]; omega
    · have hjl1 : j1 = (t.at 0).l.length := by omega
      subst hjl1
      rw [List.take_length, ← hXE_0] at ha2
      repeat ((first | refine W.seqR rfl ?_ | refine W.seq ?_ | refine W.regR rfl ?_ | refine W.condK ?_ | refine W.block ?_ | refine W.skip ?_ | refine W.ret ?_ | refine W.exit ?_); try simp (maxSteps := 1000000) (disch := (first | omega | (simp only [World.size_alloc, size_wr, size_drew] <;> omega) | exact not_noB _)) only [go_sem, ↓reduceIte, n0, reduceCtorEq, n1, n2, n3, n4, n5, i0, i1, i2, i3, i4, i5, i6, i7, hI1, hN1])
      exact ⟨_, hr1_1, hr1_0, hr1_5, hr1_6, ha2⟩
  · rintro ρ w4 ⟨r4, hr1_2, hr2_0, hr2_5, hr2_6, ha4⟩
    have hB4 : B ≤ w4.heap.size := Nat.le_trans hB ha4.upd.size
    have hv_4 := ha4.upd.blk_some hv hdv
    repeat ((first | refine W.seqR rfl ?_ | refine W.seq ?_ | refine W.regR rfl ?_ | refine W.condK ?_ | refine W.block ?_ | refine W.skip ?_ | refine W.ret ?_ | refine W.exit ?_); try simp (maxSteps := 1000000) (disch := (first | omega | (simp only [World.size_alloc, size_wr, size_drew] <;> omega) | exact not_noB _)) only [go_sem, ↓reduceIte, n0, reduceCtorEq, n1, n2, n3, n4, n5, i0, i1, i2, i3, i4, i5, i6, i7, hv_4, hr1_2, hr2_0, hr2_5, hr2_6])
    refine (AppendCompactArrayLen_fn _ _ _ ha4.own hB4 (t.at 1).l.length hll_1 (by simp only [List.length_append, List.length_nil]; omega)).mono ?_
    rintro r5 w5 hc5
    rw [← hXL_1] at hc5
    have ha5 := ha4.trans hc5
    have hB5 : B ≤ w5.heap.size := Nat.le_trans hB ha5.upd.size
    have hv_5 := ha5.upd.blk_some hv hdv
    repeat ((first | refine W.seqR rfl ?_ | refine W.seq ?_ | refine W.regR rfl ?_ | refine W.condK ?_ | refine W.block ?_ | refine W.skip ?_ | refine W.ret ?_ | refine W.exit ?_); try simp (maxSteps := 1000000) (disch := (first | omega | (simp only [World.size_alloc, size_wr, size_drew] <;> omega) | exact not_noB _)) only [go_sem, ↓reduceIte, n0, reduceCtorEq, n1, n2, n3, n4, n5, i0, i1, i2, i3, i4, i5, i6, i7, hv_5, hr1_2, hr2_0, hr2_5, hr2_6])
    have hadd3 := ha5
    refine W.exitJ 2 (fun ρ w' => ∃ r, ρ 1 = r ∧ ρ 0 = .pointer (some ⟨vb, 0, none⟩) ∧ ρ 5 = .int .i16 ver ∧ ρ 6 = .bool true ∧ AppR 5 B w v s (([] ++ XL_0 ++ XE_0 ++ XL_1) ++ XE_1) r w')
      (W.loop (fun ρ w' => ∃ (j : Nat) (r : Value), j ≤ (t.at 1).l.length ∧ ρ 68 = .int .i64 j ∧ ρ 67 = .int .i64 (t.at 1).l.length ∧ ρ 10 = .slice ab_1 (t.at 1).l.length ac_1 ∧ ρ 1 = r ∧ ρ 0 = .pointer (some ⟨vb, 0, none⟩) ∧ ρ 5 = .int .i16 ver ∧ ρ 6 = .bool true ∧ AppR 5 B w v s (([] ++ XL_0 ++ XE_0 ++ XL_1) ++ ((t.at 1).l.take j).flatMap (fun x : Tree => fixedS x.n 8)) r w')
        (fun ρ _ => (t.at 1).l.length - (RowKit.intOf (ρ 68)).toNat) ?_ ?_) ?_
    · refine ⟨0, _, Nat.zero_le _, ?_, ?_, ?_, ?_, ?_, ?_, ?_, ha5.eqs (by rw [List.take_zero, List.flatMap_nil, List.append_nil])⟩ <;> simp (maxSteps := 1000000) (disch := (first | omega | (simp only [World.size_alloc, size_wr, size_drew] <;> omega) | exact not_noB _)) only [go_sem, ↓reduceIte, n0, reduceCtorEq, n1, n2, n3, n4, n5, i0, i1, i2, i3, i4, i5, i6, i7, hr1_2, hr2_0, hr2_5, hr2_6]
      all_goals rfl
    · rintro ρ w6 ⟨j3, r6, hj3, hI3, hN3, hS3, hr1_3, hr3_0, hr3_5, hr3_6, ha6⟩
      have hB6 : B ≤ w6.heap.size := Nat.le_trans hB ha6.upd.size
      have hv_6 := ha6.upd.blk_some hv hdv
      by_cases hlt3 : j3 < (t.at 1).l.length
      · obtain ⟨_, b3, o3, x3, ce3, hb3, hok3, hx3, hbl3, hxs3, hxe3, hq3, hRe3⟩ := SlR.get (size := 1) (by decide) hs_1 hlt3
        subst hb3
        have hcat3 : (t.at 1).l.take (j3 + 1) = (t.at 1).l.take j3 ++ [(t.at 1).l[j3]] := List.take_succ_eq_append_getElem hlt3
        have htl3 := take_flatMap_len (t.at 1).l (fun x : Tree => fixedS x.n 8) (j3 + 1)
        rw [← hXE_1, hcat3, List.flatMap_append, List.flatMap_cons, List.flatMap_nil, List.append_nil] at htl3
        have hge3 := (g_1.list rfl).2 _ (List.getElem_mem hlt3)
        generalize (t.at 1).l[j3] = y3 at *
        have hnx3 := hd b3 hbl3 hok3
        obtain ⟨T3, hTT3⟩ : ∃ T, T = ((t.at 1).l.take j3).flatMap (fun x : Tree => fixedS x.n 8) := ⟨_, rfl⟩
        rw [← hTT3] at ha6 htl3
        have hx3_6 := ha6.upd.blk_some hx3 hnx3
        obtain rfl := (Rep1_num (by decide)).1 hRe3
        have hq3_0 : x3.1[o3 + j3]? = some (.int .i64 y3.n) := by have := hq3 0 (by decide); rw [Nat.mul_one] at this; exact this
        obtain ⟨Y3, hY3⟩ : ∃ Y, Y = fixedS (y3).n 8 := ⟨_, rfl⟩
        replace htl3 : (T3 ++ Y3).length ≤ XE_1.length := by rw [hY3]; exact htl3
        simp only [List.length_append] at htl3
        repeat ((first | refine W.seqR rfl ?_ | refine W.seq ?_ | refine W.regR rfl ?_ | refine W.condK ?_ | refine W.block ?_ | refine W.skip ?_ | refine W.ret ?_ | refine W.exit ?_); try simp (maxSteps := 1000000) (disch := (first | omega | (simp only [World.size_alloc, size_wr, size_drew] <;> omega) | exact not_noB _)) only [go_sem, ↓reduceIte, n0, reduceCtorEq, n1, n2, n3, n4, n5, i0, i1, i2, i3, i4, i5, i6, i7, hv_6, hx3_6, Int.toNat_natCast, Nat.mul_one, hq3_0, hr1_3, hr3_0, hr3_5, hr3_6, hI3, hN3, hS3])
        refine (AppendInt64_fn _ _ _ ha6.own hB6 _ (by simp only [List.length_append, List.length_nil]; omega)).mono ?_
        rintro r7 w7 hc7
        rw [← hY3] at hc7
        have ha7 := ha6.trans hc7
        have hB7 : B ≤ w7.heap.size := Nat.le_trans hB ha7.upd.size
        have hv_7 := ha7.upd.blk_some hv hdv
        have hx3_7 := ha7.upd.blk_some hx3 hnx3
        repeat ((first | refine W.seqR rfl ?_ | refine W.seq ?_ | refine W.regR rfl ?_ | refine W.condK ?_ | refine W.block ?_ | refine W.skip ?_ | refine W.ret ?_ | refine W.exit ?_); try simp (maxSteps := 1000000) (disch := (first | omega | (simp only [World.size_alloc, size_wr, size_drew] <;> omega) | exact not_noB _)) only [go_sem, ↓reduceIte, n0, reduceCtorEq, n1, n2, n3, n4, n5, i0, i1, i2, i3, i4, i5, i6, i7, hr1_3, hr3_0, hr3_5, hr3_6, hI3, hN3, hS3])
        refine ⟨⟨j3 + 1, _, by omega, rfl, rfl, ha7.eqs ?_⟩, ?_⟩
        · rw [hcat3, List.flatMap_append, List.flatMap_cons, List.flatMap_nil, List.append_nil, ← hTT3, hY3]; simp only [List.append_assoc, List.append_nil, List.nil_append]
        · simp only [RowKit.intOf]; omega
      · have hjl3 : j3 = (t.at 1).l.length := by omega
        subst hjl3
        rw [List.take_length, ← hXE_1] at ha6
        repeat ((first | refine W.seqR rfl ?_ | refine W.seq ?_ | refine W.regR rfl ?_ | refine W.condK ?_ | refine W.block ?_ | refine W.skip ?_ | refine W.ret ?_ | refine W.exit ?_); try simp (maxSteps := 1000000) (disch := (first | omega | (simp only [World.size_alloc, size_wr, size_drew] <;> omega) | exact not_noB _)) only [go_sem, ↓reduceIte, n0, reduceCtorEq, n1, n2, n3, n4, n5, i0, i1, i2, i3, i4, i5, i6, i7, hI3, hN3])
        exact ⟨_, hr1_3, hr3_0, hr3_5, hr3_6, ha6⟩
    · rintro ρ w8 ⟨r8, hr1_4, hr4_0, hr4_5, hr4_6, ha8⟩
      have hB8 : B ≤ w8.heap.size := Nat.le_trans hB ha8.upd.size
      have hv_8 := ha8.upd.blk_some hv hdv
      repeat ((first | refine W.seqR rfl ?_ | refine W.seq ?_ | refine W.regR rfl ?_ | refine W.condK ?_ | refine W.block ?_ | refine W.skip ?_ | refine W.ret ?_ | refine W.exit ?_); try simp (maxSteps := 1000000) (disch := (first | omega | (simp only [World.size_alloc, size_wr, size_drew] <;> omega) | exact not_noB _)) only [go_sem, ↓reduceIte, n0, reduceCtorEq, n1, n2, n3, n4, n5, i0, i1, i2, i3, i4, i5, i6, i7, hv_8, hr1_4, hr4_0, hr4_5, hr4_6])
      refine (AppendInt64_fn _ _ _ ha8.own hB8 _ (by simp only [List.length_append, List.length_nil]; omega)).mono ?_
      rintro r9 w9 hc9
      rw [← hXX_2] at hc9
      have ha9 := ha8.trans hc9
      have hB9 : B ≤ w9.heap.size := Nat.le_trans hB ha9.upd.size
      have hv_9 := ha9.upd.blk_some hv hdv
      repeat ((first | refine W.seqR rfl ?_ | refine W.seq ?_ | refine W.regR rfl ?_ | refine W.condK ?_ | refine W.block ?_ | refine W.skip ?_ | refine W.ret ?_ | refine W.exit ?_); try simp (maxSteps := 1000000) (disch := (first | omega | (simp only [World.size_alloc, size_wr, size_drew] <;> omega) | exact not_noB _)) only [go_sem, ↓reduceIte, n0, reduceCtorEq, n1, n2, n3, n4, n5, i0, i1, i2, i3, i4, i5, i6, i7, hv_9, hr1_4, hr4_0, hr4_5, hr4_6])
      have hTk9 : TagsM (OkS okM w.heap.size) w9 (.map qm) t.u := (hT.weaken fun b h1 h2 => ⟨h2, h1⟩).keep (ha9.upd.keeps fun b hb hk => hd b hb hk.1)
      refine (TagsLen_fn (ok := OkS okM w.heap.size) w9 hv_9 (to := 5) (show (#[.int .i16 ver, .slice ab_0 (t.at 0).l.length ac_0, .slice ab_1 (t.at 1).l.length ac_1, .int .i64 (t.at 2).n, p_3, .map qm] : Array Value)[5]? = some (.map qm) from rfl) hTk9).mono ?_
      rintro _ w9' ⟨rfl, rfl⟩
      have hul9 : t.u.length ≤ 32767 := hfu.1
      have ew9 : IntKind.u32.wrap (t.u.length : Int) = t.u.length := u32_wrap (by omega)
      have ez9 : IntKind.u32.wrap (0 + (t.u.length : Int)) = t.u.length := by rw [Int.zero_add, u32_wrap (by omega)]
      simp (maxSteps := 1000000) (disch := (first | omega | (simp only [World.size_alloc, size_wr, size_drew] <;> omega) | exact not_noB _)) only [go_sem, ↓reduceIte, n0, reduceCtorEq, n1, n2, n3, n4, n5, i0, i1, i2, i3, i4, i5, i6, i7, hv_9, hr1_4, hr4_0, hr4_5, hr4_6, ew9, ez9]
      refine (AppendUvarint_fn _ _ _ ha9.own hB9 t.u.length (by omega) (by simp only [List.length_append, List.length_nil]; omega)).mono ?_
      rintro r10 w10 hc10
      rw [← hXU] at hc10
      have ha10 := ha9.trans hc10
      have hB10 : B ≤ w10.heap.size := Nat.le_trans hB ha10.upd.size
      have hv_10 := ha10.upd.blk_some hv hdv
      repeat ((first | refine W.seqR rfl ?_ | refine W.seq ?_ | refine W.regR rfl ?_ | refine W.condK ?_ | refine W.block ?_ | refine W.skip ?_ | refine W.ret ?_ | refine W.exit ?_); try simp (maxSteps := 1000000) (disch := (first | omega | (simp only [World.size_alloc, size_wr, size_drew] <;> omega) | exact not_noB _)) only [go_sem, ↓reduceIte, n0, reduceCtorEq, n1, n2, n3, n4, n5, i0, i1, i2, i3, i4, i5, i6, i7, hv_10, hr1_4, hr4_0, hr4_5, hr4_6])
      have hTk10 : TagsM (OkS okM w.heap.size) w10 (.map qm) t.u := (hT.weaken fun b h1 h2 => ⟨h2, h1⟩).keep (ha10.upd.keeps fun b hb hk => hd b hb hk.1)
      refine (AppendEach_fn (ok := OkS okM w.heap.size) _ _ _ ha10.own hB10 hv_10 (to := 5) (show (#[.int .i16 ver, .slice ab_0 (t.at 0).l.length ac_0, .slice ab_1 (t.at 1).l.length ac_1, .int .i64 (t.at 2).n, p_3, .map qm] : Array Value)[5]? = some (.map qm) from rfl) hTk10 (rising_keys hfu) hfu.1 (tags_small hfu hTk10) (hdK ha10) (ownK ha10 (blk_lt hv) hdv) (by simp only [List.length_append, List.length_nil]; omega)).mono ?_
      rintro r11 w11 hc11
      rw [← hXT] at hc11
      have ha11 := ha10.trans hc11
      have hB11 : B ≤ w11.heap.size := Nat.le_trans hB ha11.upd.size
      have hv_11 := ha11.upd.blk_some hv hdv
      repeat ((first | refine W.seqR rfl ?_ | refine W.seq ?_ | refine W.regR rfl ?_ | refine W.condK ?_ | refine W.block ?_ | refine W.skip ?_ | refine W.ret ?_ | refine W.exit ?_); try simp (maxSteps := 1000000) (disch := (first | omega | (simp only [World.size_alloc, size_wr, size_drew] <;> omega) | exact not_noB _)) only [go_sem, ↓reduceIte, n0, reduceCtorEq, n1, n2, n3, n4, n5, i0, i1, i2, i3, i4, i5, i6, i7, hv_11, hr1_4, hr4_0, hr4_5, hr4_6])
      refine ha11.eqs ?_
      rw [hP]; simp only [List.append_assoc, List.append_nil, List.nil_append]
end Ms

