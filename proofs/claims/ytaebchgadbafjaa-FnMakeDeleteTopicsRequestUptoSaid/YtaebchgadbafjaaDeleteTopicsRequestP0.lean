/- A part of the proof: see the last text. -/
import Derived.Test.YtaebchgadbafjaaC08
set_option linter.unusedSimpArgs false
set_option linter.unusedVariables false
namespace Ms
open Nat renaming reduceEqDiff → n0, reduceAdd → n1, reduceMul → n2, reduceSub → n3, reduceLT → n4, reduceLeDiff → n5
open Int renaming reduceEq → i0, reduceLT → i1, reduceLE → i2, reduceNeg → i3, reduceAdd → i4, reduceSub → i5, reduceMul → i6, reduceToNat → i7
set_option maxRecDepth 4000
open Go Go.Proofs
theorem ap_71_71 : AppT Try.prog 71 71 9 1 16 := AppT.of (by kernel_rfl)
theorem ap_96_96 : AppT Try.prog 96 96 170 18 32 := AppT.of (by kernel_rfl)
theorem ca_116 : callable Try.prog 116 = true := nr (by kernel_rfl)
theorem ca_118 : callable Try.prog 118 = true := nr (by kernel_rfl)
theorem ca_121 : callable Try.prog 121 = true := nr (by kernel_rfl)
theorem ca_122 : callable Try.prog 122 = true := nr (by kernel_rfl)
theorem ca_125 : callable Try.prog 125 = true := nr (by kernel_rfl)
theorem ca_126 : callable Try.prog 126 = true := nr (by kernel_rfl)
theorem ca_128 : callable Try.prog 128 = true := nr (by kernel_rfl)
theorem ca_129 : callable Try.prog 129 = true := nr (by kernel_rfl)
theorem ca_13 : callable Try.prog 13 = true := nr (by kernel_rfl)
theorem ca_138 : callable Try.prog 138 = true := nr (by kernel_rfl)
theorem ca_150 : callable Try.prog 150 = true := nr (by kernel_rfl)
theorem ca_151 : callable Try.prog 151 = true := nr (by kernel_rfl)
theorem ca_152 : callable Try.prog 152 = true := nr (by kernel_rfl)
theorem ca_16 : callable Try.prog 16 = true := nr (by kernel_rfl)
theorem ca_179 : callable Try.prog 179 = true := nr (by kernel_rfl)
theorem ca_21 : callable Try.prog 21 = true := nr (by kernel_rfl)
theorem ca_34 : callable Try.prog 34 = true := nr (by kernel_rfl)
theorem ca_35 : callable Try.prog 35 = true := nr (by kernel_rfl)
theorem ca_36 : callable Try.prog 36 = true := nr (by kernel_rfl)
theorem ca_83 : callable Try.prog 83 = true := nr (by kernel_rfl)
theorem ca_84 : callable Try.prog 84 = true := nr (by kernel_rfl)
theorem ca_85 : callable Try.prog 85 = true := nr (by kernel_rfl)
theorem ca_86 : callable Try.prog 86 = true := nr (by kernel_rfl)
theorem ca_87 : callable Try.prog 87 = true := nr (by kernel_rfl)
theorem ca_88 : callable Try.prog 88 = true := nr (by kernel_rfl)
theorem es_37 : elemSize Try.prog 37 = some 2 := nr (by kernel_rfl)
theorem es_71 : elemSize Try.prog 71 = some 1 := nr (by kernel_rfl)
theorem es_96 : elemSize Try.prog 96 = some 18 := nr (by kernel_rfl)
theorem fo_170_0 : fieldOff Try.prog 170 0 = some 0 := nr (by kernel_rfl)
theorem fo_170_1 : fieldOff Try.prog 170 1 = some 1 := nr (by kernel_rfl)
theorem fo_170_2 : fieldOff Try.prog 170 2 = some 17 := nr (by kernel_rfl)
theorem fo_64_0 : fieldOff Try.prog 64 0 = some 0 := nr (by kernel_rfl)
theorem fo_64_1 : fieldOff Try.prog 64 1 = some 1 := nr (by kernel_rfl)
theorem fo_98_0 : fieldOff Try.prog 98 0 = some 0 := nr (by kernel_rfl)
theorem fo_98_1 : fieldOff Try.prog 98 1 = some 1 := nr (by kernel_rfl)
theorem fo_98_2 : fieldOff Try.prog 98 2 = some 2 := nr (by kernel_rfl)
theorem fo_98_3 : fieldOff Try.prog 98 3 = some 3 := nr (by kernel_rfl)
theorem fo_98_4 : fieldOff Try.prog 98 4 = some 4 := nr (by kernel_rfl)
theorem fv_39_0 (cs : Array Value) : fieldV Try.prog 39 0 cs = cs[0]? := fieldV_one (by kernel_rfl) cs
theorem fv_39_1 (cs : Array Value) : fieldV Try.prog 39 1 cs = cs[1]? := fieldV_one (by kernel_rfl) cs
theorem fv_39_2 (cs : Array Value) : fieldV Try.prog 39 2 cs = cs[2]? := fieldV_one (by kernel_rfl) cs
theorem fv_39_3 (cs : Array Value) : fieldV Try.prog 39 3 cs = cs[3]? := fieldV_one (by kernel_rfl) cs
theorem ld_170 (w : World) (b o : Nat) : loadOf Try.prog 170 w ⟨b, o, none⟩ = (blk w b).bind fun x => cellsAt x.1 o 18 := loadOf_agg (by kernel_rfl) w b o
theorem ld_21 (w : World) (b o : Nat) : loadOf Try.prog 21 w ⟨b, o, none⟩ = (blk w b).bind fun x => x.1[o]? := loadOf_one (by kernel_rfl) w b o
theorem ld_31 (w : World) (b o : Nat) : loadOf Try.prog 31 w ⟨b, o, none⟩ = (blk w b).bind fun x => cellsAt x.1 o 2 := loadOf_agg (by kernel_rfl) w b o
theorem ld_45 (w : World) (b o : Nat) : loadOf Try.prog 45 w ⟨b, o, none⟩ = (blk w b).bind fun x => x.1[o]? := loadOf_one (by kernel_rfl) w b o
theorem ld_64 (w : World) (b o : Nat) : loadOf Try.prog 64 w ⟨b, o, none⟩ = (blk w b).bind fun x => cellsAt x.1 o 2 := loadOf_agg (by kernel_rfl) w b o
theorem ld_71 (w : World) (b o : Nat) : loadOf Try.prog 71 w ⟨b, o, none⟩ = (blk w b).bind fun x => x.1[o]? := loadOf_one (by kernel_rfl) w b o
theorem ld_73 (w : World) (b o : Nat) : loadOf Try.prog 73 w ⟨b, o, none⟩ = (blk w b).bind fun x => x.1[o]? := loadOf_one (by kernel_rfl) w b o
theorem ld_96 (w : World) (b o : Nat) : loadOf Try.prog 96 w ⟨b, o, none⟩ = (blk w b).bind fun x => x.1[o]? := loadOf_one (by kernel_rfl) w b o
theorem pl_31 : placesOf Try.prog 31 = some [(0, 1), (1, 1)] := nr (by kernel_rfl)
theorem pl_50 : placesOf Try.prog 50 = some [(0, 1), (1, 1), (2, 1), (3, 1), (4, 1), (5, 1), (6, 1), (7, 1)] := nr (by kernel_rfl)
theorem pl_98 : placesOf Try.prog 98 = some [(0, 1), (1, 1), (2, 1), (3, 1), (4, 1)] := nr (by kernel_rfl)
theorem se_29 : slElem Try.prog 29 = some (50, 8) := nr (by kernel_rfl)
theorem se_71 : slElem Try.prog 71 = some (9, 1) := nr (by kernel_rfl)
theorem se_96 : slElem Try.prog 96 = some (170, 18) := nr (by kernel_rfl)
theorem sl_37 : isSliceT Try.prog 37 = true := nr (by kernel_rfl)
theorem sl_71 : isSliceT Try.prog 71 = true := nr (by kernel_rfl)
theorem sl_96 : isSliceT Try.prog 96 = true := nr (by kernel_rfl)
theorem sz_170 (w : World) (b o : Nat) (v : Value) : storeOf Try.prog 170 w ⟨b, o, none⟩ v = (blk w b).bind fun x => stO w b o v x 18 := storeOf_n (by kernel_rfl) w b o v
theorem sz_21 (w : World) (b o : Nat) (v : Value) : storeOf Try.prog 21 w ⟨b, o, none⟩ v = (blk w b).bind fun x => stO w b o v x 1 := storeOf_n (by kernel_rfl) w b o v
theorem sz_31 (w : World) (b o : Nat) (v : Value) : storeOf Try.prog 31 w ⟨b, o, none⟩ v = (blk w b).bind fun x => stO w b o v x 2 := storeOf_n (by kernel_rfl) w b o v
theorem sz_45 (w : World) (b o : Nat) (v : Value) : storeOf Try.prog 45 w ⟨b, o, none⟩ v = (blk w b).bind fun x => stO w b o v x 1 := storeOf_n (by kernel_rfl) w b o v
theorem sz_64 (w : World) (b o : Nat) (v : Value) : storeOf Try.prog 64 w ⟨b, o, none⟩ v = (blk w b).bind fun x => stO w b o v x 2 := storeOf_n (by kernel_rfl) w b o v
theorem sz_71 (w : World) (b o : Nat) (v : Value) : storeOf Try.prog 71 w ⟨b, o, none⟩ v = (blk w b).bind fun x => stO w b o v x 1 := storeOf_n (by kernel_rfl) w b o v
theorem sz_73 (w : World) (b o : Nat) (v : Value) : storeOf Try.prog 73 w ⟨b, o, none⟩ v = (blk w b).bind fun x => stO w b o v x 1 := storeOf_n (by kernel_rfl) w b o v
theorem sz_96 (w : World) (b o : Nat) (v : Value) : storeOf Try.prog 96 w ⟨b, o, none⟩ v = (blk w b).bind fun x => stO w b o v x 1 := storeOf_n (by kernel_rfl) w b o v
theorem z_170 : zeroOf Try.prog 170 = some #[.pointer none, .int .u8 0, .int .u8 0, .int .u8 0, .int .u8 0, .int .u8 0, .int .u8 0, .int .u8 0, .int .u8 0, .int .u8 0, .int .u8 0, .int .u8 0, .int .u8 0, .int .u8 0, .int .u8 0, .int .u8 0, .int .u8 0, .map none] := nr (by kernel_rfl)
theorem z_31 : zeroOf Try.prog 31 = some #[.slice none 0 0, .int .i64 0] := nr (by kernel_rfl)
theorem z_98 : zeroOf Try.prog 98 = some #[.int .i16 0, .slice none 0 0, .slice none 0 0, .int .i32 0, .map none] := nr (by kernel_rfl)
attribute [go_sem] ca_116 ca_118 ca_121 ca_122 ca_125 ca_126 ca_128 ca_129 ca_13 ca_138 ca_150 ca_151 ca_152 ca_16 ca_179 ca_21 ca_34 ca_35 ca_36 ca_83 ca_84 ca_85 ca_86 ca_87 ca_88 es_37 es_71 es_96 fo_170_0 fo_170_1 fo_170_2 fo_64_0 fo_64_1 fo_98_0 fo_98_1 fo_98_2 fo_98_3 fo_98_4 fv_39_0 fv_39_1 fv_39_2 fv_39_3 ld_170 ld_21 ld_31 ld_45 ld_64 ld_71 ld_73 ld_96 pl_31 pl_50 pl_98 se_29 se_71 se_96 sl_37 sl_71 sl_96 sz_170 sz_21 sz_31 sz_45 sz_64 sz_71 sz_73 sz_96 z_170 z_31 z_98
end Ms

namespace Ms
open Nat renaming reduceEqDiff → n0, reduceAdd → n1, reduceMul → n2, reduceSub → n3, reduceLT → n4, reduceLeDiff → n5
open Int renaming reduceEq → i0, reduceLT → i1, reduceLE → i2, reduceNeg → i3, reduceAdd → i4, reduceSub → i5, reduceMul → i6, reduceToNat → i7
set_option maxRecDepth 8000
open Go Go.Proofs Go.Shelf
attribute [local congr] W_congr WPsq_congr WPp_congr optK_congr addrK_congr intK_congr boolK_congr sliceK_congr tupleK_congr funcK_congr Fn_congr rawK_congr takeK_congr stepK_congr convK_congr aggK_congr

def fDeleteTopicsRequestTopic_0 : Fld := .mk 8 0 (-1) 0 (-1) 0 0 []
def fDeleteTopicsRequestTopic_1 : Fld := .mk 7 0 (-1) (-1) (-1) 0 0 []
def fs_DeleteTopicsRequestTopic : List Fld := [fDeleteTopicsRequestTopic_0, fDeleteTopicsRequestTopic_1]
def fDeleteTopicsRequest_0 : Fld := .mk 11 0 5 (-1) (-1) 0 8 []
def fDeleteTopicsRequest_1 : Fld := .mk 11 6 (-1) (-1) (-1) 0 10 fs_DeleteTopicsRequestTopic
def fDeleteTopicsRequest_2 : Fld := .mk 3 0 (-1) (-1) (-1) 15000 0 []
def fs_DeleteTopicsRequest : List Fld := [fDeleteTopicsRequest_0, fDeleteTopicsRequest_1, fDeleteTopicsRequest_2]

set_option maxHeartbeats 2000000 in
theorem makeDeleteTopicsRequestTopic_fn {d : Nat} {okT : Blocks} {V : Int} (t : Tree) (ct : List Value) (w : World) (ht : TreeC okT w t ct) (hfit : FitP V (d + 1) fs_DeleteTopicsRequestTopic t) (hLs : Lists t) :
    Fn Try.prog 151 #[.agg ct.toArray] w fun r w' => (∃ cs, r = .agg cs.toArray ∧ RepS true (d + 1) fs_DeleteTopicsRequestTopic (okN okT w.heap.size) w' t cs) ∧ Ext w w' := by
  obtain ⟨vS, vL, vU, rfl, hn, hSx, hLx0, hUx⟩ := ht.inv
  obtain ⟨bS, cS, rfl, hcS⟩ := hSx.shape
  obtain ⟨bL, cL, rfl, hcL⟩ := SlR.shape hLx0
  obtain ⟨bU, cU, rfl, hcU⟩ := SlR.shape hUx
  obtain ⟨⟨g0, g1, -⟩, hfu⟩ := hfit
  replace g0 : FitF (FitP V d) V fDeleteTopicsRequestTopic_0 (t.at 0) := g0
  replace g1 : FitF (FitP V d) V fDeleteTopicsRequestTopic_1 (t.at 1) := g1
  have hllt : t.l.length < 4611686018427387903 := Nat.lt_of_le_of_lt hLs.len (by decide)
  have hul := hLs.ulen
  refine fn_of_W Try.func151 rfl Try.results151 Try.ntmps151 rfl ?_
  obtain ⟨w1, hw1⟩ : ∃ w1, w1 = (((w.alloc (.cells #[.int .i64 t.n, .slice bS t.s.length cS, .bool t.null, .slice bL t.l.length cL, .slice bU t.u.length cU] 39)).alloc (.cells #[.pointer none, .int .u8 0, .int .u8 0, .int .u8 0, .int .u8 0, .int .u8 0, .int .u8 0, .int .u8 0, .int .u8 0, .int .u8 0, .int .u8 0, .int .u8 0, .int .u8 0, .int .u8 0, .int .u8 0, .int .u8 0, .int .u8 0, .map none] 170)).alloc (.cells #[.pointer none, .int .u8 0, .int .u8 0, .int .u8 0, .int .u8 0, .int .u8 0, .int .u8 0, .int .u8 0, .int .u8 0, .int .u8 0, .int .u8 0, .int .u8 0, .int .u8 0, .int .u8 0, .int .u8 0, .int .u8 0, .int .u8 0, .map none] 170)) := ⟨_, rfl⟩
  have hE1 : Ext w w1 := by rw [hw1]; exact ((Upd.refl _ _).alloc _).alloc _ |>.alloc _
  have hz1 : w1.heap.size = w.heap.size + 3 := by rw [hw1]; simp only [World.size_alloc]
  have htb1 : blk w1 w.heap.size = some (#[.int .i64 t.n, .slice bS t.s.length cS, .bool t.null, .slice bL t.l.length cL, .slice bU t.u.length cU], 39, (0, 0)) := by rw [hw1]; simp (maxSteps := 1000000) (disch := (first | omega | (simp only [World.size_alloc, size_wr, size_drew] <;> omega) | exact not_noB _)) only [go_sem, ↓reduceIte, n0, reduceCtorEq, n1, n2, n3, n4, n5, i0, i1, i2, i3, i4, i5, i6, i7]
  have hrb1 : blk w1 (w.heap.size + 1) = some (#[.pointer none, .int .u8 0, .int .u8 0, .int .u8 0, .int .u8 0, .int .u8 0, .int .u8 0, .int .u8 0, .int .u8 0, .int .u8 0, .int .u8 0, .int .u8 0, .int .u8 0, .int .u8 0, .int .u8 0, .int .u8 0, .int .u8 0, .map none], 170, (0, 0)) := by rw [hw1]; simp (maxSteps := 1000000) (disch := (first | omega | (simp only [World.size_alloc, size_wr, size_drew] <;> omega) | exact not_noB _)) only [go_sem, ↓reduceIte, n0, reduceCtorEq, n1, n2, n3, n4, n5, i0, i1, i2, i3, i4, i5, i6, i7]
  have hb1 : blk w1 (w.heap.size + 2) = some (#[.pointer none, .int .u8 0, .int .u8 0, .int .u8 0, .int .u8 0, .int .u8 0, .int .u8 0, .int .u8 0, .int .u8 0, .int .u8 0, .int .u8 0, .int .u8 0, .int .u8 0, .int .u8 0, .int .u8 0, .int .u8 0, .int .u8 0, .map none], 170, (0, 0)) := by rw [hw1]; simp (maxSteps := 1000000) (disch := (first | omega | (simp only [World.size_alloc, size_wr, size_drew] <;> omega) | exact not_noB _)) only [go_sem, ↓reduceIte, n0, reduceCtorEq, n1, n2, n3, n4, n5, i0, i1, i2, i3, i4, i5, i6, i7]
  have hoS : ∀ b, (OkS okT w.heap.size) b → b ≠ (w.heap.size + 2) := fun b h => by have := h.2; omega
  have hoR : ∀ b, (OkF okT w.heap.size w1.heap.size) b → b ≠ w.heap.size + 1 := fun b h => by
    rcases h with h | h
    · have := h.2; omega
    · omega
  have htv : ¬ w.heap.size = (w.heap.size + 2) := by omega
  have hoF : ∀ b, (OkF okT w.heap.size w1.heap.size) b → b ≠ (w.heap.size + 2) := fun b h => by
    rcases h with h | h
    · exact hoS b h
    · omega
  have hU1 : Upd (fun b => b = (w.heap.size + 2)) w1 w1 := Upd.refl _ _
  have hvl1 := blk_lt hb1
  have hsz1 := Nat.le_refl w1.heap.size
  have ht1 : TreeC (OkS okT w.heap.size) w1 t [.int .i64 t.n, .slice bS t.s.length cS, .bool t.null, .slice bL t.l.length cL, .slice bU t.u.length cU] := (ht.weaken fun b h1 h2 => ⟨h2, h1⟩).keep (hE1.keeps _)
  have hU1v : TagsV (OkS okT w.heap.size) w1 (.slice bU t.u.length cU) t.u := (hUx.weaken fun b h1 h2 => ⟨h2, h1⟩).keep (hE1.keeps _)
  repeat ((first | refine W.seqR rfl ?_ | refine W.seq ?_ | refine W.regR rfl ?_ | refine W.condK ?_ | refine W.block ?_ | refine W.skip ?_ | refine W.ret ?_ | refine W.exit ?_); try simp (maxSteps := 1000000) (disch := (first | omega | (simp only [World.size_alloc, size_wr, size_drew] <;> omega) | exact not_noB _)) only [go_sem, ↓reduceIte, n0, reduceCtorEq, n1, n2, n3, n4, n5, i0, i1, i2, i3, i4, i5, i6, i7])
  rw [← hw1]
  clear hw1
  refine (iat_fn (ok := (OkS okT w.heap.size)) t 0 _ _ (ht1.keep (hU1.keeps fun b _ hk e => hoS b hk e)) (by decide) hllt).mono ?_
  rintro r2 w2 ⟨⟨ca2, rfl, hca2⟩, hEa2⟩
  obtain ⟨vSa2, vLa2, vUa2, rfl, hna2, hSa2, hLa2, hUa2⟩ := hca2.inv
  obtain ⟨bSa2, cSa2, rfl, hcSa2⟩ := hSa2.shape
  obtain ⟨bLa2, cLa2, rfl, hcLa2⟩ := SlR.shape hLa2
  have hfU2 := SlR.flat hUa2
  clear hcSa2 hcLa2 hna2
  have hV2 : Upd (fun b => b = (w.heap.size + 2)) w1 w2 := hEa2.mono fun _ h => h.elim
  have hU2 : Upd (fun b => b = (w.heap.size + 2)) w1 w2 := hU1.trans hV2
  have htb2 := hU2.blk_some htb1 htv
  have hvl2 : (w.heap.size + 2) < w2.heap.size := Nat.lt_of_lt_of_le hvl1 hU2.size
  have hsz2 := hU2.size
  have hb2 : blk w2 (w.heap.size + 2) = some (#[.pointer none, .int .u8 0, .int .u8 0, .int .u8 0, .int .u8 0, .int .u8 0, .int .u8 0, .int .u8 0, .int .u8 0, .int .u8 0, .int .u8 0, .int .u8 0, .int .u8 0, .int .u8 0, .int .u8 0, .int .u8 0, .int .u8 0, .map none], 170, (0, 0)) := hEa2.blk_some hb1 id
  simp (maxSteps := 1000000) (disch := (first | omega | (simp only [World.size_alloc, size_wr, size_drew] <;> omega) | exact not_noB _)) only [go_sem, ↓reduceIte, n0, reduceCtorEq, n1, n2, n3, n4, n5, i0, i1, i2, i3, i4, i5, i6, i7, hb2, htb2]
  refine (textOf_fn (okT := (OkS okT w.heap.size)) (t.at 0) _ _ hca2).mono ?_
  rintro r3 w3 ⟨hp3, hEa3⟩
  have hsp3 := hsz2
  have hV3 : Upd (fun b => b = (w.heap.size + 2)) w2 w3 := hEa3.mono fun _ h => h.elim
  have hU3 : Upd (fun b => b = (w.heap.size + 2)) w1 w3 := hU2.trans hV3
  have htb3 := hU3.blk_some htb1 htv
  have hvl3 : (w.heap.size + 2) < w3.heap.size := Nat.lt_of_lt_of_le hvl1 hU3.size
  have hsz3 := hU3.size
  clear hvl2 hsz2
  have hb3 : blk w3 (w.heap.size + 2) = some (#[.pointer none, .int .u8 0, .int .u8 0, .int .u8 0, .int .u8 0, .int .u8 0, .int .u8 0, .int .u8 0, .int .u8 0, .int .u8 0, .int .u8 0, .int .u8 0, .int .u8 0, .int .u8 0, .int .u8 0, .int .u8 0, .int .u8 0, .map none], 170, (0, 0)) := hEa3.blk_some hb2 id
  obtain ⟨ap0, rfl⟩ := hp3.shape
  simp (maxSteps := 1000000) (disch := (first | omega | (simp only [World.size_alloc, size_wr, size_drew] <;> omega) | exact not_noB _)) only [go_sem, ↓reduceIte, n0, reduceCtorEq, n1, n2, n3, n4, n5, i0, i1, i2, i3, i4, i5, i6, i7, hb3, htb3]
  generalize hw4 : wr w3 (w.heap.size + 2) 0 [.pointer ap0] = w4
  have hV4 : Upd (fun b => b = (w.heap.size + 2)) w3 w4 := by rw [← hw4]; exact (Upd.refl _ _).wr _ _ (.inr rfl)
  have hb4 : blk w4 (w.heap.size + 2) = some (#[.pointer ap0, .int .u8 0, .int .u8 0, .int .u8 0, .int .u8 0, .int .u8 0, .int .u8 0, .int .u8 0, .int .u8 0, .int .u8 0, .int .u8 0, .int .u8 0, .int .u8 0, .int .u8 0, .int .u8 0, .int .u8 0, .int .u8 0, .map none], 170, (0, 0)) := by rw [← hw4, blk_wr_eq, hb3]; rfl
  have hU4 : Upd (fun b => b = (w.heap.size + 2)) w1 w4 := hU3.trans hV4
  have htb4 := hU4.blk_some htb1 htv
  have hvl4 : (w.heap.size + 2) < w4.heap.size := Nat.lt_of_lt_of_le hvl1 hU4.size
  have hsz4 := hU4.size
  clear hvl3 hsz3
  clear hw4
  have hf0 : RepF (RepS true d) (szS true d) fDeleteTopicsRequestTopic_0 (OkF okT w.heap.size w1.heap.size) w4 (t.at 0) [.pointer ap0] := (RepF_ptr rfl (by decide)).2 ⟨_, rfl, (hp3.weaken fun b _ hk => .inr (Nat.le_trans hsp3 hk)).keep (hV4.keeps fun b _ hk e => hoF b hk e)⟩
  repeat ((first | refine W.seqR rfl ?_ | refine W.seq ?_ | refine W.regR rfl ?_ | refine W.condK ?_ | refine W.block ?_ | refine W.skip ?_ | refine W.ret ?_ | refine W.exit ?_); try simp (maxSteps := 1000000) (disch := (first | omega | (simp only [World.size_alloc, size_wr, size_drew] <;> omega) | exact not_noB _)) only [go_sem, ↓reduceIte, n0, reduceCtorEq, n1, n2, n3, n4, n5, i0, i1, i2, i3, i4, i5, i6, i7, hb4, htb4])
  refine (iat_fn (ok := (OkS okT w.heap.size)) t 1 _ _ (ht1.keep (hU4.keeps fun b _ hk e => hoS b hk e)) (by decide) hllt).mono ?_
  rintro r5 w5 ⟨⟨ca5, rfl, hca5⟩, hEa5⟩
  obtain ⟨vSa5, vLa5, vUa5, rfl, hna5, hSa5, hLa5, hUa5⟩ := hca5.inv
  obtain ⟨bSa5, cSa5, rfl, hcSa5⟩ := hSa5.shape
  obtain ⟨bLa5, cLa5, rfl, hcLa5⟩ := SlR.shape hLa5
  have hfU5 := SlR.flat hUa5
  clear hcSa5 hcLa5 hna5
  have hV5 : Upd (fun b => b = (w.heap.size + 2)) w4 w5 := hEa5.mono fun _ h => h.elim
  have hU5 : Upd (fun b => b = (w.heap.size + 2)) w1 w5 := hU4.trans hV5
  have htb5 := hU5.blk_some htb1 htv
  have hvl5 : (w.heap.size + 2) < w5.heap.size := Nat.lt_of_lt_of_le hvl1 hU5.size
  have hsz5 := hU5.size
  clear hvl4 hsz4
  have hb5 : blk w5 (w.heap.size + 2) = some (#[.pointer ap0, .int .u8 0, .int .u8 0, .int .u8 0, .int .u8 0, .int .u8 0, .int .u8 0, .int .u8 0, .int .u8 0, .int .u8 0, .int .u8 0, .int .u8 0, .int .u8 0, .int .u8 0, .int .u8 0, .int .u8 0, .int .u8 0, .map none], 170, (0, 0)) := hEa5.blk_some hb4 id
  simp (maxSteps := 1000000) (disch := (first | omega | (simp only [World.size_alloc, size_wr, size_drew] <;> omega) | exact not_noB _)) only [go_sem, ↓reduceIte, n0, reduceCtorEq, n1, n2, n3, n4, n5, i0, i1, i2, i3, i4, i5, i6, i7, hb5, htb5]
  refine (sixteen_fn (okT := (OkS okT w.heap.size)) _ (t.at 1).s _ hSa5).mono ?_
  rintro r6 w6 ⟨hp6, hEa6⟩
  have hsp6 := hsz5
  have hV6 : Upd (fun b => b = (w.heap.size + 2)) w5 w6 := hEa6.mono fun _ h => h.elim
  have hU6 : Upd (fun b => b = (w.heap.size + 2)) w1 w6 := hU5.trans hV6
  have htb6 := hU6.blk_some htb1 htv
  have hvl6 : (w.heap.size + 2) < w6.heap.size := Nat.lt_of_lt_of_le hvl1 hU6.size
  have hsz6 := hU6.size
  clear hvl5 hsz5
  have hb6 : blk w6 (w.heap.size + 2) = some (#[.pointer ap0, .int .u8 0, .int .u8 0, .int .u8 0, .int .u8 0, .int .u8 0, .int .u8 0, .int .u8 0, .int .u8 0, .int .u8 0, .int .u8 0, .int .u8 0, .int .u8 0, .int .u8 0, .int .u8 0, .int .u8 0, .int .u8 0, .map none], 170, (0, 0)) := hEa6.blk_some hb5 id
  subst hp6
  have hl16_1 : ((uuidS (t.at 1).s).map byteV).length = 16 := by rw [List.length_map, uuidS_len]
  have hx16_1 := flat_bytes (uuidS (t.at 1).s)
  generalize hX1 : (uuidS (t.at 1).s).map byteV = X1 at *
  obtain ⟨x1_0, x1_1, x1_2, x1_3, x1_4, x1_5, x1_6, x1_7, x1_8, x1_9, x1_10, x1_11, x1_12, x1_13, x1_14, x1_15, rfl⟩ := list16 hl16_1
  simp only [List.all_cons, List.all_nil, Bool.and_true, Bool.and_eq_true] at hx16_1
  obtain ⟨fx1_0, fx1_1, fx1_2, fx1_3, fx1_4, fx1_5, fx1_6, fx1_7, fx1_8, fx1_9, fx1_10, fx1_11, fx1_12, fx1_13, fx1_14, fx1_15⟩ := hx16_1
  simp (maxSteps := 1000000) (disch := (first | omega | (simp only [World.size_alloc, size_wr, size_drew] <;> omega) | exact not_noB _)) only [go_sem, ↓reduceIte, n0, reduceCtorEq, n1, n2, n3, n4, n5, i0, i1, i2, i3, i4, i5, i6, i7, hb6, htb6, fx1_0, fx1_1, fx1_2, fx1_3, fx1_4, fx1_5, fx1_6, fx1_7, fx1_8, fx1_9, fx1_10, fx1_11, fx1_12, fx1_13, fx1_14, fx1_15]
  generalize hw7 : wr w6 (w.heap.size + 2) 1 [x1_0, x1_1, x1_2, x1_3, x1_4, x1_5, x1_6, x1_7, x1_8, x1_9, x1_10, x1_11, x1_12, x1_13, x1_14, x1_15] = w7
  have hV7 : Upd (fun b => b = (w.heap.size + 2)) w6 w7 := by rw [← hw7]; exact (Upd.refl _ _).wr _ _ (.inr rfl)
  have hb7 : blk w7 (w.heap.size + 2) = some (#[.pointer ap0, x1_0, x1_1, x1_2, x1_3, x1_4, x1_5, x1_6, x1_7, x1_8, x1_9, x1_10, x1_11, x1_12, x1_13, x1_14, x1_15, .map none], 170, (0, 0)) := by rw [← hw7, blk_wr_eq, hb6]; simp only [Option.map_some, wrArr_cons, wrArr_nil, List.setIfInBounds_toArray, List.set_cons_zero, List.set_cons_succ, Nat.reduceAdd]
  have hU7 : Upd (fun b => b = (w.heap.size + 2)) w1 w7 := hU6.trans hV7
  have htb7 := hU7.blk_some htb1 htv
  have hvl7 : (w.heap.size + 2) < w7.heap.size := Nat.lt_of_lt_of_le hvl1 hU7.size
  have hsz7 := hU7.size
  clear hvl6 hsz6
  clear hw7
  have hf1 : RepF (RepS true d) (szS true d) fDeleteTopicsRequestTopic_1 (OkF okT w.heap.size w1.heap.size) w7 (t.at 1) [x1_0, x1_1, x1_2, x1_3, x1_4, x1_5, x1_6, x1_7, x1_8, x1_9, x1_10, x1_11, x1_12, x1_13, x1_14, x1_15] := (RepF_uuid rfl).2 hX1.symm
  repeat ((first | refine W.seqR rfl ?_ | refine W.seq ?_ | refine W.regR rfl ?_ | refine W.condK ?_ | refine W.block ?_ | refine W.skip ?_ | refine W.ret ?_ | refine W.exit ?_); try simp (maxSteps := 1000000) (disch := (first | omega | (simp only [World.size_alloc, size_wr, size_drew] <;> omega) | exact not_noB _)) only [go_sem, ↓reduceIte, n0, reduceCtorEq, n1, n2, n3, n4, n5, i0, i1, i2, i3, i4, i5, i6, i7, hb7, htb7])
  have hUv := hU1v.keep (hU7.keeps fun b _ hk e => hoS b hk e)
  refine W.loop (fun ρ w' => ∃ (j : Nat) (q : Option Nat), j ≤ t.u.length ∧ ρ 18 = .int .i64 j ∧ ρ 17 = .int .i64 t.u.length ∧ ρ 16 = .slice bU t.u.length cU ∧ ρ 1 = .pointer (some ⟨w.heap.size, 0, none⟩) ∧ ρ 2 = .pointer (some ⟨w.heap.size + 1, 0, none⟩) ∧ ρ 3 = .pointer (some ⟨(w.heap.size + 2), 0, none⟩) ∧ blk w' (w.heap.size + 2) = some (#[.pointer ap0, x1_0, x1_1, x1_2, x1_3, x1_4, x1_5, x1_6, x1_7, x1_8, x1_9, x1_10, x1_11, x1_12, x1_13, x1_14, x1_15, .map q], 170, (0, 0)) ∧ TagsG (OkS okT w.heap.size) w7.heap.size w' (.map q) (t.u.take j) ∧ Upd (fun b => b = (w.heap.size + 2)) w7 w')
      (fun ρ _ => t.u.length - (RowKit.intOf (ρ 18)).toNat) ?_ ?_
  · refine ⟨0, none, Nat.zero_le _, ?_, ?_, ?_, ?_, ?_, ?_, hb7, TagsG.start _ _ _, Upd.refl _ _⟩ <;> simp (maxSteps := 1000000) (disch := (first | omega | (simp only [World.size_alloc, size_wr, size_drew] <;> omega) | exact not_noB _)) only [go_sem, ↓reduceIte, n0, reduceCtorEq, n1, n2, n3, n4, n5, i0, i1, i2, i3, i4, i5, i6, i7]
    all_goals rfl
  · rintro ρ w_6 ⟨j, q, hj, hI, hN, hS, hr1, hr2, hr3, hbv, hG, hU_6⟩
    have hz_6 := hU_6.size
    have hUv_6 := hUv.keep (hU_6.keeps fun b _ hk e => hoS b hk e)
    have hU_16 : Upd (fun b => b = (w.heap.size + 2)) w1 w_6 := hU7.trans hU_6
    have hz_16 := hU_16.size
    by_cases hlt : j < t.u.length
    · obtain ⟨_, b, o, x, vv, hb, hokb, hx, hblt, hxs, hxe, _, _, hfv, hbvv, h32⟩ := TagsV.get hUv_6 hlt
      subst hb
      have hcat : t.u.take (j + 1) = t.u.take j ++ [t.u[j]] := List.take_succ_eq_append_getElem hlt
      have hnew : ∀ z ∈ t.u.take j, z.1 ≠ t.u[j].1 := by
        intro z hz
        obtain ⟨k, hk, rfl⟩ := List.getElem_of_mem hz
        simp only [List.length_take] at hk
        have := List.pairwise_iff_getElem.1 hfu.2.2 k j (by omega) hlt (by omega)
        rw [List.getElem_take]; omega
      generalize t.u[j] = y at *
      obtain ⟨bSy, cSy, rfl, hcSy⟩ := hbvv.shape
      repeat ((first | refine W.seqR rfl ?_ | refine W.seq ?_ | refine W.regR rfl ?_ | refine W.condK ?_ | refine W.block ?_ | refine W.skip ?_ | refine W.ret ?_ | refine W.exit ?_); try simp (maxSteps := 1000000) (disch := (first | omega | (simp only [World.size_alloc, size_wr, size_drew] <;> omega) | exact not_noB _)) only [go_sem, ↓reduceIte, n0, reduceCtorEq, n1, n2, n3, n4, n5, i0, i1, i2, i3, i4, i5, i6, i7, hI, hN, hS, hx, hxe, hfv, cellsAt_two, Int.toNat_natCast])
      generalize hw_7 : (wr (w_6.alloc (.cells #[.int .u32 0, .slice none 0 0] 64)) w_6.heap.size 0 [.int .u32 y.1, .slice bSy y.2.length cSy]) = w_7
      have hE_7 : Ext w_6 w_7 := by rw [← hw_7]; exact (Upd.alloc (Upd.refl _ _) _).wr _ _ (.inl (Nat.le_refl _))
      have hb_7 : blk w_7 w_6.heap.size = some (#[.int .u32 y.1, .slice bSy y.2.length cSy], 64, (0, 0)) := by rw [← hw_7]; simp (maxSteps := 1000000) (disch := (first | omega | (simp only [World.size_alloc, size_wr, size_drew] <;> omega) | exact not_noB _)) only [go_sem, ↓reduceIte, n0, reduceCtorEq, n1, n2, n3, n4, n5, i0, i1, i2, i3, i4, i5, i6, i7]
      have hz_7 : w_7.heap.size = w_6.heap.size + 1 := by rw [← hw_7]; simp only [size_wr, World.size_alloc]
      clear hw_7
      have hbt_7 := hE_7.blk_some hbv id
      simp (maxSteps := 1000000) (disch := (first | omega | (simp only [World.size_alloc, size_wr, size_drew] <;> omega) | exact not_noB _)) only [go_sem, ↓reduceIte, n0, reduceCtorEq, n1, n2, n3, n4, n5, i0, i1, i2, i3, i4, i5, i6, i7, hr1, hr2, hr3, hbt_7, hb_7, cellsAt_two]
      have hE_7d : Ext w_7 w_7 := Upd.refl _ _
      have hE_6d : Ext w_6 w_7 := hE_7.trans hE_7d
      have hG_7 : TagsG (OkS okT w.heap.size) w7.heap.size w_7 (.map q) (t.u.take j) := hG.keep fun b hb _ => hE_6d.keep b hb id
      have hbt_8 := hE_7d.blk_some hbt_7 id
      have hm_8 : (#[.pointer ap0, x1_0, x1_1, x1_2, x1_3, x1_4, x1_5, x1_6, x1_7, x1_8, x1_9, x1_10, x1_11, x1_12, x1_13, x1_14, x1_15, .map q] : Array Value)[17]? = some (.map q) := rfl
      refine (TagsSet_fn (okT := (OkS okT w.heap.size)) (L := w7.heap.size) w_7 hG_7 (by have := hE_6d.size; omega) (by omega) hbt_8 (o := 17) hm_8 (thaw_00 _ _) y _ ((hbvv.weaken fun b _ hk => ⟨hk, by have := hk.2; omega⟩).keep (hE_6d.keeps _)) h32 hnew hoS).mono ?_
      rintro _ w_8 ⟨m', hb_8, hG_8, hM_8⟩
      simp only [List.setIfInBounds_toArray, List.set_cons_succ, List.set_cons_zero] at hb_8
      repeat ((first | refine W.seqR rfl ?_ | refine W.seq ?_ | refine W.regR rfl ?_ | refine W.condK ?_ | refine W.block ?_ | refine W.skip ?_ | refine W.ret ?_ | refine W.exit ?_); try simp (maxSteps := 1000000) (disch := (first | omega | (simp only [World.size_alloc, size_wr, size_drew] <;> omega) | exact not_noB _)) only [go_sem, ↓reduceIte, n0, reduceCtorEq, n1, n2, n3, n4, n5, i0, i1, i2, i3, i4, i5, i6, i7, hI])
      refine ⟨⟨j + 1, m', by omega, rfl, hN, hS, hr1, hr2, hr3, hb_8, by rw [hcat]; exact hG_8, ?_⟩, ?_⟩
      · exact hU_6.more ((hE_6d.mono fun _ h => h.elim).trans hM_8) fun b hb h => by
          rcases h with h | h
          · exact h
          · cases h; have := (hG.lt rfl).2; omega
      · simp only [RowKit.intOf]; omega
    · have hjl : j = t.u.length := by omega
      subst hjl
      rw [List.take_length] at hG
      have hT6 : Upd (fun b => b = (w.heap.size + 2)) w6 w_6 := hV7.trans hU_6
      have hT5 : Upd (fun b => b = (w.heap.size + 2)) w5 w_6 := hV6.trans hT6
      have hT4 : Upd (fun b => b = (w.heap.size + 2)) w4 w_6 := hV5.trans hT5
      have hT3 : Upd (fun b => b = (w.heap.size + 2)) w3 w_6 := hV4.trans hT4
      have hT2 : Upd (fun b => b = (w.heap.size + 2)) w2 w_6 := hV3.trans hT3
      have hT1 : Upd (fun b => b = (w.heap.size + 2)) w1 w_6 := hV2.trans hT2
      have hz0_f := hf0.keepS (hT4.keeps fun b _ hk e => hoF b hk e)
      have hz1_f := hf1.keepS (hU_6.keeps fun b _ hk e => hoF b hk e)
      have hTg := hG.tags (ok' := (OkF okT w.heap.size w1.heap.size)) (fun b _ hk => .inl hk) (fun b hb => .inr (by omega))
      have hL : RepL (RepS true d) (szS true d) (OkF okT w.heap.size w1.heap.size) w_6 t [fDeleteTopicsRequestTopic_0, fDeleteTopicsRequestTopic_1] 0 [.pointer ap0, x1_0, x1_1, x1_2, x1_3, x1_4, x1_5, x1_6, x1_7, x1_8, x1_9, x1_10, x1_11, x1_12, x1_13, x1_14, x1_15] := (RepL.cons1 hz0_f (RepL.cons16 hz1_f RepL.nil))
      have hR : RepS true (d + 1) fs_DeleteTopicsRequestTopic (OkF okT w.heap.size w1.heap.size) w_6 t [.pointer ap0, x1_0, x1_1, x1_2, x1_3, x1_4, x1_5, x1_6, x1_7, x1_8, x1_9, x1_10, x1_11, x1_12, x1_13, x1_14, x1_15, .map q] := RepS.intro (c := [.pointer ap0, x1_0, x1_1, x1_2, x1_3, x1_4, x1_5, x1_6, x1_7, x1_8, x1_9, x1_10, x1_11, x1_12, x1_13, x1_14, x1_15]) rfl hL hTg
      have hcA : cellsAt #[.pointer ap0, x1_0, x1_1, x1_2, x1_3, x1_4, x1_5, x1_6, x1_7, x1_8, x1_9, x1_10, x1_11, x1_12, x1_13, x1_14, x1_15, .map q] 0 18 = some (.agg #[.pointer ap0, x1_0, x1_1, x1_2, x1_3, x1_4, x1_5, x1_6, x1_7, x1_8, x1_9, x1_10, x1_11, x1_12, x1_13, x1_14, x1_15, .map q]) := cellsAt_full rfl
      have hrb_6 := hT1.blk_some hrb1 (by omega)
      repeat ((first | refine W.seqR rfl ?_ | refine W.seq ?_ | refine W.regR rfl ?_ | refine W.condK ?_ | refine W.block ?_ | refine W.skip ?_ | refine W.ret ?_ | refine W.exit ?_); try simp (maxSteps := 1000000) (disch := (first | omega | (simp only [World.size_alloc, size_wr, size_drew] <;> omega) | exact not_noB _)) only [go_sem, ↓reduceIte, n0, reduceCtorEq, n1, n2, n3, n4, n5, i0, i1, i2, i3, i4, i5, i6, i7, hI, hN, hr1, hr2, hr3, hbv, hrb_6, hcA, fx1_0, fx1_1, fx1_2, fx1_3, fx1_4, fx1_5, fx1_6, fx1_7, fx1_8, fx1_9, fx1_10, fx1_11, fx1_12, fx1_13, fx1_14, fx1_15])
      have hUr : Upd (fun b => b = w.heap.size + 1) w_6 (wr w_6 (w.heap.size + 1) 0 [.pointer ap0, x1_0, x1_1, x1_2, x1_3, x1_4, x1_5, x1_6, x1_7, x1_8, x1_9, x1_10, x1_11, x1_12, x1_13, x1_14, x1_15, .map q]) := (Upd.refl _ _).wr _ _ (.inr rfl)
      refine ⟨⟨_, rfl, (RepS_lay true (d + 1) fs_DeleteTopicsRequestTopic).weaken ((RepS_lay true (d + 1) fs_DeleteTopicsRequestTopic).keep hR (hUr.keeps fun b _ hk e => hoR b hk e)) (fun b _ hk => hk.imp And.left fun h => by omega)⟩, ?_⟩
      exact (hE1.more hT1 fun b hb h => by omega).wr _ _ (.inl (by omega))

set_option maxHeartbeats 2000000 in
theorem fillDeleteTopicsRequest_fn {d : Nat} {okT : Blocks} {V ver : Int} (t : Tree) (ct : List Value) (w : World) {vb : Nat} (hvb : blk w vb = some (#[.int .i16 ver, .slice none 0 0, .slice none 0 0, .int .i32 0, .map none], 98, (0, 0))) (ht : TreeC okT w t ct) (hok : ∀ b, okT b → b ≠ vb) (hfit : FitP V (d + 2) fs_DeleteTopicsRequest t) (hLs : Lists t) :
    Fn Try.prog 87 #[.pointer (some ⟨vb, 0, none⟩), .agg ct.toArray] w fun _ w' => ∃ cells, blk w' vb = some ((.int .i16 ver :: cells).toArray, 98, (0, 0)) ∧ RepS true (d + 2) fs_DeleteTopicsRequest (okN okT w.heap.size) w' t cells ∧ Upd (fun b => b = vb) w w' := by
  obtain ⟨vS, vL, vU, rfl, hn, hSx, hLx0, hUx⟩ := ht.inv
  obtain ⟨bS, cS, rfl, hcS⟩ := hSx.shape
  obtain ⟨bL, cL, rfl, hcL⟩ := SlR.shape hLx0
  obtain ⟨bU, cU, rfl, hcU⟩ := SlR.shape hUx
  obtain ⟨⟨g0, g1, g2, -⟩, hfu⟩ := hfit
  replace g0 : FitF (FitP V (d + 1)) V fDeleteTopicsRequest_0 (t.at 0) := g0
  replace g1 : FitF (FitP V (d + 1)) V fDeleteTopicsRequest_1 (t.at 1) := g1
  replace g2 : FitF (FitP V (d + 1)) V fDeleteTopicsRequest_2 (t.at 2) := g2
  have hllt : t.l.length < 4611686018427387903 := Nat.lt_of_le_of_lt hLs.len (by decide)
  have hul := hLs.ulen
  have hvl := blk_lt hvb
  refine fn_of_W Try.func87 rfl Try.results87 Try.ntmps87 rfl ?_
  obtain ⟨w1, hw1⟩ : ∃ w1, w1 = (w.alloc (.cells #[.int .i64 t.n, .slice bS t.s.length cS, .bool t.null, .slice bL t.l.length cL, .slice bU t.u.length cU] 39)) := ⟨_, rfl⟩
  have hE1 : Ext w w1 := by rw [hw1]; exact Upd.alloc (Upd.refl _ _) _
  have hz1 : w1.heap.size = w.heap.size + 1 := by rw [hw1, World.size_alloc]
  have htb1 : blk w1 w.heap.size = some (#[.int .i64 t.n, .slice bS t.s.length cS, .bool t.null, .slice bL t.l.length cL, .slice bU t.u.length cU], 39, (0, 0)) := by rw [hw1]; exact blk_alloc_new rfl
  have hb1 : blk w1 vb = some (#[.int .i16 ver, .slice none 0 0, .slice none 0 0, .int .i32 0, .map none], 98, (0, 0)) := hE1.blk_some hvb id
  have hoS : ∀ b, (OkS okT w.heap.size) b → b ≠ vb := fun b h => hok b h.1
  have htv : ¬ w.heap.size = vb := by omega
  have hoF : ∀ b, (OkF okT w.heap.size w1.heap.size) b → b ≠ vb := fun b h => by
    rcases h with h | h
    · exact hoS b h
    · omega
  have hU1 : Upd (fun b => b = vb) w1 w1 := Upd.refl _ _
  have hvl1 := blk_lt hb1
  have hsz1 := Nat.le_refl w1.heap.size
  have ht1 : TreeC (OkS okT w.heap.size) w1 t [.int .i64 t.n, .slice bS t.s.length cS, .bool t.null, .slice bL t.l.length cL, .slice bU t.u.length cU] := (ht.weaken fun b h1 h2 => ⟨h2, h1⟩).keep (hE1.keeps _)
  have hU1v : TagsV (OkS okT w.heap.size) w1 (.slice bU t.u.length cU) t.u := (hUx.weaken fun b h1 h2 => ⟨h2, h1⟩).keep (hE1.keeps _)
  have hn0_0 : (t.at 0).null = false := g0.notnull (by decide)
  have hll0 := (g0.list rfl).1
  repeat ((first | refine W.seqR rfl ?_ | refine W.seq ?_ | refine W.regR rfl ?_ | refine W.condK ?_ | refine W.block ?_ | refine W.skip ?_ | refine W.ret ?_ | refine W.exit ?_); try simp (maxSteps := 1000000) (disch := (first | omega | (simp only [World.size_alloc, size_wr, size_drew] <;> omega) | exact not_noB _)) only [go_sem, ↓reduceIte, n0, reduceCtorEq, n1, n2, n3, n4, n5, i0, i1, i2, i3, i4, i5, i6, i7])
  rw [← hw1]
  clear hw1
  refine (iat_fn (ok := (OkS okT w.heap.size)) t 0 _ _ (ht1.keep (hU1.keeps fun b _ hk e => hoS b hk e)) (by decide) hllt).mono ?_
  rintro r2 w2 ⟨⟨ca2, rfl, hca2⟩, hEa2⟩
  obtain ⟨vSa2, vLa2, vUa2, rfl, hna2, hSa2, hLa2, hUa2⟩ := hca2.inv
  obtain ⟨bSa2, cSa2, rfl, hcSa2⟩ := hSa2.shape
  obtain ⟨bLa2, cLa2, rfl, hcLa2⟩ := SlR.shape hLa2
  have hfU2 := SlR.flat hUa2
  clear hcSa2 hcLa2 hna2
  have hV2 : Upd (fun b => b = vb) w1 w2 := hEa2.mono fun _ h => h.elim
  have hU2 : Upd (fun b => b = vb) w1 w2 := hU1.trans hV2
  have htb2 := hU2.blk_some htb1 htv
  have hvl2 : vb < w2.heap.size := Nat.lt_of_lt_of_le hvl1 hU2.size
  have hsz2 := hU2.size
  have hb2 : blk w2 vb = some (#[.int .i16 ver, .slice none 0 0, .slice none 0 0, .int .i32 0, .map none], 98, (0, 0)) := hEa2.blk_some hb1 id
  simp (maxSteps := 1000000) (disch := (first | omega | (simp only [World.size_alloc, size_wr, size_drew] <;> omega) | exact not_noB _)) only [go_sem, ↓reduceIte, n0, reduceCtorEq, n1, n2, n3, n4, n5, i0, i1, i2, i3, i4, i5, i6, i7, hn0_0, hb2, htb2]
  repeat ((first | refine W.seqR rfl ?_ | refine W.seq ?_ | refine W.regR rfl ?_ | refine W.condK ?_ | refine W.block ?_ | refine W.skip ?_ | refine W.ret ?_ | refine W.exit ?_); try simp (maxSteps := 1000000) (disch := (first | omega | (simp only [World.size_alloc, size_wr, size_drew] <;> omega) | exact not_noB _)) only [go_sem, ↓reduceIte, n0, reduceCtorEq, n1, n2, n3, n4, n5, i0, i1, i2, i3, i4, i5, i6, i7, hb2, htb2])
  refine (iat_fn (ok := (OkS okT w.heap.size)) t 0 _ _ (ht1.keep (hU2.keeps fun b _ hk e => hoS b hk e)) (by decide) hllt).mono ?_
  rintro r3 w3 ⟨⟨ca3, rfl, hca3⟩, hEa3⟩
  obtain ⟨vSa3, vLa3, vUa3, rfl, hna3, hSa3, hLa3, hUa3⟩ := hca3.inv
  obtain ⟨bSa3, cSa3, rfl, hcSa3⟩ := hSa3.shape
  obtain ⟨bLa3, cLa3, rfl, hcLa3⟩ := SlR.shape hLa3
  have hfU3 := SlR.flat hUa3
  clear hcSa3 hcLa3 hna3
  have hV3 : Upd (fun b => b = vb) w2 w3 := hEa3.mono fun _ h => h.elim
  have hU3 : Upd (fun b => b = vb) w1 w3 := hU2.trans hV3
  have htb3 := hU3.blk_some htb1 htv
  have hvl3 : vb < w3.heap.size := Nat.lt_of_lt_of_le hvl1 hU3.size
  have hsz3 := hU3.size
  clear hvl2 hsz2
  have hb3 : blk w3 vb = some (#[.int .i16 ver, .slice none 0 0, .slice none 0 0, .int .i32 0, .map none], 98, (0, 0)) := hEa3.blk_some hb2 id
  simp (maxSteps := 1000000) (disch := (first | omega | (simp only [World.size_alloc, size_wr, size_drew] <;> omega) | exact not_noB _)) only [go_sem, ↓reduceIte, n0, reduceCtorEq, n1, n2, n3, n4, n5, i0, i1, i2, i3, i4, i5, i6, i7, hb3, htb3]
  refine wp_make (T := 71) (E := 9) (size := 1) (bytes := 16) (z := (.string ByteArray.empty)) (l := 0) (c := (t.at 0).l.length) (kl := .i64) (kc := .i64) (by kernel_rfl) (by kernel_rfl) (by simp (maxSteps := 1000000) (disch := (first | omega | (simp only [World.size_alloc, size_wr, size_drew] <;> omega) | exact not_noB _)) only [go_sem, ↓reduceIte, n0, reduceCtorEq, n1, n2, n3, n4, n5, i0, i1, i2, i3, i4, i5, i6, i7]; rfl) (by simp (maxSteps := 1000000) (disch := (first | omega | (simp only [World.size_alloc, size_wr, size_drew] <;> omega) | exact not_noB _)) only [go_sem, ↓reduceIte, n0, reduceCtorEq, n1, n2, n3, n4, n5, i0, i1, i2, i3, i4, i5, i6, i7]) (by omega) (by omega) (by omega) ?_
  simp (maxSteps := 1000000) (disch := (first | omega | (simp only [World.size_alloc, size_wr, size_drew] <;> omega) | exact not_noB _)) only [go_sem, ↓reduceIte, n0, reduceCtorEq, n1, n2, n3, n4, n5, i0, i1, i2, i3, i4, i5, i6, i7, hb3, hvl3, htb3]
  have hszB0 := hsz3
  generalize hw4 : wr (w3.alloc (.cells (madeCells #[.string ByteArray.empty] ((t.at 0).l.length * 1)) 9)) vb 1 [.slice (some ⟨w3.heap.size, 0, none⟩) 0 (t.at 0).l.length] = w4
  have hV4 : Upd (fun b => b = vb) w3 w4 := by rw [← hw4]; exact ((Upd.refl _ _).alloc _).wr _ _ (.inr rfl)
  have hb4 : blk w4 vb = some (#[.int .i16 ver, .slice (some ⟨w3.heap.size, 0, none⟩) 0 (t.at 0).l.length, .slice none 0 0, .int .i32 0, .map none], 98, (0, 0)) := by rw [← hw4, blk_wr_eq, blk_alloc_old hvl3, hb3]; rfl
  have hrow4 : blk w4 w3.heap.size = some (madeCells #[.string ByteArray.empty] ((t.at 0).l.length * 1), 9, (0, 0)) := by rw [← hw4, blk_wr_ne (Nat.ne_of_gt hvl3), blk_alloc_new rfl]
  have hg4 : GrowR (Rep1 (RepS true (d + 1)) fDeleteTopicsRequest_0.of fDeleteTopicsRequest_0.sub) 1 (OkF okT w.heap.size w1.heap.size) w3.heap.size vb w4 9 (.slice (some ⟨w3.heap.size, 0, none⟩) 0 (t.at 0).l.length) [] := GrowR.made hrow4 (size_madeCells _ _) (Nat.le_refl _)
  have hU4 : Upd (fun b => b = vb) w1 w4 := hU3.trans hV4
  have htb4 := hU4.blk_some htb1 htv
  have hvl4 : vb < w4.heap.size := Nat.lt_of_lt_of_le hvl1 hU4.size
  have hsz4 := hU4.size
  clear hvl3 hsz3
  clear hw4 hrow4
  repeat ((first | refine W.seqR rfl ?_ | refine W.seq ?_ | refine W.regR rfl ?_ | refine W.condK ?_ | refine W.block ?_ | refine W.skip ?_ | refine W.ret ?_ | refine W.exit ?_); try simp (maxSteps := 1000000) (disch := (first | omega | (simp only [World.size_alloc, size_wr, size_drew] <;> omega) | exact not_noB _)) only [go_sem, ↓reduceIte, n0, reduceCtorEq, n1, n2, n3, n4, n5, i0, i1, i2, i3, i4, i5, i6, i7, hb4, htb4])
  refine (iat_fn (ok := (OkS okT w.heap.size)) t 0 _ _ (ht1.keep (hU4.keeps fun b _ hk e => hoS b hk e)) (by decide) hllt).mono ?_
  rintro r5 w5 ⟨⟨ca5, rfl, hca5⟩, hEa5⟩
  obtain ⟨vSa5, vLa5, vUa5, rfl, hna5, hSa5, hLa5, hUa5⟩ := hca5.inv
  obtain ⟨bSa5, cSa5, rfl, hcSa5⟩ := hSa5.shape
  obtain ⟨bLa5, cLa5, rfl, hcLa5⟩ := SlR.shape hLa5
  have hfU5 := SlR.flat hUa5
  clear hcSa5 hcLa5 hna5
  have hV5 : Upd (fun b => b = vb) w4 w5 := hEa5.mono fun _ h => h.elim
  have hU5 : Upd (fun b => b = vb) w1 w5 := hU4.trans hV5
  have htb5 := hU5.blk_some htb1 htv
  have hvl5 : vb < w5.heap.size := Nat.lt_of_lt_of_le hvl1 hU5.size
  have hsz5 := hU5.size
  clear hvl4 hsz4
  have hb5 : blk w5 vb = some (#[.int .i16 ver, .slice (some ⟨w3.heap.size, 0, none⟩) 0 (t.at 0).l.length, .slice none 0 0, .int .i32 0, .map none], 98, (0, 0)) := hEa5.blk_some hb4 id
  have hg5 := hg4.ext (Rep1_lay _ _ fun _ => RepS_lay true (d + 1) _) hEa5
  simp (maxSteps := 1000000) (disch := (first | omega | (simp only [World.size_alloc, size_wr, size_drew] <;> omega) | exact not_noB _)) only [go_sem, ↓reduceIte, n0, reduceCtorEq, n1, n2, n3, n4, n5, i0, i1, i2, i3, i4, i5, i6, i7, hb5, htb5]
  repeat ((first | refine W.seqR rfl ?_ | refine W.seq ?_ | refine W.regR rfl ?_ | refine W.condK ?_ | refine W.block ?_ | refine W.skip ?_ | refine W.ret ?_ | refine W.exit ?_); try simp (maxSteps := 1000000) (disch := (first | omega | (simp only [World.size_alloc, size_wr, size_drew] <;> omega) | exact not_noB _)) only [go_sem, ↓reduceIte, n0, reduceCtorEq, n1, n2, n3, n4, n5, i0, i1, i2, i3, i4, i5, i6, i7, hb5, htb5])
  have hVb0 : Upd (fun b => b = vb) w3 w5 := hV4.trans hV5
  have hUb0 := hU3
  have hvlB0 : vb < w3.heap.size := Nat.lt_of_lt_of_le hvl1 hszB0
  have hszL0 : w3.heap.size ≤ w5.heap.size := hVb0.size
  refine W.exitJ 0 (fun ρ w' => ∃ v, ρ 0 = .pointer (some ⟨vb, 0, none⟩) ∧ ρ 3 = .pointer (some ⟨w.heap.size, 0, none⟩) ∧ blk w' vb = some (#[.int .i16 ver, v, .slice none 0 0, .int .i32 0, .map none], 98, (0, 0)) ∧ GrowR (Rep1 (RepS true (d + 1)) fDeleteTopicsRequest_0.of fDeleteTopicsRequest_0.sub) 1 (OkF okT w.heap.size w1.heap.size) w3.heap.size vb w' 9 v (t.at 0).l ∧ v ≠ .slice none 0 0 ∧ Upd (fun b => b = vb ∨ w3.heap.size ≤ b) w5 w')
    (W.loop (fun ρ w' => ∃ (j : Nat) (v : Value), j ≤ (t.at 0).l.length ∧ ρ 26 = .int .i64 j ∧ ρ 25 = .int .i64 (t.at 0).l.length ∧ ρ 24 = .slice bLa5 (t.at 0).l.length cLa5 ∧ ρ 0 = .pointer (some ⟨vb, 0, none⟩) ∧ ρ 3 = .pointer (some ⟨w.heap.size, 0, none⟩) ∧ blk w' vb = some (#[.int .i16 ver, v, .slice none 0 0, .int .i32 0, .map none], 98, (0, 0)) ∧ GrowR (Rep1 (RepS true (d + 1)) fDeleteTopicsRequest_0.of fDeleteTopicsRequest_0.sub) 1 (OkF okT w.heap.size w1.heap.size) w3.heap.size vb w' 9 v ((t.at 0).l.take j) ∧ v ≠ .slice none 0 0 ∧ Upd (fun b => b = vb ∨ w3.heap.size ≤ b) w5 w')
      (fun ρ _ => (t.at 0).l.length - (RowKit.intOf (ρ 26)).toNat) ?_ ?_) ?_
  · refine ⟨0, _, Nat.zero_le _, ?_, ?_, ?_, ?_, ?_, hb5, hg5, (by intro h; cases h), Upd.refl _ _⟩ <;> simp (maxSteps := 1000000) (disch := (first | omega | (simp only [World.size_alloc, size_wr, size_drew] <;> omega) | exact not_noB _)) only [go_sem, ↓reduceIte, n0, reduceCtorEq, n1, n2, n3, n4, n5, i0, i1, i2, i3, i4, i5, i6, i7]
    all_goals rfl
  · rintro ρ w_6 ⟨j, v, hj, hI, hN, hS, hr0, hr3, hbv, hg, hnil, hU_6⟩
    have hz_6 := hU_6.size
    have hJ_6 : Upd (fun b => b = vb) w3 w_6 := hVb0.more hU_6 fun b hb h => h.elim id fun h => absurd h (by omega)
    have hU_16 : Upd (fun b => b = vb) w1 w_6 := hUb0.trans hJ_6
    have hht_6 := hU_16.blk_some htb1 htv
    have hLt_6 := hLa5.keep (hU_6.keeps fun b _ hk e => e.elim (hoS b hk) fun e => by have := hk.2; omega)
    by_cases hlt : j < (t.at 0).l.length
    · obtain ⟨_, b, o, x, vS', vL', vU', hb, hokb, hx, hblt, hxs, hxe, q1, q2, q3, hc⟩ := TreesV.get hLt_6 hlt
      subst hb
      have hbS := (TreeC.inv hc)
      have hcat : (t.at 0).l.take (j + 1) = (t.at 0).l.take j ++ [(t.at 0).l[j]] := List.take_succ_eq_append_getElem hlt
      have hlen_9 : ((t.at 0).l.take j).length = j := by simp; omega
      have hgx := (g0.list rfl).2 _ (List.getElem_mem hlt)
      have hLx := (hLs.at 0).get hlt
      have hnb : ∀ b, b < w3.heap.size ∨ b = w_6.heap.size → ¬ ownB v b := fun b hb h => by
        have := hg.above h
        have := hg.below h
        omega
      generalize (t.at 0).l[j] = y at *
      obtain ⟨vSy, vLy, vUy, hcells, hny, hSy, hLy, hUy⟩ := hbS
      simp only [List.cons.injEq, true_and, and_true] at hcells
      obtain ⟨rfl, rfl, rfl⟩ := hcells
      obtain ⟨bSy, cSy, rfl, hcSy⟩ := hSy.shape
      repeat ((first | refine W.seqR rfl ?_ | refine W.seq ?_ | refine W.regR rfl ?_ | refine W.condK ?_ | refine W.block ?_ | refine W.skip ?_ | refine W.ret ?_ | refine W.exit ?_); try simp (maxSteps := 1000000) (disch := (first | omega | (simp only [World.size_alloc, size_wr, size_drew] <;> omega) | exact not_noB _)) only [go_sem, ↓reduceIte, n0, reduceCtorEq, n1, n2, n3, n4, n5, i0, i1, i2, i3, i4, i5, i6, i7, hI, hN, hS, hx, hxe, q1, q2, q3, cellsAt_five, Int.toNat_natCast])
      generalize hw_7 : (wr (w_6.alloc (.cells #[.int .i64 0, .slice none 0 0, .bool false, .slice none 0 0, .slice none 0 0] 39)) w_6.heap.size 0 [.int .i64 y.n, .slice bSy y.s.length cSy, .bool y.null, vL', vU']) = w_7
      have hE_7 : Ext w_6 w_7 := by rw [← hw_7]; exact (Upd.alloc (Upd.refl _ _) _).wr _ _ (.inl (Nat.le_refl _))
      have hb_7 : blk w_7 w_6.heap.size = some (#[.int .i64 y.n, .slice bSy y.s.length cSy, .bool y.null, vL', vU'], 39, (0, 0)) := by rw [← hw_7]; simp (maxSteps := 1000000) (disch := (first | omega | (simp only [World.size_alloc, size_wr, size_drew] <;> omega) | exact not_noB _)) only [go_sem, ↓reduceIte, n0, reduceCtorEq, n1, n2, n3, n4, n5, i0, i1, i2, i3, i4, i5, i6, i7]
      have hz_7 : w_7.heap.size = w_6.heap.size + 1 := by rw [← hw_7]; simp only [size_wr, World.size_alloc]
      have hbt_7 := hE_7.blk_some hbv id
      have hgv_7 := hE_7.blk_some hht_6 id
      have hc_7 := hc.keep (hE_7.keeps _)
      have hS_7 := hSy.keep (hE_7.keeps _)
      have hg_7 := hg.ext (Rep1_lay _ _ fun _ => RepS_lay true (d + 1) _) hE_7
      clear hw_7
      refine W.drawR (.take 0 (.take 1 (.take 2 (.take 3 (.take 4 (.take 5 (.take 6 (.only 7 (.only 8 (.only 9 (.take 10 (.take 11 (.last 12))))))))))))) (ownB v) mixed (by kernel_rfl) ?_
      simp (maxSteps := 1000000) (disch := (first | omega | (simp only [World.size_alloc, size_wr, size_drew] <;> omega) | exact not_noB _ | (refine hnb _ ?_; first | omega | (simp only [World.size_alloc, size_wr, size_drew] <;> omega)))) only [go_sem, ↓reduceIte, n0, reduceCtorEq, n1, n2, n3, n4, n5, i0, i1, i2, i3, i4, i5, i6, i7, hr0, hr3, hbt_7, hb_7, hgv_7, cellsAt_five]
      have hE_7d : Ext w_7 w_7.drew := (Upd.refl _ _).drew
      have hg_7d := hg_7.ext (Rep1_lay _ _ fun _ => RepS_lay true (d + 1) _) hE_7d
      have hzd : w_7.drew.heap.size = w_7.heap.size := size_drew _
      have hbt_7d := hE_7d.blk_some hbt_7 id
      refine wp_string (S := 22) (T := 9) (E := 5) (s := y.s) (ok := (OkS okT w.heap.size)) (by kernel_rfl) (by kernel_rfl) (by kernel_rfl) (by (try simp (maxSteps := 1000000) (disch := (first | omega | (simp only [World.size_alloc, size_wr, size_drew] <;> omega) | exact not_noB _)) only [go_sem, ↓reduceIte, n0, reduceCtorEq, n1, n2, n3, n4, n5, i0, i1, i2, i3, i4, i5, i6, i7]); exact hS_7.keep (hE_7d.keeps _)) ?_
      refine ⟨Upd.refl _ _, ?_⟩
      have hM_9 : Upd (ownB v) w_7.drew (w_7.drew.alloc (.cells #[strV y.s] 9)) := (Upd.refl _ _).alloc _
      simp (maxSteps := 1000000) (disch := (first | omega | (simp only [World.size_alloc, size_wr, size_drew] <;> omega) | exact not_noB _)) only [go_sem, ↓reduceIte, n0, reduceCtorEq, n1, n2, n3, n4, n5, i0, i1, i2, i3, i4, i5, i6, i7, hr0, hr3, hbt_7d]
      refine ⟨hM_9, ?_⟩
      have hE_79 : Ext w_7.drew (w_7.drew.alloc (.cells #[strV y.s] 9)) := Upd.alloc (Upd.refl _ _) _
      have hg_9 := hg_7d.ext (Rep1_lay _ _ fun _ => RepS_lay true (d + 1) _) hE_79
      have hx_9 : Rep1 (RepS true (d + 1)) fDeleteTopicsRequest_0.of fDeleteTopicsRequest_0.sub (fun b => (OkF okT w.heap.size w1.heap.size) b ∧ b ≠ vb ∧ ¬ ownB v b) (w_7.drew.alloc (.cells #[strV y.s] 9)) y [strV y.s] := Rep1_text.2 rfl
      obtain ⟨css, hown, hall⟩ := hg_9.ex
      have hcl_9 := hall.1
      refine wp_append ap_71_71 (m := 1) (news := [strV y.s]) (n := css.length) (cs := css.flatten) (v := v) ?_ rfl hown.1 (all2_flat_R (Rep1_lay _ _ fun _ => RepS_lay true (d + 1) _) hall) (Src.blk (fr := (0, 0)) (T := 9) (blk_alloc_new (by first | rfl | omega | (simp only [size_drew]; omega))) rfl rfl) ?_ ?_ ?_
      · simp (maxSteps := 1000000) (disch := (first | omega | (simp only [World.size_alloc, size_wr, size_drew] <;> omega) | exact not_noB _)) only [go_sem, ↓reduceIte, n0, reduceCtorEq, n1, n2, n3, n4, n5, i0, i1, i2, i3, i4, i5, i6, i7]
      · simp only [World.size_alloc, size_drew]; omega
      · omega
      intro v' w_10 ho hu hfr
      have hg_10 := GrowR.snoc (Rep1_lay _ _ fun _ => RepS_lay true (d + 1) _) hown hall hx_9 hu hfr ho
      have hz_10 := hu.size
      simp only [World.size_alloc, size_drew] at hz_10
      obtain ⟨va, vc, hv', _⟩ := ho.shape
      subst hv'
      have hbt_10 := (hM_9.trans hu).blk_some hbt_7d (hnb _ (.inl hvlB0))
      have htb' : ¬ ownB (.slice va (css.length + 1) vc) vb := fun h => by
        rcases hfr _ h with h | h
        · exact hnb _ (.inl hvlB0) h
        · simp only [World.size_alloc, size_drew] at h; omega
      simp (maxSteps := 1000000) (disch := (first | omega | (simp only [World.size_alloc, size_wr, size_drew] <;> omega) | exact not_noB _)) only [go_sem, ↓reduceIte, n0, reduceCtorEq, n1, n2, n3, n4, n5, i0, i1, i2, i3, i4, i5, i6, i7]
      refine ⟨hM_9.trans hu, ?_⟩
      simp (maxSteps := 1000000) (disch := (first | omega | (simp only [World.size_alloc, size_wr, size_drew] <;> omega) | exact not_noB _)) only [go_sem, ↓reduceIte, n0, reduceCtorEq, n1, n2, n3, n4, n5, i0, i1, i2, i3, i4, i5, i6, i7, hr0, hr3, hbt_10]
      repeat ((first | refine W.seqR rfl ?_ | refine W.seq ?_ | refine W.regR rfl ?_ | refine W.condK ?_ | refine W.block ?_ | refine W.skip ?_ | refine W.ret ?_ | refine W.exit ?_); try simp (maxSteps := 1000000) (disch := (first | omega | (simp only [World.size_alloc, size_wr, size_drew] <;> omega) | exact not_noB _)) only [go_sem, ↓reduceIte, n0, reduceCtorEq, n1, n2, n3, n4, n5, i0, i1, i2, i3, i4, i5, i6, i7, hI])
      refine ⟨⟨j + 1, .slice va (css.length + 1) vc, by omega, rfl, hN, hS, hr0, hr3, ?_, ?_, ?_, ?_⟩, ?_⟩
      · simp (maxSteps := 1000000) (disch := (first | omega | (simp only [World.size_alloc, size_wr, size_drew] <;> omega) | exact not_noB _)) only [go_sem, ↓reduceIte, n0, reduceCtorEq, n1, n2, n3, n4, n5, i0, i1, i2, i3, i4, i5, i6, i7, hbt_10]
      · rw [hcat]; exact hg_10.upd (Rep1_lay _ _ fun _ => RepS_lay true (d + 1) _) ((Upd.refl _ _).wr _ _ (.inr rfl)) htb'
      · intro h; cases h
      · refine Upd.wr ?_ _ _ (.inr (.inl rfl))
        exact hU_6.more (((hE_7.mono fun _ h => h.elim).trans (hE_7d.mono fun _ h => h.elim)).trans (hM_9.trans hu)) fun b hb h => .inr (hg.above h)
      · simp only [RowKit.intOf]; omega
    · have hjl : j = (t.at 0).l.length := by omega
      subst hjl
      rw [List.take_length] at hg
      repeat ((first | refine W.seqR rfl ?_ | refine W.seq ?_ | refine W.regR rfl ?_ | refine W.condK ?_ | refine W.block ?_ | refine W.skip ?_ | refine W.ret ?_ | refine W.exit ?_); try simp (maxSteps := 1000000) (disch := (first | omega | (simp only [World.size_alloc, size_wr, size_drew] <;> omega) | exact not_noB _)) only [go_sem, ↓reduceIte, n0, reduceCtorEq, n1, n2, n3, n4, n5, i0, i1, i2, i3, i4, i5, i6, i7, hI, hN])
      exact ⟨v, hr0, hr3, hbv, hg, hnil, hU_6⟩
  · rintro ρ w6 ⟨v0, hr0, hr3, hb6, hg6, hnil0, hK6⟩
    have hV6 : Upd (fun b => b = vb) w3 w6 := hVb0.more hK6 fun b hb h => h.elim id fun h => absurd h (by omega)
    have hU6 : Upd (fun b => b = vb) w1 w6 := hU3.trans hV6
    have htb6 := hU6.blk_some htb1 htv
    have hvl6 : vb < w6.heap.size := Nat.lt_of_lt_of_le hvl1 hU6.size
    have hsz6 := hU6.size
    clear hvl5 hsz5
    obtain ⟨al0, kl0, rfl, _⟩ := hg6.shape
    have hf0 : RepF (RepS true (d + 1)) (szS true (d + 1)) fDeleteTopicsRequest_0 (OkF okT w.heap.size w1.heap.size) w6 (t.at 0) [.slice al0 (t.at 0).l.length kl0] := (RepF_list rfl hn0_0).2 ⟨_, rfl, hg6.sl (Rep1_lay _ _ fun _ => RepS_lay true (d + 1) _) (fun _ _ h => h) (fun b hb => .inr (by omega)), hg6.some hnil0⟩
    have hn0_1 : (t.at 1).null = false := g1.notnull (by decide)
    have hll1 := (g1.list rfl).1
    repeat ((first | refine W.seqR rfl ?_ | refine W.seq ?_ | refine W.regR rfl ?_ | refine W.condK ?_ | refine W.block ?_ | refine W.skip ?_ | refine W.ret ?_ | refine W.exit ?_); try simp (maxSteps := 1000000) (disch := (first | omega | (simp only [World.size_alloc, size_wr, size_drew] <;> omega) | exact not_noB _)) only [go_sem, ↓reduceIte, n0, reduceCtorEq, n1, n2, n3, n4, n5, i0, i1, i2, i3, i4, i5, i6, i7, hb6, htb6, hr0, hr3])
    refine (iat_fn (ok := (OkS okT w.heap.size)) t 1 _ _ (ht1.keep (hU6.keeps fun b _ hk e => hoS b hk e)) (by decide) hllt).mono ?_
    rintro r7 w7 ⟨⟨ca7, rfl, hca7⟩, hEa7⟩
    obtain ⟨vSa7, vLa7, vUa7, rfl, hna7, hSa7, hLa7, hUa7⟩ := hca7.inv
    obtain ⟨bSa7, cSa7, rfl, hcSa7⟩ := hSa7.shape
    obtain ⟨bLa7, cLa7, rfl, hcLa7⟩ := SlR.shape hLa7
    have hfU7 := SlR.flat hUa7
    clear hcSa7 hcLa7 hna7
    have hV7 : Upd (fun b => b = vb) w6 w7 := hEa7.mono fun _ h => h.elim
    have hU7 : Upd (fun b => b = vb) w1 w7 := hU6.trans hV7
    have htb7 := hU7.blk_some htb1 htv
    have hvl7 : vb < w7.heap.size := Nat.lt_of_lt_of_le hvl1 hU7.size
    have hsz7 := hU7.size
    clear hvl6 hsz6
    have hb7 : blk w7 vb = some (#[.int .i16 ver, .slice al0 (t.at 0).l.length kl0, .slice none 0 0, .int .i32 0, .map none], 98, (0, 0)) := hEa7.blk_some hb6 id
    simp (maxSteps := 1000000) (disch := (first | omega | (simp only [World.size_alloc, size_wr, size_drew] <;> omega) | exact not_noB _)) only [go_sem, ↓reduceIte, n0, reduceCtorEq, n1, n2, n3, n4, n5, i0, i1, i2, i3, i4, i5, i6, i7, hn0_1, hb7, htb7, hr0, hr3]
    repeat ((first | refine W.seqR rfl ?_ | refine W.seq ?_ | refine W.regR rfl ?_ | refine W.condK ?_ | refine W.block ?_ | refine W.skip ?_ | refine W.ret ?_ | refine W.exit ?_); try simp (maxSteps := 1000000) (disch := (first | omega | (simp only [World.size_alloc, size_wr, size_drew] <;> omega) | exact not_noB _)) only [go_sem, ↓reduceIte, n0, reduceCtorEq, n1, n2, n3, n4, n5, i0, i1, i2, i3, i4, i5, i6, i7, hb7, htb7, hr0, hr3])
    refine (iat_fn (ok := (OkS okT w.heap.size)) t 1 _ _ (ht1.keep (hU7.keeps fun b _ hk e => hoS b hk e)) (by decide) hllt).mono ?_
    rintro r8 w8 ⟨⟨ca8, rfl, hca8⟩, hEa8⟩
    obtain ⟨vSa8, vLa8, vUa8, rfl, hna8, hSa8, hLa8, hUa8⟩ := hca8.inv
    obtain ⟨bSa8, cSa8, rfl, hcSa8⟩ := hSa8.shape
    obtain ⟨bLa8, cLa8, rfl, hcLa8⟩ := SlR.shape hLa8
    have hfU8 := SlR.flat hUa8
    clear hcSa8 hcLa8 hna8
    have hV8 : Upd (fun b => b = vb) w7 w8 := hEa8.mono fun _ h => h.elim
    have hU8 : Upd (fun b => b = vb) w1 w8 := hU7.trans hV8
    have htb8 := hU8.blk_some htb1 htv
    have hvl8 : vb < w8.heap.size := Nat.lt_of_lt_of_le hvl1 hU8.size
    have hsz8 := hU8.size
    clear hvl7 hsz7
    have hb8 : blk w8 vb = some (#[.int .i16 ver, .slice al0 (t.at 0).l.length kl0, .slice none 0 0, .int .i32 0, .map none], 98, (0, 0)) := hEa8.blk_some hb7 id
    simp (maxSteps := 1000000) (disch := (first | omega | (simp only [World.size_alloc, size_wr, size_drew] <;> omega) | exact not_noB _)) only [go_sem, ↓reduceIte, n0, reduceCtorEq, n1, n2, n3, n4, n5, i0, i1, i2, i3, i4, i5, i6, i7, hb8, htb8, hr0, hr3]
    refine wp_make (T := 96) (E := 170) (size := 18) (bytes := 32) (z := (.agg #[.pointer none, .int .u8 0, .int .u8 0, .int .u8 0, .int .u8 0, .int .u8 0, .int .u8 0, .int .u8 0, .int .u8 0, .int .u8 0, .int .u8 0, .int .u8 0, .int .u8 0, .int .u8 0, .int .u8 0, .int .u8 0, .int .u8 0, .map none])) (l := 0) (c := (t.at 1).l.length) (kl := .i64) (kc := .i64) (by kernel_rfl) (by kernel_rfl) (by simp (maxSteps := 1000000) (disch := (first | omega | (simp only [World.size_alloc, size_wr, size_drew] <;> omega) | exact not_noB _)) only [go_sem, ↓reduceIte, n0, reduceCtorEq, n1, n2, n3, n4, n5, i0, i1, i2, i3, i4, i5, i6, i7]; rfl) (by simp (maxSteps := 1000000) (disch := (first | omega | (simp only [World.size_alloc, size_wr, size_drew] <;> omega) | exact not_noB _)) only [go_sem, ↓reduceIte, n0, reduceCtorEq, n1, n2, n3, n4, n5, i0, i1, i2, i3, i4, i5, i6, i7]) (by omega) (by omega) (by omega) ?_
    simp (maxSteps := 1000000) (disch := (first | omega | (simp only [World.size_alloc, size_wr, size_drew] <;> omega) | exact not_noB _)) only [go_sem, ↓reduceIte, n0, reduceCtorEq, n1, n2, n3, n4, n5, i0, i1, i2, i3, i4, i5, i6, i7, hb8, hvl8, htb8, hr0, hr3]
    have hszB1 := hsz8
    generalize hw9 : wr (w8.alloc (.cells (madeCells #[.pointer none, .int .u8 0, .int .u8 0, .int .u8 0, .int .u8 0, .int .u8 0, .int .u8 0, .int .u8 0, .int .u8 0, .int .u8 0, .int .u8 0, .int .u8 0, .int .u8 0, .int .u8 0, .int .u8 0, .int .u8 0, .int .u8 0, .map none] ((t.at 1).l.length * 18)) 170)) vb 2 [.slice (some ⟨w8.heap.size, 0, none⟩) 0 (t.at 1).l.length] = w9
    have hV9 : Upd (fun b => b = vb) w8 w9 := by rw [← hw9]; exact ((Upd.refl _ _).alloc _).wr _ _ (.inr rfl)
    have hb9 : blk w9 vb = some (#[.int .i16 ver, .slice al0 (t.at 0).l.length kl0, .slice (some ⟨w8.heap.size, 0, none⟩) 0 (t.at 1).l.length, .int .i32 0, .map none], 98, (0, 0)) := by rw [← hw9, blk_wr_eq, blk_alloc_old hvl8, hb8]; rfl
    have hrow9 : blk w9 w8.heap.size = some (madeCells #[.pointer none, .int .u8 0, .int .u8 0, .int .u8 0, .int .u8 0, .int .u8 0, .int .u8 0, .int .u8 0, .int .u8 0, .int .u8 0, .int .u8 0, .int .u8 0, .int .u8 0, .int .u8 0, .int .u8 0, .int .u8 0, .int .u8 0, .map none] ((t.at 1).l.length * 18), 170, (0, 0)) := by rw [← hw9, blk_wr_ne (Nat.ne_of_gt hvl8), blk_alloc_new rfl]
    have hg9 : GrowR (Rep1 (RepS true (d + 1)) fDeleteTopicsRequest_1.of fDeleteTopicsRequest_1.sub) 18 (OkF okT w.heap.size w1.heap.size) w8.heap.size vb w9 170 (.slice (some ⟨w8.heap.size, 0, none⟩) 0 (t.at 1).l.length) [] := GrowR.made hrow9 (size_madeCells _ _) (Nat.le_refl _)
    have hU9 : Upd (fun b => b = vb) w1 w9 := hU8.trans hV9
    have htb9 := hU9.blk_some htb1 htv
    have hvl9 : vb < w9.heap.size := Nat.lt_of_lt_of_le hvl1 hU9.size
    have hsz9 := hU9.size
    clear hvl8 hsz8
    clear hw9 hrow9
    repeat ((first | refine W.seqR rfl ?_ | refine W.seq ?_ | refine W.regR rfl ?_ | refine W.condK ?_ | refine W.block ?_ | refine W.skip ?_ | refine W.ret ?_ | refine W.exit ?_); try simp (maxSteps := 1000000) (disch := (first | omega | (simp only [World.size_alloc, size_wr, size_drew] <;> omega) | exact not_noB _)) only [go_sem, ↓reduceIte, n0, reduceCtorEq, n1, n2, n3, n4, n5, i0, i1, i2, i3, i4, i5, i6, i7, hb9, htb9, hr0, hr3])
    refine (iat_fn (ok := (OkS okT w.heap.size)) t 1 _ _ (ht1.keep (hU9.keeps fun b _ hk e => hoS b hk e)) (by decide) hllt).mono ?_
    rintro r10 w10 ⟨⟨ca10, rfl, hca10⟩, hEa10⟩
    obtain ⟨vSa10, vLa10, vUa10, rfl, hna10, hSa10, hLa10, hUa10⟩ := hca10.inv
    obtain ⟨bSa10, cSa10, rfl, hcSa10⟩ := hSa10.shape
    obtain ⟨bLa10, cLa10, rfl, hcLa10⟩ := SlR.shape hLa10
    have hfU10 := SlR.flat hUa10
    clear hcSa10 hcLa10 hna10
    have hV10 : Upd (fun b => b = vb) w9 w10 := hEa10.mono fun _ h => h.elim
    have hU10 : Upd (fun b => b = vb) w1 w10 := hU9.trans hV10
    have htb10 := hU10.blk_some htb1 htv
    have hvl10 : vb < w10.heap.size := Nat.lt_of_lt_of_le hvl1 hU10.size
    have hsz10 := hU10.size
    clear hvl9 hsz9
    have hb10 : blk w10 vb = some (#[.int .i16 ver, .slice al0 (t.at 0).l.length kl0, .slice (some ⟨w8.heap.size, 0, none⟩) 0 (t.at 1).l.length, .int .i32 0, .map none], 98, (0, 0)) := hEa10.blk_some hb9 id
    have hg10 := hg9.ext (Rep1_lay _ _ fun _ => RepS_lay true (d + 1) _) hEa10
    simp (maxSteps := 1000000) (disch := (first | omega | (simp only [World.size_alloc, size_wr, size_drew] <;> omega) | exact not_noB _)) only [go_sem, ↓reduceIte, n0, reduceCtorEq, n1, n2, n3, n4, n5, i0, i1, i2, i3, i4, i5, i6, i7, hb10, htb10, hr0, hr3]
    repeat ((first | refine W.seqR rfl ?_ | refine W.seq ?_ | refine W.regR rfl ?_ | refine W.condK ?_ | refine W.block ?_ | refine W.skip ?_ | refine W.ret ?_ | refine W.exit ?_); try simp (maxSteps := 1000000) (disch := (first | omega | (simp only [World.size_alloc, size_wr, size_drew] <;> omega) | exact not_noB _)) only [go_sem, ↓reduceIte, n0, reduceCtorEq, n1, n2, n3, n4, n5, i0, i1, i2, i3, i4, i5, i6, i7, hb10, htb10, hr0, hr3])
    have hVb1 : Upd (fun b => b = vb) w8 w10 := hV9.trans hV10
    have hUb1 := hU8
    have hvlB1 : vb < w8.heap.size := Nat.lt_of_lt_of_le hvl1 hszB1
    have hszL1 : w8.heap.size ≤ w10.heap.size := hVb1.size
    refine W.exitJ 2 (fun ρ w' => ∃ v, ρ 0 = .pointer (some ⟨vb, 0, none⟩) ∧ ρ 3 = .pointer (some ⟨w.heap.size, 0, none⟩) ∧ blk w' vb = some (#[.int .i16 ver, .slice al0 (t.at 0).l.length kl0, v, .int .i32 0, .map none], 98, (0, 0)) ∧ GrowR (Rep1 (RepS true (d + 1)) fDeleteTopicsRequest_1.of fDeleteTopicsRequest_1.sub) 18 (OkF okT w.heap.size w1.heap.size) w8.heap.size vb w' 170 v (t.at 1).l ∧ v ≠ .slice none 0 0 ∧ Upd (fun b => b = vb ∨ w8.heap.size ≤ b) w10 w')
      (W.loop (fun ρ w' => ∃ (j : Nat) (v : Value), j ≤ (t.at 1).l.length ∧ ρ 59 = .int .i64 j ∧ ρ 58 = .int .i64 (t.at 1).l.length ∧ ρ 57 = .slice bLa10 (t.at 1).l.length cLa10 ∧ ρ 0 = .pointer (some ⟨vb, 0, none⟩) ∧ ρ 3 = .pointer (some ⟨w.heap.size, 0, none⟩) ∧ blk w' vb = some (#[.int .i16 ver, .slice al0 (t.at 0).l.length kl0, v, .int .i32 0, .map none], 98, (0, 0)) ∧ GrowR (Rep1 (RepS true (d + 1)) fDeleteTopicsRequest_1.of fDeleteTopicsRequest_1.sub) 18 (OkF okT w.heap.size w1.heap.size) w8.heap.size vb w' 170 v ((t.at 1).l.take j) ∧ v ≠ .slice none 0 0 ∧ Upd (fun b => b = vb ∨ w8.heap.size ≤ b) w10 w')
        (fun ρ _ => (t.at 1).l.length - (RowKit.intOf (ρ 59)).toNat) ?_ ?_) ?_
    · refine ⟨0, _, Nat.zero_le _, ?_, ?_, ?_, ?_, ?_, hb10, hg10, (by intro h; cases h), Upd.refl _ _⟩ <;> simp (maxSteps := 1000000) (disch := (first | omega | (simp only [World.size_alloc, size_wr, size_drew] <;> omega) | exact not_noB _)) only [go_sem, ↓reduceIte, n0, reduceCtorEq, n1, n2, n3, n4, n5, i0, i1, i2, i3, i4, i5, i6, i7, hr0, hr3]
      all_goals rfl
    · rintro ρ w_6 ⟨j, v, hj, hI, hN, hS, hr0, hr3, hbv, hg, hnil, hU_6⟩
      have hz_6 := hU_6.size
      have hJ_6 : Upd (fun b => b = vb) w8 w_6 := hVb1.more hU_6 fun b hb h => h.elim id fun h => absurd h (by omega)
      have hU_16 : Upd (fun b => b = vb) w1 w_6 := hUb1.trans hJ_6
      have hht_6 := hU_16.blk_some htb1 htv
      have hLt_6 := hLa10.keep (hU_6.keeps fun b _ hk e => e.elim (hoS b hk) fun e => by have := hk.2; omega)
      by_cases hlt : j < (t.at 1).l.length
      · obtain ⟨_, b, o, x, vS', vL', vU', hb, hokb, hx, hblt, hxs, hxe, q1, q2, q3, hc⟩ := TreesV.get hLt_6 hlt
        subst hb
        have hbS := (TreeC.inv hc)
        have hcat : (t.at 1).l.take (j + 1) = (t.at 1).l.take j ++ [(t.at 1).l[j]] := List.take_succ_eq_append_getElem hlt
        have hlen_9 : ((t.at 1).l.take j).length = j := by simp; omega
        have hgx := (g1.list rfl).2 _ (List.getElem_mem hlt)
        have hLx := (hLs.at 1).get hlt
        have hnb : ∀ b, b < w8.heap.size ∨ b = w_6.heap.size → ¬ ownB v b := fun b hb h => by
          have := hg.above h
          have := hg.below h
          omega
        generalize (t.at 1).l[j] = y at *
        obtain ⟨vSy, vLy, vUy, hcells, hny, hSy, hLy, hUy⟩ := hbS
        simp only [List.cons.injEq, true_and, and_true] at hcells
        obtain ⟨rfl, rfl, rfl⟩ := hcells
        obtain ⟨bSy, cSy, rfl, hcSy⟩ := hSy.shape
        repeat ((first | refine W.seqR rfl ?_ | refine W.seq ?_ | refine W.regR rfl ?_ | refine W.condK ?_ | refine W.block ?_ | refine W.skip ?_ | refine W.ret ?_ | refine W.exit ?_); try simp (maxSteps := 1000000) (disch := (first | omega | (simp only [World.size_alloc, size_wr, size_drew] <;> omega) | exact not_noB _)) only [go_sem, ↓reduceIte, n0, reduceCtorEq, n1, n2, n3, n4, n5, i0, i1, i2, i3, i4, i5, i6, i7, hI, hN, hS, hx, hxe, q1, q2, q3, cellsAt_five, Int.toNat_natCast])
        generalize hw_7 : (wr (w_6.alloc (.cells #[.int .i64 0, .slice none 0 0, .bool false, .slice none 0 0, .slice none 0 0] 39)) w_6.heap.size 0 [.int .i64 y.n, .slice bSy y.s.length cSy, .bool y.null, vL', vU']) = w_7
        have hE_7 : Ext w_6 w_7 := by rw [← hw_7]; exact (Upd.alloc (Upd.refl _ _) _).wr _ _ (.inl (Nat.le_refl _))
        have hb_7 : blk w_7 w_6.heap.size = some (#[.int .i64 y.n, .slice bSy y.s.length cSy, .bool y.null, vL', vU'], 39, (0, 0)) := by rw [← hw_7]; simp (maxSteps := 1000000) (disch := (first | omega | (simp only [World.size_alloc, size_wr, size_drew] <;> omega) | exact not_noB _)) only [go_sem, ↓reduceIte, n0, reduceCtorEq, n1, n2, n3, n4, n5, i0, i1, i2, i3, i4, i5, i6, i7]
        have hz_7 : w_7.heap.size = w_6.heap.size + 1 := by rw [← hw_7]; simp only [size_wr, World.size_alloc]
        have hbt_7 := hE_7.blk_some hbv id
        have hgv_7 := hE_7.blk_some hht_6 id
        have hc_7 := hc.keep (hE_7.keeps _)
        have hS_7 := hSy.keep (hE_7.keeps _)
        have hg_7 := hg.ext (Rep1_lay _ _ fun _ => RepS_lay true (d + 1) _) hE_7
        clear hw_7
        refine W.drawR (.take 0 (.take 1 (.take 2 (.take 3 (.take 4 (.take 5 (.only 6 (.only 7 (.only 8 (.take 9 (.take 10 (.last 11)))))))))))) (ownB v) mixed (by kernel_rfl) ?_
        simp (maxSteps := 1000000) (disch := (first | omega | (simp only [World.size_alloc, size_wr, size_drew] <;> omega) | exact not_noB _ | (refine hnb _ ?_; first | omega | (simp only [World.size_alloc, size_wr, size_drew] <;> omega)))) only [go_sem, ↓reduceIte, n0, reduceCtorEq, n1, n2, n3, n4, n5, i0, i1, i2, i3, i4, i5, i6, i7, hr0, hr3, hbt_7, hb_7, hgv_7, cellsAt_five]
        have hE_7d : Ext w_7 w_7.drew := (Upd.refl _ _).drew
        have hg_7d := hg_7.ext (Rep1_lay _ _ fun _ => RepS_lay true (d + 1) _) hE_7d
        have hzd : w_7.drew.heap.size = w_7.heap.size := size_drew _
        have hbt_7d := hE_7d.blk_some hbt_7 id
        refine (makeDeleteTopicsRequestTopic_fn (d := d) (okT := (OkS okT w.heap.size)) (V := V) y _ w_7.drew (hc_7.keep (hE_7d.keeps _)) (hgx.2.2 rfl) hLx).mono ?_
        rintro r8 w_8 ⟨⟨cs8, rfl, hc_8⟩, hE_8⟩
        obtain ⟨hfl_8, hcl_8⟩ := (RepS_lay true (d + 1) fs_DeleteTopicsRequestTopic).flat hc_8
        obtain ⟨y0, y1, y2, y3, y4, y5, y6, y7, y8, y9, y10, y11, y12, y13, y14, y15, y16, y17, rfl⟩ : ∃ y0 y1 y2 y3 y4 y5 y6 y7 y8 y9 y10 y11 y12 y13 y14 y15 y16 y17, cs8 = [y0, y1, y2, y3, y4, y5, y6, y7, y8, y9, y10, y11, y12, y13, y14, y15, y16, y17] := by
          have hcl_8' : cs8.length = 18 := hcl_8
          match cs8, hcl_8' with
          | [y0, y1, y2, y3, y4, y5, y6, y7, y8, y9, y10, y11, y12, y13, y14, y15, y16, y17], _ => exact ⟨y0, y1, y2, y3, y4, y5, y6, y7, y8, y9, y10, y11, y12, y13, y14, y15, y16, y17, rfl⟩
        simp only [List.all_cons, List.all_nil, Bool.and_true, Bool.and_eq_true] at hfl_8
        obtain ⟨fy0, fy1, fy2, fy3, fy4, fy5, fy6, fy7, fy8, fy9, fy10, fy11, fy12, fy13, fy14, fy15, fy16, fy17⟩ := hfl_8
        have hz_8 := hE_8.size
        have hM_8 : Upd (ownB v) w_7.drew w_8 := hE_8.mono (fun _ h => h.elim)
        refine ⟨hM_8, ?_⟩
        have hE_9 : Ext w_8 (w_8.alloc (.cells #[y0, y1, y2, y3, y4, y5, y6, y7, y8, y9, y10, y11, y12, y13, y14, y15, y16, y17] 170)) := Upd.alloc (Upd.refl _ _) _
        have hM_9 : Upd (ownB v) w_7.drew (w_8.alloc (.cells #[y0, y1, y2, y3, y4, y5, y6, y7, y8, y9, y10, y11, y12, y13, y14, y15, y16, y17] 170)) := hM_8.alloc _
        simp (maxSteps := 1000000) (disch := (first | omega | (simp only [World.size_alloc, size_wr, size_drew] <;> omega) | exact not_noB _)) only [go_sem, ↓reduceIte, n0, reduceCtorEq, n1, n2, n3, n4, n5, i0, i1, i2, i3, i4, i5, i6, i7, hr0, hr3, hbt_7d, fy0, fy1, fy2, fy3, fy4, fy5, fy6, fy7, fy8, fy9, fy10, fy11, fy12, fy13, fy14, fy15, fy16, fy17]
        refine ⟨hM_9, ?_⟩
        have hE_79 : Ext w_7.drew (w_8.alloc (.cells #[y0, y1, y2, y3, y4, y5, y6, y7, y8, y9, y10, y11, y12, y13, y14, y15, y16, y17] 170)) := hE_8.trans hE_9
        have hg_9 := (hg_7d.ext (Rep1_lay _ _ fun _ => RepS_lay true (d + 1) _) hE_8).ext (Rep1_lay _ _ fun _ => RepS_lay true (d + 1) _) hE_9
        have hx_9 : Rep1 (RepS true (d + 1)) fDeleteTopicsRequest_1.of fDeleteTopicsRequest_1.sub (fun b => (OkF okT w.heap.size w1.heap.size) b ∧ b ≠ vb ∧ ¬ ownB v b) (w_8.alloc (.cells #[y0, y1, y2, y3, y4, y5, y6, y7, y8, y9, y10, y11, y12, y13, y14, y15, y16, y17] 170)) y [y0, y1, y2, y3, y4, y5, y6, y7, y8, y9, y10, y11, y12, y13, y14, y15, y16, y17] :=
          Rep1_part.2 (((RepS_lay true (d + 1) fs_DeleteTopicsRequestTopic).keep hc_8 (hE_9.keeps _)) |> fun h => (RepS_lay true (d + 1) fs_DeleteTopicsRequestTopic).weaken h fun b _ hk => by
            rcases hk with hk | hk
            · exact ⟨.inl hk, hoS b hk, fun h => by have := hg.above h; have := hk.2; omega⟩
            · exact ⟨.inr (by omega), by omega, fun h => by have := hg.below h; omega⟩)
        obtain ⟨css, hown, hall⟩ := hg_9.ex
        have hcl_9 := hall.1
        refine wp_append ap_96_96 (m := 1) (news := [y0, y1, y2, y3, y4, y5, y6, y7, y8, y9, y10, y11, y12, y13, y14, y15, y16, y17]) (n := css.length) (cs := css.flatten) (v := v) ?_ rfl hown.1 (all2_flat_R (Rep1_lay _ _ fun _ => RepS_lay true (d + 1) _) hall) (Src.blk (fr := (0, 0)) (T := 170) (blk_alloc_new (by first | rfl | omega | (simp only [size_drew]; omega))) rfl (by simp only [List.all_cons, List.all_nil, Bool.and_true, Bool.and_eq_true]; exact ⟨fy0, fy1, fy2, fy3, fy4, fy5, fy6, fy7, fy8, fy9, fy10, fy11, fy12, fy13, fy14, fy15, fy16, fy17⟩)) ?_ ?_ ?_
        · simp (maxSteps := 1000000) (disch := (first | omega | (simp only [World.size_alloc, size_wr, size_drew] <;> omega) | exact not_noB _)) only [go_sem, ↓reduceIte, n0, reduceCtorEq, n1, n2, n3, n4, n5, i0, i1, i2, i3, i4, i5, i6, i7]
        · simp only [World.size_alloc, size_drew]; omega
        · omega
        intro v' w_10 ho hu hfr
        have hg_10 := GrowR.snoc (Rep1_lay _ _ fun _ => RepS_lay true (d + 1) _) hown hall hx_9 hu hfr ho
        have hz_10 := hu.size
        simp only [World.size_alloc, size_drew] at hz_10
        obtain ⟨va, vc, hv', _⟩ := ho.shape
        subst hv'
        have hbt_10 := (hM_9.trans hu).blk_some hbt_7d (hnb _ (.inl hvlB1))
        have htb' : ¬ ownB (.slice va (css.length + 1) vc) vb := fun h => by
          rcases hfr _ h with h | h
          · exact hnb _ (.inl hvlB1) h
          · simp only [World.size_alloc, size_drew] at h; omega
        simp (maxSteps := 1000000) (disch := (first | omega | (simp only [World.size_alloc, size_wr, size_drew] <;> omega) | exact not_noB _)) only [go_sem, ↓reduceIte, n0, reduceCtorEq, n1, n2, n3, n4, n5, i0, i1, i2, i3, i4, i5, i6, i7]
        refine ⟨hM_9.trans hu, ?_⟩
        simp (maxSteps := 1000000) (disch := (first | omega | (simp only [World.size_alloc, size_wr, size_drew] <;> omega) | exact not_noB _)) only [go_sem, ↓reduceIte, n0, reduceCtorEq, n1, n2, n3, n4, n5, i0, i1, i2, i3, i4, i5, i6, i7, hr0, hr3, hbt_10]
        repeat ((first | refine W.seqR rfl ?_ | refine W.seq ?_ | refine W.regR rfl ?_ | refine W.condK ?_ | refine W.block ?_ | refine W.skip ?_ | refine W.ret ?_ | refine W.exit ?_); try simp (maxSteps := 1000000) (disch := (first | omega | (simp only [World.size_alloc, size_wr, size_drew] <;> omega) | exact not_noB _)) only [go_sem, ↓reduceIte, n0, reduceCtorEq, n1, n2, n3, n4, n5, i0, i1, i2, i3, i4, i5, i6, i7, hI])
        refine ⟨⟨j + 1, .slice va (css.length + 1) vc, by omega, rfl, hN, hS, hr0, hr3, ?_, ?_, ?_, ?_⟩, ?_⟩
        · simp (maxSteps := 1000000) (disch := (first | omega | (simp only [World.size_alloc, size_wr, size_drew] <;> omega) | exact not_noB _)) only [go_sem, ↓reduceIte, n0, reduceCtorEq, n1, n2, n3, n4, n5, i0, i1, i2, i3, i4, i5, i6, i7, hbt_10]
        · rw [hcat]; exact hg_10.upd (Rep1_lay _ _ fun _ => RepS_lay true (d + 1) _) ((Upd.refl _ _).wr _ _ (.inr rfl)) htb'
        · intro h; cases h
        · refine Upd.wr ?_ _ _ (.inr (.inl rfl))
          exact hU_6.more (((hE_7.mono fun _ h => h.elim).trans (hE_7d.mono fun _ h => h.elim)).trans (hM_9.trans hu)) fun b hb h => .inr (hg.above h)
        · simp only [RowKit.intOf]; omega
      · have hjl : j = (t.at 1).l.length := by omega
        subst hjl
        rw [List.take_length] at hg
        repeat ((first | refine W.seqR rfl ?_ | refine W.seq ?_ | refine W.regR rfl ?_ | refine W.condK ?_ | refine W.block ?_ | refine W.skip ?_ | refine W.ret ?_ | refine W.exit ?_); try simp (maxSteps := 1000000) (disch := (first | omega | (simp only [World.size_alloc, size_wr, size_drew] <;> omega) | exact not_noB _)) only [go_sem, ↓reduceIte, n0, reduceCtorEq, n1, n2, n3, n4, n5, i0, i1, i2, i3, i4, i5, i6, i7, hI, hN])
        exact ⟨v, hr0, hr3, hbv, hg, hnil, hU_6⟩
    · rintro ρ w11 ⟨v1, hr0, hr3, hb11, hg11, hnil1, hK11⟩
      have hV11 : Upd (fun b => b = vb) w8 w11 := hVb1.more hK11 fun b hb h => h.elim id fun h => absurd h (by omega)
      have hU11 : Upd (fun b => b = vb) w1 w11 := hU8.trans hV11
      have htb11 := hU11.blk_some htb1 htv
      have hvl11 : vb < w11.heap.size := Nat.lt_of_lt_of_le hvl1 hU11.size
      have hsz11 := hU11.size
      clear hvl10 hsz10
      obtain ⟨al1, kl1, rfl, _⟩ := hg11.shape
      have hf1 : RepF (RepS true (d + 1)) (szS true (d + 1)) fDeleteTopicsRequest_1 (OkF okT w.heap.size w1.heap.size) w11 (t.at 1) [.slice al1 (t.at 1).l.length kl1] := (RepF_list rfl hn0_1).2 ⟨_, rfl, hg11.sl (Rep1_lay _ _ fun _ => RepS_lay true (d + 1) _) (fun _ _ h => h) (fun b hb => .inr (by omega)), hg11.some hnil1⟩
      repeat ((first | refine W.seqR rfl ?_ | refine W.seq ?_ | refine W.regR rfl ?_ | refine W.condK ?_ | refine W.block ?_ | refine W.skip ?_ | refine W.ret ?_ | refine W.exit ?_); try simp (maxSteps := 1000000) (disch := (first | omega | (simp only [World.size_alloc, size_wr, size_drew] <;> omega) | exact not_noB _)) only [go_sem, ↓reduceIte, n0, reduceCtorEq, n1, n2, n3, n4, n5, i0, i1, i2, i3, i4, i5, i6, i7, hb11, htb11, hr0, hr3])
      refine (iat_fn (ok := (OkS okT w.heap.size)) t 2 _ _ (ht1.keep (hU11.keeps fun b _ hk e => hoS b hk e)) (by decide) hllt).mono ?_
      rintro r12 w12 ⟨⟨ca12, rfl, hca12⟩, hEa12⟩
      obtain ⟨vSa12, vLa12, vUa12, rfl, hna12, hSa12, hLa12, hUa12⟩ := hca12.inv
      obtain ⟨bSa12, cSa12, rfl, hcSa12⟩ := hSa12.shape
      obtain ⟨bLa12, cLa12, rfl, hcLa12⟩ := SlR.shape hLa12
      have hfU12 := SlR.flat hUa12
      clear hcSa12 hcLa12 hna12
      have hV12 : Upd (fun b => b = vb) w11 w12 := hEa12.mono fun _ h => h.elim
      have hU12 : Upd (fun b => b = vb) w1 w12 := hU11.trans hV12
      have htb12 := hU12.blk_some htb1 htv
      have hvl12 : vb < w12.heap.size := Nat.lt_of_lt_of_le hvl1 hU12.size
      have hsz12 := hU12.size
      clear hvl11 hsz11
      have hb12 : blk w12 vb = some (#[.int .i16 ver, .slice al0 (t.at 0).l.length kl0, .slice al1 (t.at 1).l.length kl1, .int .i32 0, .map none], 98, (0, 0)) := hEa12.blk_some hb11 id
      simp (maxSteps := 1000000) (disch := (first | omega | (simp only [World.size_alloc, size_wr, size_drew] <;> omega) | exact not_noB _)) only [go_sem, ↓reduceIte, n0, reduceCtorEq, n1, n2, n3, n4, n5, i0, i1, i2, i3, i4, i5, i6, i7, hb12, htb12, hr0, hr3]
      generalize hw13 : wr w12 vb 3 [.int .i32 (IntKind.i32.wrap (t.at 2).n)] = w13
      have hV13 : Upd (fun b => b = vb) w12 w13 := by rw [← hw13]; exact (Upd.refl _ _).wr _ _ (.inr rfl)
      have hb13 : blk w13 vb = some (#[.int .i16 ver, .slice al0 (t.at 0).l.length kl0, .slice al1 (t.at 1).l.length kl1, .int .i32 (IntKind.i32.wrap (t.at 2).n), .map none], 98, (0, 0)) := by rw [← hw13, blk_wr_eq, hb12]; rfl
      have hU13 : Upd (fun b => b = vb) w1 w13 := hU12.trans hV13
      have htb13 := hU13.blk_some htb1 htv
      have hvl13 : vb < w13.heap.size := Nat.lt_of_lt_of_le hvl1 hU13.size
      have hsz13 := hU13.size
      clear hvl12 hsz12
      clear hw13
      have hf2 : RepF (RepS true (d + 1)) (szS true (d + 1)) fDeleteTopicsRequest_2 (OkF okT w.heap.size w1.heap.size) w13 (t.at 2) [.int .i32 (IntKind.i32.wrap (t.at 2).n)] := (RepF_num (by decide)).2 rfl
      repeat ((first | refine W.seqR rfl ?_ | refine W.seq ?_ | refine W.regR rfl ?_ | refine W.condK ?_ | refine W.block ?_ | refine W.skip ?_ | refine W.ret ?_ | refine W.exit ?_); try simp (maxSteps := 1000000) (disch := (first | omega | (simp only [World.size_alloc, size_wr, size_drew] <;> omega) | exact not_noB _)) only [go_sem, ↓reduceIte, n0, reduceCtorEq, n1, n2, n3, n4, n5, i0, i1, i2, i3, i4, i5, i6, i7, hb13, htb13, hr0, hr3])
      have hUv := hU1v.keep (hU13.keeps fun b _ hk e => hoS b hk e)
      refine W.loop (fun ρ w' => ∃ (j : Nat) (q : Option Nat), j ≤ t.u.length ∧ ρ 85 = .int .i64 j ∧ ρ 84 = .int .i64 t.u.length ∧ ρ 83 = .slice bU t.u.length cU ∧ ρ 0 = .pointer (some ⟨vb, 0, none⟩) ∧ ρ 3 = .pointer (some ⟨w.heap.size, 0, none⟩) ∧ blk w' vb = some (#[.int .i16 ver, .slice al0 (t.at 0).l.length kl0, .slice al1 (t.at 1).l.length kl1, .int .i32 (IntKind.i32.wrap (t.at 2).n), .map q], 98, (0, 0)) ∧ TagsG (OkS okT w.heap.size) w13.heap.size w' (.map q) (t.u.take j) ∧ Upd (fun b => b = vb) w13 w')
          (fun ρ _ => t.u.length - (RowKit.intOf (ρ 85)).toNat) ?_ ?_
      · refine ⟨0, none, Nat.zero_le _, ?_, ?_, ?_, ?_, ?_, hb13, TagsG.start _ _ _, Upd.refl _ _⟩ <;> simp (maxSteps := 1000000) (disch := (first | omega | (simp only [World.size_alloc, size_wr, size_drew] <;> omega) | exact not_noB _)) only [go_sem, ↓reduceIte, n0, reduceCtorEq, n1, n2, n3, n4, n5, i0, i1, i2, i3, i4, i5, i6, i7, hr0, hr3]
        all_goals rfl
      · rintro ρ w_6 ⟨j, q, hj, hI, hN, hS, hr0, hr3, hbv, hG, hU_6⟩
        have hz_6 := hU_6.size
        have hUv_6 := hUv.keep (hU_6.keeps fun b _ hk e => hoS b hk e)
        have hU_16 : Upd (fun b => b = vb) w1 w_6 := hU13.trans hU_6
        have hz_16 := hU_16.size
        by_cases hlt : j < t.u.length
        · obtain ⟨_, b, o, x, vv, hb, hokb, hx, hblt, hxs, hxe, _, _, hfv, hbvv, h32⟩ := TagsV.get hUv_6 hlt
          subst hb
          have hcat : t.u.take (j + 1) = t.u.take j ++ [t.u[j]] := List.take_succ_eq_append_getElem hlt
          have hnew : ∀ z ∈ t.u.take j, z.1 ≠ t.u[j].1 := by
            intro z hz
            obtain ⟨k, hk, rfl⟩ := List.getElem_of_mem hz
            simp only [List.length_take] at hk
            have := List.pairwise_iff_getElem.1 hfu.2.2 k j (by omega) hlt (by omega)
            rw [List.getElem_take]; omega
          generalize t.u[j] = y at *
          obtain ⟨bSy, cSy, rfl, hcSy⟩ := hbvv.shape
          repeat ((first | refine W.seqR rfl ?_ | refine W.seq ?_ | refine W.regR rfl ?_ | refine W.condK ?_ | refine W.block ?_ | refine W.skip ?_ | refine W.ret ?_ | refine W.exit ?_); try simp (maxSteps := 1000000) (disch := (first | omega | (simp only [World.size_alloc, size_wr, size_drew] <;> omega) | exact not_noB _)) only [go_sem, ↓reduceIte, n0, reduceCtorEq, n1, n2, n3, n4, n5, i0, i1, i2, i3, i4, i5, i6, i7, hI, hN, hS, hx, hxe, hfv, cellsAt_two, Int.toNat_natCast])
          generalize hw_7 : (wr (w_6.alloc (.cells #[.int .u32 0, .slice none 0 0] 64)) w_6.heap.size 0 [.int .u32 y.1, .slice bSy y.2.length cSy]) = w_7
          have hE_7 : Ext w_6 w_7 := by rw [← hw_7]; exact (Upd.alloc (Upd.refl _ _) _).wr _ _ (.inl (Nat.le_refl _))
          have hb_7 : blk w_7 w_6.heap.size = some (#[.int .u32 y.1, .slice bSy y.2.length cSy], 64, (0, 0)) := by rw [← hw_7]; simp (maxSteps := 1000000) (disch := (first | omega | (simp only [World.size_alloc, size_wr, size_drew] <;> omega) | exact not_noB _)) only [go_sem, ↓reduceIte, n0, reduceCtorEq, n1, n2, n3, n4, n5, i0, i1, i2, i3, i4, i5, i6, i7]
          have hz_7 : w_7.heap.size = w_6.heap.size + 1 := by rw [← hw_7]; simp only [size_wr, World.size_alloc]
          clear hw_7
          have hbt_7 := hE_7.blk_some hbv id
          have hnb : ∀ b, b = w_6.heap.size → ¬ (b = vb ∨ Value.map q = .map (some b)) := fun b hb h => by
            rcases h with h | h
            · omega
            · cases h; have := (hG.lt rfl).1; omega
          refine W.drawR (.take 0 (.take 1 (.take 2 (.take 3 (.take 4 (.take 5 (.take 6 (.only 7 .done)))))))) (fun b => b = vb ∨ Value.map q = .map (some b)) mixed (by kernel_rfl) ?_
          simp (maxSteps := 1000000) (disch := (first | omega | (simp only [World.size_alloc, size_wr, size_drew] <;> omega) | exact not_noB _ | (refine hnb _ ?_; first | omega | (simp only [World.size_alloc, size_wr, size_drew] <;> omega)))) only [go_sem, ↓reduceIte, n0, reduceCtorEq, n1, n2, n3, n4, n5, i0, i1, i2, i3, i4, i5, i6, i7, hr0, hr3, hbt_7, hb_7, cellsAt_two]
          have hE_7d : Ext w_7 w_7.drew := (Upd.refl _ _).drew
          have hE_6d : Ext w_6 w_7.drew := hE_7.trans hE_7d
          have hG_7 : TagsG (OkS okT w.heap.size) w13.heap.size w_7.drew (.map q) (t.u.take j) := hG.keep fun b hb _ => hE_6d.keep b hb id
          have hbt_8 := hE_7d.blk_some hbt_7 id
          have hm_8 : (#[.int .i16 ver, .slice al0 (t.at 0).l.length kl0, .slice al1 (t.at 1).l.length kl1, .int .i32 (IntKind.i32.wrap (t.at 2).n), .map q] : Array Value)[4]? = some (.map q) := rfl
          refine (TagsSet_fn (okT := (OkS okT w.heap.size)) (L := w13.heap.size) w_7.drew hG_7 (by have := hE_6d.size; omega) (by omega) hbt_8 (o := 4) hm_8 (thaw_00 _ _) y _ ((hbvv.weaken fun b _ hk => ⟨hk, by have := hk.2; omega⟩).keep (hE_6d.keeps _)) h32 hnew hoS).mono ?_
          rintro _ w_8 ⟨m', hb_8, hG_8, hM_8⟩
          simp only [List.setIfInBounds_toArray, List.set_cons_succ, List.set_cons_zero] at hb_8
          refine ⟨hM_8, ?_⟩
          repeat ((first | refine W.seqR rfl ?_ | refine W.seq ?_ | refine W.regR rfl ?_ | refine W.condK ?_ | refine W.block ?_ | refine W.skip ?_ | refine W.ret ?_ | refine W.exit ?_); try simp (maxSteps := 1000000) (disch := (first | omega | (simp only [World.size_alloc, size_wr, size_drew] <;> omega) | exact not_noB _)) only [go_sem, ↓reduceIte, n0, reduceCtorEq, n1, n2, n3, n4, n5, i0, i1, i2, i3, i4, i5, i6, i7, hI])
          refine ⟨⟨j + 1, m', by omega, rfl, hN, hS, hr0, hr3, hb_8, by rw [hcat]; exact hG_8, ?_⟩, ?_⟩
          · exact hU_6.more ((hE_6d.mono fun _ h => h.elim).trans hM_8) fun b hb h => by
              rcases h with h | h
              · exact h
              · cases h; have := (hG.lt rfl).2; omega
          · simp only [RowKit.intOf]; omega
        · have hjl : j = t.u.length := by omega
          subst hjl
          rw [List.take_length] at hG
          have hT12 : Upd (fun b => b = vb) w12 w_6 := hV13.trans hU_6
          have hT11 : Upd (fun b => b = vb) w11 w_6 := hV12.trans hT12
          have hT8 : Upd (fun b => b = vb) w8 w_6 := hV11.trans hT11
          have hT7 : Upd (fun b => b = vb) w7 w_6 := hV8.trans hT8
          have hT6 : Upd (fun b => b = vb) w6 w_6 := hV7.trans hT7
          have hT3 : Upd (fun b => b = vb) w3 w_6 := hV6.trans hT6
          have hT2 : Upd (fun b => b = vb) w2 w_6 := hV3.trans hT3
          have hT1 : Upd (fun b => b = vb) w1 w_6 := hV2.trans hT2
          have hz0_f := hf0.keepS (hT6.keeps fun b _ hk e => hoF b hk e)
          have hz1_f := hf1.keepS (hT11.keeps fun b _ hk e => hoF b hk e)
          have hz2_f := hf2.keepS (hU_6.keeps fun b _ hk e => hoF b hk e)
          have hTg := hG.tags (ok' := (OkF okT w.heap.size w1.heap.size)) (fun b _ hk => .inl hk) (fun b hb => .inr (by omega))
          have hL : RepL (RepS true (d + 1)) (szS true (d + 1)) (OkF okT w.heap.size w1.heap.size) w_6 t [fDeleteTopicsRequest_0, fDeleteTopicsRequest_1, fDeleteTopicsRequest_2] 0 [.slice al0 (t.at 0).l.length kl0, .slice al1 (t.at 1).l.length kl1, .int .i32 (IntKind.i32.wrap (t.at 2).n)] := (RepL.cons1 hz0_f (RepL.cons1 hz1_f (RepL.cons1 hz2_f RepL.nil)))
          have hR : RepS true (d + 2) fs_DeleteTopicsRequest (OkF okT w.heap.size w1.heap.size) w_6 t [.slice al0 (t.at 0).l.length kl0, .slice al1 (t.at 1).l.length kl1, .int .i32 (IntKind.i32.wrap (t.at 2).n), .map q] := RepS.intro (c := [.slice al0 (t.at 0).l.length kl0, .slice al1 (t.at 1).l.length kl1, .int .i32 (IntKind.i32.wrap (t.at 2).n)]) rfl hL hTg
          repeat ((first | refine W.seqR rfl ?_ | refine W.seq ?_ | refine W.regR rfl ?_ | refine W.condK ?_ | refine W.block ?_ | refine W.skip ?_ | refine W.ret ?_ | refine W.exit ?_); try simp (maxSteps := 1000000) (disch := (first | omega | (simp only [World.size_alloc, size_wr, size_drew] <;> omega) | exact not_noB _)) only [go_sem, ↓reduceIte, n0, reduceCtorEq, n1, n2, n3, n4, n5, i0, i1, i2, i3, i4, i5, i6, i7, hI, hN])
          exact ⟨_, hbv, (RepS_lay true (d + 2) fs_DeleteTopicsRequest).weaken hR (fun b _ hk => hk.imp And.left fun h => by omega), Upd.more (hE1.mono fun _ h => h.elim) hT1 fun _ _ h => h⟩
end Ms

namespace Ms
open Nat renaming reduceEqDiff → n0, reduceAdd → n1, reduceMul → n2, reduceSub → n3, reduceLT → n4, reduceLeDiff → n5
open Int renaming reduceEq → i0, reduceLT → i1, reduceLE → i2, reduceNeg → i3, reduceAdd → i4, reduceSub → i5, reduceMul → i6, reduceToNat → i7
set_option maxRecDepth 8000
open Go Go.Proofs Go.Shelf
attribute [local congr] W_congr WPsq_congr WPp_congr optK_congr addrK_congr intK_congr boolK_congr sliceK_congr tupleK_congr funcK_congr Fn_congr rawK_congr takeK_congr stepK_congr convK_congr aggK_congr

set_option maxHeartbeats 4000000 in
theorem cDeleteTopicsRequestTopic_fn (w : World) : Fn Try.prog 85 #[] w fun r w' => FldsV (fun b => w.heap.size ≤ b) w' r fs_DeleteTopicsRequestTopic ∧ Ext w w' := by
  refine fn_of_W Try.func85 rfl Try.results85 Try.ntmps85 rfl ?_
  repeat ((first | refine W.seqR rfl ?_ | refine W.seq ?_ | refine W.regR rfl ?_ | refine W.condK ?_ | refine W.block ?_ | refine W.skip ?_ | refine W.ret ?_ | refine W.exit ?_); try simp (maxSteps := 1000000) (disch := (first | omega | (simp only [World.size_alloc, size_wr, size_drew] <;> omega) | exact not_noB _)) only [go_sem, ↓reduceIte, n0, reduceCtorEq, n1, n2, n3, n4, n5, i0, i1, i2, i3, i4, i5, i6, i7, fill_fld, fillN_nil, fillN_int, fillN_slice])
  repeat ((first | refine W.seqR rfl ?_ | refine W.seq ?_ | refine W.regR rfl ?_ | refine W.condK ?_ | refine W.block ?_ | refine W.skip ?_ | refine W.ret ?_ | refine W.exit ?_); try simp (maxSteps := 1000000) (disch := (first | omega | (simp only [World.size_alloc, size_wr, size_drew] <;> omega) | exact not_noB _)) only [go_sem, ↓reduceIte, n0, reduceCtorEq, n1, n2, n3, n4, n5, i0, i1, i2, i3, i4, i5, i6, i7, fill_fld, fillN_nil, fillN_int, fillN_slice])
  exact ⟨FldsV.litO (fs := fs_DeleteTopicsRequestTopic) (css := [[.int .i64 8, .int .i64 0, .int .i64 (-1), .int .i64 0, .int .i64 (-1), .int .i64 0, .int .i64 0, .slice none 0 0], [.int .i64 7, .int .i64 0, .int .i64 (-1), .int .i64 (-1), .int .i64 (-1), .int .i64 0, .int .i64 0, .slice none 0 0]]) (T := 50) (fr := (0, 0)) (by first | omega | (simp only [World.size_alloc]; omega)) (by first | (simp (maxSteps := 1000000) (disch := (first | omega | (simp only [World.size_alloc, size_wr, size_drew] <;> omega) | exact not_noB _)) only [go_sem, ↓reduceIte, n0, reduceCtorEq, n1, n2, n3, n4, n5, i0, i1, i2, i3, i4, i5, i6, i7]; rfl) | rfl) (by simp) (All2.cons (FldC.intro (kind := 8) (FldsV.none _ _)) (All2.cons (FldC.intro (kind := 7) (FldsV.none _ _)) All2.nil)), (Upd.alloc (Upd.refl _ w) _)⟩

set_option maxHeartbeats 4000000 in
theorem cDeleteTopicsRequest_fn (w : World) : Fn Try.prog 35 #[] w fun r w' => (∃ vs, r = .agg #[vs, .int .i64 4] ∧ FldsV (fun b => w.heap.size ≤ b) w' vs fs_DeleteTopicsRequest) ∧ Ext w w' := by
  refine fn_of_W Try.func35 rfl Try.results35 Try.ntmps35 rfl ?_
  repeat ((first | refine W.seqR rfl ?_ | refine W.seq ?_ | refine W.regR rfl ?_ | refine W.condK ?_ | refine W.block ?_ | refine W.skip ?_ | refine W.ret ?_ | refine W.exit ?_); try simp (maxSteps := 1000000) (disch := (first | omega | (simp only [World.size_alloc, size_wr, size_drew] <;> omega) | exact not_noB _)) only [go_sem, ↓reduceIte, n0, reduceCtorEq, n1, n2, n3, n4, n5, i0, i1, i2, i3, i4, i5, i6, i7, fill_fld, fillN_nil, fillN_int, fillN_slice])
  have hz0 : (w.alloc (.cells #[.slice none 0 0, .int .i64 0] 31)).heap.size = w.heap.size + 1 := World.size_alloc _ _
  refine (cDeleteTopicsRequestTopic_fn _).mono ?_
  rintro r1 w1 ⟨hF1, hE1⟩
  obtain ⟨b1, k1, rfl, _⟩ := SlR.shape hF1
  have hz1 := hE1.size
  have hD1 : Ext w w1 := Upd.trans (Upd.alloc (Upd.refl _ _) _) hE1
  have hb1 : blk w1 w.heap.size = some (#[.slice none 0 0, .int .i64 0], 31, (0, 0)) := hE1.blk_some (blk_alloc_new rfl) id
  simp (maxSteps := 1000000) (disch := (first | omega | (simp only [World.size_alloc, size_wr, size_drew] <;> omega) | exact not_noB _)) only [go_sem, ↓reduceIte, n0, reduceCtorEq, n1, n2, n3, n4, n5, i0, i1, i2, i3, i4, i5, i6, i7, fill_fld, fillN_nil, fillN_int, fillN_slice, hb1]
  have hvl := blk_lt hb1
  repeat ((first | refine W.seqR rfl ?_ | refine W.seq ?_ | refine W.regR rfl ?_ | refine W.condK ?_ | refine W.block ?_ | refine W.skip ?_ | refine W.ret ?_ | refine W.exit ?_); try simp (maxSteps := 1000000) (disch := (first | omega | (simp only [World.size_alloc, size_wr, size_drew] <;> omega) | exact not_noB _)) only [go_sem, ↓reduceIte, n0, reduceCtorEq, n1, n2, n3, n4, n5, i0, i1, i2, i3, i4, i5, i6, i7, fill_fld, fillN_nil, fillN_int, fillN_slice, hb1])
  exact ⟨⟨_, rfl, FldsV.litO (fs := fs_DeleteTopicsRequest) (css := [[.int .i64 11, .int .i64 0, .int .i64 5, .int .i64 (-1), .int .i64 (-1), .int .i64 0, .int .i64 8, .slice none 0 0], [.int .i64 11, .int .i64 6, .int .i64 (-1), .int .i64 (-1), .int .i64 (-1), .int .i64 0, .int .i64 10, .slice b1 fs_DeleteTopicsRequestTopic.length k1], [.int .i64 3, .int .i64 0, .int .i64 (-1), .int .i64 (-1), .int .i64 (-1), .int .i64 15000, .int .i64 0, .slice none 0 0]]) (T := 50) (fr := (0, 0)) (by first | omega | (simp only [World.size_alloc]; omega)) (by first | (simp (maxSteps := 1000000) (disch := (first | omega | (simp only [World.size_alloc, size_wr, size_drew] <;> omega) | exact not_noB _)) only [go_sem, ↓reduceIte, n0, reduceCtorEq, n1, n2, n3, n4, n5, i0, i1, i2, i3, i4, i5, i6, i7]; rfl) | rfl) (by simp) (All2.cons (FldC.intro (kind := 11) (FldsV.none _ _)) (All2.cons (FldC.intro (kind := 11) (hF1.stay (B := w.heap.size) (Upd.wr (Upd.alloc (Upd.refl _ _) _) _ _ (.inr rfl)) (by omega) (fun b hb => by omega))) (All2.cons (FldC.intro (kind := 3) (FldsV.none _ _)) All2.nil)))⟩, (Upd.wr (Upd.alloc hD1 _) _ _ (.inl (Nat.le_refl _)))⟩

theorem DefaultDeleteTopicsRequest_fn (w : World) {vb : Nat} {c0 c1 c2 c3 c4 : Value} (hb : blk w vb = some (#[c0, c1, c2, c3, c4], 98, (0, 0))) :
    Fn Try.prog 150 #[.pointer (some ⟨vb, 0, none⟩)] w fun _ w' => blk w' vb = some (#[c0, c1, c2, .int .i32 15000, c4], 98, (0, 0)) ∧ Upd (fun b => b = vb) w w' := by
  have hvl := blk_lt hb
  refine fn_of_W Try.func150 rfl Try.results150 Try.ntmps150 rfl ?_
  repeat ((first | refine W.seqR rfl ?_ | refine W.seq ?_ | refine W.regR rfl ?_ | refine W.condK ?_ | refine W.block ?_ | refine W.skip ?_ | refine W.ret ?_ | refine W.exit ?_); try simp (maxSteps := 1000000) (disch := (first | omega | (simp only [World.size_alloc, size_wr, size_drew] <;> omega) | exact not_noB _)) only [go_sem, ↓reduceIte, n0, reduceCtorEq, n1, n2, n3, n4, n5, i0, i1, i2, i3, i4, i5, i6, i7, hb])
  first | exact (Upd.wr (Upd.refl _ _) _ _ (.inr rfl)) | exact ⟨by simp (maxSteps := 1000000) (disch := (first | omega | (simp only [World.size_alloc, size_wr, size_drew] <;> omega) | exact not_noB _)) only [go_sem, ↓reduceIte, n0, reduceCtorEq, n1, n2, n3, n4, n5, i0, i1, i2, i3, i4, i5, i6, i7, hb], (Upd.wr (Upd.refl _ _) _ _ (.inr rfl))⟩

theorem NewPtrDeleteTopicsRequest_fn (w : World) : Fn Try.prog 83 #[] w fun r w' => r = .pointer (some ⟨w.heap.size, 0, none⟩) ∧ blk w' w.heap.size = some (#[.int .i16 0, .slice none 0 0, .slice none 0 0, .int .i32 15000, .map none], 98, (0, 0)) ∧ Ext w w' := by
  refine fn_of_W Try.func83 rfl Try.results83 Try.ntmps83 rfl ?_
  repeat ((first | refine W.seqR rfl ?_ | refine W.seq ?_ | refine W.regR rfl ?_ | refine W.condK ?_ | refine W.block ?_ | refine W.skip ?_ | refine W.ret ?_ | refine W.exit ?_); try simp (maxSteps := 1000000) (disch := (first | omega | (simp only [World.size_alloc, size_wr, size_drew] <;> omega) | exact not_noB _)) only [go_sem, ↓reduceIte, n0, reduceCtorEq, n1, n2, n3, n4, n5, i0, i1, i2, i3, i4, i5, i6, i7])
  refine (DefaultDeleteTopicsRequest_fn _ (blk_alloc_new rfl)).mono ?_
  rintro _ w1 ⟨hb1, hU1⟩
  have hz := World.size_alloc w (.cells #[.int .i16 0, .slice none 0 0, .slice none 0 0, .int .i32 0, .map none] 98)
  repeat ((first | refine W.seqR rfl ?_ | refine W.seq ?_ | refine W.regR rfl ?_ | refine W.condK ?_ | refine W.block ?_ | refine W.skip ?_ | refine W.ret ?_ | refine W.exit ?_); try simp (maxSteps := 1000000) (disch := (first | omega | (simp only [World.size_alloc, size_wr, size_drew] <;> omega) | exact not_noB _)) only [go_sem, ↓reduceIte, n0, reduceCtorEq, n1, n2, n3, n4, n5, i0, i1, i2, i3, i4, i5, i6, i7])
  exact ⟨hb1, (Upd.alloc (Upd.refl _ _) _ : Ext w _).more hU1 fun b hb h => by omega⟩

theorem SetVersionDeleteTopicsRequest_fn (w : World) {vb : Nat} {c0 c1 c2 c3 c4 : Value} (n : Int) (hb : blk w vb = some (#[c0, c1, c2, c3, c4], 98, (0, 0))) :
    Fn Try.prog 86 #[.pointer (some ⟨vb, 0, none⟩), .int .i16 n] w fun _ w' => blk w' vb = some (#[.int .i16 n, c1, c2, c3, c4], 98, (0, 0)) ∧ Upd (fun b => b = vb) w w' := by
  have hvl := blk_lt hb
  refine fn_of_W Try.func86 rfl Try.results86 Try.ntmps86 rfl ?_
  repeat ((first | refine W.seqR rfl ?_ | refine W.seq ?_ | refine W.regR rfl ?_ | refine W.condK ?_ | refine W.block ?_ | refine W.skip ?_ | refine W.ret ?_ | refine W.exit ?_); try simp (maxSteps := 1000000) (disch := (first | omega | (simp only [World.size_alloc, size_wr, size_drew] <;> omega) | exact not_noB _)) only [go_sem, ↓reduceIte, n0, reduceCtorEq, n1, n2, n3, n4, n5, i0, i1, i2, i3, i4, i5, i6, i7, hb])
  first | exact Upd.wr (Upd.refl _ _) _ _ (.inr rfl) | exact ⟨by simp (maxSteps := 1000000) (disch := (first | omega | (simp only [World.size_alloc, size_wr, size_drew] <;> omega) | exact not_noB _)) only [go_sem, ↓reduceIte, n0, reduceCtorEq, n1, n2, n3, n4, n5, i0, i1, i2, i3, i4, i5, i6, i7, hb], Upd.wr (Upd.refl _ _) _ _ (.inr rfl)⟩

theorem MaxDeleteTopicsRequest_fn (w : World) : Fn Try.prog 34 #[] w fun r w' => r = .int .i64 6 ∧ Ext w w' := by
  refine fn_of_W Try.func34 rfl Try.results34 Try.ntmps34 rfl ?_
  repeat ((first | refine W.seqR rfl ?_ | refine W.seq ?_ | refine W.regR rfl ?_ | refine W.condK ?_ | refine W.block ?_ | refine W.skip ?_ | refine W.ret ?_ | refine W.exit ?_); try simp (maxSteps := 1000000) (disch := (first | omega | (simp only [World.size_alloc, size_wr, size_drew] <;> omega) | exact not_noB _)) only [go_sem, ↓reduceIte, n0, reduceCtorEq, n1, n2, n3, n4, n5, i0, i1, i2, i3, i4, i5, i6, i7])
  refine (NewPtrDeleteTopicsRequest_fn w).mono ?_
  rintro _ w1 ⟨rfl, hb1, hE1⟩
  repeat ((first | refine W.seqR rfl ?_ | refine W.seq ?_ | refine W.regR rfl ?_ | refine W.condK ?_ | refine W.block ?_ | refine W.skip ?_ | refine W.ret ?_ | refine W.exit ?_); try simp (maxSteps := 1000000) (disch := (first | omega | (simp only [World.size_alloc, size_wr, size_drew] <;> omega) | exact not_noB _)) only [go_sem, ↓reduceIte, n0, reduceCtorEq, n1, n2, n3, n4, n5, i0, i1, i2, i3, i4, i5, i6, i7])
  have hm : Fn Try.prog 84 #[.pointer (some ⟨w.heap.size, 0, none⟩)] w1 fun r w' => r = .int .i16 6 ∧ w' = w1 := by
    refine fn_of_W Try.func84 rfl Try.results84 Try.ntmps84 rfl ?_
    repeat ((first | refine W.seqR rfl ?_ | refine W.seq ?_ | refine W.regR rfl ?_ | refine W.condK ?_ | refine W.block ?_ | refine W.skip ?_ | refine W.ret ?_ | refine W.exit ?_); try simp (maxSteps := 1000000) (disch := (first | omega | (simp only [World.size_alloc, size_wr, size_drew] <;> omega) | exact not_noB _)) only [go_sem, ↓reduceIte, n0, reduceCtorEq, n1, n2, n3, n4, n5, i0, i1, i2, i3, i4, i5, i6, i7])
  refine hm.mono ?_
  rintro _ w2 ⟨rfl, rfl⟩
  have ew : IntKind.i64.wrap (6 : Int) = 6 := i64_wrap (by decide)
  repeat ((first | refine W.seqR rfl ?_ | refine W.seq ?_ | refine W.regR rfl ?_ | refine W.condK ?_ | refine W.block ?_ | refine W.skip ?_ | refine W.ret ?_ | refine W.exit ?_); try simp (maxSteps := 1000000) (disch := (first | omega | (simp only [World.size_alloc, size_wr, size_drew] <;> omega) | exact not_noB _)) only [go_sem, ↓reduceIte, n0, reduceCtorEq, n1, n2, n3, n4, n5, i0, i1, i2, i3, i4, i5, i6, i7, ew])
  exact hE1
end Ms

namespace Ms
open Nat renaming reduceEqDiff → n0, reduceAdd → n1, reduceMul → n2, reduceSub → n3, reduceLT → n4, reduceLeDiff → n5
open Int renaming reduceEq → i0, reduceLT → i1, reduceLE → i2, reduceNeg → i3, reduceAdd → i4, reduceSub → i5, reduceMul → i6, reduceToNat → i7
set_option maxRecDepth 8000
open Go Go.Proofs Go.Shelf
attribute [local congr] W_congr WPsq_congr WPp_congr optK_congr addrK_congr intK_congr boolK_congr sliceK_congr tupleK_congr funcK_congr Fn_congr rawK_congr takeK_congr stepK_congr convK_congr aggK_congr

set_option maxHeartbeats 4000000 in
theorem appDeleteTopicsRequest_0 {d B : Nat} {okM : Blocks} {ver : Int} (hlo : 0 ≤ ver) (hhi : ver ≤ 3) (t : Tree) (cells : List Value) (v : Value) (s : List UInt8) (w : World) {vb : Nat} (ho : OwnBy 5 B w v s) (hB : B ≤ w.heap.size) (hvb : blk w vb = some ((.int .i16 ver :: cells).toArray, 98, (0, 0)))
    (hR : RepS true (d + 2) fs_DeleteTopicsRequest okM w t cells) (hfit : FitP ver (d + 2) fs_DeleteTopicsRequest t) (hd : ∀ b, b < w.heap.size → okM b → ¬ ownB v b) (hdv : ¬ ownB v vb) (hlen : s.length + (partS (d + 2) fs_DeleteTopicsRequest ver false t).length ≤ 2 ^ 41) :
    Fn Try.prog 88 #[.pointer (some ⟨vb, 0, none⟩), v] w fun r w' => AppR 5 B w v s (partS (d + 2) fs_DeleteTopicsRequest ver false t) r w' := by
  obtain ⟨⟨g_0, g_1, g_2, -⟩, hfu⟩ := hfit
  replace g_0 : FitF (FitP ver (d + 1)) ver fDeleteTopicsRequest_0 (t.at 0) := g_0
  replace g_1 : FitF (FitP ver (d + 1)) ver fDeleteTopicsRequest_1 (t.at 1) := g_1
  replace g_2 : FitF (FitP ver (d + 1)) ver fDeleteTopicsRequest_2 (t.at 2) := g_2
  obtain ⟨cs, q, hcs, hL, hT⟩ := hR.inv
  obtain ⟨c_0, e_0, rfl, h_0, c_1, e_1, rfl, h_1, c_2, e_2, rfl, h_2, rfl⟩ := hL
  replace h_0 : RepF (RepS true (d + 1)) (szS true (d + 1)) fDeleteTopicsRequest_0 okM w (t.at 0) c_0 := h_0
  replace h_1 : RepF (RepS true (d + 1)) (szS true (d + 1)) fDeleteTopicsRequest_1 okM w (t.at 1) c_1 := h_1
  replace h_2 : RepF (RepS true (d + 1)) (szS true (d + 1)) fDeleteTopicsRequest_2 okM w (t.at 2) c_2 := h_2
  have hn_0 := g_0.notnull (by decide)
  obtain ⟨p_0, rfl, hs_0, -⟩ := (RepF_list rfl hn_0).1 h_0
  obtain ⟨ab_0, ac_0, rfl, _⟩ := SlR.shape hs_0
  have hll_0 := (g_0.list rfl).1
  have hn_1 := g_1.notnull (by decide)
  obtain ⟨p_1, rfl, hs_1, -⟩ := (RepF_list rfl hn_1).1 h_1
  obtain ⟨ab_1, ac_1, rfl, _⟩ := SlR.shape hs_1
  have hll_1 := (g_1.list rfl).1
  obtain rfl := (RepF_num (by decide)).1 h_2
  obtain ⟨qm, rfl⟩ := hT.shape
  have hv : blk w vb = some (#[.int .i16 ver, .slice ab_0 (t.at 0).l.length ac_0, .slice ab_1 (t.at 1).l.length ac_1, .int .i32 (IntKind.i32.wrap (t.at 2).n), .map qm], 98, (0, 0)) := by rw [hvb, hcs]; rfl
  clear hvb hcs
  have hh_0 : hasS fDeleteTopicsRequest_0 ver = true := hasS_t (by show (0 : Int) ≤ ver; omega) (by show (5 : Int) < 0 ∨ ver ≤ (5 : Int); omega)
  obtain ⟨XL_0, hXL_0⟩ : ∃ X, X = fixedS (t.at 0).l.length 4 := ⟨_, rfl⟩
  obtain ⟨XE_0, hXE_0⟩ : ∃ X, X = (t.at 0).l.flatMap (fun x : Tree => fixedS x.s.length 2 ++ x.s) := ⟨_, rfl⟩
  have hh_1 : hasS fDeleteTopicsRequest_1 ver = false := hasS_f (by show ver < 6 ∨ (0 ≤ (-1 : Int) ∧ (-1 : Int) < ver); omega)
  have hh_2 : hasS fDeleteTopicsRequest_2 ver = true := hasS_t (by show (0 : Int) ≤ ver; omega) (by show (-1 : Int) < 0 ∨ ver ≤ (-1 : Int); omega)
  obtain ⟨X_2, hXX_2⟩ : ∃ X, X = fixedS (t.at 2).n 4 := ⟨_, rfl⟩
  have hP : partS (d + 2) fs_DeleteTopicsRequest ver false t = (XL_0 ++ XE_0) ++ (X_2 ++ []) := partS_no (plainL_has (by decide) hh_0 ((fieldS_list_f (g := (fun x : Tree => fixedS x.s.length 2 ++ x.s)) g_0 rfl (by decide) (fun x hx => valueS_text (((g_0.list rfl).2 x hx).2.1 (.inl rfl)))).trans (by rw [hXL_0, hXE_0])) (plainL_not hh_1 (plainL_has (by decide) hh_2 ((fieldS_num 3 rfl (by decide)).trans hXX_2.symm) rfl)))
  rw [hP] at hlen
  simp only [List.length_append, List.length_nil] at hlen
  have hdK : ∀ {r : Value} {w' : World} {add : List UInt8}, AppR 5 B w v s add r w' → ∀ b, b < w'.heap.size → OkS okM w.heap.size b → ¬ ownB r b := fun h b _ hk ho => (h.frame b ho).elim (hd b hk.2 hk.1) (fun h => by have := hk.2; omega)
  have ownK : ∀ {r : Value} {w' : World} {add : List UInt8} {b : Nat}, AppR 5 B w v s add r w' → b < w.heap.size → ¬ ownB v b → ¬ ownB r b := fun h hb hn ho => (h.frame _ ho).elim hn (fun h => by omega)
  have ha0 : AppR 5 B w v s [] v w := AppR.refl ho
  obtain ⟨w0, hw0⟩ : ∃ w0, w0 = w := ⟨_, rfl⟩
  have hB0 := hB
  have hv_0 := hv
  refine fn_of_W Try.func88 rfl Try.results88 Try.ntmps88 rfl ?_
  repeat ((first | refine W.seqR rfl ?_ | refine W.seq ?_ | refine W.regR rfl ?_ | refine W.condK ?_ | refine W.block ?_ | refine W.skip ?_ | refine W.ret ?_ | refine W.exit ?_); try simp (maxSteps := 1000000) (disch := (first | omega | (simp only [World.size_alloc, size_wr, size_drew] <;> omega) | exact not_noB _)) only [go_sem, ↓reduceIte, n0, reduceCtorEq, n1, n2, n3, n4, n5, i0, i1, i2, i3, i4, i5, i6, i7, hv_0])
  refine (AppendArrayLen_fn _ _ _ ha0.own hB0 (t.at 0).l.length hll_0 (by simp only [List.length_append, List.length_nil]; omega)).mono ?_
  rintro r1 w1 hc1
  rw [← hXL_0] at hc1
  have ha1 := ha0.trans hc1
  have hB1 : B ≤ w1.heap.size := Nat.le_trans hB ha1.upd.size
  have hv_1 := ha1.upd.blk_some hv hdv
  repeat ((first | refine W.seqR rfl ?_ | refine W.seq ?_ | refine W.regR rfl ?_ | refine W.condK ?_ | refine W.block ?_ | refine W.skip ?_ | refine W.ret ?_ | refine W.exit ?_); try simp (maxSteps := 1000000) (disch := (first | omega | (simp only [World.size_alloc, size_wr, size_drew] <;> omega) | exact not_noB _)) only [go_sem, ↓reduceIte, n0, reduceCtorEq, n1, n2, n3, n4, n5, i0, i1, i2, i3, i4, i5, i6, i7, hv_1])
  have hadd1 := ha1
  refine W.exitJ 0 (fun ρ w' => ∃ r, ρ 1 = r ∧ ρ 0 = .pointer (some ⟨vb, 0, none⟩) ∧ ρ 5 = .int .i16 ver ∧ ρ 6 = .bool false ∧ AppR 5 B w v s (([] ++ XL_0) ++ XE_0) r w')
    (W.loop (fun ρ w' => ∃ (j : Nat) (r : Value), j ≤ (t.at 0).l.length ∧ ρ 45 = .int .i64 j ∧ ρ 44 = .int .i64 (t.at 0).l.length ∧ ρ 7 = .slice ab_0 (t.at 0).l.length ac_0 ∧ ρ 1 = r ∧ ρ 0 = .pointer (some ⟨vb, 0, none⟩) ∧ ρ 5 = .int .i16 ver ∧ ρ 6 = .bool false ∧ AppR 5 B w v s (([] ++ XL_0) ++ ((t.at 0).l.take j).flatMap (fun x : Tree => fixedS x.s.length 2 ++ x.s)) r w')
      (fun ρ _ => (t.at 0).l.length - (RowKit.intOf (ρ 45)).toNat) ?_ ?_) ?_
  · refine ⟨0, _, Nat.zero_le _, ?_, ?_, ?_, ?_, ?_, ?_, ?_, ha1.eqs (by rw [List.take_zero, List.flatMap_nil, List.append_nil])⟩ <;> simp (maxSteps := 1000000) (disch := (first | omega | (simp only [World.size_alloc, size_wr, size_drew] <;> omega) | exact not_noB _)) only [go_sem, ↓reduceIte, n0, reduceCtorEq, n1, n2, n3, n4, n5, i0, i1, i2, i3, i4, i5, i6, i7]
    all_goals rfl
  · rintro ρ w2 ⟨j1, r2, hj1, hI1, hN1, hS1, hr1_1, hr1_0, hr1_5, hr1_6, ha2⟩
    have hB2 : B ≤ w2.heap.size := Nat.le_trans hB ha2.upd.size
    have hv_2 := ha2.upd.blk_some hv hdv
    by_cases hlt1 : j1 < (t.at 0).l.length
    · obtain ⟨_, b1, o1, x1, ce1, hb1, hok1, hx1, hbl1, hxs1, hxe1, hq1, hRe1⟩ := SlR.get (size := 1) (by decide) hs_0 hlt1
      subst hb1
      have hcat1 : (t.at 0).l.take (j1 + 1) = (t.at 0).l.take j1 ++ [(t.at 0).l[j1]] := List.take_succ_eq_append_getElem hlt1
      have htl1 := take_flatMap_len (t.at 0).l (fun x : Tree => fixedS x.s.length 2 ++ x.s) (j1 + 1)
      rw [← hXE_0, hcat1, List.flatMap_append, List.flatMap_cons, List.flatMap_nil, List.append_nil] at htl1
      have hge1 := (g_0.list rfl).2 _ (List.getElem_mem hlt1)
      generalize (t.at 0).l[j1] = y1 at *
      have hnx1 := hd b1 hbl1 hok1
      obtain ⟨T1, hTT1⟩ : ∃ T, T = ((t.at 0).l.take j1).flatMap (fun x : Tree => fixedS x.s.length 2 ++ x.s) := ⟨_, rfl⟩
      rw [← hTT1] at ha2 htl1
      have hx1_2 := ha2.upd.blk_some hx1 hnx1
      obtain rfl := Rep1_text.1 hRe1
      have hq1_0 : x1.1[o1 + j1]? = some (strV y1.s) := by have := hq1 0 (by decide); rw [Nat.mul_one] at this; exact this
      obtain ⟨Y1, hY1⟩ : ∃ Y, Y = fixedS (y1).s.length 2 ++ (y1).s := ⟨_, rfl⟩
      replace htl1 : (T1 ++ Y1).length ≤ XE_0.length := by rw [hY1]; exact htl1
      simp only [List.length_append] at htl1
      repeat ((first | refine W.seqR rfl ?_ | refine W.seq ?_ | refine W.regR rfl ?_ | refine W.condK ?_ | refine W.block ?_ | refine W.skip ?_ | refine W.ret ?_ | refine W.exit ?_); try simp (maxSteps := 1000000) (disch := (first | omega | (simp only [World.size_alloc, size_wr, size_drew] <;> omega) | exact not_noB _)) only [go_sem, ↓reduceIte, n0, reduceCtorEq, n1, n2, n3, n4, n5, i0, i1, i2, i3, i4, i5, i6, i7, hv_2, hx1_2, Int.toNat_natCast, Nat.mul_one, hq1_0, hr1_1, hr1_0, hr1_5, hr1_6, hI1, hN1, hS1])
      refine (AppendString_fn _ _ _ ha2.own hB2 y1.s (hge1.2.1 (.inl rfl)) (by simp only [List.length_append, List.length_nil]; omega)).mono ?_
      rintro r3 w3 hc3
      rw [← hY1] at hc3
      have ha3 := ha2.trans hc3
      have hB3 : B ≤ w3.heap.size := Nat.le_trans hB ha3.upd.size
      have hv_3 := ha3.upd.blk_some hv hdv
      have hx1_3 := ha3.upd.blk_some hx1 hnx1
      repeat ((first | refine W.seqR rfl ?_ | refine W.seq ?_ | refine W.regR rfl ?_ | refine W.condK ?_ | refine W.block ?_ | refine W.skip ?_ | refine W.ret ?_ | refine W.exit ?_); try simp (maxSteps := 1000000) (disch := (first | omega | (simp only [World.size_alloc, size_wr, size_drew] <;> omega) | exact not_noB _)) only [go_sem, ↓reduceIte, n0, reduceCtorEq, n1, n2, n3, n4, n5, i0, i1, i2, i3, i4, i5, i6, i7, hr1_1, hr1_0, hr1_5, hr1_6, hI1, hN1, hS1])
      refine ⟨⟨j1 + 1, _, by omega, rfl, rfl, ha3.eqs ?_⟩, ?_⟩
      · rw [hcat1, List.flatMap_append, List.flatMap_cons, List.flatMap_nil, List.append_nil, ← hTT1, hY1]; simp only [List.append_assoc, List.append_nil, List.nil_append]
      · simp only [RowKit.intOf]; omega
    · have hjl1 : j1 = (t.at 0).l.length := by omega
      subst hjl1
      rw [List.take_length, ← hXE_0] at ha2
      repeat ((first | refine W.seqR rfl ?_ | refine W.seq ?_ | refine W.regR rfl ?_ | refine W.condK ?_ | refine W.block ?_ | refine W.skip ?_ | refine W.ret ?_ | refine W.exit ?_); try simp (maxSteps := 1000000) (disch := (first | omega | (simp only [World.size_alloc, size_wr, size_drew] <;> omega) | exact not_noB _)) only [go_sem, ↓reduceIte, n0, reduceCtorEq, n1, n2, n3, n4, n5, i0, i1, i2, i3, i4, i5, i6, i7, hI1, hN1])
      exact ⟨_, hr1_1, hr1_0, hr1_5, hr1_6, ha2⟩
  · rintro ρ w4 ⟨r4, hr1_2, hr2_0, hr2_5, hr2_6, ha4⟩
    have hB4 : B ≤ w4.heap.size := Nat.le_trans hB ha4.upd.size
    have hv_4 := ha4.upd.blk_some hv hdv
    repeat ((first | refine W.seqR rfl ?_ | refine W.seq ?_ | refine W.regR rfl ?_ | refine W.condK ?_ | refine W.block ?_ | refine W.skip ?_ | refine W.ret ?_ | refine W.exit ?_); try simp (maxSteps := 1000000) (disch := (first | omega | (simp only [World.size_alloc, size_wr, size_drew] <;> omega) | exact not_noB _)) only [go_sem, ↓reduceIte, n0, reduceCtorEq, n1, n2, n3, n4, n5, i0, i1, i2, i3, i4, i5, i6, i7, hv_4, hr1_2, hr2_0, hr2_5, hr2_6])
    refine (AppendInt32_fn _ _ _ ha4.own hB4 _ (by simp only [List.length_append, List.length_nil]; omega)).mono ?_
    rintro r5 w5 hc5
    rw [wrap32, ← hXX_2] at hc5
    have ha5 := ha4.trans hc5
    have hB5 : B ≤ w5.heap.size := Nat.le_trans hB ha5.upd.size
    have hv_5 := ha5.upd.blk_some hv hdv
    repeat ((first | refine W.seqR rfl ?_ | refine W.seq ?_ | refine W.regR rfl ?_ | refine W.condK ?_ | refine W.block ?_ | refine W.skip ?_ | refine W.ret ?_ | refine W.exit ?_); try simp (maxSteps := 1000000) (disch := (first | omega | (simp only [World.size_alloc, size_wr, size_drew] <;> omega) | exact not_noB _)) only [go_sem, ↓reduceIte, n0, reduceCtorEq, n1, n2, n3, n4, n5, i0, i1, i2, i3, i4, i5, i6, i7, hv_5, hr1_2, hr2_0, hr2_5, hr2_6])
    refine ha5.eqs ?_
    rw [hP]; simp only [List.append_assoc, List.append_nil, List.nil_append]
end Ms

