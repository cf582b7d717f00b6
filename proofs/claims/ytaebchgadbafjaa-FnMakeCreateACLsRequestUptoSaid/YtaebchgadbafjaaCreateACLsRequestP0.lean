/- A part of the proof: see the last text. -/
import Derived.Test.YtaebchgadbafjaaC08
set_option linter.unusedSimpArgs false
set_option linter.unusedVariables false
namespace Ms
open Nat renaming reduceEqDiff → n0, reduceAdd → n1, reduceMul → n2, reduceSub → n3, reduceLT → n4, reduceLeDiff → n5
open Int renaming reduceEq → i0, reduceLT → i1, reduceLE → i2, reduceNeg → i3, reduceAdd → i4, reduceSub → i5, reduceMul → i6, reduceToNat → i7
set_option maxRecDepth 4000
open Go Go.Proofs
theorem ap_85_85 : AppT Try.prog 85 85 162 8 80 := AppT.of (by kernel_rfl)
theorem ca_116 : callable Try.prog 116 = true := nr (by kernel_rfl)
theorem ca_118 : callable Try.prog 118 = true := nr (by kernel_rfl)
theorem ca_121 : callable Try.prog 121 = true := nr (by kernel_rfl)
theorem ca_122 : callable Try.prog 122 = true := nr (by kernel_rfl)
theorem ca_128 : callable Try.prog 128 = true := nr (by kernel_rfl)
theorem ca_129 : callable Try.prog 129 = true := nr (by kernel_rfl)
theorem ca_13 : callable Try.prog 13 = true := nr (by kernel_rfl)
theorem ca_143 : callable Try.prog 143 = true := nr (by kernel_rfl)
theorem ca_144 : callable Try.prog 144 = true := nr (by kernel_rfl)
theorem ca_145 : callable Try.prog 145 = true := nr (by kernel_rfl)
theorem ca_16 : callable Try.prog 16 = true := nr (by kernel_rfl)
theorem ca_21 : callable Try.prog 21 = true := nr (by kernel_rfl)
theorem ca_28 : callable Try.prog 28 = true := nr (by kernel_rfl)
theorem ca_29 : callable Try.prog 29 = true := nr (by kernel_rfl)
theorem ca_30 : callable Try.prog 30 = true := nr (by kernel_rfl)
theorem ca_72 : callable Try.prog 72 = true := nr (by kernel_rfl)
theorem ca_73 : callable Try.prog 73 = true := nr (by kernel_rfl)
theorem ca_74 : callable Try.prog 74 = true := nr (by kernel_rfl)
theorem ca_75 : callable Try.prog 75 = true := nr (by kernel_rfl)
theorem ca_76 : callable Try.prog 76 = true := nr (by kernel_rfl)
theorem ca_77 : callable Try.prog 77 = true := nr (by kernel_rfl)
theorem es_37 : elemSize Try.prog 37 = some 2 := nr (by kernel_rfl)
theorem es_85 : elemSize Try.prog 85 = some 8 := nr (by kernel_rfl)
theorem fo_162_0 : fieldOff Try.prog 162 0 = some 0 := nr (by kernel_rfl)
theorem fo_162_1 : fieldOff Try.prog 162 1 = some 1 := nr (by kernel_rfl)
theorem fo_162_2 : fieldOff Try.prog 162 2 = some 2 := nr (by kernel_rfl)
theorem fo_162_3 : fieldOff Try.prog 162 3 = some 3 := nr (by kernel_rfl)
theorem fo_162_4 : fieldOff Try.prog 162 4 = some 4 := nr (by kernel_rfl)
theorem fo_162_5 : fieldOff Try.prog 162 5 = some 5 := nr (by kernel_rfl)
theorem fo_162_6 : fieldOff Try.prog 162 6 = some 6 := nr (by kernel_rfl)
theorem fo_162_7 : fieldOff Try.prog 162 7 = some 7 := nr (by kernel_rfl)
theorem fo_64_0 : fieldOff Try.prog 64 0 = some 0 := nr (by kernel_rfl)
theorem fo_64_1 : fieldOff Try.prog 64 1 = some 1 := nr (by kernel_rfl)
theorem fo_87_0 : fieldOff Try.prog 87 0 = some 0 := nr (by kernel_rfl)
theorem fo_87_1 : fieldOff Try.prog 87 1 = some 1 := nr (by kernel_rfl)
theorem fo_87_2 : fieldOff Try.prog 87 2 = some 2 := nr (by kernel_rfl)
theorem fv_39_0 (cs : Array Value) : fieldV Try.prog 39 0 cs = cs[0]? := fieldV_one (by kernel_rfl) cs
theorem fv_39_1 (cs : Array Value) : fieldV Try.prog 39 1 cs = cs[1]? := fieldV_one (by kernel_rfl) cs
theorem fv_39_2 (cs : Array Value) : fieldV Try.prog 39 2 cs = cs[2]? := fieldV_one (by kernel_rfl) cs
theorem fv_39_3 (cs : Array Value) : fieldV Try.prog 39 3 cs = cs[3]? := fieldV_one (by kernel_rfl) cs
theorem it_157 : intT Try.prog 157 = some .i8 := nr (by kernel_rfl)
theorem it_158 : intT Try.prog 158 = some .i8 := nr (by kernel_rfl)
theorem it_159 : intT Try.prog 159 = some .i8 := nr (by kernel_rfl)
theorem it_160 : intT Try.prog 160 = some .i8 := nr (by kernel_rfl)
theorem ld_157 (w : World) (b o : Nat) : loadOf Try.prog 157 w ⟨b, o, none⟩ = (blk w b).bind fun x => x.1[o]? := loadOf_one (by kernel_rfl) w b o
theorem ld_158 (w : World) (b o : Nat) : loadOf Try.prog 158 w ⟨b, o, none⟩ = (blk w b).bind fun x => x.1[o]? := loadOf_one (by kernel_rfl) w b o
theorem ld_159 (w : World) (b o : Nat) : loadOf Try.prog 159 w ⟨b, o, none⟩ = (blk w b).bind fun x => x.1[o]? := loadOf_one (by kernel_rfl) w b o
theorem ld_160 (w : World) (b o : Nat) : loadOf Try.prog 160 w ⟨b, o, none⟩ = (blk w b).bind fun x => x.1[o]? := loadOf_one (by kernel_rfl) w b o
theorem ld_162 (w : World) (b o : Nat) : loadOf Try.prog 162 w ⟨b, o, none⟩ = (blk w b).bind fun x => cellsAt x.1 o 8 := loadOf_agg (by kernel_rfl) w b o
theorem ld_31 (w : World) (b o : Nat) : loadOf Try.prog 31 w ⟨b, o, none⟩ = (blk w b).bind fun x => cellsAt x.1 o 2 := loadOf_agg (by kernel_rfl) w b o
theorem ld_45 (w : World) (b o : Nat) : loadOf Try.prog 45 w ⟨b, o, none⟩ = (blk w b).bind fun x => x.1[o]? := loadOf_one (by kernel_rfl) w b o
theorem ld_64 (w : World) (b o : Nat) : loadOf Try.prog 64 w ⟨b, o, none⟩ = (blk w b).bind fun x => cellsAt x.1 o 2 := loadOf_agg (by kernel_rfl) w b o
theorem ld_85 (w : World) (b o : Nat) : loadOf Try.prog 85 w ⟨b, o, none⟩ = (blk w b).bind fun x => x.1[o]? := loadOf_one (by kernel_rfl) w b o
theorem pl_31 : placesOf Try.prog 31 = some [(0, 1), (1, 1)] := nr (by kernel_rfl)
theorem pl_50 : placesOf Try.prog 50 = some [(0, 1), (1, 1), (2, 1), (3, 1), (4, 1), (5, 1), (6, 1), (7, 1)] := nr (by kernel_rfl)
theorem pl_87 : placesOf Try.prog 87 = some [(0, 1), (1, 1), (2, 1)] := nr (by kernel_rfl)
theorem se_29 : slElem Try.prog 29 = some (50, 8) := nr (by kernel_rfl)
theorem se_85 : slElem Try.prog 85 = some (162, 8) := nr (by kernel_rfl)
theorem sl_37 : isSliceT Try.prog 37 = true := nr (by kernel_rfl)
theorem sl_85 : isSliceT Try.prog 85 = true := nr (by kernel_rfl)
theorem sz_157 (w : World) (b o : Nat) (v : Value) : storeOf Try.prog 157 w ⟨b, o, none⟩ v = (blk w b).bind fun x => stO w b o v x 1 := storeOf_n (by kernel_rfl) w b o v
theorem sz_158 (w : World) (b o : Nat) (v : Value) : storeOf Try.prog 158 w ⟨b, o, none⟩ v = (blk w b).bind fun x => stO w b o v x 1 := storeOf_n (by kernel_rfl) w b o v
theorem sz_159 (w : World) (b o : Nat) (v : Value) : storeOf Try.prog 159 w ⟨b, o, none⟩ v = (blk w b).bind fun x => stO w b o v x 1 := storeOf_n (by kernel_rfl) w b o v
theorem sz_160 (w : World) (b o : Nat) (v : Value) : storeOf Try.prog 160 w ⟨b, o, none⟩ v = (blk w b).bind fun x => stO w b o v x 1 := storeOf_n (by kernel_rfl) w b o v
theorem sz_162 (w : World) (b o : Nat) (v : Value) : storeOf Try.prog 162 w ⟨b, o, none⟩ v = (blk w b).bind fun x => stO w b o v x 8 := storeOf_n (by kernel_rfl) w b o v
theorem sz_31 (w : World) (b o : Nat) (v : Value) : storeOf Try.prog 31 w ⟨b, o, none⟩ v = (blk w b).bind fun x => stO w b o v x 2 := storeOf_n (by kernel_rfl) w b o v
theorem sz_45 (w : World) (b o : Nat) (v : Value) : storeOf Try.prog 45 w ⟨b, o, none⟩ v = (blk w b).bind fun x => stO w b o v x 1 := storeOf_n (by kernel_rfl) w b o v
theorem sz_64 (w : World) (b o : Nat) (v : Value) : storeOf Try.prog 64 w ⟨b, o, none⟩ v = (blk w b).bind fun x => stO w b o v x 2 := storeOf_n (by kernel_rfl) w b o v
theorem sz_85 (w : World) (b o : Nat) (v : Value) : storeOf Try.prog 85 w ⟨b, o, none⟩ v = (blk w b).bind fun x => stO w b o v x 1 := storeOf_n (by kernel_rfl) w b o v
theorem z_162 : zeroOf Try.prog 162 = some #[.int .i8 0, .string ByteArray.empty, .int .i8 0, .string ByteArray.empty, .string ByteArray.empty, .int .i8 0, .int .i8 0, .map none] := nr (by kernel_rfl)
theorem z_31 : zeroOf Try.prog 31 = some #[.slice none 0 0, .int .i64 0] := nr (by kernel_rfl)
theorem z_87 : zeroOf Try.prog 87 = some #[.int .i16 0, .slice none 0 0, .map none] := nr (by kernel_rfl)
attribute [go_sem] ca_116 ca_118 ca_121 ca_122 ca_128 ca_129 ca_13 ca_143 ca_144 ca_145 ca_16 ca_21 ca_28 ca_29 ca_30 ca_72 ca_73 ca_74 ca_75 ca_76 ca_77 es_37 es_85 fo_162_0 fo_162_1 fo_162_2 fo_162_3 fo_162_4 fo_162_5 fo_162_6 fo_162_7 fo_64_0 fo_64_1 fo_87_0 fo_87_1 fo_87_2 fv_39_0 fv_39_1 fv_39_2 fv_39_3 it_157 it_158 it_159 it_160 ld_157 ld_158 ld_159 ld_160 ld_162 ld_31 ld_45 ld_64 ld_85 pl_31 pl_50 pl_87 se_29 se_85 sl_37 sl_85 sz_157 sz_158 sz_159 sz_160 sz_162 sz_31 sz_45 sz_64 sz_85 z_162 z_31 z_87
end Ms

namespace Ms
open Nat renaming reduceEqDiff → n0, reduceAdd → n1, reduceMul → n2, reduceSub → n3, reduceLT → n4, reduceLeDiff → n5
open Int renaming reduceEq → i0, reduceLT → i1, reduceLE → i2, reduceNeg → i3, reduceAdd → i4, reduceSub → i5, reduceMul → i6, reduceToNat → i7
set_option maxRecDepth 8000
open Go Go.Proofs Go.Shelf
attribute [local congr] W_congr WPsq_congr WPp_congr optK_congr addrK_congr intK_congr boolK_congr sliceK_congr tupleK_congr funcK_congr Fn_congr rawK_congr takeK_congr stepK_congr convK_congr aggK_congr

def fCreateACLsRequestCreation_0 : Fld := .mk 1 0 (-1) (-1) (-1) 0 0 []
def fCreateACLsRequestCreation_1 : Fld := .mk 8 0 (-1) (-1) (-1) 0 0 []
def fCreateACLsRequestCreation_2 : Fld := .mk 1 1 (-1) (-1) (-1) 3 0 []
def fCreateACLsRequestCreation_3 : Fld := .mk 8 0 (-1) (-1) (-1) 0 0 []
def fCreateACLsRequestCreation_4 : Fld := .mk 8 0 (-1) (-1) (-1) 0 0 []
def fCreateACLsRequestCreation_5 : Fld := .mk 1 0 (-1) (-1) (-1) 0 0 []
def fCreateACLsRequestCreation_6 : Fld := .mk 1 0 (-1) (-1) (-1) 0 0 []
def fs_CreateACLsRequestCreation : List Fld := [fCreateACLsRequestCreation_0, fCreateACLsRequestCreation_1, fCreateACLsRequestCreation_2, fCreateACLsRequestCreation_3, fCreateACLsRequestCreation_4, fCreateACLsRequestCreation_5, fCreateACLsRequestCreation_6]
def fCreateACLsRequest_0 : Fld := .mk 11 0 (-1) (-1) (-1) 0 10 fs_CreateACLsRequestCreation
def fs_CreateACLsRequest : List Fld := [fCreateACLsRequest_0]

set_option maxHeartbeats 2000000 in
theorem makeCreateACLsRequestCreation_fn {d : Nat} {okT : Blocks} {V : Int} (t : Tree) (ct : List Value) (w : World) (ht : TreeC okT w t ct) (hfit : FitP V (d + 1) fs_CreateACLsRequestCreation t) (hLs : Lists t) :
    Fn Try.prog 144 #[.agg ct.toArray] w fun r w' => (∃ cs, r = .agg cs.toArray ∧ RepS true (d + 1) fs_CreateACLsRequestCreation (okN okT w.heap.size) w' t cs) ∧ Ext w w' := by
  obtain ⟨vS, vL, vU, rfl, hn, hSx, hLx0, hUx⟩ := ht.inv
  obtain ⟨bS, cS, rfl, hcS⟩ := hSx.shape
  obtain ⟨bL, cL, rfl, hcL⟩ := SlR.shape hLx0
  obtain ⟨bU, cU, rfl, hcU⟩ := SlR.shape hUx
  obtain ⟨⟨g0, g1, g2, g3, g4, g5, g6, -⟩, hfu⟩ := hfit
  replace g0 : FitF (FitP V d) V fCreateACLsRequestCreation_0 (t.at 0) := g0
  replace g1 : FitF (FitP V d) V fCreateACLsRequestCreation_1 (t.at 1) := g1
  replace g2 : FitF (FitP V d) V fCreateACLsRequestCreation_2 (t.at 2) := g2
  replace g3 : FitF (FitP V d) V fCreateACLsRequestCreation_3 (t.at 3) := g3
  replace g4 : FitF (FitP V d) V fCreateACLsRequestCreation_4 (t.at 4) := g4
  replace g5 : FitF (FitP V d) V fCreateACLsRequestCreation_5 (t.at 5) := g5
  replace g6 : FitF (FitP V d) V fCreateACLsRequestCreation_6 (t.at 6) := g6
  have hllt : t.l.length < 4611686018427387903 := Nat.lt_of_le_of_lt hLs.len (by decide)
  have hul := hLs.ulen
  refine fn_of_W Try.func144 rfl Try.results144 Try.ntmps144 rfl ?_
  obtain ⟨w1, hw1⟩ : ∃ w1, w1 = (((w.alloc (.cells #[.int .i64 t.n, .slice bS t.s.length cS, .bool t.null, .slice bL t.l.length cL, .slice bU t.u.length cU] 39)).alloc (.cells #[.int .i8 0, .string ByteArray.empty, .int .i8 0, .string ByteArray.empty, .string ByteArray.empty, .int .i8 0, .int .i8 0, .map none] 162)).alloc (.cells #[.int .i8 0, .string ByteArray.empty, .int .i8 0, .string ByteArray.empty, .string ByteArray.empty, .int .i8 0, .int .i8 0, .map none] 162)) := ⟨_, rfl⟩
  have hE1 : Ext w w1 := by rw [hw1]; exact ((Upd.refl _ _).alloc _).alloc _ |>.alloc _
  have hz1 : w1.heap.size = w.heap.size + 3 := by rw [hw1]; simp only [World.size_alloc]
  have htb1 : blk w1 w.heap.size = some (#[.int .i64 t.n, .slice bS t.s.length cS, .bool t.null, .slice bL t.l.length cL, .slice bU t.u.length cU], 39, (0, 0)) := by rw [hw1]; simp (maxSteps := 1000000) (disch := (first | omega | (simp only [World.size_alloc, size_wr, size_drew] <;> omega) | exact not_noB _)) only [go_sem, ↓reduceIte, n0, reduceCtorEq, n1, n2, n3, n4, n5, i0, i1, i2, i3, i4, i5, i6, i7]
  have hrb1 : blk w1 (w.heap.size + 1) = some (#[.int .i8 0, .string ByteArray.empty, .int .i8 0, .string ByteArray.empty, .string ByteArray.empty, .int .i8 0, .int .i8 0, .map none], 162, (0, 0)) := by rw [hw1]; simp (maxSteps := 1000000) (disch := (first | omega | (simp only [World.size_alloc, size_wr, size_drew] <;> omega) | exact not_noB _)) only [go_sem, ↓reduceIte, n0, reduceCtorEq, n1, n2, n3, n4, n5, i0, i1, i2, i3, i4, i5, i6, i7]
  have hb1 : blk w1 (w.heap.size + 2) = some (#[.int .i8 0, .string ByteArray.empty, .int .i8 0, .string ByteArray.empty, .string ByteArray.empty, .int .i8 0, .int .i8 0, .map none], 162, (0, 0)) := by rw [hw1]; simp (maxSteps := 1000000) (disch := (first | omega | (simp only [World.size_alloc, size_wr, size_drew] <;> omega) | exact not_noB _)) only [go_sem, ↓reduceIte, n0, reduceCtorEq, n1, n2, n3, n4, n5, i0, i1, i2, i3, i4, i5, i6, i7]
  have hoS : ∀ b, (OkS okT w.heap.size) b → b ≠ (w.heap.size + 2) := fun b h => by have := h.2; omega
  have hoR : ∀ b, (OkF okT w.heap.size w1.heap.size) b → b ≠ w.heap.size + 1 := fun b h => by
    rcases h with h | h
    · have := h.2; omega
    · omega
  have htv : ¬ w.heap.size = (w.heap.size + 2) := by omega
  have hoF : ∀ b, (OkF okT w.heap.size w1.heap.size) b → b ≠ (w.heap.size + 2) := fun b h => by
    rcases h with h | h
    · exact hoS b h
    · omega
  have hU1 : Upd (fun b => b = (w.heap.size + 2)) w1 w1 := Upd.refl _ _
  have hvl1 := blk_lt hb1
  have hsz1 := Nat.le_refl w1.heap.size
  have ht1 : TreeC (OkS okT w.heap.size) w1 t [.int .i64 t.n, .slice bS t.s.length cS, .bool t.null, .slice bL t.l.length cL, .slice bU t.u.length cU] := (ht.weaken fun b h1 h2 => ⟨h2, h1⟩).keep (hE1.keeps _)
  have hU1v : TagsV (OkS okT w.heap.size) w1 (.slice bU t.u.length cU) t.u := (hUx.weaken fun b h1 h2 => ⟨h2, h1⟩).keep (hE1.keeps _)
  repeat ((first | refine W.seqR rfl ?_ | refine W.seq ?_ | refine W.regR rfl ?_ | refine W.condK ?_ | refine W.block ?_ | refine W.skip ?_ | refine W.ret ?_ | refine W.exit ?_); try simp (maxSteps := 1000000) (disch := (first | omega | (simp only [World.size_alloc, size_wr, size_drew] <;> omega) | exact not_noB _)) only [go_sem, ↓reduceIte, n0, reduceCtorEq, n1, n2, n3, n4, n5, i0, i1, i2, i3, i4, i5, i6, i7])
  rw [← hw1]
  clear hw1
  refine (iat_fn (ok := (OkS okT w.heap.size)) t 0 _ _ (ht1.keep (hU1.keeps fun b _ hk e => hoS b hk e)) (by decide) hllt).mono ?_
  rintro r2 w2 ⟨⟨ca2, rfl, hca2⟩, hEa2⟩
  obtain ⟨vSa2, vLa2, vUa2, rfl, hna2, hSa2, hLa2, hUa2⟩ := hca2.inv
  obtain ⟨bSa2, cSa2, rfl, hcSa2⟩ := hSa2.shape
  obtain ⟨bLa2, cLa2, rfl, hcLa2⟩ := SlR.shape hLa2
  have hfU2 := SlR.flat hUa2
  clear hcSa2 hcLa2 hna2
  have hV2 : Upd (fun b => b = (w.heap.size + 2)) w1 w2 := hEa2.mono fun _ h => h.elim
  have hU2 : Upd (fun b => b = (w.heap.size + 2)) w1 w2 := hU1.trans hV2
  have htb2 := hU2.blk_some htb1 htv
  have hvl2 : (w.heap.size + 2) < w2.heap.size := Nat.lt_of_lt_of_le hvl1 hU2.size
  have hsz2 := hU2.size
  have hb2 : blk w2 (w.heap.size + 2) = some (#[.int .i8 0, .string ByteArray.empty, .int .i8 0, .string ByteArray.empty, .string ByteArray.empty, .int .i8 0, .int .i8 0, .map none], 162, (0, 0)) := hEa2.blk_some hb1 id
  simp (maxSteps := 1000000) (disch := (first | omega | (simp only [World.size_alloc, size_wr, size_drew] <;> omega) | exact not_noB _)) only [go_sem, ↓reduceIte, n0, reduceCtorEq, n1, n2, n3, n4, n5, i0, i1, i2, i3, i4, i5, i6, i7, hb2, htb2]
  generalize hw3 : wr w2 (w.heap.size + 2) 0 [.int .i8 (IntKind.i8.wrap (t.at 0).n)] = w3
  have hV3 : Upd (fun b => b = (w.heap.size + 2)) w2 w3 := by rw [← hw3]; exact (Upd.refl _ _).wr _ _ (.inr rfl)
  have hb3 : blk w3 (w.heap.size + 2) = some (#[.int .i8 (IntKind.i8.wrap (t.at 0).n), .string ByteArray.empty, .int .i8 0, .string ByteArray.empty, .string ByteArray.empty, .int .i8 0, .int .i8 0, .map none], 162, (0, 0)) := by rw [← hw3, blk_wr_eq, hb2]; rfl
  have hU3 : Upd (fun b => b = (w.heap.size + 2)) w1 w3 := hU2.trans hV3
  have htb3 := hU3.blk_some htb1 htv
  have hvl3 : (w.heap.size + 2) < w3.heap.size := Nat.lt_of_lt_of_le hvl1 hU3.size
  have hsz3 := hU3.size
  clear hvl2 hsz2
  clear hw3
  have hf0 : RepF (RepS true d) (szS true d) fCreateACLsRequestCreation_0 (OkF okT w.heap.size w1.heap.size) w3 (t.at 0) [.int .i8 (IntKind.i8.wrap (t.at 0).n)] := (RepF_num (by decide)).2 rfl
  repeat ((first | refine W.seqR rfl ?_ | refine W.seq ?_ | refine W.regR rfl ?_ | refine W.condK ?_ | refine W.block ?_ | refine W.skip ?_ | refine W.ret ?_ | refine W.exit ?_); try simp (maxSteps := 1000000) (disch := (first | omega | (simp only [World.size_alloc, size_wr, size_drew] <;> omega) | exact not_noB _)) only [go_sem, ↓reduceIte, n0, reduceCtorEq, n1, n2, n3, n4, n5, i0, i1, i2, i3, i4, i5, i6, i7, hb3, htb3])
  refine (iat_fn (ok := (OkS okT w.heap.size)) t 1 _ _ (ht1.keep (hU3.keeps fun b _ hk e => hoS b hk e)) (by decide) hllt).mono ?_
  rintro r4 w4 ⟨⟨ca4, rfl, hca4⟩, hEa4⟩
  obtain ⟨vSa4, vLa4, vUa4, rfl, hna4, hSa4, hLa4, hUa4⟩ := hca4.inv
  obtain ⟨bSa4, cSa4, rfl, hcSa4⟩ := hSa4.shape
  obtain ⟨bLa4, cLa4, rfl, hcLa4⟩ := SlR.shape hLa4
  have hfU4 := SlR.flat hUa4
  clear hcSa4 hcLa4 hna4
  have hV4 : Upd (fun b => b = (w.heap.size + 2)) w3 w4 := hEa4.mono fun _ h => h.elim
  have hU4 : Upd (fun b => b = (w.heap.size + 2)) w1 w4 := hU3.trans hV4
  have htb4 := hU4.blk_some htb1 htv
  have hvl4 : (w.heap.size + 2) < w4.heap.size := Nat.lt_of_lt_of_le hvl1 hU4.size
  have hsz4 := hU4.size
  clear hvl3 hsz3
  have hb4 : blk w4 (w.heap.size + 2) = some (#[.int .i8 (IntKind.i8.wrap (t.at 0).n), .string ByteArray.empty, .int .i8 0, .string ByteArray.empty, .string ByteArray.empty, .int .i8 0, .int .i8 0, .map none], 162, (0, 0)) := hEa4.blk_some hb3 id
  simp (maxSteps := 1000000) (disch := (first | omega | (simp only [World.size_alloc, size_wr, size_drew] <;> omega) | exact not_noB _)) only [go_sem, ↓reduceIte, n0, reduceCtorEq, n1, n2, n3, n4, n5, i0, i1, i2, i3, i4, i5, i6, i7, hb4, htb4]
  refine wp_string (S := 22) (T := 9) (E := 5) (s := (t.at 1).s) (ok := (OkS okT w.heap.size)) (by kernel_rfl) (by kernel_rfl) (by kernel_rfl) (by simp (maxSteps := 1000000) (disch := (first | omega | (simp only [World.size_alloc, size_wr, size_drew] <;> omega) | exact not_noB _)) only [go_sem, ↓reduceIte, n0, reduceCtorEq, n1, n2, n3, n4, n5, i0, i1, i2, i3, i4, i5, i6, i7]; exact hSa4) ?_
  simp (maxSteps := 1000000) (disch := (first | omega | (simp only [World.size_alloc, size_wr, size_drew] <;> omega) | exact not_noB _)) only [go_sem, ↓reduceIte, n0, reduceCtorEq, n1, n2, n3, n4, n5, i0, i1, i2, i3, i4, i5, i6, i7, hb4, htb4]
  generalize hw5 : wr w4 (w.heap.size + 2) 1 [strV (t.at 1).s] = w5
  have hV5 : Upd (fun b => b = (w.heap.size + 2)) w4 w5 := by rw [← hw5]; exact (Upd.refl _ _).wr _ _ (.inr rfl)
  have hb5 : blk w5 (w.heap.size + 2) = some (#[.int .i8 (IntKind.i8.wrap (t.at 0).n), strV (t.at 1).s, .int .i8 0, .string ByteArray.empty, .string ByteArray.empty, .int .i8 0, .int .i8 0, .map none], 162, (0, 0)) := by rw [← hw5, blk_wr_eq, hb4]; rfl
  have hU5 : Upd (fun b => b = (w.heap.size + 2)) w1 w5 := hU4.trans hV5
  have htb5 := hU5.blk_some htb1 htv
  have hvl5 : (w.heap.size + 2) < w5.heap.size := Nat.lt_of_lt_of_le hvl1 hU5.size
  have hsz5 := hU5.size
  clear hvl4 hsz4
  clear hw5
  have hf1 : RepF (RepS true d) (szS true d) fCreateACLsRequestCreation_1 (OkF okT w.heap.size w1.heap.size) w5 (t.at 1) [strV (t.at 1).s] := (RepF_text rfl (by decide)).2 rfl
  repeat ((first | refine W.seqR rfl ?_ | refine W.seq ?_ | refine W.regR rfl ?_ | refine W.condK ?_ | refine W.block ?_ | refine W.skip ?_ | refine W.ret ?_ | refine W.exit ?_); try simp (maxSteps := 1000000) (disch := (first | omega | (simp only [World.size_alloc, size_wr, size_drew] <;> omega) | exact not_noB _)) only [go_sem, ↓reduceIte, n0, reduceCtorEq, n1, n2, n3, n4, n5, i0, i1, i2, i3, i4, i5, i6, i7, hb5, htb5])
  refine (iat_fn (ok := (OkS okT w.heap.size)) t 2 _ _ (ht1.keep (hU5.keeps fun b _ hk e => hoS b hk e)) (by decide) hllt).mono ?_
  rintro r6 w6 ⟨⟨ca6, rfl, hca6⟩, hEa6⟩
  obtain ⟨vSa6, vLa6, vUa6, rfl, hna6, hSa6, hLa6, hUa6⟩ := hca6.inv
  obtain ⟨bSa6, cSa6, rfl, hcSa6⟩ := hSa6.shape
  obtain ⟨bLa6, cLa6, rfl, hcLa6⟩ := SlR.shape hLa6
  have hfU6 := SlR.flat hUa6
  clear hcSa6 hcLa6 hna6
  have hV6 : Upd (fun b => b = (w.heap.size + 2)) w5 w6 := hEa6.mono fun _ h => h.elim
  have hU6 : Upd (fun b => b = (w.heap.size + 2)) w1 w6 := hU5.trans hV6
  have htb6 := hU6.blk_some htb1 htv
  have hvl6 : (w.heap.size + 2) < w6.heap.size := Nat.lt_of_lt_of_le hvl1 hU6.size
  have hsz6 := hU6.size
  clear hvl5 hsz5
  have hb6 : blk w6 (w.heap.size + 2) = some (#[.int .i8 (IntKind.i8.wrap (t.at 0).n), strV (t.at 1).s, .int .i8 0, .string ByteArray.empty, .string ByteArray.empty, .int .i8 0, .int .i8 0, .map none], 162, (0, 0)) := hEa6.blk_some hb5 id
  simp (maxSteps := 1000000) (disch := (first | omega | (simp only [World.size_alloc, size_wr, size_drew] <;> omega) | exact not_noB _)) only [go_sem, ↓reduceIte, n0, reduceCtorEq, n1, n2, n3, n4, n5, i0, i1, i2, i3, i4, i5, i6, i7, hb6, htb6]
  generalize hw7 : wr w6 (w.heap.size + 2) 2 [.int .i8 (IntKind.i8.wrap (t.at 2).n)] = w7
  have hV7 : Upd (fun b => b = (w.heap.size + 2)) w6 w7 := by rw [← hw7]; exact (Upd.refl _ _).wr _ _ (.inr rfl)
  have hb7 : blk w7 (w.heap.size + 2) = some (#[.int .i8 (IntKind.i8.wrap (t.at 0).n), strV (t.at 1).s, .int .i8 (IntKind.i8.wrap (t.at 2).n), .string ByteArray.empty, .string ByteArray.empty, .int .i8 0, .int .i8 0, .map none], 162, (0, 0)) := by rw [← hw7, blk_wr_eq, hb6]; rfl
  have hU7 : Upd (fun b => b = (w.heap.size + 2)) w1 w7 := hU6.trans hV7
  have htb7 := hU7.blk_some htb1 htv
  have hvl7 : (w.heap.size + 2) < w7.heap.size := Nat.lt_of_lt_of_le hvl1 hU7.size
  have hsz7 := hU7.size
  clear hvl6 hsz6
  clear hw7
  have hf2 : RepF (RepS true d) (szS true d) fCreateACLsRequestCreation_2 (OkF okT w.heap.size w1.heap.size) w7 (t.at 2) [.int .i8 (IntKind.i8.wrap (t.at 2).n)] := (RepF_num (by decide)).2 rfl
  repeat ((first | refine W.seqR rfl ?_ | refine W.seq ?_ | refine W.regR rfl ?_ | refine W.condK ?_ | refine W.block ?_ | refine W.skip ?_ | refine W.ret ?_ | refine W.exit ?_); try simp (maxSteps := 1000000) (disch := (first | omega | (simp only [World.size_alloc, size_wr, size_drew] <;> omega) | exact not_noB _)) only [go_sem, ↓reduceIte, n0, reduceCtorEq, n1, n2, n3, n4, n5, i0, i1, i2, i3, i4, i5, i6, i7, hb7, htb7])
  refine (iat_fn (ok := (OkS okT w.heap.size)) t 3 _ _ (ht1.keep (hU7.keeps fun b _ hk e => hoS b hk e)) (by decide) hllt).mono ?_
  rintro r8 w8 ⟨⟨ca8, rfl, hca8⟩, hEa8⟩
  obtain ⟨vSa8, vLa8, vUa8, rfl, hna8, hSa8, hLa8, hUa8⟩ := hca8.inv
  obtain ⟨bSa8, cSa8, rfl, hcSa8⟩ := hSa8.shape
  obtain ⟨bLa8, cLa8, rfl, hcLa8⟩ := SlR.shape hLa8
  have hfU8 := SlR.flat hUa8
  clear hcSa8 hcLa8 hna8
  have hV8 : Upd (fun b => b = (w.heap.size + 2)) w7 w8 := hEa8.mono fun _ h => h.elim
  have hU8 : Upd (fun b => b = (w.heap.size + 2)) w1 w8 := hU7.trans hV8
  have htb8 := hU8.blk_some htb1 htv
  have hvl8 : (w.heap.size + 2) < w8.heap.size := Nat.lt_of_lt_of_le hvl1 hU8.size
  have hsz8 := hU8.size
  clear hvl7 hsz7
  have hb8 : blk w8 (w.heap.size + 2) = some (#[.int .i8 (IntKind.i8.wrap (t.at 0).n), strV (t.at 1).s, .int .i8 (IntKind.i8.wrap (t.at 2).n), .string ByteArray.empty, .string ByteArray.empty, .int .i8 0, .int .i8 0, .map none], 162, (0, 0)) := hEa8.blk_some hb7 id
  simp (maxSteps := 1000000) (disch := (first | omega | (simp only [World.size_alloc, size_wr, size_drew] <;> omega) | exact not_noB _)) only [go_sem, ↓reduceIte, n0, reduceCtorEq, n1, n2, n3, n4, n5, i0, i1, i2, i3, i4, i5, i6, i7, hb8, htb8]
  refine wp_string (S := 22) (T := 9) (E := 5) (s := (t.at 3).s) (ok := (OkS okT w.heap.size)) (by kernel_rfl) (by kernel_rfl) (by kernel_rfl) (by simp (maxSteps := 1000000) (disch := (first | omega | (simp only [World.size_alloc, size_wr, size_drew] <;> omega) | exact not_noB _)) only [go_sem, ↓reduceIte, n0, reduceCtorEq, n1, n2, n3, n4, n5, i0, i1, i2, i3, i4, i5, i6, i7]; exact hSa8) ?_
  simp (maxSteps := 1000000) (disch := (first | omega | (simp only [World.size_alloc, size_wr, size_drew] <;> omega) | exact not_noB _)) only [go_sem, ↓reduceIte, n0, reduceCtorEq, n1, n2, n3, n4, n5, i0, i1, i2, i3, i4, i5, i6, i7, hb8, htb8]
  generalize hw9 : wr w8 (w.heap.size + 2) 3 [strV (t.at 3).s] = w9
  have hV9 : Upd (fun b => b = (w.heap.size + 2)) w8 w9 := by rw [← hw9]; exact (Upd.refl _ _).wr _ _ (.inr rfl)
  have hb9 : blk w9 (w.heap.size + 2) = some (#[.int .i8 (IntKind.i8.wrap (t.at 0).n), strV (t.at 1).s, .int .i8 (IntKind.i8.wrap (t.at 2).n), strV (t.at 3).s, .string ByteArray.empty, .int .i8 0, .int .i8 0, .map none], 162, (0, 0)) := by rw [← hw9, blk_wr_eq, hb8]; rfl
  have hU9 : Upd (fun b => b = (w.heap.size + 2)) w1 w9 := hU8.trans hV9
  have htb9 := hU9.blk_some htb1 htv
  have hvl9 : (w.heap.size + 2) < w9.heap.size := Nat.lt_of_lt_of_le hvl1 hU9.size
  have hsz9 := hU9.size
  clear hvl8 hsz8
  clear hw9
  have hf3 : RepF (RepS true d) (szS true d) fCreateACLsRequestCreation_3 (OkF okT w.heap.size w1.heap.size) w9 (t.at 3) [strV (t.at 3).s] := (RepF_text rfl (by decide)).2 rfl
  repeat ((first | refine W.seqR rfl ?_ | refine W.seq ?_ | refine W.regR rfl ?_ | refine W.condK ?_ | refine W.block ?_ | refine W.skip ?_ | refine W.ret ?_ | refine W.exit ?_); try simp (maxSteps := 1000000) (disch := (first | omega | (simp only [World.size_alloc, size_wr, size_drew] <;> omega) | exact not_noB _)) only [go_sem, ↓reduceIte, n0, reduceCtorEq, n1, n2, n3, n4, n5, i0, i1, i2, i3, i4, i5, i6, i7, hb9, htb9])
  refine (iat_fn (ok := (OkS okT w.heap.size)) t 4 _ _ (ht1.keep (hU9.keeps fun b _ hk e => hoS b hk e)) (by decide) hllt).mono ?_
  rintro r10 w10 ⟨⟨ca10, rfl, hca10⟩, hEa10⟩
  obtain ⟨vSa10, vLa10, vUa10, rfl, hna10, hSa10, hLa10, hUa10⟩ := hca10.inv
  obtain ⟨bSa10, cSa10, rfl, hcSa10⟩ := hSa10.shape
  obtain ⟨bLa10, cLa10, rfl, hcLa10⟩ := SlR.shape hLa10
  have hfU10 := SlR.flat hUa10
  clear hcSa10 hcLa10 hna10
  have hV10 : Upd (fun b => b = (w.heap.size + 2)) w9 w10 := hEa10.mono fun _ h => h.elim
  have hU10 : Upd (fun b => b = (w.heap.size + 2)) w1 w10 := hU9.trans hV10
  have htb10 := hU10.blk_some htb1 htv
  have hvl10 : (w.heap.size + 2) < w10.heap.size := Nat.lt_of_lt_of_le hvl1 hU10.size
  have hsz10 := hU10.size
  clear hvl9 hsz9
  have hb10 : blk w10 (w.heap.size + 2) = some (#[.int .i8 (IntKind.i8.wrap (t.at 0).n), strV (t.at 1).s, .int .i8 (IntKind.i8.wrap (t.at 2).n), strV (t.at 3).s, .string ByteArray.empty, .int .i8 0, .int .i8 0, .map none], 162, (0, 0)) := hEa10.blk_some hb9 id
  simp (maxSteps := 1000000) (disch := (first | omega | (simp only [World.size_alloc, size_wr, size_drew] <;> omega) | exact not_noB _)) only [go_sem, ↓reduceIte, n0, reduceCtorEq, n1, n2, n3, n4, n5, i0, i1, i2, i3, i4, i5, i6, i7, hb10, htb10]
  refine wp_string (S := 22) (T := 9) (E := 5) (s := (t.at 4).s) (ok := (OkS okT w.heap.size)) (by kernel_rfl) (by kernel_rfl) (by kernel_rfl) (by simp (maxSteps := 1000000) (disch := (first | omega | (simp only [World.size_alloc, size_wr, size_drew] <;> omega) | exact not_noB _)) only [go_sem, ↓reduceIte, n0, reduceCtorEq, n1, n2, n3, n4, n5, i0, i1, i2, i3, i4, i5, i6, i7]; exact hSa10) ?_
  simp (maxSteps := 1000000) (disch := (first | omega | (simp only [World.size_alloc, size_wr, size_drew] <;> omega) | exact not_noB _)) only [go_sem, ↓reduceIte, n0, reduceCtorEq, n1, n2, n3, n4, n5, i0, i1, i2, i3, i4, i5, i6, i7, hb10, htb10]
  generalize hw11 : wr w10 (w.heap.size + 2) 4 [strV (t.at 4).s] = w11
  have hV11 : Upd (fun b => b = (w.heap.size + 2)) w10 w11 := by rw [← hw11]; exact (Upd.refl _ _).wr _ _ (.inr rfl)
  have hb11 : blk w11 (w.heap.size + 2) = some (#[.int .i8 (IntKind.i8.wrap (t.at 0).n), strV (t.at 1).s, .int .i8 (IntKind.i8.wrap (t.at 2).n), strV (t.at 3).s, strV (t.at 4).s, .int .i8 0, .int .i8 0, .map none], 162, (0, 0)) := by rw [← hw11, blk_wr_eq, hb10]; rfl
  have hU11 : Upd (fun b => b = (w.heap.size + 2)) w1 w11 := hU10.trans hV11
  have htb11 := hU11.blk_some htb1 htv
  have hvl11 : (w.heap.size + 2) < w11.heap.size := Nat.lt_of_lt_of_le hvl1 hU11.size
  have hsz11 := hU11.size
  clear hvl10 hsz10
  clear hw11
  have hf4 : RepF (RepS true d) (szS true d) fCreateACLsRequestCreation_4 (OkF okT w.heap.size w1.heap.size) w11 (t.at 4) [strV (t.at 4).s] := (RepF_text rfl (by decide)).2 rfl
  repeat ((first | refine W.seqR rfl ?_ | refine W.seq ?_ | refine W.regR rfl ?_ | refine W.condK ?_ | refine W.block ?_ | refine W.skip ?_ | refine W.ret ?_ | refine W.exit ?_); try simp (maxSteps := 1000000) (disch := (first | omega | (simp only [World.size_alloc, size_wr, size_drew] <;> omega) | exact not_noB _)) only [go_sem, ↓reduceIte, n0, reduceCtorEq, n1, n2, n3, n4, n5, i0, i1, i2, i3, i4, i5, i6, i7, hb11, htb11])
  refine (iat_fn (ok := (OkS okT w.heap.size)) t 5 _ _ (ht1.keep (hU11.keeps fun b _ hk e => hoS b hk e)) (by decide) hllt).mono ?_
  rintro r12 w12 ⟨⟨ca12, rfl, hca12⟩, hEa12⟩
  obtain ⟨vSa12, vLa12, vUa12, rfl, hna12, hSa12, hLa12, hUa12⟩ := hca12.inv
  obtain ⟨bSa12, cSa12, rfl, hcSa12⟩ := hSa12.shape
  obtain ⟨bLa12, cLa12, rfl, hcLa12⟩ := SlR.shape hLa12
  have hfU12 := SlR.flat hUa12
  clear hcSa12 hcLa12 hna12
  have hV12 : Upd (fun b => b = (w.heap.size + 2)) w11 w12 := hEa12.mono fun _ h => h.elim
  have hU12 : Upd (fun b => b = (w.heap.size + 2)) w1 w12 := hU11.trans hV12
  have htb12 := hU12.blk_some htb1 htv
  have hvl12 : (w.heap.size + 2) < w12.heap.size := Nat.lt_of_lt_of_le hvl1 hU12.size
  have hsz12 := hU12.size
  clear hvl11 hsz11
  have hb12 : blk w12 (w.heap.size + 2) = some (#[.int .i8 (IntKind.i8.wrap (t.at 0).n), strV (t.at 1).s, .int .i8 (IntKind.i8.wrap (t.at 2).n), strV (t.at 3).s, strV (t.at 4).s, .int .i8 0, .int .i8 0, .map none], 162, (0, 0)) := hEa12.blk_some hb11 id
  simp (maxSteps := 1000000) (disch := (first | omega | (simp only [World.size_alloc, size_wr, size_drew] <;> omega) | exact not_noB _)) only [go_sem, ↓reduceIte, n0, reduceCtorEq, n1, n2, n3, n4, n5, i0, i1, i2, i3, i4, i5, i6, i7, hb12, htb12]
  generalize hw13 : wr w12 (w.heap.size + 2) 5 [.int .i8 (IntKind.i8.wrap (t.at 5).n)] = w13
  have hV13 : Upd (fun b => b = (w.heap.size + 2)) w12 w13 := by rw [← hw13]; exact (Upd.refl _ _).wr _ _ (.inr rfl)
  have hb13 : blk w13 (w.heap.size + 2) = some (#[.int .i8 (IntKind.i8.wrap (t.at 0).n), strV (t.at 1).s, .int .i8 (IntKind.i8.wrap (t.at 2).n), strV (t.at 3).s, strV (t.at 4).s, .int .i8 (IntKind.i8.wrap (t.at 5).n), .int .i8 0, .map none], 162, (0, 0)) := by rw [← hw13, blk_wr_eq, hb12]; rfl
  have hU13 : Upd (fun b => b = (w.heap.size + 2)) w1 w13 := hU12.trans hV13
  have htb13 := hU13.blk_some htb1 htv
  have hvl13 : (w.heap.size + 2) < w13.heap.size := Nat.lt_of_lt_of_le hvl1 hU13.size
  have hsz13 := hU13.size
  clear hvl12 hsz12
  clear hw13
  have hf5 : RepF (RepS true d) (szS true d) fCreateACLsRequestCreation_5 (OkF okT w.heap.size w1.heap.size) w13 (t.at 5) [.int .i8 (IntKind.i8.wrap (t.at 5).n)] := (RepF_num (by decide)).2 rfl
  repeat ((first | refine W.seqR rfl ?_ | refine W.seq ?_ | refine W.regR rfl ?_ | refine W.condK ?_ | refine W.block ?_ | refine W.skip ?_ | refine W.ret ?_ | refine W.exit ?_); try simp (maxSteps := 1000000) (disch := (first | omega | (simp only [World.size_alloc, size_wr, size_drew] <;> omega) | exact not_noB _)) only [go_sem, ↓reduceIte, n0, reduceCtorEq, n1, n2, n3, n4, n5, i0, i1, i2, i3, i4, i5, i6, i7, hb13, htb13])
  refine (iat_fn (ok := (OkS okT w.heap.size)) t 6 _ _ (ht1.keep (hU13.keeps fun b _ hk e => hoS b hk e)) (by decide) hllt).mono ?_
  rintro r14 w14 ⟨⟨ca14, rfl, hca14⟩, hEa14⟩
  obtain ⟨vSa14, vLa14, vUa14, rfl, hna14, hSa14, hLa14, hUa14⟩ := hca14.inv
  obtain ⟨bSa14, cSa14, rfl, hcSa14⟩ := hSa14.shape
  obtain ⟨bLa14, cLa14, rfl, hcLa14⟩ := SlR.shape hLa14
  have hfU14 := SlR.flat hUa14
  clear hcSa14 hcLa14 hna14
  have hV14 : Upd (fun b => b = (w.heap.size + 2)) w13 w14 := hEa14.mono fun _ h => h.elim
  have hU14 : Upd (fun b => b = (w.heap.size + 2)) w1 w14 := hU13.trans hV14
  have htb14 := hU14.blk_some htb1 htv
  have hvl14 : (w.heap.size + 2) < w14.heap.size := Nat.lt_of_lt_of_le hvl1 hU14.size
  have hsz14 := hU14.size
  clear hvl13 hsz13
  have hb14 : blk w14 (w.heap.size + 2) = some (#[.int .i8 (IntKind.i8.wrap (t.at 0).n), strV (t.at 1).s, .int .i8 (IntKind.i8.wrap (t.at 2).n), strV (t.at 3).s, strV (t.at 4).s, .int .i8 (IntKind.i8.wrap (t.at 5).n), .int .i8 0, .map none], 162, (0, 0)) := hEa14.blk_some hb13 id
  simp (maxSteps := 1000000) (disch := (first | omega | (simp only [World.size_alloc, size_wr, size_drew] <;> omega) | exact not_noB _)) only [go_sem, ↓reduceIte, n0, reduceCtorEq, n1, n2, n3, n4, n5, i0, i1, i2, i3, i4, i5, i6, i7, hb14, htb14]
  generalize hw15 : wr w14 (w.heap.size + 2) 6 [.int .i8 (IntKind.i8.wrap (t.at 6).n)] = w15
  have hV15 : Upd (fun b => b = (w.heap.size + 2)) w14 w15 := by rw [← hw15]; exact (Upd.refl _ _).wr _ _ (.inr rfl)
  have hb15 : blk w15 (w.heap.size + 2) = some (#[.int .i8 (IntKind.i8.wrap (t.at 0).n), strV (t.at 1).s, .int .i8 (IntKind.i8.wrap (t.at 2).n), strV (t.at 3).s, strV (t.at 4).s, .int .i8 (IntKind.i8.wrap (t.at 5).n), .int .i8 (IntKind.i8.wrap (t.at 6).n), .map none], 162, (0, 0)) := by rw [← hw15, blk_wr_eq, hb14]; rfl
  have hU15 : Upd (fun b => b = (w.heap.size + 2)) w1 w15 := hU14.trans hV15
  have htb15 := hU15.blk_some htb1 htv
  have hvl15 : (w.heap.size + 2) < w15.heap.size := Nat.lt_of_lt_of_le hvl1 hU15.size
  have hsz15 := hU15.size
  clear hvl14 hsz14
  clear hw15
  have hf6 : RepF (RepS true d) (szS true d) fCreateACLsRequestCreation_6 (OkF okT w.heap.size w1.heap.size) w15 (t.at 6) [.int .i8 (IntKind.i8.wrap (t.at 6).n)] := (RepF_num (by decide)).2 rfl
  repeat ((first | refine W.seqR rfl ?_ | refine W.seq ?_ | refine W.regR rfl ?_ | refine W.condK ?_ | refine W.block ?_ | refine W.skip ?_ | refine W.ret ?_ | refine W.exit ?_); try simp (maxSteps := 1000000) (disch := (first | omega | (simp only [World.size_alloc, size_wr, size_drew] <;> omega) | exact not_noB _)) only [go_sem, ↓reduceIte, n0, reduceCtorEq, n1, n2, n3, n4, n5, i0, i1, i2, i3, i4, i5, i6, i7, hb15, htb15])
  have hUv := hU1v.keep (hU15.keeps fun b _ hk e => hoS b hk e)
  refine W.loop (fun ρ w' => ∃ (j : Nat) (q : Option Nat), j ≤ t.u.length ∧ ρ 44 = .int .i64 j ∧ ρ 43 = .int .i64 t.u.length ∧ ρ 42 = .slice bU t.u.length cU ∧ ρ 1 = .pointer (some ⟨w.heap.size, 0, none⟩) ∧ ρ 2 = .pointer (some ⟨w.heap.size + 1, 0, none⟩) ∧ ρ 3 = .pointer (some ⟨(w.heap.size + 2), 0, none⟩) ∧ blk w' (w.heap.size + 2) = some (#[.int .i8 (IntKind.i8.wrap (t.at 0).n), strV (t.at 1).s, .int .i8 (IntKind.i8.wrap (t.at 2).n), strV (t.at 3).s, strV (t.at 4).s, .int .i8 (IntKind.i8.wrap (t.at 5).n), .int .i8 (IntKind.i8.wrap (t.at 6).n), .map q], 162, (0, 0)) ∧ TagsG (OkS okT w.heap.size) w15.heap.size w' (.map q) (t.u.take j) ∧ Upd (fun b => b = (w.heap.size + 2)) w15 w')
      (fun ρ _ => t.u.length - (RowKit.intOf (ρ 44)).toNat) ?_ ?_
  · refine ⟨0, none, Nat.zero_le _, ?_, ?_, ?_, ?_, ?_, ?_, hb15, TagsG.start _ _ _, Upd.refl _ _⟩ <;> simp (maxSteps := 1000000) (disch := (first | omega | (simp only [World.size_alloc, size_wr, size_drew] <;> omega) | exact not_noB _)) only [go_sem, ↓reduceIte, n0, reduceCtorEq, n1, n2, n3, n4, n5, i0, i1, i2, i3, i4, i5, i6, i7]
    all_goals rfl
  · rintro ρ w_6 ⟨j, q, hj, hI, hN, hS, hr1, hr2, hr3, hbv, hG, hU_6⟩
    have hz_6 := hU_6.size
    have hUv_6 := hUv.keep (hU_6.keeps fun b _ hk e => hoS b hk e)
    have hU_16 : Upd (fun b => b = (w.heap.size + 2)) w1 w_6 := hU15.trans hU_6
    have hz_16 := hU_16.size
    by_cases hlt : j < t.u.length
    · obtain ⟨_, b, o, x, vv, hb, hokb, hx, hblt, hxs, hxe, _, _, hfv, hbvv, h32⟩ := TagsV.get hUv_6 hlt
      subst hb
      have hcat : t.u.take (j + 1) = t.u.take j ++ [t.u[j]] := List.take_succ_eq_append_getElem hlt
      have hnew : ∀ z ∈ t.u.take j, z.1 ≠ t.u[j].1 := by
        intro z hz
        obtain ⟨k, hk, rfl⟩ := List.getElem_of_mem hz
        simp only [List.length_take] at hk
        have := List.pairwise_iff_getElem.1 hfu.2.2 k j (by omega) hlt (by omega)
        rw [List.getElem_take]; omega
      generalize t.u[j] = y at *
      obtain ⟨bSy, cSy, rfl, hcSy⟩ := hbvv.shape
      repeat ((first | refine W.seqR rfl ?_ | refine W.seq ?_ | refine W.regR rfl ?_ | refine W.condK ?_ | refine W.block ?_ | refine W.skip ?_ | refine W.ret ?_ | refine W.exit ?_); try simp (maxSteps := 1000000) (disch := (first | omega | (simp only [World.size_alloc, size_wr, size_drew] <;> omega) | exact not_noB _)) only [go_sem, ↓reduceIte, n0, reduceCtorEq, n1, n2, n3, n4, n5, i0, i1, i2, i3, i4, i5, i6, i7, hI, hN, hS, hx, hxe, hfv, cellsAt_two, Int.toNat_natCast])
      generalize hw_7 : (wr (w_6.alloc (.cells #[.int .u32 0, .slice none 0 0] 64)) w_6.heap.size 0 [.int .u32 y.1, .slice bSy y.2.length cSy]) = w_7
      have hE_7 : Ext w_6 w_7 := by rw [← hw_7]; exact (Upd.alloc (Upd.refl _ _) _).wr _ _ (.inl (Nat.le_refl _))
      have hb_7 : blk w_7 w_6.heap.size = some (#[.int .u32 y.1, .slice bSy y.2.length cSy], 64, (0, 0)) := by rw [← hw_7]; simp (maxSteps := 1000000) (disch := (first | omega | (simp only [World.size_alloc, size_wr, size_drew] <;> omega) | exact not_noB _)) only [go_sem, ↓reduceIte, n0, reduceCtorEq, n1, n2, n3, n4, n5, i0, i1, i2, i3, i4, i5, i6, i7]
      have hz_7 : w_7.heap.size = w_6.heap.size + 1 := by rw [← hw_7]; simp only [size_wr, World.size_alloc]
      clear hw_7
      have hbt_7 := hE_7.blk_some hbv id
      simp (maxSteps := 1000000) (disch := (first | omega | (simp only [World.size_alloc, size_wr, size_drew] <;> omega) | exact not_noB _)) only [go_sem, ↓reduceIte, n0, reduceCtorEq, n1, n2, n3, n4, n5, i0, i1, i2, i3, i4, i5, i6, i7, hr1, hr2, hr3, hbt_7, hb_7, cellsAt_two]
      have hE_7d : Ext w_7 w_7 := Upd.refl _ _
      have hE_6d : Ext w_6 w_7 := hE_7.trans hE_7d
      have hG_7 : TagsG (OkS okT w.heap.size) w15.heap.size w_7 (.map q) (t.u.take j) := hG.keep fun b hb _ => hE_6d.keep b hb id
      have hbt_8 := hE_7d.blk_some hbt_7 id
      have hm_8 : (#[.int .i8 (IntKind.i8.wrap (t.at 0).n), strV (t.at 1).s, .int .i8 (IntKind.i8.wrap (t.at 2).n), strV (t.at 3).s, strV (t.at 4).s, .int .i8 (IntKind.i8.wrap (t.at 5).n), .int .i8 (IntKind.i8.wrap (t.at 6).n), .map q] : Array Value)[7]? = some (.map q) := rfl
      refine (TagsSet_fn (okT := (OkS okT w.heap.size)) (L := w15.heap.size) w_7 hG_7 (by have := hE_6d.size; omega) (by omega) hbt_8 (o := 7) hm_8 (thaw_00 _ _) y _ ((hbvv.weaken fun b _ hk => ⟨hk, by have := hk.2; omega⟩).keep (hE_6d.keeps _)) h32 hnew hoS).mono ?_
      rintro _ w_8 ⟨m', hb_8, hG_8, hM_8⟩
      simp only [List.setIfInBounds_toArray, List.set_cons_succ, List.set_cons_zero] at hb_8
      repeat ((first | refine W.seqR rfl ?_ | refine W.seq ?_ | refine W.regR rfl ?_ | refine W.condK ?_ | refine W.block ?_ | refine W.skip ?_ | refine W.ret ?_ | refine W.exit ?_); try simp (maxSteps := 1000000) (disch := (first | omega | (simp only [World.size_alloc, size_wr, size_drew] <;> omega) | exact not_noB _)) only [go_sem, ↓reduceIte, n0, reduceCtorEq, n1, n2, n3, n4, n5, i0, i1, i2, i3, i4, i5, i6, i7, hI])
      refine ⟨⟨j + 1, m', by omega, rfl, hN, hS, hr1, hr2, hr3, hb_8, by rw [hcat]; exact hG_8, ?_⟩, ?_⟩
      · exact hU_6.more ((hE_6d.mono fun _ h => h.elim).trans hM_8) fun b hb h => by
          rcases h with h | h
          · exact h
          · cases h; have := (hG.lt rfl).2; omega
      · simp only [RowKit.intOf]; omega
    · have hjl : j = t.u.length := by omega
      subst hjl
      rw [List.take_length] at hG
      have hT14 : Upd (fun b => b = (w.heap.size + 2)) w14 w_6 := hV15.trans hU_6
      have hT13 : Upd (fun b => b = (w.heap.size + 2)) w13 w_6 := hV14.trans hT14
      have hT12 : Upd (fun b => b = (w.heap.size + 2)) w12 w_6 := hV13.trans hT13
      have hT11 : Upd (fun b => b = (w.heap.size + 2)) w11 w_6 := hV12.trans hT12
      have hT10 : Upd (fun b => b = (w.heap.size + 2)) w10 w_6 := hV11.trans hT11
      have hT9 : Upd (fun b => b = (w.heap.size + 2)) w9 w_6 := hV10.trans hT10
      have hT8 : Upd (fun b => b = (w.heap.size + 2)) w8 w_6 := hV9.trans hT9
      have hT7 : Upd (fun b => b = (w.heap.size + 2)) w7 w_6 := hV8.trans hT8
      have hT6 : Upd (fun b => b = (w.heap.size + 2)) w6 w_6 := hV7.trans hT7
      have hT5 : Upd (fun b => b = (w.heap.size + 2)) w5 w_6 := hV6.trans hT6
      have hT4 : Upd (fun b => b = (w.heap.size + 2)) w4 w_6 := hV5.trans hT5
      have hT3 : Upd (fun b => b = (w.heap.size + 2)) w3 w_6 := hV4.trans hT4
      have hT2 : Upd (fun b => b = (w.heap.size + 2)) w2 w_6 := hV3.trans hT3
      have hT1 : Upd (fun b => b = (w.heap.size + 2)) w1 w_6 := hV2.trans hT2
      have hz0_f := hf0.keepS (hT3.keeps fun b _ hk e => hoF b hk e)
      have hz1_f := hf1.keepS (hT5.keeps fun b _ hk e => hoF b hk e)
      have hz2_f := hf2.keepS (hT7.keeps fun b _ hk e => hoF b hk e)
      have hz3_f := hf3.keepS (hT9.keeps fun b _ hk e => hoF b hk e)
      have hz4_f := hf4.keepS (hT11.keeps fun b _ hk e => hoF b hk e)
      have hz5_f := hf5.keepS (hT13.keeps fun b _ hk e => hoF b hk e)
      have hz6_f := hf6.keepS (hU_6.keeps fun b _ hk e => hoF b hk e)
      have hTg := hG.tags (ok' := (OkF okT w.heap.size w1.heap.size)) (fun b _ hk => .inl hk) (fun b hb => .inr (by omega))
      have hL : RepL (RepS true d) (szS true d) (OkF okT w.heap.size w1.heap.size) w_6 t [fCreateACLsRequestCreation_0, fCreateACLsRequestCreation_1, fCreateACLsRequestCreation_2, fCreateACLsRequestCreation_3, fCreateACLsRequestCreation_4, fCreateACLsRequestCreation_5, fCreateACLsRequestCreation_6] 0 [.int .i8 (IntKind.i8.wrap (t.at 0).n), strV (t.at 1).s, .int .i8 (IntKind.i8.wrap (t.at 2).n), strV (t.at 3).s, strV (t.at 4).s, .int .i8 (IntKind.i8.wrap (t.at 5).n), .int .i8 (IntKind.i8.wrap (t.at 6).n)] := (RepL.cons1 hz0_f (RepL.cons1 hz1_f (RepL.cons1 hz2_f (RepL.cons1 hz3_f (RepL.cons1 hz4_f (RepL.cons1 hz5_f (RepL.cons1 hz6_f RepL.nil)))))))
      have hR : RepS true (d + 1) fs_CreateACLsRequestCreation (OkF okT w.heap.size w1.heap.size) w_6 t [.int .i8 (IntKind.i8.wrap (t.at 0).n), strV (t.at 1).s, .int .i8 (IntKind.i8.wrap (t.at 2).n), strV (t.at 3).s, strV (t.at 4).s, .int .i8 (IntKind.i8.wrap (t.at 5).n), .int .i8 (IntKind.i8.wrap (t.at 6).n), .map q] := RepS.intro (c := [.int .i8 (IntKind.i8.wrap (t.at 0).n), strV (t.at 1).s, .int .i8 (IntKind.i8.wrap (t.at 2).n), strV (t.at 3).s, strV (t.at 4).s, .int .i8 (IntKind.i8.wrap (t.at 5).n), .int .i8 (IntKind.i8.wrap (t.at 6).n)]) rfl hL hTg
      have hcA : cellsAt #[.int .i8 (IntKind.i8.wrap (t.at 0).n), strV (t.at 1).s, .int .i8 (IntKind.i8.wrap (t.at 2).n), strV (t.at 3).s, strV (t.at 4).s, .int .i8 (IntKind.i8.wrap (t.at 5).n), .int .i8 (IntKind.i8.wrap (t.at 6).n), .map q] 0 8 = some (.agg #[.int .i8 (IntKind.i8.wrap (t.at 0).n), strV (t.at 1).s, .int .i8 (IntKind.i8.wrap (t.at 2).n), strV (t.at 3).s, strV (t.at 4).s, .int .i8 (IntKind.i8.wrap (t.at 5).n), .int .i8 (IntKind.i8.wrap (t.at 6).n), .map q]) := cellsAt_full rfl
      have hrb_6 := hT1.blk_some hrb1 (by omega)
      repeat ((first | refine W.seqR rfl ?_ | refine W.seq ?_ | refine W.regR rfl ?_ | refine W.condK ?_ | refine W.block ?_ | refine W.skip ?_ | refine W.ret ?_ | refine W.exit ?_); try simp (maxSteps := 1000000) (disch := (first | omega | (simp only [World.size_alloc, size_wr, size_drew] <;> omega) | exact not_noB _)) only [go_sem, ↓reduceIte, n0, reduceCtorEq, n1, n2, n3, n4, n5, i0, i1, i2, i3, i4, i5, i6, i7, hI, hN, hr1, hr2, hr3, hbv, hrb_6, hcA])
      have hUr : Upd (fun b => b = w.heap.size + 1) w_6 (wr w_6 (w.heap.size + 1) 0 [.int .i8 (IntKind.i8.wrap (t.at 0).n), strV (t.at 1).s, .int .i8 (IntKind.i8.wrap (t.at 2).n), strV (t.at 3).s, strV (t.at 4).s, .int .i8 (IntKind.i8.wrap (t.at 5).n), .int .i8 (IntKind.i8.wrap (t.at 6).n), .map q]) := (Upd.refl _ _).wr _ _ (.inr rfl)
      refine ⟨⟨_, rfl, (RepS_lay true (d + 1) fs_CreateACLsRequestCreation).weaken ((RepS_lay true (d + 1) fs_CreateACLsRequestCreation).keep hR (hUr.keeps fun b _ hk e => hoR b hk e)) (fun b _ hk => hk.imp And.left fun h => by omega)⟩, ?_⟩
      exact (hE1.more hT1 fun b hb h => by omega).wr _ _ (.inl (by omega))

set_option maxHeartbeats 2000000 in
theorem fillCreateACLsRequest_fn {d : Nat} {okT : Blocks} {V ver : Int} (t : Tree) (ct : List Value) (w : World) {vb : Nat} (hvb : blk w vb = some (#[.int .i16 ver, .slice none 0 0, .map none], 87, (0, 0))) (ht : TreeC okT w t ct) (hok : ∀ b, okT b → b ≠ vb) (hfit : FitP V (d + 2) fs_CreateACLsRequest t) (hLs : Lists t) :
    Fn Try.prog 76 #[.pointer (some ⟨vb, 0, none⟩), .agg ct.toArray] w fun _ w' => ∃ cells, blk w' vb = some ((.int .i16 ver :: cells).toArray, 87, (0, 0)) ∧ RepS true (d + 2) fs_CreateACLsRequest (okN okT w.heap.size) w' t cells ∧ Upd (fun b => b = vb) w w' := by
  obtain ⟨vS, vL, vU, rfl, hn, hSx, hLx0, hUx⟩ := ht.inv
  obtain ⟨bS, cS, rfl, hcS⟩ := hSx.shape
  obtain ⟨bL, cL, rfl, hcL⟩ := SlR.shape hLx0
  obtain ⟨bU, cU, rfl, hcU⟩ := SlR.shape hUx
  obtain ⟨⟨g0, -⟩, hfu⟩ := hfit
  replace g0 : FitF (FitP V (d + 1)) V fCreateACLsRequest_0 (t.at 0) := g0
  have hllt : t.l.length < 4611686018427387903 := Nat.lt_of_le_of_lt hLs.len (by decide)
  have hul := hLs.ulen
  have hvl := blk_lt hvb
  refine fn_of_W Try.func76 rfl Try.results76 Try.ntmps76 rfl ?_
  obtain ⟨w1, hw1⟩ : ∃ w1, w1 = (w.alloc (.cells #[.int .i64 t.n, .slice bS t.s.length cS, .bool t.null, .slice bL t.l.length cL, .slice bU t.u.length cU] 39)) := ⟨_, rfl⟩
  have hE1 : Ext w w1 := by rw [hw1]; exact Upd.alloc (Upd.refl _ _) _
  have hz1 : w1.heap.size = w.heap.size + 1 := by rw [hw1, World.size_alloc]
  have htb1 : blk w1 w.heap.size = some (#[.int .i64 t.n, .slice bS t.s.length cS, .bool t.null, .slice bL t.l.length cL, .slice bU t.u.length cU], 39, (0, 0)) := by rw [hw1]; exact blk_alloc_new rfl
  have hb1 : blk w1 vb = some (#[.int .i16 ver, .slice none 0 0, .map none], 87, (0, 0)) := hE1.blk_some hvb id
  have hoS : ∀ b, (OkS okT w.heap.size) b → b ≠ vb := fun b h => hok b h.1
  have htv : ¬ w.heap.size = vb := by omega
  have hoF : ∀ b, (OkF okT w.heap.size w1.heap.size) b → b ≠ vb := fun b h => by
    rcases h with h | h
    · exact hoS b h
    · omega
  have hU1 : Upd (fun b => b = vb) w1 w1 := Upd.refl _ _
  have hvl1 := blk_lt hb1
  have hsz1 := Nat.le_refl w1.heap.size
  have ht1 : TreeC (OkS okT w.heap.size) w1 t [.int .i64 t.n, .slice bS t.s.length cS, .bool t.null, .slice bL t.l.length cL, .slice bU t.u.length cU] := (ht.weaken fun b h1 h2 => ⟨h2, h1⟩).keep (hE1.keeps _)
  have hU1v : TagsV (OkS okT w.heap.size) w1 (.slice bU t.u.length cU) t.u := (hUx.weaken fun b h1 h2 => ⟨h2, h1⟩).keep (hE1.keeps _)
  have hn0_0 : (t.at 0).null = false := g0.notnull (by decide)
  have hll0 := (g0.list rfl).1
  repeat ((first | refine W.seqR rfl ?_ | refine W.seq ?_ | refine W.regR rfl ?_ | refine W.condK ?_ | refine W.block ?_ | refine W.skip ?_ | refine W.ret ?_ | refine W.exit ?_); try simp (maxSteps := 1000000) (disch := (first | omega | (simp only [World.size_alloc, size_wr, size_drew] <;> omega) | exact not_noB _)) only [go_sem, ↓reduceIte, n0, reduceCtorEq, n1, n2, n3, n4, n5, i0, i1, i2, i3, i4, i5, i6, i7])
  rw [← hw1]
  clear hw1
  refine (iat_fn (ok := (OkS okT w.heap.size)) t 0 _ _ (ht1.keep (hU1.keeps fun b _ hk e => hoS b hk e)) (by decide) hllt).mono ?_
  rintro r2 w2 ⟨⟨ca2, rfl, hca2⟩, hEa2⟩
  obtain ⟨vSa2, vLa2, vUa2, rfl, hna2, hSa2, hLa2, hUa2⟩ := hca2.inv
  obtain ⟨bSa2, cSa2, rfl, hcSa2⟩ := hSa2.shape
  obtain ⟨bLa2, cLa2, rfl, hcLa2⟩ := SlR.shape hLa2
  have hfU2 := SlR.flat hUa2
  clear hcSa2 hcLa2 hna2
  have hV2 : Upd (fun b => b = vb) w1 w2 := hEa2.mono fun _ h => h.elim
  have hU2 : Upd (fun b => b = vb) w1 w2 := hU1.trans hV2
  have htb2 := hU2.blk_some htb1 htv
  have hvl2 : vb < w2.heap.size := Nat.lt_of_lt_of_le hvl1 hU2.size
  have hsz2 := hU2.size
  have hb2 : blk w2 vb = some (#[.int .i16 ver, .slice none 0 0, .map none], 87, (0, 0)) := hEa2.blk_some hb1 id
  simp (maxSteps := 1000000) (disch := (first | omega | (simp only [World.size_alloc, size_wr, size_drew] <;> omega) | exact not_noB _)) only [go_sem, ↓reduceIte, n0, reduceCtorEq, n1, n2, n3, n4, n5, i0, i1, i2, i3, i4, i5, i6, i7, hn0_0, hb2, htb2]
  repeat ((first | refine W.seqR rfl ?_ | refine W.seq ?_ | refine W.regR rfl ?_ | refine W.condK ?_ | refine W.block ?_ | refine W.skip ?_ | refine W.ret ?_ | refine W.exit ?_); try simp (maxSteps := 1000000) (disch := (first | omega | (simp only [World.size_alloc, size_wr, size_drew] <;> omega) | exact not_noB _)) only [go_sem, ↓reduceIte, n0, reduceCtorEq, n1, n2, n3, n4, n5, i0, i1, i2, i3, i4, i5, i6, i7, hb2, htb2])
  refine (iat_fn (ok := (OkS okT w.heap.size)) t 0 _ _ (ht1.keep (hU2.keeps fun b _ hk e => hoS b hk e)) (by decide) hllt).mono ?_
  rintro r3 w3 ⟨⟨ca3, rfl, hca3⟩, hEa3⟩
  obtain ⟨vSa3, vLa3, vUa3, rfl, hna3, hSa3, hLa3, hUa3⟩ := hca3.inv
  obtain ⟨bSa3, cSa3, rfl, hcSa3⟩ := hSa3.shape
  obtain ⟨bLa3, cLa3, rfl, hcLa3⟩ := SlR.shape hLa3
  have hfU3 := SlR.flat hUa3
  clear hcSa3 hcLa3 hna3
  have hV3 : Upd (fun b => b = vb) w2 w3 := hEa3.mono fun _ h => h.elim
  have hU3 : Upd (fun b => b = vb) w1 w3 := hU2.trans hV3
  have htb3 := hU3.blk_some htb1 htv
  have hvl3 : vb < w3.heap.size := Nat.lt_of_lt_of_le hvl1 hU3.size
  have hsz3 := hU3.size
  clear hvl2 hsz2
  have hb3 : blk w3 vb = some (#[.int .i16 ver, .slice none 0 0, .map none], 87, (0, 0)) := hEa3.blk_some hb2 id
  simp (maxSteps := 1000000) (disch := (first | omega | (simp only [World.size_alloc, size_wr, size_drew] <;> omega) | exact not_noB _)) only [go_sem, ↓reduceIte, n0, reduceCtorEq, n1, n2, n3, n4, n5, i0, i1, i2, i3, i4, i5, i6, i7, hb3, htb3]
  refine wp_make (T := 85) (E := 162) (size := 8) (bytes := 80) (z := (.agg #[.int .i8 0, .string ByteArray.empty, .int .i8 0, .string ByteArray.empty, .string ByteArray.empty, .int .i8 0, .int .i8 0, .map none])) (l := 0) (c := (t.at 0).l.length) (kl := .i64) (kc := .i64) (by kernel_rfl) (by kernel_rfl) (by simp (maxSteps := 1000000) (disch := (first | omega | (simp only [World.size_alloc, size_wr, size_drew] <;> omega) | exact not_noB _)) only [go_sem, ↓reduceIte, n0, reduceCtorEq, n1, n2, n3, n4, n5, i0, i1, i2, i3, i4, i5, i6, i7]; rfl) (by simp (maxSteps := 1000000) (disch := (first | omega | (simp only [World.size_alloc, size_wr, size_drew] <;> omega) | exact not_noB _)) only [go_sem, ↓reduceIte, n0, reduceCtorEq, n1, n2, n3, n4, n5, i0, i1, i2, i3, i4, i5, i6, i7]) (by omega) (by omega) (by omega) ?_
  simp (maxSteps := 1000000) (disch := (first | omega | (simp only [World.size_alloc, size_wr, size_drew] <;> omega) | exact not_noB _)) only [go_sem, ↓reduceIte, n0, reduceCtorEq, n1, n2, n3, n4, n5, i0, i1, i2, i3, i4, i5, i6, i7, hb3, hvl3, htb3]
  have hszB0 := hsz3
  generalize hw4 : wr (w3.alloc (.cells (madeCells #[.int .i8 0, .string ByteArray.empty, .int .i8 0, .string ByteArray.empty, .string ByteArray.empty, .int .i8 0, .int .i8 0, .map none] ((t.at 0).l.length * 8)) 162)) vb 1 [.slice (some ⟨w3.heap.size, 0, none⟩) 0 (t.at 0).l.length] = w4
  have hV4 : Upd (fun b => b = vb) w3 w4 := by rw [← hw4]; exact ((Upd.refl _ _).alloc _).wr _ _ (.inr rfl)
  have hb4 : blk w4 vb = some (#[.int .i16 ver, .slice (some ⟨w3.heap.size, 0, none⟩) 0 (t.at 0).l.length, .map none], 87, (0, 0)) := by rw [← hw4, blk_wr_eq, blk_alloc_old hvl3, hb3]; rfl
  have hrow4 : blk w4 w3.heap.size = some (madeCells #[.int .i8 0, .string ByteArray.empty, .int .i8 0, .string ByteArray.empty, .string ByteArray.empty, .int .i8 0, .int .i8 0, .map none] ((t.at 0).l.length * 8), 162, (0, 0)) := by rw [← hw4, blk_wr_ne (Nat.ne_of_gt hvl3), blk_alloc_new rfl]
  have hg4 : GrowR (Rep1 (RepS true (d + 1)) fCreateACLsRequest_0.of fCreateACLsRequest_0.sub) 8 (OkF okT w.heap.size w1.heap.size) w3.heap.size vb w4 162 (.slice (some ⟨w3.heap.size, 0, none⟩) 0 (t.at 0).l.length) [] := GrowR.made hrow4 (size_madeCells _ _) (Nat.le_refl _)
  have hU4 : Upd (fun b => b = vb) w1 w4 := hU3.trans hV4
  have htb4 := hU4.blk_some htb1 htv
  have hvl4 : vb < w4.heap.size := Nat.lt_of_lt_of_le hvl1 hU4.size
  have hsz4 := hU4.size
  clear hvl3 hsz3
  clear hw4 hrow4
  repeat ((first | refine W.seqR rfl ?_ | refine W.seq ?_ | refine W.regR rfl ?_ | refine W.condK ?_ | refine W.block ?_ | refine W.skip ?_ | refine W.ret ?_ | refine W.exit ?_); try simp (maxSteps := 1000000) (disch := (first | omega | (simp only [World.size_alloc, size_wr, size_drew] <;> omega) | exact not_noB _)) only [go_sem, ↓reduceIte, n0, reduceCtorEq, n1, n2, n3, n4, n5, i0, i1, i2, i3, i4, i5, i6, i7, hb4, htb4])
  refine (iat_fn (ok := (OkS okT w.heap.size)) t 0 _ _ (ht1.keep (hU4.keeps fun b _ hk e => hoS b hk e)) (by decide) hllt).mono ?_
  rintro r5 w5 ⟨⟨ca5, rfl, hca5⟩, hEa5⟩
  obtain ⟨vSa5, vLa5, vUa5, rfl, hna5, hSa5, hLa5, hUa5⟩ := hca5.inv
  obtain ⟨bSa5, cSa5, rfl, hcSa5⟩ := hSa5.shape
  obtain ⟨bLa5, cLa5, rfl, hcLa5⟩ := SlR.shape hLa5
  have hfU5 := SlR.flat hUa5
  clear hcSa5 hcLa5 hna5
  have hV5 : Upd (fun b => b = vb) w4 w5 := hEa5.mono fun _ h => h.elim
  have hU5 : Upd (fun b => b = vb) w1 w5 := hU4.trans hV5
  have htb5 := hU5.blk_some htb1 htv
  have hvl5 : vb < w5.heap.size := Nat.lt_of_lt_of_le hvl1 hU5.size
  have hsz5 := hU5.size
  clear hvl4 hsz4
  have hb5 : blk w5 vb = some (#[.int .i16 ver, .slice (some ⟨w3.heap.size, 0, none⟩) 0 (t.at 0).l.length, .map none], 87, (0, 0)) := hEa5.blk_some hb4 id
  have hg5 := hg4.ext (Rep1_lay _ _ fun _ => RepS_lay true (d + 1) _) hEa5
  simp (maxSteps := 1000000) (disch := (first | omega | (simp only [World.size_alloc, size_wr, size_drew] <;> omega) | exact not_noB _)) only [go_sem, ↓reduceIte, n0, reduceCtorEq, n1, n2, n3, n4, n5, i0, i1, i2, i3, i4, i5, i6, i7, hb5, htb5]
  repeat ((first | refine W.seqR rfl ?_ | refine W.seq ?_ | refine W.regR rfl ?_ | refine W.condK ?_ | refine W.block ?_ | refine W.skip ?_ | refine W.ret ?_ | refine W.exit ?_); try simp (maxSteps := 1000000) (disch := (first | omega | (simp only [World.size_alloc, size_wr, size_drew] <;> omega) | exact not_noB _)) only [go_sem, ↓reduceIte, n0, reduceCtorEq, n1, n2, n3, n4, n5, i0, i1, i2, i3, i4, i5, i6, i7, hb5, htb5])
  have hVb0 : Upd (fun b => b = vb) w3 w5 := hV4.trans hV5
  have hUb0 := hU3
  have hvlB0 : vb < w3.heap.size := Nat.lt_of_lt_of_le hvl1 hszB0
  have hszL0 : w3.heap.size ≤ w5.heap.size := hVb0.size
  refine W.exitJ 0 (fun ρ w' => ∃ v, ρ 0 = .pointer (some ⟨vb, 0, none⟩) ∧ ρ 3 = .pointer (some ⟨w.heap.size, 0, none⟩) ∧ blk w' vb = some (#[.int .i16 ver, v, .map none], 87, (0, 0)) ∧ GrowR (Rep1 (RepS true (d + 1)) fCreateACLsRequest_0.of fCreateACLsRequest_0.sub) 8 (OkF okT w.heap.size w1.heap.size) w3.heap.size vb w' 162 v (t.at 0).l ∧ v ≠ .slice none 0 0 ∧ Upd (fun b => b = vb ∨ w3.heap.size ≤ b) w5 w')
    (W.loop (fun ρ w' => ∃ (j : Nat) (v : Value), j ≤ (t.at 0).l.length ∧ ρ 24 = .int .i64 j ∧ ρ 23 = .int .i64 (t.at 0).l.length ∧ ρ 22 = .slice bLa5 (t.at 0).l.length cLa5 ∧ ρ 0 = .pointer (some ⟨vb, 0, none⟩) ∧ ρ 3 = .pointer (some ⟨w.heap.size, 0, none⟩) ∧ blk w' vb = some (#[.int .i16 ver, v, .map none], 87, (0, 0)) ∧ GrowR (Rep1 (RepS true (d + 1)) fCreateACLsRequest_0.of fCreateACLsRequest_0.sub) 8 (OkF okT w.heap.size w1.heap.size) w3.heap.size vb w' 162 v ((t.at 0).l.take j) ∧ v ≠ .slice none 0 0 ∧ Upd (fun b => b = vb ∨ w3.heap.size ≤ b) w5 w')
      (fun ρ _ => (t.at 0).l.length - (RowKit.intOf (ρ 24)).toNat) ?_ ?_) ?_
  · refine ⟨0, _, Nat.zero_le _, ?_, ?_, ?_, ?_, ?_, hb5, hg5, (by intro h; cases h), Upd.refl _ _⟩ <;> simp (maxSteps := 1000000) (disch := (first | omega | (simp only [World.size_alloc, size_wr, size_drew] <;> omega) | exact not_noB _)) only [go_sem, ↓reduceIte, n0, reduceCtorEq, n1, n2, n3, n4, n5, i0, i1, i2, i3, i4, i5, i6, i7]
    all_goals rfl
  · rintro ρ w_6 ⟨j, v, hj, hI, hN, hS, hr0, hr3, hbv, hg, hnil, hU_6⟩
    have hz_6 := hU_6.size
    have hJ_6 : Upd (fun b => b = vb) w3 w_6 := hVb0.more hU_6 fun b hb h => h.elim id fun h => absurd h (by omega)
    have hU_16 : Upd (fun b => b = vb) w1 w_6 := hUb0.trans hJ_6
    have hht_6 := hU_16.blk_some htb1 htv
    have hLt_6 := hLa5.keep (hU_6.keeps fun b _ hk e => e.elim (hoS b hk) fun e => by have := hk.2; omega)
    by_cases hlt : j < (t.at 0).l.length
    · obtain ⟨_, b, o, x, vS', vL', vU', hb, hokb, hx, hblt, hxs, hxe, q1, q2, q3, hc⟩ := TreesV.get hLt_6 hlt
      subst hb
      have hbS := (TreeC.inv hc)
      have hcat : (t.at 0).l.take (j + 1) = (t.at 0).l.take j ++ [(t.at 0).l[j]] := List.take_succ_eq_append_getElem hlt
      have hlen_9 : ((t.at 0).l.take j).length = j := by simp; omega
      have hgx := (g0.list rfl).2 _ (List.getElem_mem hlt)
      have hLx := (hLs.at 0).get hlt
      have hnb : ∀ b, b < w3.heap.size ∨ b = w_6.heap.size → ¬ ownB v b := fun b hb h => by
        have := hg.above h
        have := hg.below h
        omega
      generalize (t.at 0).l[j] = y at *
      obtain ⟨vSy, vLy, vUy, hcells, hny, hSy, hLy, hUy⟩ := hbS
      simp only [List.cons.injEq, true_and, and_true] at hcells
      obtain ⟨rfl, rfl, rfl⟩ := hcells
      obtain ⟨bSy, cSy, rfl, hcSy⟩ := hSy.shape
      repeat ((first | refine W.seqR rfl ?_ | refine W.seq ?_ | refine W.regR rfl ?_ | refine W.condK ?_ | refine W.block ?_ | refine W.skip ?_ | refine W.ret ?_ | refine W.exit ?_); try simp (maxSteps := 1000000) (disch := (first | omega | (simp only [World.size_alloc, size_wr, size_drew] <;> omega) | exact not_noB _)) only [go_sem, ↓reduceIte, n0, reduceCtorEq, n1, n2, n3, n4, n5, i0, i1, i2, i3, i4, i5, i6, i7, hI, hN, hS, hx, hxe, q1, q2, q3, cellsAt_five, Int.toNat_natCast])
      generalize hw_7 : (wr (w_6.alloc (.cells #[.int .i64 0, .slice none 0 0, .bool false, .slice none 0 0, .slice none 0 0] 39)) w_6.heap.size 0 [.int .i64 y.n, .slice bSy y.s.length cSy, .bool y.null, vL', vU']) = w_7
      have hE_7 : Ext w_6 w_7 := by rw [← hw_7]; exact (Upd.alloc (Upd.refl _ _) _).wr _ _ (.inl (Nat.le_refl _))
      have hb_7 : blk w_7 w_6.heap.size = some (#[.int .i64 y.n, .slice bSy y.s.length cSy, .bool y.null, vL', vU'], 39, (0, 0)) := by rw [← hw_7]; simp (maxSteps := 1000000) (disch := (first | omega | (simp only [World.size_alloc, size_wr, size_drew] <;> omega) | exact not_noB _)) only [go_sem, ↓reduceIte, n0, reduceCtorEq, n1, n2, n3, n4, n5, i0, i1, i2, i3, i4, i5, i6, i7]
      have hz_7 : w_7.heap.size = w_6.heap.size + 1 := by rw [← hw_7]; simp only [size_wr, World.size_alloc]
      have hbt_7 := hE_7.blk_some hbv id
      have hgv_7 := hE_7.blk_some hht_6 id
      have hc_7 := hc.keep (hE_7.keeps _)
      have hS_7 := hSy.keep (hE_7.keeps _)
      have hg_7 := hg.ext (Rep1_lay _ _ fun _ => RepS_lay true (d + 1) _) hE_7
      clear hw_7
      refine W.drawR (.take 0 (.take 1 (.take 2 (.take 3 (.take 4 (.take 5 (.only 6 (.only 7 (.only 8 (.take 9 (.take 10 (.last 11)))))))))))) (ownB v) mixed (by kernel_rfl) ?_
      simp (maxSteps := 1000000) (disch := (first | omega | (simp only [World.size_alloc, size_wr, size_drew] <;> omega) | exact not_noB _ | (refine hnb _ ?_; first | omega | (simp only [World.size_alloc, size_wr, size_drew] <;> omega)))) only [go_sem, ↓reduceIte, n0, reduceCtorEq, n1, n2, n3, n4, n5, i0, i1, i2, i3, i4, i5, i6, i7, hr0, hr3, hbt_7, hb_7, hgv_7, cellsAt_five]
      have hE_7d : Ext w_7 w_7.drew := (Upd.refl _ _).drew
      have hg_7d := hg_7.ext (Rep1_lay _ _ fun _ => RepS_lay true (d + 1) _) hE_7d
      have hzd : w_7.drew.heap.size = w_7.heap.size := size_drew _
      have hbt_7d := hE_7d.blk_some hbt_7 id
      refine (makeCreateACLsRequestCreation_fn (d := d) (okT := (OkS okT w.heap.size)) (V := V) y _ w_7.drew (hc_7.keep (hE_7d.keeps _)) (hgx.2.2 rfl) hLx).mono ?_
      rintro r8 w_8 ⟨⟨cs8, rfl, hc_8⟩, hE_8⟩
      obtain ⟨hfl_8, hcl_8⟩ := (RepS_lay true (d + 1) fs_CreateACLsRequestCreation).flat hc_8
      obtain ⟨y0, y1, y2, y3, y4, y5, y6, y7, rfl⟩ : ∃ y0 y1 y2 y3 y4 y5 y6 y7, cs8 = [y0, y1, y2, y3, y4, y5, y6, y7] := by
        have hcl_8' : cs8.length = 8 := hcl_8
        match cs8, hcl_8' with
        | [y0, y1, y2, y3, y4, y5, y6, y7], _ => exact ⟨y0, y1, y2, y3, y4, y5, y6, y7, rfl⟩
      simp only [List.all_cons, List.all_nil, Bool.and_true, Bool.and_eq_true] at hfl_8
      obtain ⟨fy0, fy1, fy2, fy3, fy4, fy5, fy6, fy7⟩ := hfl_8
      have hz_8 := hE_8.size
      have hM_8 : Upd (ownB v) w_7.drew w_8 := hE_8.mono (fun _ h => h.elim)
      refine ⟨hM_8, ?_⟩
      have hE_9 : Ext w_8 (w_8.alloc (.cells #[y0, y1, y2, y3, y4, y5, y6, y7] 162)) := Upd.alloc (Upd.refl _ _) _
      have hM_9 : Upd (ownB v) w_7.drew (w_8.alloc (.cells #[y0, y1, y2, y3, y4, y5, y6, y7] 162)) := hM_8.alloc _
      simp (maxSteps := 1000000) (disch := (first | omega | (simp only [World.size_alloc, size_wr, size_drew] <;> omega) | exact not_noB _)) only [go_sem, ↓reduceIte, n0, reduceCtorEq, n1, n2, n3, n4, n5, i0, i1, i2, i3, i4, i5, i6, i7, hr0, hr3, hbt_7d, fy0, fy1, fy2, fy3, fy4, fy5, fy6, fy7]
      refine ⟨hM_9, ?_⟩
      have hE_79 : Ext w_7.drew (w_8.alloc (.cells #[y0, y1, y2, y3, y4, y5, y6, y7] 162)) := hE_8.trans hE_9
      have hg_9 := (hg_7d.ext (Rep1_lay _ _ fun _ => RepS_lay true (d + 1) _) hE_8).ext (Rep1_lay _ _ fun _ => RepS_lay true (d + 1) _) hE_9
      have hx_9 : Rep1 (RepS true (d + 1)) fCreateACLsRequest_0.of fCreateACLsRequest_0.sub (fun b => (OkF okT w.heap.size w1.heap.size) b ∧ b ≠ vb ∧ ¬ ownB v b) (w_8.alloc (.cells #[y0, y1, y2, y3, y4, y5, y6, y7] 162)) y [y0, y1, y2, y3, y4, y5, y6, y7] :=
        Rep1_part.2 (((RepS_lay true (d + 1) fs_CreateACLsRequestCreation).keep hc_8 (hE_9.keeps _)) |> fun h => (RepS_lay true (d + 1) fs_CreateACLsRequestCreation).weaken h fun b _ hk => by
          rcases hk with hk | hk
          · exact ⟨.inl hk, hoS b hk, fun h => by have := hg.above h; have := hk.2; omega⟩
          · exact ⟨.inr (by omega), by omega, fun h => by have := hg.below h; omega⟩)
      obtain ⟨css, hown, hall⟩ := hg_9.ex
      have hcl_9 := hall.1
      refine wp_append ap_85_85 (m := 1) (news := [y0, y1, y2, y3, y4, y5, y6, y7]) (n := css.length) (cs := css.flatten) (v := v) ?_ rfl hown.1 (all2_flat_R (Rep1_lay _ _ fun _ => RepS_lay true (d + 1) _) hall) (Src.blk (fr := (0, 0)) (T := 162) (blk_alloc_new (by first | rfl | omega | (simp only [size_drew]; omega))) rfl (by simp only [List.all_cons, List.all_nil, Bool.and_true, Bool.and_eq_true]; exact ⟨fy0, fy1, fy2, fy3, fy4, fy5, fy6, fy7⟩)) ?_ ?_ ?_
      · simp (maxSteps := 1000000) (disch := (first | omega | (simp only [World.size_alloc, size_wr, size_drew] <;> omega) | exact not_noB _)) only [go_sem, ↓reduceIte, n0, reduceCtorEq, n1, n2, n3, n4, n5, i0, i1, i2, i3, i4, i5, i6, i7]
      · simp only [World.size_alloc, size_drew]; omega
      · omega
      intro v' w_10 ho hu hfr
      have hg_10 := GrowR.snoc (Rep1_lay _ _ fun _ => RepS_lay true (d + 1) _) hown hall hx_9 hu hfr ho
      have hz_10 := hu.size
      simp only [World.size_alloc, size_drew] at hz_10
      obtain ⟨va, vc, hv', _⟩ := ho.shape
      subst hv'
      have hbt_10 := (hM_9.trans hu).blk_some hbt_7d (hnb _ (.inl hvlB0))
      have htb' : ¬ ownB (.slice va (css.length + 1) vc) vb := fun h => by
        rcases hfr _ h with h | h
        · exact hnb _ (.inl hvlB0) h
        · simp only [World.size_alloc, size_drew] at h; omega
      simp (maxSteps := 1000000) (disch := (first | omega | (simp only [World.size_alloc, size_wr, size_drew] <;> omega) | exact not_noB _)) only [go_sem, ↓reduceIte, n0, reduceCtorEq, n1, n2, n3, n4, n5, i0, i1, i2, i3, i4, i5, i6, i7]
      refine ⟨hM_9.trans hu, ?_⟩
      simp (maxSteps := 1000000) (disch := (first | omega | (simp only [World.size_alloc, size_wr, size_drew] <;> omega) | exact not_noB _)) only [go_sem, ↓reduceIte, n0, reduceCtorEq, n1, n2, n3, n4, n5, i0, i1, i2, i3, i4, i5, i6, i7, hr0, hr3, hbt_10]
      repeat ((first | refine W.seqR rfl ?_ | refine W.seq ?_ | refine W.regR rfl ?_ | refine W.condK ?_ | refine W.block ?_ | refine W.skip ?_ | refine W.ret ?_ | refine W.exit ?_); try simp (maxSteps := 1000000) (disch := (first | omega | (simp only [World.size_alloc, size_wr, size_drew] <;> omega) | exact not_noB _)) only [go_sem, ↓reduceIte, n0, reduceCtorEq, n1, n2, n3, n4, n5, i0, i1, i2, i3, i4, i5, i6, i7, hI])
      refine ⟨⟨j + 1, .slice va (css.length + 1) vc, by omega, rfl, hN, hS, hr0, hr3, ?_, ?_, ?_, ?_⟩, ?_⟩
      · simp (maxSteps := 1000000) (disch := (first | omega | (simp only [World.size_alloc, size_wr, size_drew] <;> omega) | exact not_noB _)) only [go_sem, ↓reduceIte, n0, reduceCtorEq, n1, n2, n3, n4, n5, i0, i1, i2, i3, i4, i5, i6, i7, hbt_10]
      · rw [hcat]; exact hg_10.upd (Rep1_lay _ _ fun _ => RepS_lay true (d + 1) _) ((Upd.refl _ _).wr _ _ (.inr rfl)) htb'
      · intro h; cases h
      · refine Upd.wr ?_ _ _ (.inr (.inl rfl))
        exact hU_6.more (((hE_7.mono fun _ h => h.elim).trans (hE_7d.mono fun _ h => h.elim)).trans (hM_9.trans hu)) fun b hb h => .inr (hg.above h)
      · simp only [RowKit.intOf]; omega
    · have hjl : j = (t.at 0).l.length := by omega
      subst hjl
      rw [List.take_length] at hg
      repeat ((first | refine W.seqR rfl ?_ | refine W.seq ?_ | refine W.regR rfl ?_ | refine W.condK ?_ | refine W.block ?_ | refine W.skip ?_ | refine W.ret ?_ | refine W.exit ?_); try simp (maxSteps := 1000000) (disch := (first | omega | (simp only [World.size_alloc, size_wr, size_drew] <;> omega) | exact not_noB _)) only [go_sem, ↓reduceIte, n0, reduceCtorEq, n1, n2, n3, n4, n5, i0, i1, i2, i3, i4, i5, i6, i7, hI, hN])
      exact ⟨v, hr0, hr3, hbv, hg, hnil, hU_6⟩
  · rintro ρ w6 ⟨v0, hr0, hr3, hb6, hg6, hnil0, hK6⟩
    have hV6 : Upd (fun b => b = vb) w3 w6 := hVb0.more hK6 fun b hb h => h.elim id fun h => absurd h (by omega)
    have hU6 : Upd (fun b => b = vb) w1 w6 := hU3.trans hV6
    have htb6 := hU6.blk_some htb1 htv
    have hvl6 : vb < w6.heap.size := Nat.lt_of_lt_of_le hvl1 hU6.size
    have hsz6 := hU6.size
    clear hvl5 hsz5
    obtain ⟨al0, kl0, rfl, _⟩ := hg6.shape
    have hf0 : RepF (RepS true (d + 1)) (szS true (d + 1)) fCreateACLsRequest_0 (OkF okT w.heap.size w1.heap.size) w6 (t.at 0) [.slice al0 (t.at 0).l.length kl0] := (RepF_list rfl hn0_0).2 ⟨_, rfl, hg6.sl (Rep1_lay _ _ fun _ => RepS_lay true (d + 1) _) (fun _ _ h => h) (fun b hb => .inr (by omega)), hg6.some hnil0⟩
    repeat ((first | refine W.seqR rfl ?_ | refine W.seq ?_ | refine W.regR rfl ?_ | refine W.condK ?_ | refine W.block ?_ | refine W.skip ?_ | refine W.ret ?_ | refine W.exit ?_); try simp (maxSteps := 1000000) (disch := (first | omega | (simp only [World.size_alloc, size_wr, size_drew] <;> omega) | exact not_noB _)) only [go_sem, ↓reduceIte, n0, reduceCtorEq, n1, n2, n3, n4, n5, i0, i1, i2, i3, i4, i5, i6, i7, hb6, htb6, hr0, hr3])
    have hUv := hU1v.keep (hU6.keeps fun b _ hk e => hoS b hk e)
    refine W.loop (fun ρ w' => ∃ (j : Nat) (q : Option Nat), j ≤ t.u.length ∧ ρ 43 = .int .i64 j ∧ ρ 42 = .int .i64 t.u.length ∧ ρ 41 = .slice bU t.u.length cU ∧ ρ 0 = .pointer (some ⟨vb, 0, none⟩) ∧ ρ 3 = .pointer (some ⟨w.heap.size, 0, none⟩) ∧ blk w' vb = some (#[.int .i16 ver, .slice al0 (t.at 0).l.length kl0, .map q], 87, (0, 0)) ∧ TagsG (OkS okT w.heap.size) w6.heap.size w' (.map q) (t.u.take j) ∧ Upd (fun b => b = vb) w6 w')
        (fun ρ _ => t.u.length - (RowKit.intOf (ρ 43)).toNat) ?_ ?_
    · refine ⟨0, none, Nat.zero_le _, ?_, ?_, ?_, ?_, ?_, hb6, TagsG.start _ _ _, Upd.refl _ _⟩ <;> simp (maxSteps := 1000000) (disch := (first | omega | (simp only [World.size_alloc, size_wr, size_drew] <;> omega) | exact not_noB _)) only [go_sem, ↓reduceIte, n0, reduceCtorEq, n1, n2, n3, n4, n5, i0, i1, i2, i3, i4, i5, i6, i7, hr0, hr3]
      all_goals rfl
    · rintro ρ w_6 ⟨j, q, hj, hI, hN, hS, hr0, hr3, hbv, hG, hU_6⟩
      have hz_6 := hU_6.size
      have hUv_6 := hUv.keep (hU_6.keeps fun b _ hk e => hoS b hk e)
      have hU_16 : Upd (fun b => b = vb) w1 w_6 := hU6.trans hU_6
      have hz_16 := hU_16.size
      by_cases hlt : j < t.u.length
      · obtain ⟨_, b, o, x, vv, hb, hokb, hx, hblt, hxs, hxe, _, _, hfv, hbvv, h32⟩ := TagsV.get hUv_6 hlt
        subst hb
        have hcat : t.u.take (j + 1) = t.u.take j ++ [t.u[j]] := List.take_succ_eq_append_getElem hlt
        have hnew : ∀ z ∈ t.u.take j, z.1 ≠ t.u[j].1 := by
          intro z hz
          obtain ⟨k, hk, rfl⟩ := List.getElem_of_mem hz
          simp only [List.length_take] at hk
          have := List.pairwise_iff_getElem.1 hfu.2.2 k j (by omega) hlt (by omega)
          rw [List.getElem_take]; omega
        generalize t.u[j] = y at *
        obtain ⟨bSy, cSy, rfl, hcSy⟩ := hbvv.shape
        repeat ((first | refine W.seqR rfl ?_ | refine W.seq ?_ | refine W.regR rfl ?_ | refine W.condK ?_ | refine W.block ?_ | refine W.skip ?_ | refine W.ret ?_ | refine W.exit ?_); try simp (maxSteps := 1000000) (disch := (first | omega | (simp only [World.size_alloc, size_wr, size_drew] <;> omega) | exact not_noB _)) only [go_sem, ↓reduceIte, n0, reduceCtorEq, n1, n2, n3, n4, n5, i0, i1, i2, i3, i4, i5, i6, i7, hI, hN, hS, hx, hxe, hfv, cellsAt_two, Int.toNat_natCast])
        generalize hw_7 : (wr (w_6.alloc (.cells #[.int .u32 0, .slice none 0 0] 64)) w_6.heap.size 0 [.int .u32 y.1, .slice bSy y.2.length cSy]) = w_7
        have hE_7 : Ext w_6 w_7 := by rw [← hw_7]; exact (Upd.alloc (Upd.refl _ _) _).wr _ _ (.inl (Nat.le_refl _))
        have hb_7 : blk w_7 w_6.heap.size = some (#[.int .u32 y.1, .slice bSy y.2.length cSy], 64, (0, 0)) := by rw [← hw_7]; simp (maxSteps := 1000000) (disch := (first | omega | (simp only [World.size_alloc, size_wr, size_drew] <;> omega) | exact not_noB _)) only [go_sem, ↓reduceIte, n0, reduceCtorEq, n1, n2, n3, n4, n5, i0, i1, i2, i3, i4, i5, i6, i7]
        have hz_7 : w_7.heap.size = w_6.heap.size + 1 := by rw [← hw_7]; simp only [size_wr, World.size_alloc]
        clear hw_7
        have hbt_7 := hE_7.blk_some hbv id
        have hnb : ∀ b, b = w_6.heap.size → ¬ (b = vb ∨ Value.map q = .map (some b)) := fun b hb h => by
          rcases h with h | h
          · omega
          · cases h; have := (hG.lt rfl).1; omega
        refine W.drawR (.take 0 (.take 1 (.take 2 (.take 3 (.take 4 (.take 5 (.take 6 (.only 7 .done)))))))) (fun b => b = vb ∨ Value.map q = .map (some b)) mixed (by kernel_rfl) ?_
        simp (maxSteps := 1000000) (disch := (first | omega | (simp only [World.size_alloc, size_wr, size_drew] <;> omega) | exact not_noB _ | (refine hnb _ ?_; first | omega | (simp only [World.size_alloc, size_wr, size_drew] <;> omega)))) only [go_sem, ↓reduceIte, n0, reduceCtorEq, n1, n2, n3, n4, n5, i0, i1, i2, i3, i4, i5, i6, i7, hr0, hr3, hbt_7, hb_7, cellsAt_two]
        have hE_7d : Ext w_7 w_7.drew := (Upd.refl _ _).drew
        have hE_6d : Ext w_6 w_7.drew := hE_7.trans hE_7d
        have hG_7 : TagsG (OkS okT w.heap.size) w6.heap.size w_7.drew (.map q) (t.u.take j) := hG.keep fun b hb _ => hE_6d.keep b hb id
        have hbt_8 := hE_7d.blk_some hbt_7 id
        have hm_8 : (#[.int .i16 ver, .slice al0 (t.at 0).l.length kl0, .map q] : Array Value)[2]? = some (.map q) := rfl
        refine (TagsSet_fn (okT := (OkS okT w.heap.size)) (L := w6.heap.size) w_7.drew hG_7 (by have := hE_6d.size; omega) (by omega) hbt_8 (o := 2) hm_8 (thaw_00 _ _) y _ ((hbvv.weaken fun b _ hk => ⟨hk, by have := hk.2; omega⟩).keep (hE_6d.keeps _)) h32 hnew hoS).mono ?_
        rintro _ w_8 ⟨m', hb_8, hG_8, hM_8⟩
        simp only [List.setIfInBounds_toArray, List.set_cons_succ, List.set_cons_zero] at hb_8
        refine ⟨hM_8, ?_⟩
        repeat ((first | refine W.seqR rfl ?_ | refine W.seq ?_ | refine W.regR rfl ?_ | refine W.condK ?_ | refine W.block ?_ | refine W.skip ?_ | refine W.ret ?_ | refine W.exit ?_); try simp (maxSteps := 1000000) (disch := (first | omega | (simp only [World.size_alloc, size_wr, size_drew] <;> omega) | exact not_noB _)) only [go_sem, ↓reduceIte, n0, reduceCtorEq, n1, n2, n3, n4, n5, i0, i1, i2, i3, i4, i5, i6, i7, hI])
        refine ⟨⟨j + 1, m', by omega, rfl, hN, hS, hr0, hr3, hb_8, by rw [hcat]; exact hG_8, ?_⟩, ?_⟩
        · exact hU_6.more ((hE_6d.mono fun _ h => h.elim).trans hM_8) fun b hb h => by
            rcases h with h | h
            · exact h
            · cases h; have := (hG.lt rfl).2; omega
        · simp only [RowKit.intOf]; omega
      · have hjl : j = t.u.length := by omega
        subst hjl
        rw [List.take_length] at hG
        have hT3 : Upd (fun b => b = vb) w3 w_6 := hV6.trans hU_6
        have hT2 : Upd (fun b => b = vb) w2 w_6 := hV3.trans hT3
        have hT1 : Upd (fun b => b = vb) w1 w_6 := hV2.trans hT2
        have hz0_f := hf0.keepS (hU_6.keeps fun b _ hk e => hoF b hk e)
        have hTg := hG.tags (ok' := (OkF okT w.heap.size w1.heap.size)) (fun b _ hk => .inl hk) (fun b hb => .inr (by omega))
        have hL : RepL (RepS true (d + 1)) (szS true (d + 1)) (OkF okT w.heap.size w1.heap.size) w_6 t [fCreateACLsRequest_0] 0 [.slice al0 (t.at 0).l.length kl0] := (RepL.cons1 hz0_f RepL.nil)
        have hR : RepS true (d + 2) fs_CreateACLsRequest (OkF okT w.heap.size w1.heap.size) w_6 t [.slice al0 (t.at 0).l.length kl0, .map q] := RepS.intro (c := [.slice al0 (t.at 0).l.length kl0]) rfl hL hTg
        repeat ((first | refine W.seqR rfl ?_ | refine W.seq ?_ | refine W.regR rfl ?_ | refine W.condK ?_ | refine W.block ?_ | refine W.skip ?_ | refine W.ret ?_ | refine W.exit ?_); try simp (maxSteps := 1000000) (disch := (first | omega | (simp only [World.size_alloc, size_wr, size_drew] <;> omega) | exact not_noB _)) only [go_sem, ↓reduceIte, n0, reduceCtorEq, n1, n2, n3, n4, n5, i0, i1, i2, i3, i4, i5, i6, i7, hI, hN])
        exact ⟨_, hbv, (RepS_lay true (d + 2) fs_CreateACLsRequest).weaken hR (fun b _ hk => hk.imp And.left fun h => by omega), Upd.more (hE1.mono fun _ h => h.elim) hT1 fun _ _ h => h⟩
end Ms

namespace Ms
open Nat renaming reduceEqDiff → n0, reduceAdd → n1, reduceMul → n2, reduceSub → n3, reduceLT → n4, reduceLeDiff → n5
open Int renaming reduceEq → i0, reduceLT → i1, reduceLE → i2, reduceNeg → i3, reduceAdd → i4, reduceSub → i5, reduceMul → i6, reduceToNat → i7
set_option maxRecDepth 8000
open Go Go.Proofs Go.Shelf
attribute [local congr] W_congr WPsq_congr WPp_congr optK_congr addrK_congr intK_congr boolK_congr sliceK_congr tupleK_congr funcK_congr Fn_congr rawK_congr takeK_congr stepK_congr convK_congr aggK_congr

set_option maxHeartbeats 4000000 in
theorem cCreateACLsRequestCreation_fn (w : World) : Fn Try.prog 74 #[] w fun r w' => FldsV (fun b => w.heap.size ≤ b) w' r fs_CreateACLsRequestCreation ∧ Ext w w' := by
  refine fn_of_W Try.func74 rfl Try.results74 Try.ntmps74 rfl ?_
  repeat ((first | refine W.seqR rfl ?_ | refine W.seq ?_ | refine W.regR rfl ?_ | refine W.condK ?_ | refine W.block ?_ | refine W.skip ?_ | refine W.ret ?_ | refine W.exit ?_); try simp (maxSteps := 1000000) (disch := (first | omega | (simp only [World.size_alloc, size_wr, size_drew] <;> omega) | exact not_noB _)) only [go_sem, ↓reduceIte, n0, reduceCtorEq, n1, n2, n3, n4, n5, i0, i1, i2, i3, i4, i5, i6, i7, fill_fld, fillN_nil, fillN_int, fillN_slice])
  repeat ((first | refine W.seqR rfl ?_ | refine W.seq ?_ | refine W.regR rfl ?_ | refine W.condK ?_ | refine W.block ?_ | refine W.skip ?_ | refine W.ret ?_ | refine W.exit ?_); try simp (maxSteps := 1000000) (disch := (first | omega | (simp only [World.size_alloc, size_wr, size_drew] <;> omega) | exact not_noB _)) only [go_sem, ↓reduceIte, n0, reduceCtorEq, n1, n2, n3, n4, n5, i0, i1, i2, i3, i4, i5, i6, i7, fill_fld, fillN_nil, fillN_int, fillN_slice])
  exact ⟨FldsV.litO (fs := fs_CreateACLsRequestCreation) (css := [[.int .i64 1, .int .i64 0, .int .i64 (-1), .int .i64 (-1), .int .i64 (-1), .int .i64 0, .int .i64 0, .slice none 0 0], [.int .i64 8, .int .i64 0, .int .i64 (-1), .int .i64 (-1), .int .i64 (-1), .int .i64 0, .int .i64 0, .slice none 0 0], [.int .i64 1, .int .i64 1, .int .i64 (-1), .int .i64 (-1), .int .i64 (-1), .int .i64 3, .int .i64 0, .slice none 0 0], [.int .i64 8, .int .i64 0, .int .i64 (-1), .int .i64 (-1), .int .i64 (-1), .int .i64 0, .int .i64 0, .slice none 0 0], [.int .i64 8, .int .i64 0, .int .i64 (-1), .int .i64 (-1), .int .i64 (-1), .int .i64 0, .int .i64 0, .slice none 0 0], [.int .i64 1, .int .i64 0, .int .i64 (-1), .int .i64 (-1), .int .i64 (-1), .int .i64 0, .int .i64 0, .slice none 0 0], [.int .i64 1, .int .i64 0, .int .i64 (-1), .int .i64 (-1), .int .i64 (-1), .int .i64 0, .int .i64 0, .slice none 0 0]]) (T := 50) (fr := (0, 0)) (by first | omega | (simp only [World.size_alloc]; omega)) (by first | (simp (maxSteps := 1000000) (disch := (first | omega | (simp only [World.size_alloc, size_wr, size_drew] <;> omega) | exact not_noB _)) only [go_sem, ↓reduceIte, n0, reduceCtorEq, n1, n2, n3, n4, n5, i0, i1, i2, i3, i4, i5, i6, i7]; rfl) | rfl) (by simp) (All2.cons (FldC.intro (kind := 1) (FldsV.none _ _)) (All2.cons (FldC.intro (kind := 8) (FldsV.none _ _)) (All2.cons (FldC.intro (kind := 1) (FldsV.none _ _)) (All2.cons (FldC.intro (kind := 8) (FldsV.none _ _)) (All2.cons (FldC.intro (kind := 8) (FldsV.none _ _)) (All2.cons (FldC.intro (kind := 1) (FldsV.none _ _)) (All2.cons (FldC.intro (kind := 1) (FldsV.none _ _)) All2.nil))))))), (Upd.alloc (Upd.refl _ w) _)⟩

set_option maxHeartbeats 4000000 in
theorem cCreateACLsRequest_fn (w : World) : Fn Try.prog 29 #[] w fun r w' => (∃ vs, r = .agg #[vs, .int .i64 2] ∧ FldsV (fun b => w.heap.size ≤ b) w' vs fs_CreateACLsRequest) ∧ Ext w w' := by
  refine fn_of_W Try.func29 rfl Try.results29 Try.ntmps29 rfl ?_
  repeat ((first | refine W.seqR rfl ?_ | refine W.seq ?_ | refine W.regR rfl ?_ | refine W.condK ?_ | refine W.block ?_ | refine W.skip ?_ | refine W.ret ?_ | refine W.exit ?_); try simp (maxSteps := 1000000) (disch := (first | omega | (simp only [World.size_alloc, size_wr, size_drew] <;> omega) | exact not_noB _)) only [go_sem, ↓reduceIte, n0, reduceCtorEq, n1, n2, n3, n4, n5, i0, i1, i2, i3, i4, i5, i6, i7, fill_fld, fillN_nil, fillN_int, fillN_slice])
  have hz0 : (w.alloc (.cells #[.slice none 0 0, .int .i64 0] 31)).heap.size = w.heap.size + 1 := World.size_alloc _ _
  refine (cCreateACLsRequestCreation_fn _).mono ?_
  rintro r1 w1 ⟨hF1, hE1⟩
  obtain ⟨b1, k1, rfl, _⟩ := SlR.shape hF1
  have hz1 := hE1.size
  have hD1 : Ext w w1 := Upd.trans (Upd.alloc (Upd.refl _ _) _) hE1
  have hb1 : blk w1 w.heap.size = some (#[.slice none 0 0, .int .i64 0], 31, (0, 0)) := hE1.blk_some (blk_alloc_new rfl) id
  simp (maxSteps := 1000000) (disch := (first | omega | (simp only [World.size_alloc, size_wr, size_drew] <;> omega) | exact not_noB _)) only [go_sem, ↓reduceIte, n0, reduceCtorEq, n1, n2, n3, n4, n5, i0, i1, i2, i3, i4, i5, i6, i7, fill_fld, fillN_nil, fillN_int, fillN_slice, hb1]
  have hvl := blk_lt hb1
  repeat ((first | refine W.seqR rfl ?_ | refine W.seq ?_ | refine W.regR rfl ?_ | refine W.condK ?_ | refine W.block ?_ | refine W.skip ?_ | refine W.ret ?_ | refine W.exit ?_); try simp (maxSteps := 1000000) (disch := (first | omega | (simp only [World.size_alloc, size_wr, size_drew] <;> omega) | exact not_noB _)) only [go_sem, ↓reduceIte, n0, reduceCtorEq, n1, n2, n3, n4, n5, i0, i1, i2, i3, i4, i5, i6, i7, fill_fld, fillN_nil, fillN_int, fillN_slice, hb1])
  exact ⟨⟨_, rfl, FldsV.litO (fs := fs_CreateACLsRequest) (css := [[.int .i64 11, .int .i64 0, .int .i64 (-1), .int .i64 (-1), .int .i64 (-1), .int .i64 0, .int .i64 10, .slice b1 fs_CreateACLsRequestCreation.length k1]]) (T := 50) (fr := (0, 0)) (by first | omega | (simp only [World.size_alloc]; omega)) (by first | (simp (maxSteps := 1000000) (disch := (first | omega | (simp only [World.size_alloc, size_wr, size_drew] <;> omega) | exact not_noB _)) only [go_sem, ↓reduceIte, n0, reduceCtorEq, n1, n2, n3, n4, n5, i0, i1, i2, i3, i4, i5, i6, i7]; rfl) | rfl) (by simp) (All2.cons (FldC.intro (kind := 11) (hF1.stay (B := w.heap.size) (Upd.wr (Upd.alloc (Upd.refl _ _) _) _ _ (.inr rfl)) (by omega) (fun b hb => by omega))) All2.nil)⟩, (Upd.wr (Upd.alloc hD1 _) _ _ (.inl (Nat.le_refl _)))⟩

theorem DefaultCreateACLsRequest_fn (w : World) {vb : Nat} {c0 c1 c2 : Value} (hb : blk w vb = some (#[c0, c1, c2], 87, (0, 0))) :
    Fn Try.prog 143 #[.pointer (some ⟨vb, 0, none⟩)] w fun _ w' => blk w' vb = some (#[c0, c1, c2], 87, (0, 0)) ∧ Upd (fun b => b = vb) w w' := by
  have hvl := blk_lt hb
  refine fn_of_W Try.func143 rfl Try.results143 Try.ntmps143 rfl ?_
  repeat ((first | refine W.seqR rfl ?_ | refine W.seq ?_ | refine W.regR rfl ?_ | refine W.condK ?_ | refine W.block ?_ | refine W.skip ?_ | refine W.ret ?_ | refine W.exit ?_); try simp (maxSteps := 1000000) (disch := (first | omega | (simp only [World.size_alloc, size_wr, size_drew] <;> omega) | exact not_noB _)) only [go_sem, ↓reduceIte, n0, reduceCtorEq, n1, n2, n3, n4, n5, i0, i1, i2, i3, i4, i5, i6, i7, hb])
  first | exact Upd.refl _ _ | exact ⟨hb, Upd.refl _ _⟩

theorem NewPtrCreateACLsRequest_fn (w : World) : Fn Try.prog 72 #[] w fun r w' => r = .pointer (some ⟨w.heap.size, 0, none⟩) ∧ blk w' w.heap.size = some (#[.int .i16 0, .slice none 0 0, .map none], 87, (0, 0)) ∧ Ext w w' := by
  refine fn_of_W Try.func72 rfl Try.results72 Try.ntmps72 rfl ?_
  repeat ((first | refine W.seqR rfl ?_ | refine W.seq ?_ | refine W.regR rfl ?_ | refine W.condK ?_ | refine W.block ?_ | refine W.skip ?_ | refine W.ret ?_ | refine W.exit ?_); try simp (maxSteps := 1000000) (disch := (first | omega | (simp only [World.size_alloc, size_wr, size_drew] <;> omega) | exact not_noB _)) only [go_sem, ↓reduceIte, n0, reduceCtorEq, n1, n2, n3, n4, n5, i0, i1, i2, i3, i4, i5, i6, i7])
  refine (DefaultCreateACLsRequest_fn _ (blk_alloc_new rfl)).mono ?_
  rintro _ w1 ⟨hb1, hU1⟩
  have hz := World.size_alloc w (.cells #[.int .i16 0, .slice none 0 0, .map none] 87)
  repeat ((first | refine W.seqR rfl ?_ | refine W.seq ?_ | refine W.regR rfl ?_ | refine W.condK ?_ | refine W.block ?_ | refine W.skip ?_ | refine W.ret ?_ | refine W.exit ?_); try simp (maxSteps := 1000000) (disch := (first | omega | (simp only [World.size_alloc, size_wr, size_drew] <;> omega) | exact not_noB _)) only [go_sem, ↓reduceIte, n0, reduceCtorEq, n1, n2, n3, n4, n5, i0, i1, i2, i3, i4, i5, i6, i7])
  exact ⟨hb1, (Upd.alloc (Upd.refl _ _) _ : Ext w _).more hU1 fun b hb h => by omega⟩

theorem SetVersionCreateACLsRequest_fn (w : World) {vb : Nat} {c0 c1 c2 : Value} (n : Int) (hb : blk w vb = some (#[c0, c1, c2], 87, (0, 0))) :
    Fn Try.prog 75 #[.pointer (some ⟨vb, 0, none⟩), .int .i16 n] w fun _ w' => blk w' vb = some (#[.int .i16 n, c1, c2], 87, (0, 0)) ∧ Upd (fun b => b = vb) w w' := by
  have hvl := blk_lt hb
  refine fn_of_W Try.func75 rfl Try.results75 Try.ntmps75 rfl ?_
  repeat ((first | refine W.seqR rfl ?_ | refine W.seq ?_ | refine W.regR rfl ?_ | refine W.condK ?_ | refine W.block ?_ | refine W.skip ?_ | refine W.ret ?_ | refine W.exit ?_); try simp (maxSteps := 1000000) (disch := (first | omega | (simp only [World.size_alloc, size_wr, size_drew] <;> omega) | exact not_noB _)) only [go_sem, ↓reduceIte, n0, reduceCtorEq, n1, n2, n3, n4, n5, i0, i1, i2, i3, i4, i5, i6, i7, hb])
  first | exact Upd.wr (Upd.refl _ _) _ _ (.inr rfl) | exact ⟨by simp (maxSteps := 1000000) (disch := (first | omega | (simp only [World.size_alloc, size_wr, size_drew] <;> omega) | exact not_noB _)) only [go_sem, ↓reduceIte, n0, reduceCtorEq, n1, n2, n3, n4, n5, i0, i1, i2, i3, i4, i5, i6, i7, hb], Upd.wr (Upd.refl _ _) _ _ (.inr rfl)⟩

theorem MaxCreateACLsRequest_fn (w : World) : Fn Try.prog 28 #[] w fun r w' => r = .int .i64 3 ∧ Ext w w' := by
  refine fn_of_W Try.func28 rfl Try.results28 Try.ntmps28 rfl ?_
  repeat ((first | refine W.seqR rfl ?_ | refine W.seq ?_ | refine W.regR rfl ?_ | refine W.condK ?_ | refine W.block ?_ | refine W.skip ?_ | refine W.ret ?_ | refine W.exit ?_); try simp (maxSteps := 1000000) (disch := (first | omega | (simp only [World.size_alloc, size_wr, size_drew] <;> omega) | exact not_noB _)) only [go_sem, ↓reduceIte, n0, reduceCtorEq, n1, n2, n3, n4, n5, i0, i1, i2, i3, i4, i5, i6, i7])
  refine (NewPtrCreateACLsRequest_fn w).mono ?_
  rintro _ w1 ⟨rfl, hb1, hE1⟩
  repeat ((first | refine W.seqR rfl ?_ | refine W.seq ?_ | refine W.regR rfl ?_ | refine W.condK ?_ | refine W.block ?_ | refine W.skip ?_ | refine W.ret ?_ | refine W.exit ?_); try simp (maxSteps := 1000000) (disch := (first | omega | (simp only [World.size_alloc, size_wr, size_drew] <;> omega) | exact not_noB _)) only [go_sem, ↓reduceIte, n0, reduceCtorEq, n1, n2, n3, n4, n5, i0, i1, i2, i3, i4, i5, i6, i7])
  have hm : Fn Try.prog 73 #[.pointer (some ⟨w.heap.size, 0, none⟩)] w1 fun r w' => r = .int .i16 3 ∧ w' = w1 := by
    refine fn_of_W Try.func73 rfl Try.results73 Try.ntmps73 rfl ?_
    repeat ((first | refine W.seqR rfl ?_ | refine W.seq ?_ | refine W.regR rfl ?_ | refine W.condK ?_ | refine W.block ?_ | refine W.skip ?_ | refine W.ret ?_ | refine W.exit ?_); try simp (maxSteps := 1000000) (disch := (first | omega | (simp only [World.size_alloc, size_wr, size_drew] <;> omega) | exact not_noB _)) only [go_sem, ↓reduceIte, n0, reduceCtorEq, n1, n2, n3, n4, n5, i0, i1, i2, i3, i4, i5, i6, i7])
  refine hm.mono ?_
  rintro _ w2 ⟨rfl, rfl⟩
  have ew : IntKind.i64.wrap (3 : Int) = 3 := i64_wrap (by decide)
  repeat ((first | refine W.seqR rfl ?_ | refine W.seq ?_ | refine W.regR rfl ?_ | refine W.condK ?_ | refine W.block ?_ | refine W.skip ?_ | refine W.ret ?_ | refine W.exit ?_); try simp (maxSteps := 1000000) (disch := (first | omega | (simp only [World.size_alloc, size_wr, size_drew] <;> omega) | exact not_noB _)) only [go_sem, ↓reduceIte, n0, reduceCtorEq, n1, n2, n3, n4, n5, i0, i1, i2, i3, i4, i5, i6, i7, ew])
  exact hE1
end Ms

namespace Ms
open Nat renaming reduceEqDiff → n0, reduceAdd → n1, reduceMul → n2, reduceSub → n3, reduceLT → n4, reduceLeDiff → n5
open Int renaming reduceEq → i0, reduceLT → i1, reduceLE → i2, reduceNeg → i3, reduceAdd → i4, reduceSub → i5, reduceMul → i6, reduceToNat → i7
set_option maxRecDepth 8000
open Go Go.Proofs Go.Shelf
attribute [local congr] W_congr WPsq_congr WPp_congr optK_congr addrK_congr intK_congr boolK_congr sliceK_congr tupleK_congr funcK_congr Fn_congr rawK_congr takeK_congr stepK_congr convK_congr aggK_congr

set_option maxHeartbeats 4000000 in
theorem appCreateACLsRequest_0 {d B : Nat} {okM : Blocks} {ver : Int} (hlo : 0 ≤ ver) (hhi : ver ≤ 0) (t : Tree) (cells : List Value) (v : Value) (s : List UInt8) (w : World) {vb : Nat} (ho : OwnBy 5 B w v s) (hB : B ≤ w.heap.size) (hvb : blk w vb = some ((.int .i16 ver :: cells).toArray, 87, (0, 0)))
    (hR : RepS true (d + 2) fs_CreateACLsRequest okM w t cells) (hfit : FitP ver (d + 2) fs_CreateACLsRequest t) (hd : ∀ b, b < w.heap.size → okM b → ¬ ownB v b) (hdv : ¬ ownB v vb) (hlen : s.length + (partS (d + 2) fs_CreateACLsRequest ver false t).length ≤ 2 ^ 41) :
    Fn Try.prog 77 #[.pointer (some ⟨vb, 0, none⟩), v] w fun r w' => AppR 5 B w v s (partS (d + 2) fs_CreateACLsRequest ver false t) r w' := by
  obtain ⟨⟨g_0, -⟩, hfu⟩ := hfit
  replace g_0 : FitF (FitP ver (d + 1)) ver fCreateACLsRequest_0 (t.at 0) := g_0
  obtain ⟨cs, q, hcs, hL, hT⟩ := hR.inv
  obtain ⟨c_0, e_0, rfl, h_0, rfl⟩ := hL
  replace h_0 : RepF (RepS true (d + 1)) (szS true (d + 1)) fCreateACLsRequest_0 okM w (t.at 0) c_0 := h_0
  have hn_0 := g_0.notnull (by decide)
  obtain ⟨p_0, rfl, hs_0, -⟩ := (RepF_list rfl hn_0).1 h_0
  obtain ⟨ab_0, ac_0, rfl, _⟩ := SlR.shape hs_0
  have hll_0 := (g_0.list rfl).1
  obtain ⟨qm, rfl⟩ := hT.shape
  have hv : blk w vb = some (#[.int .i16 ver, .slice ab_0 (t.at 0).l.length ac_0, .map qm], 87, (0, 0)) := by rw [hvb, hcs]; rfl
  clear hvb hcs
  have hh_0 : hasS fCreateACLsRequest_0 ver = true := hasS_t (by show (0 : Int) ≤ ver; omega) (by show (-1 : Int) < 0 ∨ ver ≤ (-1 : Int); omega)
  obtain ⟨XL_0, hXL_0⟩ : ∃ X, X = fixedS (t.at 0).l.length 4 := ⟨_, rfl⟩
  obtain ⟨XE_0, hXE_0⟩ : ∃ X, X = (t.at 0).l.flatMap (fun x => partS (d + 1) fs_CreateACLsRequestCreation ver false x) := ⟨_, rfl⟩
  have hP : partS (d + 2) fs_CreateACLsRequest ver false t = (XL_0 ++ XE_0) ++ [] := partS_no (plainL_has (by decide) hh_0 ((fieldS_list_f (g := (fun x => partS (d + 1) fs_CreateACLsRequestCreation ver false x)) g_0 rfl (by decide) (fun x _ => valueS_part)).trans (by rw [hXL_0, hXE_0])) rfl)
  rw [hP] at hlen
  simp only [List.length_append, List.length_nil] at hlen
  have hdK : ∀ {r : Value} {w' : World} {add : List UInt8}, AppR 5 B w v s add r w' → ∀ b, b < w'.heap.size → OkS okM w.heap.size b → ¬ ownB r b := fun h b _ hk ho => (h.frame b ho).elim (hd b hk.2 hk.1) (fun h => by have := hk.2; omega)
  have ownK : ∀ {r : Value} {w' : World} {add : List UInt8} {b : Nat}, AppR 5 B w v s add r w' → b < w.heap.size → ¬ ownB v b → ¬ ownB r b := fun h hb hn ho => (h.frame _ ho).elim hn (fun h => by omega)
  have ha0 : AppR 5 B w v s [] v w := AppR.refl ho
  obtain ⟨w0, hw0⟩ : ∃ w0, w0 = w := ⟨_, rfl⟩
  have hB0 := hB
  have hv_0 := hv
  refine fn_of_W Try.func77 rfl Try.results77 Try.ntmps77 rfl ?_
  repeat ((first | refine W.seqR rfl ?_ | refine W.seq ?_ | refine W.regR rfl ?_ | refine W.condK ?_ | refine W.block ?_ | refine W.skip ?_ | refine W.ret ?_ | refine W.exit ?_); try simp (maxSteps := 1000000) (disch := (first | omega | (simp only [World.size_alloc, size_wr, size_drew] <;> omega) | exact not_noB _)) only [go_sem, ↓reduceIte, n0, reduceCtorEq, n1, n2, n3, n4, n5, i0, i1, i2, i3, i4, i5, i6, i7, hv_0])
  refine (AppendArrayLen_fn _ _ _ ha0.own hB0 (t.at 0).l.length hll_0 (by simp only [List.length_append, List.length_nil]; omega)).mono ?_
  rintro r1 w1 hc1
  rw [← hXL_0] at hc1
  have ha1 := ha0.trans hc1
  have hB1 : B ≤ w1.heap.size := Nat.le_trans hB ha1.upd.size
  have hv_1 := ha1.upd.blk_some hv hdv
  repeat ((first | refine W.seqR rfl ?_ | refine W.seq ?_ | refine W.regR rfl ?_ | refine W.condK ?_ | refine W.block ?_ | refine W.skip ?_ | refine W.ret ?_ | refine W.exit ?_); try simp (maxSteps := 1000000) (disch := (first | omega | (simp only [World.size_alloc, size_wr, size_drew] <;> omega) | exact not_noB _)) only [go_sem, ↓reduceIte, n0, reduceCtorEq, n1, n2, n3, n4, n5, i0, i1, i2, i3, i4, i5, i6, i7, hv_1])
  have hadd1 := ha1
  refine W.exitJ 0 (fun ρ w' => ∃ r, ρ 1 = r ∧ ρ 0 = .pointer (some ⟨vb, 0, none⟩) ∧ ρ 5 = .int .i16 ver ∧ ρ 6 = .bool false ∧ AppR 5 B w v s (([] ++ XL_0) ++ XE_0) r w')
    (W.loop (fun ρ w' => ∃ (j : Nat) (r : Value), j ≤ (t.at 0).l.length ∧ ρ 44 = .int .i64 j ∧ ρ 43 = .int .i64 (t.at 0).l.length ∧ ρ 7 = .slice ab_0 (t.at 0).l.length ac_0 ∧ ρ 1 = r ∧ ρ 0 = .pointer (some ⟨vb, 0, none⟩) ∧ ρ 5 = .int .i16 ver ∧ ρ 6 = .bool false ∧ AppR 5 B w v s (([] ++ XL_0) ++ ((t.at 0).l.take j).flatMap (fun x => partS (d + 1) fs_CreateACLsRequestCreation ver false x)) r w')
      (fun ρ _ => (t.at 0).l.length - (RowKit.intOf (ρ 44)).toNat) ?_ ?_) ?_
  · refine ⟨0, _, Nat.zero_le _, ?_, ?_, ?_, ?_, ?_, ?_, ?_, ha1.eqs (by rw [List.take_zero, List.flatMap_nil, List.append_nil])⟩ <;> simp (maxSteps := 1000000) (disch := (first | omega | (simp only [World.size_alloc, size_wr, size_drew] <;> omega) | exact not_noB _)) only [go_sem, ↓reduceIte, n0, reduceCtorEq, n1, n2, n3, n4, n5, i0, i1, i2, i3, i4, i5, i6, i7]
    all_goals rfl
  · rintro ρ w2 ⟨j1, r2, hj1, hI1, hN1, hS1, hr1_1, hr1_0, hr1_5, hr1_6, ha2⟩
    have hB2 : B ≤ w2.heap.size := Nat.le_trans hB ha2.upd.size
    have hv_2 := ha2.upd.blk_some hv hdv
    by_cases hlt1 : j1 < (t.at 0).l.length
    · obtain ⟨_, b1, o1, x1, ce1, hb1, hok1, hx1, hbl1, hxs1, hxe1, hq1, hRe1⟩ := SlR.get (size := 8) (by decide) hs_0 hlt1
      subst hb1
      have hcat1 : (t.at 0).l.take (j1 + 1) = (t.at 0).l.take j1 ++ [(t.at 0).l[j1]] := List.take_succ_eq_append_getElem hlt1
      have htl1 := take_flatMap_len (t.at 0).l (fun x => partS (d + 1) fs_CreateACLsRequestCreation ver false x) (j1 + 1)
      rw [← hXE_0, hcat1, List.flatMap_append, List.flatMap_cons, List.flatMap_nil, List.append_nil] at htl1
      have hge1 := (g_0.list rfl).2 _ (List.getElem_mem hlt1)
      generalize (t.at 0).l[j1] = y1 at *
      have hnx1 := hd b1 hbl1 hok1
      obtain ⟨T1, hTT1⟩ : ∃ T, T = ((t.at 0).l.take j1).flatMap (fun x => partS (d + 1) fs_CreateACLsRequestCreation ver false x) := ⟨_, rfl⟩
      rw [← hTT1] at ha2 htl1
      have hx1_2 := ha2.upd.blk_some hx1 hnx1
      replace hRe1 : RepS true (d + 1) fs_CreateACLsRequestCreation okM w y1 ce1 := Rep1_part.1 hRe1
      have hfe1 : FitP ver (d + 1) fs_CreateACLsRequestCreation y1 := hge1.2.2 rfl
      obtain ⟨⟨ge1_0, ge1_1, ge1_2, ge1_3, ge1_4, ge1_5, ge1_6, -⟩, hfue1⟩ := hfe1
      replace ge1_0 : FitF (FitP ver d) ver fCreateACLsRequestCreation_0 (y1.at 0) := ge1_0
      replace ge1_1 : FitF (FitP ver d) ver fCreateACLsRequestCreation_1 (y1.at 1) := ge1_1
      replace ge1_2 : FitF (FitP ver d) ver fCreateACLsRequestCreation_2 (y1.at 2) := ge1_2
      replace ge1_3 : FitF (FitP ver d) ver fCreateACLsRequestCreation_3 (y1.at 3) := ge1_3
      replace ge1_4 : FitF (FitP ver d) ver fCreateACLsRequestCreation_4 (y1.at 4) := ge1_4
      replace ge1_5 : FitF (FitP ver d) ver fCreateACLsRequestCreation_5 (y1.at 5) := ge1_5
      replace ge1_6 : FitF (FitP ver d) ver fCreateACLsRequestCreation_6 (y1.at 6) := ge1_6
      obtain ⟨cse1, qe1, hcse1, hLe1, hTe1⟩ := hRe1.inv
      obtain ⟨ce1_0, ee1_0, rfl, he1_0, ce1_1, ee1_1, rfl, he1_1, ce1_2, ee1_2, rfl, he1_2, ce1_3, ee1_3, rfl, he1_3, ce1_4, ee1_4, rfl, he1_4, ce1_5, ee1_5, rfl, he1_5, ce1_6, ee1_6, rfl, he1_6, rfl⟩ := hLe1
      replace he1_0 : RepF (RepS true d) (szS true d) fCreateACLsRequestCreation_0 okM w (y1.at 0) ce1_0 := he1_0
      replace he1_1 : RepF (RepS true d) (szS true d) fCreateACLsRequestCreation_1 okM w (y1.at 1) ce1_1 := he1_1
      replace he1_2 : RepF (RepS true d) (szS true d) fCreateACLsRequestCreation_2 okM w (y1.at 2) ce1_2 := he1_2
      replace he1_3 : RepF (RepS true d) (szS true d) fCreateACLsRequestCreation_3 okM w (y1.at 3) ce1_3 := he1_3
      replace he1_4 : RepF (RepS true d) (szS true d) fCreateACLsRequestCreation_4 okM w (y1.at 4) ce1_4 := he1_4
      replace he1_5 : RepF (RepS true d) (szS true d) fCreateACLsRequestCreation_5 okM w (y1.at 5) ce1_5 := he1_5
      replace he1_6 : RepF (RepS true d) (szS true d) fCreateACLsRequestCreation_6 okM w (y1.at 6) ce1_6 := he1_6
      obtain rfl := (RepF_num (by decide)).1 he1_0
      obtain rfl := (RepF_text rfl (by decide)).1 he1_1
      obtain rfl := (RepF_num (by decide)).1 he1_2
      obtain rfl := (RepF_text rfl (by decide)).1 he1_3
      obtain rfl := (RepF_text rfl (by decide)).1 he1_4
      obtain rfl := (RepF_num (by decide)).1 he1_5
      obtain rfl := (RepF_num (by decide)).1 he1_6
      obtain ⟨qme1, rfl⟩ := hTe1.shape
      subst hcse1
      have hq1_0 : x1.1[o1 + j1 * 8]? = some (.int .i8 (IntKind.i8.wrap (y1.at 0).n)) := hq1 0 (by decide)
      have hq1_1 : x1.1[o1 + (j1 * 8 + 1)]? = some (strV (y1.at 1).s) := hq1 1 (by decide)
      have hq1_2 : x1.1[o1 + (j1 * 8 + 2)]? = some (.int .i8 (IntKind.i8.wrap (y1.at 2).n)) := hq1 2 (by decide)
      have hq1_3 : x1.1[o1 + (j1 * 8 + 3)]? = some (strV (y1.at 3).s) := hq1 3 (by decide)
      have hq1_4 : x1.1[o1 + (j1 * 8 + 4)]? = some (strV (y1.at 4).s) := hq1 4 (by decide)
      have hq1_5 : x1.1[o1 + (j1 * 8 + 5)]? = some (.int .i8 (IntKind.i8.wrap (y1.at 5).n)) := hq1 5 (by decide)
      have hq1_6 : x1.1[o1 + (j1 * 8 + 6)]? = some (.int .i8 (IntKind.i8.wrap (y1.at 6).n)) := hq1 6 (by decide)
      have hq1_7 : x1.1[o1 + (j1 * 8 + 7)]? = some (.map qme1) := hq1 7 (by decide)
      have hhe1_0 : hasS fCreateACLsRequestCreation_0 ver = true := hasS_t (by show (0 : Int) ≤ ver; omega) (by show (-1 : Int) < 0 ∨ ver ≤ (-1 : Int); omega)
      obtain ⟨Xe1_0, hXXe1_0⟩ : ∃ X, X = fixedS (y1.at 0).n 1 := ⟨_, rfl⟩
      have hhe1_1 : hasS fCreateACLsRequestCreation_1 ver = true := hasS_t (by show (0 : Int) ≤ ver; omega) (by show (-1 : Int) < 0 ∨ ver ≤ (-1 : Int); omega)
      obtain ⟨Xe1_1, hXXe1_1⟩ : ∃ X, X = fixedS (y1.at 1).s.length 2 ++ (y1.at 1).s := ⟨_, rfl⟩
      have hhe1_2 : hasS fCreateACLsRequestCreation_2 ver = false := hasS_f (by show ver < 1 ∨ (0 ≤ (-1 : Int) ∧ (-1 : Int) < ver); omega)
      have hhe1_3 : hasS fCreateACLsRequestCreation_3 ver = true := hasS_t (by show (0 : Int) ≤ ver; omega) (by show (-1 : Int) < 0 ∨ ver ≤ (-1 : Int); omega)
      obtain ⟨Xe1_3, hXXe1_3⟩ : ∃ X, X = fixedS (y1.at 3).s.length 2 ++ (y1.at 3).s := ⟨_, rfl⟩
      have hhe1_4 : hasS fCreateACLsRequestCreation_4 ver = true := hasS_t (by show (0 : Int) ≤ ver; omega) (by show (-1 : Int) < 0 ∨ ver ≤ (-1 : Int); omega)
      obtain ⟨Xe1_4, hXXe1_4⟩ : ∃ X, X = fixedS (y1.at 4).s.length 2 ++ (y1.at 4).s := ⟨_, rfl⟩
      have hhe1_5 : hasS fCreateACLsRequestCreation_5 ver = true := hasS_t (by show (0 : Int) ≤ ver; omega) (by show (-1 : Int) < 0 ∨ ver ≤ (-1 : Int); omega)
      obtain ⟨Xe1_5, hXXe1_5⟩ : ∃ X, X = fixedS (y1.at 5).n 1 := ⟨_, rfl⟩
      have hhe1_6 : hasS fCreateACLsRequestCreation_6 ver = true := hasS_t (by show (0 : Int) ≤ ver; omega) (by show (-1 : Int) < 0 ∨ ver ≤ (-1 : Int); omega)
      obtain ⟨Xe1_6, hXXe1_6⟩ : ∃ X, X = fixedS (y1.at 6).n 1 := ⟨_, rfl⟩
      have hPe1 : partS (d + 1) fs_CreateACLsRequestCreation ver false y1 = Xe1_0 ++ (Xe1_1 ++ (Xe1_3 ++ (Xe1_4 ++ (Xe1_5 ++ (Xe1_6 ++ []))))) := partS_no (plainL_has (by decide) hhe1_0 ((fieldS_num 1 rfl (by decide)).trans hXXe1_0.symm) (plainL_has (by decide) hhe1_1 ((fieldS_text_f ge1_1 rfl (by decide)).trans hXXe1_1.symm) (plainL_not hhe1_2 (plainL_has (by decide) hhe1_3 ((fieldS_text_f ge1_3 rfl (by decide)).trans hXXe1_3.symm) (plainL_has (by decide) hhe1_4 ((fieldS_text_f ge1_4 rfl (by decide)).trans hXXe1_4.symm) (plainL_has (by decide) hhe1_5 ((fieldS_num 1 rfl (by decide)).trans hXXe1_5.symm) (plainL_has (by decide) hhe1_6 ((fieldS_num 1 rfl (by decide)).trans hXXe1_6.symm) rfl)))))))
      rw [hPe1] at htl1
      simp only [List.length_append, List.length_nil] at htl1
      repeat ((first | refine W.seqR rfl ?_ | refine W.seq ?_ | refine W.regR rfl ?_ | refine W.condK ?_ | refine W.block ?_ | refine W.skip ?_ | refine W.ret ?_ | refine W.exit ?_); try simp (maxSteps := 1000000) (disch := (first | omega | (simp only [World.size_alloc, size_wr, size_drew] <;> omega) | exact not_noB _)) only [go_sem, ↓reduceIte, n0, reduceCtorEq, n1, n2, n3, n4, n5, i0, i1, i2, i3, i4, i5, i6, i7, hv_2, hx1_2, Int.toNat_natCast, Nat.mul_one, hq1_0, hq1_1, hq1_2, hq1_3, hq1_4, hq1_5, hq1_6, hq1_7, hr1_1, hr1_0, hr1_5, hr1_6, hI1, hN1, hS1])
      refine (AppendInt8_fn _ _ _ ha2.own hB2 _ (by simp only [List.length_append, List.length_nil]; omega)).mono ?_
      rintro r3 w3 hc3
      rw [wrap8, ← hXXe1_0] at hc3
      have ha3 := ha2.trans hc3
      have hB3 : B ≤ w3.heap.size := Nat.le_trans hB ha3.upd.size
      have hv_3 := ha3.upd.blk_some hv hdv
      have hx1_3 := ha3.upd.blk_some hx1 hnx1
      repeat ((first | refine W.seqR rfl ?_ | refine W.seq ?_ | refine W.regR rfl ?_ | refine W.condK ?_ | refine W.block ?_ | refine W.skip ?_ | refine W.ret ?_ | refine W.exit ?_); try simp (maxSteps := 1000000) (disch := (first | omega | (simp only [World.size_alloc, size_wr, size_drew] <;> omega) | exact not_noB _)) only [go_sem, ↓reduceIte, n0, reduceCtorEq, n1, n2, n3, n4, n5, i0, i1, i2, i3, i4, i5, i6, i7, hv_3, hx1_3, Int.toNat_natCast, Nat.mul_one, hq1_0, hq1_1, hq1_2, hq1_3, hq1_4, hq1_5, hq1_6, hq1_7, hr1_1, hr1_0, hr1_5, hr1_6, hI1, hN1, hS1])
      refine (AppendString_fn _ _ _ ha3.own hB3 (y1.at 1).s (ge1_1.text (.inl rfl)) (by simp only [List.length_append, List.length_nil]; omega)).mono ?_
      rintro r4 w4 hc4
      rw [← hXXe1_1] at hc4
      have ha4 := ha3.trans hc4
      have hB4 : B ≤ w4.heap.size := Nat.le_trans hB ha4.upd.size
      have hv_4 := ha4.upd.blk_some hv hdv
      have hx1_4 := ha4.upd.blk_some hx1 hnx1
      repeat ((first | refine W.seqR rfl ?_ | refine W.seq ?_ | refine W.regR rfl ?_ | refine W.condK ?_ | refine W.block ?_ | refine W.skip ?_ | refine W.ret ?_ | refine W.exit ?_); try simp (maxSteps := 1000000) (disch := (first | omega | (simp only [World.size_alloc, size_wr, size_drew] <;> omega) | exact not_noB _)) only [go_sem, ↓reduceIte, n0, reduceCtorEq, n1, n2, n3, n4, n5, i0, i1, i2, i3, i4, i5, i6, i7, hv_4, hx1_4, Int.toNat_natCast, Nat.mul_one, hq1_0, hq1_1, hq1_2, hq1_3, hq1_4, hq1_5, hq1_6, hq1_7, hr1_1, hr1_0, hr1_5, hr1_6, hI1, hN1, hS1])
      refine (AppendString_fn _ _ _ ha4.own hB4 (y1.at 3).s (ge1_3.text (.inl rfl)) (by simp only [List.length_append, List.length_nil]; omega)).mono ?_
      rintro r5 w5 hc5
      rw [← hXXe1_3] at hc5
      have ha5 := ha4.trans hc5
      have hB5 : B ≤ w5.heap.size := Nat.le_trans hB ha5.upd.size
      have hv_5 := ha5.upd.blk_some hv hdv
      have hx1_5 := ha5.upd.blk_some hx1 hnx1
      repeat ((first | refine W.seqR rfl ?_ | refine W.seq ?_ | refine W.regR rfl ?_ | refine W.condK ?_ | refine W.block ?_ | refine W.skip ?_ | refine W.ret ?_ | refine W.exit ?_); try simp (maxSteps := 1000000) (disch := (first | omega | (simp only [World.size_alloc, size_wr, size_drew] <;> omega) | exact not_noB _)) only [go_sem, ↓reduceIte, n0, reduceCtorEq, n1, n2, n3, n4, n5, i0, i1, i2, i3, i4, i5, i6, i7, hv_5, hx1_5, Int.toNat_natCast, Nat.mul_one, hq1_0, hq1_1, hq1_2, hq1_3, hq1_4, hq1_5, hq1_6, hq1_7, hr1_1, hr1_0, hr1_5, hr1_6, hI1, hN1, hS1])
      refine (AppendString_fn _ _ _ ha5.own hB5 (y1.at 4).s (ge1_4.text (.inl rfl)) (by simp only [List.length_append, List.length_nil]; omega)).mono ?_
      rintro r6 w6 hc6
      rw [← hXXe1_4] at hc6
      have ha6 := ha5.trans hc6
      have hB6 : B ≤ w6.heap.size := Nat.le_trans hB ha6.upd.size
      have hv_6 := ha6.upd.blk_some hv hdv
      have hx1_6 := ha6.upd.blk_some hx1 hnx1
      repeat ((first | refine W.seqR rfl ?_ | refine W.seq ?_ | refine W.regR rfl ?_ | refine W.condK ?_ | refine W.block ?_ | refine W.skip ?_ | refine W.ret ?_ | refine W.exit ?_); try simp (maxSteps := 1000000) (disch := (first | omega | (simp only [World.size_alloc, size_wr, size_drew] <;> omega) | exact not_noB _)) only [go_sem, ↓reduceIte, n0, reduceCtorEq, n1, n2, n3, n4, n5, i0, i1, i2, i3, i4, i5, i6, i7, hv_6, hx1_6, Int.toNat_natCast, Nat.mul_one, hq1_0, hq1_1, hq1_2, hq1_3, hq1_4, hq1_5, hq1_6, hq1_7, hr1_1, hr1_0, hr1_5, hr1_6, hI1, hN1, hS1])
      refine (AppendInt8_fn _ _ _ ha6.own hB6 _ (by simp only [List.length_append, List.length_nil]; omega)).mono ?_
      rintro r7 w7 hc7
      rw [wrap8, ← hXXe1_5] at hc7
      have ha7 := ha6.trans hc7
      have hB7 : B ≤ w7.heap.size := Nat.le_trans hB ha7.upd.size
      have hv_7 := ha7.upd.blk_some hv hdv
      have hx1_7 := ha7.upd.blk_some hx1 hnx1
      repeat ((first | refine W.seqR rfl ?_ | refine W.seq ?_ | refine W.regR rfl ?_ | refine W.condK ?_ | refine W.block ?_ | refine W.skip ?_ | refine W.ret ?_ | refine W.exit ?_); try simp (maxSteps := 1000000) (disch := (first | omega | (simp only [World.size_alloc, size_wr, size_drew] <;> omega) | exact not_noB _)) only [go_sem, ↓reduceIte, n0, reduceCtorEq, n1, n2, n3, n4, n5, i0, i1, i2, i3, i4, i5, i6, i7, hv_7, hx1_7, Int.toNat_natCast, Nat.mul_one, hq1_0, hq1_1, hq1_2, hq1_3, hq1_4, hq1_5, hq1_6, hq1_7, hr1_1, hr1_0, hr1_5, hr1_6, hI1, hN1, hS1])
      refine (AppendInt8_fn _ _ _ ha7.own hB7 _ (by simp only [List.length_append, List.length_nil]; omega)).mono ?_
      rintro r8 w8 hc8
      rw [wrap8, ← hXXe1_6] at hc8
      have ha8 := ha7.trans hc8
      have hB8 : B ≤ w8.heap.size := Nat.le_trans hB ha8.upd.size
      have hv_8 := ha8.upd.blk_some hv hdv
      have hx1_8 := ha8.upd.blk_some hx1 hnx1
      repeat ((first | refine W.seqR rfl ?_ | refine W.seq ?_ | refine W.regR rfl ?_ | refine W.condK ?_ | refine W.block ?_ | refine W.skip ?_ | refine W.ret ?_ | refine W.exit ?_); try simp (maxSteps := 1000000) (disch := (first | omega | (simp only [World.size_alloc, size_wr, size_drew] <;> omega) | exact not_noB _)) only [go_sem, ↓reduceIte, n0, reduceCtorEq, n1, n2, n3, n4, n5, i0, i1, i2, i3, i4, i5, i6, i7, hr1_1, hr1_0, hr1_5, hr1_6, hI1, hN1, hS1])
      refine ⟨⟨j1 + 1, _, by omega, rfl, rfl, ha8.eqs ?_⟩, ?_⟩
      · rw [hcat1, List.flatMap_append, List.flatMap_cons, List.flatMap_nil, List.append_nil, ← hTT1, hPe1]; simp only [List.append_assoc, List.append_nil, List.nil_append]
      · simp only [RowKit.intOf]; omega
    · have hjl1 : j1 = (t.at 0).l.length := by omega
      subst hjl1
      rw [List.take_length, ← hXE_0] at ha2
      repeat ((first | refine W.seqR rfl ?_ | refine W.seq ?_ | refine W.regR rfl ?_ | refine W.condK ?_ | refine W.block ?_ | refine W.skip ?_ | refine W.ret ?_ | refine W.exit ?_); try simp (maxSteps := 1000000) (disch := (first | omega | (simp only [World.size_alloc, size_wr, size_drew] <;> omega) | exact not_noB _)) only [go_sem, ↓reduceIte, n0, reduceCtorEq, n1, n2, n3, n4, n5, i0, i1, i2, i3, i4, i5, i6, i7, hI1, hN1])
      exact ⟨_, hr1_1, hr1_0, hr1_5, hr1_6, ha2⟩
  · rintro ρ w9 ⟨r9, hr1_2, hr2_0, hr2_5, hr2_6, ha9⟩
    have hB9 : B ≤ w9.heap.size := Nat.le_trans hB ha9.upd.size
    have hv_9 := ha9.upd.blk_some hv hdv
    repeat ((first | refine W.seqR rfl ?_ | refine W.seq ?_ | refine W.regR rfl ?_ | refine W.condK ?_ | refine W.block ?_ | refine W.skip ?_ | refine W.ret ?_ | refine W.exit ?_); try simp (maxSteps := 1000000) (disch := (first | omega | (simp only [World.size_alloc, size_wr, size_drew] <;> omega) | exact not_noB _)) only [go_sem, ↓reduceIte, n0, reduceCtorEq, n1, n2, n3, n4, n5, i0, i1, i2, i3, i4, i5, i6, i7, hv_9, hr1_2, hr2_0, hr2_5, hr2_6])
    refine ha9.eqs ?_
    rw [hP]; simp only [List.append_assoc, List.append_nil, List.nil_append]
end Ms

