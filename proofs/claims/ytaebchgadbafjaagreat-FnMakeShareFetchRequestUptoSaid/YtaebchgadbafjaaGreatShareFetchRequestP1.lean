/- A part of the proof: see the last text. -/
import Derived.Test.YtaebchgadbafjaaGreatC08
import Derived.Test.YtaebchgadbafjaaGreatShareFetchRequestP0
set_option linter.unusedSimpArgs false
set_option linter.unusedVariables false
namespace Ms
open Go.World renaming size_alloc → qI
open Ms renaming size_wr → qJ,size_drew → qK,not_noB → qL
open W renaming seqR → qA,seq → qB,regR → qC,condK → qD,block → qE,skip → qF,ret → qG,exit → qH
open Nat renaming reduceEqDiff → n0,reduceAdd → n1,reduceMul → n2,reduceSub → n3,reduceLT → n4,reduceLeDiff → n5
open Int renaming reduceEq → i0,reduceLT → i1,reduceLE → i2,reduceNeg → i3,reduceAdd → i4,reduceSub → i5,reduceMul → i6,reduceToNat → i7
set_option maxRecDepth 8000
open Go Go.Proofs Go.Shelf
attribute [local congr] W_congr WPsq_congr WPp_congr optK_congr addrK_congr intK_congr boolK_congr sliceK_congr tupleK_congr funcK_congr Fn_congr rawK_congr takeK_congr stepK_congr convK_congr aggK_congr

def fX0_0 : Fld := .mk 4 0 (-1) (-1) (-1) 0 0 []
def fX0_1 : Fld := .mk 4 0 (-1) (-1) (-1) 0 0 []
def fX0_2 : Fld := .mk 11 0 (-1) (-1) (-1) 0 1 []
def fs_X0 : List Fld := [fX0_0,fX0_1,fX0_2]
def fX2_0 : Fld := .mk 3 0 (-1) (-1) (-1) 0 0 []
def fX2_1 : Fld := .mk 3 0 0 (-1) (-1) 0 0 []
def fX2_2 : Fld := .mk 11 0 (-1) (-1) (-1) 0 10 fs_X0
def fs_X2 : List Fld := [fX2_0,fX2_1,fX2_2]
def fX3_0 : Fld := .mk 7 0 (-1) (-1) (-1) 0 0 []
def fX3_1 : Fld := .mk 11 0 (-1) (-1) (-1) 0 10 fs_X2
def fs_X3 : List Fld := [fX3_0,fX3_1]
def fX1_0 : Fld := .mk 7 0 (-1) (-1) (-1) 0 0 []
def fX1_1 : Fld := .mk 11 0 (-1) (-1) (-1) 0 3 []
def fs_X1 : List Fld := [fX1_0,fX1_1]
def fShareFetchRequest_0 : Fld := .mk 8 0 (-1) 0 (-1) 0 0 []
def fShareFetchRequest_1 : Fld := .mk 8 0 (-1) 0 (-1) 0 0 []
def fShareFetchRequest_2 : Fld := .mk 3 0 (-1) (-1) (-1) 0 0 []
def fShareFetchRequest_3 : Fld := .mk 3 0 (-1) (-1) (-1) 0 0 []
def fShareFetchRequest_4 : Fld := .mk 3 0 (-1) (-1) (-1) 0 0 []
def fShareFetchRequest_5 : Fld := .mk 3 0 (-1) (-1) (-1) 2147483647 0 []
def fShareFetchRequest_6 : Fld := .mk 3 1 (-1) (-1) (-1) 0 0 []
def fShareFetchRequest_7 : Fld := .mk 3 1 (-1) (-1) (-1) 0 0 []
def fShareFetchRequest_8 : Fld := .mk 1 2 (-1) (-1) (-1) 0 0 []
def fShareFetchRequest_9 : Fld := .mk 0 2 (-1) (-1) (-1) 0 0 []
def fShareFetchRequest_10 : Fld := .mk 11 0 (-1) (-1) (-1) 0 10 fs_X3
def fShareFetchRequest_11 : Fld := .mk 11 0 (-1) (-1) (-1) 0 10 fs_X1
def fs_ShareFetchRequest : List Fld := [fShareFetchRequest_0,fShareFetchRequest_1,fShareFetchRequest_2,fShareFetchRequest_3,fShareFetchRequest_4,fShareFetchRequest_5,fShareFetchRequest_6,fShareFetchRequest_7,fShareFetchRequest_8,fShareFetchRequest_9,fShareFetchRequest_10,fShareFetchRequest_11]

set_option maxHeartbeats 2000000 in
theorem makeX0_fn {d : Nat} {okT : Blocks} {V : Int} (t : Tree) (ct : List Value) (w : World) (ht : TreeC okT w t ct) (hfit : FitP V (d + 1) fs_X0 t) (hLs : Lists t) :
    Fn Tryz.prog 68 #[.agg ct.toArray] w fun r w' => (∃ cs,r = .agg cs.toArray ∧ RepS true (d + 1) fs_X0 (okN okT w.heap.size) w' t cs) ∧ Ext w w' := by
  obtain ⟨vS,vL,vU,rfl,hn,hSx,hLx0,hUx⟩ := ht.inv
  obtain ⟨bS,cS,rfl,hcS⟩ := hSx.shape
  obtain ⟨bL,cL,rfl,hcL⟩ := SlR.shape hLx0
  obtain ⟨bU,cU,rfl,hcU⟩ := SlR.shape hUx
  obtain ⟨⟨g0,g1,g2,-⟩,hfu⟩ := hfit
  replace g0 : FitF (FitP V d) V fX0_0 (t.at 0) := g0
  replace g1 : FitF (FitP V d) V fX0_1 (t.at 1) := g1
  replace g2 : FitF (FitP V d) V fX0_2 (t.at 2) := g2
  have hllt : t.l.length < 4611686018427387903 := Nat.lt_of_le_of_lt hLs.len (by decide)
  have hul := hLs.ulen
  refine fn_of_W Tryz.func68 rfl Tryz.results68 Tryz.ntmps68 rfl ?_
  obtain ⟨w1,hw1⟩ : ∃ w1,w1 = (((w.alloc (.cells #[.int .i64 t.n,.slice bS t.s.length cS,.bool t.null,.slice bL t.l.length cL,.slice bU t.u.length cU] 39)).alloc (.cells #[.int .i64 0,.int .i64 0,.slice none 0 0,.map none] 99)).alloc (.cells #[.int .i64 0,.int .i64 0,.slice none 0 0,.map none] 99)) := ⟨_,rfl⟩
  have hE1 : Ext w w1 := by rw [hw1];exact ((Upd.refl _ _).alloc _).alloc _ |>.alloc _
  have hz1 : w1.heap.size = w.heap.size + 3 := by rw [hw1];simp only [World.size_alloc]
  have htb1 : blk w1 w.heap.size = some (#[.int .i64 t.n,.slice bS t.s.length cS,.bool t.null,.slice bL t.l.length cL,.slice bU t.u.length cU],39,(0,0)) := by rw [hw1];simp (maxSteps:=1000000)(disch:=(first|omega|(simp only [qI,qJ,qK]<;>omega)|exact qL _)) only [go_sem,↓reduceIte,n0,reduceCtorEq,n1,n2,n3,n4,n5,i0,i1,i2,i3,i4,i5,i6,i7]
  have hrb1 : blk w1 (w.heap.size + 1) = some (#[.int .i64 0,.int .i64 0,.slice none 0 0,.map none],99,(0,0)) := by rw [hw1];simp (maxSteps:=1000000)(disch:=(first|omega|(simp only [qI,qJ,qK]<;>omega)|exact qL _)) only [go_sem,↓reduceIte,n0,reduceCtorEq,n1,n2,n3,n4,n5,i0,i1,i2,i3,i4,i5,i6,i7]
  have hb1 : blk w1 (w.heap.size + 2) = some (#[.int .i64 0,.int .i64 0,.slice none 0 0,.map none],99,(0,0)) := by rw [hw1];simp (maxSteps:=1000000)(disch:=(first|omega|(simp only [qI,qJ,qK]<;>omega)|exact qL _)) only [go_sem,↓reduceIte,n0,reduceCtorEq,n1,n2,n3,n4,n5,i0,i1,i2,i3,i4,i5,i6,i7]
  have hoS : ∀ b,(OkS okT w.heap.size) b → b ≠ (w.heap.size + 2) := fun b h => by have := h.2;omega
  have hoR : ∀ b,(OkF okT w.heap.size w1.heap.size) b → b ≠ w.heap.size + 1 := fun b h => by
    rcases h with h | h
    · have := h.2;omega
    · omega
  have htv : ¬ w.heap.size = (w.heap.size + 2) := by omega
  have hoF : ∀ b,(OkF okT w.heap.size w1.heap.size) b → b ≠ (w.heap.size + 2) := fun b h => by
    rcases h with h | h
    · exact hoS b h
    · omega
  have hU1 : Upd (fun b => b = (w.heap.size + 2)) w1 w1 := Upd.refl _ _
  have hvl1 := blk_lt hb1
  have hsz1 := Nat.le_refl w1.heap.size
  have ht1 : TreeC (OkS okT w.heap.size) w1 t [.int .i64 t.n,.slice bS t.s.length cS,.bool t.null,.slice bL t.l.length cL,.slice bU t.u.length cU] := (ht.weaken fun b h1 h2 => ⟨h2,h1⟩).keep (hE1.keeps _)
  have hU1v : TagsV (OkS okT w.heap.size) w1 (.slice bU t.u.length cU) t.u := (hUx.weaken fun b h1 h2 => ⟨h2,h1⟩).keep (hE1.keeps _)
  repeat ((first | refine qA rfl ?_|refine qB ?_|refine qC rfl ?_|refine qD ?_|refine qE ?_|refine qF ?_|refine qG ?_|refine qH ?_);try simp (maxSteps:=1000000)(disch:=(first|omega|(simp only [qI,qJ,qK]<;>omega)|exact qL _)) only [go_sem,↓reduceIte,n0,reduceCtorEq,n1,n2,n3,n4,n5,i0,i1,i2,i3,i4,i5,i6,i7])
  rw [← hw1]
  clear hw1
  refine (iat_fn (ok := (OkS okT w.heap.size)) t 0 _ _ (ht1.keep (hU1.keeps fun b _ hk e => hoS b hk e)) (by decide) hllt).mono ?_
  rintro r2 w2 ⟨⟨ca2,rfl,hca2⟩,hEa2⟩
  obtain ⟨vSa2,vLa2,vUa2,rfl,hna2,hSa2,hLa2,hUa2⟩ := hca2.inv
  obtain ⟨bSa2,cSa2,rfl,hcSa2⟩ := hSa2.shape
  obtain ⟨bLa2,cLa2,rfl,hcLa2⟩ := SlR.shape hLa2
  have hfU2 := SlR.flat hUa2
  clear hcSa2 hcLa2 hna2
  have hV2 : Upd (fun b => b = (w.heap.size + 2)) w1 w2 := hEa2.mono fun _ h => h.elim
  have hU2 : Upd (fun b => b = (w.heap.size + 2)) w1 w2 := hU1.trans hV2
  have htb2 := hU2.blk_some htb1 htv
  have hvl2 : (w.heap.size + 2) < w2.heap.size := Nat.lt_of_lt_of_le hvl1 hU2.size
  have hsz2 := hU2.size
  have hb2 : blk w2 (w.heap.size + 2) = some (#[.int .i64 0,.int .i64 0,.slice none 0 0,.map none],99,(0,0)) := hEa2.blk_some hb1 id
  simp (maxSteps:=1000000)(disch:=(first|omega|(simp only [qI,qJ,qK]<;>omega)|exact qL _)) only [go_sem,↓reduceIte,n0,reduceCtorEq,n1,n2,n3,n4,n5,i0,i1,i2,i3,i4,i5,i6,i7,hb2,htb2]
  generalize hw3 : wr w2 (w.heap.size + 2) 0 [.int .i64 (t.at 0).n] = w3
  have hV3 : Upd (fun b => b = (w.heap.size + 2)) w2 w3 := by rw [← hw3];exact (Upd.refl _ _).wr _ _ (.inr rfl)
  have hb3 : blk w3 (w.heap.size + 2) = some (#[.int .i64 (t.at 0).n,.int .i64 0,.slice none 0 0,.map none],99,(0,0)) := by rw [← hw3,blk_wr_eq,hb2];rfl
  have hU3 : Upd (fun b => b = (w.heap.size + 2)) w1 w3 := hU2.trans hV3
  have htb3 := hU3.blk_some htb1 htv
  have hvl3 : (w.heap.size + 2) < w3.heap.size := Nat.lt_of_lt_of_le hvl1 hU3.size
  have hsz3 := hU3.size
  clear hvl2 hsz2
  clear hw3
  have hf0 : RepF (RepS true d) (szS true d) fX0_0 (OkF okT w.heap.size w1.heap.size) w3 (t.at 0) [.int .i64 (t.at 0).n] := (RepF_num (by decide)).2 rfl
  repeat ((first | refine qA rfl ?_|refine qB ?_|refine qC rfl ?_|refine qD ?_|refine qE ?_|refine qF ?_|refine qG ?_|refine qH ?_);try simp (maxSteps:=1000000)(disch:=(first|omega|(simp only [qI,qJ,qK]<;>omega)|exact qL _)) only [go_sem,↓reduceIte,n0,reduceCtorEq,n1,n2,n3,n4,n5,i0,i1,i2,i3,i4,i5,i6,i7,hb3,htb3])
  refine (iat_fn (ok := (OkS okT w.heap.size)) t 1 _ _ (ht1.keep (hU3.keeps fun b _ hk e => hoS b hk e)) (by decide) hllt).mono ?_
  rintro r4 w4 ⟨⟨ca4,rfl,hca4⟩,hEa4⟩
  obtain ⟨vSa4,vLa4,vUa4,rfl,hna4,hSa4,hLa4,hUa4⟩ := hca4.inv
  obtain ⟨bSa4,cSa4,rfl,hcSa4⟩ := hSa4.shape
  obtain ⟨bLa4,cLa4,rfl,hcLa4⟩ := SlR.shape hLa4
  have hfU4 := SlR.flat hUa4
  clear hcSa4 hcLa4 hna4
  have hV4 : Upd (fun b => b = (w.heap.size + 2)) w3 w4 := hEa4.mono fun _ h => h.elim
  have hU4 : Upd (fun b => b = (w.heap.size + 2)) w1 w4 := hU3.trans hV4
  have htb4 := hU4.blk_some htb1 htv
  have hvl4 : (w.heap.size + 2) < w4.heap.size := Nat.lt_of_lt_of_le hvl1 hU4.size
  have hsz4 := hU4.size
  clear hvl3 hsz3
  have hb4 : blk w4 (w.heap.size + 2) = some (#[.int .i64 (t.at 0).n,.int .i64 0,.slice none 0 0,.map none],99,(0,0)) := hEa4.blk_some hb3 id
  simp (maxSteps:=1000000)(disch:=(first|omega|(simp only [qI,qJ,qK]<;>omega)|exact qL _)) only [go_sem,↓reduceIte,n0,reduceCtorEq,n1,n2,n3,n4,n5,i0,i1,i2,i3,i4,i5,i6,i7,hb4,htb4]
  generalize hw5 : wr w4 (w.heap.size + 2) 1 [.int .i64 (t.at 1).n] = w5
  have hV5 : Upd (fun b => b = (w.heap.size + 2)) w4 w5 := by rw [← hw5];exact (Upd.refl _ _).wr _ _ (.inr rfl)
  have hb5 : blk w5 (w.heap.size + 2) = some (#[.int .i64 (t.at 0).n,.int .i64 (t.at 1).n,.slice none 0 0,.map none],99,(0,0)) := by rw [← hw5,blk_wr_eq,hb4];rfl
  have hU5 : Upd (fun b => b = (w.heap.size + 2)) w1 w5 := hU4.trans hV5
  have htb5 := hU5.blk_some htb1 htv
  have hvl5 : (w.heap.size + 2) < w5.heap.size := Nat.lt_of_lt_of_le hvl1 hU5.size
  have hsz5 := hU5.size
  clear hvl4 hsz4
  clear hw5
  have hf1 : RepF (RepS true d) (szS true d) fX0_1 (OkF okT w.heap.size w1.heap.size) w5 (t.at 1) [.int .i64 (t.at 1).n] := (RepF_num (by decide)).2 rfl
  have hn0_2 : (t.at 2).null = false := g2.notnull (by decide)
  have hll2 := (g2.list rfl).1
  repeat ((first | refine qA rfl ?_|refine qB ?_|refine qC rfl ?_|refine qD ?_|refine qE ?_|refine qF ?_|refine qG ?_|refine qH ?_);try simp (maxSteps:=1000000)(disch:=(first|omega|(simp only [qI,qJ,qK]<;>omega)|exact qL _)) only [go_sem,↓reduceIte,n0,reduceCtorEq,n1,n2,n3,n4,n5,i0,i1,i2,i3,i4,i5,i6,i7,hb5,htb5])
  refine (iat_fn (ok := (OkS okT w.heap.size)) t 2 _ _ (ht1.keep (hU5.keeps fun b _ hk e => hoS b hk e)) (by decide) hllt).mono ?_
  rintro r6 w6 ⟨⟨ca6,rfl,hca6⟩,hEa6⟩
  obtain ⟨vSa6,vLa6,vUa6,rfl,hna6,hSa6,hLa6,hUa6⟩ := hca6.inv
  obtain ⟨bSa6,cSa6,rfl,hcSa6⟩ := hSa6.shape
  obtain ⟨bLa6,cLa6,rfl,hcLa6⟩ := SlR.shape hLa6
  have hfU6 := SlR.flat hUa6
  clear hcSa6 hcLa6 hna6
  have hV6 : Upd (fun b => b = (w.heap.size + 2)) w5 w6 := hEa6.mono fun _ h => h.elim
  have hU6 : Upd (fun b => b = (w.heap.size + 2)) w1 w6 := hU5.trans hV6
  have htb6 := hU6.blk_some htb1 htv
  have hvl6 : (w.heap.size + 2) < w6.heap.size := Nat.lt_of_lt_of_le hvl1 hU6.size
  have hsz6 := hU6.size
  clear hvl5 hsz5
  have hb6 : blk w6 (w.heap.size + 2) = some (#[.int .i64 (t.at 0).n,.int .i64 (t.at 1).n,.slice none 0 0,.map none],99,(0,0)) := hEa6.blk_some hb5 id
  simp (maxSteps:=1000000)(disch:=(first|omega|(simp only [qI,qJ,qK]<;>omega)|exact qL _)) only [go_sem,↓reduceIte,n0,reduceCtorEq,n1,n2,n3,n4,n5,i0,i1,i2,i3,i4,i5,i6,i7,hn0_2,hb6,htb6]
  repeat ((first | refine qA rfl ?_|refine qB ?_|refine qC rfl ?_|refine qD ?_|refine qE ?_|refine qF ?_|refine qG ?_|refine qH ?_);try simp (maxSteps:=1000000)(disch:=(first|omega|(simp only [qI,qJ,qK]<;>omega)|exact qL _)) only [go_sem,↓reduceIte,n0,reduceCtorEq,n1,n2,n3,n4,n5,i0,i1,i2,i3,i4,i5,i6,i7,hb6,htb6])
  refine (iat_fn (ok := (OkS okT w.heap.size)) t 2 _ _ (ht1.keep (hU6.keeps fun b _ hk e => hoS b hk e)) (by decide) hllt).mono ?_
  rintro r7 w7 ⟨⟨ca7,rfl,hca7⟩,hEa7⟩
  obtain ⟨vSa7,vLa7,vUa7,rfl,hna7,hSa7,hLa7,hUa7⟩ := hca7.inv
  obtain ⟨bSa7,cSa7,rfl,hcSa7⟩ := hSa7.shape
  obtain ⟨bLa7,cLa7,rfl,hcLa7⟩ := SlR.shape hLa7
  have hfU7 := SlR.flat hUa7
  clear hcSa7 hcLa7 hna7
  have hV7 : Upd (fun b => b = (w.heap.size + 2)) w6 w7 := hEa7.mono fun _ h => h.elim
  have hU7 : Upd (fun b => b = (w.heap.size + 2)) w1 w7 := hU6.trans hV7
  have htb7 := hU7.blk_some htb1 htv
  have hvl7 : (w.heap.size + 2) < w7.heap.size := Nat.lt_of_lt_of_le hvl1 hU7.size
  have hsz7 := hU7.size
  clear hvl6 hsz6
  have hb7 : blk w7 (w.heap.size + 2) = some (#[.int .i64 (t.at 0).n,.int .i64 (t.at 1).n,.slice none 0 0,.map none],99,(0,0)) := hEa7.blk_some hb6 id
  simp (maxSteps:=1000000)(disch:=(first|omega|(simp only [qI,qJ,qK]<;>omega)|exact qL _)) only [go_sem,↓reduceIte,n0,reduceCtorEq,n1,n2,n3,n4,n5,i0,i1,i2,i3,i4,i5,i6,i7,hb7,htb7]
  refine wp_make (T := 97) (E := 53) (size := 1) (bytes := 1) (z := (.int .i8 0)) (l := 0) (c := (t.at 2).l.length) (kl := .i64) (kc := .i64) (by kernel_rfl) (by kernel_rfl) (by simp (maxSteps:=1000000)(disch:=(first|omega|(simp only [qI,qJ,qK]<;>omega)|exact qL _)) only [go_sem,↓reduceIte,n0,reduceCtorEq,n1,n2,n3,n4,n5,i0,i1,i2,i3,i4,i5,i6,i7];rfl) (by simp (maxSteps:=1000000)(disch:=(first|omega|(simp only [qI,qJ,qK]<;>omega)|exact qL _)) only [go_sem,↓reduceIte,n0,reduceCtorEq,n1,n2,n3,n4,n5,i0,i1,i2,i3,i4,i5,i6,i7]) (by omega) (by omega) (by omega) ?_
  simp (maxSteps:=1000000)(disch:=(first|omega|(simp only [qI,qJ,qK]<;>omega)|exact qL _)) only [go_sem,↓reduceIte,n0,reduceCtorEq,n1,n2,n3,n4,n5,i0,i1,i2,i3,i4,i5,i6,i7,hb7,hvl7,htb7]
  have hszB2 := hsz7
  generalize hw8 : wr (w7.alloc (.cells (madeCells #[.int .i8 0] ((t.at 2).l.length * 1)) 53)) (w.heap.size + 2) 2 [.slice (some ⟨w7.heap.size,0,none⟩) 0 (t.at 2).l.length] = w8
  have hV8 : Upd (fun b => b = (w.heap.size + 2)) w7 w8 := by rw [← hw8];exact ((Upd.refl _ _).alloc _).wr _ _ (.inr rfl)
  have hb8 : blk w8 (w.heap.size + 2) = some (#[.int .i64 (t.at 0).n,.int .i64 (t.at 1).n,.slice (some ⟨w7.heap.size,0,none⟩) 0 (t.at 2).l.length,.map none],99,(0,0)) := by rw [← hw8,blk_wr_eq,blk_alloc_old hvl7,hb7];rfl
  have hrow8 : blk w8 w7.heap.size = some (madeCells #[.int .i8 0] ((t.at 2).l.length * 1),53,(0,0)) := by rw [← hw8,blk_wr_ne (Nat.ne_of_gt hvl7),blk_alloc_new rfl]
  have hg8 : GrowR (Rep1 (RepS true d) fX0_2.of fX0_2.sub) 1 (OkF okT w.heap.size w1.heap.size) w7.heap.size (w.heap.size + 2) w8 53 (.slice (some ⟨w7.heap.size,0,none⟩) 0 (t.at 2).l.length) [] := GrowR.made hrow8 (size_madeCells _ _) (Nat.le_refl _)
  have hU8 : Upd (fun b => b = (w.heap.size + 2)) w1 w8 := hU7.trans hV8
  have htb8 := hU8.blk_some htb1 htv
  have hvl8 : (w.heap.size + 2) < w8.heap.size := Nat.lt_of_lt_of_le hvl1 hU8.size
  have hsz8 := hU8.size
  clear hvl7 hsz7
  clear hw8 hrow8
  repeat ((first | refine qA rfl ?_|refine qB ?_|refine qC rfl ?_|refine qD ?_|refine qE ?_|refine qF ?_|refine qG ?_|refine qH ?_);try simp (maxSteps:=1000000)(disch:=(first|omega|(simp only [qI,qJ,qK]<;>omega)|exact qL _)) only [go_sem,↓reduceIte,n0,reduceCtorEq,n1,n2,n3,n4,n5,i0,i1,i2,i3,i4,i5,i6,i7,hb8,htb8])
  refine (iat_fn (ok := (OkS okT w.heap.size)) t 2 _ _ (ht1.keep (hU8.keeps fun b _ hk e => hoS b hk e)) (by decide) hllt).mono ?_
  rintro r9 w9 ⟨⟨ca9,rfl,hca9⟩,hEa9⟩
  obtain ⟨vSa9,vLa9,vUa9,rfl,hna9,hSa9,hLa9,hUa9⟩ := hca9.inv
  obtain ⟨bSa9,cSa9,rfl,hcSa9⟩ := hSa9.shape
  obtain ⟨bLa9,cLa9,rfl,hcLa9⟩ := SlR.shape hLa9
  have hfU9 := SlR.flat hUa9
  clear hcSa9 hcLa9 hna9
  have hV9 : Upd (fun b => b = (w.heap.size + 2)) w8 w9 := hEa9.mono fun _ h => h.elim
  have hU9 : Upd (fun b => b = (w.heap.size + 2)) w1 w9 := hU8.trans hV9
  have htb9 := hU9.blk_some htb1 htv
  have hvl9 : (w.heap.size + 2) < w9.heap.size := Nat.lt_of_lt_of_le hvl1 hU9.size
  have hsz9 := hU9.size
  clear hvl8 hsz8
  have hb9 : blk w9 (w.heap.size + 2) = some (#[.int .i64 (t.at 0).n,.int .i64 (t.at 1).n,.slice (some ⟨w7.heap.size,0,none⟩) 0 (t.at 2).l.length,.map none],99,(0,0)) := hEa9.blk_some hb8 id
  have hg9 := hg8.ext (Rep1_lay _ _ fun _ => RepS_lay true d _) hEa9
  simp (maxSteps:=1000000)(disch:=(first|omega|(simp only [qI,qJ,qK]<;>omega)|exact qL _)) only [go_sem,↓reduceIte,n0,reduceCtorEq,n1,n2,n3,n4,n5,i0,i1,i2,i3,i4,i5,i6,i7,hb9,htb9]
  repeat ((first | refine qA rfl ?_|refine qB ?_|refine qC rfl ?_|refine qD ?_|refine qE ?_|refine qF ?_|refine qG ?_|refine qH ?_);try simp (maxSteps:=1000000)(disch:=(first|omega|(simp only [qI,qJ,qK]<;>omega)|exact qL _)) only [go_sem,↓reduceIte,n0,reduceCtorEq,n1,n2,n3,n4,n5,i0,i1,i2,i3,i4,i5,i6,i7,hb9,htb9])
  have hVb2 : Upd (fun b => b = (w.heap.size + 2)) w7 w9 := hV8.trans hV9
  have hUb2 := hU7
  have hvlB2 : (w.heap.size + 2) < w7.heap.size := Nat.lt_of_lt_of_le hvl1 hszB2
  have hszL2 : w7.heap.size ≤ w9.heap.size := hVb2.size
  refine W.exitJ 0 (fun ρ w' => ∃ v,ρ 1 = .pointer (some ⟨w.heap.size,0,none⟩) ∧ ρ 2 = .pointer (some ⟨w.heap.size + 1,0,none⟩) ∧ ρ 3 = .pointer (some ⟨(w.heap.size + 2),0,none⟩) ∧ blk w' (w.heap.size + 2) = some (#[.int .i64 (t.at 0).n,.int .i64 (t.at 1).n,v,.map none],99,(0,0)) ∧ GrowR (Rep1 (RepS true d) fX0_2.of fX0_2.sub) 1 (OkF okT w.heap.size w1.heap.size) w7.heap.size (w.heap.size + 2) w' 53 v (t.at 2).l ∧ v ≠ .slice none 0 0 ∧ Upd (fun b => b = (w.heap.size + 2) ∨ w7.heap.size ≤ b) w9 w')
    (W.loop (fun ρ w' => ∃ (j : Nat) (v : Value),j ≤ (t.at 2).l.length ∧ ρ 30 = .int .i64 j ∧ ρ 29 = .int .i64 (t.at 2).l.length ∧ ρ 28 = .slice bLa9 (t.at 2).l.length cLa9 ∧ ρ 1 = .pointer (some ⟨w.heap.size,0,none⟩) ∧ ρ 2 = .pointer (some ⟨w.heap.size + 1,0,none⟩) ∧ ρ 3 = .pointer (some ⟨(w.heap.size + 2),0,none⟩) ∧ blk w' (w.heap.size + 2) = some (#[.int .i64 (t.at 0).n,.int .i64 (t.at 1).n,v,.map none],99,(0,0)) ∧ GrowR (Rep1 (RepS true d) fX0_2.of fX0_2.sub) 1 (OkF okT w.heap.size w1.heap.size) w7.heap.size (w.heap.size + 2) w' 53 v ((t.at 2).l.take j) ∧ v ≠ .slice none 0 0 ∧ Upd (fun b => b = (w.heap.size + 2) ∨ w7.heap.size ≤ b) w9 w')
      (fun ρ _ => (t.at 2).l.length - (RowKit.intOf (ρ 30)).toNat) ?_ ?_) ?_
  · refine ⟨0,_,Nat.zero_le _,?_,?_,?_,?_,?_,?_,hb9,hg9,(by intro h;cases h),Upd.refl _ _⟩ <;> simp (maxSteps:=1000000)(disch:=(first|omega|(simp only [qI,qJ,qK]<;>omega)|exact qL _)) only [go_sem,↓reduceIte,n0,reduceCtorEq,n1,n2,n3,n4,n5,i0,i1,i2,i3,i4,i5,i6,i7]
    all_goals rfl
  · rintro ρ w_6 ⟨j,v,hj,hI,hN,hS,hr1,hr2,hr3,hbv,hg,hnil,hU_6⟩
    have hz_6 := hU_6.size
    have hJ_6 : Upd (fun b => b = (w.heap.size + 2)) w7 w_6 := hVb2.more hU_6 fun b hb h => h.elim id fun h => absurd h (by omega)
    have hU_16 : Upd (fun b => b = (w.heap.size + 2)) w1 w_6 := hUb2.trans hJ_6
    have hht_6 := hU_16.blk_some htb1 htv
    have hLt_6 := hLa9.keep (hU_6.keeps fun b _ hk e => e.elim (hoS b hk) fun e => by have := hk.2;omega)
    by_cases hlt : j < (t.at 2).l.length
    · obtain ⟨_,b,o,x,vS',vL',vU',hb,hokb,hx,hblt,hxs,hxe,q1,q2,q3,hc⟩ := TreesV.get hLt_6 hlt
      subst hb
      have hbS := (TreeC.inv hc)
      have hcat : (t.at 2).l.take (j + 1) = (t.at 2).l.take j ++ [(t.at 2).l[j]] := List.take_succ_eq_append_getElem hlt
      have hlen_9 : ((t.at 2).l.take j).length = j := by simp;omega
      have hgx := (g2.list rfl).2 _ (List.getElem_mem hlt)
      have hLx := (hLs.at 2).get hlt
      have hnb : ∀ b,b < w7.heap.size ∨ b = w_6.heap.size → ¬ ownB v b := fun b hb h => by
        have := hg.above h
        have := hg.below h
        omega
      generalize (t.at 2).l[j] = y at *
      obtain ⟨vSy,vLy,vUy,hcells,hny,hSy,hLy,hUy⟩ := hbS
      simp only [List.cons.injEq,true_and,and_true] at hcells
      obtain ⟨rfl,rfl,rfl⟩ := hcells
      obtain ⟨bSy,cSy,rfl,hcSy⟩ := hSy.shape
      repeat ((first | refine qA rfl ?_|refine qB ?_|refine qC rfl ?_|refine qD ?_|refine qE ?_|refine qF ?_|refine qG ?_|refine qH ?_);try simp (maxSteps:=1000000)(disch:=(first|omega|(simp only [qI,qJ,qK]<;>omega)|exact qL _)) only [go_sem,↓reduceIte,n0,reduceCtorEq,n1,n2,n3,n4,n5,i0,i1,i2,i3,i4,i5,i6,i7,hI,hN,hS,hx,hxe,q1,q2,q3,cellsAt_five,Int.toNat_natCast])
      generalize hw_7 : (wr (w_6.alloc (.cells #[.int .i64 0,.slice none 0 0,.bool false,.slice none 0 0,.slice none 0 0] 39)) w_6.heap.size 0 [.int .i64 y.n,.slice bSy y.s.length cSy,.bool y.null,vL',vU']) = w_7
      have hE_7 : Ext w_6 w_7 := by rw [← hw_7];exact (Upd.alloc (Upd.refl _ _) _).wr _ _ (.inl (Nat.le_refl _))
      have hb_7 : blk w_7 w_6.heap.size = some (#[.int .i64 y.n,.slice bSy y.s.length cSy,.bool y.null,vL',vU'],39,(0,0)) := by rw [← hw_7];simp (maxSteps:=1000000)(disch:=(first|omega|(simp only [qI,qJ,qK]<;>omega)|exact qL _)) only [go_sem,↓reduceIte,n0,reduceCtorEq,n1,n2,n3,n4,n5,i0,i1,i2,i3,i4,i5,i6,i7]
      have hz_7 : w_7.heap.size = w_6.heap.size + 1 := by rw [← hw_7];simp only [size_wr,World.size_alloc]
      have hbt_7 := hE_7.blk_some hbv id
      have hgv_7 := hE_7.blk_some hht_6 id
      have hc_7 := hc.keep (hE_7.keeps _)
      have hS_7 := hSy.keep (hE_7.keeps _)
      have hg_7 := hg.ext (Rep1_lay _ _ fun _ => RepS_lay true d _) hE_7
      clear hw_7
      simp (maxSteps:=1000000)(disch:=(first|omega|(simp only [qI,qJ,qK]<;>omega)|exact qL _)) only [go_sem,↓reduceIte,n0,reduceCtorEq,n1,n2,n3,n4,n5,i0,i1,i2,i3,i4,i5,i6,i7,hr1,hr2,hr3,hbt_7,hb_7,hgv_7,cellsAt_five]
      have hE_7d : Ext w_7 w_7 := Upd.refl _ _
      have hg_7d := hg_7
      have hzd : w_7.heap.size = w_7.heap.size := rfl
      have hbt_7d := hbt_7
      have hM_9 : Upd (ownB v) w_7 (w_7.alloc (.cells #[.int .i8 (IntKind.i8.wrap y.n)] 53)) := (Upd.refl _ _).alloc _
      have hE_79 : Ext w_7 (w_7.alloc (.cells #[.int .i8 (IntKind.i8.wrap y.n)] 53)) := Upd.alloc (Upd.refl _ _) _
      have hg_9 := hg_7d.ext (Rep1_lay _ _ fun _ => RepS_lay true d _) hE_79
      have hx_9 : Rep1 (RepS true d) fX0_2.of fX0_2.sub (fun b => (OkF okT w.heap.size w1.heap.size) b ∧ b ≠ (w.heap.size + 2) ∧ ¬ ownB v b) (w_7.alloc (.cells #[.int .i8 (IntKind.i8.wrap y.n)] 53)) y [.int .i8 (IntKind.i8.wrap y.n)] := (Rep1_num (by decide)).2 rfl
      obtain ⟨css,hown,hall⟩ := hg_9.ex
      have hcl_9 := hall.1
      refine wp_append ap_97_97 (m := 1) (news := [.int .i8 (IntKind.i8.wrap y.n)]) (n := css.length) (cs := css.flatten) (v := v) ?_ rfl hown.1 (all2_flat_R (Rep1_lay _ _ fun _ => RepS_lay true d _) hall) (Src.blk (fr := (0,0)) (T := 53) (blk_alloc_new (by first | rfl | omega | (simp only [size_drew];omega))) rfl rfl) ?_ ?_ ?_
      · simp (maxSteps:=1000000)(disch:=(first|omega|(simp only [qI,qJ,qK]<;>omega)|exact qL _)) only [go_sem,↓reduceIte,n0,reduceCtorEq,n1,n2,n3,n4,n5,i0,i1,i2,i3,i4,i5,i6,i7]
      · simp only [World.size_alloc,size_drew];omega
      · omega
      intro v' w_10 ho hu hfr
      have hg_10 := GrowR.snoc (Rep1_lay _ _ fun _ => RepS_lay true d _) hown hall hx_9 hu hfr ho
      have hz_10 := hu.size
      simp only [World.size_alloc,size_drew] at hz_10
      obtain ⟨va,vc,hv',_⟩ := ho.shape
      subst hv'
      have hbt_10 := (hM_9.trans hu).blk_some hbt_7d (hnb _ (.inl hvlB2))
      have htb' : ¬ ownB (.slice va (css.length + 1) vc) (w.heap.size + 2) := fun h => by
        rcases hfr _ h with h | h
        · exact hnb _ (.inl hvlB2) h
        · simp only [World.size_alloc,size_drew] at h;omega
      simp (maxSteps:=1000000)(disch:=(first|omega|(simp only [qI,qJ,qK]<;>omega)|exact qL _)) only [go_sem,↓reduceIte,n0,reduceCtorEq,n1,n2,n3,n4,n5,i0,i1,i2,i3,i4,i5,i6,i7,hr1,hr2,hr3,hbt_10]
      repeat ((first | refine qA rfl ?_|refine qB ?_|refine qC rfl ?_|refine qD ?_|refine qE ?_|refine qF ?_|refine qG ?_|refine qH ?_);try simp (maxSteps:=1000000)(disch:=(first|omega|(simp only [qI,qJ,qK]<;>omega)|exact qL _)) only [go_sem,↓reduceIte,n0,reduceCtorEq,n1,n2,n3,n4,n5,i0,i1,i2,i3,i4,i5,i6,i7,hI])
      refine ⟨⟨j + 1,.slice va (css.length + 1) vc,by omega,rfl,hN,hS,hr1,hr2,hr3,?_,?_,?_,?_⟩,?_⟩
      · simp (maxSteps:=1000000)(disch:=(first|omega|(simp only [qI,qJ,qK]<;>omega)|exact qL _)) only [go_sem,↓reduceIte,n0,reduceCtorEq,n1,n2,n3,n4,n5,i0,i1,i2,i3,i4,i5,i6,i7,hbt_10]
      · rw [hcat];exact hg_10.upd (Rep1_lay _ _ fun _ => RepS_lay true d _) ((Upd.refl _ _).wr _ _ (.inr rfl)) htb'
      · intro h;cases h
      · refine Upd.wr ?_ _ _ (.inr (.inl rfl))
        exact hU_6.more (((hE_7.mono fun _ h => h.elim).trans (hE_7d.mono fun _ h => h.elim)).trans (hM_9.trans hu)) fun b hb h => .inr (hg.above h)
      · simp only [RowKit.intOf];omega
    · have hjl : j = (t.at 2).l.length := by omega
      subst hjl
      rw [List.take_length] at hg
      repeat ((first | refine qA rfl ?_|refine qB ?_|refine qC rfl ?_|refine qD ?_|refine qE ?_|refine qF ?_|refine qG ?_|refine qH ?_);try simp (maxSteps:=1000000)(disch:=(first|omega|(simp only [qI,qJ,qK]<;>omega)|exact qL _)) only [go_sem,↓reduceIte,n0,reduceCtorEq,n1,n2,n3,n4,n5,i0,i1,i2,i3,i4,i5,i6,i7,hI,hN])
      exact ⟨v,hr1,hr2,hr3,hbv,hg,hnil,hU_6⟩
  · rintro ρ w10 ⟨v2,hr1,hr2,hr3,hb10,hg10,hnil2,hK10⟩
    have hV10 : Upd (fun b => b = (w.heap.size + 2)) w7 w10 := hVb2.more hK10 fun b hb h => h.elim id fun h => absurd h (by omega)
    have hU10 : Upd (fun b => b = (w.heap.size + 2)) w1 w10 := hU7.trans hV10
    have htb10 := hU10.blk_some htb1 htv
    have hvl10 : (w.heap.size + 2) < w10.heap.size := Nat.lt_of_lt_of_le hvl1 hU10.size
    have hsz10 := hU10.size
    clear hvl9 hsz9
    obtain ⟨al2,kl2,rfl,_⟩ := hg10.shape
    have hf2 : RepF (RepS true d) (szS true d) fX0_2 (OkF okT w.heap.size w1.heap.size) w10 (t.at 2) [.slice al2 (t.at 2).l.length kl2] := (RepF_list rfl hn0_2).2 ⟨_,rfl,hg10.sl (Rep1_lay _ _ fun _ => RepS_lay true d _) (fun _ _ h => h) (fun b hb => .inr (by omega)),hg10.some hnil2⟩
    repeat ((first | refine qA rfl ?_|refine qB ?_|refine qC rfl ?_|refine qD ?_|refine qE ?_|refine qF ?_|refine qG ?_|refine qH ?_);try simp (maxSteps:=1000000)(disch:=(first|omega|(simp only [qI,qJ,qK]<;>omega)|exact qL _)) only [go_sem,↓reduceIte,n0,reduceCtorEq,n1,n2,n3,n4,n5,i0,i1,i2,i3,i4,i5,i6,i7,hb10,htb10,hr1,hr2,hr3])
    have hUv := hU1v.keep (hU10.keeps fun b _ hk e => hoS b hk e)
    refine W.loop (fun ρ w' => ∃ (j : Nat) (q : Option Nat),j ≤ t.u.length ∧ ρ 46 = .int .i64 j ∧ ρ 45 = .int .i64 t.u.length ∧ ρ 44 = .slice bU t.u.length cU ∧ ρ 1 = .pointer (some ⟨w.heap.size,0,none⟩) ∧ ρ 2 = .pointer (some ⟨w.heap.size + 1,0,none⟩) ∧ ρ 3 = .pointer (some ⟨(w.heap.size + 2),0,none⟩) ∧ blk w' (w.heap.size + 2) = some (#[.int .i64 (t.at 0).n,.int .i64 (t.at 1).n,.slice al2 (t.at 2).l.length kl2,.map q],99,(0,0)) ∧ TagsG (OkS okT w.heap.size) w10.heap.size w' (.map q) (t.u.take j) ∧ Upd (fun b => b = (w.heap.size + 2)) w10 w')
        (fun ρ _ => t.u.length - (RowKit.intOf (ρ 46)).toNat) ?_ ?_
    · refine ⟨0,none,Nat.zero_le _,?_,?_,?_,?_,?_,?_,hb10,TagsG.start _ _ _,Upd.refl _ _⟩ <;> simp (maxSteps:=1000000)(disch:=(first|omega|(simp only [qI,qJ,qK]<;>omega)|exact qL _)) only [go_sem,↓reduceIte,n0,reduceCtorEq,n1,n2,n3,n4,n5,i0,i1,i2,i3,i4,i5,i6,i7,hr1,hr2,hr3]
      all_goals rfl
    · rintro ρ w_6 ⟨j,q,hj,hI,hN,hS,hr1,hr2,hr3,hbv,hG,hU_6⟩
      have hz_6 := hU_6.size
      have hUv_6 := hUv.keep (hU_6.keeps fun b _ hk e => hoS b hk e)
      have hU_16 : Upd (fun b => b = (w.heap.size + 2)) w1 w_6 := hU10.trans hU_6
      have hz_16 := hU_16.size
      by_cases hlt : j < t.u.length
      · obtain ⟨_,b,o,x,vv,hb,hokb,hx,hblt,hxs,hxe,_,_,hfv,hbvv,h32⟩ := TagsV.get hUv_6 hlt
        subst hb
        have hcat : t.u.take (j + 1) = t.u.take j ++ [t.u[j]] := List.take_succ_eq_append_getElem hlt
        have hnew : ∀ z ∈ t.u.take j,z.1 ≠ t.u[j].1 := by
          intro z hz
          obtain ⟨k,hk,rfl⟩ := List.getElem_of_mem hz
          simp only [List.length_take] at hk
          have := List.pairwise_iff_getElem.1 hfu.2.2 k j (by omega) hlt (by omega)
          rw [List.getElem_take];omega
        generalize t.u[j] = y at *
        obtain ⟨bSy,cSy,rfl,hcSy⟩ := hbvv.shape
        repeat ((first | refine qA rfl ?_|refine qB ?_|refine qC rfl ?_|refine qD ?_|refine qE ?_|refine qF ?_|refine qG ?_|refine qH ?_);try simp (maxSteps:=1000000)(disch:=(first|omega|(simp only [qI,qJ,qK]<;>omega)|exact qL _)) only [go_sem,↓reduceIte,n0,reduceCtorEq,n1,n2,n3,n4,n5,i0,i1,i2,i3,i4,i5,i6,i7,hI,hN,hS,hx,hxe,hfv,cellsAt_two,Int.toNat_natCast])
        generalize hw_7 : (wr (w_6.alloc (.cells #[.int .u32 0,.slice none 0 0] 67)) w_6.heap.size 0 [.int .u32 y.1,.slice bSy y.2.length cSy]) = w_7
        have hE_7 : Ext w_6 w_7 := by rw [← hw_7];exact (Upd.alloc (Upd.refl _ _) _).wr _ _ (.inl (Nat.le_refl _))
        have hb_7 : blk w_7 w_6.heap.size = some (#[.int .u32 y.1,.slice bSy y.2.length cSy],67,(0,0)) := by rw [← hw_7];simp (maxSteps:=1000000)(disch:=(first|omega|(simp only [qI,qJ,qK]<;>omega)|exact qL _)) only [go_sem,↓reduceIte,n0,reduceCtorEq,n1,n2,n3,n4,n5,i0,i1,i2,i3,i4,i5,i6,i7]
        have hz_7 : w_7.heap.size = w_6.heap.size + 1 := by rw [← hw_7];simp only [size_wr,World.size_alloc]
        clear hw_7
        have hbt_7 := hE_7.blk_some hbv id
        simp (maxSteps:=1000000)(disch:=(first|omega|(simp only [qI,qJ,qK]<;>omega)|exact qL _)) only [go_sem,↓reduceIte,n0,reduceCtorEq,n1,n2,n3,n4,n5,i0,i1,i2,i3,i4,i5,i6,i7,hr1,hr2,hr3,hbt_7,hb_7,cellsAt_two]
        have hE_7d : Ext w_7 w_7 := Upd.refl _ _
        have hE_6d : Ext w_6 w_7 := hE_7.trans hE_7d
        have hG_7 : TagsG (OkS okT w.heap.size) w10.heap.size w_7 (.map q) (t.u.take j) := hG.keep fun b hb _ => hE_6d.keep b hb id
        have hbt_8 := hE_7d.blk_some hbt_7 id
        have hm_8 : (#[.int .i64 (t.at 0).n,.int .i64 (t.at 1).n,.slice al2 (t.at 2).l.length kl2,.map q] : Array Value)[3]? = some (.map q) := rfl
        refine (TagsSet_fn (okT := (OkS okT w.heap.size)) (L := w10.heap.size) w_7 hG_7 (by have := hE_6d.size;omega) (by omega) hbt_8 (o := 3) hm_8 (thaw_00 _ _) y _ ((hbvv.weaken fun b _ hk => ⟨hk,by have := hk.2;omega⟩).keep (hE_6d.keeps _)) h32 hnew hoS).mono ?_
        rintro _ w_8 ⟨m',hb_8,hG_8,hM_8⟩
        simp only [List.setIfInBounds_toArray,List.set_cons_succ,List.set_cons_zero] at hb_8
        repeat ((first | refine qA rfl ?_|refine qB ?_|refine qC rfl ?_|refine qD ?_|refine qE ?_|refine qF ?_|refine qG ?_|refine qH ?_);try simp (maxSteps:=1000000)(disch:=(first|omega|(simp only [qI,qJ,qK]<;>omega)|exact qL _)) only [go_sem,↓reduceIte,n0,reduceCtorEq,n1,n2,n3,n4,n5,i0,i1,i2,i3,i4,i5,i6,i7,hI])
        refine ⟨⟨j + 1,m',by omega,rfl,hN,hS,hr1,hr2,hr3,hb_8,by rw [hcat];exact hG_8,?_⟩,?_⟩
        · exact hU_6.more ((hE_6d.mono fun _ h => h.elim).trans hM_8) fun b hb h => by
            rcases h with h | h
            · exact h
            · cases h;have := (hG.lt rfl).2;omega
        · simp only [RowKit.intOf];omega
      · have hjl : j = t.u.length := by omega
        subst hjl
        rw [List.take_length] at hG
        have hT7 : Upd (fun b => b = (w.heap.size + 2)) w7 w_6 := hV10.trans hU_6
        have hT6 : Upd (fun b => b = (w.heap.size + 2)) w6 w_6 := hV7.trans hT7
        have hT5 : Upd (fun b => b = (w.heap.size + 2)) w5 w_6 := hV6.trans hT6
        have hT4 : Upd (fun b => b = (w.heap.size + 2)) w4 w_6 := hV5.trans hT5
        have hT3 : Upd (fun b => b = (w.heap.size + 2)) w3 w_6 := hV4.trans hT4
        have hT2 : Upd (fun b => b = (w.heap.size + 2)) w2 w_6 := hV3.trans hT3
        have hT1 : Upd (fun b => b = (w.heap.size + 2)) w1 w_6 := hV2.trans hT2
        have hz0_f := hf0.keepS (hT3.keeps fun b _ hk e => hoF b hk e)
        have hz1_f := hf1.keepS (hT5.keeps fun b _ hk e => hoF b hk e)
        have hz2_f := hf2.keepS (hU_6.keeps fun b _ hk e => hoF b hk e)
        have hTg := hG.tags (ok' := (OkF okT w.heap.size w1.heap.size)) (fun b _ hk => .inl hk) (fun b hb => .inr (by omega))
        have hL : RepL (RepS true d) (szS true d) (OkF okT w.heap.size w1.heap.size) w_6 t [fX0_0,fX0_1,fX0_2] 0 [.int .i64 (t.at 0).n,.int .i64 (t.at 1).n,.slice al2 (t.at 2).l.length kl2] := (RepL.cons1 hz0_f (RepL.cons1 hz1_f (RepL.cons1 hz2_f RepL.nil)))
        have hR : RepS true (d + 1) fs_X0 (OkF okT w.heap.size w1.heap.size) w_6 t [.int .i64 (t.at 0).n,.int .i64 (t.at 1).n,.slice al2 (t.at 2).l.length kl2,.map q] := RepS.intro (c := [.int .i64 (t.at 0).n,.int .i64 (t.at 1).n,.slice al2 (t.at 2).l.length kl2]) rfl hL hTg
        have hcA : cellsAt #[.int .i64 (t.at 0).n,.int .i64 (t.at 1).n,.slice al2 (t.at 2).l.length kl2,.map q] 0 4 = some (.agg #[.int .i64 (t.at 0).n,.int .i64 (t.at 1).n,.slice al2 (t.at 2).l.length kl2,.map q]) := cellsAt_full rfl
        have hrb_6 := hT1.blk_some hrb1 (by omega)
        repeat ((first | refine qA rfl ?_|refine qB ?_|refine qC rfl ?_|refine qD ?_|refine qE ?_|refine qF ?_|refine qG ?_|refine qH ?_);try simp (maxSteps:=1000000)(disch:=(first|omega|(simp only [qI,qJ,qK]<;>omega)|exact qL _)) only [go_sem,↓reduceIte,n0,reduceCtorEq,n1,n2,n3,n4,n5,i0,i1,i2,i3,i4,i5,i6,i7,hI,hN,hr1,hr2,hr3,hbv,hrb_6,hcA])
        have hUr : Upd (fun b => b = w.heap.size + 1) w_6 (wr w_6 (w.heap.size + 1) 0 [.int .i64 (t.at 0).n,.int .i64 (t.at 1).n,.slice al2 (t.at 2).l.length kl2,.map q]) := (Upd.refl _ _).wr _ _ (.inr rfl)
        refine ⟨⟨_,rfl,(RepS_lay true (d + 1) fs_X0).weaken ((RepS_lay true (d + 1) fs_X0).keep hR (hUr.keeps fun b _ hk e => hoR b hk e)) (fun b _ hk => hk.imp And.left fun h => by omega)⟩,?_⟩
        exact (hE1.more hT1 fun b hb h => by omega).wr _ _ (.inl (by omega))

set_option maxHeartbeats 2000000 in
theorem makeX2_fn {d : Nat} {okT : Blocks} {V : Int} (t : Tree) (ct : List Value) (w : World) (ht : TreeC okT w t ct) (hfit : FitP V (d + 2) fs_X2 t) (hLs : Lists t) :
    Fn Tryz.prog 55 #[.agg ct.toArray] w fun r w' => (∃ cs,r = .agg cs.toArray ∧ RepS true (d + 2) fs_X2 (okN okT w.heap.size) w' t cs) ∧ Ext w w' := by
  obtain ⟨vS,vL,vU,rfl,hn,hSx,hLx0,hUx⟩ := ht.inv
  obtain ⟨bS,cS,rfl,hcS⟩ := hSx.shape
  obtain ⟨bL,cL,rfl,hcL⟩ := SlR.shape hLx0
  obtain ⟨bU,cU,rfl,hcU⟩ := SlR.shape hUx
  obtain ⟨⟨g0,g1,g2,-⟩,hfu⟩ := hfit
  replace g0 : FitF (FitP V (d + 1)) V fX2_0 (t.at 0) := g0
  replace g1 : FitF (FitP V (d + 1)) V fX2_1 (t.at 1) := g1
  replace g2 : FitF (FitP V (d + 1)) V fX2_2 (t.at 2) := g2
  have hllt : t.l.length < 4611686018427387903 := Nat.lt_of_le_of_lt hLs.len (by decide)
  have hul := hLs.ulen
  refine fn_of_W Tryz.func55 rfl Tryz.results55 Tryz.ntmps55 rfl ?_
  obtain ⟨w1,hw1⟩ : ∃ w1,w1 = (((w.alloc (.cells #[.int .i64 t.n,.slice bS t.s.length cS,.bool t.null,.slice bL t.l.length cL,.slice bU t.u.length cU] 39)).alloc (.cells #[.int .i32 0,.int .i32 0,.slice none 0 0,.map none] 95)).alloc (.cells #[.int .i32 0,.int .i32 0,.slice none 0 0,.map none] 95)) := ⟨_,rfl⟩
  have hE1 : Ext w w1 := by rw [hw1];exact ((Upd.refl _ _).alloc _).alloc _ |>.alloc _
  have hz1 : w1.heap.size = w.heap.size + 3 := by rw [hw1];simp only [World.size_alloc]
  have htb1 : blk w1 w.heap.size = some (#[.int .i64 t.n,.slice bS t.s.length cS,.bool t.null,.slice bL t.l.length cL,.slice bU t.u.length cU],39,(0,0)) := by rw [hw1];simp (maxSteps:=1000000)(disch:=(first|omega|(simp only [qI,qJ,qK]<;>omega)|exact qL _)) only [go_sem,↓reduceIte,n0,reduceCtorEq,n1,n2,n3,n4,n5,i0,i1,i2,i3,i4,i5,i6,i7]
  have hrb1 : blk w1 (w.heap.size + 1) = some (#[.int .i32 0,.int .i32 0,.slice none 0 0,.map none],95,(0,0)) := by rw [hw1];simp (maxSteps:=1000000)(disch:=(first|omega|(simp only [qI,qJ,qK]<;>omega)|exact qL _)) only [go_sem,↓reduceIte,n0,reduceCtorEq,n1,n2,n3,n4,n5,i0,i1,i2,i3,i4,i5,i6,i7]
  have hb1 : blk w1 (w.heap.size + 2) = some (#[.int .i32 0,.int .i32 0,.slice none 0 0,.map none],95,(0,0)) := by rw [hw1];simp (maxSteps:=1000000)(disch:=(first|omega|(simp only [qI,qJ,qK]<;>omega)|exact qL _)) only [go_sem,↓reduceIte,n0,reduceCtorEq,n1,n2,n3,n4,n5,i0,i1,i2,i3,i4,i5,i6,i7]
  have hoS : ∀ b,(OkS okT w.heap.size) b → b ≠ (w.heap.size + 2) := fun b h => by have := h.2;omega
  have hoR : ∀ b,(OkF okT w.heap.size w1.heap.size) b → b ≠ w.heap.size + 1 := fun b h => by
    rcases h with h | h
    · have := h.2;omega
    · omega
  have htv : ¬ w.heap.size = (w.heap.size + 2) := by omega
  have hoF : ∀ b,(OkF okT w.heap.size w1.heap.size) b → b ≠ (w.heap.size + 2) := fun b h => by
    rcases h with h | h
    · exact hoS b h
    · omega
  have hU1 : Upd (fun b => b = (w.heap.size + 2)) w1 w1 := Upd.refl _ _
  have hvl1 := blk_lt hb1
  have hsz1 := Nat.le_refl w1.heap.size
  have ht1 : TreeC (OkS okT w.heap.size) w1 t [.int .i64 t.n,.slice bS t.s.length cS,.bool t.null,.slice bL t.l.length cL,.slice bU t.u.length cU] := (ht.weaken fun b h1 h2 => ⟨h2,h1⟩).keep (hE1.keeps _)
  have hU1v : TagsV (OkS okT w.heap.size) w1 (.slice bU t.u.length cU) t.u := (hUx.weaken fun b h1 h2 => ⟨h2,h1⟩).keep (hE1.keeps _)
  repeat ((first | refine qA rfl ?_|refine qB ?_|refine qC rfl ?_|refine qD ?_|refine qE ?_|refine qF ?_|refine qG ?_|refine qH ?_);try simp (maxSteps:=1000000)(disch:=(first|omega|(simp only [qI,qJ,qK]<;>omega)|exact qL _)) only [go_sem,↓reduceIte,n0,reduceCtorEq,n1,n2,n3,n4,n5,i0,i1,i2,i3,i4,i5,i6,i7])
  rw [← hw1]
  clear hw1
  refine (iat_fn (ok := (OkS okT w.heap.size)) t 0 _ _ (ht1.keep (hU1.keeps fun b _ hk e => hoS b hk e)) (by decide) hllt).mono ?_
  rintro r2 w2 ⟨⟨ca2,rfl,hca2⟩,hEa2⟩
  obtain ⟨vSa2,vLa2,vUa2,rfl,hna2,hSa2,hLa2,hUa2⟩ := hca2.inv
  obtain ⟨bSa2,cSa2,rfl,hcSa2⟩ := hSa2.shape
  obtain ⟨bLa2,cLa2,rfl,hcLa2⟩ := SlR.shape hLa2
  have hfU2 := SlR.flat hUa2
  clear hcSa2 hcLa2 hna2
  have hV2 : Upd (fun b => b = (w.heap.size + 2)) w1 w2 := hEa2.mono fun _ h => h.elim
  have hU2 : Upd (fun b => b = (w.heap.size + 2)) w1 w2 := hU1.trans hV2
  have htb2 := hU2.blk_some htb1 htv
  have hvl2 : (w.heap.size + 2) < w2.heap.size := Nat.lt_of_lt_of_le hvl1 hU2.size
  have hsz2 := hU2.size
  have hb2 : blk w2 (w.heap.size + 2) = some (#[.int .i32 0,.int .i32 0,.slice none 0 0,.map none],95,(0,0)) := hEa2.blk_some hb1 id
  simp (maxSteps:=1000000)(disch:=(first|omega|(simp only [qI,qJ,qK]<;>omega)|exact qL _)) only [go_sem,↓reduceIte,n0,reduceCtorEq,n1,n2,n3,n4,n5,i0,i1,i2,i3,i4,i5,i6,i7,hb2,htb2]
  generalize hw3 : wr w2 (w.heap.size + 2) 0 [.int .i32 (IntKind.i32.wrap (t.at 0).n)] = w3
  have hV3 : Upd (fun b => b = (w.heap.size + 2)) w2 w3 := by rw [← hw3];exact (Upd.refl _ _).wr _ _ (.inr rfl)
  have hb3 : blk w3 (w.heap.size + 2) = some (#[.int .i32 (IntKind.i32.wrap (t.at 0).n),.int .i32 0,.slice none 0 0,.map none],95,(0,0)) := by rw [← hw3,blk_wr_eq,hb2];rfl
  have hU3 : Upd (fun b => b = (w.heap.size + 2)) w1 w3 := hU2.trans hV3
  have htb3 := hU3.blk_some htb1 htv
  have hvl3 : (w.heap.size + 2) < w3.heap.size := Nat.lt_of_lt_of_le hvl1 hU3.size
  have hsz3 := hU3.size
  clear hvl2 hsz2
  clear hw3
  have hf0 : RepF (RepS true (d + 1)) (szS true (d + 1)) fX2_0 (OkF okT w.heap.size w1.heap.size) w3 (t.at 0) [.int .i32 (IntKind.i32.wrap (t.at 0).n)] := (RepF_num (by decide)).2 rfl
  repeat ((first | refine qA rfl ?_|refine qB ?_|refine qC rfl ?_|refine qD ?_|refine qE ?_|refine qF ?_|refine qG ?_|refine qH ?_);try simp (maxSteps:=1000000)(disch:=(first|omega|(simp only [qI,qJ,qK]<;>omega)|exact qL _)) only [go_sem,↓reduceIte,n0,reduceCtorEq,n1,n2,n3,n4,n5,i0,i1,i2,i3,i4,i5,i6,i7,hb3,htb3])
  refine (iat_fn (ok := (OkS okT w.heap.size)) t 1 _ _ (ht1.keep (hU3.keeps fun b _ hk e => hoS b hk e)) (by decide) hllt).mono ?_
  rintro r4 w4 ⟨⟨ca4,rfl,hca4⟩,hEa4⟩
  obtain ⟨vSa4,vLa4,vUa4,rfl,hna4,hSa4,hLa4,hUa4⟩ := hca4.inv
  obtain ⟨bSa4,cSa4,rfl,hcSa4⟩ := hSa4.shape
  obtain ⟨bLa4,cLa4,rfl,hcLa4⟩ := SlR.shape hLa4
  have hfU4 := SlR.flat hUa4
  clear hcSa4 hcLa4 hna4
  have hV4 : Upd (fun b => b = (w.heap.size + 2)) w3 w4 := hEa4.mono fun _ h => h.elim
  have hU4 : Upd (fun b => b = (w.heap.size + 2)) w1 w4 := hU3.trans hV4
  have htb4 := hU4.blk_some htb1 htv
  have hvl4 : (w.heap.size + 2) < w4.heap.size := Nat.lt_of_lt_of_le hvl1 hU4.size
  have hsz4 := hU4.size
  clear hvl3 hsz3
  have hb4 : blk w4 (w.heap.size + 2) = some (#[.int .i32 (IntKind.i32.wrap (t.at 0).n),.int .i32 0,.slice none 0 0,.map none],95,(0,0)) := hEa4.blk_some hb3 id
  simp (maxSteps:=1000000)(disch:=(first|omega|(simp only [qI,qJ,qK]<;>omega)|exact qL _)) only [go_sem,↓reduceIte,n0,reduceCtorEq,n1,n2,n3,n4,n5,i0,i1,i2,i3,i4,i5,i6,i7,hb4,htb4]
  generalize hw5 : wr w4 (w.heap.size + 2) 1 [.int .i32 (IntKind.i32.wrap (t.at 1).n)] = w5
  have hV5 : Upd (fun b => b = (w.heap.size + 2)) w4 w5 := by rw [← hw5];exact (Upd.refl _ _).wr _ _ (.inr rfl)
  have hb5 : blk w5 (w.heap.size + 2) = some (#[.int .i32 (IntKind.i32.wrap (t.at 0).n),.int .i32 (IntKind.i32.wrap (t.at 1).n),.slice none 0 0,.map none],95,(0,0)) := by rw [← hw5,blk_wr_eq,hb4];rfl
  have hU5 : Upd (fun b => b = (w.heap.size + 2)) w1 w5 := hU4.trans hV5
  have htb5 := hU5.blk_some htb1 htv
  have hvl5 : (w.heap.size + 2) < w5.heap.size := Nat.lt_of_lt_of_le hvl1 hU5.size
  have hsz5 := hU5.size
  clear hvl4 hsz4
  clear hw5
  have hf1 : RepF (RepS true (d + 1)) (szS true (d + 1)) fX2_1 (OkF okT w.heap.size w1.heap.size) w5 (t.at 1) [.int .i32 (IntKind.i32.wrap (t.at 1).n)] := (RepF_num (by decide)).2 rfl
  have hn0_2 : (t.at 2).null = false := g2.notnull (by decide)
  have hll2 := (g2.list rfl).1
  repeat ((first | refine qA rfl ?_|refine qB ?_|refine qC rfl ?_|refine qD ?_|refine qE ?_|refine qF ?_|refine qG ?_|refine qH ?_);try simp (maxSteps:=1000000)(disch:=(first|omega|(simp only [qI,qJ,qK]<;>omega)|exact qL _)) only [go_sem,↓reduceIte,n0,reduceCtorEq,n1,n2,n3,n4,n5,i0,i1,i2,i3,i4,i5,i6,i7,hb5,htb5])
  refine (iat_fn (ok := (OkS okT w.heap.size)) t 2 _ _ (ht1.keep (hU5.keeps fun b _ hk e => hoS b hk e)) (by decide) hllt).mono ?_
  rintro r6 w6 ⟨⟨ca6,rfl,hca6⟩,hEa6⟩
  obtain ⟨vSa6,vLa6,vUa6,rfl,hna6,hSa6,hLa6,hUa6⟩ := hca6.inv
  obtain ⟨bSa6,cSa6,rfl,hcSa6⟩ := hSa6.shape
  obtain ⟨bLa6,cLa6,rfl,hcLa6⟩ := SlR.shape hLa6
  have hfU6 := SlR.flat hUa6
  clear hcSa6 hcLa6 hna6
  have hV6 : Upd (fun b => b = (w.heap.size + 2)) w5 w6 := hEa6.mono fun _ h => h.elim
  have hU6 : Upd (fun b => b = (w.heap.size + 2)) w1 w6 := hU5.trans hV6
  have htb6 := hU6.blk_some htb1 htv
  have hvl6 : (w.heap.size + 2) < w6.heap.size := Nat.lt_of_lt_of_le hvl1 hU6.size
  have hsz6 := hU6.size
  clear hvl5 hsz5
  have hb6 : blk w6 (w.heap.size + 2) = some (#[.int .i32 (IntKind.i32.wrap (t.at 0).n),.int .i32 (IntKind.i32.wrap (t.at 1).n),.slice none 0 0,.map none],95,(0,0)) := hEa6.blk_some hb5 id
  simp (maxSteps:=1000000)(disch:=(first|omega|(simp only [qI,qJ,qK]<;>omega)|exact qL _)) only [go_sem,↓reduceIte,n0,reduceCtorEq,n1,n2,n3,n4,n5,i0,i1,i2,i3,i4,i5,i6,i7,hn0_2,hb6,htb6]
  repeat ((first | refine qA rfl ?_|refine qB ?_|refine qC rfl ?_|refine qD ?_|refine qE ?_|refine qF ?_|refine qG ?_|refine qH ?_);try simp (maxSteps:=1000000)(disch:=(first|omega|(simp only [qI,qJ,qK]<;>omega)|exact qL _)) only [go_sem,↓reduceIte,n0,reduceCtorEq,n1,n2,n3,n4,n5,i0,i1,i2,i3,i4,i5,i6,i7,hb6,htb6])
  refine (iat_fn (ok := (OkS okT w.heap.size)) t 2 _ _ (ht1.keep (hU6.keeps fun b _ hk e => hoS b hk e)) (by decide) hllt).mono ?_
  rintro r7 w7 ⟨⟨ca7,rfl,hca7⟩,hEa7⟩
  obtain ⟨vSa7,vLa7,vUa7,rfl,hna7,hSa7,hLa7,hUa7⟩ := hca7.inv
  obtain ⟨bSa7,cSa7,rfl,hcSa7⟩ := hSa7.shape
  obtain ⟨bLa7,cLa7,rfl,hcLa7⟩ := SlR.shape hLa7
  have hfU7 := SlR.flat hUa7
  clear hcSa7 hcLa7 hna7
  have hV7 : Upd (fun b => b = (w.heap.size + 2)) w6 w7 := hEa7.mono fun _ h => h.elim
  have hU7 : Upd (fun b => b = (w.heap.size + 2)) w1 w7 := hU6.trans hV7
  have htb7 := hU7.blk_some htb1 htv
  have hvl7 : (w.heap.size + 2) < w7.heap.size := Nat.lt_of_lt_of_le hvl1 hU7.size
  have hsz7 := hU7.size
  clear hvl6 hsz6
  have hb7 : blk w7 (w.heap.size + 2) = some (#[.int .i32 (IntKind.i32.wrap (t.at 0).n),.int .i32 (IntKind.i32.wrap (t.at 1).n),.slice none 0 0,.map none],95,(0,0)) := hEa7.blk_some hb6 id
  simp (maxSteps:=1000000)(disch:=(first|omega|(simp only [qI,qJ,qK]<;>omega)|exact qL _)) only [go_sem,↓reduceIte,n0,reduceCtorEq,n1,n2,n3,n4,n5,i0,i1,i2,i3,i4,i5,i6,i7,hb7,htb7]
  refine wp_make (T := 93) (E := 99) (size := 4) (bytes := 48) (z := (.agg #[.int .i64 0,.int .i64 0,.slice none 0 0,.map none])) (l := 0) (c := (t.at 2).l.length) (kl := .i64) (kc := .i64) (by kernel_rfl) (by kernel_rfl) (by simp (maxSteps:=1000000)(disch:=(first|omega|(simp only [qI,qJ,qK]<;>omega)|exact qL _)) only [go_sem,↓reduceIte,n0,reduceCtorEq,n1,n2,n3,n4,n5,i0,i1,i2,i3,i4,i5,i6,i7];rfl) (by simp (maxSteps:=1000000)(disch:=(first|omega|(simp only [qI,qJ,qK]<;>omega)|exact qL _)) only [go_sem,↓reduceIte,n0,reduceCtorEq,n1,n2,n3,n4,n5,i0,i1,i2,i3,i4,i5,i6,i7]) (by omega) (by omega) (by omega) ?_
  simp (maxSteps:=1000000)(disch:=(first|omega|(simp only [qI,qJ,qK]<;>omega)|exact qL _)) only [go_sem,↓reduceIte,n0,reduceCtorEq,n1,n2,n3,n4,n5,i0,i1,i2,i3,i4,i5,i6,i7,hb7,hvl7,htb7]
  have hszB2 := hsz7
  generalize hw8 : wr (w7.alloc (.cells (madeCells #[.int .i64 0,.int .i64 0,.slice none 0 0,.map none] ((t.at 2).l.length * 4)) 99)) (w.heap.size + 2) 2 [.slice (some ⟨w7.heap.size,0,none⟩) 0 (t.at 2).l.length] = w8
  have hV8 : Upd (fun b => b = (w.heap.size + 2)) w7 w8 := by rw [← hw8];exact ((Upd.refl _ _).alloc _).wr _ _ (.inr rfl)
  have hb8 : blk w8 (w.heap.size + 2) = some (#[.int .i32 (IntKind.i32.wrap (t.at 0).n),.int .i32 (IntKind.i32.wrap (t.at 1).n),.slice (some ⟨w7.heap.size,0,none⟩) 0 (t.at 2).l.length,.map none],95,(0,0)) := by rw [← hw8,blk_wr_eq,blk_alloc_old hvl7,hb7];rfl
  have hrow8 : blk w8 w7.heap.size = some (madeCells #[.int .i64 0,.int .i64 0,.slice none 0 0,.map none] ((t.at 2).l.length * 4),99,(0,0)) := by rw [← hw8,blk_wr_ne (Nat.ne_of_gt hvl7),blk_alloc_new rfl]
  have hg8 : GrowR (Rep1 (RepS true (d + 1)) fX2_2.of fX2_2.sub) 4 (OkF okT w.heap.size w1.heap.size) w7.heap.size (w.heap.size + 2) w8 99 (.slice (some ⟨w7.heap.size,0,none⟩) 0 (t.at 2).l.length) [] := GrowR.made hrow8 (size_madeCells _ _) (Nat.le_refl _)
  have hU8 : Upd (fun b => b = (w.heap.size + 2)) w1 w8 := hU7.trans hV8
  have htb8 := hU8.blk_some htb1 htv
  have hvl8 : (w.heap.size + 2) < w8.heap.size := Nat.lt_of_lt_of_le hvl1 hU8.size
  have hsz8 := hU8.size
  clear hvl7 hsz7
  clear hw8 hrow8
  repeat ((first | refine qA rfl ?_|refine qB ?_|refine qC rfl ?_|refine qD ?_|refine qE ?_|refine qF ?_|refine qG ?_|refine qH ?_);try simp (maxSteps:=1000000)(disch:=(first|omega|(simp only [qI,qJ,qK]<;>omega)|exact qL _)) only [go_sem,↓reduceIte,n0,reduceCtorEq,n1,n2,n3,n4,n5,i0,i1,i2,i3,i4,i5,i6,i7,hb8,htb8])
  refine (iat_fn (ok := (OkS okT w.heap.size)) t 2 _ _ (ht1.keep (hU8.keeps fun b _ hk e => hoS b hk e)) (by decide) hllt).mono ?_
  rintro r9 w9 ⟨⟨ca9,rfl,hca9⟩,hEa9⟩
  obtain ⟨vSa9,vLa9,vUa9,rfl,hna9,hSa9,hLa9,hUa9⟩ := hca9.inv
  obtain ⟨bSa9,cSa9,rfl,hcSa9⟩ := hSa9.shape
  obtain ⟨bLa9,cLa9,rfl,hcLa9⟩ := SlR.shape hLa9
  have hfU9 := SlR.flat hUa9
  clear hcSa9 hcLa9 hna9
  have hV9 : Upd (fun b => b = (w.heap.size + 2)) w8 w9 := hEa9.mono fun _ h => h.elim
  have hU9 : Upd (fun b => b = (w.heap.size + 2)) w1 w9 := hU8.trans hV9
  have htb9 := hU9.blk_some htb1 htv
  have hvl9 : (w.heap.size + 2) < w9.heap.size := Nat.lt_of_lt_of_le hvl1 hU9.size
  have hsz9 := hU9.size
  clear hvl8 hsz8
  have hb9 : blk w9 (w.heap.size + 2) = some (#[.int .i32 (IntKind.i32.wrap (t.at 0).n),.int .i32 (IntKind.i32.wrap (t.at 1).n),.slice (some ⟨w7.heap.size,0,none⟩) 0 (t.at 2).l.length,.map none],95,(0,0)) := hEa9.blk_some hb8 id
  have hg9 := hg8.ext (Rep1_lay _ _ fun _ => RepS_lay true (d + 1) _) hEa9
  simp (maxSteps:=1000000)(disch:=(first|omega|(simp only [qI,qJ,qK]<;>omega)|exact qL _)) only [go_sem,↓reduceIte,n0,reduceCtorEq,n1,n2,n3,n4,n5,i0,i1,i2,i3,i4,i5,i6,i7,hb9,htb9]
  repeat ((first | refine qA rfl ?_|refine qB ?_|refine qC rfl ?_|refine qD ?_|refine qE ?_|refine qF ?_|refine qG ?_|refine qH ?_);try simp (maxSteps:=1000000)(disch:=(first|omega|(simp only [qI,qJ,qK]<;>omega)|exact qL _)) only [go_sem,↓reduceIte,n0,reduceCtorEq,n1,n2,n3,n4,n5,i0,i1,i2,i3,i4,i5,i6,i7,hb9,htb9])
  have hVb2 : Upd (fun b => b = (w.heap.size + 2)) w7 w9 := hV8.trans hV9
  have hUb2 := hU7
  have hvlB2 : (w.heap.size + 2) < w7.heap.size := Nat.lt_of_lt_of_le hvl1 hszB2
  have hszL2 : w7.heap.size ≤ w9.heap.size := hVb2.size
  refine W.exitJ 0 (fun ρ w' => ∃ v,ρ 1 = .pointer (some ⟨w.heap.size,0,none⟩) ∧ ρ 2 = .pointer (some ⟨w.heap.size + 1,0,none⟩) ∧ ρ 3 = .pointer (some ⟨(w.heap.size + 2),0,none⟩) ∧ blk w' (w.heap.size + 2) = some (#[.int .i32 (IntKind.i32.wrap (t.at 0).n),.int .i32 (IntKind.i32.wrap (t.at 1).n),v,.map none],95,(0,0)) ∧ GrowR (Rep1 (RepS true (d + 1)) fX2_2.of fX2_2.sub) 4 (OkF okT w.heap.size w1.heap.size) w7.heap.size (w.heap.size + 2) w' 99 v (t.at 2).l ∧ v ≠ .slice none 0 0 ∧ Upd (fun b => b = (w.heap.size + 2) ∨ w7.heap.size ≤ b) w9 w')
    (W.loop (fun ρ w' => ∃ (j : Nat) (v : Value),j ≤ (t.at 2).l.length ∧ ρ 32 = .int .i64 j ∧ ρ 31 = .int .i64 (t.at 2).l.length ∧ ρ 30 = .slice bLa9 (t.at 2).l.length cLa9 ∧ ρ 1 = .pointer (some ⟨w.heap.size,0,none⟩) ∧ ρ 2 = .pointer (some ⟨w.heap.size + 1,0,none⟩) ∧ ρ 3 = .pointer (some ⟨(w.heap.size + 2),0,none⟩) ∧ blk w' (w.heap.size + 2) = some (#[.int .i32 (IntKind.i32.wrap (t.at 0).n),.int .i32 (IntKind.i32.wrap (t.at 1).n),v,.map none],95,(0,0)) ∧ GrowR (Rep1 (RepS true (d + 1)) fX2_2.of fX2_2.sub) 4 (OkF okT w.heap.size w1.heap.size) w7.heap.size (w.heap.size + 2) w' 99 v ((t.at 2).l.take j) ∧ v ≠ .slice none 0 0 ∧ Upd (fun b => b = (w.heap.size + 2) ∨ w7.heap.size ≤ b) w9 w')
      (fun ρ _ => (t.at 2).l.length - (RowKit.intOf (ρ 32)).toNat) ?_ ?_) ?_
  · refine ⟨0,_,Nat.zero_le _,?_,?_,?_,?_,?_,?_,hb9,hg9,(by intro h;cases h),Upd.refl _ _⟩ <;> simp (maxSteps:=1000000)(disch:=(first|omega|(simp only [qI,qJ,qK]<;>omega)|exact qL _)) only [go_sem,↓reduceIte,n0,reduceCtorEq,n1,n2,n3,n4,n5,i0,i1,i2,i3,i4,i5,i6,i7]
    all_goals rfl
  · rintro ρ w_6 ⟨j,v,hj,hI,hN,hS,hr1,hr2,hr3,hbv,hg,hnil,hU_6⟩
    have hz_6 := hU_6.size
    have hJ_6 : Upd (fun b => b = (w.heap.size + 2)) w7 w_6 := hVb2.more hU_6 fun b hb h => h.elim id fun h => absurd h (by omega)
    have hU_16 : Upd (fun b => b = (w.heap.size + 2)) w1 w_6 := hUb2.trans hJ_6
    have hht_6 := hU_16.blk_some htb1 htv
    have hLt_6 := hLa9.keep (hU_6.keeps fun b _ hk e => e.elim (hoS b hk) fun e => by have := hk.2;omega)
    by_cases hlt : j < (t.at 2).l.length
    · obtain ⟨_,b,o,x,vS',vL',vU',hb,hokb,hx,hblt,hxs,hxe,q1,q2,q3,hc⟩ := TreesV.get hLt_6 hlt
      subst hb
      have hbS := (TreeC.inv hc)
      have hcat : (t.at 2).l.take (j + 1) = (t.at 2).l.take j ++ [(t.at 2).l[j]] := List.take_succ_eq_append_getElem hlt
      have hlen_9 : ((t.at 2).l.take j).length = j := by simp;omega
      have hgx := (g2.list rfl).2 _ (List.getElem_mem hlt)
      have hLx := (hLs.at 2).get hlt
      have hnb : ∀ b,b < w7.heap.size ∨ b = w_6.heap.size → ¬ ownB v b := fun b hb h => by
        have := hg.above h
        have := hg.below h
        omega
      generalize (t.at 2).l[j] = y at *
      obtain ⟨vSy,vLy,vUy,hcells,hny,hSy,hLy,hUy⟩ := hbS
      simp only [List.cons.injEq,true_and,and_true] at hcells
      obtain ⟨rfl,rfl,rfl⟩ := hcells
      obtain ⟨bSy,cSy,rfl,hcSy⟩ := hSy.shape
      repeat ((first | refine qA rfl ?_|refine qB ?_|refine qC rfl ?_|refine qD ?_|refine qE ?_|refine qF ?_|refine qG ?_|refine qH ?_);try simp (maxSteps:=1000000)(disch:=(first|omega|(simp only [qI,qJ,qK]<;>omega)|exact qL _)) only [go_sem,↓reduceIte,n0,reduceCtorEq,n1,n2,n3,n4,n5,i0,i1,i2,i3,i4,i5,i6,i7,hI,hN,hS,hx,hxe,q1,q2,q3,cellsAt_five,Int.toNat_natCast])
      generalize hw_7 : (wr (w_6.alloc (.cells #[.int .i64 0,.slice none 0 0,.bool false,.slice none 0 0,.slice none 0 0] 39)) w_6.heap.size 0 [.int .i64 y.n,.slice bSy y.s.length cSy,.bool y.null,vL',vU']) = w_7
      have hE_7 : Ext w_6 w_7 := by rw [← hw_7];exact (Upd.alloc (Upd.refl _ _) _).wr _ _ (.inl (Nat.le_refl _))
      have hb_7 : blk w_7 w_6.heap.size = some (#[.int .i64 y.n,.slice bSy y.s.length cSy,.bool y.null,vL',vU'],39,(0,0)) := by rw [← hw_7];simp (maxSteps:=1000000)(disch:=(first|omega|(simp only [qI,qJ,qK]<;>omega)|exact qL _)) only [go_sem,↓reduceIte,n0,reduceCtorEq,n1,n2,n3,n4,n5,i0,i1,i2,i3,i4,i5,i6,i7]
      have hz_7 : w_7.heap.size = w_6.heap.size + 1 := by rw [← hw_7];simp only [size_wr,World.size_alloc]
      have hbt_7 := hE_7.blk_some hbv id
      have hgv_7 := hE_7.blk_some hht_6 id
      have hc_7 := hc.keep (hE_7.keeps _)
      have hS_7 := hSy.keep (hE_7.keeps _)
      have hg_7 := hg.ext (Rep1_lay _ _ fun _ => RepS_lay true (d + 1) _) hE_7
      clear hw_7
      refine W.drawR (.take 0 (.take 1 (.take 2 (.only 3 (.only 4 (.only 5 (.take 6 (.last 7)))))))) (ownB v) mixed (by kernel_rfl) ?_
      simp (maxSteps:=1000000)(disch:=(first|omega|(simp only [qI,qJ,qK]<;>omega)|exact qL _ | (refine hnb _ ?_;first | omega | (simp only [World.size_alloc,size_wr,size_drew] <;> omega)))) only [go_sem,↓reduceIte,n0,reduceCtorEq,n1,n2,n3,n4,n5,i0,i1,i2,i3,i4,i5,i6,i7,hr1,hr2,hr3,hbt_7,hb_7,hgv_7,cellsAt_five]
      have hE_7d : Ext w_7 w_7.drew := (Upd.refl _ _).drew
      have hg_7d := hg_7.ext (Rep1_lay _ _ fun _ => RepS_lay true (d + 1) _) hE_7d
      have hzd : w_7.drew.heap.size = w_7.heap.size := size_drew _
      have hbt_7d := hE_7d.blk_some hbt_7 id
      refine (makeX0_fn (d := d) (okT := (OkS okT w.heap.size)) (V := V) y _ w_7.drew (hc_7.keep (hE_7d.keeps _)) (hgx.2.2 rfl) hLx).mono ?_
      rintro r8 w_8 ⟨⟨cs8,rfl,hc_8⟩,hE_8⟩
      obtain ⟨hfl_8,hcl_8⟩ := (RepS_lay true (d + 1) fs_X0).flat hc_8
      obtain ⟨y0,y1,y2,y3,rfl⟩ : ∃ y0 y1 y2 y3,cs8 = [y0,y1,y2,y3] := by
        have hcl_8' : cs8.length = 4 := hcl_8
        match cs8,hcl_8' with
        | [y0,y1,y2,y3],_ => exact ⟨y0,y1,y2,y3,rfl⟩
      simp only [List.all_cons,List.all_nil,Bool.and_true,Bool.and_eq_true] at hfl_8
      obtain ⟨fy0,fy1,fy2,fy3⟩ := hfl_8
      have hz_8 := hE_8.size
      have hM_8 : Upd (ownB v) w_7.drew w_8 := hE_8.mono (fun _ h => h.elim)
      refine ⟨hM_8,?_⟩
      have hE_9 : Ext w_8 (w_8.alloc (.cells #[y0,y1,y2,y3] 99)) := Upd.alloc (Upd.refl _ _) _
      have hM_9 : Upd (ownB v) w_7.drew (w_8.alloc (.cells #[y0,y1,y2,y3] 99)) := hM_8.alloc _
      simp (maxSteps:=1000000)(disch:=(first|omega|(simp only [qI,qJ,qK]<;>omega)|exact qL _)) only [go_sem,↓reduceIte,n0,reduceCtorEq,n1,n2,n3,n4,n5,i0,i1,i2,i3,i4,i5,i6,i7,hr1,hr2,hr3,hbt_7d,fy0,fy1,fy2,fy3]
      refine ⟨hM_9,?_⟩
      have hE_79 : Ext w_7.drew (w_8.alloc (.cells #[y0,y1,y2,y3] 99)) := hE_8.trans hE_9
      have hg_9 := (hg_7d.ext (Rep1_lay _ _ fun _ => RepS_lay true (d + 1) _) hE_8).ext (Rep1_lay _ _ fun _ => RepS_lay true (d + 1) _) hE_9
      have hx_9 : Rep1 (RepS true (d + 1)) fX2_2.of fX2_2.sub (fun b => (OkF okT w.heap.size w1.heap.size) b ∧ b ≠ (w.heap.size + 2) ∧ ¬ ownB v b) (w_8.alloc (.cells #[y0,y1,y2,y3] 99)) y [y0,y1,y2,y3] :=
        Rep1_part.2 (((RepS_lay true (d + 1) fs_X0).keep hc_8 (hE_9.keeps _)) |> fun h => (RepS_lay true (d + 1) fs_X0).weaken h fun b _ hk => by
          rcases hk with hk | hk
          · exact ⟨.inl hk,hoS b hk,fun h => by have := hg.above h;have := hk.2;omega⟩
          · exact ⟨.inr (by omega),by omega,fun h => by have := hg.below h;omega⟩)
      obtain ⟨css,hown,hall⟩ := hg_9.ex
      have hcl_9 := hall.1
      refine wp_append ap_93_93 (m := 1) (news := [y0,y1,y2,y3]) (n := css.length) (cs := css.flatten) (v := v) ?_ rfl hown.1 (all2_flat_R (Rep1_lay _ _ fun _ => RepS_lay true (d + 1) _) hall) (Src.blk (fr := (0,0)) (T := 99) (blk_alloc_new (by first | rfl | omega | (simp only [size_drew];omega))) rfl (by simp only [List.all_cons,List.all_nil,Bool.and_true,Bool.and_eq_true];exact ⟨fy0,fy1,fy2,fy3⟩)) ?_ ?_ ?_
      · simp (maxSteps:=1000000)(disch:=(first|omega|(simp only [qI,qJ,qK]<;>omega)|exact qL _)) only [go_sem,↓reduceIte,n0,reduceCtorEq,n1,n2,n3,n4,n5,i0,i1,i2,i3,i4,i5,i6,i7]
      · simp only [World.size_alloc,size_drew];omega
      · omega
      intro v' w_10 ho hu hfr
      have hg_10 := GrowR.snoc (Rep1_lay _ _ fun _ => RepS_lay true (d + 1) _) hown hall hx_9 hu hfr ho
      have hz_10 := hu.size
      simp only [World.size_alloc,size_drew] at hz_10
      obtain ⟨va,vc,hv',_⟩ := ho.shape
      subst hv'
      have hbt_10 := (hM_9.trans hu).blk_some hbt_7d (hnb _ (.inl hvlB2))
      have htb' : ¬ ownB (.slice va (css.length + 1) vc) (w.heap.size + 2) := fun h => by
        rcases hfr _ h with h | h
        · exact hnb _ (.inl hvlB2) h
        · simp only [World.size_alloc,size_drew] at h;omega
      simp (maxSteps:=1000000)(disch:=(first|omega|(simp only [qI,qJ,qK]<;>omega)|exact qL _)) only [go_sem,↓reduceIte,n0,reduceCtorEq,n1,n2,n3,n4,n5,i0,i1,i2,i3,i4,i5,i6,i7]
      refine ⟨hM_9.trans hu,?_⟩
      simp (maxSteps:=1000000)(disch:=(first|omega|(simp only [qI,qJ,qK]<;>omega)|exact qL _)) only [go_sem,↓reduceIte,n0,reduceCtorEq,n1,n2,n3,n4,n5,i0,i1,i2,i3,i4,i5,i6,i7,hr1,hr2,hr3,hbt_10]
      repeat ((first | refine qA rfl ?_|refine qB ?_|refine qC rfl ?_|refine qD ?_|refine qE ?_|refine qF ?_|refine qG ?_|refine qH ?_);try simp (maxSteps:=1000000)(disch:=(first|omega|(simp only [qI,qJ,qK]<;>omega)|exact qL _)) only [go_sem,↓reduceIte,n0,reduceCtorEq,n1,n2,n3,n4,n5,i0,i1,i2,i3,i4,i5,i6,i7,hI])
      refine ⟨⟨j + 1,.slice va (css.length + 1) vc,by omega,rfl,hN,hS,hr1,hr2,hr3,?_,?_,?_,?_⟩,?_⟩
      · simp (maxSteps:=1000000)(disch:=(first|omega|(simp only [qI,qJ,qK]<;>omega)|exact qL _)) only [go_sem,↓reduceIte,n0,reduceCtorEq,n1,n2,n3,n4,n5,i0,i1,i2,i3,i4,i5,i6,i7,hbt_10]
      · rw [hcat];exact hg_10.upd (Rep1_lay _ _ fun _ => RepS_lay true (d + 1) _) ((Upd.refl _ _).wr _ _ (.inr rfl)) htb'
      · intro h;cases h
      · refine Upd.wr ?_ _ _ (.inr (.inl rfl))
        exact hU_6.more (((hE_7.mono fun _ h => h.elim).trans (hE_7d.mono fun _ h => h.elim)).trans (hM_9.trans hu)) fun b hb h => .inr (hg.above h)
      · simp only [RowKit.intOf];omega
    · have hjl : j = (t.at 2).l.length := by omega
      subst hjl
      rw [List.take_length] at hg
      repeat ((first | refine qA rfl ?_|refine qB ?_|refine qC rfl ?_|refine qD ?_|refine qE ?_|refine qF ?_|refine qG ?_|refine qH ?_);try simp (maxSteps:=1000000)(disch:=(first|omega|(simp only [qI,qJ,qK]<;>omega)|exact qL _)) only [go_sem,↓reduceIte,n0,reduceCtorEq,n1,n2,n3,n4,n5,i0,i1,i2,i3,i4,i5,i6,i7,hI,hN])
      exact ⟨v,hr1,hr2,hr3,hbv,hg,hnil,hU_6⟩
  · rintro ρ w10 ⟨v2,hr1,hr2,hr3,hb10,hg10,hnil2,hK10⟩
    have hV10 : Upd (fun b => b = (w.heap.size + 2)) w7 w10 := hVb2.more hK10 fun b hb h => h.elim id fun h => absurd h (by omega)
    have hU10 : Upd (fun b => b = (w.heap.size + 2)) w1 w10 := hU7.trans hV10
    have htb10 := hU10.blk_some htb1 htv
    have hvl10 : (w.heap.size + 2) < w10.heap.size := Nat.lt_of_lt_of_le hvl1 hU10.size
    have hsz10 := hU10.size
    clear hvl9 hsz9
    obtain ⟨al2,kl2,rfl,_⟩ := hg10.shape
    have hf2 : RepF (RepS true (d + 1)) (szS true (d + 1)) fX2_2 (OkF okT w.heap.size w1.heap.size) w10 (t.at 2) [.slice al2 (t.at 2).l.length kl2] := (RepF_list rfl hn0_2).2 ⟨_,rfl,hg10.sl (Rep1_lay _ _ fun _ => RepS_lay true (d + 1) _) (fun _ _ h => h) (fun b hb => .inr (by omega)),hg10.some hnil2⟩
    repeat ((first | refine qA rfl ?_|refine qB ?_|refine qC rfl ?_|refine qD ?_|refine qE ?_|refine qF ?_|refine qG ?_|refine qH ?_);try simp (maxSteps:=1000000)(disch:=(first|omega|(simp only [qI,qJ,qK]<;>omega)|exact qL _)) only [go_sem,↓reduceIte,n0,reduceCtorEq,n1,n2,n3,n4,n5,i0,i1,i2,i3,i4,i5,i6,i7,hb10,htb10,hr1,hr2,hr3])
    have hUv := hU1v.keep (hU10.keeps fun b _ hk e => hoS b hk e)
    refine W.loop (fun ρ w' => ∃ (j : Nat) (q : Option Nat),j ≤ t.u.length ∧ ρ 47 = .int .i64 j ∧ ρ 46 = .int .i64 t.u.length ∧ ρ 45 = .slice bU t.u.length cU ∧ ρ 1 = .pointer (some ⟨w.heap.size,0,none⟩) ∧ ρ 2 = .pointer (some ⟨w.heap.size + 1,0,none⟩) ∧ ρ 3 = .pointer (some ⟨(w.heap.size + 2),0,none⟩) ∧ blk w' (w.heap.size + 2) = some (#[.int .i32 (IntKind.i32.wrap (t.at 0).n),.int .i32 (IntKind.i32.wrap (t.at 1).n),.slice al2 (t.at 2).l.length kl2,.map q],95,(0,0)) ∧ TagsG (OkS okT w.heap.size) w10.heap.size w' (.map q) (t.u.take j) ∧ Upd (fun b => b = (w.heap.size + 2)) w10 w')
        (fun ρ _ => t.u.length - (RowKit.intOf (ρ 47)).toNat) ?_ ?_
    · refine ⟨0,none,Nat.zero_le _,?_,?_,?_,?_,?_,?_,hb10,TagsG.start _ _ _,Upd.refl _ _⟩ <;> simp (maxSteps:=1000000)(disch:=(first|omega|(simp only [qI,qJ,qK]<;>omega)|exact qL _)) only [go_sem,↓reduceIte,n0,reduceCtorEq,n1,n2,n3,n4,n5,i0,i1,i2,i3,i4,i5,i6,i7,hr1,hr2,hr3]
      all_goals rfl
    · rintro ρ w_6 ⟨j,q,hj,hI,hN,hS,hr1,hr2,hr3,hbv,hG,hU_6⟩
      have hz_6 := hU_6.size
      have hUv_6 := hUv.keep (hU_6.keeps fun b _ hk e => hoS b hk e)
      have hU_16 : Upd (fun b => b = (w.heap.size + 2)) w1 w_6 := hU10.trans hU_6
      have hz_16 := hU_16.size
      by_cases hlt : j < t.u.length
      · obtain ⟨_,b,o,x,vv,hb,hokb,hx,hblt,hxs,hxe,_,_,hfv,hbvv,h32⟩ := TagsV.get hUv_6 hlt
        subst hb
        have hcat : t.u.take (j + 1) = t.u.take j ++ [t.u[j]] := List.take_succ_eq_append_getElem hlt
        have hnew : ∀ z ∈ t.u.take j,z.1 ≠ t.u[j].1 := by
          intro z hz
          obtain ⟨k,hk,rfl⟩ := List.getElem_of_mem hz
          simp only [List.length_take] at hk
          have := List.pairwise_iff_getElem.1 hfu.2.2 k j (by omega) hlt (by omega)
          rw [List.getElem_take];omega
        generalize t.u[j] = y at *
        obtain ⟨bSy,cSy,rfl,hcSy⟩ := hbvv.shape
        repeat ((first | refine qA rfl ?_|refine qB ?_|refine qC rfl ?_|refine qD ?_|refine qE ?_|refine qF ?_|refine qG ?_|refine qH ?_);try simp (maxSteps:=1000000)(disch:=(first|omega|(simp only [qI,qJ,qK]<;>omega)|exact qL _)) only [go_sem,↓reduceIte,n0,reduceCtorEq,n1,n2,n3,n4,n5,i0,i1,i2,i3,i4,i5,i6,i7,hI,hN,hS,hx,hxe,hfv,cellsAt_two,Int.toNat_natCast])
        generalize hw_7 : (wr (w_6.alloc (.cells #[.int .u32 0,.slice none 0 0] 67)) w_6.heap.size 0 [.int .u32 y.1,.slice bSy y.2.length cSy]) = w_7
        have hE_7 : Ext w_6 w_7 := by rw [← hw_7];exact (Upd.alloc (Upd.refl _ _) _).wr _ _ (.inl (Nat.le_refl _))
        have hb_7 : blk w_7 w_6.heap.size = some (#[.int .u32 y.1,.slice bSy y.2.length cSy],67,(0,0)) := by rw [← hw_7];simp (maxSteps:=1000000)(disch:=(first|omega|(simp only [qI,qJ,qK]<;>omega)|exact qL _)) only [go_sem,↓reduceIte,n0,reduceCtorEq,n1,n2,n3,n4,n5,i0,i1,i2,i3,i4,i5,i6,i7]
        have hz_7 : w_7.heap.size = w_6.heap.size + 1 := by rw [← hw_7];simp only [size_wr,World.size_alloc]
        clear hw_7
        have hbt_7 := hE_7.blk_some hbv id
        simp (maxSteps:=1000000)(disch:=(first|omega|(simp only [qI,qJ,qK]<;>omega)|exact qL _)) only [go_sem,↓reduceIte,n0,reduceCtorEq,n1,n2,n3,n4,n5,i0,i1,i2,i3,i4,i5,i6,i7,hr1,hr2,hr3,hbt_7,hb_7,cellsAt_two]
        have hE_7d : Ext w_7 w_7 := Upd.refl _ _
        have hE_6d : Ext w_6 w_7 := hE_7.trans hE_7d
        have hG_7 : TagsG (OkS okT w.heap.size) w10.heap.size w_7 (.map q) (t.u.take j) := hG.keep fun b hb _ => hE_6d.keep b hb id
        have hbt_8 := hE_7d.blk_some hbt_7 id
        have hm_8 : (#[.int .i32 (IntKind.i32.wrap (t.at 0).n),.int .i32 (IntKind.i32.wrap (t.at 1).n),.slice al2 (t.at 2).l.length kl2,.map q] : Array Value)[3]? = some (.map q) := rfl
        refine (TagsSet_fn (okT := (OkS okT w.heap.size)) (L := w10.heap.size) w_7 hG_7 (by have := hE_6d.size;omega) (by omega) hbt_8 (o := 3) hm_8 (thaw_00 _ _) y _ ((hbvv.weaken fun b _ hk => ⟨hk,by have := hk.2;omega⟩).keep (hE_6d.keeps _)) h32 hnew hoS).mono ?_
        rintro _ w_8 ⟨m',hb_8,hG_8,hM_8⟩
        simp only [List.setIfInBounds_toArray,List.set_cons_succ,List.set_cons_zero] at hb_8
        repeat ((first | refine qA rfl ?_|refine qB ?_|refine qC rfl ?_|refine qD ?_|refine qE ?_|refine qF ?_|refine qG ?_|refine qH ?_);try simp (maxSteps:=1000000)(disch:=(first|omega|(simp only [qI,qJ,qK]<;>omega)|exact qL _)) only [go_sem,↓reduceIte,n0,reduceCtorEq,n1,n2,n3,n4,n5,i0,i1,i2,i3,i4,i5,i6,i7,hI])
        refine ⟨⟨j + 1,m',by omega,rfl,hN,hS,hr1,hr2,hr3,hb_8,by rw [hcat];exact hG_8,?_⟩,?_⟩
        · exact hU_6.more ((hE_6d.mono fun _ h => h.elim).trans hM_8) fun b hb h => by
            rcases h with h | h
            · exact h
            · cases h;have := (hG.lt rfl).2;omega
        · simp only [RowKit.intOf];omega
      · have hjl : j = t.u.length := by omega
        subst hjl
        rw [List.take_length] at hG
        have hT7 : Upd (fun b => b = (w.heap.size + 2)) w7 w_6 := hV10.trans hU_6
        have hT6 : Upd (fun b => b = (w.heap.size + 2)) w6 w_6 := hV7.trans hT7
        have hT5 : Upd (fun b => b = (w.heap.size + 2)) w5 w_6 := hV6.trans hT6
        have hT4 : Upd (fun b => b = (w.heap.size + 2)) w4 w_6 := hV5.trans hT5
        have hT3 : Upd (fun b => b = (w.heap.size + 2)) w3 w_6 := hV4.trans hT4
        have hT2 : Upd (fun b => b = (w.heap.size + 2)) w2 w_6 := hV3.trans hT3
        have hT1 : Upd (fun b => b = (w.heap.size + 2)) w1 w_6 := hV2.trans hT2
        have hz0_f := hf0.keepS (hT3.keeps fun b _ hk e => hoF b hk e)
        have hz1_f := hf1.keepS (hT5.keeps fun b _ hk e => hoF b hk e)
        have hz2_f := hf2.keepS (hU_6.keeps fun b _ hk e => hoF b hk e)
        have hTg := hG.tags (ok' := (OkF okT w.heap.size w1.heap.size)) (fun b _ hk => .inl hk) (fun b hb => .inr (by omega))
        have hL : RepL (RepS true (d + 1)) (szS true (d + 1)) (OkF okT w.heap.size w1.heap.size) w_6 t [fX2_0,fX2_1,fX2_2] 0 [.int .i32 (IntKind.i32.wrap (t.at 0).n),.int .i32 (IntKind.i32.wrap (t.at 1).n),.slice al2 (t.at 2).l.length kl2] := (RepL.cons1 hz0_f (RepL.cons1 hz1_f (RepL.cons1 hz2_f RepL.nil)))
        have hR : RepS true (d + 2) fs_X2 (OkF okT w.heap.size w1.heap.size) w_6 t [.int .i32 (IntKind.i32.wrap (t.at 0).n),.int .i32 (IntKind.i32.wrap (t.at 1).n),.slice al2 (t.at 2).l.length kl2,.map q] := RepS.intro (c := [.int .i32 (IntKind.i32.wrap (t.at 0).n),.int .i32 (IntKind.i32.wrap (t.at 1).n),.slice al2 (t.at 2).l.length kl2]) rfl hL hTg
        have hcA : cellsAt #[.int .i32 (IntKind.i32.wrap (t.at 0).n),.int .i32 (IntKind.i32.wrap (t.at 1).n),.slice al2 (t.at 2).l.length kl2,.map q] 0 4 = some (.agg #[.int .i32 (IntKind.i32.wrap (t.at 0).n),.int .i32 (IntKind.i32.wrap (t.at 1).n),.slice al2 (t.at 2).l.length kl2,.map q]) := cellsAt_full rfl
        have hrb_6 := hT1.blk_some hrb1 (by omega)
        repeat ((first | refine qA rfl ?_|refine qB ?_|refine qC rfl ?_|refine qD ?_|refine qE ?_|refine qF ?_|refine qG ?_|refine qH ?_);try simp (maxSteps:=1000000)(disch:=(first|omega|(simp only [qI,qJ,qK]<;>omega)|exact qL _)) only [go_sem,↓reduceIte,n0,reduceCtorEq,n1,n2,n3,n4,n5,i0,i1,i2,i3,i4,i5,i6,i7,hI,hN,hr1,hr2,hr3,hbv,hrb_6,hcA])
        have hUr : Upd (fun b => b = w.heap.size + 1) w_6 (wr w_6 (w.heap.size + 1) 0 [.int .i32 (IntKind.i32.wrap (t.at 0).n),.int .i32 (IntKind.i32.wrap (t.at 1).n),.slice al2 (t.at 2).l.length kl2,.map q]) := (Upd.refl _ _).wr _ _ (.inr rfl)
        refine ⟨⟨_,rfl,(RepS_lay true (d + 2) fs_X2).weaken ((RepS_lay true (d + 2) fs_X2).keep hR (hUr.keeps fun b _ hk e => hoR b hk e)) (fun b _ hk => hk.imp And.left fun h => by omega)⟩,?_⟩
        exact (hE1.more hT1 fun b hb h => by omega).wr _ _ (.inl (by omega))

set_option maxHeartbeats 2000000 in
theorem makeX3_fn {d : Nat} {okT : Blocks} {V : Int} (t : Tree) (ct : List Value) (w : World) (ht : TreeC okT w t ct) (hfit : FitP V (d + 3) fs_X3 t) (hLs : Lists t) :
    Fn Tryz.prog 31 #[.agg ct.toArray] w fun r w' => (∃ cs,r = .agg cs.toArray ∧ RepS true (d + 3) fs_X3 (okN okT w.heap.size) w' t cs) ∧ Ext w w' := by
  obtain ⟨vS,vL,vU,rfl,hn,hSx,hLx0,hUx⟩ := ht.inv
  obtain ⟨bS,cS,rfl,hcS⟩ := hSx.shape
  obtain ⟨bL,cL,rfl,hcL⟩ := SlR.shape hLx0
  obtain ⟨bU,cU,rfl,hcU⟩ := SlR.shape hUx
  obtain ⟨⟨g0,g1,-⟩,hfu⟩ := hfit
  replace g0 : FitF (FitP V (d + 2)) V fX3_0 (t.at 0) := g0
  replace g1 : FitF (FitP V (d + 2)) V fX3_1 (t.at 1) := g1
  have hllt : t.l.length < 4611686018427387903 := Nat.lt_of_le_of_lt hLs.len (by decide)
  have hul := hLs.ulen
  refine fn_of_W Tryz.func31 rfl Tryz.results31 Tryz.ntmps31 rfl ?_
  obtain ⟨w1,hw1⟩ : ∃ w1,w1 = (((w.alloc (.cells #[.int .i64 t.n,.slice bS t.s.length cS,.bool t.null,.slice bL t.l.length cL,.slice bU t.u.length cU] 39)).alloc (.cells #[.int .u8 0,.int .u8 0,.int .u8 0,.int .u8 0,.int .u8 0,.int .u8 0,.int .u8 0,.int .u8 0,.int .u8 0,.int .u8 0,.int .u8 0,.int .u8 0,.int .u8 0,.int .u8 0,.int .u8 0,.int .u8 0,.slice none 0 0,.map none] 78)).alloc (.cells #[.int .u8 0,.int .u8 0,.int .u8 0,.int .u8 0,.int .u8 0,.int .u8 0,.int .u8 0,.int .u8 0,.int .u8 0,.int .u8 0,.int .u8 0,.int .u8 0,.int .u8 0,.int .u8 0,.int .u8 0,.int .u8 0,.slice none 0 0,.map none] 78)) := ⟨_,rfl⟩
  have hE1 : Ext w w1 := by rw [hw1];exact ((Upd.refl _ _).alloc _).alloc _ |>.alloc _
  have hz1 : w1.heap.size = w.heap.size + 3 := by rw [hw1];simp only [World.size_alloc]
  have htb1 : blk w1 w.heap.size = some (#[.int .i64 t.n,.slice bS t.s.length cS,.bool t.null,.slice bL t.l.length cL,.slice bU t.u.length cU],39,(0,0)) := by rw [hw1];simp (maxSteps:=1000000)(disch:=(first|omega|(simp only [qI,qJ,qK]<;>omega)|exact qL _)) only [go_sem,↓reduceIte,n0,reduceCtorEq,n1,n2,n3,n4,n5,i0,i1,i2,i3,i4,i5,i6,i7]
  have hrb1 : blk w1 (w.heap.size + 1) = some (#[.int .u8 0,.int .u8 0,.int .u8 0,.int .u8 0,.int .u8 0,.int .u8 0,.int .u8 0,.int .u8 0,.int .u8 0,.int .u8 0,.int .u8 0,.int .u8 0,.int .u8 0,.int .u8 0,.int .u8 0,.int .u8 0,.slice none 0 0,.map none],78,(0,0)) := by rw [hw1];simp (maxSteps:=1000000)(disch:=(first|omega|(simp only [qI,qJ,qK]<;>omega)|exact qL _)) only [go_sem,↓reduceIte,n0,reduceCtorEq,n1,n2,n3,n4,n5,i0,i1,i2,i3,i4,i5,i6,i7]
  have hb1 : blk w1 (w.heap.size + 2) = some (#[.int .u8 0,.int .u8 0,.int .u8 0,.int .u8 0,.int .u8 0,.int .u8 0,.int .u8 0,.int .u8 0,.int .u8 0,.int .u8 0,.int .u8 0,.int .u8 0,.int .u8 0,.int .u8 0,.int .u8 0,.int .u8 0,.slice none 0 0,.map none],78,(0,0)) := by rw [hw1];simp (maxSteps:=1000000)(disch:=(first|omega|(simp only [qI,qJ,qK]<;>omega)|exact qL _)) only [go_sem,↓reduceIte,n0,reduceCtorEq,n1,n2,n3,n4,n5,i0,i1,i2,i3,i4,i5,i6,i7]
  have hoS : ∀ b,(OkS okT w.heap.size) b → b ≠ (w.heap.size + 2) := fun b h => by have := h.2;omega
  have hoR : ∀ b,(OkF okT w.heap.size w1.heap.size) b → b ≠ w.heap.size + 1 := fun b h => by
    rcases h with h | h
    · have := h.2;omega
    · omega
  have htv : ¬ w.heap.size = (w.heap.size + 2) := by omega
  have hoF : ∀ b,(OkF okT w.heap.size w1.heap.size) b → b ≠ (w.heap.size + 2) := fun b h => by
    rcases h with h | h
    · exact hoS b h
    · omega
  have hU1 : Upd (fun b => b = (w.heap.size + 2)) w1 w1 := Upd.refl _ _
  have hvl1 := blk_lt hb1
  have hsz1 := Nat.le_refl w1.heap.size
  have ht1 : TreeC (OkS okT w.heap.size) w1 t [.int .i64 t.n,.slice bS t.s.length cS,.bool t.null,.slice bL t.l.length cL,.slice bU t.u.length cU] := (ht.weaken fun b h1 h2 => ⟨h2,h1⟩).keep (hE1.keeps _)
  have hU1v : TagsV (OkS okT w.heap.size) w1 (.slice bU t.u.length cU) t.u := (hUx.weaken fun b h1 h2 => ⟨h2,h1⟩).keep (hE1.keeps _)
  repeat ((first | refine qA rfl ?_|refine qB ?_|refine qC rfl ?_|refine qD ?_|refine qE ?_|refine qF ?_|refine qG ?_|refine qH ?_);try simp (maxSteps:=1000000)(disch:=(first|omega|(simp only [qI,qJ,qK]<;>omega)|exact qL _)) only [go_sem,↓reduceIte,n0,reduceCtorEq,n1,n2,n3,n4,n5,i0,i1,i2,i3,i4,i5,i6,i7])
  rw [← hw1]
  clear hw1
  refine (iat_fn (ok := (OkS okT w.heap.size)) t 0 _ _ (ht1.keep (hU1.keeps fun b _ hk e => hoS b hk e)) (by decide) hllt).mono ?_
  rintro r2 w2 ⟨⟨ca2,rfl,hca2⟩,hEa2⟩
  obtain ⟨vSa2,vLa2,vUa2,rfl,hna2,hSa2,hLa2,hUa2⟩ := hca2.inv
  obtain ⟨bSa2,cSa2,rfl,hcSa2⟩ := hSa2.shape
  obtain ⟨bLa2,cLa2,rfl,hcLa2⟩ := SlR.shape hLa2
  have hfU2 := SlR.flat hUa2
  clear hcSa2 hcLa2 hna2
  have hV2 : Upd (fun b => b = (w.heap.size + 2)) w1 w2 := hEa2.mono fun _ h => h.elim
  have hU2 : Upd (fun b => b = (w.heap.size + 2)) w1 w2 := hU1.trans hV2
  have htb2 := hU2.blk_some htb1 htv
  have hvl2 : (w.heap.size + 2) < w2.heap.size := Nat.lt_of_lt_of_le hvl1 hU2.size
  have hsz2 := hU2.size
  have hb2 : blk w2 (w.heap.size + 2) = some (#[.int .u8 0,.int .u8 0,.int .u8 0,.int .u8 0,.int .u8 0,.int .u8 0,.int .u8 0,.int .u8 0,.int .u8 0,.int .u8 0,.int .u8 0,.int .u8 0,.int .u8 0,.int .u8 0,.int .u8 0,.int .u8 0,.slice none 0 0,.map none],78,(0,0)) := hEa2.blk_some hb1 id
  simp (maxSteps:=1000000)(disch:=(first|omega|(simp only [qI,qJ,qK]<;>omega)|exact qL _)) only [go_sem,↓reduceIte,n0,reduceCtorEq,n1,n2,n3,n4,n5,i0,i1,i2,i3,i4,i5,i6,i7,hb2,htb2]
  refine (sixteen_fn (okT := (OkS okT w.heap.size)) _ (t.at 0).s _ hSa2).mono ?_
  rintro r3 w3 ⟨hp3,hEa3⟩
  have hsp3 := hsz2
  have hV3 : Upd (fun b => b = (w.heap.size + 2)) w2 w3 := hEa3.mono fun _ h => h.elim
  have hU3 : Upd (fun b => b = (w.heap.size + 2)) w1 w3 := hU2.trans hV3
  have htb3 := hU3.blk_some htb1 htv
  have hvl3 : (w.heap.size + 2) < w3.heap.size := Nat.lt_of_lt_of_le hvl1 hU3.size
  have hsz3 := hU3.size
  clear hvl2 hsz2
  have hb3 : blk w3 (w.heap.size + 2) = some (#[.int .u8 0,.int .u8 0,.int .u8 0,.int .u8 0,.int .u8 0,.int .u8 0,.int .u8 0,.int .u8 0,.int .u8 0,.int .u8 0,.int .u8 0,.int .u8 0,.int .u8 0,.int .u8 0,.int .u8 0,.int .u8 0,.slice none 0 0,.map none],78,(0,0)) := hEa3.blk_some hb2 id
  subst hp3
  have hl16_0 : ((uuidS (t.at 0).s).map byteV).length = 16 := by rw [List.length_map,uuidS_len]
  have hx16_0 := flat_bytes (uuidS (t.at 0).s)
  generalize hX0 : (uuidS (t.at 0).s).map byteV = X0 at *
  obtain ⟨x0_0,x0_1,x0_2,x0_3,x0_4,x0_5,x0_6,x0_7,x0_8,x0_9,x0_10,x0_11,x0_12,x0_13,x0_14,x0_15,rfl⟩ := list16 hl16_0
  simp only [List.all_cons,List.all_nil,Bool.and_true,Bool.and_eq_true] at hx16_0
  obtain ⟨fx0_0,fx0_1,fx0_2,fx0_3,fx0_4,fx0_5,fx0_6,fx0_7,fx0_8,fx0_9,fx0_10,fx0_11,fx0_12,fx0_13,fx0_14,fx0_15⟩ := hx16_0
  simp (maxSteps:=1000000)(disch:=(first|omega|(simp only [qI,qJ,qK]<;>omega)|exact qL _)) only [go_sem,↓reduceIte,n0,reduceCtorEq,n1,n2,n3,n4,n5,i0,i1,i2,i3,i4,i5,i6,i7,hb3,htb3,fx0_0,fx0_1,fx0_2,fx0_3,fx0_4,fx0_5,fx0_6,fx0_7,fx0_8,fx0_9,fx0_10,fx0_11,fx0_12,fx0_13,fx0_14,fx0_15]
  generalize hw4 : wr w3 (w.heap.size + 2) 0 [x0_0,x0_1,x0_2,x0_3,x0_4,x0_5,x0_6,x0_7,x0_8,x0_9,x0_10,x0_11,x0_12,x0_13,x0_14,x0_15] = w4
  have hV4 : Upd (fun b => b = (w.heap.size + 2)) w3 w4 := by rw [← hw4];exact (Upd.refl _ _).wr _ _ (.inr rfl)
  have hb4 : blk w4 (w.heap.size + 2) = some (#[x0_0,x0_1,x0_2,x0_3,x0_4,x0_5,x0_6,x0_7,x0_8,x0_9,x0_10,x0_11,x0_12,x0_13,x0_14,x0_15,.slice none 0 0,.map none],78,(0,0)) := by rw [← hw4,blk_wr_eq,hb3];simp only [Option.map_some,wrArr_cons,wrArr_nil,List.setIfInBounds_toArray,List.set_cons_zero,List.set_cons_succ,Nat.reduceAdd]
  have hU4 : Upd (fun b => b = (w.heap.size + 2)) w1 w4 := hU3.trans hV4
  have htb4 := hU4.blk_some htb1 htv
  have hvl4 : (w.heap.size + 2) < w4.heap.size := Nat.lt_of_lt_of_le hvl1 hU4.size
  have hsz4 := hU4.size
  clear hvl3 hsz3
  clear hw4
  have hf0 : RepF (RepS true (d + 2)) (szS true (d + 2)) fX3_0 (OkF okT w.heap.size w1.heap.size) w4 (t.at 0) [x0_0,x0_1,x0_2,x0_3,x0_4,x0_5,x0_6,x0_7,x0_8,x0_9,x0_10,x0_11,x0_12,x0_13,x0_14,x0_15] := (RepF_uuid rfl).2 hX0.symm
  have hn0_1 : (t.at 1).null = false := g1.notnull (by decide)
  have hll1 := (g1.list rfl).1
  repeat ((first | refine qA rfl ?_|refine qB ?_|refine qC rfl ?_|refine qD ?_|refine qE ?_|refine qF ?_|refine qG ?_|refine qH ?_);try simp (maxSteps:=1000000)(disch:=(first|omega|(simp only [qI,qJ,qK]<;>omega)|exact qL _)) only [go_sem,↓reduceIte,n0,reduceCtorEq,n1,n2,n3,n4,n5,i0,i1,i2,i3,i4,i5,i6,i7,hb4,htb4])
  refine (iat_fn (ok := (OkS okT w.heap.size)) t 1 _ _ (ht1.keep (hU4.keeps fun b _ hk e => hoS b hk e)) (by decide) hllt).mono ?_
  rintro r5 w5 ⟨⟨ca5,rfl,hca5⟩,hEa5⟩
  obtain ⟨vSa5,vLa5,vUa5,rfl,hna5,hSa5,hLa5,hUa5⟩ := hca5.inv
  obtain ⟨bSa5,cSa5,rfl,hcSa5⟩ := hSa5.shape
  obtain ⟨bLa5,cLa5,rfl,hcLa5⟩ := SlR.shape hLa5
  have hfU5 := SlR.flat hUa5
  clear hcSa5 hcLa5 hna5
  have hV5 : Upd (fun b => b = (w.heap.size + 2)) w4 w5 := hEa5.mono fun _ h => h.elim
  have hU5 : Upd (fun b => b = (w.heap.size + 2)) w1 w5 := hU4.trans hV5
  have htb5 := hU5.blk_some htb1 htv
  have hvl5 : (w.heap.size + 2) < w5.heap.size := Nat.lt_of_lt_of_le hvl1 hU5.size
  have hsz5 := hU5.size
  clear hvl4 hsz4
  have hb5 : blk w5 (w.heap.size + 2) = some (#[x0_0,x0_1,x0_2,x0_3,x0_4,x0_5,x0_6,x0_7,x0_8,x0_9,x0_10,x0_11,x0_12,x0_13,x0_14,x0_15,.slice none 0 0,.map none],78,(0,0)) := hEa5.blk_some hb4 id
  simp (maxSteps:=1000000)(disch:=(first|omega|(simp only [qI,qJ,qK]<;>omega)|exact qL _)) only [go_sem,↓reduceIte,n0,reduceCtorEq,n1,n2,n3,n4,n5,i0,i1,i2,i3,i4,i5,i6,i7,hn0_1,hb5,htb5]
  repeat ((first | refine qA rfl ?_|refine qB ?_|refine qC rfl ?_|refine qD ?_|refine qE ?_|refine qF ?_|refine qG ?_|refine qH ?_);try simp (maxSteps:=1000000)(disch:=(first|omega|(simp only [qI,qJ,qK]<;>omega)|exact qL _)) only [go_sem,↓reduceIte,n0,reduceCtorEq,n1,n2,n3,n4,n5,i0,i1,i2,i3,i4,i5,i6,i7,hb5,htb5])
  refine (iat_fn (ok := (OkS okT w.heap.size)) t 1 _ _ (ht1.keep (hU5.keeps fun b _ hk e => hoS b hk e)) (by decide) hllt).mono ?_
  rintro r6 w6 ⟨⟨ca6,rfl,hca6⟩,hEa6⟩
  obtain ⟨vSa6,vLa6,vUa6,rfl,hna6,hSa6,hLa6,hUa6⟩ := hca6.inv
  obtain ⟨bSa6,cSa6,rfl,hcSa6⟩ := hSa6.shape
  obtain ⟨bLa6,cLa6,rfl,hcLa6⟩ := SlR.shape hLa6
  have hfU6 := SlR.flat hUa6
  clear hcSa6 hcLa6 hna6
  have hV6 : Upd (fun b => b = (w.heap.size + 2)) w5 w6 := hEa6.mono fun _ h => h.elim
  have hU6 : Upd (fun b => b = (w.heap.size + 2)) w1 w6 := hU5.trans hV6
  have htb6 := hU6.blk_some htb1 htv
  have hvl6 : (w.heap.size + 2) < w6.heap.size := Nat.lt_of_lt_of_le hvl1 hU6.size
  have hsz6 := hU6.size
  clear hvl5 hsz5
  have hb6 : blk w6 (w.heap.size + 2) = some (#[x0_0,x0_1,x0_2,x0_3,x0_4,x0_5,x0_6,x0_7,x0_8,x0_9,x0_10,x0_11,x0_12,x0_13,x0_14,x0_15,.slice none 0 0,.map none],78,(0,0)) := hEa6.blk_some hb5 id
  simp (maxSteps:=1000000)(disch:=(first|omega|(simp only [qI,qJ,qK]<;>omega)|exact qL _)) only [go_sem,↓reduceIte,n0,reduceCtorEq,n1,n2,n3,n4,n5,i0,i1,i2,i3,i4,i5,i6,i7,hb6,htb6]
  refine wp_make (T := 76) (E := 95) (size := 4) (bytes := 40) (z := (.agg #[.int .i32 0,.int .i32 0,.slice none 0 0,.map none])) (l := 0) (c := (t.at 1).l.length) (kl := .i64) (kc := .i64) (by kernel_rfl) (by kernel_rfl) (by simp (maxSteps:=1000000)(disch:=(first|omega|(simp only [qI,qJ,qK]<;>omega)|exact qL _)) only [go_sem,↓reduceIte,n0,reduceCtorEq,n1,n2,n3,n4,n5,i0,i1,i2,i3,i4,i5,i6,i7];rfl) (by simp (maxSteps:=1000000)(disch:=(first|omega|(simp only [qI,qJ,qK]<;>omega)|exact qL _)) only [go_sem,↓reduceIte,n0,reduceCtorEq,n1,n2,n3,n4,n5,i0,i1,i2,i3,i4,i5,i6,i7]) (by omega) (by omega) (by omega) ?_
  simp (maxSteps:=1000000)(disch:=(first|omega|(simp only [qI,qJ,qK]<;>omega)|exact qL _)) only [go_sem,↓reduceIte,n0,reduceCtorEq,n1,n2,n3,n4,n5,i0,i1,i2,i3,i4,i5,i6,i7,hb6,hvl6,htb6]
  have hszB1 := hsz6
  generalize hw7 : wr (w6.alloc (.cells (madeCells #[.int .i32 0,.int .i32 0,.slice none 0 0,.map none] ((t.at 1).l.length * 4)) 95)) (w.heap.size + 2) 16 [.slice (some ⟨w6.heap.size,0,none⟩) 0 (t.at 1).l.length] = w7
  have hV7 : Upd (fun b => b = (w.heap.size + 2)) w6 w7 := by rw [← hw7];exact ((Upd.refl _ _).alloc _).wr _ _ (.inr rfl)
  have hb7 : blk w7 (w.heap.size + 2) = some (#[x0_0,x0_1,x0_2,x0_3,x0_4,x0_5,x0_6,x0_7,x0_8,x0_9,x0_10,x0_11,x0_12,x0_13,x0_14,x0_15,.slice (some ⟨w6.heap.size,0,none⟩) 0 (t.at 1).l.length,.map none],78,(0,0)) := by rw [← hw7,blk_wr_eq,blk_alloc_old hvl6,hb6];rfl
  have hrow7 : blk w7 w6.heap.size = some (madeCells #[.int .i32 0,.int .i32 0,.slice none 0 0,.map none] ((t.at 1).l.length * 4),95,(0,0)) := by rw [← hw7,blk_wr_ne (Nat.ne_of_gt hvl6),blk_alloc_new rfl]
  have hg7 : GrowR (Rep1 (RepS true (d + 2)) fX3_1.of fX3_1.sub) 4 (OkF okT w.heap.size w1.heap.size) w6.heap.size (w.heap.size + 2) w7 95 (.slice (some ⟨w6.heap.size,0,none⟩) 0 (t.at 1).l.length) [] := GrowR.made hrow7 (size_madeCells _ _) (Nat.le_refl _)
  have hU7 : Upd (fun b => b = (w.heap.size + 2)) w1 w7 := hU6.trans hV7
  have htb7 := hU7.blk_some htb1 htv
  have hvl7 : (w.heap.size + 2) < w7.heap.size := Nat.lt_of_lt_of_le hvl1 hU7.size
  have hsz7 := hU7.size
  clear hvl6 hsz6
  clear hw7 hrow7
  repeat ((first | refine qA rfl ?_|refine qB ?_|refine qC rfl ?_|refine qD ?_|refine qE ?_|refine qF ?_|refine qG ?_|refine qH ?_);try simp (maxSteps:=1000000)(disch:=(first|omega|(simp only [qI,qJ,qK]<;>omega)|exact qL _)) only [go_sem,↓reduceIte,n0,reduceCtorEq,n1,n2,n3,n4,n5,i0,i1,i2,i3,i4,i5,i6,i7,hb7,htb7])
  refine (iat_fn (ok := (OkS okT w.heap.size)) t 1 _ _ (ht1.keep (hU7.keeps fun b _ hk e => hoS b hk e)) (by decide) hllt).mono ?_
  rintro r8 w8 ⟨⟨ca8,rfl,hca8⟩,hEa8⟩
  obtain ⟨vSa8,vLa8,vUa8,rfl,hna8,hSa8,hLa8,hUa8⟩ := hca8.inv
  obtain ⟨bSa8,cSa8,rfl,hcSa8⟩ := hSa8.shape
  obtain ⟨bLa8,cLa8,rfl,hcLa8⟩ := SlR.shape hLa8
  have hfU8 := SlR.flat hUa8
  clear hcSa8 hcLa8 hna8
  have hV8 : Upd (fun b => b = (w.heap.size + 2)) w7 w8 := hEa8.mono fun _ h => h.elim
  have hU8 : Upd (fun b => b = (w.heap.size + 2)) w1 w8 := hU7.trans hV8
  have htb8 := hU8.blk_some htb1 htv
  have hvl8 : (w.heap.size + 2) < w8.heap.size := Nat.lt_of_lt_of_le hvl1 hU8.size
  have hsz8 := hU8.size
  clear hvl7 hsz7
  have hb8 : blk w8 (w.heap.size + 2) = some (#[x0_0,x0_1,x0_2,x0_3,x0_4,x0_5,x0_6,x0_7,x0_8,x0_9,x0_10,x0_11,x0_12,x0_13,x0_14,x0_15,.slice (some ⟨w6.heap.size,0,none⟩) 0 (t.at 1).l.length,.map none],78,(0,0)) := hEa8.blk_some hb7 id
  have hg8 := hg7.ext (Rep1_lay _ _ fun _ => RepS_lay true (d + 2) _) hEa8
  simp (maxSteps:=1000000)(disch:=(first|omega|(simp only [qI,qJ,qK]<;>omega)|exact qL _)) only [go_sem,↓reduceIte,n0,reduceCtorEq,n1,n2,n3,n4,n5,i0,i1,i2,i3,i4,i5,i6,i7,hb8,htb8]
  repeat ((first | refine qA rfl ?_|refine qB ?_|refine qC rfl ?_|refine qD ?_|refine qE ?_|refine qF ?_|refine qG ?_|refine qH ?_);try simp (maxSteps:=1000000)(disch:=(first|omega|(simp only [qI,qJ,qK]<;>omega)|exact qL _)) only [go_sem,↓reduceIte,n0,reduceCtorEq,n1,n2,n3,n4,n5,i0,i1,i2,i3,i4,i5,i6,i7,hb8,htb8])
  have hVb1 : Upd (fun b => b = (w.heap.size + 2)) w6 w8 := hV7.trans hV8
  have hUb1 := hU6
  have hvlB1 : (w.heap.size + 2) < w6.heap.size := Nat.lt_of_lt_of_le hvl1 hszB1
  have hszL1 : w6.heap.size ≤ w8.heap.size := hVb1.size
  refine W.exitJ 0 (fun ρ w' => ∃ v,ρ 1 = .pointer (some ⟨w.heap.size,0,none⟩) ∧ ρ 2 = .pointer (some ⟨w.heap.size + 1,0,none⟩) ∧ ρ 3 = .pointer (some ⟨(w.heap.size + 2),0,none⟩) ∧ blk w' (w.heap.size + 2) = some (#[x0_0,x0_1,x0_2,x0_3,x0_4,x0_5,x0_6,x0_7,x0_8,x0_9,x0_10,x0_11,x0_12,x0_13,x0_14,x0_15,v,.map none],78,(0,0)) ∧ GrowR (Rep1 (RepS true (d + 2)) fX3_1.of fX3_1.sub) 4 (OkF okT w.heap.size w1.heap.size) w6.heap.size (w.heap.size + 2) w' 95 v (t.at 1).l ∧ v ≠ .slice none 0 0 ∧ Upd (fun b => b = (w.heap.size + 2) ∨ w6.heap.size ≤ b) w8 w')
    (W.loop (fun ρ w' => ∃ (j : Nat) (v : Value),j ≤ (t.at 1).l.length ∧ ρ 27 = .int .i64 j ∧ ρ 26 = .int .i64 (t.at 1).l.length ∧ ρ 25 = .slice bLa8 (t.at 1).l.length cLa8 ∧ ρ 1 = .pointer (some ⟨w.heap.size,0,none⟩) ∧ ρ 2 = .pointer (some ⟨w.heap.size + 1,0,none⟩) ∧ ρ 3 = .pointer (some ⟨(w.heap.size + 2),0,none⟩) ∧ blk w' (w.heap.size + 2) = some (#[x0_0,x0_1,x0_2,x0_3,x0_4,x0_5,x0_6,x0_7,x0_8,x0_9,x0_10,x0_11,x0_12,x0_13,x0_14,x0_15,v,.map none],78,(0,0)) ∧ GrowR (Rep1 (RepS true (d + 2)) fX3_1.of fX3_1.sub) 4 (OkF okT w.heap.size w1.heap.size) w6.heap.size (w.heap.size + 2) w' 95 v ((t.at 1).l.take j) ∧ v ≠ .slice none 0 0 ∧ Upd (fun b => b = (w.heap.size + 2) ∨ w6.heap.size ≤ b) w8 w')
      (fun ρ _ => (t.at 1).l.length - (RowKit.intOf (ρ 27)).toNat) ?_ ?_) ?_
  · refine ⟨0,_,Nat.zero_le _,?_,?_,?_,?_,?_,?_,hb8,hg8,(by intro h;cases h),Upd.refl _ _⟩ <;> simp (maxSteps:=1000000)(disch:=(first|omega|(simp only [qI,qJ,qK]<;>omega)|exact qL _)) only [go_sem,↓reduceIte,n0,reduceCtorEq,n1,n2,n3,n4,n5,i0,i1,i2,i3,i4,i5,i6,i7]
    all_goals rfl
  · rintro ρ w_6 ⟨j,v,hj,hI,hN,hS,hr1,hr2,hr3,hbv,hg,hnil,hU_6⟩
    have hz_6 := hU_6.size
    have hJ_6 : Upd (fun b => b = (w.heap.size + 2)) w6 w_6 := hVb1.more hU_6 fun b hb h => h.elim id fun h => absurd h (by omega)
    have hU_16 : Upd (fun b => b = (w.heap.size + 2)) w1 w_6 := hUb1.trans hJ_6
    have hht_6 := hU_16.blk_some htb1 htv
    have hLt_6 := hLa8.keep (hU_6.keeps fun b _ hk e => e.elim (hoS b hk) fun e => by have := hk.2;omega)
    by_cases hlt : j < (t.at 1).l.length
    · obtain ⟨_,b,o,x,vS',vL',vU',hb,hokb,hx,hblt,hxs,hxe,q1,q2,q3,hc⟩ := TreesV.get hLt_6 hlt
      subst hb
      have hbS := (TreeC.inv hc)
      have hcat : (t.at 1).l.take (j + 1) = (t.at 1).l.take j ++ [(t.at 1).l[j]] := List.take_succ_eq_append_getElem hlt
      have hlen_9 : ((t.at 1).l.take j).length = j := by simp;omega
      have hgx := (g1.list rfl).2 _ (List.getElem_mem hlt)
      have hLx := (hLs.at 1).get hlt
      have hnb : ∀ b,b < w6.heap.size ∨ b = w_6.heap.size → ¬ ownB v b := fun b hb h => by
        have := hg.above h
        have := hg.below h
        omega
      generalize (t.at 1).l[j] = y at *
      obtain ⟨vSy,vLy,vUy,hcells,hny,hSy,hLy,hUy⟩ := hbS
      simp only [List.cons.injEq,true_and,and_true] at hcells
      obtain ⟨rfl,rfl,rfl⟩ := hcells
      obtain ⟨bSy,cSy,rfl,hcSy⟩ := hSy.shape
      repeat ((first | refine qA rfl ?_|refine qB ?_|refine qC rfl ?_|refine qD ?_|refine qE ?_|refine qF ?_|refine qG ?_|refine qH ?_);try simp (maxSteps:=1000000)(disch:=(first|omega|(simp only [qI,qJ,qK]<;>omega)|exact qL _)) only [go_sem,↓reduceIte,n0,reduceCtorEq,n1,n2,n3,n4,n5,i0,i1,i2,i3,i4,i5,i6,i7,hI,hN,hS,hx,hxe,q1,q2,q3,cellsAt_five,Int.toNat_natCast])
      generalize hw_7 : (wr (w_6.alloc (.cells #[.int .i64 0,.slice none 0 0,.bool false,.slice none 0 0,.slice none 0 0] 39)) w_6.heap.size 0 [.int .i64 y.n,.slice bSy y.s.length cSy,.bool y.null,vL',vU']) = w_7
      have hE_7 : Ext w_6 w_7 := by rw [← hw_7];exact (Upd.alloc (Upd.refl _ _) _).wr _ _ (.inl (Nat.le_refl _))
      have hb_7 : blk w_7 w_6.heap.size = some (#[.int .i64 y.n,.slice bSy y.s.length cSy,.bool y.null,vL',vU'],39,(0,0)) := by rw [← hw_7];simp (maxSteps:=1000000)(disch:=(first|omega|(simp only [qI,qJ,qK]<;>omega)|exact qL _)) only [go_sem,↓reduceIte,n0,reduceCtorEq,n1,n2,n3,n4,n5,i0,i1,i2,i3,i4,i5,i6,i7]
      have hz_7 : w_7.heap.size = w_6.heap.size + 1 := by rw [← hw_7];simp only [size_wr,World.size_alloc]
      have hbt_7 := hE_7.blk_some hbv id
      have hgv_7 := hE_7.blk_some hht_6 id
      have hc_7 := hc.keep (hE_7.keeps _)
      have hS_7 := hSy.keep (hE_7.keeps _)
      have hg_7 := hg.ext (Rep1_lay _ _ fun _ => RepS_lay true (d + 2) _) hE_7
      clear hw_7
      refine W.drawR (.take 0 (.take 1 (.take 2 (.only 3 (.only 4 (.only 5 (.take 6 (.last 7)))))))) (ownB v) mixed (by kernel_rfl) ?_
      simp (maxSteps:=1000000)(disch:=(first|omega|(simp only [qI,qJ,qK]<;>omega)|exact qL _ | (refine hnb _ ?_;first | omega | (simp only [World.size_alloc,size_wr,size_drew] <;> omega)))) only [go_sem,↓reduceIte,n0,reduceCtorEq,n1,n2,n3,n4,n5,i0,i1,i2,i3,i4,i5,i6,i7,hr1,hr2,hr3,hbt_7,hb_7,hgv_7,cellsAt_five]
      have hE_7d : Ext w_7 w_7.drew := (Upd.refl _ _).drew
      have hg_7d := hg_7.ext (Rep1_lay _ _ fun _ => RepS_lay true (d + 2) _) hE_7d
      have hzd : w_7.drew.heap.size = w_7.heap.size := size_drew _
      have hbt_7d := hE_7d.blk_some hbt_7 id
      refine (makeX2_fn (d := d) (okT := (OkS okT w.heap.size)) (V := V) y _ w_7.drew (hc_7.keep (hE_7d.keeps _)) (hgx.2.2 rfl) hLx).mono ?_
      rintro r8 w_8 ⟨⟨cs8,rfl,hc_8⟩,hE_8⟩
      obtain ⟨hfl_8,hcl_8⟩ := (RepS_lay true (d + 2) fs_X2).flat hc_8
      obtain ⟨y0,y1,y2,y3,rfl⟩ : ∃ y0 y1 y2 y3,cs8 = [y0,y1,y2,y3] := by
        have hcl_8' : cs8.length = 4 := hcl_8
        match cs8,hcl_8' with
        | [y0,y1,y2,y3],_ => exact ⟨y0,y1,y2,y3,rfl⟩
      simp only [List.all_cons,List.all_nil,Bool.and_true,Bool.and_eq_true] at hfl_8
      obtain ⟨fy0,fy1,fy2,fy3⟩ := hfl_8
      have hz_8 := hE_8.size
      have hM_8 : Upd (ownB v) w_7.drew w_8 := hE_8.mono (fun _ h => h.elim)
      refine ⟨hM_8,?_⟩
      have hE_9 : Ext w_8 (w_8.alloc (.cells #[y0,y1,y2,y3] 95)) := Upd.alloc (Upd.refl _ _) _
      have hM_9 : Upd (ownB v) w_7.drew (w_8.alloc (.cells #[y0,y1,y2,y3] 95)) := hM_8.alloc _
      simp (maxSteps:=1000000)(disch:=(first|omega|(simp only [qI,qJ,qK]<;>omega)|exact qL _)) only [go_sem,↓reduceIte,n0,reduceCtorEq,n1,n2,n3,n4,n5,i0,i1,i2,i3,i4,i5,i6,i7,hr1,hr2,hr3,hbt_7d,fy0,fy1,fy2,fy3]
      refine ⟨hM_9,?_⟩
      have hE_79 : Ext w_7.drew (w_8.alloc (.cells #[y0,y1,y2,y3] 95)) := hE_8.trans hE_9
      have hg_9 := (hg_7d.ext (Rep1_lay _ _ fun _ => RepS_lay true (d + 2) _) hE_8).ext (Rep1_lay _ _ fun _ => RepS_lay true (d + 2) _) hE_9
      have hx_9 : Rep1 (RepS true (d + 2)) fX3_1.of fX3_1.sub (fun b => (OkF okT w.heap.size w1.heap.size) b ∧ b ≠ (w.heap.size + 2) ∧ ¬ ownB v b) (w_8.alloc (.cells #[y0,y1,y2,y3] 95)) y [y0,y1,y2,y3] :=
        Rep1_part.2 (((RepS_lay true (d + 2) fs_X2).keep hc_8 (hE_9.keeps _)) |> fun h => (RepS_lay true (d + 2) fs_X2).weaken h fun b _ hk => by
          rcases hk with hk | hk
          · exact ⟨.inl hk,hoS b hk,fun h => by have := hg.above h;have := hk.2;omega⟩
          · exact ⟨.inr (by omega),by omega,fun h => by have := hg.below h;omega⟩)
      obtain ⟨css,hown,hall⟩ := hg_9.ex
      have hcl_9 := hall.1
      refine wp_append ap_76_76 (m := 1) (news := [y0,y1,y2,y3]) (n := css.length) (cs := css.flatten) (v := v) ?_ rfl hown.1 (all2_flat_R (Rep1_lay _ _ fun _ => RepS_lay true (d + 2) _) hall) (Src.blk (fr := (0,0)) (T := 95) (blk_alloc_new (by first | rfl | omega | (simp only [size_drew];omega))) rfl (by simp only [List.all_cons,List.all_nil,Bool.and_true,Bool.and_eq_true];exact ⟨fy0,fy1,fy2,fy3⟩)) ?_ ?_ ?_
      · simp (maxSteps:=1000000)(disch:=(first|omega|(simp only [qI,qJ,qK]<;>omega)|exact qL _)) only [go_sem,↓reduceIte,n0,reduceCtorEq,n1,n2,n3,n4,n5,i0,i1,i2,i3,i4,i5,i6,i7]
      · simp only [World.size_alloc,size_drew];omega
      · omega
      intro v' w_10 ho hu hfr
      have hg_10 := GrowR.snoc (Rep1_lay _ _ fun _ => RepS_lay true (d + 2) _) hown hall hx_9 hu hfr ho
      have hz_10 := hu.size
      simp only [World.size_alloc,size_drew] at hz_10
      obtain ⟨va,vc,hv',_⟩ := ho.shape
      subst hv'
      have hbt_10 := (hM_9.trans hu).blk_some hbt_7d (hnb _ (.inl hvlB1))
      have htb' : ¬ ownB (.slice va (css.length + 1) vc) (w.heap.size + 2) := fun h => by
        rcases hfr _ h with h | h
        · exact hnb _ (.inl hvlB1) h
        · simp only [World.size_alloc,size_drew] at h;omega
      simp (maxSteps:=1000000)(disch:=(first|omega|(simp only [qI,qJ,qK]<;>omega)|exact qL _)) only [go_sem,↓reduceIte,n0,reduceCtorEq,n1,n2,n3,n4,n5,i0,i1,i2,i3,i4,i5,i6,i7]
      refine ⟨hM_9.trans hu,?_⟩
      simp (maxSteps:=1000000)(disch:=(first|omega|(simp only [qI,qJ,qK]<;>omega)|exact qL _)) only [go_sem,↓reduceIte,n0,reduceCtorEq,n1,n2,n3,n4,n5,i0,i1,i2,i3,i4,i5,i6,i7,hr1,hr2,hr3,hbt_10]
      repeat ((first | refine qA rfl ?_|refine qB ?_|refine qC rfl ?_|refine qD ?_|refine qE ?_|refine qF ?_|refine qG ?_|refine qH ?_);try simp (maxSteps:=1000000)(disch:=(first|omega|(simp only [qI,qJ,qK]<;>omega)|exact qL _)) only [go_sem,↓reduceIte,n0,reduceCtorEq,n1,n2,n3,n4,n5,i0,i1,i2,i3,i4,i5,i6,i7,hI])
      refine ⟨⟨j + 1,.slice va (css.length + 1) vc,by omega,rfl,hN,hS,hr1,hr2,hr3,?_,?_,?_,?_⟩,?_⟩
      · simp (maxSteps:=1000000)(disch:=(first|omega|(simp only [qI,qJ,qK]<;>omega)|exact qL _)) only [go_sem,↓reduceIte,n0,reduceCtorEq,n1,n2,n3,n4,n5,i0,i1,i2,i3,i4,i5,i6,i7,hbt_10]
      · rw [hcat];exact hg_10.upd (Rep1_lay _ _ fun _ => RepS_lay true (d + 2) _) ((Upd.refl _ _).wr _ _ (.inr rfl)) htb'
      · intro h;cases h
      · refine Upd.wr ?_ _ _ (.inr (.inl rfl))
        exact hU_6.more (((hE_7.mono fun _ h => h.elim).trans (hE_7d.mono fun _ h => h.elim)).trans (hM_9.trans hu)) fun b hb h => .inr (hg.above h)
      · simp only [RowKit.intOf];omega
    · have hjl : j = (t.at 1).l.length := by omega
      subst hjl
      rw [List.take_length] at hg
      repeat ((first | refine qA rfl ?_|refine qB ?_|refine qC rfl ?_|refine qD ?_|refine qE ?_|refine qF ?_|refine qG ?_|refine qH ?_);try simp (maxSteps:=1000000)(disch:=(first|omega|(simp only [qI,qJ,qK]<;>omega)|exact qL _)) only [go_sem,↓reduceIte,n0,reduceCtorEq,n1,n2,n3,n4,n5,i0,i1,i2,i3,i4,i5,i6,i7,hI,hN])
      exact ⟨v,hr1,hr2,hr3,hbv,hg,hnil,hU_6⟩
  · rintro ρ w9 ⟨v1,hr1,hr2,hr3,hb9,hg9,hnil1,hK9⟩
    have hV9 : Upd (fun b => b = (w.heap.size + 2)) w6 w9 := hVb1.more hK9 fun b hb h => h.elim id fun h => absurd h (by omega)
    have hU9 : Upd (fun b => b = (w.heap.size + 2)) w1 w9 := hU6.trans hV9
    have htb9 := hU9.blk_some htb1 htv
    have hvl9 : (w.heap.size + 2) < w9.heap.size := Nat.lt_of_lt_of_le hvl1 hU9.size
    have hsz9 := hU9.size
    clear hvl8 hsz8
    obtain ⟨al1,kl1,rfl,_⟩ := hg9.shape
    have hf1 : RepF (RepS true (d + 2)) (szS true (d + 2)) fX3_1 (OkF okT w.heap.size w1.heap.size) w9 (t.at 1) [.slice al1 (t.at 1).l.length kl1] := (RepF_list rfl hn0_1).2 ⟨_,rfl,hg9.sl (Rep1_lay _ _ fun _ => RepS_lay true (d + 2) _) (fun _ _ h => h) (fun b hb => .inr (by omega)),hg9.some hnil1⟩
    repeat ((first | refine qA rfl ?_|refine qB ?_|refine qC rfl ?_|refine qD ?_|refine qE ?_|refine qF ?_|refine qG ?_|refine qH ?_);try simp (maxSteps:=1000000)(disch:=(first|omega|(simp only [qI,qJ,qK]<;>omega)|exact qL _)) only [go_sem,↓reduceIte,n0,reduceCtorEq,n1,n2,n3,n4,n5,i0,i1,i2,i3,i4,i5,i6,i7,hb9,htb9,hr1,hr2,hr3])
    have hUv := hU1v.keep (hU9.keeps fun b _ hk e => hoS b hk e)
    refine W.loop (fun ρ w' => ∃ (j : Nat) (q : Option Nat),j ≤ t.u.length ∧ ρ 42 = .int .i64 j ∧ ρ 41 = .int .i64 t.u.length ∧ ρ 40 = .slice bU t.u.length cU ∧ ρ 1 = .pointer (some ⟨w.heap.size,0,none⟩) ∧ ρ 2 = .pointer (some ⟨w.heap.size + 1,0,none⟩) ∧ ρ 3 = .pointer (some ⟨(w.heap.size + 2),0,none⟩) ∧ blk w' (w.heap.size + 2) = some (#[x0_0,x0_1,x0_2,x0_3,x0_4,x0_5,x0_6,x0_7,x0_8,x0_9,x0_10,x0_11,x0_12,x0_13,x0_14,x0_15,.slice al1 (t.at 1).l.length kl1,.map q],78,(0,0)) ∧ TagsG (OkS okT w.heap.size) w9.heap.size w' (.map q) (t.u.take j) ∧ Upd (fun b => b = (w.heap.size + 2)) w9 w')
        (fun ρ _ => t.u.length - (RowKit.intOf (ρ 42)).toNat) ?_ ?_
    · refine ⟨0,none,Nat.zero_le _,?_,?_,?_,?_,?_,?_,hb9,TagsG.start _ _ _,Upd.refl _ _⟩ <;> simp (maxSteps:=1000000)(disch:=(first|omega|(simp only [qI,qJ,qK]<;>omega)|exact qL _)) only [go_sem,↓reduceIte,n0,reduceCtorEq,n1,n2,n3,n4,n5,i0,i1,i2,i3,i4,i5,i6,i7,hr1,hr2,hr3]
      all_goals rfl
    · rintro ρ w_6 ⟨j,q,hj,hI,hN,hS,hr1,hr2,hr3,hbv,hG,hU_6⟩
      have hz_6 := hU_6.size
      have hUv_6 := hUv.keep (hU_6.keeps fun b _ hk e => hoS b hk e)
      have hU_16 : Upd (fun b => b = (w.heap.size + 2)) w1 w_6 := hU9.trans hU_6
      have hz_16 := hU_16.size
      by_cases hlt : j < t.u.length
      · obtain ⟨_,b,o,x,vv,hb,hokb,hx,hblt,hxs,hxe,_,_,hfv,hbvv,h32⟩ := TagsV.get hUv_6 hlt
        subst hb
        have hcat : t.u.take (j + 1) = t.u.take j ++ [t.u[j]] := List.take_succ_eq_append_getElem hlt
        have hnew : ∀ z ∈ t.u.take j,z.1 ≠ t.u[j].1 := by
          intro z hz
          obtain ⟨k,hk,rfl⟩ := List.getElem_of_mem hz
          simp only [List.length_take] at hk
          have := List.pairwise_iff_getElem.1 hfu.2.2 k j (by omega) hlt (by omega)
          rw [List.getElem_take];omega
        generalize t.u[j] = y at *
        obtain ⟨bSy,cSy,rfl,hcSy⟩ := hbvv.shape
        repeat ((first | refine qA rfl ?_|refine qB ?_|refine qC rfl ?_|refine qD ?_|refine qE ?_|refine qF ?_|refine qG ?_|refine qH ?_);try simp (maxSteps:=1000000)(disch:=(first|omega|(simp only [qI,qJ,qK]<;>omega)|exact qL _)) only [go_sem,↓reduceIte,n0,reduceCtorEq,n1,n2,n3,n4,n5,i0,i1,i2,i3,i4,i5,i6,i7,hI,hN,hS,hx,hxe,hfv,cellsAt_two,Int.toNat_natCast])
        generalize hw_7 : (wr (w_6.alloc (.cells #[.int .u32 0,.slice none 0 0] 67)) w_6.heap.size 0 [.int .u32 y.1,.slice bSy y.2.length cSy]) = w_7
        have hE_7 : Ext w_6 w_7 := by rw [← hw_7];exact (Upd.alloc (Upd.refl _ _) _).wr _ _ (.inl (Nat.le_refl _))
        have hb_7 : blk w_7 w_6.heap.size = some (#[.int .u32 y.1,.slice bSy y.2.length cSy],67,(0,0)) := by rw [← hw_7];simp (maxSteps:=1000000)(disch:=(first|omega|(simp only [qI,qJ,qK]<;>omega)|exact qL _)) only [go_sem,↓reduceIte,n0,reduceCtorEq,n1,n2,n3,n4,n5,i0,i1,i2,i3,i4,i5,i6,i7]
        have hz_7 : w_7.heap.size = w_6.heap.size + 1 := by rw [← hw_7];simp only [size_wr,World.size_alloc]
        clear hw_7
        have hbt_7 := hE_7.blk_some hbv id
        simp (maxSteps:=1000000)(disch:=(first|omega|(simp only [qI,qJ,qK]<;>omega)|exact qL _)) only [go_sem,↓reduceIte,n0,reduceCtorEq,n1,n2,n3,n4,n5,i0,i1,i2,i3,i4,i5,i6,i7,hr1,hr2,hr3,hbt_7,hb_7,cellsAt_two]
        have hE_7d : Ext w_7 w_7 := Upd.refl _ _
        have hE_6d : Ext w_6 w_7 := hE_7.trans hE_7d
        have hG_7 : TagsG (OkS okT w.heap.size) w9.heap.size w_7 (.map q) (t.u.take j) := hG.keep fun b hb _ => hE_6d.keep b hb id
        have hbt_8 := hE_7d.blk_some hbt_7 id
        have hm_8 : (#[x0_0,x0_1,x0_2,x0_3,x0_4,x0_5,x0_6,x0_7,x0_8,x0_9,x0_10,x0_11,x0_12,x0_13,x0_14,x0_15,.slice al1 (t.at 1).l.length kl1,.map q] : Array Value)[17]? = some (.map q) := rfl
        refine (TagsSet_fn (okT := (OkS okT w.heap.size)) (L := w9.heap.size) w_7 hG_7 (by have := hE_6d.size;omega) (by omega) hbt_8 (o := 17) hm_8 (thaw_00 _ _) y _ ((hbvv.weaken fun b _ hk => ⟨hk,by have := hk.2;omega⟩).keep (hE_6d.keeps _)) h32 hnew hoS).mono ?_
        rintro _ w_8 ⟨m',hb_8,hG_8,hM_8⟩
        simp only [List.setIfInBounds_toArray,List.set_cons_succ,List.set_cons_zero] at hb_8
        repeat ((first | refine qA rfl ?_|refine qB ?_|refine qC rfl ?_|refine qD ?_|refine qE ?_|refine qF ?_|refine qG ?_|refine qH ?_);try simp (maxSteps:=1000000)(disch:=(first|omega|(simp only [qI,qJ,qK]<;>omega)|exact qL _)) only [go_sem,↓reduceIte,n0,reduceCtorEq,n1,n2,n3,n4,n5,i0,i1,i2,i3,i4,i5,i6,i7,hI])
        refine ⟨⟨j + 1,m',by omega,rfl,hN,hS,hr1,hr2,hr3,hb_8,by rw [hcat];exact hG_8,?_⟩,?_⟩
        · exact hU_6.more ((hE_6d.mono fun _ h => h.elim).trans hM_8) fun b hb h => by
            rcases h with h | h
            · exact h
            · cases h;have := (hG.lt rfl).2;omega
        · simp only [RowKit.intOf];omega
      · have hjl : j = t.u.length := by omega
        subst hjl
        rw [List.take_length] at hG
        have hT6 : Upd (fun b => b = (w.heap.size + 2)) w6 w_6 := hV9.trans hU_6
        have hT5 : Upd (fun b => b = (w.heap.size + 2)) w5 w_6 := hV6.trans hT6
        have hT4 : Upd (fun b => b = (w.heap.size + 2)) w4 w_6 := hV5.trans hT5
        have hT3 : Upd (fun b => b = (w.heap.size + 2)) w3 w_6 := hV4.trans hT4
        have hT2 : Upd (fun b => b = (w.heap.size + 2)) w2 w_6 := hV3.trans hT3
        have hT1 : Upd (fun b => b = (w.heap.size + 2)) w1 w_6 := hV2.trans hT2
        have hz0_f := hf0.keepS (hT4.keeps fun b _ hk e => hoF b hk e)
        have hz1_f := hf1.keepS (hU_6.keeps fun b _ hk e => hoF b hk e)
        have hTg := hG.tags (ok' := (OkF okT w.heap.size w1.heap.size)) (fun b _ hk => .inl hk) (fun b hb => .inr (by omega))
        have hL : RepL (RepS true (d + 2)) (szS true (d + 2)) (OkF okT w.heap.size w1.heap.size) w_6 t [fX3_0,fX3_1] 0 [x0_0,x0_1,x0_2,x0_3,x0_4,x0_5,x0_6,x0_7,x0_8,x0_9,x0_10,x0_11,x0_12,x0_13,x0_14,x0_15,.slice al1 (t.at 1).l.length kl1] := (RepL.cons16 hz0_f (RepL.cons1 hz1_f RepL.nil))
        have hR : RepS true (d + 3) fs_X3 (OkF okT w.heap.size w1.heap.size) w_6 t [x0_0,x0_1,x0_2,x0_3,x0_4,x0_5,x0_6,x0_7,x0_8,x0_9,x0_10,x0_11,x0_12,x0_13,x0_14,x0_15,.slice al1 (t.at 1).l.length kl1,.map q] := RepS.intro (c := [x0_0,x0_1,x0_2,x0_3,x0_4,x0_5,x0_6,x0_7,x0_8,x0_9,x0_10,x0_11,x0_12,x0_13,x0_14,x0_15,.slice al1 (t.at 1).l.length kl1]) rfl hL hTg
        have hcA : cellsAt #[x0_0,x0_1,x0_2,x0_3,x0_4,x0_5,x0_6,x0_7,x0_8,x0_9,x0_10,x0_11,x0_12,x0_13,x0_14,x0_15,.slice al1 (t.at 1).l.length kl1,.map q] 0 18 = some (.agg #[x0_0,x0_1,x0_2,x0_3,x0_4,x0_5,x0_6,x0_7,x0_8,x0_9,x0_10,x0_11,x0_12,x0_13,x0_14,x0_15,.slice al1 (t.at 1).l.length kl1,.map q]) := cellsAt_full rfl
        have hrb_6 := hT1.blk_some hrb1 (by omega)
        repeat ((first | refine qA rfl ?_|refine qB ?_|refine qC rfl ?_|refine qD ?_|refine qE ?_|refine qF ?_|refine qG ?_|refine qH ?_);try simp (maxSteps:=1000000)(disch:=(first|omega|(simp only [qI,qJ,qK]<;>omega)|exact qL _)) only [go_sem,↓reduceIte,n0,reduceCtorEq,n1,n2,n3,n4,n5,i0,i1,i2,i3,i4,i5,i6,i7,hI,hN,hr1,hr2,hr3,hbv,hrb_6,hcA,fx0_0,fx0_1,fx0_2,fx0_3,fx0_4,fx0_5,fx0_6,fx0_7,fx0_8,fx0_9,fx0_10,fx0_11,fx0_12,fx0_13,fx0_14,fx0_15])
        have hUr : Upd (fun b => b = w.heap.size + 1) w_6 (wr w_6 (w.heap.size + 1) 0 [x0_0,x0_1,x0_2,x0_3,x0_4,x0_5,x0_6,x0_7,x0_8,x0_9,x0_10,x0_11,x0_12,x0_13,x0_14,x0_15,.slice al1 (t.at 1).l.length kl1,.map q]) := (Upd.refl _ _).wr _ _ (.inr rfl)
        refine ⟨⟨_,rfl,(RepS_lay true (d + 3) fs_X3).weaken ((RepS_lay true (d + 3) fs_X3).keep hR (hUr.keeps fun b _ hk e => hoR b hk e)) (fun b _ hk => hk.imp And.left fun h => by omega)⟩,?_⟩
        exact (hE1.more hT1 fun b hb h => by omega).wr _ _ (.inl (by omega))

set_option maxHeartbeats 2000000 in
theorem makeX1_fn {d : Nat} {okT : Blocks} {V : Int} (t : Tree) (ct : List Value) (w : World) (ht : TreeC okT w t ct) (hfit : FitP V (d + 1) fs_X1 t) (hLs : Lists t) :
    Fn Tryz.prog 32 #[.agg ct.toArray] w fun r w' => (∃ cs,r = .agg cs.toArray ∧ RepS true (d + 1) fs_X1 (okN okT w.heap.size) w' t cs) ∧ Ext w w' := by
  obtain ⟨vS,vL,vU,rfl,hn,hSx,hLx0,hUx⟩ := ht.inv
  obtain ⟨bS,cS,rfl,hcS⟩ := hSx.shape
  obtain ⟨bL,cL,rfl,hcL⟩ := SlR.shape hLx0
  obtain ⟨bU,cU,rfl,hcU⟩ := SlR.shape hUx
  obtain ⟨⟨g0,g1,-⟩,hfu⟩ := hfit
  replace g0 : FitF (FitP V d) V fX1_0 (t.at 0) := g0
  replace g1 : FitF (FitP V d) V fX1_1 (t.at 1) := g1
  have hllt : t.l.length < 4611686018427387903 := Nat.lt_of_le_of_lt hLs.len (by decide)
  have hul := hLs.ulen
  refine fn_of_W Tryz.func32 rfl Tryz.results32 Tryz.ntmps32 rfl ?_
  obtain ⟨w1,hw1⟩ : ∃ w1,w1 = (((w.alloc (.cells #[.int .i64 t.n,.slice bS t.s.length cS,.bool t.null,.slice bL t.l.length cL,.slice bU t.u.length cU] 39)).alloc (.cells #[.int .u8 0,.int .u8 0,.int .u8 0,.int .u8 0,.int .u8 0,.int .u8 0,.int .u8 0,.int .u8 0,.int .u8 0,.int .u8 0,.int .u8 0,.int .u8 0,.int .u8 0,.int .u8 0,.int .u8 0,.int .u8 0,.slice none 0 0,.map none] 82)).alloc (.cells #[.int .u8 0,.int .u8 0,.int .u8 0,.int .u8 0,.int .u8 0,.int .u8 0,.int .u8 0,.int .u8 0,.int .u8 0,.int .u8 0,.int .u8 0,.int .u8 0,.int .u8 0,.int .u8 0,.int .u8 0,.int .u8 0,.slice none 0 0,.map none] 82)) := ⟨_,rfl⟩
  have hE1 : Ext w w1 := by rw [hw1];exact ((Upd.refl _ _).alloc _).alloc _ |>.alloc _
  have hz1 : w1.heap.size = w.heap.size + 3 := by rw [hw1];simp only [World.size_alloc]
  have htb1 : blk w1 w.heap.size = some (#[.int .i64 t.n,.slice bS t.s.length cS,.bool t.null,.slice bL t.l.length cL,.slice bU t.u.length cU],39,(0,0)) := by rw [hw1];simp (maxSteps:=1000000)(disch:=(first|omega|(simp only [qI,qJ,qK]<;>omega)|exact qL _)) only [go_sem,↓reduceIte,n0,reduceCtorEq,n1,n2,n3,n4,n5,i0,i1,i2,i3,i4,i5,i6,i7]
  have hrb1 : blk w1 (w.heap.size + 1) = some (#[.int .u8 0,.int .u8 0,.int .u8 0,.int .u8 0,.int .u8 0,.int .u8 0,.int .u8 0,.int .u8 0,.int .u8 0,.int .u8 0,.int .u8 0,.int .u8 0,.int .u8 0,.int .u8 0,.int .u8 0,.int .u8 0,.slice none 0 0,.map none],82,(0,0)) := by rw [hw1];simp (maxSteps:=1000000)(disch:=(first|omega|(simp only [qI,qJ,qK]<;>omega)|exact qL _)) only [go_sem,↓reduceIte,n0,reduceCtorEq,n1,n2,n3,n4,n5,i0,i1,i2,i3,i4,i5,i6,i7]
  have hb1 : blk w1 (w.heap.size + 2) = some (#[.int .u8 0,.int .u8 0,.int .u8 0,.int .u8 0,.int .u8 0,.int .u8 0,.int .u8 0,.int .u8 0,.int .u8 0,.int .u8 0,.int .u8 0,.int .u8 0,.int .u8 0,.int .u8 0,.int .u8 0,.int .u8 0,.slice none 0 0,.map none],82,(0,0)) := by rw [hw1];simp (maxSteps:=1000000)(disch:=(first|omega|(simp only [qI,qJ,qK]<;>omega)|exact qL _)) only [go_sem,↓reduceIte,n0,reduceCtorEq,n1,n2,n3,n4,n5,i0,i1,i2,i3,i4,i5,i6,i7]
  have hoS : ∀ b,(OkS okT w.heap.size) b → b ≠ (w.heap.size + 2) := fun b h => by have := h.2;omega
  have hoR : ∀ b,(OkF okT w.heap.size w1.heap.size) b → b ≠ w.heap.size + 1 := fun b h => by
    rcases h with h | h
    · have := h.2;omega
    · omega
  have htv : ¬ w.heap.size = (w.heap.size + 2) := by omega
  have hoF : ∀ b,(OkF okT w.heap.size w1.heap.size) b → b ≠ (w.heap.size + 2) := fun b h => by
    rcases h with h | h
    · exact hoS b h
    · omega
  have hU1 : Upd (fun b => b = (w.heap.size + 2)) w1 w1 := Upd.refl _ _
  have hvl1 := blk_lt hb1
  have hsz1 := Nat.le_refl w1.heap.size
  have ht1 : TreeC (OkS okT w.heap.size) w1 t [.int .i64 t.n,.slice bS t.s.length cS,.bool t.null,.slice bL t.l.length cL,.slice bU t.u.length cU] := (ht.weaken fun b h1 h2 => ⟨h2,h1⟩).keep (hE1.keeps _)
  have hU1v : TagsV (OkS okT w.heap.size) w1 (.slice bU t.u.length cU) t.u := (hUx.weaken fun b h1 h2 => ⟨h2,h1⟩).keep (hE1.keeps _)
  repeat ((first | refine qA rfl ?_|refine qB ?_|refine qC rfl ?_|refine qD ?_|refine qE ?_|refine qF ?_|refine qG ?_|refine qH ?_);try simp (maxSteps:=1000000)(disch:=(first|omega|(simp only [qI,qJ,qK]<;>omega)|exact qL _)) only [go_sem,↓reduceIte,n0,reduceCtorEq,n1,n2,n3,n4,n5,i0,i1,i2,i3,i4,i5,i6,i7])
  rw [← hw1]
  clear hw1
  refine (iat_fn (ok := (OkS okT w.heap.size)) t 0 _ _ (ht1.keep (hU1.keeps fun b _ hk e => hoS b hk e)) (by decide) hllt).mono ?_
  rintro r2 w2 ⟨⟨ca2,rfl,hca2⟩,hEa2⟩
  obtain ⟨vSa2,vLa2,vUa2,rfl,hna2,hSa2,hLa2,hUa2⟩ := hca2.inv
  obtain ⟨bSa2,cSa2,rfl,hcSa2⟩ := hSa2.shape
  obtain ⟨bLa2,cLa2,rfl,hcLa2⟩ := SlR.shape hLa2
  have hfU2 := SlR.flat hUa2
  clear hcSa2 hcLa2 hna2
  have hV2 : Upd (fun b => b = (w.heap.size + 2)) w1 w2 := hEa2.mono fun _ h => h.elim
  have hU2 : Upd (fun b => b = (w.heap.size + 2)) w1 w2 := hU1.trans hV2
  have htb2 := hU2.blk_some htb1 htv
  have hvl2 : (w.heap.size + 2) < w2.heap.size := Nat.lt_of_lt_of_le hvl1 hU2.size
  have hsz2 := hU2.size
  have hb2 : blk w2 (w.heap.size + 2) = some (#[.int .u8 0,.int .u8 0,.int .u8 0,.int .u8 0,.int .u8 0,.int .u8 0,.int .u8 0,.int .u8 0,.int .u8 0,.int .u8 0,.int .u8 0,.int .u8 0,.int .u8 0,.int .u8 0,.int .u8 0,.int .u8 0,.slice none 0 0,.map none],82,(0,0)) := hEa2.blk_some hb1 id
  simp (maxSteps:=1000000)(disch:=(first|omega|(simp only [qI,qJ,qK]<;>omega)|exact qL _)) only [go_sem,↓reduceIte,n0,reduceCtorEq,n1,n2,n3,n4,n5,i0,i1,i2,i3,i4,i5,i6,i7,hb2,htb2]
  refine (sixteen_fn (okT := (OkS okT w.heap.size)) _ (t.at 0).s _ hSa2).mono ?_
  rintro r3 w3 ⟨hp3,hEa3⟩
  have hsp3 := hsz2
  have hV3 : Upd (fun b => b = (w.heap.size + 2)) w2 w3 := hEa3.mono fun _ h => h.elim
  have hU3 : Upd (fun b => b = (w.heap.size + 2)) w1 w3 := hU2.trans hV3
  have htb3 := hU3.blk_some htb1 htv
  have hvl3 : (w.heap.size + 2) < w3.heap.size := Nat.lt_of_lt_of_le hvl1 hU3.size
  have hsz3 := hU3.size
  clear hvl2 hsz2
  have hb3 : blk w3 (w.heap.size + 2) = some (#[.int .u8 0,.int .u8 0,.int .u8 0,.int .u8 0,.int .u8 0,.int .u8 0,.int .u8 0,.int .u8 0,.int .u8 0,.int .u8 0,.int .u8 0,.int .u8 0,.int .u8 0,.int .u8 0,.int .u8 0,.int .u8 0,.slice none 0 0,.map none],82,(0,0)) := hEa3.blk_some hb2 id
  subst hp3
  have hl16_0 : ((uuidS (t.at 0).s).map byteV).length = 16 := by rw [List.length_map,uuidS_len]
  have hx16_0 := flat_bytes (uuidS (t.at 0).s)
  generalize hX0 : (uuidS (t.at 0).s).map byteV = X0 at *
  obtain ⟨x0_0,x0_1,x0_2,x0_3,x0_4,x0_5,x0_6,x0_7,x0_8,x0_9,x0_10,x0_11,x0_12,x0_13,x0_14,x0_15,rfl⟩ := list16 hl16_0
  simp only [List.all_cons,List.all_nil,Bool.and_true,Bool.and_eq_true] at hx16_0
  obtain ⟨fx0_0,fx0_1,fx0_2,fx0_3,fx0_4,fx0_5,fx0_6,fx0_7,fx0_8,fx0_9,fx0_10,fx0_11,fx0_12,fx0_13,fx0_14,fx0_15⟩ := hx16_0
  simp (maxSteps:=1000000)(disch:=(first|omega|(simp only [qI,qJ,qK]<;>omega)|exact qL _)) only [go_sem,↓reduceIte,n0,reduceCtorEq,n1,n2,n3,n4,n5,i0,i1,i2,i3,i4,i5,i6,i7,hb3,htb3,fx0_0,fx0_1,fx0_2,fx0_3,fx0_4,fx0_5,fx0_6,fx0_7,fx0_8,fx0_9,fx0_10,fx0_11,fx0_12,fx0_13,fx0_14,fx0_15]
  generalize hw4 : wr w3 (w.heap.size + 2) 0 [x0_0,x0_1,x0_2,x0_3,x0_4,x0_5,x0_6,x0_7,x0_8,x0_9,x0_10,x0_11,x0_12,x0_13,x0_14,x0_15] = w4
  have hV4 : Upd (fun b => b = (w.heap.size + 2)) w3 w4 := by rw [← hw4];exact (Upd.refl _ _).wr _ _ (.inr rfl)
  have hb4 : blk w4 (w.heap.size + 2) = some (#[x0_0,x0_1,x0_2,x0_3,x0_4,x0_5,x0_6,x0_7,x0_8,x0_9,x0_10,x0_11,x0_12,x0_13,x0_14,x0_15,.slice none 0 0,.map none],82,(0,0)) := by rw [← hw4,blk_wr_eq,hb3];simp only [Option.map_some,wrArr_cons,wrArr_nil,List.setIfInBounds_toArray,List.set_cons_zero,List.set_cons_succ,Nat.reduceAdd]
  have hU4 : Upd (fun b => b = (w.heap.size + 2)) w1 w4 := hU3.trans hV4
  have htb4 := hU4.blk_some htb1 htv
  have hvl4 : (w.heap.size + 2) < w4.heap.size := Nat.lt_of_lt_of_le hvl1 hU4.size
  have hsz4 := hU4.size
  clear hvl3 hsz3
  clear hw4
  have hf0 : RepF (RepS true d) (szS true d) fX1_0 (OkF okT w.heap.size w1.heap.size) w4 (t.at 0) [x0_0,x0_1,x0_2,x0_3,x0_4,x0_5,x0_6,x0_7,x0_8,x0_9,x0_10,x0_11,x0_12,x0_13,x0_14,x0_15] := (RepF_uuid rfl).2 hX0.symm
  have hn0_1 : (t.at 1).null = false := g1.notnull (by decide)
  have hll1 := (g1.list rfl).1
  repeat ((first | refine qA rfl ?_|refine qB ?_|refine qC rfl ?_|refine qD ?_|refine qE ?_|refine qF ?_|refine qG ?_|refine qH ?_);try simp (maxSteps:=1000000)(disch:=(first|omega|(simp only [qI,qJ,qK]<;>omega)|exact qL _)) only [go_sem,↓reduceIte,n0,reduceCtorEq,n1,n2,n3,n4,n5,i0,i1,i2,i3,i4,i5,i6,i7,hb4,htb4])
  refine (iat_fn (ok := (OkS okT w.heap.size)) t 1 _ _ (ht1.keep (hU4.keeps fun b _ hk e => hoS b hk e)) (by decide) hllt).mono ?_
  rintro r5 w5 ⟨⟨ca5,rfl,hca5⟩,hEa5⟩
  obtain ⟨vSa5,vLa5,vUa5,rfl,hna5,hSa5,hLa5,hUa5⟩ := hca5.inv
  obtain ⟨bSa5,cSa5,rfl,hcSa5⟩ := hSa5.shape
  obtain ⟨bLa5,cLa5,rfl,hcLa5⟩ := SlR.shape hLa5
  have hfU5 := SlR.flat hUa5
  clear hcSa5 hcLa5 hna5
  have hV5 : Upd (fun b => b = (w.heap.size + 2)) w4 w5 := hEa5.mono fun _ h => h.elim
  have hU5 : Upd (fun b => b = (w.heap.size + 2)) w1 w5 := hU4.trans hV5
  have htb5 := hU5.blk_some htb1 htv
  have hvl5 : (w.heap.size + 2) < w5.heap.size := Nat.lt_of_lt_of_le hvl1 hU5.size
  have hsz5 := hU5.size
  clear hvl4 hsz4
  have hb5 : blk w5 (w.heap.size + 2) = some (#[x0_0,x0_1,x0_2,x0_3,x0_4,x0_5,x0_6,x0_7,x0_8,x0_9,x0_10,x0_11,x0_12,x0_13,x0_14,x0_15,.slice none 0 0,.map none],82,(0,0)) := hEa5.blk_some hb4 id
  simp (maxSteps:=1000000)(disch:=(first|omega|(simp only [qI,qJ,qK]<;>omega)|exact qL _)) only [go_sem,↓reduceIte,n0,reduceCtorEq,n1,n2,n3,n4,n5,i0,i1,i2,i3,i4,i5,i6,i7,hn0_1,hb5,htb5]
  repeat ((first | refine qA rfl ?_|refine qB ?_|refine qC rfl ?_|refine qD ?_|refine qE ?_|refine qF ?_|refine qG ?_|refine qH ?_);try simp (maxSteps:=1000000)(disch:=(first|omega|(simp only [qI,qJ,qK]<;>omega)|exact qL _)) only [go_sem,↓reduceIte,n0,reduceCtorEq,n1,n2,n3,n4,n5,i0,i1,i2,i3,i4,i5,i6,i7,hb5,htb5])
  refine (iat_fn (ok := (OkS okT w.heap.size)) t 1 _ _ (ht1.keep (hU5.keeps fun b _ hk e => hoS b hk e)) (by decide) hllt).mono ?_
  rintro r6 w6 ⟨⟨ca6,rfl,hca6⟩,hEa6⟩
  obtain ⟨vSa6,vLa6,vUa6,rfl,hna6,hSa6,hLa6,hUa6⟩ := hca6.inv
  obtain ⟨bSa6,cSa6,rfl,hcSa6⟩ := hSa6.shape
  obtain ⟨bLa6,cLa6,rfl,hcLa6⟩ := SlR.shape hLa6
  have hfU6 := SlR.flat hUa6
  clear hcSa6 hcLa6 hna6
  have hV6 : Upd (fun b => b = (w.heap.size + 2)) w5 w6 := hEa6.mono fun _ h => h.elim
  have hU6 : Upd (fun b => b = (w.heap.size + 2)) w1 w6 := hU5.trans hV6
  have htb6 := hU6.blk_some htb1 htv
  have hvl6 : (w.heap.size + 2) < w6.heap.size := Nat.lt_of_lt_of_le hvl1 hU6.size
  have hsz6 := hU6.size
  clear hvl5 hsz5
  have hb6 : blk w6 (w.heap.size + 2) = some (#[x0_0,x0_1,x0_2,x0_3,x0_4,x0_5,x0_6,x0_7,x0_8,x0_9,x0_10,x0_11,x0_12,x0_13,x0_14,x0_15,.slice none 0 0,.map none],82,(0,0)) := hEa6.blk_some hb5 id
  simp (maxSteps:=1000000)(disch:=(first|omega|(simp only [qI,qJ,qK]<;>omega)|exact qL _)) only [go_sem,↓reduceIte,n0,reduceCtorEq,n1,n2,n3,n4,n5,i0,i1,i2,i3,i4,i5,i6,i7,hb6,htb6]
  refine wp_make (T := 80) (E := 21) (size := 1) (bytes := 4) (z := (.int .i32 0)) (l := 0) (c := (t.at 1).l.length) (kl := .i64) (kc := .i64) (by kernel_rfl) (by kernel_rfl) (by simp (maxSteps:=1000000)(disch:=(first|omega|(simp only [qI,qJ,qK]<;>omega)|exact qL _)) only [go_sem,↓reduceIte,n0,reduceCtorEq,n1,n2,n3,n4,n5,i0,i1,i2,i3,i4,i5,i6,i7];rfl) (by simp (maxSteps:=1000000)(disch:=(first|omega|(simp only [qI,qJ,qK]<;>omega)|exact qL _)) only [go_sem,↓reduceIte,n0,reduceCtorEq,n1,n2,n3,n4,n5,i0,i1,i2,i3,i4,i5,i6,i7]) (by omega) (by omega) (by omega) ?_
  simp (maxSteps:=1000000)(disch:=(first|omega|(simp only [qI,qJ,qK]<;>omega)|exact qL _)) only [go_sem,↓reduceIte,n0,reduceCtorEq,n1,n2,n3,n4,n5,i0,i1,i2,i3,i4,i5,i6,i7,hb6,hvl6,htb6]
  have hszB1 := hsz6
  generalize hw7 : wr (w6.alloc (.cells (madeCells #[.int .i32 0] ((t.at 1).l.length * 1)) 21)) (w.heap.size + 2) 16 [.slice (some ⟨w6.heap.size,0,none⟩) 0 (t.at 1).l.length] = w7
  have hV7 : Upd (fun b => b = (w.heap.size + 2)) w6 w7 := by rw [← hw7];exact ((Upd.refl _ _).alloc _).wr _ _ (.inr rfl)
  have hb7 : blk w7 (w.heap.size + 2) = some (#[x0_0,x0_1,x0_2,x0_3,x0_4,x0_5,x0_6,x0_7,x0_8,x0_9,x0_10,x0_11,x0_12,x0_13,x0_14,x0_15,.slice (some ⟨w6.heap.size,0,none⟩) 0 (t.at 1).l.length,.map none],82,(0,0)) := by rw [← hw7,blk_wr_eq,blk_alloc_old hvl6,hb6];rfl
  have hrow7 : blk w7 w6.heap.size = some (madeCells #[.int .i32 0] ((t.at 1).l.length * 1),21,(0,0)) := by rw [← hw7,blk_wr_ne (Nat.ne_of_gt hvl6),blk_alloc_new rfl]
  have hg7 : GrowR (Rep1 (RepS true d) fX1_1.of fX1_1.sub) 1 (OkF okT w.heap.size w1.heap.size) w6.heap.size (w.heap.size + 2) w7 21 (.slice (some ⟨w6.heap.size,0,none⟩) 0 (t.at 1).l.length) [] := GrowR.made hrow7 (size_madeCells _ _) (Nat.le_refl _)
  have hU7 : Upd (fun b => b = (w.heap.size + 2)) w1 w7 := hU6.trans hV7
  have htb7 := hU7.blk_some htb1 htv
  have hvl7 : (w.heap.size + 2) < w7.heap.size := Nat.lt_of_lt_of_le hvl1 hU7.size
  have hsz7 := hU7.size
  clear hvl6 hsz6
  clear hw7 hrow7
  repeat ((first | refine qA rfl ?_|refine qB ?_|refine qC rfl ?_|refine qD ?_|refine qE ?_|refine qF ?_|refine qG ?_|refine qH ?_);try simp (maxSteps:=1000000)(disch:=(first|omega|(simp only [qI,qJ,qK]<;>omega)|exact qL _)) only [go_sem,↓reduceIte,n0,reduceCtorEq,n1,n2,n3,n4,n5,i0,i1,i2,i3,i4,i5,i6,i7,hb7,htb7])
  refine (iat_fn (ok := (OkS okT w.heap.size)) t 1 _ _ (ht1.keep (hU7.keeps fun b _ hk e => hoS b hk e)) (by decide) hllt).mono ?_
  rintro r8 w8 ⟨⟨ca8,rfl,hca8⟩,hEa8⟩
  obtain ⟨vSa8,vLa8,vUa8,rfl,hna8,hSa8,hLa8,hUa8⟩ := hca8.inv
  obtain ⟨bSa8,cSa8,rfl,hcSa8⟩ := hSa8.shape
  obtain ⟨bLa8,cLa8,rfl,hcLa8⟩ := SlR.shape hLa8
  have hfU8 := SlR.flat hUa8
  clear hcSa8 hcLa8 hna8
  have hV8 : Upd (fun b => b = (w.heap.size + 2)) w7 w8 := hEa8.mono fun _ h => h.elim
  have hU8 : Upd (fun b => b = (w.heap.size + 2)) w1 w8 := hU7.trans hV8
  have htb8 := hU8.blk_some htb1 htv
  have hvl8 : (w.heap.size + 2) < w8.heap.size := Nat.lt_of_lt_of_le hvl1 hU8.size
  have hsz8 := hU8.size
  clear hvl7 hsz7
  have hb8 : blk w8 (w.heap.size + 2) = some (#[x0_0,x0_1,x0_2,x0_3,x0_4,x0_5,x0_6,x0_7,x0_8,x0_9,x0_10,x0_11,x0_12,x0_13,x0_14,x0_15,.slice (some ⟨w6.heap.size,0,none⟩) 0 (t.at 1).l.length,.map none],82,(0,0)) := hEa8.blk_some hb7 id
  have hg8 := hg7.ext (Rep1_lay _ _ fun _ => RepS_lay true d _) hEa8
  simp (maxSteps:=1000000)(disch:=(first|omega|(simp only [qI,qJ,qK]<;>omega)|exact qL _)) only [go_sem,↓reduceIte,n0,reduceCtorEq,n1,n2,n3,n4,n5,i0,i1,i2,i3,i4,i5,i6,i7,hb8,htb8]
  repeat ((first | refine qA rfl ?_|refine qB ?_|refine qC rfl ?_|refine qD ?_|refine qE ?_|refine qF ?_|refine qG ?_|refine qH ?_);try simp (maxSteps:=1000000)(disch:=(first|omega|(simp only [qI,qJ,qK]<;>omega)|exact qL _)) only [go_sem,↓reduceIte,n0,reduceCtorEq,n1,n2,n3,n4,n5,i0,i1,i2,i3,i4,i5,i6,i7,hb8,htb8])
  have hVb1 : Upd (fun b => b = (w.heap.size + 2)) w6 w8 := hV7.trans hV8
  have hUb1 := hU6
  have hvlB1 : (w.heap.size + 2) < w6.heap.size := Nat.lt_of_lt_of_le hvl1 hszB1
  have hszL1 : w6.heap.size ≤ w8.heap.size := hVb1.size
  refine W.exitJ 0 (fun ρ w' => ∃ v,ρ 1 = .pointer (some ⟨w.heap.size,0,none⟩) ∧ ρ 2 = .pointer (some ⟨w.heap.size + 1,0,none⟩) ∧ ρ 3 = .pointer (some ⟨(w.heap.size + 2),0,none⟩) ∧ blk w' (w.heap.size + 2) = some (#[x0_0,x0_1,x0_2,x0_3,x0_4,x0_5,x0_6,x0_7,x0_8,x0_9,x0_10,x0_11,x0_12,x0_13,x0_14,x0_15,v,.map none],82,(0,0)) ∧ GrowR (Rep1 (RepS true d) fX1_1.of fX1_1.sub) 1 (OkF okT w.heap.size w1.heap.size) w6.heap.size (w.heap.size + 2) w' 21 v (t.at 1).l ∧ v ≠ .slice none 0 0 ∧ Upd (fun b => b = (w.heap.size + 2) ∨ w6.heap.size ≤ b) w8 w')
    (W.loop (fun ρ w' => ∃ (j : Nat) (v : Value),j ≤ (t.at 1).l.length ∧ ρ 27 = .int .i64 j ∧ ρ 26 = .int .i64 (t.at 1).l.length ∧ ρ 25 = .slice bLa8 (t.at 1).l.length cLa8 ∧ ρ 1 = .pointer (some ⟨w.heap.size,0,none⟩) ∧ ρ 2 = .pointer (some ⟨w.heap.size + 1,0,none⟩) ∧ ρ 3 = .pointer (some ⟨(w.heap.size + 2),0,none⟩) ∧ blk w' (w.heap.size + 2) = some (#[x0_0,x0_1,x0_2,x0_3,x0_4,x0_5,x0_6,x0_7,x0_8,x0_9,x0_10,x0_11,x0_12,x0_13,x0_14,x0_15,v,.map none],82,(0,0)) ∧ GrowR (Rep1 (RepS true d) fX1_1.of fX1_1.sub) 1 (OkF okT w.heap.size w1.heap.size) w6.heap.size (w.heap.size + 2) w' 21 v ((t.at 1).l.take j) ∧ v ≠ .slice none 0 0 ∧ Upd (fun b => b = (w.heap.size + 2) ∨ w6.heap.size ≤ b) w8 w')
      (fun ρ _ => (t.at 1).l.length - (RowKit.intOf (ρ 27)).toNat) ?_ ?_) ?_
  · refine ⟨0,_,Nat.zero_le _,?_,?_,?_,?_,?_,?_,hb8,hg8,(by intro h;cases h),Upd.refl _ _⟩ <;> simp (maxSteps:=1000000)(disch:=(first|omega|(simp only [qI,qJ,qK]<;>omega)|exact qL _)) only [go_sem,↓reduceIte,n0,reduceCtorEq,n1,n2,n3,n4,n5,i0,i1,i2,i3,i4,i5,i6,i7]
    all_goals rfl
  · rintro ρ w_6 ⟨j,v,hj,hI,hN,hS,hr1,hr2,hr3,hbv,hg,hnil,hU_6⟩
    have hz_6 := hU_6.size
    have hJ_6 : Upd (fun b => b = (w.heap.size + 2)) w6 w_6 := hVb1.more hU_6 fun b hb h => h.elim id fun h => absurd h (by omega)
    have hU_16 : Upd (fun b => b = (w.heap.size + 2)) w1 w_6 := hUb1.trans hJ_6
    have hht_6 := hU_16.blk_some htb1 htv
    have hLt_6 := hLa8.keep (hU_6.keeps fun b _ hk e => e.elim (hoS b hk) fun e => by have := hk.2;omega)
    by_cases hlt : j < (t.at 1).l.length
    · obtain ⟨_,b,o,x,vS',vL',vU',hb,hokb,hx,hblt,hxs,hxe,q1,q2,q3,hc⟩ := TreesV.get hLt_6 hlt
      subst hb
      have hbS := (TreeC.inv hc)
      have hcat : (t.at 1).l.take (j + 1) = (t.at 1).l.take j ++ [(t.at 1).l[j]] := List.take_succ_eq_append_getElem hlt
      have hlen_9 : ((t.at 1).l.take j).length = j := by simp;omega
      have hgx := (g1.list rfl).2 _ (List.getElem_mem hlt)
      have hLx := (hLs.at 1).get hlt
      have hnb : ∀ b,b < w6.heap.size ∨ b = w_6.heap.size → ¬ ownB v b := fun b hb h => by
        have := hg.above h
        have := hg.below h
        omega
      generalize (t.at 1).l[j] = y at *
      obtain ⟨vSy,vLy,vUy,hcells,hny,hSy,hLy,hUy⟩ := hbS
      simp only [List.cons.injEq,true_and,and_true] at hcells
      obtain ⟨rfl,rfl,rfl⟩ := hcells
      obtain ⟨bSy,cSy,rfl,hcSy⟩ := hSy.shape
      repeat ((first | refine qA rfl ?_|refine qB ?_|refine qC rfl ?_|refine qD ?_|refine qE ?_|refine qF ?_|refine qG ?_|refine qH ?_);try simp (maxSteps:=1000000)(disch:=(first|omega|(simp only [qI,qJ,qK]<;>omega)|exact qL _)) only [go_sem,↓reduceIte,n0,reduceCtorEq,n1,n2,n3,n4,n5,i0,i1,i2,i3,i4,i5,i6,i7,hI,hN,hS,hx,hxe,q1,q2,q3,cellsAt_five,Int.toNat_natCast])
      generalize hw_7 : (wr (w_6.alloc (.cells #[.int .i64 0,.slice none 0 0,.bool false,.slice none 0 0,.slice none 0 0] 39)) w_6.heap.size 0 [.int .i64 y.n,.slice bSy y.s.length cSy,.bool y.null,vL',vU']) = w_7
      have hE_7 : Ext w_6 w_7 := by rw [← hw_7];exact (Upd.alloc (Upd.refl _ _) _).wr _ _ (.inl (Nat.le_refl _))
      have hb_7 : blk w_7 w_6.heap.size = some (#[.int .i64 y.n,.slice bSy y.s.length cSy,.bool y.null,vL',vU'],39,(0,0)) := by rw [← hw_7];simp (maxSteps:=1000000)(disch:=(first|omega|(simp only [qI,qJ,qK]<;>omega)|exact qL _)) only [go_sem,↓reduceIte,n0,reduceCtorEq,n1,n2,n3,n4,n5,i0,i1,i2,i3,i4,i5,i6,i7]
      have hz_7 : w_7.heap.size = w_6.heap.size + 1 := by rw [← hw_7];simp only [size_wr,World.size_alloc]
      have hbt_7 := hE_7.blk_some hbv id
      have hgv_7 := hE_7.blk_some hht_6 id
      have hc_7 := hc.keep (hE_7.keeps _)
      have hS_7 := hSy.keep (hE_7.keeps _)
      have hg_7 := hg.ext (Rep1_lay _ _ fun _ => RepS_lay true d _) hE_7
      clear hw_7
      simp (maxSteps:=1000000)(disch:=(first|omega|(simp only [qI,qJ,qK]<;>omega)|exact qL _)) only [go_sem,↓reduceIte,n0,reduceCtorEq,n1,n2,n3,n4,n5,i0,i1,i2,i3,i4,i5,i6,i7,hr1,hr2,hr3,hbt_7,hb_7,hgv_7,cellsAt_five]
      have hE_7d : Ext w_7 w_7 := Upd.refl _ _
      have hg_7d := hg_7
      have hzd : w_7.heap.size = w_7.heap.size := rfl
      have hbt_7d := hbt_7
      have hM_9 : Upd (ownB v) w_7 (w_7.alloc (.cells #[.int .i32 (IntKind.i32.wrap y.n)] 21)) := (Upd.refl _ _).alloc _
      have hE_79 : Ext w_7 (w_7.alloc (.cells #[.int .i32 (IntKind.i32.wrap y.n)] 21)) := Upd.alloc (Upd.refl _ _) _
      have hg_9 := hg_7d.ext (Rep1_lay _ _ fun _ => RepS_lay true d _) hE_79
      have hx_9 : Rep1 (RepS true d) fX1_1.of fX1_1.sub (fun b => (OkF okT w.heap.size w1.heap.size) b ∧ b ≠ (w.heap.size + 2) ∧ ¬ ownB v b) (w_7.alloc (.cells #[.int .i32 (IntKind.i32.wrap y.n)] 21)) y [.int .i32 (IntKind.i32.wrap y.n)] := (Rep1_num (by decide)).2 rfl
      obtain ⟨css,hown,hall⟩ := hg_9.ex
      have hcl_9 := hall.1
      refine wp_append ap_80_80 (m := 1) (news := [.int .i32 (IntKind.i32.wrap y.n)]) (n := css.length) (cs := css.flatten) (v := v) ?_ rfl hown.1 (all2_flat_R (Rep1_lay _ _ fun _ => RepS_lay true d _) hall) (Src.blk (fr := (0,0)) (T := 21) (blk_alloc_new (by first | rfl | omega | (simp only [size_drew];omega))) rfl rfl) ?_ ?_ ?_
      · simp (maxSteps:=1000000)(disch:=(first|omega|(simp only [qI,qJ,qK]<;>omega)|exact qL _)) only [go_sem,↓reduceIte,n0,reduceCtorEq,n1,n2,n3,n4,n5,i0,i1,i2,i3,i4,i5,i6,i7]
      · simp only [World.size_alloc,size_drew];omega
      · omega
      intro v' w_10 ho hu hfr
      have hg_10 := GrowR.snoc (Rep1_lay _ _ fun _ => RepS_lay true d _) hown hall hx_9 hu hfr ho
      have hz_10 := hu.size
      simp only [World.size_alloc,size_drew] at hz_10
      obtain ⟨va,vc,hv',_⟩ := ho.shape
      subst hv'
      have hbt_10 := (hM_9.trans hu).blk_some hbt_7d (hnb _ (.inl hvlB1))
      have htb' : ¬ ownB (.slice va (css.length + 1) vc) (w.heap.size + 2) := fun h => by
        rcases hfr _ h with h | h
        · exact hnb _ (.inl hvlB1) h
        · simp only [World.size_alloc,size_drew] at h;omega
      simp (maxSteps:=1000000)(disch:=(first|omega|(simp only [qI,qJ,qK]<;>omega)|exact qL _)) only [go_sem,↓reduceIte,n0,reduceCtorEq,n1,n2,n3,n4,n5,i0,i1,i2,i3,i4,i5,i6,i7,hr1,hr2,hr3,hbt_10]
      repeat ((first | refine qA rfl ?_|refine qB ?_|refine qC rfl ?_|refine qD ?_|refine qE ?_|refine qF ?_|refine qG ?_|refine qH ?_);try simp (maxSteps:=1000000)(disch:=(first|omega|(simp only [qI,qJ,qK]<;>omega)|exact qL _)) only [go_sem,↓reduceIte,n0,reduceCtorEq,n1,n2,n3,n4,n5,i0,i1,i2,i3,i4,i5,i6,i7,hI])
      refine ⟨⟨j + 1,.slice va (css.length + 1) vc,by omega,rfl,hN,hS,hr1,hr2,hr3,?_,?_,?_,?_⟩,?_⟩
      · simp (maxSteps:=1000000)(disch:=(first|omega|(simp only [qI,qJ,qK]<;>omega)|exact qL _)) only [go_sem,↓reduceIte,n0,reduceCtorEq,n1,n2,n3,n4,n5,i0,i1,i2,i3,i4,i5,i6,i7,hbt_10]
      · rw [hcat];exact hg_10.upd (Rep1_lay _ _ fun _ => RepS_lay true d _) ((Upd.refl _ _).wr _ _ (.inr rfl)) htb'
      · intro h;cases h
      · refine Upd.wr ?_ _ _ (.inr (.inl rfl))
        exact hU_6.more (((hE_7.mono fun _ h => h.elim).trans (hE_7d.mono fun _ h => h.elim)).trans (hM_9.trans hu)) fun b hb h => .inr (hg.above h)
      · simp only [RowKit.intOf];omega
    · have hjl : j = (t.at 1).l.length := by omega
      subst hjl
      rw [List.take_length] at hg
      repeat ((first | refine qA rfl ?_|refine qB ?_|refine qC rfl ?_|refine qD ?_|refine qE ?_|refine qF ?_|refine qG ?_|refine qH ?_);try simp (maxSteps:=1000000)(disch:=(first|omega|(simp only [qI,qJ,qK]<;>omega)|exact qL _)) only [go_sem,↓reduceIte,n0,reduceCtorEq,n1,n2,n3,n4,n5,i0,i1,i2,i3,i4,i5,i6,i7,hI,hN])
      exact ⟨v,hr1,hr2,hr3,hbv,hg,hnil,hU_6⟩
  · rintro ρ w9 ⟨v1,hr1,hr2,hr3,hb9,hg9,hnil1,hK9⟩
    have hV9 : Upd (fun b => b = (w.heap.size + 2)) w6 w9 := hVb1.more hK9 fun b hb h => h.elim id fun h => absurd h (by omega)
    have hU9 : Upd (fun b => b = (w.heap.size + 2)) w1 w9 := hU6.trans hV9
    have htb9 := hU9.blk_some htb1 htv
    have hvl9 : (w.heap.size + 2) < w9.heap.size := Nat.lt_of_lt_of_le hvl1 hU9.size
    have hsz9 := hU9.size
    clear hvl8 hsz8
    obtain ⟨al1,kl1,rfl,_⟩ := hg9.shape
    have hf1 : RepF (RepS true d) (szS true d) fX1_1 (OkF okT w.heap.size w1.heap.size) w9 (t.at 1) [.slice al1 (t.at 1).l.length kl1] := (RepF_list rfl hn0_1).2 ⟨_,rfl,hg9.sl (Rep1_lay _ _ fun _ => RepS_lay true d _) (fun _ _ h => h) (fun b hb => .inr (by omega)),hg9.some hnil1⟩
    repeat ((first | refine qA rfl ?_|refine qB ?_|refine qC rfl ?_|refine qD ?_|refine qE ?_|refine qF ?_|refine qG ?_|refine qH ?_);try simp (maxSteps:=1000000)(disch:=(first|omega|(simp only [qI,qJ,qK]<;>omega)|exact qL _)) only [go_sem,↓reduceIte,n0,reduceCtorEq,n1,n2,n3,n4,n5,i0,i1,i2,i3,i4,i5,i6,i7,hb9,htb9,hr1,hr2,hr3])
    have hUv := hU1v.keep (hU9.keeps fun b _ hk e => hoS b hk e)
    refine W.loop (fun ρ w' => ∃ (j : Nat) (q : Option Nat),j ≤ t.u.length ∧ ρ 43 = .int .i64 j ∧ ρ 42 = .int .i64 t.u.length ∧ ρ 41 = .slice bU t.u.length cU ∧ ρ 1 = .pointer (some ⟨w.heap.size,0,none⟩) ∧ ρ 2 = .pointer (some ⟨w.heap.size + 1,0,none⟩) ∧ ρ 3 = .pointer (some ⟨(w.heap.size + 2),0,none⟩) ∧ blk w' (w.heap.size + 2) = some (#[x0_0,x0_1,x0_2,x0_3,x0_4,x0_5,x0_6,x0_7,x0_8,x0_9,x0_10,x0_11,x0_12,x0_13,x0_14,x0_15,.slice al1 (t.at 1).l.length kl1,.map q],82,(0,0)) ∧ TagsG (OkS okT w.heap.size) w9.heap.size w' (.map q) (t.u.take j) ∧ Upd (fun b => b = (w.heap.size + 2)) w9 w')
        (fun ρ _ => t.u.length - (RowKit.intOf (ρ 43)).toNat) ?_ ?_
    · refine ⟨0,none,Nat.zero_le _,?_,?_,?_,?_,?_,?_,hb9,TagsG.start _ _ _,Upd.refl _ _⟩ <;> simp (maxSteps:=1000000)(disch:=(first|omega|(simp only [qI,qJ,qK]<;>omega)|exact qL _)) only [go_sem,↓reduceIte,n0,reduceCtorEq,n1,n2,n3,n4,n5,i0,i1,i2,i3,i4,i5,i6,i7,hr1,hr2,hr3]
      all_goals rfl
    · rintro ρ w_6 ⟨j,q,hj,hI,hN,hS,hr1,hr2,hr3,hbv,hG,hU_6⟩
      have hz_6 := hU_6.size
      have hUv_6 := hUv.keep (hU_6.keeps fun b _ hk e => hoS b hk e)
      have hU_16 : Upd (fun b => b = (w.heap.size + 2)) w1 w_6 := hU9.trans hU_6
      have hz_16 := hU_16.size
      by_cases hlt : j < t.u.length
      · obtain ⟨_,b,o,x,vv,hb,hokb,hx,hblt,hxs,hxe,_,_,hfv,hbvv,h32⟩ := TagsV.get hUv_6 hlt
        subst hb
        have hcat : t.u.take (j + 1) = t.u.take j ++ [t.u[j]] := List.take_succ_eq_append_getElem hlt
        have hnew : ∀ z ∈ t.u.take j,z.1 ≠ t.u[j].1 := by
          intro z hz
          obtain ⟨k,hk,rfl⟩ := List.getElem_of_mem hz
          simp only [List.length_take] at hk
          have := List.pairwise_iff_getElem.1 hfu.2.2 k j (by omega) hlt (by omega)
          rw [List.getElem_take];omega
        generalize t.u[j] = y at *
        obtain ⟨bSy,cSy,rfl,hcSy⟩ := hbvv.shape
        repeat ((first | refine qA rfl ?_|refine qB ?_|refine qC rfl ?_|refine qD ?_|refine qE ?_|refine qF ?_|refine qG ?_|refine qH ?_);try simp (maxSteps:=1000000)(disch:=(first|omega|(simp only [qI,qJ,qK]<;>omega)|exact qL _)) only [go_sem,↓reduceIte,n0,reduceCtorEq,n1,n2,n3,n4,n5,i0,i1,i2,i3,i4,i5,i6,i7,hI,hN,hS,hx,hxe,hfv,cellsAt_two,Int.toNat_natCast])
        generalize hw_7 : (wr (w_6.alloc (.cells #[.int .u32 0,.slice none 0 0] 67)) w_6.heap.size 0 [.int .u32 y.1,.slice bSy y.2.length cSy]) = w_7
        have hE_7 : Ext w_6 w_7 := by rw [← hw_7];exact (Upd.alloc (Upd.refl _ _) _).wr _ _ (.inl (Nat.le_refl _))
        have hb_7 : blk w_7 w_6.heap.size = some (#[.int .u32 y.1,.slice bSy y.2.length cSy],67,(0,0)) := by rw [← hw_7];simp (maxSteps:=1000000)(disch:=(first|omega|(simp only [qI,qJ,qK]<;>omega)|exact qL _)) only [go_sem,↓reduceIte,n0,reduceCtorEq,n1,n2,n3,n4,n5,i0,i1,i2,i3,i4,i5,i6,i7]
        have hz_7 : w_7.heap.size = w_6.heap.size + 1 := by rw [← hw_7];simp only [size_wr,World.size_alloc]
        clear hw_7
        have hbt_7 := hE_7.blk_some hbv id
        simp (maxSteps:=1000000)(disch:=(first|omega|(simp only [qI,qJ,qK]<;>omega)|exact qL _)) only [go_sem,↓reduceIte,n0,reduceCtorEq,n1,n2,n3,n4,n5,i0,i1,i2,i3,i4,i5,i6,i7,hr1,hr2,hr3,hbt_7,hb_7,cellsAt_two]
        have hE_7d : Ext w_7 w_7 := Upd.refl _ _
        have hE_6d : Ext w_6 w_7 := hE_7.trans hE_7d
        have hG_7 : TagsG (OkS okT w.heap.size) w9.heap.size w_7 (.map q) (t.u.take j) := hG.keep fun b hb _ => hE_6d.keep b hb id
        have hbt_8 := hE_7d.blk_some hbt_7 id
        have hm_8 : (#[x0_0,x0_1,x0_2,x0_3,x0_4,x0_5,x0_6,x0_7,x0_8,x0_9,x0_10,x0_11,x0_12,x0_13,x0_14,x0_15,.slice al1 (t.at 1).l.length kl1,.map q] : Array Value)[17]? = some (.map q) := rfl
        refine (TagsSet_fn (okT := (OkS okT w.heap.size)) (L := w9.heap.size) w_7 hG_7 (by have := hE_6d.size;omega) (by omega) hbt_8 (o := 17) hm_8 (thaw_00 _ _) y _ ((hbvv.weaken fun b _ hk => ⟨hk,by have := hk.2;omega⟩).keep (hE_6d.keeps _)) h32 hnew hoS).mono ?_
        rintro _ w_8 ⟨m',hb_8,hG_8,hM_8⟩
        simp only [List.setIfInBounds_toArray,List.set_cons_succ,List.set_cons_zero] at hb_8
        repeat ((first | refine qA rfl ?_|refine qB ?_|refine qC rfl ?_|refine qD ?_|refine qE ?_|refine qF ?_|refine qG ?_|refine qH ?_);try simp (maxSteps:=1000000)(disch:=(first|omega|(simp only [qI,qJ,qK]<;>omega)|exact qL _)) only [go_sem,↓reduceIte,n0,reduceCtorEq,n1,n2,n3,n4,n5,i0,i1,i2,i3,i4,i5,i6,i7,hI])
        refine ⟨⟨j + 1,m',by omega,rfl,hN,hS,hr1,hr2,hr3,hb_8,by rw [hcat];exact hG_8,?_⟩,?_⟩
        · exact hU_6.more ((hE_6d.mono fun _ h => h.elim).trans hM_8) fun b hb h => by
            rcases h with h | h
            · exact h
            · cases h;have := (hG.lt rfl).2;omega
        · simp only [RowKit.intOf];omega
      · have hjl : j = t.u.length := by omega
        subst hjl
        rw [List.take_length] at hG
        have hT6 : Upd (fun b => b = (w.heap.size + 2)) w6 w_6 := hV9.trans hU_6
        have hT5 : Upd (fun b => b = (w.heap.size + 2)) w5 w_6 := hV6.trans hT6
        have hT4 : Upd (fun b => b = (w.heap.size + 2)) w4 w_6 := hV5.trans hT5
        have hT3 : Upd (fun b => b = (w.heap.size + 2)) w3 w_6 := hV4.trans hT4
        have hT2 : Upd (fun b => b = (w.heap.size + 2)) w2 w_6 := hV3.trans hT3
        have hT1 : Upd (fun b => b = (w.heap.size + 2)) w1 w_6 := hV2.trans hT2
        have hz0_f := hf0.keepS (hT4.keeps fun b _ hk e => hoF b hk e)
        have hz1_f := hf1.keepS (hU_6.keeps fun b _ hk e => hoF b hk e)
        have hTg := hG.tags (ok' := (OkF okT w.heap.size w1.heap.size)) (fun b _ hk => .inl hk) (fun b hb => .inr (by omega))
        have hL : RepL (RepS true d) (szS true d) (OkF okT w.heap.size w1.heap.size) w_6 t [fX1_0,fX1_1] 0 [x0_0,x0_1,x0_2,x0_3,x0_4,x0_5,x0_6,x0_7,x0_8,x0_9,x0_10,x0_11,x0_12,x0_13,x0_14,x0_15,.slice al1 (t.at 1).l.length kl1] := (RepL.cons16 hz0_f (RepL.cons1 hz1_f RepL.nil))
        have hR : RepS true (d + 1) fs_X1 (OkF okT w.heap.size w1.heap.size) w_6 t [x0_0,x0_1,x0_2,x0_3,x0_4,x0_5,x0_6,x0_7,x0_8,x0_9,x0_10,x0_11,x0_12,x0_13,x0_14,x0_15,.slice al1 (t.at 1).l.length kl1,.map q] := RepS.intro (c := [x0_0,x0_1,x0_2,x0_3,x0_4,x0_5,x0_6,x0_7,x0_8,x0_9,x0_10,x0_11,x0_12,x0_13,x0_14,x0_15,.slice al1 (t.at 1).l.length kl1]) rfl hL hTg
        have hcA : cellsAt #[x0_0,x0_1,x0_2,x0_3,x0_4,x0_5,x0_6,x0_7,x0_8,x0_9,x0_10,x0_11,x0_12,x0_13,x0_14,x0_15,.slice al1 (t.at 1).l.length kl1,.map q] 0 18 = some (.agg #[x0_0,x0_1,x0_2,x0_3,x0_4,x0_5,x0_6,x0_7,x0_8,x0_9,x0_10,x0_11,x0_12,x0_13,x0_14,x0_15,.slice al1 (t.at 1).l.length kl1,.map q]) := cellsAt_full rfl
        have hrb_6 := hT1.blk_some hrb1 (by omega)
        repeat ((first | refine qA rfl ?_|refine qB ?_|refine qC rfl ?_|refine qD ?_|refine qE ?_|refine qF ?_|refine qG ?_|refine qH ?_);try simp (maxSteps:=1000000)(disch:=(first|omega|(simp only [qI,qJ,qK]<;>omega)|exact qL _)) only [go_sem,↓reduceIte,n0,reduceCtorEq,n1,n2,n3,n4,n5,i0,i1,i2,i3,i4,i5,i6,i7,hI,hN,hr1,hr2,hr3,hbv,hrb_6,hcA,fx0_0,fx0_1,fx0_2,fx0_3,fx0_4,fx0_5,fx0_6,fx0_7,fx0_8,fx0_9,fx0_10,fx0_11,fx0_12,fx0_13,fx0_14,fx0_15])
        have hUr : Upd (fun b => b = w.heap.size + 1) w_6 (wr w_6 (w.heap.size + 1) 0 [x0_0,x0_1,x0_2,x0_3,x0_4,x0_5,x0_6,x0_7,x0_8,x0_9,x0_10,x0_11,x0_12,x0_13,x0_14,x0_15,.slice al1 (t.at 1).l.length kl1,.map q]) := (Upd.refl _ _).wr _ _ (.inr rfl)
        refine ⟨⟨_,rfl,(RepS_lay true (d + 1) fs_X1).weaken ((RepS_lay true (d + 1) fs_X1).keep hR (hUr.keeps fun b _ hk e => hoR b hk e)) (fun b _ hk => hk.imp And.left fun h => by omega)⟩,?_⟩
        exact (hE1.more hT1 fun b hb h => by omega).wr _ _ (.inl (by omega))

set_option maxHeartbeats 2000000 in
theorem fillShareFetchRequest_fn {d : Nat} {okT : Blocks} {V ver : Int} (t : Tree) (ct : List Value) (w : World) {vb : Nat} (hvb : blk w vb = some (#[.int .i16 ver,.pointer none,.pointer none,.int .i32 0,.int .i32 0,.int .i32 0,.int .i32 0,.int .i32 0,.int .i32 0,.int .i8 0,.bool false,.slice none 0 0,.slice none 0 0,.map none],60,(0,0))) (ht : TreeC okT w t ct) (hok : ∀ b,okT b → b ≠ vb) (hfit : FitP V (d + 4) fs_ShareFetchRequest t) (hLs : Lists t) :
    Fn Tryz.prog 19 #[.pointer (some ⟨vb,0,none⟩),.agg ct.toArray] w fun _ w' => ∃ cells,blk w' vb = some ((.int .i16 ver :: cells).toArray,60,(0,0)) ∧ RepS true (d + 4) fs_ShareFetchRequest (okN okT w.heap.size) w' t cells ∧ Upd (fun b => b = vb) w w' := by
  obtain ⟨vS,vL,vU,rfl,hn,hSx,hLx0,hUx⟩ := ht.inv
  obtain ⟨bS,cS,rfl,hcS⟩ := hSx.shape
  obtain ⟨bL,cL,rfl,hcL⟩ := SlR.shape hLx0
  obtain ⟨bU,cU,rfl,hcU⟩ := SlR.shape hUx
  obtain ⟨⟨g0,g1,g2,g3,g4,g5,g6,g7,g8,g9,g10,g11,-⟩,hfu⟩ := hfit
  replace g0 : FitF (FitP V (d + 3)) V fShareFetchRequest_0 (t.at 0) := g0
  replace g1 : FitF (FitP V (d + 3)) V fShareFetchRequest_1 (t.at 1) := g1
  replace g2 : FitF (FitP V (d + 3)) V fShareFetchRequest_2 (t.at 2) := g2
  replace g3 : FitF (FitP V (d + 3)) V fShareFetchRequest_3 (t.at 3) := g3
  replace g4 : FitF (FitP V (d + 3)) V fShareFetchRequest_4 (t.at 4) := g4
  replace g5 : FitF (FitP V (d + 3)) V fShareFetchRequest_5 (t.at 5) := g5
  replace g6 : FitF (FitP V (d + 3)) V fShareFetchRequest_6 (t.at 6) := g6
  replace g7 : FitF (FitP V (d + 3)) V fShareFetchRequest_7 (t.at 7) := g7
  replace g8 : FitF (FitP V (d + 3)) V fShareFetchRequest_8 (t.at 8) := g8
  replace g9 : FitF (FitP V (d + 3)) V fShareFetchRequest_9 (t.at 9) := g9
  replace g10 : FitF (FitP V (d + 3)) V fShareFetchRequest_10 (t.at 10) := g10
  replace g11 : FitF (FitP V (d + 3)) V fShareFetchRequest_11 (t.at 11) := g11
  have hllt : t.l.length < 4611686018427387903 := Nat.lt_of_le_of_lt hLs.len (by decide)
  have hul := hLs.ulen
  have hvl := blk_lt hvb
  refine fn_of_W Tryz.func19 rfl Tryz.results19 Tryz.ntmps19 rfl ?_
  obtain ⟨w1,hw1⟩ : ∃ w1,w1 = (w.alloc (.cells #[.int .i64 t.n,.slice bS t.s.length cS,.bool t.null,.slice bL t.l.length cL,.slice bU t.u.length cU] 39)) := ⟨_,rfl⟩
  have hE1 : Ext w w1 := by rw [hw1];exact Upd.alloc (Upd.refl _ _) _
  have hz1 : w1.heap.size = w.heap.size + 1 := by rw [hw1,World.size_alloc]
  have htb1 : blk w1 w.heap.size = some (#[.int .i64 t.n,.slice bS t.s.length cS,.bool t.null,.slice bL t.l.length cL,.slice bU t.u.length cU],39,(0,0)) := by rw [hw1];exact blk_alloc_new rfl
  have hb1 : blk w1 vb = some (#[.int .i16 ver,.pointer none,.pointer none,.int .i32 0,.int .i32 0,.int .i32 0,.int .i32 0,.int .i32 0,.int .i32 0,.int .i8 0,.bool false,.slice none 0 0,.slice none 0 0,.map none],60,(0,0)) := hE1.blk_some hvb id
  have hoS : ∀ b,(OkS okT w.heap.size) b → b ≠ vb := fun b h => hok b h.1
  have htv : ¬ w.heap.size = vb := by omega
  have hoF : ∀ b,(OkF okT w.heap.size w1.heap.size) b → b ≠ vb := fun b h => by
    rcases h with h | h
    · exact hoS b h
    · omega
  have hU1 : Upd (fun b => b = vb) w1 w1 := Upd.refl _ _
  have hvl1 := blk_lt hb1
  have hsz1 := Nat.le_refl w1.heap.size
  have ht1 : TreeC (OkS okT w.heap.size) w1 t [.int .i64 t.n,.slice bS t.s.length cS,.bool t.null,.slice bL t.l.length cL,.slice bU t.u.length cU] := (ht.weaken fun b h1 h2 => ⟨h2,h1⟩).keep (hE1.keeps _)
  have hU1v : TagsV (OkS okT w.heap.size) w1 (.slice bU t.u.length cU) t.u := (hUx.weaken fun b h1 h2 => ⟨h2,h1⟩).keep (hE1.keeps _)
  repeat ((first | refine qA rfl ?_|refine qB ?_|refine qC rfl ?_|refine qD ?_|refine qE ?_|refine qF ?_|refine qG ?_|refine qH ?_);try simp (maxSteps:=1000000)(disch:=(first|omega|(simp only [qI,qJ,qK]<;>omega)|exact qL _)) only [go_sem,↓reduceIte,n0,reduceCtorEq,n1,n2,n3,n4,n5,i0,i1,i2,i3,i4,i5,i6,i7])
  rw [← hw1]
  clear hw1
  refine (iat_fn (ok := (OkS okT w.heap.size)) t 0 _ _ (ht1.keep (hU1.keeps fun b _ hk e => hoS b hk e)) (by decide) hllt).mono ?_
  rintro r2 w2 ⟨⟨ca2,rfl,hca2⟩,hEa2⟩
  obtain ⟨vSa2,vLa2,vUa2,rfl,hna2,hSa2,hLa2,hUa2⟩ := hca2.inv
  obtain ⟨bSa2,cSa2,rfl,hcSa2⟩ := hSa2.shape
  obtain ⟨bLa2,cLa2,rfl,hcLa2⟩ := SlR.shape hLa2
  have hfU2 := SlR.flat hUa2
  clear hcSa2 hcLa2 hna2
  have hV2 : Upd (fun b => b = vb) w1 w2 := hEa2.mono fun _ h => h.elim
  have hU2 : Upd (fun b => b = vb) w1 w2 := hU1.trans hV2
  have htb2 := hU2.blk_some htb1 htv
  have hvl2 : vb < w2.heap.size := Nat.lt_of_lt_of_le hvl1 hU2.size
  have hsz2 := hU2.size
  have hb2 : blk w2 vb = some (#[.int .i16 ver,.pointer none,.pointer none,.int .i32 0,.int .i32 0,.int .i32 0,.int .i32 0,.int .i32 0,.int .i32 0,.int .i8 0,.bool false,.slice none 0 0,.slice none 0 0,.map none],60,(0,0)) := hEa2.blk_some hb1 id
  simp (maxSteps:=1000000)(disch:=(first|omega|(simp only [qI,qJ,qK]<;>omega)|exact qL _)) only [go_sem,↓reduceIte,n0,reduceCtorEq,n1,n2,n3,n4,n5,i0,i1,i2,i3,i4,i5,i6,i7,hb2,htb2]
  refine (textOf_fn (okT := (OkS okT w.heap.size)) (t.at 0) _ _ hca2).mono ?_
  rintro r3 w3 ⟨hp3,hEa3⟩
  have hsp3 := hsz2
  have hV3 : Upd (fun b => b = vb) w2 w3 := hEa3.mono fun _ h => h.elim
  have hU3 : Upd (fun b => b = vb) w1 w3 := hU2.trans hV3
  have htb3 := hU3.blk_some htb1 htv
  have hvl3 : vb < w3.heap.size := Nat.lt_of_lt_of_le hvl1 hU3.size
  have hsz3 := hU3.size
  clear hvl2 hsz2
  have hb3 : blk w3 vb = some (#[.int .i16 ver,.pointer none,.pointer none,.int .i32 0,.int .i32 0,.int .i32 0,.int .i32 0,.int .i32 0,.int .i32 0,.int .i8 0,.bool false,.slice none 0 0,.slice none 0 0,.map none],60,(0,0)) := hEa3.blk_some hb2 id
  obtain ⟨ap0,rfl⟩ := hp3.shape
  simp (maxSteps:=1000000)(disch:=(first|omega|(simp only [qI,qJ,qK]<;>omega)|exact qL _)) only [go_sem,↓reduceIte,n0,reduceCtorEq,n1,n2,n3,n4,n5,i0,i1,i2,i3,i4,i5,i6,i7,hb3,htb3]
  generalize hw4 : wr w3 vb 1 [.pointer ap0] = w4
  have hV4 : Upd (fun b => b = vb) w3 w4 := by rw [← hw4];exact (Upd.refl _ _).wr _ _ (.inr rfl)
  have hb4 : blk w4 vb = some (#[.int .i16 ver,.pointer ap0,.pointer none,.int .i32 0,.int .i32 0,.int .i32 0,.int .i32 0,.int .i32 0,.int .i32 0,.int .i8 0,.bool false,.slice none 0 0,.slice none 0 0,.map none],60,(0,0)) := by rw [← hw4,blk_wr_eq,hb3];rfl
  have hU4 : Upd (fun b => b = vb) w1 w4 := hU3.trans hV4
  have htb4 := hU4.blk_some htb1 htv
  have hvl4 : vb < w4.heap.size := Nat.lt_of_lt_of_le hvl1 hU4.size
  have hsz4 := hU4.size
  clear hvl3 hsz3
  clear hw4
  have hf0 : RepF (RepS true (d + 3)) (szS true (d + 3)) fShareFetchRequest_0 (OkF okT w.heap.size w1.heap.size) w4 (t.at 0) [.pointer ap0] := (RepF_ptr rfl (by decide)).2 ⟨_,rfl,(hp3.weaken fun b _ hk => .inr (Nat.le_trans hsp3 hk)).keep (hV4.keeps fun b _ hk e => hoF b hk e)⟩
  repeat ((first | refine qA rfl ?_|refine qB ?_|refine qC rfl ?_|refine qD ?_|refine qE ?_|refine qF ?_|refine qG ?_|refine qH ?_);try simp (maxSteps:=1000000)(disch:=(first|omega|(simp only [qI,qJ,qK]<;>omega)|exact qL _)) only [go_sem,↓reduceIte,n0,reduceCtorEq,n1,n2,n3,n4,n5,i0,i1,i2,i3,i4,i5,i6,i7,hb4,htb4])
  refine (iat_fn (ok := (OkS okT w.heap.size)) t 1 _ _ (ht1.keep (hU4.keeps fun b _ hk e => hoS b hk e)) (by decide) hllt).mono ?_
  rintro r5 w5 ⟨⟨ca5,rfl,hca5⟩,hEa5⟩
  obtain ⟨vSa5,vLa5,vUa5,rfl,hna5,hSa5,hLa5,hUa5⟩ := hca5.inv
  obtain ⟨bSa5,cSa5,rfl,hcSa5⟩ := hSa5.shape
  obtain ⟨bLa5,cLa5,rfl,hcLa5⟩ := SlR.shape hLa5
  have hfU5 := SlR.flat hUa5
  clear hcSa5 hcLa5 hna5
  have hV5 : Upd (fun b => b = vb) w4 w5 := hEa5.mono fun _ h => h.elim
  have hU5 : Upd (fun b => b = vb) w1 w5 := hU4.trans hV5
  have htb5 := hU5.blk_some htb1 htv
  have hvl5 : vb < w5.heap.size := Nat.lt_of_lt_of_le hvl1 hU5.size
  have hsz5 := hU5.size
  clear hvl4 hsz4
  have hb5 : blk w5 vb = some (#[.int .i16 ver,.pointer ap0,.pointer none,.int .i32 0,.int .i32 0,.int .i32 0,.int .i32 0,.int .i32 0,.int .i32 0,.int .i8 0,.bool false,.slice none 0 0,.slice none 0 0,.map none],60,(0,0)) := hEa5.blk_some hb4 id
  simp (maxSteps:=1000000)(disch:=(first|omega|(simp only [qI,qJ,qK]<;>omega)|exact qL _)) only [go_sem,↓reduceIte,n0,reduceCtorEq,n1,n2,n3,n4,n5,i0,i1,i2,i3,i4,i5,i6,i7,hb5,htb5]
  refine (textOf_fn (okT := (OkS okT w.heap.size)) (t.at 1) _ _ hca5).mono ?_
  rintro r6 w6 ⟨hp6,hEa6⟩
  have hsp6 := hsz5
  have hV6 : Upd (fun b => b = vb) w5 w6 := hEa6.mono fun _ h => h.elim
  have hU6 : Upd (fun b => b = vb) w1 w6 := hU5.trans hV6
  have htb6 := hU6.blk_some htb1 htv
  have hvl6 : vb < w6.heap.size := Nat.lt_of_lt_of_le hvl1 hU6.size
  have hsz6 := hU6.size
  clear hvl5 hsz5
  have hb6 : blk w6 vb = some (#[.int .i16 ver,.pointer ap0,.pointer none,.int .i32 0,.int .i32 0,.int .i32 0,.int .i32 0,.int .i32 0,.int .i32 0,.int .i8 0,.bool false,.slice none 0 0,.slice none 0 0,.map none],60,(0,0)) := hEa6.blk_some hb5 id
  obtain ⟨ap1,rfl⟩ := hp6.shape
  simp (maxSteps:=1000000)(disch:=(first|omega|(simp only [qI,qJ,qK]<;>omega)|exact qL _)) only [go_sem,↓reduceIte,n0,reduceCtorEq,n1,n2,n3,n4,n5,i0,i1,i2,i3,i4,i5,i6,i7,hb6,htb6]
  generalize hw7 : wr w6 vb 2 [.pointer ap1] = w7
  have hV7 : Upd (fun b => b = vb) w6 w7 := by rw [← hw7];exact (Upd.refl _ _).wr _ _ (.inr rfl)
  have hb7 : blk w7 vb = some (#[.int .i16 ver,.pointer ap0,.pointer ap1,.int .i32 0,.int .i32 0,.int .i32 0,.int .i32 0,.int .i32 0,.int .i32 0,.int .i8 0,.bool false,.slice none 0 0,.slice none 0 0,.map none],60,(0,0)) := by rw [← hw7,blk_wr_eq,hb6];rfl
  have hU7 : Upd (fun b => b = vb) w1 w7 := hU6.trans hV7
  have htb7 := hU7.blk_some htb1 htv
  have hvl7 : vb < w7.heap.size := Nat.lt_of_lt_of_le hvl1 hU7.size
  have hsz7 := hU7.size
  clear hvl6 hsz6
  clear hw7
  have hf1 : RepF (RepS true (d + 3)) (szS true (d + 3)) fShareFetchRequest_1 (OkF okT w.heap.size w1.heap.size) w7 (t.at 1) [.pointer ap1] := (RepF_ptr rfl (by decide)).2 ⟨_,rfl,(hp6.weaken fun b _ hk => .inr (Nat.le_trans hsp6 hk)).keep (hV7.keeps fun b _ hk e => hoF b hk e)⟩
  repeat ((first | refine qA rfl ?_|refine qB ?_|refine qC rfl ?_|refine qD ?_|refine qE ?_|refine qF ?_|refine qG ?_|refine qH ?_);try simp (maxSteps:=1000000)(disch:=(first|omega|(simp only [qI,qJ,qK]<;>omega)|exact qL _)) only [go_sem,↓reduceIte,n0,reduceCtorEq,n1,n2,n3,n4,n5,i0,i1,i2,i3,i4,i5,i6,i7,hb7,htb7])
  refine (iat_fn (ok := (OkS okT w.heap.size)) t 2 _ _ (ht1.keep (hU7.keeps fun b _ hk e => hoS b hk e)) (by decide) hllt).mono ?_
  rintro r8 w8 ⟨⟨ca8,rfl,hca8⟩,hEa8⟩
  obtain ⟨vSa8,vLa8,vUa8,rfl,hna8,hSa8,hLa8,hUa8⟩ := hca8.inv
  obtain ⟨bSa8,cSa8,rfl,hcSa8⟩ := hSa8.shape
  obtain ⟨bLa8,cLa8,rfl,hcLa8⟩ := SlR.shape hLa8
  have hfU8 := SlR.flat hUa8
  clear hcSa8 hcLa8 hna8
  have hV8 : Upd (fun b => b = vb) w7 w8 := hEa8.mono fun _ h => h.elim
  have hU8 : Upd (fun b => b = vb) w1 w8 := hU7.trans hV8
  have htb8 := hU8.blk_some htb1 htv
  have hvl8 : vb < w8.heap.size := Nat.lt_of_lt_of_le hvl1 hU8.size
  have hsz8 := hU8.size
  clear hvl7 hsz7
  have hb8 : blk w8 vb = some (#[.int .i16 ver,.pointer ap0,.pointer ap1,.int .i32 0,.int .i32 0,.int .i32 0,.int .i32 0,.int .i32 0,.int .i32 0,.int .i8 0,.bool false,.slice none 0 0,.slice none 0 0,.map none],60,(0,0)) := hEa8.blk_some hb7 id
  simp (maxSteps:=1000000)(disch:=(first|omega|(simp only [qI,qJ,qK]<;>omega)|exact qL _)) only [go_sem,↓reduceIte,n0,reduceCtorEq,n1,n2,n3,n4,n5,i0,i1,i2,i3,i4,i5,i6,i7,hb8,htb8]
  generalize hw9 : wr w8 vb 3 [.int .i32 (IntKind.i32.wrap (t.at 2).n)] = w9
  have hV9 : Upd (fun b => b = vb) w8 w9 := by rw [← hw9];exact (Upd.refl _ _).wr _ _ (.inr rfl)
  have hb9 : blk w9 vb = some (#[.int .i16 ver,.pointer ap0,.pointer ap1,.int .i32 (IntKind.i32.wrap (t.at 2).n),.int .i32 0,.int .i32 0,.int .i32 0,.int .i32 0,.int .i32 0,.int .i8 0,.bool false,.slice none 0 0,.slice none 0 0,.map none],60,(0,0)) := by rw [← hw9,blk_wr_eq,hb8];rfl
  have hU9 : Upd (fun b => b = vb) w1 w9 := hU8.trans hV9
  have htb9 := hU9.blk_some htb1 htv
  have hvl9 : vb < w9.heap.size := Nat.lt_of_lt_of_le hvl1 hU9.size
  have hsz9 := hU9.size
  clear hvl8 hsz8
  clear hw9
  have hf2 : RepF (RepS true (d + 3)) (szS true (d + 3)) fShareFetchRequest_2 (OkF okT w.heap.size w1.heap.size) w9 (t.at 2) [.int .i32 (IntKind.i32.wrap (t.at 2).n)] := (RepF_num (by decide)).2 rfl
  repeat ((first | refine qA rfl ?_|refine qB ?_|refine qC rfl ?_|refine qD ?_|refine qE ?_|refine qF ?_|refine qG ?_|refine qH ?_);try simp (maxSteps:=1000000)(disch:=(first|omega|(simp only [qI,qJ,qK]<;>omega)|exact qL _)) only [go_sem,↓reduceIte,n0,reduceCtorEq,n1,n2,n3,n4,n5,i0,i1,i2,i3,i4,i5,i6,i7,hb9,htb9])
  refine (iat_fn (ok := (OkS okT w.heap.size)) t 3 _ _ (ht1.keep (hU9.keeps fun b _ hk e => hoS b hk e)) (by decide) hllt).mono ?_
  rintro r10 w10 ⟨⟨ca10,rfl,hca10⟩,hEa10⟩
  obtain ⟨vSa10,vLa10,vUa10,rfl,hna10,hSa10,hLa10,hUa10⟩ := hca10.inv
  obtain ⟨bSa10,cSa10,rfl,hcSa10⟩ := hSa10.shape
  obtain ⟨bLa10,cLa10,rfl,hcLa10⟩ := SlR.shape hLa10
  have hfU10 := SlR.flat hUa10
  clear hcSa10 hcLa10 hna10
  have hV10 : Upd (fun b => b = vb) w9 w10 := hEa10.mono fun _ h => h.elim
  have hU10 : Upd (fun b => b = vb) w1 w10 := hU9.trans hV10
  have htb10 := hU10.blk_some htb1 htv
  have hvl10 : vb < w10.heap.size := Nat.lt_of_lt_of_le hvl1 hU10.size
  have hsz10 := hU10.size
  clear hvl9 hsz9
  have hb10 : blk w10 vb = some (#[.int .i16 ver,.pointer ap0,.pointer ap1,.int .i32 (IntKind.i32.wrap (t.at 2).n),.int .i32 0,.int .i32 0,.int .i32 0,.int .i32 0,.int .i32 0,.int .i8 0,.bool false,.slice none 0 0,.slice none 0 0,.map none],60,(0,0)) := hEa10.blk_some hb9 id
  simp (maxSteps:=1000000)(disch:=(first|omega|(simp only [qI,qJ,qK]<;>omega)|exact qL _)) only [go_sem,↓reduceIte,n0,reduceCtorEq,n1,n2,n3,n4,n5,i0,i1,i2,i3,i4,i5,i6,i7,hb10,htb10]
  generalize hw11 : wr w10 vb 4 [.int .i32 (IntKind.i32.wrap (t.at 3).n)] = w11
  have hV11 : Upd (fun b => b = vb) w10 w11 := by rw [← hw11];exact (Upd.refl _ _).wr _ _ (.inr rfl)
  have hb11 : blk w11 vb = some (#[.int .i16 ver,.pointer ap0,.pointer ap1,.int .i32 (IntKind.i32.wrap (t.at 2).n),.int .i32 (IntKind.i32.wrap (t.at 3).n),.int .i32 0,.int .i32 0,.int .i32 0,.int .i32 0,.int .i8 0,.bool false,.slice none 0 0,.slice none 0 0,.map none],60,(0,0)) := by rw [← hw11,blk_wr_eq,hb10];rfl
  have hU11 : Upd (fun b => b = vb) w1 w11 := hU10.trans hV11
  have htb11 := hU11.blk_some htb1 htv
  have hvl11 : vb < w11.heap.size := Nat.lt_of_lt_of_le hvl1 hU11.size
  have hsz11 := hU11.size
  clear hvl10 hsz10
  clear hw11
  have hf3 : RepF (RepS true (d + 3)) (szS true (d + 3)) fShareFetchRequest_3 (OkF okT w.heap.size w1.heap.size) w11 (t.at 3) [.int .i32 (IntKind.i32.wrap (t.at 3).n)] := (RepF_num (by decide)).2 rfl
  repeat ((first | refine qA rfl ?_|refine qB ?_|refine qC rfl ?_|refine qD ?_|refine qE ?_|refine qF ?_|refine qG ?_|refine qH ?_);try simp (maxSteps:=1000000)(disch:=(first|omega|(simp only [qI,qJ,qK]<;>omega)|exact qL _)) only [go_sem,↓reduceIte,n0,reduceCtorEq,n1,n2,n3,n4,n5,i0,i1,i2,i3,i4,i5,i6,i7,hb11,htb11])
  refine (iat_fn (ok := (OkS okT w.heap.size)) t 4 _ _ (ht1.keep (hU11.keeps fun b _ hk e => hoS b hk e)) (by decide) hllt).mono ?_
  rintro r12 w12 ⟨⟨ca12,rfl,hca12⟩,hEa12⟩
  obtain ⟨vSa12,vLa12,vUa12,rfl,hna12,hSa12,hLa12,hUa12⟩ := hca12.inv
  obtain ⟨bSa12,cSa12,rfl,hcSa12⟩ := hSa12.shape
  obtain ⟨bLa12,cLa12,rfl,hcLa12⟩ := SlR.shape hLa12
  have hfU12 := SlR.flat hUa12
  clear hcSa12 hcLa12 hna12
  have hV12 : Upd (fun b => b = vb) w11 w12 := hEa12.mono fun _ h => h.elim
  have hU12 : Upd (fun b => b = vb) w1 w12 := hU11.trans hV12
  have htb12 := hU12.blk_some htb1 htv
  have hvl12 : vb < w12.heap.size := Nat.lt_of_lt_of_le hvl1 hU12.size
  have hsz12 := hU12.size
  clear hvl11 hsz11
  have hb12 : blk w12 vb = some (#[.int .i16 ver,.pointer ap0,.pointer ap1,.int .i32 (IntKind.i32.wrap (t.at 2).n),.int .i32 (IntKind.i32.wrap (t.at 3).n),.int .i32 0,.int .i32 0,.int .i32 0,.int .i32 0,.int .i8 0,.bool false,.slice none 0 0,.slice none 0 0,.map none],60,(0,0)) := hEa12.blk_some hb11 id
  simp (maxSteps:=1000000)(disch:=(first|omega|(simp only [qI,qJ,qK]<;>omega)|exact qL _)) only [go_sem,↓reduceIte,n0,reduceCtorEq,n1,n2,n3,n4,n5,i0,i1,i2,i3,i4,i5,i6,i7,hb12,htb12]
  generalize hw13 : wr w12 vb 5 [.int .i32 (IntKind.i32.wrap (t.at 4).n)] = w13
  have hV13 : Upd (fun b => b = vb) w12 w13 := by rw [← hw13];exact (Upd.refl _ _).wr _ _ (.inr rfl)
  have hb13 : blk w13 vb = some (#[.int .i16 ver,.pointer ap0,.pointer ap1,.int .i32 (IntKind.i32.wrap (t.at 2).n),.int .i32 (IntKind.i32.wrap (t.at 3).n),.int .i32 (IntKind.i32.wrap (t.at 4).n),.int .i32 0,.int .i32 0,.int .i32 0,.int .i8 0,.bool false,.slice none 0 0,.slice none 0 0,.map none],60,(0,0)) := by rw [← hw13,blk_wr_eq,hb12];rfl
  have hU13 : Upd (fun b => b = vb) w1 w13 := hU12.trans hV13
  have htb13 := hU13.blk_some htb1 htv
  have hvl13 : vb < w13.heap.size := Nat.lt_of_lt_of_le hvl1 hU13.size
  have hsz13 := hU13.size
  clear hvl12 hsz12
  clear hw13
  have hf4 : RepF (RepS true (d + 3)) (szS true (d + 3)) fShareFetchRequest_4 (OkF okT w.heap.size w1.heap.size) w13 (t.at 4) [.int .i32 (IntKind.i32.wrap (t.at 4).n)] := (RepF_num (by decide)).2 rfl
  repeat ((first | refine qA rfl ?_|refine qB ?_|refine qC rfl ?_|refine qD ?_|refine qE ?_|refine qF ?_|refine qG ?_|refine qH ?_);try simp (maxSteps:=1000000)(disch:=(first|omega|(simp only [qI,qJ,qK]<;>omega)|exact qL _)) only [go_sem,↓reduceIte,n0,reduceCtorEq,n1,n2,n3,n4,n5,i0,i1,i2,i3,i4,i5,i6,i7,hb13,htb13])
  refine (iat_fn (ok := (OkS okT w.heap.size)) t 5 _ _ (ht1.keep (hU13.keeps fun b _ hk e => hoS b hk e)) (by decide) hllt).mono ?_
  rintro r14 w14 ⟨⟨ca14,rfl,hca14⟩,hEa14⟩
  obtain ⟨vSa14,vLa14,vUa14,rfl,hna14,hSa14,hLa14,hUa14⟩ := hca14.inv
  obtain ⟨bSa14,cSa14,rfl,hcSa14⟩ := hSa14.shape
  obtain ⟨bLa14,cLa14,rfl,hcLa14⟩ := SlR.shape hLa14
  have hfU14 := SlR.flat hUa14
  clear hcSa14 hcLa14 hna14
  have hV14 : Upd (fun b => b = vb) w13 w14 := hEa14.mono fun _ h => h.elim
  have hU14 : Upd (fun b => b = vb) w1 w14 := hU13.trans hV14
  have htb14 := hU14.blk_some htb1 htv
  have hvl14 : vb < w14.heap.size := Nat.lt_of_lt_of_le hvl1 hU14.size
  have hsz14 := hU14.size
  clear hvl13 hsz13
  have hb14 : blk w14 vb = some (#[.int .i16 ver,.pointer ap0,.pointer ap1,.int .i32 (IntKind.i32.wrap (t.at 2).n),.int .i32 (IntKind.i32.wrap (t.at 3).n),.int .i32 (IntKind.i32.wrap (t.at 4).n),.int .i32 0,.int .i32 0,.int .i32 0,.int .i8 0,.bool false,.slice none 0 0,.slice none 0 0,.map none],60,(0,0)) := hEa14.blk_some hb13 id
  simp (maxSteps:=1000000)(disch:=(first|omega|(simp only [qI,qJ,qK]<;>omega)|exact qL _)) only [go_sem,↓reduceIte,n0,reduceCtorEq,n1,n2,n3,n4,n5,i0,i1,i2,i3,i4,i5,i6,i7,hb14,htb14]
  generalize hw15 : wr w14 vb 6 [.int .i32 (IntKind.i32.wrap (t.at 5).n)] = w15
  have hV15 : Upd (fun b => b = vb) w14 w15 := by rw [← hw15];exact (Upd.refl _ _).wr _ _ (.inr rfl)
  have hb15 : blk w15 vb = some (#[.int .i16 ver,.pointer ap0,.pointer ap1,.int .i32 (IntKind.i32.wrap (t.at 2).n),.int .i32 (IntKind.i32.wrap (t.at 3).n),.int .i32 (IntKind.i32.wrap (t.at 4).n),.int .i32 (IntKind.i32.wrap (t.at 5).n),.int .i32 0,.int .i32 0,.int .i8 0,.bool false,.slice none 0 0,.slice none 0 0,.map none],60,(0,0)) := by rw [← hw15,blk_wr_eq,hb14];rfl
  have hU15 : Upd (fun b => b = vb) w1 w15 := hU14.trans hV15
  have htb15 := hU15.blk_some htb1 htv
  have hvl15 : vb < w15.heap.size := Nat.lt_of_lt_of_le hvl1 hU15.size
  have hsz15 := hU15.size
  clear hvl14 hsz14
  clear hw15
  have hf5 : RepF (RepS true (d + 3)) (szS true (d + 3)) fShareFetchRequest_5 (OkF okT w.heap.size w1.heap.size) w15 (t.at 5) [.int .i32 (IntKind.i32.wrap (t.at 5).n)] := (RepF_num (by decide)).2 rfl
  repeat ((first | refine qA rfl ?_|refine qB ?_|refine qC rfl ?_|refine qD ?_|refine qE ?_|refine qF ?_|refine qG ?_|refine qH ?_);try simp (maxSteps:=1000000)(disch:=(first|omega|(simp only [qI,qJ,qK]<;>omega)|exact qL _)) only [go_sem,↓reduceIte,n0,reduceCtorEq,n1,n2,n3,n4,n5,i0,i1,i2,i3,i4,i5,i6,i7,hb15,htb15])
  refine (iat_fn (ok := (OkS okT w.heap.size)) t 6 _ _ (ht1.keep (hU15.keeps fun b _ hk e => hoS b hk e)) (by decide) hllt).mono ?_
  rintro r16 w16 ⟨⟨ca16,rfl,hca16⟩,hEa16⟩
  obtain ⟨vSa16,vLa16,vUa16,rfl,hna16,hSa16,hLa16,hUa16⟩ := hca16.inv
  obtain ⟨bSa16,cSa16,rfl,hcSa16⟩ := hSa16.shape
  obtain ⟨bLa16,cLa16,rfl,hcLa16⟩ := SlR.shape hLa16
  have hfU16 := SlR.flat hUa16
  clear hcSa16 hcLa16 hna16
  have hV16 : Upd (fun b => b = vb) w15 w16 := hEa16.mono fun _ h => h.elim
  have hU16 : Upd (fun b => b = vb) w1 w16 := hU15.trans hV16
  have htb16 := hU16.blk_some htb1 htv
  have hvl16 : vb < w16.heap.size := Nat.lt_of_lt_of_le hvl1 hU16.size
  have hsz16 := hU16.size
  clear hvl15 hsz15
  have hb16 : blk w16 vb = some (#[.int .i16 ver,.pointer ap0,.pointer ap1,.int .i32 (IntKind.i32.wrap (t.at 2).n),.int .i32 (IntKind.i32.wrap (t.at 3).n),.int .i32 (IntKind.i32.wrap (t.at 4).n),.int .i32 (IntKind.i32.wrap (t.at 5).n),.int .i32 0,.int .i32 0,.int .i8 0,.bool false,.slice none 0 0,.slice none 0 0,.map none],60,(0,0)) := hEa16.blk_some hb15 id
  simp (maxSteps:=1000000)(disch:=(first|omega|(simp only [qI,qJ,qK]<;>omega)|exact qL _)) only [go_sem,↓reduceIte,n0,reduceCtorEq,n1,n2,n3,n4,n5,i0,i1,i2,i3,i4,i5,i6,i7,hb16,htb16]
  generalize hw17 : wr w16 vb 7 [.int .i32 (IntKind.i32.wrap (t.at 6).n)] = w17
  have hV17 : Upd (fun b => b = vb) w16 w17 := by rw [← hw17];exact (Upd.refl _ _).wr _ _ (.inr rfl)
  have hb17 : blk w17 vb = some (#[.int .i16 ver,.pointer ap0,.pointer ap1,.int .i32 (IntKind.i32.wrap (t.at 2).n),.int .i32 (IntKind.i32.wrap (t.at 3).n),.int .i32 (IntKind.i32.wrap (t.at 4).n),.int .i32 (IntKind.i32.wrap (t.at 5).n),.int .i32 (IntKind.i32.wrap (t.at 6).n),.int .i32 0,.int .i8 0,.bool false,.slice none 0 0,.slice none 0 0,.map none],60,(0,0)) := by rw [← hw17,blk_wr_eq,hb16];rfl
  have hU17 : Upd (fun b => b = vb) w1 w17 := hU16.trans hV17
  have htb17 := hU17.blk_some htb1 htv
  have hvl17 : vb < w17.heap.size := Nat.lt_of_lt_of_le hvl1 hU17.size
  have hsz17 := hU17.size
  clear hvl16 hsz16
  clear hw17
  have hf6 : RepF (RepS true (d + 3)) (szS true (d + 3)) fShareFetchRequest_6 (OkF okT w.heap.size w1.heap.size) w17 (t.at 6) [.int .i32 (IntKind.i32.wrap (t.at 6).n)] := (RepF_num (by decide)).2 rfl
  repeat ((first | refine qA rfl ?_|refine qB ?_|refine qC rfl ?_|refine qD ?_|refine qE ?_|refine qF ?_|refine qG ?_|refine qH ?_);try simp (maxSteps:=1000000)(disch:=(first|omega|(simp only [qI,qJ,qK]<;>omega)|exact qL _)) only [go_sem,↓reduceIte,n0,reduceCtorEq,n1,n2,n3,n4,n5,i0,i1,i2,i3,i4,i5,i6,i7,hb17,htb17])
  refine (iat_fn (ok := (OkS okT w.heap.size)) t 7 _ _ (ht1.keep (hU17.keeps fun b _ hk e => hoS b hk e)) (by decide) hllt).mono ?_
  rintro r18 w18 ⟨⟨ca18,rfl,hca18⟩,hEa18⟩
  obtain ⟨vSa18,vLa18,vUa18,rfl,hna18,hSa18,hLa18,hUa18⟩ := hca18.inv
  obtain ⟨bSa18,cSa18,rfl,hcSa18⟩ := hSa18.shape
  obtain ⟨bLa18,cLa18,rfl,hcLa18⟩ := SlR.shape hLa18
  have hfU18 := SlR.flat hUa18
  clear hcSa18 hcLa18 hna18
  have hV18 : Upd (fun b => b = vb) w17 w18 := hEa18.mono fun _ h => h.elim
  have hU18 : Upd (fun b => b = vb) w1 w18 := hU17.trans hV18
  have htb18 := hU18.blk_some htb1 htv
  have hvl18 : vb < w18.heap.size := Nat.lt_of_lt_of_le hvl1 hU18.size
  have hsz18 := hU18.size
  clear hvl17 hsz17
  have hb18 : blk w18 vb = some (#[.int .i16 ver,.pointer ap0,.pointer ap1,.int .i32 (IntKind.i32.wrap (t.at 2).n),.int .i32 (IntKind.i32.wrap (t.at 3).n),.int .i32 (IntKind.i32.wrap (t.at 4).n),.int .i32 (IntKind.i32.wrap (t.at 5).n),.int .i32 (IntKind.i32.wrap (t.at 6).n),.int .i32 0,.int .i8 0,.bool false,.slice none 0 0,.slice none 0 0,.map none],60,(0,0)) := hEa18.blk_some hb17 id
  simp (maxSteps:=1000000)(disch:=(first|omega|(simp only [qI,qJ,qK]<;>omega)|exact qL _)) only [go_sem,↓reduceIte,n0,reduceCtorEq,n1,n2,n3,n4,n5,i0,i1,i2,i3,i4,i5,i6,i7,hb18,htb18]
  generalize hw19 : wr w18 vb 8 [.int .i32 (IntKind.i32.wrap (t.at 7).n)] = w19
  have hV19 : Upd (fun b => b = vb) w18 w19 := by rw [← hw19];exact (Upd.refl _ _).wr _ _ (.inr rfl)
  have hb19 : blk w19 vb = some (#[.int .i16 ver,.pointer ap0,.pointer ap1,.int .i32 (IntKind.i32.wrap (t.at 2).n),.int .i32 (IntKind.i32.wrap (t.at 3).n),.int .i32 (IntKind.i32.wrap (t.at 4).n),.int .i32 (IntKind.i32.wrap (t.at 5).n),.int .i32 (IntKind.i32.wrap (t.at 6).n),.int .i32 (IntKind.i32.wrap (t.at 7).n),.int .i8 0,.bool false,.slice none 0 0,.slice none 0 0,.map none],60,(0,0)) := by rw [← hw19,blk_wr_eq,hb18];rfl
  have hU19 : Upd (fun b => b = vb) w1 w19 := hU18.trans hV19
  have htb19 := hU19.blk_some htb1 htv
  have hvl19 : vb < w19.heap.size := Nat.lt_of_lt_of_le hvl1 hU19.size
  have hsz19 := hU19.size
  clear hvl18 hsz18
  clear hw19
  have hf7 : RepF (RepS true (d + 3)) (szS true (d + 3)) fShareFetchRequest_7 (OkF okT w.heap.size w1.heap.size) w19 (t.at 7) [.int .i32 (IntKind.i32.wrap (t.at 7).n)] := (RepF_num (by decide)).2 rfl
  repeat ((first | refine qA rfl ?_|refine qB ?_|refine qC rfl ?_|refine qD ?_|refine qE ?_|refine qF ?_|refine qG ?_|refine qH ?_);try simp (maxSteps:=1000000)(disch:=(first|omega|(simp only [qI,qJ,qK]<;>omega)|exact qL _)) only [go_sem,↓reduceIte,n0,reduceCtorEq,n1,n2,n3,n4,n5,i0,i1,i2,i3,i4,i5,i6,i7,hb19,htb19])
  refine (iat_fn (ok := (OkS okT w.heap.size)) t 8 _ _ (ht1.keep (hU19.keeps fun b _ hk e => hoS b hk e)) (by decide) hllt).mono ?_
  rintro r20 w20 ⟨⟨ca20,rfl,hca20⟩,hEa20⟩
  obtain ⟨vSa20,vLa20,vUa20,rfl,hna20,hSa20,hLa20,hUa20⟩ := hca20.inv
  obtain ⟨bSa20,cSa20,rfl,hcSa20⟩ := hSa20.shape
  obtain ⟨bLa20,cLa20,rfl,hcLa20⟩ := SlR.shape hLa20
  have hfU20 := SlR.flat hUa20
  clear hcSa20 hcLa20 hna20
  have hV20 : Upd (fun b => b = vb) w19 w20 := hEa20.mono fun _ h => h.elim
  have hU20 : Upd (fun b => b = vb) w1 w20 := hU19.trans hV20
  have htb20 := hU20.blk_some htb1 htv
  have hvl20 : vb < w20.heap.size := Nat.lt_of_lt_of_le hvl1 hU20.size
  have hsz20 := hU20.size
  clear hvl19 hsz19
  have hb20 : blk w20 vb = some (#[.int .i16 ver,.pointer ap0,.pointer ap1,.int .i32 (IntKind.i32.wrap (t.at 2).n),.int .i32 (IntKind.i32.wrap (t.at 3).n),.int .i32 (IntKind.i32.wrap (t.at 4).n),.int .i32 (IntKind.i32.wrap (t.at 5).n),.int .i32 (IntKind.i32.wrap (t.at 6).n),.int .i32 (IntKind.i32.wrap (t.at 7).n),.int .i8 0,.bool false,.slice none 0 0,.slice none 0 0,.map none],60,(0,0)) := hEa20.blk_some hb19 id
  simp (maxSteps:=1000000)(disch:=(first|omega|(simp only [qI,qJ,qK]<;>omega)|exact qL _)) only [go_sem,↓reduceIte,n0,reduceCtorEq,n1,n2,n3,n4,n5,i0,i1,i2,i3,i4,i5,i6,i7,hb20,htb20]
  generalize hw21 : wr w20 vb 9 [.int .i8 (IntKind.i8.wrap (t.at 8).n)] = w21
  have hV21 : Upd (fun b => b = vb) w20 w21 := by rw [← hw21];exact (Upd.refl _ _).wr _ _ (.inr rfl)
  have hb21 : blk w21 vb = some (#[.int .i16 ver,.pointer ap0,.pointer ap1,.int .i32 (IntKind.i32.wrap (t.at 2).n),.int .i32 (IntKind.i32.wrap (t.at 3).n),.int .i32 (IntKind.i32.wrap (t.at 4).n),.int .i32 (IntKind.i32.wrap (t.at 5).n),.int .i32 (IntKind.i32.wrap (t.at 6).n),.int .i32 (IntKind.i32.wrap (t.at 7).n),.int .i8 (IntKind.i8.wrap (t.at 8).n),.bool false,.slice none 0 0,.slice none 0 0,.map none],60,(0,0)) := by rw [← hw21,blk_wr_eq,hb20];rfl
  have hU21 : Upd (fun b => b = vb) w1 w21 := hU20.trans hV21
  have htb21 := hU21.blk_some htb1 htv
  have hvl21 : vb < w21.heap.size := Nat.lt_of_lt_of_le hvl1 hU21.size
  have hsz21 := hU21.size
  clear hvl20 hsz20
  clear hw21
  have hf8 : RepF (RepS true (d + 3)) (szS true (d + 3)) fShareFetchRequest_8 (OkF okT w.heap.size w1.heap.size) w21 (t.at 8) [.int .i8 (IntKind.i8.wrap (t.at 8).n)] := (RepF_num (by decide)).2 rfl
  repeat ((first | refine qA rfl ?_|refine qB ?_|refine qC rfl ?_|refine qD ?_|refine qE ?_|refine qF ?_|refine qG ?_|refine qH ?_);try simp (maxSteps:=1000000)(disch:=(first|omega|(simp only [qI,qJ,qK]<;>omega)|exact qL _)) only [go_sem,↓reduceIte,n0,reduceCtorEq,n1,n2,n3,n4,n5,i0,i1,i2,i3,i4,i5,i6,i7,hb21,htb21])
  refine (iat_fn (ok := (OkS okT w.heap.size)) t 9 _ _ (ht1.keep (hU21.keeps fun b _ hk e => hoS b hk e)) (by decide) hllt).mono ?_
  rintro r22 w22 ⟨⟨ca22,rfl,hca22⟩,hEa22⟩
  obtain ⟨vSa22,vLa22,vUa22,rfl,hna22,hSa22,hLa22,hUa22⟩ := hca22.inv
  obtain ⟨bSa22,cSa22,rfl,hcSa22⟩ := hSa22.shape
  obtain ⟨bLa22,cLa22,rfl,hcLa22⟩ := SlR.shape hLa22
  have hfU22 := SlR.flat hUa22
  clear hcSa22 hcLa22 hna22
  have hV22 : Upd (fun b => b = vb) w21 w22 := hEa22.mono fun _ h => h.elim
  have hU22 : Upd (fun b => b = vb) w1 w22 := hU21.trans hV22
  have htb22 := hU22.blk_some htb1 htv
  have hvl22 : vb < w22.heap.size := Nat.lt_of_lt_of_le hvl1 hU22.size
  have hsz22 := hU22.size
  clear hvl21 hsz21
  have hb22 : blk w22 vb = some (#[.int .i16 ver,.pointer ap0,.pointer ap1,.int .i32 (IntKind.i32.wrap (t.at 2).n),.int .i32 (IntKind.i32.wrap (t.at 3).n),.int .i32 (IntKind.i32.wrap (t.at 4).n),.int .i32 (IntKind.i32.wrap (t.at 5).n),.int .i32 (IntKind.i32.wrap (t.at 6).n),.int .i32 (IntKind.i32.wrap (t.at 7).n),.int .i8 (IntKind.i8.wrap (t.at 8).n),.bool false,.slice none 0 0,.slice none 0 0,.map none],60,(0,0)) := hEa22.blk_some hb21 id
  have hq22 : ((t.at 9).n % 2 == 1) = decide ((t.at 9).n % 2 = 1) := rfl
  simp (maxSteps:=1000000)(disch:=(first|omega|(simp only [qI,qJ,qK]<;>omega)|exact qL _)) only [go_sem,↓reduceIte,n0,reduceCtorEq,n1,n2,n3,n4,n5,i0,i1,i2,i3,i4,i5,i6,i7,hb22,htb22,and1_i64,hq22]
  generalize hw23 : wr w22 vb 10 [.bool (decide ((t.at 9).n % 2 = 1))] = w23
  have hV23 : Upd (fun b => b = vb) w22 w23 := by rw [← hw23];exact (Upd.refl _ _).wr _ _ (.inr rfl)
  have hb23 : blk w23 vb = some (#[.int .i16 ver,.pointer ap0,.pointer ap1,.int .i32 (IntKind.i32.wrap (t.at 2).n),.int .i32 (IntKind.i32.wrap (t.at 3).n),.int .i32 (IntKind.i32.wrap (t.at 4).n),.int .i32 (IntKind.i32.wrap (t.at 5).n),.int .i32 (IntKind.i32.wrap (t.at 6).n),.int .i32 (IntKind.i32.wrap (t.at 7).n),.int .i8 (IntKind.i8.wrap (t.at 8).n),.bool (decide ((t.at 9).n % 2 = 1)),.slice none 0 0,.slice none 0 0,.map none],60,(0,0)) := by rw [← hw23,blk_wr_eq,hb22];rfl
  have hU23 : Upd (fun b => b = vb) w1 w23 := hU22.trans hV23
  have htb23 := hU23.blk_some htb1 htv
  have hvl23 : vb < w23.heap.size := Nat.lt_of_lt_of_le hvl1 hU23.size
  have hsz23 := hU23.size
  clear hvl22 hsz22
  clear hw23
  have hf9 : RepF (RepS true (d + 3)) (szS true (d + 3)) fShareFetchRequest_9 (OkF okT w.heap.size w1.heap.size) w23 (t.at 9) [.bool (decide ((t.at 9).n % 2 = 1))] := (RepF_num (by decide)).2 rfl
  have hn0_10 : (t.at 10).null = false := g10.notnull (by decide)
  have hll10 := (g10.list rfl).1
  repeat ((first | refine qA rfl ?_|refine qB ?_|refine qC rfl ?_|refine qD ?_|refine qE ?_|refine qF ?_|refine qG ?_|refine qH ?_);try simp (maxSteps:=1000000)(disch:=(first|omega|(simp only [qI,qJ,qK]<;>omega)|exact qL _)) only [go_sem,↓reduceIte,n0,reduceCtorEq,n1,n2,n3,n4,n5,i0,i1,i2,i3,i4,i5,i6,i7,hb23,htb23])
  refine (iat_fn (ok := (OkS okT w.heap.size)) t 10 _ _ (ht1.keep (hU23.keeps fun b _ hk e => hoS b hk e)) (by decide) hllt).mono ?_
  rintro r24 w24 ⟨⟨ca24,rfl,hca24⟩,hEa24⟩
  obtain ⟨vSa24,vLa24,vUa24,rfl,hna24,hSa24,hLa24,hUa24⟩ := hca24.inv
  obtain ⟨bSa24,cSa24,rfl,hcSa24⟩ := hSa24.shape
  obtain ⟨bLa24,cLa24,rfl,hcLa24⟩ := SlR.shape hLa24
  have hfU24 := SlR.flat hUa24
  clear hcSa24 hcLa24 hna24
  have hV24 : Upd (fun b => b = vb) w23 w24 := hEa24.mono fun _ h => h.elim
  have hU24 : Upd (fun b => b = vb) w1 w24 := hU23.trans hV24
  have htb24 := hU24.blk_some htb1 htv
  have hvl24 : vb < w24.heap.size := Nat.lt_of_lt_of_le hvl1 hU24.size
  have hsz24 := hU24.size
  clear hvl23 hsz23
  have hb24 : blk w24 vb = some (#[.int .i16 ver,.pointer ap0,.pointer ap1,.int .i32 (IntKind.i32.wrap (t.at 2).n),.int .i32 (IntKind.i32.wrap (t.at 3).n),.int .i32 (IntKind.i32.wrap (t.at 4).n),.int .i32 (IntKind.i32.wrap (t.at 5).n),.int .i32 (IntKind.i32.wrap (t.at 6).n),.int .i32 (IntKind.i32.wrap (t.at 7).n),.int .i8 (IntKind.i8.wrap (t.at 8).n),.bool (decide ((t.at 9).n % 2 = 1)),.slice none 0 0,.slice none 0 0,.map none],60,(0,0)) := hEa24.blk_some hb23 id
  simp (maxSteps:=1000000)(disch:=(first|omega|(simp only [qI,qJ,qK]<;>omega)|exact qL _)) only [go_sem,↓reduceIte,n0,reduceCtorEq,n1,n2,n3,n4,n5,i0,i1,i2,i3,i4,i5,i6,i7,hn0_10,hb24,htb24]
  repeat ((first | refine qA rfl ?_|refine qB ?_|refine qC rfl ?_|refine qD ?_|refine qE ?_|refine qF ?_|refine qG ?_|refine qH ?_);try simp (maxSteps:=1000000)(disch:=(first|omega|(simp only [qI,qJ,qK]<;>omega)|exact qL _)) only [go_sem,↓reduceIte,n0,reduceCtorEq,n1,n2,n3,n4,n5,i0,i1,i2,i3,i4,i5,i6,i7,hb24,htb24])
  refine (iat_fn (ok := (OkS okT w.heap.size)) t 10 _ _ (ht1.keep (hU24.keeps fun b _ hk e => hoS b hk e)) (by decide) hllt).mono ?_
  rintro r25 w25 ⟨⟨ca25,rfl,hca25⟩,hEa25⟩
  obtain ⟨vSa25,vLa25,vUa25,rfl,hna25,hSa25,hLa25,hUa25⟩ := hca25.inv
  obtain ⟨bSa25,cSa25,rfl,hcSa25⟩ := hSa25.shape
  obtain ⟨bLa25,cLa25,rfl,hcLa25⟩ := SlR.shape hLa25
  have hfU25 := SlR.flat hUa25
  clear hcSa25 hcLa25 hna25
  have hV25 : Upd (fun b => b = vb) w24 w25 := hEa25.mono fun _ h => h.elim
  have hU25 : Upd (fun b => b = vb) w1 w25 := hU24.trans hV25
  have htb25 := hU25.blk_some htb1 htv
  have hvl25 : vb < w25.heap.size := Nat.lt_of_lt_of_le hvl1 hU25.size
  have hsz25 := hU25.size
  clear hvl24 hsz24
  have hb25 : blk w25 vb = some (#[.int .i16 ver,.pointer ap0,.pointer ap1,.int .i32 (IntKind.i32.wrap (t.at 2).n),.int .i32 (IntKind.i32.wrap (t.at 3).n),.int .i32 (IntKind.i32.wrap (t.at 4).n),.int .i32 (IntKind.i32.wrap (t.at 5).n),.int .i32 (IntKind.i32.wrap (t.at 6).n),.int .i32 (IntKind.i32.wrap (t.at 7).n),.int .i8 (IntKind.i8.wrap (t.at 8).n),.bool (decide ((t.at 9).n % 2 = 1)),.slice none 0 0,.slice none 0 0,.map none],60,(0,0)) := hEa25.blk_some hb24 id
  simp (maxSteps:=1000000)(disch:=(first|omega|(simp only [qI,qJ,qK]<;>omega)|exact qL _)) only [go_sem,↓reduceIte,n0,reduceCtorEq,n1,n2,n3,n4,n5,i0,i1,i2,i3,i4,i5,i6,i7,hb25,htb25]
  refine wp_make (T := 54) (E := 78) (size := 18) (bytes := 48) (z := (.agg #[.int .u8 0,.int .u8 0,.int .u8 0,.int .u8 0,.int .u8 0,.int .u8 0,.int .u8 0,.int .u8 0,.int .u8 0,.int .u8 0,.int .u8 0,.int .u8 0,.int .u8 0,.int .u8 0,.int .u8 0,.int .u8 0,.slice none 0 0,.map none])) (l := 0) (c := (t.at 10).l.length) (kl := .i64) (kc := .i64) (by kernel_rfl) (by kernel_rfl) (by simp (maxSteps:=1000000)(disch:=(first|omega|(simp only [qI,qJ,qK]<;>omega)|exact qL _)) only [go_sem,↓reduceIte,n0,reduceCtorEq,n1,n2,n3,n4,n5,i0,i1,i2,i3,i4,i5,i6,i7];rfl) (by simp (maxSteps:=1000000)(disch:=(first|omega|(simp only [qI,qJ,qK]<;>omega)|exact qL _)) only [go_sem,↓reduceIte,n0,reduceCtorEq,n1,n2,n3,n4,n5,i0,i1,i2,i3,i4,i5,i6,i7]) (by omega) (by omega) (by omega) ?_
  simp (maxSteps:=1000000)(disch:=(first|omega|(simp only [qI,qJ,qK]<;>omega)|exact qL _)) only [go_sem,↓reduceIte,n0,reduceCtorEq,n1,n2,n3,n4,n5,i0,i1,i2,i3,i4,i5,i6,i7,hb25,hvl25,htb25]
  have hszB10 := hsz25
  generalize hw26 : wr (w25.alloc (.cells (madeCells #[.int .u8 0,.int .u8 0,.int .u8 0,.int .u8 0,.int .u8 0,.int .u8 0,.int .u8 0,.int .u8 0,.int .u8 0,.int .u8 0,.int .u8 0,.int .u8 0,.int .u8 0,.int .u8 0,.int .u8 0,.int .u8 0,.slice none 0 0,.map none] ((t.at 10).l.length * 18)) 78)) vb 11 [.slice (some ⟨w25.heap.size,0,none⟩) 0 (t.at 10).l.length] = w26
  have hV26 : Upd (fun b => b = vb) w25 w26 := by rw [← hw26];exact ((Upd.refl _ _).alloc _).wr _ _ (.inr rfl)
  have hb26 : blk w26 vb = some (#[.int .i16 ver,.pointer ap0,.pointer ap1,.int .i32 (IntKind.i32.wrap (t.at 2).n),.int .i32 (IntKind.i32.wrap (t.at 3).n),.int .i32 (IntKind.i32.wrap (t.at 4).n),.int .i32 (IntKind.i32.wrap (t.at 5).n),.int .i32 (IntKind.i32.wrap (t.at 6).n),.int .i32 (IntKind.i32.wrap (t.at 7).n),.int .i8 (IntKind.i8.wrap (t.at 8).n),.bool (decide ((t.at 9).n % 2 = 1)),.slice (some ⟨w25.heap.size,0,none⟩) 0 (t.at 10).l.length,.slice none 0 0,.map none],60,(0,0)) := by rw [← hw26,blk_wr_eq,blk_alloc_old hvl25,hb25];rfl
  have hrow26 : blk w26 w25.heap.size = some (madeCells #[.int .u8 0,.int .u8 0,.int .u8 0,.int .u8 0,.int .u8 0,.int .u8 0,.int .u8 0,.int .u8 0,.int .u8 0,.int .u8 0,.int .u8 0,.int .u8 0,.int .u8 0,.int .u8 0,.int .u8 0,.int .u8 0,.slice none 0 0,.map none] ((t.at 10).l.length * 18),78,(0,0)) := by rw [← hw26,blk_wr_ne (Nat.ne_of_gt hvl25),blk_alloc_new rfl]
  have hg26 : GrowR (Rep1 (RepS true (d + 3)) fShareFetchRequest_10.of fShareFetchRequest_10.sub) 18 (OkF okT w.heap.size w1.heap.size) w25.heap.size vb w26 78 (.slice (some ⟨w25.heap.size,0,none⟩) 0 (t.at 10).l.length) [] := GrowR.made hrow26 (size_madeCells _ _) (Nat.le_refl _)
  have hU26 : Upd (fun b => b = vb) w1 w26 := hU25.trans hV26
  have htb26 := hU26.blk_some htb1 htv
  have hvl26 : vb < w26.heap.size := Nat.lt_of_lt_of_le hvl1 hU26.size
  have hsz26 := hU26.size
  clear hvl25 hsz25
  clear hw26 hrow26
  repeat ((first | refine qA rfl ?_|refine qB ?_|refine qC rfl ?_|refine qD ?_|refine qE ?_|refine qF ?_|refine qG ?_|refine qH ?_);try simp (maxSteps:=1000000)(disch:=(first|omega|(simp only [qI,qJ,qK]<;>omega)|exact qL _)) only [go_sem,↓reduceIte,n0,reduceCtorEq,n1,n2,n3,n4,n5,i0,i1,i2,i3,i4,i5,i6,i7,hb26,htb26])
  refine (iat_fn (ok := (OkS okT w.heap.size)) t 10 _ _ (ht1.keep (hU26.keeps fun b _ hk e => hoS b hk e)) (by decide) hllt).mono ?_
  rintro r27 w27 ⟨⟨ca27,rfl,hca27⟩,hEa27⟩
  obtain ⟨vSa27,vLa27,vUa27,rfl,hna27,hSa27,hLa27,hUa27⟩ := hca27.inv
  obtain ⟨bSa27,cSa27,rfl,hcSa27⟩ := hSa27.shape
  obtain ⟨bLa27,cLa27,rfl,hcLa27⟩ := SlR.shape hLa27
  have hfU27 := SlR.flat hUa27
  clear hcSa27 hcLa27 hna27
  have hV27 : Upd (fun b => b = vb) w26 w27 := hEa27.mono fun _ h => h.elim
  have hU27 : Upd (fun b => b = vb) w1 w27 := hU26.trans hV27
  have htb27 := hU27.blk_some htb1 htv
  have hvl27 : vb < w27.heap.size := Nat.lt_of_lt_of_le hvl1 hU27.size
  have hsz27 := hU27.size
  clear hvl26 hsz26
  have hb27 : blk w27 vb = some (#[.int .i16 ver,.pointer ap0,.pointer ap1,.int .i32 (IntKind.i32.wrap (t.at 2).n),.int .i32 (IntKind.i32.wrap (t.at 3).n),.int .i32 (IntKind.i32.wrap (t.at 4).n),.int .i32 (IntKind.i32.wrap (t.at 5).n),.int .i32 (IntKind.i32.wrap (t.at 6).n),.int .i32 (IntKind.i32.wrap (t.at 7).n),.int .i8 (IntKind.i8.wrap (t.at 8).n),.bool (decide ((t.at 9).n % 2 = 1)),.slice (some ⟨w25.heap.size,0,none⟩) 0 (t.at 10).l.length,.slice none 0 0,.map none],60,(0,0)) := hEa27.blk_some hb26 id
  have hg27 := hg26.ext (Rep1_lay _ _ fun _ => RepS_lay true (d + 3) _) hEa27
  simp (maxSteps:=1000000)(disch:=(first|omega|(simp only [qI,qJ,qK]<;>omega)|exact qL _)) only [go_sem,↓reduceIte,n0,reduceCtorEq,n1,n2,n3,n4,n5,i0,i1,i2,i3,i4,i5,i6,i7,hb27,htb27]
  repeat ((first | refine qA rfl ?_|refine qB ?_|refine qC rfl ?_|refine qD ?_|refine qE ?_|refine qF ?_|refine qG ?_|refine qH ?_);try simp (maxSteps:=1000000)(disch:=(first|omega|(simp only [qI,qJ,qK]<;>omega)|exact qL _)) only [go_sem,↓reduceIte,n0,reduceCtorEq,n1,n2,n3,n4,n5,i0,i1,i2,i3,i4,i5,i6,i7,hb27,htb27])
  have hVb10 : Upd (fun b => b = vb) w25 w27 := hV26.trans hV27
  have hUb10 := hU25
  have hvlB10 : vb < w25.heap.size := Nat.lt_of_lt_of_le hvl1 hszB10
  have hszL10 : w25.heap.size ≤ w27.heap.size := hVb10.size
  refine W.exitJ 0 (fun ρ w' => ∃ v,ρ 0 = .pointer (some ⟨vb,0,none⟩) ∧ ρ 3 = .pointer (some ⟨w.heap.size,0,none⟩) ∧ blk w' vb = some (#[.int .i16 ver,.pointer ap0,.pointer ap1,.int .i32 (IntKind.i32.wrap (t.at 2).n),.int .i32 (IntKind.i32.wrap (t.at 3).n),.int .i32 (IntKind.i32.wrap (t.at 4).n),.int .i32 (IntKind.i32.wrap (t.at 5).n),.int .i32 (IntKind.i32.wrap (t.at 6).n),.int .i32 (IntKind.i32.wrap (t.at 7).n),.int .i8 (IntKind.i8.wrap (t.at 8).n),.bool (decide ((t.at 9).n % 2 = 1)),v,.slice none 0 0,.map none],60,(0,0)) ∧ GrowR (Rep1 (RepS true (d + 3)) fShareFetchRequest_10.of fShareFetchRequest_10.sub) 18 (OkF okT w.heap.size w1.heap.size) w25.heap.size vb w' 78 v (t.at 10).l ∧ v ≠ .slice none 0 0 ∧ Upd (fun b => b = vb ∨ w25.heap.size ≤ b) w27 w')
    (W.loop (fun ρ w' => ∃ (j : Nat) (v : Value),j ≤ (t.at 10).l.length ∧ ρ 95 = .int .i64 j ∧ ρ 94 = .int .i64 (t.at 10).l.length ∧ ρ 93 = .slice bLa27 (t.at 10).l.length cLa27 ∧ ρ 0 = .pointer (some ⟨vb,0,none⟩) ∧ ρ 3 = .pointer (some ⟨w.heap.size,0,none⟩) ∧ blk w' vb = some (#[.int .i16 ver,.pointer ap0,.pointer ap1,.int .i32 (IntKind.i32.wrap (t.at 2).n),.int .i32 (IntKind.i32.wrap (t.at 3).n),.int .i32 (IntKind.i32.wrap (t.at 4).n),.int .i32 (IntKind.i32.wrap (t.at 5).n),.int .i32 (IntKind.i32.wrap (t.at 6).n),.int .i32 (IntKind.i32.wrap (t.at 7).n),.int .i8 (IntKind.i8.wrap (t.at 8).n),.bool (decide ((t.at 9).n % 2 = 1)),v,.slice none 0 0,.map none],60,(0,0)) ∧ GrowR (Rep1 (RepS true (d + 3)) fShareFetchRequest_10.of fShareFetchRequest_10.sub) 18 (OkF okT w.heap.size w1.heap.size) w25.heap.size vb w' 78 v ((t.at 10).l.take j) ∧ v ≠ .slice none 0 0 ∧ Upd (fun b => b = vb ∨ w25.heap.size ≤ b) w27 w')
      (fun ρ _ => (t.at 10).l.length - (RowKit.intOf (ρ 95)).toNat) ?_ ?_) ?_
  · refine ⟨0,_,Nat.zero_le _,?_,?_,?_,?_,?_,hb27,hg27,(by intro h;cases h),Upd.refl _ _⟩ <;> simp (maxSteps:=1000000)(disch:=(first|omega|(simp only [qI,qJ,qK]<;>omega)|exact qL _)) only [go_sem,↓reduceIte,n0,reduceCtorEq,n1,n2,n3,n4,n5,i0,i1,i2,i3,i4,i5,i6,i7]
    all_goals rfl
  · rintro ρ w_6 ⟨j,v,hj,hI,hN,hS,hr0,hr3,hbv,hg,hnil,hU_6⟩
    have hz_6 := hU_6.size
    have hJ_6 : Upd (fun b => b = vb) w25 w_6 := hVb10.more hU_6 fun b hb h => h.elim id fun h => absurd h (by omega)
    have hU_16 : Upd (fun b => b = vb) w1 w_6 := hUb10.trans hJ_6
    have hht_6 := hU_16.blk_some htb1 htv
    have hLt_6 := hLa27.keep (hU_6.keeps fun b _ hk e => e.elim (hoS b hk) fun e => by have := hk.2;omega)
    by_cases hlt : j < (t.at 10).l.length
    · obtain ⟨_,b,o,x,vS',vL',vU',hb,hokb,hx,hblt,hxs,hxe,q1,q2,q3,hc⟩ := TreesV.get hLt_6 hlt
      subst hb
      have hbS := (TreeC.inv hc)
      have hcat : (t.at 10).l.take (j + 1) = (t.at 10).l.take j ++ [(t.at 10).l[j]] := List.take_succ_eq_append_getElem hlt
      have hlen_9 : ((t.at 10).l.take j).length = j := by simp;omega
      have hgx := (g10.list rfl).2 _ (List.getElem_mem hlt)
      have hLx := (hLs.at 10).get hlt
      have hnb : ∀ b,b < w25.heap.size ∨ b = w_6.heap.size → ¬ ownB v b := fun b hb h => by
        have := hg.above h
        have := hg.below h
        omega
      generalize (t.at 10).l[j] = y at *
      obtain ⟨vSy,vLy,vUy,hcells,hny,hSy,hLy,hUy⟩ := hbS
      simp only [List.cons.injEq,true_and,and_true] at hcells
      obtain ⟨rfl,rfl,rfl⟩ := hcells
      obtain ⟨bSy,cSy,rfl,hcSy⟩ := hSy.shape
      repeat ((first | refine qA rfl ?_|refine qB ?_|refine qC rfl ?_|refine qD ?_|refine qE ?_|refine qF ?_|refine qG ?_|refine qH ?_);try simp (maxSteps:=1000000)(disch:=(first|omega|(simp only [qI,qJ,qK]<;>omega)|exact qL _)) only [go_sem,↓reduceIte,n0,reduceCtorEq,n1,n2,n3,n4,n5,i0,i1,i2,i3,i4,i5,i6,i7,hI,hN,hS,hx,hxe,q1,q2,q3,cellsAt_five,Int.toNat_natCast])
      generalize hw_7 : (wr (w_6.alloc (.cells #[.int .i64 0,.slice none 0 0,.bool false,.slice none 0 0,.slice none 0 0] 39)) w_6.heap.size 0 [.int .i64 y.n,.slice bSy y.s.length cSy,.bool y.null,vL',vU']) = w_7
      have hE_7 : Ext w_6 w_7 := by rw [← hw_7];exact (Upd.alloc (Upd.refl _ _) _).wr _ _ (.inl (Nat.le_refl _))
      have hb_7 : blk w_7 w_6.heap.size = some (#[.int .i64 y.n,.slice bSy y.s.length cSy,.bool y.null,vL',vU'],39,(0,0)) := by rw [← hw_7];simp (maxSteps:=1000000)(disch:=(first|omega|(simp only [qI,qJ,qK]<;>omega)|exact qL _)) only [go_sem,↓reduceIte,n0,reduceCtorEq,n1,n2,n3,n4,n5,i0,i1,i2,i3,i4,i5,i6,i7]
      have hz_7 : w_7.heap.size = w_6.heap.size + 1 := by rw [← hw_7];simp only [size_wr,World.size_alloc]
      have hbt_7 := hE_7.blk_some hbv id
      have hgv_7 := hE_7.blk_some hht_6 id
      have hc_7 := hc.keep (hE_7.keeps _)
      have hS_7 := hSy.keep (hE_7.keeps _)
      have hg_7 := hg.ext (Rep1_lay _ _ fun _ => RepS_lay true (d + 3) _) hE_7
      clear hw_7
      refine W.drawR (.take 0 (.take 1 (.take 2 (.take 3 (.take 4 (.take 5 (.only 6 (.only 7 (.only 8 (.take 9 (.take 10 (.last 11)))))))))))) (ownB v) mixed (by kernel_rfl) ?_
      simp (maxSteps:=1000000)(disch:=(first|omega|(simp only [qI,qJ,qK]<;>omega)|exact qL _ | (refine hnb _ ?_;first | omega | (simp only [World.size_alloc,size_wr,size_drew] <;> omega)))) only [go_sem,↓reduceIte,n0,reduceCtorEq,n1,n2,n3,n4,n5,i0,i1,i2,i3,i4,i5,i6,i7,hr0,hr3,hbt_7,hb_7,hgv_7,cellsAt_five]
      have hE_7d : Ext w_7 w_7.drew := (Upd.refl _ _).drew
      have hg_7d := hg_7.ext (Rep1_lay _ _ fun _ => RepS_lay true (d + 3) _) hE_7d
      have hzd : w_7.drew.heap.size = w_7.heap.size := size_drew _
      have hbt_7d := hE_7d.blk_some hbt_7 id
      refine (makeX3_fn (d := d) (okT := (OkS okT w.heap.size)) (V := V) y _ w_7.drew (hc_7.keep (hE_7d.keeps _)) (hgx.2.2 rfl) hLx).mono ?_
      rintro r8 w_8 ⟨⟨cs8,rfl,hc_8⟩,hE_8⟩
      obtain ⟨hfl_8,hcl_8⟩ := (RepS_lay true (d + 3) fs_X3).flat hc_8
      obtain ⟨y0,y1,y2,y3,y4,y5,y6,y7,y8,y9,y10,y11,y12,y13,y14,y15,y16,y17,rfl⟩ : ∃ y0 y1 y2 y3 y4 y5 y6 y7 y8 y9 y10 y11 y12 y13 y14 y15 y16 y17,cs8 = [y0,y1,y2,y3,y4,y5,y6,y7,y8,y9,y10,y11,y12,y13,y14,y15,y16,y17] := by
        have hcl_8' : cs8.length = 18 := hcl_8
        match cs8,hcl_8' with
        | [y0,y1,y2,y3,y4,y5,y6,y7,y8,y9,y10,y11,y12,y13,y14,y15,y16,y17],_ => exact ⟨y0,y1,y2,y3,y4,y5,y6,y7,y8,y9,y10,y11,y12,y13,y14,y15,y16,y17,rfl⟩
      simp only [List.all_cons,List.all_nil,Bool.and_true,Bool.and_eq_true] at hfl_8
      obtain ⟨fy0,fy1,fy2,fy3,fy4,fy5,fy6,fy7,fy8,fy9,fy10,fy11,fy12,fy13,fy14,fy15,fy16,fy17⟩ := hfl_8
      have hz_8 := hE_8.size
      have hM_8 : Upd (ownB v) w_7.drew w_8 := hE_8.mono (fun _ h => h.elim)
      refine ⟨hM_8,?_⟩
      have hE_9 : Ext w_8 (w_8.alloc (.cells #[y0,y1,y2,y3,y4,y5,y6,y7,y8,y9,y10,y11,y12,y13,y14,y15,y16,y17] 78)) := Upd.alloc (Upd.refl _ _) _
      have hM_9 : Upd (ownB v) w_7.drew (w_8.alloc (.cells #[y0,y1,y2,y3,y4,y5,y6,y7,y8,y9,y10,y11,y12,y13,y14,y15,y16,y17] 78)) := hM_8.alloc _
      simp (maxSteps:=1000000)(disch:=(first|omega|(simp only [qI,qJ,qK]<;>omega)|exact qL _)) only [go_sem,↓reduceIte,n0,reduceCtorEq,n1,n2,n3,n4,n5,i0,i1,i2,i3,i4,i5,i6,i7,hr0,hr3,hbt_7d,fy0,fy1,fy2,fy3,fy4,fy5,fy6,fy7,fy8,fy9,fy10,fy11,fy12,fy13,fy14,fy15,fy16,fy17]
      refine ⟨hM_9,?_⟩
      have hE_79 : Ext w_7.drew (w_8.alloc (.cells #[y0,y1,y2,y3,y4,y5,y6,y7,y8,y9,y10,y11,y12,y13,y14,y15,y16,y17] 78)) := hE_8.trans hE_9
      have hg_9 := (hg_7d.ext (Rep1_lay _ _ fun _ => RepS_lay true (d + 3) _) hE_8).ext (Rep1_lay _ _ fun _ => RepS_lay true (d + 3) _) hE_9
      have hx_9 : Rep1 (RepS true (d + 3)) fShareFetchRequest_10.of fShareFetchRequest_10.sub (fun b => (OkF okT w.heap.size w1.heap.size) b ∧ b ≠ vb ∧ ¬ ownB v b) (w_8.alloc (.cells #[y0,y1,y2,y3,y4,y5,y6,y7,y8,y9,y10,y11,y12,y13,y14,y15,y16,y17] 78)) y [y0,y1,y2,y3,y4,y5,y6,y7,y8,y9,y10,y11,y12,y13,y14,y15,y16,y17] :=
        Rep1_part.2 (((RepS_lay true (d + 3) fs_X3).keep hc_8 (hE_9.keeps _)) |> fun h => (RepS_lay true (d + 3) fs_X3).weaken h fun b _ hk => by
          rcases hk with hk | hk
          · exact ⟨.inl hk,hoS b hk,fun h => by have := hg.above h;have := hk.2;omega⟩
          · exact ⟨.inr (by omega),by omega,fun h => by have := hg.below h;omega⟩)
      obtain ⟨css,hown,hall⟩ := hg_9.ex
      have hcl_9 := hall.1
      refine wp_append ap_54_54 (m := 1) (news := [y0,y1,y2,y3,y4,y5,y6,y7,y8,y9,y10,y11,y12,y13,y14,y15,y16,y17]) (n := css.length) (cs := css.flatten) (v := v) ?_ rfl hown.1 (all2_flat_R (Rep1_lay _ _ fun _ => RepS_lay true (d + 3) _) hall) (Src.blk (fr := (0,0)) (T := 78) (blk_alloc_new (by first | rfl | omega | (simp only [size_drew];omega))) rfl (by simp only [List.all_cons,List.all_nil,Bool.and_true,Bool.and_eq_true];exact ⟨fy0,fy1,fy2,fy3,fy4,fy5,fy6,fy7,fy8,fy9,fy10,fy11,fy12,fy13,fy14,fy15,fy16,fy17⟩)) ?_ ?_ ?_
      · simp (maxSteps:=1000000)(disch:=(first|omega|(simp only [qI,qJ,qK]<;>omega)|exact qL _)) only [go_sem,↓reduceIte,n0,reduceCtorEq,n1,n2,n3,n4,n5,i0,i1,i2,i3,i4,i5,i6,i7]
      · simp only [World.size_alloc,size_drew];omega
      · omega
      intro v' w_10 ho hu hfr
      have hg_10 := GrowR.snoc (Rep1_lay _ _ fun _ => RepS_lay true (d + 3) _) hown hall hx_9 hu hfr ho
      have hz_10 := hu.size
      simp only [World.size_alloc,size_drew] at hz_10
      obtain ⟨va,vc,hv',_⟩ := ho.shape
      subst hv'
      have hbt_10 := (hM_9.trans hu).blk_some hbt_7d (hnb _ (.inl hvlB10))
      have htb' : ¬ ownB (.slice va (css.length + 1) vc) vb := fun h => by
        rcases hfr _ h with h | h
        · exact hnb _ (.inl hvlB10) h
        · simp only [World.size_alloc,size_drew] at h;omega
      simp (maxSteps:=1000000)(disch:=(first|omega|(simp only [qI,qJ,qK]<;>omega)|exact qL _)) only [go_sem,↓reduceIte,n0,reduceCtorEq,n1,n2,n3,n4,n5,i0,i1,i2,i3,i4,i5,i6,i7]
      refine ⟨hM_9.trans hu,?_⟩
      simp (maxSteps:=1000000)(disch:=(first|omega|(simp only [qI,qJ,qK]<;>omega)|exact qL _)) only [go_sem,↓reduceIte,n0,reduceCtorEq,n1,n2,n3,n4,n5,i0,i1,i2,i3,i4,i5,i6,i7,hr0,hr3,hbt_10]
      repeat ((first | refine qA rfl ?_|refine qB ?_|refine qC rfl ?_|refine qD ?_|refine qE ?_|refine qF ?_|refine qG ?_|refine qH ?_);try simp (maxSteps:=1000000)(disch:=(first|omega|(simp only [qI,qJ,qK]<;>omega)|exact qL _)) only [go_sem,↓reduceIte,n0,reduceCtorEq,n1,n2,n3,n4,n5,i0,i1,i2,i3,i4,i5,i6,i7,hI])
      refine ⟨⟨j + 1,.slice va (css.length + 1) vc,by omega,rfl,hN,hS,hr0,hr3,?_,?_,?_,?_⟩,?_⟩
      · simp (maxSteps:=1000000)(disch:=(first|omega|(simp only [qI,qJ,qK]<;>omega)|exact qL _)) only [go_sem,↓reduceIte,n0,reduceCtorEq,n1,n2,n3,n4,n5,i0,i1,i2,i3,i4,i5,i6,i7,hbt_10]
      · rw [hcat];exact hg_10.upd (Rep1_lay _ _ fun _ => RepS_lay true (d + 3) _) ((Upd.refl _ _).wr _ _ (.inr rfl)) htb'
      · intro h;cases h
      · refine Upd.wr ?_ _ _ (.inr (.inl rfl))
        exact hU_6.more (((hE_7.mono fun _ h => h.elim).trans (hE_7d.mono fun _ h => h.elim)).trans (hM_9.trans hu)) fun b hb h => .inr (hg.above h)
      · simp only [RowKit.intOf];omega
    · have hjl : j = (t.at 10).l.length := by omega
      subst hjl
      rw [List.take_length] at hg
      repeat ((first | refine qA rfl ?_|refine qB ?_|refine qC rfl ?_|refine qD ?_|refine qE ?_|refine qF ?_|refine qG ?_|refine qH ?_);try simp (maxSteps:=1000000)(disch:=(first|omega|(simp only [qI,qJ,qK]<;>omega)|exact qL _)) only [go_sem,↓reduceIte,n0,reduceCtorEq,n1,n2,n3,n4,n5,i0,i1,i2,i3,i4,i5,i6,i7,hI,hN])
      exact ⟨v,hr0,hr3,hbv,hg,hnil,hU_6⟩
  · rintro ρ w28 ⟨v10,hr0,hr3,hb28,hg28,hnil10,hK28⟩
    have hV28 : Upd (fun b => b = vb) w25 w28 := hVb10.more hK28 fun b hb h => h.elim id fun h => absurd h (by omega)
    have hU28 : Upd (fun b => b = vb) w1 w28 := hU25.trans hV28
    have htb28 := hU28.blk_some htb1 htv
    have hvl28 : vb < w28.heap.size := Nat.lt_of_lt_of_le hvl1 hU28.size
    have hsz28 := hU28.size
    clear hvl27 hsz27
    obtain ⟨al10,kl10,rfl,_⟩ := hg28.shape
    have hf10 : RepF (RepS true (d + 3)) (szS true (d + 3)) fShareFetchRequest_10 (OkF okT w.heap.size w1.heap.size) w28 (t.at 10) [.slice al10 (t.at 10).l.length kl10] := (RepF_list rfl hn0_10).2 ⟨_,rfl,hg28.sl (Rep1_lay _ _ fun _ => RepS_lay true (d + 3) _) (fun _ _ h => h) (fun b hb => .inr (by omega)),hg28.some hnil10⟩
    have hn0_11 : (t.at 11).null = false := g11.notnull (by decide)
    have hll11 := (g11.list rfl).1
    repeat ((first | refine qA rfl ?_|refine qB ?_|refine qC rfl ?_|refine qD ?_|refine qE ?_|refine qF ?_|refine qG ?_|refine qH ?_);try simp (maxSteps:=1000000)(disch:=(first|omega|(simp only [qI,qJ,qK]<;>omega)|exact qL _)) only [go_sem,↓reduceIte,n0,reduceCtorEq,n1,n2,n3,n4,n5,i0,i1,i2,i3,i4,i5,i6,i7,hb28,htb28,hr0,hr3])
    refine (iat_fn (ok := (OkS okT w.heap.size)) t 11 _ _ (ht1.keep (hU28.keeps fun b _ hk e => hoS b hk e)) (by decide) hllt).mono ?_
    rintro r29 w29 ⟨⟨ca29,rfl,hca29⟩,hEa29⟩
    obtain ⟨vSa29,vLa29,vUa29,rfl,hna29,hSa29,hLa29,hUa29⟩ := hca29.inv
    obtain ⟨bSa29,cSa29,rfl,hcSa29⟩ := hSa29.shape
    obtain ⟨bLa29,cLa29,rfl,hcLa29⟩ := SlR.shape hLa29
    have hfU29 := SlR.flat hUa29
    clear hcSa29 hcLa29 hna29
    have hV29 : Upd (fun b => b = vb) w28 w29 := hEa29.mono fun _ h => h.elim
    have hU29 : Upd (fun b => b = vb) w1 w29 := hU28.trans hV29
    have htb29 := hU29.blk_some htb1 htv
    have hvl29 : vb < w29.heap.size := Nat.lt_of_lt_of_le hvl1 hU29.size
    have hsz29 := hU29.size
    clear hvl28 hsz28
    have hb29 : blk w29 vb = some (#[.int .i16 ver,.pointer ap0,.pointer ap1,.int .i32 (IntKind.i32.wrap (t.at 2).n),.int .i32 (IntKind.i32.wrap (t.at 3).n),.int .i32 (IntKind.i32.wrap (t.at 4).n),.int .i32 (IntKind.i32.wrap (t.at 5).n),.int .i32 (IntKind.i32.wrap (t.at 6).n),.int .i32 (IntKind.i32.wrap (t.at 7).n),.int .i8 (IntKind.i8.wrap (t.at 8).n),.bool (decide ((t.at 9).n % 2 = 1)),.slice al10 (t.at 10).l.length kl10,.slice none 0 0,.map none],60,(0,0)) := hEa29.blk_some hb28 id
    simp (maxSteps:=1000000)(disch:=(first|omega|(simp only [qI,qJ,qK]<;>omega)|exact qL _)) only [go_sem,↓reduceIte,n0,reduceCtorEq,n1,n2,n3,n4,n5,i0,i1,i2,i3,i4,i5,i6,i7,hn0_11,hb29,htb29,hr0,hr3]
    repeat ((first | refine qA rfl ?_|refine qB ?_|refine qC rfl ?_|refine qD ?_|refine qE ?_|refine qF ?_|refine qG ?_|refine qH ?_);try simp (maxSteps:=1000000)(disch:=(first|omega|(simp only [qI,qJ,qK]<;>omega)|exact qL _)) only [go_sem,↓reduceIte,n0,reduceCtorEq,n1,n2,n3,n4,n5,i0,i1,i2,i3,i4,i5,i6,i7,hb29,htb29,hr0,hr3])
    refine (iat_fn (ok := (OkS okT w.heap.size)) t 11 _ _ (ht1.keep (hU29.keeps fun b _ hk e => hoS b hk e)) (by decide) hllt).mono ?_
    rintro r30 w30 ⟨⟨ca30,rfl,hca30⟩,hEa30⟩
    obtain ⟨vSa30,vLa30,vUa30,rfl,hna30,hSa30,hLa30,hUa30⟩ := hca30.inv
    obtain ⟨bSa30,cSa30,rfl,hcSa30⟩ := hSa30.shape
    obtain ⟨bLa30,cLa30,rfl,hcLa30⟩ := SlR.shape hLa30
    have hfU30 := SlR.flat hUa30
    clear hcSa30 hcLa30 hna30
    have hV30 : Upd (fun b => b = vb) w29 w30 := hEa30.mono fun _ h => h.elim
    have hU30 : Upd (fun b => b = vb) w1 w30 := hU29.trans hV30
    have htb30 := hU30.blk_some htb1 htv
    have hvl30 : vb < w30.heap.size := Nat.lt_of_lt_of_le hvl1 hU30.size
    have hsz30 := hU30.size
    clear hvl29 hsz29
    have hb30 : blk w30 vb = some (#[.int .i16 ver,.pointer ap0,.pointer ap1,.int .i32 (IntKind.i32.wrap (t.at 2).n),.int .i32 (IntKind.i32.wrap (t.at 3).n),.int .i32 (IntKind.i32.wrap (t.at 4).n),.int .i32 (IntKind.i32.wrap (t.at 5).n),.int .i32 (IntKind.i32.wrap (t.at 6).n),.int .i32 (IntKind.i32.wrap (t.at 7).n),.int .i8 (IntKind.i8.wrap (t.at 8).n),.bool (decide ((t.at 9).n % 2 = 1)),.slice al10 (t.at 10).l.length kl10,.slice none 0 0,.map none],60,(0,0)) := hEa30.blk_some hb29 id
    simp (maxSteps:=1000000)(disch:=(first|omega|(simp only [qI,qJ,qK]<;>omega)|exact qL _)) only [go_sem,↓reduceIte,n0,reduceCtorEq,n1,n2,n3,n4,n5,i0,i1,i2,i3,i4,i5,i6,i7,hb30,htb30,hr0,hr3]
    refine wp_make (T := 55) (E := 82) (size := 18) (bytes := 48) (z := (.agg #[.int .u8 0,.int .u8 0,.int .u8 0,.int .u8 0,.int .u8 0,.int .u8 0,.int .u8 0,.int .u8 0,.int .u8 0,.int .u8 0,.int .u8 0,.int .u8 0,.int .u8 0,.int .u8 0,.int .u8 0,.int .u8 0,.slice none 0 0,.map none])) (l := 0) (c := (t.at 11).l.length) (kl := .i64) (kc := .i64) (by kernel_rfl) (by kernel_rfl) (by simp (maxSteps:=1000000)(disch:=(first|omega|(simp only [qI,qJ,qK]<;>omega)|exact qL _)) only [go_sem,↓reduceIte,n0,reduceCtorEq,n1,n2,n3,n4,n5,i0,i1,i2,i3,i4,i5,i6,i7];rfl) (by simp (maxSteps:=1000000)(disch:=(first|omega|(simp only [qI,qJ,qK]<;>omega)|exact qL _)) only [go_sem,↓reduceIte,n0,reduceCtorEq,n1,n2,n3,n4,n5,i0,i1,i2,i3,i4,i5,i6,i7]) (by omega) (by omega) (by omega) ?_
    simp (maxSteps:=1000000)(disch:=(first|omega|(simp only [qI,qJ,qK]<;>omega)|exact qL _)) only [go_sem,↓reduceIte,n0,reduceCtorEq,n1,n2,n3,n4,n5,i0,i1,i2,i3,i4,i5,i6,i7,hb30,hvl30,htb30,hr0,hr3]
    have hszB11 := hsz30
    generalize hw31 : wr (w30.alloc (.cells (madeCells #[.int .u8 0,.int .u8 0,.int .u8 0,.int .u8 0,.int .u8 0,.int .u8 0,.int .u8 0,.int .u8 0,.int .u8 0,.int .u8 0,.int .u8 0,.int .u8 0,.int .u8 0,.int .u8 0,.int .u8 0,.int .u8 0,.slice none 0 0,.map none] ((t.at 11).l.length * 18)) 82)) vb 12 [.slice (some ⟨w30.heap.size,0,none⟩) 0 (t.at 11).l.length] = w31
    have hV31 : Upd (fun b => b = vb) w30 w31 := by rw [← hw31];exact ((Upd.refl _ _).alloc _).wr _ _ (.inr rfl)
    have hb31 : blk w31 vb = some (#[.int .i16 ver,.pointer ap0,.pointer ap1,.int .i32 (IntKind.i32.wrap (t.at 2).n),.int .i32 (IntKind.i32.wrap (t.at 3).n),.int .i32 (IntKind.i32.wrap (t.at 4).n),.int .i32 (IntKind.i32.wrap (t.at 5).n),.int .i32 (IntKind.i32.wrap (t.at 6).n),.int .i32 (IntKind.i32.wrap (t.at 7).n),.int .i8 (IntKind.i8.wrap (t.at 8).n),.bool (decide ((t.at 9).n % 2 = 1)),.slice al10 (t.at 10).l.length kl10,.slice (some ⟨w30.heap.size,0,none⟩) 0 (t.at 11).l.length,.map none],60,(0,0)) := by rw [← hw31,blk_wr_eq,blk_alloc_old hvl30,hb30];rfl
    have hrow31 : blk w31 w30.heap.size = some (madeCells #[.int .u8 0,.int .u8 0,.int .u8 0,.int .u8 0,.int .u8 0,.int .u8 0,.int .u8 0,.int .u8 0,.int .u8 0,.int .u8 0,.int .u8 0,.int .u8 0,.int .u8 0,.int .u8 0,.int .u8 0,.int .u8 0,.slice none 0 0,.map none] ((t.at 11).l.length * 18),82,(0,0)) := by rw [← hw31,blk_wr_ne (Nat.ne_of_gt hvl30),blk_alloc_new rfl]
    have hg31 : GrowR (Rep1 (RepS true (d + 3)) fShareFetchRequest_11.of fShareFetchRequest_11.sub) 18 (OkF okT w.heap.size w1.heap.size) w30.heap.size vb w31 82 (.slice (some ⟨w30.heap.size,0,none⟩) 0 (t.at 11).l.length) [] := GrowR.made hrow31 (size_madeCells _ _) (Nat.le_refl _)
    have hU31 : Upd (fun b => b = vb) w1 w31 := hU30.trans hV31
    have htb31 := hU31.blk_some htb1 htv
    have hvl31 : vb < w31.heap.size := Nat.lt_of_lt_of_le hvl1 hU31.size
    have hsz31 := hU31.size
    clear hvl30 hsz30
    clear hw31 hrow31
    repeat ((first | refine qA rfl ?_|refine qB ?_|refine qC rfl ?_|refine qD ?_|refine qE ?_|refine qF ?_|refine qG ?_|refine qH ?_);try simp (maxSteps:=1000000)(disch:=(first|omega|(simp only [qI,qJ,qK]<;>omega)|exact qL _)) only [go_sem,↓reduceIte,n0,reduceCtorEq,n1,n2,n3,n4,n5,i0,i1,i2,i3,i4,i5,i6,i7,hb31,htb31,hr0,hr3])
    refine (iat_fn (ok := (OkS okT w.heap.size)) t 11 _ _ (ht1.keep (hU31.keeps fun b _ hk e => hoS b hk e)) (by decide) hllt).mono ?_
    rintro r32 w32 ⟨⟨ca32,rfl,hca32⟩,hEa32⟩
    obtain ⟨vSa32,vLa32,vUa32,rfl,hna32,hSa32,hLa32,hUa32⟩ := hca32.inv
    obtain ⟨bSa32,cSa32,rfl,hcSa32⟩ := hSa32.shape
    obtain ⟨bLa32,cLa32,rfl,hcLa32⟩ := SlR.shape hLa32
    have hfU32 := SlR.flat hUa32
    clear hcSa32 hcLa32 hna32
    have hV32 : Upd (fun b => b = vb) w31 w32 := hEa32.mono fun _ h => h.elim
    have hU32 : Upd (fun b => b = vb) w1 w32 := hU31.trans hV32
    have htb32 := hU32.blk_some htb1 htv
    have hvl32 : vb < w32.heap.size := Nat.lt_of_lt_of_le hvl1 hU32.size
    have hsz32 := hU32.size
    clear hvl31 hsz31
    have hb32 : blk w32 vb = some (#[.int .i16 ver,.pointer ap0,.pointer ap1,.int .i32 (IntKind.i32.wrap (t.at 2).n),.int .i32 (IntKind.i32.wrap (t.at 3).n),.int .i32 (IntKind.i32.wrap (t.at 4).n),.int .i32 (IntKind.i32.wrap (t.at 5).n),.int .i32 (IntKind.i32.wrap (t.at 6).n),.int .i32 (IntKind.i32.wrap (t.at 7).n),.int .i8 (IntKind.i8.wrap (t.at 8).n),.bool (decide ((t.at 9).n % 2 = 1)),.slice al10 (t.at 10).l.length kl10,.slice (some ⟨w30.heap.size,0,none⟩) 0 (t.at 11).l.length,.map none],60,(0,0)) := hEa32.blk_some hb31 id
    have hg32 := hg31.ext (Rep1_lay _ _ fun _ => RepS_lay true (d + 3) _) hEa32
    simp (maxSteps:=1000000)(disch:=(first|omega|(simp only [qI,qJ,qK]<;>omega)|exact qL _)) only [go_sem,↓reduceIte,n0,reduceCtorEq,n1,n2,n3,n4,n5,i0,i1,i2,i3,i4,i5,i6,i7,hb32,htb32,hr0,hr3]
    repeat ((first | refine qA rfl ?_|refine qB ?_|refine qC rfl ?_|refine qD ?_|refine qE ?_|refine qF ?_|refine qG ?_|refine qH ?_);try simp (maxSteps:=1000000)(disch:=(first|omega|(simp only [qI,qJ,qK]<;>omega)|exact qL _)) only [go_sem,↓reduceIte,n0,reduceCtorEq,n1,n2,n3,n4,n5,i0,i1,i2,i3,i4,i5,i6,i7,hb32,htb32,hr0,hr3])
    have hVb11 : Upd (fun b => b = vb) w30 w32 := hV31.trans hV32
    have hUb11 := hU30
    have hvlB11 : vb < w30.heap.size := Nat.lt_of_lt_of_le hvl1 hszB11
    have hszL11 : w30.heap.size ≤ w32.heap.size := hVb11.size
    refine W.exitJ 2 (fun ρ w' => ∃ v,ρ 0 = .pointer (some ⟨vb,0,none⟩) ∧ ρ 3 = .pointer (some ⟨w.heap.size,0,none⟩) ∧ blk w' vb = some (#[.int .i16 ver,.pointer ap0,.pointer ap1,.int .i32 (IntKind.i32.wrap (t.at 2).n),.int .i32 (IntKind.i32.wrap (t.at 3).n),.int .i32 (IntKind.i32.wrap (t.at 4).n),.int .i32 (IntKind.i32.wrap (t.at 5).n),.int .i32 (IntKind.i32.wrap (t.at 6).n),.int .i32 (IntKind.i32.wrap (t.at 7).n),.int .i8 (IntKind.i8.wrap (t.at 8).n),.bool (decide ((t.at 9).n % 2 = 1)),.slice al10 (t.at 10).l.length kl10,v,.map none],60,(0,0)) ∧ GrowR (Rep1 (RepS true (d + 3)) fShareFetchRequest_11.of fShareFetchRequest_11.sub) 18 (OkF okT w.heap.size w1.heap.size) w30.heap.size vb w' 82 v (t.at 11).l ∧ v ≠ .slice none 0 0 ∧ Upd (fun b => b = vb ∨ w30.heap.size ≤ b) w32 w')
      (W.loop (fun ρ w' => ∃ (j : Nat) (v : Value),j ≤ (t.at 11).l.length ∧ ρ 127 = .int .i64 j ∧ ρ 126 = .int .i64 (t.at 11).l.length ∧ ρ 125 = .slice bLa32 (t.at 11).l.length cLa32 ∧ ρ 0 = .pointer (some ⟨vb,0,none⟩) ∧ ρ 3 = .pointer (some ⟨w.heap.size,0,none⟩) ∧ blk w' vb = some (#[.int .i16 ver,.pointer ap0,.pointer ap1,.int .i32 (IntKind.i32.wrap (t.at 2).n),.int .i32 (IntKind.i32.wrap (t.at 3).n),.int .i32 (IntKind.i32.wrap (t.at 4).n),.int .i32 (IntKind.i32.wrap (t.at 5).n),.int .i32 (IntKind.i32.wrap (t.at 6).n),.int .i32 (IntKind.i32.wrap (t.at 7).n),.int .i8 (IntKind.i8.wrap (t.at 8).n),.bool (decide ((t.at 9).n % 2 = 1)),.slice al10 (t.at 10).l.length kl10,v,.map none],60,(0,0)) ∧ GrowR (Rep1 (RepS true (d + 3)) fShareFetchRequest_11.of fShareFetchRequest_11.sub) 18 (OkF okT w.heap.size w1.heap.size) w30.heap.size vb w' 82 v ((t.at 11).l.take j) ∧ v ≠ .slice none 0 0 ∧ Upd (fun b => b = vb ∨ w30.heap.size ≤ b) w32 w')
        (fun ρ _ => (t.at 11).l.length - (RowKit.intOf (ρ 127)).toNat) ?_ ?_) ?_
    · refine ⟨0,_,Nat.zero_le _,?_,?_,?_,?_,?_,hb32,hg32,(by intro h;cases h),Upd.refl _ _⟩ <;> simp (maxSteps:=1000000)(disch:=(first|omega|(simp only [qI,qJ,qK]<;>omega)|exact qL _)) only [go_sem,↓reduceIte,n0,reduceCtorEq,n1,n2,n3,n4,n5,i0,i1,i2,i3,i4,i5,i6,i7,hr0,hr3]
      all_goals rfl
    · rintro ρ w_6 ⟨j,v,hj,hI,hN,hS,hr0,hr3,hbv,hg,hnil,hU_6⟩
      have hz_6 := hU_6.size
      have hJ_6 : Upd (fun b => b = vb) w30 w_6 := hVb11.more hU_6 fun b hb h => h.elim id fun h => absurd h (by omega)
      have hU_16 : Upd (fun b => b = vb) w1 w_6 := hUb11.trans hJ_6
      have hht_6 := hU_16.blk_some htb1 htv
      have hLt_6 := hLa32.keep (hU_6.keeps fun b _ hk e => e.elim (hoS b hk) fun e => by have := hk.2;omega)
      by_cases hlt : j < (t.at 11).l.length
      · obtain ⟨_,b,o,x,vS',vL',vU',hb,hokb,hx,hblt,hxs,hxe,q1,q2,q3,hc⟩ := TreesV.get hLt_6 hlt
        subst hb
        have hbS := (TreeC.inv hc)
        have hcat : (t.at 11).l.take (j + 1) = (t.at 11).l.take j ++ [(t.at 11).l[j]] := List.take_succ_eq_append_getElem hlt
        have hlen_9 : ((t.at 11).l.take j).length = j := by simp;omega
        have hgx := (g11.list rfl).2 _ (List.getElem_mem hlt)
        have hLx := (hLs.at 11).get hlt
        have hnb : ∀ b,b < w30.heap.size ∨ b = w_6.heap.size → ¬ ownB v b := fun b hb h => by
          have := hg.above h
          have := hg.below h
          omega
        generalize (t.at 11).l[j] = y at *
        obtain ⟨vSy,vLy,vUy,hcells,hny,hSy,hLy,hUy⟩ := hbS
        simp only [List.cons.injEq,true_and,and_true] at hcells
        obtain ⟨rfl,rfl,rfl⟩ := hcells
        obtain ⟨bSy,cSy,rfl,hcSy⟩ := hSy.shape
        repeat ((first | refine qA rfl ?_|refine qB ?_|refine qC rfl ?_|refine qD ?_|refine qE ?_|refine qF ?_|refine qG ?_|refine qH ?_);try simp (maxSteps:=1000000)(disch:=(first|omega|(simp only [qI,qJ,qK]<;>omega)|exact qL _)) only [go_sem,↓reduceIte,n0,reduceCtorEq,n1,n2,n3,n4,n5,i0,i1,i2,i3,i4,i5,i6,i7,hI,hN,hS,hx,hxe,q1,q2,q3,cellsAt_five,Int.toNat_natCast])
        generalize hw_7 : (wr (w_6.alloc (.cells #[.int .i64 0,.slice none 0 0,.bool false,.slice none 0 0,.slice none 0 0] 39)) w_6.heap.size 0 [.int .i64 y.n,.slice bSy y.s.length cSy,.bool y.null,vL',vU']) = w_7
        have hE_7 : Ext w_6 w_7 := by rw [← hw_7];exact (Upd.alloc (Upd.refl _ _) _).wr _ _ (.inl (Nat.le_refl _))
        have hb_7 : blk w_7 w_6.heap.size = some (#[.int .i64 y.n,.slice bSy y.s.length cSy,.bool y.null,vL',vU'],39,(0,0)) := by rw [← hw_7];simp (maxSteps:=1000000)(disch:=(first|omega|(simp only [qI,qJ,qK]<;>omega)|exact qL _)) only [go_sem,↓reduceIte,n0,reduceCtorEq,n1,n2,n3,n4,n5,i0,i1,i2,i3,i4,i5,i6,i7]
        have hz_7 : w_7.heap.size = w_6.heap.size + 1 := by rw [← hw_7];simp only [size_wr,World.size_alloc]
        have hbt_7 := hE_7.blk_some hbv id
        have hgv_7 := hE_7.blk_some hht_6 id
        have hc_7 := hc.keep (hE_7.keeps _)
        have hS_7 := hSy.keep (hE_7.keeps _)
        have hg_7 := hg.ext (Rep1_lay _ _ fun _ => RepS_lay true (d + 3) _) hE_7
        clear hw_7
        refine W.drawR (.take 0 (.take 1 (.take 2 (.take 3 (.take 4 (.take 5 (.only 6 (.only 7 (.only 8 (.take 9 (.take 10 (.last 11)))))))))))) (ownB v) mixed (by kernel_rfl) ?_
        simp (maxSteps:=1000000)(disch:=(first|omega|(simp only [qI,qJ,qK]<;>omega)|exact qL _ | (refine hnb _ ?_;first | omega | (simp only [World.size_alloc,size_wr,size_drew] <;> omega)))) only [go_sem,↓reduceIte,n0,reduceCtorEq,n1,n2,n3,n4,n5,i0,i1,i2,i3,i4,i5,i6,i7,hr0,hr3,hbt_7,hb_7,hgv_7,cellsAt_five]
        have hE_7d : Ext w_7 w_7.drew := (Upd.refl _ _).drew
        have hg_7d := hg_7.ext (Rep1_lay _ _ fun _ => RepS_lay true (d + 3) _) hE_7d
        have hzd : w_7.drew.heap.size = w_7.heap.size := size_drew _
        have hbt_7d := hE_7d.blk_some hbt_7 id
        refine (makeX1_fn (d := d + 2) (okT := (OkS okT w.heap.size)) (V := V) y _ w_7.drew (hc_7.keep (hE_7d.keeps _)) (hgx.2.2 rfl) hLx).mono ?_
        rintro r8 w_8 ⟨⟨cs8,rfl,hc_8⟩,hE_8⟩
        obtain ⟨hfl_8,hcl_8⟩ := (RepS_lay true (d + 3) fs_X1).flat hc_8
        obtain ⟨y0,y1,y2,y3,y4,y5,y6,y7,y8,y9,y10,y11,y12,y13,y14,y15,y16,y17,rfl⟩ : ∃ y0 y1 y2 y3 y4 y5 y6 y7 y8 y9 y10 y11 y12 y13 y14 y15 y16 y17,cs8 = [y0,y1,y2,y3,y4,y5,y6,y7,y8,y9,y10,y11,y12,y13,y14,y15,y16,y17] := by
          have hcl_8' : cs8.length = 18 := hcl_8
          match cs8,hcl_8' with
          | [y0,y1,y2,y3,y4,y5,y6,y7,y8,y9,y10,y11,y12,y13,y14,y15,y16,y17],_ => exact ⟨y0,y1,y2,y3,y4,y5,y6,y7,y8,y9,y10,y11,y12,y13,y14,y15,y16,y17,rfl⟩
        simp only [List.all_cons,List.all_nil,Bool.and_true,Bool.and_eq_true] at hfl_8
        obtain ⟨fy0,fy1,fy2,fy3,fy4,fy5,fy6,fy7,fy8,fy9,fy10,fy11,fy12,fy13,fy14,fy15,fy16,fy17⟩ := hfl_8
        have hz_8 := hE_8.size
        have hM_8 : Upd (ownB v) w_7.drew w_8 := hE_8.mono (fun _ h => h.elim)
        refine ⟨hM_8,?_⟩
        have hE_9 : Ext w_8 (w_8.alloc (.cells #[y0,y1,y2,y3,y4,y5,y6,y7,y8,y9,y10,y11,y12,y13,y14,y15,y16,y17] 82)) := Upd.alloc (Upd.refl _ _) _
        have hM_9 : Upd (ownB v) w_7.drew (w_8.alloc (.cells #[y0,y1,y2,y3,y4,y5,y6,y7,y8,y9,y10,y11,y12,y13,y14,y15,y16,y17] 82)) := hM_8.alloc _
        simp (maxSteps:=1000000)(disch:=(first|omega|(simp only [qI,qJ,qK]<;>omega)|exact qL _)) only [go_sem,↓reduceIte,n0,reduceCtorEq,n1,n2,n3,n4,n5,i0,i1,i2,i3,i4,i5,i6,i7,hr0,hr3,hbt_7d,fy0,fy1,fy2,fy3,fy4,fy5,fy6,fy7,fy8,fy9,fy10,fy11,fy12,fy13,fy14,fy15,fy16,fy17]
        refine ⟨hM_9,?_⟩
        have hE_79 : Ext w_7.drew (w_8.alloc (.cells #[y0,y1,y2,y3,y4,y5,y6,y7,y8,y9,y10,y11,y12,y13,y14,y15,y16,y17] 82)) := hE_8.trans hE_9
        have hg_9 := (hg_7d.ext (Rep1_lay _ _ fun _ => RepS_lay true (d + 3) _) hE_8).ext (Rep1_lay _ _ fun _ => RepS_lay true (d + 3) _) hE_9
        have hx_9 : Rep1 (RepS true (d + 3)) fShareFetchRequest_11.of fShareFetchRequest_11.sub (fun b => (OkF okT w.heap.size w1.heap.size) b ∧ b ≠ vb ∧ ¬ ownB v b) (w_8.alloc (.cells #[y0,y1,y2,y3,y4,y5,y6,y7,y8,y9,y10,y11,y12,y13,y14,y15,y16,y17] 82)) y [y0,y1,y2,y3,y4,y5,y6,y7,y8,y9,y10,y11,y12,y13,y14,y15,y16,y17] :=
          Rep1_part.2 (((RepS_lay true (d + 3) fs_X1).keep hc_8 (hE_9.keeps _)) |> fun h => (RepS_lay true (d + 3) fs_X1).weaken h fun b _ hk => by
            rcases hk with hk | hk
            · exact ⟨.inl hk,hoS b hk,fun h => by have := hg.above h;have := hk.2;omega⟩
            · exact ⟨.inr (by omega),by omega,fun h => by have := hg.below h;omega⟩)
        obtain ⟨css,hown,hall⟩ := hg_9.ex
        have hcl_9 := hall.1
        refine wp_append ap_55_55 (m := 1) (news := [y0,y1,y2,y3,y4,y5,y6,y7,y8,y9,y10,y11,y12,y13,y14,y15,y16,y17]) (n := css.length) (cs := css.flatten) (v := v) ?_ rfl hown.1 (all2_flat_R (Rep1_lay _ _ fun _ => RepS_lay true (d + 3) _) hall) (Src.blk (fr := (0,0)) (T := 82) (blk_alloc_new (by first | rfl | omega | (simp only [size_drew];omega))) rfl (by simp only [List.all_cons,List.all_nil,Bool.and_true,Bool.and_eq_true];exact ⟨fy0,fy1,fy2,fy3,fy4,fy5,fy6,fy7,fy8,fy9,fy10,fy11,fy12,fy13,fy14,fy15,fy16,fy17⟩)) ?_ ?_ ?_
        · simp (maxSteps:=1000000)(disch:=(first|omega|(simp only [qI,qJ,qK]<;>omega)|exact qL _)) only [go_sem,↓reduceIte,n0,reduceCtorEq,n1,n2,n3,n4,n5,i0,i1,i2,i3,i4,i5,i6,i7]
        · simp only [World.size_alloc,size_drew];omega
        · omega
        intro v' w_10 ho hu hfr
        have hg_10 := GrowR.snoc (Rep1_lay _ _ fun _ => RepS_lay true (d + 3) _) hown hall hx_9 hu hfr ho
        have hz_10 := hu.size
        simp only [World.size_alloc,size_drew] at hz_10
        obtain ⟨va,vc,hv',_⟩ := ho.shape
        subst hv'
        have hbt_10 := (hM_9.trans hu).blk_some hbt_7d (hnb _ (.inl hvlB11))
        have htb' : ¬ ownB (.slice va (css.length + 1) vc) vb := fun h => by
          rcases hfr _ h with h | h
          · exact hnb _ (.inl hvlB11) h
          · simp only [World.size_alloc,size_drew] at h;omega
        simp (maxSteps:=1000000)(disch:=(first|omega|(simp only [qI,qJ,qK]<;>omega)|exact qL _)) only [go_sem,↓reduceIte,n0,reduceCtorEq,n1,n2,n3,n4,n5,i0,i1,i2,i3,i4,i5,i6,i7]
        refine ⟨hM_9.trans hu,?_⟩
        simp (maxSteps:=1000000)(disch:=(first|omega|(simp only [qI,qJ,qK]<;>omega)|exact qL _)) only [go_sem,↓reduceIte,n0,reduceCtorEq,n1,n2,n3,n4,n5,i0,i1,i2,i3,i4,i5,i6,i7,hr0,hr3,hbt_10]
        repeat ((first | refine qA rfl ?_|refine qB ?_|refine qC rfl ?_|refine qD ?_|refine qE ?_|refine qF ?_|refine qG ?_|refine qH ?_);try simp (maxSteps:=1000000)(disch:=(first|omega|(simp only [qI,qJ,qK]<;>omega)|exact qL _)) only [go_sem,↓reduceIte,n0,reduceCtorEq,n1,n2,n3,n4,n5,i0,i1,i2,i3,i4,i5,i6,i7,hI])
        refine ⟨⟨j + 1,.slice va (css.length + 1) vc,by omega,rfl,hN,hS,hr0,hr3,?_,?_,?_,?_⟩,?_⟩
        · simp (maxSteps:=1000000)(disch:=(first|omega|(simp only [qI,qJ,qK]<;>omega)|exact qL _)) only [go_sem,↓reduceIte,n0,reduceCtorEq,n1,n2,n3,n4,n5,i0,i1,i2,i3,i4,i5,i6,i7,hbt_10]
        · rw [hcat];exact hg_10.upd (Rep1_lay _ _ fun _ => RepS_lay true (d + 3) _) ((Upd.refl _ _).wr _ _ (.inr rfl)) htb'
        · intro h;cases h
        · refine Upd.wr ?_ _ _ (.inr (.inl rfl))
          exact hU_6.more (((hE_7.mono fun _ h => h.elim).trans (hE_7d.mono fun _ h => h.elim)).trans (hM_9.trans hu)) fun b hb h => .inr (hg.above h)
        · simp only [RowKit.intOf];omega
      · have hjl : j = (t.at 11).l.length := by omega
        subst hjl
        rw [List.take_length] at hg
        repeat ((first | refine qA rfl ?_|refine qB ?_|refine qC rfl ?_|refine qD ?_|refine qE ?_|refine qF ?_|refine qG ?_|refine qH ?_);try simp (maxSteps:=1000000)(disch:=(first|omega|(simp only [qI,qJ,qK]<;>omega)|exact qL _)) only [go_sem,↓reduceIte,n0,reduceCtorEq,n1,n2,n3,n4,n5,i0,i1,i2,i3,i4,i5,i6,i7,hI,hN])
        exact ⟨v,hr0,hr3,hbv,hg,hnil,hU_6⟩
    · rintro ρ w33 ⟨v11,hr0,hr3,hb33,hg33,hnil11,hK33⟩
      have hV33 : Upd (fun b => b = vb) w30 w33 := hVb11.more hK33 fun b hb h => h.elim id fun h => absurd h (by omega)
      have hU33 : Upd (fun b => b = vb) w1 w33 := hU30.trans hV33
      have htb33 := hU33.blk_some htb1 htv
      have hvl33 : vb < w33.heap.size := Nat.lt_of_lt_of_le hvl1 hU33.size
      have hsz33 := hU33.size
      clear hvl32 hsz32
      obtain ⟨al11,kl11,rfl,_⟩ := hg33.shape
      have hf11 : RepF (RepS true (d + 3)) (szS true (d + 3)) fShareFetchRequest_11 (OkF okT w.heap.size w1.heap.size) w33 (t.at 11) [.slice al11 (t.at 11).l.length kl11] := (RepF_list rfl hn0_11).2 ⟨_,rfl,hg33.sl (Rep1_lay _ _ fun _ => RepS_lay true (d + 3) _) (fun _ _ h => h) (fun b hb => .inr (by omega)),hg33.some hnil11⟩
      repeat ((first | refine qA rfl ?_|refine qB ?_|refine qC rfl ?_|refine qD ?_|refine qE ?_|refine qF ?_|refine qG ?_|refine qH ?_);try simp (maxSteps:=1000000)(disch:=(first|omega|(simp only [qI,qJ,qK]<;>omega)|exact qL _)) only [go_sem,↓reduceIte,n0,reduceCtorEq,n1,n2,n3,n4,n5,i0,i1,i2,i3,i4,i5,i6,i7,hb33,htb33,hr0,hr3])
      have hUv := hU1v.keep (hU33.keeps fun b _ hk e => hoS b hk e)
      refine W.loop (fun ρ w' => ∃ (j : Nat) (q : Option Nat),j ≤ t.u.length ∧ ρ 146 = .int .i64 j ∧ ρ 145 = .int .i64 t.u.length ∧ ρ 144 = .slice bU t.u.length cU ∧ ρ 0 = .pointer (some ⟨vb,0,none⟩) ∧ ρ 3 = .pointer (some ⟨w.heap.size,0,none⟩) ∧ blk w' vb = some (#[.int .i16 ver,.pointer ap0,.pointer ap1,.int .i32 (IntKind.i32.wrap (t.at 2).n),.int .i32 (IntKind.i32.wrap (t.at 3).n),.int .i32 (IntKind.i32.wrap (t.at 4).n),.int .i32 (IntKind.i32.wrap (t.at 5).n),.int .i32 (IntKind.i32.wrap (t.at 6).n),.int .i32 (IntKind.i32.wrap (t.at 7).n),.int .i8 (IntKind.i8.wrap (t.at 8).n),.bool (decide ((t.at 9).n % 2 = 1)),.slice al10 (t.at 10).l.length kl10,.slice al11 (t.at 11).l.length kl11,.map q],60,(0,0)) ∧ TagsG (OkS okT w.heap.size) w33.heap.size w' (.map q) (t.u.take j) ∧ Upd (fun b => b = vb) w33 w')
          (fun ρ _ => t.u.length - (RowKit.intOf (ρ 146)).toNat) ?_ ?_
      · refine ⟨0,none,Nat.zero_le _,?_,?_,?_,?_,?_,hb33,TagsG.start _ _ _,Upd.refl _ _⟩ <;> simp (maxSteps:=1000000)(disch:=(first|omega|(simp only [qI,qJ,qK]<;>omega)|exact qL _)) only [go_sem,↓reduceIte,n0,reduceCtorEq,n1,n2,n3,n4,n5,i0,i1,i2,i3,i4,i5,i6,i7,hr0,hr3]
        all_goals rfl
      · rintro ρ w_6 ⟨j,q,hj,hI,hN,hS,hr0,hr3,hbv,hG,hU_6⟩
        have hz_6 := hU_6.size
        have hUv_6 := hUv.keep (hU_6.keeps fun b _ hk e => hoS b hk e)
        have hU_16 : Upd (fun b => b = vb) w1 w_6 := hU33.trans hU_6
        have hz_16 := hU_16.size
        by_cases hlt : j < t.u.length
        · obtain ⟨_,b,o,x,vv,hb,hokb,hx,hblt,hxs,hxe,_,_,hfv,hbvv,h32⟩ := TagsV.get hUv_6 hlt
          subst hb
          have hcat : t.u.take (j + 1) = t.u.take j ++ [t.u[j]] := List.take_succ_eq_append_getElem hlt
          have hnew : ∀ z ∈ t.u.take j,z.1 ≠ t.u[j].1 := by
            intro z hz
            obtain ⟨k,hk,rfl⟩ := List.getElem_of_mem hz
            simp only [List.length_take] at hk
            have := List.pairwise_iff_getElem.1 hfu.2.2 k j (by omega) hlt (by omega)
            rw [List.getElem_take];omega
          generalize t.u[j] = y at *
          obtain ⟨bSy,cSy,rfl,hcSy⟩ := hbvv.shape
          repeat ((first | refine qA rfl ?_|refine qB ?_|refine qC rfl ?_|refine qD ?_|refine qE ?_|refine qF ?_|refine qG ?_|refine qH ?_);try simp (maxSteps:=1000000)(disch:=(first|omega|(simp only [qI,qJ,qK]<;>omega)|exact qL _)) only [go_sem,↓reduceIte,n0,reduceCtorEq,n1,n2,n3,n4,n5,i0,i1,i2,i3,i4,i5,i6,i7,hI,hN,hS,hx,hxe,hfv,cellsAt_two,Int.toNat_natCast])
          generalize hw_7 : (wr (w_6.alloc (.cells #[.int .u32 0,.slice none 0 0] 67)) w_6.heap.size 0 [.int .u32 y.1,.slice bSy y.2.length cSy]) = w_7
          have hE_7 : Ext w_6 w_7 := by rw [← hw_7];exact (Upd.alloc (Upd.refl _ _) _).wr _ _ (.inl (Nat.le_refl _))
          have hb_7 : blk w_7 w_6.heap.size = some (#[.int .u32 y.1,.slice bSy y.2.length cSy],67,(0,0)) := by rw [← hw_7];simp (maxSteps:=1000000)(disch:=(first|omega|(simp only [qI,qJ,qK]<;>omega)|exact qL _)) only [go_sem,↓reduceIte,n0,reduceCtorEq,n1,n2,n3,n4,n5,i0,i1,i2,i3,i4,i5,i6,i7]
          have hz_7 : w_7.heap.size = w_6.heap.size + 1 := by rw [← hw_7];simp only [size_wr,World.size_alloc]
          clear hw_7
          have hbt_7 := hE_7.blk_some hbv id
          have hnb : ∀ b,b = w_6.heap.size → ¬ (b = vb ∨ Value.map q = .map (some b)) := fun b hb h => by
            rcases h with h | h
            · omega
            · cases h;have := (hG.lt rfl).1;omega
          refine W.drawR (.take 0 (.take 1 (.take 2 (.take 3 (.take 4 (.take 5 (.take 6 (.only 7 .done)))))))) (fun b => b = vb ∨ Value.map q = .map (some b)) mixed (by kernel_rfl) ?_
          simp (maxSteps:=1000000)(disch:=(first|omega|(simp only [qI,qJ,qK]<;>omega)|exact qL _ | (refine hnb _ ?_;first | omega | (simp only [World.size_alloc,size_wr,size_drew] <;> omega)))) only [go_sem,↓reduceIte,n0,reduceCtorEq,n1,n2,n3,n4,n5,i0,i1,i2,i3,i4,i5,i6,i7,hr0,hr3,hbt_7,hb_7,cellsAt_two]
          have hE_7d : Ext w_7 w_7.drew := (Upd.refl _ _).drew
          have hE_6d : Ext w_6 w_7.drew := hE_7.trans hE_7d
          have hG_7 : TagsG (OkS okT w.heap.size) w33.heap.size w_7.drew (.map q) (t.u.take j) := hG.keep fun b hb _ => hE_6d.keep b hb id
          have hbt_8 := hE_7d.blk_some hbt_7 id
          have hm_8 : (#[.int .i16 ver,.pointer ap0,.pointer ap1,.int .i32 (IntKind.i32.wrap (t.at 2).n),.int .i32 (IntKind.i32.wrap (t.at 3).n),.int .i32 (IntKind.i32.wrap (t.at 4).n),.int .i32 (IntKind.i32.wrap (t.at 5).n),.int .i32 (IntKind.i32.wrap (t.at 6).n),.int .i32 (IntKind.i32.wrap (t.at 7).n),.int .i8 (IntKind.i8.wrap (t.at 8).n),.bool (decide ((t.at 9).n % 2 = 1)),.slice al10 (t.at 10).l.length kl10,.slice al11 (t.at 11).l.length kl11,.map q] : Array Value)[13]? = some (.map q) := rfl
          refine (TagsSet_fn (okT := (OkS okT w.heap.size)) (L := w33.heap.size) w_7.drew hG_7 (by have := hE_6d.size;omega) (by omega) hbt_8 (o := 13) hm_8 (thaw_00 _ _) y _ ((hbvv.weaken fun b _ hk => ⟨hk,by have := hk.2;omega⟩).keep (hE_6d.keeps _)) h32 hnew hoS).mono ?_
          rintro _ w_8 ⟨m',hb_8,hG_8,hM_8⟩
          simp only [List.setIfInBounds_toArray,List.set_cons_succ,List.set_cons_zero] at hb_8
          refine ⟨hM_8,?_⟩
          repeat ((first | refine qA rfl ?_|refine qB ?_|refine qC rfl ?_|refine qD ?_|refine qE ?_|refine qF ?_|refine qG ?_|refine qH ?_);try simp (maxSteps:=1000000)(disch:=(first|omega|(simp only [qI,qJ,qK]<;>omega)|exact qL _)) only [go_sem,↓reduceIte,n0,reduceCtorEq,n1,n2,n3,n4,n5,i0,i1,i2,i3,i4,i5,i6,i7,hI])
          refine ⟨⟨j + 1,m',by omega,rfl,hN,hS,hr0,hr3,hb_8,by rw [hcat];exact hG_8,?_⟩,?_⟩
          · exact hU_6.more ((hE_6d.mono fun _ h => h.elim).trans hM_8) fun b hb h => by
              rcases h with h | h
              · exact h
              · cases h;have := (hG.lt rfl).2;omega
          · simp only [RowKit.intOf];omega
        · have hjl : j = t.u.length := by omega
          subst hjl
          rw [List.take_length] at hG
          have hT30 : Upd (fun b => b = vb) w30 w_6 := hV33.trans hU_6
          have hT29 : Upd (fun b => b = vb) w29 w_6 := hV30.trans hT30
          have hT28 : Upd (fun b => b = vb) w28 w_6 := hV29.trans hT29
          have hT25 : Upd (fun b => b = vb) w25 w_6 := hV28.trans hT28
          have hT24 : Upd (fun b => b = vb) w24 w_6 := hV25.trans hT25
          have hT23 : Upd (fun b => b = vb) w23 w_6 := hV24.trans hT24
          have hT22 : Upd (fun b => b = vb) w22 w_6 := hV23.trans hT23
          have hT21 : Upd (fun b => b = vb) w21 w_6 := hV22.trans hT22
          have hT20 : Upd (fun b => b = vb) w20 w_6 := hV21.trans hT21
          have hT19 : Upd (fun b => b = vb) w19 w_6 := hV20.trans hT20
          have hT18 : Upd (fun b => b = vb) w18 w_6 := hV19.trans hT19
          have hT17 : Upd (fun b => b = vb) w17 w_6 := hV18.trans hT18
          have hT16 : Upd (fun b => b = vb) w16 w_6 := hV17.trans hT17
          have hT15 : Upd (fun b => b = vb) w15 w_6 := hV16.trans hT16
          have hT14 : Upd (fun b => b = vb) w14 w_6 := hV15.trans hT15
          have hT13 : Upd (fun b => b = vb) w13 w_6 := hV14.trans hT14
          have hT12 : Upd (fun b => b = vb) w12 w_6 := hV13.trans hT13
          have hT11 : Upd (fun b => b = vb) w11 w_6 := hV12.trans hT12
          have hT10 : Upd (fun b => b = vb) w10 w_6 := hV11.trans hT11
          have hT9 : Upd (fun b => b = vb) w9 w_6 := hV10.trans hT10
          have hT8 : Upd (fun b => b = vb) w8 w_6 := hV9.trans hT9
          have hT7 : Upd (fun b => b = vb) w7 w_6 := hV8.trans hT8
          have hT6 : Upd (fun b => b = vb) w6 w_6 := hV7.trans hT7
          have hT5 : Upd (fun b => b = vb) w5 w_6 := hV6.trans hT6
          have hT4 : Upd (fun b => b = vb) w4 w_6 := hV5.trans hT5
          have hT3 : Upd (fun b => b = vb) w3 w_6 := hV4.trans hT4
          have hT2 : Upd (fun b => b = vb) w2 w_6 := hV3.trans hT3
          have hT1 : Upd (fun b => b = vb) w1 w_6 := hV2.trans hT2
          have hz0_f := hf0.keepS (hT4.keeps fun b _ hk e => hoF b hk e)
          have hz1_f := hf1.keepS (hT7.keeps fun b _ hk e => hoF b hk e)
          have hz2_f := hf2.keepS (hT9.keeps fun b _ hk e => hoF b hk e)
          have hz3_f := hf3.keepS (hT11.keeps fun b _ hk e => hoF b hk e)
          have hz4_f := hf4.keepS (hT13.keeps fun b _ hk e => hoF b hk e)
          have hz5_f := hf5.keepS (hT15.keeps fun b _ hk e => hoF b hk e)
          have hz6_f := hf6.keepS (hT17.keeps fun b _ hk e => hoF b hk e)
          have hz7_f := hf7.keepS (hT19.keeps fun b _ hk e => hoF b hk e)
          have hz8_f := hf8.keepS (hT21.keeps fun b _ hk e => hoF b hk e)
          have hz9_f := hf9.keepS (hT23.keeps fun b _ hk e => hoF b hk e)
          have hz10_f := hf10.keepS (hT28.keeps fun b _ hk e => hoF b hk e)
          have hz11_f := hf11.keepS (hU_6.keeps fun b _ hk e => hoF b hk e)
          have hTg := hG.tags (ok' := (OkF okT w.heap.size w1.heap.size)) (fun b _ hk => .inl hk) (fun b hb => .inr (by omega))
          have hL : RepL (RepS true (d + 3)) (szS true (d + 3)) (OkF okT w.heap.size w1.heap.size) w_6 t [fShareFetchRequest_0,fShareFetchRequest_1,fShareFetchRequest_2,fShareFetchRequest_3,fShareFetchRequest_4,fShareFetchRequest_5,fShareFetchRequest_6,fShareFetchRequest_7,fShareFetchRequest_8,fShareFetchRequest_9,fShareFetchRequest_10,fShareFetchRequest_11] 0 [.pointer ap0,.pointer ap1,.int .i32 (IntKind.i32.wrap (t.at 2).n),.int .i32 (IntKind.i32.wrap (t.at 3).n),.int .i32 (IntKind.i32.wrap (t.at 4).n),.int .i32 (IntKind.i32.wrap (t.at 5).n),.int .i32 (IntKind.i32.wrap (t.at 6).n),.int .i32 (IntKind.i32.wrap (t.at 7).n),.int .i8 (IntKind.i8.wrap (t.at 8).n),.bool (decide ((t.at 9).n % 2 = 1)),.slice al10 (t.at 10).l.length kl10,.slice al11 (t.at 11).l.length kl11] := (RepL.cons1 hz0_f (RepL.cons1 hz1_f (RepL.cons1 hz2_f (RepL.cons1 hz3_f (RepL.cons1 hz4_f (RepL.cons1 hz5_f (RepL.cons1 hz6_f (RepL.cons1 hz7_f (RepL.cons1 hz8_f (RepL.cons1 hz9_f (RepL.cons1 hz10_f (RepL.cons1 hz11_f RepL.nil))))))))))))
          have hR : RepS true (d + 4) fs_ShareFetchRequest (OkF okT w.heap.size w1.heap.size) w_6 t [.pointer ap0,.pointer ap1,.int .i32 (IntKind.i32.wrap (t.at 2).n),.int .i32 (IntKind.i32.wrap (t.at 3).n),.int .i32 (IntKind.i32.wrap (t.at 4).n),.int .i32 (IntKind.i32.wrap (t.at 5).n),.int .i32 (IntKind.i32.wrap (t.at 6).n),.int .i32 (IntKind.i32.wrap (t.at 7).n),.int .i8 (IntKind.i8.wrap (t.at 8).n),.bool (decide ((t.at 9).n % 2 = 1)),.slice al10 (t.at 10).l.length kl10,.slice al11 (t.at 11).l.length kl11,.map q] := RepS.intro (c := [.pointer ap0,.pointer ap1,.int .i32 (IntKind.i32.wrap (t.at 2).n),.int .i32 (IntKind.i32.wrap (t.at 3).n),.int .i32 (IntKind.i32.wrap (t.at 4).n),.int .i32 (IntKind.i32.wrap (t.at 5).n),.int .i32 (IntKind.i32.wrap (t.at 6).n),.int .i32 (IntKind.i32.wrap (t.at 7).n),.int .i8 (IntKind.i8.wrap (t.at 8).n),.bool (decide ((t.at 9).n % 2 = 1)),.slice al10 (t.at 10).l.length kl10,.slice al11 (t.at 11).l.length kl11]) rfl hL hTg
          repeat ((first | refine qA rfl ?_|refine qB ?_|refine qC rfl ?_|refine qD ?_|refine qE ?_|refine qF ?_|refine qG ?_|refine qH ?_);try simp (maxSteps:=1000000)(disch:=(first|omega|(simp only [qI,qJ,qK]<;>omega)|exact qL _)) only [go_sem,↓reduceIte,n0,reduceCtorEq,n1,n2,n3,n4,n5,i0,i1,i2,i3,i4,i5,i6,i7,hI,hN])
          exact ⟨_,hbv,(RepS_lay true (d + 4) fs_ShareFetchRequest).weaken hR (fun b _ hk => hk.imp And.left fun h => by omega),Upd.more (hE1.mono fun _ h => h.elim) hT1 fun _ _ h => h⟩
end Ms

