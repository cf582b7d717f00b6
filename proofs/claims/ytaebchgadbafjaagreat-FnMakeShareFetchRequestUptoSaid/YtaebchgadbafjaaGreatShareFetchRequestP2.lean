/- A part of the proof: see the last text. -/
import Derived.Test.YtaebchgadbafjaaGreatC08
import Derived.Test.YtaebchgadbafjaaGreatShareFetchRequestP0
import Derived.Test.YtaebchgadbafjaaGreatShareFetchRequestP1
set_option linter.unusedSimpArgs false
set_option linter.unusedVariables false
namespace Ms
open Go.World renaming size_alloc → qI
open Ms renaming size_wr → qJ,size_drew → qK,not_noB → qL
open W renaming seqR → qA,seq → qB,regR → qC,condK → qD,block → qE,skip → qF,ret → qG,exit → qH
open Nat renaming reduceEqDiff → n0,reduceAdd → n1,reduceMul → n2,reduceSub → n3,reduceLT → n4,reduceLeDiff → n5
open Int renaming reduceEq → i0,reduceLT → i1,reduceLE → i2,reduceNeg → i3,reduceAdd → i4,reduceSub → i5,reduceMul → i6,reduceToNat → i7
set_option maxRecDepth 8000
open Go Go.Proofs Go.Shelf
attribute [local congr] W_congr WPsq_congr WPp_congr optK_congr addrK_congr intK_congr boolK_congr sliceK_congr tupleK_congr funcK_congr Fn_congr rawK_congr takeK_congr stepK_congr convK_congr aggK_congr

set_option maxHeartbeats 4000000 in
theorem cX0_fn (w : World) : Fn Tryz.prog 53 #[] w fun r w' => FldsV (fun b => w.heap.size ≤ b) w' r fs_X0 ∧ Ext w w' := by
  refine fn_of_W Tryz.func53 rfl Tryz.results53 Tryz.ntmps53 rfl ?_
  repeat ((first | refine qA rfl ?_|refine qB ?_|refine qC rfl ?_|refine qD ?_|refine qE ?_|refine qF ?_|refine qG ?_|refine qH ?_);try simp (maxSteps:=1000000)(disch:=(first|omega|(simp only [qI,qJ,qK]<;>omega)|exact qL _)) only [go_sem,↓reduceIte,n0,reduceCtorEq,n1,n2,n3,n4,n5,i0,i1,i2,i3,i4,i5,i6,i7,fill_fld,fillN_nil,fillN_int,fillN_slice])
  repeat ((first | refine qA rfl ?_|refine qB ?_|refine qC rfl ?_|refine qD ?_|refine qE ?_|refine qF ?_|refine qG ?_|refine qH ?_);try simp (maxSteps:=1000000)(disch:=(first|omega|(simp only [qI,qJ,qK]<;>omega)|exact qL _)) only [go_sem,↓reduceIte,n0,reduceCtorEq,n1,n2,n3,n4,n5,i0,i1,i2,i3,i4,i5,i6,i7,fill_fld,fillN_nil,fillN_int,fillN_slice])
  exact ⟨FldsV.litO (fs := fs_X0) (css := [[.int .i64 4,.int .i64 0,.int .i64 (-1),.int .i64 (-1),.int .i64 (-1),.int .i64 0,.int .i64 0,.slice none 0 0],[.int .i64 4,.int .i64 0,.int .i64 (-1),.int .i64 (-1),.int .i64 (-1),.int .i64 0,.int .i64 0,.slice none 0 0],[.int .i64 11,.int .i64 0,.int .i64 (-1),.int .i64 (-1),.int .i64 (-1),.int .i64 0,.int .i64 1,.slice none 0 0]]) (T := 50) (fr := (0,0)) (by first | omega | (simp only [World.size_alloc];omega)) (by first | (simp (maxSteps:=1000000)(disch:=(first|omega|(simp only [qI,qJ,qK]<;>omega)|exact qL _)) only [go_sem,↓reduceIte,n0,reduceCtorEq,n1,n2,n3,n4,n5,i0,i1,i2,i3,i4,i5,i6,i7];rfl) | rfl) (by simp) (All2.cons (FldC.intro (kind := 4) (FldsV.none _ _)) (All2.cons (FldC.intro (kind := 4) (FldsV.none _ _)) (All2.cons (FldC.intro (kind := 11) (FldsV.none _ _)) All2.nil))),(Upd.alloc (Upd.refl _ w) _)⟩

set_option maxHeartbeats 4000000 in
theorem cX2_fn (w : World) : Fn Tryz.prog 28 #[] w fun r w' => FldsV (fun b => w.heap.size ≤ b) w' r fs_X2 ∧ Ext w w' := by
  refine fn_of_W Tryz.func28 rfl Tryz.results28 Tryz.ntmps28 rfl ?_
  repeat ((first | refine qA rfl ?_|refine qB ?_|refine qC rfl ?_|refine qD ?_|refine qE ?_|refine qF ?_|refine qG ?_|refine qH ?_);try simp (maxSteps:=1000000)(disch:=(first|omega|(simp only [qI,qJ,qK]<;>omega)|exact qL _)) only [go_sem,↓reduceIte,n0,reduceCtorEq,n1,n2,n3,n4,n5,i0,i1,i2,i3,i4,i5,i6,i7,fill_fld,fillN_nil,fillN_int,fillN_slice])
  refine (cX0_fn _).mono ?_
  rintro r1 w1 ⟨hF1,hE1⟩
  obtain ⟨b1,k1,rfl,_⟩ := SlR.shape hF1
  have hz1 := hE1.size
  have hD1 : Ext w w1 := Upd.trans (Upd.refl _ w) hE1
  simp (maxSteps:=1000000)(disch:=(first|omega|(simp only [qI,qJ,qK]<;>omega)|exact qL _)) only [go_sem,↓reduceIte,n0,reduceCtorEq,n1,n2,n3,n4,n5,i0,i1,i2,i3,i4,i5,i6,i7,fill_fld,fillN_nil,fillN_int,fillN_slice]
  repeat ((first | refine qA rfl ?_|refine qB ?_|refine qC rfl ?_|refine qD ?_|refine qE ?_|refine qF ?_|refine qG ?_|refine qH ?_);try simp (maxSteps:=1000000)(disch:=(first|omega|(simp only [qI,qJ,qK]<;>omega)|exact qL _)) only [go_sem,↓reduceIte,n0,reduceCtorEq,n1,n2,n3,n4,n5,i0,i1,i2,i3,i4,i5,i6,i7,fill_fld,fillN_nil,fillN_int,fillN_slice])
  exact ⟨FldsV.litO (fs := fs_X2) (css := [[.int .i64 3,.int .i64 0,.int .i64 (-1),.int .i64 (-1),.int .i64 (-1),.int .i64 0,.int .i64 0,.slice none 0 0],[.int .i64 3,.int .i64 0,.int .i64 0,.int .i64 (-1),.int .i64 (-1),.int .i64 0,.int .i64 0,.slice none 0 0],[.int .i64 11,.int .i64 0,.int .i64 (-1),.int .i64 (-1),.int .i64 (-1),.int .i64 0,.int .i64 10,.slice b1 fs_X0.length k1]]) (T := 50) (fr := (0,0)) (by first | omega | (simp only [World.size_alloc];omega)) (by first | (simp (maxSteps:=1000000)(disch:=(first|omega|(simp only [qI,qJ,qK]<;>omega)|exact qL _)) only [go_sem,↓reduceIte,n0,reduceCtorEq,n1,n2,n3,n4,n5,i0,i1,i2,i3,i4,i5,i6,i7];rfl) | rfl) (by simp) (All2.cons (FldC.intro (kind := 3) (FldsV.none _ _)) (All2.cons (FldC.intro (kind := 3) (FldsV.none _ _)) (All2.cons (FldC.intro (kind := 11) ((hF1.keep (Upd.keeps (S := fun _ => False) (Upd.alloc (Upd.refl _ _) _) fun _ _ _ h => h)).weaken fun b _ hb => by have hq : _ ≤ b := hb;omega)) All2.nil))),(Upd.alloc hD1 _)⟩

set_option maxHeartbeats 4000000 in
theorem cX3_fn (w : World) : Fn Tryz.prog 16 #[] w fun r w' => FldsV (fun b => w.heap.size ≤ b) w' r fs_X3 ∧ Ext w w' := by
  refine fn_of_W Tryz.func16 rfl Tryz.results16 Tryz.ntmps16 rfl ?_
  repeat ((first | refine qA rfl ?_|refine qB ?_|refine qC rfl ?_|refine qD ?_|refine qE ?_|refine qF ?_|refine qG ?_|refine qH ?_);try simp (maxSteps:=1000000)(disch:=(first|omega|(simp only [qI,qJ,qK]<;>omega)|exact qL _)) only [go_sem,↓reduceIte,n0,reduceCtorEq,n1,n2,n3,n4,n5,i0,i1,i2,i3,i4,i5,i6,i7,fill_fld,fillN_nil,fillN_int,fillN_slice])
  refine (cX2_fn _).mono ?_
  rintro r1 w1 ⟨hF1,hE1⟩
  obtain ⟨b1,k1,rfl,_⟩ := SlR.shape hF1
  have hz1 := hE1.size
  have hD1 : Ext w w1 := Upd.trans (Upd.refl _ w) hE1
  simp (maxSteps:=1000000)(disch:=(first|omega|(simp only [qI,qJ,qK]<;>omega)|exact qL _)) only [go_sem,↓reduceIte,n0,reduceCtorEq,n1,n2,n3,n4,n5,i0,i1,i2,i3,i4,i5,i6,i7,fill_fld,fillN_nil,fillN_int,fillN_slice]
  repeat ((first | refine qA rfl ?_|refine qB ?_|refine qC rfl ?_|refine qD ?_|refine qE ?_|refine qF ?_|refine qG ?_|refine qH ?_);try simp (maxSteps:=1000000)(disch:=(first|omega|(simp only [qI,qJ,qK]<;>omega)|exact qL _)) only [go_sem,↓reduceIte,n0,reduceCtorEq,n1,n2,n3,n4,n5,i0,i1,i2,i3,i4,i5,i6,i7,fill_fld,fillN_nil,fillN_int,fillN_slice])
  exact ⟨FldsV.litO (fs := fs_X3) (css := [[.int .i64 7,.int .i64 0,.int .i64 (-1),.int .i64 (-1),.int .i64 (-1),.int .i64 0,.int .i64 0,.slice none 0 0],[.int .i64 11,.int .i64 0,.int .i64 (-1),.int .i64 (-1),.int .i64 (-1),.int .i64 0,.int .i64 10,.slice b1 fs_X2.length k1]]) (T := 50) (fr := (0,0)) (by first | omega | (simp only [World.size_alloc];omega)) (by first | (simp (maxSteps:=1000000)(disch:=(first|omega|(simp only [qI,qJ,qK]<;>omega)|exact qL _)) only [go_sem,↓reduceIte,n0,reduceCtorEq,n1,n2,n3,n4,n5,i0,i1,i2,i3,i4,i5,i6,i7];rfl) | rfl) (by simp) (All2.cons (FldC.intro (kind := 7) (FldsV.none _ _)) (All2.cons (FldC.intro (kind := 11) ((hF1.keep (Upd.keeps (S := fun _ => False) (Upd.alloc (Upd.refl _ _) _) fun _ _ _ h => h)).weaken fun b _ hb => by have hq : _ ≤ b := hb;omega)) All2.nil)),(Upd.alloc hD1 _)⟩

set_option maxHeartbeats 4000000 in
theorem cX1_fn (w : World) : Fn Tryz.prog 17 #[] w fun r w' => FldsV (fun b => w.heap.size ≤ b) w' r fs_X1 ∧ Ext w w' := by
  refine fn_of_W Tryz.func17 rfl Tryz.results17 Tryz.ntmps17 rfl ?_
  repeat ((first | refine qA rfl ?_|refine qB ?_|refine qC rfl ?_|refine qD ?_|refine qE ?_|refine qF ?_|refine qG ?_|refine qH ?_);try simp (maxSteps:=1000000)(disch:=(first|omega|(simp only [qI,qJ,qK]<;>omega)|exact qL _)) only [go_sem,↓reduceIte,n0,reduceCtorEq,n1,n2,n3,n4,n5,i0,i1,i2,i3,i4,i5,i6,i7,fill_fld,fillN_nil,fillN_int,fillN_slice])
  repeat ((first | refine qA rfl ?_|refine qB ?_|refine qC rfl ?_|refine qD ?_|refine qE ?_|refine qF ?_|refine qG ?_|refine qH ?_);try simp (maxSteps:=1000000)(disch:=(first|omega|(simp only [qI,qJ,qK]<;>omega)|exact qL _)) only [go_sem,↓reduceIte,n0,reduceCtorEq,n1,n2,n3,n4,n5,i0,i1,i2,i3,i4,i5,i6,i7,fill_fld,fillN_nil,fillN_int,fillN_slice])
  exact ⟨FldsV.litO (fs := fs_X1) (css := [[.int .i64 7,.int .i64 0,.int .i64 (-1),.int .i64 (-1),.int .i64 (-1),.int .i64 0,.int .i64 0,.slice none 0 0],[.int .i64 11,.int .i64 0,.int .i64 (-1),.int .i64 (-1),.int .i64 (-1),.int .i64 0,.int .i64 3,.slice none 0 0]]) (T := 50) (fr := (0,0)) (by first | omega | (simp only [World.size_alloc];omega)) (by first | (simp (maxSteps:=1000000)(disch:=(first|omega|(simp only [qI,qJ,qK]<;>omega)|exact qL _)) only [go_sem,↓reduceIte,n0,reduceCtorEq,n1,n2,n3,n4,n5,i0,i1,i2,i3,i4,i5,i6,i7];rfl) | rfl) (by simp) (All2.cons (FldC.intro (kind := 7) (FldsV.none _ _)) (All2.cons (FldC.intro (kind := 11) (FldsV.none _ _)) All2.nil)),(Upd.alloc (Upd.refl _ w) _)⟩

set_option maxHeartbeats 4000000 in
theorem cShareFetchRequest_fn (w : World) : Fn Tryz.prog 6 #[] w fun r w' => (∃ vs,r = .agg #[vs,.int .i64 0] ∧ FldsV (fun b => w.heap.size ≤ b) w' vs fs_ShareFetchRequest) ∧ Ext w w' := by
  refine fn_of_W Tryz.func6 rfl Tryz.results6 Tryz.ntmps6 rfl ?_
  repeat ((first | refine qA rfl ?_|refine qB ?_|refine qC rfl ?_|refine qD ?_|refine qE ?_|refine qF ?_|refine qG ?_|refine qH ?_);try simp (maxSteps:=1000000)(disch:=(first|omega|(simp only [qI,qJ,qK]<;>omega)|exact qL _)) only [go_sem,↓reduceIte,n0,reduceCtorEq,n1,n2,n3,n4,n5,i0,i1,i2,i3,i4,i5,i6,i7,fill_fld,fillN_nil,fillN_int,fillN_slice])
  have hz0 : (w.alloc (.cells #[.slice none 0 0,.int .i64 0] 31)).heap.size = w.heap.size + 1 := World.size_alloc _ _
  refine (cX3_fn _).mono ?_
  rintro r1 w1 ⟨hF1,hE1⟩
  obtain ⟨b1,k1,rfl,_⟩ := SlR.shape hF1
  have hz1 := hE1.size
  have hD1 : Ext w w1 := Upd.trans (Upd.alloc (Upd.refl _ _) _) hE1
  have hb1 : blk w1 w.heap.size = some (#[.slice none 0 0,.int .i64 0],31,(0,0)) := hE1.blk_some (blk_alloc_new rfl) id
  simp (maxSteps:=1000000)(disch:=(first|omega|(simp only [qI,qJ,qK]<;>omega)|exact qL _)) only [go_sem,↓reduceIte,n0,reduceCtorEq,n1,n2,n3,n4,n5,i0,i1,i2,i3,i4,i5,i6,i7,fill_fld,fillN_nil,fillN_int,fillN_slice,hb1]
  refine (cX1_fn _).mono ?_
  rintro r2 w2 ⟨hF2,hE2⟩
  obtain ⟨b2,k2,rfl,_⟩ := SlR.shape hF2
  have hz2 := hE2.size
  have hD2 : Ext w w2 := Upd.trans hD1 hE2
  have hb2 : blk w2 w.heap.size = some (#[.slice none 0 0,.int .i64 0],31,(0,0)) := hE2.blk_some hb1 id
  simp (maxSteps:=1000000)(disch:=(first|omega|(simp only [qI,qJ,qK]<;>omega)|exact qL _)) only [go_sem,↓reduceIte,n0,reduceCtorEq,n1,n2,n3,n4,n5,i0,i1,i2,i3,i4,i5,i6,i7,fill_fld,fillN_nil,fillN_int,fillN_slice,hb2]
  have hvl := blk_lt hb2
  repeat ((first | refine qA rfl ?_|refine qB ?_|refine qC rfl ?_|refine qD ?_|refine qE ?_|refine qF ?_|refine qG ?_|refine qH ?_);try simp (maxSteps:=1000000)(disch:=(first|omega|(simp only [qI,qJ,qK]<;>omega)|exact qL _)) only [go_sem,↓reduceIte,n0,reduceCtorEq,n1,n2,n3,n4,n5,i0,i1,i2,i3,i4,i5,i6,i7,fill_fld,fillN_nil,fillN_int,fillN_slice,hb2])
  exact ⟨⟨_,rfl,FldsV.litO (fs := fs_ShareFetchRequest) (css := [[.int .i64 8,.int .i64 0,.int .i64 (-1),.int .i64 0,.int .i64 (-1),.int .i64 0,.int .i64 0,.slice none 0 0],[.int .i64 8,.int .i64 0,.int .i64 (-1),.int .i64 0,.int .i64 (-1),.int .i64 0,.int .i64 0,.slice none 0 0],[.int .i64 3,.int .i64 0,.int .i64 (-1),.int .i64 (-1),.int .i64 (-1),.int .i64 0,.int .i64 0,.slice none 0 0],[.int .i64 3,.int .i64 0,.int .i64 (-1),.int .i64 (-1),.int .i64 (-1),.int .i64 0,.int .i64 0,.slice none 0 0],[.int .i64 3,.int .i64 0,.int .i64 (-1),.int .i64 (-1),.int .i64 (-1),.int .i64 0,.int .i64 0,.slice none 0 0],[.int .i64 3,.int .i64 0,.int .i64 (-1),.int .i64 (-1),.int .i64 (-1),.int .i64 2147483647,.int .i64 0,.slice none 0 0],[.int .i64 3,.int .i64 1,.int .i64 (-1),.int .i64 (-1),.int .i64 (-1),.int .i64 0,.int .i64 0,.slice none 0 0],[.int .i64 3,.int .i64 1,.int .i64 (-1),.int .i64 (-1),.int .i64 (-1),.int .i64 0,.int .i64 0,.slice none 0 0],[.int .i64 1,.int .i64 2,.int .i64 (-1),.int .i64 (-1),.int .i64 (-1),.int .i64 0,.int .i64 0,.slice none 0 0],[.int .i64 0,.int .i64 2,.int .i64 (-1),.int .i64 (-1),.int .i64 (-1),.int .i64 0,.int .i64 0,.slice none 0 0],[.int .i64 11,.int .i64 0,.int .i64 (-1),.int .i64 (-1),.int .i64 (-1),.int .i64 0,.int .i64 10,.slice b1 fs_X3.length k1],[.int .i64 11,.int .i64 0,.int .i64 (-1),.int .i64 (-1),.int .i64 (-1),.int .i64 0,.int .i64 10,.slice b2 fs_X1.length k2]]) (T := 50) (fr := (0,0)) (by first | omega | (simp only [World.size_alloc];omega)) (by first | (simp (maxSteps:=1000000)(disch:=(first|omega|(simp only [qI,qJ,qK]<;>omega)|exact qL _)) only [go_sem,↓reduceIte,n0,reduceCtorEq,n1,n2,n3,n4,n5,i0,i1,i2,i3,i4,i5,i6,i7];rfl) | rfl) (by simp) (All2.cons (FldC.intro (kind := 8) (FldsV.none _ _)) (All2.cons (FldC.intro (kind := 8) (FldsV.none _ _)) (All2.cons (FldC.intro (kind := 3) (FldsV.none _ _)) (All2.cons (FldC.intro (kind := 3) (FldsV.none _ _)) (All2.cons (FldC.intro (kind := 3) (FldsV.none _ _)) (All2.cons (FldC.intro (kind := 3) (FldsV.none _ _)) (All2.cons (FldC.intro (kind := 3) (FldsV.none _ _)) (All2.cons (FldC.intro (kind := 3) (FldsV.none _ _)) (All2.cons (FldC.intro (kind := 1) (FldsV.none _ _)) (All2.cons (FldC.intro (kind := 0) (FldsV.none _ _)) (All2.cons (FldC.intro (kind := 11) (hF1.stay (B := w.heap.size) (Upd.trans (hE2.mono fun _ h => h.elim) (Upd.wr (Upd.alloc (Upd.refl _ _) _) _ _ (.inr rfl))) (by omega) (fun b hb => by omega))) (All2.cons (FldC.intro (kind := 11) (hF2.stay (B := w.heap.size) (Upd.wr (Upd.alloc (Upd.refl _ _) _) _ _ (.inr rfl)) (by omega) (fun b hb => by omega))) All2.nil))))))))))))⟩,(Upd.wr (Upd.alloc hD2 _) _ _ (.inl (Nat.le_refl _)))⟩

theorem DefaultShareFetchRequest_fn (w : World) {vb : Nat} {c0 c1 c2 c3 c4 c5 c6 c7 c8 c9 c10 c11 c12 c13 : Value} (hb : blk w vb = some (#[c0,c1,c2,c3,c4,c5,c6,c7,c8,c9,c10,c11,c12,c13],60,(0,0))) :
    Fn Tryz.prog 27 #[.pointer (some ⟨vb,0,none⟩)] w fun _ w' => blk w' vb = some (#[c0,c1,c2,c3,c4,c5,.int .i32 2147483647,c7,c8,c9,c10,c11,c12,c13],60,(0,0)) ∧ Upd (fun b => b = vb) w w' := by
  have hvl := blk_lt hb
  refine fn_of_W Tryz.func27 rfl Tryz.results27 Tryz.ntmps27 rfl ?_
  repeat ((first | refine qA rfl ?_|refine qB ?_|refine qC rfl ?_|refine qD ?_|refine qE ?_|refine qF ?_|refine qG ?_|refine qH ?_);try simp (maxSteps:=1000000)(disch:=(first|omega|(simp only [qI,qJ,qK]<;>omega)|exact qL _)) only [go_sem,↓reduceIte,n0,reduceCtorEq,n1,n2,n3,n4,n5,i0,i1,i2,i3,i4,i5,i6,i7,hb])
  first | exact (Upd.wr (Upd.refl _ _) _ _ (.inr rfl)) | exact ⟨by simp (maxSteps:=1000000)(disch:=(first|omega|(simp only [qI,qJ,qK]<;>omega)|exact qL _)) only [go_sem,↓reduceIte,n0,reduceCtorEq,n1,n2,n3,n4,n5,i0,i1,i2,i3,i4,i5,i6,i7,hb],(Upd.wr (Upd.refl _ _) _ _ (.inr rfl))⟩

theorem NewPtrShareFetchRequest_fn (w : World) : Fn Tryz.prog 14 #[] w fun r w' => r = .pointer (some ⟨w.heap.size,0,none⟩) ∧ blk w' w.heap.size = some (#[.int .i16 0,.pointer none,.pointer none,.int .i32 0,.int .i32 0,.int .i32 0,.int .i32 2147483647,.int .i32 0,.int .i32 0,.int .i8 0,.bool false,.slice none 0 0,.slice none 0 0,.map none],60,(0,0)) ∧ Ext w w' := by
  refine fn_of_W Tryz.func14 rfl Tryz.results14 Tryz.ntmps14 rfl ?_
  repeat ((first | refine qA rfl ?_|refine qB ?_|refine qC rfl ?_|refine qD ?_|refine qE ?_|refine qF ?_|refine qG ?_|refine qH ?_);try simp (maxSteps:=1000000)(disch:=(first|omega|(simp only [qI,qJ,qK]<;>omega)|exact qL _)) only [go_sem,↓reduceIte,n0,reduceCtorEq,n1,n2,n3,n4,n5,i0,i1,i2,i3,i4,i5,i6,i7])
  refine (DefaultShareFetchRequest_fn _ (blk_alloc_new rfl)).mono ?_
  rintro _ w1 ⟨hb1,hU1⟩
  have hz := World.size_alloc w (.cells #[.int .i16 0,.pointer none,.pointer none,.int .i32 0,.int .i32 0,.int .i32 0,.int .i32 0,.int .i32 0,.int .i32 0,.int .i8 0,.bool false,.slice none 0 0,.slice none 0 0,.map none] 60)
  repeat ((first | refine qA rfl ?_|refine qB ?_|refine qC rfl ?_|refine qD ?_|refine qE ?_|refine qF ?_|refine qG ?_|refine qH ?_);try simp (maxSteps:=1000000)(disch:=(first|omega|(simp only [qI,qJ,qK]<;>omega)|exact qL _)) only [go_sem,↓reduceIte,n0,reduceCtorEq,n1,n2,n3,n4,n5,i0,i1,i2,i3,i4,i5,i6,i7])
  exact ⟨hb1,(Upd.alloc (Upd.refl _ _) _ : Ext w _).more hU1 fun b hb h => by omega⟩

theorem SetVersionShareFetchRequest_fn (w : World) {vb : Nat} {c0 c1 c2 c3 c4 c5 c6 c7 c8 c9 c10 c11 c12 c13 : Value} (n : Int) (hb : blk w vb = some (#[c0,c1,c2,c3,c4,c5,c6,c7,c8,c9,c10,c11,c12,c13],60,(0,0))) :
    Fn Tryz.prog 18 #[.pointer (some ⟨vb,0,none⟩),.int .i16 n] w fun _ w' => blk w' vb = some (#[.int .i16 n,c1,c2,c3,c4,c5,c6,c7,c8,c9,c10,c11,c12,c13],60,(0,0)) ∧ Upd (fun b => b = vb) w w' := by
  have hvl := blk_lt hb
  refine fn_of_W Tryz.func18 rfl Tryz.results18 Tryz.ntmps18 rfl ?_
  repeat ((first | refine qA rfl ?_|refine qB ?_|refine qC rfl ?_|refine qD ?_|refine qE ?_|refine qF ?_|refine qG ?_|refine qH ?_);try simp (maxSteps:=1000000)(disch:=(first|omega|(simp only [qI,qJ,qK]<;>omega)|exact qL _)) only [go_sem,↓reduceIte,n0,reduceCtorEq,n1,n2,n3,n4,n5,i0,i1,i2,i3,i4,i5,i6,i7,hb])
  first | exact Upd.wr (Upd.refl _ _) _ _ (.inr rfl) | exact ⟨by simp (maxSteps:=1000000)(disch:=(first|omega|(simp only [qI,qJ,qK]<;>omega)|exact qL _)) only [go_sem,↓reduceIte,n0,reduceCtorEq,n1,n2,n3,n4,n5,i0,i1,i2,i3,i4,i5,i6,i7,hb],Upd.wr (Upd.refl _ _) _ _ (.inr rfl)⟩

theorem MaxShareFetchRequest_fn (w : World) : Fn Tryz.prog 5 #[] w fun r w' => r = .int .i64 2 ∧ Ext w w' := by
  refine fn_of_W Tryz.func5 rfl Tryz.results5 Tryz.ntmps5 rfl ?_
  repeat ((first | refine qA rfl ?_|refine qB ?_|refine qC rfl ?_|refine qD ?_|refine qE ?_|refine qF ?_|refine qG ?_|refine qH ?_);try simp (maxSteps:=1000000)(disch:=(first|omega|(simp only [qI,qJ,qK]<;>omega)|exact qL _)) only [go_sem,↓reduceIte,n0,reduceCtorEq,n1,n2,n3,n4,n5,i0,i1,i2,i3,i4,i5,i6,i7])
  refine (NewPtrShareFetchRequest_fn w).mono ?_
  rintro _ w1 ⟨rfl,hb1,hE1⟩
  repeat ((first | refine qA rfl ?_|refine qB ?_|refine qC rfl ?_|refine qD ?_|refine qE ?_|refine qF ?_|refine qG ?_|refine qH ?_);try simp (maxSteps:=1000000)(disch:=(first|omega|(simp only [qI,qJ,qK]<;>omega)|exact qL _)) only [go_sem,↓reduceIte,n0,reduceCtorEq,n1,n2,n3,n4,n5,i0,i1,i2,i3,i4,i5,i6,i7])
  have hm : Fn Tryz.prog 15 #[.pointer (some ⟨w.heap.size,0,none⟩)] w1 fun r w' => r = .int .i16 2 ∧ w' = w1 := by
    refine fn_of_W Tryz.func15 rfl Tryz.results15 Tryz.ntmps15 rfl ?_
    repeat ((first | refine qA rfl ?_|refine qB ?_|refine qC rfl ?_|refine qD ?_|refine qE ?_|refine qF ?_|refine qG ?_|refine qH ?_);try simp (maxSteps:=1000000)(disch:=(first|omega|(simp only [qI,qJ,qK]<;>omega)|exact qL _)) only [go_sem,↓reduceIte,n0,reduceCtorEq,n1,n2,n3,n4,n5,i0,i1,i2,i3,i4,i5,i6,i7])
  refine hm.mono ?_
  rintro _ w2 ⟨rfl,rfl⟩
  have ew : IntKind.i64.wrap (2 : Int) = 2 := i64_wrap (by decide)
  repeat ((first | refine qA rfl ?_|refine qB ?_|refine qC rfl ?_|refine qD ?_|refine qE ?_|refine qF ?_|refine qG ?_|refine qH ?_);try simp (maxSteps:=1000000)(disch:=(first|omega|(simp only [qI,qJ,qK]<;>omega)|exact qL _)) only [go_sem,↓reduceIte,n0,reduceCtorEq,n1,n2,n3,n4,n5,i0,i1,i2,i3,i4,i5,i6,i7,ew])
  exact hE1
end Ms

