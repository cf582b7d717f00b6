/- A part of the proof: see the last text. -/
import Derived.Test.YtmlpaobpdmgcgaaGreatDoorRC06
import Derived.Test.YtmlpaobpdmgcgaaGreatDoorRC08
import Derived.Test.YtmlpaobpdmgcgaaGreatDoorRC11
set_option linter.unusedSimpArgs false
set_option linter.unusedVariables false
namespace Ms
open Nat renaming reduceEqDiff → n0,reduceAdd → n1,reduceMul → n2,reduceSub → n3,reduceLT → n4,reduceLeDiff → n5
open Int renaming reduceEq → i0,reduceLT → i1,reduceLE → i2,reduceNeg → i3,reduceAdd → i4,reduceSub → i5,reduceMul → i6,reduceToNat → i7
set_option maxRecDepth 4000
open Go Go.Proofs
theorem ap_34_34 : AppT Tryz.prog 34 34 37 5 88 := AppT.of (by kernel_rfl)
theorem ap_35_35 : AppT Tryz.prog 35 35 69 2 32 := AppT.of (by kernel_rfl)
theorem ca_10 : callable Tryz.prog 10 = true := nr (by kernel_rfl)
theorem ca_12 : callable Tryz.prog 12 = true := nr (by kernel_rfl)
theorem ca_18 : callable Tryz.prog 18 = true := nr (by kernel_rfl)
theorem ca_19 : callable Tryz.prog 19 = true := nr (by kernel_rfl)
theorem ca_20 : callable Tryz.prog 20 = true := nr (by kernel_rfl)
theorem ca_21 : callable Tryz.prog 21 = true := nr (by kernel_rfl)
theorem ca_22 : callable Tryz.prog 22 = true := nr (by kernel_rfl)
theorem ca_23 : callable Tryz.prog 23 = true := nr (by kernel_rfl)
theorem ca_40 : callable Tryz.prog 40 = true := nr (by kernel_rfl)
theorem ca_41 : callable Tryz.prog 41 = true := nr (by kernel_rfl)
theorem ca_42 : callable Tryz.prog 42 = true := nr (by kernel_rfl)
theorem ca_43 : callable Tryz.prog 43 = true := nr (by kernel_rfl)
theorem ca_44 : callable Tryz.prog 44 = true := nr (by kernel_rfl)
theorem ca_45 : callable Tryz.prog 45 = true := nr (by kernel_rfl)
theorem ca_46 : callable Tryz.prog 46 = true := nr (by kernel_rfl)
theorem ca_5 : callable Tryz.prog 5 = true := nr (by kernel_rfl)
theorem ca_6 : callable Tryz.prog 6 = true := nr (by kernel_rfl)
theorem ca_61 : callable Tryz.prog 61 = true := nr (by kernel_rfl)
theorem ca_62 : callable Tryz.prog 62 = true := nr (by kernel_rfl)
theorem ca_63 : callable Tryz.prog 63 = true := nr (by kernel_rfl)
theorem ca_64 : callable Tryz.prog 64 = true := nr (by kernel_rfl)
theorem ca_65 : callable Tryz.prog 65 = true := nr (by kernel_rfl)
theorem ca_66 : callable Tryz.prog 66 = true := nr (by kernel_rfl)
theorem ca_67 : callable Tryz.prog 67 = true := nr (by kernel_rfl)
theorem ca_68 : callable Tryz.prog 68 = true := nr (by kernel_rfl)
theorem ca_69 : callable Tryz.prog 69 = true := nr (by kernel_rfl)
theorem ca_7 : callable Tryz.prog 7 = true := nr (by kernel_rfl)
theorem ca_70 : callable Tryz.prog 70 = true := nr (by kernel_rfl)
theorem ca_72 : callable Tryz.prog 72 = true := nr (by kernel_rfl)
theorem ca_73 : callable Tryz.prog 73 = true := nr (by kernel_rfl)
theorem ca_74 : callable Tryz.prog 74 = true := nr (by kernel_rfl)
theorem ca_8 : callable Tryz.prog 8 = true := nr (by kernel_rfl)
theorem ca_9 : callable Tryz.prog 9 = true := nr (by kernel_rfl)
theorem ca_92 : callable Tryz.prog 92 = true := nr (by kernel_rfl)
theorem es_74 : elemSize Tryz.prog 74 = some 3 := nr (by kernel_rfl)
theorem es_83 : elemSize Tryz.prog 83 = some 3 := nr (by kernel_rfl)
theorem fo_118_0 : fieldOff Tryz.prog 118 0 = some 0 := nr (by kernel_rfl)
theorem fo_118_1 : fieldOff Tryz.prog 118 1 = some 1 := nr (by kernel_rfl)
theorem fo_118_2 : fieldOff Tryz.prog 118 2 = some 2 := nr (by kernel_rfl)
theorem fo_79_0 : fieldOff Tryz.prog 79 0 = some 0 := nr (by kernel_rfl)
theorem fo_79_1 : fieldOff Tryz.prog 79 1 = some 1 := nr (by kernel_rfl)
theorem fo_79_2 : fieldOff Tryz.prog 79 2 = some 2 := nr (by kernel_rfl)
theorem fo_79_3 : fieldOff Tryz.prog 79 3 = some 3 := nr (by kernel_rfl)
theorem fo_85_0 : fieldOff Tryz.prog 85 0 = some 0 := nr (by kernel_rfl)
theorem fo_85_1 : fieldOff Tryz.prog 85 1 = some 1 := nr (by kernel_rfl)
theorem fo_85_2 : fieldOff Tryz.prog 85 2 = some 2 := nr (by kernel_rfl)
theorem if_55 : isIfaceT Tryz.prog 55 = true := nr (by kernel_rfl)
theorem ld_21 (w : World) (b o : Nat) : loadOf Tryz.prog 21 w ⟨b,o,none⟩ = (blk w b).bind fun x => x.1[o]? := loadOf_one (by kernel_rfl) w b o
theorem ld_31 (w : World) (b o : Nat) : loadOf Tryz.prog 31 w ⟨b,o,none⟩ = (blk w b).bind fun x => cellsAt x.1 o 2 := loadOf_agg (by kernel_rfl) w b o
theorem ld_46 (w : World) (b o : Nat) : loadOf Tryz.prog 46 w ⟨b,o,none⟩ = (blk w b).bind fun x => x.1[o]? := loadOf_one (by kernel_rfl) w b o
theorem ld_74 (w : World) (b o : Nat) : loadOf Tryz.prog 74 w ⟨b,o,none⟩ = (blk w b).bind fun x => x.1[o]? := loadOf_one (by kernel_rfl) w b o
theorem ld_83 (w : World) (b o : Nat) : loadOf Tryz.prog 83 w ⟨b,o,none⟩ = (blk w b).bind fun x => x.1[o]? := loadOf_one (by kernel_rfl) w b o
theorem pl_111 : placesOf Tryz.prog 111 = some [(0,1),(1,1)] := nr (by kernel_rfl)
theorem pl_31 : placesOf Tryz.prog 31 = some [(0,1),(1,1)] := nr (by kernel_rfl)
theorem pl_51 : placesOf Tryz.prog 51 = some [(0,1),(1,1),(2,1),(3,1),(4,1),(5,1),(6,1),(7,1)] := nr (by kernel_rfl)
theorem pl_69 : placesOf Tryz.prog 69 = some [(0,1),(1,1)] := nr (by kernel_rfl)
theorem se_34 : slElem Tryz.prog 34 = some (37,5) := nr (by kernel_rfl)
theorem se_35 : slElem Tryz.prog 35 = some (69,2) := nr (by kernel_rfl)
theorem sl_74 : isSliceT Tryz.prog 74 = true := nr (by kernel_rfl)
theorem sl_83 : isSliceT Tryz.prog 83 = true := nr (by kernel_rfl)
theorem sz_111 (w : World) (b o : Nat) (v : Value) : storeOf Tryz.prog 111 w ⟨b,o,none⟩ v = (blk w b).bind fun x => stO w b o v x 2 := storeOf_n (by kernel_rfl) w b o v
theorem sz_21 (w : World) (b o : Nat) (v : Value) : storeOf Tryz.prog 21 w ⟨b,o,none⟩ v = (blk w b).bind fun x => stO w b o v x 1 := storeOf_n (by kernel_rfl) w b o v
theorem sz_31 (w : World) (b o : Nat) (v : Value) : storeOf Tryz.prog 31 w ⟨b,o,none⟩ v = (blk w b).bind fun x => stO w b o v x 2 := storeOf_n (by kernel_rfl) w b o v
theorem sz_34 (w : World) (b o : Nat) (v : Value) : storeOf Tryz.prog 34 w ⟨b,o,none⟩ v = (blk w b).bind fun x => stO w b o v x 1 := storeOf_n (by kernel_rfl) w b o v
theorem sz_35 (w : World) (b o : Nat) (v : Value) : storeOf Tryz.prog 35 w ⟨b,o,none⟩ v = (blk w b).bind fun x => stO w b o v x 1 := storeOf_n (by kernel_rfl) w b o v
theorem sz_46 (w : World) (b o : Nat) (v : Value) : storeOf Tryz.prog 46 w ⟨b,o,none⟩ v = (blk w b).bind fun x => stO w b o v x 1 := storeOf_n (by kernel_rfl) w b o v
theorem sz_74 (w : World) (b o : Nat) (v : Value) : storeOf Tryz.prog 74 w ⟨b,o,none⟩ v = (blk w b).bind fun x => stO w b o v x 1 := storeOf_n (by kernel_rfl) w b o v
theorem sz_83 (w : World) (b o : Nat) (v : Value) : storeOf Tryz.prog 83 w ⟨b,o,none⟩ v = (blk w b).bind fun x => stO w b o v x 1 := storeOf_n (by kernel_rfl) w b o v
theorem z_111 : zeroOf Tryz.prog 111 = some #[.slice none 0 0,.bool false] := nr (by kernel_rfl)
theorem z_31 : zeroOf Tryz.prog 31 = some #[.slice none 0 0,.int .i64 0] := nr (by kernel_rfl)
theorem z_4 : zeroOf Tryz.prog 4 = some #[.bool false] := nr (by kernel_rfl)
theorem z_79 : zeroOf Tryz.prog 79 = some #[.int .i16 0,.int .i32 0,.slice none 0 0,.map none] := nr (by kernel_rfl)
attribute [go_sem] ca_10 ca_12 ca_18 ca_19 ca_20 ca_21 ca_22 ca_23 ca_40 ca_41 ca_42 ca_43 ca_44 ca_45 ca_46 ca_5 ca_6 ca_61 ca_62 ca_63 ca_64 ca_65 ca_66 ca_67 ca_68 ca_69 ca_7 ca_70 ca_72 ca_73 ca_74 ca_8 ca_9 ca_92 es_74 es_83 fo_118_0 fo_118_1 fo_118_2 fo_79_0 fo_79_1 fo_79_2 fo_79_3 fo_85_0 fo_85_1 fo_85_2 if_55 ld_21 ld_31 ld_46 ld_74 ld_83 pl_111 pl_31 pl_51 pl_69 se_34 se_35 sl_74 sl_83 sz_111 sz_21 sz_31 sz_34 sz_35 sz_46 sz_74 sz_83 z_111 z_31 z_4 z_79
end Ms

namespace Ms
open Go
abbrev qZ5 : Array Value := #[.int .i64 0,.slice none 0 0,.bool false,.slice none 0 0,.slice none 0 0]
end Ms

namespace Ms
open Go.World renaming size_alloc → qI
open Ms renaming size_wr → qJ,size_drew → qK,not_noB → qL
open W renaming seqR → qA,seq → qB,regR → qC,condK → qD,block → qE,skip → qF,ret → qG,exit → qH
open Nat renaming reduceEqDiff → n0,reduceAdd → n1,reduceMul → n2,reduceSub → n3,reduceLT → n4,reduceLeDiff → n5
open Int renaming reduceEq → i0,reduceLT → i1,reduceLE → i2,reduceNeg → i3,reduceAdd → i4,reduceSub → i5,reduceMul → i6,reduceToNat → i7
set_option maxRecDepth 8000
open Go Go.Proofs Go.Shelf
attribute [local congr] W_congr WPsq_congr WPp_congr optK_congr addrK_congr intK_congr boolK_congr sliceK_congr tupleK_congr funcK_congr Fn_congr rawK_congr takeK_congr stepK_congr convK_congr aggK_congr

def fX0_0 : Fld := .mk 3 0 (-1) (-1) (-1) 0 0 []
def fX0_1 : Fld := .mk 2 0 (-1) (-1) (-1) 0 0 []
def fs_X0 : List Fld := [fX0_0,fX0_1]
def fX1_0 : Fld := .mk 8 0 (-1) (-1) (-1) 0 0 []
def fX1_1 : Fld := .mk 11 0 (-1) (-1) (-1) 0 10 fs_X0
def fs_X1 : List Fld := [fX1_0,fX1_1]
def fQ_0 : Fld := .mk 3 0 (-1) (-1) (-1) 0 0 []
def fQ_1 : Fld := .mk 11 0 (-1) (-1) (-1) 0 10 fs_X1
def fs_Q : List Fld := [fQ_0,fQ_1]

set_option maxHeartbeats 4000000 in
theorem cX0_fn (w : World) : Fn Tryz.prog 41 #[] w fun r w' => FldsV (fun b => w.heap.size ≤ b) w' r fs_X0 ∧ Ext w w' := by
  refine fn_of_W Tryz.func41 rfl Tryz.results41 Tryz.ntmps41 rfl ?_
  repeat ((first | refine qA rfl ?_|apply qB|refine qC rfl ?_|apply qD|apply qE|apply qF|apply qG|apply qH);try simp (disch:=(first|omega|(simp only [qI,qJ,qK]<;>omega)|exact qL _)) only [go_sem,↓reduceIte,n0,reduceCtorEq,n1,n2,n3,n4,n5,i0,i1,i2,i3,i4,i5,i6,i7,fill_fld,fillN_nil,fillN_int,fillN_slice])
  repeat ((first | refine qA rfl ?_|apply qB|refine qC rfl ?_|apply qD|apply qE|apply qF|apply qG|apply qH);try simp (disch:=(first|omega|(simp only [qI,qJ,qK]<;>omega)|exact qL _)) only [go_sem,↓reduceIte,n0,reduceCtorEq,n1,n2,n3,n4,n5,i0,i1,i2,i3,i4,i5,i6,i7,fill_fld,fillN_nil,fillN_int,fillN_slice])
  exact ⟨FldsV.litO (fs := fs_X0) (css := [[.int .i64 3,.int .i64 0,.int .i64 (-1),.int .i64 (-1),.int .i64 (-1),.int .i64 0,.int .i64 0,.slice none 0 0],[.int .i64 2,.int .i64 0,.int .i64 (-1),.int .i64 (-1),.int .i64 (-1),.int .i64 0,.int .i64 0,.slice none 0 0]]) (T := 51) (fr := (0,0)) (by first | omega | (simp only [World.size_alloc];omega)) (by first | (simp (disch:=(first|omega|(simp only [qI,qJ,qK]<;>omega)|exact qL _)) only [go_sem,↓reduceIte,n0,reduceCtorEq,n1,n2,n3,n4,n5,i0,i1,i2,i3,i4,i5,i6,i7];rfl) | rfl) (by simp) (All2.cons (FldC.intro (kind := 3) (FldsV.none _ _)) (All2.cons (FldC.intro (kind := 2) (FldsV.none _ _)) All2.nil)),(Upd.alloc (Upd.refl _ w) _)⟩

set_option maxHeartbeats 4000000 in
theorem cX1_fn (w : World) : Fn Tryz.prog 20 #[] w fun r w' => FldsV (fun b => w.heap.size ≤ b) w' r fs_X1 ∧ Ext w w' := by
  refine fn_of_W Tryz.func20 rfl Tryz.results20 Tryz.ntmps20 rfl ?_
  repeat ((first | refine qA rfl ?_|apply qB|refine qC rfl ?_|apply qD|apply qE|apply qF|apply qG|apply qH);try simp (disch:=(first|omega|(simp only [qI,qJ,qK]<;>omega)|exact qL _)) only [go_sem,↓reduceIte,n0,reduceCtorEq,n1,n2,n3,n4,n5,i0,i1,i2,i3,i4,i5,i6,i7,fill_fld,fillN_nil,fillN_int,fillN_slice])
  refine (cX0_fn _).mono ?_
  rintro r1 w1 ⟨hF1,hE1⟩
  obtain ⟨b1,k1,rfl,_⟩ := SlR.shape hF1
  have hz1 := hE1.size
  have hD1 : Ext w w1 := Upd.trans (Upd.refl _ w) hE1
  simp (disch:=(first|omega|(simp only [qI,qJ,qK]<;>omega)|exact qL _)) only [go_sem,↓reduceIte,n0,reduceCtorEq,n1,n2,n3,n4,n5,i0,i1,i2,i3,i4,i5,i6,i7,fill_fld,fillN_nil,fillN_int,fillN_slice]
  repeat ((first | refine qA rfl ?_|apply qB|refine qC rfl ?_|apply qD|apply qE|apply qF|apply qG|apply qH);try simp (disch:=(first|omega|(simp only [qI,qJ,qK]<;>omega)|exact qL _)) only [go_sem,↓reduceIte,n0,reduceCtorEq,n1,n2,n3,n4,n5,i0,i1,i2,i3,i4,i5,i6,i7,fill_fld,fillN_nil,fillN_int,fillN_slice])
  exact ⟨FldsV.litO (fs := fs_X1) (css := [[.int .i64 8,.int .i64 0,.int .i64 (-1),.int .i64 (-1),.int .i64 (-1),.int .i64 0,.int .i64 0,.slice none 0 0],[.int .i64 11,.int .i64 0,.int .i64 (-1),.int .i64 (-1),.int .i64 (-1),.int .i64 0,.int .i64 10,.slice b1 fs_X0.length k1]]) (T := 51) (fr := (0,0)) (by first | omega | (simp only [World.size_alloc];omega)) (by first | (simp (disch:=(first|omega|(simp only [qI,qJ,qK]<;>omega)|exact qL _)) only [go_sem,↓reduceIte,n0,reduceCtorEq,n1,n2,n3,n4,n5,i0,i1,i2,i3,i4,i5,i6,i7];rfl) | rfl) (by simp) (All2.cons (FldC.intro (kind := 8) (FldsV.none _ _)) (All2.cons (FldC.intro (kind := 11) ((hF1.keep (Upd.keeps (S := fun _ => False) (Upd.alloc (Upd.refl _ _) _) fun _ _ _ h => h)).weaken fun b _ hb => by have hq : _ ≤ b := hb;omega)) All2.nil)),(Upd.alloc hD1 _)⟩

set_option maxHeartbeats 4000000 in
theorem cQ_fn (w : World) : Fn Tryz.prog 7 #[] w fun r w' => (∃ vs,r = .agg #[vs,.int .i64 2] ∧ FldsV (fun b => w.heap.size ≤ b) w' vs fs_Q) ∧ Ext w w' := by
  refine fn_of_W Tryz.func7 rfl Tryz.results7 Tryz.ntmps7 rfl ?_
  repeat ((first | refine qA rfl ?_|apply qB|refine qC rfl ?_|apply qD|apply qE|apply qF|apply qG|apply qH);try simp (disch:=(first|omega|(simp only [qI,qJ,qK]<;>omega)|exact qL _)) only [go_sem,↓reduceIte,n0,reduceCtorEq,n1,n2,n3,n4,n5,i0,i1,i2,i3,i4,i5,i6,i7,fill_fld,fillN_nil,fillN_int,fillN_slice])
  have hz0 : (w.alloc (.cells #[.slice none 0 0,.int .i64 0] 31)).heap.size = w.heap.size + 1 := World.size_alloc _ _
  refine (cX1_fn _).mono ?_
  rintro r1 w1 ⟨hF1,hE1⟩
  obtain ⟨b1,k1,rfl,_⟩ := SlR.shape hF1
  have hz1 := hE1.size
  have hD1 : Ext w w1 := Upd.trans (Upd.alloc (Upd.refl _ _) _) hE1
  have hb1 : blk w1 w.heap.size = some (#[.slice none 0 0,.int .i64 0],31,(0,0)) := hE1.blk_some (blk_alloc_new rfl) id
  simp (disch:=(first|omega|(simp only [qI,qJ,qK]<;>omega)|exact qL _)) only [go_sem,↓reduceIte,n0,reduceCtorEq,n1,n2,n3,n4,n5,i0,i1,i2,i3,i4,i5,i6,i7,fill_fld,fillN_nil,fillN_int,fillN_slice,hb1]
  have hvl := blk_lt hb1
  repeat ((first | refine qA rfl ?_|apply qB|refine qC rfl ?_|apply qD|apply qE|apply qF|apply qG|apply qH);try simp (disch:=(first|omega|(simp only [qI,qJ,qK]<;>omega)|exact qL _)) only [go_sem,↓reduceIte,n0,reduceCtorEq,n1,n2,n3,n4,n5,i0,i1,i2,i3,i4,i5,i6,i7,fill_fld,fillN_nil,fillN_int,fillN_slice,hb1])
  exact ⟨⟨_,rfl,FldsV.litO (fs := fs_Q) (css := [[.int .i64 3,.int .i64 0,.int .i64 (-1),.int .i64 (-1),.int .i64 (-1),.int .i64 0,.int .i64 0,.slice none 0 0],[.int .i64 11,.int .i64 0,.int .i64 (-1),.int .i64 (-1),.int .i64 (-1),.int .i64 0,.int .i64 10,.slice b1 fs_X1.length k1]]) (T := 51) (fr := (0,0)) (by first | omega | (simp only [World.size_alloc];omega)) (by first | (simp (disch:=(first|omega|(simp only [qI,qJ,qK]<;>omega)|exact qL _)) only [go_sem,↓reduceIte,n0,reduceCtorEq,n1,n2,n3,n4,n5,i0,i1,i2,i3,i4,i5,i6,i7];rfl) | rfl) (by simp) (All2.cons (FldC.intro (kind := 3) (FldsV.none _ _)) (All2.cons (FldC.intro (kind := 11) (hF1.stay (B := w.heap.size) (Upd.wr (Upd.alloc (Upd.refl _ _) _) _ _ (.inr rfl)) (by omega) (fun b hb => by omega))) All2.nil))⟩,(Upd.wr (Upd.alloc hD1 _) _ _ (.inl (Nat.le_refl _)))⟩

theorem DefaultQ_fn (w : World) {vb : Nat} {c0 c1 c2 c3 : Value} (hb : blk w vb = some (#[c0,c1,c2,c3],79,(0,0))) :
    Fn Tryz.prog 40 #[.pointer (some ⟨vb,0,none⟩)] w fun _ w' => blk w' vb = some (#[c0,c1,c2,c3],79,(0,0)) ∧ Upd (fun b => b = vb) w w' := by
  have hvl := blk_lt hb
  refine fn_of_W Tryz.func40 rfl Tryz.results40 Tryz.ntmps40 rfl ?_
  repeat ((first | refine qA rfl ?_|apply qB|refine qC rfl ?_|apply qD|apply qE|apply qF|apply qG|apply qH);try simp (disch:=(first|omega|(simp only [qI,qJ,qK]<;>omega)|exact qL _)) only [go_sem,↓reduceIte,n0,reduceCtorEq,n1,n2,n3,n4,n5,i0,i1,i2,i3,i4,i5,i6,i7,hb])
  first | exact Upd.refl _ _ | exact ⟨hb,Upd.refl _ _⟩

theorem NewPtrQ_fn (w : World) : Fn Tryz.prog 18 #[] w fun r w' => r = .pointer (some ⟨w.heap.size,0,none⟩) ∧ blk w' w.heap.size = some (#[.int .i16 0,.int .i32 0,.slice none 0 0,.map none],79,(0,0)) ∧ Ext w w' := by
  refine fn_of_W Tryz.func18 rfl Tryz.results18 Tryz.ntmps18 rfl ?_
  repeat ((first | refine qA rfl ?_|apply qB|refine qC rfl ?_|apply qD|apply qE|apply qF|apply qG|apply qH);try simp (disch:=(first|omega|(simp only [qI,qJ,qK]<;>omega)|exact qL _)) only [go_sem,↓reduceIte,n0,reduceCtorEq,n1,n2,n3,n4,n5,i0,i1,i2,i3,i4,i5,i6,i7])
  refine (DefaultQ_fn _ (blk_alloc_new rfl)).mono ?_
  rintro _ w1 ⟨hb1,hU1⟩
  have hz := World.size_alloc w (.cells #[.int .i16 0,.int .i32 0,.slice none 0 0,.map none] 79)
  repeat ((first | refine qA rfl ?_|apply qB|refine qC rfl ?_|apply qD|apply qE|apply qF|apply qG|apply qH);try simp (disch:=(first|omega|(simp only [qI,qJ,qK]<;>omega)|exact qL _)) only [go_sem,↓reduceIte,n0,reduceCtorEq,n1,n2,n3,n4,n5,i0,i1,i2,i3,i4,i5,i6,i7])
  exact ⟨hb1,(Upd.alloc (Upd.refl _ _) _ : Ext w _).more hU1 fun b hb h => by omega⟩

theorem SetVersionQ_fn (w : World) {vb : Nat} {c0 c1 c2 c3 : Value} (n : Int) (hb : blk w vb = some (#[c0,c1,c2,c3],79,(0,0))) :
    Fn Tryz.prog 21 #[.pointer (some ⟨vb,0,none⟩),.int .i16 n] w fun _ w' => blk w' vb = some (#[.int .i16 n,c1,c2,c3],79,(0,0)) ∧ Upd (fun b => b = vb) w w' := by
  have hvl := blk_lt hb
  refine fn_of_W Tryz.func21 rfl Tryz.results21 Tryz.ntmps21 rfl ?_
  repeat ((first | refine qA rfl ?_|apply qB|refine qC rfl ?_|apply qD|apply qE|apply qF|apply qG|apply qH);try simp (disch:=(first|omega|(simp only [qI,qJ,qK]<;>omega)|exact qL _)) only [go_sem,↓reduceIte,n0,reduceCtorEq,n1,n2,n3,n4,n5,i0,i1,i2,i3,i4,i5,i6,i7,hb])
  first | exact Upd.wr (Upd.refl _ _) _ _ (.inr rfl) | exact ⟨by simp (disch:=(first|omega|(simp only [qI,qJ,qK]<;>omega)|exact qL _)) only [go_sem,↓reduceIte,n0,reduceCtorEq,n1,n2,n3,n4,n5,i0,i1,i2,i3,i4,i5,i6,i7,hb],Upd.wr (Upd.refl _ _) _ _ (.inr rfl)⟩

theorem MaxQ_fn (w : World) : Fn Tryz.prog 6 #[] w fun r w' => r = .int .i64 2 ∧ Ext w w' := by
  refine fn_of_W Tryz.func6 rfl Tryz.results6 Tryz.ntmps6 rfl ?_
  repeat ((first | refine qA rfl ?_|apply qB|refine qC rfl ?_|apply qD|apply qE|apply qF|apply qG|apply qH);try simp (disch:=(first|omega|(simp only [qI,qJ,qK]<;>omega)|exact qL _)) only [go_sem,↓reduceIte,n0,reduceCtorEq,n1,n2,n3,n4,n5,i0,i1,i2,i3,i4,i5,i6,i7])
  refine (NewPtrQ_fn w).mono ?_
  rintro _ w1 ⟨rfl,hb1,hE1⟩
  repeat ((first | refine qA rfl ?_|apply qB|refine qC rfl ?_|apply qD|apply qE|apply qF|apply qG|apply qH);try simp (disch:=(first|omega|(simp only [qI,qJ,qK]<;>omega)|exact qL _)) only [go_sem,↓reduceIte,n0,reduceCtorEq,n1,n2,n3,n4,n5,i0,i1,i2,i3,i4,i5,i6,i7])
  have hm : Fn Tryz.prog 19 #[.pointer (some ⟨w.heap.size,0,none⟩)] w1 fun r w' => r = .int .i16 2 ∧ w' = w1 := by
    refine fn_of_W Tryz.func19 rfl Tryz.results19 Tryz.ntmps19 rfl ?_
    repeat ((first | refine qA rfl ?_|apply qB|refine qC rfl ?_|apply qD|apply qE|apply qF|apply qG|apply qH);try simp (disch:=(first|omega|(simp only [qI,qJ,qK]<;>omega)|exact qL _)) only [go_sem,↓reduceIte,n0,reduceCtorEq,n1,n2,n3,n4,n5,i0,i1,i2,i3,i4,i5,i6,i7])
  refine hm.mono ?_
  rintro _ w2 ⟨rfl,rfl⟩
  have ew : IntKind.i64.wrap (2 : Int) = 2 := i64_wrap (by decide)
  repeat ((first | refine qA rfl ?_|apply qB|refine qC rfl ?_|apply qD|apply qE|apply qF|apply qG|apply qH);try simp (disch:=(first|omega|(simp only [qI,qJ,qK]<;>omega)|exact qL _)) only [go_sem,↓reduceIte,n0,reduceCtorEq,n1,n2,n3,n4,n5,i0,i1,i2,i3,i4,i5,i6,i7,ew])
  exact hE1

theorem utQ_74 : Tryz.prog.underlying 74 = some (.slice 85) := by kernel_rfl
theorem utQ_21 : Tryz.prog.underlying 21 = some (.int .i32) := by kernel_rfl
theorem inQ_85 : (Tryz.prog.info? 85).map (fun i => (i.size,i.bytes,i.zero.map (·.cells))) = some (3,48,some #[.string ByteArray.empty,.slice none 0 0,.map none]) := by kernel_rfl
theorem utQ_83 : Tryz.prog.underlying 83 = some (.slice 118) := by kernel_rfl
theorem inQ_118 : (Tryz.prog.info? 118).map (fun i => (i.size,i.bytes,i.zero.map (·.cells))) = some (3,16,some #[.int .i32 0,.int .i16 0,.map none]) := by kernel_rfl

theorem DefaultEX1_fn (w : World) {R k : Nat} {A B : List Value} {c0 c1 c2 : Value} {E : TypeId} (hb : blk w R = some ((A ++ ([c0,c1,c2] ++ B)).toArray,E,(0,0))) (hA : A.length = k) :
    Fn Tryz.prog 65 #[.pointer (some ⟨R,k,none⟩)] w fun _ w' => blk w' R = some ((A ++ ([c0,c1,c2] ++ B)).toArray,E,(0,0)) ∧ Upd (fun b => b = R) w w' := by
  have hRl := blk_lt hb
  obtain ⟨X,hX⟩ : ∃ X : Array Value,X = (A ++ (([c0,c1,c2] : List Value) ++ B)).toArray := ⟨_,rfl⟩
  have hXs : k + 3 ≤ X.size := by rw [hX];simp only [List.size_toArray,List.length_append,List.length_cons,List.length_nil,hA];omega
  have hb' : blk w R = some (X,E,(0,0)) := by rw [hX];exact hb
  refine fn_of_W Tryz.func65 rfl Tryz.results65 Tryz.ntmps65 rfl ?_
  repeat ((first | refine qA rfl ?_|apply qB|refine qC rfl ?_|apply qD|apply qE|apply qF|apply qG|apply qH);try simp (disch:=(first|omega|(simp only [qI,qJ,qK]<;>omega)|exact qL _)) only [go_sem,↓reduceIte,n0,reduceCtorEq,n1,n2,n3,n4,n5,i0,i1,i2,i3,i4,i5,i6,i7,hb',Array.size_setIfInBounds])
  first | exact ⟨hb,Upd.refl _ _⟩ | exact Upd.refl _ _ | (rw [hX];exact ⟨rfl,Upd.refl _ _⟩)

theorem DefaultEX0_fn (w : World) {R k : Nat} {A B : List Value} {c0 c1 c2 : Value} {E : TypeId} (hb : blk w R = some ((A ++ ([c0,c1,c2] ++ B)).toArray,E,(0,0))) (hA : A.length = k) :
    Fn Tryz.prog 70 #[.pointer (some ⟨R,k,none⟩)] w fun _ w' => blk w' R = some ((A ++ ([c0,c1,c2] ++ B)).toArray,E,(0,0)) ∧ Upd (fun b => b = R) w w' := by
  have hRl := blk_lt hb
  obtain ⟨X,hX⟩ : ∃ X : Array Value,X = (A ++ (([c0,c1,c2] : List Value) ++ B)).toArray := ⟨_,rfl⟩
  have hXs : k + 3 ≤ X.size := by rw [hX];simp only [List.size_toArray,List.length_append,List.length_cons,List.length_nil,hA];omega
  have hb' : blk w R = some (X,E,(0,0)) := by rw [hX];exact hb
  refine fn_of_W Tryz.func70 rfl Tryz.results70 Tryz.ntmps70 rfl ?_
  repeat ((first | refine qA rfl ?_|apply qB|refine qC rfl ?_|apply qD|apply qE|apply qF|apply qG|apply qH);try simp (disch:=(first|omega|(simp only [qI,qJ,qK]<;>omega)|exact qL _)) only [go_sem,↓reduceIte,n0,reduceCtorEq,n1,n2,n3,n4,n5,i0,i1,i2,i3,i4,i5,i6,i7,hb',Array.size_setIfInBounds])
  first | exact ⟨hb,Upd.refl _ _⟩ | exact Upd.refl _ _ | (rw [hX];exact ⟨rfl,Upd.refl _ _⟩)

set_option maxHeartbeats 4000000 in
theorem readQ_0 {d : Nat} {ok : Blocks} {ver : Int} {ev : Value} (hlo : 0 ≤ ver) (hhi : ver ≤ 1) (w : World) {vb : Nat} (src : Value) (s : List UInt8) (hv : blk w vb = some (#[.int .i16 ver,.int .i32 0,.slice none 0 0,.map none],79,(0,0))) (hsrc : BytesV ok w src s) (hok0 : ∀ b,ok b → b < w.heap.size ∧ b ≠ vb) (hG : Glo ev w) (hgv : ¬ 0 = vb ∧ ¬ 1 = vb) :
    Fn Tryz.prog 42 #[.pointer (some ⟨vb,0,none⟩),src,.bool false] w (ReadQ 79 ok ver (d + 3) fs_Q vb w (rdP (d + 3) ver false fs_Q (some s)) ev) := by
  have hvl := blk_lt hv
  have hgs := hG.lt
  obtain ⟨sa,sc,rfl,_⟩ := hsrc.shape
  refine fn_of_W Tryz.func42 rfl Tryz.results42 Tryz.ntmps42 rfl ?_
  repeat ((first | refine qA rfl ?_|apply qB|refine qC rfl ?_|apply qD|apply qE|apply qF|apply qG|apply qH);try simp (disch:=(first|omega|(simp only [qI,qJ,qK]<;>omega)|exact qL _)) only [go_sem,↓reduceIte,n0,reduceCtorEq,n1,n2,n3,n4,n5,i0,i1,i2,i3,i4,i5,i6,i7,hv])
  refine (DefaultQ_fn w hv).mono ?_
  rintro _ w0 ⟨hv0,hu0⟩
  have hz0 := hu0.size
  have hsrc0 : BytesV ok w0 (.slice sa s.length sc) s := hsrc.keep (hu0.keeps fun b _ hk e => (hok0 b hk).2 e)
  obtain ⟨rb,hrb⟩ : ∃ r,r = w0.heap.size := ⟨_,rfl⟩
  have hE1 : Ext w0 (wr (w0.alloc (.cells #[.slice none 0 0,.bool false] 111)) w0.heap.size 0 [.slice sa s.length sc,.bool false]) := (Upd.alloc (Upd.refl _ _) _).wr _ _ (.inl (Nat.le_refl _))
  have hz1 : (wr (w0.alloc (.cells #[.slice none 0 0,.bool false] 111)) w0.heap.size 0 [.slice sa s.length sc,.bool false]).heap.size = w0.heap.size + 1 := by rw [size_wr,World.size_alloc]
  have hR1 : Rdr RT ok (wr (w0.alloc (.cells #[.slice none 0 0,.bool false] 111)) w0.heap.size 0 [.slice sa s.length sc,.bool false]) w0.heap.size (some s) := Rdr.good (v := .slice sa s.length sc) (by simp (disch:=(first|omega|(simp only [qI,qJ,qK]<;>omega)|exact qL _)) only [go_sem,↓reduceIte,n0,reduceCtorEq,n1,n2,n3,n4,n5,i0,i1,i2,i3,i4,i5,i6,i7]) (hsrc0.keep (hE1.keeps _))
  have hv_1 := hE1.blk_some hv0 id
  repeat ((first | refine qA rfl ?_|apply qB|refine qC rfl ?_|apply qD|apply qE|apply qF|apply qG|apply qH);try simp (disch:=(first|omega|(simp only [qI,qJ,qK]<;>omega)|exact qL _)) only [go_sem,↓reduceIte,n0,reduceCtorEq,n1,n2,n3,n4,n5,i0,i1,i2,i3,i4,i5,i6,i7,hv0])
  generalize (wr (w0.alloc (.cells #[.slice none 0 0,.bool false] 111)) w0.heap.size 0 [.slice sa s.length sc,.bool false]) = w1 at *
  rw [← hrb] at hR1
  try rw [← hrb]
  have hok : ∀ b,ok b → b < w.heap.size ∧ b ≠ vb := hok0
  have hrok : ¬ ok rb := fun h => by have := (hok rb h).1;omega
  have hbase : Upd (fun b => b = vb) w w1 := hu0.trans (hE1.mono fun _ h => h.elim)
  have hG1 : Glo ev w1 := hG.updS hbase hgv.1 hgv.2
  have hgrb : ¬ 0 = rb := by omega
  have hgM1 : ¬ (0 = vb ∨ 0 = rb) := fun h => h.elim hgv.1 fun h => by omega
  have hgM2 : ¬ (1 = vb ∨ 1 = rb) := fun h => h.elim hgv.2 fun h => by omega
  obtain ⟨s0,hs0⟩ : ∃ s' : St,s' = some s := ⟨_,rfl⟩
  rw [← hs0] at hR1 ⊢
  have hU1 : Upd (fun b => b = vb ∨ b = rb) w1 w1 := Upd.refl _ _
  have hoM : ∀ b,(ok b ∨ w1.heap.size ≤ b) → ¬ (b = vb ∨ b = rb) := fun b hk h => by
    rcases hk with hk | hk
    · have := hok b hk;rcases h with h | h <;> omega
    · rcases h with h | h <;> omega
  have hq1 : Rdr RT ok w1 rb s0 := hR1
  obtain ⟨FB,hFB⟩ : ∃ P : Prop,P = ((rdP (d + 3) ver false fs_Q s0).2 = none) := ⟨_,rfl⟩
  have hb_0 : (rdL (rdP (d + 2) ver false) (dfP (d + 2)) ver false [fQ_0,fQ_1] s0).2 = none → FB := fun h => Eq.mpr hFB (rdP_bad h)
  have hh_0 : hasS fQ_0 ver = true := hasS_t (by show (0 : Int) ≤ ver;omega) (by show (-1 : Int) < 0 ∨ ver ≤ (-1 : Int);omega)
  obtain ⟨x_0,hx_0⟩ : ∃ x,x = (rdF (rdP (d + 2) ver false) ver false fQ_0 s0).1 := ⟨_,rfl⟩
  repeat ((first | refine qA rfl ?_|apply qB|refine qC rfl ?_|apply qD|apply qE|apply qF|apply qG|apply qH);try simp (disch:=(first|omega|(simp only [qI,qJ,qK]<;>omega)|exact qL _)) only [go_sem,↓reduceIte,n0,reduceCtorEq,n1,n2,n3,n4,n5,i0,i1,i2,i3,i4,i5,i6,i7,hv_1])
  have hrd : rdF (rdP (d + 2) ver false) ver false fQ_0 s0 = _ := rdF_num 3 rfl (by decide)
  refine (Int32_fn w1 hq1 hrok hG1.1 hgrb).mono ?_
  rintro _ w2 ⟨rfl,hq2,hu2⟩
  have hv_2 := hu2.blk_some hv_1 (by omega)
  have hV2 : Upd (fun b => b = vb ∨ b = rb) w1 w2 := hu2.mono (fun _ h => .inr h)
  have hU2 : Upd (fun b => b = vb ∨ b = rb) w1 w2 := hU1.trans hV2
  have hz2 := hV2.size
  have hG2 : Glo ev w2 := hG1.updS hU2 hgM1 hgM2
  have hst : (rdF (rdP (d + 2) ver false) ver false fQ_0 s0).2 = (rdInt .i32 4 s0).2 := by first | (rw [hrd];rfl) | rw [hrd]
  obtain ⟨s1,hs1⟩ : ∃ s,s = (rdF (rdP (d + 2) ver false) ver false fQ_0 s0).2 := ⟨_,rfl⟩
  rw [← hst,← hs1] at hq2
  clear hst
  repeat ((first | refine qA rfl ?_|apply qB|refine qC rfl ?_|apply qD|apply qE|apply qF|apply qG|apply qH);try simp (disch:=(first|omega|(simp only [qI,qJ,qK]<;>omega)|exact qL _)) only [go_sem,↓reduceIte,n0,reduceCtorEq,n1,n2,n3,n4,n5,i0,i1,i2,i3,i4,i5,i6,i7,hv_2])
  generalize hw3 : wr w2 vb 1 [.int .i32 (rdInt .i32 4 s0).1] = w3
  have hS3 : Upd (fun b => b = vb ∨ b = rb) w2 w3 := by rw [← hw3];exact (Upd.refl _ _).wr _ _ (.inr (.inl rfl))
  have hv_3 : blk w3 vb = some (#[.int .i16 ver,.int .i32 (rdInt .i32 4 s0).1,.slice none 0 0,.map none],79,(0,0)) := by rw [← hw3,blk_wr_eq,hv_2];rfl
  have hV3 := hS3
  have hU3 : Upd (fun b => b = vb ∨ b = rb) w1 w3 := hU2.trans hV3
  have hz3 := hV3.size
  have hG3 : Glo ev w3 := hG1.updS hU3 hgM1 hgM2
  have hq3 : Rdr RT ok w3 rb s1 ∧ NN w3 rb s1 := by
    have hn : ∀ x,x = w3 → (Rdr RT ok x rb s1 ∧ NN x rb s1) := fun x hx => by
      rw [hx,← hw3]
      exact Rdr.store hq2 (by omega) (fun h => by have := (hok _ h).1;first | omega | exact (hok _ h).2 rfl)
    exact hn _ rfl
  clear hw3
  have hf_0 : RepF (RepS true (d + 2)) (szS true (d + 2)) fQ_0 (fun b => ok b ∨ w1.heap.size ≤ b) w3 (x_0) [.int .i32 (rdInt .i32 4 s0).1] := (RepF_num (by decide)).2 (by rw [hx_0,hrd];exact congrArg (fun x => [x]) (numC_rd 3 (by decide) 4 s0).symm)
  clear hrd
  have hb_1 : (rdL (rdP (d + 2) ver false) (dfP (d + 2)) ver false [fQ_1] s1).2 = none → FB := fun h => hb_0 (by rw [rdL_st (by decide) hh_0,← hs1];exact h)
  have hh_1 : hasS fQ_1 ver = true := hasS_t (by show (0 : Int) ≤ ver;omega) (by show (-1 : Int) < 0 ∨ ver ≤ (-1 : Int);omega)
  obtain ⟨x_1,hx_1⟩ : ∃ x,x = (rdF (rdP (d + 2) ver false) ver false fQ_1 s1).1 := ⟨_,rfl⟩
  repeat ((first | refine qA rfl ?_|apply qB|refine qC rfl ?_|apply qD|apply qE|apply qF|apply qG|apply qH);try simp (disch:=(first|omega|(simp only [qI,qJ,qK]<;>omega)|exact qL _)) only [go_sem,↓reduceIte,n0,reduceCtorEq,n1,n2,n3,n4,n5,i0,i1,i2,i3,i4,i5,i6,i7,hv_3])
  refine (RArrayLen_fn w3 hq3.1 hrok hG3.1 hgrb).mono ?_
  rintro _ w4 ⟨rfl,hq4,hu4⟩
  have hv_4 := hu4.blk_some hv_3 (by omega)
  have hV4 : Upd (fun b => b = vb ∨ b = rb) w3 w4 := hu4.mono (fun _ h => .inr h)
  have hU4 : Upd (fun b => b = vb ∨ b = rb) w1 w4 := hU3.trans hV4
  have hz4 := hV4.size
  have hG4 : Glo ev w4 := hG1.updS hU4 hgM1 hgM2
  obtain ⟨s2,hs2⟩ : ∃ s,s = (rdALen false s1).2 := ⟨_,rfl⟩
  rw [← hs2] at hq4
  have hyr0 := rdALen_rng false s1
  generalize hy0 : (rdALen false s1).1 = y0 at *
  obtain ⟨N0,hN0⟩ : ∃ N,N = y0.toNat := ⟨_,rfl⟩
  have hlb0 : (rdMany (rd1 (rdP (d + 2) ver false) fQ_1.of fQ_1.sub false false) N0 s2).2 = none → FB := fun h => hb_1 (by rw [rdL_st (by decide) hh_1];exact rdL_bad (rdF_listbad rfl (by rw [hy0,← hN0,← hs2];exact h)))
  repeat ((first | refine W.seqR rfl ?_ | refine W.seq ?_ | refine W.regR rfl ?_ | refine W.block ?_ | refine W.skip ?_ | refine W.ret ?_ | refine W.exit ?_);try simp (disch:=(first|omega|(simp only [qI,qJ,qK]<;>omega)|exact qL _)) only [go_sem,↓reduceIte,n0,reduceCtorEq,n1,n2,n3,n4,n5,i0,i1,i2,i3,i4,i5,i6,i7,hv_4])
  refine (ROk_fn w4 hq4.1).mono ?_
  rintro _ wz ⟨rfl,hez⟩
  rw [hez]
  clear hez wz
  by_cases hsn0 : s2 = none
  · have hso : s2.isSome = false := by rw [hsn0];rfl
    repeat (first|simp (disch:=(first|omega|(simp only [qI,qJ,qK]<;>omega)|exact qL _)) only [go_sem,↓reduceIte,n0,reduceCtorEq,n1,n2,n3,n4,n5,i0,i1,i2,i3,i4,i5,i6,i7,hv_4,hso]|refine qA rfl ?_|apply qB|refine qC rfl ?_|apply qD|apply qE|apply qF|apply qG|apply qH)
    refine (RComplete_fn w4 hq4.1 hG4.2).mono ?_
    rintro _ wz ⟨rfl,hez⟩
    rw [hez]
    repeat (first|simp (disch:=(first|omega|(simp only [qI,qJ,qK]<;>omega)|exact qL _)) only [go_sem,↓reduceIte,n0,reduceCtorEq,n1,n2,n3,n4,n5,i0,i1,i2,i3,i4,i5,i6,i7,hv_4]|refine qA rfl ?_|apply qB|refine qC rfl ?_|apply qD|apply qE|apply qF|apply qG|apply qH)
    rw [errV_none hsn0]
    exact ReadQ.bad (Eq.mp hFB (hlb0 (by rw [hsn0];exact rdMany_none rd1P_none _))) (hbase.trans' hU4 fun i hi h => h.elim id fun h => by omega)
  have hso0 : s2.isSome = true := isSome_some hsn0
  try simp (disch:=(first|omega|(simp only [qI,qJ,qK]<;>omega)|exact qL _)) only [go_sem,↓reduceIte,n0,reduceCtorEq,n1,n2,n3,n4,n5,i0,i1,i2,i3,i4,i5,i6,i7,hv_4,hso0]
  repeat ((first | refine W.seqR rfl ?_ | refine W.seq ?_ | refine W.regR rfl ?_ | refine W.block ?_ | refine W.skip ?_ | refine W.ret ?_ | refine W.exit ?_);try simp (disch:=(first|omega|(simp only [qI,qJ,qK]<;>omega)|exact qL _)) only [go_sem,↓reduceIte,n0,reduceCtorEq,n1,n2,n3,n4,n5,i0,i1,i2,i3,i4,i5,i6,i7,hv_4,hso0])
  refine W.condK ?_
  try simp (disch:=(first|omega|(simp only [qI,qJ,qK]<;>omega)|exact qL _)) only [go_sem,↓reduceIte,n0,reduceCtorEq,n1,n2,n3,n4,n5,i0,i1,i2,i3,i4,i5,i6,i7,hv_4,hso0]
  repeat ((first | refine W.seqR rfl ?_ | refine W.seq ?_ | refine W.regR rfl ?_ | refine W.block ?_ | refine W.skip ?_ | refine W.ret ?_ | refine W.exit ?_);try simp (disch:=(first|omega|(simp only [qI,qJ,qK]<;>omega)|exact qL _)) only [go_sem,↓reduceIte,n0,reduceCtorEq,n1,n2,n3,n4,n5,i0,i1,i2,i3,i4,i5,i6,i7,hv_4,hso0,slBase_00])
  refine W.normJ (RowQ [(2,.bool false),(7,.pointer (some ⟨rb,0,none⟩)),(8,.int .i16 ver),(9,.bool false),(10,.pointer (some ⟨vb,0,none⟩)),(14,.int .i32 y0)] 13 (fun va w' => LstI RT (rd1 (rdP (d + 2) ver false) fQ_1.of fQ_1.sub false false) (Rep1 (RepS true (d + 2)) fQ_1.of fQ_1.sub) 3 85 [.string ByteArray.empty,.slice none 0 0,.map none] w4.heap.size N0 ok (fun b => ok b ∨ w1.heap.size ≤ b) rb w4 s2 va 0 s2 [] [] w' ∧ (N0 = 0 → if nilS fQ_1 ver y0 = true then va = .slice none 0 0 else ∃ a,va = .slice (some a) 0 0))) ?_ ?_
  · by_cases hy0 : (0 : Int) < y0
    · have hyv : Value.int .i32 y0 = .int .i32 ((N0 : Nat) : Int) := by rw [show y0 = ((N0 : Nat) : Int) by omega]
      repeat ((first | refine qA rfl ?_|apply qB|refine qC rfl ?_|apply qD|apply qE|apply qF|apply qG|apply qH);try simp (disch:=(first|omega|(simp only [qI,qJ,qK]<;>omega)|exact qL _)) only [go_sem,↓reduceIte,n0,reduceCtorEq,n1,n2,n3,n4,n5,i0,i1,i2,i3,i4,i5,i6,i7,hv_4])
      refine wp_appendZ (m := N0) utQ_74 utQ_21 inQ_85 (by decide) (by first | rfl | simp (disch:=(first|omega|(simp only [qI,qJ,qK]<;>omega)|exact qL _)) only [go_sem,↓reduceIte,n0,reduceCtorEq,n1,n2,n3,n4,n5,i0,i1,i2,i3,i4,i5,i6,i7]) (by first | exact hyv | (simp (disch:=(first|omega|(simp only [qI,qJ,qK]<;>omega)|exact qL _)) only [go_sem,↓reduceIte,n0,reduceCtorEq,n1,n2,n3,n4,n5,i0,i1,i2,i3,i4,i5,i6,i7];exact hyv)) (by omega) (by omega) (by decide) ?_
      intro q rest hq1
      have hEw : Ext w4 (w4.drew.alloc (.cells (zs [.string ByteArray.empty,.slice none 0 0,.map none] N0 ++ rest).toArray 85)) := (Upd.refl _ _).drew.alloc _
      repeat (first|simp (disch:=(first|omega|(simp only [qI,qJ,qK]<;>omega)|exact qL _)) only [go_sem,↓reduceIte,n0,reduceCtorEq,n1,n2,n3,n4,n5,i0,i1,i2,i3,i4,i5,i6,i7,hv_4]|refine qA rfl ?_|apply qB|refine qC rfl ?_|apply qD|apply qE|apply qF|apply qG|apply qH)
      exact ⟨(by simp (disch:=(first|omega|(simp only [qI,qJ,qK]<;>omega)|exact qL _)) only [go_sem,↓reduceIte,n0,reduceCtorEq,n1,n2,n3,n4,n5,i0,i1,i2,i3,i4,i5,i6,i7,Holds_nil,Holds_cons]),.slice (some ⟨w4.heap.size,0,none⟩) N0 q,(by simp (disch:=(first|omega|(simp only [qI,qJ,qK]<;>omega)|exact qL _)) only [go_sem,↓reduceIte,n0,reduceCtorEq,n1,n2,n3,n4,n5,i0,i1,i2,i3,i4,i5,i6,i7]),LstI.start (RowJ.start (by omega) hq1 (by show w4.heap.size ≤ w4.drew.heap.size;rw [size_drew];omega) (blk_alloc_new rfl)) ⟨hq4.1.upd hEw (fun h => h) (fun _ _ _ h => h),hq4.2.upd hEw fun h => h⟩ (hEw.mono fun _ h => h.elim),fun h0 => by omega⟩
    · repeat ((first | refine qA rfl ?_|apply qB|refine qC rfl ?_|apply qD|apply qE|apply qF|apply qG|apply qH);try simp (disch:=(first|omega|(simp only [qI,qJ,qK]<;>omega)|exact qL _)) only [go_sem,↓reduceIte,n0,reduceCtorEq,n1,n2,n3,n4,n5,i0,i1,i2,i3,i4,i5,i6,i7,hv_4])
      exact ⟨(by simp (disch:=(first|omega|(simp only [qI,qJ,qK]<;>omega)|exact qL _)) only [go_sem,↓reduceIte,n0,reduceCtorEq,n1,n2,n3,n4,n5,i0,i1,i2,i3,i4,i5,i6,i7,Holds_nil,Holds_cons]),.slice none 0 0,(by simp (disch:=(first|omega|(simp only [qI,qJ,qK]<;>omega)|exact qL _)) only [go_sem,↓reduceIte,n0,reduceCtorEq,n1,n2,n3,n4,n5,i0,i1,i2,i3,i4,i5,i6,i7,slBase_00]),LstI.start (RowJ.zero (by omega) (fun _ h => by cases h)) hq4 (Upd.refl _ _),fun _ => by rw [nilS_plain (by decide) (by omega)];exact rfl⟩
  rintro ρ w5 ⟨⟨hrb0_2,hrb0_7,hrb0_8,hrb0_9,hrb0_10,hrb0_14,-⟩,va0,hra0,hL0,hnc0⟩
  repeat ((first | refine qA rfl ?_|apply qB|refine qC rfl ?_|apply qD|apply qE|apply qF|apply qG|apply qH);try simp (disch:=(first|omega|(simp only [qI,qJ,qK]<;>omega)|exact qL _)) only [go_sem,↓reduceIte,n0,reduceCtorEq,n1,n2,n3,n4,n5,i0,i1,i2,i3,i4,i5,i6,i7,hv_4,hrb0_2,hrb0_7,hrb0_8,hrb0_9,hrb0_10,hrb0_14,hra0,exitRQ_ret,exitRQ_exit,Int.toNat_natCast,Nat.mul_one])
  refine W.exitRJ 0 (EndQ [(2,.bool false),(7,.pointer (some ⟨rb,0,none⟩)),(8,.int .i16 ver),(9,.bool false),(10,.pointer (some ⟨vb,0,none⟩)),(14,.int .i32 y0),(13,va0)] (fun w' => ∃ s xs css,LstI RT (rd1 (rdP (d + 2) ver false) fQ_1.of fQ_1.sub false false) (Rep1 (RepS true (d + 2)) fQ_1.of fQ_1.sub) 3 85 [.string ByteArray.empty,.slice none 0 0,.map none] w4.heap.size N0 ok (fun b => ok b ∨ w1.heap.size ≤ b) rb w4 s2 va0 N0 s xs css w')) (W.loop (LoopQ [(2,.bool false),(7,.pointer (some ⟨rb,0,none⟩)),(8,.int .i16 ver),(9,.bool false),(10,.pointer (some ⟨vb,0,none⟩)),(14,.int .i32 y0),(13,va0)] 15 (fun j w' => ∃ s xs css,LstI RT (rd1 (rdP (d + 2) ver false) fQ_1.of fQ_1.sub false false) (Rep1 (RepS true (d + 2)) fQ_1.of fQ_1.sub) 3 85 [.string ByteArray.empty,.slice none 0 0,.map none] w4.heap.size N0 ok (fun b => ok b ∨ w1.heap.size ≤ b) rb w4 s2 va0 j s xs css w')) (fun ρ _ => N0 - (RowKit.intOf (ρ 15)).toNat) ?_ ?_) ?_
  · exact ⟨(by simp (disch:=(first|omega|(simp only [qI,qJ,qK]<;>omega)|exact qL _)) only [go_sem,↓reduceIte,n0,reduceCtorEq,n1,n2,n3,n4,n5,i0,i1,i2,i3,i4,i5,i6,i7,Holds_nil,Holds_cons,hrb0_2,hrb0_7,hrb0_8,hrb0_9,hrb0_10,hrb0_14,hra0]),0,(by simp (disch:=(first|omega|(simp only [qI,qJ,qK]<;>omega)|exact qL _)) only [go_sem,↓reduceIte,n0,reduceCtorEq,n1,n2,n3,n4,n5,i0,i1,i2,i3,i4,i5,i6,i7,hrb0_2,hrb0_7,hrb0_8,hrb0_9,hrb0_10,hrb0_14,hra0];all_goals rfl),s2,[],[],hL0⟩
  · rintro ρ w6 ⟨⟨hrc0_2,hrc0_7,hrc0_8,hrc0_9,hrc0_10,hrc0_14,hrc0_13,-⟩,j1,hri0,s3,xs0,css0,hL0⟩
    have hj0 := hL0.le
    have hq6 := hL0.rd
    have hU6 : Upd (fun b => b = vb ∨ b = rb) w1 w6 := hU4.trans' hL0.upd fun i _ h => .inr h
    have hz6 := hL0.upd.size
    have hG6 : Glo ev w6 := hG1.updS hU6 hgM1 hgM2
    by_cases hlt0 : j1 < N0
    · obtain ⟨R1,q1,B1,hva1,hNq1,hLR1,hA1,hx1_6,hnext1⟩ := hL0.row.next hlt0
      have hRl1 := blk_lt hx1_6
      generalize css0.flatten = A1 at hA1 hx1_6 hnext1
      replace hra0 : ρ 13 = .slice (some ⟨R1,0,none⟩) N0 q1 := hrc0_13.trans hva1
      have hown1 : ∀ b,ownB va0 b → w4.heap.size ≤ b ∧ b < w6.heap.size := fun b h => hL0.row.own h
      have hoM1 : ∀ b,(fun b => (ok b ∨ w1.heap.size ≤ b) ∧ ¬ ownB va0 b) b → ¬ (b = R1 ∨ b = rb) := fun b hk h => h.elim (fun e => hk.2 ⟨_,_,_,hva1,e⟩) (fun e => hoM b hk.1 (.inr e))
      obtain ⟨X6,hX6⟩ : ∃ X : Array Value,X = (A1 ++ (([.string ByteArray.empty,.slice none 0 0,.map none] : List Value) ++ B1)).toArray := ⟨_,rfl⟩
      have hxb6 : blk w6 R1 = some (X6,85,(0,0)) := by rw [hX6];exact hx1_6
      have hXs6 : j1 * 3 + 3 ≤ X6.size := by rw [hX6];simp only [List.size_toArray,List.length_append,List.length_cons,List.length_nil,hA1];omega
      repeat ((first | refine qA rfl ?_|apply qB|refine qC rfl ?_|apply qD|apply qE|apply qF|apply qG|apply qH);try simp (disch:=(first|omega|(simp only [qI,qJ,qK]<;>omega)|exact qL _)) only [go_sem,↓reduceIte,n0,reduceCtorEq,n1,n2,n3,n4,n5,i0,i1,i2,i3,i4,i5,i6,i7,hxb6,hrc0_2,hrc0_7,hrc0_8,hrc0_9,hrc0_10,hrc0_14,hra0,hri0,exitRQ_ret,exitRQ_exit,Int.toNat_natCast,Nat.mul_one])
      refine (DefaultEX1_fn w6 hx1_6 hA1).mono ?_
      rintro _ w7 ⟨hx1_7,hu7⟩
      have hq7 := And.intro (hq6.1.upd hu7 (by omega) (fun b _ hk e => by have := (hok b hk).1;omega)) (hq6.2.upd hu7 (by omega))
      have hV7 : Upd (fun b => b = R1 ∨ b = rb) w6 w7 := hu7.mono (fun _ h => .inl h)
      have hU7 : Upd (fun b => b = vb ∨ b = rb) w1 w7 := hU6.trans' hV7 fun i hi h => h.elim (fun h => by omega) .inr
      have hz7 := hV7.size
      have hG7 : Glo ev w7 := hG1.updS hU7 hgM1 hgM2
      obtain ⟨X7,hX7⟩ : ∃ X : Array Value,X = (A1 ++ (([.string ByteArray.empty,.slice none 0 0,.map none] : List Value) ++ B1)).toArray := ⟨_,rfl⟩
      have hxb7 : blk w7 R1 = some (X7,85,(0,0)) := by rw [hX7];exact hx1_7
      have hXs7 : j1 * 3 + 3 ≤ X7.size := by rw [hX7];simp only [List.size_toArray,List.length_append,List.length_cons,List.length_nil,hA1];omega
      have hbe0_0 : (rdL (rdP (d + 1) ver false) (dfP (d + 1)) ver false [fX1_0,fX1_1] s3).2 = none → FB := fun h => hlb0 (hL0.bad hlt0 rd1P_none (by show (rd1 (rdP (d + 2) ver false) 10 fs_X1 false false s3).2 = none;rw [rd1_part];exact rdP_bad h))
      have hhe0_0 : hasS fX1_0 ver = true := hasS_t (by show (0 : Int) ≤ ver;omega) (by show (-1 : Int) < 0 ∨ ver ≤ (-1 : Int);omega)
      obtain ⟨xe0_0,hxe0_0⟩ : ∃ x,x = (rdF (rdP (d + 1) ver false) ver false fX1_0 s3).1 := ⟨_,rfl⟩
      repeat ((first | refine qA rfl ?_|apply qB|refine qC rfl ?_|apply qD|apply qE|apply qF|apply qG|apply qH);try simp (disch:=(first|omega|(simp only [qI,qJ,qK]<;>omega)|exact qL _)) only [go_sem,↓reduceIte,n0,reduceCtorEq,n1,n2,n3,n4,n5,i0,i1,i2,i3,i4,i5,i6,i7,hxb7,hrc0_2,hrc0_7,hrc0_8,hrc0_9,hrc0_10,hrc0_14,hra0,hri0,exitRQ_ret,exitRQ_exit,Int.toNat_natCast,Nat.mul_one])
      have hmay : mayS fX1_0 ver = false := mayS_no (by show (-1 : Int) < 0 ∨ ver < (-1 : Int);omega)
      have hrd : rdF (rdP (d + 1) ver false) ver false fX1_0 s3 = _ := rdF_text rfl hmay
      refine (RString_fn w7 hq7.1 hrok hG7.1 hgrb).mono ?_
      rintro _ w8 ⟨rfl,hq8,hu8⟩
      have hx1_8 := hu8.blk_some hx1_7 (by omega)
      have hV8 : Upd (fun b => b = R1 ∨ b = rb) w7 w8 := hu8.mono (fun _ h => .inr h)
      have hU8 : Upd (fun b => b = vb ∨ b = rb) w1 w8 := hU7.trans' hV8 fun i hi h => h.elim (fun h => by omega) .inr
      have hz8 := hV8.size
      have hG8 : Glo ev w8 := hG1.updS hU8 hgM1 hgM2
      obtain ⟨X8,hX8⟩ : ∃ X : Array Value,X = (A1 ++ (([.string ByteArray.empty,.slice none 0 0,.map none] : List Value) ++ B1)).toArray := ⟨_,rfl⟩
      have hxb8 : blk w8 R1 = some (X8,85,(0,0)) := by rw [hX8];exact hx1_8
      have hXs8 : j1 * 3 + 3 ≤ X8.size := by rw [hX8];simp only [List.size_toArray,List.length_append,List.length_cons,List.length_nil,hA1];omega
      have hst : (rdF (rdP (d + 1) ver false) ver false fX1_0 s3).2 = (rdStr false s3).2 := by first | (rw [hrd];rfl) | rw [hrd]
      obtain ⟨s4,hs4⟩ : ∃ s,s = (rdF (rdP (d + 1) ver false) ver false fX1_0 s3).2 := ⟨_,rfl⟩
      rw [← hst,← hs4] at hq8
      clear hst
      have hst8_0 : j1 * 3 + 1 ≤ X8.size := by omega
      have hld8_1 : X8[j1 * 3 + 1]? = some (.slice none 0 0) := by rw [hX8];exact el_cell (R := 0) hA1 (Nat.le_of_ble_eq_true rfl)
      repeat ((first | refine qA rfl ?_|apply qB|refine qC rfl ?_|apply qD|apply qE|apply qF|apply qG|apply qH);try simp (disch:=(first|omega|(simp only [qI,qJ,qK]<;>omega)|exact qL _)) only [go_sem,↓reduceIte,n0,reduceCtorEq,n1,n2,n3,n4,n5,i0,i1,i2,i3,i4,i5,i6,i7,hxb8,hrc0_2,hrc0_7,hrc0_8,hrc0_9,hrc0_10,hrc0_14,hra0,hri0,exitRQ_ret,exitRQ_exit,Int.toNat_natCast,Nat.mul_one,hst8_0,hld8_1,Array.getElem?_setIfInBounds_ne])
      generalize hw9 : wr w8 R1 (j1 * 3) [strV (rdStr false s3).1] = w9
      have hS9 : Upd (fun b => b = R1 ∨ b = rb) w8 w9 := by rw [← hw9];exact (Upd.refl _ _).wr _ _ (.inr (.inl rfl))
      have hx1_9 : blk w9 R1 = some ((A1 ++ (([strV (rdStr false s3).1,.slice none 0 0,.map none] : List Value) ++ B1)).toArray,85,(0,0)) := by rw [← hw9];exact el_blk0 hx1_8 hA1 (Nat.le_of_ble_eq_true rfl)
      have hV9 := hS9
      have hU9 : Upd (fun b => b = vb ∨ b = rb) w1 w9 := hU8.trans' hV9 fun i hi h => h.elim (fun h => by omega) .inr
      have hz9 := hV9.size
      have hG9 : Glo ev w9 := hG1.updS hU9 hgM1 hgM2
      have hq9 : Rdr RT ok w9 rb s4 ∧ NN w9 rb s4 := by
        have hn : ∀ x,x = w9 → (Rdr RT ok x rb s4 ∧ NN x rb s4) := fun x hx => by
          rw [hx,← hw9]
          exact Rdr.store hq8 (by omega) (fun h => by have := (hok _ h).1;first | omega | exact (hok _ h).2 rfl)
        exact hn _ rfl
      obtain ⟨X9,hX9⟩ : ∃ X : Array Value,X = (A1 ++ (([strV (rdStr false s3).1,.slice none 0 0,.map none] : List Value) ++ B1)).toArray := ⟨_,rfl⟩
      have hxb9 : blk w9 R1 = some (X9,85,(0,0)) := by rw [hX9];exact hx1_9
      have hXs9 : j1 * 3 + 3 ≤ X9.size := by rw [hX9];simp only [List.size_toArray,List.length_append,List.length_cons,List.length_nil,hA1];omega
      clear hw9
      have hfe0_0 : RepF (RepS true (d + 1)) (szS true (d + 1)) fX1_0 (fun b => (ok b ∨ w1.heap.size ≤ b) ∧ ¬ ownB va0 b) w9 (xe0_0) [strV (rdStr false s3).1] := (RepF_text rfl (by decide)).2 (by rw [hxe0_0,hrd];rfl)
      clear hrd
      have hbe0_1 : (rdL (rdP (d + 1) ver false) (dfP (d + 1)) ver false [fX1_1] s4).2 = none → FB := fun h => hbe0_0 (by rw [rdL_st (by decide) hhe0_0,← hs4];exact h)
      have hhe0_1 : hasS fX1_1 ver = true := hasS_t (by show (0 : Int) ≤ ver;omega) (by show (-1 : Int) < 0 ∨ ver ≤ (-1 : Int);omega)
      obtain ⟨xe0_1,hxe0_1⟩ : ∃ x,x = (rdF (rdP (d + 1) ver false) ver false fX1_1 s4).1 := ⟨_,rfl⟩
      have hld9_1 : X9[j1 * 3 + 1]? = some (.slice none 0 0) := by rw [hX9];exact el_cell (R := 0) hA1 (Nat.le_of_ble_eq_true rfl)
      repeat ((first | refine qA rfl ?_|apply qB|refine qC rfl ?_|apply qD|apply qE|apply qF|apply qG|apply qH);try simp (disch:=(first|omega|(simp only [qI,qJ,qK]<;>omega)|exact qL _)) only [go_sem,↓reduceIte,n0,reduceCtorEq,n1,n2,n3,n4,n5,i0,i1,i2,i3,i4,i5,i6,i7,hxb9,hrc0_2,hrc0_7,hrc0_8,hrc0_9,hrc0_10,hrc0_14,hra0,hri0,exitRQ_ret,exitRQ_exit,Int.toNat_natCast,Nat.mul_one,hld9_1])
      refine (RArrayLen_fn w9 hq9.1 hrok hG9.1 hgrb).mono ?_
      rintro _ w10 ⟨rfl,hq10,hu10⟩
      have hx1_10 := hu10.blk_some hx1_9 (by omega)
      have hV10 : Upd (fun b => b = R1 ∨ b = rb) w9 w10 := hu10.mono (fun _ h => .inr h)
      have hU10 : Upd (fun b => b = vb ∨ b = rb) w1 w10 := hU9.trans' hV10 fun i hi h => h.elim (fun h => by omega) .inr
      have hz10 := hV10.size
      have hG10 : Glo ev w10 := hG1.updS hU10 hgM1 hgM2
      obtain ⟨X10,hX10⟩ : ∃ X : Array Value,X = (A1 ++ (([strV (rdStr false s3).1,.slice none 0 0,.map none] : List Value) ++ B1)).toArray := ⟨_,rfl⟩
      have hxb10 : blk w10 R1 = some (X10,85,(0,0)) := by rw [hX10];exact hx1_10
      have hXs10 : j1 * 3 + 3 ≤ X10.size := by rw [hX10];simp only [List.size_toArray,List.length_append,List.length_cons,List.length_nil,hA1];omega
      obtain ⟨s5,hs5⟩ : ∃ s,s = (rdALen false s4).2 := ⟨_,rfl⟩
      rw [← hs5] at hq10
      have hyr1 := rdALen_rng false s4
      generalize hy1 : (rdALen false s4).1 = y1 at *
      obtain ⟨N1,hN1⟩ : ∃ N,N = y1.toNat := ⟨_,rfl⟩
      have hlb1 : (rdMany (rd1 (rdP (d + 1) ver false) fX1_1.of fX1_1.sub false false) N1 s5).2 = none → FB := fun h => hbe0_1 (by rw [rdL_st (by decide) hhe0_1];exact rdL_bad (rdF_listbad rfl (by rw [hy1,← hN1,← hs5];exact h)))
      repeat ((first | refine W.seqR rfl ?_ | refine W.seq ?_ | refine W.regR rfl ?_ | refine W.block ?_ | refine W.skip ?_ | refine W.ret ?_ | refine W.exit ?_);try simp (disch:=(first|omega|(simp only [qI,qJ,qK]<;>omega)|exact qL _)) only [go_sem,↓reduceIte,n0,reduceCtorEq,n1,n2,n3,n4,n5,i0,i1,i2,i3,i4,i5,i6,i7,hxb10,hrc0_2,hrc0_7,hrc0_8,hrc0_9,hrc0_10,hrc0_14,hra0,hri0,exitRQ_ret,exitRQ_exit,Int.toNat_natCast,Nat.mul_one])
      refine (ROk_fn w10 hq10.1).mono ?_
      rintro _ wz ⟨rfl,hez⟩
      rw [hez]
      clear hez wz
      by_cases hsn1 : s5 = none
      · have hso : s5.isSome = false := by rw [hsn1];rfl
        repeat (first|simp (disch:=(first|omega|(simp only [qI,qJ,qK]<;>omega)|exact qL _)) only [go_sem,↓reduceIte,n0,reduceCtorEq,n1,n2,n3,n4,n5,i0,i1,i2,i3,i4,i5,i6,i7,hxb10,hrc0_2,hrc0_7,hrc0_8,hrc0_9,hrc0_10,hrc0_14,hra0,hri0,exitRQ_ret,exitRQ_exit,Int.toNat_natCast,Nat.mul_one,hso]|refine qA rfl ?_|apply qB|refine qC rfl ?_|apply qD|apply qE|apply qF|apply qG|apply qH)
        refine (RComplete_fn w10 hq10.1 hG10.2).mono ?_
        rintro _ wz ⟨rfl,hez⟩
        rw [hez]
        repeat (first|simp (disch:=(first|omega|(simp only [qI,qJ,qK]<;>omega)|exact qL _)) only [go_sem,↓reduceIte,n0,reduceCtorEq,n1,n2,n3,n4,n5,i0,i1,i2,i3,i4,i5,i6,i7,hxb10,hrc0_2,hrc0_7,hrc0_8,hrc0_9,hrc0_10,hrc0_14,hra0,hri0,exitRQ_ret,exitRQ_exit,Int.toNat_natCast,Nat.mul_one]|refine qA rfl ?_|apply qB|refine qC rfl ?_|apply qD|apply qE|apply qF|apply qG|apply qH)
        rw [errV_none hsn1]
        exact ReadQ.bad (Eq.mp hFB (hlb1 (by rw [hsn1];exact rdMany_none rd1P_none _))) (hbase.trans' hU10 fun i hi h => h.elim id fun h => by omega)
      have hso1 : s5.isSome = true := isSome_some hsn1
      try simp (disch:=(first|omega|(simp only [qI,qJ,qK]<;>omega)|exact qL _)) only [go_sem,↓reduceIte,n0,reduceCtorEq,n1,n2,n3,n4,n5,i0,i1,i2,i3,i4,i5,i6,i7,hxb10,hrc0_2,hrc0_7,hrc0_8,hrc0_9,hrc0_10,hrc0_14,hra0,hri0,exitRQ_ret,exitRQ_exit,Int.toNat_natCast,Nat.mul_one,hso1]
      repeat ((first | refine W.seqR rfl ?_ | refine W.seq ?_ | refine W.regR rfl ?_ | refine W.block ?_ | refine W.skip ?_ | refine W.ret ?_ | refine W.exit ?_);try simp (disch:=(first|omega|(simp only [qI,qJ,qK]<;>omega)|exact qL _)) only [go_sem,↓reduceIte,n0,reduceCtorEq,n1,n2,n3,n4,n5,i0,i1,i2,i3,i4,i5,i6,i7,hxb10,hrc0_2,hrc0_7,hrc0_8,hrc0_9,hrc0_10,hrc0_14,hra0,hri0,exitRQ_ret,exitRQ_exit,Int.toNat_natCast,Nat.mul_one,hso1])
      refine W.condK ?_
      try simp (disch:=(first|omega|(simp only [qI,qJ,qK]<;>omega)|exact qL _)) only [go_sem,↓reduceIte,n0,reduceCtorEq,n1,n2,n3,n4,n5,i0,i1,i2,i3,i4,i5,i6,i7,hxb10,hrc0_2,hrc0_7,hrc0_8,hrc0_9,hrc0_10,hrc0_14,hra0,hri0,exitRQ_ret,exitRQ_exit,Int.toNat_natCast,Nat.mul_one,hso1]
      repeat ((first | refine W.seqR rfl ?_ | refine W.seq ?_ | refine W.regR rfl ?_ | refine W.block ?_ | refine W.skip ?_ | refine W.ret ?_ | refine W.exit ?_);try simp (disch:=(first|omega|(simp only [qI,qJ,qK]<;>omega)|exact qL _)) only [go_sem,↓reduceIte,n0,reduceCtorEq,n1,n2,n3,n4,n5,i0,i1,i2,i3,i4,i5,i6,i7,hxb10,hrc0_2,hrc0_7,hrc0_8,hrc0_9,hrc0_10,hrc0_14,hra0,hri0,exitRQ_ret,exitRQ_exit,Int.toNat_natCast,Nat.mul_one,hso1,slBase_00])
      refine W.normJ (RowQ [(2,.bool false),(7,.pointer (some ⟨rb,0,none⟩)),(8,.int .i16 ver),(9,.bool false),(10,.pointer (some ⟨vb,0,none⟩)),(14,.int .i32 y0),(13,.slice (some ⟨R1,0,none⟩) N0 q1),(15,.int .i32 j1),(17,.pointer (some ⟨R1,j1 * 3,none⟩)),(21,.int .i32 y1)] 20 (fun va w' => LstI RT (rd1 (rdP (d + 1) ver false) fX1_1.of fX1_1.sub false false) (Rep1 (RepS true (d + 1)) fX1_1.of fX1_1.sub) 3 118 [.int .i32 0,.int .i16 0,.map none] w10.heap.size N1 ok (fun b => (ok b ∨ w1.heap.size ≤ b) ∧ ¬ ownB va0 b) rb w10 s5 va 0 s5 [] [] w' ∧ (N1 = 0 → if nilS fX1_1 ver y1 = true then va = .slice none 0 0 else ∃ a,va = .slice (some a) 0 0))) ?_ ?_
      · by_cases hy0 : (0 : Int) < y1
        · have hyv : Value.int .i32 y1 = .int .i32 ((N1 : Nat) : Int) := by rw [show y1 = ((N1 : Nat) : Int) by omega]
          repeat ((first | refine qA rfl ?_|apply qB|refine qC rfl ?_|apply qD|apply qE|apply qF|apply qG|apply qH);try simp (disch:=(first|omega|(simp only [qI,qJ,qK]<;>omega)|exact qL _)) only [go_sem,↓reduceIte,n0,reduceCtorEq,n1,n2,n3,n4,n5,i0,i1,i2,i3,i4,i5,i6,i7,hxb10,hrc0_2,hrc0_7,hrc0_8,hrc0_9,hrc0_10,hrc0_14,hra0,hri0,exitRQ_ret,exitRQ_exit,Int.toNat_natCast,Nat.mul_one])
          refine wp_appendZ (m := N1) utQ_83 utQ_21 inQ_118 (by decide) (by first | rfl | simp (disch:=(first|omega|(simp only [qI,qJ,qK]<;>omega)|exact qL _)) only [go_sem,↓reduceIte,n0,reduceCtorEq,n1,n2,n3,n4,n5,i0,i1,i2,i3,i4,i5,i6,i7,hrc0_2,hrc0_7,hrc0_8,hrc0_9,hrc0_10,hrc0_14,hra0,hri0]) (by first | exact hyv | (simp (disch:=(first|omega|(simp only [qI,qJ,qK]<;>omega)|exact qL _)) only [go_sem,↓reduceIte,n0,reduceCtorEq,n1,n2,n3,n4,n5,i0,i1,i2,i3,i4,i5,i6,i7,hrc0_2,hrc0_7,hrc0_8,hrc0_9,hrc0_10,hrc0_14,hra0,hri0];exact hyv)) (by omega) (by omega) (by decide) ?_
          intro q rest hq1
          have hEw : Ext w10 (w10.drew.alloc (.cells (zs [.int .i32 0,.int .i16 0,.map none] N1 ++ rest).toArray 118)) := (Upd.refl _ _).drew.alloc _
          repeat (first|simp (disch:=(first|omega|(simp only [qI,qJ,qK]<;>omega)|exact qL _)) only [go_sem,↓reduceIte,n0,reduceCtorEq,n1,n2,n3,n4,n5,i0,i1,i2,i3,i4,i5,i6,i7,hxb10,hrc0_2,hrc0_7,hrc0_8,hrc0_9,hrc0_10,hrc0_14,hra0,hri0,exitRQ_ret,exitRQ_exit,Int.toNat_natCast,Nat.mul_one]|refine qA rfl ?_|apply qB|refine qC rfl ?_|apply qD|apply qE|apply qF|apply qG|apply qH)
          exact ⟨(by simp (disch:=(first|omega|(simp only [qI,qJ,qK]<;>omega)|exact qL _)) only [go_sem,↓reduceIte,n0,reduceCtorEq,n1,n2,n3,n4,n5,i0,i1,i2,i3,i4,i5,i6,i7,Holds_nil,Holds_cons,hrc0_2,hrc0_7,hrc0_8,hrc0_9,hrc0_10,hrc0_14,hra0,hri0]),.slice (some ⟨w10.heap.size,0,none⟩) N1 q,(by simp (disch:=(first|omega|(simp only [qI,qJ,qK]<;>omega)|exact qL _)) only [go_sem,↓reduceIte,n0,reduceCtorEq,n1,n2,n3,n4,n5,i0,i1,i2,i3,i4,i5,i6,i7,hrc0_2,hrc0_7,hrc0_8,hrc0_9,hrc0_10,hrc0_14,hra0,hri0]),LstI.start (RowJ.start (by omega) hq1 (by show w10.heap.size ≤ w10.drew.heap.size;rw [size_drew];omega) (blk_alloc_new rfl)) ⟨hq10.1.upd hEw (fun h => h) (fun _ _ _ h => h),hq10.2.upd hEw fun h => h⟩ (hEw.mono fun _ h => h.elim),fun h0 => by omega⟩
        · repeat ((first | refine qA rfl ?_|apply qB|refine qC rfl ?_|apply qD|apply qE|apply qF|apply qG|apply qH);try simp (disch:=(first|omega|(simp only [qI,qJ,qK]<;>omega)|exact qL _)) only [go_sem,↓reduceIte,n0,reduceCtorEq,n1,n2,n3,n4,n5,i0,i1,i2,i3,i4,i5,i6,i7,hxb10,hrc0_2,hrc0_7,hrc0_8,hrc0_9,hrc0_10,hrc0_14,hra0,hri0,exitRQ_ret,exitRQ_exit,Int.toNat_natCast,Nat.mul_one])
          exact ⟨(by simp (disch:=(first|omega|(simp only [qI,qJ,qK]<;>omega)|exact qL _)) only [go_sem,↓reduceIte,n0,reduceCtorEq,n1,n2,n3,n4,n5,i0,i1,i2,i3,i4,i5,i6,i7,Holds_nil,Holds_cons,hrc0_2,hrc0_7,hrc0_8,hrc0_9,hrc0_10,hrc0_14,hra0,hri0]),.slice none 0 0,(by simp (disch:=(first|omega|(simp only [qI,qJ,qK]<;>omega)|exact qL _)) only [go_sem,↓reduceIte,n0,reduceCtorEq,n1,n2,n3,n4,n5,i0,i1,i2,i3,i4,i5,i6,i7,hrc0_2,hrc0_7,hrc0_8,hrc0_9,hrc0_10,hrc0_14,hra0,hri0,slBase_00]),LstI.start (RowJ.zero (by omega) (fun _ h => by cases h)) hq10 (Upd.refl _ _),fun _ => by rw [nilS_plain (by decide) (by omega)];exact rfl⟩
      rintro ρ w11 ⟨⟨hrb1_2,hrb1_7,hrb1_8,hrb1_9,hrb1_10,hrb1_14,hrb1_13,hrb1_15,hrb1_17,hrb1_21,-⟩,va1,hra1,hL1,hnc1⟩
      repeat ((first | refine qA rfl ?_|apply qB|refine qC rfl ?_|apply qD|apply qE|apply qF|apply qG|apply qH);try simp (disch:=(first|omega|(simp only [qI,qJ,qK]<;>omega)|exact qL _)) only [go_sem,↓reduceIte,n0,reduceCtorEq,n1,n2,n3,n4,n5,i0,i1,i2,i3,i4,i5,i6,i7,hxb10,hrb1_2,hrb1_7,hrb1_8,hrb1_9,hrb1_10,hrb1_14,hrb1_13,hrb1_15,hrb1_17,hrb1_21,hra1,exitRQ_ret,exitRQ_exit,Int.toNat_natCast,Nat.mul_one])
      refine W.exitRJ 2 (EndQ [(2,.bool false),(7,.pointer (some ⟨rb,0,none⟩)),(8,.int .i16 ver),(9,.bool false),(10,.pointer (some ⟨vb,0,none⟩)),(14,.int .i32 y0),(13,.slice (some ⟨R1,0,none⟩) N0 q1),(15,.int .i32 j1),(17,.pointer (some ⟨R1,j1 * 3,none⟩)),(21,.int .i32 y1),(20,va1)] (fun w' => ∃ s xs css,LstI RT (rd1 (rdP (d + 1) ver false) fX1_1.of fX1_1.sub false false) (Rep1 (RepS true (d + 1)) fX1_1.of fX1_1.sub) 3 118 [.int .i32 0,.int .i16 0,.map none] w10.heap.size N1 ok (fun b => (ok b ∨ w1.heap.size ≤ b) ∧ ¬ ownB va0 b) rb w10 s5 va1 N1 s xs css w')) (W.loop (LoopQ [(2,.bool false),(7,.pointer (some ⟨rb,0,none⟩)),(8,.int .i16 ver),(9,.bool false),(10,.pointer (some ⟨vb,0,none⟩)),(14,.int .i32 y0),(13,.slice (some ⟨R1,0,none⟩) N0 q1),(15,.int .i32 j1),(17,.pointer (some ⟨R1,j1 * 3,none⟩)),(21,.int .i32 y1),(20,va1)] 22 (fun j w' => ∃ s xs css,LstI RT (rd1 (rdP (d + 1) ver false) fX1_1.of fX1_1.sub false false) (Rep1 (RepS true (d + 1)) fX1_1.of fX1_1.sub) 3 118 [.int .i32 0,.int .i16 0,.map none] w10.heap.size N1 ok (fun b => (ok b ∨ w1.heap.size ≤ b) ∧ ¬ ownB va0 b) rb w10 s5 va1 j s xs css w')) (fun ρ _ => N1 - (RowKit.intOf (ρ 22)).toNat) ?_ ?_) ?_
      · exact ⟨(by simp (disch:=(first|omega|(simp only [qI,qJ,qK]<;>omega)|exact qL _)) only [go_sem,↓reduceIte,n0,reduceCtorEq,n1,n2,n3,n4,n5,i0,i1,i2,i3,i4,i5,i6,i7,Holds_nil,Holds_cons,hrb1_2,hrb1_7,hrb1_8,hrb1_9,hrb1_10,hrb1_14,hrb1_13,hrb1_15,hrb1_17,hrb1_21,hra1]),0,(by simp (disch:=(first|omega|(simp only [qI,qJ,qK]<;>omega)|exact qL _)) only [go_sem,↓reduceIte,n0,reduceCtorEq,n1,n2,n3,n4,n5,i0,i1,i2,i3,i4,i5,i6,i7,hrb1_2,hrb1_7,hrb1_8,hrb1_9,hrb1_10,hrb1_14,hrb1_13,hrb1_15,hrb1_17,hrb1_21,hra1];all_goals rfl),s5,[],[],hL1⟩
      · rintro ρ w12 ⟨⟨hrc1_2,hrc1_7,hrc1_8,hrc1_9,hrc1_10,hrc1_14,hrc1_13,hrc1_15,hrc1_17,hrc1_21,hrc1_20,-⟩,j2,hri1,s6,xs1,css1,hL1⟩
        have hj1 := hL1.le
        have hq12 := hL1.rd
        have hU12 : Upd (fun b => b = vb ∨ b = rb) w1 w12 := hU10.trans' hL1.upd fun i _ h => .inr h
        have hz12 := hL1.upd.size
        have hG12 : Glo ev w12 := hG1.updS hU12 hgM1 hgM2
        by_cases hlt1 : j2 < N1
        · obtain ⟨R2,q2,B2,hva2,hNq2,hLR2,hA2,hx2_12,hnext2⟩ := hL1.row.next hlt1
          have hRl2 := blk_lt hx2_12
          generalize css1.flatten = A2 at hA2 hx2_12 hnext2
          replace hra1 : ρ 20 = .slice (some ⟨R2,0,none⟩) N1 q2 := hrc1_20.trans hva2
          have hown2 : ∀ b,ownB va1 b → w10.heap.size ≤ b ∧ b < w12.heap.size := fun b h => hL1.row.own h
          have hoM2 : ∀ b,(fun b => (fun b => (ok b ∨ w1.heap.size ≤ b) ∧ ¬ ownB va0 b) b ∧ ¬ ownB va1 b) b → ¬ (b = R2 ∨ b = rb) := fun b hk h => h.elim (fun e => hk.2 ⟨_,_,_,hva2,e⟩) (fun e => hoM1 b hk.1 (.inr e))
          obtain ⟨X12,hX12⟩ : ∃ X : Array Value,X = (A2 ++ (([.int .i32 0,.int .i16 0,.map none] : List Value) ++ B2)).toArray := ⟨_,rfl⟩
          have hxb12 : blk w12 R2 = some (X12,118,(0,0)) := by rw [hX12];exact hx2_12
          have hXs12 : j2 * 3 + 3 ≤ X12.size := by rw [hX12];simp only [List.size_toArray,List.length_append,List.length_cons,List.length_nil,hA2];omega
          repeat ((first | refine qA rfl ?_|apply qB|refine qC rfl ?_|apply qD|apply qE|apply qF|apply qG|apply qH);try simp (disch:=(first|omega|(simp only [qI,qJ,qK]<;>omega)|exact qL _)) only [go_sem,↓reduceIte,n0,reduceCtorEq,n1,n2,n3,n4,n5,i0,i1,i2,i3,i4,i5,i6,i7,hxb12,hrc1_2,hrc1_7,hrc1_8,hrc1_9,hrc1_10,hrc1_14,hrc1_13,hrc1_15,hrc1_17,hrc1_21,hra1,hri1,exitRQ_ret,exitRQ_exit,Int.toNat_natCast,Nat.mul_one])
          refine (DefaultEX0_fn w12 hx2_12 hA2).mono ?_
          rintro _ w13 ⟨hx2_13,hu13⟩
          have hq13 := And.intro (hq12.1.upd hu13 (by omega) (fun b _ hk e => by have := (hok b hk).1;omega)) (hq12.2.upd hu13 (by omega))
          have hV13 : Upd (fun b => b = R2 ∨ b = rb) w12 w13 := hu13.mono (fun _ h => .inl h)
          have hU13 : Upd (fun b => b = vb ∨ b = rb) w1 w13 := hU12.trans' hV13 fun i hi h => h.elim (fun h => by omega) .inr
          have hz13 := hV13.size
          have hG13 : Glo ev w13 := hG1.updS hU13 hgM1 hgM2
          obtain ⟨X13,hX13⟩ : ∃ X : Array Value,X = (A2 ++ (([.int .i32 0,.int .i16 0,.map none] : List Value) ++ B2)).toArray := ⟨_,rfl⟩
          have hxb13 : blk w13 R2 = some (X13,118,(0,0)) := by rw [hX13];exact hx2_13
          have hXs13 : j2 * 3 + 3 ≤ X13.size := by rw [hX13];simp only [List.size_toArray,List.length_append,List.length_cons,List.length_nil,hA2];omega
          have hbe0e1_0 : (rdL (rdP d ver false) (dfP d) ver false [fX0_0,fX0_1] s6).2 = none → FB := fun h => hlb1 (hL1.bad hlt1 rd1P_none (by show (rd1 (rdP (d + 1) ver false) 10 fs_X0 false false s6).2 = none;rw [rd1_part];exact rdP_bad h))
          have hhe0e1_0 : hasS fX0_0 ver = true := hasS_t (by show (0 : Int) ≤ ver;omega) (by show (-1 : Int) < 0 ∨ ver ≤ (-1 : Int);omega)
          obtain ⟨xe0e1_0,hxe0e1_0⟩ : ∃ x,x = (rdF (rdP d ver false) ver false fX0_0 s6).1 := ⟨_,rfl⟩
          repeat ((first | refine qA rfl ?_|apply qB|refine qC rfl ?_|apply qD|apply qE|apply qF|apply qG|apply qH);try simp (disch:=(first|omega|(simp only [qI,qJ,qK]<;>omega)|exact qL _)) only [go_sem,↓reduceIte,n0,reduceCtorEq,n1,n2,n3,n4,n5,i0,i1,i2,i3,i4,i5,i6,i7,hxb13,hrc1_2,hrc1_7,hrc1_8,hrc1_9,hrc1_10,hrc1_14,hrc1_13,hrc1_15,hrc1_17,hrc1_21,hra1,hri1,exitRQ_ret,exitRQ_exit,Int.toNat_natCast,Nat.mul_one])
          have hrd : rdF (rdP d ver false) ver false fX0_0 s6 = _ := rdF_num 3 rfl (by decide)
          refine (Int32_fn w13 hq13.1 hrok hG13.1 hgrb).mono ?_
          rintro _ w14 ⟨rfl,hq14,hu14⟩
          have hx2_14 := hu14.blk_some hx2_13 (by omega)
          have hV14 : Upd (fun b => b = R2 ∨ b = rb) w13 w14 := hu14.mono (fun _ h => .inr h)
          have hU14 : Upd (fun b => b = vb ∨ b = rb) w1 w14 := hU13.trans' hV14 fun i hi h => h.elim (fun h => by omega) .inr
          have hz14 := hV14.size
          have hG14 : Glo ev w14 := hG1.updS hU14 hgM1 hgM2
          obtain ⟨X14,hX14⟩ : ∃ X : Array Value,X = (A2 ++ (([.int .i32 0,.int .i16 0,.map none] : List Value) ++ B2)).toArray := ⟨_,rfl⟩
          have hxb14 : blk w14 R2 = some (X14,118,(0,0)) := by rw [hX14];exact hx2_14
          have hXs14 : j2 * 3 + 3 ≤ X14.size := by rw [hX14];simp only [List.size_toArray,List.length_append,List.length_cons,List.length_nil,hA2];omega
          have hst : (rdF (rdP d ver false) ver false fX0_0 s6).2 = (rdInt .i32 4 s6).2 := by first | (rw [hrd];rfl) | rw [hrd]
          obtain ⟨s7,hs7⟩ : ∃ s,s = (rdF (rdP d ver false) ver false fX0_0 s6).2 := ⟨_,rfl⟩
          rw [← hst,← hs7] at hq14
          clear hst
          have hst14_0 : j2 * 3 + 1 ≤ X14.size := by omega
          repeat ((first | refine qA rfl ?_|apply qB|refine qC rfl ?_|apply qD|apply qE|apply qF|apply qG|apply qH);try simp (disch:=(first|omega|(simp only [qI,qJ,qK]<;>omega)|exact qL _)) only [go_sem,↓reduceIte,n0,reduceCtorEq,n1,n2,n3,n4,n5,i0,i1,i2,i3,i4,i5,i6,i7,hxb14,hrc1_2,hrc1_7,hrc1_8,hrc1_9,hrc1_10,hrc1_14,hrc1_13,hrc1_15,hrc1_17,hrc1_21,hra1,hri1,exitRQ_ret,exitRQ_exit,Int.toNat_natCast,Nat.mul_one,hst14_0])
          generalize hw15 : wr w14 R2 (j2 * 3) [.int .i32 (rdInt .i32 4 s6).1] = w15
          have hS15 : Upd (fun b => b = R2 ∨ b = rb) w14 w15 := by rw [← hw15];exact (Upd.refl _ _).wr _ _ (.inr (.inl rfl))
          have hx2_15 : blk w15 R2 = some ((A2 ++ (([.int .i32 (rdInt .i32 4 s6).1,.int .i16 0,.map none] : List Value) ++ B2)).toArray,118,(0,0)) := by rw [← hw15];exact el_blk0 hx2_14 hA2 (Nat.le_of_ble_eq_true rfl)
          have hV15 := hS15
          have hU15 : Upd (fun b => b = vb ∨ b = rb) w1 w15 := hU14.trans' hV15 fun i hi h => h.elim (fun h => by omega) .inr
          have hz15 := hV15.size
          have hG15 : Glo ev w15 := hG1.updS hU15 hgM1 hgM2
          have hq15 : Rdr RT ok w15 rb s7 ∧ NN w15 rb s7 := by
            have hn : ∀ x,x = w15 → (Rdr RT ok x rb s7 ∧ NN x rb s7) := fun x hx => by
              rw [hx,← hw15]
              exact Rdr.store hq14 (by omega) (fun h => by have := (hok _ h).1;first | omega | exact (hok _ h).2 rfl)
            exact hn _ rfl
          obtain ⟨X15,hX15⟩ : ∃ X : Array Value,X = (A2 ++ (([.int .i32 (rdInt .i32 4 s6).1,.int .i16 0,.map none] : List Value) ++ B2)).toArray := ⟨_,rfl⟩
          have hxb15 : blk w15 R2 = some (X15,118,(0,0)) := by rw [hX15];exact hx2_15
          have hXs15 : j2 * 3 + 3 ≤ X15.size := by rw [hX15];simp only [List.size_toArray,List.length_append,List.length_cons,List.length_nil,hA2];omega
          clear hw15
          have hfe0e1_0 : RepF (RepS true d) (szS true d) fX0_0 (fun b => (fun b => (ok b ∨ w1.heap.size ≤ b) ∧ ¬ ownB va0 b) b ∧ ¬ ownB va1 b) w15 (xe0e1_0) [.int .i32 (rdInt .i32 4 s6).1] := (RepF_num (by decide)).2 (by rw [hxe0e1_0,hrd];exact congrArg (fun x => [x]) (numC_rd 3 (by decide) 4 s6).symm)
          clear hrd
          have hbe0e1_1 : (rdL (rdP d ver false) (dfP d) ver false [fX0_1] s7).2 = none → FB := fun h => hbe0e1_0 (by rw [rdL_st (by decide) hhe0e1_0,← hs7];exact h)
          have hhe0e1_1 : hasS fX0_1 ver = true := hasS_t (by show (0 : Int) ≤ ver;omega) (by show (-1 : Int) < 0 ∨ ver ≤ (-1 : Int);omega)
          obtain ⟨xe0e1_1,hxe0e1_1⟩ : ∃ x,x = (rdF (rdP d ver false) ver false fX0_1 s7).1 := ⟨_,rfl⟩
          repeat ((first | refine qA rfl ?_|apply qB|refine qC rfl ?_|apply qD|apply qE|apply qF|apply qG|apply qH);try simp (disch:=(first|omega|(simp only [qI,qJ,qK]<;>omega)|exact qL _)) only [go_sem,↓reduceIte,n0,reduceCtorEq,n1,n2,n3,n4,n5,i0,i1,i2,i3,i4,i5,i6,i7,hxb15,hrc1_2,hrc1_7,hrc1_8,hrc1_9,hrc1_10,hrc1_14,hrc1_13,hrc1_15,hrc1_17,hrc1_21,hra1,hri1,exitRQ_ret,exitRQ_exit,Int.toNat_natCast,Nat.mul_one])
          have hrd : rdF (rdP d ver false) ver false fX0_1 s7 = _ := rdF_num 2 rfl (by decide)
          refine (Int16_fn w15 hq15.1 hrok hG15.1 hgrb).mono ?_
          rintro _ w16 ⟨rfl,hq16,hu16⟩
          have hx2_16 := hu16.blk_some hx2_15 (by omega)
          have hV16 : Upd (fun b => b = R2 ∨ b = rb) w15 w16 := hu16.mono (fun _ h => .inr h)
          have hU16 : Upd (fun b => b = vb ∨ b = rb) w1 w16 := hU15.trans' hV16 fun i hi h => h.elim (fun h => by omega) .inr
          have hz16 := hV16.size
          have hG16 : Glo ev w16 := hG1.updS hU16 hgM1 hgM2
          obtain ⟨X16,hX16⟩ : ∃ X : Array Value,X = (A2 ++ (([.int .i32 (rdInt .i32 4 s6).1,.int .i16 0,.map none] : List Value) ++ B2)).toArray := ⟨_,rfl⟩
          have hxb16 : blk w16 R2 = some (X16,118,(0,0)) := by rw [hX16];exact hx2_16
          have hXs16 : j2 * 3 + 3 ≤ X16.size := by rw [hX16];simp only [List.size_toArray,List.length_append,List.length_cons,List.length_nil,hA2];omega
          have hst : (rdF (rdP d ver false) ver false fX0_1 s7).2 = (rdInt .i16 2 s7).2 := by first | (rw [hrd];rfl) | rw [hrd]
          obtain ⟨s8,hs8⟩ : ∃ s,s = (rdF (rdP d ver false) ver false fX0_1 s7).2 := ⟨_,rfl⟩
          rw [← hst,← hs8] at hq16
          clear hst
          have hst16_1 : j2 * 3 + 2 ≤ X16.size := by omega
          repeat ((first | refine qA rfl ?_|apply qB|refine qC rfl ?_|apply qD|apply qE|apply qF|apply qG|apply qH);try simp (disch:=(first|omega|(simp only [qI,qJ,qK]<;>omega)|exact qL _)) only [go_sem,↓reduceIte,n0,reduceCtorEq,n1,n2,n3,n4,n5,i0,i1,i2,i3,i4,i5,i6,i7,hxb16,hrc1_2,hrc1_7,hrc1_8,hrc1_9,hrc1_10,hrc1_14,hrc1_13,hrc1_15,hrc1_17,hrc1_21,hra1,hri1,exitRQ_ret,exitRQ_exit,Int.toNat_natCast,Nat.mul_one,hst16_1])
          generalize hw17 : wr w16 R2 (j2 * 3 + 1) [.int .i16 (rdInt .i16 2 s7).1] = w17
          have hS17 : Upd (fun b => b = R2 ∨ b = rb) w16 w17 := by rw [← hw17];exact (Upd.refl _ _).wr _ _ (.inr (.inl rfl))
          have hx2_17 : blk w17 R2 = some ((A2 ++ (([.int .i32 (rdInt .i32 4 s6).1,.int .i16 (rdInt .i16 2 s7).1,.map none] : List Value) ++ B2)).toArray,118,(0,0)) := by rw [← hw17];exact el_blk (o := 1) hx2_16 hA2 (Nat.le_of_ble_eq_true rfl)
          have hV17 := hS17
          have hU17 : Upd (fun b => b = vb ∨ b = rb) w1 w17 := hU16.trans' hV17 fun i hi h => h.elim (fun h => by omega) .inr
          have hz17 := hV17.size
          have hG17 : Glo ev w17 := hG1.updS hU17 hgM1 hgM2
          have hq17 : Rdr RT ok w17 rb s8 ∧ NN w17 rb s8 := by
            have hn : ∀ x,x = w17 → (Rdr RT ok x rb s8 ∧ NN x rb s8) := fun x hx => by
              rw [hx,← hw17]
              exact Rdr.store hq16 (by omega) (fun h => by have := (hok _ h).1;first | omega | exact (hok _ h).2 rfl)
            exact hn _ rfl
          obtain ⟨X17,hX17⟩ : ∃ X : Array Value,X = (A2 ++ (([.int .i32 (rdInt .i32 4 s6).1,.int .i16 (rdInt .i16 2 s7).1,.map none] : List Value) ++ B2)).toArray := ⟨_,rfl⟩
          have hxb17 : blk w17 R2 = some (X17,118,(0,0)) := by rw [hX17];exact hx2_17
          have hXs17 : j2 * 3 + 3 ≤ X17.size := by rw [hX17];simp only [List.size_toArray,List.length_append,List.length_cons,List.length_nil,hA2];omega
          clear hw17
          have hfe0e1_1 : RepF (RepS true d) (szS true d) fX0_1 (fun b => (fun b => (ok b ∨ w1.heap.size ≤ b) ∧ ¬ ownB va0 b) b ∧ ¬ ownB va1 b) w17 (xe0e1_1) [.int .i16 (rdInt .i16 2 s7).1] := (RepF_num (by decide)).2 (by rw [hxe0e1_1,hrd];exact congrArg (fun x => [x]) (numC_rd 2 (by decide) 2 s7).symm)
          clear hrd
          have hle0e1_2 : rdL (rdP d ver false) (dfP d) ver false [] s8 = ([],s8) := rfl
          have hle0e1_1 : rdL (rdP d ver false) (dfP d) ver false [fX0_1] s7 = ([xe0e1_1],s8) := by rw [rdL_st (by decide) hhe0e1_1,← hxe0e1_1,← hs8,hle0e1_2]
          have hle0e1_0 : rdL (rdP d ver false) (dfP d) ver false [fX0_0,fX0_1] s6 = ([xe0e1_0,xe0e1_1],s8) := by rw [rdL_st (by decide) hhe0e1_0,← hxe0e1_0,← hs7,hle0e1_1]
          have hfine0e1 : rdP (d + 1) ver false fs_X0 s6 = (.mk 0 [] false [xe0e1_0,xe0e1_1] [],s8) := rdP_f hle0e1_0
          have hTge0e1 : TagsM (fun b => (fun b => (ok b ∨ w1.heap.size ≤ b) ∧ ¬ ownB va0 b) b ∧ ¬ ownB va1 b) w17 (.map none) [] := .inl ⟨rfl,rfl⟩
          have hCe0e1_17 : Upd (fun b => b = R2 ∨ b = rb) w17 w17 := Upd.refl _ _
          have hCe0e1_16 : Upd (fun b => b = R2 ∨ b = rb) w16 w17 := hV17.trans hCe0e1_17
          have hCe0e1_15 : Upd (fun b => b = R2 ∨ b = rb) w15 w17 := hV16.trans hCe0e1_16
          have hCe0e1_14 : Upd (fun b => b = R2 ∨ b = rb) w14 w17 := hV15.trans hCe0e1_15
          have hCe0e1_13 : Upd (fun b => b = R2 ∨ b = rb) w13 w17 := hV14.trans hCe0e1_14
          have hCe0e1_12 : Upd (fun b => b = R2 ∨ b = rb) w12 w17 := hV13.trans hCe0e1_13
          have hRe0e1 : RepS true (d + 1) fs_X0 (fun b => (fun b => (ok b ∨ w1.heap.size ≤ b) ∧ ¬ ownB va0 b) b ∧ ¬ ownB va1 b) w17 (.mk 0 [] false [xe0e1_0,xe0e1_1] []) [.int .i32 (rdInt .i32 4 s6).1,.int .i16 (rdInt .i16 2 s7).1,.map none] := RepS.introT (c := [.int .i32 (rdInt .i32 4 s6).1,.int .i16 (rdInt .i16 2 s7).1]) (RepL.cons1 (hfe0e1_0.keepS (hCe0e1_15.keeps fun b _ hk e => hoM2 b hk e)) (RepL.cons1 (hfe0e1_1.keepS (hCe0e1_17.keeps fun b _ hk e => hoM2 b hk e)) RepL.nil)) hTge0e1
          have hrE : (rd1 (rdP (d + 1) ver false) fX1_1.of fX1_1.sub false false) s6 = ((.mk 0 [] false [xe0e1_0,xe0e1_1] []),s8) := by rw [show (rd1 (rdP (d + 1) ver false) fX1_1.of fX1_1.sub false false) s6 = _ from rd1_part];exact hfine0e1
          have hxE : (Rep1 (RepS true (d + 1)) fX1_1.of fX1_1.sub) (fun b => (fun b => (ok b ∨ w1.heap.size ≤ b) ∧ ¬ ownB va0 b) b ∧ ¬ ownB va1 b) w17 (.mk 0 [] false [xe0e1_0,xe0e1_1] []) [.int .i32 (rdInt .i32 4 s6).1,.int .i16 (rdInt .i16 2 s7).1,.map none] := Rep1_part.2 hRe0e1
          repeat ((first | refine qA rfl ?_|apply qB|refine qC rfl ?_|apply qD|apply qE|apply qF|apply qG|apply qH);try simp (disch:=(first|omega|(simp only [qI,qJ,qK]<;>omega)|exact qL _)) only [go_sem,↓reduceIte,n0,reduceCtorEq,n1,n2,n3,n4,n5,i0,i1,i2,i3,i4,i5,i6,i7,hxb17,hrc1_2,hrc1_7,hrc1_8,hrc1_9,hrc1_10,hrc1_14,hrc1_13,hrc1_15,hrc1_17,hrc1_21,hra1,hri1,exitRQ_ret,exitRQ_exit,Int.toNat_natCast,Nat.mul_one])
          have hTk : Upd (fun b => b = R2 ∨ b = rb) w12 w17 := ((((hV13.trans hV14).trans hV15).trans hV16).trans hV17)
          have hL' := hL1.step (Rep1_lay _ _ fun _ => RepS_lay true _ _) hlt1 (hnext2 w17 [.int .i32 (rdInt .i32 4 s6).1,.int .i16 (rdInt .i16 2 s7).1,.map none] rfl hx2_17) (by rw [hrE];exact hxE) (hTk.mono fun b h => h.imp (fun e => ⟨_,_,_,hva2,e⟩) id) (by rw [hrE];exact hq17) (fun h => hoM1 rb h (.inr rfl)) (Nat.le_refl _)
          have hij : IntKind.i32.wrap ((j2 : Int) + 1) = ((j2 + 1 : Nat) : Int) := by rw [i32_wrap (by omega)];omega
          repeat ((first | refine qA rfl ?_|apply qB|refine qC rfl ?_|apply qD|apply qE|apply qF|apply qG|apply qH);try simp (disch:=(first|omega|(simp only [qI,qJ,qK]<;>omega)|exact qL _)) only [go_sem,↓reduceIte,n0,reduceCtorEq,n1,n2,n3,n4,n5,i0,i1,i2,i3,i4,i5,i6,i7,hxb17,hrc1_2,hrc1_7,hrc1_8,hrc1_9,hrc1_10,hrc1_14,hrc1_13,hrc1_15,hrc1_17,hrc1_21,hra1,hri1,exitRQ_ret,exitRQ_exit,Int.toNat_natCast,Nat.mul_one,hij])
          refine ⟨⟨(by simp (disch:=(first|omega|(simp only [qI,qJ,qK]<;>omega)|exact qL _)) only [go_sem,↓reduceIte,n0,reduceCtorEq,n1,n2,n3,n4,n5,i0,i1,i2,i3,i4,i5,i6,i7,Holds_nil,Holds_cons,hrc1_2,hrc1_7,hrc1_8,hrc1_9,hrc1_10,hrc1_14,hrc1_13,hrc1_15,hrc1_17,hrc1_21,hra1,hri1];exact hva2.symm),j2 + 1,(by simp (disch:=(first|omega|(simp only [qI,qJ,qK]<;>omega)|exact qL _)) only [go_sem,↓reduceIte,n0,reduceCtorEq,n1,n2,n3,n4,n5,i0,i1,i2,i3,i4,i5,i6,i7,hrc1_2,hrc1_7,hrc1_8,hrc1_9,hrc1_10,hrc1_14,hrc1_13,hrc1_15,hrc1_17,hrc1_21,hra1,hri1,hij];all_goals rfl),_,_,_,hL'⟩,?_⟩
          try simp (disch:=(first|omega|(simp only [qI,qJ,qK]<;>omega)|exact qL _)) only [go_sem,↓reduceIte,n0,reduceCtorEq,n1,n2,n3,n4,n5,i0,i1,i2,i3,i4,i5,i6,i7,hrc1_2,hrc1_7,hrc1_8,hrc1_9,hrc1_10,hrc1_14,hrc1_13,hrc1_15,hrc1_17,hrc1_21,hra1,hri1]
          simp only [RowKit.intOf]
          omega
        · have hjN : j2 = N1 := by omega
          rw [hjN] at hL1
          repeat ((first | refine qA rfl ?_|apply qB|refine qC rfl ?_|apply qD|apply qE|apply qF|apply qG|apply qH);try simp (disch:=(first|omega|(simp only [qI,qJ,qK]<;>omega)|exact qL _)) only [go_sem,↓reduceIte,n0,reduceCtorEq,n1,n2,n3,n4,n5,i0,i1,i2,i3,i4,i5,i6,i7,hrc1_2,hrc1_7,hrc1_8,hrc1_9,hrc1_10,hrc1_14,hrc1_13,hrc1_15,hrc1_17,hrc1_21,hrc1_20,hri1,exitRQ_ret,exitRQ_exit])
          exact ⟨(by simp (disch:=(first|omega|(simp only [qI,qJ,qK]<;>omega)|exact qL _)) only [go_sem,↓reduceIte,n0,reduceCtorEq,n1,n2,n3,n4,n5,i0,i1,i2,i3,i4,i5,i6,i7,Holds_nil,Holds_cons,hrc1_2,hrc1_7,hrc1_8,hrc1_9,hrc1_10,hrc1_14,hrc1_13,hrc1_15,hrc1_17,hrc1_21,hrc1_20,hri1]),s6,xs1,css1,hL1⟩
      rintro ρ w18 ⟨⟨hrd1_2,hrd1_7,hrd1_8,hrd1_9,hrd1_10,hrd1_14,hrd1_13,hrd1_15,hrd1_17,hrd1_21,hrd1_20,-⟩,s9,xs1,css1,hL1⟩
      have hq18 := hL1.rd
      have hu18 := hL1.upd
      have hx1_18 := hu18.blk_some hx1_10 (by omega)
      have hV18 : Upd (fun b => b = R1 ∨ b = rb) w10 w18 := hu18.mono (fun _ h => .inr h)
      have hU18 : Upd (fun b => b = vb ∨ b = rb) w1 w18 := hU10.trans' hV18 fun i hi h => h.elim (fun h => by omega) .inr
      have hz18 := hV18.size
      have hG18 : Glo ev w18 := hG1.updS hU18 hgM1 hgM2
      obtain ⟨X18,hX18⟩ : ∃ X : Array Value,X = (A1 ++ (([strV (rdStr false s3).1,.slice none 0 0,.map none] : List Value) ++ B1)).toArray := ⟨_,rfl⟩
      have hxb18 : blk w18 R1 = some (X18,85,(0,0)) := by rw [hX18];exact hx1_18
      have hXs18 : j1 * 3 + 3 ≤ X18.size := by rw [hX18];simp only [List.size_toArray,List.length_append,List.length_cons,List.length_nil,hA1];omega
      have hrd1 : rdF (rdP (d + 1) ver false) ver false fX1_1 s4 = (.mk 0 [] (nilS fX1_1 ver y1) xs1 [],s9) := by
        have h := rdF_listE (pt := (rdP (d + 1) ver false)) (v := ver) (flex := false) (f := fX1_1) (s := s4) (xs := xs1) (e := s9) rfl (by rw [hy1,← hN1,← hs5];exact hL1.done)
        rw [hy1] at h;exact h
      have hs9 : s9 = (rdF (rdP (d + 1) ver false) ver false fX1_1 s4).2 := by rw [hrd1]
      obtain ⟨aa1,qq1,hvs1⟩ := hL1.row.shape
      subst hvs1
      have hst18_1 : j1 * 3 + 2 ≤ X18.size := by omega
      repeat ((first | refine qA rfl ?_|apply qB|refine qC rfl ?_|apply qD|apply qE|apply qF|apply qG|apply qH);try simp (disch:=(first|omega|(simp only [qI,qJ,qK]<;>omega)|exact qL _)) only [go_sem,↓reduceIte,n0,reduceCtorEq,n1,n2,n3,n4,n5,i0,i1,i2,i3,i4,i5,i6,i7,hxb18,hrd1_2,hrd1_7,hrd1_8,hrd1_9,hrd1_10,hrd1_14,hrd1_13,hrd1_15,hrd1_17,hrd1_21,hrd1_20,exitRQ_ret,exitRQ_exit,Int.toNat_natCast,Nat.mul_one,hst18_1])
      generalize hw19 : wr w18 R1 (j1 * 3 + 1) [.slice aa1 N1 qq1] = w19
      have hS19 : Upd (fun b => b = R1 ∨ b = rb) w18 w19 := by rw [← hw19];exact (Upd.refl _ _).wr _ _ (.inr (.inl rfl))
      have hx1_19 : blk w19 R1 = some ((A1 ++ (([strV (rdStr false s3).1,.slice aa1 N1 qq1,.map none] : List Value) ++ B1)).toArray,85,(0,0)) := by rw [← hw19];exact el_blk (o := 1) hx1_18 hA1 (Nat.le_of_ble_eq_true rfl)
      have hV19 := hS19
      have hU19 : Upd (fun b => b = vb ∨ b = rb) w1 w19 := hU18.trans' hV19 fun i hi h => h.elim (fun h => by omega) .inr
      have hz19 := hV19.size
      have hG19 : Glo ev w19 := hG1.updS hU19 hgM1 hgM2
      have hq19 : Rdr RT ok w19 rb s9 ∧ NN w19 rb s9 := by
        have hn : ∀ x,x = w19 → (Rdr RT ok x rb s9 ∧ NN x rb s9) := fun x hx => by
          rw [hx,← hw19]
          exact Rdr.store hq18 (by omega) (fun h => by have := (hok _ h).1;first | omega | exact (hok _ h).2 rfl)
        exact hn _ rfl
      obtain ⟨X19,hX19⟩ : ∃ X : Array Value,X = (A1 ++ (([strV (rdStr false s3).1,.slice aa1 N1 qq1,.map none] : List Value) ++ B1)).toArray := ⟨_,rfl⟩
      have hxb19 : blk w19 R1 = some (X19,85,(0,0)) := by rw [hX19];exact hx1_19
      have hXs19 : j1 * 3 + 3 ≤ X19.size := by rw [hX19];simp only [List.size_toArray,List.length_append,List.length_cons,List.length_nil,hA1];omega
      clear hw19
      have hfe0_1 : RepF (RepS true (d + 1)) (szS true (d + 1)) fX1_1 (fun b => (ok b ∨ w1.heap.size ≤ b) ∧ ¬ ownB va0 b) w19 (xe0_1) [.slice aa1 N1 qq1] := by rw [hxe0_1,hrd1];exact RepF.keepS (RepF_row rfl hnc1 hN1 rfl hL1.row hL1.all (fun b hb => ⟨.inr (by omega),fun ho => by have := (hown1 _ ho).2;omega⟩)) (hV19.keeps fun b _ hk e => hoM1 b hk e)
      clear hL1 hnc1
      have hle0_2 : rdL (rdP (d + 1) ver false) (dfP (d + 1)) ver false [] s9 = ([],s9) := rfl
      have hle0_1 : rdL (rdP (d + 1) ver false) (dfP (d + 1)) ver false [fX1_1] s4 = ([xe0_1],s9) := by rw [rdL_st (by decide) hhe0_1,← hxe0_1,← hs9,hle0_2]
      have hle0_0 : rdL (rdP (d + 1) ver false) (dfP (d + 1)) ver false [fX1_0,fX1_1] s3 = ([xe0_0,xe0_1],s9) := by rw [rdL_st (by decide) hhe0_0,← hxe0_0,← hs4,hle0_1]
      have hfine0 : rdP (d + 2) ver false fs_X1 s3 = (.mk 0 [] false [xe0_0,xe0_1] [],s9) := rdP_f hle0_0
      have hTge0 : TagsM (fun b => (ok b ∨ w1.heap.size ≤ b) ∧ ¬ ownB va0 b) w19 (.map none) [] := .inl ⟨rfl,rfl⟩
      have hCe0_19 : Upd (fun b => b = R1 ∨ b = rb) w19 w19 := Upd.refl _ _
      have hCe0_18 : Upd (fun b => b = R1 ∨ b = rb) w18 w19 := hV19.trans hCe0_19
      have hCe0_10 : Upd (fun b => b = R1 ∨ b = rb) w10 w19 := hV18.trans hCe0_18
      have hCe0_9 : Upd (fun b => b = R1 ∨ b = rb) w9 w19 := hV10.trans hCe0_10
      have hCe0_8 : Upd (fun b => b = R1 ∨ b = rb) w8 w19 := hV9.trans hCe0_9
      have hCe0_7 : Upd (fun b => b = R1 ∨ b = rb) w7 w19 := hV8.trans hCe0_8
      have hCe0_6 : Upd (fun b => b = R1 ∨ b = rb) w6 w19 := hV7.trans hCe0_7
      have hRe0 : RepS true (d + 2) fs_X1 (fun b => (ok b ∨ w1.heap.size ≤ b) ∧ ¬ ownB va0 b) w19 (.mk 0 [] false [xe0_0,xe0_1] []) [strV (rdStr false s3).1,.slice aa1 N1 qq1,.map none] := RepS.introT (c := [strV (rdStr false s3).1,.slice aa1 N1 qq1]) (RepL.cons1 (hfe0_0.keepS (hCe0_9.keeps fun b _ hk e => hoM1 b hk e)) (RepL.cons1 (hfe0_1.keepS (hCe0_19.keeps fun b _ hk e => hoM1 b hk e)) RepL.nil)) hTge0
      have hrE : (rd1 (rdP (d + 2) ver false) fQ_1.of fQ_1.sub false false) s3 = ((.mk 0 [] false [xe0_0,xe0_1] []),s9) := by rw [show (rd1 (rdP (d + 2) ver false) fQ_1.of fQ_1.sub false false) s3 = _ from rd1_part];exact hfine0
      have hxE : (Rep1 (RepS true (d + 2)) fQ_1.of fQ_1.sub) (fun b => (ok b ∨ w1.heap.size ≤ b) ∧ ¬ ownB va0 b) w19 (.mk 0 [] false [xe0_0,xe0_1] []) [strV (rdStr false s3).1,.slice aa1 N1 qq1,.map none] := Rep1_part.2 hRe0
      repeat ((first | refine qA rfl ?_|apply qB|refine qC rfl ?_|apply qD|apply qE|apply qF|apply qG|apply qH);try simp (disch:=(first|omega|(simp only [qI,qJ,qK]<;>omega)|exact qL _)) only [go_sem,↓reduceIte,n0,reduceCtorEq,n1,n2,n3,n4,n5,i0,i1,i2,i3,i4,i5,i6,i7,hxb19,hrd1_2,hrd1_7,hrd1_8,hrd1_9,hrd1_10,hrd1_14,hrd1_13,hrd1_15,hrd1_17,hrd1_21,hrd1_20,exitRQ_ret,exitRQ_exit,Int.toNat_natCast,Nat.mul_one])
      have hTk : Upd (fun b => b = R1 ∨ b = rb) w6 w19 := (((((hV7.trans hV8).trans hV9).trans hV10).trans hV18).trans hV19)
      have hL' := hL0.step (Rep1_lay _ _ fun _ => RepS_lay true _ _) hlt0 (hnext1 w19 [strV (rdStr false s3).1,.slice aa1 N1 qq1,.map none] rfl hx1_19) (by rw [hrE];exact hxE) (hTk.mono fun b h => h.imp (fun e => ⟨_,_,_,hva1,e⟩) id) (by rw [hrE];exact hq19) (fun h => hoM rb h (.inr rfl)) (Nat.le_refl _)
      have hij : IntKind.i32.wrap ((j1 : Int) + 1) = ((j1 + 1 : Nat) : Int) := by rw [i32_wrap (by omega)];omega
      repeat ((first | refine qA rfl ?_|apply qB|refine qC rfl ?_|apply qD|apply qE|apply qF|apply qG|apply qH);try simp (disch:=(first|omega|(simp only [qI,qJ,qK]<;>omega)|exact qL _)) only [go_sem,↓reduceIte,n0,reduceCtorEq,n1,n2,n3,n4,n5,i0,i1,i2,i3,i4,i5,i6,i7,hxb19,hrd1_2,hrd1_7,hrd1_8,hrd1_9,hrd1_10,hrd1_14,hrd1_13,hrd1_15,hrd1_17,hrd1_21,hrd1_20,exitRQ_ret,exitRQ_exit,Int.toNat_natCast,Nat.mul_one,hij])
      refine ⟨⟨(by simp (disch:=(first|omega|(simp only [qI,qJ,qK]<;>omega)|exact qL _)) only [go_sem,↓reduceIte,n0,reduceCtorEq,n1,n2,n3,n4,n5,i0,i1,i2,i3,i4,i5,i6,i7,Holds_nil,Holds_cons,hrd1_2,hrd1_7,hrd1_8,hrd1_9,hrd1_10,hrd1_14,hrd1_13,hrd1_15,hrd1_17,hrd1_21,hrd1_20];exact hva1.symm),j1 + 1,(by simp (disch:=(first|omega|(simp only [qI,qJ,qK]<;>omega)|exact qL _)) only [go_sem,↓reduceIte,n0,reduceCtorEq,n1,n2,n3,n4,n5,i0,i1,i2,i3,i4,i5,i6,i7,hrd1_2,hrd1_7,hrd1_8,hrd1_9,hrd1_10,hrd1_14,hrd1_13,hrd1_15,hrd1_17,hrd1_21,hrd1_20,hij];all_goals rfl),_,_,_,hL'⟩,?_⟩
      try simp (disch:=(first|omega|(simp only [qI,qJ,qK]<;>omega)|exact qL _)) only [go_sem,↓reduceIte,n0,reduceCtorEq,n1,n2,n3,n4,n5,i0,i1,i2,i3,i4,i5,i6,i7,hrd1_2,hrd1_7,hrd1_8,hrd1_9,hrd1_10,hrd1_14,hrd1_13,hrd1_15,hrd1_17,hrd1_21,hrd1_20]
      simp only [RowKit.intOf]
      omega
    · have hjN : j1 = N0 := by omega
      rw [hjN] at hL0
      repeat ((first | refine qA rfl ?_|apply qB|refine qC rfl ?_|apply qD|apply qE|apply qF|apply qG|apply qH);try simp (disch:=(first|omega|(simp only [qI,qJ,qK]<;>omega)|exact qL _)) only [go_sem,↓reduceIte,n0,reduceCtorEq,n1,n2,n3,n4,n5,i0,i1,i2,i3,i4,i5,i6,i7,hrc0_2,hrc0_7,hrc0_8,hrc0_9,hrc0_10,hrc0_14,hrc0_13,hri0,exitRQ_ret,exitRQ_exit])
      exact ⟨(by simp (disch:=(first|omega|(simp only [qI,qJ,qK]<;>omega)|exact qL _)) only [go_sem,↓reduceIte,n0,reduceCtorEq,n1,n2,n3,n4,n5,i0,i1,i2,i3,i4,i5,i6,i7,Holds_nil,Holds_cons,hrc0_2,hrc0_7,hrc0_8,hrc0_9,hrc0_10,hrc0_14,hrc0_13,hri0]),s3,xs0,css0,hL0⟩
  rintro ρ w20 ⟨⟨hrd0_2,hrd0_7,hrd0_8,hrd0_9,hrd0_10,hrd0_14,hrd0_13,-⟩,s10,xs0,css0,hL0⟩
  have hq20 := hL0.rd
  have hu20 := hL0.upd
  have hv_20 := hu20.blk_some hv_4 (by omega)
  have hV20 : Upd (fun b => b = vb ∨ b = rb) w4 w20 := hu20.mono (fun _ h => .inr h)
  have hU20 : Upd (fun b => b = vb ∨ b = rb) w1 w20 := hU4.trans hV20
  have hz20 := hV20.size
  have hG20 : Glo ev w20 := hG1.updS hU20 hgM1 hgM2
  have hrd0 : rdF (rdP (d + 2) ver false) ver false fQ_1 s1 = (.mk 0 [] (nilS fQ_1 ver y0) xs0 [],s10) := by
    have h := rdF_listE (pt := (rdP (d + 2) ver false)) (v := ver) (flex := false) (f := fQ_1) (s := s1) (xs := xs0) (e := s10) rfl (by rw [hy0,← hN0,← hs2];exact hL0.done)
    rw [hy0] at h;exact h
  have hs10 : s10 = (rdF (rdP (d + 2) ver false) ver false fQ_1 s1).2 := by rw [hrd0]
  obtain ⟨aa0,qq0,hvs0⟩ := hL0.row.shape
  subst hvs0
  repeat ((first | refine qA rfl ?_|apply qB|refine qC rfl ?_|apply qD|apply qE|apply qF|apply qG|apply qH);try simp (disch:=(first|omega|(simp only [qI,qJ,qK]<;>omega)|exact qL _)) only [go_sem,↓reduceIte,n0,reduceCtorEq,n1,n2,n3,n4,n5,i0,i1,i2,i3,i4,i5,i6,i7,hv_20,hrd0_2,hrd0_7,hrd0_8,hrd0_9,hrd0_10,hrd0_14,hrd0_13])
  generalize hw21 : wr w20 vb 2 [.slice aa0 N0 qq0] = w21
  have hS21 : Upd (fun b => b = vb ∨ b = rb) w20 w21 := by rw [← hw21];exact (Upd.refl _ _).wr _ _ (.inr (.inl rfl))
  have hv_21 : blk w21 vb = some (#[.int .i16 ver,.int .i32 (rdInt .i32 4 s0).1,.slice aa0 N0 qq0,.map none],79,(0,0)) := by rw [← hw21,blk_wr_eq,hv_20];rfl
  have hV21 := hS21
  have hU21 : Upd (fun b => b = vb ∨ b = rb) w1 w21 := hU20.trans hV21
  have hz21 := hV21.size
  have hG21 : Glo ev w21 := hG1.updS hU21 hgM1 hgM2
  have hq21 : Rdr RT ok w21 rb s10 ∧ NN w21 rb s10 := by
    have hn : ∀ x,x = w21 → (Rdr RT ok x rb s10 ∧ NN x rb s10) := fun x hx => by
      rw [hx,← hw21]
      exact Rdr.store hq20 (by omega) (fun h => by have := (hok _ h).1;first | omega | exact (hok _ h).2 rfl)
    exact hn _ rfl
  clear hw21
  have hf_1 : RepF (RepS true (d + 2)) (szS true (d + 2)) fQ_1 (fun b => ok b ∨ w1.heap.size ≤ b) w21 (x_1) [.slice aa0 N0 qq0] := by rw [hx_1,hrd0];exact RepF.keepS (RepF_row rfl hnc0 hN0 rfl hL0.row hL0.all (fun b hb => .inr (by omega))) (hV21.keeps fun b _ hk e => (hoM b hk) e)
  clear hL0 hnc0
  have hl_2 : rdL (rdP (d + 2) ver false) (dfP (d + 2)) ver false [] s10 = ([],s10) := rfl
  have hl_1 : rdL (rdP (d + 2) ver false) (dfP (d + 2)) ver false [fQ_1] s1 = ([x_1],s10) := by rw [rdL_st (by decide) hh_1,← hx_1,← hs10,hl_2]
  have hl_0 : rdL (rdP (d + 2) ver false) (dfP (d + 2)) ver false [fQ_0,fQ_1] s0 = ([x_0,x_1],s10) := by rw [rdL_st (by decide) hh_0,← hx_0,← hs1,hl_1]
  have hfin : rdP (d + 3) ver false fs_Q s0 = (.mk 0 [] false [x_0,x_1] [],s10) := rdP_f hl_0
  have hTg : TagsM (fun b => ok b ∨ w1.heap.size ≤ b) w21 (.map none) [] := .inl ⟨rfl,rfl⟩
  have hC_21 : Upd (fun b => b = vb ∨ b = rb) w21 w21 := Upd.refl _ _
  have hC_20 : Upd (fun b => b = vb ∨ b = rb) w20 w21 := hV21.trans hC_21
  have hC_4 : Upd (fun b => b = vb ∨ b = rb) w4 w21 := hV20.trans hC_20
  have hC_3 : Upd (fun b => b = vb ∨ b = rb) w3 w21 := hV4.trans hC_4
  have hC_2 : Upd (fun b => b = vb ∨ b = rb) w2 w21 := hV3.trans hC_3
  have hC_1 : Upd (fun b => b = vb ∨ b = rb) w1 w21 := hV2.trans hC_2
  have hR : RepS true (d + 3) fs_Q (fun b => ok b ∨ w1.heap.size ≤ b) w21 (.mk 0 [] false [x_0,x_1] []) [.int .i32 (rdInt .i32 4 s0).1,.slice aa0 N0 qq0,.map none] := RepS.introT (c := [.int .i32 (rdInt .i32 4 s0).1,.slice aa0 N0 qq0]) (RepL.cons1 (hf_0.keepS (hC_3.keeps fun b _ hk e => (hoM b hk) e)) (RepL.cons1 (hf_1.keepS (hC_21.keeps fun b _ hk e => (hoM b hk) e)) RepL.nil)) hTg
  repeat ((first | refine qA rfl ?_|apply qB|refine qC rfl ?_|apply qD|apply qE|apply qF|apply qG|apply qH);try simp (disch:=(first|omega|(simp only [qI,qJ,qK]<;>omega)|exact qL _)) only [go_sem,↓reduceIte,n0,reduceCtorEq,n1,n2,n3,n4,n5,i0,i1,i2,i3,i4,i5,i6,i7,hv_21,hrd0_2,hrd0_7,hrd0_8,hrd0_9,hrd0_10,hrd0_14,hrd0_13])
  refine (RComplete_fn w21 hq21.1 hG21.2).mono ?_
  rintro _ wz ⟨rfl,hez⟩
  rw [hez]
  repeat ((first | refine qA rfl ?_|apply qB|refine qC rfl ?_|apply qD|apply qE|apply qF|apply qG|apply qH);try simp (disch:=(first|omega|(simp only [qI,qJ,qK]<;>omega)|exact qL _)) only [go_sem,↓reduceIte,n0,reduceCtorEq,n1,n2,n3,n4,n5,i0,i1,i2,i3,i4,i5,i6,i7,hv_21,hrd0_2,hrd0_7,hrd0_8,hrd0_9,hrd0_10,hrd0_14,hrd0_13])
  rw [hfin]
  refine ⟨fun h => ?_,fun h => ⟨?_,[.int .i32 (rdInt .i32 4 s0).1,.slice aa0 N0 qq0,.map none],hv_21,?_⟩,?_⟩
  · have h' : s10 = none := h
    rw [h'];rfl
  · cases hsn : s10 with
    | none => exact absurd hsn h
    | some x => rfl
  · exact (RepS_lay true (d + 3) fs_Q).weaken hR fun b _ hk => hk.imp id fun h => by omega
  · exact hbase.trans' hU21 fun i hi h => h.elim id fun h => by omega
end Ms

