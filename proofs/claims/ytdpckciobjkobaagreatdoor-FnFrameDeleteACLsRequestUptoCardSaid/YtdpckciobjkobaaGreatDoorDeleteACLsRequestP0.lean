/- A part of the proof: see the last text. -/
import Derived.Test.YtdpckciobjkobaaGreatDoorC07
import Derived.Test.YtdpckciobjkobaaGreatDoorC09
import Derived.Test.YtdpckciobjkobaaGreatDoorC10
import Derived.Test.YtdpckciobjkobaaGreatDoorC11
set_option linter.unusedSimpArgs false
set_option linter.unusedVariables false
namespace Ms
open Nat renaming reduceEqDiff → n0,reduceAdd → n1,reduceMul → n2,reduceSub → n3,reduceLT → n4,reduceLeDiff → n5
open Int renaming reduceEq → i0,reduceLT → i1,reduceLE → i2,reduceNeg → i3,reduceAdd → i4,reduceSub → i5,reduceMul → i6,reduceToNat → i7
set_option maxRecDepth 4000
open Go Go.Proofs
theorem ca_102 : callable Tryz.prog 102 = true := nr (by kernel_rfl)
theorem ca_12 : callable Tryz.prog 12 = true := nr (by kernel_rfl)
theorem ca_129 : callable Tryz.prog 129 = true := nr (by kernel_rfl)
theorem ca_13 : callable Tryz.prog 13 = true := nr (by kernel_rfl)
theorem ca_130 : callable Tryz.prog 130 = true := nr (by kernel_rfl)
theorem ca_131 : callable Tryz.prog 131 = true := nr (by kernel_rfl)
theorem ca_132 : callable Tryz.prog 132 = true := nr (by kernel_rfl)
theorem ca_133 : callable Tryz.prog 133 = true := nr (by kernel_rfl)
theorem ca_134 : callable Tryz.prog 134 = true := nr (by kernel_rfl)
theorem ca_135 : callable Tryz.prog 135 = true := nr (by kernel_rfl)
theorem ca_136 : callable Tryz.prog 136 = true := nr (by kernel_rfl)
theorem ca_137 : callable Tryz.prog 137 = true := nr (by kernel_rfl)
theorem ca_138 : callable Tryz.prog 138 = true := nr (by kernel_rfl)
theorem ca_139 : callable Tryz.prog 139 = true := nr (by kernel_rfl)
theorem ca_14 : callable Tryz.prog 14 = true := nr (by kernel_rfl)
theorem ca_15 : callable Tryz.prog 15 = true := nr (by kernel_rfl)
theorem ca_16 : callable Tryz.prog 16 = true := nr (by kernel_rfl)
theorem ca_17 : callable Tryz.prog 17 = true := nr (by kernel_rfl)
theorem ca_18 : callable Tryz.prog 18 = true := nr (by kernel_rfl)
theorem ca_191 : callable Tryz.prog 191 = true := nr (by kernel_rfl)
theorem ca_192 : callable Tryz.prog 192 = true := nr (by kernel_rfl)
theorem ca_193 : callable Tryz.prog 193 = true := nr (by kernel_rfl)
theorem ca_194 : callable Tryz.prog 194 = true := nr (by kernel_rfl)
theorem ca_196 : callable Tryz.prog 196 = true := nr (by kernel_rfl)
theorem ca_197 : callable Tryz.prog 197 = true := nr (by kernel_rfl)
theorem ca_20 : callable Tryz.prog 20 = true := nr (by kernel_rfl)
theorem ca_21 : callable Tryz.prog 21 = true := nr (by kernel_rfl)
theorem ca_47 : callable Tryz.prog 47 = true := nr (by kernel_rfl)
theorem ca_48 : callable Tryz.prog 48 = true := nr (by kernel_rfl)
theorem ca_49 : callable Tryz.prog 49 = true := nr (by kernel_rfl)
theorem ca_51 : callable Tryz.prog 51 = true := nr (by kernel_rfl)
theorem ca_52 : callable Tryz.prog 52 = true := nr (by kernel_rfl)
theorem ca_53 : callable Tryz.prog 53 = true := nr (by kernel_rfl)
theorem ca_93 : callable Tryz.prog 93 = true := nr (by kernel_rfl)
theorem es_79 : elemSize Tryz.prog 79 = some 8 := nr (by kernel_rfl)
theorem fo_143_0 : fieldOff Tryz.prog 143 0 = some 0 := nr (by kernel_rfl)
theorem fo_143_1 : fieldOff Tryz.prog 143 1 = some 1 := nr (by kernel_rfl)
theorem fo_143_2 : fieldOff Tryz.prog 143 2 = some 2 := nr (by kernel_rfl)
theorem fo_143_3 : fieldOff Tryz.prog 143 3 = some 3 := nr (by kernel_rfl)
theorem fo_143_4 : fieldOff Tryz.prog 143 4 = some 4 := nr (by kernel_rfl)
theorem fo_143_5 : fieldOff Tryz.prog 143 5 = some 5 := nr (by kernel_rfl)
theorem fo_143_6 : fieldOff Tryz.prog 143 6 = some 6 := nr (by kernel_rfl)
theorem fo_143_7 : fieldOff Tryz.prog 143 7 = some 7 := nr (by kernel_rfl)
theorem fo_84_0 : fieldOff Tryz.prog 84 0 = some 0 := nr (by kernel_rfl)
theorem fo_84_1 : fieldOff Tryz.prog 84 1 = some 1 := nr (by kernel_rfl)
theorem fo_84_2 : fieldOff Tryz.prog 84 2 = some 2 := nr (by kernel_rfl)
theorem if_55 : isIfaceT Tryz.prog 55 = true := nr (by kernel_rfl)
theorem kn_46 : knownT Tryz.prog 46 = true := nr (by kernel_rfl)
theorem kn_9 : knownT Tryz.prog 9 = true := nr (by kernel_rfl)
theorem ld_137 (w : World) (b o : Nat) : loadOf Tryz.prog 137 w ⟨b,o,none⟩ = (blk w b).bind fun x => x.1[o]? := loadOf_one (by kernel_rfl) w b o
theorem ld_139 (w : World) (b o : Nat) : loadOf Tryz.prog 139 w ⟨b,o,none⟩ = (blk w b).bind fun x => x.1[o]? := loadOf_one (by kernel_rfl) w b o
theorem ld_140 (w : World) (b o : Nat) : loadOf Tryz.prog 140 w ⟨b,o,none⟩ = (blk w b).bind fun x => x.1[o]? := loadOf_one (by kernel_rfl) w b o
theorem ld_141 (w : World) (b o : Nat) : loadOf Tryz.prog 141 w ⟨b,o,none⟩ = (blk w b).bind fun x => x.1[o]? := loadOf_one (by kernel_rfl) w b o
theorem ld_23 (w : World) (b o : Nat) : loadOf Tryz.prog 23 w ⟨b,o,none⟩ = (blk w b).bind fun x => cellsAt x.1 o 2 := loadOf_agg (by kernel_rfl) w b o
theorem ld_34 (w : World) (b o : Nat) : loadOf Tryz.prog 34 w ⟨b,o,none⟩ = (blk w b).bind fun x => cellsAt x.1 o 2 := loadOf_agg (by kernel_rfl) w b o
theorem ld_45 (w : World) (b o : Nat) : loadOf Tryz.prog 45 w ⟨b,o,none⟩ = (blk w b).bind fun x => x.1[o]? := loadOf_one (by kernel_rfl) w b o
theorem ld_79 (w : World) (b o : Nat) : loadOf Tryz.prog 79 w ⟨b,o,none⟩ = (blk w b).bind fun x => x.1[o]? := loadOf_one (by kernel_rfl) w b o
theorem nif_46 : isIfaceT Tryz.prog 46 = false := nr (by kernel_rfl)
theorem pl_131 : placesOf Tryz.prog 131 = some [(0,1),(1,1)] := nr (by kernel_rfl)
theorem pl_34 : placesOf Tryz.prog 34 = some [(0,1),(1,1)] := nr (by kernel_rfl)
theorem pl_51 : placesOf Tryz.prog 51 = some [(0,1),(1,1),(2,1),(3,1),(4,1),(5,1),(6,1),(7,1)] := nr (by kernel_rfl)
theorem se_32 : slElem Tryz.prog 32 = some (51,8) := nr (by kernel_rfl)
theorem sl_79 : isSliceT Tryz.prog 79 = true := nr (by kernel_rfl)
theorem sz_131 (w : World) (b o : Nat) (v : Value) : storeOf Tryz.prog 131 w ⟨b,o,none⟩ v = (blk w b).bind fun x => stO w b o v x 2 := storeOf_n (by kernel_rfl) w b o v
theorem sz_137 (w : World) (b o : Nat) (v : Value) : storeOf Tryz.prog 137 w ⟨b,o,none⟩ v = (blk w b).bind fun x => stO w b o v x 1 := storeOf_n (by kernel_rfl) w b o v
theorem sz_139 (w : World) (b o : Nat) (v : Value) : storeOf Tryz.prog 139 w ⟨b,o,none⟩ v = (blk w b).bind fun x => stO w b o v x 1 := storeOf_n (by kernel_rfl) w b o v
theorem sz_140 (w : World) (b o : Nat) (v : Value) : storeOf Tryz.prog 140 w ⟨b,o,none⟩ v = (blk w b).bind fun x => stO w b o v x 1 := storeOf_n (by kernel_rfl) w b o v
theorem sz_141 (w : World) (b o : Nat) (v : Value) : storeOf Tryz.prog 141 w ⟨b,o,none⟩ v = (blk w b).bind fun x => stO w b o v x 1 := storeOf_n (by kernel_rfl) w b o v
theorem sz_34 (w : World) (b o : Nat) (v : Value) : storeOf Tryz.prog 34 w ⟨b,o,none⟩ v = (blk w b).bind fun x => stO w b o v x 2 := storeOf_n (by kernel_rfl) w b o v
theorem sz_45 (w : World) (b o : Nat) (v : Value) : storeOf Tryz.prog 45 w ⟨b,o,none⟩ v = (blk w b).bind fun x => stO w b o v x 1 := storeOf_n (by kernel_rfl) w b o v
theorem sz_79 (w : World) (b o : Nat) (v : Value) : storeOf Tryz.prog 79 w ⟨b,o,none⟩ v = (blk w b).bind fun x => stO w b o v x 1 := storeOf_n (by kernel_rfl) w b o v
theorem z_131 : zeroOf Tryz.prog 131 = some #[.slice none 0 0,.bool false] := nr (by kernel_rfl)
theorem z_34 : zeroOf Tryz.prog 34 = some #[.slice none 0 0,.int .i64 0] := nr (by kernel_rfl)
theorem z_84 : zeroOf Tryz.prog 84 = some #[.int .i16 0,.slice none 0 0,.map none] := nr (by kernel_rfl)
attribute [go_sem] ca_102 ca_12 ca_129 ca_13 ca_130 ca_131 ca_132 ca_133 ca_134 ca_135 ca_136 ca_137 ca_138 ca_139 ca_14 ca_15 ca_16 ca_17 ca_18 ca_191 ca_192 ca_193 ca_194 ca_196 ca_197 ca_20 ca_21 ca_47 ca_48 ca_49 ca_51 ca_52 ca_53 ca_93 es_79 fo_143_0 fo_143_1 fo_143_2 fo_143_3 fo_143_4 fo_143_5 fo_143_6 fo_143_7 fo_84_0 fo_84_1 fo_84_2 if_55 kn_46 kn_9 ld_137 ld_139 ld_140 ld_141 ld_23 ld_34 ld_45 ld_79 nif_46 pl_131 pl_34 pl_51 se_32 sl_79 sz_131 sz_137 sz_139 sz_140 sz_141 sz_34 sz_45 sz_79 z_131 z_34 z_84
end Ms

namespace Ms
open Go.World renaming size_alloc → qI
open Ms renaming size_wr → qJ,size_drew → qK,not_noB → qL
open W renaming seqR → qA,seq → qB,regR → qC,condK → qD,block → qE,skip → qF,ret → qG,exit → qH
open Nat renaming reduceEqDiff → n0,reduceAdd → n1,reduceMul → n2,reduceSub → n3,reduceLT → n4,reduceLeDiff → n5
open Int renaming reduceEq → i0,reduceLT → i1,reduceLE → i2,reduceNeg → i3,reduceAdd → i4,reduceSub → i5,reduceMul → i6,reduceToNat → i7
set_option maxRecDepth 8000
open Go Go.Proofs Go.Shelf
attribute [local congr] W_congr WPsq_congr WPp_congr optK_congr addrK_congr intK_congr boolK_congr sliceK_congr tupleK_congr funcK_congr Fn_congr rawK_congr takeK_congr stepK_congr convK_congr aggK_congr

def fX0_0 : Fld := .mk 1 0 (-1) (-1) (-1) 0 0 []
def fX0_1 : Fld := .mk 8 0 (-1) 0 (-1) 0 0 []
def fX0_2 : Fld := .mk 1 1 (-1) (-1) (-1) 3 0 []
def fX0_3 : Fld := .mk 8 0 (-1) 0 (-1) 0 0 []
def fX0_4 : Fld := .mk 8 0 (-1) 0 (-1) 0 0 []
def fX0_5 : Fld := .mk 1 0 (-1) (-1) (-1) 0 0 []
def fX0_6 : Fld := .mk 1 0 (-1) (-1) (-1) 0 0 []
def fs_X0 : List Fld := [fX0_0,fX0_1,fX0_2,fX0_3,fX0_4,fX0_5,fX0_6]
def fDeleteACLsRequest_0 : Fld := .mk 11 0 (-1) (-1) (-1) 0 10 fs_X0
def fs_DeleteACLsRequest : List Fld := [fDeleteACLsRequest_0]

set_option maxHeartbeats 4000000 in
theorem cX0_fn (w : World) : Fn Tryz.prog 49 #[] w fun r w' => FldsV (fun b => w.heap.size ≤ b) w' r fs_X0 ∧ Ext w w' := by
  refine fn_of_W Tryz.func49 rfl Tryz.results49 Tryz.ntmps49 rfl ?_
  repeat ((first | refine qA rfl ?_|refine qB ?_|refine qC rfl ?_|refine qD ?_|refine qE ?_|refine qF ?_|refine qG ?_|refine qH ?_);try simp (maxSteps:=1000000)(disch:=(first|omega|(simp only [qI,qJ,qK]<;>omega)|exact qL _)) only [go_sem,↓reduceIte,n0,reduceCtorEq,n1,n2,n3,n4,n5,i0,i1,i2,i3,i4,i5,i6,i7,fill_fld,fillN_nil,fillN_int,fillN_slice])
  repeat ((first | refine qA rfl ?_|refine qB ?_|refine qC rfl ?_|refine qD ?_|refine qE ?_|refine qF ?_|refine qG ?_|refine qH ?_);try simp (maxSteps:=1000000)(disch:=(first|omega|(simp only [qI,qJ,qK]<;>omega)|exact qL _)) only [go_sem,↓reduceIte,n0,reduceCtorEq,n1,n2,n3,n4,n5,i0,i1,i2,i3,i4,i5,i6,i7,fill_fld,fillN_nil,fillN_int,fillN_slice])
  exact ⟨FldsV.litO (fs := fs_X0) (css := [[.int .i64 1,.int .i64 0,.int .i64 (-1),.int .i64 (-1),.int .i64 (-1),.int .i64 0,.int .i64 0,.slice none 0 0],[.int .i64 8,.int .i64 0,.int .i64 (-1),.int .i64 0,.int .i64 (-1),.int .i64 0,.int .i64 0,.slice none 0 0],[.int .i64 1,.int .i64 1,.int .i64 (-1),.int .i64 (-1),.int .i64 (-1),.int .i64 3,.int .i64 0,.slice none 0 0],[.int .i64 8,.int .i64 0,.int .i64 (-1),.int .i64 0,.int .i64 (-1),.int .i64 0,.int .i64 0,.slice none 0 0],[.int .i64 8,.int .i64 0,.int .i64 (-1),.int .i64 0,.int .i64 (-1),.int .i64 0,.int .i64 0,.slice none 0 0],[.int .i64 1,.int .i64 0,.int .i64 (-1),.int .i64 (-1),.int .i64 (-1),.int .i64 0,.int .i64 0,.slice none 0 0],[.int .i64 1,.int .i64 0,.int .i64 (-1),.int .i64 (-1),.int .i64 (-1),.int .i64 0,.int .i64 0,.slice none 0 0]]) (T := 51) (fr := (0,0)) (by first | omega | (simp only [World.size_alloc];omega)) (by first | (simp (maxSteps:=1000000)(disch:=(first|omega|(simp only [qI,qJ,qK]<;>omega)|exact qL _)) only [go_sem,↓reduceIte,n0,reduceCtorEq,n1,n2,n3,n4,n5,i0,i1,i2,i3,i4,i5,i6,i7];rfl) | rfl) (by simp) (All2.cons (FldC.intro (kind := 1) (FldsV.none _ _)) (All2.cons (FldC.intro (kind := 8) (FldsV.none _ _)) (All2.cons (FldC.intro (kind := 1) (FldsV.none _ _)) (All2.cons (FldC.intro (kind := 8) (FldsV.none _ _)) (All2.cons (FldC.intro (kind := 8) (FldsV.none _ _)) (All2.cons (FldC.intro (kind := 1) (FldsV.none _ _)) (All2.cons (FldC.intro (kind := 1) (FldsV.none _ _)) All2.nil))))))),(Upd.alloc (Upd.refl _ w) _)⟩

set_option maxHeartbeats 4000000 in
theorem cDeleteACLsRequest_fn (w : World) : Fn Tryz.prog 15 #[] w fun r w' => (∃ vs,r = .agg #[vs,.int .i64 2] ∧ FldsV (fun b => w.heap.size ≤ b) w' vs fs_DeleteACLsRequest) ∧ Ext w w' := by
  refine fn_of_W Tryz.func15 rfl Tryz.results15 Tryz.ntmps15 rfl ?_
  repeat ((first | refine qA rfl ?_|refine qB ?_|refine qC rfl ?_|refine qD ?_|refine qE ?_|refine qF ?_|refine qG ?_|refine qH ?_);try simp (maxSteps:=1000000)(disch:=(first|omega|(simp only [qI,qJ,qK]<;>omega)|exact qL _)) only [go_sem,↓reduceIte,n0,reduceCtorEq,n1,n2,n3,n4,n5,i0,i1,i2,i3,i4,i5,i6,i7,fill_fld,fillN_nil,fillN_int,fillN_slice])
  have hz0 : (w.alloc (.cells #[.slice none 0 0,.int .i64 0] 34)).heap.size = w.heap.size + 1 := World.size_alloc _ _
  refine (cX0_fn _).mono ?_
  rintro r1 w1 ⟨hF1,hE1⟩
  obtain ⟨b1,k1,rfl,_⟩ := SlR.shape hF1
  have hz1 := hE1.size
  have hD1 : Ext w w1 := Upd.trans (Upd.alloc (Upd.refl _ _) _) hE1
  have hb1 : blk w1 w.heap.size = some (#[.slice none 0 0,.int .i64 0],34,(0,0)) := hE1.blk_some (blk_alloc_new rfl) id
  simp (maxSteps:=1000000)(disch:=(first|omega|(simp only [qI,qJ,qK]<;>omega)|exact qL _)) only [go_sem,↓reduceIte,n0,reduceCtorEq,n1,n2,n3,n4,n5,i0,i1,i2,i3,i4,i5,i6,i7,fill_fld,fillN_nil,fillN_int,fillN_slice,hb1]
  have hvl := blk_lt hb1
  repeat ((first | refine qA rfl ?_|refine qB ?_|refine qC rfl ?_|refine qD ?_|refine qE ?_|refine qF ?_|refine qG ?_|refine qH ?_);try simp (maxSteps:=1000000)(disch:=(first|omega|(simp only [qI,qJ,qK]<;>omega)|exact qL _)) only [go_sem,↓reduceIte,n0,reduceCtorEq,n1,n2,n3,n4,n5,i0,i1,i2,i3,i4,i5,i6,i7,fill_fld,fillN_nil,fillN_int,fillN_slice,hb1])
  exact ⟨⟨_,rfl,FldsV.litO (fs := fs_DeleteACLsRequest) (css := [[.int .i64 11,.int .i64 0,.int .i64 (-1),.int .i64 (-1),.int .i64 (-1),.int .i64 0,.int .i64 10,.slice b1 fs_X0.length k1]]) (T := 51) (fr := (0,0)) (by first | omega | (simp only [World.size_alloc];omega)) (by first | (simp (maxSteps:=1000000)(disch:=(first|omega|(simp only [qI,qJ,qK]<;>omega)|exact qL _)) only [go_sem,↓reduceIte,n0,reduceCtorEq,n1,n2,n3,n4,n5,i0,i1,i2,i3,i4,i5,i6,i7];rfl) | rfl) (by simp) (All2.cons (FldC.intro (kind := 11) (hF1.stay (B := w.heap.size) (Upd.wr (Upd.alloc (Upd.refl _ _) _) _ _ (.inr rfl)) (by omega) (fun b hb => by omega))) All2.nil)⟩,(Upd.wr (Upd.alloc hD1 _) _ _ (.inl (Nat.le_refl _)))⟩

theorem DefaultDeleteACLsRequest_fn (w : World) {vb : Nat} {c0 c1 c2 : Value} (hb : blk w vb = some (#[c0,c1,c2],84,(0,0))) :
    Fn Tryz.prog 93 #[.pointer (some ⟨vb,0,none⟩)] w fun _ w' => blk w' vb = some (#[c0,c1,c2],84,(0,0)) ∧ Upd (fun b => b = vb) w w' := by
  have hvl := blk_lt hb
  refine fn_of_W Tryz.func93 rfl Tryz.results93 Tryz.ntmps93 rfl ?_
  repeat ((first | refine qA rfl ?_|refine qB ?_|refine qC rfl ?_|refine qD ?_|refine qE ?_|refine qF ?_|refine qG ?_|refine qH ?_);try simp (maxSteps:=1000000)(disch:=(first|omega|(simp only [qI,qJ,qK]<;>omega)|exact qL _)) only [go_sem,↓reduceIte,n0,reduceCtorEq,n1,n2,n3,n4,n5,i0,i1,i2,i3,i4,i5,i6,i7,hb])
  first | exact Upd.refl _ _ | exact ⟨hb,Upd.refl _ _⟩

theorem NewPtrDeleteACLsRequest_fn (w : World) : Fn Tryz.prog 47 #[] w fun r w' => r = .pointer (some ⟨w.heap.size,0,none⟩) ∧ blk w' w.heap.size = some (#[.int .i16 0,.slice none 0 0,.map none],84,(0,0)) ∧ Ext w w' := by
  refine fn_of_W Tryz.func47 rfl Tryz.results47 Tryz.ntmps47 rfl ?_
  repeat ((first | refine qA rfl ?_|refine qB ?_|refine qC rfl ?_|refine qD ?_|refine qE ?_|refine qF ?_|refine qG ?_|refine qH ?_);try simp (maxSteps:=1000000)(disch:=(first|omega|(simp only [qI,qJ,qK]<;>omega)|exact qL _)) only [go_sem,↓reduceIte,n0,reduceCtorEq,n1,n2,n3,n4,n5,i0,i1,i2,i3,i4,i5,i6,i7])
  refine (DefaultDeleteACLsRequest_fn _ (blk_alloc_new rfl)).mono ?_
  rintro _ w1 ⟨hb1,hU1⟩
  have hz := World.size_alloc w (.cells #[.int .i16 0,.slice none 0 0,.map none] 84)
  repeat ((first | refine qA rfl ?_|refine qB ?_|refine qC rfl ?_|refine qD ?_|refine qE ?_|refine qF ?_|refine qG ?_|refine qH ?_);try simp (maxSteps:=1000000)(disch:=(first|omega|(simp only [qI,qJ,qK]<;>omega)|exact qL _)) only [go_sem,↓reduceIte,n0,reduceCtorEq,n1,n2,n3,n4,n5,i0,i1,i2,i3,i4,i5,i6,i7])
  exact ⟨hb1,(Upd.alloc (Upd.refl _ _) _ : Ext w _).more hU1 fun b hb h => by omega⟩

theorem SetVersionDeleteACLsRequest_fn (w : World) {vb : Nat} {c0 c1 c2 : Value} (n : Int) (hb : blk w vb = some (#[c0,c1,c2],84,(0,0))) :
    Fn Tryz.prog 51 #[.pointer (some ⟨vb,0,none⟩),.int .i16 n] w fun _ w' => blk w' vb = some (#[.int .i16 n,c1,c2],84,(0,0)) ∧ Upd (fun b => b = vb) w w' := by
  have hvl := blk_lt hb
  refine fn_of_W Tryz.func51 rfl Tryz.results51 Tryz.ntmps51 rfl ?_
  repeat ((first | refine qA rfl ?_|refine qB ?_|refine qC rfl ?_|refine qD ?_|refine qE ?_|refine qF ?_|refine qG ?_|refine qH ?_);try simp (maxSteps:=1000000)(disch:=(first|omega|(simp only [qI,qJ,qK]<;>omega)|exact qL _)) only [go_sem,↓reduceIte,n0,reduceCtorEq,n1,n2,n3,n4,n5,i0,i1,i2,i3,i4,i5,i6,i7,hb])
  first | exact Upd.wr (Upd.refl _ _) _ _ (.inr rfl) | exact ⟨by simp (maxSteps:=1000000)(disch:=(first|omega|(simp only [qI,qJ,qK]<;>omega)|exact qL _)) only [go_sem,↓reduceIte,n0,reduceCtorEq,n1,n2,n3,n4,n5,i0,i1,i2,i3,i4,i5,i6,i7,hb],Upd.wr (Upd.refl _ _) _ _ (.inr rfl)⟩

theorem MaxDeleteACLsRequest_fn (w : World) : Fn Tryz.prog 14 #[] w fun r w' => r = .int .i64 3 ∧ Ext w w' := by
  refine fn_of_W Tryz.func14 rfl Tryz.results14 Tryz.ntmps14 rfl ?_
  repeat ((first | refine qA rfl ?_|refine qB ?_|refine qC rfl ?_|refine qD ?_|refine qE ?_|refine qF ?_|refine qG ?_|refine qH ?_);try simp (maxSteps:=1000000)(disch:=(first|omega|(simp only [qI,qJ,qK]<;>omega)|exact qL _)) only [go_sem,↓reduceIte,n0,reduceCtorEq,n1,n2,n3,n4,n5,i0,i1,i2,i3,i4,i5,i6,i7])
  refine (NewPtrDeleteACLsRequest_fn w).mono ?_
  rintro _ w1 ⟨rfl,hb1,hE1⟩
  repeat ((first | refine qA rfl ?_|refine qB ?_|refine qC rfl ?_|refine qD ?_|refine qE ?_|refine qF ?_|refine qG ?_|refine qH ?_);try simp (maxSteps:=1000000)(disch:=(first|omega|(simp only [qI,qJ,qK]<;>omega)|exact qL _)) only [go_sem,↓reduceIte,n0,reduceCtorEq,n1,n2,n3,n4,n5,i0,i1,i2,i3,i4,i5,i6,i7])
  have hm : Fn Tryz.prog 48 #[.pointer (some ⟨w.heap.size,0,none⟩)] w1 fun r w' => r = .int .i16 3 ∧ w' = w1 := by
    refine fn_of_W Tryz.func48 rfl Tryz.results48 Tryz.ntmps48 rfl ?_
    repeat ((first | refine qA rfl ?_|refine qB ?_|refine qC rfl ?_|refine qD ?_|refine qE ?_|refine qF ?_|refine qG ?_|refine qH ?_);try simp (maxSteps:=1000000)(disch:=(first|omega|(simp only [qI,qJ,qK]<;>omega)|exact qL _)) only [go_sem,↓reduceIte,n0,reduceCtorEq,n1,n2,n3,n4,n5,i0,i1,i2,i3,i4,i5,i6,i7])
  refine hm.mono ?_
  rintro _ w2 ⟨rfl,rfl⟩
  have ew : IntKind.i64.wrap (3 : Int) = 3 := i64_wrap (by decide)
  repeat ((first | refine qA rfl ?_|refine qB ?_|refine qC rfl ?_|refine qD ?_|refine qE ?_|refine qF ?_|refine qG ?_|refine qH ?_);try simp (maxSteps:=1000000)(disch:=(first|omega|(simp only [qI,qJ,qK]<;>omega)|exact qL _)) only [go_sem,↓reduceIte,n0,reduceCtorEq,n1,n2,n3,n4,n5,i0,i1,i2,i3,i4,i5,i6,i7,ew])
  exact hE1
end Ms

namespace Ms
open Go.World renaming size_alloc → qI
open Ms renaming size_wr → qJ,size_drew → qK,not_noB → qL
open W renaming seqR → qA,seq → qB,regR → qC,condK → qD,block → qE,skip → qF,ret → qG,exit → qH
open Nat renaming reduceEqDiff → n0,reduceAdd → n1,reduceMul → n2,reduceSub → n3,reduceLT → n4,reduceLeDiff → n5
open Int renaming reduceEq → i0,reduceLT → i1,reduceLE → i2,reduceNeg → i3,reduceAdd → i4,reduceSub → i5,reduceMul → i6,reduceToNat → i7
set_option maxRecDepth 8000
open Go Go.Proofs Go.Shelf
attribute [local congr] W_congr WPsq_congr WPp_congr optK_congr addrK_congr intK_congr boolK_congr sliceK_congr tupleK_congr funcK_congr Fn_congr rawK_congr takeK_congr stepK_congr convK_congr aggK_congr

theorem utDeleteACLsRequest_79 : Tryz.prog.underlying 79 = some (.slice 143) := by kernel_rfl
theorem utDeleteACLsRequest_21 : Tryz.prog.underlying 21 = some (.int .i32) := by kernel_rfl
theorem inDeleteACLsRequest_143 : (Tryz.prog.info? 143).map (fun i => (i.size,i.bytes,i.zero.map (·.cells))) = some (8,56,some #[.int .i8 0,.pointer none,.int .i8 0,.pointer none,.pointer none,.int .i8 0,.int .i8 0,.map none]) := by kernel_rfl

theorem DefaultEX0_fn (w : World) {R k : Nat} {A B : List Value} {c0 c1 c2 c3 c4 c5 c6 c7 : Value} {E : TypeId} (hb : blk w R = some ((A ++ ([c0,c1,c2,c3,c4,c5,c6,c7] ++ B)).toArray,E,(0,0))) (hA : A.length = k) :
    Fn Tryz.prog 133 #[.pointer (some ⟨R,k,none⟩)] w fun _ w' => blk w' R = some ((A ++ ([c0,c1,.int .i8 3,c3,c4,c5,c6,c7] ++ B)).toArray,E,(0,0)) ∧ Upd (fun b => b = R) w w' := by
  have hRl := blk_lt hb
  obtain ⟨X,hX⟩ : ∃ X : Array Value,X = (A ++ (([c0,c1,c2,c3,c4,c5,c6,c7] : List Value) ++ B)).toArray := ⟨_,rfl⟩
  have hXs : k + 8 ≤ X.size := by rw [hX];simp only [List.size_toArray,List.length_append,List.length_cons,List.length_nil,hA];omega
  have hb' : blk w R = some (X,E,(0,0)) := by rw [hX];exact hb
  refine fn_of_W Tryz.func133 rfl Tryz.results133 Tryz.ntmps133 rfl ?_
  have hq0 : k + 2 + 1 ≤ X.size := by omega
  have hp0 : k + 3 ≤ X.size := by omega
  repeat ((first | refine qA rfl ?_|refine qB ?_|refine qC rfl ?_|refine qD ?_|refine qE ?_|refine qF ?_|refine qG ?_|refine qH ?_);try simp (maxSteps:=1000000)(disch:=(first|omega|(simp only [qI,qJ,qK]<;>omega)|exact qL _)) only [go_sem,↓reduceIte,n0,reduceCtorEq,n1,n2,n3,n4,n5,i0,i1,i2,i3,i4,i5,i6,i7,hb',Array.size_setIfInBounds,hq0,hp0])
  have h0 := el_blk (o := 2) (vs := [.int .i8 3]) hb hA (Nat.le_of_ble_eq_true rfl)
  first | exact ⟨h0,(Upd.wr (Upd.refl (fun b => b = R) _) _ _ (.inr rfl))⟩ | (refine ⟨?_,(Upd.wr (Upd.refl (fun b => b = R) _) _ _ (.inr rfl))⟩;simp only [blk_wr_eq,hb',Option.map_some] at h0;exact h0)
end Ms

namespace Ms
open Go.World renaming size_alloc → qI
open Ms renaming size_wr → qJ,size_drew → qK,not_noB → qL
open W renaming seqR → qA,seq → qB,regR → qC,condK → qD,block → qE,skip → qF,ret → qG,exit → qH
open Nat renaming reduceEqDiff → n0,reduceAdd → n1,reduceMul → n2,reduceSub → n3,reduceLT → n4,reduceLeDiff → n5
open Int renaming reduceEq → i0,reduceLT → i1,reduceLE → i2,reduceNeg → i3,reduceAdd → i4,reduceSub → i5,reduceMul → i6,reduceToNat → i7
set_option maxRecDepth 8000
open Go Go.Proofs Go.Shelf
attribute [local congr] W_congr WPsq_congr WPp_congr optK_congr addrK_congr intK_congr boolK_congr sliceK_congr tupleK_congr funcK_congr Fn_congr rawK_congr takeK_congr stepK_congr convK_congr aggK_congr

set_option maxHeartbeats 4000000 in
theorem readDeleteACLsRequest_0 {d : Nat} {ok : Blocks} {ver : Int} {ev : Value} (hlo : 0 ≤ ver) (hhi : ver ≤ 0) (w : World) {vb : Nat} (src : Value) (s : List UInt8) (hv : blk w vb = some (#[.int .i16 ver,.slice none 0 0,.map none],84,(0,0))) (hsrc : BytesV ok w src s) (hok0 : ∀ b,ok b → b < w.heap.size ∧ b ≠ vb) (hG : Glo ev w) (hgv : ¬ 1 = vb ∧ ¬ 0 = vb) :
    Fn Tryz.prog 102 #[.pointer (some ⟨vb,0,none⟩),src,.bool false] w (ReadQ 84 ok ver (d + 2) fs_DeleteACLsRequest vb w (rdP (d + 2) ver false fs_DeleteACLsRequest (some s)) ev) := by
  have hvl := blk_lt hv
  have hgs := hG.lt
  obtain ⟨sa,sc,rfl,_⟩ := hsrc.shape
  refine fn_of_W Tryz.func102 rfl Tryz.results102 Tryz.ntmps102 rfl ?_
  repeat ((first | refine qA rfl ?_|refine qB ?_|refine qC rfl ?_|refine qD ?_|refine qE ?_|refine qF ?_|refine qG ?_|refine qH ?_);try simp (maxSteps:=1000000)(disch:=(first|omega|(simp only [qI,qJ,qK]<;>omega)|exact qL _)) only [go_sem,↓reduceIte,n0,reduceCtorEq,n1,n2,n3,n4,n5,i0,i1,i2,i3,i4,i5,i6,i7,hv])
  refine (DefaultDeleteACLsRequest_fn w hv).mono ?_
  rintro _ w0 ⟨hv0,hu0⟩
  have hz0 := hu0.size
  have hsrc0 : BytesV ok w0 (.slice sa s.length sc) s := hsrc.keep (hu0.keeps fun b _ hk e => (hok0 b hk).2 e)
  obtain ⟨rb,hrb⟩ : ∃ r,r = w0.heap.size := ⟨_,rfl⟩
  have hE1 : Ext w0 (wr (w0.alloc (.cells #[.slice none 0 0,.bool false] 131)) w0.heap.size 0 [.slice sa s.length sc,.bool false]) := (Upd.alloc (Upd.refl _ _) _).wr _ _ (.inl (Nat.le_refl _))
  have hz1 : (wr (w0.alloc (.cells #[.slice none 0 0,.bool false] 131)) w0.heap.size 0 [.slice sa s.length sc,.bool false]).heap.size = w0.heap.size + 1 := by rw [size_wr,World.size_alloc]
  have hR1 : Rdr RT ok (wr (w0.alloc (.cells #[.slice none 0 0,.bool false] 131)) w0.heap.size 0 [.slice sa s.length sc,.bool false]) w0.heap.size (some s) := Rdr.good (v := .slice sa s.length sc) (by simp (maxSteps:=1000000)(disch:=(first|omega|(simp only [qI,qJ,qK]<;>omega)|exact qL _)) only [go_sem,↓reduceIte,n0,reduceCtorEq,n1,n2,n3,n4,n5,i0,i1,i2,i3,i4,i5,i6,i7]) (hsrc0.keep (hE1.keeps _))
  have hv_1 := hE1.blk_some hv0 id
  repeat ((first | refine qA rfl ?_|refine qB ?_|refine qC rfl ?_|refine qD ?_|refine qE ?_|refine qF ?_|refine qG ?_|refine qH ?_);try simp (maxSteps:=1000000)(disch:=(first|omega|(simp only [qI,qJ,qK]<;>omega)|exact qL _)) only [go_sem,↓reduceIte,n0,reduceCtorEq,n1,n2,n3,n4,n5,i0,i1,i2,i3,i4,i5,i6,i7,hv0])
  generalize (wr (w0.alloc (.cells #[.slice none 0 0,.bool false] 131)) w0.heap.size 0 [.slice sa s.length sc,.bool false]) = w1 at *
  rw [← hrb] at hR1
  try rw [← hrb]
  have hok : ∀ b,ok b → b < w.heap.size ∧ b ≠ vb := hok0
  have hrok : ¬ ok rb := fun h => by have := (hok rb h).1;omega
  have hbase : Upd (fun b => b = vb) w w1 := hu0.trans (hE1.mono fun _ h => h.elim)
  have hG1 : Glo ev w1 := hG.updS hbase hgv.1 hgv.2
  have hgrb : ¬ 1 = rb := by omega
  have hgM1 : ¬ (1 = vb ∨ 1 = rb) := fun h => h.elim hgv.1 fun h => by omega
  have hgM2 : ¬ (0 = vb ∨ 0 = rb) := fun h => h.elim hgv.2 fun h => by omega
  obtain ⟨s0,hs0⟩ : ∃ s' : St,s' = some s := ⟨_,rfl⟩
  rw [← hs0] at hR1 ⊢
  have hU1 : Upd (fun b => b = vb ∨ b = rb) w1 w1 := Upd.refl _ _
  have hoM : ∀ b,(ok b ∨ w1.heap.size ≤ b) → ¬ (b = vb ∨ b = rb) := fun b hk h => by
    rcases hk with hk | hk
    · have := hok b hk;rcases h with h | h <;> omega
    · rcases h with h | h <;> omega
  have hq1 : Rdr RT ok w1 rb s0 := hR1
  obtain ⟨FB,hFB⟩ : ∃ P : Prop,P = ((rdP (d + 2) ver false fs_DeleteACLsRequest s0).2 = none) := ⟨_,rfl⟩
  have hb_0 : (rdL (rdP (d + 1) ver false) (dfP (d + 1)) ver false [fDeleteACLsRequest_0] s0).2 = none → FB := fun h => Eq.mpr hFB (rdP_bad h)
  have hh_0 : hasS fDeleteACLsRequest_0 ver = true := hasS_t (by show (0 : Int) ≤ ver;omega) (by show (-1 : Int) < 0 ∨ ver ≤ (-1 : Int);omega)
  obtain ⟨x_0,hx_0⟩ : ∃ x,x = (rdF (rdP (d + 1) ver false) ver false fDeleteACLsRequest_0 s0).1 := ⟨_,rfl⟩
  repeat ((first | refine qA rfl ?_|refine qB ?_|refine qC rfl ?_|refine qD ?_|refine qE ?_|refine qF ?_|refine qG ?_|refine qH ?_);try simp (maxSteps:=1000000)(disch:=(first|omega|(simp only [qI,qJ,qK]<;>omega)|exact qL _)) only [go_sem,↓reduceIte,n0,reduceCtorEq,n1,n2,n3,n4,n5,i0,i1,i2,i3,i4,i5,i6,i7,hv_1])
  refine (RArrayLen_fn w1 hq1 hrok hG1.1 hgrb).mono ?_
  rintro _ w2 ⟨rfl,hq2,hu2⟩
  have hv_2 := hu2.blk_some hv_1 (by omega)
  have hV2 : Upd (fun b => b = vb ∨ b = rb) w1 w2 := hu2.mono (fun _ h => .inr h)
  have hU2 : Upd (fun b => b = vb ∨ b = rb) w1 w2 := hU1.trans hV2
  have hz2 := hV2.size
  have hG2 : Glo ev w2 := hG1.updS hU2 hgM1 hgM2
  obtain ⟨s1,hs1⟩ : ∃ s,s = (rdALen false s0).2 := ⟨_,rfl⟩
  rw [← hs1] at hq2
  have hyr0 := rdALen_rng false s0
  generalize hy0 : (rdALen false s0).1 = y0 at *
  obtain ⟨N0,hN0⟩ : ∃ N,N = y0.toNat := ⟨_,rfl⟩
  have hlb0 : (rdMany (rd1 (rdP (d + 1) ver false) fDeleteACLsRequest_0.of fDeleteACLsRequest_0.sub false false) N0 s1).2 = none → FB := fun h => hb_0 (by rw [rdL_st (by decide) hh_0];exact rdL_bad (rdF_listbad rfl (by rw [hy0,← hN0,← hs1];exact h)))
  repeat ((first | refine W.seqR rfl ?_ | refine W.seq ?_ | refine W.regR rfl ?_ | refine W.block ?_ | refine W.skip ?_ | refine W.ret ?_ | refine W.exit ?_);try simp (maxSteps:=1000000)(disch:=(first|omega|(simp only [qI,qJ,qK]<;>omega)|exact qL _)) only [go_sem,↓reduceIte,n0,reduceCtorEq,n1,n2,n3,n4,n5,i0,i1,i2,i3,i4,i5,i6,i7,hv_2])
  refine (ROk_fn w2 hq2.1).mono ?_
  rintro _ wz ⟨rfl,hez⟩
  rw [hez]
  clear hez wz
  by_cases hsn0 : s1 = none
  · have hso : s1.isSome = false := by rw [hsn0];rfl
    try simp (maxSteps:=1000000)(disch:=(first|omega|(simp only [qI,qJ,qK]<;>omega)|exact qL _)) only [go_sem,↓reduceIte,n0,reduceCtorEq,n1,n2,n3,n4,n5,i0,i1,i2,i3,i4,i5,i6,i7,hv_2,hso]
    repeat ((first | refine qA rfl ?_|refine qB ?_|refine qC rfl ?_|refine qD ?_|refine qE ?_|refine qF ?_|refine qG ?_|refine qH ?_);try simp (maxSteps:=1000000)(disch:=(first|omega|(simp only [qI,qJ,qK]<;>omega)|exact qL _)) only [go_sem,↓reduceIte,n0,reduceCtorEq,n1,n2,n3,n4,n5,i0,i1,i2,i3,i4,i5,i6,i7,hv_2,hso])
    refine (RComplete_fn w2 hq2.1 hG2.2).mono ?_
    rintro _ wz ⟨rfl,hez⟩
    rw [hez]
    try simp (maxSteps:=1000000)(disch:=(first|omega|(simp only [qI,qJ,qK]<;>omega)|exact qL _)) only [go_sem,↓reduceIte,n0,reduceCtorEq,n1,n2,n3,n4,n5,i0,i1,i2,i3,i4,i5,i6,i7,hv_2]
    repeat ((first | refine qA rfl ?_|refine qB ?_|refine qC rfl ?_|refine qD ?_|refine qE ?_|refine qF ?_|refine qG ?_|refine qH ?_);try simp (maxSteps:=1000000)(disch:=(first|omega|(simp only [qI,qJ,qK]<;>omega)|exact qL _)) only [go_sem,↓reduceIte,n0,reduceCtorEq,n1,n2,n3,n4,n5,i0,i1,i2,i3,i4,i5,i6,i7,hv_2])
    rw [errV_none hsn0]
    exact ReadQ.bad (Eq.mp hFB (hlb0 (by rw [hsn0];exact rdMany_none rd1P_none _))) (hbase.trans' hU2 fun i hi h => h.elim id fun h => by omega)
  have hso0 : s1.isSome = true := isSome_some hsn0
  try simp (maxSteps:=1000000)(disch:=(first|omega|(simp only [qI,qJ,qK]<;>omega)|exact qL _)) only [go_sem,↓reduceIte,n0,reduceCtorEq,n1,n2,n3,n4,n5,i0,i1,i2,i3,i4,i5,i6,i7,hv_2,hso0]
  repeat ((first | refine W.seqR rfl ?_ | refine W.seq ?_ | refine W.regR rfl ?_ | refine W.block ?_ | refine W.skip ?_ | refine W.ret ?_ | refine W.exit ?_);try simp (maxSteps:=1000000)(disch:=(first|omega|(simp only [qI,qJ,qK]<;>omega)|exact qL _)) only [go_sem,↓reduceIte,n0,reduceCtorEq,n1,n2,n3,n4,n5,i0,i1,i2,i3,i4,i5,i6,i7,hv_2,hso0])
  refine W.condK ?_
  try simp (maxSteps:=1000000)(disch:=(first|omega|(simp only [qI,qJ,qK]<;>omega)|exact qL _)) only [go_sem,↓reduceIte,n0,reduceCtorEq,n1,n2,n3,n4,n5,i0,i1,i2,i3,i4,i5,i6,i7,hv_2,hso0]
  repeat ((first | refine W.seqR rfl ?_ | refine W.seq ?_ | refine W.regR rfl ?_ | refine W.block ?_ | refine W.skip ?_ | refine W.ret ?_ | refine W.exit ?_);try simp (maxSteps:=1000000)(disch:=(first|omega|(simp only [qI,qJ,qK]<;>omega)|exact qL _)) only [go_sem,↓reduceIte,n0,reduceCtorEq,n1,n2,n3,n4,n5,i0,i1,i2,i3,i4,i5,i6,i7,hv_2,hso0,slBase_00])
  refine W.normJ (RowQ [(2,.bool false),(7,.pointer (some ⟨rb,0,none⟩)),(8,.int .i16 ver),(9,.bool false),(10,.pointer (some ⟨vb,0,none⟩)),(13,.int .i32 y0)] 12 (fun va w' => LstI RT (rd1 (rdP (d + 1) ver false) fDeleteACLsRequest_0.of fDeleteACLsRequest_0.sub false false) (Rep1 (RepS true (d + 1)) fDeleteACLsRequest_0.of fDeleteACLsRequest_0.sub) 8 143 [.int .i8 0,.pointer none,.int .i8 0,.pointer none,.pointer none,.int .i8 0,.int .i8 0,.map none] w2.heap.size N0 ok (fun b => ok b ∨ w1.heap.size ≤ b) rb w2 s1 va 0 s1 [] [] w' ∧ (N0 = 0 → if nilS fDeleteACLsRequest_0 ver y0 = true then va = .slice none 0 0 else ∃ a,va = .slice (some a) 0 0))) ?_ ?_
  · by_cases hy0 : (0 : Int) < y0
    · have hyv : Value.int .i32 y0 = .int .i32 ((N0 : Nat) : Int) := by rw [show y0 = ((N0 : Nat) : Int) by omega]
      repeat ((first | refine qA rfl ?_|refine qB ?_|refine qC rfl ?_|refine qD ?_|refine qE ?_|refine qF ?_|refine qG ?_|refine qH ?_);try simp (maxSteps:=1000000)(disch:=(first|omega|(simp only [qI,qJ,qK]<;>omega)|exact qL _)) only [go_sem,↓reduceIte,n0,reduceCtorEq,n1,n2,n3,n4,n5,i0,i1,i2,i3,i4,i5,i6,i7,hv_2])
      refine wp_appendZ (m := N0) utDeleteACLsRequest_79 utDeleteACLsRequest_21 inDeleteACLsRequest_143 (by decide) (by first | rfl | simp (maxSteps:=1000000)(disch:=(first|omega|(simp only [qI,qJ,qK]<;>omega)|exact qL _)) only [go_sem,↓reduceIte,n0,reduceCtorEq,n1,n2,n3,n4,n5,i0,i1,i2,i3,i4,i5,i6,i7]) (by first | exact hyv | (simp (maxSteps:=1000000)(disch:=(first|omega|(simp only [qI,qJ,qK]<;>omega)|exact qL _)) only [go_sem,↓reduceIte,n0,reduceCtorEq,n1,n2,n3,n4,n5,i0,i1,i2,i3,i4,i5,i6,i7];exact hyv)) (by omega) (by omega) (by decide) ?_
      intro q rest hq1
      have hEw : Ext w2 (w2.drew.alloc (.cells (zs [.int .i8 0,.pointer none,.int .i8 0,.pointer none,.pointer none,.int .i8 0,.int .i8 0,.map none] N0 ++ rest).toArray 143)) := (Upd.refl _ _).drew.alloc _
      try simp (maxSteps:=1000000)(disch:=(first|omega|(simp only [qI,qJ,qK]<;>omega)|exact qL _)) only [go_sem,↓reduceIte,n0,reduceCtorEq,n1,n2,n3,n4,n5,i0,i1,i2,i3,i4,i5,i6,i7,hv_2]
      repeat ((first | refine qA rfl ?_|refine qB ?_|refine qC rfl ?_|refine qD ?_|refine qE ?_|refine qF ?_|refine qG ?_|refine qH ?_);try simp (maxSteps:=1000000)(disch:=(first|omega|(simp only [qI,qJ,qK]<;>omega)|exact qL _)) only [go_sem,↓reduceIte,n0,reduceCtorEq,n1,n2,n3,n4,n5,i0,i1,i2,i3,i4,i5,i6,i7,hv_2])
      exact ⟨(by simp (maxSteps:=1000000)(disch:=(first|omega|(simp only [qI,qJ,qK]<;>omega)|exact qL _)) only [go_sem,↓reduceIte,n0,reduceCtorEq,n1,n2,n3,n4,n5,i0,i1,i2,i3,i4,i5,i6,i7,Holds_nil,Holds_cons]),.slice (some ⟨w2.heap.size,0,none⟩) N0 q,(by simp (maxSteps:=1000000)(disch:=(first|omega|(simp only [qI,qJ,qK]<;>omega)|exact qL _)) only [go_sem,↓reduceIte,n0,reduceCtorEq,n1,n2,n3,n4,n5,i0,i1,i2,i3,i4,i5,i6,i7]),LstI.start (RowJ.start (by omega) hq1 (by show w2.heap.size ≤ w2.drew.heap.size;rw [size_drew];omega) (blk_alloc_new rfl)) ⟨hq2.1.upd hEw (fun h => h) (fun _ _ _ h => h),hq2.2.upd hEw fun h => h⟩ (hEw.mono fun _ h => h.elim),fun h0 => by omega⟩
    · repeat ((first | refine qA rfl ?_|refine qB ?_|refine qC rfl ?_|refine qD ?_|refine qE ?_|refine qF ?_|refine qG ?_|refine qH ?_);try simp (maxSteps:=1000000)(disch:=(first|omega|(simp only [qI,qJ,qK]<;>omega)|exact qL _)) only [go_sem,↓reduceIte,n0,reduceCtorEq,n1,n2,n3,n4,n5,i0,i1,i2,i3,i4,i5,i6,i7,hv_2])
      exact ⟨(by simp (maxSteps:=1000000)(disch:=(first|omega|(simp only [qI,qJ,qK]<;>omega)|exact qL _)) only [go_sem,↓reduceIte,n0,reduceCtorEq,n1,n2,n3,n4,n5,i0,i1,i2,i3,i4,i5,i6,i7,Holds_nil,Holds_cons]),.slice none 0 0,(by simp (maxSteps:=1000000)(disch:=(first|omega|(simp only [qI,qJ,qK]<;>omega)|exact qL _)) only [go_sem,↓reduceIte,n0,reduceCtorEq,n1,n2,n3,n4,n5,i0,i1,i2,i3,i4,i5,i6,i7,slBase_00]),LstI.start (RowJ.zero (by omega) (fun _ h => by cases h)) hq2 (Upd.refl _ _),fun _ => by rw [nilS_plain (by decide) (by omega)];exact rfl⟩
  rintro ρ w3 ⟨⟨hrb0_2,hrb0_7,hrb0_8,hrb0_9,hrb0_10,hrb0_13,-⟩,va0,hra0,hL0,hnc0⟩
  repeat ((first | refine qA rfl ?_|refine qB ?_|refine qC rfl ?_|refine qD ?_|refine qE ?_|refine qF ?_|refine qG ?_|refine qH ?_);try simp (maxSteps:=1000000)(disch:=(first|omega|(simp only [qI,qJ,qK]<;>omega)|exact qL _)) only [go_sem,↓reduceIte,n0,reduceCtorEq,n1,n2,n3,n4,n5,i0,i1,i2,i3,i4,i5,i6,i7,hv_2,hrb0_2,hrb0_7,hrb0_8,hrb0_9,hrb0_10,hrb0_13,hra0,exitRQ_ret,exitRQ_exit,Int.toNat_natCast,Nat.mul_one])
  refine W.exitRJ 0 (EndQ [(2,.bool false),(7,.pointer (some ⟨rb,0,none⟩)),(8,.int .i16 ver),(9,.bool false),(10,.pointer (some ⟨vb,0,none⟩)),(13,.int .i32 y0),(12,va0)] (fun w' => ∃ s xs css,LstI RT (rd1 (rdP (d + 1) ver false) fDeleteACLsRequest_0.of fDeleteACLsRequest_0.sub false false) (Rep1 (RepS true (d + 1)) fDeleteACLsRequest_0.of fDeleteACLsRequest_0.sub) 8 143 [.int .i8 0,.pointer none,.int .i8 0,.pointer none,.pointer none,.int .i8 0,.int .i8 0,.map none] w2.heap.size N0 ok (fun b => ok b ∨ w1.heap.size ≤ b) rb w2 s1 va0 N0 s xs css w')) (W.loop (LoopQ [(2,.bool false),(7,.pointer (some ⟨rb,0,none⟩)),(8,.int .i16 ver),(9,.bool false),(10,.pointer (some ⟨vb,0,none⟩)),(13,.int .i32 y0),(12,va0)] 14 (fun j w' => ∃ s xs css,LstI RT (rd1 (rdP (d + 1) ver false) fDeleteACLsRequest_0.of fDeleteACLsRequest_0.sub false false) (Rep1 (RepS true (d + 1)) fDeleteACLsRequest_0.of fDeleteACLsRequest_0.sub) 8 143 [.int .i8 0,.pointer none,.int .i8 0,.pointer none,.pointer none,.int .i8 0,.int .i8 0,.map none] w2.heap.size N0 ok (fun b => ok b ∨ w1.heap.size ≤ b) rb w2 s1 va0 j s xs css w')) (fun ρ _ => N0 - (RowKit.intOf (ρ 14)).toNat) ?_ ?_) ?_
  · exact ⟨(by simp (maxSteps:=1000000)(disch:=(first|omega|(simp only [qI,qJ,qK]<;>omega)|exact qL _)) only [go_sem,↓reduceIte,n0,reduceCtorEq,n1,n2,n3,n4,n5,i0,i1,i2,i3,i4,i5,i6,i7,Holds_nil,Holds_cons,hrb0_2,hrb0_7,hrb0_8,hrb0_9,hrb0_10,hrb0_13,hra0]),0,(by simp (maxSteps:=1000000)(disch:=(first|omega|(simp only [qI,qJ,qK]<;>omega)|exact qL _)) only [go_sem,↓reduceIte,n0,reduceCtorEq,n1,n2,n3,n4,n5,i0,i1,i2,i3,i4,i5,i6,i7,hrb0_2,hrb0_7,hrb0_8,hrb0_9,hrb0_10,hrb0_13,hra0];all_goals rfl),s1,[],[],hL0⟩
  · rintro ρ w4 ⟨⟨hrc0_2,hrc0_7,hrc0_8,hrc0_9,hrc0_10,hrc0_13,hrc0_12,-⟩,j1,hri0,s2,xs0,css0,hL0⟩
    have hj0 := hL0.le
    have hq4 := hL0.rd
    have hU4 : Upd (fun b => b = vb ∨ b = rb) w1 w4 := hU2.trans' hL0.upd fun i _ h => .inr h
    have hz4 := hL0.upd.size
    have hG4 : Glo ev w4 := hG1.updS hU4 hgM1 hgM2
    by_cases hlt0 : j1 < N0
    · obtain ⟨R1,q1,B1,hva1,hNq1,hLR1,hA1,hx1_4,hnext1⟩ := hL0.row.next hlt0
      have hRl1 := blk_lt hx1_4
      generalize css0.flatten = A1 at hA1 hx1_4 hnext1
      replace hra0 : ρ 12 = .slice (some ⟨R1,0,none⟩) N0 q1 := hrc0_12.trans hva1
      have hown1 : ∀ b,ownB va0 b → w2.heap.size ≤ b ∧ b < w4.heap.size := fun b h => hL0.row.own h
      have hoM1 : ∀ b,(fun b => (ok b ∨ w1.heap.size ≤ b) ∧ ¬ ownB va0 b) b → ¬ (b = R1 ∨ b = rb) := fun b hk h => h.elim (fun e => hk.2 ⟨_,_,_,hva1,e⟩) (fun e => hoM b hk.1 (.inr e))
      obtain ⟨X4,hX4⟩ : ∃ X : Array Value,X = (A1 ++ (([.int .i8 0,.pointer none,.int .i8 0,.pointer none,.pointer none,.int .i8 0,.int .i8 0,.map none] : List Value) ++ B1)).toArray := ⟨_,rfl⟩
      have hxb4 : blk w4 R1 = some (X4,143,(0,0)) := by rw [hX4];exact hx1_4
      have hXs4 : j1 * 8 + 8 ≤ X4.size := by rw [hX4];simp only [List.size_toArray,List.length_append,List.length_cons,List.length_nil,hA1];omega
      repeat ((first | refine qA rfl ?_|refine qB ?_|refine qC rfl ?_|refine qD ?_|refine qE ?_|refine qF ?_|refine qG ?_|refine qH ?_);try simp (maxSteps:=1000000)(disch:=(first|omega|(simp only [qI,qJ,qK]<;>omega)|exact qL _)) only [go_sem,↓reduceIte,n0,reduceCtorEq,n1,n2,n3,n4,n5,i0,i1,i2,i3,i4,i5,i6,i7,hxb4,hrc0_2,hrc0_7,hrc0_8,hrc0_9,hrc0_10,hrc0_13,hra0,hri0,exitRQ_ret,exitRQ_exit,Int.toNat_natCast,Nat.mul_one])
      refine (DefaultEX0_fn w4 hx1_4 hA1).mono ?_
      rintro _ w5 ⟨hx1_5,hu5⟩
      have hq5 := And.intro (hq4.1.upd hu5 (by omega) (fun b _ hk e => by have := (hok b hk).1;omega)) (hq4.2.upd hu5 (by omega))
      have hV5 : Upd (fun b => b = R1 ∨ b = rb) w4 w5 := hu5.mono (fun _ h => .inl h)
      have hU5 : Upd (fun b => b = vb ∨ b = rb) w1 w5 := hU4.trans' hV5 fun i hi h => h.elim (fun h => by omega) .inr
      have hz5 := hV5.size
      have hG5 : Glo ev w5 := hG1.updS hU5 hgM1 hgM2
      obtain ⟨X5,hX5⟩ : ∃ X : Array Value,X = (A1 ++ (([.int .i8 0,.pointer none,.int .i8 3,.pointer none,.pointer none,.int .i8 0,.int .i8 0,.map none] : List Value) ++ B1)).toArray := ⟨_,rfl⟩
      have hxb5 : blk w5 R1 = some (X5,143,(0,0)) := by rw [hX5];exact hx1_5
      have hXs5 : j1 * 8 + 8 ≤ X5.size := by rw [hX5];simp only [List.size_toArray,List.length_append,List.length_cons,List.length_nil,hA1];omega
      have hbe0_0 : (rdL (rdP d ver false) (dfP d) ver false [fX0_0,fX0_1,fX0_2,fX0_3,fX0_4,fX0_5,fX0_6] s2).2 = none → FB := fun h => hlb0 (hL0.bad hlt0 rd1P_none (by show (rd1 (rdP (d + 1) ver false) 10 fs_X0 false false s2).2 = none;rw [rd1_part];exact rdP_bad h))
      have hhe0_0 : hasS fX0_0 ver = true := hasS_t (by show (0 : Int) ≤ ver;omega) (by show (-1 : Int) < 0 ∨ ver ≤ (-1 : Int);omega)
      obtain ⟨xe0_0,hxe0_0⟩ : ∃ x,x = (rdF (rdP d ver false) ver false fX0_0 s2).1 := ⟨_,rfl⟩
      repeat ((first | refine qA rfl ?_|refine qB ?_|refine qC rfl ?_|refine qD ?_|refine qE ?_|refine qF ?_|refine qG ?_|refine qH ?_);try simp (maxSteps:=1000000)(disch:=(first|omega|(simp only [qI,qJ,qK]<;>omega)|exact qL _)) only [go_sem,↓reduceIte,n0,reduceCtorEq,n1,n2,n3,n4,n5,i0,i1,i2,i3,i4,i5,i6,i7,hxb5,hrc0_2,hrc0_7,hrc0_8,hrc0_9,hrc0_10,hrc0_13,hra0,hri0,exitRQ_ret,exitRQ_exit,Int.toNat_natCast,Nat.mul_one])
      have hrd : rdF (rdP d ver false) ver false fX0_0 s2 = _ := rdF_num 1 rfl (by decide)
      refine (Int8_fn w5 hq5.1 hrok).mono ?_
      rintro _ w6 ⟨rfl,hq6,hu6⟩
      have hx1_6 := hu6.blk_some hx1_5 (by omega)
      have hV6 : Upd (fun b => b = R1 ∨ b = rb) w5 w6 := hu6.mono (fun _ h => .inr h)
      have hU6 : Upd (fun b => b = vb ∨ b = rb) w1 w6 := hU5.trans' hV6 fun i hi h => h.elim (fun h => by omega) .inr
      have hz6 := hV6.size
      have hG6 : Glo ev w6 := hG1.updS hU6 hgM1 hgM2
      obtain ⟨X6,hX6⟩ : ∃ X : Array Value,X = (A1 ++ (([.int .i8 0,.pointer none,.int .i8 3,.pointer none,.pointer none,.int .i8 0,.int .i8 0,.map none] : List Value) ++ B1)).toArray := ⟨_,rfl⟩
      have hxb6 : blk w6 R1 = some (X6,143,(0,0)) := by rw [hX6];exact hx1_6
      have hXs6 : j1 * 8 + 8 ≤ X6.size := by rw [hX6];simp only [List.size_toArray,List.length_append,List.length_cons,List.length_nil,hA1];omega
      have hst : (rdF (rdP d ver false) ver false fX0_0 s2).2 = (rdInt .i8 1 s2).2 := by first | (rw [hrd];rfl) | rw [hrd]
      obtain ⟨s3,hs3⟩ : ∃ s,s = (rdF (rdP d ver false) ver false fX0_0 s2).2 := ⟨_,rfl⟩
      rw [← hst,← hs3] at hq6
      clear hst
      have hst6_0 : j1 * 8 + 1 ≤ X6.size := by omega
      repeat ((first | refine qA rfl ?_|refine qB ?_|refine qC rfl ?_|refine qD ?_|refine qE ?_|refine qF ?_|refine qG ?_|refine qH ?_);try simp (maxSteps:=1000000)(disch:=(first|omega|(simp only [qI,qJ,qK]<;>omega)|exact qL _)) only [go_sem,↓reduceIte,n0,reduceCtorEq,n1,n2,n3,n4,n5,i0,i1,i2,i3,i4,i5,i6,i7,hxb6,hrc0_2,hrc0_7,hrc0_8,hrc0_9,hrc0_10,hrc0_13,hra0,hri0,exitRQ_ret,exitRQ_exit,Int.toNat_natCast,Nat.mul_one,hst6_0])
      generalize hw7 : wr w6 R1 (j1 * 8) [.int .i8 (rdInt .i8 1 s2).1] = w7
      have hS7 : Upd (fun b => b = R1 ∨ b = rb) w6 w7 := by rw [← hw7];exact (Upd.refl _ _).wr _ _ (.inr (.inl rfl))
      have hx1_7 : blk w7 R1 = some ((A1 ++ (([.int .i8 (rdInt .i8 1 s2).1,.pointer none,.int .i8 3,.pointer none,.pointer none,.int .i8 0,.int .i8 0,.map none] : List Value) ++ B1)).toArray,143,(0,0)) := by rw [← hw7];exact el_blk0 hx1_6 hA1 (Nat.le_of_ble_eq_true rfl)
      have hV7 := hS7
      have hU7 : Upd (fun b => b = vb ∨ b = rb) w1 w7 := hU6.trans' hV7 fun i hi h => h.elim (fun h => by omega) .inr
      have hz7 := hV7.size
      have hG7 : Glo ev w7 := hG1.updS hU7 hgM1 hgM2
      have hq7 : Rdr RT ok w7 rb s3 ∧ NN w7 rb s3 := by
        have hn : ∀ x,x = w7 → (Rdr RT ok x rb s3 ∧ NN x rb s3) := fun x hx => by
          rw [hx,← hw7]
          exact Rdr.store hq6 (by omega) (fun h => by have := (hok _ h).1;first | omega | exact (hok _ h).2 rfl)
        exact hn _ rfl
      obtain ⟨X7,hX7⟩ : ∃ X : Array Value,X = (A1 ++ (([.int .i8 (rdInt .i8 1 s2).1,.pointer none,.int .i8 3,.pointer none,.pointer none,.int .i8 0,.int .i8 0,.map none] : List Value) ++ B1)).toArray := ⟨_,rfl⟩
      have hxb7 : blk w7 R1 = some (X7,143,(0,0)) := by rw [hX7];exact hx1_7
      have hXs7 : j1 * 8 + 8 ≤ X7.size := by rw [hX7];simp only [List.size_toArray,List.length_append,List.length_cons,List.length_nil,hA1];omega
      clear hw7
      have hfe0_0 : RepF (RepS true d) (szS true d) fX0_0 (fun b => (ok b ∨ w1.heap.size ≤ b) ∧ ¬ ownB va0 b) w7 (xe0_0) [.int .i8 (rdInt .i8 1 s2).1] := (RepF_num (by decide)).2 (by rw [hxe0_0,hrd];exact congrArg (fun x => [x]) (numC_rd 1 (by decide) 1 s2).symm)
      clear hrd
      have hbe0_1 : (rdL (rdP d ver false) (dfP d) ver false [fX0_1,fX0_2,fX0_3,fX0_4,fX0_5,fX0_6] s3).2 = none → FB := fun h => hbe0_0 (by rw [rdL_st (by decide) hhe0_0,← hs3];exact h)
      have hhe0_1 : hasS fX0_1 ver = true := hasS_t (by show (0 : Int) ≤ ver;omega) (by show (-1 : Int) < 0 ∨ ver ≤ (-1 : Int);omega)
      obtain ⟨xe0_1,hxe0_1⟩ : ∃ x,x = (rdF (rdP d ver false) ver false fX0_1 s3).1 := ⟨_,rfl⟩
      repeat ((first | refine qA rfl ?_|refine qB ?_|refine qC rfl ?_|refine qD ?_|refine qE ?_|refine qF ?_|refine qG ?_|refine qH ?_);try simp (maxSteps:=1000000)(disch:=(first|omega|(simp only [qI,qJ,qK]<;>omega)|exact qL _)) only [go_sem,↓reduceIte,n0,reduceCtorEq,n1,n2,n3,n4,n5,i0,i1,i2,i3,i4,i5,i6,i7,hxb7,hrc0_2,hrc0_7,hrc0_8,hrc0_9,hrc0_10,hrc0_13,hra0,hri0,exitRQ_ret,exitRQ_exit,Int.toNat_natCast,Nat.mul_one])
      have hmay : mayS fX0_1 ver = true := mayS_yes (by decide) (by show (0 : Int) ≤ ver;omega)
      have hrd : rdF (rdP d ver false) ver false fX0_1 s3 = _ := rdF_ptr rfl hmay
      refine (RNullableString_fn w7 hq7.1 hrok hG7.1 hgrb).mono ?_
      rintro r8 w8 ⟨hp8,hq8,hu8⟩
      obtain ⟨ap8,rfl⟩ := hp8.shape
      have hx1_8 := hu8.blk_some hx1_7 (by omega)
      have hV8 : Upd (fun b => b = R1 ∨ b = rb) w7 w8 := hu8.mono (fun _ h => .inr h)
      have hU8 : Upd (fun b => b = vb ∨ b = rb) w1 w8 := hU7.trans' hV8 fun i hi h => h.elim (fun h => by omega) .inr
      have hz8 := hV8.size
      have hG8 : Glo ev w8 := hG1.updS hU8 hgM1 hgM2
      obtain ⟨X8,hX8⟩ : ∃ X : Array Value,X = (A1 ++ (([.int .i8 (rdInt .i8 1 s2).1,.pointer none,.int .i8 3,.pointer none,.pointer none,.int .i8 0,.int .i8 0,.map none] : List Value) ++ B1)).toArray := ⟨_,rfl⟩
      have hxb8 : blk w8 R1 = some (X8,143,(0,0)) := by rw [hX8];exact hx1_8
      have hXs8 : j1 * 8 + 8 ≤ X8.size := by rw [hX8];simp only [List.size_toArray,List.length_append,List.length_cons,List.length_nil,hA1];omega
      have hst : (rdF (rdP d ver false) ver false fX0_1 s3).2 = (rdNStr false s3).2 := by first | (rw [hrd];rfl) | rw [hrd]
      obtain ⟨s4,hs4⟩ : ∃ s,s = (rdF (rdP d ver false) ver false fX0_1 s3).2 := ⟨_,rfl⟩
      rw [← hst,← hs4] at hq8
      clear hst
      have hst8_1 : j1 * 8 + 2 ≤ X8.size := by omega
      repeat ((first | refine qA rfl ?_|refine qB ?_|refine qC rfl ?_|refine qD ?_|refine qE ?_|refine qF ?_|refine qG ?_|refine qH ?_);try simp (maxSteps:=1000000)(disch:=(first|omega|(simp only [qI,qJ,qK]<;>omega)|exact qL _)) only [go_sem,↓reduceIte,n0,reduceCtorEq,n1,n2,n3,n4,n5,i0,i1,i2,i3,i4,i5,i6,i7,hxb8,hrc0_2,hrc0_7,hrc0_8,hrc0_9,hrc0_10,hrc0_13,hra0,hri0,exitRQ_ret,exitRQ_exit,Int.toNat_natCast,Nat.mul_one,hst8_1])
      generalize hw9 : wr w8 R1 (j1 * 8 + 1) [.pointer ap8] = w9
      have hS9 : Upd (fun b => b = R1 ∨ b = rb) w8 w9 := by rw [← hw9];exact (Upd.refl _ _).wr _ _ (.inr (.inl rfl))
      have hx1_9 : blk w9 R1 = some ((A1 ++ (([.int .i8 (rdInt .i8 1 s2).1,.pointer ap8,.int .i8 3,.pointer none,.pointer none,.int .i8 0,.int .i8 0,.map none] : List Value) ++ B1)).toArray,143,(0,0)) := by rw [← hw9];exact el_blk (o := 1) hx1_8 hA1 (Nat.le_of_ble_eq_true rfl)
      have hV9 := hS9
      have hU9 : Upd (fun b => b = vb ∨ b = rb) w1 w9 := hU8.trans' hV9 fun i hi h => h.elim (fun h => by omega) .inr
      have hz9 := hV9.size
      have hG9 : Glo ev w9 := hG1.updS hU9 hgM1 hgM2
      have hq9 : Rdr RT ok w9 rb s4 ∧ NN w9 rb s4 := by
        have hn : ∀ x,x = w9 → (Rdr RT ok x rb s4 ∧ NN x rb s4) := fun x hx => by
          rw [hx,← hw9]
          exact Rdr.store hq8 (by omega) (fun h => by have := (hok _ h).1;first | omega | exact (hok _ h).2 rfl)
        exact hn _ rfl
      obtain ⟨X9,hX9⟩ : ∃ X : Array Value,X = (A1 ++ (([.int .i8 (rdInt .i8 1 s2).1,.pointer ap8,.int .i8 3,.pointer none,.pointer none,.int .i8 0,.int .i8 0,.map none] : List Value) ++ B1)).toArray := ⟨_,rfl⟩
      have hxb9 : blk w9 R1 = some (X9,143,(0,0)) := by rw [hX9];exact hx1_9
      have hXs9 : j1 * 8 + 8 ≤ X9.size := by rw [hX9];simp only [List.size_toArray,List.length_append,List.length_cons,List.length_nil,hA1];omega
      clear hw9
      have hfe0_1 : RepF (RepS true d) (szS true d) fX0_1 (fun b => (ok b ∨ w1.heap.size ≤ b) ∧ ¬ ownB va0 b) w9 (xe0_1) [.pointer ap8] := (RepF_ptr rfl (by decide)).2 ⟨_,rfl,by rw [hxe0_1,hrd];exact (hp8.weaken fun b _ hk => by have hk' : w7.heap.size ≤ b := hk;exact ⟨.inr (by omega),fun ho => by have := (hown1 _ ho).2;omega⟩).keep (hV9.keeps fun b _ hk e => hoM1 b hk e)⟩
      clear hrd
      have hbe0_2 : (rdL (rdP d ver false) (dfP d) ver false [fX0_2,fX0_3,fX0_4,fX0_5,fX0_6] s4).2 = none → FB := fun h => hbe0_1 (by rw [rdL_st (by decide) hhe0_1,← hs4];exact h)
      obtain ⟨xe0_2,hxe0_2⟩ : ∃ x,x = dfF (dfP d) fX0_2 := ⟨_,rfl⟩
      have hfe0_2 : RepF (RepS true d) (szS true d) fX0_2 (fun b => (ok b ∨ w1.heap.size ≤ b) ∧ ¬ ownB va0 b) w9 (xe0_2) [.int .i8 3] := by rw [hxe0_2];exact (RepF_num (by decide)).2 rfl
      have hhe0_2 : hasS fX0_2 ver = false := hasS_f (by show ver < 1 ∨ (0 ≤ (-1 : Int) ∧ (-1 : Int) < ver);omega)
      have hbe0_3 : (rdL (rdP d ver false) (dfP d) ver false [fX0_3,fX0_4,fX0_5,fX0_6] s4).2 = none → FB := fun h => hbe0_2 (by rw [rdL_no hhe0_2];exact h)
      have hhe0_3 : hasS fX0_3 ver = true := hasS_t (by show (0 : Int) ≤ ver;omega) (by show (-1 : Int) < 0 ∨ ver ≤ (-1 : Int);omega)
      obtain ⟨xe0_3,hxe0_3⟩ : ∃ x,x = (rdF (rdP d ver false) ver false fX0_3 s4).1 := ⟨_,rfl⟩
      repeat ((first | refine qA rfl ?_|refine qB ?_|refine qC rfl ?_|refine qD ?_|refine qE ?_|refine qF ?_|refine qG ?_|refine qH ?_);try simp (maxSteps:=1000000)(disch:=(first|omega|(simp only [qI,qJ,qK]<;>omega)|exact qL _)) only [go_sem,↓reduceIte,n0,reduceCtorEq,n1,n2,n3,n4,n5,i0,i1,i2,i3,i4,i5,i6,i7,hxb9,hrc0_2,hrc0_7,hrc0_8,hrc0_9,hrc0_10,hrc0_13,hra0,hri0,exitRQ_ret,exitRQ_exit,Int.toNat_natCast,Nat.mul_one])
      have hmay : mayS fX0_3 ver = true := mayS_yes (by decide) (by show (0 : Int) ≤ ver;omega)
      have hrd : rdF (rdP d ver false) ver false fX0_3 s4 = _ := rdF_ptr rfl hmay
      refine (RNullableString_fn w9 hq9.1 hrok hG9.1 hgrb).mono ?_
      rintro r10 w10 ⟨hp10,hq10,hu10⟩
      obtain ⟨ap10,rfl⟩ := hp10.shape
      have hx1_10 := hu10.blk_some hx1_9 (by omega)
      have hV10 : Upd (fun b => b = R1 ∨ b = rb) w9 w10 := hu10.mono (fun _ h => .inr h)
      have hU10 : Upd (fun b => b = vb ∨ b = rb) w1 w10 := hU9.trans' hV10 fun i hi h => h.elim (fun h => by omega) .inr
      have hz10 := hV10.size
      have hG10 : Glo ev w10 := hG1.updS hU10 hgM1 hgM2
      obtain ⟨X10,hX10⟩ : ∃ X : Array Value,X = (A1 ++ (([.int .i8 (rdInt .i8 1 s2).1,.pointer ap8,.int .i8 3,.pointer none,.pointer none,.int .i8 0,.int .i8 0,.map none] : List Value) ++ B1)).toArray := ⟨_,rfl⟩
      have hxb10 : blk w10 R1 = some (X10,143,(0,0)) := by rw [hX10];exact hx1_10
      have hXs10 : j1 * 8 + 8 ≤ X10.size := by rw [hX10];simp only [List.size_toArray,List.length_append,List.length_cons,List.length_nil,hA1];omega
      have hst : (rdF (rdP d ver false) ver false fX0_3 s4).2 = (rdNStr false s4).2 := by first | (rw [hrd];rfl) | rw [hrd]
      obtain ⟨s5,hs5⟩ : ∃ s,s = (rdF (rdP d ver false) ver false fX0_3 s4).2 := ⟨_,rfl⟩
      rw [← hst,← hs5] at hq10
      clear hst
      have hst10_3 : j1 * 8 + 4 ≤ X10.size := by omega
      repeat ((first | refine qA rfl ?_|refine qB ?_|refine qC rfl ?_|refine qD ?_|refine qE ?_|refine qF ?_|refine qG ?_|refine qH ?_);try simp (maxSteps:=1000000)(disch:=(first|omega|(simp only [qI,qJ,qK]<;>omega)|exact qL _)) only [go_sem,↓reduceIte,n0,reduceCtorEq,n1,n2,n3,n4,n5,i0,i1,i2,i3,i4,i5,i6,i7,hxb10,hrc0_2,hrc0_7,hrc0_8,hrc0_9,hrc0_10,hrc0_13,hra0,hri0,exitRQ_ret,exitRQ_exit,Int.toNat_natCast,Nat.mul_one,hst10_3])
      generalize hw11 : wr w10 R1 (j1 * 8 + 3) [.pointer ap10] = w11
      have hS11 : Upd (fun b => b = R1 ∨ b = rb) w10 w11 := by rw [← hw11];exact (Upd.refl _ _).wr _ _ (.inr (.inl rfl))
      have hx1_11 : blk w11 R1 = some ((A1 ++ (([.int .i8 (rdInt .i8 1 s2).1,.pointer ap8,.int .i8 3,.pointer ap10,.pointer none,.int .i8 0,.int .i8 0,.map none] : List Value) ++ B1)).toArray,143,(0,0)) := by rw [← hw11];exact el_blk (o := 3) hx1_10 hA1 (Nat.le_of_ble_eq_true rfl)
      have hV11 := hS11
      have hU11 : Upd (fun b => b = vb ∨ b = rb) w1 w11 := hU10.trans' hV11 fun i hi h => h.elim (fun h => by omega) .inr
      have hz11 := hV11.size
      have hG11 : Glo ev w11 := hG1.updS hU11 hgM1 hgM2
      have hq11 : Rdr RT ok w11 rb s5 ∧ NN w11 rb s5 := by
        have hn : ∀ x,x = w11 → (Rdr RT ok x rb s5 ∧ NN x rb s5) := fun x hx => by
          rw [hx,← hw11]
          exact Rdr.store hq10 (by omega) (fun h => by have := (hok _ h).1;first | omega | exact (hok _ h).2 rfl)
        exact hn _ rfl
      obtain ⟨X11,hX11⟩ : ∃ X : Array Value,X = (A1 ++ (([.int .i8 (rdInt .i8 1 s2).1,.pointer ap8,.int .i8 3,.pointer ap10,.pointer none,.int .i8 0,.int .i8 0,.map none] : List Value) ++ B1)).toArray := ⟨_,rfl⟩
      have hxb11 : blk w11 R1 = some (X11,143,(0,0)) := by rw [hX11];exact hx1_11
      have hXs11 : j1 * 8 + 8 ≤ X11.size := by rw [hX11];simp only [List.size_toArray,List.length_append,List.length_cons,List.length_nil,hA1];omega
      clear hw11
      have hfe0_3 : RepF (RepS true d) (szS true d) fX0_3 (fun b => (ok b ∨ w1.heap.size ≤ b) ∧ ¬ ownB va0 b) w11 (xe0_3) [.pointer ap10] := (RepF_ptr rfl (by decide)).2 ⟨_,rfl,by rw [hxe0_3,hrd];exact (hp10.weaken fun b _ hk => by have hk' : w9.heap.size ≤ b := hk;exact ⟨.inr (by omega),fun ho => by have := (hown1 _ ho).2;omega⟩).keep (hV11.keeps fun b _ hk e => hoM1 b hk e)⟩
      clear hrd
      have hbe0_4 : (rdL (rdP d ver false) (dfP d) ver false [fX0_4,fX0_5,fX0_6] s5).2 = none → FB := fun h => hbe0_3 (by rw [rdL_st (by decide) hhe0_3,← hs5];exact h)
      have hhe0_4 : hasS fX0_4 ver = true := hasS_t (by show (0 : Int) ≤ ver;omega) (by show (-1 : Int) < 0 ∨ ver ≤ (-1 : Int);omega)
      obtain ⟨xe0_4,hxe0_4⟩ : ∃ x,x = (rdF (rdP d ver false) ver false fX0_4 s5).1 := ⟨_,rfl⟩
      repeat ((first | refine qA rfl ?_|refine qB ?_|refine qC rfl ?_|refine qD ?_|refine qE ?_|refine qF ?_|refine qG ?_|refine qH ?_);try simp (maxSteps:=1000000)(disch:=(first|omega|(simp only [qI,qJ,qK]<;>omega)|exact qL _)) only [go_sem,↓reduceIte,n0,reduceCtorEq,n1,n2,n3,n4,n5,i0,i1,i2,i3,i4,i5,i6,i7,hxb11,hrc0_2,hrc0_7,hrc0_8,hrc0_9,hrc0_10,hrc0_13,hra0,hri0,exitRQ_ret,exitRQ_exit,Int.toNat_natCast,Nat.mul_one])
      have hmay : mayS fX0_4 ver = true := mayS_yes (by decide) (by show (0 : Int) ≤ ver;omega)
      have hrd : rdF (rdP d ver false) ver false fX0_4 s5 = _ := rdF_ptr rfl hmay
      refine (RNullableString_fn w11 hq11.1 hrok hG11.1 hgrb).mono ?_
      rintro r12 w12 ⟨hp12,hq12,hu12⟩
      obtain ⟨ap12,rfl⟩ := hp12.shape
      have hx1_12 := hu12.blk_some hx1_11 (by omega)
      have hV12 : Upd (fun b => b = R1 ∨ b = rb) w11 w12 := hu12.mono (fun _ h => .inr h)
      have hU12 : Upd (fun b => b = vb ∨ b = rb) w1 w12 := hU11.trans' hV12 fun i hi h => h.elim (fun h => by omega) .inr
      have hz12 := hV12.size
      have hG12 : Glo ev w12 := hG1.updS hU12 hgM1 hgM2
      obtain ⟨X12,hX12⟩ : ∃ X : Array Value,X = (A1 ++ (([.int .i8 (rdInt .i8 1 s2).1,.pointer ap8,.int .i8 3,.pointer ap10,.pointer none,.int .i8 0,.int .i8 0,.map none] : List Value) ++ B1)).toArray := ⟨_,rfl⟩
      have hxb12 : blk w12 R1 = some (X12,143,(0,0)) := by rw [hX12];exact hx1_12
      have hXs12 : j1 * 8 + 8 ≤ X12.size := by rw [hX12];simp only [List.size_toArray,List.length_append,List.length_cons,List.length_nil,hA1];omega
      have hst : (rdF (rdP d ver false) ver false fX0_4 s5).2 = (rdNStr false s5).2 := by first | (rw [hrd];rfl) | rw [hrd]
      obtain ⟨s6,hs6⟩ : ∃ s,s = (rdF (rdP d ver false) ver false fX0_4 s5).2 := ⟨_,rfl⟩
      rw [← hst,← hs6] at hq12
      clear hst
      have hst12_4 : j1 * 8 + 5 ≤ X12.size := by omega
      repeat ((first | refine qA rfl ?_|refine qB ?_|refine qC rfl ?_|refine qD ?_|refine qE ?_|refine qF ?_|refine qG ?_|refine qH ?_);try simp (maxSteps:=1000000)(disch:=(first|omega|(simp only [qI,qJ,qK]<;>omega)|exact qL _)) only [go_sem,↓reduceIte,n0,reduceCtorEq,n1,n2,n3,n4,n5,i0,i1,i2,i3,i4,i5,i6,i7,hxb12,hrc0_2,hrc0_7,hrc0_8,hrc0_9,hrc0_10,hrc0_13,hra0,hri0,exitRQ_ret,exitRQ_exit,Int.toNat_natCast,Nat.mul_one,hst12_4])
      generalize hw13 : wr w12 R1 (j1 * 8 + 4) [.pointer ap12] = w13
      have hS13 : Upd (fun b => b = R1 ∨ b = rb) w12 w13 := by rw [← hw13];exact (Upd.refl _ _).wr _ _ (.inr (.inl rfl))
      have hx1_13 : blk w13 R1 = some ((A1 ++ (([.int .i8 (rdInt .i8 1 s2).1,.pointer ap8,.int .i8 3,.pointer ap10,.pointer ap12,.int .i8 0,.int .i8 0,.map none] : List Value) ++ B1)).toArray,143,(0,0)) := by rw [← hw13];exact el_blk (o := 4) hx1_12 hA1 (Nat.le_of_ble_eq_true rfl)
      have hV13 := hS13
      have hU13 : Upd (fun b => b = vb ∨ b = rb) w1 w13 := hU12.trans' hV13 fun i hi h => h.elim (fun h => by omega) .inr
      have hz13 := hV13.size
      have hG13 : Glo ev w13 := hG1.updS hU13 hgM1 hgM2
      have hq13 : Rdr RT ok w13 rb s6 ∧ NN w13 rb s6 := by
        have hn : ∀ x,x = w13 → (Rdr RT ok x rb s6 ∧ NN x rb s6) := fun x hx => by
          rw [hx,← hw13]
          exact Rdr.store hq12 (by omega) (fun h => by have := (hok _ h).1;first | omega | exact (hok _ h).2 rfl)
        exact hn _ rfl
      obtain ⟨X13,hX13⟩ : ∃ X : Array Value,X = (A1 ++ (([.int .i8 (rdInt .i8 1 s2).1,.pointer ap8,.int .i8 3,.pointer ap10,.pointer ap12,.int .i8 0,.int .i8 0,.map none] : List Value) ++ B1)).toArray := ⟨_,rfl⟩
      have hxb13 : blk w13 R1 = some (X13,143,(0,0)) := by rw [hX13];exact hx1_13
      have hXs13 : j1 * 8 + 8 ≤ X13.size := by rw [hX13];simp only [List.size_toArray,List.length_append,List.length_cons,List.length_nil,hA1];omega
      clear hw13
      have hfe0_4 : RepF (RepS true d) (szS true d) fX0_4 (fun b => (ok b ∨ w1.heap.size ≤ b) ∧ ¬ ownB va0 b) w13 (xe0_4) [.pointer ap12] := (RepF_ptr rfl (by decide)).2 ⟨_,rfl,by rw [hxe0_4,hrd];exact (hp12.weaken fun b _ hk => by have hk' : w11.heap.size ≤ b := hk;exact ⟨.inr (by omega),fun ho => by have := (hown1 _ ho).2;omega⟩).keep (hV13.keeps fun b _ hk e => hoM1 b hk e)⟩
      clear hrd
      have hbe0_5 : (rdL (rdP d ver false) (dfP d) ver false [fX0_5,fX0_6] s6).2 = none → FB := fun h => hbe0_4 (by rw [rdL_st (by decide) hhe0_4,← hs6];exact h)
      have hhe0_5 : hasS fX0_5 ver = true := hasS_t (by show (0 : Int) ≤ ver;omega) (by show (-1 : Int) < 0 ∨ ver ≤ (-1 : Int);omega)
      obtain ⟨xe0_5,hxe0_5⟩ : ∃ x,x = (rdF (rdP d ver false) ver false fX0_5 s6).1 := ⟨_,rfl⟩
      repeat ((first | refine qA rfl ?_|refine qB ?_|refine qC rfl ?_|refine qD ?_|refine qE ?_|refine qF ?_|refine qG ?_|refine qH ?_);try simp (maxSteps:=1000000)(disch:=(first|omega|(simp only [qI,qJ,qK]<;>omega)|exact qL _)) only [go_sem,↓reduceIte,n0,reduceCtorEq,n1,n2,n3,n4,n5,i0,i1,i2,i3,i4,i5,i6,i7,hxb13,hrc0_2,hrc0_7,hrc0_8,hrc0_9,hrc0_10,hrc0_13,hra0,hri0,exitRQ_ret,exitRQ_exit,Int.toNat_natCast,Nat.mul_one])
      have hrd : rdF (rdP d ver false) ver false fX0_5 s6 = _ := rdF_num 1 rfl (by decide)
      refine (Int8_fn w13 hq13.1 hrok).mono ?_
      rintro _ w14 ⟨rfl,hq14,hu14⟩
      have hx1_14 := hu14.blk_some hx1_13 (by omega)
      have hV14 : Upd (fun b => b = R1 ∨ b = rb) w13 w14 := hu14.mono (fun _ h => .inr h)
      have hU14 : Upd (fun b => b = vb ∨ b = rb) w1 w14 := hU13.trans' hV14 fun i hi h => h.elim (fun h => by omega) .inr
      have hz14 := hV14.size
      have hG14 : Glo ev w14 := hG1.updS hU14 hgM1 hgM2
      obtain ⟨X14,hX14⟩ : ∃ X : Array Value,X = (A1 ++ (([.int .i8 (rdInt .i8 1 s2).1,.pointer ap8,.int .i8 3,.pointer ap10,.pointer ap12,.int .i8 0,.int .i8 0,.map none] : List Value) ++ B1)).toArray := ⟨_,rfl⟩
      have hxb14 : blk w14 R1 = some (X14,143,(0,0)) := by rw [hX14];exact hx1_14
      have hXs14 : j1 * 8 + 8 ≤ X14.size := by rw [hX14];simp only [List.size_toArray,List.length_append,List.length_cons,List.length_nil,hA1];omega
      have hst : (rdF (rdP d ver false) ver false fX0_5 s6).2 = (rdInt .i8 1 s6).2 := by first | (rw [hrd];rfl) | rw [hrd]
      obtain ⟨s7,hs7⟩ : ∃ s,s = (rdF (rdP d ver false) ver false fX0_5 s6).2 := ⟨_,rfl⟩
      rw [← hst,← hs7] at hq14
      clear hst
      have hst14_5 : j1 * 8 + 6 ≤ X14.size := by omega
      repeat ((first | refine qA rfl ?_|refine qB ?_|refine qC rfl ?_|refine qD ?_|refine qE ?_|refine qF ?_|refine qG ?_|refine qH ?_);try simp (maxSteps:=1000000)(disch:=(first|omega|(simp only [qI,qJ,qK]<;>omega)|exact qL _)) only [go_sem,↓reduceIte,n0,reduceCtorEq,n1,n2,n3,n4,n5,i0,i1,i2,i3,i4,i5,i6,i7,hxb14,hrc0_2,hrc0_7,hrc0_8,hrc0_9,hrc0_10,hrc0_13,hra0,hri0,exitRQ_ret,exitRQ_exit,Int.toNat_natCast,Nat.mul_one,hst14_5])
      generalize hw15 : wr w14 R1 (j1 * 8 + 5) [.int .i8 (rdInt .i8 1 s6).1] = w15
      have hS15 : Upd (fun b => b = R1 ∨ b = rb) w14 w15 := by rw [← hw15];exact (Upd.refl _ _).wr _ _ (.inr (.inl rfl))
      have hx1_15 : blk w15 R1 = some ((A1 ++ (([.int .i8 (rdInt .i8 1 s2).1,.pointer ap8,.int .i8 3,.pointer ap10,.pointer ap12,.int .i8 (rdInt .i8 1 s6).1,.int .i8 0,.map none] : List Value) ++ B1)).toArray,143,(0,0)) := by rw [← hw15];exact el_blk (o := 5) hx1_14 hA1 (Nat.le_of_ble_eq_true rfl)
      have hV15 := hS15
      have hU15 : Upd (fun b => b = vb ∨ b = rb) w1 w15 := hU14.trans' hV15 fun i hi h => h.elim (fun h => by omega) .inr
      have hz15 := hV15.size
      have hG15 : Glo ev w15 := hG1.updS hU15 hgM1 hgM2
      have hq15 : Rdr RT ok w15 rb s7 ∧ NN w15 rb s7 := by
        have hn : ∀ x,x = w15 → (Rdr RT ok x rb s7 ∧ NN x rb s7) := fun x hx => by
          rw [hx,← hw15]
          exact Rdr.store hq14 (by omega) (fun h => by have := (hok _ h).1;first | omega | exact (hok _ h).2 rfl)
        exact hn _ rfl
      obtain ⟨X15,hX15⟩ : ∃ X : Array Value,X = (A1 ++ (([.int .i8 (rdInt .i8 1 s2).1,.pointer ap8,.int .i8 3,.pointer ap10,.pointer ap12,.int .i8 (rdInt .i8 1 s6).1,.int .i8 0,.map none] : List Value) ++ B1)).toArray := ⟨_,rfl⟩
      have hxb15 : blk w15 R1 = some (X15,143,(0,0)) := by rw [hX15];exact hx1_15
      have hXs15 : j1 * 8 + 8 ≤ X15.size := by rw [hX15];simp only [List.size_toArray,List.length_append,List.length_cons,List.length_nil,hA1];omega
      clear hw15
      have hfe0_5 : RepF (RepS true d) (szS true d) fX0_5 (fun b => (ok b ∨ w1.heap.size ≤ b) ∧ ¬ ownB va0 b) w15 (xe0_5) [.int .i8 (rdInt .i8 1 s6).1] := (RepF_num (by decide)).2 (by rw [hxe0_5,hrd];exact congrArg (fun x => [x]) (numC_rd 1 (by decide) 1 s6).symm)
      clear hrd
      have hbe0_6 : (rdL (rdP d ver false) (dfP d) ver false [fX0_6] s7).2 = none → FB := fun h => hbe0_5 (by rw [rdL_st (by decide) hhe0_5,← hs7];exact h)
      have hhe0_6 : hasS fX0_6 ver = true := hasS_t (by show (0 : Int) ≤ ver;omega) (by show (-1 : Int) < 0 ∨ ver ≤ (-1 : Int);omega)
      obtain ⟨xe0_6,hxe0_6⟩ : ∃ x,x = (rdF (rdP d ver false) ver false fX0_6 s7).1 := ⟨_,rfl⟩
      repeat ((first | refine qA rfl ?_|refine qB ?_|refine qC rfl ?_|refine qD ?_|refine qE ?_|refine qF ?_|refine qG ?_|refine qH ?_);try simp (maxSteps:=1000000)(disch:=(first|omega|(simp only [qI,qJ,qK]<;>omega)|exact qL _)) only [go_sem,↓reduceIte,n0,reduceCtorEq,n1,n2,n3,n4,n5,i0,i1,i2,i3,i4,i5,i6,i7,hxb15,hrc0_2,hrc0_7,hrc0_8,hrc0_9,hrc0_10,hrc0_13,hra0,hri0,exitRQ_ret,exitRQ_exit,Int.toNat_natCast,Nat.mul_one])
      have hrd : rdF (rdP d ver false) ver false fX0_6 s7 = _ := rdF_num 1 rfl (by decide)
      refine (Int8_fn w15 hq15.1 hrok).mono ?_
      rintro _ w16 ⟨rfl,hq16,hu16⟩
      have hx1_16 := hu16.blk_some hx1_15 (by omega)
      have hV16 : Upd (fun b => b = R1 ∨ b = rb) w15 w16 := hu16.mono (fun _ h => .inr h)
      have hU16 : Upd (fun b => b = vb ∨ b = rb) w1 w16 := hU15.trans' hV16 fun i hi h => h.elim (fun h => by omega) .inr
      have hz16 := hV16.size
      have hG16 : Glo ev w16 := hG1.updS hU16 hgM1 hgM2
      obtain ⟨X16,hX16⟩ : ∃ X : Array Value,X = (A1 ++ (([.int .i8 (rdInt .i8 1 s2).1,.pointer ap8,.int .i8 3,.pointer ap10,.pointer ap12,.int .i8 (rdInt .i8 1 s6).1,.int .i8 0,.map none] : List Value) ++ B1)).toArray := ⟨_,rfl⟩
      have hxb16 : blk w16 R1 = some (X16,143,(0,0)) := by rw [hX16];exact hx1_16
      have hXs16 : j1 * 8 + 8 ≤ X16.size := by rw [hX16];simp only [List.size_toArray,List.length_append,List.length_cons,List.length_nil,hA1];omega
      have hst : (rdF (rdP d ver false) ver false fX0_6 s7).2 = (rdInt .i8 1 s7).2 := by first | (rw [hrd];rfl) | rw [hrd]
      obtain ⟨s8,hs8⟩ : ∃ s,s = (rdF (rdP d ver false) ver false fX0_6 s7).2 := ⟨_,rfl⟩
      rw [← hst,← hs8] at hq16
      clear hst
      have hst16_6 : j1 * 8 + 7 ≤ X16.size := by omega
      repeat ((first | refine qA rfl ?_|refine qB ?_|refine qC rfl ?_|refine qD ?_|refine qE ?_|refine qF ?_|refine qG ?_|refine qH ?_);try simp (maxSteps:=1000000)(disch:=(first|omega|(simp only [qI,qJ,qK]<;>omega)|exact qL _)) only [go_sem,↓reduceIte,n0,reduceCtorEq,n1,n2,n3,n4,n5,i0,i1,i2,i3,i4,i5,i6,i7,hxb16,hrc0_2,hrc0_7,hrc0_8,hrc0_9,hrc0_10,hrc0_13,hra0,hri0,exitRQ_ret,exitRQ_exit,Int.toNat_natCast,Nat.mul_one,hst16_6])
      generalize hw17 : wr w16 R1 (j1 * 8 + 6) [.int .i8 (rdInt .i8 1 s7).1] = w17
      have hS17 : Upd (fun b => b = R1 ∨ b = rb) w16 w17 := by rw [← hw17];exact (Upd.refl _ _).wr _ _ (.inr (.inl rfl))
      have hx1_17 : blk w17 R1 = some ((A1 ++ (([.int .i8 (rdInt .i8 1 s2).1,.pointer ap8,.int .i8 3,.pointer ap10,.pointer ap12,.int .i8 (rdInt .i8 1 s6).1,.int .i8 (rdInt .i8 1 s7).1,.map none] : List Value) ++ B1)).toArray,143,(0,0)) := by rw [← hw17];exact el_blk (o := 6) hx1_16 hA1 (Nat.le_of_ble_eq_true rfl)
      have hV17 := hS17
      have hU17 : Upd (fun b => b = vb ∨ b = rb) w1 w17 := hU16.trans' hV17 fun i hi h => h.elim (fun h => by omega) .inr
      have hz17 := hV17.size
      have hG17 : Glo ev w17 := hG1.updS hU17 hgM1 hgM2
      have hq17 : Rdr RT ok w17 rb s8 ∧ NN w17 rb s8 := by
        have hn : ∀ x,x = w17 → (Rdr RT ok x rb s8 ∧ NN x rb s8) := fun x hx => by
          rw [hx,← hw17]
          exact Rdr.store hq16 (by omega) (fun h => by have := (hok _ h).1;first | omega | exact (hok _ h).2 rfl)
        exact hn _ rfl
      obtain ⟨X17,hX17⟩ : ∃ X : Array Value,X = (A1 ++ (([.int .i8 (rdInt .i8 1 s2).1,.pointer ap8,.int .i8 3,.pointer ap10,.pointer ap12,.int .i8 (rdInt .i8 1 s6).1,.int .i8 (rdInt .i8 1 s7).1,.map none] : List Value) ++ B1)).toArray := ⟨_,rfl⟩
      have hxb17 : blk w17 R1 = some (X17,143,(0,0)) := by rw [hX17];exact hx1_17
      have hXs17 : j1 * 8 + 8 ≤ X17.size := by rw [hX17];simp only [List.size_toArray,List.length_append,List.length_cons,List.length_nil,hA1];omega
      clear hw17
      have hfe0_6 : RepF (RepS true d) (szS true d) fX0_6 (fun b => (ok b ∨ w1.heap.size ≤ b) ∧ ¬ ownB va0 b) w17 (xe0_6) [.int .i8 (rdInt .i8 1 s7).1] := (RepF_num (by decide)).2 (by rw [hxe0_6,hrd];exact congrArg (fun x => [x]) (numC_rd 1 (by decide) 1 s7).symm)
      clear hrd
      have hle0_7 : rdL (rdP d ver false) (dfP d) ver false [] s8 = ([],s8) := rfl
      have hle0_6 : rdL (rdP d ver false) (dfP d) ver false [fX0_6] s7 = ([xe0_6],s8) := by rw [rdL_st (by decide) hhe0_6,← hxe0_6,← hs8,hle0_7]
      have hle0_5 : rdL (rdP d ver false) (dfP d) ver false [fX0_5,fX0_6] s6 = ([xe0_5,xe0_6],s8) := by rw [rdL_st (by decide) hhe0_5,← hxe0_5,← hs7,hle0_6]
      have hle0_4 : rdL (rdP d ver false) (dfP d) ver false [fX0_4,fX0_5,fX0_6] s5 = ([xe0_4,xe0_5,xe0_6],s8) := by rw [rdL_st (by decide) hhe0_4,← hxe0_4,← hs6,hle0_5]
      have hle0_3 : rdL (rdP d ver false) (dfP d) ver false [fX0_3,fX0_4,fX0_5,fX0_6] s4 = ([xe0_3,xe0_4,xe0_5,xe0_6],s8) := by rw [rdL_st (by decide) hhe0_3,← hxe0_3,← hs5,hle0_4]
      have hle0_2 : rdL (rdP d ver false) (dfP d) ver false [fX0_2,fX0_3,fX0_4,fX0_5,fX0_6] s4 = ([xe0_2,xe0_3,xe0_4,xe0_5,xe0_6],s8) := by rw [rdL_no hhe0_2,← hxe0_2,hle0_3]
      have hle0_1 : rdL (rdP d ver false) (dfP d) ver false [fX0_1,fX0_2,fX0_3,fX0_4,fX0_5,fX0_6] s3 = ([xe0_1,xe0_2,xe0_3,xe0_4,xe0_5,xe0_6],s8) := by rw [rdL_st (by decide) hhe0_1,← hxe0_1,← hs4,hle0_2]
      have hle0_0 : rdL (rdP d ver false) (dfP d) ver false [fX0_0,fX0_1,fX0_2,fX0_3,fX0_4,fX0_5,fX0_6] s2 = ([xe0_0,xe0_1,xe0_2,xe0_3,xe0_4,xe0_5,xe0_6],s8) := by rw [rdL_st (by decide) hhe0_0,← hxe0_0,← hs3,hle0_1]
      have hfine0 : rdP (d + 1) ver false fs_X0 s2 = (.mk 0 [] false [xe0_0,xe0_1,xe0_2,xe0_3,xe0_4,xe0_5,xe0_6] [],s8) := rdP_f hle0_0
      have hTge0 : TagsM (fun b => (ok b ∨ w1.heap.size ≤ b) ∧ ¬ ownB va0 b) w17 (.map none) [] := .inl ⟨rfl,rfl⟩
      have hCe0_17 : Upd (fun b => b = R1 ∨ b = rb) w17 w17 := Upd.refl _ _
      have hCe0_16 : Upd (fun b => b = R1 ∨ b = rb) w16 w17 := hV17.trans hCe0_17
      have hCe0_15 : Upd (fun b => b = R1 ∨ b = rb) w15 w17 := hV16.trans hCe0_16
      have hCe0_14 : Upd (fun b => b = R1 ∨ b = rb) w14 w17 := hV15.trans hCe0_15
      have hCe0_13 : Upd (fun b => b = R1 ∨ b = rb) w13 w17 := hV14.trans hCe0_14
      have hCe0_12 : Upd (fun b => b = R1 ∨ b = rb) w12 w17 := hV13.trans hCe0_13
      have hCe0_11 : Upd (fun b => b = R1 ∨ b = rb) w11 w17 := hV12.trans hCe0_12
      have hCe0_10 : Upd (fun b => b = R1 ∨ b = rb) w10 w17 := hV11.trans hCe0_11
      have hCe0_9 : Upd (fun b => b = R1 ∨ b = rb) w9 w17 := hV10.trans hCe0_10
      have hCe0_8 : Upd (fun b => b = R1 ∨ b = rb) w8 w17 := hV9.trans hCe0_9
      have hCe0_7 : Upd (fun b => b = R1 ∨ b = rb) w7 w17 := hV8.trans hCe0_8
      have hCe0_6 : Upd (fun b => b = R1 ∨ b = rb) w6 w17 := hV7.trans hCe0_7
      have hCe0_5 : Upd (fun b => b = R1 ∨ b = rb) w5 w17 := hV6.trans hCe0_6
      have hCe0_4 : Upd (fun b => b = R1 ∨ b = rb) w4 w17 := hV5.trans hCe0_5
      have hRe0 : RepS true (d + 1) fs_X0 (fun b => (ok b ∨ w1.heap.size ≤ b) ∧ ¬ ownB va0 b) w17 (.mk 0 [] false [xe0_0,xe0_1,xe0_2,xe0_3,xe0_4,xe0_5,xe0_6] []) [.int .i8 (rdInt .i8 1 s2).1,.pointer ap8,.int .i8 3,.pointer ap10,.pointer ap12,.int .i8 (rdInt .i8 1 s6).1,.int .i8 (rdInt .i8 1 s7).1,.map none] := RepS.introT (c := [.int .i8 (rdInt .i8 1 s2).1,.pointer ap8,.int .i8 3,.pointer ap10,.pointer ap12,.int .i8 (rdInt .i8 1 s6).1,.int .i8 (rdInt .i8 1 s7).1]) (RepL.cons1 (hfe0_0.keepS (hCe0_7.keeps fun b _ hk e => hoM1 b hk e)) (RepL.cons1 (hfe0_1.keepS (hCe0_9.keeps fun b _ hk e => hoM1 b hk e)) (RepL.cons1 (hfe0_2.keepS (hCe0_9.keeps fun b _ hk e => hoM1 b hk e)) (RepL.cons1 (hfe0_3.keepS (hCe0_11.keeps fun b _ hk e => hoM1 b hk e)) (RepL.cons1 (hfe0_4.keepS (hCe0_13.keeps fun b _ hk e => hoM1 b hk e)) (RepL.cons1 (hfe0_5.keepS (hCe0_15.keeps fun b _ hk e => hoM1 b hk e)) (RepL.cons1 (hfe0_6.keepS (hCe0_17.keeps fun b _ hk e => hoM1 b hk e)) RepL.nil))))))) hTge0
      have hrE : (rd1 (rdP (d + 1) ver false) fDeleteACLsRequest_0.of fDeleteACLsRequest_0.sub false false) s2 = ((.mk 0 [] false [xe0_0,xe0_1,xe0_2,xe0_3,xe0_4,xe0_5,xe0_6] []),s8) := by rw [show (rd1 (rdP (d + 1) ver false) fDeleteACLsRequest_0.of fDeleteACLsRequest_0.sub false false) s2 = _ from rd1_part];exact hfine0
      have hxE : (Rep1 (RepS true (d + 1)) fDeleteACLsRequest_0.of fDeleteACLsRequest_0.sub) (fun b => (ok b ∨ w1.heap.size ≤ b) ∧ ¬ ownB va0 b) w17 (.mk 0 [] false [xe0_0,xe0_1,xe0_2,xe0_3,xe0_4,xe0_5,xe0_6] []) [.int .i8 (rdInt .i8 1 s2).1,.pointer ap8,.int .i8 3,.pointer ap10,.pointer ap12,.int .i8 (rdInt .i8 1 s6).1,.int .i8 (rdInt .i8 1 s7).1,.map none] := Rep1_part.2 hRe0
      repeat ((first | refine qA rfl ?_|refine qB ?_|refine qC rfl ?_|refine qD ?_|refine qE ?_|refine qF ?_|refine qG ?_|refine qH ?_);try simp (maxSteps:=1000000)(disch:=(first|omega|(simp only [qI,qJ,qK]<;>omega)|exact qL _)) only [go_sem,↓reduceIte,n0,reduceCtorEq,n1,n2,n3,n4,n5,i0,i1,i2,i3,i4,i5,i6,i7,hxb17,hrc0_2,hrc0_7,hrc0_8,hrc0_9,hrc0_10,hrc0_13,hra0,hri0,exitRQ_ret,exitRQ_exit,Int.toNat_natCast,Nat.mul_one])
      have hTk : Upd (fun b => b = R1 ∨ b = rb) w4 w17 := ((((((((((((hV5.trans hV6).trans hV7).trans hV8).trans hV9).trans hV10).trans hV11).trans hV12).trans hV13).trans hV14).trans hV15).trans hV16).trans hV17)
      have hL' := hL0.step (Rep1_lay _ _ fun _ => RepS_lay true _ _) hlt0 (hnext1 w17 [.int .i8 (rdInt .i8 1 s2).1,.pointer ap8,.int .i8 3,.pointer ap10,.pointer ap12,.int .i8 (rdInt .i8 1 s6).1,.int .i8 (rdInt .i8 1 s7).1,.map none] rfl hx1_17) (by rw [hrE];exact hxE) (hTk.mono fun b h => h.imp (fun e => ⟨_,_,_,hva1,e⟩) id) (by rw [hrE];exact hq17) (fun h => hoM rb h (.inr rfl)) (Nat.le_refl _)
      have hij : IntKind.i32.wrap ((j1 : Int) + 1) = ((j1 + 1 : Nat) : Int) := by rw [i32_wrap (by omega)];omega
      repeat ((first | refine qA rfl ?_|refine qB ?_|refine qC rfl ?_|refine qD ?_|refine qE ?_|refine qF ?_|refine qG ?_|refine qH ?_);try simp (maxSteps:=1000000)(disch:=(first|omega|(simp only [qI,qJ,qK]<;>omega)|exact qL _)) only [go_sem,↓reduceIte,n0,reduceCtorEq,n1,n2,n3,n4,n5,i0,i1,i2,i3,i4,i5,i6,i7,hxb17,hrc0_2,hrc0_7,hrc0_8,hrc0_9,hrc0_10,hrc0_13,hra0,hri0,exitRQ_ret,exitRQ_exit,Int.toNat_natCast,Nat.mul_one,hij])
      refine ⟨⟨(by simp (maxSteps:=1000000)(disch:=(first|omega|(simp only [qI,qJ,qK]<;>omega)|exact qL _)) only [go_sem,↓reduceIte,n0,reduceCtorEq,n1,n2,n3,n4,n5,i0,i1,i2,i3,i4,i5,i6,i7,Holds_nil,Holds_cons,hrc0_2,hrc0_7,hrc0_8,hrc0_9,hrc0_10,hrc0_13,hra0,hri0];exact hva1.symm),j1 + 1,(by simp (maxSteps:=1000000)(disch:=(first|omega|(simp only [qI,qJ,qK]<;>omega)|exact qL _)) only [go_sem,↓reduceIte,n0,reduceCtorEq,n1,n2,n3,n4,n5,i0,i1,i2,i3,i4,i5,i6,i7,hrc0_2,hrc0_7,hrc0_8,hrc0_9,hrc0_10,hrc0_13,hra0,hri0,hij];all_goals rfl),_,_,_,hL'⟩,?_⟩
      try simp (maxSteps:=1000000)(disch:=(first|omega|(simp only [qI,qJ,qK]<;>omega)|exact qL _)) only [go_sem,↓reduceIte,n0,reduceCtorEq,n1,n2,n3,n4,n5,i0,i1,i2,i3,i4,i5,i6,i7,hrc0_2,hrc0_7,hrc0_8,hrc0_9,hrc0_10,hrc0_13,hra0,hri0]
      simp only [RowKit.intOf]
      omega
    · have hjN : j1 = N0 := by omega
      rw [hjN] at hL0
      repeat ((first | refine qA rfl ?_|refine qB ?_|refine qC rfl ?_|refine qD ?_|refine qE ?_|refine qF ?_|refine qG ?_|refine qH ?_);try simp (maxSteps:=1000000)(disch:=(first|omega|(simp only [qI,qJ,qK]<;>omega)|exact qL _)) only [go_sem,↓reduceIte,n0,reduceCtorEq,n1,n2,n3,n4,n5,i0,i1,i2,i3,i4,i5,i6,i7,hrc0_2,hrc0_7,hrc0_8,hrc0_9,hrc0_10,hrc0_13,hrc0_12,hri0,exitRQ_ret,exitRQ_exit])
      exact ⟨(by simp (maxSteps:=1000000)(disch:=(first|omega|(simp only [qI,qJ,qK]<;>omega)|exact qL _)) only [go_sem,↓reduceIte,n0,reduceCtorEq,n1,n2,n3,n4,n5,i0,i1,i2,i3,i4,i5,i6,i7,Holds_nil,Holds_cons,hrc0_2,hrc0_7,hrc0_8,hrc0_9,hrc0_10,hrc0_13,hrc0_12,hri0]),s2,xs0,css0,hL0⟩
  rintro ρ w18 ⟨⟨hrd0_2,hrd0_7,hrd0_8,hrd0_9,hrd0_10,hrd0_13,hrd0_12,-⟩,s9,xs0,css0,hL0⟩
  have hq18 := hL0.rd
  have hu18 := hL0.upd
  have hv_18 := hu18.blk_some hv_2 (by omega)
  have hV18 : Upd (fun b => b = vb ∨ b = rb) w2 w18 := hu18.mono (fun _ h => .inr h)
  have hU18 : Upd (fun b => b = vb ∨ b = rb) w1 w18 := hU2.trans hV18
  have hz18 := hV18.size
  have hG18 : Glo ev w18 := hG1.updS hU18 hgM1 hgM2
  have hrd0 : rdF (rdP (d + 1) ver false) ver false fDeleteACLsRequest_0 s0 = (.mk 0 [] (nilS fDeleteACLsRequest_0 ver y0) xs0 [],s9) := by
    have h := rdF_listE (pt := (rdP (d + 1) ver false)) (v := ver) (flex := false) (f := fDeleteACLsRequest_0) (s := s0) (xs := xs0) (e := s9) rfl (by rw [hy0,← hN0,← hs1];exact hL0.done)
    rw [hy0] at h;exact h
  have hs9 : s9 = (rdF (rdP (d + 1) ver false) ver false fDeleteACLsRequest_0 s0).2 := by rw [hrd0]
  obtain ⟨aa0,qq0,hvs0⟩ := hL0.row.shape
  subst hvs0
  repeat ((first | refine qA rfl ?_|refine qB ?_|refine qC rfl ?_|refine qD ?_|refine qE ?_|refine qF ?_|refine qG ?_|refine qH ?_);try simp (maxSteps:=1000000)(disch:=(first|omega|(simp only [qI,qJ,qK]<;>omega)|exact qL _)) only [go_sem,↓reduceIte,n0,reduceCtorEq,n1,n2,n3,n4,n5,i0,i1,i2,i3,i4,i5,i6,i7,hv_18,hrd0_2,hrd0_7,hrd0_8,hrd0_9,hrd0_10,hrd0_13,hrd0_12])
  generalize hw19 : wr w18 vb 1 [.slice aa0 N0 qq0] = w19
  have hS19 : Upd (fun b => b = vb ∨ b = rb) w18 w19 := by rw [← hw19];exact (Upd.refl _ _).wr _ _ (.inr (.inl rfl))
  have hv_19 : blk w19 vb = some (#[.int .i16 ver,.slice aa0 N0 qq0,.map none],84,(0,0)) := by rw [← hw19,blk_wr_eq,hv_18];rfl
  have hV19 := hS19
  have hU19 : Upd (fun b => b = vb ∨ b = rb) w1 w19 := hU18.trans hV19
  have hz19 := hV19.size
  have hG19 : Glo ev w19 := hG1.updS hU19 hgM1 hgM2
  have hq19 : Rdr RT ok w19 rb s9 ∧ NN w19 rb s9 := by
    have hn : ∀ x,x = w19 → (Rdr RT ok x rb s9 ∧ NN x rb s9) := fun x hx => by
      rw [hx,← hw19]
      exact Rdr.store hq18 (by omega) (fun h => by have := (hok _ h).1;first | omega | exact (hok _ h).2 rfl)
    exact hn _ rfl
  clear hw19
  have hf_0 : RepF (RepS true (d + 1)) (szS true (d + 1)) fDeleteACLsRequest_0 (fun b => ok b ∨ w1.heap.size ≤ b) w19 (x_0) [.slice aa0 N0 qq0] := by rw [hx_0,hrd0];exact RepF.keepS (RepF_row rfl hnc0 hN0 rfl hL0.row hL0.all (fun b hb => .inr (by omega))) (hV19.keeps fun b _ hk e => (hoM b hk) e)
  clear hL0 hnc0
  have hl_1 : rdL (rdP (d + 1) ver false) (dfP (d + 1)) ver false [] s9 = ([],s9) := rfl
  have hl_0 : rdL (rdP (d + 1) ver false) (dfP (d + 1)) ver false [fDeleteACLsRequest_0] s0 = ([x_0],s9) := by rw [rdL_st (by decide) hh_0,← hx_0,← hs9,hl_1]
  have hfin : rdP (d + 2) ver false fs_DeleteACLsRequest s0 = (.mk 0 [] false [x_0] [],s9) := rdP_f hl_0
  have hTg : TagsM (fun b => ok b ∨ w1.heap.size ≤ b) w19 (.map none) [] := .inl ⟨rfl,rfl⟩
  have hC_19 : Upd (fun b => b = vb ∨ b = rb) w19 w19 := Upd.refl _ _
  have hC_18 : Upd (fun b => b = vb ∨ b = rb) w18 w19 := hV19.trans hC_19
  have hC_2 : Upd (fun b => b = vb ∨ b = rb) w2 w19 := hV18.trans hC_18
  have hC_1 : Upd (fun b => b = vb ∨ b = rb) w1 w19 := hV2.trans hC_2
  have hR : RepS true (d + 2) fs_DeleteACLsRequest (fun b => ok b ∨ w1.heap.size ≤ b) w19 (.mk 0 [] false [x_0] []) [.slice aa0 N0 qq0,.map none] := RepS.introT (c := [.slice aa0 N0 qq0]) (RepL.cons1 (hf_0.keepS (hC_19.keeps fun b _ hk e => (hoM b hk) e)) RepL.nil) hTg
  repeat ((first | refine qA rfl ?_|refine qB ?_|refine qC rfl ?_|refine qD ?_|refine qE ?_|refine qF ?_|refine qG ?_|refine qH ?_);try simp (maxSteps:=1000000)(disch:=(first|omega|(simp only [qI,qJ,qK]<;>omega)|exact qL _)) only [go_sem,↓reduceIte,n0,reduceCtorEq,n1,n2,n3,n4,n5,i0,i1,i2,i3,i4,i5,i6,i7,hv_19,hrd0_2,hrd0_7,hrd0_8,hrd0_9,hrd0_10,hrd0_13,hrd0_12])
  refine (RComplete_fn w19 hq19.1 hG19.2).mono ?_
  rintro _ wz ⟨rfl,hez⟩
  rw [hez]
  repeat ((first | refine qA rfl ?_|refine qB ?_|refine qC rfl ?_|refine qD ?_|refine qE ?_|refine qF ?_|refine qG ?_|refine qH ?_);try simp (maxSteps:=1000000)(disch:=(first|omega|(simp only [qI,qJ,qK]<;>omega)|exact qL _)) only [go_sem,↓reduceIte,n0,reduceCtorEq,n1,n2,n3,n4,n5,i0,i1,i2,i3,i4,i5,i6,i7,hv_19,hrd0_2,hrd0_7,hrd0_8,hrd0_9,hrd0_10,hrd0_13,hrd0_12])
  rw [hfin]
  refine ⟨fun h => ?_,fun h => ⟨?_,[.slice aa0 N0 qq0,.map none],hv_19,?_⟩,?_⟩
  · have h' : s9 = none := h
    rw [h'];rfl
  · cases hsn : s9 with
    | none => exact absurd hsn h
    | some x => rfl
  · exact (RepS_lay true (d + 2) fs_DeleteACLsRequest).weaken hR fun b _ hk => hk.imp id fun h => by omega
  · exact hbase.trans' hU19 fun i hi h => h.elim id fun h => by omega
end Ms

