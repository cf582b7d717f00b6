/- A part of the proof: see the last text. -/
import Derived.Test.YtkoeaaababfjkaaGreatDoorC07
import Derived.Test.YtkoeaaababfjkaaGreatDoorC09
import Derived.Test.YtkoeaaababfjkaaGreatDoorC10
set_option linter.unusedSimpArgs false
set_option linter.unusedVariables false
namespace Ms
open Nat renaming reduceEqDiff → n0,reduceAdd → n1,reduceMul → n2,reduceSub → n3,reduceLT → n4,reduceLeDiff → n5
open Int renaming reduceEq → i0,reduceLT → i1,reduceLE → i2,reduceNeg → i3,reduceAdd → i4,reduceSub → i5,reduceMul → i6,reduceToNat → i7
set_option maxRecDepth 4000
open Go Go.Proofs
theorem ca_10 : callable Tryz.prog 10 = true := nr (by kernel_rfl)
theorem ca_104 : callable Tryz.prog 104 = true := nr (by kernel_rfl)
theorem ca_105 : callable Tryz.prog 105 = true := nr (by kernel_rfl)
theorem ca_112 : callable Tryz.prog 112 = true := nr (by kernel_rfl)
theorem ca_113 : callable Tryz.prog 113 = true := nr (by kernel_rfl)
theorem ca_114 : callable Tryz.prog 114 = true := nr (by kernel_rfl)
theorem ca_115 : callable Tryz.prog 115 = true := nr (by kernel_rfl)
theorem ca_13 : callable Tryz.prog 13 = true := nr (by kernel_rfl)
theorem ca_130 : callable Tryz.prog 130 = true := nr (by kernel_rfl)
theorem ca_131 : callable Tryz.prog 131 = true := nr (by kernel_rfl)
theorem ca_132 : callable Tryz.prog 132 = true := nr (by kernel_rfl)
theorem ca_133 : callable Tryz.prog 133 = true := nr (by kernel_rfl)
theorem ca_134 : callable Tryz.prog 134 = true := nr (by kernel_rfl)
theorem ca_135 : callable Tryz.prog 135 = true := nr (by kernel_rfl)
theorem ca_14 : callable Tryz.prog 14 = true := nr (by kernel_rfl)
theorem ca_142 : callable Tryz.prog 142 = true := nr (by kernel_rfl)
theorem ca_143 : callable Tryz.prog 143 = true := nr (by kernel_rfl)
theorem ca_144 : callable Tryz.prog 144 = true := nr (by kernel_rfl)
theorem ca_146 : callable Tryz.prog 146 = true := nr (by kernel_rfl)
theorem ca_147 : callable Tryz.prog 147 = true := nr (by kernel_rfl)
theorem ca_148 : callable Tryz.prog 148 = true := nr (by kernel_rfl)
theorem ca_149 : callable Tryz.prog 149 = true := nr (by kernel_rfl)
theorem ca_154 : callable Tryz.prog 154 = true := nr (by kernel_rfl)
theorem ca_155 : callable Tryz.prog 155 = true := nr (by kernel_rfl)
theorem ca_156 : callable Tryz.prog 156 = true := nr (by kernel_rfl)
theorem ca_29 : callable Tryz.prog 29 = true := nr (by kernel_rfl)
theorem ca_30 : callable Tryz.prog 30 = true := nr (by kernel_rfl)
theorem ca_31 : callable Tryz.prog 31 = true := nr (by kernel_rfl)
theorem ca_65 : callable Tryz.prog 65 = true := nr (by kernel_rfl)
theorem ca_66 : callable Tryz.prog 66 = true := nr (by kernel_rfl)
theorem ca_67 : callable Tryz.prog 67 = true := nr (by kernel_rfl)
theorem ca_68 : callable Tryz.prog 68 = true := nr (by kernel_rfl)
theorem ca_69 : callable Tryz.prog 69 = true := nr (by kernel_rfl)
theorem ca_70 : callable Tryz.prog 70 = true := nr (by kernel_rfl)
theorem ca_90 : callable Tryz.prog 90 = true := nr (by kernel_rfl)
theorem ca_91 : callable Tryz.prog 91 = true := nr (by kernel_rfl)
theorem ca_93 : callable Tryz.prog 93 = true := nr (by kernel_rfl)
theorem ca_94 : callable Tryz.prog 94 = true := nr (by kernel_rfl)
theorem es_121 : elemSize Tryz.prog 121 = some 3 := nr (by kernel_rfl)
theorem fo_123_0 : fieldOff Tryz.prog 123 0 = some 0 := nr (by kernel_rfl)
theorem fo_123_1 : fieldOff Tryz.prog 123 1 = some 1 := nr (by kernel_rfl)
theorem fo_123_2 : fieldOff Tryz.prog 123 2 = some 2 := nr (by kernel_rfl)
theorem fo_123_3 : fieldOff Tryz.prog 123 3 = some 3 := nr (by kernel_rfl)
theorem fo_123_4 : fieldOff Tryz.prog 123 4 = some 4 := nr (by kernel_rfl)
theorem fo_123_5 : fieldOff Tryz.prog 123 5 = some 5 := nr (by kernel_rfl)
theorem fo_123_6 : fieldOff Tryz.prog 123 6 = some 6 := nr (by kernel_rfl)
theorem fo_123_7 : fieldOff Tryz.prog 123 7 = some 7 := nr (by kernel_rfl)
theorem fo_123_8 : fieldOff Tryz.prog 123 8 = some 8 := nr (by kernel_rfl)
theorem fo_126_0 : fieldOff Tryz.prog 126 0 = some 0 := nr (by kernel_rfl)
theorem fo_126_1 : fieldOff Tryz.prog 126 1 = some 1 := nr (by kernel_rfl)
theorem fo_126_2 : fieldOff Tryz.prog 126 2 = some 2 := nr (by kernel_rfl)
theorem if_49 : isIfaceT Tryz.prog 49 = true := nr (by kernel_rfl)
theorem ld_121 (w : World) (b o : Nat) : loadOf Tryz.prog 121 w ⟨b,o,none⟩ = (blk w b).bind fun x => x.1[o]? := loadOf_one (by kernel_rfl) w b o
theorem ld_21 (w : World) (b o : Nat) : loadOf Tryz.prog 21 w ⟨b,o,none⟩ = (blk w b).bind fun x => x.1[o]? := loadOf_one (by kernel_rfl) w b o
theorem ld_31 (w : World) (b o : Nat) : loadOf Tryz.prog 31 w ⟨b,o,none⟩ = (blk w b).bind fun x => cellsAt x.1 o 2 := loadOf_agg (by kernel_rfl) w b o
theorem ld_40 (w : World) (b o : Nat) : loadOf Tryz.prog 40 w ⟨b,o,none⟩ = (blk w b).bind fun x => x.1[o]? := loadOf_one (by kernel_rfl) w b o
theorem ld_69 (w : World) (b o : Nat) : loadOf Tryz.prog 69 w ⟨b,o,none⟩ = (blk w b).bind fun x => x.1[o]? := loadOf_one (by kernel_rfl) w b o
theorem pl_153 : placesOf Tryz.prog 153 = some [(0,1),(1,1)] := nr (by kernel_rfl)
theorem pl_31 : placesOf Tryz.prog 31 = some [(0,1),(1,1)] := nr (by kernel_rfl)
theorem pl_45 : placesOf Tryz.prog 45 = some [(0,1),(1,1),(2,1),(3,1),(4,1),(5,1),(6,1),(7,1)] := nr (by kernel_rfl)
theorem se_29 : slElem Tryz.prog 29 = some (45,8) := nr (by kernel_rfl)
theorem sl_121 : isSliceT Tryz.prog 121 = true := nr (by kernel_rfl)
theorem sz_121 (w : World) (b o : Nat) (v : Value) : storeOf Tryz.prog 121 w ⟨b,o,none⟩ v = (blk w b).bind fun x => stO w b o v x 1 := storeOf_n (by kernel_rfl) w b o v
theorem sz_153 (w : World) (b o : Nat) (v : Value) : storeOf Tryz.prog 153 w ⟨b,o,none⟩ v = (blk w b).bind fun x => stO w b o v x 2 := storeOf_n (by kernel_rfl) w b o v
theorem sz_21 (w : World) (b o : Nat) (v : Value) : storeOf Tryz.prog 21 w ⟨b,o,none⟩ v = (blk w b).bind fun x => stO w b o v x 1 := storeOf_n (by kernel_rfl) w b o v
theorem sz_31 (w : World) (b o : Nat) (v : Value) : storeOf Tryz.prog 31 w ⟨b,o,none⟩ v = (blk w b).bind fun x => stO w b o v x 2 := storeOf_n (by kernel_rfl) w b o v
theorem sz_40 (w : World) (b o : Nat) (v : Value) : storeOf Tryz.prog 40 w ⟨b,o,none⟩ v = (blk w b).bind fun x => stO w b o v x 1 := storeOf_n (by kernel_rfl) w b o v
theorem sz_69 (w : World) (b o : Nat) (v : Value) : storeOf Tryz.prog 69 w ⟨b,o,none⟩ v = (blk w b).bind fun x => stO w b o v x 1 := storeOf_n (by kernel_rfl) w b o v
theorem z_123 : zeroOf Tryz.prog 123 = some #[.int .i16 0,.string ByteArray.empty,.int .i32 0,.string ByteArray.empty,.pointer none,.pointer none,.pointer none,.slice none 0 0,.map none] := nr (by kernel_rfl)
theorem z_153 : zeroOf Tryz.prog 153 = some #[.slice none 0 0,.bool false] := nr (by kernel_rfl)
theorem z_31 : zeroOf Tryz.prog 31 = some #[.slice none 0 0,.int .i64 0] := nr (by kernel_rfl)
attribute [go_sem] ca_10 ca_104 ca_105 ca_112 ca_113 ca_114 ca_115 ca_13 ca_130 ca_131 ca_132 ca_133 ca_134 ca_135 ca_14 ca_142 ca_143 ca_144 ca_146 ca_147 ca_148 ca_149 ca_154 ca_155 ca_156 ca_29 ca_30 ca_31 ca_65 ca_66 ca_67 ca_68 ca_69 ca_70 ca_90 ca_91 ca_93 ca_94 es_121 fo_123_0 fo_123_1 fo_123_2 fo_123_3 fo_123_4 fo_123_5 fo_123_6 fo_123_7 fo_123_8 fo_126_0 fo_126_1 fo_126_2 if_49 ld_121 ld_21 ld_31 ld_40 ld_69 pl_153 pl_31 pl_45 se_29 sl_121 sz_121 sz_153 sz_21 sz_31 sz_40 sz_69 z_123 z_153 z_31
end Ms

namespace Ms
open Go.World renaming size_alloc → qI
open Ms renaming size_wr → qJ,size_drew → qK,not_noB → qL
open W renaming seqR → qA,seq → qB,regR → qC,condK → qD,block → qE,skip → qF,ret → qG,exit → qH
open Nat renaming reduceEqDiff → n0,reduceAdd → n1,reduceMul → n2,reduceSub → n3,reduceLT → n4,reduceLeDiff → n5
open Int renaming reduceEq → i0,reduceLT → i1,reduceLE → i2,reduceNeg → i3,reduceAdd → i4,reduceSub → i5,reduceMul → i6,reduceToNat → i7
set_option maxRecDepth 8000
open Go Go.Proofs Go.Shelf
attribute [local congr] W_congr WPsq_congr WPp_congr optK_congr addrK_congr intK_congr boolK_congr sliceK_congr tupleK_congr funcK_congr Fn_congr rawK_congr takeK_congr stepK_congr convK_congr aggK_congr

def fX0_0 : Fld := .mk 8 0 (-1) (-1) (-1) 0 0 []
def fX0_1 : Fld := .mk 9 0 (-1) (-1) (-1) 0 0 []
def fs_X0 : List Fld := [fX0_0,fX0_1]
def fSyncGroupRequest_0 : Fld := .mk 8 0 (-1) (-1) (-1) 0 0 []
def fSyncGroupRequest_1 : Fld := .mk 3 0 (-1) (-1) (-1) 0 0 []
def fSyncGroupRequest_2 : Fld := .mk 8 0 (-1) (-1) (-1) 0 0 []
def fSyncGroupRequest_3 : Fld := .mk 8 3 (-1) 3 (-1) 0 0 []
def fSyncGroupRequest_4 : Fld := .mk 8 5 (-1) 5 (-1) 0 0 []
def fSyncGroupRequest_5 : Fld := .mk 8 5 (-1) 5 (-1) 0 0 []
def fSyncGroupRequest_6 : Fld := .mk 11 0 (-1) (-1) (-1) 0 10 fs_X0
def fs_SyncGroupRequest : List Fld := [fSyncGroupRequest_0,fSyncGroupRequest_1,fSyncGroupRequest_2,fSyncGroupRequest_3,fSyncGroupRequest_4,fSyncGroupRequest_5,fSyncGroupRequest_6]

set_option maxHeartbeats 4000000 in
theorem cX0_fn (w : World) : Fn Tryz.prog 67 #[] w fun r w' => FldsV (fun b => w.heap.size ≤ b) w' r fs_X0 ∧ Ext w w' := by
  refine fn_of_W Tryz.func67 rfl Tryz.results67 Tryz.ntmps67 rfl ?_
  repeat ((first | refine qA rfl ?_|refine qB ?_|refine qC rfl ?_|refine qD ?_|refine qE ?_|refine qF ?_|refine qG ?_|refine qH ?_);try simp (maxSteps:=1000000)(disch:=(first|omega|(simp only [qI,qJ,qK]<;>omega)|exact qL _)) only [go_sem,↓reduceIte,n0,reduceCtorEq,n1,n2,n3,n4,n5,i0,i1,i2,i3,i4,i5,i6,i7,fill_fld,fillN_nil,fillN_int,fillN_slice])
  repeat ((first | refine qA rfl ?_|refine qB ?_|refine qC rfl ?_|refine qD ?_|refine qE ?_|refine qF ?_|refine qG ?_|refine qH ?_);try simp (maxSteps:=1000000)(disch:=(first|omega|(simp only [qI,qJ,qK]<;>omega)|exact qL _)) only [go_sem,↓reduceIte,n0,reduceCtorEq,n1,n2,n3,n4,n5,i0,i1,i2,i3,i4,i5,i6,i7,fill_fld,fillN_nil,fillN_int,fillN_slice])
  exact ⟨FldsV.litO (fs := fs_X0) (css := [[.int .i64 8,.int .i64 0,.int .i64 (-1),.int .i64 (-1),.int .i64 (-1),.int .i64 0,.int .i64 0,.slice none 0 0],[.int .i64 9,.int .i64 0,.int .i64 (-1),.int .i64 (-1),.int .i64 (-1),.int .i64 0,.int .i64 0,.slice none 0 0]]) (T := 45) (fr := (0,0)) (by first | omega | (simp only [World.size_alloc];omega)) (by first | (simp (maxSteps:=1000000)(disch:=(first|omega|(simp only [qI,qJ,qK]<;>omega)|exact qL _)) only [go_sem,↓reduceIte,n0,reduceCtorEq,n1,n2,n3,n4,n5,i0,i1,i2,i3,i4,i5,i6,i7];rfl) | rfl) (by simp) (All2.cons (FldC.intro (kind := 8) (FldsV.none _ _)) (All2.cons (FldC.intro (kind := 9) (FldsV.none _ _)) All2.nil)),(Upd.alloc (Upd.refl _ w) _)⟩

set_option maxHeartbeats 4000000 in
theorem cSyncGroupRequest_fn (w : World) : Fn Tryz.prog 30 #[] w fun r w' => (∃ vs,r = .agg #[vs,.int .i64 4] ∧ FldsV (fun b => w.heap.size ≤ b) w' vs fs_SyncGroupRequest) ∧ Ext w w' := by
  refine fn_of_W Tryz.func30 rfl Tryz.results30 Tryz.ntmps30 rfl ?_
  repeat ((first | refine qA rfl ?_|refine qB ?_|refine qC rfl ?_|refine qD ?_|refine qE ?_|refine qF ?_|refine qG ?_|refine qH ?_);try simp (maxSteps:=1000000)(disch:=(first|omega|(simp only [qI,qJ,qK]<;>omega)|exact qL _)) only [go_sem,↓reduceIte,n0,reduceCtorEq,n1,n2,n3,n4,n5,i0,i1,i2,i3,i4,i5,i6,i7,fill_fld,fillN_nil,fillN_int,fillN_slice])
  have hz0 : (w.alloc (.cells #[.slice none 0 0,.int .i64 0] 31)).heap.size = w.heap.size + 1 := World.size_alloc _ _
  refine (cX0_fn _).mono ?_
  rintro r1 w1 ⟨hF1,hE1⟩
  obtain ⟨b1,k1,rfl,_⟩ := SlR.shape hF1
  have hz1 := hE1.size
  have hD1 : Ext w w1 := Upd.trans (Upd.alloc (Upd.refl _ _) _) hE1
  have hb1 : blk w1 w.heap.size = some (#[.slice none 0 0,.int .i64 0],31,(0,0)) := hE1.blk_some (blk_alloc_new rfl) id
  simp (maxSteps:=1000000)(disch:=(first|omega|(simp only [qI,qJ,qK]<;>omega)|exact qL _)) only [go_sem,↓reduceIte,n0,reduceCtorEq,n1,n2,n3,n4,n5,i0,i1,i2,i3,i4,i5,i6,i7,fill_fld,fillN_nil,fillN_int,fillN_slice,hb1]
  have hvl := blk_lt hb1
  repeat ((first | refine qA rfl ?_|refine qB ?_|refine qC rfl ?_|refine qD ?_|refine qE ?_|refine qF ?_|refine qG ?_|refine qH ?_);try simp (maxSteps:=1000000)(disch:=(first|omega|(simp only [qI,qJ,qK]<;>omega)|exact qL _)) only [go_sem,↓reduceIte,n0,reduceCtorEq,n1,n2,n3,n4,n5,i0,i1,i2,i3,i4,i5,i6,i7,fill_fld,fillN_nil,fillN_int,fillN_slice,hb1])
  exact ⟨⟨_,rfl,FldsV.litO (fs := fs_SyncGroupRequest) (css := [[.int .i64 8,.int .i64 0,.int .i64 (-1),.int .i64 (-1),.int .i64 (-1),.int .i64 0,.int .i64 0,.slice none 0 0],[.int .i64 3,.int .i64 0,.int .i64 (-1),.int .i64 (-1),.int .i64 (-1),.int .i64 0,.int .i64 0,.slice none 0 0],[.int .i64 8,.int .i64 0,.int .i64 (-1),.int .i64 (-1),.int .i64 (-1),.int .i64 0,.int .i64 0,.slice none 0 0],[.int .i64 8,.int .i64 3,.int .i64 (-1),.int .i64 3,.int .i64 (-1),.int .i64 0,.int .i64 0,.slice none 0 0],[.int .i64 8,.int .i64 5,.int .i64 (-1),.int .i64 5,.int .i64 (-1),.int .i64 0,.int .i64 0,.slice none 0 0],[.int .i64 8,.int .i64 5,.int .i64 (-1),.int .i64 5,.int .i64 (-1),.int .i64 0,.int .i64 0,.slice none 0 0],[.int .i64 11,.int .i64 0,.int .i64 (-1),.int .i64 (-1),.int .i64 (-1),.int .i64 0,.int .i64 10,.slice b1 fs_X0.length k1]]) (T := 45) (fr := (0,0)) (by first | omega | (simp only [World.size_alloc];omega)) (by first | (simp (maxSteps:=1000000)(disch:=(first|omega|(simp only [qI,qJ,qK]<;>omega)|exact qL _)) only [go_sem,↓reduceIte,n0,reduceCtorEq,n1,n2,n3,n4,n5,i0,i1,i2,i3,i4,i5,i6,i7];rfl) | rfl) (by simp) (All2.cons (FldC.intro (kind := 8) (FldsV.none _ _)) (All2.cons (FldC.intro (kind := 3) (FldsV.none _ _)) (All2.cons (FldC.intro (kind := 8) (FldsV.none _ _)) (All2.cons (FldC.intro (kind := 8) (FldsV.none _ _)) (All2.cons (FldC.intro (kind := 8) (FldsV.none _ _)) (All2.cons (FldC.intro (kind := 8) (FldsV.none _ _)) (All2.cons (FldC.intro (kind := 11) (hF1.stay (B := w.heap.size) (Upd.wr (Upd.alloc (Upd.refl _ _) _) _ _ (.inr rfl)) (by omega) (fun b hb => by omega))) All2.nil)))))))⟩,(Upd.wr (Upd.alloc hD1 _) _ _ (.inl (Nat.le_refl _)))⟩

theorem DefaultSyncGroupRequest_fn (w : World) {vb : Nat} {c0 c1 c2 c3 c4 c5 c6 c7 c8 : Value} (hb : blk w vb = some (#[c0,c1,c2,c3,c4,c5,c6,c7,c8],123,(0,0))) :
    Fn Tryz.prog 112 #[.pointer (some ⟨vb,0,none⟩)] w fun _ w' => blk w' vb = some (#[c0,c1,c2,c3,c4,c5,c6,c7,c8],123,(0,0)) ∧ Upd (fun b => b = vb) w w' := by
  have hvl := blk_lt hb
  refine fn_of_W Tryz.func112 rfl Tryz.results112 Tryz.ntmps112 rfl ?_
  repeat ((first | refine qA rfl ?_|refine qB ?_|refine qC rfl ?_|refine qD ?_|refine qE ?_|refine qF ?_|refine qG ?_|refine qH ?_);try simp (maxSteps:=1000000)(disch:=(first|omega|(simp only [qI,qJ,qK]<;>omega)|exact qL _)) only [go_sem,↓reduceIte,n0,reduceCtorEq,n1,n2,n3,n4,n5,i0,i1,i2,i3,i4,i5,i6,i7,hb])
  first | exact Upd.refl _ _ | exact ⟨hb,Upd.refl _ _⟩

theorem NewPtrSyncGroupRequest_fn (w : World) : Fn Tryz.prog 65 #[] w fun r w' => r = .pointer (some ⟨w.heap.size,0,none⟩) ∧ blk w' w.heap.size = some (#[.int .i16 0,.string ByteArray.empty,.int .i32 0,.string ByteArray.empty,.pointer none,.pointer none,.pointer none,.slice none 0 0,.map none],123,(0,0)) ∧ Ext w w' := by
  refine fn_of_W Tryz.func65 rfl Tryz.results65 Tryz.ntmps65 rfl ?_
  repeat ((first | refine qA rfl ?_|refine qB ?_|refine qC rfl ?_|refine qD ?_|refine qE ?_|refine qF ?_|refine qG ?_|refine qH ?_);try simp (maxSteps:=1000000)(disch:=(first|omega|(simp only [qI,qJ,qK]<;>omega)|exact qL _)) only [go_sem,↓reduceIte,n0,reduceCtorEq,n1,n2,n3,n4,n5,i0,i1,i2,i3,i4,i5,i6,i7])
  refine (DefaultSyncGroupRequest_fn _ (blk_alloc_new rfl)).mono ?_
  rintro _ w1 ⟨hb1,hU1⟩
  have hz := World.size_alloc w (.cells #[.int .i16 0,.string ByteArray.empty,.int .i32 0,.string ByteArray.empty,.pointer none,.pointer none,.pointer none,.slice none 0 0,.map none] 123)
  repeat ((first | refine qA rfl ?_|refine qB ?_|refine qC rfl ?_|refine qD ?_|refine qE ?_|refine qF ?_|refine qG ?_|refine qH ?_);try simp (maxSteps:=1000000)(disch:=(first|omega|(simp only [qI,qJ,qK]<;>omega)|exact qL _)) only [go_sem,↓reduceIte,n0,reduceCtorEq,n1,n2,n3,n4,n5,i0,i1,i2,i3,i4,i5,i6,i7])
  exact ⟨hb1,(Upd.alloc (Upd.refl _ _) _ : Ext w _).more hU1 fun b hb h => by omega⟩

theorem SetVersionSyncGroupRequest_fn (w : World) {vb : Nat} {c0 c1 c2 c3 c4 c5 c6 c7 c8 : Value} (n : Int) (hb : blk w vb = some (#[c0,c1,c2,c3,c4,c5,c6,c7,c8],123,(0,0))) :
    Fn Tryz.prog 68 #[.pointer (some ⟨vb,0,none⟩),.int .i16 n] w fun _ w' => blk w' vb = some (#[.int .i16 n,c1,c2,c3,c4,c5,c6,c7,c8],123,(0,0)) ∧ Upd (fun b => b = vb) w w' := by
  have hvl := blk_lt hb
  refine fn_of_W Tryz.func68 rfl Tryz.results68 Tryz.ntmps68 rfl ?_
  repeat ((first | refine qA rfl ?_|refine qB ?_|refine qC rfl ?_|refine qD ?_|refine qE ?_|refine qF ?_|refine qG ?_|refine qH ?_);try simp (maxSteps:=1000000)(disch:=(first|omega|(simp only [qI,qJ,qK]<;>omega)|exact qL _)) only [go_sem,↓reduceIte,n0,reduceCtorEq,n1,n2,n3,n4,n5,i0,i1,i2,i3,i4,i5,i6,i7,hb])
  first | exact Upd.wr (Upd.refl _ _) _ _ (.inr rfl) | exact ⟨by simp (maxSteps:=1000000)(disch:=(first|omega|(simp only [qI,qJ,qK]<;>omega)|exact qL _)) only [go_sem,↓reduceIte,n0,reduceCtorEq,n1,n2,n3,n4,n5,i0,i1,i2,i3,i4,i5,i6,i7,hb],Upd.wr (Upd.refl _ _) _ _ (.inr rfl)⟩

theorem MaxSyncGroupRequest_fn (w : World) : Fn Tryz.prog 29 #[] w fun r w' => r = .int .i64 5 ∧ Ext w w' := by
  refine fn_of_W Tryz.func29 rfl Tryz.results29 Tryz.ntmps29 rfl ?_
  repeat ((first | refine qA rfl ?_|refine qB ?_|refine qC rfl ?_|refine qD ?_|refine qE ?_|refine qF ?_|refine qG ?_|refine qH ?_);try simp (maxSteps:=1000000)(disch:=(first|omega|(simp only [qI,qJ,qK]<;>omega)|exact qL _)) only [go_sem,↓reduceIte,n0,reduceCtorEq,n1,n2,n3,n4,n5,i0,i1,i2,i3,i4,i5,i6,i7])
  refine (NewPtrSyncGroupRequest_fn w).mono ?_
  rintro _ w1 ⟨rfl,hb1,hE1⟩
  repeat ((first | refine qA rfl ?_|refine qB ?_|refine qC rfl ?_|refine qD ?_|refine qE ?_|refine qF ?_|refine qG ?_|refine qH ?_);try simp (maxSteps:=1000000)(disch:=(first|omega|(simp only [qI,qJ,qK]<;>omega)|exact qL _)) only [go_sem,↓reduceIte,n0,reduceCtorEq,n1,n2,n3,n4,n5,i0,i1,i2,i3,i4,i5,i6,i7])
  have hm : Fn Tryz.prog 66 #[.pointer (some ⟨w.heap.size,0,none⟩)] w1 fun r w' => r = .int .i16 5 ∧ w' = w1 := by
    refine fn_of_W Tryz.func66 rfl Tryz.results66 Tryz.ntmps66 rfl ?_
    repeat ((first | refine qA rfl ?_|refine qB ?_|refine qC rfl ?_|refine qD ?_|refine qE ?_|refine qF ?_|refine qG ?_|refine qH ?_);try simp (maxSteps:=1000000)(disch:=(first|omega|(simp only [qI,qJ,qK]<;>omega)|exact qL _)) only [go_sem,↓reduceIte,n0,reduceCtorEq,n1,n2,n3,n4,n5,i0,i1,i2,i3,i4,i5,i6,i7])
  refine hm.mono ?_
  rintro _ w2 ⟨rfl,rfl⟩
  have ew : IntKind.i64.wrap (5 : Int) = 5 := i64_wrap (by decide)
  repeat ((first | refine qA rfl ?_|refine qB ?_|refine qC rfl ?_|refine qD ?_|refine qE ?_|refine qF ?_|refine qG ?_|refine qH ?_);try simp (maxSteps:=1000000)(disch:=(first|omega|(simp only [qI,qJ,qK]<;>omega)|exact qL _)) only [go_sem,↓reduceIte,n0,reduceCtorEq,n1,n2,n3,n4,n5,i0,i1,i2,i3,i4,i5,i6,i7,ew])
  exact hE1
end Ms

namespace Ms
open Go

structure LstI (T : TypeId) (r : St → Tree × St) (rel : Rel Tree) (size : Nat) (E : TypeId) (zc : List Value) (L N : Nat) (ok okE : Blocks) (rb : Nat) (wa : World) (sA : St) (va : Value) (j : Nat) (s : St) (xs : List Tree) (css : List (List Value)) (w : World) : Prop where
  le : j ≤ N
  row : RowJ size E zc L N j va css w
  all : All2 (rel (fun b => okE b ∧ ¬ ownB va b) w) xs css
  rd : Rdr T ok w rb s ∧ NN w rb s
  upd : Upd (fun b => b = rb) wa w
  eq : rdMany r N sA = (xs ++ (rdMany r (N - j) s).1,(rdMany r (N - j) s).2)
section
variable {T : TypeId} {r : St → Tree × St} {rel : Rel Tree} {size : Nat} {E : TypeId} {zc : List Value} {L N : Nat} {ok okE : Blocks} {rb : Nat} {wa : World} {sA : St} {va : Value} {j : Nat} {s : St} {xs : List Tree} {css : List (List Value)} {w w' : World}
theorem LstI.start (h : RowJ size E zc L N 0 va [] w) (hr : Rdr T ok w rb sA ∧ NN w rb sA) (hu : Upd (fun b => b = rb) wa w) : LstI T r rel size E zc L N ok okE rb wa sA va 0 sA [] [] w :=
  ⟨Nat.zero_le _,h,⟨rfl,fun i h => by simp at h⟩,hr,hu,by simp⟩
theorem RowJ.own (h : RowJ size E zc L N j va css w) {b : Nat} (hb : ownB va b) : L ≤ b ∧ b < w.heap.size := by
  obtain ⟨a,n,c,he,rfl⟩ := hb
  rcases h.row with ⟨_,a',h1,h2⟩ | ⟨_,R,q,rest,h1,_,hL,hbk⟩
  · rw [he] at h1;cases h1;exact h2 _ rfl
  · rw [he] at h1;cases h1;exact ⟨hL,blk_lt hbk⟩
theorem LstI.step (hR : Lay rel size) (h : LstI T r rel size E zc L N ok okE rb wa sA va j s xs css w) (hj : j < N) {c : List Value} (row : RowJ size E zc L N (j + 1) va (css ++ [c]) w') (hx : rel (fun b => okE b ∧ ¬ ownB va b) w' (r s).1 c)
    (u : Upd (fun b => ownB va b ∨ b = rb) w w') (rd : Rdr T ok w' rb (r s).2 ∧ NN w' rb (r s).2) (hok : ¬ okE rb) (hL : wa.heap.size ≤ L) : LstI T r rel size E zc L N ok okE rb wa sA va (j + 1) (r s).2 (xs ++ [(r s).1]) (css ++ [c]) w' := by
  refine ⟨hj,row,(h.all.imp fun x y hxy => hR.keep hxy (u.keeps fun b _ hk e => ?_)).snoc hx,rd,?_,rdMany_step h.eq hj⟩
  · rcases e with e | e
    · exact hk.2 e
    · exact hok (e ▸ hk.1)
  · refine h.upd.trans' u fun i hi e => ?_
    rcases e with e | e
    · have := (h.row.own e).1;omega
    · exact e
theorem LstI.done (h : LstI T r rel size E zc L N ok okE rb wa sA va N s xs css w) : rdMany r N sA = (xs,s) := by
  have := h.eq
  rw [Nat.sub_self] at this
  simpa [rdMany] using this
theorem LstI.bad (h : LstI T r rel size E zc L N ok okE rb wa sA va j s xs css w) (hj : j < N) (hn : (r none).2 = none) (hb : (r s).2 = none) : (rdMany r N sA).2 = none := by
  rw [rdMany_step h.eq hj,hb]
  exact rdMany_none hn _
end
theorem rdP_bad {d : Nat} {v : Int} {flex : Bool} {fs : List Fld} {s : St} (h : (rdL (rdP d v flex) (dfP d) v flex fs s).2 = none) : (rdP (d + 1) v flex fs s).2 = none := by
  rw [rdP]
  split
  · rw [h];exact rdTags_none
  · exact h
theorem rdL_bad {d : Nat} {v : Int} {flex : Bool} {f : Fld} {fs : List Fld} {s : St} (h : (rdF (rdP d v flex) v flex f s).2 = none) : (rdL (rdP d v flex) (dfP d) v flex fs (rdF (rdP d v flex) v flex f s).2).2 = none := by
  rw [h];exact rdL_none (rdP_none v flex d) v flex fs
theorem rdF_listbad {d : Nat} {v : Int} {flex : Bool} {f : Fld} {s : St} (hk : f.kind = 11) (h : (rdMany (rd1 (rdP d v flex) f.of f.sub false flex) (rdALen flex s).1.toNat (rdALen flex s).2).2 = none) : (rdF (rdP d v flex) v flex f s).2 = none := by
  unfold rdF
  rw [if_pos hk]
  exact h
theorem rd1P_none {d : Nat} {v : Int} {flex : Bool} {k : Int} {sub : List Fld} : (rd1 (rdP d v flex) k sub false flex none).2 = none := rd1_none (rdP_none v flex d) _ _ _ _
theorem rdALen_rng (flex : Bool) (st : St) : -2147483648 ≤ (rdALen flex st).1 ∧ (rdALen flex st).1 < 2147483648 := by
  have key : ∀ n : Int,-2147483648 ≤ IntKind.i32.wrap n ∧ IntKind.i32.wrap n < 2147483648 := fun n => by
    unfold IntKind.wrap;simp [IntKind.bits,IntKind.signed];split <;> omega
  have h2 : -2147483648 ≤ (rdCnt flex st).1 ∧ (rdCnt flex st).1 < 2147483648 := by
    cases flex
    · rw [rdCnt_f];unfold rdInt;exact key _
    · rw [rdCnt_t];exact key _
  unfold rdALen
  split
  · exact ⟨by decide,by decide⟩
  · exact h2
theorem rdF_listE {pt : List Fld → St → Tree × St} {v : Int} {flex : Bool} {f : Fld} {s e : St} {xs : List Tree} (hk : f.kind = 11) (h : rdMany (rd1 pt f.of f.sub false flex) (rdALen flex s).1.toNat (rdALen flex s).2 = (xs,e)) : rdF pt v flex f s = (.mk 0 [] (nilS f v (rdALen flex s).1) xs [],e) := by
  unfold rdF
  rw [if_pos hk]
  unfold rdList
  rw [h]
def Holds : List (Nat × Value) → Regs → Prop
  | [],_ => True
  | p :: l,ρ => ρ p.1 = p.2 ∧ Holds l ρ
theorem Holds_nil (ρ : Regs) : Holds [] ρ = True := nr rfl
theorem Holds_cons (r : Nat) (v : Value) (l : List (Nat × Value)) (ρ : Regs) : Holds ((r,v) :: l) ρ = (ρ r = v ∧ Holds l ρ) := nr rfl
def RowQ (l : List (Nat × Value)) (ra : Nat) (I : Value → World → Prop) (ρ : Regs) (w : World) : Prop := Holds l ρ ∧ ∃ v,ρ ra = v ∧ I v w
def LoopQ (l : List (Nat × Value)) (ri : Nat) (I : Nat → World → Prop) (ρ : Regs) (w : World) : Prop := Holds l ρ ∧ ∃ j : Nat,ρ ri = .int .i32 j ∧ I j w
def EndQ (l : List (Nat × Value)) (I : World → Prop) (ρ : Regs) (w : World) : Prop := Holds l ρ ∧ I w
theorem slBase_00 (a : Option Addr) (s : Nat) : slBase a 0 0 s = a := by
  unfold slBase
  rw [if_pos rfl]
theorem RowJ.zero {size : Nat} {E : TypeId} {zc : List Value} {L N : Nat} {w : World} {a : Option Addr} (h0 : N = 0) (h : ∀ x,a = some x → L ≤ x.block ∧ x.block < w.heap.size) : RowJ size E zc L N 0 (.slice a 0 0) [] w := ⟨rfl,by simp [Css],.inl ⟨h0,_,rfl,h⟩⟩
theorem isSome_some {s : St} (h : ¬ s = none) : s.isSome = true := by
  cases s with
  | none => exact absurd rfl h
  | some x => rfl
theorem errV_none {s : St} {ev : Value} (h : s = none) : errV ev s = ev := by subst h;rfl
end Ms

namespace Ms
open Go.World renaming size_alloc → qI
open Ms renaming size_wr → qJ,size_drew → qK,not_noB → qL
open W renaming seqR → qA,seq → qB,regR → qC,condK → qD,block → qE,skip → qF,ret → qG,exit → qH
open Nat renaming reduceEqDiff → n0,reduceAdd → n1,reduceMul → n2,reduceSub → n3,reduceLT → n4,reduceLeDiff → n5
open Int renaming reduceEq → i0,reduceLT → i1,reduceLE → i2,reduceNeg → i3,reduceAdd → i4,reduceSub → i5,reduceMul → i6,reduceToNat → i7
set_option maxRecDepth 8000
open Go Go.Proofs Go.Shelf
attribute [local congr] W_congr WPsq_congr WPp_congr optK_congr addrK_congr intK_congr boolK_congr sliceK_congr tupleK_congr funcK_congr Fn_congr rawK_congr takeK_congr stepK_congr convK_congr aggK_congr

theorem utSyncGroupRequest_121 : Tryz.prog.underlying 121 = some (.slice 126) := by kernel_rfl
theorem utSyncGroupRequest_21 : Tryz.prog.underlying 21 = some (.int .i32) := by kernel_rfl
theorem inSyncGroupRequest_126 : (Tryz.prog.info? 126).map (fun i => (i.size,i.bytes,i.zero.map (·.cells))) = some (3,48,some #[.string ByteArray.empty,.slice none 0 0,.map none]) := by kernel_rfl

theorem DefaultEX0_fn (w : World) {R k : Nat} {A B : List Value} {c0 c1 c2 : Value} {E : TypeId} (hb : blk w R = some ((A ++ ([c0,c1,c2] ++ B)).toArray,E,(0,0))) (hA : A.length = k) :
    Fn Tryz.prog 154 #[.pointer (some ⟨R,k,none⟩)] w fun _ w' => blk w' R = some ((A ++ ([c0,c1,c2] ++ B)).toArray,E,(0,0)) ∧ Upd (fun b => b = R) w w' := by
  have hRl := blk_lt hb
  obtain ⟨X,hX⟩ : ∃ X : Array Value,X = (A ++ (([c0,c1,c2] : List Value) ++ B)).toArray := ⟨_,rfl⟩
  have hXs : k + 3 ≤ X.size := by rw [hX];simp only [List.size_toArray,List.length_append,List.length_cons,List.length_nil,hA];omega
  have hb' : blk w R = some (X,E,(0,0)) := by rw [hX];exact hb
  refine fn_of_W Tryz.func154 rfl Tryz.results154 Tryz.ntmps154 rfl ?_
  repeat ((first | refine qA rfl ?_|refine qB ?_|refine qC rfl ?_|refine qD ?_|refine qE ?_|refine qF ?_|refine qG ?_|refine qH ?_);try simp (maxSteps:=1000000)(disch:=(first|omega|(simp only [qI,qJ,qK]<;>omega)|exact qL _)) only [go_sem,↓reduceIte,n0,reduceCtorEq,n1,n2,n3,n4,n5,i0,i1,i2,i3,i4,i5,i6,i7,hb',Array.size_setIfInBounds])
  first | exact ⟨hb,Upd.refl _ _⟩ | exact Upd.refl _ _ | (rw [hX];exact ⟨rfl,Upd.refl _ _⟩)
end Ms

namespace Ms
open Go.World renaming size_alloc → qI
open Ms renaming size_wr → qJ,size_drew → qK,not_noB → qL
open W renaming seqR → qA,seq → qB,regR → qC,condK → qD,block → qE,skip → qF,ret → qG,exit → qH
open Nat renaming reduceEqDiff → n0,reduceAdd → n1,reduceMul → n2,reduceSub → n3,reduceLT → n4,reduceLeDiff → n5
open Int renaming reduceEq → i0,reduceLT → i1,reduceLE → i2,reduceNeg → i3,reduceAdd → i4,reduceSub → i5,reduceMul → i6,reduceToNat → i7
set_option maxRecDepth 8000
open Go Go.Proofs Go.Shelf
attribute [local congr] W_congr WPsq_congr WPp_congr optK_congr addrK_congr intK_congr boolK_congr sliceK_congr tupleK_congr funcK_congr Fn_congr rawK_congr takeK_congr stepK_congr convK_congr aggK_congr

set_option maxHeartbeats 4000000 in
theorem readSyncGroupRequest_0 {d : Nat} {ok : Blocks} {ver : Int} {ev : Value} (hlo : 0 ≤ ver) (hhi : ver ≤ 2) (w : World) {vb : Nat} (src : Value) (s : List UInt8) (hv : blk w vb = some (#[.int .i16 ver,.string ByteArray.empty,.int .i32 0,.string ByteArray.empty,.pointer none,.pointer none,.pointer none,.slice none 0 0,.map none],123,(0,0))) (hsrc : BytesV ok w src s) (hok0 : ∀ b,ok b → b < w.heap.size ∧ b ≠ vb) (hG : Glo ev w) (hgv : ¬ 0 = vb ∧ ¬ 1 = vb) :
    Fn Tryz.prog 113 #[.pointer (some ⟨vb,0,none⟩),src,.bool false] w (ReadQ 123 ok ver (d + 2) fs_SyncGroupRequest vb w (rdP (d + 2) ver false fs_SyncGroupRequest (some s)) ev) := by
  have hvl := blk_lt hv
  have hgs := hG.lt
  obtain ⟨sa,sc,rfl,_⟩ := hsrc.shape
  refine fn_of_W Tryz.func113 rfl Tryz.results113 Tryz.ntmps113 rfl ?_
  repeat ((first | refine qA rfl ?_|refine qB ?_|refine qC rfl ?_|refine qD ?_|refine qE ?_|refine qF ?_|refine qG ?_|refine qH ?_);try simp (maxSteps:=1000000)(disch:=(first|omega|(simp only [qI,qJ,qK]<;>omega)|exact qL _)) only [go_sem,↓reduceIte,n0,reduceCtorEq,n1,n2,n3,n4,n5,i0,i1,i2,i3,i4,i5,i6,i7,hv])
  refine (DefaultSyncGroupRequest_fn w hv).mono ?_
  rintro _ w0 ⟨hv0,hu0⟩
  have hz0 := hu0.size
  have hsrc0 : BytesV ok w0 (.slice sa s.length sc) s := hsrc.keep (hu0.keeps fun b _ hk e => (hok0 b hk).2 e)
  obtain ⟨rb,hrb⟩ : ∃ r,r = w0.heap.size := ⟨_,rfl⟩
  have hE1 : Ext w0 (wr (w0.alloc (.cells #[.slice none 0 0,.bool false] 153)) w0.heap.size 0 [.slice sa s.length sc,.bool false]) := (Upd.alloc (Upd.refl _ _) _).wr _ _ (.inl (Nat.le_refl _))
  have hz1 : (wr (w0.alloc (.cells #[.slice none 0 0,.bool false] 153)) w0.heap.size 0 [.slice sa s.length sc,.bool false]).heap.size = w0.heap.size + 1 := by rw [size_wr,World.size_alloc]
  have hR1 : Rdr RT ok (wr (w0.alloc (.cells #[.slice none 0 0,.bool false] 153)) w0.heap.size 0 [.slice sa s.length sc,.bool false]) w0.heap.size (some s) := Rdr.good (v := .slice sa s.length sc) (by simp (maxSteps:=1000000)(disch:=(first|omega|(simp only [qI,qJ,qK]<;>omega)|exact qL _)) only [go_sem,↓reduceIte,n0,reduceCtorEq,n1,n2,n3,n4,n5,i0,i1,i2,i3,i4,i5,i6,i7]) (hsrc0.keep (hE1.keeps _))
  have hv_1 := hE1.blk_some hv0 id
  repeat ((first | refine qA rfl ?_|refine qB ?_|refine qC rfl ?_|refine qD ?_|refine qE ?_|refine qF ?_|refine qG ?_|refine qH ?_);try simp (maxSteps:=1000000)(disch:=(first|omega|(simp only [qI,qJ,qK]<;>omega)|exact qL _)) only [go_sem,↓reduceIte,n0,reduceCtorEq,n1,n2,n3,n4,n5,i0,i1,i2,i3,i4,i5,i6,i7,hv0])
  generalize (wr (w0.alloc (.cells #[.slice none 0 0,.bool false] 153)) w0.heap.size 0 [.slice sa s.length sc,.bool false]) = w1 at *
  rw [← hrb] at hR1
  try rw [← hrb]
  have hok : ∀ b,ok b → b < w.heap.size ∧ b ≠ vb := hok0
  have hrok : ¬ ok rb := fun h => by have := (hok rb h).1;omega
  have hbase : Upd (fun b => b = vb) w w1 := hu0.trans (hE1.mono fun _ h => h.elim)
  have hG1 : Glo ev w1 := hG.updS hbase hgv.1 hgv.2
  have hgrb : ¬ 0 = rb := by omega
  have hgM1 : ¬ (0 = vb ∨ 0 = rb) := fun h => h.elim hgv.1 fun h => by omega
  have hgM2 : ¬ (1 = vb ∨ 1 = rb) := fun h => h.elim hgv.2 fun h => by omega
  obtain ⟨s0,hs0⟩ : ∃ s' : St,s' = some s := ⟨_,rfl⟩
  rw [← hs0] at hR1 ⊢
  have hU1 : Upd (fun b => b = vb ∨ b = rb) w1 w1 := Upd.refl _ _
  have hoM : ∀ b,(ok b ∨ w1.heap.size ≤ b) → ¬ (b = vb ∨ b = rb) := fun b hk h => by
    rcases hk with hk | hk
    · have := hok b hk;rcases h with h | h <;> omega
    · rcases h with h | h <;> omega
  have hq1 : Rdr RT ok w1 rb s0 := hR1
  obtain ⟨FB,hFB⟩ : ∃ P : Prop,P = ((rdP (d + 2) ver false fs_SyncGroupRequest s0).2 = none) := ⟨_,rfl⟩
  have hb_0 : (rdL (rdP (d + 1) ver false) (dfP (d + 1)) ver false [fSyncGroupRequest_0,fSyncGroupRequest_1,fSyncGroupRequest_2,fSyncGroupRequest_3,fSyncGroupRequest_4,fSyncGroupRequest_5,fSyncGroupRequest_6] s0).2 = none → FB := fun h => Eq.mpr hFB (rdP_bad h)
  have hh_0 : hasS fSyncGroupRequest_0 ver = true := hasS_t (by show (0 : Int) ≤ ver;omega) (by show (-1 : Int) < 0 ∨ ver ≤ (-1 : Int);omega)
  obtain ⟨x_0,hx_0⟩ : ∃ x,x = (rdF (rdP (d + 1) ver false) ver false fSyncGroupRequest_0 s0).1 := ⟨_,rfl⟩
  repeat ((first | refine qA rfl ?_|refine qB ?_|refine qC rfl ?_|refine qD ?_|refine qE ?_|refine qF ?_|refine qG ?_|refine qH ?_);try simp (maxSteps:=1000000)(disch:=(first|omega|(simp only [qI,qJ,qK]<;>omega)|exact qL _)) only [go_sem,↓reduceIte,n0,reduceCtorEq,n1,n2,n3,n4,n5,i0,i1,i2,i3,i4,i5,i6,i7,hv_1])
  have hmay : mayS fSyncGroupRequest_0 ver = false := mayS_no (by show (-1 : Int) < 0 ∨ ver < (-1 : Int);omega)
  have hrd : rdF (rdP (d + 1) ver false) ver false fSyncGroupRequest_0 s0 = _ := rdF_text rfl hmay
  refine (RString_fn w1 hq1 hrok hG1.1 hgrb).mono ?_
  rintro _ w2 ⟨rfl,hq2,hu2⟩
  have hv_2 := hu2.blk_some hv_1 (by omega)
  have hV2 : Upd (fun b => b = vb ∨ b = rb) w1 w2 := hu2.mono (fun _ h => .inr h)
  have hU2 : Upd (fun b => b = vb ∨ b = rb) w1 w2 := hU1.trans hV2
  have hz2 := hV2.size
  have hG2 : Glo ev w2 := hG1.updS hU2 hgM1 hgM2
  have hst : (rdF (rdP (d + 1) ver false) ver false fSyncGroupRequest_0 s0).2 = (rdStr false s0).2 := by first | (rw [hrd];rfl) | rw [hrd]
  obtain ⟨s1,hs1⟩ : ∃ s,s = (rdF (rdP (d + 1) ver false) ver false fSyncGroupRequest_0 s0).2 := ⟨_,rfl⟩
  rw [← hst,← hs1] at hq2
  clear hst
  repeat ((first | refine qA rfl ?_|refine qB ?_|refine qC rfl ?_|refine qD ?_|refine qE ?_|refine qF ?_|refine qG ?_|refine qH ?_);try simp (maxSteps:=1000000)(disch:=(first|omega|(simp only [qI,qJ,qK]<;>omega)|exact qL _)) only [go_sem,↓reduceIte,n0,reduceCtorEq,n1,n2,n3,n4,n5,i0,i1,i2,i3,i4,i5,i6,i7,hv_2])
  generalize hw3 : wr w2 vb 1 [strV (rdStr false s0).1] = w3
  have hS3 : Upd (fun b => b = vb ∨ b = rb) w2 w3 := by rw [← hw3];exact (Upd.refl _ _).wr _ _ (.inr (.inl rfl))
  have hv_3 : blk w3 vb = some (#[.int .i16 ver,strV (rdStr false s0).1,.int .i32 0,.string ByteArray.empty,.pointer none,.pointer none,.pointer none,.slice none 0 0,.map none],123,(0,0)) := by rw [← hw3,blk_wr_eq,hv_2];rfl
  have hV3 := hS3
  have hU3 : Upd (fun b => b = vb ∨ b = rb) w1 w3 := hU2.trans hV3
  have hz3 := hV3.size
  have hG3 : Glo ev w3 := hG1.updS hU3 hgM1 hgM2
  have hq3 : Rdr RT ok w3 rb s1 ∧ NN w3 rb s1 := by
    have hn : ∀ x,x = w3 → (Rdr RT ok x rb s1 ∧ NN x rb s1) := fun x hx => by
      rw [hx,← hw3]
      exact Rdr.store hq2 (by omega) (fun h => by have := (hok _ h).1;first | omega | exact (hok _ h).2 rfl)
    exact hn _ rfl
  clear hw3
  have hf_0 : RepF (RepS true (d + 1)) (szS true (d + 1)) fSyncGroupRequest_0 (fun b => ok b ∨ w1.heap.size ≤ b) w3 (x_0) [strV (rdStr false s0).1] := (RepF_text rfl (by decide)).2 (by rw [hx_0,hrd];rfl)
  clear hrd
  have hb_1 : (rdL (rdP (d + 1) ver false) (dfP (d + 1)) ver false [fSyncGroupRequest_1,fSyncGroupRequest_2,fSyncGroupRequest_3,fSyncGroupRequest_4,fSyncGroupRequest_5,fSyncGroupRequest_6] s1).2 = none → FB := fun h => hb_0 (by rw [rdL_st (by decide) hh_0,← hs1];exact h)
  have hh_1 : hasS fSyncGroupRequest_1 ver = true := hasS_t (by show (0 : Int) ≤ ver;omega) (by show (-1 : Int) < 0 ∨ ver ≤ (-1 : Int);omega)
  obtain ⟨x_1,hx_1⟩ : ∃ x,x = (rdF (rdP (d + 1) ver false) ver false fSyncGroupRequest_1 s1).1 := ⟨_,rfl⟩
  repeat ((first | refine qA rfl ?_|refine qB ?_|refine qC rfl ?_|refine qD ?_|refine qE ?_|refine qF ?_|refine qG ?_|refine qH ?_);try simp (maxSteps:=1000000)(disch:=(first|omega|(simp only [qI,qJ,qK]<;>omega)|exact qL _)) only [go_sem,↓reduceIte,n0,reduceCtorEq,n1,n2,n3,n4,n5,i0,i1,i2,i3,i4,i5,i6,i7,hv_3])
  have hrd : rdF (rdP (d + 1) ver false) ver false fSyncGroupRequest_1 s1 = _ := rdF_num 3 rfl (by decide)
  refine (Int32_fn w3 hq3.1 hrok hG3.1 hgrb).mono ?_
  rintro _ w4 ⟨rfl,hq4,hu4⟩
  have hv_4 := hu4.blk_some hv_3 (by omega)
  have hV4 : Upd (fun b => b = vb ∨ b = rb) w3 w4 := hu4.mono (fun _ h => .inr h)
  have hU4 : Upd (fun b => b = vb ∨ b = rb) w1 w4 := hU3.trans hV4
  have hz4 := hV4.size
  have hG4 : Glo ev w4 := hG1.updS hU4 hgM1 hgM2
  have hst : (rdF (rdP (d + 1) ver false) ver false fSyncGroupRequest_1 s1).2 = (rdInt .i32 4 s1).2 := by first | (rw [hrd];rfl) | rw [hrd]
  obtain ⟨s2,hs2⟩ : ∃ s,s = (rdF (rdP (d + 1) ver false) ver false fSyncGroupRequest_1 s1).2 := ⟨_,rfl⟩
  rw [← hst,← hs2] at hq4
  clear hst
  repeat ((first | refine qA rfl ?_|refine qB ?_|refine qC rfl ?_|refine qD ?_|refine qE ?_|refine qF ?_|refine qG ?_|refine qH ?_);try simp (maxSteps:=1000000)(disch:=(first|omega|(simp only [qI,qJ,qK]<;>omega)|exact qL _)) only [go_sem,↓reduceIte,n0,reduceCtorEq,n1,n2,n3,n4,n5,i0,i1,i2,i3,i4,i5,i6,i7,hv_4])
  generalize hw5 : wr w4 vb 2 [.int .i32 (rdInt .i32 4 s1).1] = w5
  have hS5 : Upd (fun b => b = vb ∨ b = rb) w4 w5 := by rw [← hw5];exact (Upd.refl _ _).wr _ _ (.inr (.inl rfl))
  have hv_5 : blk w5 vb = some (#[.int .i16 ver,strV (rdStr false s0).1,.int .i32 (rdInt .i32 4 s1).1,.string ByteArray.empty,.pointer none,.pointer none,.pointer none,.slice none 0 0,.map none],123,(0,0)) := by rw [← hw5,blk_wr_eq,hv_4];rfl
  have hV5 := hS5
  have hU5 : Upd (fun b => b = vb ∨ b = rb) w1 w5 := hU4.trans hV5
  have hz5 := hV5.size
  have hG5 : Glo ev w5 := hG1.updS hU5 hgM1 hgM2
  have hq5 : Rdr RT ok w5 rb s2 ∧ NN w5 rb s2 := by
    have hn : ∀ x,x = w5 → (Rdr RT ok x rb s2 ∧ NN x rb s2) := fun x hx => by
      rw [hx,← hw5]
      exact Rdr.store hq4 (by omega) (fun h => by have := (hok _ h).1;first | omega | exact (hok _ h).2 rfl)
    exact hn _ rfl
  clear hw5
  have hf_1 : RepF (RepS true (d + 1)) (szS true (d + 1)) fSyncGroupRequest_1 (fun b => ok b ∨ w1.heap.size ≤ b) w5 (x_1) [.int .i32 (rdInt .i32 4 s1).1] := (RepF_num (by decide)).2 (by rw [hx_1,hrd];exact congrArg (fun x => [x]) (numC_rd 3 (by decide) 4 s1).symm)
  clear hrd
  have hb_2 : (rdL (rdP (d + 1) ver false) (dfP (d + 1)) ver false [fSyncGroupRequest_2,fSyncGroupRequest_3,fSyncGroupRequest_4,fSyncGroupRequest_5,fSyncGroupRequest_6] s2).2 = none → FB := fun h => hb_1 (by rw [rdL_st (by decide) hh_1,← hs2];exact h)
  have hh_2 : hasS fSyncGroupRequest_2 ver = true := hasS_t (by show (0 : Int) ≤ ver;omega) (by show (-1 : Int) < 0 ∨ ver ≤ (-1 : Int);omega)
  obtain ⟨x_2,hx_2⟩ : ∃ x,x = (rdF (rdP (d + 1) ver false) ver false fSyncGroupRequest_2 s2).1 := ⟨_,rfl⟩
  repeat ((first | refine qA rfl ?_|refine qB ?_|refine qC rfl ?_|refine qD ?_|refine qE ?_|refine qF ?_|refine qG ?_|refine qH ?_);try simp (maxSteps:=1000000)(disch:=(first|omega|(simp only [qI,qJ,qK]<;>omega)|exact qL _)) only [go_sem,↓reduceIte,n0,reduceCtorEq,n1,n2,n3,n4,n5,i0,i1,i2,i3,i4,i5,i6,i7,hv_5])
  have hmay : mayS fSyncGroupRequest_2 ver = false := mayS_no (by show (-1 : Int) < 0 ∨ ver < (-1 : Int);omega)
  have hrd : rdF (rdP (d + 1) ver false) ver false fSyncGroupRequest_2 s2 = _ := rdF_text rfl hmay
  refine (RString_fn w5 hq5.1 hrok hG5.1 hgrb).mono ?_
  rintro _ w6 ⟨rfl,hq6,hu6⟩
  have hv_6 := hu6.blk_some hv_5 (by omega)
  have hV6 : Upd (fun b => b = vb ∨ b = rb) w5 w6 := hu6.mono (fun _ h => .inr h)
  have hU6 : Upd (fun b => b = vb ∨ b = rb) w1 w6 := hU5.trans hV6
  have hz6 := hV6.size
  have hG6 : Glo ev w6 := hG1.updS hU6 hgM1 hgM2
  have hst : (rdF (rdP (d + 1) ver false) ver false fSyncGroupRequest_2 s2).2 = (rdStr false s2).2 := by first | (rw [hrd];rfl) | rw [hrd]
  obtain ⟨s3,hs3⟩ : ∃ s,s = (rdF (rdP (d + 1) ver false) ver false fSyncGroupRequest_2 s2).2 := ⟨_,rfl⟩
  rw [← hst,← hs3] at hq6
  clear hst
  repeat ((first | refine qA rfl ?_|refine qB ?_|refine qC rfl ?_|refine qD ?_|refine qE ?_|refine qF ?_|refine qG ?_|refine qH ?_);try simp (maxSteps:=1000000)(disch:=(first|omega|(simp only [qI,qJ,qK]<;>omega)|exact qL _)) only [go_sem,↓reduceIte,n0,reduceCtorEq,n1,n2,n3,n4,n5,i0,i1,i2,i3,i4,i5,i6,i7,hv_6])
  generalize hw7 : wr w6 vb 3 [strV (rdStr false s2).1] = w7
  have hS7 : Upd (fun b => b = vb ∨ b = rb) w6 w7 := by rw [← hw7];exact (Upd.refl _ _).wr _ _ (.inr (.inl rfl))
  have hv_7 : blk w7 vb = some (#[.int .i16 ver,strV (rdStr false s0).1,.int .i32 (rdInt .i32 4 s1).1,strV (rdStr false s2).1,.pointer none,.pointer none,.pointer none,.slice none 0 0,.map none],123,(0,0)) := by rw [← hw7,blk_wr_eq,hv_6];rfl
  have hV7 := hS7
  have hU7 : Upd (fun b => b = vb ∨ b = rb) w1 w7 := hU6.trans hV7
  have hz7 := hV7.size
  have hG7 : Glo ev w7 := hG1.updS hU7 hgM1 hgM2
  have hq7 : Rdr RT ok w7 rb s3 ∧ NN w7 rb s3 := by
    have hn : ∀ x,x = w7 → (Rdr RT ok x rb s3 ∧ NN x rb s3) := fun x hx => by
      rw [hx,← hw7]
      exact Rdr.store hq6 (by omega) (fun h => by have := (hok _ h).1;first | omega | exact (hok _ h).2 rfl)
    exact hn _ rfl
  clear hw7
  have hf_2 : RepF (RepS true (d + 1)) (szS true (d + 1)) fSyncGroupRequest_2 (fun b => ok b ∨ w1.heap.size ≤ b) w7 (x_2) [strV (rdStr false s2).1] := (RepF_text rfl (by decide)).2 (by rw [hx_2,hrd];rfl)
  clear hrd
  have hb_3 : (rdL (rdP (d + 1) ver false) (dfP (d + 1)) ver false [fSyncGroupRequest_3,fSyncGroupRequest_4,fSyncGroupRequest_5,fSyncGroupRequest_6] s3).2 = none → FB := fun h => hb_2 (by rw [rdL_st (by decide) hh_2,← hs3];exact h)
  obtain ⟨x_3,hx_3⟩ : ∃ x,x = dfF (dfP (d + 1)) fSyncGroupRequest_3 := ⟨_,rfl⟩
  have hf_3 : RepF (RepS true (d + 1)) (szS true (d + 1)) fSyncGroupRequest_3 (fun b => ok b ∨ w1.heap.size ≤ b) w7 (x_3) [.pointer none] := by rw [hx_3];exact (RepF_ptr rfl (by decide)).2 ⟨_,rfl,rfl⟩
  have hh_3 : hasS fSyncGroupRequest_3 ver = false := hasS_f (by show ver < 3 ∨ (0 ≤ (-1 : Int) ∧ (-1 : Int) < ver);omega)
  have hb_4 : (rdL (rdP (d + 1) ver false) (dfP (d + 1)) ver false [fSyncGroupRequest_4,fSyncGroupRequest_5,fSyncGroupRequest_6] s3).2 = none → FB := fun h => hb_3 (by rw [rdL_no hh_3];exact h)
  obtain ⟨x_4,hx_4⟩ : ∃ x,x = dfF (dfP (d + 1)) fSyncGroupRequest_4 := ⟨_,rfl⟩
  have hf_4 : RepF (RepS true (d + 1)) (szS true (d + 1)) fSyncGroupRequest_4 (fun b => ok b ∨ w1.heap.size ≤ b) w7 (x_4) [.pointer none] := by rw [hx_4];exact (RepF_ptr rfl (by decide)).2 ⟨_,rfl,rfl⟩
  have hh_4 : hasS fSyncGroupRequest_4 ver = false := hasS_f (by show ver < 5 ∨ (0 ≤ (-1 : Int) ∧ (-1 : Int) < ver);omega)
  have hb_5 : (rdL (rdP (d + 1) ver false) (dfP (d + 1)) ver false [fSyncGroupRequest_5,fSyncGroupRequest_6] s3).2 = none → FB := fun h => hb_4 (by rw [rdL_no hh_4];exact h)
  obtain ⟨x_5,hx_5⟩ : ∃ x,x = dfF (dfP (d + 1)) fSyncGroupRequest_5 := ⟨_,rfl⟩
  have hf_5 : RepF (RepS true (d + 1)) (szS true (d + 1)) fSyncGroupRequest_5 (fun b => ok b ∨ w1.heap.size ≤ b) w7 (x_5) [.pointer none] := by rw [hx_5];exact (RepF_ptr rfl (by decide)).2 ⟨_,rfl,rfl⟩
  have hh_5 : hasS fSyncGroupRequest_5 ver = false := hasS_f (by show ver < 5 ∨ (0 ≤ (-1 : Int) ∧ (-1 : Int) < ver);omega)
  have hb_6 : (rdL (rdP (d + 1) ver false) (dfP (d + 1)) ver false [fSyncGroupRequest_6] s3).2 = none → FB := fun h => hb_5 (by rw [rdL_no hh_5];exact h)
  have hh_6 : hasS fSyncGroupRequest_6 ver = true := hasS_t (by show (0 : Int) ≤ ver;omega) (by show (-1 : Int) < 0 ∨ ver ≤ (-1 : Int);omega)
  obtain ⟨x_6,hx_6⟩ : ∃ x,x = (rdF (rdP (d + 1) ver false) ver false fSyncGroupRequest_6 s3).1 := ⟨_,rfl⟩
  repeat ((first | refine qA rfl ?_|refine qB ?_|refine qC rfl ?_|refine qD ?_|refine qE ?_|refine qF ?_|refine qG ?_|refine qH ?_);try simp (maxSteps:=1000000)(disch:=(first|omega|(simp only [qI,qJ,qK]<;>omega)|exact qL _)) only [go_sem,↓reduceIte,n0,reduceCtorEq,n1,n2,n3,n4,n5,i0,i1,i2,i3,i4,i5,i6,i7,hv_7])
  refine (RArrayLen_fn w7 hq7.1 hrok hG7.1 hgrb).mono ?_
  rintro _ w8 ⟨rfl,hq8,hu8⟩
  have hv_8 := hu8.blk_some hv_7 (by omega)
  have hV8 : Upd (fun b => b = vb ∨ b = rb) w7 w8 := hu8.mono (fun _ h => .inr h)
  have hU8 : Upd (fun b => b = vb ∨ b = rb) w1 w8 := hU7.trans hV8
  have hz8 := hV8.size
  have hG8 : Glo ev w8 := hG1.updS hU8 hgM1 hgM2
  obtain ⟨s4,hs4⟩ : ∃ s,s = (rdALen false s3).2 := ⟨_,rfl⟩
  rw [← hs4] at hq8
  have hyr0 := rdALen_rng false s3
  generalize hy0 : (rdALen false s3).1 = y0 at *
  obtain ⟨N0,hN0⟩ : ∃ N,N = y0.toNat := ⟨_,rfl⟩
  have hlb0 : (rdMany (rd1 (rdP (d + 1) ver false) fSyncGroupRequest_6.of fSyncGroupRequest_6.sub false false) N0 s4).2 = none → FB := fun h => hb_6 (by rw [rdL_st (by decide) hh_6];exact rdL_bad (rdF_listbad rfl (by rw [hy0,← hN0,← hs4];exact h)))
  repeat ((first | refine W.seqR rfl ?_ | refine W.seq ?_ | refine W.regR rfl ?_ | refine W.block ?_ | refine W.skip ?_ | refine W.ret ?_ | refine W.exit ?_);try simp (maxSteps:=1000000)(disch:=(first|omega|(simp only [qI,qJ,qK]<;>omega)|exact qL _)) only [go_sem,↓reduceIte,n0,reduceCtorEq,n1,n2,n3,n4,n5,i0,i1,i2,i3,i4,i5,i6,i7,hv_8])
  refine (ROk_fn w8 hq8.1).mono ?_
  rintro _ wz ⟨rfl,hez⟩
  rw [hez]
  clear hez wz
  by_cases hsn0 : s4 = none
  · have hso : s4.isSome = false := by rw [hsn0];rfl
    try simp (maxSteps:=1000000)(disch:=(first|omega|(simp only [qI,qJ,qK]<;>omega)|exact qL _)) only [go_sem,↓reduceIte,n0,reduceCtorEq,n1,n2,n3,n4,n5,i0,i1,i2,i3,i4,i5,i6,i7,hv_8,hso]
    repeat ((first | refine qA rfl ?_|refine qB ?_|refine qC rfl ?_|refine qD ?_|refine qE ?_|refine qF ?_|refine qG ?_|refine qH ?_);try simp (maxSteps:=1000000)(disch:=(first|omega|(simp only [qI,qJ,qK]<;>omega)|exact qL _)) only [go_sem,↓reduceIte,n0,reduceCtorEq,n1,n2,n3,n4,n5,i0,i1,i2,i3,i4,i5,i6,i7,hv_8,hso])
    refine (RComplete_fn w8 hq8.1 hG8.2).mono ?_
    rintro _ wz ⟨rfl,hez⟩
    rw [hez]
    try simp (maxSteps:=1000000)(disch:=(first|omega|(simp only [qI,qJ,qK]<;>omega)|exact qL _)) only [go_sem,↓reduceIte,n0,reduceCtorEq,n1,n2,n3,n4,n5,i0,i1,i2,i3,i4,i5,i6,i7,hv_8]
    repeat ((first | refine qA rfl ?_|refine qB ?_|refine qC rfl ?_|refine qD ?_|refine qE ?_|refine qF ?_|refine qG ?_|refine qH ?_);try simp (maxSteps:=1000000)(disch:=(first|omega|(simp only [qI,qJ,qK]<;>omega)|exact qL _)) only [go_sem,↓reduceIte,n0,reduceCtorEq,n1,n2,n3,n4,n5,i0,i1,i2,i3,i4,i5,i6,i7,hv_8])
    rw [errV_none hsn0]
    exact ReadQ.bad (Eq.mp hFB (hlb0 (by rw [hsn0];exact rdMany_none rd1P_none _))) (hbase.trans' hU8 fun i hi h => h.elim id fun h => by omega)
  have hso0 : s4.isSome = true := isSome_some hsn0
  try simp (maxSteps:=1000000)(disch:=(first|omega|(simp only [qI,qJ,qK]<;>omega)|exact qL _)) only [go_sem,↓reduceIte,n0,reduceCtorEq,n1,n2,n3,n4,n5,i0,i1,i2,i3,i4,i5,i6,i7,hv_8,hso0]
  repeat ((first | refine W.seqR rfl ?_ | refine W.seq ?_ | refine W.regR rfl ?_ | refine W.block ?_ | refine W.skip ?_ | refine W.ret ?_ | refine W.exit ?_);try simp (maxSteps:=1000000)(disch:=(first|omega|(simp only [qI,qJ,qK]<;>omega)|exact qL _)) only [go_sem,↓reduceIte,n0,reduceCtorEq,n1,n2,n3,n4,n5,i0,i1,i2,i3,i4,i5,i6,i7,hv_8,hso0])
  refine W.condK ?_
  try simp (maxSteps:=1000000)(disch:=(first|omega|(simp only [qI,qJ,qK]<;>omega)|exact qL _)) only [go_sem,↓reduceIte,n0,reduceCtorEq,n1,n2,n3,n4,n5,i0,i1,i2,i3,i4,i5,i6,i7,hv_8,hso0]
  repeat ((first | refine W.seqR rfl ?_ | refine W.seq ?_ | refine W.regR rfl ?_ | refine W.block ?_ | refine W.skip ?_ | refine W.ret ?_ | refine W.exit ?_);try simp (maxSteps:=1000000)(disch:=(first|omega|(simp only [qI,qJ,qK]<;>omega)|exact qL _)) only [go_sem,↓reduceIte,n0,reduceCtorEq,n1,n2,n3,n4,n5,i0,i1,i2,i3,i4,i5,i6,i7,hv_8,hso0,slBase_00])
  refine W.normJ (RowQ [(2,.bool false),(7,.pointer (some ⟨rb,0,none⟩)),(8,.int .i16 ver),(9,.bool false),(10,.pointer (some ⟨vb,0,none⟩)),(19,.int .i32 y0)] 18 (fun va w' => LstI RT (rd1 (rdP (d + 1) ver false) fSyncGroupRequest_6.of fSyncGroupRequest_6.sub false false) (Rep1 (RepS true (d + 1)) fSyncGroupRequest_6.of fSyncGroupRequest_6.sub) 3 126 [.string ByteArray.empty,.slice none 0 0,.map none] w8.heap.size N0 ok (fun b => ok b ∨ w1.heap.size ≤ b) rb w8 s4 va 0 s4 [] [] w' ∧ (N0 = 0 → if nilS fSyncGroupRequest_6 ver y0 = true then va = .slice none 0 0 else ∃ a,va = .slice (some a) 0 0))) ?_ ?_
  · by_cases hy0 : (0 : Int) < y0
    · have hyv : Value.int .i32 y0 = .int .i32 ((N0 : Nat) : Int) := by rw [show y0 = ((N0 : Nat) : Int) by omega]
      repeat ((first | refine qA rfl ?_|refine qB ?_|refine qC rfl ?_|refine qD ?_|refine qE ?_|refine qF ?_|refine qG ?_|refine qH ?_);try simp (maxSteps:=1000000)(disch:=(first|omega|(simp only [qI,qJ,qK]<;>omega)|exact qL _)) only [go_sem,↓reduceIte,n0,reduceCtorEq,n1,n2,n3,n4,n5,i0,i1,i2,i3,i4,i5,i6,i7,hv_8])
      refine wp_appendZ (m := N0) utSyncGroupRequest_121 utSyncGroupRequest_21 inSyncGroupRequest_126 (by decide) (by first | rfl | simp (maxSteps:=1000000)(disch:=(first|omega|(simp only [qI,qJ,qK]<;>omega)|exact qL _)) only [go_sem,↓reduceIte,n0,reduceCtorEq,n1,n2,n3,n4,n5,i0,i1,i2,i3,i4,i5,i6,i7]) (by first | exact hyv | (simp (maxSteps:=1000000)(disch:=(first|omega|(simp only [qI,qJ,qK]<;>omega)|exact qL _)) only [go_sem,↓reduceIte,n0,reduceCtorEq,n1,n2,n3,n4,n5,i0,i1,i2,i3,i4,i5,i6,i7];exact hyv)) (by omega) (by omega) (by decide) ?_
      intro q rest hq1
      have hEw : Ext w8 (w8.drew.alloc (.cells (zs [.string ByteArray.empty,.slice none 0 0,.map none] N0 ++ rest).toArray 126)) := (Upd.refl _ _).drew.alloc _
      try simp (maxSteps:=1000000)(disch:=(first|omega|(simp only [qI,qJ,qK]<;>omega)|exact qL _)) only [go_sem,↓reduceIte,n0,reduceCtorEq,n1,n2,n3,n4,n5,i0,i1,i2,i3,i4,i5,i6,i7,hv_8]
      repeat ((first | refine qA rfl ?_|refine qB ?_|refine qC rfl ?_|refine qD ?_|refine qE ?_|refine qF ?_|refine qG ?_|refine qH ?_);try simp (maxSteps:=1000000)(disch:=(first|omega|(simp only [qI,qJ,qK]<;>omega)|exact qL _)) only [go_sem,↓reduceIte,n0,reduceCtorEq,n1,n2,n3,n4,n5,i0,i1,i2,i3,i4,i5,i6,i7,hv_8])
      exact ⟨(by simp (maxSteps:=1000000)(disch:=(first|omega|(simp only [qI,qJ,qK]<;>omega)|exact qL _)) only [go_sem,↓reduceIte,n0,reduceCtorEq,n1,n2,n3,n4,n5,i0,i1,i2,i3,i4,i5,i6,i7,Holds_nil,Holds_cons]),.slice (some ⟨w8.heap.size,0,none⟩) N0 q,(by simp (maxSteps:=1000000)(disch:=(first|omega|(simp only [qI,qJ,qK]<;>omega)|exact qL _)) only [go_sem,↓reduceIte,n0,reduceCtorEq,n1,n2,n3,n4,n5,i0,i1,i2,i3,i4,i5,i6,i7]),LstI.start (RowJ.start (by omega) hq1 (by show w8.heap.size ≤ w8.drew.heap.size;rw [size_drew];omega) (blk_alloc_new rfl)) ⟨hq8.1.upd hEw (fun h => h) (fun _ _ _ h => h),hq8.2.upd hEw fun h => h⟩ (hEw.mono fun _ h => h.elim),fun h0 => by omega⟩
    · repeat ((first | refine qA rfl ?_|refine qB ?_|refine qC rfl ?_|refine qD ?_|refine qE ?_|refine qF ?_|refine qG ?_|refine qH ?_);try simp (maxSteps:=1000000)(disch:=(first|omega|(simp only [qI,qJ,qK]<;>omega)|exact qL _)) only [go_sem,↓reduceIte,n0,reduceCtorEq,n1,n2,n3,n4,n5,i0,i1,i2,i3,i4,i5,i6,i7,hv_8])
      exact ⟨(by simp (maxSteps:=1000000)(disch:=(first|omega|(simp only [qI,qJ,qK]<;>omega)|exact qL _)) only [go_sem,↓reduceIte,n0,reduceCtorEq,n1,n2,n3,n4,n5,i0,i1,i2,i3,i4,i5,i6,i7,Holds_nil,Holds_cons]),.slice none 0 0,(by simp (maxSteps:=1000000)(disch:=(first|omega|(simp only [qI,qJ,qK]<;>omega)|exact qL _)) only [go_sem,↓reduceIte,n0,reduceCtorEq,n1,n2,n3,n4,n5,i0,i1,i2,i3,i4,i5,i6,i7,slBase_00]),LstI.start (RowJ.zero (by omega) (fun _ h => by cases h)) hq8 (Upd.refl _ _),fun _ => by rw [nilS_plain (by decide) (by omega)];exact rfl⟩
  rintro ρ w9 ⟨⟨hrb0_2,hrb0_7,hrb0_8,hrb0_9,hrb0_10,hrb0_19,-⟩,va0,hra0,hL0,hnc0⟩
  repeat ((first | refine qA rfl ?_|refine qB ?_|refine qC rfl ?_|refine qD ?_|refine qE ?_|refine qF ?_|refine qG ?_|refine qH ?_);try simp (maxSteps:=1000000)(disch:=(first|omega|(simp only [qI,qJ,qK]<;>omega)|exact qL _)) only [go_sem,↓reduceIte,n0,reduceCtorEq,n1,n2,n3,n4,n5,i0,i1,i2,i3,i4,i5,i6,i7,hv_8,hrb0_2,hrb0_7,hrb0_8,hrb0_9,hrb0_10,hrb0_19,hra0,exitRQ_ret,exitRQ_exit,Int.toNat_natCast,Nat.mul_one])
  refine W.exitRJ 0 (EndQ [(2,.bool false),(7,.pointer (some ⟨rb,0,none⟩)),(8,.int .i16 ver),(9,.bool false),(10,.pointer (some ⟨vb,0,none⟩)),(19,.int .i32 y0),(18,va0)] (fun w' => ∃ s xs css,LstI RT (rd1 (rdP (d + 1) ver false) fSyncGroupRequest_6.of fSyncGroupRequest_6.sub false false) (Rep1 (RepS true (d + 1)) fSyncGroupRequest_6.of fSyncGroupRequest_6.sub) 3 126 [.string ByteArray.empty,.slice none 0 0,.map none] w8.heap.size N0 ok (fun b => ok b ∨ w1.heap.size ≤ b) rb w8 s4 va0 N0 s xs css w')) (W.loop (LoopQ [(2,.bool false),(7,.pointer (some ⟨rb,0,none⟩)),(8,.int .i16 ver),(9,.bool false),(10,.pointer (some ⟨vb,0,none⟩)),(19,.int .i32 y0),(18,va0)] 20 (fun j w' => ∃ s xs css,LstI RT (rd1 (rdP (d + 1) ver false) fSyncGroupRequest_6.of fSyncGroupRequest_6.sub false false) (Rep1 (RepS true (d + 1)) fSyncGroupRequest_6.of fSyncGroupRequest_6.sub) 3 126 [.string ByteArray.empty,.slice none 0 0,.map none] w8.heap.size N0 ok (fun b => ok b ∨ w1.heap.size ≤ b) rb w8 s4 va0 j s xs css w')) (fun ρ _ => N0 - (RowKit.intOf (ρ 20)).toNat) ?_ ?_) ?_
  · exact ⟨(by simp (maxSteps:=1000000)(disch:=(first|omega|(simp only [qI,qJ,qK]<;>omega)|exact qL _)) only [go_sem,↓reduceIte,n0,reduceCtorEq,n1,n2,n3,n4,n5,i0,i1,i2,i3,i4,i5,i6,i7,Holds_nil,Holds_cons,hrb0_2,hrb0_7,hrb0_8,hrb0_9,hrb0_10,hrb0_19,hra0]),0,(by simp (maxSteps:=1000000)(disch:=(first|omega|(simp only [qI,qJ,qK]<;>omega)|exact qL _)) only [go_sem,↓reduceIte,n0,reduceCtorEq,n1,n2,n3,n4,n5,i0,i1,i2,i3,i4,i5,i6,i7,hrb0_2,hrb0_7,hrb0_8,hrb0_9,hrb0_10,hrb0_19,hra0];all_goals rfl),s4,[],[],hL0⟩
  · rintro ρ w10 ⟨⟨hrc0_2,hrc0_7,hrc0_8,hrc0_9,hrc0_10,hrc0_19,hrc0_18,-⟩,j1,hri0,s5,xs0,css0,hL0⟩
    have hj0 := hL0.le
    have hq10 := hL0.rd
    have hU10 : Upd (fun b => b = vb ∨ b = rb) w1 w10 := hU8.trans' hL0.upd fun i _ h => .inr h
    have hz10 := hL0.upd.size
    have hG10 : Glo ev w10 := hG1.updS hU10 hgM1 hgM2
    by_cases hlt0 : j1 < N0
    · obtain ⟨R1,q1,B1,hva1,hNq1,hLR1,hA1,hx1_10,hnext1⟩ := hL0.row.next hlt0
      have hRl1 := blk_lt hx1_10
      generalize css0.flatten = A1 at hA1 hx1_10 hnext1
      replace hra0 : ρ 18 = .slice (some ⟨R1,0,none⟩) N0 q1 := hrc0_18.trans hva1
      have hown1 : ∀ b,ownB va0 b → w8.heap.size ≤ b ∧ b < w10.heap.size := fun b h => hL0.row.own h
      have hoM1 : ∀ b,(fun b => (ok b ∨ w1.heap.size ≤ b) ∧ ¬ ownB va0 b) b → ¬ (b = R1 ∨ b = rb) := fun b hk h => h.elim (fun e => hk.2 ⟨_,_,_,hva1,e⟩) (fun e => hoM b hk.1 (.inr e))
      obtain ⟨X10,hX10⟩ : ∃ X : Array Value,X = (A1 ++ (([.string ByteArray.empty,.slice none 0 0,.map none] : List Value) ++ B1)).toArray := ⟨_,rfl⟩
      have hxb10 : blk w10 R1 = some (X10,126,(0,0)) := by rw [hX10];exact hx1_10
      have hXs10 : j1 * 3 + 3 ≤ X10.size := by rw [hX10];simp only [List.size_toArray,List.length_append,List.length_cons,List.length_nil,hA1];omega
      repeat ((first | refine qA rfl ?_|refine qB ?_|refine qC rfl ?_|refine qD ?_|refine qE ?_|refine qF ?_|refine qG ?_|refine qH ?_);try simp (maxSteps:=1000000)(disch:=(first|omega|(simp only [qI,qJ,qK]<;>omega)|exact qL _)) only [go_sem,↓reduceIte,n0,reduceCtorEq,n1,n2,n3,n4,n5,i0,i1,i2,i3,i4,i5,i6,i7,hxb10,hrc0_2,hrc0_7,hrc0_8,hrc0_9,hrc0_10,hrc0_19,hra0,hri0,exitRQ_ret,exitRQ_exit,Int.toNat_natCast,Nat.mul_one])
      refine (DefaultEX0_fn w10 hx1_10 hA1).mono ?_
      rintro _ w11 ⟨hx1_11,hu11⟩
      have hq11 := And.intro (hq10.1.upd hu11 (by omega) (fun b _ hk e => by have := (hok b hk).1;omega)) (hq10.2.upd hu11 (by omega))
      have hV11 : Upd (fun b => b = R1 ∨ b = rb) w10 w11 := hu11.mono (fun _ h => .inl h)
      have hU11 : Upd (fun b => b = vb ∨ b = rb) w1 w11 := hU10.trans' hV11 fun i hi h => h.elim (fun h => by omega) .inr
      have hz11 := hV11.size
      have hG11 : Glo ev w11 := hG1.updS hU11 hgM1 hgM2
      obtain ⟨X11,hX11⟩ : ∃ X : Array Value,X = (A1 ++ (([.string ByteArray.empty,.slice none 0 0,.map none] : List Value) ++ B1)).toArray := ⟨_,rfl⟩
      have hxb11 : blk w11 R1 = some (X11,126,(0,0)) := by rw [hX11];exact hx1_11
      have hXs11 : j1 * 3 + 3 ≤ X11.size := by rw [hX11];simp only [List.size_toArray,List.length_append,List.length_cons,List.length_nil,hA1];omega
      have hbe0_0 : (rdL (rdP d ver false) (dfP d) ver false [fX0_0,fX0_1] s5).2 = none → FB := fun h => hlb0 (hL0.bad hlt0 rd1P_none (by show (rd1 (rdP (d + 1) ver false) 10 fs_X0 false false s5).2 = none;rw [rd1_part];exact rdP_bad h))
      have hhe0_0 : hasS fX0_0 ver = true := hasS_t (by show (0 : Int) ≤ ver;omega) (by show (-1 : Int) < 0 ∨ ver ≤ (-1 : Int);omega)
      obtain ⟨xe0_0,hxe0_0⟩ : ∃ x,x = (rdF (rdP d ver false) ver false fX0_0 s5).1 := ⟨_,rfl⟩
      repeat ((first | refine qA rfl ?_|refine qB ?_|refine qC rfl ?_|refine qD ?_|refine qE ?_|refine qF ?_|refine qG ?_|refine qH ?_);try simp (maxSteps:=1000000)(disch:=(first|omega|(simp only [qI,qJ,qK]<;>omega)|exact qL _)) only [go_sem,↓reduceIte,n0,reduceCtorEq,n1,n2,n3,n4,n5,i0,i1,i2,i3,i4,i5,i6,i7,hxb11,hrc0_2,hrc0_7,hrc0_8,hrc0_9,hrc0_10,hrc0_19,hra0,hri0,exitRQ_ret,exitRQ_exit,Int.toNat_natCast,Nat.mul_one])
      have hmay : mayS fX0_0 ver = false := mayS_no (by show (-1 : Int) < 0 ∨ ver < (-1 : Int);omega)
      have hrd : rdF (rdP d ver false) ver false fX0_0 s5 = _ := rdF_text rfl hmay
      refine (RString_fn w11 hq11.1 hrok hG11.1 hgrb).mono ?_
      rintro _ w12 ⟨rfl,hq12,hu12⟩
      have hx1_12 := hu12.blk_some hx1_11 (by omega)
      have hV12 : Upd (fun b => b = R1 ∨ b = rb) w11 w12 := hu12.mono (fun _ h => .inr h)
      have hU12 : Upd (fun b => b = vb ∨ b = rb) w1 w12 := hU11.trans' hV12 fun i hi h => h.elim (fun h => by omega) .inr
      have hz12 := hV12.size
      have hG12 : Glo ev w12 := hG1.updS hU12 hgM1 hgM2
      obtain ⟨X12,hX12⟩ : ∃ X : Array Value,X = (A1 ++ (([.string ByteArray.empty,.slice none 0 0,.map none] : List Value) ++ B1)).toArray := ⟨_,rfl⟩
      have hxb12 : blk w12 R1 = some (X12,126,(0,0)) := by rw [hX12];exact hx1_12
      have hXs12 : j1 * 3 + 3 ≤ X12.size := by rw [hX12];simp only [List.size_toArray,List.length_append,List.length_cons,List.length_nil,hA1];omega
      have hst : (rdF (rdP d ver false) ver false fX0_0 s5).2 = (rdStr false s5).2 := by first | (rw [hrd];rfl) | rw [hrd]
      obtain ⟨s6,hs6⟩ : ∃ s,s = (rdF (rdP d ver false) ver false fX0_0 s5).2 := ⟨_,rfl⟩
      rw [← hst,← hs6] at hq12
      clear hst
      have hst12_0 : j1 * 3 + 1 ≤ X12.size := by omega
      repeat ((first | refine qA rfl ?_|refine qB ?_|refine qC rfl ?_|refine qD ?_|refine qE ?_|refine qF ?_|refine qG ?_|refine qH ?_);try simp (maxSteps:=1000000)(disch:=(first|omega|(simp only [qI,qJ,qK]<;>omega)|exact qL _)) only [go_sem,↓reduceIte,n0,reduceCtorEq,n1,n2,n3,n4,n5,i0,i1,i2,i3,i4,i5,i6,i7,hxb12,hrc0_2,hrc0_7,hrc0_8,hrc0_9,hrc0_10,hrc0_19,hra0,hri0,exitRQ_ret,exitRQ_exit,Int.toNat_natCast,Nat.mul_one,hst12_0])
      generalize hw13 : wr w12 R1 (j1 * 3) [strV (rdStr false s5).1] = w13
      have hS13 : Upd (fun b => b = R1 ∨ b = rb) w12 w13 := by rw [← hw13];exact (Upd.refl _ _).wr _ _ (.inr (.inl rfl))
      have hx1_13 : blk w13 R1 = some ((A1 ++ (([strV (rdStr false s5).1,.slice none 0 0,.map none] : List Value) ++ B1)).toArray,126,(0,0)) := by rw [← hw13];exact el_blk0 hx1_12 hA1 (Nat.le_of_ble_eq_true rfl)
      have hV13 := hS13
      have hU13 : Upd (fun b => b = vb ∨ b = rb) w1 w13 := hU12.trans' hV13 fun i hi h => h.elim (fun h => by omega) .inr
      have hz13 := hV13.size
      have hG13 : Glo ev w13 := hG1.updS hU13 hgM1 hgM2
      have hq13 : Rdr RT ok w13 rb s6 ∧ NN w13 rb s6 := by
        have hn : ∀ x,x = w13 → (Rdr RT ok x rb s6 ∧ NN x rb s6) := fun x hx => by
          rw [hx,← hw13]
          exact Rdr.store hq12 (by omega) (fun h => by have := (hok _ h).1;first | omega | exact (hok _ h).2 rfl)
        exact hn _ rfl
      obtain ⟨X13,hX13⟩ : ∃ X : Array Value,X = (A1 ++ (([strV (rdStr false s5).1,.slice none 0 0,.map none] : List Value) ++ B1)).toArray := ⟨_,rfl⟩
      have hxb13 : blk w13 R1 = some (X13,126,(0,0)) := by rw [hX13];exact hx1_13
      have hXs13 : j1 * 3 + 3 ≤ X13.size := by rw [hX13];simp only [List.size_toArray,List.length_append,List.length_cons,List.length_nil,hA1];omega
      clear hw13
      have hfe0_0 : RepF (RepS true d) (szS true d) fX0_0 (fun b => (ok b ∨ w1.heap.size ≤ b) ∧ ¬ ownB va0 b) w13 (xe0_0) [strV (rdStr false s5).1] := (RepF_text rfl (by decide)).2 (by rw [hxe0_0,hrd];rfl)
      clear hrd
      have hbe0_1 : (rdL (rdP d ver false) (dfP d) ver false [fX0_1] s6).2 = none → FB := fun h => hbe0_0 (by rw [rdL_st (by decide) hhe0_0,← hs6];exact h)
      have hhe0_1 : hasS fX0_1 ver = true := hasS_t (by show (0 : Int) ≤ ver;omega) (by show (-1 : Int) < 0 ∨ ver ≤ (-1 : Int);omega)
      obtain ⟨xe0_1,hxe0_1⟩ : ∃ x,x = (rdF (rdP d ver false) ver false fX0_1 s6).1 := ⟨_,rfl⟩
      repeat ((first | refine qA rfl ?_|refine qB ?_|refine qC rfl ?_|refine qD ?_|refine qE ?_|refine qF ?_|refine qG ?_|refine qH ?_);try simp (maxSteps:=1000000)(disch:=(first|omega|(simp only [qI,qJ,qK]<;>omega)|exact qL _)) only [go_sem,↓reduceIte,n0,reduceCtorEq,n1,n2,n3,n4,n5,i0,i1,i2,i3,i4,i5,i6,i7,hxb13,hrc0_2,hrc0_7,hrc0_8,hrc0_9,hrc0_10,hrc0_19,hra0,hri0,exitRQ_ret,exitRQ_exit,Int.toNat_natCast,Nat.mul_one])
      have hmay : mayS fX0_1 ver = false := mayS_no (by show (-1 : Int) < 0 ∨ ver < (-1 : Int);omega)
      have hrd : rdF (rdP d ver false) ver false fX0_1 s6 = _ := rdF_oct rfl hmay
      refine (RBytes_fn w13 hq13.1 hrok hG13.1 hgrb).mono ?_
      rintro r14 w14 ⟨hp14,hq14,hu14⟩
      obtain ⟨ao14,no14,co14,rfl⟩ := hp14.shape
      have hx1_14 := hu14.blk_some hx1_13 (by omega)
      have hV14 : Upd (fun b => b = R1 ∨ b = rb) w13 w14 := hu14.mono (fun _ h => .inr h)
      have hU14 : Upd (fun b => b = vb ∨ b = rb) w1 w14 := hU13.trans' hV14 fun i hi h => h.elim (fun h => by omega) .inr
      have hz14 := hV14.size
      have hG14 : Glo ev w14 := hG1.updS hU14 hgM1 hgM2
      obtain ⟨X14,hX14⟩ : ∃ X : Array Value,X = (A1 ++ (([strV (rdStr false s5).1,.slice none 0 0,.map none] : List Value) ++ B1)).toArray := ⟨_,rfl⟩
      have hxb14 : blk w14 R1 = some (X14,126,(0,0)) := by rw [hX14];exact hx1_14
      have hXs14 : j1 * 3 + 3 ≤ X14.size := by rw [hX14];simp only [List.size_toArray,List.length_append,List.length_cons,List.length_nil,hA1];omega
      have hst : (rdF (rdP d ver false) ver false fX0_1 s6).2 = (rdBytes false s6).2 := by first | (rw [hrd];rfl) | rw [hrd]
      obtain ⟨s7,hs7⟩ : ∃ s,s = (rdF (rdP d ver false) ver false fX0_1 s6).2 := ⟨_,rfl⟩
      rw [← hst,← hs7] at hq14
      clear hst
      have hst14_1 : j1 * 3 + 2 ≤ X14.size := by omega
      repeat ((first | refine qA rfl ?_|refine qB ?_|refine qC rfl ?_|refine qD ?_|refine qE ?_|refine qF ?_|refine qG ?_|refine qH ?_);try simp (maxSteps:=1000000)(disch:=(first|omega|(simp only [qI,qJ,qK]<;>omega)|exact qL _)) only [go_sem,↓reduceIte,n0,reduceCtorEq,n1,n2,n3,n4,n5,i0,i1,i2,i3,i4,i5,i6,i7,hxb14,hrc0_2,hrc0_7,hrc0_8,hrc0_9,hrc0_10,hrc0_19,hra0,hri0,exitRQ_ret,exitRQ_exit,Int.toNat_natCast,Nat.mul_one,hst14_1])
      generalize hw15 : wr w14 R1 (j1 * 3 + 1) [.slice ao14 no14 co14] = w15
      have hS15 : Upd (fun b => b = R1 ∨ b = rb) w14 w15 := by rw [← hw15];exact (Upd.refl _ _).wr _ _ (.inr (.inl rfl))
      have hx1_15 : blk w15 R1 = some ((A1 ++ (([strV (rdStr false s5).1,.slice ao14 no14 co14,.map none] : List Value) ++ B1)).toArray,126,(0,0)) := by rw [← hw15];exact el_blk (o := 1) hx1_14 hA1 (Nat.le_of_ble_eq_true rfl)
      have hV15 := hS15
      have hU15 : Upd (fun b => b = vb ∨ b = rb) w1 w15 := hU14.trans' hV15 fun i hi h => h.elim (fun h => by omega) .inr
      have hz15 := hV15.size
      have hG15 : Glo ev w15 := hG1.updS hU15 hgM1 hgM2
      have hq15 : Rdr RT ok w15 rb s7 ∧ NN w15 rb s7 := by
        have hn : ∀ x,x = w15 → (Rdr RT ok x rb s7 ∧ NN x rb s7) := fun x hx => by
          rw [hx,← hw15]
          exact Rdr.store hq14 (by omega) (fun h => by have := (hok _ h).1;first | omega | exact (hok _ h).2 rfl)
        exact hn _ rfl
      obtain ⟨X15,hX15⟩ : ∃ X : Array Value,X = (A1 ++ (([strV (rdStr false s5).1,.slice ao14 no14 co14,.map none] : List Value) ++ B1)).toArray := ⟨_,rfl⟩
      have hxb15 : blk w15 R1 = some (X15,126,(0,0)) := by rw [hX15];exact hx1_15
      have hXs15 : j1 * 3 + 3 ≤ X15.size := by rw [hX15];simp only [List.size_toArray,List.length_append,List.length_cons,List.length_nil,hA1];omega
      clear hw15
      have hfe0_1 : RepF (RepS true d) (szS true d) fX0_1 (fun b => (ok b ∨ w1.heap.size ≤ b) ∧ ¬ ownB va0 b) w15 (xe0_1) [.slice ao14 no14 co14] := (RepF_bytes rfl).2 ⟨_,rfl,by rw [hxe0_1,hrd];exact (hp14.weaken fun b _ hk => ⟨.inl hk,fun ho => by have := (hown1 b ho).1;have := (hok b hk).1;omega⟩).keep (hV15.keeps fun b _ hk e => hoM1 b hk e)⟩
      clear hrd
      have hle0_2 : rdL (rdP d ver false) (dfP d) ver false [] s7 = ([],s7) := rfl
      have hle0_1 : rdL (rdP d ver false) (dfP d) ver false [fX0_1] s6 = ([xe0_1],s7) := by rw [rdL_st (by decide) hhe0_1,← hxe0_1,← hs7,hle0_2]
      have hle0_0 : rdL (rdP d ver false) (dfP d) ver false [fX0_0,fX0_1] s5 = ([xe0_0,xe0_1],s7) := by rw [rdL_st (by decide) hhe0_0,← hxe0_0,← hs6,hle0_1]
      have hfine0 : rdP (d + 1) ver false fs_X0 s5 = (.mk 0 [] false [xe0_0,xe0_1] [],s7) := rdP_f hle0_0
      have hTge0 : TagsM (fun b => (ok b ∨ w1.heap.size ≤ b) ∧ ¬ ownB va0 b) w15 (.map none) [] := .inl ⟨rfl,rfl⟩
      have hCe0_15 : Upd (fun b => b = R1 ∨ b = rb) w15 w15 := Upd.refl _ _
      have hCe0_14 : Upd (fun b => b = R1 ∨ b = rb) w14 w15 := hV15.trans hCe0_15
      have hCe0_13 : Upd (fun b => b = R1 ∨ b = rb) w13 w15 := hV14.trans hCe0_14
      have hCe0_12 : Upd (fun b => b = R1 ∨ b = rb) w12 w15 := hV13.trans hCe0_13
      have hCe0_11 : Upd (fun b => b = R1 ∨ b = rb) w11 w15 := hV12.trans hCe0_12
      have hCe0_10 : Upd (fun b => b = R1 ∨ b = rb) w10 w15 := hV11.trans hCe0_11
      have hRe0 : RepS true (d + 1) fs_X0 (fun b => (ok b ∨ w1.heap.size ≤ b) ∧ ¬ ownB va0 b) w15 (.mk 0 [] false [xe0_0,xe0_1] []) [strV (rdStr false s5).1,.slice ao14 no14 co14,.map none] := RepS.introT (c := [strV (rdStr false s5).1,.slice ao14 no14 co14]) (RepL.cons1 (hfe0_0.keepS (hCe0_13.keeps fun b _ hk e => hoM1 b hk e)) (RepL.cons1 (hfe0_1.keepS (hCe0_15.keeps fun b _ hk e => hoM1 b hk e)) RepL.nil)) hTge0
      have hrE : (rd1 (rdP (d + 1) ver false) fSyncGroupRequest_6.of fSyncGroupRequest_6.sub false false) s5 = ((.mk 0 [] false [xe0_0,xe0_1] []),s7) := by rw [show (rd1 (rdP (d + 1) ver false) fSyncGroupRequest_6.of fSyncGroupRequest_6.sub false false) s5 = _ from rd1_part];exact hfine0
      have hxE : (Rep1 (RepS true (d + 1)) fSyncGroupRequest_6.of fSyncGroupRequest_6.sub) (fun b => (ok b ∨ w1.heap.size ≤ b) ∧ ¬ ownB va0 b) w15 (.mk 0 [] false [xe0_0,xe0_1] []) [strV (rdStr false s5).1,.slice ao14 no14 co14,.map none] := Rep1_part.2 hRe0
      repeat ((first | refine qA rfl ?_|refine qB ?_|refine qC rfl ?_|refine qD ?_|refine qE ?_|refine qF ?_|refine qG ?_|refine qH ?_);try simp (maxSteps:=1000000)(disch:=(first|omega|(simp only [qI,qJ,qK]<;>omega)|exact qL _)) only [go_sem,↓reduceIte,n0,reduceCtorEq,n1,n2,n3,n4,n5,i0,i1,i2,i3,i4,i5,i6,i7,hxb15,hrc0_2,hrc0_7,hrc0_8,hrc0_9,hrc0_10,hrc0_19,hra0,hri0,exitRQ_ret,exitRQ_exit,Int.toNat_natCast,Nat.mul_one])
      have hTk : Upd (fun b => b = R1 ∨ b = rb) w10 w15 := ((((hV11.trans hV12).trans hV13).trans hV14).trans hV15)
      have hL' := hL0.step (Rep1_lay _ _ fun _ => RepS_lay true _ _) hlt0 (hnext1 w15 [strV (rdStr false s5).1,.slice ao14 no14 co14,.map none] rfl hx1_15) (by rw [hrE];exact hxE) (hTk.mono fun b h => h.imp (fun e => ⟨_,_,_,hva1,e⟩) id) (by rw [hrE];exact hq15) (fun h => hoM rb h (.inr rfl)) (Nat.le_refl _)
      have hij : IntKind.i32.wrap ((j1 : Int) + 1) = ((j1 + 1 : Nat) : Int) := by rw [i32_wrap (by omega)];omega
      repeat ((first | refine qA rfl ?_|refine qB ?_|refine qC rfl ?_|refine qD ?_|refine qE ?_|refine qF ?_|refine qG ?_|refine qH ?_);try simp (maxSteps:=1000000)(disch:=(first|omega|(simp only [qI,qJ,qK]<;>omega)|exact qL _)) only [go_sem,↓reduceIte,n0,reduceCtorEq,n1,n2,n3,n4,n5,i0,i1,i2,i3,i4,i5,i6,i7,hxb15,hrc0_2,hrc0_7,hrc0_8,hrc0_9,hrc0_10,hrc0_19,hra0,hri0,exitRQ_ret,exitRQ_exit,Int.toNat_natCast,Nat.mul_one,hij])
      refine ⟨⟨(by simp (maxSteps:=1000000)(disch:=(first|omega|(simp only [qI,qJ,qK]<;>omega)|exact qL _)) only [go_sem,↓reduceIte,n0,reduceCtorEq,n1,n2,n3,n4,n5,i0,i1,i2,i3,i4,i5,i6,i7,Holds_nil,Holds_cons,hrc0_2,hrc0_7,hrc0_8,hrc0_9,hrc0_10,hrc0_19,hra0,hri0];exact hva1.symm),j1 + 1,(by simp (maxSteps:=1000000)(disch:=(first|omega|(simp only [qI,qJ,qK]<;>omega)|exact qL _)) only [go_sem,↓reduceIte,n0,reduceCtorEq,n1,n2,n3,n4,n5,i0,i1,i2,i3,i4,i5,i6,i7,hrc0_2,hrc0_7,hrc0_8,hrc0_9,hrc0_10,hrc0_19,hra0,hri0,hij];all_goals rfl),_,_,_,hL'⟩,?_⟩
      try simp (maxSteps:=1000000)(disch:=(first|omega|(simp only [qI,qJ,qK]<;>omega)|exact qL _)) only [go_sem,↓reduceIte,n0,reduceCtorEq,n1,n2,n3,n4,n5,i0,i1,i2,i3,i4,i5,i6,i7,hrc0_2,hrc0_7,hrc0_8,hrc0_9,hrc0_10,hrc0_19,hra0,hri0]
      simp only [RowKit.intOf]
      omega
    · have hjN : j1 = N0 := by omega
      rw [hjN] at hL0
      repeat ((first | refine qA rfl ?_|refine qB ?_|refine qC rfl ?_|refine qD ?_|refine qE ?_|refine qF ?_|refine qG ?_|refine qH ?_);try simp (maxSteps:=1000000)(disch:=(first|omega|(simp only [qI,qJ,qK]<;>omega)|exact qL _)) only [go_sem,↓reduceIte,n0,reduceCtorEq,n1,n2,n3,n4,n5,i0,i1,i2,i3,i4,i5,i6,i7,hrc0_2,hrc0_7,hrc0_8,hrc0_9,hrc0_10,hrc0_19,hrc0_18,hri0,exitRQ_ret,exitRQ_exit])
      exact ⟨(by simp (maxSteps:=1000000)(disch:=(first|omega|(simp only [qI,qJ,qK]<;>omega)|exact qL _)) only [go_sem,↓reduceIte,n0,reduceCtorEq,n1,n2,n3,n4,n5,i0,i1,i2,i3,i4,i5,i6,i7,Holds_nil,Holds_cons,hrc0_2,hrc0_7,hrc0_8,hrc0_9,hrc0_10,hrc0_19,hrc0_18,hri0]),s5,xs0,css0,hL0⟩
  rintro ρ w16 ⟨⟨hrd0_2,hrd0_7,hrd0_8,hrd0_9,hrd0_10,hrd0_19,hrd0_18,-⟩,s8,xs0,css0,hL0⟩
  have hq16 := hL0.rd
  have hu16 := hL0.upd
  have hv_16 := hu16.blk_some hv_8 (by omega)
  have hV16 : Upd (fun b => b = vb ∨ b = rb) w8 w16 := hu16.mono (fun _ h => .inr h)
  have hU16 : Upd (fun b => b = vb ∨ b = rb) w1 w16 := hU8.trans hV16
  have hz16 := hV16.size
  have hG16 : Glo ev w16 := hG1.updS hU16 hgM1 hgM2
  have hrd0 : rdF (rdP (d + 1) ver false) ver false fSyncGroupRequest_6 s3 = (.mk 0 [] (nilS fSyncGroupRequest_6 ver y0) xs0 [],s8) := by
    have h := rdF_listE (pt := (rdP (d + 1) ver false)) (v := ver) (flex := false) (f := fSyncGroupRequest_6) (s := s3) (xs := xs0) (e := s8) rfl (by rw [hy0,← hN0,← hs4];exact hL0.done)
    rw [hy0] at h;exact h
  have hs8 : s8 = (rdF (rdP (d + 1) ver false) ver false fSyncGroupRequest_6 s3).2 := by rw [hrd0]
  obtain ⟨aa0,qq0,hvs0⟩ := hL0.row.shape
  subst hvs0
  repeat ((first | refine qA rfl ?_|refine qB ?_|refine qC rfl ?_|refine qD ?_|refine qE ?_|refine qF ?_|refine qG ?_|refine qH ?_);try simp (maxSteps:=1000000)(disch:=(first|omega|(simp only [qI,qJ,qK]<;>omega)|exact qL _)) only [go_sem,↓reduceIte,n0,reduceCtorEq,n1,n2,n3,n4,n5,i0,i1,i2,i3,i4,i5,i6,i7,hv_16,hrd0_2,hrd0_7,hrd0_8,hrd0_9,hrd0_10,hrd0_19,hrd0_18])
  generalize hw17 : wr w16 vb 7 [.slice aa0 N0 qq0] = w17
  have hS17 : Upd (fun b => b = vb ∨ b = rb) w16 w17 := by rw [← hw17];exact (Upd.refl _ _).wr _ _ (.inr (.inl rfl))
  have hv_17 : blk w17 vb = some (#[.int .i16 ver,strV (rdStr false s0).1,.int .i32 (rdInt .i32 4 s1).1,strV (rdStr false s2).1,.pointer none,.pointer none,.pointer none,.slice aa0 N0 qq0,.map none],123,(0,0)) := by rw [← hw17,blk_wr_eq,hv_16];rfl
  have hV17 := hS17
  have hU17 : Upd (fun b => b = vb ∨ b = rb) w1 w17 := hU16.trans hV17
  have hz17 := hV17.size
  have hG17 : Glo ev w17 := hG1.updS hU17 hgM1 hgM2
  have hq17 : Rdr RT ok w17 rb s8 ∧ NN w17 rb s8 := by
    have hn : ∀ x,x = w17 → (Rdr RT ok x rb s8 ∧ NN x rb s8) := fun x hx => by
      rw [hx,← hw17]
      exact Rdr.store hq16 (by omega) (fun h => by have := (hok _ h).1;first | omega | exact (hok _ h).2 rfl)
    exact hn _ rfl
  clear hw17
  have hf_6 : RepF (RepS true (d + 1)) (szS true (d + 1)) fSyncGroupRequest_6 (fun b => ok b ∨ w1.heap.size ≤ b) w17 (x_6) [.slice aa0 N0 qq0] := by rw [hx_6,hrd0];exact RepF.keepS (RepF_row rfl hnc0 hN0 rfl hL0.row hL0.all (fun b hb => .inr (by omega))) (hV17.keeps fun b _ hk e => (hoM b hk) e)
  clear hL0 hnc0
  have hl_7 : rdL (rdP (d + 1) ver false) (dfP (d + 1)) ver false [] s8 = ([],s8) := rfl
  have hl_6 : rdL (rdP (d + 1) ver false) (dfP (d + 1)) ver false [fSyncGroupRequest_6] s3 = ([x_6],s8) := by rw [rdL_st (by decide) hh_6,← hx_6,← hs8,hl_7]
  have hl_5 : rdL (rdP (d + 1) ver false) (dfP (d + 1)) ver false [fSyncGroupRequest_5,fSyncGroupRequest_6] s3 = ([x_5,x_6],s8) := by rw [rdL_no hh_5,← hx_5,hl_6]
  have hl_4 : rdL (rdP (d + 1) ver false) (dfP (d + 1)) ver false [fSyncGroupRequest_4,fSyncGroupRequest_5,fSyncGroupRequest_6] s3 = ([x_4,x_5,x_6],s8) := by rw [rdL_no hh_4,← hx_4,hl_5]
  have hl_3 : rdL (rdP (d + 1) ver false) (dfP (d + 1)) ver false [fSyncGroupRequest_3,fSyncGroupRequest_4,fSyncGroupRequest_5,fSyncGroupRequest_6] s3 = ([x_3,x_4,x_5,x_6],s8) := by rw [rdL_no hh_3,← hx_3,hl_4]
  have hl_2 : rdL (rdP (d + 1) ver false) (dfP (d + 1)) ver false [fSyncGroupRequest_2,fSyncGroupRequest_3,fSyncGroupRequest_4,fSyncGroupRequest_5,fSyncGroupRequest_6] s2 = ([x_2,x_3,x_4,x_5,x_6],s8) := by rw [rdL_st (by decide) hh_2,← hx_2,← hs3,hl_3]
  have hl_1 : rdL (rdP (d + 1) ver false) (dfP (d + 1)) ver false [fSyncGroupRequest_1,fSyncGroupRequest_2,fSyncGroupRequest_3,fSyncGroupRequest_4,fSyncGroupRequest_5,fSyncGroupRequest_6] s1 = ([x_1,x_2,x_3,x_4,x_5,x_6],s8) := by rw [rdL_st (by decide) hh_1,← hx_1,← hs2,hl_2]
  have hl_0 : rdL (rdP (d + 1) ver false) (dfP (d + 1)) ver false [fSyncGroupRequest_0,fSyncGroupRequest_1,fSyncGroupRequest_2,fSyncGroupRequest_3,fSyncGroupRequest_4,fSyncGroupRequest_5,fSyncGroupRequest_6] s0 = ([x_0,x_1,x_2,x_3,x_4,x_5,x_6],s8) := by rw [rdL_st (by decide) hh_0,← hx_0,← hs1,hl_1]
  have hfin : rdP (d + 2) ver false fs_SyncGroupRequest s0 = (.mk 0 [] false [x_0,x_1,x_2,x_3,x_4,x_5,x_6] [],s8) := rdP_f hl_0
  have hTg : TagsM (fun b => ok b ∨ w1.heap.size ≤ b) w17 (.map none) [] := .inl ⟨rfl,rfl⟩
  have hC_17 : Upd (fun b => b = vb ∨ b = rb) w17 w17 := Upd.refl _ _
  have hC_16 : Upd (fun b => b = vb ∨ b = rb) w16 w17 := hV17.trans hC_17
  have hC_8 : Upd (fun b => b = vb ∨ b = rb) w8 w17 := hV16.trans hC_16
  have hC_7 : Upd (fun b => b = vb ∨ b = rb) w7 w17 := hV8.trans hC_8
  have hC_6 : Upd (fun b => b = vb ∨ b = rb) w6 w17 := hV7.trans hC_7
  have hC_5 : Upd (fun b => b = vb ∨ b = rb) w5 w17 := hV6.trans hC_6
  have hC_4 : Upd (fun b => b = vb ∨ b = rb) w4 w17 := hV5.trans hC_5
  have hC_3 : Upd (fun b => b = vb ∨ b = rb) w3 w17 := hV4.trans hC_4
  have hC_2 : Upd (fun b => b = vb ∨ b = rb) w2 w17 := hV3.trans hC_3
  have hC_1 : Upd (fun b => b = vb ∨ b = rb) w1 w17 := hV2.trans hC_2
  have hR : RepS true (d + 2) fs_SyncGroupRequest (fun b => ok b ∨ w1.heap.size ≤ b) w17 (.mk 0 [] false [x_0,x_1,x_2,x_3,x_4,x_5,x_6] []) [strV (rdStr false s0).1,.int .i32 (rdInt .i32 4 s1).1,strV (rdStr false s2).1,.pointer none,.pointer none,.pointer none,.slice aa0 N0 qq0,.map none] := RepS.introT (c := [strV (rdStr false s0).1,.int .i32 (rdInt .i32 4 s1).1,strV (rdStr false s2).1,.pointer none,.pointer none,.pointer none,.slice aa0 N0 qq0]) (RepL.cons1 (hf_0.keepS (hC_3.keeps fun b _ hk e => (hoM b hk) e)) (RepL.cons1 (hf_1.keepS (hC_5.keeps fun b _ hk e => (hoM b hk) e)) (RepL.cons1 (hf_2.keepS (hC_7.keeps fun b _ hk e => (hoM b hk) e)) (RepL.cons1 (hf_3.keepS (hC_7.keeps fun b _ hk e => (hoM b hk) e)) (RepL.cons1 (hf_4.keepS (hC_7.keeps fun b _ hk e => (hoM b hk) e)) (RepL.cons1 (hf_5.keepS (hC_7.keeps fun b _ hk e => (hoM b hk) e)) (RepL.cons1 (hf_6.keepS (hC_17.keeps fun b _ hk e => (hoM b hk) e)) RepL.nil))))))) hTg
  repeat ((first | refine qA rfl ?_|refine qB ?_|refine qC rfl ?_|refine qD ?_|refine qE ?_|refine qF ?_|refine qG ?_|refine qH ?_);try simp (maxSteps:=1000000)(disch:=(first|omega|(simp only [qI,qJ,qK]<;>omega)|exact qL _)) only [go_sem,↓reduceIte,n0,reduceCtorEq,n1,n2,n3,n4,n5,i0,i1,i2,i3,i4,i5,i6,i7,hv_17,hrd0_2,hrd0_7,hrd0_8,hrd0_9,hrd0_10,hrd0_19,hrd0_18])
  refine (RComplete_fn w17 hq17.1 hG17.2).mono ?_
  rintro _ wz ⟨rfl,hez⟩
  rw [hez]
  repeat ((first | refine qA rfl ?_|refine qB ?_|refine qC rfl ?_|refine qD ?_|refine qE ?_|refine qF ?_|refine qG ?_|refine qH ?_);try simp (maxSteps:=1000000)(disch:=(first|omega|(simp only [qI,qJ,qK]<;>omega)|exact qL _)) only [go_sem,↓reduceIte,n0,reduceCtorEq,n1,n2,n3,n4,n5,i0,i1,i2,i3,i4,i5,i6,i7,hv_17,hrd0_2,hrd0_7,hrd0_8,hrd0_9,hrd0_10,hrd0_19,hrd0_18])
  rw [hfin]
  refine ⟨fun h => ?_,fun h => ⟨?_,[strV (rdStr false s0).1,.int .i32 (rdInt .i32 4 s1).1,strV (rdStr false s2).1,.pointer none,.pointer none,.pointer none,.slice aa0 N0 qq0,.map none],hv_17,?_⟩,?_⟩
  · have h' : s8 = none := h
    rw [h'];rfl
  · cases hsn : s8 with
    | none => exact absurd hsn h
    | some x => rfl
  · exact (RepS_lay true (d + 2) fs_SyncGroupRequest).weaken hR fun b _ hk => hk.imp id fun h => by omega
  · exact hbase.trans' hU17 fun i hi h => h.elim id fun h => by omega
end Ms

