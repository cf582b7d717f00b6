/- A part of the proof: see the last text. -/
import Derived.Test.YtdpckciobjkobaaGreatDoorC06
import Derived.Test.YtdpckciobjkobaaGreatDoorC07
import Derived.Test.YtdpckciobjkobaaGreatDoorC09
import Derived.Test.YtdpckciobjkobaaGreatDoorC10
import Derived.Test.YtdpckciobjkobaaGreatDoorC11
set_option linter.unusedSimpArgs false
set_option linter.unusedVariables false
namespace Ms
open Nat renaming reduceEqDiff → n0,reduceAdd → n1,reduceMul → n2,reduceSub → n3,reduceLT → n4,reduceLeDiff → n5
open Int renaming reduceEq → i0,reduceLT → i1,reduceLE → i2,reduceNeg → i3,reduceAdd → i4,reduceSub → i5,reduceMul → i6,reduceToNat → i7
set_option maxRecDepth 4000
open Go Go.Proofs
theorem ca_119 : callable Tryz.prog 119 = true := nr (by kernel_rfl)
theorem ca_12 : callable Tryz.prog 12 = true := nr (by kernel_rfl)
theorem ca_120 : callable Tryz.prog 120 = true := nr (by kernel_rfl)
theorem ca_129 : callable Tryz.prog 129 = true := nr (by kernel_rfl)
theorem ca_13 : callable Tryz.prog 13 = true := nr (by kernel_rfl)
theorem ca_130 : callable Tryz.prog 130 = true := nr (by kernel_rfl)
theorem ca_131 : callable Tryz.prog 131 = true := nr (by kernel_rfl)
theorem ca_132 : callable Tryz.prog 132 = true := nr (by kernel_rfl)
theorem ca_139 : callable Tryz.prog 139 = true := nr (by kernel_rfl)
theorem ca_144 : callable Tryz.prog 144 = true := nr (by kernel_rfl)
theorem ca_145 : callable Tryz.prog 145 = true := nr (by kernel_rfl)
theorem ca_146 : callable Tryz.prog 146 = true := nr (by kernel_rfl)
theorem ca_147 : callable Tryz.prog 147 = true := nr (by kernel_rfl)
theorem ca_156 : callable Tryz.prog 156 = true := nr (by kernel_rfl)
theorem ca_16 : callable Tryz.prog 16 = true := nr (by kernel_rfl)
theorem ca_17 : callable Tryz.prog 17 = true := nr (by kernel_rfl)
theorem ca_191 : callable Tryz.prog 191 = true := nr (by kernel_rfl)
theorem ca_192 : callable Tryz.prog 192 = true := nr (by kernel_rfl)
theorem ca_196 : callable Tryz.prog 196 = true := nr (by kernel_rfl)
theorem ca_197 : callable Tryz.prog 197 = true := nr (by kernel_rfl)
theorem ca_20 : callable Tryz.prog 20 = true := nr (by kernel_rfl)
theorem ca_21 : callable Tryz.prog 21 = true := nr (by kernel_rfl)
theorem ca_40 : callable Tryz.prog 40 = true := nr (by kernel_rfl)
theorem ca_41 : callable Tryz.prog 41 = true := nr (by kernel_rfl)
theorem ca_42 : callable Tryz.prog 42 = true := nr (by kernel_rfl)
theorem ca_53 : callable Tryz.prog 53 = true := nr (by kernel_rfl)
theorem ca_82 : callable Tryz.prog 82 = true := nr (by kernel_rfl)
theorem ca_83 : callable Tryz.prog 83 = true := nr (by kernel_rfl)
theorem ca_84 : callable Tryz.prog 84 = true := nr (by kernel_rfl)
theorem ca_85 : callable Tryz.prog 85 = true := nr (by kernel_rfl)
theorem ca_86 : callable Tryz.prog 86 = true := nr (by kernel_rfl)
theorem es_118 : elemSize Tryz.prog 118 = some 2 := nr (by kernel_rfl)
theorem fo_120_0 : fieldOff Tryz.prog 120 0 = some 0 := nr (by kernel_rfl)
theorem fo_120_1 : fieldOff Tryz.prog 120 1 = some 1 := nr (by kernel_rfl)
theorem fo_120_2 : fieldOff Tryz.prog 120 2 = some 2 := nr (by kernel_rfl)
theorem fo_120_3 : fieldOff Tryz.prog 120 3 = some 3 := nr (by kernel_rfl)
theorem fo_174_0 : fieldOff Tryz.prog 174 0 = some 0 := nr (by kernel_rfl)
theorem fo_174_1 : fieldOff Tryz.prog 174 1 = some 1 := nr (by kernel_rfl)
theorem if_55 : isIfaceT Tryz.prog 55 = true := nr (by kernel_rfl)
theorem kn_71 : knownT Tryz.prog 71 = true := nr (by kernel_rfl)
theorem kn_9 : knownT Tryz.prog 9 = true := nr (by kernel_rfl)
theorem ld_118 (w : World) (b o : Nat) : loadOf Tryz.prog 118 w ⟨b,o,none⟩ = (blk w b).bind fun x => x.1[o]? := loadOf_one (by kernel_rfl) w b o
theorem ld_23 (w : World) (b o : Nat) : loadOf Tryz.prog 23 w ⟨b,o,none⟩ = (blk w b).bind fun x => cellsAt x.1 o 2 := loadOf_agg (by kernel_rfl) w b o
theorem ld_34 (w : World) (b o : Nat) : loadOf Tryz.prog 34 w ⟨b,o,none⟩ = (blk w b).bind fun x => cellsAt x.1 o 2 := loadOf_agg (by kernel_rfl) w b o
theorem ld_45 (w : World) (b o : Nat) : loadOf Tryz.prog 45 w ⟨b,o,none⟩ = (blk w b).bind fun x => x.1[o]? := loadOf_one (by kernel_rfl) w b o
theorem nif_71 : isIfaceT Tryz.prog 71 = false := nr (by kernel_rfl)
theorem pl_131 : placesOf Tryz.prog 131 = some [(0,1),(1,1)] := nr (by kernel_rfl)
theorem pl_34 : placesOf Tryz.prog 34 = some [(0,1),(1,1)] := nr (by kernel_rfl)
theorem pl_51 : placesOf Tryz.prog 51 = some [(0,1),(1,1),(2,1),(3,1),(4,1),(5,1),(6,1),(7,1)] := nr (by kernel_rfl)
theorem se_32 : slElem Tryz.prog 32 = some (51,8) := nr (by kernel_rfl)
theorem sl_118 : isSliceT Tryz.prog 118 = true := nr (by kernel_rfl)
theorem sz_118 (w : World) (b o : Nat) (v : Value) : storeOf Tryz.prog 118 w ⟨b,o,none⟩ v = (blk w b).bind fun x => stO w b o v x 1 := storeOf_n (by kernel_rfl) w b o v
theorem sz_131 (w : World) (b o : Nat) (v : Value) : storeOf Tryz.prog 131 w ⟨b,o,none⟩ v = (blk w b).bind fun x => stO w b o v x 2 := storeOf_n (by kernel_rfl) w b o v
theorem sz_34 (w : World) (b o : Nat) (v : Value) : storeOf Tryz.prog 34 w ⟨b,o,none⟩ v = (blk w b).bind fun x => stO w b o v x 2 := storeOf_n (by kernel_rfl) w b o v
theorem sz_45 (w : World) (b o : Nat) (v : Value) : storeOf Tryz.prog 45 w ⟨b,o,none⟩ v = (blk w b).bind fun x => stO w b o v x 1 := storeOf_n (by kernel_rfl) w b o v
theorem z_120 : zeroOf Tryz.prog 120 = some #[.int .i16 0,.string ByteArray.empty,.slice none 0 0,.map none] := nr (by kernel_rfl)
theorem z_131 : zeroOf Tryz.prog 131 = some #[.slice none 0 0,.bool false] := nr (by kernel_rfl)
theorem z_34 : zeroOf Tryz.prog 34 = some #[.slice none 0 0,.int .i64 0] := nr (by kernel_rfl)
attribute [go_sem] ca_119 ca_12 ca_120 ca_129 ca_13 ca_130 ca_131 ca_132 ca_139 ca_144 ca_145 ca_146 ca_147 ca_156 ca_16 ca_17 ca_191 ca_192 ca_196 ca_197 ca_20 ca_21 ca_40 ca_41 ca_42 ca_53 ca_82 ca_83 ca_84 ca_85 ca_86 es_118 fo_120_0 fo_120_1 fo_120_2 fo_120_3 fo_174_0 fo_174_1 if_55 kn_71 kn_9 ld_118 ld_23 ld_34 ld_45 nif_71 pl_131 pl_34 pl_51 se_32 sl_118 sz_118 sz_131 sz_34 sz_45 z_120 z_131 z_34
end Ms

namespace Ms
open Go.World renaming size_alloc → qI
open Ms renaming size_wr → qJ,size_drew → qK,not_noB → qL
open W renaming seqR → qA,seq → qB,regR → qC,condK → qD,block → qE,skip → qF,ret → qG,exit → qH
open Nat renaming reduceEqDiff → n0,reduceAdd → n1,reduceMul → n2,reduceSub → n3,reduceLT → n4,reduceLeDiff → n5
open Int renaming reduceEq → i0,reduceLT → i1,reduceLE → i2,reduceNeg → i3,reduceAdd → i4,reduceSub → i5,reduceMul → i6,reduceToNat → i7
set_option maxRecDepth 8000
open Go Go.Proofs Go.Shelf
attribute [local congr] W_congr WPsq_congr WPp_congr optK_congr addrK_congr intK_congr boolK_congr sliceK_congr tupleK_congr funcK_congr Fn_congr rawK_congr takeK_congr stepK_congr convK_congr aggK_congr

def fX0_0 : Fld := .mk 8 0 (-1) (-1) (-1) 0 0 []
def fs_X0 : List Fld := [fX0_0]
def fDeleteShareGroupOffsetsRequest_0 : Fld := .mk 8 0 (-1) (-1) (-1) 0 0 []
def fDeleteShareGroupOffsetsRequest_1 : Fld := .mk 11 0 (-1) (-1) (-1) 0 10 fs_X0
def fs_DeleteShareGroupOffsetsRequest : List Fld := [fDeleteShareGroupOffsetsRequest_0,fDeleteShareGroupOffsetsRequest_1]

set_option maxHeartbeats 4000000 in
theorem cX0_fn (w : World) : Fn Tryz.prog 84 #[] w fun r w' => FldsV (fun b => w.heap.size ≤ b) w' r fs_X0 ∧ Ext w w' := by
  refine fn_of_W Tryz.func84 rfl Tryz.results84 Tryz.ntmps84 rfl ?_
  repeat ((first | refine qA rfl ?_|refine qB ?_|refine qC rfl ?_|refine qD ?_|refine qE ?_|refine qF ?_|refine qG ?_|refine qH ?_);try simp (maxSteps:=1000000)(disch:=(first|omega|(simp only [qI,qJ,qK]<;>omega)|exact qL _)) only [go_sem,↓reduceIte,n0,reduceCtorEq,n1,n2,n3,n4,n5,i0,i1,i2,i3,i4,i5,i6,i7,fill_fld,fillN_nil,fillN_int,fillN_slice])
  repeat ((first | refine qA rfl ?_|refine qB ?_|refine qC rfl ?_|refine qD ?_|refine qE ?_|refine qF ?_|refine qG ?_|refine qH ?_);try simp (maxSteps:=1000000)(disch:=(first|omega|(simp only [qI,qJ,qK]<;>omega)|exact qL _)) only [go_sem,↓reduceIte,n0,reduceCtorEq,n1,n2,n3,n4,n5,i0,i1,i2,i3,i4,i5,i6,i7,fill_fld,fillN_nil,fillN_int,fillN_slice])
  exact ⟨FldsV.litO (fs := fs_X0) (css := [[.int .i64 8,.int .i64 0,.int .i64 (-1),.int .i64 (-1),.int .i64 (-1),.int .i64 0,.int .i64 0,.slice none 0 0]]) (T := 51) (fr := (0,0)) (by first | omega | (simp only [World.size_alloc];omega)) (by first | (simp (maxSteps:=1000000)(disch:=(first|omega|(simp only [qI,qJ,qK]<;>omega)|exact qL _)) only [go_sem,↓reduceIte,n0,reduceCtorEq,n1,n2,n3,n4,n5,i0,i1,i2,i3,i4,i5,i6,i7];rfl) | rfl) (by simp) (All2.cons (FldC.intro (kind := 8) (FldsV.none _ _)) All2.nil),(Upd.alloc (Upd.refl _ w) _)⟩

set_option maxHeartbeats 4000000 in
theorem cDeleteShareGroupOffsetsRequest_fn (w : World) : Fn Tryz.prog 41 #[] w fun r w' => (∃ vs,r = .agg #[vs,.int .i64 0] ∧ FldsV (fun b => w.heap.size ≤ b) w' vs fs_DeleteShareGroupOffsetsRequest) ∧ Ext w w' := by
  refine fn_of_W Tryz.func41 rfl Tryz.results41 Tryz.ntmps41 rfl ?_
  repeat ((first | refine qA rfl ?_|refine qB ?_|refine qC rfl ?_|refine qD ?_|refine qE ?_|refine qF ?_|refine qG ?_|refine qH ?_);try simp (maxSteps:=1000000)(disch:=(first|omega|(simp only [qI,qJ,qK]<;>omega)|exact qL _)) only [go_sem,↓reduceIte,n0,reduceCtorEq,n1,n2,n3,n4,n5,i0,i1,i2,i3,i4,i5,i6,i7,fill_fld,fillN_nil,fillN_int,fillN_slice])
  have hz0 : (w.alloc (.cells #[.slice none 0 0,.int .i64 0] 34)).heap.size = w.heap.size + 1 := World.size_alloc _ _
  refine (cX0_fn _).mono ?_
  rintro r1 w1 ⟨hF1,hE1⟩
  obtain ⟨b1,k1,rfl,_⟩ := SlR.shape hF1
  have hz1 := hE1.size
  have hD1 : Ext w w1 := Upd.trans (Upd.alloc (Upd.refl _ _) _) hE1
  have hb1 : blk w1 w.heap.size = some (#[.slice none 0 0,.int .i64 0],34,(0,0)) := hE1.blk_some (blk_alloc_new rfl) id
  simp (maxSteps:=1000000)(disch:=(first|omega|(simp only [qI,qJ,qK]<;>omega)|exact qL _)) only [go_sem,↓reduceIte,n0,reduceCtorEq,n1,n2,n3,n4,n5,i0,i1,i2,i3,i4,i5,i6,i7,fill_fld,fillN_nil,fillN_int,fillN_slice,hb1]
  have hvl := blk_lt hb1
  repeat ((first | refine qA rfl ?_|refine qB ?_|refine qC rfl ?_|refine qD ?_|refine qE ?_|refine qF ?_|refine qG ?_|refine qH ?_);try simp (maxSteps:=1000000)(disch:=(first|omega|(simp only [qI,qJ,qK]<;>omega)|exact qL _)) only [go_sem,↓reduceIte,n0,reduceCtorEq,n1,n2,n3,n4,n5,i0,i1,i2,i3,i4,i5,i6,i7,fill_fld,fillN_nil,fillN_int,fillN_slice,hb1])
  exact ⟨⟨_,rfl,FldsV.litO (fs := fs_DeleteShareGroupOffsetsRequest) (css := [[.int .i64 8,.int .i64 0,.int .i64 (-1),.int .i64 (-1),.int .i64 (-1),.int .i64 0,.int .i64 0,.slice none 0 0],[.int .i64 11,.int .i64 0,.int .i64 (-1),.int .i64 (-1),.int .i64 (-1),.int .i64 0,.int .i64 10,.slice b1 fs_X0.length k1]]) (T := 51) (fr := (0,0)) (by first | omega | (simp only [World.size_alloc];omega)) (by first | (simp (maxSteps:=1000000)(disch:=(first|omega|(simp only [qI,qJ,qK]<;>omega)|exact qL _)) only [go_sem,↓reduceIte,n0,reduceCtorEq,n1,n2,n3,n4,n5,i0,i1,i2,i3,i4,i5,i6,i7];rfl) | rfl) (by simp) (All2.cons (FldC.intro (kind := 8) (FldsV.none _ _)) (All2.cons (FldC.intro (kind := 11) (hF1.stay (B := w.heap.size) (Upd.wr (Upd.alloc (Upd.refl _ _) _) _ _ (.inr rfl)) (by omega) (fun b hb => by omega))) All2.nil))⟩,(Upd.wr (Upd.alloc hD1 _) _ _ (.inl (Nat.le_refl _)))⟩

theorem DefaultDeleteShareGroupOffsetsRequest_fn (w : World) {vb : Nat} {c0 c1 c2 c3 : Value} (hb : blk w vb = some (#[c0,c1,c2,c3],120,(0,0))) :
    Fn Tryz.prog 119 #[.pointer (some ⟨vb,0,none⟩)] w fun _ w' => blk w' vb = some (#[c0,c1,c2,c3],120,(0,0)) ∧ Upd (fun b => b = vb) w w' := by
  have hvl := blk_lt hb
  refine fn_of_W Tryz.func119 rfl Tryz.results119 Tryz.ntmps119 rfl ?_
  repeat ((first | refine qA rfl ?_|refine qB ?_|refine qC rfl ?_|refine qD ?_|refine qE ?_|refine qF ?_|refine qG ?_|refine qH ?_);try simp (maxSteps:=1000000)(disch:=(first|omega|(simp only [qI,qJ,qK]<;>omega)|exact qL _)) only [go_sem,↓reduceIte,n0,reduceCtorEq,n1,n2,n3,n4,n5,i0,i1,i2,i3,i4,i5,i6,i7,hb])
  first | exact Upd.refl _ _ | exact ⟨hb,Upd.refl _ _⟩

theorem NewPtrDeleteShareGroupOffsetsRequest_fn (w : World) : Fn Tryz.prog 82 #[] w fun r w' => r = .pointer (some ⟨w.heap.size,0,none⟩) ∧ blk w' w.heap.size = some (#[.int .i16 0,.string ByteArray.empty,.slice none 0 0,.map none],120,(0,0)) ∧ Ext w w' := by
  refine fn_of_W Tryz.func82 rfl Tryz.results82 Tryz.ntmps82 rfl ?_
  repeat ((first | refine qA rfl ?_|refine qB ?_|refine qC rfl ?_|refine qD ?_|refine qE ?_|refine qF ?_|refine qG ?_|refine qH ?_);try simp (maxSteps:=1000000)(disch:=(first|omega|(simp only [qI,qJ,qK]<;>omega)|exact qL _)) only [go_sem,↓reduceIte,n0,reduceCtorEq,n1,n2,n3,n4,n5,i0,i1,i2,i3,i4,i5,i6,i7])
  refine (DefaultDeleteShareGroupOffsetsRequest_fn _ (blk_alloc_new rfl)).mono ?_
  rintro _ w1 ⟨hb1,hU1⟩
  have hz := World.size_alloc w (.cells #[.int .i16 0,.string ByteArray.empty,.slice none 0 0,.map none] 120)
  repeat ((first | refine qA rfl ?_|refine qB ?_|refine qC rfl ?_|refine qD ?_|refine qE ?_|refine qF ?_|refine qG ?_|refine qH ?_);try simp (maxSteps:=1000000)(disch:=(first|omega|(simp only [qI,qJ,qK]<;>omega)|exact qL _)) only [go_sem,↓reduceIte,n0,reduceCtorEq,n1,n2,n3,n4,n5,i0,i1,i2,i3,i4,i5,i6,i7])
  exact ⟨hb1,(Upd.alloc (Upd.refl _ _) _ : Ext w _).more hU1 fun b hb h => by omega⟩

theorem SetVersionDeleteShareGroupOffsetsRequest_fn (w : World) {vb : Nat} {c0 c1 c2 c3 : Value} (n : Int) (hb : blk w vb = some (#[c0,c1,c2,c3],120,(0,0))) :
    Fn Tryz.prog 85 #[.pointer (some ⟨vb,0,none⟩),.int .i16 n] w fun _ w' => blk w' vb = some (#[.int .i16 n,c1,c2,c3],120,(0,0)) ∧ Upd (fun b => b = vb) w w' := by
  have hvl := blk_lt hb
  refine fn_of_W Tryz.func85 rfl Tryz.results85 Tryz.ntmps85 rfl ?_
  repeat ((first | refine qA rfl ?_|refine qB ?_|refine qC rfl ?_|refine qD ?_|refine qE ?_|refine qF ?_|refine qG ?_|refine qH ?_);try simp (maxSteps:=1000000)(disch:=(first|omega|(simp only [qI,qJ,qK]<;>omega)|exact qL _)) only [go_sem,↓reduceIte,n0,reduceCtorEq,n1,n2,n3,n4,n5,i0,i1,i2,i3,i4,i5,i6,i7,hb])
  first | exact Upd.wr (Upd.refl _ _) _ _ (.inr rfl) | exact ⟨by simp (maxSteps:=1000000)(disch:=(first|omega|(simp only [qI,qJ,qK]<;>omega)|exact qL _)) only [go_sem,↓reduceIte,n0,reduceCtorEq,n1,n2,n3,n4,n5,i0,i1,i2,i3,i4,i5,i6,i7,hb],Upd.wr (Upd.refl _ _) _ _ (.inr rfl)⟩

theorem MaxDeleteShareGroupOffsetsRequest_fn (w : World) : Fn Tryz.prog 40 #[] w fun r w' => r = .int .i64 0 ∧ Ext w w' := by
  refine fn_of_W Tryz.func40 rfl Tryz.results40 Tryz.ntmps40 rfl ?_
  repeat ((first | refine qA rfl ?_|refine qB ?_|refine qC rfl ?_|refine qD ?_|refine qE ?_|refine qF ?_|refine qG ?_|refine qH ?_);try simp (maxSteps:=1000000)(disch:=(first|omega|(simp only [qI,qJ,qK]<;>omega)|exact qL _)) only [go_sem,↓reduceIte,n0,reduceCtorEq,n1,n2,n3,n4,n5,i0,i1,i2,i3,i4,i5,i6,i7])
  refine (NewPtrDeleteShareGroupOffsetsRequest_fn w).mono ?_
  rintro _ w1 ⟨rfl,hb1,hE1⟩
  repeat ((first | refine qA rfl ?_|refine qB ?_|refine qC rfl ?_|refine qD ?_|refine qE ?_|refine qF ?_|refine qG ?_|refine qH ?_);try simp (maxSteps:=1000000)(disch:=(first|omega|(simp only [qI,qJ,qK]<;>omega)|exact qL _)) only [go_sem,↓reduceIte,n0,reduceCtorEq,n1,n2,n3,n4,n5,i0,i1,i2,i3,i4,i5,i6,i7])
  have hm : Fn Tryz.prog 83 #[.pointer (some ⟨w.heap.size,0,none⟩)] w1 fun r w' => r = .int .i16 0 ∧ w' = w1 := by
    refine fn_of_W Tryz.func83 rfl Tryz.results83 Tryz.ntmps83 rfl ?_
    repeat ((first | refine qA rfl ?_|refine qB ?_|refine qC rfl ?_|refine qD ?_|refine qE ?_|refine qF ?_|refine qG ?_|refine qH ?_);try simp (maxSteps:=1000000)(disch:=(first|omega|(simp only [qI,qJ,qK]<;>omega)|exact qL _)) only [go_sem,↓reduceIte,n0,reduceCtorEq,n1,n2,n3,n4,n5,i0,i1,i2,i3,i4,i5,i6,i7])
  refine hm.mono ?_
  rintro _ w2 ⟨rfl,rfl⟩
  have ew : IntKind.i64.wrap (0 : Int) = 0 := i64_wrap (by decide)
  repeat ((first | refine qA rfl ?_|refine qB ?_|refine qC rfl ?_|refine qD ?_|refine qE ?_|refine qF ?_|refine qG ?_|refine qH ?_);try simp (maxSteps:=1000000)(disch:=(first|omega|(simp only [qI,qJ,qK]<;>omega)|exact qL _)) only [go_sem,↓reduceIte,n0,reduceCtorEq,n1,n2,n3,n4,n5,i0,i1,i2,i3,i4,i5,i6,i7,ew])
  exact hE1
end Ms

namespace Ms
open Go.World renaming size_alloc → qI
open Ms renaming size_wr → qJ,size_drew → qK,not_noB → qL
open W renaming seqR → qA,seq → qB,regR → qC,condK → qD,block → qE,skip → qF,ret → qG,exit → qH
open Nat renaming reduceEqDiff → n0,reduceAdd → n1,reduceMul → n2,reduceSub → n3,reduceLT → n4,reduceLeDiff → n5
open Int renaming reduceEq → i0,reduceLT → i1,reduceLE → i2,reduceNeg → i3,reduceAdd → i4,reduceSub → i5,reduceMul → i6,reduceToNat → i7
set_option maxRecDepth 8000
open Go Go.Proofs Go.Shelf
attribute [local congr] W_congr WPsq_congr WPp_congr optK_congr addrK_congr intK_congr boolK_congr sliceK_congr tupleK_congr funcK_congr Fn_congr rawK_congr takeK_congr stepK_congr convK_congr aggK_congr

theorem utDeleteShareGroupOffsetsRequest_118 : Tryz.prog.underlying 118 = some (.slice 174) := by kernel_rfl
theorem utDeleteShareGroupOffsetsRequest_21 : Tryz.prog.underlying 21 = some (.int .i32) := by kernel_rfl
theorem inDeleteShareGroupOffsetsRequest_174 : (Tryz.prog.info? 174).map (fun i => (i.size,i.bytes,i.zero.map (·.cells))) = some (2,24,some #[.string ByteArray.empty,.map none]) := by kernel_rfl

theorem DefaultEX0_fn (w : World) {R k : Nat} {A B : List Value} {c0 c1 : Value} {E : TypeId} (hb : blk w R = some ((A ++ ([c0,c1] ++ B)).toArray,E,(0,0))) (hA : A.length = k) :
    Fn Tryz.prog 156 #[.pointer (some ⟨R,k,none⟩)] w fun _ w' => blk w' R = some ((A ++ ([c0,c1] ++ B)).toArray,E,(0,0)) ∧ Upd (fun b => b = R) w w' := by
  have hRl := blk_lt hb
  obtain ⟨X,hX⟩ : ∃ X : Array Value,X = (A ++ (([c0,c1] : List Value) ++ B)).toArray := ⟨_,rfl⟩
  have hXs : k + 2 ≤ X.size := by rw [hX];simp only [List.size_toArray,List.length_append,List.length_cons,List.length_nil,hA];omega
  have hb' : blk w R = some (X,E,(0,0)) := by rw [hX];exact hb
  refine fn_of_W Tryz.func156 rfl Tryz.results156 Tryz.ntmps156 rfl ?_
  repeat ((first | refine qA rfl ?_|refine qB ?_|refine qC rfl ?_|refine qD ?_|refine qE ?_|refine qF ?_|refine qG ?_|refine qH ?_);try simp (maxSteps:=1000000)(disch:=(first|omega|(simp only [qI,qJ,qK]<;>omega)|exact qL _)) only [go_sem,↓reduceIte,n0,reduceCtorEq,n1,n2,n3,n4,n5,i0,i1,i2,i3,i4,i5,i6,i7,hb',Array.size_setIfInBounds])
  first | exact ⟨hb,Upd.refl _ _⟩ | exact Upd.refl _ _ | (rw [hX];exact ⟨rfl,Upd.refl _ _⟩)
end Ms

namespace Ms
open Go.World renaming size_alloc → qI
open Ms renaming size_wr → qJ,size_drew → qK,not_noB → qL
open W renaming seqR → qA,seq → qB,regR → qC,condK → qD,block → qE,skip → qF,ret → qG,exit → qH
open Nat renaming reduceEqDiff → n0,reduceAdd → n1,reduceMul → n2,reduceSub → n3,reduceLT → n4,reduceLeDiff → n5
open Int renaming reduceEq → i0,reduceLT → i1,reduceLE → i2,reduceNeg → i3,reduceAdd → i4,reduceSub → i5,reduceMul → i6,reduceToNat → i7
set_option maxRecDepth 8000
open Go Go.Proofs Go.Shelf
attribute [local congr] W_congr WPsq_congr WPp_congr optK_congr addrK_congr intK_congr boolK_congr sliceK_congr tupleK_congr funcK_congr Fn_congr rawK_congr takeK_congr stepK_congr convK_congr aggK_congr

set_option maxHeartbeats 4000000 in
theorem readDeleteShareGroupOffsetsRequest_0 {d : Nat} {ok : Blocks} {ver : Int} {ev : Value} (hlo : 0 ≤ ver) (hhi : ver ≤ 0) (w : World) {vb : Nat} (src : Value) (s : List UInt8) (hv : blk w vb = some (#[.int .i16 ver,.string ByteArray.empty,.slice none 0 0,.map none],120,(0,0))) (hsrc : BytesV ok w src s) (hok0 : ∀ b,ok b → b < w.heap.size ∧ b ≠ vb) (hG : Glo ev w) (hgv : ¬ 1 = vb ∧ ¬ 0 = vb) :
    Fn Tryz.prog 120 #[.pointer (some ⟨vb,0,none⟩),src,.bool false] w (ReadQ 120 ok ver (d + 2) fs_DeleteShareGroupOffsetsRequest vb w (rdP (d + 2) ver true fs_DeleteShareGroupOffsetsRequest (some s)) ev) := by
  have hvl := blk_lt hv
  have hgs := hG.lt
  obtain ⟨sa,sc,rfl,_⟩ := hsrc.shape
  refine fn_of_W Tryz.func120 rfl Tryz.results120 Tryz.ntmps120 rfl ?_
  repeat ((first | refine qA rfl ?_|refine qB ?_|refine qC rfl ?_|refine qD ?_|refine qE ?_|refine qF ?_|refine qG ?_|refine qH ?_);try simp (maxSteps:=1000000)(disch:=(first|omega|(simp only [qI,qJ,qK]<;>omega)|exact qL _)) only [go_sem,↓reduceIte,n0,reduceCtorEq,n1,n2,n3,n4,n5,i0,i1,i2,i3,i4,i5,i6,i7,hv])
  refine (DefaultDeleteShareGroupOffsetsRequest_fn w hv).mono ?_
  rintro _ w0 ⟨hv0,hu0⟩
  have hz0 := hu0.size
  have hsrc0 : BytesV ok w0 (.slice sa s.length sc) s := hsrc.keep (hu0.keeps fun b _ hk e => (hok0 b hk).2 e)
  obtain ⟨rb,hrb⟩ : ∃ r,r = w0.heap.size := ⟨_,rfl⟩
  have hE1 : Ext w0 (wr (w0.alloc (.cells #[.slice none 0 0,.bool false] 131)) w0.heap.size 0 [.slice sa s.length sc,.bool false]) := (Upd.alloc (Upd.refl _ _) _).wr _ _ (.inl (Nat.le_refl _))
  have hz1 : (wr (w0.alloc (.cells #[.slice none 0 0,.bool false] 131)) w0.heap.size 0 [.slice sa s.length sc,.bool false]).heap.size = w0.heap.size + 1 := by rw [size_wr,World.size_alloc]
  have hR1 : Rdr RT ok (wr (w0.alloc (.cells #[.slice none 0 0,.bool false] 131)) w0.heap.size 0 [.slice sa s.length sc,.bool false]) w0.heap.size (some s) := Rdr.good (v := .slice sa s.length sc) (by simp (maxSteps:=1000000)(disch:=(first|omega|(simp only [qI,qJ,qK]<;>omega)|exact qL _)) only [go_sem,↓reduceIte,n0,reduceCtorEq,n1,n2,n3,n4,n5,i0,i1,i2,i3,i4,i5,i6,i7]) (hsrc0.keep (hE1.keeps _))
  have hv_1 := hE1.blk_some hv0 id
  repeat ((first | refine qA rfl ?_|refine qB ?_|refine qC rfl ?_|refine qD ?_|refine qE ?_|refine qF ?_|refine qG ?_|refine qH ?_);try simp (maxSteps:=1000000)(disch:=(first|omega|(simp only [qI,qJ,qK]<;>omega)|exact qL _)) only [go_sem,↓reduceIte,n0,reduceCtorEq,n1,n2,n3,n4,n5,i0,i1,i2,i3,i4,i5,i6,i7,hv0])
  generalize (wr (w0.alloc (.cells #[.slice none 0 0,.bool false] 131)) w0.heap.size 0 [.slice sa s.length sc,.bool false]) = w1 at *
  rw [← hrb] at hR1
  try rw [← hrb]
  have hok : ∀ b,ok b → b < w.heap.size ∧ b ≠ vb := hok0
  have hrok : ¬ ok rb := fun h => by have := (hok rb h).1;omega
  have hbase : Upd (fun b => b = vb) w w1 := hu0.trans (hE1.mono fun _ h => h.elim)
  have hG1 : Glo ev w1 := hG.updS hbase hgv.1 hgv.2
  have hgrb : ¬ 1 = rb := by omega
  have hgM1 : ¬ (1 = vb ∨ 1 = rb) := fun h => h.elim hgv.1 fun h => by omega
  have hgM2 : ¬ (0 = vb ∨ 0 = rb) := fun h => h.elim hgv.2 fun h => by omega
  obtain ⟨s0,hs0⟩ : ∃ s' : St,s' = some s := ⟨_,rfl⟩
  rw [← hs0] at hR1 ⊢
  have hU1 : Upd (fun b => b = vb ∨ b = rb) w1 w1 := Upd.refl _ _
  have hoM : ∀ b,(ok b ∨ w1.heap.size ≤ b) → ¬ (b = vb ∨ b = rb) := fun b hk h => by
    rcases hk with hk | hk
    · have := hok b hk;rcases h with h | h <;> omega
    · rcases h with h | h <;> omega
  have hq1 : Rdr RT ok w1 rb s0 := hR1
  obtain ⟨FB,hFB⟩ : ∃ P : Prop,P = ((rdP (d + 2) ver true fs_DeleteShareGroupOffsetsRequest s0).2 = none) := ⟨_,rfl⟩
  have hb_0 : (rdL (rdP (d + 1) ver true) (dfP (d + 1)) ver true [fDeleteShareGroupOffsetsRequest_0,fDeleteShareGroupOffsetsRequest_1] s0).2 = none → FB := fun h => Eq.mpr hFB (rdP_bad h)
  have hh_0 : hasS fDeleteShareGroupOffsetsRequest_0 ver = true := hasS_t (by show (0 : Int) ≤ ver;omega) (by show (-1 : Int) < 0 ∨ ver ≤ (-1 : Int);omega)
  obtain ⟨x_0,hx_0⟩ : ∃ x,x = (rdF (rdP (d + 1) ver true) ver true fDeleteShareGroupOffsetsRequest_0 s0).1 := ⟨_,rfl⟩
  repeat ((first | refine qA rfl ?_|refine qB ?_|refine qC rfl ?_|refine qD ?_|refine qE ?_|refine qF ?_|refine qG ?_|refine qH ?_);try simp (maxSteps:=1000000)(disch:=(first|omega|(simp only [qI,qJ,qK]<;>omega)|exact qL _)) only [go_sem,↓reduceIte,n0,reduceCtorEq,n1,n2,n3,n4,n5,i0,i1,i2,i3,i4,i5,i6,i7,hv_1])
  have hmay : mayS fDeleteShareGroupOffsetsRequest_0 ver = false := mayS_no (by show (-1 : Int) < 0 ∨ ver < (-1 : Int);omega)
  have hrd : rdF (rdP (d + 1) ver true) ver true fDeleteShareGroupOffsetsRequest_0 s0 = _ := rdF_text rfl hmay
  refine (RCompactString_fn w1 hq1 hrok hG1.1 hgrb).mono ?_
  rintro _ w2 ⟨rfl,hq2,hu2⟩
  have hv_2 := hu2.blk_some hv_1 (by omega)
  have hV2 : Upd (fun b => b = vb ∨ b = rb) w1 w2 := hu2.mono (fun _ h => .inr h)
  have hU2 : Upd (fun b => b = vb ∨ b = rb) w1 w2 := hU1.trans hV2
  have hz2 := hV2.size
  have hG2 : Glo ev w2 := hG1.updS hU2 hgM1 hgM2
  have hst : (rdF (rdP (d + 1) ver true) ver true fDeleteShareGroupOffsetsRequest_0 s0).2 = (rdStr true s0).2 := by first | (rw [hrd];rfl) | rw [hrd]
  obtain ⟨s1,hs1⟩ : ∃ s,s = (rdF (rdP (d + 1) ver true) ver true fDeleteShareGroupOffsetsRequest_0 s0).2 := ⟨_,rfl⟩
  rw [← hst,← hs1] at hq2
  clear hst
  repeat ((first | refine qA rfl ?_|refine qB ?_|refine qC rfl ?_|refine qD ?_|refine qE ?_|refine qF ?_|refine qG ?_|refine qH ?_);try simp (maxSteps:=1000000)(disch:=(first|omega|(simp only [qI,qJ,qK]<;>omega)|exact qL _)) only [go_sem,↓reduceIte,n0,reduceCtorEq,n1,n2,n3,n4,n5,i0,i1,i2,i3,i4,i5,i6,i7,hv_2])
  generalize hw3 : wr w2 vb 1 [strV (rdStr true s0).1] = w3
  have hS3 : Upd (fun b => b = vb ∨ b = rb) w2 w3 := by rw [← hw3];exact (Upd.refl _ _).wr _ _ (.inr (.inl rfl))
  have hv_3 : blk w3 vb = some (#[.int .i16 ver,strV (rdStr true s0).1,.slice none 0 0,.map none],120,(0,0)) := by rw [← hw3,blk_wr_eq,hv_2];rfl
  have hV3 := hS3
  have hU3 : Upd (fun b => b = vb ∨ b = rb) w1 w3 := hU2.trans hV3
  have hz3 := hV3.size
  have hG3 : Glo ev w3 := hG1.updS hU3 hgM1 hgM2
  have hq3 : Rdr RT ok w3 rb s1 ∧ NN w3 rb s1 := by
    have hn : ∀ x,x = w3 → (Rdr RT ok x rb s1 ∧ NN x rb s1) := fun x hx => by
      rw [hx,← hw3]
      exact Rdr.store hq2 (by omega) (fun h => by have := (hok _ h).1;first | omega | exact (hok _ h).2 rfl)
    exact hn _ rfl
  clear hw3
  have hf_0 : RepF (RepS true (d + 1)) (szS true (d + 1)) fDeleteShareGroupOffsetsRequest_0 (fun b => ok b ∨ w1.heap.size ≤ b) w3 (x_0) [strV (rdStr true s0).1] := (RepF_text rfl (by decide)).2 (by rw [hx_0,hrd];rfl)
  clear hrd
  have hb_1 : (rdL (rdP (d + 1) ver true) (dfP (d + 1)) ver true [fDeleteShareGroupOffsetsRequest_1] s1).2 = none → FB := fun h => hb_0 (by rw [rdL_st (by decide) hh_0,← hs1];exact h)
  have hh_1 : hasS fDeleteShareGroupOffsetsRequest_1 ver = true := hasS_t (by show (0 : Int) ≤ ver;omega) (by show (-1 : Int) < 0 ∨ ver ≤ (-1 : Int);omega)
  obtain ⟨x_1,hx_1⟩ : ∃ x,x = (rdF (rdP (d + 1) ver true) ver true fDeleteShareGroupOffsetsRequest_1 s1).1 := ⟨_,rfl⟩
  repeat ((first | refine qA rfl ?_|refine qB ?_|refine qC rfl ?_|refine qD ?_|refine qE ?_|refine qF ?_|refine qG ?_|refine qH ?_);try simp (maxSteps:=1000000)(disch:=(first|omega|(simp only [qI,qJ,qK]<;>omega)|exact qL _)) only [go_sem,↓reduceIte,n0,reduceCtorEq,n1,n2,n3,n4,n5,i0,i1,i2,i3,i4,i5,i6,i7,hv_3])
  refine (RCompactArrayLen_fn w3 hq3.1 hrok hG3.1 hgrb).mono ?_
  rintro _ w4 ⟨rfl,hq4,hu4⟩
  have hv_4 := hu4.blk_some hv_3 (by omega)
  have hV4 : Upd (fun b => b = vb ∨ b = rb) w3 w4 := hu4.mono (fun _ h => .inr h)
  have hU4 : Upd (fun b => b = vb ∨ b = rb) w1 w4 := hU3.trans hV4
  have hz4 := hV4.size
  have hG4 : Glo ev w4 := hG1.updS hU4 hgM1 hgM2
  obtain ⟨s2,hs2⟩ : ∃ s,s = (rdALen true s1).2 := ⟨_,rfl⟩
  rw [← hs2] at hq4
  have hyr0 := rdALen_rng true s1
  generalize hy0 : (rdALen true s1).1 = y0 at *
  obtain ⟨N0,hN0⟩ : ∃ N,N = y0.toNat := ⟨_,rfl⟩
  have hlb0 : (rdMany (rd1 (rdP (d + 1) ver true) fDeleteShareGroupOffsetsRequest_1.of fDeleteShareGroupOffsetsRequest_1.sub false true) N0 s2).2 = none → FB := fun h => hb_1 (by rw [rdL_st (by decide) hh_1];exact rdL_bad (rdF_listbad rfl (by rw [hy0,← hN0,← hs2];exact h)))
  repeat ((first | refine W.seqR rfl ?_ | refine W.seq ?_ | refine W.regR rfl ?_ | refine W.block ?_ | refine W.skip ?_ | refine W.ret ?_ | refine W.exit ?_);try simp (maxSteps:=1000000)(disch:=(first|omega|(simp only [qI,qJ,qK]<;>omega)|exact qL _)) only [go_sem,↓reduceIte,n0,reduceCtorEq,n1,n2,n3,n4,n5,i0,i1,i2,i3,i4,i5,i6,i7,hv_4])
  refine (ROk_fn w4 hq4.1).mono ?_
  rintro _ wz ⟨rfl,hez⟩
  rw [hez]
  clear hez wz
  by_cases hsn0 : s2 = none
  · have hso : s2.isSome = false := by rw [hsn0];rfl
    try simp (maxSteps:=1000000)(disch:=(first|omega|(simp only [qI,qJ,qK]<;>omega)|exact qL _)) only [go_sem,↓reduceIte,n0,reduceCtorEq,n1,n2,n3,n4,n5,i0,i1,i2,i3,i4,i5,i6,i7,hv_4,hso]
    repeat ((first | refine qA rfl ?_|refine qB ?_|refine qC rfl ?_|refine qD ?_|refine qE ?_|refine qF ?_|refine qG ?_|refine qH ?_);try simp (maxSteps:=1000000)(disch:=(first|omega|(simp only [qI,qJ,qK]<;>omega)|exact qL _)) only [go_sem,↓reduceIte,n0,reduceCtorEq,n1,n2,n3,n4,n5,i0,i1,i2,i3,i4,i5,i6,i7,hv_4,hso])
    refine (RComplete_fn w4 hq4.1 hG4.2).mono ?_
    rintro _ wz ⟨rfl,hez⟩
    rw [hez]
    try simp (maxSteps:=1000000)(disch:=(first|omega|(simp only [qI,qJ,qK]<;>omega)|exact qL _)) only [go_sem,↓reduceIte,n0,reduceCtorEq,n1,n2,n3,n4,n5,i0,i1,i2,i3,i4,i5,i6,i7,hv_4]
    repeat ((first | refine qA rfl ?_|refine qB ?_|refine qC rfl ?_|refine qD ?_|refine qE ?_|refine qF ?_|refine qG ?_|refine qH ?_);try simp (maxSteps:=1000000)(disch:=(first|omega|(simp only [qI,qJ,qK]<;>omega)|exact qL _)) only [go_sem,↓reduceIte,n0,reduceCtorEq,n1,n2,n3,n4,n5,i0,i1,i2,i3,i4,i5,i6,i7,hv_4])
    rw [errV_none hsn0]
    exact ReadQ.bad (Eq.mp hFB (hlb0 (by rw [hsn0];exact rdMany_none rd1P_none _))) (hbase.trans' hU4 fun i hi h => h.elim id fun h => by omega)
  have hso0 : s2.isSome = true := isSome_some hsn0
  try simp (maxSteps:=1000000)(disch:=(first|omega|(simp only [qI,qJ,qK]<;>omega)|exact qL _)) only [go_sem,↓reduceIte,n0,reduceCtorEq,n1,n2,n3,n4,n5,i0,i1,i2,i3,i4,i5,i6,i7,hv_4,hso0]
  repeat ((first | refine W.seqR rfl ?_ | refine W.seq ?_ | refine W.regR rfl ?_ | refine W.block ?_ | refine W.skip ?_ | refine W.ret ?_ | refine W.exit ?_);try simp (maxSteps:=1000000)(disch:=(first|omega|(simp only [qI,qJ,qK]<;>omega)|exact qL _)) only [go_sem,↓reduceIte,n0,reduceCtorEq,n1,n2,n3,n4,n5,i0,i1,i2,i3,i4,i5,i6,i7,hv_4,hso0])
  refine W.condK ?_
  try simp (maxSteps:=1000000)(disch:=(first|omega|(simp only [qI,qJ,qK]<;>omega)|exact qL _)) only [go_sem,↓reduceIte,n0,reduceCtorEq,n1,n2,n3,n4,n5,i0,i1,i2,i3,i4,i5,i6,i7,hv_4,hso0]
  repeat ((first | refine W.seqR rfl ?_ | refine W.seq ?_ | refine W.regR rfl ?_ | refine W.block ?_ | refine W.skip ?_ | refine W.ret ?_ | refine W.exit ?_);try simp (maxSteps:=1000000)(disch:=(first|omega|(simp only [qI,qJ,qK]<;>omega)|exact qL _)) only [go_sem,↓reduceIte,n0,reduceCtorEq,n1,n2,n3,n4,n5,i0,i1,i2,i3,i4,i5,i6,i7,hv_4,hso0,slBase_00])
  refine W.normJ (RowQ [(2,.bool false),(7,.pointer (some ⟨rb,0,none⟩)),(8,.int .i16 ver),(9,.bool true),(10,.pointer (some ⟨vb,0,none⟩)),(14,.int .i32 y0)] 13 (fun va w' => LstI RT (rd1 (rdP (d + 1) ver true) fDeleteShareGroupOffsetsRequest_1.of fDeleteShareGroupOffsetsRequest_1.sub false true) (Rep1 (RepS true (d + 1)) fDeleteShareGroupOffsetsRequest_1.of fDeleteShareGroupOffsetsRequest_1.sub) 2 174 [.string ByteArray.empty,.map none] w4.heap.size N0 ok (fun b => ok b ∨ w1.heap.size ≤ b) rb w4 s2 va 0 s2 [] [] w' ∧ (N0 = 0 → if nilS fDeleteShareGroupOffsetsRequest_1 ver y0 = true then va = .slice none 0 0 else ∃ a,va = .slice (some a) 0 0))) ?_ ?_
  · by_cases hy0 : (0 : Int) < y0
    · have hyv : Value.int .i32 y0 = .int .i32 ((N0 : Nat) : Int) := by rw [show y0 = ((N0 : Nat) : Int) by omega]
      repeat ((first | refine qA rfl ?_|refine qB ?_|refine qC rfl ?_|refine qD ?_|refine qE ?_|refine qF ?_|refine qG ?_|refine qH ?_);try simp (maxSteps:=1000000)(disch:=(first|omega|(simp only [qI,qJ,qK]<;>omega)|exact qL _)) only [go_sem,↓reduceIte,n0,reduceCtorEq,n1,n2,n3,n4,n5,i0,i1,i2,i3,i4,i5,i6,i7,hv_4])
      refine wp_appendZ (m := N0) utDeleteShareGroupOffsetsRequest_118 utDeleteShareGroupOffsetsRequest_21 inDeleteShareGroupOffsetsRequest_174 (by decide) (by first | rfl | simp (maxSteps:=1000000)(disch:=(first|omega|(simp only [qI,qJ,qK]<;>omega)|exact qL _)) only [go_sem,↓reduceIte,n0,reduceCtorEq,n1,n2,n3,n4,n5,i0,i1,i2,i3,i4,i5,i6,i7]) (by first | exact hyv | (simp (maxSteps:=1000000)(disch:=(first|omega|(simp only [qI,qJ,qK]<;>omega)|exact qL _)) only [go_sem,↓reduceIte,n0,reduceCtorEq,n1,n2,n3,n4,n5,i0,i1,i2,i3,i4,i5,i6,i7];exact hyv)) (by omega) (by omega) (by decide) ?_
      intro q rest hq1
      have hEw : Ext w4 (w4.drew.alloc (.cells (zs [.string ByteArray.empty,.map none] N0 ++ rest).toArray 174)) := (Upd.refl _ _).drew.alloc _
      try simp (maxSteps:=1000000)(disch:=(first|omega|(simp only [qI,qJ,qK]<;>omega)|exact qL _)) only [go_sem,↓reduceIte,n0,reduceCtorEq,n1,n2,n3,n4,n5,i0,i1,i2,i3,i4,i5,i6,i7,hv_4]
      repeat ((first | refine qA rfl ?_|refine qB ?_|refine qC rfl ?_|refine qD ?_|refine qE ?_|refine qF ?_|refine qG ?_|refine qH ?_);try simp (maxSteps:=1000000)(disch:=(first|omega|(simp only [qI,qJ,qK]<;>omega)|exact qL _)) only [go_sem,↓reduceIte,n0,reduceCtorEq,n1,n2,n3,n4,n5,i0,i1,i2,i3,i4,i5,i6,i7,hv_4])
      exact ⟨(by simp (maxSteps:=1000000)(disch:=(first|omega|(simp only [qI,qJ,qK]<;>omega)|exact qL _)) only [go_sem,↓reduceIte,n0,reduceCtorEq,n1,n2,n3,n4,n5,i0,i1,i2,i3,i4,i5,i6,i7,Holds_nil,Holds_cons]),.slice (some ⟨w4.heap.size,0,none⟩) N0 q,(by simp (maxSteps:=1000000)(disch:=(first|omega|(simp only [qI,qJ,qK]<;>omega)|exact qL _)) only [go_sem,↓reduceIte,n0,reduceCtorEq,n1,n2,n3,n4,n5,i0,i1,i2,i3,i4,i5,i6,i7]),LstI.start (RowJ.start (by omega) hq1 (by show w4.heap.size ≤ w4.drew.heap.size;rw [size_drew];omega) (blk_alloc_new rfl)) ⟨hq4.1.upd hEw (fun h => h) (fun _ _ _ h => h),hq4.2.upd hEw fun h => h⟩ (hEw.mono fun _ h => h.elim),fun h0 => by omega⟩
    · repeat ((first | refine qA rfl ?_|refine qB ?_|refine qC rfl ?_|refine qD ?_|refine qE ?_|refine qF ?_|refine qG ?_|refine qH ?_);try simp (maxSteps:=1000000)(disch:=(first|omega|(simp only [qI,qJ,qK]<;>omega)|exact qL _)) only [go_sem,↓reduceIte,n0,reduceCtorEq,n1,n2,n3,n4,n5,i0,i1,i2,i3,i4,i5,i6,i7,hv_4])
      exact ⟨(by simp (maxSteps:=1000000)(disch:=(first|omega|(simp only [qI,qJ,qK]<;>omega)|exact qL _)) only [go_sem,↓reduceIte,n0,reduceCtorEq,n1,n2,n3,n4,n5,i0,i1,i2,i3,i4,i5,i6,i7,Holds_nil,Holds_cons]),.slice none 0 0,(by simp (maxSteps:=1000000)(disch:=(first|omega|(simp only [qI,qJ,qK]<;>omega)|exact qL _)) only [go_sem,↓reduceIte,n0,reduceCtorEq,n1,n2,n3,n4,n5,i0,i1,i2,i3,i4,i5,i6,i7,slBase_00]),LstI.start (RowJ.zero (by omega) (fun _ h => by cases h)) hq4 (Upd.refl _ _),fun _ => by rw [nilS_plain (by decide) (by omega)];exact rfl⟩
  rintro ρ w5 ⟨⟨hrb0_2,hrb0_7,hrb0_8,hrb0_9,hrb0_10,hrb0_14,-⟩,va0,hra0,hL0,hnc0⟩
  repeat ((first | refine qA rfl ?_|refine qB ?_|refine qC rfl ?_|refine qD ?_|refine qE ?_|refine qF ?_|refine qG ?_|refine qH ?_);try simp (maxSteps:=1000000)(disch:=(first|omega|(simp only [qI,qJ,qK]<;>omega)|exact qL _)) only [go_sem,↓reduceIte,n0,reduceCtorEq,n1,n2,n3,n4,n5,i0,i1,i2,i3,i4,i5,i6,i7,hv_4,hrb0_2,hrb0_7,hrb0_8,hrb0_9,hrb0_10,hrb0_14,hra0,exitRQ_ret,exitRQ_exit,Int.toNat_natCast,Nat.mul_one])
  refine W.exitRJ 0 (EndQ [(2,.bool false),(7,.pointer (some ⟨rb,0,none⟩)),(8,.int .i16 ver),(9,.bool true),(10,.pointer (some ⟨vb,0,none⟩)),(14,.int .i32 y0),(13,va0)] (fun w' => ∃ s xs css,LstI RT (rd1 (rdP (d + 1) ver true) fDeleteShareGroupOffsetsRequest_1.of fDeleteShareGroupOffsetsRequest_1.sub false true) (Rep1 (RepS true (d + 1)) fDeleteShareGroupOffsetsRequest_1.of fDeleteShareGroupOffsetsRequest_1.sub) 2 174 [.string ByteArray.empty,.map none] w4.heap.size N0 ok (fun b => ok b ∨ w1.heap.size ≤ b) rb w4 s2 va0 N0 s xs css w')) (W.loop (LoopQ [(2,.bool false),(7,.pointer (some ⟨rb,0,none⟩)),(8,.int .i16 ver),(9,.bool true),(10,.pointer (some ⟨vb,0,none⟩)),(14,.int .i32 y0),(13,va0)] 15 (fun j w' => ∃ s xs css,LstI RT (rd1 (rdP (d + 1) ver true) fDeleteShareGroupOffsetsRequest_1.of fDeleteShareGroupOffsetsRequest_1.sub false true) (Rep1 (RepS true (d + 1)) fDeleteShareGroupOffsetsRequest_1.of fDeleteShareGroupOffsetsRequest_1.sub) 2 174 [.string ByteArray.empty,.map none] w4.heap.size N0 ok (fun b => ok b ∨ w1.heap.size ≤ b) rb w4 s2 va0 j s xs css w')) (fun ρ _ => N0 - (RowKit.intOf (ρ 15)).toNat) ?_ ?_) ?_
  · exact ⟨(by simp (maxSteps:=1000000)(disch:=(first|omega|(simp only [qI,qJ,qK]<;>omega)|exact qL _)) only [go_sem,↓reduceIte,n0,reduceCtorEq,n1,n2,n3,n4,n5,i0,i1,i2,i3,i4,i5,i6,i7,Holds_nil,Holds_cons,hrb0_2,hrb0_7,hrb0_8,hrb0_9,hrb0_10,hrb0_14,hra0]),0,(by simp (maxSteps:=1000000)(disch:=(first|omega|(simp only [qI,qJ,qK]<;>omega)|exact qL _)) only [go_sem,↓reduceIte,n0,reduceCtorEq,n1,n2,n3,n4,n5,i0,i1,i2,i3,i4,i5,i6,i7,hrb0_2,hrb0_7,hrb0_8,hrb0_9,hrb0_10,hrb0_14,hra0];all_goals rfl),s2,[],[],hL0⟩
  · rintro ρ w6 ⟨⟨hrc0_2,hrc0_7,hrc0_8,hrc0_9,hrc0_10,hrc0_14,hrc0_13,-⟩,j1,hri0,s3,xs0,css0,hL0⟩
    have hj0 := hL0.le
    have hq6 := hL0.rd
    have hU6 : Upd (fun b => b = vb ∨ b = rb) w1 w6 := hU4.trans' hL0.upd fun i _ h => .inr h
    have hz6 := hL0.upd.size
    have hG6 : Glo ev w6 := hG1.updS hU6 hgM1 hgM2
    by_cases hlt0 : j1 < N0
    · obtain ⟨R1,q1,B1,hva1,hNq1,hLR1,hA1,hx1_6,hnext1⟩ := hL0.row.next hlt0
      have hRl1 := blk_lt hx1_6
      generalize css0.flatten = A1 at hA1 hx1_6 hnext1
      replace hra0 : ρ 13 = .slice (some ⟨R1,0,none⟩) N0 q1 := hrc0_13.trans hva1
      have hown1 : ∀ b,ownB va0 b → w4.heap.size ≤ b ∧ b < w6.heap.size := fun b h => hL0.row.own h
      have hoM1 : ∀ b,(fun b => (ok b ∨ w1.heap.size ≤ b) ∧ ¬ ownB va0 b) b → ¬ (b = R1 ∨ b = rb) := fun b hk h => h.elim (fun e => hk.2 ⟨_,_,_,hva1,e⟩) (fun e => hoM b hk.1 (.inr e))
      obtain ⟨X6,hX6⟩ : ∃ X : Array Value,X = (A1 ++ (([.string ByteArray.empty,.map none] : List Value) ++ B1)).toArray := ⟨_,rfl⟩
      have hxb6 : blk w6 R1 = some (X6,174,(0,0)) := by rw [hX6];exact hx1_6
      have hXs6 : j1 * 2 + 2 ≤ X6.size := by rw [hX6];simp only [List.size_toArray,List.length_append,List.length_cons,List.length_nil,hA1];omega
      repeat ((first | refine qA rfl ?_|refine qB ?_|refine qC rfl ?_|refine qD ?_|refine qE ?_|refine qF ?_|refine qG ?_|refine qH ?_);try simp (maxSteps:=1000000)(disch:=(first|omega|(simp only [qI,qJ,qK]<;>omega)|exact qL _)) only [go_sem,↓reduceIte,n0,reduceCtorEq,n1,n2,n3,n4,n5,i0,i1,i2,i3,i4,i5,i6,i7,hxb6,hrc0_2,hrc0_7,hrc0_8,hrc0_9,hrc0_10,hrc0_14,hra0,hri0,exitRQ_ret,exitRQ_exit,Int.toNat_natCast,Nat.mul_one])
      refine (DefaultEX0_fn w6 hx1_6 hA1).mono ?_
      rintro _ w7 ⟨hx1_7,hu7⟩
      have hq7 := And.intro (hq6.1.upd hu7 (by omega) (fun b _ hk e => by have := (hok b hk).1;omega)) (hq6.2.upd hu7 (by omega))
      have hV7 : Upd (fun b => b = R1 ∨ b = rb) w6 w7 := hu7.mono (fun _ h => .inl h)
      have hU7 : Upd (fun b => b = vb ∨ b = rb) w1 w7 := hU6.trans' hV7 fun i hi h => h.elim (fun h => by omega) .inr
      have hz7 := hV7.size
      have hG7 : Glo ev w7 := hG1.updS hU7 hgM1 hgM2
      obtain ⟨X7,hX7⟩ : ∃ X : Array Value,X = (A1 ++ (([.string ByteArray.empty,.map none] : List Value) ++ B1)).toArray := ⟨_,rfl⟩
      have hxb7 : blk w7 R1 = some (X7,174,(0,0)) := by rw [hX7];exact hx1_7
      have hXs7 : j1 * 2 + 2 ≤ X7.size := by rw [hX7];simp only [List.size_toArray,List.length_append,List.length_cons,List.length_nil,hA1];omega
      have hbe0_0 : (rdL (rdP d ver true) (dfP d) ver true [fX0_0] s3).2 = none → FB := fun h => hlb0 (hL0.bad hlt0 rd1P_none (by show (rd1 (rdP (d + 1) ver true) 10 fs_X0 false true s3).2 = none;rw [rd1_part];exact rdP_bad h))
      have hhe0_0 : hasS fX0_0 ver = true := hasS_t (by show (0 : Int) ≤ ver;omega) (by show (-1 : Int) < 0 ∨ ver ≤ (-1 : Int);omega)
      obtain ⟨xe0_0,hxe0_0⟩ : ∃ x,x = (rdF (rdP d ver true) ver true fX0_0 s3).1 := ⟨_,rfl⟩
      repeat ((first | refine qA rfl ?_|refine qB ?_|refine qC rfl ?_|refine qD ?_|refine qE ?_|refine qF ?_|refine qG ?_|refine qH ?_);try simp (maxSteps:=1000000)(disch:=(first|omega|(simp only [qI,qJ,qK]<;>omega)|exact qL _)) only [go_sem,↓reduceIte,n0,reduceCtorEq,n1,n2,n3,n4,n5,i0,i1,i2,i3,i4,i5,i6,i7,hxb7,hrc0_2,hrc0_7,hrc0_8,hrc0_9,hrc0_10,hrc0_14,hra0,hri0,exitRQ_ret,exitRQ_exit,Int.toNat_natCast,Nat.mul_one])
      have hmay : mayS fX0_0 ver = false := mayS_no (by show (-1 : Int) < 0 ∨ ver < (-1 : Int);omega)
      have hrd : rdF (rdP d ver true) ver true fX0_0 s3 = _ := rdF_text rfl hmay
      refine (RCompactString_fn w7 hq7.1 hrok hG7.1 hgrb).mono ?_
      rintro _ w8 ⟨rfl,hq8,hu8⟩
      have hx1_8 := hu8.blk_some hx1_7 (by omega)
      have hV8 : Upd (fun b => b = R1 ∨ b = rb) w7 w8 := hu8.mono (fun _ h => .inr h)
      have hU8 : Upd (fun b => b = vb ∨ b = rb) w1 w8 := hU7.trans' hV8 fun i hi h => h.elim (fun h => by omega) .inr
      have hz8 := hV8.size
      have hG8 : Glo ev w8 := hG1.updS hU8 hgM1 hgM2
      obtain ⟨X8,hX8⟩ : ∃ X : Array Value,X = (A1 ++ (([.string ByteArray.empty,.map none] : List Value) ++ B1)).toArray := ⟨_,rfl⟩
      have hxb8 : blk w8 R1 = some (X8,174,(0,0)) := by rw [hX8];exact hx1_8
      have hXs8 : j1 * 2 + 2 ≤ X8.size := by rw [hX8];simp only [List.size_toArray,List.length_append,List.length_cons,List.length_nil,hA1];omega
      have hst : (rdF (rdP d ver true) ver true fX0_0 s3).2 = (rdStr true s3).2 := by first | (rw [hrd];rfl) | rw [hrd]
      obtain ⟨s4,hs4⟩ : ∃ s,s = (rdF (rdP d ver true) ver true fX0_0 s3).2 := ⟨_,rfl⟩
      rw [← hst,← hs4] at hq8
      clear hst
      have hst8_0 : j1 * 2 + 1 ≤ X8.size := by omega
      repeat ((first | refine qA rfl ?_|refine qB ?_|refine qC rfl ?_|refine qD ?_|refine qE ?_|refine qF ?_|refine qG ?_|refine qH ?_);try simp (maxSteps:=1000000)(disch:=(first|omega|(simp only [qI,qJ,qK]<;>omega)|exact qL _)) only [go_sem,↓reduceIte,n0,reduceCtorEq,n1,n2,n3,n4,n5,i0,i1,i2,i3,i4,i5,i6,i7,hxb8,hrc0_2,hrc0_7,hrc0_8,hrc0_9,hrc0_10,hrc0_14,hra0,hri0,exitRQ_ret,exitRQ_exit,Int.toNat_natCast,Nat.mul_one,hst8_0])
      generalize hw9 : wr w8 R1 (j1 * 2) [strV (rdStr true s3).1] = w9
      have hS9 : Upd (fun b => b = R1 ∨ b = rb) w8 w9 := by rw [← hw9];exact (Upd.refl _ _).wr _ _ (.inr (.inl rfl))
      have hx1_9 : blk w9 R1 = some ((A1 ++ (([strV (rdStr true s3).1,.map none] : List Value) ++ B1)).toArray,174,(0,0)) := by rw [← hw9];exact el_blk0 hx1_8 hA1 (Nat.le_of_ble_eq_true rfl)
      have hV9 := hS9
      have hU9 : Upd (fun b => b = vb ∨ b = rb) w1 w9 := hU8.trans' hV9 fun i hi h => h.elim (fun h => by omega) .inr
      have hz9 := hV9.size
      have hG9 : Glo ev w9 := hG1.updS hU9 hgM1 hgM2
      have hq9 : Rdr RT ok w9 rb s4 ∧ NN w9 rb s4 := by
        have hn : ∀ x,x = w9 → (Rdr RT ok x rb s4 ∧ NN x rb s4) := fun x hx => by
          rw [hx,← hw9]
          exact Rdr.store hq8 (by omega) (fun h => by have := (hok _ h).1;first | omega | exact (hok _ h).2 rfl)
        exact hn _ rfl
      obtain ⟨X9,hX9⟩ : ∃ X : Array Value,X = (A1 ++ (([strV (rdStr true s3).1,.map none] : List Value) ++ B1)).toArray := ⟨_,rfl⟩
      have hxb9 : blk w9 R1 = some (X9,174,(0,0)) := by rw [hX9];exact hx1_9
      have hXs9 : j1 * 2 + 2 ≤ X9.size := by rw [hX9];simp only [List.size_toArray,List.length_append,List.length_cons,List.length_nil,hA1];omega
      clear hw9
      have hfe0_0 : RepF (RepS true d) (szS true d) fX0_0 (fun b => (ok b ∨ w1.heap.size ≤ b) ∧ ¬ ownB va0 b) w9 (xe0_0) [strV (rdStr true s3).1] := (RepF_text rfl (by decide)).2 (by rw [hxe0_0,hrd];rfl)
      clear hrd
      have hle0_1 : rdL (rdP d ver true) (dfP d) ver true [] s4 = ([],s4) := rfl
      have hle0_0 : rdL (rdP d ver true) (dfP d) ver true [fX0_0] s3 = ([xe0_0],s4) := by rw [rdL_st (by decide) hhe0_0,← hxe0_0,← hs4,hle0_1]
      have hfine0 : rdP (d + 1) ver true fs_X0 s3 = (.mk 0 [] false [xe0_0] (rdTags s4).1,(rdTags s4).2) := rdP_t hle0_0
      repeat ((first | refine qA rfl ?_|refine qB ?_|refine qC rfl ?_|refine qD ?_|refine qE ?_|refine qF ?_|refine qG ?_|refine qH ?_);try simp (maxSteps:=1000000)(disch:=(first|omega|(simp only [qI,qJ,qK]<;>omega)|exact qL _)) only [go_sem,↓reduceIte,n0,reduceCtorEq,n1,n2,n3,n4,n5,i0,i1,i2,i3,i4,i5,i6,i7,hxb9,hrc0_2,hrc0_7,hrc0_8,hrc0_9,hrc0_10,hrc0_14,hra0,hri0,exitRQ_ret,exitRQ_exit,Int.toNat_natCast,Nat.mul_one])
      refine (ReadTags_fn w9 hq9.1 hrok).mono ?_
      rintro _ w10 ⟨qme0,rfl,hT10,hTn,hq10,hu10⟩
      have hx1_10 := hu10.blk_some hx1_9 (by omega)
      have hV10 : Upd (fun b => b = R1 ∨ b = rb) w9 w10 := hu10.mono (fun _ h => .inr h)
      have hU10 : Upd (fun b => b = vb ∨ b = rb) w1 w10 := hU9.trans' hV10 fun i hi h => h.elim (fun h => by omega) .inr
      have hz10 := hV10.size
      have hG10 : Glo ev w10 := hG1.updS hU10 hgM1 hgM2
      obtain ⟨X10,hX10⟩ : ∃ X : Array Value,X = (A1 ++ (([strV (rdStr true s3).1,.map none] : List Value) ++ B1)).toArray := ⟨_,rfl⟩
      have hxb10 : blk w10 R1 = some (X10,174,(0,0)) := by rw [hX10];exact hx1_10
      have hXs10 : j1 * 2 + 2 ≤ X10.size := by rw [hX10];simp only [List.size_toArray,List.length_append,List.length_cons,List.length_nil,hA1];omega
      obtain ⟨s5,hs5⟩ : ∃ s,s = (rdTags s4).2 := ⟨_,rfl⟩
      rw [← hs5] at hq10 hfine0
      have hst10_1 : j1 * 2 + 2 ≤ X10.size := by omega
      try simp (maxSteps:=1000000)(disch:=(first|omega|(simp only [qI,qJ,qK]<;>omega)|exact qL _)) only [go_sem,↓reduceIte,n0,reduceCtorEq,n1,n2,n3,n4,n5,i0,i1,i2,i3,i4,i5,i6,i7,hxb10,hrc0_2,hrc0_7,hrc0_8,hrc0_9,hrc0_10,hrc0_14,hra0,hri0,exitRQ_ret,exitRQ_exit,Int.toNat_natCast,Nat.mul_one,hst10_1]
      repeat ((first | refine qA rfl ?_|refine qB ?_|refine qC rfl ?_|refine qD ?_|refine qE ?_|refine qF ?_|refine qG ?_|refine qH ?_);try simp (maxSteps:=1000000)(disch:=(first|omega|(simp only [qI,qJ,qK]<;>omega)|exact qL _)) only [go_sem,↓reduceIte,n0,reduceCtorEq,n1,n2,n3,n4,n5,i0,i1,i2,i3,i4,i5,i6,i7,hxb10,hrc0_2,hrc0_7,hrc0_8,hrc0_9,hrc0_10,hrc0_14,hra0,hri0,exitRQ_ret,exitRQ_exit,Int.toNat_natCast,Nat.mul_one,hst10_1])
      generalize hw11 : wr w10 R1 (j1 * 2 + 1) [.map qme0] = w11
      have hS11 : Upd (fun b => b = R1 ∨ b = rb) w10 w11 := by rw [← hw11];exact (Upd.refl _ _).wr _ _ (.inr (.inl rfl))
      have hx1_11 : blk w11 R1 = some ((A1 ++ (([strV (rdStr true s3).1,.map qme0] : List Value) ++ B1)).toArray,174,(0,0)) := by rw [← hw11];exact el_blk (o := 1) hx1_10 hA1 (Nat.le_of_ble_eq_true rfl)
      have hV11 := hS11
      have hU11 : Upd (fun b => b = vb ∨ b = rb) w1 w11 := hU10.trans' hV11 fun i hi h => h.elim (fun h => by omega) .inr
      have hz11 := hV11.size
      have hG11 : Glo ev w11 := hG1.updS hU11 hgM1 hgM2
      have hq11 : Rdr RT ok w11 rb s5 ∧ NN w11 rb s5 := by
        have hn : ∀ x,x = w11 → (Rdr RT ok x rb s5 ∧ NN x rb s5) := fun x hx => by
          rw [hx,← hw11]
          exact Rdr.store hq10 (by omega) (fun h => by have := (hok _ h).1;first | omega | exact (hok _ h).2 rfl)
        exact hn _ rfl
      obtain ⟨X11,hX11⟩ : ∃ X : Array Value,X = (A1 ++ (([strV (rdStr true s3).1,.map qme0] : List Value) ++ B1)).toArray := ⟨_,rfl⟩
      have hxb11 : blk w11 R1 = some (X11,174,(0,0)) := by rw [hX11];exact hx1_11
      have hXs11 : j1 * 2 + 2 ≤ X11.size := by rw [hX11];simp only [List.size_toArray,List.length_append,List.length_cons,List.length_nil,hA1];omega
      clear hw11
      have hTge0 : TagsM (fun b => (ok b ∨ w1.heap.size ≤ b) ∧ ¬ ownB va0 b) w11 (.map qme0) (rdTags s4).1 := (hT10.weaken fun b _ hk => hk.elim (fun hk => ⟨.inl hk,fun ho => by have := (hown1 b ho).1;have := (hok b hk).1;omega⟩) (fun h => by have h' : w9.heap.size ≤ b := h;exact ⟨.inr (by omega),fun ho => by have := (hown1 _ ho).2;omega⟩)).keep (hV11.keeps fun b _ hk e => hoM1 b hk e)
      have hCe0_11 : Upd (fun b => b = R1 ∨ b = rb) w11 w11 := Upd.refl _ _
      have hCe0_10 : Upd (fun b => b = R1 ∨ b = rb) w10 w11 := hV11.trans hCe0_11
      have hCe0_9 : Upd (fun b => b = R1 ∨ b = rb) w9 w11 := hV10.trans hCe0_10
      have hCe0_8 : Upd (fun b => b = R1 ∨ b = rb) w8 w11 := hV9.trans hCe0_9
      have hCe0_7 : Upd (fun b => b = R1 ∨ b = rb) w7 w11 := hV8.trans hCe0_8
      have hCe0_6 : Upd (fun b => b = R1 ∨ b = rb) w6 w11 := hV7.trans hCe0_7
      have hRe0 : RepS true (d + 1) fs_X0 (fun b => (ok b ∨ w1.heap.size ≤ b) ∧ ¬ ownB va0 b) w11 (.mk 0 [] false [xe0_0] (rdTags s4).1) [strV (rdStr true s3).1,.map qme0] := RepS.introT (c := [strV (rdStr true s3).1]) (RepL.cons1 (hfe0_0.keepS (hCe0_9.keeps fun b _ hk e => hoM1 b hk e)) RepL.nil) hTge0
      have hrE : (rd1 (rdP (d + 1) ver true) fDeleteShareGroupOffsetsRequest_1.of fDeleteShareGroupOffsetsRequest_1.sub false true) s3 = ((.mk 0 [] false [xe0_0] (rdTags s4).1),s5) := by rw [show (rd1 (rdP (d + 1) ver true) fDeleteShareGroupOffsetsRequest_1.of fDeleteShareGroupOffsetsRequest_1.sub false true) s3 = _ from rd1_part];exact hfine0
      have hxE : (Rep1 (RepS true (d + 1)) fDeleteShareGroupOffsetsRequest_1.of fDeleteShareGroupOffsetsRequest_1.sub) (fun b => (ok b ∨ w1.heap.size ≤ b) ∧ ¬ ownB va0 b) w11 (.mk 0 [] false [xe0_0] (rdTags s4).1) [strV (rdStr true s3).1,.map qme0] := Rep1_part.2 hRe0
      repeat ((first | refine qA rfl ?_|refine qB ?_|refine qC rfl ?_|refine qD ?_|refine qE ?_|refine qF ?_|refine qG ?_|refine qH ?_);try simp (maxSteps:=1000000)(disch:=(first|omega|(simp only [qI,qJ,qK]<;>omega)|exact qL _)) only [go_sem,↓reduceIte,n0,reduceCtorEq,n1,n2,n3,n4,n5,i0,i1,i2,i3,i4,i5,i6,i7,hxb11,hrc0_2,hrc0_7,hrc0_8,hrc0_9,hrc0_10,hrc0_14,hra0,hri0,exitRQ_ret,exitRQ_exit,Int.toNat_natCast,Nat.mul_one])
      have hTk : Upd (fun b => b = R1 ∨ b = rb) w6 w11 := ((((hV7.trans hV8).trans hV9).trans hV10).trans hV11)
      have hL' := hL0.step (Rep1_lay _ _ fun _ => RepS_lay true _ _) hlt0 (hnext1 w11 [strV (rdStr true s3).1,.map qme0] rfl hx1_11) (by rw [hrE];exact hxE) (hTk.mono fun b h => h.imp (fun e => ⟨_,_,_,hva1,e⟩) id) (by rw [hrE];exact hq11) (fun h => hoM rb h (.inr rfl)) (Nat.le_refl _)
      have hij : IntKind.i32.wrap ((j1 : Int) + 1) = ((j1 + 1 : Nat) : Int) := by rw [i32_wrap (by omega)];omega
      repeat ((first | refine qA rfl ?_|refine qB ?_|refine qC rfl ?_|refine qD ?_|refine qE ?_|refine qF ?_|refine qG ?_|refine qH ?_);try simp (maxSteps:=1000000)(disch:=(first|omega|(simp only [qI,qJ,qK]<;>omega)|exact qL _)) only [go_sem,↓reduceIte,n0,reduceCtorEq,n1,n2,n3,n4,n5,i0,i1,i2,i3,i4,i5,i6,i7,hxb11,hrc0_2,hrc0_7,hrc0_8,hrc0_9,hrc0_10,hrc0_14,hra0,hri0,exitRQ_ret,exitRQ_exit,Int.toNat_natCast,Nat.mul_one,hij])
      refine ⟨⟨(by simp (maxSteps:=1000000)(disch:=(first|omega|(simp only [qI,qJ,qK]<;>omega)|exact qL _)) only [go_sem,↓reduceIte,n0,reduceCtorEq,n1,n2,n3,n4,n5,i0,i1,i2,i3,i4,i5,i6,i7,Holds_nil,Holds_cons,hrc0_2,hrc0_7,hrc0_8,hrc0_9,hrc0_10,hrc0_14,hra0,hri0];exact hva1.symm),j1 + 1,(by simp (maxSteps:=1000000)(disch:=(first|omega|(simp only [qI,qJ,qK]<;>omega)|exact qL _)) only [go_sem,↓reduceIte,n0,reduceCtorEq,n1,n2,n3,n4,n5,i0,i1,i2,i3,i4,i5,i6,i7,hrc0_2,hrc0_7,hrc0_8,hrc0_9,hrc0_10,hrc0_14,hra0,hri0,hij];all_goals rfl),_,_,_,hL'⟩,?_⟩
      try simp (maxSteps:=1000000)(disch:=(first|omega|(simp only [qI,qJ,qK]<;>omega)|exact qL _)) only [go_sem,↓reduceIte,n0,reduceCtorEq,n1,n2,n3,n4,n5,i0,i1,i2,i3,i4,i5,i6,i7,hrc0_2,hrc0_7,hrc0_8,hrc0_9,hrc0_10,hrc0_14,hra0,hri0]
      simp only [RowKit.intOf]
      omega
    · have hjN : j1 = N0 := by omega
      rw [hjN] at hL0
      repeat ((first | refine qA rfl ?_|refine qB ?_|refine qC rfl ?_|refine qD ?_|refine qE ?_|refine qF ?_|refine qG ?_|refine qH ?_);try simp (maxSteps:=1000000)(disch:=(first|omega|(simp only [qI,qJ,qK]<;>omega)|exact qL _)) only [go_sem,↓reduceIte,n0,reduceCtorEq,n1,n2,n3,n4,n5,i0,i1,i2,i3,i4,i5,i6,i7,hrc0_2,hrc0_7,hrc0_8,hrc0_9,hrc0_10,hrc0_14,hrc0_13,hri0,exitRQ_ret,exitRQ_exit])
      exact ⟨(by simp (maxSteps:=1000000)(disch:=(first|omega|(simp only [qI,qJ,qK]<;>omega)|exact qL _)) only [go_sem,↓reduceIte,n0,reduceCtorEq,n1,n2,n3,n4,n5,i0,i1,i2,i3,i4,i5,i6,i7,Holds_nil,Holds_cons,hrc0_2,hrc0_7,hrc0_8,hrc0_9,hrc0_10,hrc0_14,hrc0_13,hri0]),s3,xs0,css0,hL0⟩
  rintro ρ w12 ⟨⟨hrd0_2,hrd0_7,hrd0_8,hrd0_9,hrd0_10,hrd0_14,hrd0_13,-⟩,s6,xs0,css0,hL0⟩
  have hq12 := hL0.rd
  have hu12 := hL0.upd
  have hv_12 := hu12.blk_some hv_4 (by omega)
  have hV12 : Upd (fun b => b = vb ∨ b = rb) w4 w12 := hu12.mono (fun _ h => .inr h)
  have hU12 : Upd (fun b => b = vb ∨ b = rb) w1 w12 := hU4.trans hV12
  have hz12 := hV12.size
  have hG12 : Glo ev w12 := hG1.updS hU12 hgM1 hgM2
  have hrd0 : rdF (rdP (d + 1) ver true) ver true fDeleteShareGroupOffsetsRequest_1 s1 = (.mk 0 [] (nilS fDeleteShareGroupOffsetsRequest_1 ver y0) xs0 [],s6) := by
    have h := rdF_listE (pt := (rdP (d + 1) ver true)) (v := ver) (flex := true) (f := fDeleteShareGroupOffsetsRequest_1) (s := s1) (xs := xs0) (e := s6) rfl (by rw [hy0,← hN0,← hs2];exact hL0.done)
    rw [hy0] at h;exact h
  have hs6 : s6 = (rdF (rdP (d + 1) ver true) ver true fDeleteShareGroupOffsetsRequest_1 s1).2 := by rw [hrd0]
  obtain ⟨aa0,qq0,hvs0⟩ := hL0.row.shape
  subst hvs0
  repeat ((first | refine qA rfl ?_|refine qB ?_|refine qC rfl ?_|refine qD ?_|refine qE ?_|refine qF ?_|refine qG ?_|refine qH ?_);try simp (maxSteps:=1000000)(disch:=(first|omega|(simp only [qI,qJ,qK]<;>omega)|exact qL _)) only [go_sem,↓reduceIte,n0,reduceCtorEq,n1,n2,n3,n4,n5,i0,i1,i2,i3,i4,i5,i6,i7,hv_12,hrd0_2,hrd0_7,hrd0_8,hrd0_9,hrd0_10,hrd0_14,hrd0_13])
  generalize hw13 : wr w12 vb 2 [.slice aa0 N0 qq0] = w13
  have hS13 : Upd (fun b => b = vb ∨ b = rb) w12 w13 := by rw [← hw13];exact (Upd.refl _ _).wr _ _ (.inr (.inl rfl))
  have hv_13 : blk w13 vb = some (#[.int .i16 ver,strV (rdStr true s0).1,.slice aa0 N0 qq0,.map none],120,(0,0)) := by rw [← hw13,blk_wr_eq,hv_12];rfl
  have hV13 := hS13
  have hU13 : Upd (fun b => b = vb ∨ b = rb) w1 w13 := hU12.trans hV13
  have hz13 := hV13.size
  have hG13 : Glo ev w13 := hG1.updS hU13 hgM1 hgM2
  have hq13 : Rdr RT ok w13 rb s6 ∧ NN w13 rb s6 := by
    have hn : ∀ x,x = w13 → (Rdr RT ok x rb s6 ∧ NN x rb s6) := fun x hx => by
      rw [hx,← hw13]
      exact Rdr.store hq12 (by omega) (fun h => by have := (hok _ h).1;first | omega | exact (hok _ h).2 rfl)
    exact hn _ rfl
  clear hw13
  have hf_1 : RepF (RepS true (d + 1)) (szS true (d + 1)) fDeleteShareGroupOffsetsRequest_1 (fun b => ok b ∨ w1.heap.size ≤ b) w13 (x_1) [.slice aa0 N0 qq0] := by rw [hx_1,hrd0];exact RepF.keepS (RepF_row rfl hnc0 hN0 rfl hL0.row hL0.all (fun b hb => .inr (by omega))) (hV13.keeps fun b _ hk e => (hoM b hk) e)
  clear hL0 hnc0
  have hl_2 : rdL (rdP (d + 1) ver true) (dfP (d + 1)) ver true [] s6 = ([],s6) := rfl
  have hl_1 : rdL (rdP (d + 1) ver true) (dfP (d + 1)) ver true [fDeleteShareGroupOffsetsRequest_1] s1 = ([x_1],s6) := by rw [rdL_st (by decide) hh_1,← hx_1,← hs6,hl_2]
  have hl_0 : rdL (rdP (d + 1) ver true) (dfP (d + 1)) ver true [fDeleteShareGroupOffsetsRequest_0,fDeleteShareGroupOffsetsRequest_1] s0 = ([x_0,x_1],s6) := by rw [rdL_st (by decide) hh_0,← hx_0,← hs1,hl_1]
  have hfin : rdP (d + 2) ver true fs_DeleteShareGroupOffsetsRequest s0 = (.mk 0 [] false [x_0,x_1] (rdTags s6).1,(rdTags s6).2) := rdP_t hl_0
  repeat ((first | refine qA rfl ?_|refine qB ?_|refine qC rfl ?_|refine qD ?_|refine qE ?_|refine qF ?_|refine qG ?_|refine qH ?_);try simp (maxSteps:=1000000)(disch:=(first|omega|(simp only [qI,qJ,qK]<;>omega)|exact qL _)) only [go_sem,↓reduceIte,n0,reduceCtorEq,n1,n2,n3,n4,n5,i0,i1,i2,i3,i4,i5,i6,i7,hv_13,hrd0_2,hrd0_7,hrd0_8,hrd0_9,hrd0_10,hrd0_14,hrd0_13])
  refine (ReadTags_fn w13 hq13.1 hrok).mono ?_
  rintro _ w14 ⟨qm,rfl,hT14,hTn,hq14,hu14⟩
  have hv_14 := hu14.blk_some hv_13 (by omega)
  have hV14 : Upd (fun b => b = vb ∨ b = rb) w13 w14 := hu14.mono (fun _ h => .inr h)
  have hU14 : Upd (fun b => b = vb ∨ b = rb) w1 w14 := hU13.trans hV14
  have hz14 := hV14.size
  have hG14 : Glo ev w14 := hG1.updS hU14 hgM1 hgM2
  obtain ⟨s7,hs7⟩ : ∃ s,s = (rdTags s6).2 := ⟨_,rfl⟩
  rw [← hs7] at hq14 hfin
  try simp (maxSteps:=1000000)(disch:=(first|omega|(simp only [qI,qJ,qK]<;>omega)|exact qL _)) only [go_sem,↓reduceIte,n0,reduceCtorEq,n1,n2,n3,n4,n5,i0,i1,i2,i3,i4,i5,i6,i7,hv_14,hrd0_2,hrd0_7,hrd0_8,hrd0_9,hrd0_10,hrd0_14,hrd0_13]
  repeat ((first | refine qA rfl ?_|refine qB ?_|refine qC rfl ?_|refine qD ?_|refine qE ?_|refine qF ?_|refine qG ?_|refine qH ?_);try simp (maxSteps:=1000000)(disch:=(first|omega|(simp only [qI,qJ,qK]<;>omega)|exact qL _)) only [go_sem,↓reduceIte,n0,reduceCtorEq,n1,n2,n3,n4,n5,i0,i1,i2,i3,i4,i5,i6,i7,hv_14,hrd0_2,hrd0_7,hrd0_8,hrd0_9,hrd0_10,hrd0_14,hrd0_13])
  generalize hw15 : wr w14 vb 3 [.map qm] = w15
  have hS15 : Upd (fun b => b = vb ∨ b = rb) w14 w15 := by rw [← hw15];exact (Upd.refl _ _).wr _ _ (.inr (.inl rfl))
  have hv_15 : blk w15 vb = some (#[.int .i16 ver,strV (rdStr true s0).1,.slice aa0 N0 qq0,.map qm],120,(0,0)) := by rw [← hw15,blk_wr_eq,hv_14];rfl
  have hV15 := hS15
  have hU15 : Upd (fun b => b = vb ∨ b = rb) w1 w15 := hU14.trans hV15
  have hz15 := hV15.size
  have hG15 : Glo ev w15 := hG1.updS hU15 hgM1 hgM2
  have hq15 : Rdr RT ok w15 rb s7 ∧ NN w15 rb s7 := by
    have hn : ∀ x,x = w15 → (Rdr RT ok x rb s7 ∧ NN x rb s7) := fun x hx => by
      rw [hx,← hw15]
      exact Rdr.store hq14 (by omega) (fun h => by have := (hok _ h).1;first | omega | exact (hok _ h).2 rfl)
    exact hn _ rfl
  clear hw15
  have hTg : TagsM (fun b => ok b ∨ w1.heap.size ≤ b) w15 (.map qm) (rdTags s6).1 := (hT14.weaken fun b _ hk => hk.elim (fun hk => .inl hk) (fun h => by have h' : w13.heap.size ≤ b := h;exact .inr (by omega))).keep (hV15.keeps fun b _ hk e => (hoM b hk) e)
  have hC_15 : Upd (fun b => b = vb ∨ b = rb) w15 w15 := Upd.refl _ _
  have hC_14 : Upd (fun b => b = vb ∨ b = rb) w14 w15 := hV15.trans hC_15
  have hC_13 : Upd (fun b => b = vb ∨ b = rb) w13 w15 := hV14.trans hC_14
  have hC_12 : Upd (fun b => b = vb ∨ b = rb) w12 w15 := hV13.trans hC_13
  have hC_4 : Upd (fun b => b = vb ∨ b = rb) w4 w15 := hV12.trans hC_12
  have hC_3 : Upd (fun b => b = vb ∨ b = rb) w3 w15 := hV4.trans hC_4
  have hC_2 : Upd (fun b => b = vb ∨ b = rb) w2 w15 := hV3.trans hC_3
  have hC_1 : Upd (fun b => b = vb ∨ b = rb) w1 w15 := hV2.trans hC_2
  have hR : RepS true (d + 2) fs_DeleteShareGroupOffsetsRequest (fun b => ok b ∨ w1.heap.size ≤ b) w15 (.mk 0 [] false [x_0,x_1] (rdTags s6).1) [strV (rdStr true s0).1,.slice aa0 N0 qq0,.map qm] := RepS.introT (c := [strV (rdStr true s0).1,.slice aa0 N0 qq0]) (RepL.cons1 (hf_0.keepS (hC_3.keeps fun b _ hk e => (hoM b hk) e)) (RepL.cons1 (hf_1.keepS (hC_13.keeps fun b _ hk e => (hoM b hk) e)) RepL.nil)) hTg
  repeat ((first | refine qA rfl ?_|refine qB ?_|refine qC rfl ?_|refine qD ?_|refine qE ?_|refine qF ?_|refine qG ?_|refine qH ?_);try simp (maxSteps:=1000000)(disch:=(first|omega|(simp only [qI,qJ,qK]<;>omega)|exact qL _)) only [go_sem,↓reduceIte,n0,reduceCtorEq,n1,n2,n3,n4,n5,i0,i1,i2,i3,i4,i5,i6,i7,hv_15,hrd0_2,hrd0_7,hrd0_8,hrd0_9,hrd0_10,hrd0_14,hrd0_13])
  refine (RComplete_fn w15 hq15.1 hG15.2).mono ?_
  rintro _ wz ⟨rfl,hez⟩
  rw [hez]
  repeat ((first | refine qA rfl ?_|refine qB ?_|refine qC rfl ?_|refine qD ?_|refine qE ?_|refine qF ?_|refine qG ?_|refine qH ?_);try simp (maxSteps:=1000000)(disch:=(first|omega|(simp only [qI,qJ,qK]<;>omega)|exact qL _)) only [go_sem,↓reduceIte,n0,reduceCtorEq,n1,n2,n3,n4,n5,i0,i1,i2,i3,i4,i5,i6,i7,hv_15,hrd0_2,hrd0_7,hrd0_8,hrd0_9,hrd0_10,hrd0_14,hrd0_13])
  rw [hfin]
  refine ⟨fun h => ?_,fun h => ⟨?_,[strV (rdStr true s0).1,.slice aa0 N0 qq0,.map qm],hv_15,?_⟩,?_⟩
  · have h' : s7 = none := h
    rw [h'];rfl
  · cases hsn : s7 with
    | none => exact absurd hsn h
    | some x => rfl
  · exact (RepS_lay true (d + 2) fs_DeleteShareGroupOffsetsRequest).weaken hR fun b _ hk => hk.imp id fun h => by omega
  · exact hbase.trans' hU15 fun i hi h => h.elim id fun h => by omega
end Ms

namespace Ms
open Go.World renaming size_alloc → qI
open Ms renaming size_wr → qJ,size_drew → qK,not_noB → qL
open W renaming seqR → qA,seq → qB,regR → qC,condK → qD,block → qE,skip → qF,ret → qG,exit → qH
open Nat renaming reduceEqDiff → n0,reduceAdd → n1,reduceMul → n2,reduceSub → n3,reduceLT → n4,reduceLeDiff → n5
open Int renaming reduceEq → i0,reduceLT → i1,reduceLE → i2,reduceNeg → i3,reduceAdd → i4,reduceSub → i5,reduceMul → i6,reduceToNat → i7
set_option maxRecDepth 8000
open Go Go.Proofs Go.Shelf
attribute [local congr] W_congr WPsq_congr WPp_congr optK_congr addrK_congr intK_congr boolK_congr sliceK_congr tupleK_congr funcK_congr Fn_congr rawK_congr takeK_congr stepK_congr convK_congr aggK_congr

theorem ReadFromDeleteShareGroupOffsetsRequest_fn {d : Nat} {ok : Blocks} {ver : Int} {ev : Value} (hlo : 0 ≤ ver) (hhi : ver ≤ 0) (w : World) {vb : Nat} (src : Value) (s : List UInt8) (hv : blk w vb = some (#[.int .i16 ver,.string ByteArray.empty,.slice none 0 0,.map none],120,(0,0))) (hsrc : BytesV ok w src s) (hok0 : ∀ b,ok b → b < w.heap.size ∧ b ≠ vb) (hG : Glo ev w) (hgv : ¬ 1 = vb ∧ ¬ 0 = vb) :
    Fn Tryz.prog 86 #[.pointer (some ⟨vb,0,none⟩),src] w (ReadQ 120 ok ver (d + 2) fs_DeleteShareGroupOffsetsRequest vb w (rdP (d + 2) ver (flexB 0 ver) fs_DeleteShareGroupOffsetsRequest (some s)) ev) := by
  obtain ⟨sa,sc,rfl,_⟩ := hsrc.shape
  refine fn_of_W Tryz.func86 rfl Tryz.results86 Tryz.ntmps86 rfl ?_
  repeat ((first | refine qA rfl ?_|refine qB ?_|refine qC rfl ?_|refine qD ?_|refine qE ?_|refine qF ?_|refine qG ?_|refine qH ?_);try simp (maxSteps:=1000000)(disch:=(first|omega|(simp only [qI,qJ,qK]<;>omega)|exact qL _)) only [go_sem,↓reduceIte,n0,reduceCtorEq,n1,n2,n3,n4,n5,i0,i1,i2,i3,i4,i5,i6,i7])
  have hcl : (0 ≤ ver ∧ ver ≤ 0) := by omega
  rcases hcl with ⟨h1,h2⟩
  · have hfl : flexB 0 ver = true := by simp only [flexB,Bool.and_eq_true,decide_eq_true_eq];omega
    rw [hfl]
    refine (readDeleteShareGroupOffsetsRequest_0 (d := d) h1 h2 w _ s hv hsrc hok0 hG hgv).mono ?_
    rintro r5 w5 h5
    repeat ((first | refine qA rfl ?_|refine qB ?_|refine qC rfl ?_|refine qD ?_|refine qE ?_|refine qF ?_|refine qG ?_|refine qH ?_);try simp (maxSteps:=1000000)(disch:=(first|omega|(simp only [qI,qJ,qK]<;>omega)|exact qL _)) only [go_sem,↓reduceIte,n0,reduceCtorEq,n1,n2,n3,n4,n5,i0,i1,i2,i3,i4,i5,i6,i7])
    all_goals exact h5

end Ms

namespace Ms
open Go.World renaming size_alloc → qI
open Ms renaming size_wr → qJ,size_drew → qK,not_noB → qL
open W renaming seqR → qA,seq → qB,regR → qC,condK → qD,block → qE,skip → qF,ret → qG,exit → qH
open Nat renaming reduceEqDiff → n0,reduceAdd → n1,reduceMul → n2,reduceSub → n3,reduceLT → n4,reduceLeDiff → n5
open Int renaming reduceEq → i0,reduceLT → i1,reduceLE → i2,reduceNeg → i3,reduceAdd → i4,reduceSub → i5,reduceMul → i6,reduceToNat → i7
set_option maxRecDepth 8000
open Go Go.Proofs Go.Shelf
attribute [local congr] W_congr WPsq_congr WPp_congr optK_congr addrK_congr intK_congr boolK_congr sliceK_congr tupleK_congr funcK_congr Fn_congr rawK_congr takeK_congr stepK_congr convK_congr aggK_congr

set_option maxHeartbeats 4000000 in
theorem appDeleteShareGroupOffsetsRequest_0 {d B : Nat} {okM : Blocks} {ver : Int} (hlo : 0 ≤ ver) (hhi : ver ≤ 0) (t : Tree) (cells : List Value) (v : Value) (s : List UInt8) (w : World) {vb : Nat} (ho : OwnBy 5 B w v s) (hB : B ≤ w.heap.size) (hvb : blk w vb = some ((.int .i16 ver :: cells).toArray,120,(0,0)))
    (hR : RepS true (d + 2) fs_DeleteShareGroupOffsetsRequest okM w t cells) (hfit : FitW ver (d + 2) fs_DeleteShareGroupOffsetsRequest t) (hd : ∀ b,b < w.heap.size → okM b → ¬ ownB v b) (hdv : ¬ ownB v vb) (hlen : s.length + (partS (d + 2) fs_DeleteShareGroupOffsetsRequest ver true t).length ≤ 2 ^ 41) :
    Fn Tryz.prog 263 #[.pointer (some ⟨vb,0,none⟩),v] w fun r w' => AppR 5 B w v s (partS (d + 2) fs_DeleteShareGroupOffsetsRequest ver true t) r w' := by
  obtain ⟨⟨g_0,g_1,-⟩,hfu⟩ := hfit
  replace g_0 : hasS fDeleteShareGroupOffsetsRequest_0 ver = true → FitWF (FitW ver (d + 1)) ver fDeleteShareGroupOffsetsRequest_0 (t.at 0) := g_0
  have hh_0 : hasS fDeleteShareGroupOffsetsRequest_0 ver = true := hasS_t (by show (0 : Int) ≤ ver;omega) (by show (-1 : Int) < 0 ∨ ver ≤ (-1 : Int);omega)
  replace g_0 := g_0 hh_0
  replace g_1 : hasS fDeleteShareGroupOffsetsRequest_1 ver = true → FitWF (FitW ver (d + 1)) ver fDeleteShareGroupOffsetsRequest_1 (t.at 1) := g_1
  have hh_1 : hasS fDeleteShareGroupOffsetsRequest_1 ver = true := hasS_t (by show (0 : Int) ≤ ver;omega) (by show (-1 : Int) < 0 ∨ ver ≤ (-1 : Int);omega)
  replace g_1 := g_1 hh_1
  obtain ⟨cs,q,hcs,hL,hT⟩ := hR.inv
  obtain ⟨c_0,e_0,rfl,h_0,c_1,e_1,rfl,h_1,rfl⟩ := hL
  replace h_0 : RepF (RepS true (d + 1)) (szS true (d + 1)) fDeleteShareGroupOffsetsRequest_0 okM w (t.at 0) c_0 := h_0
  replace h_1 : RepF (RepS true (d + 1)) (szS true (d + 1)) fDeleteShareGroupOffsetsRequest_1 okM w (t.at 1) c_1 := h_1
  obtain rfl := (RepF_text rfl (by decide)).1 h_0
  obtain ⟨p_1,rfl,hs_1⟩ := RepF_listW g_1 rfl (by decide) h_1
  obtain ⟨ab_1,ac_1,rfl,_⟩ := SlR.shape hs_1
  have hgl_1 := g_1.list rfl
  have hll_1 := hgl_1.1
  obtain ⟨qm,rfl⟩ := hT.shape
  have hv : blk w vb = some (#[.int .i16 ver,strV (t.at 0).s,.slice ab_1 (t.at 1).l.length ac_1,.map qm],120,(0,0)) := by rw [hvb,hcs];rfl
  clear hvb hcs
  obtain ⟨X_0,hXX_0⟩ : ∃ X,X = uvarS ((t.at 0).s.length + 1) ++ (t.at 0).s := ⟨_,rfl⟩
  obtain ⟨XL_1,hXL_1⟩ : ∃ X,X = uvarS ((t.at 1).l.length + 1) := ⟨_,rfl⟩
  obtain ⟨XE_1,hXE_1⟩ : ∃ X,X = (t.at 1).l.flatMap (fun x => partS (d + 1) fs_X0 ver true x) := ⟨_,rfl⟩
  obtain ⟨XU,hXU⟩ : ∃ X,X = uvarS t.u.length := ⟨_,rfl⟩
  obtain ⟨XT,hXT⟩ : ∃ X,X = t.u.flatMap oneTag := ⟨_,rfl⟩
  have hP : partS (d + 2) fs_DeleteShareGroupOffsetsRequest ver true t = (X_0 ++ ((XL_1 ++ XE_1) ++ [])) ++ (XU ++ XT) := by rw [hXU,hXT];exact partS_yes rfl hfu (plainL_has (by decide) hh_0 ((fieldS_text_t g_0 rfl (by decide)).trans hXX_0.symm) (plainL_has (by decide) hh_1 ((fieldS_list_t (g := (fun x => partS (d + 1) fs_X0 ver true x)) g_1 rfl (by decide) (fun x _ => valueS_part)).trans (by rw [hXL_1,hXE_1])) rfl))
  rw [hP] at hlen
  simp only [List.length_append,List.length_nil] at hlen
  have hdK : ∀ {r : Value} {w' : World} {add : List UInt8},AppR 5 B w v s add r w' → ∀ b,b < w'.heap.size → OkS okM w.heap.size b → ¬ ownB r b := fun h b _ hk ho => (h.frame b ho).elim (hd b hk.2 hk.1) (fun h => by have := hk.2;omega)
  have ownK : ∀ {r : Value} {w' : World} {add : List UInt8} {b : Nat},AppR 5 B w v s add r w' → b < w.heap.size → ¬ ownB v b → ¬ ownB r b := fun h hb hn ho => (h.frame _ ho).elim hn (fun h => by omega)
  have ha0 : AppR 5 B w v s [] v w := AppR.refl ho
  obtain ⟨w0,hw0⟩ : ∃ w0,w0 = w := ⟨_,rfl⟩
  have hB0 := hB
  have hv_0 := hv
  refine fn_of_W Tryz.func263 rfl Tryz.results263 Tryz.ntmps263 rfl ?_
  repeat ((first | refine qA rfl ?_|refine qB ?_|refine qC rfl ?_|refine qD ?_|refine qE ?_|refine qF ?_|refine qG ?_|refine qH ?_);try simp (maxSteps:=1000000)(disch:=(first|omega|(simp only [qI,qJ,qK]<;>omega)|exact qL _)) only [go_sem,↓reduceIte,n0,reduceCtorEq,n1,n2,n3,n4,n5,i0,i1,i2,i3,i4,i5,i6,i7,hv_0])
  refine (AppendCompactString_fn _ _ _ ha0.own hB0 (t.at 0).s (g_0.text (.inl rfl)) (by simp only [List.length_append,List.length_nil];omega)).mono ?_
  rintro r1 w1 hc1
  rw [← hXX_0] at hc1
  have ha1 := ha0.trans hc1
  have hB1 : B ≤ w1.heap.size := Nat.le_trans hB ha1.upd.size
  have hv_1 := ha1.upd.blk_some hv hdv
  repeat ((first | refine qA rfl ?_|refine qB ?_|refine qC rfl ?_|refine qD ?_|refine qE ?_|refine qF ?_|refine qG ?_|refine qH ?_);try simp (maxSteps:=1000000)(disch:=(first|omega|(simp only [qI,qJ,qK]<;>omega)|exact qL _)) only [go_sem,↓reduceIte,n0,reduceCtorEq,n1,n2,n3,n4,n5,i0,i1,i2,i3,i4,i5,i6,i7,hv_1])
  refine (AppendCompactArrayLen_fn _ _ _ ha1.own hB1 (t.at 1).l.length hll_1 (by simp only [List.length_append,List.length_nil];omega)).mono ?_
  rintro r2 w2 hc2
  rw [← hXL_1] at hc2
  have ha2 := ha1.trans hc2
  have hB2 : B ≤ w2.heap.size := Nat.le_trans hB ha2.upd.size
  have hv_2 := ha2.upd.blk_some hv hdv
  repeat ((first | refine qA rfl ?_|refine qB ?_|refine qC rfl ?_|refine qD ?_|refine qE ?_|refine qF ?_|refine qG ?_|refine qH ?_);try simp (maxSteps:=1000000)(disch:=(first|omega|(simp only [qI,qJ,qK]<;>omega)|exact qL _)) only [go_sem,↓reduceIte,n0,reduceCtorEq,n1,n2,n3,n4,n5,i0,i1,i2,i3,i4,i5,i6,i7,hv_2])
  have hadd1 := ha2
  refine W.exitJ 0 (fun ρ w' => ∃ r,ρ 1 = r ∧ ρ 0 = .pointer (some ⟨vb,0,none⟩) ∧ ρ 5 = .int .i16 ver ∧ ρ 6 = .bool true ∧ AppR 5 B w v s (([] ++ X_0 ++ XL_1) ++ XE_1) r w')
    (W.loop (fun ρ w' => ∃ (j : Nat) (r : Value),j ≤ (t.at 1).l.length ∧ ρ 46 = .int .i64 j ∧ ρ 45 = .int .i64 (t.at 1).l.length ∧ ρ 8 = .slice ab_1 (t.at 1).l.length ac_1 ∧ ρ 1 = r ∧ ρ 0 = .pointer (some ⟨vb,0,none⟩) ∧ ρ 5 = .int .i16 ver ∧ ρ 6 = .bool true ∧ AppR 5 B w v s (([] ++ X_0 ++ XL_1) ++ ((t.at 1).l.take j).flatMap (fun x => partS (d + 1) fs_X0 ver true x)) r w')
      (fun ρ _ => (t.at 1).l.length - (RowKit.intOf (ρ 46)).toNat) ?_ ?_) ?_
  · refine ⟨0,_,Nat.zero_le _,?_,?_,?_,?_,?_,?_,?_,ha2.eqs (by rw [List.take_zero,List.flatMap_nil,List.append_nil])⟩ <;> simp (maxSteps:=1000000)(disch:=(first|omega|(simp only [qI,qJ,qK]<;>omega)|exact qL _)) only [go_sem,↓reduceIte,n0,reduceCtorEq,n1,n2,n3,n4,n5,i0,i1,i2,i3,i4,i5,i6,i7]
    all_goals rfl
  · rintro ρ w3 ⟨j1,r3,hj1,hI1,hN1,hS1,hr1_1,hr1_0,hr1_5,hr1_6,ha3⟩
    have hB3 : B ≤ w3.heap.size := Nat.le_trans hB ha3.upd.size
    have hv_3 := ha3.upd.blk_some hv hdv
    by_cases hlt1 : j1 < (t.at 1).l.length
    · obtain ⟨_,b1,o1,x1,ce1,hb1,hok1,hx1,hbl1,hxs1,hxe1,hq1,hRe1⟩ := SlR.get (size := 2) (by decide) hs_1 hlt1
      subst hb1
      have hcat1 : (t.at 1).l.take (j1 + 1) = (t.at 1).l.take j1 ++ [(t.at 1).l[j1]] := List.take_succ_eq_append_getElem hlt1
      have htl1 := take_flatMap_len (t.at 1).l (fun x => partS (d + 1) fs_X0 ver true x) (j1 + 1)
      rw [← hXE_1,hcat1,List.flatMap_append,List.flatMap_cons,List.flatMap_nil,List.append_nil] at htl1
      have hge1 := hgl_1.2 _ (List.getElem_mem hlt1)
      generalize (t.at 1).l[j1] = y1 at *
      have hnx1 := hd b1 hbl1 hok1
      obtain ⟨T1,hTT1⟩ : ∃ T,T = ((t.at 1).l.take j1).flatMap (fun x => partS (d + 1) fs_X0 ver true x) := ⟨_,rfl⟩
      rw [← hTT1] at ha3 htl1
      have hx1_3 := ha3.upd.blk_some hx1 hnx1
      replace hRe1 : RepS true (d + 1) fs_X0 okM w y1 ce1 := Rep1_part.1 hRe1
      have hfe1 : FitW ver (d + 1) fs_X0 y1 := hge1.2 rfl
      obtain ⟨⟨ge1_0,-⟩,hfue1⟩ := hfe1
      replace ge1_0 : hasS fX0_0 ver = true → FitWF (FitW ver d) ver fX0_0 (y1.at 0) := ge1_0
      have hhe1_0 : hasS fX0_0 ver = true := hasS_t (by show (0 : Int) ≤ ver;omega) (by show (-1 : Int) < 0 ∨ ver ≤ (-1 : Int);omega)
      replace ge1_0 := ge1_0 hhe1_0
      obtain ⟨cse1,qe1,hcse1,hLe1,hTe1⟩ := hRe1.inv
      obtain ⟨ce1_0,ee1_0,rfl,he1_0,rfl⟩ := hLe1
      replace he1_0 : RepF (RepS true d) (szS true d) fX0_0 okM w (y1.at 0) ce1_0 := he1_0
      obtain rfl := (RepF_text rfl (by decide)).1 he1_0
      obtain ⟨qme1,rfl⟩ := hTe1.shape
      subst hcse1
      have hq1_0 : x1.1[o1 + j1 * 2]? = some (strV (y1.at 0).s) := hq1 0 (by decide)
      have hq1_1 : x1.1[o1 + (j1 * 2 + 1)]? = some (.map qme1) := hq1 1 (by decide)
      obtain ⟨Xe1_0,hXXe1_0⟩ : ∃ X,X = uvarS ((y1.at 0).s.length + 1) ++ (y1.at 0).s := ⟨_,rfl⟩
      obtain ⟨XUe1,hXUe1⟩ : ∃ X,X = uvarS y1.u.length := ⟨_,rfl⟩
      obtain ⟨XTe1,hXTe1⟩ : ∃ X,X = y1.u.flatMap oneTag := ⟨_,rfl⟩
      have hPe1 : partS (d + 1) fs_X0 ver true y1 = (Xe1_0 ++ []) ++ (XUe1 ++ XTe1) := by rw [hXUe1,hXTe1];exact partS_yes rfl hfue1 (plainL_has (by decide) hhe1_0 ((fieldS_text_t ge1_0 rfl (by decide)).trans hXXe1_0.symm) rfl)
      rw [hPe1] at htl1
      simp only [List.length_append,List.length_nil] at htl1
      repeat ((first | refine qA rfl ?_|refine qB ?_|refine qC rfl ?_|refine qD ?_|refine qE ?_|refine qF ?_|refine qG ?_|refine qH ?_);try simp (maxSteps:=1000000)(disch:=(first|omega|(simp only [qI,qJ,qK]<;>omega)|exact qL _)) only [go_sem,↓reduceIte,n0,reduceCtorEq,n1,n2,n3,n4,n5,i0,i1,i2,i3,i4,i5,i6,i7,hv_3,hx1_3,Int.toNat_natCast,Nat.mul_one,hq1_0,hq1_1,hr1_1,hr1_0,hr1_5,hr1_6,hI1,hN1,hS1])
      refine (AppendCompactString_fn _ _ _ ha3.own hB3 (y1.at 0).s (ge1_0.text (.inl rfl)) (by simp only [List.length_append,List.length_nil];omega)).mono ?_
      rintro r4 w4 hc4
      rw [← hXXe1_0] at hc4
      have ha4 := ha3.trans hc4
      have hB4 : B ≤ w4.heap.size := Nat.le_trans hB ha4.upd.size
      have hv_4 := ha4.upd.blk_some hv hdv
      have hx1_4 := ha4.upd.blk_some hx1 hnx1
      repeat ((first | refine qA rfl ?_|refine qB ?_|refine qC rfl ?_|refine qD ?_|refine qE ?_|refine qF ?_|refine qG ?_|refine qH ?_);try simp (maxSteps:=1000000)(disch:=(first|omega|(simp only [qI,qJ,qK]<;>omega)|exact qL _)) only [go_sem,↓reduceIte,n0,reduceCtorEq,n1,n2,n3,n4,n5,i0,i1,i2,i3,i4,i5,i6,i7,hv_4,hx1_4,Int.toNat_natCast,Nat.mul_one,hq1_0,hq1_1,hr1_1,hr1_0,hr1_5,hr1_6,hI1,hN1,hS1])
      have hTk4 : TagsM (OkS okM w.heap.size) w4 (.map qme1) y1.u := (hTe1.weaken fun b h1 h2 => ⟨h2,h1⟩).keep (ha4.upd.keeps fun b hb hk => hd b hb hk.1)
      refine (TagsLen_fn (ok := OkS okM w.heap.size) w4 hx1_4 (to := o1 + (j1 * 2 + 1)) hq1_1 hTk4).mono ?_
      rintro _ w4' ⟨rfl,rfl⟩
      have hul4 : y1.u.length ≤ 32767 := hfue1.1
      have ew4 : IntKind.u32.wrap (y1.u.length : Int) = y1.u.length := u32_wrap (by omega)
      have ez4 : IntKind.u32.wrap (0 + (y1.u.length : Int)) = y1.u.length := by rw [Int.zero_add,u32_wrap (by omega)]
      simp (maxSteps:=1000000)(disch:=(first|omega|(simp only [qI,qJ,qK]<;>omega)|exact qL _)) only [go_sem,↓reduceIte,n0,reduceCtorEq,n1,n2,n3,n4,n5,i0,i1,i2,i3,i4,i5,i6,i7,hv_4,hx1_4,Int.toNat_natCast,Nat.mul_one,hq1_0,hq1_1,hr1_1,hr1_0,hr1_5,hr1_6,hI1,hN1,hS1,ew4,ez4]
      refine (AppendUvarint_fn _ _ _ ha4.own hB4 y1.u.length (by omega) (by simp only [List.length_append,List.length_nil];omega)).mono ?_
      rintro r5 w5 hc5
      rw [← hXUe1] at hc5
      have ha5 := ha4.trans hc5
      have hB5 : B ≤ w5.heap.size := Nat.le_trans hB ha5.upd.size
      have hv_5 := ha5.upd.blk_some hv hdv
      have hx1_5 := ha5.upd.blk_some hx1 hnx1
      repeat ((first | refine qA rfl ?_|refine qB ?_|refine qC rfl ?_|refine qD ?_|refine qE ?_|refine qF ?_|refine qG ?_|refine qH ?_);try simp (maxSteps:=1000000)(disch:=(first|omega|(simp only [qI,qJ,qK]<;>omega)|exact qL _)) only [go_sem,↓reduceIte,n0,reduceCtorEq,n1,n2,n3,n4,n5,i0,i1,i2,i3,i4,i5,i6,i7,hv_5,hx1_5,Int.toNat_natCast,Nat.mul_one,hq1_0,hq1_1,hr1_1,hr1_0,hr1_5,hr1_6,hI1,hN1,hS1])
      have hTk5 : TagsM (OkS okM w.heap.size) w5 (.map qme1) y1.u := (hTe1.weaken fun b h1 h2 => ⟨h2,h1⟩).keep (ha5.upd.keeps fun b hb hk => hd b hb hk.1)
      refine (AppendEach_fn (ok := OkS okM w.heap.size) _ _ _ ha5.own hB5 hx1_5 (to := o1 + (j1 * 2 + 1)) hq1_1 hTk5 (rising_keys hfue1) hfue1.1 (tags_small hfue1 hTk5) (hdK ha5) (ownK ha5 (blk_lt hx1) hnx1) (by simp only [List.length_append,List.length_nil];omega)).mono ?_
      rintro r6 w6 hc6
      rw [← hXTe1] at hc6
      have ha6 := ha5.trans hc6
      have hB6 : B ≤ w6.heap.size := Nat.le_trans hB ha6.upd.size
      have hv_6 := ha6.upd.blk_some hv hdv
      have hx1_6 := ha6.upd.blk_some hx1 hnx1
      repeat ((first | refine qA rfl ?_|refine qB ?_|refine qC rfl ?_|refine qD ?_|refine qE ?_|refine qF ?_|refine qG ?_|refine qH ?_);try simp (maxSteps:=1000000)(disch:=(first|omega|(simp only [qI,qJ,qK]<;>omega)|exact qL _)) only [go_sem,↓reduceIte,n0,reduceCtorEq,n1,n2,n3,n4,n5,i0,i1,i2,i3,i4,i5,i6,i7,hr1_1,hr1_0,hr1_5,hr1_6,hI1,hN1,hS1])
      refine ⟨⟨j1 + 1,_,by omega,rfl,rfl,ha6.eqs ?_⟩,?_⟩
      · rw [hcat1,List.flatMap_append,List.flatMap_cons,List.flatMap_nil,List.append_nil,← hTT1,hPe1];simp only [List.append_assoc,List.append_nil,List.nil_append]
      · simp only [RowKit.intOf];omega
    · have hjl1 : j1 = (t.at 1).l.length := by omega
      subst hjl1
      rw [List.take_length,← hXE_1] at ha3
      repeat ((first | refine qA rfl ?_|refine qB ?_|refine qC rfl ?_|refine qD ?_|refine qE ?_|refine qF ?_|refine qG ?_|refine qH ?_);try simp (maxSteps:=1000000)(disch:=(first|omega|(simp only [qI,qJ,qK]<;>omega)|exact qL _)) only [go_sem,↓reduceIte,n0,reduceCtorEq,n1,n2,n3,n4,n5,i0,i1,i2,i3,i4,i5,i6,i7,hI1,hN1])
      exact ⟨_,hr1_1,hr1_0,hr1_5,hr1_6,ha3⟩
  · rintro ρ w7 ⟨r7,hr1_2,hr2_0,hr2_5,hr2_6,ha7⟩
    have hB7 : B ≤ w7.heap.size := Nat.le_trans hB ha7.upd.size
    have hv_7 := ha7.upd.blk_some hv hdv
    repeat ((first | refine qA rfl ?_|refine qB ?_|refine qC rfl ?_|refine qD ?_|refine qE ?_|refine qF ?_|refine qG ?_|refine qH ?_);try simp (maxSteps:=1000000)(disch:=(first|omega|(simp only [qI,qJ,qK]<;>omega)|exact qL _)) only [go_sem,↓reduceIte,n0,reduceCtorEq,n1,n2,n3,n4,n5,i0,i1,i2,i3,i4,i5,i6,i7,hv_7,hr1_2,hr2_0,hr2_5,hr2_6])
    have hTk7 : TagsM (OkS okM w.heap.size) w7 (.map qm) t.u := (hT.weaken fun b h1 h2 => ⟨h2,h1⟩).keep (ha7.upd.keeps fun b hb hk => hd b hb hk.1)
    refine (TagsLen_fn (ok := OkS okM w.heap.size) w7 hv_7 (to := 3) (show (#[.int .i16 ver,strV (t.at 0).s,.slice ab_1 (t.at 1).l.length ac_1,.map qm] : Array Value)[3]? = some (.map qm) from rfl) hTk7).mono ?_
    rintro _ w7' ⟨rfl,rfl⟩
    have hul7 : t.u.length ≤ 32767 := hfu.1
    have ew7 : IntKind.u32.wrap (t.u.length : Int) = t.u.length := u32_wrap (by omega)
    have ez7 : IntKind.u32.wrap (0 + (t.u.length : Int)) = t.u.length := by rw [Int.zero_add,u32_wrap (by omega)]
    simp (maxSteps:=1000000)(disch:=(first|omega|(simp only [qI,qJ,qK]<;>omega)|exact qL _)) only [go_sem,↓reduceIte,n0,reduceCtorEq,n1,n2,n3,n4,n5,i0,i1,i2,i3,i4,i5,i6,i7,hv_7,hr1_2,hr2_0,hr2_5,hr2_6,ew7,ez7]
    refine (AppendUvarint_fn _ _ _ ha7.own hB7 t.u.length (by omega) (by simp only [List.length_append,List.length_nil];omega)).mono ?_
    rintro r8 w8 hc8
    rw [← hXU] at hc8
    have ha8 := ha7.trans hc8
    have hB8 : B ≤ w8.heap.size := Nat.le_trans hB ha8.upd.size
    have hv_8 := ha8.upd.blk_some hv hdv
    repeat ((first | refine qA rfl ?_|refine qB ?_|refine qC rfl ?_|refine qD ?_|refine qE ?_|refine qF ?_|refine qG ?_|refine qH ?_);try simp (maxSteps:=1000000)(disch:=(first|omega|(simp only [qI,qJ,qK]<;>omega)|exact qL _)) only [go_sem,↓reduceIte,n0,reduceCtorEq,n1,n2,n3,n4,n5,i0,i1,i2,i3,i4,i5,i6,i7,hv_8,hr1_2,hr2_0,hr2_5,hr2_6])
    have hTk8 : TagsM (OkS okM w.heap.size) w8 (.map qm) t.u := (hT.weaken fun b h1 h2 => ⟨h2,h1⟩).keep (ha8.upd.keeps fun b hb hk => hd b hb hk.1)
    refine (AppendEach_fn (ok := OkS okM w.heap.size) _ _ _ ha8.own hB8 hv_8 (to := 3) (show (#[.int .i16 ver,strV (t.at 0).s,.slice ab_1 (t.at 1).l.length ac_1,.map qm] : Array Value)[3]? = some (.map qm) from rfl) hTk8 (rising_keys hfu) hfu.1 (tags_small hfu hTk8) (hdK ha8) (ownK ha8 (blk_lt hv) hdv) (by simp only [List.length_append,List.length_nil];omega)).mono ?_
    rintro r9 w9 hc9
    rw [← hXT] at hc9
    have ha9 := ha8.trans hc9
    have hB9 : B ≤ w9.heap.size := Nat.le_trans hB ha9.upd.size
    have hv_9 := ha9.upd.blk_some hv hdv
    repeat ((first | refine qA rfl ?_|refine qB ?_|refine qC rfl ?_|refine qD ?_|refine qE ?_|refine qF ?_|refine qG ?_|refine qH ?_);try simp (maxSteps:=1000000)(disch:=(first|omega|(simp only [qI,qJ,qK]<;>omega)|exact qL _)) only [go_sem,↓reduceIte,n0,reduceCtorEq,n1,n2,n3,n4,n5,i0,i1,i2,i3,i4,i5,i6,i7,hv_9,hr1_2,hr2_0,hr2_5,hr2_6])
    refine ha9.eqs ?_
    rw [hP];simp only [List.append_assoc,List.append_nil,List.nil_append]
end Ms

namespace Ms
open Go.World renaming size_alloc → qI
open Ms renaming size_wr → qJ,size_drew → qK,not_noB → qL
open W renaming seqR → qA,seq → qB,regR → qC,condK → qD,block → qE,skip → qF,ret → qG,exit → qH
open Nat renaming reduceEqDiff → n0,reduceAdd → n1,reduceMul → n2,reduceSub → n3,reduceLT → n4,reduceLeDiff → n5
open Int renaming reduceEq → i0,reduceLT → i1,reduceLE → i2,reduceNeg → i3,reduceAdd → i4,reduceSub → i5,reduceMul → i6,reduceToNat → i7
set_option maxRecDepth 8000
open Go Go.Proofs Go.Shelf
attribute [local congr] W_congr WPsq_congr WPp_congr optK_congr addrK_congr intK_congr boolK_congr sliceK_congr tupleK_congr funcK_congr Fn_congr rawK_congr takeK_congr stepK_congr convK_congr aggK_congr

theorem KeyDeleteShareGroupOffsetsRequest_fn (w : World) (vb : Nat) : Fn Tryz.prog 266 #[.pointer (some ⟨vb,0,none⟩)] w fun r w' => r = .int .i16 92 ∧ w' = w := by
  refine fn_of_W Tryz.func266 rfl Tryz.results266 Tryz.ntmps266 rfl ?_
  repeat ((first | refine qA rfl ?_|refine qB ?_|refine qC rfl ?_|refine qD ?_|refine qE ?_|refine qF ?_|refine qG ?_|refine qH ?_);try simp (maxSteps:=1000000)(disch:=(first|omega|(simp only [qI,qJ,qK]<;>omega)|exact qL _)) only [go_sem,↓reduceIte,n0,reduceCtorEq,n1,n2,n3,n4,n5,i0,i1,i2,i3,i4,i5,i6,i7])
  all_goals first | rfl | exact ⟨rfl,rfl⟩
theorem GetVDeleteShareGroupOffsetsRequest_fn (w : World) {vb : Nat} {ver : Int} {cells : List Value} (hb : blk w vb = some ((.int .i16 ver :: cells).toArray,120,(0,0))) : Fn Tryz.prog 264 #[.pointer (some ⟨vb,0,none⟩)] w fun r w' => r = .int .i16 ver ∧ w' = w := by
  refine fn_of_W Tryz.func264 rfl Tryz.results264 Tryz.ntmps264 rfl ?_
  repeat ((first | refine qA rfl ?_|refine qB ?_|refine qC rfl ?_|refine qD ?_|refine qE ?_|refine qF ?_|refine qG ?_|refine qH ?_);try simp (maxSteps:=1000000)(disch:=(first|omega|(simp only [qI,qJ,qK]<;>omega)|exact qL _)) only [go_sem,↓reduceIte,n0,reduceCtorEq,n1,n2,n3,n4,n5,i0,i1,i2,i3,i4,i5,i6,i7,hb])
  all_goals first | rfl | exact ⟨rfl,rfl⟩
theorem IsFlexDeleteShareGroupOffsetsRequest_fn (w : World) {vb : Nat} {ver : Int} {cells : List Value} (hlo : 0 ≤ ver) (hhi : ver ≤ 0) (hb : blk w vb = some ((.int .i16 ver :: cells).toArray,120,(0,0))) : Fn Tryz.prog 265 #[.pointer (some ⟨vb,0,none⟩)] w fun r w' => r = .bool (flexB 0 ver) ∧ w' = w := by
  refine fn_of_W Tryz.func265 rfl Tryz.results265 Tryz.ntmps265 rfl ?_
  by_cases hv : 0 ≤ ver
  · repeat ((first | refine qA rfl ?_|refine qB ?_|refine qC rfl ?_|refine qD ?_|refine qE ?_|refine qF ?_|refine qG ?_|refine qH ?_);try simp (maxSteps:=1000000)(disch:=(first|omega|(simp only [qI,qJ,qK]<;>omega)|exact qL _)) only [go_sem,↓reduceIte,n0,reduceCtorEq,n1,n2,n3,n4,n5,i0,i1,i2,i3,i4,i5,i6,i7,hb])
    all_goals simp [flexB] <;> omega
  · repeat ((first | refine qA rfl ?_|refine qB ?_|refine qC rfl ?_|refine qD ?_|refine qE ?_|refine qF ?_|refine qG ?_|refine qH ?_);try simp (maxSteps:=1000000)(disch:=(first|omega|(simp only [qI,qJ,qK]<;>omega)|exact qL _)) only [go_sem,↓reduceIte,n0,reduceCtorEq,n1,n2,n3,n4,n5,i0,i1,i2,i3,i4,i5,i6,i7,hb])
    all_goals simp [flexB] <;> omega
theorem mKeyDeleteShareGroupOffsetsRequest : methodP Tryz.prog 71 "Key" = some (266,true) := by kernel_rfl
theorem kKeyDeleteShareGroupOffsetsRequest : callable Tryz.prog 266 = true := by kernel_rfl
theorem mGetVDeleteShareGroupOffsetsRequest : methodP Tryz.prog 71 "GetVersion" = some (264,true) := by kernel_rfl
theorem kGetVDeleteShareGroupOffsetsRequest : callable Tryz.prog 264 = true := by kernel_rfl
theorem mIsFlexDeleteShareGroupOffsetsRequest : methodP Tryz.prog 71 "IsFlexible" = some (265,true) := by kernel_rfl
theorem kIsFlexDeleteShareGroupOffsetsRequest : callable Tryz.prog 265 = true := by kernel_rfl
theorem mAppDeleteShareGroupOffsetsRequest : methodP Tryz.prog 71 "AppendTo" = some (263,true) := by kernel_rfl
theorem kAppDeleteShareGroupOffsetsRequest : callable Tryz.prog 263 = true := by kernel_rfl
theorem recvDeleteShareGroupOffsetsRequest : recvOk Tryz.prog 71 true = true := by kernel_rfl

set_option maxHeartbeats 2000000 in
theorem reqDeleteShareGroupOffsetsRequest {d : Nat} {ver : Int} {vb B : Nat} {cells : List Value} {t : Tree} (hlo : 0 ≤ ver) (hhi : ver ≤ 0) (hvb : vb < B) (hcn : partS (d + 2) fs_DeleteShareGroupOffsetsRequest ver (flexB 0 ver) (cnP (d + 2) ver (flexB 0 ver) fs_DeleteShareGroupOffsetsRequest t) = (partS (d + 2) fs_DeleteShareGroupOffsetsRequest ver (flexB 0 ver) t) ∧ FitW ver (d + 2) fs_DeleteShareGroupOffsetsRequest (cnP (d + 2) ver (flexB 0 ver) fs_DeleteShareGroupOffsetsRequest t)) (hl : (partS (d + 2) fs_DeleteShareGroupOffsetsRequest ver (flexB 0 ver) t).length ≤ 2 ^ 40) :
    ReqOk Tryz.prog 5 71 (.pointer (some ⟨vb,0,none⟩)) B 92 ver (flexB 0 ver) (partS (d + 2) fs_DeleteShareGroupOffsetsRequest ver (flexB 0 ver) t) (fun w => (blk w vb = some ((.int .i16 ver :: cells).toArray,120,(0,0))) ∧ RepS true (d + 2) fs_DeleteShareGroupOffsetsRequest (fun b => b < B) w (cnP (d + 2) ver (flexB 0 ver) fs_DeleteShareGroupOffsetsRequest t) cells) := by
  refine ⟨fun w w' h hu => ⟨hu.blk_some h.1 (by omega),?_⟩,recvDeleteShareGroupOffsetsRequest,⟨_,mKeyDeleteShareGroupOffsetsRequest,kKeyDeleteShareGroupOffsetsRequest,fun w _ => KeyDeleteShareGroupOffsetsRequest_fn w vb⟩,⟨_,mGetVDeleteShareGroupOffsetsRequest,kGetVDeleteShareGroupOffsetsRequest,fun w h => GetVDeleteShareGroupOffsetsRequest_fn w h.1⟩,⟨_,mIsFlexDeleteShareGroupOffsetsRequest,kIsFlexDeleteShareGroupOffsetsRequest,fun w h => IsFlexDeleteShareGroupOffsetsRequest_fn w hlo hhi h.1⟩,⟨_,mAppDeleteShareGroupOffsetsRequest,kAppDeleteShareGroupOffsetsRequest,fun w v s B' h hB hB' ho hs => ?_⟩⟩
  · exact (RepS_lay true (d + 2) fs_DeleteShareGroupOffsetsRequest).keep h.2 (hu.keeps fun b _ hk hb => by omega)
  have hcl : (0 ≤ ver ∧ ver ≤ 0) := by omega
  rcases hcl with ⟨h1,h2⟩
  · have hfl : flexB 0 ver = true := by simp only [flexB,Bool.and_eq_true,decide_eq_true_eq];omega
    rw [hfl] at hcn h hl ⊢
    refine (appDeleteShareGroupOffsetsRequest_0 (d := d) (B := B') h1 h2 _ cells v s w ho hB' h.1 h.2 hcn.2 (fun b hb h1 h2 => by have := Own.above ho h2;omega) (fun h => by have := Own.above ho h;omega) (by rw [hcn.1];omega)).mono ?_
    intro r w' h6
    rw [hcn.1] at h6
    exact h6

set_option maxHeartbeats 2000000 in
theorem FrameDeleteShareGroupOffsetsRequest_fn {d : Nat} {ok : Blocks} {ev : Value} (ver : Nat) (hv : ver ≤ 0) (t : Tree) (has : Bool) (id : List UInt8) (number : Int) (b : Value) (w : World) (hb : BytesV ok w b (partS (d + 2) fs_DeleteShareGroupOffsetsRequest ver (flexB 0 ver) t)) (hG : Glo ev w) (hrd : rdP (d + 2) ver (flexB 0 ver) fs_DeleteShareGroupOffsetsRequest (some (partS (d + 2) fs_DeleteShareGroupOffsetsRequest ver (flexB 0 ver) t)) = (cnP (d + 2) ver (flexB 0 ver) fs_DeleteShareGroupOffsetsRequest t,some []))
    (hcn : partS (d + 2) fs_DeleteShareGroupOffsetsRequest ver (flexB 0 ver) (cnP (d + 2) ver (flexB 0 ver) fs_DeleteShareGroupOffsetsRequest t) = (partS (d + 2) fs_DeleteShareGroupOffsetsRequest ver (flexB 0 ver) t) ∧ FitW ver (d + 2) fs_DeleteShareGroupOffsetsRequest (cnP (d + 2) ver (flexB 0 ver) fs_DeleteShareGroupOffsetsRequest t)) (hl : (partS (d + 2) fs_DeleteShareGroupOffsetsRequest ver (flexB 0 ver) t).length ≤ 2 ^ 40) (hid : id.length ≤ 32767) (hkv : ¬ ((92 : Int) = 7 ∧ (ver : Int) = 0)) :
    Fn Tryz.prog 42 #[.agg #[.bool has,strV id],.int .i32 number,.int .i64 ver,b] w fun r w' => (∃ v,r = .tuple #[v,.bool true] ∧ OwnBy 5 w.heap.size w' v (frameS 92 ver number (!has) id (flexB 0 ver) (partS (d + 2) fs_DeleteShareGroupOffsetsRequest ver (flexB 0 ver) t))) ∧ Ext w w' := by
  obtain ⟨ba,bc,rfl,_⟩ := hb.shape
  have hgl := hG.lt
  have ew : IntKind.i16.wrap (ver : Int) = ver := i16_wrap (by omega)
  have hE0 : Ext w (w.alloc (.cells #[.bool has,strV id] 23)) := Upd.alloc (Upd.refl _ _) _
  have hz0 : (w.alloc (.cells #[.bool has,strV id] 23)).heap.size = w.heap.size + 1 := World.size_alloc _ _
  have hi0 : blk (w.alloc (.cells #[.bool has,strV id] 23)) w.heap.size = some (#[.bool has,strV id],23,(0,0)) := blk_alloc_new rfl
  refine fn_of_W Tryz.func42 rfl Tryz.results42 Tryz.ntmps42 rfl ?_
  repeat ((first | refine qA rfl ?_|refine qB ?_|refine qC rfl ?_|refine qD ?_|refine qE ?_|refine qF ?_|refine qG ?_|refine qH ?_);try simp (maxSteps:=1000000)(disch:=(first|omega|(simp only [qI,qJ,qK]<;>omega)|exact qL _)) only [go_sem,↓reduceIte,n0,reduceCtorEq,n1,n2,n3,n4,n5,i0,i1,i2,i3,i4,i5,i6,i7,ew,cells_strV,flat_strV])
  generalize (w.alloc (.cells #[.bool has,strV id] 23)) = w0 at *
  refine (NewPtrDeleteShareGroupOffsetsRequest_fn w0).mono ?_
  rintro _ w1 ⟨rfl,hb1,hE1⟩
  have hz1 := blk_lt hb1
  repeat ((first | refine qA rfl ?_|refine qB ?_|refine qC rfl ?_|refine qD ?_|refine qE ?_|refine qF ?_|refine qG ?_|refine qH ?_);try simp (maxSteps:=1000000)(disch:=(first|omega|(simp only [qI,qJ,qK]<;>omega)|exact qL _)) only [go_sem,↓reduceIte,n0,reduceCtorEq,n1,n2,n3,n4,n5,i0,i1,i2,i3,i4,i5,i6,i7,ew])
  refine (SetVersionDeleteShareGroupOffsetsRequest_fn w1 (vb := w0.heap.size) ver hb1).mono ?_
  rintro _ w2 ⟨hb2,hU2⟩
  have hz2 := hU2.size
  have hE2 : Ext w0 w2 := hE1.more hU2 fun b hb h => by omega
  repeat ((first | refine qA rfl ?_|refine qB ?_|refine qC rfl ?_|refine qD ?_|refine qE ?_|refine qF ?_|refine qG ?_|refine qH ?_);try simp (maxSteps:=1000000)(disch:=(first|omega|(simp only [qI,qJ,qK]<;>omega)|exact qL _)) only [go_sem,↓reduceIte,n0,reduceCtorEq,n1,n2,n3,n4,n5,i0,i1,i2,i3,i4,i5,i6,i7,ew])
  refine wp_copyN ap_24_24 (ok := ok) (s := (partS (d + 2) fs_DeleteShareGroupOffsetsRequest ver (flexB 0 ver) t)) (v := .slice ba _ bc) (by first | rfl | simp (maxSteps:=1000000)(disch:=(first|omega|(simp only [qI,qJ,qK]<;>omega)|exact qL _)) only [go_sem,↓reduceIte,n0,reduceCtorEq,n1,n2,n3,n4,n5,i0,i1,i2,i3,i4,i5,i6,i7]) (by first | rfl | simp (maxSteps:=1000000)(disch:=(first|omega|(simp only [qI,qJ,qK]<;>omega)|exact qL _)) only [go_sem,↓reduceIte,n0,reduceCtorEq,n1,n2,n3,n4,n5,i0,i1,i2,i3,i4,i5,i6,i7]) (hb.keep (Ext.keeps (hE0.trans hE2) _)) (by omega) ?_
  intro v3 w3 ho3 hE3 hf3
  have hz3 := hE3.size
  have hb3 := hE3.blk_some hb2 _root_.id
  have hG3 : Glo ev w3 := hG.updS ((hE0.trans hE2).trans hE3) _root_.id _root_.id
  obtain ⟨a3,c3,rfl,_⟩ := ho3.shape
  try simp (maxSteps:=1000000)(disch:=(first|omega|(simp only [qI,qJ,qK]<;>omega)|exact qL _)) only [go_sem,↓reduceIte,n0,reduceCtorEq,n1,n2,n3,n4,n5,i0,i1,i2,i3,i4,i5,i6,i7]
  refine (ReadFromDeleteShareGroupOffsetsRequest_fn (d := d) (ok := fun b => b < w3.heap.size ∧ b ≠ w0.heap.size) (ev := ev) (ver := ver) (by omega) (by omega) w3 _ _ hb3 ((Own.bytes ho3 hf3).weaken fun b hb hk => ⟨hb,by omega⟩) (fun b hb => hb) hG3 ⟨by omega,by omega⟩).mono ?_
  rintro r4 w4 ⟨_,h4,hU4⟩
  rw [hrd] at h4
  obtain ⟨rfl,cells,hb4,hR4⟩ := h4 (by simp)
  have hz4 := hU4.size
  have hE4 : Ext w0 w4 := (hE2.trans hE3).more hU4 fun b hb h => by omega
  have hE04 := hE0.trans hE4
  have hi4 := hE4.blk_some hi0 _root_.id
  have hR4' : RepS true (d + 2) fs_DeleteShareGroupOffsetsRequest (fun b => b < w4.heap.size) w4 (cnP (d + 2) ver (flexB 0 ver) fs_DeleteShareGroupOffsetsRequest t) cells := (RepS_lay true (d + 2) fs_DeleteShareGroupOffsetsRequest).weaken hR4 fun b hb _ => hb
  try simp (maxSteps:=1000000)(disch:=(first|omega|(simp only [qI,qJ,qK]<;>omega)|exact qL _)) only [go_sem,↓reduceIte,n0,reduceCtorEq,n1,n2,n3,n4,n5,i0,i1,i2,i3,i4,i5,i6,i7]
  repeat ((first | refine qA rfl ?_|refine qB ?_|refine qC rfl ?_|refine qD ?_|refine qE ?_|refine qF ?_|refine qG ?_|refine qH ?_);try simp (maxSteps:=1000000)(disch:=(first|omega|(simp only [qI,qJ,qK]<;>omega)|exact qL _)) only [go_sem,↓reduceIte,n0,reduceCtorEq,n1,n2,n3,n4,n5,i0,i1,i2,i3,i4,i5,i6,i7,hi4,cellsAt_two])
  refine (framed_fn (reqDeleteShareGroupOffsetsRequest (d := d) (B := w4.heap.size) (vb := w0.heap.size) (cells := cells) (t := t) (by omega) (by omega) (by omega) hcn hl) rfl w4 ⟨hb4,hR4'⟩ (Nat.le_refl _) has id hid hl number hkv).mono ?_
  rintro r5 w5 ⟨ho5,hE5⟩
  obtain ⟨a5,c5,rfl,_⟩ := ho5.shape
  try simp (maxSteps:=1000000)(disch:=(first|omega|(simp only [qI,qJ,qK]<;>omega)|exact qL _)) only [go_sem,↓reduceIte,n0,reduceCtorEq,n1,n2,n3,n4,n5,i0,i1,i2,i3,i4,i5,i6,i7]
  repeat ((first | refine qA rfl ?_|refine qB ?_|refine qC rfl ?_|refine qD ?_|refine qE ?_|refine qF ?_|refine qG ?_|refine qH ?_);try simp (maxSteps:=1000000)(disch:=(first|omega|(simp only [qI,qJ,qK]<;>omega)|exact qL _)) only [go_sem,↓reduceIte,n0,reduceCtorEq,n1,n2,n3,n4,n5,i0,i1,i2,i3,i4,i5,i6,i7])
  exact ⟨⟨_,rfl,Own.mono ho5 hE04.size⟩,hE04.trans hE5⟩

end Ms

