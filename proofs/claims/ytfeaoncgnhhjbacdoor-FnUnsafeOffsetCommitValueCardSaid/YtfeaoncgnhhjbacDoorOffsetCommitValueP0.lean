/- A part of the proof: see the last text. -/
import Derived.Test.YtfeaoncgnhhjbacDoorC06
import Derived.Test.YtfeaoncgnhhjbacDoorC08
import Derived.Test.YtfeaoncgnhhjbacDoorC09
import Derived.Test.YtfeaoncgnhhjbacDoorC10
set_option linter.unusedSimpArgs false
set_option linter.unusedVariables false
namespace Ms
open Nat renaming reduceEqDiff → n0,reduceAdd → n1,reduceMul → n2,reduceSub → n3,reduceLT → n4,reduceLeDiff → n5
open Int renaming reduceEq → i0,reduceLT → i1,reduceLE → i2,reduceNeg → i3,reduceAdd → i4,reduceSub → i5,reduceMul → i6,reduceToNat → i7
set_option maxRecDepth 4000
open Go Go.Proofs
theorem ap_24_24 : AppT Tryd.prog 24 24 61 2 32 := AppT.of (by kernel_rfl)
theorem ca_10 : callable Tryd.prog 10 = true := nr (by kernel_rfl)
theorem ca_11 : callable Tryd.prog 11 = true := nr (by kernel_rfl)
theorem ca_12 : callable Tryd.prog 12 = true := nr (by kernel_rfl)
theorem ca_15 : callable Tryd.prog 15 = true := nr (by kernel_rfl)
theorem ca_17 : callable Tryd.prog 17 = true := nr (by kernel_rfl)
theorem ca_18 : callable Tryd.prog 18 = true := nr (by kernel_rfl)
theorem ca_19 : callable Tryd.prog 19 = true := nr (by kernel_rfl)
theorem ca_20 : callable Tryd.prog 20 = true := nr (by kernel_rfl)
theorem ca_21 : callable Tryd.prog 21 = true := nr (by kernel_rfl)
theorem ca_24 : callable Tryd.prog 24 = true := nr (by kernel_rfl)
theorem ca_25 : callable Tryd.prog 25 = true := nr (by kernel_rfl)
theorem ca_26 : callable Tryd.prog 26 = true := nr (by kernel_rfl)
theorem ca_27 : callable Tryd.prog 27 = true := nr (by kernel_rfl)
theorem ca_28 : callable Tryd.prog 28 = true := nr (by kernel_rfl)
theorem ca_29 : callable Tryd.prog 29 = true := nr (by kernel_rfl)
theorem ca_31 : callable Tryd.prog 31 = true := nr (by kernel_rfl)
theorem ca_33 : callable Tryd.prog 33 = true := nr (by kernel_rfl)
theorem ca_34 : callable Tryd.prog 34 = true := nr (by kernel_rfl)
theorem ca_4 : callable Tryd.prog 4 = true := nr (by kernel_rfl)
theorem ca_5 : callable Tryd.prog 5 = true := nr (by kernel_rfl)
theorem ca_6 : callable Tryd.prog 6 = true := nr (by kernel_rfl)
theorem ca_7 : callable Tryd.prog 7 = true := nr (by kernel_rfl)
theorem fo_47_0 : fieldOff Tryd.prog 47 0 = some 0 := nr (by kernel_rfl)
theorem fo_47_1 : fieldOff Tryd.prog 47 1 = some 1 := nr (by kernel_rfl)
theorem fo_47_2 : fieldOff Tryd.prog 47 2 = some 2 := nr (by kernel_rfl)
theorem fo_47_3 : fieldOff Tryd.prog 47 3 = some 3 := nr (by kernel_rfl)
theorem fo_47_4 : fieldOff Tryd.prog 47 4 = some 4 := nr (by kernel_rfl)
theorem fo_47_5 : fieldOff Tryd.prog 47 5 = some 5 := nr (by kernel_rfl)
theorem fo_47_6 : fieldOff Tryd.prog 47 6 = some 6 := nr (by kernel_rfl)
theorem fo_47_7 : fieldOff Tryd.prog 47 7 = some 22 := nr (by kernel_rfl)
theorem if_50 : isIfaceT Tryd.prog 50 = true := nr (by kernel_rfl)
theorem kn_21 : knownT Tryd.prog 21 = true := nr (by kernel_rfl)
theorem kn_9 : knownT Tryd.prog 9 = true := nr (by kernel_rfl)
theorem ld_21 (w : World) (b o : Nat) : loadOf Tryd.prog 21 w ⟨b,o,none⟩ = (blk w b).bind fun x => x.1[o]? := loadOf_one (by kernel_rfl) w b o
theorem ld_41 (w : World) (b o : Nat) : loadOf Tryd.prog 41 w ⟨b,o,none⟩ = (blk w b).bind fun x => x.1[o]? := loadOf_one (by kernel_rfl) w b o
theorem ld_47 (w : World) (b o : Nat) : loadOf Tryd.prog 47 w ⟨b,o,none⟩ = (blk w b).bind fun x => cellsAt x.1 o 23 := loadOf_agg (by kernel_rfl) w b o
theorem ld_9 (w : World) (b o : Nat) : loadOf Tryd.prog 9 w ⟨b,o,none⟩ = (blk w b).bind fun x => x.1[o]? := loadOf_one (by kernel_rfl) w b o
theorem pl_26 : placesOf Tryd.prog 26 = some [(0,1),(1,1),(2,1),(3,1),(4,1)] := nr (by kernel_rfl)
theorem pl_32 : placesOf Tryd.prog 32 = some [(0,1),(1,1)] := nr (by kernel_rfl)
theorem pl_56 : placesOf Tryd.prog 56 = some [(0,1),(1,1),(2,1),(3,1),(4,1),(5,1),(6,1),(7,1)] := nr (by kernel_rfl)
theorem pl_61 : placesOf Tryd.prog 61 = some [(0,1),(1,1)] := nr (by kernel_rfl)
theorem pl_68 : placesOf Tryd.prog 68 = some [(0,1),(1,1)] := nr (by kernel_rfl)
theorem se_24 : slElem Tryd.prog 24 = some (61,2) := nr (by kernel_rfl)
theorem se_30 : slElem Tryd.prog 30 = some (56,8) := nr (by kernel_rfl)
theorem sz_2 (w : World) (b o : Nat) (v : Value) : storeOf Tryd.prog 2 w ⟨b,o,none⟩ v = (blk w b).bind fun x => stO w b o v x 1 := storeOf_n (by kernel_rfl) w b o v
theorem sz_21 (w : World) (b o : Nat) (v : Value) : storeOf Tryd.prog 21 w ⟨b,o,none⟩ v = (blk w b).bind fun x => stO w b o v x 1 := storeOf_n (by kernel_rfl) w b o v
theorem sz_24 (w : World) (b o : Nat) (v : Value) : storeOf Tryd.prog 24 w ⟨b,o,none⟩ v = (blk w b).bind fun x => stO w b o v x 1 := storeOf_n (by kernel_rfl) w b o v
theorem sz_32 (w : World) (b o : Nat) (v : Value) : storeOf Tryd.prog 32 w ⟨b,o,none⟩ v = (blk w b).bind fun x => stO w b o v x 2 := storeOf_n (by kernel_rfl) w b o v
theorem sz_41 (w : World) (b o : Nat) (v : Value) : storeOf Tryd.prog 41 w ⟨b,o,none⟩ v = (blk w b).bind fun x => stO w b o v x 1 := storeOf_n (by kernel_rfl) w b o v
theorem sz_47 (w : World) (b o : Nat) (v : Value) : storeOf Tryd.prog 47 w ⟨b,o,none⟩ v = (blk w b).bind fun x => stO w b o v x 23 := storeOf_n (by kernel_rfl) w b o v
theorem sz_68 (w : World) (b o : Nat) (v : Value) : storeOf Tryd.prog 68 w ⟨b,o,none⟩ v = (blk w b).bind fun x => stO w b o v x 2 := storeOf_n (by kernel_rfl) w b o v
theorem sz_9 (w : World) (b o : Nat) (v : Value) : storeOf Tryd.prog 9 w ⟨b,o,none⟩ v = (blk w b).bind fun x => stO w b o v x 1 := storeOf_n (by kernel_rfl) w b o v
theorem z_32 : zeroOf Tryd.prog 32 = some #[.slice none 0 0,.int .i64 0] := nr (by kernel_rfl)
theorem z_47 : zeroOf Tryd.prog 47 = some #[.int .i16 0,.int .i64 0,.int .i32 0,.string ByteArray.empty,.int .i64 0,.int .i64 0,.int .u8 0,.int .u8 0,.int .u8 0,.int .u8 0,.int .u8 0,.int .u8 0,.int .u8 0,.int .u8 0,.int .u8 0,.int .u8 0,.int .u8 0,.int .u8 0,.int .u8 0,.int .u8 0,.int .u8 0,.int .u8 0,.map none] := nr (by kernel_rfl)
theorem z_68 : zeroOf Tryd.prog 68 = some #[.slice none 0 0,.bool false] := nr (by kernel_rfl)
attribute [go_sem] ca_10 ca_11 ca_12 ca_15 ca_17 ca_18 ca_19 ca_20 ca_21 ca_24 ca_25 ca_26 ca_27 ca_28 ca_29 ca_31 ca_33 ca_34 ca_4 ca_5 ca_6 ca_7 fo_47_0 fo_47_1 fo_47_2 fo_47_3 fo_47_4 fo_47_5 fo_47_6 fo_47_7 if_50 kn_21 kn_9 ld_21 ld_41 ld_47 ld_9 pl_26 pl_32 pl_56 pl_61 pl_68 se_24 se_30 sz_2 sz_21 sz_24 sz_32 sz_41 sz_47 sz_68 sz_9 z_32 z_47 z_68
end Ms

namespace Ms
open Go.World renaming size_alloc → qI
open Ms renaming size_wr → qJ,size_drew → qK,not_noB → qL
open W renaming seqR → qA,seq → qB,regR → qC,condK → qD,block → qE,skip → qF,ret → qG,exit → qH
open Nat renaming reduceEqDiff → n0,reduceAdd → n1,reduceMul → n2,reduceSub → n3,reduceLT → n4,reduceLeDiff → n5
open Int renaming reduceEq → i0,reduceLT → i1,reduceLE → i2,reduceNeg → i3,reduceAdd → i4,reduceSub → i5,reduceMul → i6,reduceToNat → i7
set_option maxRecDepth 8000
open Go Go.Proofs Go.Shelf
attribute [local congr] W_congr WPsq_congr WPp_congr optK_congr addrK_congr intK_congr boolK_congr sliceK_congr tupleK_congr funcK_congr Fn_congr rawK_congr takeK_congr stepK_congr convK_congr aggK_congr

def fOffsetCommitValue_0 : Fld := .mk 4 0 (-1) (-1) (-1) 0 0 []
def fOffsetCommitValue_1 : Fld := .mk 3 3 (-1) (-1) (-1) 0 0 []
def fOffsetCommitValue_2 : Fld := .mk 8 0 (-1) (-1) (-1) 0 0 []
def fOffsetCommitValue_3 : Fld := .mk 4 0 (-1) (-1) (-1) 0 0 []
def fOffsetCommitValue_4 : Fld := .mk 4 1 1 (-1) (-1) 0 0 []
def fOffsetCommitValue_5 : Fld := .mk 7 0 (-1) (-1) 0 0 0 []
def fs_OffsetCommitValue : List Fld := [fOffsetCommitValue_0,fOffsetCommitValue_1,fOffsetCommitValue_2,fOffsetCommitValue_3,fOffsetCommitValue_4,fOffsetCommitValue_5]

set_option maxHeartbeats 4000000 in
theorem cOffsetCommitValue_fn (w : World) : Fn Tryd.prog 6 #[] w fun r w' => (∃ vs,r = .agg #[vs,.int .i64 4] ∧ FldsV (fun b => w.heap.size ≤ b) w' vs fs_OffsetCommitValue) ∧ Ext w w' := by
  refine fn_of_W Tryd.func6 rfl Tryd.results6 Tryd.ntmps6 rfl ?_
  repeat ((first | refine qA rfl ?_|refine qB ?_|refine qC rfl ?_|refine qD ?_|refine qE ?_|refine qF ?_|refine qG ?_|refine qH ?_);try simp (maxSteps:=1000000)(disch:=(first|omega|(simp only [qI,qJ,qK]<;>omega)|exact qL _)) only [go_sem,↓reduceIte,n0,reduceCtorEq,n1,n2,n3,n4,n5,i0,i1,i2,i3,i4,i5,i6,i7,fill_fld,fillN_nil,fillN_int,fillN_slice])
  have hz0 : (w.alloc (.cells #[.slice none 0 0,.int .i64 0] 32)).heap.size = w.heap.size + 1 := World.size_alloc _ _
  repeat ((first | refine qA rfl ?_|refine qB ?_|refine qC rfl ?_|refine qD ?_|refine qE ?_|refine qF ?_|refine qG ?_|refine qH ?_);try simp (maxSteps:=1000000)(disch:=(first|omega|(simp only [qI,qJ,qK]<;>omega)|exact qL _)) only [go_sem,↓reduceIte,n0,reduceCtorEq,n1,n2,n3,n4,n5,i0,i1,i2,i3,i4,i5,i6,i7,fill_fld,fillN_nil,fillN_int,fillN_slice])
  exact ⟨⟨_,rfl,FldsV.litO (fs := fs_OffsetCommitValue) (css := [[.int .i64 4,.int .i64 0,.int .i64 (-1),.int .i64 (-1),.int .i64 (-1),.int .i64 0,.int .i64 0,.slice none 0 0],[.int .i64 3,.int .i64 3,.int .i64 (-1),.int .i64 (-1),.int .i64 (-1),.int .i64 0,.int .i64 0,.slice none 0 0],[.int .i64 8,.int .i64 0,.int .i64 (-1),.int .i64 (-1),.int .i64 (-1),.int .i64 0,.int .i64 0,.slice none 0 0],[.int .i64 4,.int .i64 0,.int .i64 (-1),.int .i64 (-1),.int .i64 (-1),.int .i64 0,.int .i64 0,.slice none 0 0],[.int .i64 4,.int .i64 1,.int .i64 1,.int .i64 (-1),.int .i64 (-1),.int .i64 0,.int .i64 0,.slice none 0 0],[.int .i64 7,.int .i64 0,.int .i64 (-1),.int .i64 (-1),.int .i64 0,.int .i64 0,.int .i64 0,.slice none 0 0]]) (T := 56) (fr := (0,0)) (by first | omega | (simp only [World.size_alloc];omega)) (by first | (simp (maxSteps:=1000000)(disch:=(first|omega|(simp only [qI,qJ,qK]<;>omega)|exact qL _)) only [go_sem,↓reduceIte,n0,reduceCtorEq,n1,n2,n3,n4,n5,i0,i1,i2,i3,i4,i5,i6,i7];rfl) | rfl) (by simp) (All2.cons (FldC.intro (kind := 4) (FldsV.none _ _)) (All2.cons (FldC.intro (kind := 3) (FldsV.none _ _)) (All2.cons (FldC.intro (kind := 8) (FldsV.none _ _)) (All2.cons (FldC.intro (kind := 4) (FldsV.none _ _)) (All2.cons (FldC.intro (kind := 4) (FldsV.none _ _)) (All2.cons (FldC.intro (kind := 7) (FldsV.none _ _)) All2.nil))))))⟩,(Upd.wr (Upd.alloc (Upd.alloc (Upd.refl _ _) _) _) _ _ (.inl (Nat.le_refl _)))⟩

theorem DefaultOffsetCommitValue_fn (w : World) {vb : Nat} {c0 c1 c2 c3 c4 c5 c6 c7 c8 c9 c10 c11 c12 c13 c14 c15 c16 c17 c18 c19 c20 c21 c22 : Value} (hb : blk w vb = some (#[c0,c1,c2,c3,c4,c5,c6,c7,c8,c9,c10,c11,c12,c13,c14,c15,c16,c17,c18,c19,c20,c21,c22],47,(0,0))) :
    Fn Tryd.prog 17 #[.pointer (some ⟨vb,0,none⟩)] w fun _ w' => blk w' vb = some (#[c0,c1,c2,c3,c4,c5,c6,c7,c8,c9,c10,c11,c12,c13,c14,c15,c16,c17,c18,c19,c20,c21,c22],47,(0,0)) ∧ Upd (fun b => b = vb) w w' := by
  have hvl := blk_lt hb
  refine fn_of_W Tryd.func17 rfl Tryd.results17 Tryd.ntmps17 rfl ?_
  repeat ((first | refine qA rfl ?_|refine qB ?_|refine qC rfl ?_|refine qD ?_|refine qE ?_|refine qF ?_|refine qG ?_|refine qH ?_);try simp (maxSteps:=1000000)(disch:=(first|omega|(simp only [qI,qJ,qK]<;>omega)|exact qL _)) only [go_sem,↓reduceIte,n0,reduceCtorEq,n1,n2,n3,n4,n5,i0,i1,i2,i3,i4,i5,i6,i7,hb])
  first | exact Upd.refl _ _ | exact ⟨hb,Upd.refl _ _⟩

theorem NewOffsetCommitValue_fn (w : World) : Fn Tryd.prog 10 #[] w fun r w' => r = .agg #[.int .i16 0,.int .i64 0,.int .i32 0,.string ByteArray.empty,.int .i64 0,.int .i64 0,.int .u8 0,.int .u8 0,.int .u8 0,.int .u8 0,.int .u8 0,.int .u8 0,.int .u8 0,.int .u8 0,.int .u8 0,.int .u8 0,.int .u8 0,.int .u8 0,.int .u8 0,.int .u8 0,.int .u8 0,.int .u8 0,.map none] ∧ Ext w w' := by
  have hcz : cellsAt #[.int .i16 0,.int .i64 0,.int .i32 0,.string ByteArray.empty,.int .i64 0,.int .i64 0,.int .u8 0,.int .u8 0,.int .u8 0,.int .u8 0,.int .u8 0,.int .u8 0,.int .u8 0,.int .u8 0,.int .u8 0,.int .u8 0,.int .u8 0,.int .u8 0,.int .u8 0,.int .u8 0,.int .u8 0,.int .u8 0,.map none] 0 23 = some (.agg #[.int .i16 0,.int .i64 0,.int .i32 0,.string ByteArray.empty,.int .i64 0,.int .i64 0,.int .u8 0,.int .u8 0,.int .u8 0,.int .u8 0,.int .u8 0,.int .u8 0,.int .u8 0,.int .u8 0,.int .u8 0,.int .u8 0,.int .u8 0,.int .u8 0,.int .u8 0,.int .u8 0,.int .u8 0,.int .u8 0,.map none]) := cellsAt_full rfl
  have hE : Ext w ((w.alloc (.cells #[.int .i16 0,.int .i64 0,.int .i32 0,.string ByteArray.empty,.int .i64 0,.int .i64 0,.int .u8 0,.int .u8 0,.int .u8 0,.int .u8 0,.int .u8 0,.int .u8 0,.int .u8 0,.int .u8 0,.int .u8 0,.int .u8 0,.int .u8 0,.int .u8 0,.int .u8 0,.int .u8 0,.int .u8 0,.int .u8 0,.map none] 47)).alloc (.cells #[.int .i16 0,.int .i64 0,.int .i32 0,.string ByteArray.empty,.int .i64 0,.int .i64 0,.int .u8 0,.int .u8 0,.int .u8 0,.int .u8 0,.int .u8 0,.int .u8 0,.int .u8 0,.int .u8 0,.int .u8 0,.int .u8 0,.int .u8 0,.int .u8 0,.int .u8 0,.int .u8 0,.int .u8 0,.int .u8 0,.map none] 47)) := Upd.alloc (Upd.alloc (Upd.refl _ _) _) _
  have hb0 : blk ((w.alloc (.cells #[.int .i16 0,.int .i64 0,.int .i32 0,.string ByteArray.empty,.int .i64 0,.int .i64 0,.int .u8 0,.int .u8 0,.int .u8 0,.int .u8 0,.int .u8 0,.int .u8 0,.int .u8 0,.int .u8 0,.int .u8 0,.int .u8 0,.int .u8 0,.int .u8 0,.int .u8 0,.int .u8 0,.int .u8 0,.int .u8 0,.map none] 47)).alloc (.cells #[.int .i16 0,.int .i64 0,.int .i32 0,.string ByteArray.empty,.int .i64 0,.int .i64 0,.int .u8 0,.int .u8 0,.int .u8 0,.int .u8 0,.int .u8 0,.int .u8 0,.int .u8 0,.int .u8 0,.int .u8 0,.int .u8 0,.int .u8 0,.int .u8 0,.int .u8 0,.int .u8 0,.int .u8 0,.int .u8 0,.map none] 47)) w.heap.size = some (#[.int .i16 0,.int .i64 0,.int .i32 0,.string ByteArray.empty,.int .i64 0,.int .i64 0,.int .u8 0,.int .u8 0,.int .u8 0,.int .u8 0,.int .u8 0,.int .u8 0,.int .u8 0,.int .u8 0,.int .u8 0,.int .u8 0,.int .u8 0,.int .u8 0,.int .u8 0,.int .u8 0,.int .u8 0,.int .u8 0,.map none],47,(0,0)) := by simp (maxSteps:=1000000)(disch:=(first|omega|(simp only [qI,qJ,qK]<;>omega)|exact qL _)) only [go_sem,↓reduceIte,n0,reduceCtorEq,n1,n2,n3,n4,n5,i0,i1,i2,i3,i4,i5,i6,i7]
  have hb1 : blk ((w.alloc (.cells #[.int .i16 0,.int .i64 0,.int .i32 0,.string ByteArray.empty,.int .i64 0,.int .i64 0,.int .u8 0,.int .u8 0,.int .u8 0,.int .u8 0,.int .u8 0,.int .u8 0,.int .u8 0,.int .u8 0,.int .u8 0,.int .u8 0,.int .u8 0,.int .u8 0,.int .u8 0,.int .u8 0,.int .u8 0,.int .u8 0,.map none] 47)).alloc (.cells #[.int .i16 0,.int .i64 0,.int .i32 0,.string ByteArray.empty,.int .i64 0,.int .i64 0,.int .u8 0,.int .u8 0,.int .u8 0,.int .u8 0,.int .u8 0,.int .u8 0,.int .u8 0,.int .u8 0,.int .u8 0,.int .u8 0,.int .u8 0,.int .u8 0,.int .u8 0,.int .u8 0,.int .u8 0,.int .u8 0,.map none] 47)) (w.heap.size + 1) = some (#[.int .i16 0,.int .i64 0,.int .i32 0,.string ByteArray.empty,.int .i64 0,.int .i64 0,.int .u8 0,.int .u8 0,.int .u8 0,.int .u8 0,.int .u8 0,.int .u8 0,.int .u8 0,.int .u8 0,.int .u8 0,.int .u8 0,.int .u8 0,.int .u8 0,.int .u8 0,.int .u8 0,.int .u8 0,.int .u8 0,.map none],47,(0,0)) := blk_alloc_new (by simp only [World.size_alloc])
  have hz1 : ((w.alloc (.cells #[.int .i16 0,.int .i64 0,.int .i32 0,.string ByteArray.empty,.int .i64 0,.int .i64 0,.int .u8 0,.int .u8 0,.int .u8 0,.int .u8 0,.int .u8 0,.int .u8 0,.int .u8 0,.int .u8 0,.int .u8 0,.int .u8 0,.int .u8 0,.int .u8 0,.int .u8 0,.int .u8 0,.int .u8 0,.int .u8 0,.map none] 47)).alloc (.cells #[.int .i16 0,.int .i64 0,.int .i32 0,.string ByteArray.empty,.int .i64 0,.int .i64 0,.int .u8 0,.int .u8 0,.int .u8 0,.int .u8 0,.int .u8 0,.int .u8 0,.int .u8 0,.int .u8 0,.int .u8 0,.int .u8 0,.int .u8 0,.int .u8 0,.int .u8 0,.int .u8 0,.int .u8 0,.int .u8 0,.map none] 47)).heap.size = w.heap.size + 2 := by simp only [World.size_alloc]
  refine fn_of_W Tryd.func10 rfl Tryd.results10 Tryd.ntmps10 rfl ?_
  repeat ((first | refine qA rfl ?_|refine qB ?_|refine qC rfl ?_|refine qD ?_|refine qE ?_|refine qF ?_|refine qG ?_|refine qH ?_);try simp (maxSteps:=1000000)(disch:=(first|omega|(simp only [qI,qJ,qK]<;>omega)|exact qL _)) only [go_sem,↓reduceIte,n0,reduceCtorEq,n1,n2,n3,n4,n5,i0,i1,i2,i3,i4,i5,i6,i7])
  generalize ((w.alloc (.cells #[.int .i16 0,.int .i64 0,.int .i32 0,.string ByteArray.empty,.int .i64 0,.int .i64 0,.int .u8 0,.int .u8 0,.int .u8 0,.int .u8 0,.int .u8 0,.int .u8 0,.int .u8 0,.int .u8 0,.int .u8 0,.int .u8 0,.int .u8 0,.int .u8 0,.int .u8 0,.int .u8 0,.int .u8 0,.int .u8 0,.map none] 47)).alloc (.cells #[.int .i16 0,.int .i64 0,.int .i32 0,.string ByteArray.empty,.int .i64 0,.int .i64 0,.int .u8 0,.int .u8 0,.int .u8 0,.int .u8 0,.int .u8 0,.int .u8 0,.int .u8 0,.int .u8 0,.int .u8 0,.int .u8 0,.int .u8 0,.int .u8 0,.int .u8 0,.int .u8 0,.int .u8 0,.int .u8 0,.map none] 47)) = w1 at *
  refine (DefaultOffsetCommitValue_fn w1 hb1).mono ?_
  rintro _ w2 ⟨hb2,hU2⟩
  have hz2 := hU2.size
  have hb02 := hU2.blk_some hb0 (by omega)
  have hE2 : Ext w w2 := hE.more hU2 fun b hb h => by omega
  repeat ((first | refine qA rfl ?_|refine qB ?_|refine qC rfl ?_|refine qD ?_|refine qE ?_|refine qF ?_|refine qG ?_|refine qH ?_);try simp (maxSteps:=1000000)(disch:=(first|omega|(simp only [qI,qJ,qK]<;>omega)|exact qL _)) only [go_sem,↓reduceIte,n0,reduceCtorEq,n1,n2,n3,n4,n5,i0,i1,i2,i3,i4,i5,i6,i7,hb2,hb02,hcz])
  first | exact hE2.wr _ _ (.inl (Nat.le_refl _)) | exact ⟨rfl,hE2.wr _ _ (.inl (Nat.le_refl _))⟩
end Ms

namespace Ms
open Nat renaming reduceEqDiff → n0,reduceAdd → n1,reduceMul → n2,reduceSub → n3,reduceLT → n4,reduceLeDiff → n5
open Int renaming reduceEq → i0,reduceLT → i1,reduceLE → i2,reduceNeg → i3,reduceAdd → i4,reduceSub → i5,reduceMul → i6,reduceToNat → i7
set_option maxRecDepth 8000
open Go Go.Proofs Go.Shelf
attribute [local congr] W_congr WPsq_congr WPp_congr optK_congr addrK_congr intK_congr boolK_congr sliceK_congr tupleK_congr funcK_congr Fn_congr rawK_congr takeK_congr stepK_congr convK_congr aggK_congr

end Ms

namespace Ms
open Go.World renaming size_alloc → qI
open Ms renaming size_wr → qJ,size_drew → qK,not_noB → qL
open W renaming seqR → qA,seq → qB,regR → qC,condK → qD,block → qE,skip → qF,ret → qG,exit → qH
open Nat renaming reduceEqDiff → n0,reduceAdd → n1,reduceMul → n2,reduceSub → n3,reduceLT → n4,reduceLeDiff → n5
open Int renaming reduceEq → i0,reduceLT → i1,reduceLE → i2,reduceNeg → i3,reduceAdd → i4,reduceSub → i5,reduceMul → i6,reduceToNat → i7
set_option maxRecDepth 8000
open Go Go.Proofs Go.Shelf
attribute [local congr] W_congr WPsq_congr WPp_congr optK_congr addrK_congr intK_congr boolK_congr sliceK_congr tupleK_congr funcK_congr Fn_congr rawK_congr takeK_congr stepK_congr convK_congr aggK_congr

set_option maxHeartbeats 24000000 in
theorem readOffsetCommitValue_0b {un : Bool} {d : Nat} {ok : Blocks} {ver : Int} {ev : Value} (hlo : 0 ≤ ver) (hhi : ver ≤ 0) (w : World) {vb : Nat} (src : Value) (s : List UInt8) (hvc : (rdInt .i16 2 (some s)).1 = ver ∨ ((rdInt .i16 2 (some s)).1 < 0 ∧ ver = 0)) (hv : blk w vb = some (#[.int .i16 0,.int .i64 0,.int .i32 0,.string ByteArray.empty,.int .i64 0,.int .i64 0,.int .u8 0,.int .u8 0,.int .u8 0,.int .u8 0,.int .u8 0,.int .u8 0,.int .u8 0,.int .u8 0,.int .u8 0,.int .u8 0,.int .u8 0,.int .u8 0,.int .u8 0,.int .u8 0,.int .u8 0,.int .u8 0,.map none],47,(0,0))) (hsrc : BytesV ok w src s) (hok0 : ∀ b,ok b → b < w.heap.size ∧ b ≠ vb) (hG : Glo ev w) (hgv : ¬ 0 = vb ∧ ¬ 1 = vb) (hev : ∃ T p,ev = .iface T p) :
    Fn Tryd.prog 18 #[.pointer (some ⟨vb,0,none⟩),src,.bool un] w (ReadQ 47 ok (rdInt .i16 2 (some s)).1 (d + 1) fs_OffsetCommitValue vb w (rdM d ver false fs_OffsetCommitValue (rdInt .i16 2 (some s)).2) ev) := by
  have hcs : ((un = true) = True ∧ (un = false) = False) ∨ ((un = true) = False ∧ (un = false) = True) := by cases un <;> simp
  rcases hcs with ⟨hun,hun'⟩ | ⟨hun,hun'⟩
  all_goals
    have hvl := blk_lt hv
    have hgs := hG.lt
    obtain ⟨sa,sc,rfl,_⟩ := hsrc.shape
    refine fn_of_W Tryd.func18 rfl Tryd.results18 Tryd.ntmps18 rfl ?_
    repeat ((first | refine qA rfl ?_|refine qB ?_|refine qC rfl ?_|refine qD ?_|refine qE ?_|refine qF ?_|refine qG ?_|refine qH ?_);try simp (maxSteps:=1000000)(disch:=(first|omega|(simp only [qI,qJ,qK]<;>omega)|exact qL _)) only [go_sem,↓reduceIte,n0,reduceCtorEq,n1,n2,n3,n4,n5,i0,i1,i2,i3,i4,i5,i6,i7,hv])
    refine (DefaultOffsetCommitValue_fn w hv).mono ?_
    rintro _ w0 ⟨hv0,hu0⟩
    have hz0 := hu0.size
    have hsrc0 : BytesV ok w0 (.slice sa s.length sc) s := hsrc.keep (hu0.keeps fun b _ hk e => (hok0 b hk).2 e)
    obtain ⟨rb,hrb⟩ : ∃ r,r = w0.heap.size := ⟨_,rfl⟩
    have hE1 : Ext w0 (wr (w0.alloc (.cells #[.slice none 0 0,.bool false] 68)) w0.heap.size 0 [.slice sa s.length sc,.bool false]) := (Upd.alloc (Upd.refl _ _) _).wr _ _ (.inl (Nat.le_refl _))
    have hz1 : (wr (w0.alloc (.cells #[.slice none 0 0,.bool false] 68)) w0.heap.size 0 [.slice sa s.length sc,.bool false]).heap.size = w0.heap.size + 1 := by rw [size_wr,World.size_alloc]
    have hR1 : Rdr RT ok (wr (w0.alloc (.cells #[.slice none 0 0,.bool false] 68)) w0.heap.size 0 [.slice sa s.length sc,.bool false]) w0.heap.size (some s) := Rdr.good (v := .slice sa s.length sc) (by simp (maxSteps:=1000000)(disch:=(first|omega|(simp only [qI,qJ,qK]<;>omega)|exact qL _)) only [go_sem,↓reduceIte,n0,reduceCtorEq,n1,n2,n3,n4,n5,i0,i1,i2,i3,i4,i5,i6,i7]) (hsrc0.keep (hE1.keeps _))
    have hv_1 := hE1.blk_some hv0 id
    repeat ((first | refine qA rfl ?_|refine qB ?_|refine qC rfl ?_|refine qD ?_|refine qE ?_|refine qF ?_|refine qG ?_|refine qH ?_);try simp (maxSteps:=1000000)(disch:=(first|omega|(simp only [qI,qJ,qK]<;>omega)|exact qL _)) only [go_sem,↓reduceIte,n0,reduceCtorEq,n1,n2,n3,n4,n5,i0,i1,i2,i3,i4,i5,i6,i7,hv0])
    generalize (wr (w0.alloc (.cells #[.slice none 0 0,.bool false] 68)) w0.heap.size 0 [.slice sa s.length sc,.bool false]) = w1 at *
    rw [← hrb] at hR1
    try rw [← hrb]
    have hok : ∀ b,ok b → b < w.heap.size ∧ b ≠ vb := hok0
    have hrok : ¬ ok rb := fun h => by have := (hok rb h).1;omega
    have hbase : Upd (fun b => b = vb) w w1 := hu0.trans (hE1.mono fun _ h => h.elim)
    have hG1 : Glo ev w1 := hG.updS hbase hgv.1 hgv.2
    have hgrb : ¬ 0 = rb := by omega
    have hgM1 : ¬ (0 = vb ∨ 0 = rb) := fun h => h.elim hgv.1 fun h => by omega
    have hgM2 : ¬ (1 = vb ∨ 1 = rb) := fun h => h.elim hgv.2 fun h => by omega
    obtain ⟨s0,hs0⟩ : ∃ s' : St,s' = some s := ⟨_,rfl⟩
    rw [← hs0] at hR1 hvc ⊢
    have hU1 : Upd (fun b => b = vb ∨ b = rb) w1 w1 := Upd.refl _ _
    have hoM : ∀ b,(ok b ∨ w1.heap.size ≤ b) → ¬ (b = vb ∨ b = rb) := fun b hk h => by
      rcases hk with hk | hk
      · have := hok b hk;rcases h with h | h <;> omega
      · rcases h with h | h <;> omega
    have hq1 : Rdr RT ok w1 rb s0 := hR1
    repeat ((first | refine qA rfl ?_|refine qB ?_|refine qC rfl ?_|refine qD ?_|refine qE ?_|refine qF ?_|refine qG ?_|refine qH ?_);try simp (maxSteps:=1000000)(disch:=(first|omega|(simp only [qI,qJ,qK]<;>omega)|exact qL _)) only [go_sem,↓reduceIte,n0,reduceCtorEq,n1,n2,n3,n4,n5,i0,i1,i2,i3,i4,i5,i6,i7,hv_1,hun,hun'])
    refine (Int16_fn w1 hq1 hrok hG1.1 hgrb).mono ?_
    rintro _ w2 ⟨rfl,hq2,hu2⟩
    have hv_2 := hu2.blk_some hv_1 (by omega)
    have hV2 : Upd (fun b => b = vb ∨ b = rb) w1 w2 := hu2.mono (fun _ h => .inr h)
    have hU2 : Upd (fun b => b = vb ∨ b = rb) w1 w2 := hU1.trans hV2
    have hz2 := hV2.size
    have hG2 : Glo ev w2 := hG1.updS hU2 hgM1 hgM2
    obtain ⟨s1,hs1⟩ : ∃ s,s = (rdInt .i16 2 s0).2 := ⟨_,rfl⟩
    obtain ⟨vc,hvcE⟩ : ∃ x,x = (rdInt .i16 2 s0).1 := ⟨_,rfl⟩
    rw [← hs1] at hq2
    rw [← hvcE] at hvc
    rw [← hvcE,← hs1]
    try simp (maxSteps:=1000000)(disch:=(first|omega|(simp only [qI,qJ,qK]<;>omega)|exact qL _)) only [go_sem,↓reduceIte,n0,reduceCtorEq,n1,n2,n3,n4,n5,i0,i1,i2,i3,i4,i5,i6,i7,hv_2,hun,hun']
    repeat ((first | refine qA rfl ?_|refine qB ?_|refine qC rfl ?_|refine qD ?_|refine qE ?_|refine qF ?_|refine qG ?_|refine qH ?_);try simp (maxSteps:=1000000)(disch:=(first|omega|(simp only [qI,qJ,qK]<;>omega)|exact qL _)) only [go_sem,↓reduceIte,n0,reduceCtorEq,n1,n2,n3,n4,n5,i0,i1,i2,i3,i4,i5,i6,i7,hv_2,hun,hun'])
    generalize hw3 : wr w2 vb 0 [.int .i16 vc] = w3
    have hS3 : Upd (fun b => b = vb ∨ b = rb) w2 w3 := by rw [← hw3];exact (Upd.refl _ _).wr _ _ (.inr (.inl rfl))
    have hv_3 : blk w3 vb = some (#[.int .i16 vc,.int .i64 0,.int .i32 0,.string ByteArray.empty,.int .i64 0,.int .i64 0,.int .u8 0,.int .u8 0,.int .u8 0,.int .u8 0,.int .u8 0,.int .u8 0,.int .u8 0,.int .u8 0,.int .u8 0,.int .u8 0,.int .u8 0,.int .u8 0,.int .u8 0,.int .u8 0,.int .u8 0,.int .u8 0,.map none],47,(0,0)) := by rw [← hw3,blk_wr_eq,hv_2];rfl
    have hV3 := hS3
    have hU3 : Upd (fun b => b = vb ∨ b = rb) w1 w3 := hU2.trans hV3
    have hz3 := hV3.size
    have hG3 : Glo ev w3 := hG1.updS hU3 hgM1 hgM2
    have hq3 := Rdr.stored hw3 hq2 (by omega) fun h => by have := (hok _ h).1;first | omega | exact (hok _ h).2 rfl
    clear hw3
    obtain ⟨FB,hFB⟩ : ∃ P : Prop,P = ((rdM d ver false fs_OffsetCommitValue s1).2 = none) := ⟨_,rfl⟩
    have hb_0 : (rdL (rdP d ver false) (dfP d) ver false [fOffsetCommitValue_0,fOffsetCommitValue_1,fOffsetCommitValue_2,fOffsetCommitValue_3,fOffsetCommitValue_4,fOffsetCommitValue_5] s1).2 = none → FB := fun h => Eq.mpr hFB (rdM_bad h)
    have hh_0 : hasS fOffsetCommitValue_0 ver = true := hasS_t (by show (0 : Int) ≤ ver;omega) (by show (-1 : Int) < 0 ∨ ver ≤ (-1 : Int);omega)
    obtain ⟨x_0,hx_0⟩ : ∃ x,x = (rdF (rdP d ver false) ver false fOffsetCommitValue_0 s1).1 := ⟨_,rfl⟩
    repeat ((first | refine qA rfl ?_|refine qB ?_|refine qC rfl ?_|refine qD ?_|refine qE ?_|refine qF ?_|refine qG ?_|refine qH ?_);try simp (maxSteps:=1000000)(disch:=(first|omega|(simp only [qI,qJ,qK]<;>omega)|exact qL _)) only [go_sem,↓reduceIte,n0,reduceCtorEq,n1,n2,n3,n4,n5,i0,i1,i2,i3,i4,i5,i6,i7,hv_3,hun,hun'])
    have hrd : rdF (rdP d ver false) ver false fOffsetCommitValue_0 s1 = _ := rdF_num 4 rfl (by decide)
    refine (Int64_fn w3 hq3.1 hrok hG3.1 hgrb).mono ?_
    rintro _ w4 ⟨rfl,hq4,hu4⟩
    have hv_4 := hu4.blk_some hv_3 (by omega)
    have hV4 : Upd (fun b => b = vb ∨ b = rb) w3 w4 := hu4.mono (fun _ h => .inr h)
    have hU4 : Upd (fun b => b = vb ∨ b = rb) w1 w4 := hU3.trans hV4
    have hz4 := hV4.size
    have hG4 : Glo ev w4 := hG1.updS hU4 hgM1 hgM2
    have hst : (rdF (rdP d ver false) ver false fOffsetCommitValue_0 s1).2 = (rdInt .i64 8 s1).2 := by first | (rw [hrd];rfl) | rw [hrd]
    obtain ⟨s2,hs2⟩ : ∃ s,s = (rdF (rdP d ver false) ver false fOffsetCommitValue_0 s1).2 := ⟨_,rfl⟩
    rw [← hst,← hs2] at hq4
    clear hst
    repeat ((first | refine qA rfl ?_|refine qB ?_|refine qC rfl ?_|refine qD ?_|refine qE ?_|refine qF ?_|refine qG ?_|refine qH ?_);try simp (maxSteps:=1000000)(disch:=(first|omega|(simp only [qI,qJ,qK]<;>omega)|exact qL _)) only [go_sem,↓reduceIte,n0,reduceCtorEq,n1,n2,n3,n4,n5,i0,i1,i2,i3,i4,i5,i6,i7,hv_4,hun,hun'])
    generalize hw5 : wr w4 vb 1 [.int .i64 (rdInt .i64 8 s1).1] = w5
    have hS5 : Upd (fun b => b = vb ∨ b = rb) w4 w5 := by rw [← hw5];exact (Upd.refl _ _).wr _ _ (.inr (.inl rfl))
    have hv_5 : blk w5 vb = some (#[.int .i16 vc,.int .i64 (rdInt .i64 8 s1).1,.int .i32 0,.string ByteArray.empty,.int .i64 0,.int .i64 0,.int .u8 0,.int .u8 0,.int .u8 0,.int .u8 0,.int .u8 0,.int .u8 0,.int .u8 0,.int .u8 0,.int .u8 0,.int .u8 0,.int .u8 0,.int .u8 0,.int .u8 0,.int .u8 0,.int .u8 0,.int .u8 0,.map none],47,(0,0)) := by rw [← hw5,blk_wr_eq,hv_4];rfl
    have hV5 := hS5
    have hU5 : Upd (fun b => b = vb ∨ b = rb) w1 w5 := hU4.trans hV5
    have hz5 := hV5.size
    have hG5 : Glo ev w5 := hG1.updS hU5 hgM1 hgM2
    have hq5 := Rdr.stored hw5 hq4 (by omega) fun h => by have := (hok _ h).1;first | omega | exact (hok _ h).2 rfl
    clear hw5
    have hf_0 : RepF (RepS true d) (szS true d) fOffsetCommitValue_0 (fun b => ok b ∨ w1.heap.size ≤ b) w5 (x_0) [.int .i64 (rdInt .i64 8 s1).1] := (RepF_num (by decide)).2 (by rw [hx_0,hrd];exact congrArg (fun x => [x]) (numC_rd 4 (by decide) 8 s1).symm)
    clear hrd
    have hb_1 : (rdL (rdP d ver false) (dfP d) ver false [fOffsetCommitValue_1,fOffsetCommitValue_2,fOffsetCommitValue_3,fOffsetCommitValue_4,fOffsetCommitValue_5] s2).2 = none → FB := fun h => hb_0 (by rw [rdL_st (by decide) hh_0,← hs2];exact h)
    obtain ⟨x_1,hx_1⟩ : ∃ x,x = dfF (dfP d) fOffsetCommitValue_1 := ⟨_,rfl⟩
    have hf_1 : RepF (RepS true d) (szS true d) fOffsetCommitValue_1 (fun b => ok b ∨ w1.heap.size ≤ b) w5 (x_1) [.int .i32 0] := by rw [hx_1];exact (RepF_num (by decide)).2 rfl
    have hh_1 : hasS fOffsetCommitValue_1 ver = false := hasS_f (by show ver < 3 ∨ (0 ≤ (-1 : Int) ∧ (-1 : Int) < ver);omega)
    have hb_2 : (rdL (rdP d ver false) (dfP d) ver false [fOffsetCommitValue_2,fOffsetCommitValue_3,fOffsetCommitValue_4,fOffsetCommitValue_5] s2).2 = none → FB := fun h => hb_1 (by rw [rdL_no hh_1];exact h)
    have hh_2 : hasS fOffsetCommitValue_2 ver = true := hasS_t (by show (0 : Int) ≤ ver;omega) (by show (-1 : Int) < 0 ∨ ver ≤ (-1 : Int);omega)
    obtain ⟨x_2,hx_2⟩ : ∃ x,x = (rdF (rdP d ver false) ver false fOffsetCommitValue_2 s2).1 := ⟨_,rfl⟩
    repeat ((first | refine qA rfl ?_|refine qB ?_|refine qC rfl ?_|refine qD ?_|refine qE ?_|refine qF ?_|refine qG ?_|refine qH ?_);try simp (maxSteps:=1000000)(disch:=(first|omega|(simp only [qI,qJ,qK]<;>omega)|exact qL _)) only [go_sem,↓reduceIte,n0,reduceCtorEq,n1,n2,n3,n4,n5,i0,i1,i2,i3,i4,i5,i6,i7,hv_5,hun,hun'])
    have hmay : mayS fOffsetCommitValue_2 ver = false := mayS_no (by show (-1 : Int) < 0 ∨ ver < (-1 : Int);omega)
    have hrd : rdF (rdP d ver false) ver false fOffsetCommitValue_2 s2 = _ := rdF_text rfl hmay
    first | refine (RUnsafeString_fn w5 hq5.1 hrok hG5.1 hgrb).mono ?_ | refine (RString_fn w5 hq5.1 hrok hG5.1 hgrb).mono ?_
    rintro _ w6 ⟨rfl,hq6,hu6⟩
    have hv_6 := hu6.blk_some hv_5 (by omega)
    have hV6 : Upd (fun b => b = vb ∨ b = rb) w5 w6 := hu6.mono (fun _ h => .inr h)
    have hU6 : Upd (fun b => b = vb ∨ b = rb) w1 w6 := hU5.trans hV6
    have hz6 := hV6.size
    have hG6 : Glo ev w6 := hG1.updS hU6 hgM1 hgM2
    have hst : (rdF (rdP d ver false) ver false fOffsetCommitValue_2 s2).2 = (rdStr false s2).2 := by first | (rw [hrd];rfl) | rw [hrd]
    obtain ⟨s3,hs3⟩ : ∃ s,s = (rdF (rdP d ver false) ver false fOffsetCommitValue_2 s2).2 := ⟨_,rfl⟩
    rw [← hst,← hs3] at hq6
    clear hst
    repeat ((first | refine qA rfl ?_|refine qB ?_|refine qC rfl ?_|refine qD ?_|refine qE ?_|refine qF ?_|refine qG ?_|refine qH ?_);try simp (maxSteps:=1000000)(disch:=(first|omega|(simp only [qI,qJ,qK]<;>omega)|exact qL _)) only [go_sem,↓reduceIte,n0,reduceCtorEq,n1,n2,n3,n4,n5,i0,i1,i2,i3,i4,i5,i6,i7,hv_6,hun,hun'])
    generalize hw7 : wr w6 vb 3 [strV (rdStr false s2).1] = w7
    have hS7 : Upd (fun b => b = vb ∨ b = rb) w6 w7 := by rw [← hw7];exact (Upd.refl _ _).wr _ _ (.inr (.inl rfl))
    have hv_7 : blk w7 vb = some (#[.int .i16 vc,.int .i64 (rdInt .i64 8 s1).1,.int .i32 0,strV (rdStr false s2).1,.int .i64 0,.int .i64 0,.int .u8 0,.int .u8 0,.int .u8 0,.int .u8 0,.int .u8 0,.int .u8 0,.int .u8 0,.int .u8 0,.int .u8 0,.int .u8 0,.int .u8 0,.int .u8 0,.int .u8 0,.int .u8 0,.int .u8 0,.int .u8 0,.map none],47,(0,0)) := by rw [← hw7,blk_wr_eq,hv_6];rfl
    have hV7 := hS7
    have hU7 : Upd (fun b => b = vb ∨ b = rb) w1 w7 := hU6.trans hV7
    have hz7 := hV7.size
    have hG7 : Glo ev w7 := hG1.updS hU7 hgM1 hgM2
    have hq7 := Rdr.stored hw7 hq6 (by omega) fun h => by have := (hok _ h).1;first | omega | exact (hok _ h).2 rfl
    clear hw7
    have hf_2 : RepF (RepS true d) (szS true d) fOffsetCommitValue_2 (fun b => ok b ∨ w1.heap.size ≤ b) w7 (x_2) [strV (rdStr false s2).1] := (RepF_text rfl (by decide)).2 (by rw [hx_2,hrd];rfl)
    clear hrd
    have hb_3 : (rdL (rdP d ver false) (dfP d) ver false [fOffsetCommitValue_3,fOffsetCommitValue_4,fOffsetCommitValue_5] s3).2 = none → FB := fun h => hb_2 (by rw [rdL_st (by decide) hh_2,← hs3];exact h)
    have hh_3 : hasS fOffsetCommitValue_3 ver = true := hasS_t (by show (0 : Int) ≤ ver;omega) (by show (-1 : Int) < 0 ∨ ver ≤ (-1 : Int);omega)
    obtain ⟨x_3,hx_3⟩ : ∃ x,x = (rdF (rdP d ver false) ver false fOffsetCommitValue_3 s3).1 := ⟨_,rfl⟩
    repeat ((first | refine qA rfl ?_|refine qB ?_|refine qC rfl ?_|refine qD ?_|refine qE ?_|refine qF ?_|refine qG ?_|refine qH ?_);try simp (maxSteps:=1000000)(disch:=(first|omega|(simp only [qI,qJ,qK]<;>omega)|exact qL _)) only [go_sem,↓reduceIte,n0,reduceCtorEq,n1,n2,n3,n4,n5,i0,i1,i2,i3,i4,i5,i6,i7,hv_7,hun,hun'])
    have hrd : rdF (rdP d ver false) ver false fOffsetCommitValue_3 s3 = _ := rdF_num 4 rfl (by decide)
    refine (Int64_fn w7 hq7.1 hrok hG7.1 hgrb).mono ?_
    rintro _ w8 ⟨rfl,hq8,hu8⟩
    have hv_8 := hu8.blk_some hv_7 (by omega)
    have hV8 : Upd (fun b => b = vb ∨ b = rb) w7 w8 := hu8.mono (fun _ h => .inr h)
    have hU8 : Upd (fun b => b = vb ∨ b = rb) w1 w8 := hU7.trans hV8
    have hz8 := hV8.size
    have hG8 : Glo ev w8 := hG1.updS hU8 hgM1 hgM2
    have hst : (rdF (rdP d ver false) ver false fOffsetCommitValue_3 s3).2 = (rdInt .i64 8 s3).2 := by first | (rw [hrd];rfl) | rw [hrd]
    obtain ⟨s4,hs4⟩ : ∃ s,s = (rdF (rdP d ver false) ver false fOffsetCommitValue_3 s3).2 := ⟨_,rfl⟩
    rw [← hst,← hs4] at hq8
    clear hst
    repeat ((first | refine qA rfl ?_|refine qB ?_|refine qC rfl ?_|refine qD ?_|refine qE ?_|refine qF ?_|refine qG ?_|refine qH ?_);try simp (maxSteps:=1000000)(disch:=(first|omega|(simp only [qI,qJ,qK]<;>omega)|exact qL _)) only [go_sem,↓reduceIte,n0,reduceCtorEq,n1,n2,n3,n4,n5,i0,i1,i2,i3,i4,i5,i6,i7,hv_8,hun,hun'])
    generalize hw9 : wr w8 vb 4 [.int .i64 (rdInt .i64 8 s3).1] = w9
    have hS9 : Upd (fun b => b = vb ∨ b = rb) w8 w9 := by rw [← hw9];exact (Upd.refl _ _).wr _ _ (.inr (.inl rfl))
    have hv_9 : blk w9 vb = some (#[.int .i16 vc,.int .i64 (rdInt .i64 8 s1).1,.int .i32 0,strV (rdStr false s2).1,.int .i64 (rdInt .i64 8 s3).1,.int .i64 0,.int .u8 0,.int .u8 0,.int .u8 0,.int .u8 0,.int .u8 0,.int .u8 0,.int .u8 0,.int .u8 0,.int .u8 0,.int .u8 0,.int .u8 0,.int .u8 0,.int .u8 0,.int .u8 0,.int .u8 0,.int .u8 0,.map none],47,(0,0)) := by rw [← hw9,blk_wr_eq,hv_8];rfl
    have hV9 := hS9
    have hU9 : Upd (fun b => b = vb ∨ b = rb) w1 w9 := hU8.trans hV9
    have hz9 := hV9.size
    have hG9 : Glo ev w9 := hG1.updS hU9 hgM1 hgM2
    have hq9 := Rdr.stored hw9 hq8 (by omega) fun h => by have := (hok _ h).1;first | omega | exact (hok _ h).2 rfl
    clear hw9
    have hf_3 : RepF (RepS true d) (szS true d) fOffsetCommitValue_3 (fun b => ok b ∨ w1.heap.size ≤ b) w9 (x_3) [.int .i64 (rdInt .i64 8 s3).1] := (RepF_num (by decide)).2 (by rw [hx_3,hrd];exact congrArg (fun x => [x]) (numC_rd 4 (by decide) 8 s3).symm)
    clear hrd
    have hb_4 : (rdL (rdP d ver false) (dfP d) ver false [fOffsetCommitValue_4,fOffsetCommitValue_5] s4).2 = none → FB := fun h => hb_3 (by rw [rdL_st (by decide) hh_3,← hs4];exact h)
    obtain ⟨x_4,hx_4⟩ : ∃ x,x = dfF (dfP d) fOffsetCommitValue_4 := ⟨_,rfl⟩
    have hf_4 : RepF (RepS true d) (szS true d) fOffsetCommitValue_4 (fun b => ok b ∨ w1.heap.size ≤ b) w9 (x_4) [.int .i64 0] := by rw [hx_4];exact (RepF_num (by decide)).2 rfl
    have hh_4 : hasS fOffsetCommitValue_4 ver = false := hasS_f (by show ver < 1 ∨ (0 ≤ (1 : Int) ∧ (1 : Int) < ver);omega)
    have hb_5 : (rdL (rdP d ver false) (dfP d) ver false [fOffsetCommitValue_5] s4).2 = none → FB := fun h => hb_4 (by rw [rdL_no hh_4];exact h)
    obtain ⟨x_5,hx_5⟩ : ∃ x,x = dfF (dfP d) fOffsetCommitValue_5 := ⟨_,rfl⟩
    have hf_5 : RepF (RepS true d) (szS true d) fOffsetCommitValue_5 (fun b => ok b ∨ w1.heap.size ≤ b) w9 (x_5) [.int .u8 0,.int .u8 0,.int .u8 0,.int .u8 0,.int .u8 0,.int .u8 0,.int .u8 0,.int .u8 0,.int .u8 0,.int .u8 0,.int .u8 0,.int .u8 0,.int .u8 0,.int .u8 0,.int .u8 0,.int .u8 0] := by rw [hx_5];exact (RepF_uuid rfl).2 rfl
    have hl_6 : rdL (rdP d ver false) (dfP d) ver false [] s4 = ([],s4) := rfl
    have hl_5 : rdL (rdP d ver false) (dfP d) ver false [fOffsetCommitValue_5] s4 = ([x_5],s4) := by rw [rdL_tg (by decide),← hx_5,hl_6]
    have hl_4 : rdL (rdP d ver false) (dfP d) ver false [fOffsetCommitValue_4,fOffsetCommitValue_5] s4 = ([x_4,x_5],s4) := by rw [rdL_no hh_4,← hx_4,hl_5]
    have hl_3 : rdL (rdP d ver false) (dfP d) ver false [fOffsetCommitValue_3,fOffsetCommitValue_4,fOffsetCommitValue_5] s3 = ([x_3,x_4,x_5],s4) := by rw [rdL_st (by decide) hh_3,← hx_3,← hs4,hl_4]
    have hl_2 : rdL (rdP d ver false) (dfP d) ver false [fOffsetCommitValue_2,fOffsetCommitValue_3,fOffsetCommitValue_4,fOffsetCommitValue_5] s2 = ([x_2,x_3,x_4,x_5],s4) := by rw [rdL_st (by decide) hh_2,← hx_2,← hs3,hl_3]
    have hl_1 : rdL (rdP d ver false) (dfP d) ver false [fOffsetCommitValue_1,fOffsetCommitValue_2,fOffsetCommitValue_3,fOffsetCommitValue_4,fOffsetCommitValue_5] s2 = ([x_1,x_2,x_3,x_4,x_5],s4) := by rw [rdL_no hh_1,← hx_1,hl_2]
    have hl_0 : rdL (rdP d ver false) (dfP d) ver false [fOffsetCommitValue_0,fOffsetCommitValue_1,fOffsetCommitValue_2,fOffsetCommitValue_3,fOffsetCommitValue_4,fOffsetCommitValue_5] s1 = ([x_0,x_1,x_2,x_3,x_4,x_5],s4) := by rw [rdL_st (by decide) hh_0,← hx_0,← hs2,hl_1]
    have hfin : rdM d ver false fs_OffsetCommitValue s1 = (.mk 0 [] false [x_0,x_1,x_2,x_3,x_4,x_5] [],s4) := rdM_f.trans (rdP_f hl_0)
    have hTg : TagsM (fun b => ok b ∨ w1.heap.size ≤ b) w9 (.map none) [] := .inl ⟨rfl,rfl⟩
    have hC_9 : Upd (fun b => b = vb ∨ b = rb) w9 w9 := Upd.refl _ _
    have hC_8 : Upd (fun b => b = vb ∨ b = rb) w8 w9 := hV9.trans hC_9
    have hC_7 : Upd (fun b => b = vb ∨ b = rb) w7 w9 := hV8.trans hC_8
    have hC_6 : Upd (fun b => b = vb ∨ b = rb) w6 w9 := hV7.trans hC_7
    have hC_5 : Upd (fun b => b = vb ∨ b = rb) w5 w9 := hV6.trans hC_6
    have hC_4 : Upd (fun b => b = vb ∨ b = rb) w4 w9 := hV5.trans hC_5
    have hC_3 : Upd (fun b => b = vb ∨ b = rb) w3 w9 := hV4.trans hC_4
    have hC_2 : Upd (fun b => b = vb ∨ b = rb) w2 w9 := hV3.trans hC_3
    have hC_1 : Upd (fun b => b = vb ∨ b = rb) w1 w9 := hV2.trans hC_2
    have hR : RepS true (d + 1) fs_OffsetCommitValue (fun b => ok b ∨ w1.heap.size ≤ b) w9 (.mk 0 [] false [x_0,x_1,x_2,x_3,x_4,x_5] []) [.int .i64 (rdInt .i64 8 s1).1,.int .i32 0,strV (rdStr false s2).1,.int .i64 (rdInt .i64 8 s3).1,.int .i64 0,.int .u8 0,.int .u8 0,.int .u8 0,.int .u8 0,.int .u8 0,.int .u8 0,.int .u8 0,.int .u8 0,.int .u8 0,.int .u8 0,.int .u8 0,.int .u8 0,.int .u8 0,.int .u8 0,.int .u8 0,.int .u8 0,.map none] := RepS.introT (c := [.int .i64 (rdInt .i64 8 s1).1,.int .i32 0,strV (rdStr false s2).1,.int .i64 (rdInt .i64 8 s3).1,.int .i64 0,.int .u8 0,.int .u8 0,.int .u8 0,.int .u8 0,.int .u8 0,.int .u8 0,.int .u8 0,.int .u8 0,.int .u8 0,.int .u8 0,.int .u8 0,.int .u8 0,.int .u8 0,.int .u8 0,.int .u8 0,.int .u8 0]) (RepL.cons1 (hf_0.keepS (hC_5.keeps fun b _ hk e => (hoM b hk) e)) (RepL.cons1 (hf_1.keepS (hC_5.keeps fun b _ hk e => (hoM b hk) e)) (RepL.cons1 (hf_2.keepS (hC_7.keeps fun b _ hk e => (hoM b hk) e)) (RepL.cons1 (hf_3.keepS (hC_9.keeps fun b _ hk e => (hoM b hk) e)) (RepL.cons1 (hf_4.keepS (hC_9.keeps fun b _ hk e => (hoM b hk) e)) (RepL.cons16 (hf_5.keepS (hC_9.keeps fun b _ hk e => (hoM b hk) e)) RepL.nil)))))) hTg
    repeat ((first | refine qA rfl ?_|refine qB ?_|refine qC rfl ?_|refine qD ?_|refine qE ?_|refine qF ?_|refine qG ?_|refine qH ?_);try simp (maxSteps:=1000000)(disch:=(first|omega|(simp only [qI,qJ,qK]<;>omega)|exact qL _)) only [go_sem,↓reduceIte,n0,reduceCtorEq,n1,n2,n3,n4,n5,i0,i1,i2,i3,i4,i5,i6,i7,hv_9,hun,hun'])
    refine (RComplete_fn w9 hq9.1 hG9.2).mono ?_
    rintro _ wz ⟨rfl,hez⟩
    rw [hez]
    repeat ((first | refine qA rfl ?_|refine qB ?_|refine qC rfl ?_|refine qD ?_|refine qE ?_|refine qF ?_|refine qG ?_|refine qH ?_);try simp (maxSteps:=1000000)(disch:=(first|omega|(simp only [qI,qJ,qK]<;>omega)|exact qL _)) only [go_sem,↓reduceIte,n0,reduceCtorEq,n1,n2,n3,n4,n5,i0,i1,i2,i3,i4,i5,i6,i7,hv_9,hun,hun'])
    rw [hfin]
    refine ⟨fun h => ?_,fun h => ⟨?_,[.int .i64 (rdInt .i64 8 s1).1,.int .i32 0,strV (rdStr false s2).1,.int .i64 (rdInt .i64 8 s3).1,.int .i64 0,.int .u8 0,.int .u8 0,.int .u8 0,.int .u8 0,.int .u8 0,.int .u8 0,.int .u8 0,.int .u8 0,.int .u8 0,.int .u8 0,.int .u8 0,.int .u8 0,.int .u8 0,.int .u8 0,.int .u8 0,.int .u8 0,.map none],hv_9,?_⟩,?_⟩
    · have h' : s4 = none := h
      rw [h'];rfl
    · cases hsn : s4 with
      | none => exact absurd hsn h
      | some x => rfl
    · exact (RepS_lay true (d + 1) fs_OffsetCommitValue).weaken hR fun b _ hk => hk.imp id fun h => by omega
    · exact hbase.trans' hU9 fun i hi h => h.elim id fun h => by omega
end Ms

namespace Ms
open Go.World renaming size_alloc → qI
open Ms renaming size_wr → qJ,size_drew → qK,not_noB → qL
open W renaming seqR → qA,seq → qB,regR → qC,condK → qD,block → qE,skip → qF,ret → qG,exit → qH
open Nat renaming reduceEqDiff → n0,reduceAdd → n1,reduceMul → n2,reduceSub → n3,reduceLT → n4,reduceLeDiff → n5
open Int renaming reduceEq → i0,reduceLT → i1,reduceLE → i2,reduceNeg → i3,reduceAdd → i4,reduceSub → i5,reduceMul → i6,reduceToNat → i7
set_option maxRecDepth 8000
open Go Go.Proofs Go.Shelf
attribute [local congr] W_congr WPsq_congr WPp_congr optK_congr addrK_congr intK_congr boolK_congr sliceK_congr tupleK_congr funcK_congr Fn_congr rawK_congr takeK_congr stepK_congr convK_congr aggK_congr

set_option maxHeartbeats 24000000 in
theorem readOffsetCommitValue_1b {un : Bool} {d : Nat} {ok : Blocks} {ver : Int} {ev : Value} (hlo : 1 ≤ ver) (hhi : ver ≤ 1) (w : World) {vb : Nat} (src : Value) (s : List UInt8) (hvc : (rdInt .i16 2 (some s)).1 = ver ∨ ((rdInt .i16 2 (some s)).1 < 0 ∧ ver = 0)) (hv : blk w vb = some (#[.int .i16 0,.int .i64 0,.int .i32 0,.string ByteArray.empty,.int .i64 0,.int .i64 0,.int .u8 0,.int .u8 0,.int .u8 0,.int .u8 0,.int .u8 0,.int .u8 0,.int .u8 0,.int .u8 0,.int .u8 0,.int .u8 0,.int .u8 0,.int .u8 0,.int .u8 0,.int .u8 0,.int .u8 0,.int .u8 0,.map none],47,(0,0))) (hsrc : BytesV ok w src s) (hok0 : ∀ b,ok b → b < w.heap.size ∧ b ≠ vb) (hG : Glo ev w) (hgv : ¬ 0 = vb ∧ ¬ 1 = vb) (hev : ∃ T p,ev = .iface T p) :
    Fn Tryd.prog 18 #[.pointer (some ⟨vb,0,none⟩),src,.bool un] w (ReadQ 47 ok (rdInt .i16 2 (some s)).1 (d + 1) fs_OffsetCommitValue vb w (rdM d ver false fs_OffsetCommitValue (rdInt .i16 2 (some s)).2) ev) := by
  have hcs : ((un = true) = True ∧ (un = false) = False) ∨ ((un = true) = False ∧ (un = false) = True) := by cases un <;> simp
  rcases hcs with ⟨hun,hun'⟩ | ⟨hun,hun'⟩
  all_goals
    have hvl := blk_lt hv
    have hgs := hG.lt
    obtain ⟨sa,sc,rfl,_⟩ := hsrc.shape
    refine fn_of_W Tryd.func18 rfl Tryd.results18 Tryd.ntmps18 rfl ?_
    repeat ((first | refine qA rfl ?_|refine qB ?_|refine qC rfl ?_|refine qD ?_|refine qE ?_|refine qF ?_|refine qG ?_|refine qH ?_);try simp (maxSteps:=1000000)(disch:=(first|omega|(simp only [qI,qJ,qK]<;>omega)|exact qL _)) only [go_sem,↓reduceIte,n0,reduceCtorEq,n1,n2,n3,n4,n5,i0,i1,i2,i3,i4,i5,i6,i7,hv])
    refine (DefaultOffsetCommitValue_fn w hv).mono ?_
    rintro _ w0 ⟨hv0,hu0⟩
    have hz0 := hu0.size
    have hsrc0 : BytesV ok w0 (.slice sa s.length sc) s := hsrc.keep (hu0.keeps fun b _ hk e => (hok0 b hk).2 e)
    obtain ⟨rb,hrb⟩ : ∃ r,r = w0.heap.size := ⟨_,rfl⟩
    have hE1 : Ext w0 (wr (w0.alloc (.cells #[.slice none 0 0,.bool false] 68)) w0.heap.size 0 [.slice sa s.length sc,.bool false]) := (Upd.alloc (Upd.refl _ _) _).wr _ _ (.inl (Nat.le_refl _))
    have hz1 : (wr (w0.alloc (.cells #[.slice none 0 0,.bool false] 68)) w0.heap.size 0 [.slice sa s.length sc,.bool false]).heap.size = w0.heap.size + 1 := by rw [size_wr,World.size_alloc]
    have hR1 : Rdr RT ok (wr (w0.alloc (.cells #[.slice none 0 0,.bool false] 68)) w0.heap.size 0 [.slice sa s.length sc,.bool false]) w0.heap.size (some s) := Rdr.good (v := .slice sa s.length sc) (by simp (maxSteps:=1000000)(disch:=(first|omega|(simp only [qI,qJ,qK]<;>omega)|exact qL _)) only [go_sem,↓reduceIte,n0,reduceCtorEq,n1,n2,n3,n4,n5,i0,i1,i2,i3,i4,i5,i6,i7]) (hsrc0.keep (hE1.keeps _))
    have hv_1 := hE1.blk_some hv0 id
    repeat ((first | refine qA rfl ?_|refine qB ?_|refine qC rfl ?_|refine qD ?_|refine qE ?_|refine qF ?_|refine qG ?_|refine qH ?_);try simp (maxSteps:=1000000)(disch:=(first|omega|(simp only [qI,qJ,qK]<;>omega)|exact qL _)) only [go_sem,↓reduceIte,n0,reduceCtorEq,n1,n2,n3,n4,n5,i0,i1,i2,i3,i4,i5,i6,i7,hv0])
    generalize (wr (w0.alloc (.cells #[.slice none 0 0,.bool false] 68)) w0.heap.size 0 [.slice sa s.length sc,.bool false]) = w1 at *
    rw [← hrb] at hR1
    try rw [← hrb]
    have hok : ∀ b,ok b → b < w.heap.size ∧ b ≠ vb := hok0
    have hrok : ¬ ok rb := fun h => by have := (hok rb h).1;omega
    have hbase : Upd (fun b => b = vb) w w1 := hu0.trans (hE1.mono fun _ h => h.elim)
    have hG1 : Glo ev w1 := hG.updS hbase hgv.1 hgv.2
    have hgrb : ¬ 0 = rb := by omega
    have hgM1 : ¬ (0 = vb ∨ 0 = rb) := fun h => h.elim hgv.1 fun h => by omega
    have hgM2 : ¬ (1 = vb ∨ 1 = rb) := fun h => h.elim hgv.2 fun h => by omega
    obtain ⟨s0,hs0⟩ : ∃ s' : St,s' = some s := ⟨_,rfl⟩
    rw [← hs0] at hR1 hvc ⊢
    have hU1 : Upd (fun b => b = vb ∨ b = rb) w1 w1 := Upd.refl _ _
    have hoM : ∀ b,(ok b ∨ w1.heap.size ≤ b) → ¬ (b = vb ∨ b = rb) := fun b hk h => by
      rcases hk with hk | hk
      · have := hok b hk;rcases h with h | h <;> omega
      · rcases h with h | h <;> omega
    have hq1 : Rdr RT ok w1 rb s0 := hR1
    repeat ((first | refine qA rfl ?_|refine qB ?_|refine qC rfl ?_|refine qD ?_|refine qE ?_|refine qF ?_|refine qG ?_|refine qH ?_);try simp (maxSteps:=1000000)(disch:=(first|omega|(simp only [qI,qJ,qK]<;>omega)|exact qL _)) only [go_sem,↓reduceIte,n0,reduceCtorEq,n1,n2,n3,n4,n5,i0,i1,i2,i3,i4,i5,i6,i7,hv_1,hun,hun'])
    refine (Int16_fn w1 hq1 hrok hG1.1 hgrb).mono ?_
    rintro _ w2 ⟨rfl,hq2,hu2⟩
    have hv_2 := hu2.blk_some hv_1 (by omega)
    have hV2 : Upd (fun b => b = vb ∨ b = rb) w1 w2 := hu2.mono (fun _ h => .inr h)
    have hU2 : Upd (fun b => b = vb ∨ b = rb) w1 w2 := hU1.trans hV2
    have hz2 := hV2.size
    have hG2 : Glo ev w2 := hG1.updS hU2 hgM1 hgM2
    obtain ⟨s1,hs1⟩ : ∃ s,s = (rdInt .i16 2 s0).2 := ⟨_,rfl⟩
    obtain ⟨vc,hvcE⟩ : ∃ x,x = (rdInt .i16 2 s0).1 := ⟨_,rfl⟩
    rw [← hs1] at hq2
    rw [← hvcE] at hvc
    rw [← hvcE,← hs1]
    try simp (maxSteps:=1000000)(disch:=(first|omega|(simp only [qI,qJ,qK]<;>omega)|exact qL _)) only [go_sem,↓reduceIte,n0,reduceCtorEq,n1,n2,n3,n4,n5,i0,i1,i2,i3,i4,i5,i6,i7,hv_2,hun,hun']
    repeat ((first | refine qA rfl ?_|refine qB ?_|refine qC rfl ?_|refine qD ?_|refine qE ?_|refine qF ?_|refine qG ?_|refine qH ?_);try simp (maxSteps:=1000000)(disch:=(first|omega|(simp only [qI,qJ,qK]<;>omega)|exact qL _)) only [go_sem,↓reduceIte,n0,reduceCtorEq,n1,n2,n3,n4,n5,i0,i1,i2,i3,i4,i5,i6,i7,hv_2,hun,hun'])
    generalize hw3 : wr w2 vb 0 [.int .i16 vc] = w3
    have hS3 : Upd (fun b => b = vb ∨ b = rb) w2 w3 := by rw [← hw3];exact (Upd.refl _ _).wr _ _ (.inr (.inl rfl))
    have hv_3 : blk w3 vb = some (#[.int .i16 vc,.int .i64 0,.int .i32 0,.string ByteArray.empty,.int .i64 0,.int .i64 0,.int .u8 0,.int .u8 0,.int .u8 0,.int .u8 0,.int .u8 0,.int .u8 0,.int .u8 0,.int .u8 0,.int .u8 0,.int .u8 0,.int .u8 0,.int .u8 0,.int .u8 0,.int .u8 0,.int .u8 0,.int .u8 0,.map none],47,(0,0)) := by rw [← hw3,blk_wr_eq,hv_2];rfl
    have hV3 := hS3
    have hU3 : Upd (fun b => b = vb ∨ b = rb) w1 w3 := hU2.trans hV3
    have hz3 := hV3.size
    have hG3 : Glo ev w3 := hG1.updS hU3 hgM1 hgM2
    have hq3 := Rdr.stored hw3 hq2 (by omega) fun h => by have := (hok _ h).1;first | omega | exact (hok _ h).2 rfl
    clear hw3
    obtain ⟨FB,hFB⟩ : ∃ P : Prop,P = ((rdM d ver false fs_OffsetCommitValue s1).2 = none) := ⟨_,rfl⟩
    have hb_0 : (rdL (rdP d ver false) (dfP d) ver false [fOffsetCommitValue_0,fOffsetCommitValue_1,fOffsetCommitValue_2,fOffsetCommitValue_3,fOffsetCommitValue_4,fOffsetCommitValue_5] s1).2 = none → FB := fun h => Eq.mpr hFB (rdM_bad h)
    have hh_0 : hasS fOffsetCommitValue_0 ver = true := hasS_t (by show (0 : Int) ≤ ver;omega) (by show (-1 : Int) < 0 ∨ ver ≤ (-1 : Int);omega)
    obtain ⟨x_0,hx_0⟩ : ∃ x,x = (rdF (rdP d ver false) ver false fOffsetCommitValue_0 s1).1 := ⟨_,rfl⟩
    repeat ((first | refine qA rfl ?_|refine qB ?_|refine qC rfl ?_|refine qD ?_|refine qE ?_|refine qF ?_|refine qG ?_|refine qH ?_);try simp (maxSteps:=1000000)(disch:=(first|omega|(simp only [qI,qJ,qK]<;>omega)|exact qL _)) only [go_sem,↓reduceIte,n0,reduceCtorEq,n1,n2,n3,n4,n5,i0,i1,i2,i3,i4,i5,i6,i7,hv_3,hun,hun'])
    have hrd : rdF (rdP d ver false) ver false fOffsetCommitValue_0 s1 = _ := rdF_num 4 rfl (by decide)
    refine (Int64_fn w3 hq3.1 hrok hG3.1 hgrb).mono ?_
    rintro _ w4 ⟨rfl,hq4,hu4⟩
    have hv_4 := hu4.blk_some hv_3 (by omega)
    have hV4 : Upd (fun b => b = vb ∨ b = rb) w3 w4 := hu4.mono (fun _ h => .inr h)
    have hU4 : Upd (fun b => b = vb ∨ b = rb) w1 w4 := hU3.trans hV4
    have hz4 := hV4.size
    have hG4 : Glo ev w4 := hG1.updS hU4 hgM1 hgM2
    have hst : (rdF (rdP d ver false) ver false fOffsetCommitValue_0 s1).2 = (rdInt .i64 8 s1).2 := by first | (rw [hrd];rfl) | rw [hrd]
    obtain ⟨s2,hs2⟩ : ∃ s,s = (rdF (rdP d ver false) ver false fOffsetCommitValue_0 s1).2 := ⟨_,rfl⟩
    rw [← hst,← hs2] at hq4
    clear hst
    repeat ((first | refine qA rfl ?_|refine qB ?_|refine qC rfl ?_|refine qD ?_|refine qE ?_|refine qF ?_|refine qG ?_|refine qH ?_);try simp (maxSteps:=1000000)(disch:=(first|omega|(simp only [qI,qJ,qK]<;>omega)|exact qL _)) only [go_sem,↓reduceIte,n0,reduceCtorEq,n1,n2,n3,n4,n5,i0,i1,i2,i3,i4,i5,i6,i7,hv_4,hun,hun'])
    generalize hw5 : wr w4 vb 1 [.int .i64 (rdInt .i64 8 s1).1] = w5
    have hS5 : Upd (fun b => b = vb ∨ b = rb) w4 w5 := by rw [← hw5];exact (Upd.refl _ _).wr _ _ (.inr (.inl rfl))
    have hv_5 : blk w5 vb = some (#[.int .i16 vc,.int .i64 (rdInt .i64 8 s1).1,.int .i32 0,.string ByteArray.empty,.int .i64 0,.int .i64 0,.int .u8 0,.int .u8 0,.int .u8 0,.int .u8 0,.int .u8 0,.int .u8 0,.int .u8 0,.int .u8 0,.int .u8 0,.int .u8 0,.int .u8 0,.int .u8 0,.int .u8 0,.int .u8 0,.int .u8 0,.int .u8 0,.map none],47,(0,0)) := by rw [← hw5,blk_wr_eq,hv_4];rfl
    have hV5 := hS5
    have hU5 : Upd (fun b => b = vb ∨ b = rb) w1 w5 := hU4.trans hV5
    have hz5 := hV5.size
    have hG5 : Glo ev w5 := hG1.updS hU5 hgM1 hgM2
    have hq5 := Rdr.stored hw5 hq4 (by omega) fun h => by have := (hok _ h).1;first | omega | exact (hok _ h).2 rfl
    clear hw5
    have hf_0 : RepF (RepS true d) (szS true d) fOffsetCommitValue_0 (fun b => ok b ∨ w1.heap.size ≤ b) w5 (x_0) [.int .i64 (rdInt .i64 8 s1).1] := (RepF_num (by decide)).2 (by rw [hx_0,hrd];exact congrArg (fun x => [x]) (numC_rd 4 (by decide) 8 s1).symm)
    clear hrd
    have hb_1 : (rdL (rdP d ver false) (dfP d) ver false [fOffsetCommitValue_1,fOffsetCommitValue_2,fOffsetCommitValue_3,fOffsetCommitValue_4,fOffsetCommitValue_5] s2).2 = none → FB := fun h => hb_0 (by rw [rdL_st (by decide) hh_0,← hs2];exact h)
    obtain ⟨x_1,hx_1⟩ : ∃ x,x = dfF (dfP d) fOffsetCommitValue_1 := ⟨_,rfl⟩
    have hf_1 : RepF (RepS true d) (szS true d) fOffsetCommitValue_1 (fun b => ok b ∨ w1.heap.size ≤ b) w5 (x_1) [.int .i32 0] := by rw [hx_1];exact (RepF_num (by decide)).2 rfl
    have hh_1 : hasS fOffsetCommitValue_1 ver = false := hasS_f (by show ver < 3 ∨ (0 ≤ (-1 : Int) ∧ (-1 : Int) < ver);omega)
    have hb_2 : (rdL (rdP d ver false) (dfP d) ver false [fOffsetCommitValue_2,fOffsetCommitValue_3,fOffsetCommitValue_4,fOffsetCommitValue_5] s2).2 = none → FB := fun h => hb_1 (by rw [rdL_no hh_1];exact h)
    have hh_2 : hasS fOffsetCommitValue_2 ver = true := hasS_t (by show (0 : Int) ≤ ver;omega) (by show (-1 : Int) < 0 ∨ ver ≤ (-1 : Int);omega)
    obtain ⟨x_2,hx_2⟩ : ∃ x,x = (rdF (rdP d ver false) ver false fOffsetCommitValue_2 s2).1 := ⟨_,rfl⟩
    repeat ((first | refine qA rfl ?_|refine qB ?_|refine qC rfl ?_|refine qD ?_|refine qE ?_|refine qF ?_|refine qG ?_|refine qH ?_);try simp (maxSteps:=1000000)(disch:=(first|omega|(simp only [qI,qJ,qK]<;>omega)|exact qL _)) only [go_sem,↓reduceIte,n0,reduceCtorEq,n1,n2,n3,n4,n5,i0,i1,i2,i3,i4,i5,i6,i7,hv_5,hun,hun'])
    have hmay : mayS fOffsetCommitValue_2 ver = false := mayS_no (by show (-1 : Int) < 0 ∨ ver < (-1 : Int);omega)
    have hrd : rdF (rdP d ver false) ver false fOffsetCommitValue_2 s2 = _ := rdF_text rfl hmay
    first | refine (RUnsafeString_fn w5 hq5.1 hrok hG5.1 hgrb).mono ?_ | refine (RString_fn w5 hq5.1 hrok hG5.1 hgrb).mono ?_
    rintro _ w6 ⟨rfl,hq6,hu6⟩
    have hv_6 := hu6.blk_some hv_5 (by omega)
    have hV6 : Upd (fun b => b = vb ∨ b = rb) w5 w6 := hu6.mono (fun _ h => .inr h)
    have hU6 : Upd (fun b => b = vb ∨ b = rb) w1 w6 := hU5.trans hV6
    have hz6 := hV6.size
    have hG6 : Glo ev w6 := hG1.updS hU6 hgM1 hgM2
    have hst : (rdF (rdP d ver false) ver false fOffsetCommitValue_2 s2).2 = (rdStr false s2).2 := by first | (rw [hrd];rfl) | rw [hrd]
    obtain ⟨s3,hs3⟩ : ∃ s,s = (rdF (rdP d ver false) ver false fOffsetCommitValue_2 s2).2 := ⟨_,rfl⟩
    rw [← hst,← hs3] at hq6
    clear hst
    repeat ((first | refine qA rfl ?_|refine qB ?_|refine qC rfl ?_|refine qD ?_|refine qE ?_|refine qF ?_|refine qG ?_|refine qH ?_);try simp (maxSteps:=1000000)(disch:=(first|omega|(simp only [qI,qJ,qK]<;>omega)|exact qL _)) only [go_sem,↓reduceIte,n0,reduceCtorEq,n1,n2,n3,n4,n5,i0,i1,i2,i3,i4,i5,i6,i7,hv_6,hun,hun'])
    generalize hw7 : wr w6 vb 3 [strV (rdStr false s2).1] = w7
    have hS7 : Upd (fun b => b = vb ∨ b = rb) w6 w7 := by rw [← hw7];exact (Upd.refl _ _).wr _ _ (.inr (.inl rfl))
    have hv_7 : blk w7 vb = some (#[.int .i16 vc,.int .i64 (rdInt .i64 8 s1).1,.int .i32 0,strV (rdStr false s2).1,.int .i64 0,.int .i64 0,.int .u8 0,.int .u8 0,.int .u8 0,.int .u8 0,.int .u8 0,.int .u8 0,.int .u8 0,.int .u8 0,.int .u8 0,.int .u8 0,.int .u8 0,.int .u8 0,.int .u8 0,.int .u8 0,.int .u8 0,.int .u8 0,.map none],47,(0,0)) := by rw [← hw7,blk_wr_eq,hv_6];rfl
    have hV7 := hS7
    have hU7 : Upd (fun b => b = vb ∨ b = rb) w1 w7 := hU6.trans hV7
    have hz7 := hV7.size
    have hG7 : Glo ev w7 := hG1.updS hU7 hgM1 hgM2
    have hq7 := Rdr.stored hw7 hq6 (by omega) fun h => by have := (hok _ h).1;first | omega | exact (hok _ h).2 rfl
    clear hw7
    have hf_2 : RepF (RepS true d) (szS true d) fOffsetCommitValue_2 (fun b => ok b ∨ w1.heap.size ≤ b) w7 (x_2) [strV (rdStr false s2).1] := (RepF_text rfl (by decide)).2 (by rw [hx_2,hrd];rfl)
    clear hrd
    have hb_3 : (rdL (rdP d ver false) (dfP d) ver false [fOffsetCommitValue_3,fOffsetCommitValue_4,fOffsetCommitValue_5] s3).2 = none → FB := fun h => hb_2 (by rw [rdL_st (by decide) hh_2,← hs3];exact h)
    have hh_3 : hasS fOffsetCommitValue_3 ver = true := hasS_t (by show (0 : Int) ≤ ver;omega) (by show (-1 : Int) < 0 ∨ ver ≤ (-1 : Int);omega)
    obtain ⟨x_3,hx_3⟩ : ∃ x,x = (rdF (rdP d ver false) ver false fOffsetCommitValue_3 s3).1 := ⟨_,rfl⟩
    repeat ((first | refine qA rfl ?_|refine qB ?_|refine qC rfl ?_|refine qD ?_|refine qE ?_|refine qF ?_|refine qG ?_|refine qH ?_);try simp (maxSteps:=1000000)(disch:=(first|omega|(simp only [qI,qJ,qK]<;>omega)|exact qL _)) only [go_sem,↓reduceIte,n0,reduceCtorEq,n1,n2,n3,n4,n5,i0,i1,i2,i3,i4,i5,i6,i7,hv_7,hun,hun'])
    have hrd : rdF (rdP d ver false) ver false fOffsetCommitValue_3 s3 = _ := rdF_num 4 rfl (by decide)
    refine (Int64_fn w7 hq7.1 hrok hG7.1 hgrb).mono ?_
    rintro _ w8 ⟨rfl,hq8,hu8⟩
    have hv_8 := hu8.blk_some hv_7 (by omega)
    have hV8 : Upd (fun b => b = vb ∨ b = rb) w7 w8 := hu8.mono (fun _ h => .inr h)
    have hU8 : Upd (fun b => b = vb ∨ b = rb) w1 w8 := hU7.trans hV8
    have hz8 := hV8.size
    have hG8 : Glo ev w8 := hG1.updS hU8 hgM1 hgM2
    have hst : (rdF (rdP d ver false) ver false fOffsetCommitValue_3 s3).2 = (rdInt .i64 8 s3).2 := by first | (rw [hrd];rfl) | rw [hrd]
    obtain ⟨s4,hs4⟩ : ∃ s,s = (rdF (rdP d ver false) ver false fOffsetCommitValue_3 s3).2 := ⟨_,rfl⟩
    rw [← hst,← hs4] at hq8
    clear hst
    repeat ((first | refine qA rfl ?_|refine qB ?_|refine qC rfl ?_|refine qD ?_|refine qE ?_|refine qF ?_|refine qG ?_|refine qH ?_);try simp (maxSteps:=1000000)(disch:=(first|omega|(simp only [qI,qJ,qK]<;>omega)|exact qL _)) only [go_sem,↓reduceIte,n0,reduceCtorEq,n1,n2,n3,n4,n5,i0,i1,i2,i3,i4,i5,i6,i7,hv_8,hun,hun'])
    generalize hw9 : wr w8 vb 4 [.int .i64 (rdInt .i64 8 s3).1] = w9
    have hS9 : Upd (fun b => b = vb ∨ b = rb) w8 w9 := by rw [← hw9];exact (Upd.refl _ _).wr _ _ (.inr (.inl rfl))
    have hv_9 : blk w9 vb = some (#[.int .i16 vc,.int .i64 (rdInt .i64 8 s1).1,.int .i32 0,strV (rdStr false s2).1,.int .i64 (rdInt .i64 8 s3).1,.int .i64 0,.int .u8 0,.int .u8 0,.int .u8 0,.int .u8 0,.int .u8 0,.int .u8 0,.int .u8 0,.int .u8 0,.int .u8 0,.int .u8 0,.int .u8 0,.int .u8 0,.int .u8 0,.int .u8 0,.int .u8 0,.int .u8 0,.map none],47,(0,0)) := by rw [← hw9,blk_wr_eq,hv_8];rfl
    have hV9 := hS9
    have hU9 : Upd (fun b => b = vb ∨ b = rb) w1 w9 := hU8.trans hV9
    have hz9 := hV9.size
    have hG9 : Glo ev w9 := hG1.updS hU9 hgM1 hgM2
    have hq9 := Rdr.stored hw9 hq8 (by omega) fun h => by have := (hok _ h).1;first | omega | exact (hok _ h).2 rfl
    clear hw9
    have hf_3 : RepF (RepS true d) (szS true d) fOffsetCommitValue_3 (fun b => ok b ∨ w1.heap.size ≤ b) w9 (x_3) [.int .i64 (rdInt .i64 8 s3).1] := (RepF_num (by decide)).2 (by rw [hx_3,hrd];exact congrArg (fun x => [x]) (numC_rd 4 (by decide) 8 s3).symm)
    clear hrd
    have hb_4 : (rdL (rdP d ver false) (dfP d) ver false [fOffsetCommitValue_4,fOffsetCommitValue_5] s4).2 = none → FB := fun h => hb_3 (by rw [rdL_st (by decide) hh_3,← hs4];exact h)
    have hh_4 : hasS fOffsetCommitValue_4 ver = true := hasS_t (by show (1 : Int) ≤ ver;omega) (by show (1 : Int) < 0 ∨ ver ≤ (1 : Int);omega)
    obtain ⟨x_4,hx_4⟩ : ∃ x,x = (rdF (rdP d ver false) ver false fOffsetCommitValue_4 s4).1 := ⟨_,rfl⟩
    repeat ((first | refine qA rfl ?_|refine qB ?_|refine qC rfl ?_|refine qD ?_|refine qE ?_|refine qF ?_|refine qG ?_|refine qH ?_);try simp (maxSteps:=1000000)(disch:=(first|omega|(simp only [qI,qJ,qK]<;>omega)|exact qL _)) only [go_sem,↓reduceIte,n0,reduceCtorEq,n1,n2,n3,n4,n5,i0,i1,i2,i3,i4,i5,i6,i7,hv_9,hun,hun'])
    have hrd : rdF (rdP d ver false) ver false fOffsetCommitValue_4 s4 = _ := rdF_num 4 rfl (by decide)
    refine (Int64_fn w9 hq9.1 hrok hG9.1 hgrb).mono ?_
    rintro _ w10 ⟨rfl,hq10,hu10⟩
    have hv_10 := hu10.blk_some hv_9 (by omega)
    have hV10 : Upd (fun b => b = vb ∨ b = rb) w9 w10 := hu10.mono (fun _ h => .inr h)
    have hU10 : Upd (fun b => b = vb ∨ b = rb) w1 w10 := hU9.trans hV10
    have hz10 := hV10.size
    have hG10 : Glo ev w10 := hG1.updS hU10 hgM1 hgM2
    have hst : (rdF (rdP d ver false) ver false fOffsetCommitValue_4 s4).2 = (rdInt .i64 8 s4).2 := by first | (rw [hrd];rfl) | rw [hrd]
    obtain ⟨s5,hs5⟩ : ∃ s,s = (rdF (rdP d ver false) ver false fOffsetCommitValue_4 s4).2 := ⟨_,rfl⟩
    rw [← hst,← hs5] at hq10
    clear hst
    repeat ((first | refine qA rfl ?_|refine qB ?_|refine qC rfl ?_|refine qD ?_|refine qE ?_|refine qF ?_|refine qG ?_|refine qH ?_);try simp (maxSteps:=1000000)(disch:=(first|omega|(simp only [qI,qJ,qK]<;>omega)|exact qL _)) only [go_sem,↓reduceIte,n0,reduceCtorEq,n1,n2,n3,n4,n5,i0,i1,i2,i3,i4,i5,i6,i7,hv_10,hun,hun'])
    generalize hw11 : wr w10 vb 5 [.int .i64 (rdInt .i64 8 s4).1] = w11
    have hS11 : Upd (fun b => b = vb ∨ b = rb) w10 w11 := by rw [← hw11];exact (Upd.refl _ _).wr _ _ (.inr (.inl rfl))
    have hv_11 : blk w11 vb = some (#[.int .i16 vc,.int .i64 (rdInt .i64 8 s1).1,.int .i32 0,strV (rdStr false s2).1,.int .i64 (rdInt .i64 8 s3).1,.int .i64 (rdInt .i64 8 s4).1,.int .u8 0,.int .u8 0,.int .u8 0,.int .u8 0,.int .u8 0,.int .u8 0,.int .u8 0,.int .u8 0,.int .u8 0,.int .u8 0,.int .u8 0,.int .u8 0,.int .u8 0,.int .u8 0,.int .u8 0,.int .u8 0,.map none],47,(0,0)) := by rw [← hw11,blk_wr_eq,hv_10];rfl
    have hV11 := hS11
    have hU11 : Upd (fun b => b = vb ∨ b = rb) w1 w11 := hU10.trans hV11
    have hz11 := hV11.size
    have hG11 : Glo ev w11 := hG1.updS hU11 hgM1 hgM2
    have hq11 := Rdr.stored hw11 hq10 (by omega) fun h => by have := (hok _ h).1;first | omega | exact (hok _ h).2 rfl
    clear hw11
    have hf_4 : RepF (RepS true d) (szS true d) fOffsetCommitValue_4 (fun b => ok b ∨ w1.heap.size ≤ b) w11 (x_4) [.int .i64 (rdInt .i64 8 s4).1] := (RepF_num (by decide)).2 (by rw [hx_4,hrd];exact congrArg (fun x => [x]) (numC_rd 4 (by decide) 8 s4).symm)
    clear hrd
    have hb_5 : (rdL (rdP d ver false) (dfP d) ver false [fOffsetCommitValue_5] s5).2 = none → FB := fun h => hb_4 (by rw [rdL_st (by decide) hh_4,← hs5];exact h)
    obtain ⟨x_5,hx_5⟩ : ∃ x,x = dfF (dfP d) fOffsetCommitValue_5 := ⟨_,rfl⟩
    have hf_5 : RepF (RepS true d) (szS true d) fOffsetCommitValue_5 (fun b => ok b ∨ w1.heap.size ≤ b) w11 (x_5) [.int .u8 0,.int .u8 0,.int .u8 0,.int .u8 0,.int .u8 0,.int .u8 0,.int .u8 0,.int .u8 0,.int .u8 0,.int .u8 0,.int .u8 0,.int .u8 0,.int .u8 0,.int .u8 0,.int .u8 0,.int .u8 0] := by rw [hx_5];exact (RepF_uuid rfl).2 rfl
    have hl_6 : rdL (rdP d ver false) (dfP d) ver false [] s5 = ([],s5) := rfl
    have hl_5 : rdL (rdP d ver false) (dfP d) ver false [fOffsetCommitValue_5] s5 = ([x_5],s5) := by rw [rdL_tg (by decide),← hx_5,hl_6]
    have hl_4 : rdL (rdP d ver false) (dfP d) ver false [fOffsetCommitValue_4,fOffsetCommitValue_5] s4 = ([x_4,x_5],s5) := by rw [rdL_st (by decide) hh_4,← hx_4,← hs5,hl_5]
    have hl_3 : rdL (rdP d ver false) (dfP d) ver false [fOffsetCommitValue_3,fOffsetCommitValue_4,fOffsetCommitValue_5] s3 = ([x_3,x_4,x_5],s5) := by rw [rdL_st (by decide) hh_3,← hx_3,← hs4,hl_4]
    have hl_2 : rdL (rdP d ver false) (dfP d) ver false [fOffsetCommitValue_2,fOffsetCommitValue_3,fOffsetCommitValue_4,fOffsetCommitValue_5] s2 = ([x_2,x_3,x_4,x_5],s5) := by rw [rdL_st (by decide) hh_2,← hx_2,← hs3,hl_3]
    have hl_1 : rdL (rdP d ver false) (dfP d) ver false [fOffsetCommitValue_1,fOffsetCommitValue_2,fOffsetCommitValue_3,fOffsetCommitValue_4,fOffsetCommitValue_5] s2 = ([x_1,x_2,x_3,x_4,x_5],s5) := by rw [rdL_no hh_1,← hx_1,hl_2]
    have hl_0 : rdL (rdP d ver false) (dfP d) ver false [fOffsetCommitValue_0,fOffsetCommitValue_1,fOffsetCommitValue_2,fOffsetCommitValue_3,fOffsetCommitValue_4,fOffsetCommitValue_5] s1 = ([x_0,x_1,x_2,x_3,x_4,x_5],s5) := by rw [rdL_st (by decide) hh_0,← hx_0,← hs2,hl_1]
    have hfin : rdM d ver false fs_OffsetCommitValue s1 = (.mk 0 [] false [x_0,x_1,x_2,x_3,x_4,x_5] [],s5) := rdM_f.trans (rdP_f hl_0)
    have hTg : TagsM (fun b => ok b ∨ w1.heap.size ≤ b) w11 (.map none) [] := .inl ⟨rfl,rfl⟩
    have hC_11 : Upd (fun b => b = vb ∨ b = rb) w11 w11 := Upd.refl _ _
    have hC_10 : Upd (fun b => b = vb ∨ b = rb) w10 w11 := hV11.trans hC_11
    have hC_9 : Upd (fun b => b = vb ∨ b = rb) w9 w11 := hV10.trans hC_10
    have hC_8 : Upd (fun b => b = vb ∨ b = rb) w8 w11 := hV9.trans hC_9
    have hC_7 : Upd (fun b => b = vb ∨ b = rb) w7 w11 := hV8.trans hC_8
    have hC_6 : Upd (fun b => b = vb ∨ b = rb) w6 w11 := hV7.trans hC_7
    have hC_5 : Upd (fun b => b = vb ∨ b = rb) w5 w11 := hV6.trans hC_6
    have hC_4 : Upd (fun b => b = vb ∨ b = rb) w4 w11 := hV5.trans hC_5
    have hC_3 : Upd (fun b => b = vb ∨ b = rb) w3 w11 := hV4.trans hC_4
    have hC_2 : Upd (fun b => b = vb ∨ b = rb) w2 w11 := hV3.trans hC_3
    have hC_1 : Upd (fun b => b = vb ∨ b = rb) w1 w11 := hV2.trans hC_2
    have hR : RepS true (d + 1) fs_OffsetCommitValue (fun b => ok b ∨ w1.heap.size ≤ b) w11 (.mk 0 [] false [x_0,x_1,x_2,x_3,x_4,x_5] []) [.int .i64 (rdInt .i64 8 s1).1,.int .i32 0,strV (rdStr false s2).1,.int .i64 (rdInt .i64 8 s3).1,.int .i64 (rdInt .i64 8 s4).1,.int .u8 0,.int .u8 0,.int .u8 0,.int .u8 0,.int .u8 0,.int .u8 0,.int .u8 0,.int .u8 0,.int .u8 0,.int .u8 0,.int .u8 0,.int .u8 0,.int .u8 0,.int .u8 0,.int .u8 0,.int .u8 0,.map none] := RepS.introT (c := [.int .i64 (rdInt .i64 8 s1).1,.int .i32 0,strV (rdStr false s2).1,.int .i64 (rdInt .i64 8 s3).1,.int .i64 (rdInt .i64 8 s4).1,.int .u8 0,.int .u8 0,.int .u8 0,.int .u8 0,.int .u8 0,.int .u8 0,.int .u8 0,.int .u8 0,.int .u8 0,.int .u8 0,.int .u8 0,.int .u8 0,.int .u8 0,.int .u8 0,.int .u8 0,.int .u8 0]) (RepL.cons1 (hf_0.keepS (hC_5.keeps fun b _ hk e => (hoM b hk) e)) (RepL.cons1 (hf_1.keepS (hC_5.keeps fun b _ hk e => (hoM b hk) e)) (RepL.cons1 (hf_2.keepS (hC_7.keeps fun b _ hk e => (hoM b hk) e)) (RepL.cons1 (hf_3.keepS (hC_9.keeps fun b _ hk e => (hoM b hk) e)) (RepL.cons1 (hf_4.keepS (hC_11.keeps fun b _ hk e => (hoM b hk) e)) (RepL.cons16 (hf_5.keepS (hC_11.keeps fun b _ hk e => (hoM b hk) e)) RepL.nil)))))) hTg
    repeat ((first | refine qA rfl ?_|refine qB ?_|refine qC rfl ?_|refine qD ?_|refine qE ?_|refine qF ?_|refine qG ?_|refine qH ?_);try simp (maxSteps:=1000000)(disch:=(first|omega|(simp only [qI,qJ,qK]<;>omega)|exact qL _)) only [go_sem,↓reduceIte,n0,reduceCtorEq,n1,n2,n3,n4,n5,i0,i1,i2,i3,i4,i5,i6,i7,hv_11,hun,hun'])
    refine (RComplete_fn w11 hq11.1 hG11.2).mono ?_
    rintro _ wz ⟨rfl,hez⟩
    rw [hez]
    repeat ((first | refine qA rfl ?_|refine qB ?_|refine qC rfl ?_|refine qD ?_|refine qE ?_|refine qF ?_|refine qG ?_|refine qH ?_);try simp (maxSteps:=1000000)(disch:=(first|omega|(simp only [qI,qJ,qK]<;>omega)|exact qL _)) only [go_sem,↓reduceIte,n0,reduceCtorEq,n1,n2,n3,n4,n5,i0,i1,i2,i3,i4,i5,i6,i7,hv_11,hun,hun'])
    rw [hfin]
    refine ⟨fun h => ?_,fun h => ⟨?_,[.int .i64 (rdInt .i64 8 s1).1,.int .i32 0,strV (rdStr false s2).1,.int .i64 (rdInt .i64 8 s3).1,.int .i64 (rdInt .i64 8 s4).1,.int .u8 0,.int .u8 0,.int .u8 0,.int .u8 0,.int .u8 0,.int .u8 0,.int .u8 0,.int .u8 0,.int .u8 0,.int .u8 0,.int .u8 0,.int .u8 0,.int .u8 0,.int .u8 0,.int .u8 0,.int .u8 0,.map none],hv_11,?_⟩,?_⟩
    · have h' : s5 = none := h
      rw [h'];rfl
    · cases hsn : s5 with
      | none => exact absurd hsn h
      | some x => rfl
    · exact (RepS_lay true (d + 1) fs_OffsetCommitValue).weaken hR fun b _ hk => hk.imp id fun h => by omega
    · exact hbase.trans' hU11 fun i hi h => h.elim id fun h => by omega
end Ms

namespace Ms
open Go.World renaming size_alloc → qI
open Ms renaming size_wr → qJ,size_drew → qK,not_noB → qL
open W renaming seqR → qA,seq → qB,regR → qC,condK → qD,block → qE,skip → qF,ret → qG,exit → qH
open Nat renaming reduceEqDiff → n0,reduceAdd → n1,reduceMul → n2,reduceSub → n3,reduceLT → n4,reduceLeDiff → n5
open Int renaming reduceEq → i0,reduceLT → i1,reduceLE → i2,reduceNeg → i3,reduceAdd → i4,reduceSub → i5,reduceMul → i6,reduceToNat → i7
set_option maxRecDepth 8000
open Go Go.Proofs Go.Shelf
attribute [local congr] W_congr WPsq_congr WPp_congr optK_congr addrK_congr intK_congr boolK_congr sliceK_congr tupleK_congr funcK_congr Fn_congr rawK_congr takeK_congr stepK_congr convK_congr aggK_congr

set_option maxHeartbeats 24000000 in
theorem readOffsetCommitValue_2b {un : Bool} {d : Nat} {ok : Blocks} {ver : Int} {ev : Value} (hlo : 2 ≤ ver) (hhi : ver ≤ 2) (w : World) {vb : Nat} (src : Value) (s : List UInt8) (hvc : (rdInt .i16 2 (some s)).1 = ver ∨ ((rdInt .i16 2 (some s)).1 < 0 ∧ ver = 0)) (hv : blk w vb = some (#[.int .i16 0,.int .i64 0,.int .i32 0,.string ByteArray.empty,.int .i64 0,.int .i64 0,.int .u8 0,.int .u8 0,.int .u8 0,.int .u8 0,.int .u8 0,.int .u8 0,.int .u8 0,.int .u8 0,.int .u8 0,.int .u8 0,.int .u8 0,.int .u8 0,.int .u8 0,.int .u8 0,.int .u8 0,.int .u8 0,.map none],47,(0,0))) (hsrc : BytesV ok w src s) (hok0 : ∀ b,ok b → b < w.heap.size ∧ b ≠ vb) (hG : Glo ev w) (hgv : ¬ 0 = vb ∧ ¬ 1 = vb) (hev : ∃ T p,ev = .iface T p) :
    Fn Tryd.prog 18 #[.pointer (some ⟨vb,0,none⟩),src,.bool un] w (ReadQ 47 ok (rdInt .i16 2 (some s)).1 (d + 1) fs_OffsetCommitValue vb w (rdM d ver false fs_OffsetCommitValue (rdInt .i16 2 (some s)).2) ev) := by
  have hcs : ((un = true) = True ∧ (un = false) = False) ∨ ((un = true) = False ∧ (un = false) = True) := by cases un <;> simp
  rcases hcs with ⟨hun,hun'⟩ | ⟨hun,hun'⟩
  all_goals
    have hvl := blk_lt hv
    have hgs := hG.lt
    obtain ⟨sa,sc,rfl,_⟩ := hsrc.shape
    refine fn_of_W Tryd.func18 rfl Tryd.results18 Tryd.ntmps18 rfl ?_
    repeat ((first | refine qA rfl ?_|refine qB ?_|refine qC rfl ?_|refine qD ?_|refine qE ?_|refine qF ?_|refine qG ?_|refine qH ?_);try simp (maxSteps:=1000000)(disch:=(first|omega|(simp only [qI,qJ,qK]<;>omega)|exact qL _)) only [go_sem,↓reduceIte,n0,reduceCtorEq,n1,n2,n3,n4,n5,i0,i1,i2,i3,i4,i5,i6,i7,hv])
    refine (DefaultOffsetCommitValue_fn w hv).mono ?_
    rintro _ w0 ⟨hv0,hu0⟩
    have hz0 := hu0.size
    have hsrc0 : BytesV ok w0 (.slice sa s.length sc) s := hsrc.keep (hu0.keeps fun b _ hk e => (hok0 b hk).2 e)
    obtain ⟨rb,hrb⟩ : ∃ r,r = w0.heap.size := ⟨_,rfl⟩
    have hE1 : Ext w0 (wr (w0.alloc (.cells #[.slice none 0 0,.bool false] 68)) w0.heap.size 0 [.slice sa s.length sc,.bool false]) := (Upd.alloc (Upd.refl _ _) _).wr _ _ (.inl (Nat.le_refl _))
    have hz1 : (wr (w0.alloc (.cells #[.slice none 0 0,.bool false] 68)) w0.heap.size 0 [.slice sa s.length sc,.bool false]).heap.size = w0.heap.size + 1 := by rw [size_wr,World.size_alloc]
    have hR1 : Rdr RT ok (wr (w0.alloc (.cells #[.slice none 0 0,.bool false] 68)) w0.heap.size 0 [.slice sa s.length sc,.bool false]) w0.heap.size (some s) := Rdr.good (v := .slice sa s.length sc) (by simp (maxSteps:=1000000)(disch:=(first|omega|(simp only [qI,qJ,qK]<;>omega)|exact qL _)) only [go_sem,↓reduceIte,n0,reduceCtorEq,n1,n2,n3,n4,n5,i0,i1,i2,i3,i4,i5,i6,i7]) (hsrc0.keep (hE1.keeps _))
    have hv_1 := hE1.blk_some hv0 id
    repeat ((first | refine qA rfl ?_|refine qB ?_|refine qC rfl ?_|refine qD ?_|refine qE ?_|refine qF ?_|refine qG ?_|refine qH ?_);try simp (maxSteps:=1000000)(disch:=(first|omega|(simp only [qI,qJ,qK]<;>omega)|exact qL _)) only [go_sem,↓reduceIte,n0,reduceCtorEq,n1,n2,n3,n4,n5,i0,i1,i2,i3,i4,i5,i6,i7,hv0])
    generalize (wr (w0.alloc (.cells #[.slice none 0 0,.bool false] 68)) w0.heap.size 0 [.slice sa s.length sc,.bool false]) = w1 at *
    rw [← hrb] at hR1
    try rw [← hrb]
    have hok : ∀ b,ok b → b < w.heap.size ∧ b ≠ vb := hok0
    have hrok : ¬ ok rb := fun h => by have := (hok rb h).1;omega
    have hbase : Upd (fun b => b = vb) w w1 := hu0.trans (hE1.mono fun _ h => h.elim)
    have hG1 : Glo ev w1 := hG.updS hbase hgv.1 hgv.2
    have hgrb : ¬ 0 = rb := by omega
    have hgM1 : ¬ (0 = vb ∨ 0 = rb) := fun h => h.elim hgv.1 fun h => by omega
    have hgM2 : ¬ (1 = vb ∨ 1 = rb) := fun h => h.elim hgv.2 fun h => by omega
    obtain ⟨s0,hs0⟩ : ∃ s' : St,s' = some s := ⟨_,rfl⟩
    rw [← hs0] at hR1 hvc ⊢
    have hU1 : Upd (fun b => b = vb ∨ b = rb) w1 w1 := Upd.refl _ _
    have hoM : ∀ b,(ok b ∨ w1.heap.size ≤ b) → ¬ (b = vb ∨ b = rb) := fun b hk h => by
      rcases hk with hk | hk
      · have := hok b hk;rcases h with h | h <;> omega
      · rcases h with h | h <;> omega
    have hq1 : Rdr RT ok w1 rb s0 := hR1
    repeat ((first | refine qA rfl ?_|refine qB ?_|refine qC rfl ?_|refine qD ?_|refine qE ?_|refine qF ?_|refine qG ?_|refine qH ?_);try simp (maxSteps:=1000000)(disch:=(first|omega|(simp only [qI,qJ,qK]<;>omega)|exact qL _)) only [go_sem,↓reduceIte,n0,reduceCtorEq,n1,n2,n3,n4,n5,i0,i1,i2,i3,i4,i5,i6,i7,hv_1,hun,hun'])
    refine (Int16_fn w1 hq1 hrok hG1.1 hgrb).mono ?_
    rintro _ w2 ⟨rfl,hq2,hu2⟩
    have hv_2 := hu2.blk_some hv_1 (by omega)
    have hV2 : Upd (fun b => b = vb ∨ b = rb) w1 w2 := hu2.mono (fun _ h => .inr h)
    have hU2 : Upd (fun b => b = vb ∨ b = rb) w1 w2 := hU1.trans hV2
    have hz2 := hV2.size
    have hG2 : Glo ev w2 := hG1.updS hU2 hgM1 hgM2
    obtain ⟨s1,hs1⟩ : ∃ s,s = (rdInt .i16 2 s0).2 := ⟨_,rfl⟩
    obtain ⟨vc,hvcE⟩ : ∃ x,x = (rdInt .i16 2 s0).1 := ⟨_,rfl⟩
    rw [← hs1] at hq2
    rw [← hvcE] at hvc
    rw [← hvcE,← hs1]
    try simp (maxSteps:=1000000)(disch:=(first|omega|(simp only [qI,qJ,qK]<;>omega)|exact qL _)) only [go_sem,↓reduceIte,n0,reduceCtorEq,n1,n2,n3,n4,n5,i0,i1,i2,i3,i4,i5,i6,i7,hv_2,hun,hun']
    repeat ((first | refine qA rfl ?_|refine qB ?_|refine qC rfl ?_|refine qD ?_|refine qE ?_|refine qF ?_|refine qG ?_|refine qH ?_);try simp (maxSteps:=1000000)(disch:=(first|omega|(simp only [qI,qJ,qK]<;>omega)|exact qL _)) only [go_sem,↓reduceIte,n0,reduceCtorEq,n1,n2,n3,n4,n5,i0,i1,i2,i3,i4,i5,i6,i7,hv_2,hun,hun'])
    generalize hw3 : wr w2 vb 0 [.int .i16 vc] = w3
    have hS3 : Upd (fun b => b = vb ∨ b = rb) w2 w3 := by rw [← hw3];exact (Upd.refl _ _).wr _ _ (.inr (.inl rfl))
    have hv_3 : blk w3 vb = some (#[.int .i16 vc,.int .i64 0,.int .i32 0,.string ByteArray.empty,.int .i64 0,.int .i64 0,.int .u8 0,.int .u8 0,.int .u8 0,.int .u8 0,.int .u8 0,.int .u8 0,.int .u8 0,.int .u8 0,.int .u8 0,.int .u8 0,.int .u8 0,.int .u8 0,.int .u8 0,.int .u8 0,.int .u8 0,.int .u8 0,.map none],47,(0,0)) := by rw [← hw3,blk_wr_eq,hv_2];rfl
    have hV3 := hS3
    have hU3 : Upd (fun b => b = vb ∨ b = rb) w1 w3 := hU2.trans hV3
    have hz3 := hV3.size
    have hG3 : Glo ev w3 := hG1.updS hU3 hgM1 hgM2
    have hq3 := Rdr.stored hw3 hq2 (by omega) fun h => by have := (hok _ h).1;first | omega | exact (hok _ h).2 rfl
    clear hw3
    obtain ⟨FB,hFB⟩ : ∃ P : Prop,P = ((rdM d ver false fs_OffsetCommitValue s1).2 = none) := ⟨_,rfl⟩
    have hb_0 : (rdL (rdP d ver false) (dfP d) ver false [fOffsetCommitValue_0,fOffsetCommitValue_1,fOffsetCommitValue_2,fOffsetCommitValue_3,fOffsetCommitValue_4,fOffsetCommitValue_5] s1).2 = none → FB := fun h => Eq.mpr hFB (rdM_bad h)
    have hh_0 : hasS fOffsetCommitValue_0 ver = true := hasS_t (by show (0 : Int) ≤ ver;omega) (by show (-1 : Int) < 0 ∨ ver ≤ (-1 : Int);omega)
    obtain ⟨x_0,hx_0⟩ : ∃ x,x = (rdF (rdP d ver false) ver false fOffsetCommitValue_0 s1).1 := ⟨_,rfl⟩
    repeat ((first | refine qA rfl ?_|refine qB ?_|refine qC rfl ?_|refine qD ?_|refine qE ?_|refine qF ?_|refine qG ?_|refine qH ?_);try simp (maxSteps:=1000000)(disch:=(first|omega|(simp only [qI,qJ,qK]<;>omega)|exact qL _)) only [go_sem,↓reduceIte,n0,reduceCtorEq,n1,n2,n3,n4,n5,i0,i1,i2,i3,i4,i5,i6,i7,hv_3,hun,hun'])
    have hrd : rdF (rdP d ver false) ver false fOffsetCommitValue_0 s1 = _ := rdF_num 4 rfl (by decide)
    refine (Int64_fn w3 hq3.1 hrok hG3.1 hgrb).mono ?_
    rintro _ w4 ⟨rfl,hq4,hu4⟩
    have hv_4 := hu4.blk_some hv_3 (by omega)
    have hV4 : Upd (fun b => b = vb ∨ b = rb) w3 w4 := hu4.mono (fun _ h => .inr h)
    have hU4 : Upd (fun b => b = vb ∨ b = rb) w1 w4 := hU3.trans hV4
    have hz4 := hV4.size
    have hG4 : Glo ev w4 := hG1.updS hU4 hgM1 hgM2
    have hst : (rdF (rdP d ver false) ver false fOffsetCommitValue_0 s1).2 = (rdInt .i64 8 s1).2 := by first | (rw [hrd];rfl) | rw [hrd]
    obtain ⟨s2,hs2⟩ : ∃ s,s = (rdF (rdP d ver false) ver false fOffsetCommitValue_0 s1).2 := ⟨_,rfl⟩
    rw [← hst,← hs2] at hq4
    clear hst
    repeat ((first | refine qA rfl ?_|refine qB ?_|refine qC rfl ?_|refine qD ?_|refine qE ?_|refine qF ?_|refine qG ?_|refine qH ?_);try simp (maxSteps:=1000000)(disch:=(first|omega|(simp only [qI,qJ,qK]<;>omega)|exact qL _)) only [go_sem,↓reduceIte,n0,reduceCtorEq,n1,n2,n3,n4,n5,i0,i1,i2,i3,i4,i5,i6,i7,hv_4,hun,hun'])
    generalize hw5 : wr w4 vb 1 [.int .i64 (rdInt .i64 8 s1).1] = w5
    have hS5 : Upd (fun b => b = vb ∨ b = rb) w4 w5 := by rw [← hw5];exact (Upd.refl _ _).wr _ _ (.inr (.inl rfl))
    have hv_5 : blk w5 vb = some (#[.int .i16 vc,.int .i64 (rdInt .i64 8 s1).1,.int .i32 0,.string ByteArray.empty,.int .i64 0,.int .i64 0,.int .u8 0,.int .u8 0,.int .u8 0,.int .u8 0,.int .u8 0,.int .u8 0,.int .u8 0,.int .u8 0,.int .u8 0,.int .u8 0,.int .u8 0,.int .u8 0,.int .u8 0,.int .u8 0,.int .u8 0,.int .u8 0,.map none],47,(0,0)) := by rw [← hw5,blk_wr_eq,hv_4];rfl
    have hV5 := hS5
    have hU5 : Upd (fun b => b = vb ∨ b = rb) w1 w5 := hU4.trans hV5
    have hz5 := hV5.size
    have hG5 : Glo ev w5 := hG1.updS hU5 hgM1 hgM2
    have hq5 := Rdr.stored hw5 hq4 (by omega) fun h => by have := (hok _ h).1;first | omega | exact (hok _ h).2 rfl
    clear hw5
    have hf_0 : RepF (RepS true d) (szS true d) fOffsetCommitValue_0 (fun b => ok b ∨ w1.heap.size ≤ b) w5 (x_0) [.int .i64 (rdInt .i64 8 s1).1] := (RepF_num (by decide)).2 (by rw [hx_0,hrd];exact congrArg (fun x => [x]) (numC_rd 4 (by decide) 8 s1).symm)
    clear hrd
    have hb_1 : (rdL (rdP d ver false) (dfP d) ver false [fOffsetCommitValue_1,fOffsetCommitValue_2,fOffsetCommitValue_3,fOffsetCommitValue_4,fOffsetCommitValue_5] s2).2 = none → FB := fun h => hb_0 (by rw [rdL_st (by decide) hh_0,← hs2];exact h)
    obtain ⟨x_1,hx_1⟩ : ∃ x,x = dfF (dfP d) fOffsetCommitValue_1 := ⟨_,rfl⟩
    have hf_1 : RepF (RepS true d) (szS true d) fOffsetCommitValue_1 (fun b => ok b ∨ w1.heap.size ≤ b) w5 (x_1) [.int .i32 0] := by rw [hx_1];exact (RepF_num (by decide)).2 rfl
    have hh_1 : hasS fOffsetCommitValue_1 ver = false := hasS_f (by show ver < 3 ∨ (0 ≤ (-1 : Int) ∧ (-1 : Int) < ver);omega)
    have hb_2 : (rdL (rdP d ver false) (dfP d) ver false [fOffsetCommitValue_2,fOffsetCommitValue_3,fOffsetCommitValue_4,fOffsetCommitValue_5] s2).2 = none → FB := fun h => hb_1 (by rw [rdL_no hh_1];exact h)
    have hh_2 : hasS fOffsetCommitValue_2 ver = true := hasS_t (by show (0 : Int) ≤ ver;omega) (by show (-1 : Int) < 0 ∨ ver ≤ (-1 : Int);omega)
    obtain ⟨x_2,hx_2⟩ : ∃ x,x = (rdF (rdP d ver false) ver false fOffsetCommitValue_2 s2).1 := ⟨_,rfl⟩
    repeat ((first | refine qA rfl ?_|refine qB ?_|refine qC rfl ?_|refine qD ?_|refine qE ?_|refine qF ?_|refine qG ?_|refine qH ?_);try simp (maxSteps:=1000000)(disch:=(first|omega|(simp only [qI,qJ,qK]<;>omega)|exact qL _)) only [go_sem,↓reduceIte,n0,reduceCtorEq,n1,n2,n3,n4,n5,i0,i1,i2,i3,i4,i5,i6,i7,hv_5,hun,hun'])
    have hmay : mayS fOffsetCommitValue_2 ver = false := mayS_no (by show (-1 : Int) < 0 ∨ ver < (-1 : Int);omega)
    have hrd : rdF (rdP d ver false) ver false fOffsetCommitValue_2 s2 = _ := rdF_text rfl hmay
    first | refine (RUnsafeString_fn w5 hq5.1 hrok hG5.1 hgrb).mono ?_ | refine (RString_fn w5 hq5.1 hrok hG5.1 hgrb).mono ?_
    rintro _ w6 ⟨rfl,hq6,hu6⟩
    have hv_6 := hu6.blk_some hv_5 (by omega)
    have hV6 : Upd (fun b => b = vb ∨ b = rb) w5 w6 := hu6.mono (fun _ h => .inr h)
    have hU6 : Upd (fun b => b = vb ∨ b = rb) w1 w6 := hU5.trans hV6
    have hz6 := hV6.size
    have hG6 : Glo ev w6 := hG1.updS hU6 hgM1 hgM2
    have hst : (rdF (rdP d ver false) ver false fOffsetCommitValue_2 s2).2 = (rdStr false s2).2 := by first | (rw [hrd];rfl) | rw [hrd]
    obtain ⟨s3,hs3⟩ : ∃ s,s = (rdF (rdP d ver false) ver false fOffsetCommitValue_2 s2).2 := ⟨_,rfl⟩
    rw [← hst,← hs3] at hq6
    clear hst
    repeat ((first | refine qA rfl ?_|refine qB ?_|refine qC rfl ?_|refine qD ?_|refine qE ?_|refine qF ?_|refine qG ?_|refine qH ?_);try simp (maxSteps:=1000000)(disch:=(first|omega|(simp only [qI,qJ,qK]<;>omega)|exact qL _)) only [go_sem,↓reduceIte,n0,reduceCtorEq,n1,n2,n3,n4,n5,i0,i1,i2,i3,i4,i5,i6,i7,hv_6,hun,hun'])
    generalize hw7 : wr w6 vb 3 [strV (rdStr false s2).1] = w7
    have hS7 : Upd (fun b => b = vb ∨ b = rb) w6 w7 := by rw [← hw7];exact (Upd.refl _ _).wr _ _ (.inr (.inl rfl))
    have hv_7 : blk w7 vb = some (#[.int .i16 vc,.int .i64 (rdInt .i64 8 s1).1,.int .i32 0,strV (rdStr false s2).1,.int .i64 0,.int .i64 0,.int .u8 0,.int .u8 0,.int .u8 0,.int .u8 0,.int .u8 0,.int .u8 0,.int .u8 0,.int .u8 0,.int .u8 0,.int .u8 0,.int .u8 0,.int .u8 0,.int .u8 0,.int .u8 0,.int .u8 0,.int .u8 0,.map none],47,(0,0)) := by rw [← hw7,blk_wr_eq,hv_6];rfl
    have hV7 := hS7
    have hU7 : Upd (fun b => b = vb ∨ b = rb) w1 w7 := hU6.trans hV7
    have hz7 := hV7.size
    have hG7 : Glo ev w7 := hG1.updS hU7 hgM1 hgM2
    have hq7 := Rdr.stored hw7 hq6 (by omega) fun h => by have := (hok _ h).1;first | omega | exact (hok _ h).2 rfl
    clear hw7
    have hf_2 : RepF (RepS true d) (szS true d) fOffsetCommitValue_2 (fun b => ok b ∨ w1.heap.size ≤ b) w7 (x_2) [strV (rdStr false s2).1] := (RepF_text rfl (by decide)).2 (by rw [hx_2,hrd];rfl)
    clear hrd
    have hb_3 : (rdL (rdP d ver false) (dfP d) ver false [fOffsetCommitValue_3,fOffsetCommitValue_4,fOffsetCommitValue_5] s3).2 = none → FB := fun h => hb_2 (by rw [rdL_st (by decide) hh_2,← hs3];exact h)
    have hh_3 : hasS fOffsetCommitValue_3 ver = true := hasS_t (by show (0 : Int) ≤ ver;omega) (by show (-1 : Int) < 0 ∨ ver ≤ (-1 : Int);omega)
    obtain ⟨x_3,hx_3⟩ : ∃ x,x = (rdF (rdP d ver false) ver false fOffsetCommitValue_3 s3).1 := ⟨_,rfl⟩
    repeat ((first | refine qA rfl ?_|refine qB ?_|refine qC rfl ?_|refine qD ?_|refine qE ?_|refine qF ?_|refine qG ?_|refine qH ?_);try simp (maxSteps:=1000000)(disch:=(first|omega|(simp only [qI,qJ,qK]<;>omega)|exact qL _)) only [go_sem,↓reduceIte,n0,reduceCtorEq,n1,n2,n3,n4,n5,i0,i1,i2,i3,i4,i5,i6,i7,hv_7,hun,hun'])
    have hrd : rdF (rdP d ver false) ver false fOffsetCommitValue_3 s3 = _ := rdF_num 4 rfl (by decide)
    refine (Int64_fn w7 hq7.1 hrok hG7.1 hgrb).mono ?_
    rintro _ w8 ⟨rfl,hq8,hu8⟩
    have hv_8 := hu8.blk_some hv_7 (by omega)
    have hV8 : Upd (fun b => b = vb ∨ b = rb) w7 w8 := hu8.mono (fun _ h => .inr h)
    have hU8 : Upd (fun b => b = vb ∨ b = rb) w1 w8 := hU7.trans hV8
    have hz8 := hV8.size
    have hG8 : Glo ev w8 := hG1.updS hU8 hgM1 hgM2
    have hst : (rdF (rdP d ver false) ver false fOffsetCommitValue_3 s3).2 = (rdInt .i64 8 s3).2 := by first | (rw [hrd];rfl) | rw [hrd]
    obtain ⟨s4,hs4⟩ : ∃ s,s = (rdF (rdP d ver false) ver false fOffsetCommitValue_3 s3).2 := ⟨_,rfl⟩
    rw [← hst,← hs4] at hq8
    clear hst
    repeat ((first | refine qA rfl ?_|refine qB ?_|refine qC rfl ?_|refine qD ?_|refine qE ?_|refine qF ?_|refine qG ?_|refine qH ?_);try simp (maxSteps:=1000000)(disch:=(first|omega|(simp only [qI,qJ,qK]<;>omega)|exact qL _)) only [go_sem,↓reduceIte,n0,reduceCtorEq,n1,n2,n3,n4,n5,i0,i1,i2,i3,i4,i5,i6,i7,hv_8,hun,hun'])
    generalize hw9 : wr w8 vb 4 [.int .i64 (rdInt .i64 8 s3).1] = w9
    have hS9 : Upd (fun b => b = vb ∨ b = rb) w8 w9 := by rw [← hw9];exact (Upd.refl _ _).wr _ _ (.inr (.inl rfl))
    have hv_9 : blk w9 vb = some (#[.int .i16 vc,.int .i64 (rdInt .i64 8 s1).1,.int .i32 0,strV (rdStr false s2).1,.int .i64 (rdInt .i64 8 s3).1,.int .i64 0,.int .u8 0,.int .u8 0,.int .u8 0,.int .u8 0,.int .u8 0,.int .u8 0,.int .u8 0,.int .u8 0,.int .u8 0,.int .u8 0,.int .u8 0,.int .u8 0,.int .u8 0,.int .u8 0,.int .u8 0,.int .u8 0,.map none],47,(0,0)) := by rw [← hw9,blk_wr_eq,hv_8];rfl
    have hV9 := hS9
    have hU9 : Upd (fun b => b = vb ∨ b = rb) w1 w9 := hU8.trans hV9
    have hz9 := hV9.size
    have hG9 : Glo ev w9 := hG1.updS hU9 hgM1 hgM2
    have hq9 := Rdr.stored hw9 hq8 (by omega) fun h => by have := (hok _ h).1;first | omega | exact (hok _ h).2 rfl
    clear hw9
    have hf_3 : RepF (RepS true d) (szS true d) fOffsetCommitValue_3 (fun b => ok b ∨ w1.heap.size ≤ b) w9 (x_3) [.int .i64 (rdInt .i64 8 s3).1] := (RepF_num (by decide)).2 (by rw [hx_3,hrd];exact congrArg (fun x => [x]) (numC_rd 4 (by decide) 8 s3).symm)
    clear hrd
    have hb_4 : (rdL (rdP d ver false) (dfP d) ver false [fOffsetCommitValue_4,fOffsetCommitValue_5] s4).2 = none → FB := fun h => hb_3 (by rw [rdL_st (by decide) hh_3,← hs4];exact h)
    obtain ⟨x_4,hx_4⟩ : ∃ x,x = dfF (dfP d) fOffsetCommitValue_4 := ⟨_,rfl⟩
    have hf_4 : RepF (RepS true d) (szS true d) fOffsetCommitValue_4 (fun b => ok b ∨ w1.heap.size ≤ b) w9 (x_4) [.int .i64 0] := by rw [hx_4];exact (RepF_num (by decide)).2 rfl
    have hh_4 : hasS fOffsetCommitValue_4 ver = false := hasS_f (by show ver < 1 ∨ (0 ≤ (1 : Int) ∧ (1 : Int) < ver);omega)
    have hb_5 : (rdL (rdP d ver false) (dfP d) ver false [fOffsetCommitValue_5] s4).2 = none → FB := fun h => hb_4 (by rw [rdL_no hh_4];exact h)
    obtain ⟨x_5,hx_5⟩ : ∃ x,x = dfF (dfP d) fOffsetCommitValue_5 := ⟨_,rfl⟩
    have hf_5 : RepF (RepS true d) (szS true d) fOffsetCommitValue_5 (fun b => ok b ∨ w1.heap.size ≤ b) w9 (x_5) [.int .u8 0,.int .u8 0,.int .u8 0,.int .u8 0,.int .u8 0,.int .u8 0,.int .u8 0,.int .u8 0,.int .u8 0,.int .u8 0,.int .u8 0,.int .u8 0,.int .u8 0,.int .u8 0,.int .u8 0,.int .u8 0] := by rw [hx_5];exact (RepF_uuid rfl).2 rfl
    have hl_6 : rdL (rdP d ver false) (dfP d) ver false [] s4 = ([],s4) := rfl
    have hl_5 : rdL (rdP d ver false) (dfP d) ver false [fOffsetCommitValue_5] s4 = ([x_5],s4) := by rw [rdL_tg (by decide),← hx_5,hl_6]
    have hl_4 : rdL (rdP d ver false) (dfP d) ver false [fOffsetCommitValue_4,fOffsetCommitValue_5] s4 = ([x_4,x_5],s4) := by rw [rdL_no hh_4,← hx_4,hl_5]
    have hl_3 : rdL (rdP d ver false) (dfP d) ver false [fOffsetCommitValue_3,fOffsetCommitValue_4,fOffsetCommitValue_5] s3 = ([x_3,x_4,x_5],s4) := by rw [rdL_st (by decide) hh_3,← hx_3,← hs4,hl_4]
    have hl_2 : rdL (rdP d ver false) (dfP d) ver false [fOffsetCommitValue_2,fOffsetCommitValue_3,fOffsetCommitValue_4,fOffsetCommitValue_5] s2 = ([x_2,x_3,x_4,x_5],s4) := by rw [rdL_st (by decide) hh_2,← hx_2,← hs3,hl_3]
    have hl_1 : rdL (rdP d ver false) (dfP d) ver false [fOffsetCommitValue_1,fOffsetCommitValue_2,fOffsetCommitValue_3,fOffsetCommitValue_4,fOffsetCommitValue_5] s2 = ([x_1,x_2,x_3,x_4,x_5],s4) := by rw [rdL_no hh_1,← hx_1,hl_2]
    have hl_0 : rdL (rdP d ver false) (dfP d) ver false [fOffsetCommitValue_0,fOffsetCommitValue_1,fOffsetCommitValue_2,fOffsetCommitValue_3,fOffsetCommitValue_4,fOffsetCommitValue_5] s1 = ([x_0,x_1,x_2,x_3,x_4,x_5],s4) := by rw [rdL_st (by decide) hh_0,← hx_0,← hs2,hl_1]
    have hfin : rdM d ver false fs_OffsetCommitValue s1 = (.mk 0 [] false [x_0,x_1,x_2,x_3,x_4,x_5] [],s4) := rdM_f.trans (rdP_f hl_0)
    have hTg : TagsM (fun b => ok b ∨ w1.heap.size ≤ b) w9 (.map none) [] := .inl ⟨rfl,rfl⟩
    have hC_9 : Upd (fun b => b = vb ∨ b = rb) w9 w9 := Upd.refl _ _
    have hC_8 : Upd (fun b => b = vb ∨ b = rb) w8 w9 := hV9.trans hC_9
    have hC_7 : Upd (fun b => b = vb ∨ b = rb) w7 w9 := hV8.trans hC_8
    have hC_6 : Upd (fun b => b = vb ∨ b = rb) w6 w9 := hV7.trans hC_7
    have hC_5 : Upd (fun b => b = vb ∨ b = rb) w5 w9 := hV6.trans hC_6
    have hC_4 : Upd (fun b => b = vb ∨ b = rb) w4 w9 := hV5.trans hC_5
    have hC_3 : Upd (fun b => b = vb ∨ b = rb) w3 w9 := hV4.trans hC_4
    have hC_2 : Upd (fun b => b = vb ∨ b = rb) w2 w9 := hV3.trans hC_3
    have hC_1 : Upd (fun b => b = vb ∨ b = rb) w1 w9 := hV2.trans hC_2
    have hR : RepS true (d + 1) fs_OffsetCommitValue (fun b => ok b ∨ w1.heap.size ≤ b) w9 (.mk 0 [] false [x_0,x_1,x_2,x_3,x_4,x_5] []) [.int .i64 (rdInt .i64 8 s1).1,.int .i32 0,strV (rdStr false s2).1,.int .i64 (rdInt .i64 8 s3).1,.int .i64 0,.int .u8 0,.int .u8 0,.int .u8 0,.int .u8 0,.int .u8 0,.int .u8 0,.int .u8 0,.int .u8 0,.int .u8 0,.int .u8 0,.int .u8 0,.int .u8 0,.int .u8 0,.int .u8 0,.int .u8 0,.int .u8 0,.map none] := RepS.introT (c := [.int .i64 (rdInt .i64 8 s1).1,.int .i32 0,strV (rdStr false s2).1,.int .i64 (rdInt .i64 8 s3).1,.int .i64 0,.int .u8 0,.int .u8 0,.int .u8 0,.int .u8 0,.int .u8 0,.int .u8 0,.int .u8 0,.int .u8 0,.int .u8 0,.int .u8 0,.int .u8 0,.int .u8 0,.int .u8 0,.int .u8 0,.int .u8 0,.int .u8 0]) (RepL.cons1 (hf_0.keepS (hC_5.keeps fun b _ hk e => (hoM b hk) e)) (RepL.cons1 (hf_1.keepS (hC_5.keeps fun b _ hk e => (hoM b hk) e)) (RepL.cons1 (hf_2.keepS (hC_7.keeps fun b _ hk e => (hoM b hk) e)) (RepL.cons1 (hf_3.keepS (hC_9.keeps fun b _ hk e => (hoM b hk) e)) (RepL.cons1 (hf_4.keepS (hC_9.keeps fun b _ hk e => (hoM b hk) e)) (RepL.cons16 (hf_5.keepS (hC_9.keeps fun b _ hk e => (hoM b hk) e)) RepL.nil)))))) hTg
    repeat ((first | refine qA rfl ?_|refine qB ?_|refine qC rfl ?_|refine qD ?_|refine qE ?_|refine qF ?_|refine qG ?_|refine qH ?_);try simp (maxSteps:=1000000)(disch:=(first|omega|(simp only [qI,qJ,qK]<;>omega)|exact qL _)) only [go_sem,↓reduceIte,n0,reduceCtorEq,n1,n2,n3,n4,n5,i0,i1,i2,i3,i4,i5,i6,i7,hv_9,hun,hun'])
    refine (RComplete_fn w9 hq9.1 hG9.2).mono ?_
    rintro _ wz ⟨rfl,hez⟩
    rw [hez]
    repeat ((first | refine qA rfl ?_|refine qB ?_|refine qC rfl ?_|refine qD ?_|refine qE ?_|refine qF ?_|refine qG ?_|refine qH ?_);try simp (maxSteps:=1000000)(disch:=(first|omega|(simp only [qI,qJ,qK]<;>omega)|exact qL _)) only [go_sem,↓reduceIte,n0,reduceCtorEq,n1,n2,n3,n4,n5,i0,i1,i2,i3,i4,i5,i6,i7,hv_9,hun,hun'])
    rw [hfin]
    refine ⟨fun h => ?_,fun h => ⟨?_,[.int .i64 (rdInt .i64 8 s1).1,.int .i32 0,strV (rdStr false s2).1,.int .i64 (rdInt .i64 8 s3).1,.int .i64 0,.int .u8 0,.int .u8 0,.int .u8 0,.int .u8 0,.int .u8 0,.int .u8 0,.int .u8 0,.int .u8 0,.int .u8 0,.int .u8 0,.int .u8 0,.int .u8 0,.int .u8 0,.int .u8 0,.int .u8 0,.int .u8 0,.map none],hv_9,?_⟩,?_⟩
    · have h' : s4 = none := h
      rw [h'];rfl
    · cases hsn : s4 with
      | none => exact absurd hsn h
      | some x => rfl
    · exact (RepS_lay true (d + 1) fs_OffsetCommitValue).weaken hR fun b _ hk => hk.imp id fun h => by omega
    · exact hbase.trans' hU9 fun i hi h => h.elim id fun h => by omega
end Ms

