/- A part of the proof: see the last text. -/
import Derived.Test.YthekgkekchicgaaDoorC04
import Derived.Test.YthekgkekchicgaaDoorC06
import Derived.Test.YthekgkekchicgaaDoorC08
set_option linter.unusedSimpArgs false
set_option linter.unusedVariables false
namespace Ms
open Nat renaming reduceEqDiff → n0,reduceAdd → n1,reduceMul → n2,reduceSub → n3,reduceLT → n4,reduceLeDiff → n5
open Int renaming reduceEq → i0,reduceLT → i1,reduceLE → i2,reduceNeg → i3,reduceAdd → i4,reduceSub → i5,reduceMul → i6,reduceToNat → i7
set_option maxRecDepth 4000
open Go Go.Proofs
theorem ap_23_23 : AppT Tryd.prog 23 23 26 5 88 := AppT.of (by kernel_rfl)
theorem ap_24_24 : AppT Tryd.prog 24 24 65 2 32 := AppT.of (by kernel_rfl)
theorem ca_140 : callable Tryd.prog 140 = true := nr (by kernel_rfl)
theorem ca_142 : callable Tryd.prog 142 = true := nr (by kernel_rfl)
theorem ca_152 : callable Tryd.prog 152 = true := nr (by kernel_rfl)
theorem ca_153 : callable Tryd.prog 153 = true := nr (by kernel_rfl)
theorem ca_154 : callable Tryd.prog 154 = true := nr (by kernel_rfl)
theorem ca_155 : callable Tryd.prog 155 = true := nr (by kernel_rfl)
theorem ca_176 : callable Tryd.prog 176 = true := nr (by kernel_rfl)
theorem ca_207 : callable Tryd.prog 207 = true := nr (by kernel_rfl)
theorem ca_208 : callable Tryd.prog 208 = true := nr (by kernel_rfl)
theorem ca_219 : callable Tryd.prog 219 = true := nr (by kernel_rfl)
theorem ca_220 : callable Tryd.prog 220 = true := nr (by kernel_rfl)
theorem ca_221 : callable Tryd.prog 221 = true := nr (by kernel_rfl)
theorem ca_224 : callable Tryd.prog 224 = true := nr (by kernel_rfl)
theorem ca_231 : callable Tryd.prog 231 = true := nr (by kernel_rfl)
theorem ca_232 : callable Tryd.prog 232 = true := nr (by kernel_rfl)
theorem ca_233 : callable Tryd.prog 233 = true := nr (by kernel_rfl)
theorem ca_234 : callable Tryd.prog 234 = true := nr (by kernel_rfl)
theorem ca_235 : callable Tryd.prog 235 = true := nr (by kernel_rfl)
theorem ca_236 : callable Tryd.prog 236 = true := nr (by kernel_rfl)
theorem ca_237 : callable Tryd.prog 237 = true := nr (by kernel_rfl)
theorem ca_238 : callable Tryd.prog 238 = true := nr (by kernel_rfl)
theorem ca_24 : callable Tryd.prog 24 = true := nr (by kernel_rfl)
theorem ca_29 : callable Tryd.prog 29 = true := nr (by kernel_rfl)
theorem ca_30 : callable Tryd.prog 30 = true := nr (by kernel_rfl)
theorem ca_302 : callable Tryd.prog 302 = true := nr (by kernel_rfl)
theorem ca_31 : callable Tryd.prog 31 = true := nr (by kernel_rfl)
theorem ca_78 : callable Tryd.prog 78 = true := nr (by kernel_rfl)
theorem ca_79 : callable Tryd.prog 79 = true := nr (by kernel_rfl)
theorem ca_80 : callable Tryd.prog 80 = true := nr (by kernel_rfl)
theorem ca_81 : callable Tryd.prog 81 = true := nr (by kernel_rfl)
theorem ca_82 : callable Tryd.prog 82 = true := nr (by kernel_rfl)
theorem ca_83 : callable Tryd.prog 83 = true := nr (by kernel_rfl)
theorem es_125 : elemSize Tryd.prog 125 = some 18 := nr (by kernel_rfl)
theorem es_130 : elemSize Tryd.prog 130 = some 4 := nr (by kernel_rfl)
theorem fo_127_0 : fieldOff Tryd.prog 127 0 = some 0 := nr (by kernel_rfl)
theorem fo_127_1 : fieldOff Tryd.prog 127 1 = some 1 := nr (by kernel_rfl)
theorem fo_127_2 : fieldOff Tryd.prog 127 2 = some 2 := nr (by kernel_rfl)
theorem fo_132_0 : fieldOff Tryd.prog 132 0 = some 0 := nr (by kernel_rfl)
theorem fo_132_1 : fieldOff Tryd.prog 132 1 = some 16 := nr (by kernel_rfl)
theorem fo_132_2 : fieldOff Tryd.prog 132 2 = some 17 := nr (by kernel_rfl)
theorem fo_257_0 : fieldOff Tryd.prog 257 0 = some 0 := nr (by kernel_rfl)
theorem fo_257_1 : fieldOff Tryd.prog 257 1 = some 1 := nr (by kernel_rfl)
theorem fo_257_2 : fieldOff Tryd.prog 257 2 = some 2 := nr (by kernel_rfl)
theorem fo_257_3 : fieldOff Tryd.prog 257 3 = some 3 := nr (by kernel_rfl)
theorem if_54 : isIfaceT Tryd.prog 54 = true := nr (by kernel_rfl)
theorem kn_3 : knownT Tryd.prog 3 = true := nr (by kernel_rfl)
theorem ld_125 (w : World) (b o : Nat) : loadOf Tryd.prog 125 w ⟨b,o,none⟩ = (blk w b).bind fun x => x.1[o]? := loadOf_one (by kernel_rfl) w b o
theorem ld_130 (w : World) (b o : Nat) : loadOf Tryd.prog 130 w ⟨b,o,none⟩ = (blk w b).bind fun x => x.1[o]? := loadOf_one (by kernel_rfl) w b o
theorem ld_172 (w : World) (b o : Nat) : loadOf Tryd.prog 172 w ⟨b,o,none⟩ = (blk w b).bind fun x => x.1[o]? := loadOf_one (by kernel_rfl) w b o
theorem ld_21 (w : World) (b o : Nat) : loadOf Tryd.prog 21 w ⟨b,o,none⟩ = (blk w b).bind fun x => x.1[o]? := loadOf_one (by kernel_rfl) w b o
theorem ld_45 (w : World) (b o : Nat) : loadOf Tryd.prog 45 w ⟨b,o,none⟩ = (blk w b).bind fun x => x.1[o]? := loadOf_one (by kernel_rfl) w b o
theorem pl_224 : placesOf Tryd.prog 224 = some [(0,1),(1,1)] := nr (by kernel_rfl)
theorem pl_65 : placesOf Tryd.prog 65 = some [(0,1),(1,1)] := nr (by kernel_rfl)
theorem se_23 : slElem Tryd.prog 23 = some (26,5) := nr (by kernel_rfl)
theorem se_24 : slElem Tryd.prog 24 = some (65,2) := nr (by kernel_rfl)
theorem sl_125 : isSliceT Tryd.prog 125 = true := nr (by kernel_rfl)
theorem sl_130 : isSliceT Tryd.prog 130 = true := nr (by kernel_rfl)
theorem sz_125 (w : World) (b o : Nat) (v : Value) : storeOf Tryd.prog 125 w ⟨b,o,none⟩ v = (blk w b).bind fun x => stO w b o v x 1 := storeOf_n (by kernel_rfl) w b o v
theorem sz_130 (w : World) (b o : Nat) (v : Value) : storeOf Tryd.prog 130 w ⟨b,o,none⟩ v = (blk w b).bind fun x => stO w b o v x 1 := storeOf_n (by kernel_rfl) w b o v
theorem sz_172 (w : World) (b o : Nat) (v : Value) : storeOf Tryd.prog 172 w ⟨b,o,none⟩ v = (blk w b).bind fun x => stO w b o v x 1 := storeOf_n (by kernel_rfl) w b o v
theorem sz_21 (w : World) (b o : Nat) (v : Value) : storeOf Tryd.prog 21 w ⟨b,o,none⟩ v = (blk w b).bind fun x => stO w b o v x 1 := storeOf_n (by kernel_rfl) w b o v
theorem sz_224 (w : World) (b o : Nat) (v : Value) : storeOf Tryd.prog 224 w ⟨b,o,none⟩ v = (blk w b).bind fun x => stO w b o v x 2 := storeOf_n (by kernel_rfl) w b o v
theorem sz_23 (w : World) (b o : Nat) (v : Value) : storeOf Tryd.prog 23 w ⟨b,o,none⟩ v = (blk w b).bind fun x => stO w b o v x 1 := storeOf_n (by kernel_rfl) w b o v
theorem sz_24 (w : World) (b o : Nat) (v : Value) : storeOf Tryd.prog 24 w ⟨b,o,none⟩ v = (blk w b).bind fun x => stO w b o v x 1 := storeOf_n (by kernel_rfl) w b o v
theorem sz_45 (w : World) (b o : Nat) (v : Value) : storeOf Tryd.prog 45 w ⟨b,o,none⟩ v = (blk w b).bind fun x => stO w b o v x 1 := storeOf_n (by kernel_rfl) w b o v
theorem z_127 : zeroOf Tryd.prog 127 = some #[.int .i16 0,.slice none 0 0,.map none] := nr (by kernel_rfl)
theorem z_224 : zeroOf Tryd.prog 224 = some #[.slice none 0 0,.bool false] := nr (by kernel_rfl)
theorem z_4 : zeroOf Tryd.prog 4 = some #[.bool false] := nr (by kernel_rfl)
attribute [go_sem] ca_140 ca_142 ca_152 ca_153 ca_154 ca_155 ca_176 ca_207 ca_208 ca_219 ca_220 ca_221 ca_224 ca_231 ca_232 ca_233 ca_234 ca_235 ca_236 ca_237 ca_238 ca_24 ca_29 ca_30 ca_302 ca_31 ca_78 ca_79 ca_80 ca_81 ca_82 ca_83 es_125 es_130 fo_127_0 fo_127_1 fo_127_2 fo_132_0 fo_132_1 fo_132_2 fo_257_0 fo_257_1 fo_257_2 fo_257_3 if_54 kn_3 ld_125 ld_130 ld_172 ld_21 ld_45 pl_224 pl_65 se_23 se_24 sl_125 sl_130 sz_125 sz_130 sz_172 sz_21 sz_224 sz_23 sz_24 sz_45 z_127 z_224 z_4
end Ms

namespace Ms
open Go.World renaming size_alloc → qI
open Ms renaming size_wr → qJ,size_drew → qK,not_noB → qL
open W renaming seqR → qA,seq → qB,regR → qC,condK → qD,block → qE,skip → qF,ret → qG,exit → qH
open Nat renaming reduceEqDiff → n0,reduceAdd → n1,reduceMul → n2,reduceSub → n3,reduceLT → n4,reduceLeDiff → n5
open Int renaming reduceEq → i0,reduceLT → i1,reduceLE → i2,reduceNeg → i3,reduceAdd → i4,reduceSub → i5,reduceMul → i6,reduceToNat → i7
set_option maxRecDepth 8000
open Go Go.Proofs Go.Shelf
attribute [local congr] W_congr WPsq_congr WPp_congr optK_congr addrK_congr intK_congr boolK_congr sliceK_congr tupleK_congr funcK_congr Fn_congr rawK_congr takeK_congr stepK_congr convK_congr aggK_congr

def fX0_0 : Fld := .mk 3 0 (-1) (-1) (-1) 0 0 []
def fX0_1 : Fld := .mk 2 0 (-1) (-1) (-1) 0 0 []
def fX0_2 : Fld := .mk 8 0 (-1) 0 (-1) 0 0 []
def fs_X0 : List Fld := [fX0_0,fX0_1,fX0_2]
def fX1_0 : Fld := .mk 7 0 (-1) (-1) (-1) 0 0 []
def fX1_1 : Fld := .mk 11 0 (-1) (-1) (-1) 0 10 fs_X0
def fs_X1 : List Fld := [fX1_0,fX1_1]
def fInitializeShareGroupStateResponse_0 : Fld := .mk 11 0 (-1) (-1) (-1) 0 10 fs_X1
def fs_InitializeShareGroupStateResponse : List Fld := [fInitializeShareGroupStateResponse_0]

theorem DefaultInitializeShareGroupStateResponse_fn (w : World) {vb : Nat} {c0 c1 c2 : Value} (hb : blk w vb = some (#[c0,c1,c2],127,(0,0))) :
    Fn Tryd.prog 152 #[.pointer (some ⟨vb,0,none⟩)] w fun _ w' => blk w' vb = some (#[c0,c1,c2],127,(0,0)) ∧ Upd (fun b => b = vb) w w' := by
  have hvl := blk_lt hb
  refine fn_of_W Tryd.func152 rfl Tryd.results152 Tryd.ntmps152 rfl ?_
  repeat ((first | refine qA rfl ?_|refine qB ?_|refine qC rfl ?_|refine qD ?_|refine qE ?_|refine qF ?_|refine qG ?_|refine qH ?_);try simp (maxSteps:=1000000)(disch:=(first|omega|(simp only [qI,qJ,qK]<;>omega)|exact qL _)) only [go_sem,↓reduceIte,n0,reduceCtorEq,n1,n2,n3,n4,n5,i0,i1,i2,i3,i4,i5,i6,i7,hb])
  first | exact Upd.refl _ _ | exact ⟨hb,Upd.refl _ _⟩

theorem NewPtrInitializeShareGroupStateResponse_fn (w : World) : Fn Tryd.prog 78 #[] w fun r w' => r = .pointer (some ⟨w.heap.size,0,none⟩) ∧ blk w' w.heap.size = some (#[.int .i16 0,.slice none 0 0,.map none],127,(0,0)) ∧ Ext w w' := by
  refine fn_of_W Tryd.func78 rfl Tryd.results78 Tryd.ntmps78 rfl ?_
  repeat ((first | refine qA rfl ?_|refine qB ?_|refine qC rfl ?_|refine qD ?_|refine qE ?_|refine qF ?_|refine qG ?_|refine qH ?_);try simp (maxSteps:=1000000)(disch:=(first|omega|(simp only [qI,qJ,qK]<;>omega)|exact qL _)) only [go_sem,↓reduceIte,n0,reduceCtorEq,n1,n2,n3,n4,n5,i0,i1,i2,i3,i4,i5,i6,i7])
  refine (DefaultInitializeShareGroupStateResponse_fn _ (blk_alloc_new rfl)).mono ?_
  rintro _ w1 ⟨hb1,hU1⟩
  have hz := World.size_alloc w (.cells #[.int .i16 0,.slice none 0 0,.map none] 127)
  repeat ((first | refine qA rfl ?_|refine qB ?_|refine qC rfl ?_|refine qD ?_|refine qE ?_|refine qF ?_|refine qG ?_|refine qH ?_);try simp (maxSteps:=1000000)(disch:=(first|omega|(simp only [qI,qJ,qK]<;>omega)|exact qL _)) only [go_sem,↓reduceIte,n0,reduceCtorEq,n1,n2,n3,n4,n5,i0,i1,i2,i3,i4,i5,i6,i7])
  exact ⟨hb1,(Upd.alloc (Upd.refl _ _) _ : Ext w _).more hU1 fun b hb h => by omega⟩

theorem SetVersionInitializeShareGroupStateResponse_fn (w : World) {vb : Nat} {c0 c1 c2 : Value} (n : Int) (hb : blk w vb = some (#[c0,c1,c2],127,(0,0))) :
    Fn Tryd.prog 80 #[.pointer (some ⟨vb,0,none⟩),.int .i16 n] w fun _ w' => blk w' vb = some (#[.int .i16 n,c1,c2],127,(0,0)) ∧ Upd (fun b => b = vb) w w' := by
  have hvl := blk_lt hb
  refine fn_of_W Tryd.func80 rfl Tryd.results80 Tryd.ntmps80 rfl ?_
  repeat ((first | refine qA rfl ?_|refine qB ?_|refine qC rfl ?_|refine qD ?_|refine qE ?_|refine qF ?_|refine qG ?_|refine qH ?_);try simp (maxSteps:=1000000)(disch:=(first|omega|(simp only [qI,qJ,qK]<;>omega)|exact qL _)) only [go_sem,↓reduceIte,n0,reduceCtorEq,n1,n2,n3,n4,n5,i0,i1,i2,i3,i4,i5,i6,i7,hb])
  first | exact Upd.wr (Upd.refl _ _) _ _ (.inr rfl) | exact ⟨by simp (maxSteps:=1000000)(disch:=(first|omega|(simp only [qI,qJ,qK]<;>omega)|exact qL _)) only [go_sem,↓reduceIte,n0,reduceCtorEq,n1,n2,n3,n4,n5,i0,i1,i2,i3,i4,i5,i6,i7,hb],Upd.wr (Upd.refl _ _) _ _ (.inr rfl)⟩

theorem MaxInitializeShareGroupStateResponse_fn (w : World) : Fn Tryd.prog 29 #[] w fun r w' => r = .int .i64 0 ∧ Ext w w' := by
  refine fn_of_W Tryd.func29 rfl Tryd.results29 Tryd.ntmps29 rfl ?_
  repeat ((first | refine qA rfl ?_|refine qB ?_|refine qC rfl ?_|refine qD ?_|refine qE ?_|refine qF ?_|refine qG ?_|refine qH ?_);try simp (maxSteps:=1000000)(disch:=(first|omega|(simp only [qI,qJ,qK]<;>omega)|exact qL _)) only [go_sem,↓reduceIte,n0,reduceCtorEq,n1,n2,n3,n4,n5,i0,i1,i2,i3,i4,i5,i6,i7])
  refine (NewPtrInitializeShareGroupStateResponse_fn w).mono ?_
  rintro _ w1 ⟨rfl,hb1,hE1⟩
  repeat ((first | refine qA rfl ?_|refine qB ?_|refine qC rfl ?_|refine qD ?_|refine qE ?_|refine qF ?_|refine qG ?_|refine qH ?_);try simp (maxSteps:=1000000)(disch:=(first|omega|(simp only [qI,qJ,qK]<;>omega)|exact qL _)) only [go_sem,↓reduceIte,n0,reduceCtorEq,n1,n2,n3,n4,n5,i0,i1,i2,i3,i4,i5,i6,i7])
  have hm : Fn Tryd.prog 79 #[.pointer (some ⟨w.heap.size,0,none⟩)] w1 fun r w' => r = .int .i16 0 ∧ w' = w1 := by
    refine fn_of_W Tryd.func79 rfl Tryd.results79 Tryd.ntmps79 rfl ?_
    repeat ((first | refine qA rfl ?_|refine qB ?_|refine qC rfl ?_|refine qD ?_|refine qE ?_|refine qF ?_|refine qG ?_|refine qH ?_);try simp (maxSteps:=1000000)(disch:=(first|omega|(simp only [qI,qJ,qK]<;>omega)|exact qL _)) only [go_sem,↓reduceIte,n0,reduceCtorEq,n1,n2,n3,n4,n5,i0,i1,i2,i3,i4,i5,i6,i7])
  refine hm.mono ?_
  rintro _ w2 ⟨rfl,rfl⟩
  have ew : IntKind.i64.wrap (0 : Int) = 0 := i64_wrap (by decide)
  repeat ((first | refine qA rfl ?_|refine qB ?_|refine qC rfl ?_|refine qD ?_|refine qE ?_|refine qF ?_|refine qG ?_|refine qH ?_);try simp (maxSteps:=1000000)(disch:=(first|omega|(simp only [qI,qJ,qK]<;>omega)|exact qL _)) only [go_sem,↓reduceIte,n0,reduceCtorEq,n1,n2,n3,n4,n5,i0,i1,i2,i3,i4,i5,i6,i7,ew])
  exact hE1
end Ms

namespace Ms
open Go.World renaming size_alloc → qI
open Ms renaming size_wr → qJ,size_drew → qK,not_noB → qL
open W renaming seqR → qA,seq → qB,regR → qC,condK → qD,block → qE,skip → qF,ret → qG,exit → qH
open Nat renaming reduceEqDiff → n0,reduceAdd → n1,reduceMul → n2,reduceSub → n3,reduceLT → n4,reduceLeDiff → n5
open Int renaming reduceEq → i0,reduceLT → i1,reduceLE → i2,reduceNeg → i3,reduceAdd → i4,reduceSub → i5,reduceMul → i6,reduceToNat → i7
set_option maxRecDepth 8000
open Go Go.Proofs Go.Shelf
attribute [local congr] W_congr WPsq_congr WPp_congr optK_congr addrK_congr intK_congr boolK_congr sliceK_congr tupleK_congr funcK_congr Fn_congr rawK_congr takeK_congr stepK_congr convK_congr aggK_congr

theorem utInitializeShareGroupStateResponse_125 : Tryd.prog.underlying 125 = some (.slice 132) := by kernel_rfl
theorem utInitializeShareGroupStateResponse_21 : Tryd.prog.underlying 21 = some (.int .i32) := by kernel_rfl
theorem inInitializeShareGroupStateResponse_132 : (Tryd.prog.info? 132).map (fun i => (i.size,i.bytes,i.zero.map (·.cells))) = some (18,48,some #[.int .u8 0,.int .u8 0,.int .u8 0,.int .u8 0,.int .u8 0,.int .u8 0,.int .u8 0,.int .u8 0,.int .u8 0,.int .u8 0,.int .u8 0,.int .u8 0,.int .u8 0,.int .u8 0,.int .u8 0,.int .u8 0,.slice none 0 0,.map none]) := by kernel_rfl
theorem utInitializeShareGroupStateResponse_130 : Tryd.prog.underlying 130 = some (.slice 257) := by kernel_rfl
theorem inInitializeShareGroupStateResponse_257 : (Tryd.prog.info? 257).map (fun i => (i.size,i.bytes,i.zero.map (·.cells))) = some (4,24,some #[.int .i32 0,.int .i16 0,.pointer none,.map none]) := by kernel_rfl

theorem DefaultEX1_fn (w : World) {R k : Nat} {A B : List Value} {c0 c1 c2 c3 c4 c5 c6 c7 c8 c9 c10 c11 c12 c13 c14 c15 c16 c17 : Value} {E : TypeId} (hb : blk w R = some ((A ++ ([c0,c1,c2,c3,c4,c5,c6,c7,c8,c9,c10,c11,c12,c13,c14,c15,c16,c17] ++ B)).toArray,E,(0,0))) (hA : A.length = k) :
    Fn Tryd.prog 231 #[.pointer (some ⟨R,k,none⟩)] w fun _ w' => blk w' R = some ((A ++ ([c0,c1,c2,c3,c4,c5,c6,c7,c8,c9,c10,c11,c12,c13,c14,c15,c16,c17] ++ B)).toArray,E,(0,0)) ∧ Upd (fun b => b = R) w w' := by
  have hRl := blk_lt hb
  obtain ⟨X,hX⟩ : ∃ X : Array Value,X = (A ++ (([c0,c1,c2,c3,c4,c5,c6,c7,c8,c9,c10,c11,c12,c13,c14,c15,c16,c17] : List Value) ++ B)).toArray := ⟨_,rfl⟩
  have hXs : k + 18 ≤ X.size := by rw [hX];simp only [List.size_toArray,List.length_append,List.length_cons,List.length_nil,hA];omega
  have hb' : blk w R = some (X,E,(0,0)) := by rw [hX];exact hb
  refine fn_of_W Tryd.func231 rfl Tryd.results231 Tryd.ntmps231 rfl ?_
  repeat ((first | refine qA rfl ?_|refine qB ?_|refine qC rfl ?_|refine qD ?_|refine qE ?_|refine qF ?_|refine qG ?_|refine qH ?_);try simp (maxSteps:=1000000)(disch:=(first|omega|(simp only [qI,qJ,qK]<;>omega)|exact qL _)) only [go_sem,↓reduceIte,n0,reduceCtorEq,n1,n2,n3,n4,n5,i0,i1,i2,i3,i4,i5,i6,i7,hb',Array.size_setIfInBounds])
  first | exact ⟨hb,Upd.refl _ _⟩ | exact Upd.refl _ _ | (rw [hX];exact ⟨rfl,Upd.refl _ _⟩)

theorem DefaultEX0_fn (w : World) {R k : Nat} {A B : List Value} {c0 c1 c2 c3 : Value} {E : TypeId} (hb : blk w R = some ((A ++ ([c0,c1,c2,c3] ++ B)).toArray,E,(0,0))) (hA : A.length = k) :
    Fn Tryd.prog 232 #[.pointer (some ⟨R,k,none⟩)] w fun _ w' => blk w' R = some ((A ++ ([c0,c1,c2,c3] ++ B)).toArray,E,(0,0)) ∧ Upd (fun b => b = R) w w' := by
  have hRl := blk_lt hb
  obtain ⟨X,hX⟩ : ∃ X : Array Value,X = (A ++ (([c0,c1,c2,c3] : List Value) ++ B)).toArray := ⟨_,rfl⟩
  have hXs : k + 4 ≤ X.size := by rw [hX];simp only [List.size_toArray,List.length_append,List.length_cons,List.length_nil,hA];omega
  have hb' : blk w R = some (X,E,(0,0)) := by rw [hX];exact hb
  refine fn_of_W Tryd.func232 rfl Tryd.results232 Tryd.ntmps232 rfl ?_
  repeat ((first | refine qA rfl ?_|refine qB ?_|refine qC rfl ?_|refine qD ?_|refine qE ?_|refine qF ?_|refine qG ?_|refine qH ?_);try simp (maxSteps:=1000000)(disch:=(first|omega|(simp only [qI,qJ,qK]<;>omega)|exact qL _)) only [go_sem,↓reduceIte,n0,reduceCtorEq,n1,n2,n3,n4,n5,i0,i1,i2,i3,i4,i5,i6,i7,hb',Array.size_setIfInBounds])
  first | exact ⟨hb,Upd.refl _ _⟩ | exact Upd.refl _ _ | (rw [hX];exact ⟨rfl,Upd.refl _ _⟩)
end Ms

