/- A part of the proof: see the last text. -/
import Derived.Test.YthekgkekchicgaaDoorC04
import Derived.Test.YthekgkekchicgaaDoorC06
import Derived.Test.YthekgkekchicgaaDoorC08
set_option linter.unusedSimpArgs false
set_option linter.unusedVariables false
namespace Ms
open Nat renaming reduceEqDiff → n0,reduceAdd → n1,reduceMul → n2,reduceSub → n3,reduceLT → n4,reduceLeDiff → n5
open Int renaming reduceEq → i0,reduceLT → i1,reduceLE → i2,reduceNeg → i3,reduceAdd → i4,reduceSub → i5,reduceMul → i6,reduceToNat → i7
set_option maxRecDepth 4000
open Go Go.Proofs
theorem ap_23_23 : AppT Tryd.prog 23 23 26 5 88 := AppT.of (by kernel_rfl)
theorem ap_24_24 : AppT Tryd.prog 24 24 65 2 32 := AppT.of (by kernel_rfl)
theorem ca_114 : callable Tryd.prog 114 = true := nr (by kernel_rfl)
theorem ca_115 : callable Tryd.prog 115 = true := nr (by kernel_rfl)
theorem ca_116 : callable Tryd.prog 116 = true := nr (by kernel_rfl)
theorem ca_117 : callable Tryd.prog 117 = true := nr (by kernel_rfl)
theorem ca_118 : callable Tryd.prog 118 = true := nr (by kernel_rfl)
theorem ca_119 : callable Tryd.prog 119 = true := nr (by kernel_rfl)
theorem ca_140 : callable Tryd.prog 140 = true := nr (by kernel_rfl)
theorem ca_142 : callable Tryd.prog 142 = true := nr (by kernel_rfl)
theorem ca_176 : callable Tryd.prog 176 = true := nr (by kernel_rfl)
theorem ca_180 : callable Tryd.prog 180 = true := nr (by kernel_rfl)
theorem ca_181 : callable Tryd.prog 181 = true := nr (by kernel_rfl)
theorem ca_182 : callable Tryd.prog 182 = true := nr (by kernel_rfl)
theorem ca_183 : callable Tryd.prog 183 = true := nr (by kernel_rfl)
theorem ca_198 : callable Tryd.prog 198 = true := nr (by kernel_rfl)
theorem ca_207 : callable Tryd.prog 207 = true := nr (by kernel_rfl)
theorem ca_208 : callable Tryd.prog 208 = true := nr (by kernel_rfl)
theorem ca_219 : callable Tryd.prog 219 = true := nr (by kernel_rfl)
theorem ca_220 : callable Tryd.prog 220 = true := nr (by kernel_rfl)
theorem ca_221 : callable Tryd.prog 221 = true := nr (by kernel_rfl)
theorem ca_224 : callable Tryd.prog 224 = true := nr (by kernel_rfl)
theorem ca_233 : callable Tryd.prog 233 = true := nr (by kernel_rfl)
theorem ca_234 : callable Tryd.prog 234 = true := nr (by kernel_rfl)
theorem ca_235 : callable Tryd.prog 235 = true := nr (by kernel_rfl)
theorem ca_236 : callable Tryd.prog 236 = true := nr (by kernel_rfl)
theorem ca_24 : callable Tryd.prog 24 = true := nr (by kernel_rfl)
theorem ca_244 : callable Tryd.prog 244 = true := nr (by kernel_rfl)
theorem ca_263 : callable Tryd.prog 263 = true := nr (by kernel_rfl)
theorem ca_264 : callable Tryd.prog 264 = true := nr (by kernel_rfl)
theorem ca_265 : callable Tryd.prog 265 = true := nr (by kernel_rfl)
theorem ca_266 : callable Tryd.prog 266 = true := nr (by kernel_rfl)
theorem ca_267 : callable Tryd.prog 267 = true := nr (by kernel_rfl)
theorem ca_305 : callable Tryd.prog 305 = true := nr (by kernel_rfl)
theorem ca_306 : callable Tryd.prog 306 = true := nr (by kernel_rfl)
theorem ca_333 : callable Tryd.prog 333 = true := nr (by kernel_rfl)
theorem ca_47 : callable Tryd.prog 47 = true := nr (by kernel_rfl)
theorem ca_48 : callable Tryd.prog 48 = true := nr (by kernel_rfl)
theorem ca_49 : callable Tryd.prog 49 = true := nr (by kernel_rfl)
theorem es_186 : elemSize Tryd.prog 186 = some 18 := nr (by kernel_rfl)
theorem es_191 : elemSize Tryd.prog 191 = some 7 := nr (by kernel_rfl)
theorem es_274 : elemSize Tryd.prog 274 = some 5 := nr (by kernel_rfl)
theorem fo_188_0 : fieldOff Tryd.prog 188 0 = some 0 := nr (by kernel_rfl)
theorem fo_188_1 : fieldOff Tryd.prog 188 1 = some 1 := nr (by kernel_rfl)
theorem fo_188_2 : fieldOff Tryd.prog 188 2 = some 2 := nr (by kernel_rfl)
theorem fo_193_0 : fieldOff Tryd.prog 193 0 = some 0 := nr (by kernel_rfl)
theorem fo_193_1 : fieldOff Tryd.prog 193 1 = some 16 := nr (by kernel_rfl)
theorem fo_193_2 : fieldOff Tryd.prog 193 2 = some 17 := nr (by kernel_rfl)
theorem fo_276_0 : fieldOff Tryd.prog 276 0 = some 0 := nr (by kernel_rfl)
theorem fo_276_1 : fieldOff Tryd.prog 276 1 = some 1 := nr (by kernel_rfl)
theorem fo_276_2 : fieldOff Tryd.prog 276 2 = some 2 := nr (by kernel_rfl)
theorem fo_276_3 : fieldOff Tryd.prog 276 3 = some 3 := nr (by kernel_rfl)
theorem fo_276_4 : fieldOff Tryd.prog 276 4 = some 4 := nr (by kernel_rfl)
theorem fo_276_5 : fieldOff Tryd.prog 276 5 = some 5 := nr (by kernel_rfl)
theorem fo_276_6 : fieldOff Tryd.prog 276 6 = some 6 := nr (by kernel_rfl)
theorem fo_279_0 : fieldOff Tryd.prog 279 0 = some 0 := nr (by kernel_rfl)
theorem fo_279_1 : fieldOff Tryd.prog 279 1 = some 1 := nr (by kernel_rfl)
theorem fo_279_2 : fieldOff Tryd.prog 279 2 = some 2 := nr (by kernel_rfl)
theorem fo_279_3 : fieldOff Tryd.prog 279 3 = some 3 := nr (by kernel_rfl)
theorem fo_279_4 : fieldOff Tryd.prog 279 4 = some 4 := nr (by kernel_rfl)
theorem if_54 : isIfaceT Tryd.prog 54 = true := nr (by kernel_rfl)
theorem kn_146 : knownT Tryd.prog 146 = true := nr (by kernel_rfl)
theorem kn_3 : knownT Tryd.prog 3 = true := nr (by kernel_rfl)
theorem ld_146 (w : World) (b o : Nat) : loadOf Tryd.prog 146 w ⟨b,o,none⟩ = (blk w b).bind fun x => x.1[o]? := loadOf_one (by kernel_rfl) w b o
theorem ld_172 (w : World) (b o : Nat) : loadOf Tryd.prog 172 w ⟨b,o,none⟩ = (blk w b).bind fun x => x.1[o]? := loadOf_one (by kernel_rfl) w b o
theorem ld_186 (w : World) (b o : Nat) : loadOf Tryd.prog 186 w ⟨b,o,none⟩ = (blk w b).bind fun x => x.1[o]? := loadOf_one (by kernel_rfl) w b o
theorem ld_191 (w : World) (b o : Nat) : loadOf Tryd.prog 191 w ⟨b,o,none⟩ = (blk w b).bind fun x => x.1[o]? := loadOf_one (by kernel_rfl) w b o
theorem ld_21 (w : World) (b o : Nat) : loadOf Tryd.prog 21 w ⟨b,o,none⟩ = (blk w b).bind fun x => x.1[o]? := loadOf_one (by kernel_rfl) w b o
theorem ld_274 (w : World) (b o : Nat) : loadOf Tryd.prog 274 w ⟨b,o,none⟩ = (blk w b).bind fun x => x.1[o]? := loadOf_one (by kernel_rfl) w b o
theorem ld_45 (w : World) (b o : Nat) : loadOf Tryd.prog 45 w ⟨b,o,none⟩ = (blk w b).bind fun x => x.1[o]? := loadOf_one (by kernel_rfl) w b o
theorem pl_224 : placesOf Tryd.prog 224 = some [(0,1),(1,1)] := nr (by kernel_rfl)
theorem pl_65 : placesOf Tryd.prog 65 = some [(0,1),(1,1)] := nr (by kernel_rfl)
theorem se_23 : slElem Tryd.prog 23 = some (26,5) := nr (by kernel_rfl)
theorem se_24 : slElem Tryd.prog 24 = some (65,2) := nr (by kernel_rfl)
theorem sl_186 : isSliceT Tryd.prog 186 = true := nr (by kernel_rfl)
theorem sl_191 : isSliceT Tryd.prog 191 = true := nr (by kernel_rfl)
theorem sl_274 : isSliceT Tryd.prog 274 = true := nr (by kernel_rfl)
theorem sz_146 (w : World) (b o : Nat) (v : Value) : storeOf Tryd.prog 146 w ⟨b,o,none⟩ v = (blk w b).bind fun x => stO w b o v x 1 := storeOf_n (by kernel_rfl) w b o v
theorem sz_172 (w : World) (b o : Nat) (v : Value) : storeOf Tryd.prog 172 w ⟨b,o,none⟩ v = (blk w b).bind fun x => stO w b o v x 1 := storeOf_n (by kernel_rfl) w b o v
theorem sz_186 (w : World) (b o : Nat) (v : Value) : storeOf Tryd.prog 186 w ⟨b,o,none⟩ v = (blk w b).bind fun x => stO w b o v x 1 := storeOf_n (by kernel_rfl) w b o v
theorem sz_191 (w : World) (b o : Nat) (v : Value) : storeOf Tryd.prog 191 w ⟨b,o,none⟩ v = (blk w b).bind fun x => stO w b o v x 1 := storeOf_n (by kernel_rfl) w b o v
theorem sz_2 (w : World) (b o : Nat) (v : Value) : storeOf Tryd.prog 2 w ⟨b,o,none⟩ v = (blk w b).bind fun x => stO w b o v x 1 := storeOf_n (by kernel_rfl) w b o v
theorem sz_21 (w : World) (b o : Nat) (v : Value) : storeOf Tryd.prog 21 w ⟨b,o,none⟩ v = (blk w b).bind fun x => stO w b o v x 1 := storeOf_n (by kernel_rfl) w b o v
theorem sz_224 (w : World) (b o : Nat) (v : Value) : storeOf Tryd.prog 224 w ⟨b,o,none⟩ v = (blk w b).bind fun x => stO w b o v x 2 := storeOf_n (by kernel_rfl) w b o v
theorem sz_23 (w : World) (b o : Nat) (v : Value) : storeOf Tryd.prog 23 w ⟨b,o,none⟩ v = (blk w b).bind fun x => stO w b o v x 1 := storeOf_n (by kernel_rfl) w b o v
theorem sz_24 (w : World) (b o : Nat) (v : Value) : storeOf Tryd.prog 24 w ⟨b,o,none⟩ v = (blk w b).bind fun x => stO w b o v x 1 := storeOf_n (by kernel_rfl) w b o v
theorem sz_274 (w : World) (b o : Nat) (v : Value) : storeOf Tryd.prog 274 w ⟨b,o,none⟩ v = (blk w b).bind fun x => stO w b o v x 1 := storeOf_n (by kernel_rfl) w b o v
theorem sz_45 (w : World) (b o : Nat) (v : Value) : storeOf Tryd.prog 45 w ⟨b,o,none⟩ v = (blk w b).bind fun x => stO w b o v x 1 := storeOf_n (by kernel_rfl) w b o v
theorem z_188 : zeroOf Tryd.prog 188 = some #[.int .i16 0,.slice none 0 0,.map none] := nr (by kernel_rfl)
theorem z_224 : zeroOf Tryd.prog 224 = some #[.slice none 0 0,.bool false] := nr (by kernel_rfl)
theorem z_4 : zeroOf Tryd.prog 4 = some #[.bool false] := nr (by kernel_rfl)
attribute [go_sem] ca_114 ca_115 ca_116 ca_117 ca_118 ca_119 ca_140 ca_142 ca_176 ca_180 ca_181 ca_182 ca_183 ca_198 ca_207 ca_208 ca_219 ca_220 ca_221 ca_224 ca_233 ca_234 ca_235 ca_236 ca_24 ca_244 ca_263 ca_264 ca_265 ca_266 ca_267 ca_305 ca_306 ca_333 ca_47 ca_48 ca_49 es_186 es_191 es_274 fo_188_0 fo_188_1 fo_188_2 fo_193_0 fo_193_1 fo_193_2 fo_276_0 fo_276_1 fo_276_2 fo_276_3 fo_276_4 fo_276_5 fo_276_6 fo_279_0 fo_279_1 fo_279_2 fo_279_3 fo_279_4 if_54 kn_146 kn_3 ld_146 ld_172 ld_186 ld_191 ld_21 ld_274 ld_45 pl_224 pl_65 se_23 se_24 sl_186 sl_191 sl_274 sz_146 sz_172 sz_186 sz_191 sz_2 sz_21 sz_224 sz_23 sz_24 sz_274 sz_45 z_188 z_224 z_4
end Ms

namespace Ms
open Go.World renaming size_alloc → qI
open Ms renaming size_wr → qJ,size_drew → qK,not_noB → qL
open W renaming seqR → qA,seq → qB,regR → qC,condK → qD,block → qE,skip → qF,ret → qG,exit → qH
open Nat renaming reduceEqDiff → n0,reduceAdd → n1,reduceMul → n2,reduceSub → n3,reduceLT → n4,reduceLeDiff → n5
open Int renaming reduceEq → i0,reduceLT → i1,reduceLE → i2,reduceNeg → i3,reduceAdd → i4,reduceSub → i5,reduceMul → i6,reduceToNat → i7
set_option maxRecDepth 8000
open Go Go.Proofs Go.Shelf
attribute [local congr] W_congr WPsq_congr WPp_congr optK_congr addrK_congr intK_congr boolK_congr sliceK_congr tupleK_congr funcK_congr Fn_congr rawK_congr takeK_congr stepK_congr convK_congr aggK_congr

def fX0_0 : Fld := .mk 4 0 (-1) (-1) (-1) 0 0 []
def fX0_1 : Fld := .mk 4 0 (-1) (-1) (-1) 0 0 []
def fX0_2 : Fld := .mk 1 0 (-1) (-1) (-1) 0 0 []
def fX0_3 : Fld := .mk 2 0 (-1) (-1) (-1) 0 0 []
def fs_X0 : List Fld := [fX0_0,fX0_1,fX0_2,fX0_3]
def fX1_0 : Fld := .mk 3 0 (-1) (-1) (-1) 0 0 []
def fX1_1 : Fld := .mk 2 0 (-1) (-1) (-1) 0 0 []
def fX1_2 : Fld := .mk 8 0 (-1) 0 (-1) 0 0 []
def fX1_3 : Fld := .mk 3 0 (-1) (-1) (-1) 0 0 []
def fX1_4 : Fld := .mk 4 0 (-1) (-1) (-1) 0 0 []
def fX1_5 : Fld := .mk 11 0 (-1) (-1) (-1) 0 10 fs_X0
def fs_X1 : List Fld := [fX1_0,fX1_1,fX1_2,fX1_3,fX1_4,fX1_5]
def fX2_0 : Fld := .mk 7 0 (-1) (-1) (-1) 0 0 []
def fX2_1 : Fld := .mk 11 0 (-1) (-1) (-1) 0 10 fs_X1
def fs_X2 : List Fld := [fX2_0,fX2_1]
def fReadShareGroupStateResponse_0 : Fld := .mk 11 0 (-1) (-1) (-1) 0 10 fs_X2
def fs_ReadShareGroupStateResponse : List Fld := [fReadShareGroupStateResponse_0]

theorem DefaultReadShareGroupStateResponse_fn (w : World) {vb : Nat} {c0 c1 c2 : Value} (hb : blk w vb = some (#[c0,c1,c2],188,(0,0))) :
    Fn Tryd.prog 180 #[.pointer (some ⟨vb,0,none⟩)] w fun _ w' => blk w' vb = some (#[c0,c1,c2],188,(0,0)) ∧ Upd (fun b => b = vb) w w' := by
  have hvl := blk_lt hb
  refine fn_of_W Tryd.func180 rfl Tryd.results180 Tryd.ntmps180 rfl ?_
  repeat ((first | refine qA rfl ?_|refine qB ?_|refine qC rfl ?_|refine qD ?_|refine qE ?_|refine qF ?_|refine qG ?_|refine qH ?_);try simp (maxSteps:=1000000)(disch:=(first|omega|(simp only [qI,qJ,qK]<;>omega)|exact qL _)) only [go_sem,↓reduceIte,n0,reduceCtorEq,n1,n2,n3,n4,n5,i0,i1,i2,i3,i4,i5,i6,i7,hb])
  first | exact Upd.refl _ _ | exact ⟨hb,Upd.refl _ _⟩

theorem NewPtrReadShareGroupStateResponse_fn (w : World) : Fn Tryd.prog 114 #[] w fun r w' => r = .pointer (some ⟨w.heap.size,0,none⟩) ∧ blk w' w.heap.size = some (#[.int .i16 0,.slice none 0 0,.map none],188,(0,0)) ∧ Ext w w' := by
  refine fn_of_W Tryd.func114 rfl Tryd.results114 Tryd.ntmps114 rfl ?_
  repeat ((first | refine qA rfl ?_|refine qB ?_|refine qC rfl ?_|refine qD ?_|refine qE ?_|refine qF ?_|refine qG ?_|refine qH ?_);try simp (maxSteps:=1000000)(disch:=(first|omega|(simp only [qI,qJ,qK]<;>omega)|exact qL _)) only [go_sem,↓reduceIte,n0,reduceCtorEq,n1,n2,n3,n4,n5,i0,i1,i2,i3,i4,i5,i6,i7])
  refine (DefaultReadShareGroupStateResponse_fn _ (blk_alloc_new rfl)).mono ?_
  rintro _ w1 ⟨hb1,hU1⟩
  have hz := World.size_alloc w (.cells #[.int .i16 0,.slice none 0 0,.map none] 188)
  repeat ((first | refine qA rfl ?_|refine qB ?_|refine qC rfl ?_|refine qD ?_|refine qE ?_|refine qF ?_|refine qG ?_|refine qH ?_);try simp (maxSteps:=1000000)(disch:=(first|omega|(simp only [qI,qJ,qK]<;>omega)|exact qL _)) only [go_sem,↓reduceIte,n0,reduceCtorEq,n1,n2,n3,n4,n5,i0,i1,i2,i3,i4,i5,i6,i7])
  exact ⟨hb1,(Upd.alloc (Upd.refl _ _) _ : Ext w _).more hU1 fun b hb h => by omega⟩

theorem SetVersionReadShareGroupStateResponse_fn (w : World) {vb : Nat} {c0 c1 c2 : Value} (n : Int) (hb : blk w vb = some (#[c0,c1,c2],188,(0,0))) :
    Fn Tryd.prog 116 #[.pointer (some ⟨vb,0,none⟩),.int .i16 n] w fun _ w' => blk w' vb = some (#[.int .i16 n,c1,c2],188,(0,0)) ∧ Upd (fun b => b = vb) w w' := by
  have hvl := blk_lt hb
  refine fn_of_W Tryd.func116 rfl Tryd.results116 Tryd.ntmps116 rfl ?_
  repeat ((first | refine qA rfl ?_|refine qB ?_|refine qC rfl ?_|refine qD ?_|refine qE ?_|refine qF ?_|refine qG ?_|refine qH ?_);try simp (maxSteps:=1000000)(disch:=(first|omega|(simp only [qI,qJ,qK]<;>omega)|exact qL _)) only [go_sem,↓reduceIte,n0,reduceCtorEq,n1,n2,n3,n4,n5,i0,i1,i2,i3,i4,i5,i6,i7,hb])
  first | exact Upd.wr (Upd.refl _ _) _ _ (.inr rfl) | exact ⟨by simp (maxSteps:=1000000)(disch:=(first|omega|(simp only [qI,qJ,qK]<;>omega)|exact qL _)) only [go_sem,↓reduceIte,n0,reduceCtorEq,n1,n2,n3,n4,n5,i0,i1,i2,i3,i4,i5,i6,i7,hb],Upd.wr (Upd.refl _ _) _ _ (.inr rfl)⟩

theorem MaxReadShareGroupStateResponse_fn (w : World) : Fn Tryd.prog 47 #[] w fun r w' => r = .int .i64 0 ∧ Ext w w' := by
  refine fn_of_W Tryd.func47 rfl Tryd.results47 Tryd.ntmps47 rfl ?_
  repeat ((first | refine qA rfl ?_|refine qB ?_|refine qC rfl ?_|refine qD ?_|refine qE ?_|refine qF ?_|refine qG ?_|refine qH ?_);try simp (maxSteps:=1000000)(disch:=(first|omega|(simp only [qI,qJ,qK]<;>omega)|exact qL _)) only [go_sem,↓reduceIte,n0,reduceCtorEq,n1,n2,n3,n4,n5,i0,i1,i2,i3,i4,i5,i6,i7])
  refine (NewPtrReadShareGroupStateResponse_fn w).mono ?_
  rintro _ w1 ⟨rfl,hb1,hE1⟩
  repeat ((first | refine qA rfl ?_|refine qB ?_|refine qC rfl ?_|refine qD ?_|refine qE ?_|refine qF ?_|refine qG ?_|refine qH ?_);try simp (maxSteps:=1000000)(disch:=(first|omega|(simp only [qI,qJ,qK]<;>omega)|exact qL _)) only [go_sem,↓reduceIte,n0,reduceCtorEq,n1,n2,n3,n4,n5,i0,i1,i2,i3,i4,i5,i6,i7])
  have hm : Fn Tryd.prog 115 #[.pointer (some ⟨w.heap.size,0,none⟩)] w1 fun r w' => r = .int .i16 0 ∧ w' = w1 := by
    refine fn_of_W Tryd.func115 rfl Tryd.results115 Tryd.ntmps115 rfl ?_
    repeat ((first | refine qA rfl ?_|refine qB ?_|refine qC rfl ?_|refine qD ?_|refine qE ?_|refine qF ?_|refine qG ?_|refine qH ?_);try simp (maxSteps:=1000000)(disch:=(first|omega|(simp only [qI,qJ,qK]<;>omega)|exact qL _)) only [go_sem,↓reduceIte,n0,reduceCtorEq,n1,n2,n3,n4,n5,i0,i1,i2,i3,i4,i5,i6,i7])
  refine hm.mono ?_
  rintro _ w2 ⟨rfl,rfl⟩
  have ew : IntKind.i64.wrap (0 : Int) = 0 := i64_wrap (by decide)
  repeat ((first | refine qA rfl ?_|refine qB ?_|refine qC rfl ?_|refine qD ?_|refine qE ?_|refine qF ?_|refine qG ?_|refine qH ?_);try simp (maxSteps:=1000000)(disch:=(first|omega|(simp only [qI,qJ,qK]<;>omega)|exact qL _)) only [go_sem,↓reduceIte,n0,reduceCtorEq,n1,n2,n3,n4,n5,i0,i1,i2,i3,i4,i5,i6,i7,ew])
  exact hE1
end Ms

namespace Ms
open Go.World renaming size_alloc → qI
open Ms renaming size_wr → qJ,size_drew → qK,not_noB → qL
open W renaming seqR → qA,seq → qB,regR → qC,condK → qD,block → qE,skip → qF,ret → qG,exit → qH
open Nat renaming reduceEqDiff → n0,reduceAdd → n1,reduceMul → n2,reduceSub → n3,reduceLT → n4,reduceLeDiff → n5
open Int renaming reduceEq → i0,reduceLT → i1,reduceLE → i2,reduceNeg → i3,reduceAdd → i4,reduceSub → i5,reduceMul → i6,reduceToNat → i7
set_option maxRecDepth 8000
open Go Go.Proofs Go.Shelf
attribute [local congr] W_congr WPsq_congr WPp_congr optK_congr addrK_congr intK_congr boolK_congr sliceK_congr tupleK_congr funcK_congr Fn_congr rawK_congr takeK_congr stepK_congr convK_congr aggK_congr

theorem utReadShareGroupStateResponse_186 : Tryd.prog.underlying 186 = some (.slice 193) := by kernel_rfl
theorem utReadShareGroupStateResponse_21 : Tryd.prog.underlying 21 = some (.int .i32) := by kernel_rfl
theorem inReadShareGroupStateResponse_193 : (Tryd.prog.info? 193).map (fun i => (i.size,i.bytes,i.zero.map (·.cells))) = some (18,48,some #[.int .u8 0,.int .u8 0,.int .u8 0,.int .u8 0,.int .u8 0,.int .u8 0,.int .u8 0,.int .u8 0,.int .u8 0,.int .u8 0,.int .u8 0,.int .u8 0,.int .u8 0,.int .u8 0,.int .u8 0,.int .u8 0,.slice none 0 0,.map none]) := by kernel_rfl
theorem utReadShareGroupStateResponse_191 : Tryd.prog.underlying 191 = some (.slice 276) := by kernel_rfl
theorem inReadShareGroupStateResponse_276 : (Tryd.prog.info? 276).map (fun i => (i.size,i.bytes,i.zero.map (·.cells))) = some (7,64,some #[.int .i32 0,.int .i16 0,.pointer none,.int .i32 0,.int .i64 0,.slice none 0 0,.map none]) := by kernel_rfl
theorem utReadShareGroupStateResponse_274 : Tryd.prog.underlying 274 = some (.slice 279) := by kernel_rfl
theorem inReadShareGroupStateResponse_279 : (Tryd.prog.info? 279).map (fun i => (i.size,i.bytes,i.zero.map (·.cells))) = some (5,32,some #[.int .i64 0,.int .i64 0,.int .i8 0,.int .i16 0,.map none]) := by kernel_rfl

theorem DefaultEX2_fn (w : World) {R k : Nat} {A B : List Value} {c0 c1 c2 c3 c4 c5 c6 c7 c8 c9 c10 c11 c12 c13 c14 c15 c16 c17 : Value} {E : TypeId} (hb : blk w R = some ((A ++ ([c0,c1,c2,c3,c4,c5,c6,c7,c8,c9,c10,c11,c12,c13,c14,c15,c16,c17] ++ B)).toArray,E,(0,0))) (hA : A.length = k) :
    Fn Tryd.prog 263 #[.pointer (some ⟨R,k,none⟩)] w fun _ w' => blk w' R = some ((A ++ ([c0,c1,c2,c3,c4,c5,c6,c7,c8,c9,c10,c11,c12,c13,c14,c15,c16,c17] ++ B)).toArray,E,(0,0)) ∧ Upd (fun b => b = R) w w' := by
  have hRl := blk_lt hb
  obtain ⟨X,hX⟩ : ∃ X : Array Value,X = (A ++ (([c0,c1,c2,c3,c4,c5,c6,c7,c8,c9,c10,c11,c12,c13,c14,c15,c16,c17] : List Value) ++ B)).toArray := ⟨_,rfl⟩
  have hXs : k + 18 ≤ X.size := by rw [hX];simp only [List.size_toArray,List.length_append,List.length_cons,List.length_nil,hA];omega
  have hb' : blk w R = some (X,E,(0,0)) := by rw [hX];exact hb
  refine fn_of_W Tryd.func263 rfl Tryd.results263 Tryd.ntmps263 rfl ?_
  repeat ((first | refine qA rfl ?_|refine qB ?_|refine qC rfl ?_|refine qD ?_|refine qE ?_|refine qF ?_|refine qG ?_|refine qH ?_);try simp (maxSteps:=1000000)(disch:=(first|omega|(simp only [qI,qJ,qK]<;>omega)|exact qL _)) only [go_sem,↓reduceIte,n0,reduceCtorEq,n1,n2,n3,n4,n5,i0,i1,i2,i3,i4,i5,i6,i7,hb',Array.size_setIfInBounds])
  first | exact ⟨hb,Upd.refl _ _⟩ | exact Upd.refl _ _ | (rw [hX];exact ⟨rfl,Upd.refl _ _⟩)

theorem DefaultEX1_fn (w : World) {R k : Nat} {A B : List Value} {c0 c1 c2 c3 c4 c5 c6 : Value} {E : TypeId} (hb : blk w R = some ((A ++ ([c0,c1,c2,c3,c4,c5,c6] ++ B)).toArray,E,(0,0))) (hA : A.length = k) :
    Fn Tryd.prog 264 #[.pointer (some ⟨R,k,none⟩)] w fun _ w' => blk w' R = some ((A ++ ([c0,c1,c2,c3,c4,c5,c6] ++ B)).toArray,E,(0,0)) ∧ Upd (fun b => b = R) w w' := by
  have hRl := blk_lt hb
  obtain ⟨X,hX⟩ : ∃ X : Array Value,X = (A ++ (([c0,c1,c2,c3,c4,c5,c6] : List Value) ++ B)).toArray := ⟨_,rfl⟩
  have hXs : k + 7 ≤ X.size := by rw [hX];simp only [List.size_toArray,List.length_append,List.length_cons,List.length_nil,hA];omega
  have hb' : blk w R = some (X,E,(0,0)) := by rw [hX];exact hb
  refine fn_of_W Tryd.func264 rfl Tryd.results264 Tryd.ntmps264 rfl ?_
  repeat ((first | refine qA rfl ?_|refine qB ?_|refine qC rfl ?_|refine qD ?_|refine qE ?_|refine qF ?_|refine qG ?_|refine qH ?_);try simp (maxSteps:=1000000)(disch:=(first|omega|(simp only [qI,qJ,qK]<;>omega)|exact qL _)) only [go_sem,↓reduceIte,n0,reduceCtorEq,n1,n2,n3,n4,n5,i0,i1,i2,i3,i4,i5,i6,i7,hb',Array.size_setIfInBounds])
  first | exact ⟨hb,Upd.refl _ _⟩ | exact Upd.refl _ _ | (rw [hX];exact ⟨rfl,Upd.refl _ _⟩)

theorem DefaultEX0_fn (w : World) {R k : Nat} {A B : List Value} {c0 c1 c2 c3 c4 : Value} {E : TypeId} (hb : blk w R = some ((A ++ ([c0,c1,c2,c3,c4] ++ B)).toArray,E,(0,0))) (hA : A.length = k) :
    Fn Tryd.prog 265 #[.pointer (some ⟨R,k,none⟩)] w fun _ w' => blk w' R = some ((A ++ ([c0,c1,c2,c3,c4] ++ B)).toArray,E,(0,0)) ∧ Upd (fun b => b = R) w w' := by
  have hRl := blk_lt hb
  obtain ⟨X,hX⟩ : ∃ X : Array Value,X = (A ++ (([c0,c1,c2,c3,c4] : List Value) ++ B)).toArray := ⟨_,rfl⟩
  have hXs : k + 5 ≤ X.size := by rw [hX];simp only [List.size_toArray,List.length_append,List.length_cons,List.length_nil,hA];omega
  have hb' : blk w R = some (X,E,(0,0)) := by rw [hX];exact hb
  refine fn_of_W Tryd.func265 rfl Tryd.results265 Tryd.ntmps265 rfl ?_
  repeat ((first | refine qA rfl ?_|refine qB ?_|refine qC rfl ?_|refine qD ?_|refine qE ?_|refine qF ?_|refine qG ?_|refine qH ?_);try simp (maxSteps:=1000000)(disch:=(first|omega|(simp only [qI,qJ,qK]<;>omega)|exact qL _)) only [go_sem,↓reduceIte,n0,reduceCtorEq,n1,n2,n3,n4,n5,i0,i1,i2,i3,i4,i5,i6,i7,hb',Array.size_setIfInBounds])
  first | exact ⟨hb,Upd.refl _ _⟩ | exact Upd.refl _ _ | (rw [hX];exact ⟨rfl,Upd.refl _ _⟩)
end Ms

