/- A part of the proof: see the last text. -/
import Derived.Test.YthekgkekchicgaaDoorC04
import Derived.Test.YthekgkekchicgaaDoorC06
import Derived.Test.YthekgkekchicgaaDoorC08
set_option linter.unusedSimpArgs false
set_option linter.unusedVariables false
namespace Ms
open Nat renaming reduceEqDiff → n0,reduceAdd → n1,reduceMul → n2,reduceSub → n3,reduceLT → n4,reduceLeDiff → n5
open Int renaming reduceEq → i0,reduceLT → i1,reduceLE → i2,reduceNeg → i3,reduceAdd → i4,reduceSub → i5,reduceMul → i6,reduceToNat → i7
set_option maxRecDepth 4000
open Go Go.Proofs
theorem ap_23_23 : AppT Tryd.prog 23 23 26 5 88 := AppT.of (by kernel_rfl)
theorem ap_24_24 : AppT Tryd.prog 24 24 65 2 32 := AppT.of (by kernel_rfl)
theorem ca_126 : callable Tryd.prog 126 = true := nr (by kernel_rfl)
theorem ca_127 : callable Tryd.prog 127 = true := nr (by kernel_rfl)
theorem ca_128 : callable Tryd.prog 128 = true := nr (by kernel_rfl)
theorem ca_129 : callable Tryd.prog 129 = true := nr (by kernel_rfl)
theorem ca_130 : callable Tryd.prog 130 = true := nr (by kernel_rfl)
theorem ca_131 : callable Tryd.prog 131 = true := nr (by kernel_rfl)
theorem ca_140 : callable Tryd.prog 140 = true := nr (by kernel_rfl)
theorem ca_142 : callable Tryd.prog 142 = true := nr (by kernel_rfl)
theorem ca_188 : callable Tryd.prog 188 = true := nr (by kernel_rfl)
theorem ca_189 : callable Tryd.prog 189 = true := nr (by kernel_rfl)
theorem ca_190 : callable Tryd.prog 190 = true := nr (by kernel_rfl)
theorem ca_191 : callable Tryd.prog 191 = true := nr (by kernel_rfl)
theorem ca_198 : callable Tryd.prog 198 = true := nr (by kernel_rfl)
theorem ca_200 : callable Tryd.prog 200 = true := nr (by kernel_rfl)
theorem ca_201 : callable Tryd.prog 201 = true := nr (by kernel_rfl)
theorem ca_202 : callable Tryd.prog 202 = true := nr (by kernel_rfl)
theorem ca_203 : callable Tryd.prog 203 = true := nr (by kernel_rfl)
theorem ca_208 : callable Tryd.prog 208 = true := nr (by kernel_rfl)
theorem ca_219 : callable Tryd.prog 219 = true := nr (by kernel_rfl)
theorem ca_220 : callable Tryd.prog 220 = true := nr (by kernel_rfl)
theorem ca_221 : callable Tryd.prog 221 = true := nr (by kernel_rfl)
theorem ca_224 : callable Tryd.prog 224 = true := nr (by kernel_rfl)
theorem ca_24 : callable Tryd.prog 24 = true := nr (by kernel_rfl)
theorem ca_249 : callable Tryd.prog 249 = true := nr (by kernel_rfl)
theorem ca_250 : callable Tryd.prog 250 = true := nr (by kernel_rfl)
theorem ca_252 : callable Tryd.prog 252 = true := nr (by kernel_rfl)
theorem ca_273 : callable Tryd.prog 273 = true := nr (by kernel_rfl)
theorem ca_274 : callable Tryd.prog 274 = true := nr (by kernel_rfl)
theorem ca_275 : callable Tryd.prog 275 = true := nr (by kernel_rfl)
theorem ca_276 : callable Tryd.prog 276 = true := nr (by kernel_rfl)
theorem ca_309 : callable Tryd.prog 309 = true := nr (by kernel_rfl)
theorem ca_53 : callable Tryd.prog 53 = true := nr (by kernel_rfl)
theorem ca_54 : callable Tryd.prog 54 = true := nr (by kernel_rfl)
theorem ca_55 : callable Tryd.prog 55 = true := nr (by kernel_rfl)
theorem es_202 : elemSize Tryd.prog 202 = some 11 := nr (by kernel_rfl)
theorem es_207 : elemSize Tryd.prog 207 = some 3 := nr (by kernel_rfl)
theorem fo_204_0 : fieldOff Tryd.prog 204 0 = some 0 := nr (by kernel_rfl)
theorem fo_204_1 : fieldOff Tryd.prog 204 1 = some 1 := nr (by kernel_rfl)
theorem fo_204_2 : fieldOff Tryd.prog 204 2 = some 2 := nr (by kernel_rfl)
theorem fo_204_3 : fieldOff Tryd.prog 204 3 = some 3 := nr (by kernel_rfl)
theorem fo_204_4 : fieldOff Tryd.prog 204 4 = some 4 := nr (by kernel_rfl)
theorem fo_209_0 : fieldOff Tryd.prog 209 0 = some 0 := nr (by kernel_rfl)
theorem fo_209_1 : fieldOff Tryd.prog 209 1 = some 1 := nr (by kernel_rfl)
theorem fo_209_10 : fieldOff Tryd.prog 209 10 = some 10 := nr (by kernel_rfl)
theorem fo_209_2 : fieldOff Tryd.prog 209 2 = some 2 := nr (by kernel_rfl)
theorem fo_209_3 : fieldOff Tryd.prog 209 3 = some 3 := nr (by kernel_rfl)
theorem fo_209_4 : fieldOff Tryd.prog 209 4 = some 4 := nr (by kernel_rfl)
theorem fo_209_5 : fieldOff Tryd.prog 209 5 = some 5 := nr (by kernel_rfl)
theorem fo_209_6 : fieldOff Tryd.prog 209 6 = some 6 := nr (by kernel_rfl)
theorem fo_209_7 : fieldOff Tryd.prog 209 7 = some 7 := nr (by kernel_rfl)
theorem fo_209_8 : fieldOff Tryd.prog 209 8 = some 8 := nr (by kernel_rfl)
theorem fo_209_9 : fieldOff Tryd.prog 209 9 = some 9 := nr (by kernel_rfl)
theorem fo_291_0 : fieldOff Tryd.prog 291 0 = some 0 := nr (by kernel_rfl)
theorem fo_291_1 : fieldOff Tryd.prog 291 1 = some 1 := nr (by kernel_rfl)
theorem fo_291_2 : fieldOff Tryd.prog 291 2 = some 2 := nr (by kernel_rfl)
theorem if_54 : isIfaceT Tryd.prog 54 = true := nr (by kernel_rfl)
theorem kn_3 : knownT Tryd.prog 3 = true := nr (by kernel_rfl)
theorem ld_202 (w : World) (b o : Nat) : loadOf Tryd.prog 202 w ⟨b,o,none⟩ = (blk w b).bind fun x => x.1[o]? := loadOf_one (by kernel_rfl) w b o
theorem ld_207 (w : World) (b o : Nat) : loadOf Tryd.prog 207 w ⟨b,o,none⟩ = (blk w b).bind fun x => x.1[o]? := loadOf_one (by kernel_rfl) w b o
theorem ld_21 (w : World) (b o : Nat) : loadOf Tryd.prog 21 w ⟨b,o,none⟩ = (blk w b).bind fun x => x.1[o]? := loadOf_one (by kernel_rfl) w b o
theorem ld_45 (w : World) (b o : Nat) : loadOf Tryd.prog 45 w ⟨b,o,none⟩ = (blk w b).bind fun x => x.1[o]? := loadOf_one (by kernel_rfl) w b o
theorem pl_224 : placesOf Tryd.prog 224 = some [(0,1),(1,1)] := nr (by kernel_rfl)
theorem pl_65 : placesOf Tryd.prog 65 = some [(0,1),(1,1)] := nr (by kernel_rfl)
theorem se_23 : slElem Tryd.prog 23 = some (26,5) := nr (by kernel_rfl)
theorem se_24 : slElem Tryd.prog 24 = some (65,2) := nr (by kernel_rfl)
theorem sl_202 : isSliceT Tryd.prog 202 = true := nr (by kernel_rfl)
theorem sl_207 : isSliceT Tryd.prog 207 = true := nr (by kernel_rfl)
theorem sz_2 (w : World) (b o : Nat) (v : Value) : storeOf Tryd.prog 2 w ⟨b,o,none⟩ v = (blk w b).bind fun x => stO w b o v x 1 := storeOf_n (by kernel_rfl) w b o v
theorem sz_202 (w : World) (b o : Nat) (v : Value) : storeOf Tryd.prog 202 w ⟨b,o,none⟩ v = (blk w b).bind fun x => stO w b o v x 1 := storeOf_n (by kernel_rfl) w b o v
theorem sz_207 (w : World) (b o : Nat) (v : Value) : storeOf Tryd.prog 207 w ⟨b,o,none⟩ v = (blk w b).bind fun x => stO w b o v x 1 := storeOf_n (by kernel_rfl) w b o v
theorem sz_21 (w : World) (b o : Nat) (v : Value) : storeOf Tryd.prog 21 w ⟨b,o,none⟩ v = (blk w b).bind fun x => stO w b o v x 1 := storeOf_n (by kernel_rfl) w b o v
theorem sz_224 (w : World) (b o : Nat) (v : Value) : storeOf Tryd.prog 224 w ⟨b,o,none⟩ v = (blk w b).bind fun x => stO w b o v x 2 := storeOf_n (by kernel_rfl) w b o v
theorem sz_23 (w : World) (b o : Nat) (v : Value) : storeOf Tryd.prog 23 w ⟨b,o,none⟩ v = (blk w b).bind fun x => stO w b o v x 1 := storeOf_n (by kernel_rfl) w b o v
theorem sz_24 (w : World) (b o : Nat) (v : Value) : storeOf Tryd.prog 24 w ⟨b,o,none⟩ v = (blk w b).bind fun x => stO w b o v x 1 := storeOf_n (by kernel_rfl) w b o v
theorem sz_45 (w : World) (b o : Nat) (v : Value) : storeOf Tryd.prog 45 w ⟨b,o,none⟩ v = (blk w b).bind fun x => stO w b o v x 1 := storeOf_n (by kernel_rfl) w b o v
theorem z_204 : zeroOf Tryd.prog 204 = some #[.int .i16 0,.int .i16 0,.slice none 0 0,.int .i32 0,.map none] := nr (by kernel_rfl)
theorem z_224 : zeroOf Tryd.prog 224 = some #[.slice none 0 0,.bool false] := nr (by kernel_rfl)
theorem z_4 : zeroOf Tryd.prog 4 = some #[.bool false] := nr (by kernel_rfl)
attribute [go_sem] ca_126 ca_127 ca_128 ca_129 ca_130 ca_131 ca_140 ca_142 ca_188 ca_189 ca_190 ca_191 ca_198 ca_200 ca_201 ca_202 ca_203 ca_208 ca_219 ca_220 ca_221 ca_224 ca_24 ca_249 ca_250 ca_252 ca_273 ca_274 ca_275 ca_276 ca_309 ca_53 ca_54 ca_55 es_202 es_207 fo_204_0 fo_204_1 fo_204_2 fo_204_3 fo_204_4 fo_209_0 fo_209_1 fo_209_10 fo_209_2 fo_209_3 fo_209_4 fo_209_5 fo_209_6 fo_209_7 fo_209_8 fo_209_9 fo_291_0 fo_291_1 fo_291_2 if_54 kn_3 ld_202 ld_207 ld_21 ld_45 pl_224 pl_65 se_23 se_24 sl_202 sl_207 sz_2 sz_202 sz_207 sz_21 sz_224 sz_23 sz_24 sz_45 z_204 z_224 z_4
end Ms

namespace Ms
open Go.World renaming size_alloc → qI
open Ms renaming size_wr → qJ,size_drew → qK,not_noB → qL
open W renaming seqR → qA,seq → qB,regR → qC,condK → qD,block → qE,skip → qF,ret → qG,exit → qH
open Nat renaming reduceEqDiff → n0,reduceAdd → n1,reduceMul → n2,reduceSub → n3,reduceLT → n4,reduceLeDiff → n5
open Int renaming reduceEq → i0,reduceLT → i1,reduceLE → i2,reduceNeg → i3,reduceAdd → i4,reduceSub → i5,reduceMul → i6,reduceToNat → i7
set_option maxRecDepth 8000
open Go Go.Proofs Go.Shelf
attribute [local congr] W_congr WPsq_congr WPp_congr optK_congr addrK_congr intK_congr boolK_congr sliceK_congr tupleK_congr funcK_congr Fn_congr rawK_congr takeK_congr stepK_congr convK_congr aggK_congr

def fX0_0 : Fld := .mk 8 0 (-1) (-1) (-1) 0 0 []
def fX0_1 : Fld := .mk 8 0 (-1) (-1) (-1) 0 0 []
def fs_X0 : List Fld := [fX0_0,fX0_1]
def fX1_0 : Fld := .mk 8 0 (-1) (-1) (-1) 0 0 []
def fX1_1 : Fld := .mk 8 0 (-1) (-1) (-1) 0 0 []
def fX1_2 : Fld := .mk 8 3 (-1) (-1) (-1) 0 0 []
def fX1_3 : Fld := .mk 8 3 (-1) (-1) (-1) 0 0 []
def fX1_4 : Fld := .mk 4 0 (-1) (-1) (-1) 0 0 []
def fX1_5 : Fld := .mk 4 0 (-1) (-1) (-1) 0 0 []
def fX1_6 : Fld := .mk 4 0 (-1) (-1) (-1) 0 0 []
def fX1_7 : Fld := .mk 8 0 (-1) (-1) (-1) 0 0 []
def fX1_8 : Fld := .mk 9 0 (-1) (-1) (-1) 0 0 []
def fX1_9 : Fld := .mk 11 0 (-1) (-1) (-1) 0 10 fs_X0
def fs_X1 : List Fld := [fX1_0,fX1_1,fX1_2,fX1_3,fX1_4,fX1_5,fX1_6,fX1_7,fX1_8,fX1_9]
def fDescribeDelegationTokenResponse_0 : Fld := .mk 2 0 (-1) (-1) (-1) 0 0 []
def fDescribeDelegationTokenResponse_1 : Fld := .mk 11 0 (-1) (-1) (-1) 0 10 fs_X1
def fDescribeDelegationTokenResponse_2 : Fld := .mk 3 0 (-1) (-1) (-1) 0 0 []
def fs_DescribeDelegationTokenResponse : List Fld := [fDescribeDelegationTokenResponse_0,fDescribeDelegationTokenResponse_1,fDescribeDelegationTokenResponse_2]

theorem DefaultDescribeDelegationTokenResponse_fn (w : World) {vb : Nat} {c0 c1 c2 c3 c4 : Value} (hb : blk w vb = some (#[c0,c1,c2,c3,c4],204,(0,0))) :
    Fn Tryd.prog 188 #[.pointer (some ⟨vb,0,none⟩)] w fun _ w' => blk w' vb = some (#[c0,c1,c2,c3,c4],204,(0,0)) ∧ Upd (fun b => b = vb) w w' := by
  have hvl := blk_lt hb
  refine fn_of_W Tryd.func188 rfl Tryd.results188 Tryd.ntmps188 rfl ?_
  repeat ((first | refine qA rfl ?_|refine qB ?_|refine qC rfl ?_|refine qD ?_|refine qE ?_|refine qF ?_|refine qG ?_|refine qH ?_);try simp (maxSteps:=1000000)(disch:=(first|omega|(simp only [qI,qJ,qK]<;>omega)|exact qL _)) only [go_sem,↓reduceIte,n0,reduceCtorEq,n1,n2,n3,n4,n5,i0,i1,i2,i3,i4,i5,i6,i7,hb])
  first | exact Upd.refl _ _ | exact ⟨hb,Upd.refl _ _⟩

theorem NewPtrDescribeDelegationTokenResponse_fn (w : World) : Fn Tryd.prog 126 #[] w fun r w' => r = .pointer (some ⟨w.heap.size,0,none⟩) ∧ blk w' w.heap.size = some (#[.int .i16 0,.int .i16 0,.slice none 0 0,.int .i32 0,.map none],204,(0,0)) ∧ Ext w w' := by
  refine fn_of_W Tryd.func126 rfl Tryd.results126 Tryd.ntmps126 rfl ?_
  repeat ((first | refine qA rfl ?_|refine qB ?_|refine qC rfl ?_|refine qD ?_|refine qE ?_|refine qF ?_|refine qG ?_|refine qH ?_);try simp (maxSteps:=1000000)(disch:=(first|omega|(simp only [qI,qJ,qK]<;>omega)|exact qL _)) only [go_sem,↓reduceIte,n0,reduceCtorEq,n1,n2,n3,n4,n5,i0,i1,i2,i3,i4,i5,i6,i7])
  refine (DefaultDescribeDelegationTokenResponse_fn _ (blk_alloc_new rfl)).mono ?_
  rintro _ w1 ⟨hb1,hU1⟩
  have hz := World.size_alloc w (.cells #[.int .i16 0,.int .i16 0,.slice none 0 0,.int .i32 0,.map none] 204)
  repeat ((first | refine qA rfl ?_|refine qB ?_|refine qC rfl ?_|refine qD ?_|refine qE ?_|refine qF ?_|refine qG ?_|refine qH ?_);try simp (maxSteps:=1000000)(disch:=(first|omega|(simp only [qI,qJ,qK]<;>omega)|exact qL _)) only [go_sem,↓reduceIte,n0,reduceCtorEq,n1,n2,n3,n4,n5,i0,i1,i2,i3,i4,i5,i6,i7])
  exact ⟨hb1,(Upd.alloc (Upd.refl _ _) _ : Ext w _).more hU1 fun b hb h => by omega⟩

theorem SetVersionDescribeDelegationTokenResponse_fn (w : World) {vb : Nat} {c0 c1 c2 c3 c4 : Value} (n : Int) (hb : blk w vb = some (#[c0,c1,c2,c3,c4],204,(0,0))) :
    Fn Tryd.prog 128 #[.pointer (some ⟨vb,0,none⟩),.int .i16 n] w fun _ w' => blk w' vb = some (#[.int .i16 n,c1,c2,c3,c4],204,(0,0)) ∧ Upd (fun b => b = vb) w w' := by
  have hvl := blk_lt hb
  refine fn_of_W Tryd.func128 rfl Tryd.results128 Tryd.ntmps128 rfl ?_
  repeat ((first | refine qA rfl ?_|refine qB ?_|refine qC rfl ?_|refine qD ?_|refine qE ?_|refine qF ?_|refine qG ?_|refine qH ?_);try simp (maxSteps:=1000000)(disch:=(first|omega|(simp only [qI,qJ,qK]<;>omega)|exact qL _)) only [go_sem,↓reduceIte,n0,reduceCtorEq,n1,n2,n3,n4,n5,i0,i1,i2,i3,i4,i5,i6,i7,hb])
  first | exact Upd.wr (Upd.refl _ _) _ _ (.inr rfl) | exact ⟨by simp (maxSteps:=1000000)(disch:=(first|omega|(simp only [qI,qJ,qK]<;>omega)|exact qL _)) only [go_sem,↓reduceIte,n0,reduceCtorEq,n1,n2,n3,n4,n5,i0,i1,i2,i3,i4,i5,i6,i7,hb],Upd.wr (Upd.refl _ _) _ _ (.inr rfl)⟩

theorem MaxDescribeDelegationTokenResponse_fn (w : World) : Fn Tryd.prog 53 #[] w fun r w' => r = .int .i64 3 ∧ Ext w w' := by
  refine fn_of_W Tryd.func53 rfl Tryd.results53 Tryd.ntmps53 rfl ?_
  repeat ((first | refine qA rfl ?_|refine qB ?_|refine qC rfl ?_|refine qD ?_|refine qE ?_|refine qF ?_|refine qG ?_|refine qH ?_);try simp (maxSteps:=1000000)(disch:=(first|omega|(simp only [qI,qJ,qK]<;>omega)|exact qL _)) only [go_sem,↓reduceIte,n0,reduceCtorEq,n1,n2,n3,n4,n5,i0,i1,i2,i3,i4,i5,i6,i7])
  refine (NewPtrDescribeDelegationTokenResponse_fn w).mono ?_
  rintro _ w1 ⟨rfl,hb1,hE1⟩
  repeat ((first | refine qA rfl ?_|refine qB ?_|refine qC rfl ?_|refine qD ?_|refine qE ?_|refine qF ?_|refine qG ?_|refine qH ?_);try simp (maxSteps:=1000000)(disch:=(first|omega|(simp only [qI,qJ,qK]<;>omega)|exact qL _)) only [go_sem,↓reduceIte,n0,reduceCtorEq,n1,n2,n3,n4,n5,i0,i1,i2,i3,i4,i5,i6,i7])
  have hm : Fn Tryd.prog 127 #[.pointer (some ⟨w.heap.size,0,none⟩)] w1 fun r w' => r = .int .i16 3 ∧ w' = w1 := by
    refine fn_of_W Tryd.func127 rfl Tryd.results127 Tryd.ntmps127 rfl ?_
    repeat ((first | refine qA rfl ?_|refine qB ?_|refine qC rfl ?_|refine qD ?_|refine qE ?_|refine qF ?_|refine qG ?_|refine qH ?_);try simp (maxSteps:=1000000)(disch:=(first|omega|(simp only [qI,qJ,qK]<;>omega)|exact qL _)) only [go_sem,↓reduceIte,n0,reduceCtorEq,n1,n2,n3,n4,n5,i0,i1,i2,i3,i4,i5,i6,i7])
  refine hm.mono ?_
  rintro _ w2 ⟨rfl,rfl⟩
  have ew : IntKind.i64.wrap (3 : Int) = 3 := i64_wrap (by decide)
  repeat ((first | refine qA rfl ?_|refine qB ?_|refine qC rfl ?_|refine qD ?_|refine qE ?_|refine qF ?_|refine qG ?_|refine qH ?_);try simp (maxSteps:=1000000)(disch:=(first|omega|(simp only [qI,qJ,qK]<;>omega)|exact qL _)) only [go_sem,↓reduceIte,n0,reduceCtorEq,n1,n2,n3,n4,n5,i0,i1,i2,i3,i4,i5,i6,i7,ew])
  exact hE1
end Ms

namespace Ms
open Go.World renaming size_alloc → qI
open Ms renaming size_wr → qJ,size_drew → qK,not_noB → qL
open W renaming seqR → qA,seq → qB,regR → qC,condK → qD,block → qE,skip → qF,ret → qG,exit → qH
open Nat renaming reduceEqDiff → n0,reduceAdd → n1,reduceMul → n2,reduceSub → n3,reduceLT → n4,reduceLeDiff → n5
open Int renaming reduceEq → i0,reduceLT → i1,reduceLE → i2,reduceNeg → i3,reduceAdd → i4,reduceSub → i5,reduceMul → i6,reduceToNat → i7
set_option maxRecDepth 8000
open Go Go.Proofs Go.Shelf
attribute [local congr] W_congr WPsq_congr WPp_congr optK_congr addrK_congr intK_congr boolK_congr sliceK_congr tupleK_congr funcK_congr Fn_congr rawK_congr takeK_congr stepK_congr convK_congr aggK_congr

theorem utDescribeDelegationTokenResponse_202 : Tryd.prog.underlying 202 = some (.slice 209) := by kernel_rfl
theorem utDescribeDelegationTokenResponse_21 : Tryd.prog.underlying 21 = some (.int .i32) := by kernel_rfl
theorem inDescribeDelegationTokenResponse_209 : (Tryd.prog.info? 209).map (fun i => (i.size,i.bytes,i.zero.map (·.cells))) = some (11,160,some #[.string ByteArray.empty,.string ByteArray.empty,.string ByteArray.empty,.string ByteArray.empty,.int .i64 0,.int .i64 0,.int .i64 0,.string ByteArray.empty,.slice none 0 0,.slice none 0 0,.map none]) := by kernel_rfl
theorem utDescribeDelegationTokenResponse_207 : Tryd.prog.underlying 207 = some (.slice 291) := by kernel_rfl
theorem inDescribeDelegationTokenResponse_291 : (Tryd.prog.info? 291).map (fun i => (i.size,i.bytes,i.zero.map (·.cells))) = some (3,40,some #[.string ByteArray.empty,.string ByteArray.empty,.map none]) := by kernel_rfl

theorem DefaultEX1_fn (w : World) {R k : Nat} {A B : List Value} {c0 c1 c2 c3 c4 c5 c6 c7 c8 c9 c10 : Value} {E : TypeId} (hb : blk w R = some ((A ++ ([c0,c1,c2,c3,c4,c5,c6,c7,c8,c9,c10] ++ B)).toArray,E,(0,0))) (hA : A.length = k) :
    Fn Tryd.prog 273 #[.pointer (some ⟨R,k,none⟩)] w fun _ w' => blk w' R = some ((A ++ ([c0,c1,c2,c3,c4,c5,c6,c7,c8,c9,c10] ++ B)).toArray,E,(0,0)) ∧ Upd (fun b => b = R) w w' := by
  have hRl := blk_lt hb
  obtain ⟨X,hX⟩ : ∃ X : Array Value,X = (A ++ (([c0,c1,c2,c3,c4,c5,c6,c7,c8,c9,c10] : List Value) ++ B)).toArray := ⟨_,rfl⟩
  have hXs : k + 11 ≤ X.size := by rw [hX];simp only [List.size_toArray,List.length_append,List.length_cons,List.length_nil,hA];omega
  have hb' : blk w R = some (X,E,(0,0)) := by rw [hX];exact hb
  refine fn_of_W Tryd.func273 rfl Tryd.results273 Tryd.ntmps273 rfl ?_
  repeat ((first | refine qA rfl ?_|refine qB ?_|refine qC rfl ?_|refine qD ?_|refine qE ?_|refine qF ?_|refine qG ?_|refine qH ?_);try simp (maxSteps:=1000000)(disch:=(first|omega|(simp only [qI,qJ,qK]<;>omega)|exact qL _)) only [go_sem,↓reduceIte,n0,reduceCtorEq,n1,n2,n3,n4,n5,i0,i1,i2,i3,i4,i5,i6,i7,hb',Array.size_setIfInBounds])
  first | exact ⟨hb,Upd.refl _ _⟩ | exact Upd.refl _ _ | (rw [hX];exact ⟨rfl,Upd.refl _ _⟩)

theorem DefaultEX0_fn (w : World) {R k : Nat} {A B : List Value} {c0 c1 c2 : Value} {E : TypeId} (hb : blk w R = some ((A ++ ([c0,c1,c2] ++ B)).toArray,E,(0,0))) (hA : A.length = k) :
    Fn Tryd.prog 274 #[.pointer (some ⟨R,k,none⟩)] w fun _ w' => blk w' R = some ((A ++ ([c0,c1,c2] ++ B)).toArray,E,(0,0)) ∧ Upd (fun b => b = R) w w' := by
  have hRl := blk_lt hb
  obtain ⟨X,hX⟩ : ∃ X : Array Value,X = (A ++ (([c0,c1,c2] : List Value) ++ B)).toArray := ⟨_,rfl⟩
  have hXs : k + 3 ≤ X.size := by rw [hX];simp only [List.size_toArray,List.length_append,List.length_cons,List.length_nil,hA];omega
  have hb' : blk w R = some (X,E,(0,0)) := by rw [hX];exact hb
  refine fn_of_W Tryd.func274 rfl Tryd.results274 Tryd.ntmps274 rfl ?_
  repeat ((first | refine qA rfl ?_|refine qB ?_|refine qC rfl ?_|refine qD ?_|refine qE ?_|refine qF ?_|refine qG ?_|refine qH ?_);try simp (maxSteps:=1000000)(disch:=(first|omega|(simp only [qI,qJ,qK]<;>omega)|exact qL _)) only [go_sem,↓reduceIte,n0,reduceCtorEq,n1,n2,n3,n4,n5,i0,i1,i2,i3,i4,i5,i6,i7,hb',Array.size_setIfInBounds])
  first | exact ⟨hb,Upd.refl _ _⟩ | exact Upd.refl _ _ | (rw [hX];exact ⟨rfl,Upd.refl _ _⟩)
end Ms

