/- A part of the proof: see the last text. -/
import Derived.Test.YthekgkekchicgaaDoorC04
import Derived.Test.YthekgkekchicgaaDoorC06
import Derived.Test.YthekgkekchicgaaDoorC08
set_option linter.unusedSimpArgs false
set_option linter.unusedVariables false
namespace Ms
open Nat renaming reduceEqDiff → n0,reduceAdd → n1,reduceMul → n2,reduceSub → n3,reduceLT → n4,reduceLeDiff → n5
open Int renaming reduceEq → i0,reduceLT → i1,reduceLE → i2,reduceNeg → i3,reduceAdd → i4,reduceSub → i5,reduceMul → i6,reduceToNat → i7
set_option maxRecDepth 4000
open Go Go.Proofs
theorem ap_23_23 : AppT Tryd.prog 23 23 26 5 88 := AppT.of (by kernel_rfl)
theorem ap_24_24 : AppT Tryd.prog 24 24 65 2 32 := AppT.of (by kernel_rfl)
theorem ca_100 : callable Tryd.prog 100 = true := nr (by kernel_rfl)
theorem ca_101 : callable Tryd.prog 101 = true := nr (by kernel_rfl)
theorem ca_140 : callable Tryd.prog 140 = true := nr (by kernel_rfl)
theorem ca_142 : callable Tryd.prog 142 = true := nr (by kernel_rfl)
theorem ca_165 : callable Tryd.prog 165 = true := nr (by kernel_rfl)
theorem ca_166 : callable Tryd.prog 166 = true := nr (by kernel_rfl)
theorem ca_167 : callable Tryd.prog 167 = true := nr (by kernel_rfl)
theorem ca_168 : callable Tryd.prog 168 = true := nr (by kernel_rfl)
theorem ca_169 : callable Tryd.prog 169 = true := nr (by kernel_rfl)
theorem ca_200 : callable Tryd.prog 200 = true := nr (by kernel_rfl)
theorem ca_201 : callable Tryd.prog 201 = true := nr (by kernel_rfl)
theorem ca_202 : callable Tryd.prog 202 = true := nr (by kernel_rfl)
theorem ca_203 : callable Tryd.prog 203 = true := nr (by kernel_rfl)
theorem ca_208 : callable Tryd.prog 208 = true := nr (by kernel_rfl)
theorem ca_219 : callable Tryd.prog 219 = true := nr (by kernel_rfl)
theorem ca_220 : callable Tryd.prog 220 = true := nr (by kernel_rfl)
theorem ca_221 : callable Tryd.prog 221 = true := nr (by kernel_rfl)
theorem ca_224 : callable Tryd.prog 224 = true := nr (by kernel_rfl)
theorem ca_24 : callable Tryd.prog 24 = true := nr (by kernel_rfl)
theorem ca_244 : callable Tryd.prog 244 = true := nr (by kernel_rfl)
theorem ca_247 : callable Tryd.prog 247 = true := nr (by kernel_rfl)
theorem ca_248 : callable Tryd.prog 248 = true := nr (by kernel_rfl)
theorem ca_249 : callable Tryd.prog 249 = true := nr (by kernel_rfl)
theorem ca_250 : callable Tryd.prog 250 = true := nr (by kernel_rfl)
theorem ca_251 : callable Tryd.prog 251 = true := nr (by kernel_rfl)
theorem ca_252 : callable Tryd.prog 252 = true := nr (by kernel_rfl)
theorem ca_253 : callable Tryd.prog 253 = true := nr (by kernel_rfl)
theorem ca_38 : callable Tryd.prog 38 = true := nr (by kernel_rfl)
theorem ca_39 : callable Tryd.prog 39 = true := nr (by kernel_rfl)
theorem ca_40 : callable Tryd.prog 40 = true := nr (by kernel_rfl)
theorem ca_96 : callable Tryd.prog 96 = true := nr (by kernel_rfl)
theorem ca_97 : callable Tryd.prog 97 = true := nr (by kernel_rfl)
theorem ca_98 : callable Tryd.prog 98 = true := nr (by kernel_rfl)
theorem ca_99 : callable Tryd.prog 99 = true := nr (by kernel_rfl)
theorem es_152 : elemSize Tryd.prog 152 = some 3 := nr (by kernel_rfl)
theorem es_153 : elemSize Tryd.prog 153 = some 6 := nr (by kernel_rfl)
theorem fo_155_0 : fieldOff Tryd.prog 155 0 = some 0 := nr (by kernel_rfl)
theorem fo_155_1 : fieldOff Tryd.prog 155 1 = some 1 := nr (by kernel_rfl)
theorem fo_155_2 : fieldOff Tryd.prog 155 2 = some 2 := nr (by kernel_rfl)
theorem fo_155_3 : fieldOff Tryd.prog 155 3 = some 3 := nr (by kernel_rfl)
theorem fo_159_0 : fieldOff Tryd.prog 159 0 = some 0 := nr (by kernel_rfl)
theorem fo_159_1 : fieldOff Tryd.prog 159 1 = some 1 := nr (by kernel_rfl)
theorem fo_159_2 : fieldOff Tryd.prog 159 2 = some 2 := nr (by kernel_rfl)
theorem fo_163_0 : fieldOff Tryd.prog 163 0 = some 0 := nr (by kernel_rfl)
theorem fo_163_1 : fieldOff Tryd.prog 163 1 = some 1 := nr (by kernel_rfl)
theorem fo_163_2 : fieldOff Tryd.prog 163 2 = some 2 := nr (by kernel_rfl)
theorem fo_163_3 : fieldOff Tryd.prog 163 3 = some 3 := nr (by kernel_rfl)
theorem fo_163_4 : fieldOff Tryd.prog 163 4 = some 4 := nr (by kernel_rfl)
theorem fo_163_5 : fieldOff Tryd.prog 163 5 = some 5 := nr (by kernel_rfl)
theorem if_54 : isIfaceT Tryd.prog 54 = true := nr (by kernel_rfl)
theorem kn_146 : knownT Tryd.prog 146 = true := nr (by kernel_rfl)
theorem kn_3 : knownT Tryd.prog 3 = true := nr (by kernel_rfl)
theorem ld_146 (w : World) (b o : Nat) : loadOf Tryd.prog 146 w ⟨b,o,none⟩ = (blk w b).bind fun x => x.1[o]? := loadOf_one (by kernel_rfl) w b o
theorem ld_152 (w : World) (b o : Nat) : loadOf Tryd.prog 152 w ⟨b,o,none⟩ = (blk w b).bind fun x => x.1[o]? := loadOf_one (by kernel_rfl) w b o
theorem ld_153 (w : World) (b o : Nat) : loadOf Tryd.prog 153 w ⟨b,o,none⟩ = (blk w b).bind fun x => x.1[o]? := loadOf_one (by kernel_rfl) w b o
theorem ld_21 (w : World) (b o : Nat) : loadOf Tryd.prog 21 w ⟨b,o,none⟩ = (blk w b).bind fun x => x.1[o]? := loadOf_one (by kernel_rfl) w b o
theorem ld_45 (w : World) (b o : Nat) : loadOf Tryd.prog 45 w ⟨b,o,none⟩ = (blk w b).bind fun x => x.1[o]? := loadOf_one (by kernel_rfl) w b o
theorem pl_224 : placesOf Tryd.prog 224 = some [(0,1),(1,1)] := nr (by kernel_rfl)
theorem pl_65 : placesOf Tryd.prog 65 = some [(0,1),(1,1)] := nr (by kernel_rfl)
theorem se_23 : slElem Tryd.prog 23 = some (26,5) := nr (by kernel_rfl)
theorem se_24 : slElem Tryd.prog 24 = some (65,2) := nr (by kernel_rfl)
theorem sl_152 : isSliceT Tryd.prog 152 = true := nr (by kernel_rfl)
theorem sl_153 : isSliceT Tryd.prog 153 = true := nr (by kernel_rfl)
theorem sz_146 (w : World) (b o : Nat) (v : Value) : storeOf Tryd.prog 146 w ⟨b,o,none⟩ v = (blk w b).bind fun x => stO w b o v x 1 := storeOf_n (by kernel_rfl) w b o v
theorem sz_152 (w : World) (b o : Nat) (v : Value) : storeOf Tryd.prog 152 w ⟨b,o,none⟩ v = (blk w b).bind fun x => stO w b o v x 1 := storeOf_n (by kernel_rfl) w b o v
theorem sz_153 (w : World) (b o : Nat) (v : Value) : storeOf Tryd.prog 153 w ⟨b,o,none⟩ v = (blk w b).bind fun x => stO w b o v x 1 := storeOf_n (by kernel_rfl) w b o v
theorem sz_21 (w : World) (b o : Nat) (v : Value) : storeOf Tryd.prog 21 w ⟨b,o,none⟩ v = (blk w b).bind fun x => stO w b o v x 1 := storeOf_n (by kernel_rfl) w b o v
theorem sz_224 (w : World) (b o : Nat) (v : Value) : storeOf Tryd.prog 224 w ⟨b,o,none⟩ v = (blk w b).bind fun x => stO w b o v x 2 := storeOf_n (by kernel_rfl) w b o v
theorem sz_23 (w : World) (b o : Nat) (v : Value) : storeOf Tryd.prog 23 w ⟨b,o,none⟩ v = (blk w b).bind fun x => stO w b o v x 1 := storeOf_n (by kernel_rfl) w b o v
theorem sz_24 (w : World) (b o : Nat) (v : Value) : storeOf Tryd.prog 24 w ⟨b,o,none⟩ v = (blk w b).bind fun x => stO w b o v x 1 := storeOf_n (by kernel_rfl) w b o v
theorem sz_45 (w : World) (b o : Nat) (v : Value) : storeOf Tryd.prog 45 w ⟨b,o,none⟩ v = (blk w b).bind fun x => stO w b o v x 1 := storeOf_n (by kernel_rfl) w b o v
theorem z_155 : zeroOf Tryd.prog 155 = some #[.int .i16 0,.slice none 0 0,.slice none 0 0,.map none] := nr (by kernel_rfl)
theorem z_224 : zeroOf Tryd.prog 224 = some #[.slice none 0 0,.bool false] := nr (by kernel_rfl)
theorem z_4 : zeroOf Tryd.prog 4 = some #[.bool false] := nr (by kernel_rfl)
attribute [go_sem] ca_100 ca_101 ca_140 ca_142 ca_165 ca_166 ca_167 ca_168 ca_169 ca_200 ca_201 ca_202 ca_203 ca_208 ca_219 ca_220 ca_221 ca_224 ca_24 ca_244 ca_247 ca_248 ca_249 ca_250 ca_251 ca_252 ca_253 ca_38 ca_39 ca_40 ca_96 ca_97 ca_98 ca_99 es_152 es_153 fo_155_0 fo_155_1 fo_155_2 fo_155_3 fo_159_0 fo_159_1 fo_159_2 fo_163_0 fo_163_1 fo_163_2 fo_163_3 fo_163_4 fo_163_5 if_54 kn_146 kn_3 ld_146 ld_152 ld_153 ld_21 ld_45 pl_224 pl_65 se_23 se_24 sl_152 sl_153 sz_146 sz_152 sz_153 sz_21 sz_224 sz_23 sz_24 sz_45 z_155 z_224 z_4
end Ms

namespace Ms
open Go.World renaming size_alloc → qI
open Ms renaming size_wr → qJ,size_drew → qK,not_noB → qL
open W renaming seqR → qA,seq → qB,regR → qC,condK → qD,block → qE,skip → qF,ret → qG,exit → qH
open Nat renaming reduceEqDiff → n0,reduceAdd → n1,reduceMul → n2,reduceSub → n3,reduceLT → n4,reduceLeDiff → n5
open Int renaming reduceEq → i0,reduceLT → i1,reduceLE → i2,reduceNeg → i3,reduceAdd → i4,reduceSub → i5,reduceMul → i6,reduceToNat → i7
set_option maxRecDepth 8000
open Go Go.Proofs Go.Shelf
attribute [local congr] W_congr WPsq_congr WPp_congr optK_congr addrK_congr intK_congr boolK_congr sliceK_congr tupleK_congr funcK_congr Fn_congr rawK_congr takeK_congr stepK_congr convK_congr aggK_congr

def fX1_0 : Fld := .mk 8 0 (-1) (-1) (-1) 0 0 []
def fX1_1 : Fld := .mk 1 0 (-1) (-1) (-1) 0 0 []
def fs_X1 : List Fld := [fX1_0,fX1_1]
def fX0_0 : Fld := .mk 8 0 (-1) (-1) (-1) 0 0 []
def fX0_1 : Fld := .mk 1 0 (-1) (-1) (-1) 0 0 []
def fX0_2 : Fld := .mk 3 0 (-1) (-1) (-1) 0 0 []
def fX0_3 : Fld := .mk 9 0 (-1) (-1) (-1) 0 0 []
def fX0_4 : Fld := .mk 9 0 (-1) (-1) (-1) 0 0 []
def fs_X0 : List Fld := [fX0_0,fX0_1,fX0_2,fX0_3,fX0_4]
def fAlterUserSCRAMCredentialsRequest_0 : Fld := .mk 11 0 (-1) (-1) (-1) 0 10 fs_X1
def fAlterUserSCRAMCredentialsRequest_1 : Fld := .mk 11 0 (-1) (-1) (-1) 0 10 fs_X0
def fs_AlterUserSCRAMCredentialsRequest : List Fld := [fAlterUserSCRAMCredentialsRequest_0,fAlterUserSCRAMCredentialsRequest_1]

theorem DefaultAlterUserSCRAMCredentialsRequest_fn (w : World) {vb : Nat} {c0 c1 c2 c3 : Value} (hb : blk w vb = some (#[c0,c1,c2,c3],155,(0,0))) :
    Fn Tryd.prog 165 #[.pointer (some ⟨vb,0,none⟩)] w fun _ w' => blk w' vb = some (#[c0,c1,c2,c3],155,(0,0)) ∧ Upd (fun b => b = vb) w w' := by
  have hvl := blk_lt hb
  refine fn_of_W Tryd.func165 rfl Tryd.results165 Tryd.ntmps165 rfl ?_
  repeat ((first | refine qA rfl ?_|refine qB ?_|refine qC rfl ?_|refine qD ?_|refine qE ?_|refine qF ?_|refine qG ?_|refine qH ?_);try simp (maxSteps:=1000000)(disch:=(first|omega|(simp only [qI,qJ,qK]<;>omega)|exact qL _)) only [go_sem,↓reduceIte,n0,reduceCtorEq,n1,n2,n3,n4,n5,i0,i1,i2,i3,i4,i5,i6,i7,hb])
  first | exact Upd.refl _ _ | exact ⟨hb,Upd.refl _ _⟩

theorem NewPtrAlterUserSCRAMCredentialsRequest_fn (w : World) : Fn Tryd.prog 96 #[] w fun r w' => r = .pointer (some ⟨w.heap.size,0,none⟩) ∧ blk w' w.heap.size = some (#[.int .i16 0,.slice none 0 0,.slice none 0 0,.map none],155,(0,0)) ∧ Ext w w' := by
  refine fn_of_W Tryd.func96 rfl Tryd.results96 Tryd.ntmps96 rfl ?_
  repeat ((first | refine qA rfl ?_|refine qB ?_|refine qC rfl ?_|refine qD ?_|refine qE ?_|refine qF ?_|refine qG ?_|refine qH ?_);try simp (maxSteps:=1000000)(disch:=(first|omega|(simp only [qI,qJ,qK]<;>omega)|exact qL _)) only [go_sem,↓reduceIte,n0,reduceCtorEq,n1,n2,n3,n4,n5,i0,i1,i2,i3,i4,i5,i6,i7])
  refine (DefaultAlterUserSCRAMCredentialsRequest_fn _ (blk_alloc_new rfl)).mono ?_
  rintro _ w1 ⟨hb1,hU1⟩
  have hz := World.size_alloc w (.cells #[.int .i16 0,.slice none 0 0,.slice none 0 0,.map none] 155)
  repeat ((first | refine qA rfl ?_|refine qB ?_|refine qC rfl ?_|refine qD ?_|refine qE ?_|refine qF ?_|refine qG ?_|refine qH ?_);try simp (maxSteps:=1000000)(disch:=(first|omega|(simp only [qI,qJ,qK]<;>omega)|exact qL _)) only [go_sem,↓reduceIte,n0,reduceCtorEq,n1,n2,n3,n4,n5,i0,i1,i2,i3,i4,i5,i6,i7])
  exact ⟨hb1,(Upd.alloc (Upd.refl _ _) _ : Ext w _).more hU1 fun b hb h => by omega⟩

theorem SetVersionAlterUserSCRAMCredentialsRequest_fn (w : World) {vb : Nat} {c0 c1 c2 c3 : Value} (n : Int) (hb : blk w vb = some (#[c0,c1,c2,c3],155,(0,0))) :
    Fn Tryd.prog 98 #[.pointer (some ⟨vb,0,none⟩),.int .i16 n] w fun _ w' => blk w' vb = some (#[.int .i16 n,c1,c2,c3],155,(0,0)) ∧ Upd (fun b => b = vb) w w' := by
  have hvl := blk_lt hb
  refine fn_of_W Tryd.func98 rfl Tryd.results98 Tryd.ntmps98 rfl ?_
  repeat ((first | refine qA rfl ?_|refine qB ?_|refine qC rfl ?_|refine qD ?_|refine qE ?_|refine qF ?_|refine qG ?_|refine qH ?_);try simp (maxSteps:=1000000)(disch:=(first|omega|(simp only [qI,qJ,qK]<;>omega)|exact qL _)) only [go_sem,↓reduceIte,n0,reduceCtorEq,n1,n2,n3,n4,n5,i0,i1,i2,i3,i4,i5,i6,i7,hb])
  first | exact Upd.wr (Upd.refl _ _) _ _ (.inr rfl) | exact ⟨by simp (maxSteps:=1000000)(disch:=(first|omega|(simp only [qI,qJ,qK]<;>omega)|exact qL _)) only [go_sem,↓reduceIte,n0,reduceCtorEq,n1,n2,n3,n4,n5,i0,i1,i2,i3,i4,i5,i6,i7,hb],Upd.wr (Upd.refl _ _) _ _ (.inr rfl)⟩

theorem MaxAlterUserSCRAMCredentialsRequest_fn (w : World) : Fn Tryd.prog 38 #[] w fun r w' => r = .int .i64 0 ∧ Ext w w' := by
  refine fn_of_W Tryd.func38 rfl Tryd.results38 Tryd.ntmps38 rfl ?_
  repeat ((first | refine qA rfl ?_|refine qB ?_|refine qC rfl ?_|refine qD ?_|refine qE ?_|refine qF ?_|refine qG ?_|refine qH ?_);try simp (maxSteps:=1000000)(disch:=(first|omega|(simp only [qI,qJ,qK]<;>omega)|exact qL _)) only [go_sem,↓reduceIte,n0,reduceCtorEq,n1,n2,n3,n4,n5,i0,i1,i2,i3,i4,i5,i6,i7])
  refine (NewPtrAlterUserSCRAMCredentialsRequest_fn w).mono ?_
  rintro _ w1 ⟨rfl,hb1,hE1⟩
  repeat ((first | refine qA rfl ?_|refine qB ?_|refine qC rfl ?_|refine qD ?_|refine qE ?_|refine qF ?_|refine qG ?_|refine qH ?_);try simp (maxSteps:=1000000)(disch:=(first|omega|(simp only [qI,qJ,qK]<;>omega)|exact qL _)) only [go_sem,↓reduceIte,n0,reduceCtorEq,n1,n2,n3,n4,n5,i0,i1,i2,i3,i4,i5,i6,i7])
  have hm : Fn Tryd.prog 97 #[.pointer (some ⟨w.heap.size,0,none⟩)] w1 fun r w' => r = .int .i16 0 ∧ w' = w1 := by
    refine fn_of_W Tryd.func97 rfl Tryd.results97 Tryd.ntmps97 rfl ?_
    repeat ((first | refine qA rfl ?_|refine qB ?_|refine qC rfl ?_|refine qD ?_|refine qE ?_|refine qF ?_|refine qG ?_|refine qH ?_);try simp (maxSteps:=1000000)(disch:=(first|omega|(simp only [qI,qJ,qK]<;>omega)|exact qL _)) only [go_sem,↓reduceIte,n0,reduceCtorEq,n1,n2,n3,n4,n5,i0,i1,i2,i3,i4,i5,i6,i7])
  refine hm.mono ?_
  rintro _ w2 ⟨rfl,rfl⟩
  have ew : IntKind.i64.wrap (0 : Int) = 0 := i64_wrap (by decide)
  repeat ((first | refine qA rfl ?_|refine qB ?_|refine qC rfl ?_|refine qD ?_|refine qE ?_|refine qF ?_|refine qG ?_|refine qH ?_);try simp (maxSteps:=1000000)(disch:=(first|omega|(simp only [qI,qJ,qK]<;>omega)|exact qL _)) only [go_sem,↓reduceIte,n0,reduceCtorEq,n1,n2,n3,n4,n5,i0,i1,i2,i3,i4,i5,i6,i7,ew])
  exact hE1
end Ms

namespace Ms
open Go.World renaming size_alloc → qI
open Ms renaming size_wr → qJ,size_drew → qK,not_noB → qL
open W renaming seqR → qA,seq → qB,regR → qC,condK → qD,block → qE,skip → qF,ret → qG,exit → qH
open Nat renaming reduceEqDiff → n0,reduceAdd → n1,reduceMul → n2,reduceSub → n3,reduceLT → n4,reduceLeDiff → n5
open Int renaming reduceEq → i0,reduceLT → i1,reduceLE → i2,reduceNeg → i3,reduceAdd → i4,reduceSub → i5,reduceMul → i6,reduceToNat → i7
set_option maxRecDepth 8000
open Go Go.Proofs Go.Shelf
attribute [local congr] W_congr WPsq_congr WPp_congr optK_congr addrK_congr intK_congr boolK_congr sliceK_congr tupleK_congr funcK_congr Fn_congr rawK_congr takeK_congr stepK_congr convK_congr aggK_congr

theorem utAlterUserSCRAMCredentialsRequest_152 : Tryd.prog.underlying 152 = some (.slice 159) := by kernel_rfl
theorem utAlterUserSCRAMCredentialsRequest_21 : Tryd.prog.underlying 21 = some (.int .i32) := by kernel_rfl
theorem inAlterUserSCRAMCredentialsRequest_159 : (Tryd.prog.info? 159).map (fun i => (i.size,i.bytes,i.zero.map (·.cells))) = some (3,32,some #[.string ByteArray.empty,.int .i8 0,.map none]) := by kernel_rfl
theorem utAlterUserSCRAMCredentialsRequest_153 : Tryd.prog.underlying 153 = some (.slice 163) := by kernel_rfl
theorem inAlterUserSCRAMCredentialsRequest_163 : (Tryd.prog.info? 163).map (fun i => (i.size,i.bytes,i.zero.map (·.cells))) = some (6,80,some #[.string ByteArray.empty,.int .i8 0,.int .i32 0,.slice none 0 0,.slice none 0 0,.map none]) := by kernel_rfl

theorem DefaultEX1_fn (w : World) {R k : Nat} {A B : List Value} {c0 c1 c2 : Value} {E : TypeId} (hb : blk w R = some ((A ++ ([c0,c1,c2] ++ B)).toArray,E,(0,0))) (hA : A.length = k) :
    Fn Tryd.prog 247 #[.pointer (some ⟨R,k,none⟩)] w fun _ w' => blk w' R = some ((A ++ ([c0,c1,c2] ++ B)).toArray,E,(0,0)) ∧ Upd (fun b => b = R) w w' := by
  have hRl := blk_lt hb
  obtain ⟨X,hX⟩ : ∃ X : Array Value,X = (A ++ (([c0,c1,c2] : List Value) ++ B)).toArray := ⟨_,rfl⟩
  have hXs : k + 3 ≤ X.size := by rw [hX];simp only [List.size_toArray,List.length_append,List.length_cons,List.length_nil,hA];omega
  have hb' : blk w R = some (X,E,(0,0)) := by rw [hX];exact hb
  refine fn_of_W Tryd.func247 rfl Tryd.results247 Tryd.ntmps247 rfl ?_
  repeat ((first | refine qA rfl ?_|refine qB ?_|refine qC rfl ?_|refine qD ?_|refine qE ?_|refine qF ?_|refine qG ?_|refine qH ?_);try simp (maxSteps:=1000000)(disch:=(first|omega|(simp only [qI,qJ,qK]<;>omega)|exact qL _)) only [go_sem,↓reduceIte,n0,reduceCtorEq,n1,n2,n3,n4,n5,i0,i1,i2,i3,i4,i5,i6,i7,hb',Array.size_setIfInBounds])
  first | exact ⟨hb,Upd.refl _ _⟩ | exact Upd.refl _ _ | (rw [hX];exact ⟨rfl,Upd.refl _ _⟩)

theorem DefaultEX0_fn (w : World) {R k : Nat} {A B : List Value} {c0 c1 c2 c3 c4 c5 : Value} {E : TypeId} (hb : blk w R = some ((A ++ ([c0,c1,c2,c3,c4,c5] ++ B)).toArray,E,(0,0))) (hA : A.length = k) :
    Fn Tryd.prog 248 #[.pointer (some ⟨R,k,none⟩)] w fun _ w' => blk w' R = some ((A ++ ([c0,c1,c2,c3,c4,c5] ++ B)).toArray,E,(0,0)) ∧ Upd (fun b => b = R) w w' := by
  have hRl := blk_lt hb
  obtain ⟨X,hX⟩ : ∃ X : Array Value,X = (A ++ (([c0,c1,c2,c3,c4,c5] : List Value) ++ B)).toArray := ⟨_,rfl⟩
  have hXs : k + 6 ≤ X.size := by rw [hX];simp only [List.size_toArray,List.length_append,List.length_cons,List.length_nil,hA];omega
  have hb' : blk w R = some (X,E,(0,0)) := by rw [hX];exact hb
  refine fn_of_W Tryd.func248 rfl Tryd.results248 Tryd.ntmps248 rfl ?_
  repeat ((first | refine qA rfl ?_|refine qB ?_|refine qC rfl ?_|refine qD ?_|refine qE ?_|refine qF ?_|refine qG ?_|refine qH ?_);try simp (maxSteps:=1000000)(disch:=(first|omega|(simp only [qI,qJ,qK]<;>omega)|exact qL _)) only [go_sem,↓reduceIte,n0,reduceCtorEq,n1,n2,n3,n4,n5,i0,i1,i2,i3,i4,i5,i6,i7,hb',Array.size_setIfInBounds])
  first | exact ⟨hb,Upd.refl _ _⟩ | exact Upd.refl _ _ | (rw [hX];exact ⟨rfl,Upd.refl _ _⟩)
end Ms

