/- A part of the proof: see the last text. -/
import Derived.Test.YthekgkekchicgaaDoorC04
import Derived.Test.YthekgkekchicgaaDoorC06
import Derived.Test.YthekgkekchicgaaDoorC08
set_option linter.unusedSimpArgs false
set_option linter.unusedVariables false
namespace Ms
open Nat renaming reduceEqDiff → n0,reduceAdd → n1,reduceMul → n2,reduceSub → n3,reduceLT → n4,reduceLeDiff → n5
open Int renaming reduceEq → i0,reduceLT → i1,reduceLE → i2,reduceNeg → i3,reduceAdd → i4,reduceSub → i5,reduceMul → i6,reduceToNat → i7
set_option maxRecDepth 4000
open Go Go.Proofs
theorem ap_23_23 : AppT Tryd.prog 23 23 26 5 88 := AppT.of (by kernel_rfl)
theorem ap_24_24 : AppT Tryd.prog 24 24 65 2 32 := AppT.of (by kernel_rfl)
theorem ca_102 : callable Tryd.prog 102 = true := nr (by kernel_rfl)
theorem ca_103 : callable Tryd.prog 103 = true := nr (by kernel_rfl)
theorem ca_104 : callable Tryd.prog 104 = true := nr (by kernel_rfl)
theorem ca_105 : callable Tryd.prog 105 = true := nr (by kernel_rfl)
theorem ca_106 : callable Tryd.prog 106 = true := nr (by kernel_rfl)
theorem ca_107 : callable Tryd.prog 107 = true := nr (by kernel_rfl)
theorem ca_140 : callable Tryd.prog 140 = true := nr (by kernel_rfl)
theorem ca_142 : callable Tryd.prog 142 = true := nr (by kernel_rfl)
theorem ca_163 : callable Tryd.prog 163 = true := nr (by kernel_rfl)
theorem ca_170 : callable Tryd.prog 170 = true := nr (by kernel_rfl)
theorem ca_171 : callable Tryd.prog 171 = true := nr (by kernel_rfl)
theorem ca_172 : callable Tryd.prog 172 = true := nr (by kernel_rfl)
theorem ca_173 : callable Tryd.prog 173 = true := nr (by kernel_rfl)
theorem ca_198 : callable Tryd.prog 198 = true := nr (by kernel_rfl)
theorem ca_200 : callable Tryd.prog 200 = true := nr (by kernel_rfl)
theorem ca_201 : callable Tryd.prog 201 = true := nr (by kernel_rfl)
theorem ca_202 : callable Tryd.prog 202 = true := nr (by kernel_rfl)
theorem ca_203 : callable Tryd.prog 203 = true := nr (by kernel_rfl)
theorem ca_208 : callable Tryd.prog 208 = true := nr (by kernel_rfl)
theorem ca_219 : callable Tryd.prog 219 = true := nr (by kernel_rfl)
theorem ca_220 : callable Tryd.prog 220 = true := nr (by kernel_rfl)
theorem ca_221 : callable Tryd.prog 221 = true := nr (by kernel_rfl)
theorem ca_224 : callable Tryd.prog 224 = true := nr (by kernel_rfl)
theorem ca_24 : callable Tryd.prog 24 = true := nr (by kernel_rfl)
theorem ca_244 : callable Tryd.prog 244 = true := nr (by kernel_rfl)
theorem ca_245 : callable Tryd.prog 245 = true := nr (by kernel_rfl)
theorem ca_254 : callable Tryd.prog 254 = true := nr (by kernel_rfl)
theorem ca_255 : callable Tryd.prog 255 = true := nr (by kernel_rfl)
theorem ca_256 : callable Tryd.prog 256 = true := nr (by kernel_rfl)
theorem ca_257 : callable Tryd.prog 257 = true := nr (by kernel_rfl)
theorem ca_304 : callable Tryd.prog 304 = true := nr (by kernel_rfl)
theorem ca_41 : callable Tryd.prog 41 = true := nr (by kernel_rfl)
theorem ca_42 : callable Tryd.prog 42 = true := nr (by kernel_rfl)
theorem ca_43 : callable Tryd.prog 43 = true := nr (by kernel_rfl)
theorem es_164 : elemSize Tryd.prog 164 = some 7 := nr (by kernel_rfl)
theorem es_169 : elemSize Tryd.prog 169 = some 3 := nr (by kernel_rfl)
theorem es_268 : elemSize Tryd.prog 268 = some 1 := nr (by kernel_rfl)
theorem fo_166_0 : fieldOff Tryd.prog 166 0 = some 0 := nr (by kernel_rfl)
theorem fo_166_1 : fieldOff Tryd.prog 166 1 = some 1 := nr (by kernel_rfl)
theorem fo_166_2 : fieldOff Tryd.prog 166 2 = some 2 := nr (by kernel_rfl)
theorem fo_171_0 : fieldOff Tryd.prog 171 0 = some 0 := nr (by kernel_rfl)
theorem fo_171_1 : fieldOff Tryd.prog 171 1 = some 1 := nr (by kernel_rfl)
theorem fo_171_2 : fieldOff Tryd.prog 171 2 = some 2 := nr (by kernel_rfl)
theorem fo_171_3 : fieldOff Tryd.prog 171 3 = some 3 := nr (by kernel_rfl)
theorem fo_171_4 : fieldOff Tryd.prog 171 4 = some 4 := nr (by kernel_rfl)
theorem fo_171_5 : fieldOff Tryd.prog 171 5 = some 5 := nr (by kernel_rfl)
theorem fo_171_6 : fieldOff Tryd.prog 171 6 = some 6 := nr (by kernel_rfl)
theorem fo_270_0 : fieldOff Tryd.prog 270 0 = some 0 := nr (by kernel_rfl)
theorem fo_270_1 : fieldOff Tryd.prog 270 1 = some 1 := nr (by kernel_rfl)
theorem fo_270_2 : fieldOff Tryd.prog 270 2 = some 2 := nr (by kernel_rfl)
theorem if_54 : isIfaceT Tryd.prog 54 = true := nr (by kernel_rfl)
theorem kn_146 : knownT Tryd.prog 146 = true := nr (by kernel_rfl)
theorem kn_3 : knownT Tryd.prog 3 = true := nr (by kernel_rfl)
theorem ld_146 (w : World) (b o : Nat) : loadOf Tryd.prog 146 w ⟨b,o,none⟩ = (blk w b).bind fun x => x.1[o]? := loadOf_one (by kernel_rfl) w b o
theorem ld_164 (w : World) (b o : Nat) : loadOf Tryd.prog 164 w ⟨b,o,none⟩ = (blk w b).bind fun x => x.1[o]? := loadOf_one (by kernel_rfl) w b o
theorem ld_169 (w : World) (b o : Nat) : loadOf Tryd.prog 169 w ⟨b,o,none⟩ = (blk w b).bind fun x => x.1[o]? := loadOf_one (by kernel_rfl) w b o
theorem ld_21 (w : World) (b o : Nat) : loadOf Tryd.prog 21 w ⟨b,o,none⟩ = (blk w b).bind fun x => x.1[o]? := loadOf_one (by kernel_rfl) w b o
theorem ld_268 (w : World) (b o : Nat) : loadOf Tryd.prog 268 w ⟨b,o,none⟩ = (blk w b).bind fun x => x.1[o]? := loadOf_one (by kernel_rfl) w b o
theorem ld_45 (w : World) (b o : Nat) : loadOf Tryd.prog 45 w ⟨b,o,none⟩ = (blk w b).bind fun x => x.1[o]? := loadOf_one (by kernel_rfl) w b o
theorem pl_224 : placesOf Tryd.prog 224 = some [(0,1),(1,1)] := nr (by kernel_rfl)
theorem pl_65 : placesOf Tryd.prog 65 = some [(0,1),(1,1)] := nr (by kernel_rfl)
theorem se_23 : slElem Tryd.prog 23 = some (26,5) := nr (by kernel_rfl)
theorem se_24 : slElem Tryd.prog 24 = some (65,2) := nr (by kernel_rfl)
theorem sl_164 : isSliceT Tryd.prog 164 = true := nr (by kernel_rfl)
theorem sl_169 : isSliceT Tryd.prog 169 = true := nr (by kernel_rfl)
theorem sl_268 : isSliceT Tryd.prog 268 = true := nr (by kernel_rfl)
theorem sz_146 (w : World) (b o : Nat) (v : Value) : storeOf Tryd.prog 146 w ⟨b,o,none⟩ v = (blk w b).bind fun x => stO w b o v x 1 := storeOf_n (by kernel_rfl) w b o v
theorem sz_164 (w : World) (b o : Nat) (v : Value) : storeOf Tryd.prog 164 w ⟨b,o,none⟩ v = (blk w b).bind fun x => stO w b o v x 1 := storeOf_n (by kernel_rfl) w b o v
theorem sz_169 (w : World) (b o : Nat) (v : Value) : storeOf Tryd.prog 169 w ⟨b,o,none⟩ v = (blk w b).bind fun x => stO w b o v x 1 := storeOf_n (by kernel_rfl) w b o v
theorem sz_2 (w : World) (b o : Nat) (v : Value) : storeOf Tryd.prog 2 w ⟨b,o,none⟩ v = (blk w b).bind fun x => stO w b o v x 1 := storeOf_n (by kernel_rfl) w b o v
theorem sz_21 (w : World) (b o : Nat) (v : Value) : storeOf Tryd.prog 21 w ⟨b,o,none⟩ v = (blk w b).bind fun x => stO w b o v x 1 := storeOf_n (by kernel_rfl) w b o v
theorem sz_224 (w : World) (b o : Nat) (v : Value) : storeOf Tryd.prog 224 w ⟨b,o,none⟩ v = (blk w b).bind fun x => stO w b o v x 2 := storeOf_n (by kernel_rfl) w b o v
theorem sz_23 (w : World) (b o : Nat) (v : Value) : storeOf Tryd.prog 23 w ⟨b,o,none⟩ v = (blk w b).bind fun x => stO w b o v x 1 := storeOf_n (by kernel_rfl) w b o v
theorem sz_24 (w : World) (b o : Nat) (v : Value) : storeOf Tryd.prog 24 w ⟨b,o,none⟩ v = (blk w b).bind fun x => stO w b o v x 1 := storeOf_n (by kernel_rfl) w b o v
theorem sz_268 (w : World) (b o : Nat) (v : Value) : storeOf Tryd.prog 268 w ⟨b,o,none⟩ v = (blk w b).bind fun x => stO w b o v x 1 := storeOf_n (by kernel_rfl) w b o v
theorem sz_45 (w : World) (b o : Nat) (v : Value) : storeOf Tryd.prog 45 w ⟨b,o,none⟩ v = (blk w b).bind fun x => stO w b o v x 1 := storeOf_n (by kernel_rfl) w b o v
theorem z_166 : zeroOf Tryd.prog 166 = some #[.int .i16 0,.slice none 0 0,.map none] := nr (by kernel_rfl)
theorem z_224 : zeroOf Tryd.prog 224 = some #[.slice none 0 0,.bool false] := nr (by kernel_rfl)
theorem z_4 : zeroOf Tryd.prog 4 = some #[.bool false] := nr (by kernel_rfl)
attribute [go_sem] ca_102 ca_103 ca_104 ca_105 ca_106 ca_107 ca_140 ca_142 ca_163 ca_170 ca_171 ca_172 ca_173 ca_198 ca_200 ca_201 ca_202 ca_203 ca_208 ca_219 ca_220 ca_221 ca_224 ca_24 ca_244 ca_245 ca_254 ca_255 ca_256 ca_257 ca_304 ca_41 ca_42 ca_43 es_164 es_169 es_268 fo_166_0 fo_166_1 fo_166_2 fo_171_0 fo_171_1 fo_171_2 fo_171_3 fo_171_4 fo_171_5 fo_171_6 fo_270_0 fo_270_1 fo_270_2 if_54 kn_146 kn_3 ld_146 ld_164 ld_169 ld_21 ld_268 ld_45 pl_224 pl_65 se_23 se_24 sl_164 sl_169 sl_268 sz_146 sz_164 sz_169 sz_2 sz_21 sz_224 sz_23 sz_24 sz_268 sz_45 z_166 z_224 z_4
end Ms

namespace Ms
open Go.World renaming size_alloc → qI
open Ms renaming size_wr → qJ,size_drew → qK,not_noB → qL
open W renaming seqR → qA,seq → qB,regR → qC,condK → qD,block → qE,skip → qF,ret → qG,exit → qH
open Nat renaming reduceEqDiff → n0,reduceAdd → n1,reduceMul → n2,reduceSub → n3,reduceLT → n4,reduceLeDiff → n5
open Int renaming reduceEq → i0,reduceLT → i1,reduceLE → i2,reduceNeg → i3,reduceAdd → i4,reduceSub → i5,reduceMul → i6,reduceToNat → i7
set_option maxRecDepth 8000
open Go Go.Proofs Go.Shelf
attribute [local congr] W_congr WPsq_congr WPp_congr optK_congr addrK_congr intK_congr boolK_congr sliceK_congr tupleK_congr funcK_congr Fn_congr rawK_congr takeK_congr stepK_congr convK_congr aggK_congr

def fX0_0 : Fld := .mk 8 0 (-1) (-1) (-1) 0 0 []
def fX0_1 : Fld := .mk 11 0 (-1) (-1) (-1) 0 3 []
def fs_X0 : List Fld := [fX0_0,fX0_1]
def fX1_0 : Fld := .mk 4 0 (-1) (-1) (-1) 0 0 []
def fX1_1 : Fld := .mk 2 0 (-1) (-1) (-1) 0 0 []
def fX1_2 : Fld := .mk 0 0 (-1) (-1) (-1) 0 0 []
def fX1_3 : Fld := .mk 11 0 (-1) (-1) (-1) 0 10 fs_X0
def fX1_4 : Fld := .mk 3 0 (-1) (-1) (-1) 0 0 []
def fX1_5 : Fld := .mk 1 2 (-1) (-1) (-1) 0 0 []
def fs_X1 : List Fld := [fX1_0,fX1_1,fX1_2,fX1_3,fX1_4,fX1_5]
def fWriteTxnMarkersRequest_0 : Fld := .mk 11 0 (-1) (-1) (-1) 0 10 fs_X1
def fs_WriteTxnMarkersRequest : List Fld := [fWriteTxnMarkersRequest_0]

theorem DefaultWriteTxnMarkersRequest_fn (w : World) {vb : Nat} {c0 c1 c2 : Value} (hb : blk w vb = some (#[c0,c1,c2],166,(0,0))) :
    Fn Tryd.prog 170 #[.pointer (some ⟨vb,0,none⟩)] w fun _ w' => blk w' vb = some (#[c0,c1,c2],166,(0,0)) ∧ Upd (fun b => b = vb) w w' := by
  have hvl := blk_lt hb
  refine fn_of_W Tryd.func170 rfl Tryd.results170 Tryd.ntmps170 rfl ?_
  repeat ((first | refine qA rfl ?_|refine qB ?_|refine qC rfl ?_|refine qD ?_|refine qE ?_|refine qF ?_|refine qG ?_|refine qH ?_);try simp (maxSteps:=1000000)(disch:=(first|omega|(simp only [qI,qJ,qK]<;>omega)|exact qL _)) only [go_sem,↓reduceIte,n0,reduceCtorEq,n1,n2,n3,n4,n5,i0,i1,i2,i3,i4,i5,i6,i7,hb])
  first | exact Upd.refl _ _ | exact ⟨hb,Upd.refl _ _⟩

theorem NewPtrWriteTxnMarkersRequest_fn (w : World) : Fn Tryd.prog 102 #[] w fun r w' => r = .pointer (some ⟨w.heap.size,0,none⟩) ∧ blk w' w.heap.size = some (#[.int .i16 0,.slice none 0 0,.map none],166,(0,0)) ∧ Ext w w' := by
  refine fn_of_W Tryd.func102 rfl Tryd.results102 Tryd.ntmps102 rfl ?_
  repeat ((first | refine qA rfl ?_|refine qB ?_|refine qC rfl ?_|refine qD ?_|refine qE ?_|refine qF ?_|refine qG ?_|refine qH ?_);try simp (maxSteps:=1000000)(disch:=(first|omega|(simp only [qI,qJ,qK]<;>omega)|exact qL _)) only [go_sem,↓reduceIte,n0,reduceCtorEq,n1,n2,n3,n4,n5,i0,i1,i2,i3,i4,i5,i6,i7])
  refine (DefaultWriteTxnMarkersRequest_fn _ (blk_alloc_new rfl)).mono ?_
  rintro _ w1 ⟨hb1,hU1⟩
  have hz := World.size_alloc w (.cells #[.int .i16 0,.slice none 0 0,.map none] 166)
  repeat ((first | refine qA rfl ?_|refine qB ?_|refine qC rfl ?_|refine qD ?_|refine qE ?_|refine qF ?_|refine qG ?_|refine qH ?_);try simp (maxSteps:=1000000)(disch:=(first|omega|(simp only [qI,qJ,qK]<;>omega)|exact qL _)) only [go_sem,↓reduceIte,n0,reduceCtorEq,n1,n2,n3,n4,n5,i0,i1,i2,i3,i4,i5,i6,i7])
  exact ⟨hb1,(Upd.alloc (Upd.refl _ _) _ : Ext w _).more hU1 fun b hb h => by omega⟩

theorem SetVersionWriteTxnMarkersRequest_fn (w : World) {vb : Nat} {c0 c1 c2 : Value} (n : Int) (hb : blk w vb = some (#[c0,c1,c2],166,(0,0))) :
    Fn Tryd.prog 104 #[.pointer (some ⟨vb,0,none⟩),.int .i16 n] w fun _ w' => blk w' vb = some (#[.int .i16 n,c1,c2],166,(0,0)) ∧ Upd (fun b => b = vb) w w' := by
  have hvl := blk_lt hb
  refine fn_of_W Tryd.func104 rfl Tryd.results104 Tryd.ntmps104 rfl ?_
  repeat ((first | refine qA rfl ?_|refine qB ?_|refine qC rfl ?_|refine qD ?_|refine qE ?_|refine qF ?_|refine qG ?_|refine qH ?_);try simp (maxSteps:=1000000)(disch:=(first|omega|(simp only [qI,qJ,qK]<;>omega)|exact qL _)) only [go_sem,↓reduceIte,n0,reduceCtorEq,n1,n2,n3,n4,n5,i0,i1,i2,i3,i4,i5,i6,i7,hb])
  first | exact Upd.wr (Upd.refl _ _) _ _ (.inr rfl) | exact ⟨by simp (maxSteps:=1000000)(disch:=(first|omega|(simp only [qI,qJ,qK]<;>omega)|exact qL _)) only [go_sem,↓reduceIte,n0,reduceCtorEq,n1,n2,n3,n4,n5,i0,i1,i2,i3,i4,i5,i6,i7,hb],Upd.wr (Upd.refl _ _) _ _ (.inr rfl)⟩

theorem MaxWriteTxnMarkersRequest_fn (w : World) : Fn Tryd.prog 41 #[] w fun r w' => r = .int .i64 2 ∧ Ext w w' := by
  refine fn_of_W Tryd.func41 rfl Tryd.results41 Tryd.ntmps41 rfl ?_
  repeat ((first | refine qA rfl ?_|refine qB ?_|refine qC rfl ?_|refine qD ?_|refine qE ?_|refine qF ?_|refine qG ?_|refine qH ?_);try simp (maxSteps:=1000000)(disch:=(first|omega|(simp only [qI,qJ,qK]<;>omega)|exact qL _)) only [go_sem,↓reduceIte,n0,reduceCtorEq,n1,n2,n3,n4,n5,i0,i1,i2,i3,i4,i5,i6,i7])
  refine (NewPtrWriteTxnMarkersRequest_fn w).mono ?_
  rintro _ w1 ⟨rfl,hb1,hE1⟩
  repeat ((first | refine qA rfl ?_|refine qB ?_|refine qC rfl ?_|refine qD ?_|refine qE ?_|refine qF ?_|refine qG ?_|refine qH ?_);try simp (maxSteps:=1000000)(disch:=(first|omega|(simp only [qI,qJ,qK]<;>omega)|exact qL _)) only [go_sem,↓reduceIte,n0,reduceCtorEq,n1,n2,n3,n4,n5,i0,i1,i2,i3,i4,i5,i6,i7])
  have hm : Fn Tryd.prog 103 #[.pointer (some ⟨w.heap.size,0,none⟩)] w1 fun r w' => r = .int .i16 2 ∧ w' = w1 := by
    refine fn_of_W Tryd.func103 rfl Tryd.results103 Tryd.ntmps103 rfl ?_
    repeat ((first | refine qA rfl ?_|refine qB ?_|refine qC rfl ?_|refine qD ?_|refine qE ?_|refine qF ?_|refine qG ?_|refine qH ?_);try simp (maxSteps:=1000000)(disch:=(first|omega|(simp only [qI,qJ,qK]<;>omega)|exact qL _)) only [go_sem,↓reduceIte,n0,reduceCtorEq,n1,n2,n3,n4,n5,i0,i1,i2,i3,i4,i5,i6,i7])
  refine hm.mono ?_
  rintro _ w2 ⟨rfl,rfl⟩
  have ew : IntKind.i64.wrap (2 : Int) = 2 := i64_wrap (by decide)
  repeat ((first | refine qA rfl ?_|refine qB ?_|refine qC rfl ?_|refine qD ?_|refine qE ?_|refine qF ?_|refine qG ?_|refine qH ?_);try simp (maxSteps:=1000000)(disch:=(first|omega|(simp only [qI,qJ,qK]<;>omega)|exact qL _)) only [go_sem,↓reduceIte,n0,reduceCtorEq,n1,n2,n3,n4,n5,i0,i1,i2,i3,i4,i5,i6,i7,ew])
  exact hE1
end Ms

namespace Ms
open Go.World renaming size_alloc → qI
open Ms renaming size_wr → qJ,size_drew → qK,not_noB → qL
open W renaming seqR → qA,seq → qB,regR → qC,condK → qD,block → qE,skip → qF,ret → qG,exit → qH
open Nat renaming reduceEqDiff → n0,reduceAdd → n1,reduceMul → n2,reduceSub → n3,reduceLT → n4,reduceLeDiff → n5
open Int renaming reduceEq → i0,reduceLT → i1,reduceLE → i2,reduceNeg → i3,reduceAdd → i4,reduceSub → i5,reduceMul → i6,reduceToNat → i7
set_option maxRecDepth 8000
open Go Go.Proofs Go.Shelf
attribute [local congr] W_congr WPsq_congr WPp_congr optK_congr addrK_congr intK_congr boolK_congr sliceK_congr tupleK_congr funcK_congr Fn_congr rawK_congr takeK_congr stepK_congr convK_congr aggK_congr

theorem utWriteTxnMarkersRequest_164 : Tryd.prog.underlying 164 = some (.slice 171) := by kernel_rfl
theorem utWriteTxnMarkersRequest_21 : Tryd.prog.underlying 21 = some (.int .i32) := by kernel_rfl
theorem inWriteTxnMarkersRequest_171 : (Tryd.prog.info? 171).map (fun i => (i.size,i.bytes,i.zero.map (·.cells))) = some (7,56,some #[.int .i64 0,.int .i16 0,.bool false,.slice none 0 0,.int .i32 0,.int .i8 0,.map none]) := by kernel_rfl
theorem utWriteTxnMarkersRequest_169 : Tryd.prog.underlying 169 = some (.slice 270) := by kernel_rfl
theorem inWriteTxnMarkersRequest_270 : (Tryd.prog.info? 270).map (fun i => (i.size,i.bytes,i.zero.map (·.cells))) = some (3,48,some #[.string ByteArray.empty,.slice none 0 0,.map none]) := by kernel_rfl
theorem utWriteTxnMarkersRequest_268 : Tryd.prog.underlying 268 = some (.slice 21) := by kernel_rfl
theorem inWriteTxnMarkersRequest_21 : (Tryd.prog.info? 21).map (fun i => (i.size,i.bytes,i.zero.map (·.cells))) = some (1,4,some #[.int .i32 0]) := by kernel_rfl

theorem DefaultEX1_fn (w : World) {R k : Nat} {A B : List Value} {c0 c1 c2 c3 c4 c5 c6 : Value} {E : TypeId} (hb : blk w R = some ((A ++ ([c0,c1,c2,c3,c4,c5,c6] ++ B)).toArray,E,(0,0))) (hA : A.length = k) :
    Fn Tryd.prog 254 #[.pointer (some ⟨R,k,none⟩)] w fun _ w' => blk w' R = some ((A ++ ([c0,c1,c2,c3,c4,c5,c6] ++ B)).toArray,E,(0,0)) ∧ Upd (fun b => b = R) w w' := by
  have hRl := blk_lt hb
  obtain ⟨X,hX⟩ : ∃ X : Array Value,X = (A ++ (([c0,c1,c2,c3,c4,c5,c6] : List Value) ++ B)).toArray := ⟨_,rfl⟩
  have hXs : k + 7 ≤ X.size := by rw [hX];simp only [List.size_toArray,List.length_append,List.length_cons,List.length_nil,hA];omega
  have hb' : blk w R = some (X,E,(0,0)) := by rw [hX];exact hb
  refine fn_of_W Tryd.func254 rfl Tryd.results254 Tryd.ntmps254 rfl ?_
  repeat ((first | refine qA rfl ?_|refine qB ?_|refine qC rfl ?_|refine qD ?_|refine qE ?_|refine qF ?_|refine qG ?_|refine qH ?_);try simp (maxSteps:=1000000)(disch:=(first|omega|(simp only [qI,qJ,qK]<;>omega)|exact qL _)) only [go_sem,↓reduceIte,n0,reduceCtorEq,n1,n2,n3,n4,n5,i0,i1,i2,i3,i4,i5,i6,i7,hb',Array.size_setIfInBounds])
  first | exact ⟨hb,Upd.refl _ _⟩ | exact Upd.refl _ _ | (rw [hX];exact ⟨rfl,Upd.refl _ _⟩)

theorem DefaultEX0_fn (w : World) {R k : Nat} {A B : List Value} {c0 c1 c2 : Value} {E : TypeId} (hb : blk w R = some ((A ++ ([c0,c1,c2] ++ B)).toArray,E,(0,0))) (hA : A.length = k) :
    Fn Tryd.prog 255 #[.pointer (some ⟨R,k,none⟩)] w fun _ w' => blk w' R = some ((A ++ ([c0,c1,c2] ++ B)).toArray,E,(0,0)) ∧ Upd (fun b => b = R) w w' := by
  have hRl := blk_lt hb
  obtain ⟨X,hX⟩ : ∃ X : Array Value,X = (A ++ (([c0,c1,c2] : List Value) ++ B)).toArray := ⟨_,rfl⟩
  have hXs : k + 3 ≤ X.size := by rw [hX];simp only [List.size_toArray,List.length_append,List.length_cons,List.length_nil,hA];omega
  have hb' : blk w R = some (X,E,(0,0)) := by rw [hX];exact hb
  refine fn_of_W Tryd.func255 rfl Tryd.results255 Tryd.ntmps255 rfl ?_
  repeat ((first | refine qA rfl ?_|refine qB ?_|refine qC rfl ?_|refine qD ?_|refine qE ?_|refine qF ?_|refine qG ?_|refine qH ?_);try simp (maxSteps:=1000000)(disch:=(first|omega|(simp only [qI,qJ,qK]<;>omega)|exact qL _)) only [go_sem,↓reduceIte,n0,reduceCtorEq,n1,n2,n3,n4,n5,i0,i1,i2,i3,i4,i5,i6,i7,hb',Array.size_setIfInBounds])
  first | exact ⟨hb,Upd.refl _ _⟩ | exact Upd.refl _ _ | (rw [hX];exact ⟨rfl,Upd.refl _ _⟩)
end Ms

