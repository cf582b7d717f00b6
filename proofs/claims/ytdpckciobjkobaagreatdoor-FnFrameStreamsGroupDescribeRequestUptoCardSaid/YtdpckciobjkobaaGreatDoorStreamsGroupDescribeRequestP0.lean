/- A part of the proof: see the last text. -/
import Derived.Test.YtdpckciobjkobaaGreatDoorC07
import Derived.Test.YtdpckciobjkobaaGreatDoorC09
import Derived.Test.YtdpckciobjkobaaGreatDoorC10
import Derived.Test.YtdpckciobjkobaaGreatDoorC11
set_option linter.unusedSimpArgs false
set_option linter.unusedVariables false
namespace Ms
open Nat renaming reduceEqDiff → n0,reduceAdd → n1,reduceMul → n2,reduceSub → n3,reduceLT → n4,reduceLeDiff → n5
open Int renaming reduceEq → i0,reduceLT → i1,reduceLE → i2,reduceNeg → i3,reduceAdd → i4,reduceSub → i5,reduceMul → i6,reduceToNat → i7
set_option maxRecDepth 4000
open Go Go.Proofs
theorem ca_117 : callable Tryz.prog 117 = true := nr (by kernel_rfl)
theorem ca_118 : callable Tryz.prog 118 = true := nr (by kernel_rfl)
theorem ca_12 : callable Tryz.prog 12 = true := nr (by kernel_rfl)
theorem ca_129 : callable Tryz.prog 129 = true := nr (by kernel_rfl)
theorem ca_13 : callable Tryz.prog 13 = true := nr (by kernel_rfl)
theorem ca_130 : callable Tryz.prog 130 = true := nr (by kernel_rfl)
theorem ca_131 : callable Tryz.prog 131 = true := nr (by kernel_rfl)
theorem ca_132 : callable Tryz.prog 132 = true := nr (by kernel_rfl)
theorem ca_139 : callable Tryz.prog 139 = true := nr (by kernel_rfl)
theorem ca_144 : callable Tryz.prog 144 = true := nr (by kernel_rfl)
theorem ca_145 : callable Tryz.prog 145 = true := nr (by kernel_rfl)
theorem ca_146 : callable Tryz.prog 146 = true := nr (by kernel_rfl)
theorem ca_147 : callable Tryz.prog 147 = true := nr (by kernel_rfl)
theorem ca_153 : callable Tryz.prog 153 = true := nr (by kernel_rfl)
theorem ca_16 : callable Tryz.prog 16 = true := nr (by kernel_rfl)
theorem ca_17 : callable Tryz.prog 17 = true := nr (by kernel_rfl)
theorem ca_191 : callable Tryz.prog 191 = true := nr (by kernel_rfl)
theorem ca_192 : callable Tryz.prog 192 = true := nr (by kernel_rfl)
theorem ca_196 : callable Tryz.prog 196 = true := nr (by kernel_rfl)
theorem ca_197 : callable Tryz.prog 197 = true := nr (by kernel_rfl)
theorem ca_20 : callable Tryz.prog 20 = true := nr (by kernel_rfl)
theorem ca_21 : callable Tryz.prog 21 = true := nr (by kernel_rfl)
theorem ca_239 : callable Tryz.prog 239 = true := nr (by kernel_rfl)
theorem ca_37 : callable Tryz.prog 37 = true := nr (by kernel_rfl)
theorem ca_38 : callable Tryz.prog 38 = true := nr (by kernel_rfl)
theorem ca_39 : callable Tryz.prog 39 = true := nr (by kernel_rfl)
theorem ca_53 : callable Tryz.prog 53 = true := nr (by kernel_rfl)
theorem ca_78 : callable Tryz.prog 78 = true := nr (by kernel_rfl)
theorem ca_79 : callable Tryz.prog 79 = true := nr (by kernel_rfl)
theorem ca_80 : callable Tryz.prog 80 = true := nr (by kernel_rfl)
theorem ca_81 : callable Tryz.prog 81 = true := nr (by kernel_rfl)
theorem es_113 : elemSize Tryz.prog 113 = some 1 := nr (by kernel_rfl)
theorem fo_117_0 : fieldOff Tryz.prog 117 0 = some 0 := nr (by kernel_rfl)
theorem fo_117_1 : fieldOff Tryz.prog 117 1 = some 1 := nr (by kernel_rfl)
theorem fo_117_2 : fieldOff Tryz.prog 117 2 = some 2 := nr (by kernel_rfl)
theorem fo_117_3 : fieldOff Tryz.prog 117 3 = some 3 := nr (by kernel_rfl)
theorem fo_117_4 : fieldOff Tryz.prog 117 4 = some 4 := nr (by kernel_rfl)
theorem if_55 : isIfaceT Tryz.prog 55 = true := nr (by kernel_rfl)
theorem kn_69 : knownT Tryz.prog 69 = true := nr (by kernel_rfl)
theorem kn_9 : knownT Tryz.prog 9 = true := nr (by kernel_rfl)
theorem ld_113 (w : World) (b o : Nat) : loadOf Tryz.prog 113 w ⟨b,o,none⟩ = (blk w b).bind fun x => x.1[o]? := loadOf_one (by kernel_rfl) w b o
theorem ld_23 (w : World) (b o : Nat) : loadOf Tryz.prog 23 w ⟨b,o,none⟩ = (blk w b).bind fun x => cellsAt x.1 o 2 := loadOf_agg (by kernel_rfl) w b o
theorem ld_34 (w : World) (b o : Nat) : loadOf Tryz.prog 34 w ⟨b,o,none⟩ = (blk w b).bind fun x => cellsAt x.1 o 2 := loadOf_agg (by kernel_rfl) w b o
theorem ld_45 (w : World) (b o : Nat) : loadOf Tryz.prog 45 w ⟨b,o,none⟩ = (blk w b).bind fun x => x.1[o]? := loadOf_one (by kernel_rfl) w b o
theorem nif_69 : isIfaceT Tryz.prog 69 = false := nr (by kernel_rfl)
theorem pl_131 : placesOf Tryz.prog 131 = some [(0,1),(1,1)] := nr (by kernel_rfl)
theorem pl_34 : placesOf Tryz.prog 34 = some [(0,1),(1,1)] := nr (by kernel_rfl)
theorem pl_51 : placesOf Tryz.prog 51 = some [(0,1),(1,1),(2,1),(3,1),(4,1),(5,1),(6,1),(7,1)] := nr (by kernel_rfl)
theorem se_32 : slElem Tryz.prog 32 = some (51,8) := nr (by kernel_rfl)
theorem sl_113 : isSliceT Tryz.prog 113 = true := nr (by kernel_rfl)
theorem sz_113 (w : World) (b o : Nat) (v : Value) : storeOf Tryz.prog 113 w ⟨b,o,none⟩ v = (blk w b).bind fun x => stO w b o v x 1 := storeOf_n (by kernel_rfl) w b o v
theorem sz_131 (w : World) (b o : Nat) (v : Value) : storeOf Tryz.prog 131 w ⟨b,o,none⟩ v = (blk w b).bind fun x => stO w b o v x 2 := storeOf_n (by kernel_rfl) w b o v
theorem sz_34 (w : World) (b o : Nat) (v : Value) : storeOf Tryz.prog 34 w ⟨b,o,none⟩ v = (blk w b).bind fun x => stO w b o v x 2 := storeOf_n (by kernel_rfl) w b o v
theorem sz_45 (w : World) (b o : Nat) (v : Value) : storeOf Tryz.prog 45 w ⟨b,o,none⟩ v = (blk w b).bind fun x => stO w b o v x 1 := storeOf_n (by kernel_rfl) w b o v
theorem z_117 : zeroOf Tryz.prog 117 = some #[.int .i16 0,.slice none 0 0,.bool false,.bool false,.map none] := nr (by kernel_rfl)
theorem z_131 : zeroOf Tryz.prog 131 = some #[.slice none 0 0,.bool false] := nr (by kernel_rfl)
theorem z_34 : zeroOf Tryz.prog 34 = some #[.slice none 0 0,.int .i64 0] := nr (by kernel_rfl)
attribute [go_sem] ca_117 ca_118 ca_12 ca_129 ca_13 ca_130 ca_131 ca_132 ca_139 ca_144 ca_145 ca_146 ca_147 ca_153 ca_16 ca_17 ca_191 ca_192 ca_196 ca_197 ca_20 ca_21 ca_239 ca_37 ca_38 ca_39 ca_53 ca_78 ca_79 ca_80 ca_81 es_113 fo_117_0 fo_117_1 fo_117_2 fo_117_3 fo_117_4 if_55 kn_69 kn_9 ld_113 ld_23 ld_34 ld_45 nif_69 pl_131 pl_34 pl_51 se_32 sl_113 sz_113 sz_131 sz_34 sz_45 z_117 z_131 z_34
end Ms

namespace Ms
open Go.World renaming size_alloc → qI
open Ms renaming size_wr → qJ,size_drew → qK,not_noB → qL
open W renaming seqR → qA,seq → qB,regR → qC,condK → qD,block → qE,skip → qF,ret → qG,exit → qH
open Nat renaming reduceEqDiff → n0,reduceAdd → n1,reduceMul → n2,reduceSub → n3,reduceLT → n4,reduceLeDiff → n5
open Int renaming reduceEq → i0,reduceLT → i1,reduceLE → i2,reduceNeg → i3,reduceAdd → i4,reduceSub → i5,reduceMul → i6,reduceToNat → i7
set_option maxRecDepth 8000
open Go Go.Proofs Go.Shelf
attribute [local congr] W_congr WPsq_congr WPp_congr optK_congr addrK_congr intK_congr boolK_congr sliceK_congr tupleK_congr funcK_congr Fn_congr rawK_congr takeK_congr stepK_congr convK_congr aggK_congr

def fStreamsGroupDescribeRequest_0 : Fld := .mk 11 0 (-1) (-1) (-1) 0 8 []
def fStreamsGroupDescribeRequest_1 : Fld := .mk 0 0 (-1) (-1) (-1) 0 0 []
def fStreamsGroupDescribeRequest_2 : Fld := .mk 0 1 (-1) (-1) (-1) 0 0 []
def fs_StreamsGroupDescribeRequest : List Fld := [fStreamsGroupDescribeRequest_0,fStreamsGroupDescribeRequest_1,fStreamsGroupDescribeRequest_2]

set_option maxHeartbeats 4000000 in
theorem cStreamsGroupDescribeRequest_fn (w : World) : Fn Tryz.prog 38 #[] w fun r w' => (∃ vs,r = .agg #[vs,.int .i64 0] ∧ FldsV (fun b => w.heap.size ≤ b) w' vs fs_StreamsGroupDescribeRequest) ∧ Ext w w' := by
  refine fn_of_W Tryz.func38 rfl Tryz.results38 Tryz.ntmps38 rfl ?_
  repeat ((first | refine qA rfl ?_|refine qB ?_|refine qC rfl ?_|refine qD ?_|refine qE ?_|refine qF ?_|refine qG ?_|refine qH ?_);try simp (maxSteps:=1000000)(disch:=(first|omega|(simp only [qI,qJ,qK]<;>omega)|exact qL _)) only [go_sem,↓reduceIte,n0,reduceCtorEq,n1,n2,n3,n4,n5,i0,i1,i2,i3,i4,i5,i6,i7,fill_fld,fillN_nil,fillN_int,fillN_slice])
  have hz0 : (w.alloc (.cells #[.slice none 0 0,.int .i64 0] 34)).heap.size = w.heap.size + 1 := World.size_alloc _ _
  repeat ((first | refine qA rfl ?_|refine qB ?_|refine qC rfl ?_|refine qD ?_|refine qE ?_|refine qF ?_|refine qG ?_|refine qH ?_);try simp (maxSteps:=1000000)(disch:=(first|omega|(simp only [qI,qJ,qK]<;>omega)|exact qL _)) only [go_sem,↓reduceIte,n0,reduceCtorEq,n1,n2,n3,n4,n5,i0,i1,i2,i3,i4,i5,i6,i7,fill_fld,fillN_nil,fillN_int,fillN_slice])
  exact ⟨⟨_,rfl,FldsV.litO (fs := fs_StreamsGroupDescribeRequest) (css := [[.int .i64 11,.int .i64 0,.int .i64 (-1),.int .i64 (-1),.int .i64 (-1),.int .i64 0,.int .i64 8,.slice none 0 0],[.int .i64 0,.int .i64 0,.int .i64 (-1),.int .i64 (-1),.int .i64 (-1),.int .i64 0,.int .i64 0,.slice none 0 0],[.int .i64 0,.int .i64 1,.int .i64 (-1),.int .i64 (-1),.int .i64 (-1),.int .i64 0,.int .i64 0,.slice none 0 0]]) (T := 51) (fr := (0,0)) (by first | omega | (simp only [World.size_alloc];omega)) (by first | (simp (maxSteps:=1000000)(disch:=(first|omega|(simp only [qI,qJ,qK]<;>omega)|exact qL _)) only [go_sem,↓reduceIte,n0,reduceCtorEq,n1,n2,n3,n4,n5,i0,i1,i2,i3,i4,i5,i6,i7];rfl) | rfl) (by simp) (All2.cons (FldC.intro (kind := 11) (FldsV.none _ _)) (All2.cons (FldC.intro (kind := 0) (FldsV.none _ _)) (All2.cons (FldC.intro (kind := 0) (FldsV.none _ _)) All2.nil)))⟩,(Upd.wr (Upd.alloc (Upd.alloc (Upd.refl _ _) _) _) _ _ (.inl (Nat.le_refl _)))⟩

theorem DefaultStreamsGroupDescribeRequest_fn (w : World) {vb : Nat} {c0 c1 c2 c3 c4 : Value} (hb : blk w vb = some (#[c0,c1,c2,c3,c4],117,(0,0))) :
    Fn Tryz.prog 117 #[.pointer (some ⟨vb,0,none⟩)] w fun _ w' => blk w' vb = some (#[c0,c1,c2,c3,c4],117,(0,0)) ∧ Upd (fun b => b = vb) w w' := by
  have hvl := blk_lt hb
  refine fn_of_W Tryz.func117 rfl Tryz.results117 Tryz.ntmps117 rfl ?_
  repeat ((first | refine qA rfl ?_|refine qB ?_|refine qC rfl ?_|refine qD ?_|refine qE ?_|refine qF ?_|refine qG ?_|refine qH ?_);try simp (maxSteps:=1000000)(disch:=(first|omega|(simp only [qI,qJ,qK]<;>omega)|exact qL _)) only [go_sem,↓reduceIte,n0,reduceCtorEq,n1,n2,n3,n4,n5,i0,i1,i2,i3,i4,i5,i6,i7,hb])
  first | exact Upd.refl _ _ | exact ⟨hb,Upd.refl _ _⟩

theorem NewPtrStreamsGroupDescribeRequest_fn (w : World) : Fn Tryz.prog 78 #[] w fun r w' => r = .pointer (some ⟨w.heap.size,0,none⟩) ∧ blk w' w.heap.size = some (#[.int .i16 0,.slice none 0 0,.bool false,.bool false,.map none],117,(0,0)) ∧ Ext w w' := by
  refine fn_of_W Tryz.func78 rfl Tryz.results78 Tryz.ntmps78 rfl ?_
  repeat ((first | refine qA rfl ?_|refine qB ?_|refine qC rfl ?_|refine qD ?_|refine qE ?_|refine qF ?_|refine qG ?_|refine qH ?_);try simp (maxSteps:=1000000)(disch:=(first|omega|(simp only [qI,qJ,qK]<;>omega)|exact qL _)) only [go_sem,↓reduceIte,n0,reduceCtorEq,n1,n2,n3,n4,n5,i0,i1,i2,i3,i4,i5,i6,i7])
  refine (DefaultStreamsGroupDescribeRequest_fn _ (blk_alloc_new rfl)).mono ?_
  rintro _ w1 ⟨hb1,hU1⟩
  have hz := World.size_alloc w (.cells #[.int .i16 0,.slice none 0 0,.bool false,.bool false,.map none] 117)
  repeat ((first | refine qA rfl ?_|refine qB ?_|refine qC rfl ?_|refine qD ?_|refine qE ?_|refine qF ?_|refine qG ?_|refine qH ?_);try simp (maxSteps:=1000000)(disch:=(first|omega|(simp only [qI,qJ,qK]<;>omega)|exact qL _)) only [go_sem,↓reduceIte,n0,reduceCtorEq,n1,n2,n3,n4,n5,i0,i1,i2,i3,i4,i5,i6,i7])
  exact ⟨hb1,(Upd.alloc (Upd.refl _ _) _ : Ext w _).more hU1 fun b hb h => by omega⟩

theorem SetVersionStreamsGroupDescribeRequest_fn (w : World) {vb : Nat} {c0 c1 c2 c3 c4 : Value} (n : Int) (hb : blk w vb = some (#[c0,c1,c2,c3,c4],117,(0,0))) :
    Fn Tryz.prog 80 #[.pointer (some ⟨vb,0,none⟩),.int .i16 n] w fun _ w' => blk w' vb = some (#[.int .i16 n,c1,c2,c3,c4],117,(0,0)) ∧ Upd (fun b => b = vb) w w' := by
  have hvl := blk_lt hb
  refine fn_of_W Tryz.func80 rfl Tryz.results80 Tryz.ntmps80 rfl ?_
  repeat ((first | refine qA rfl ?_|refine qB ?_|refine qC rfl ?_|refine qD ?_|refine qE ?_|refine qF ?_|refine qG ?_|refine qH ?_);try simp (maxSteps:=1000000)(disch:=(first|omega|(simp only [qI,qJ,qK]<;>omega)|exact qL _)) only [go_sem,↓reduceIte,n0,reduceCtorEq,n1,n2,n3,n4,n5,i0,i1,i2,i3,i4,i5,i6,i7,hb])
  first | exact Upd.wr (Upd.refl _ _) _ _ (.inr rfl) | exact ⟨by simp (maxSteps:=1000000)(disch:=(first|omega|(simp only [qI,qJ,qK]<;>omega)|exact qL _)) only [go_sem,↓reduceIte,n0,reduceCtorEq,n1,n2,n3,n4,n5,i0,i1,i2,i3,i4,i5,i6,i7,hb],Upd.wr (Upd.refl _ _) _ _ (.inr rfl)⟩

theorem MaxStreamsGroupDescribeRequest_fn (w : World) : Fn Tryz.prog 37 #[] w fun r w' => r = .int .i64 1 ∧ Ext w w' := by
  refine fn_of_W Tryz.func37 rfl Tryz.results37 Tryz.ntmps37 rfl ?_
  repeat ((first | refine qA rfl ?_|refine qB ?_|refine qC rfl ?_|refine qD ?_|refine qE ?_|refine qF ?_|refine qG ?_|refine qH ?_);try simp (maxSteps:=1000000)(disch:=(first|omega|(simp only [qI,qJ,qK]<;>omega)|exact qL _)) only [go_sem,↓reduceIte,n0,reduceCtorEq,n1,n2,n3,n4,n5,i0,i1,i2,i3,i4,i5,i6,i7])
  refine (NewPtrStreamsGroupDescribeRequest_fn w).mono ?_
  rintro _ w1 ⟨rfl,hb1,hE1⟩
  repeat ((first | refine qA rfl ?_|refine qB ?_|refine qC rfl ?_|refine qD ?_|refine qE ?_|refine qF ?_|refine qG ?_|refine qH ?_);try simp (maxSteps:=1000000)(disch:=(first|omega|(simp only [qI,qJ,qK]<;>omega)|exact qL _)) only [go_sem,↓reduceIte,n0,reduceCtorEq,n1,n2,n3,n4,n5,i0,i1,i2,i3,i4,i5,i6,i7])
  have hm : Fn Tryz.prog 79 #[.pointer (some ⟨w.heap.size,0,none⟩)] w1 fun r w' => r = .int .i16 1 ∧ w' = w1 := by
    refine fn_of_W Tryz.func79 rfl Tryz.results79 Tryz.ntmps79 rfl ?_
    repeat ((first | refine qA rfl ?_|refine qB ?_|refine qC rfl ?_|refine qD ?_|refine qE ?_|refine qF ?_|refine qG ?_|refine qH ?_);try simp (maxSteps:=1000000)(disch:=(first|omega|(simp only [qI,qJ,qK]<;>omega)|exact qL _)) only [go_sem,↓reduceIte,n0,reduceCtorEq,n1,n2,n3,n4,n5,i0,i1,i2,i3,i4,i5,i6,i7])
  refine hm.mono ?_
  rintro _ w2 ⟨rfl,rfl⟩
  have ew : IntKind.i64.wrap (1 : Int) = 1 := i64_wrap (by decide)
  repeat ((first | refine qA rfl ?_|refine qB ?_|refine qC rfl ?_|refine qD ?_|refine qE ?_|refine qF ?_|refine qG ?_|refine qH ?_);try simp (maxSteps:=1000000)(disch:=(first|omega|(simp only [qI,qJ,qK]<;>omega)|exact qL _)) only [go_sem,↓reduceIte,n0,reduceCtorEq,n1,n2,n3,n4,n5,i0,i1,i2,i3,i4,i5,i6,i7,ew])
  exact hE1
end Ms

namespace Ms
open Nat renaming reduceEqDiff → n0,reduceAdd → n1,reduceMul → n2,reduceSub → n3,reduceLT → n4,reduceLeDiff → n5
open Int renaming reduceEq → i0,reduceLT → i1,reduceLE → i2,reduceNeg → i3,reduceAdd → i4,reduceSub → i5,reduceMul → i6,reduceToNat → i7
set_option maxRecDepth 8000
open Go Go.Proofs Go.Shelf
attribute [local congr] W_congr WPsq_congr WPp_congr optK_congr addrK_congr intK_congr boolK_congr sliceK_congr tupleK_congr funcK_congr Fn_congr rawK_congr takeK_congr stepK_congr convK_congr aggK_congr

theorem utStreamsGroupDescribeRequest_113 : Tryz.prog.underlying 113 = some (.slice 9) := by kernel_rfl
theorem utStreamsGroupDescribeRequest_21 : Tryz.prog.underlying 21 = some (.int .i32) := by kernel_rfl
theorem inStreamsGroupDescribeRequest_9 : (Tryz.prog.info? 9).map (fun i => (i.size,i.bytes,i.zero.map (·.cells))) = some (1,16,some #[.string ByteArray.empty]) := by kernel_rfl
end Ms

namespace Ms
open Go.World renaming size_alloc → qI
open Ms renaming size_wr → qJ,size_drew → qK,not_noB → qL
open W renaming seqR → qA,seq → qB,regR → qC,condK → qD,block → qE,skip → qF,ret → qG,exit → qH
open Nat renaming reduceEqDiff → n0,reduceAdd → n1,reduceMul → n2,reduceSub → n3,reduceLT → n4,reduceLeDiff → n5
open Int renaming reduceEq → i0,reduceLT → i1,reduceLE → i2,reduceNeg → i3,reduceAdd → i4,reduceSub → i5,reduceMul → i6,reduceToNat → i7
set_option maxRecDepth 8000
open Go Go.Proofs Go.Shelf
attribute [local congr] W_congr WPsq_congr WPp_congr optK_congr addrK_congr intK_congr boolK_congr sliceK_congr tupleK_congr funcK_congr Fn_congr rawK_congr takeK_congr stepK_congr convK_congr aggK_congr

set_option maxHeartbeats 4000000 in
theorem readStreamsGroupDescribeRequest_0 {d : Nat} {ok : Blocks} {ver : Int} {ev : Value} (hlo : 0 ≤ ver) (hhi : ver ≤ 0) (w : World) {vb : Nat} (src : Value) (s : List UInt8) (hv : blk w vb = some (#[.int .i16 ver,.slice none 0 0,.bool false,.bool false,.map none],117,(0,0))) (hsrc : BytesV ok w src s) (hok0 : ∀ b,ok b → b < w.heap.size ∧ b ≠ vb) (hG : Glo ev w) (hgv : ¬ 1 = vb ∧ ¬ 0 = vb) :
    Fn Tryz.prog 118 #[.pointer (some ⟨vb,0,none⟩),src,.bool false] w (ReadQ 117 ok ver (d + 1) fs_StreamsGroupDescribeRequest vb w (rdP (d + 1) ver true fs_StreamsGroupDescribeRequest (some s)) ev) := by
  have hvl := blk_lt hv
  have hgs := hG.lt
  obtain ⟨sa,sc,rfl,_⟩ := hsrc.shape
  refine fn_of_W Tryz.func118 rfl Tryz.results118 Tryz.ntmps118 rfl ?_
  repeat ((first | refine qA rfl ?_|refine qB ?_|refine qC rfl ?_|refine qD ?_|refine qE ?_|refine qF ?_|refine qG ?_|refine qH ?_);try simp (maxSteps:=1000000)(disch:=(first|omega|(simp only [qI,qJ,qK]<;>omega)|exact qL _)) only [go_sem,↓reduceIte,n0,reduceCtorEq,n1,n2,n3,n4,n5,i0,i1,i2,i3,i4,i5,i6,i7,hv])
  refine (DefaultStreamsGroupDescribeRequest_fn w hv).mono ?_
  rintro _ w0 ⟨hv0,hu0⟩
  have hz0 := hu0.size
  have hsrc0 : BytesV ok w0 (.slice sa s.length sc) s := hsrc.keep (hu0.keeps fun b _ hk e => (hok0 b hk).2 e)
  obtain ⟨rb,hrb⟩ : ∃ r,r = w0.heap.size := ⟨_,rfl⟩
  have hE1 : Ext w0 (wr (w0.alloc (.cells #[.slice none 0 0,.bool false] 131)) w0.heap.size 0 [.slice sa s.length sc,.bool false]) := (Upd.alloc (Upd.refl _ _) _).wr _ _ (.inl (Nat.le_refl _))
  have hz1 : (wr (w0.alloc (.cells #[.slice none 0 0,.bool false] 131)) w0.heap.size 0 [.slice sa s.length sc,.bool false]).heap.size = w0.heap.size + 1 := by rw [size_wr,World.size_alloc]
  have hR1 : Rdr RT ok (wr (w0.alloc (.cells #[.slice none 0 0,.bool false] 131)) w0.heap.size 0 [.slice sa s.length sc,.bool false]) w0.heap.size (some s) := Rdr.good (v := .slice sa s.length sc) (by simp (maxSteps:=1000000)(disch:=(first|omega|(simp only [qI,qJ,qK]<;>omega)|exact qL _)) only [go_sem,↓reduceIte,n0,reduceCtorEq,n1,n2,n3,n4,n5,i0,i1,i2,i3,i4,i5,i6,i7]) (hsrc0.keep (hE1.keeps _))
  have hv_1 := hE1.blk_some hv0 id
  repeat ((first | refine qA rfl ?_|refine qB ?_|refine qC rfl ?_|refine qD ?_|refine qE ?_|refine qF ?_|refine qG ?_|refine qH ?_);try simp (maxSteps:=1000000)(disch:=(first|omega|(simp only [qI,qJ,qK]<;>omega)|exact qL _)) only [go_sem,↓reduceIte,n0,reduceCtorEq,n1,n2,n3,n4,n5,i0,i1,i2,i3,i4,i5,i6,i7,hv0])
  generalize (wr (w0.alloc (.cells #[.slice none 0 0,.bool false] 131)) w0.heap.size 0 [.slice sa s.length sc,.bool false]) = w1 at *
  rw [← hrb] at hR1
  try rw [← hrb]
  have hok : ∀ b,ok b → b < w.heap.size ∧ b ≠ vb := hok0
  have hrok : ¬ ok rb := fun h => by have := (hok rb h).1;omega
  have hbase : Upd (fun b => b = vb) w w1 := hu0.trans (hE1.mono fun _ h => h.elim)
  have hG1 : Glo ev w1 := hG.updS hbase hgv.1 hgv.2
  have hgrb : ¬ 1 = rb := by omega
  have hgM1 : ¬ (1 = vb ∨ 1 = rb) := fun h => h.elim hgv.1 fun h => by omega
  have hgM2 : ¬ (0 = vb ∨ 0 = rb) := fun h => h.elim hgv.2 fun h => by omega
  obtain ⟨s0,hs0⟩ : ∃ s' : St,s' = some s := ⟨_,rfl⟩
  rw [← hs0] at hR1 ⊢
  have hU1 : Upd (fun b => b = vb ∨ b = rb) w1 w1 := Upd.refl _ _
  have hoM : ∀ b,(ok b ∨ w1.heap.size ≤ b) → ¬ (b = vb ∨ b = rb) := fun b hk h => by
    rcases hk with hk | hk
    · have := hok b hk;rcases h with h | h <;> omega
    · rcases h with h | h <;> omega
  have hq1 : Rdr RT ok w1 rb s0 := hR1
  obtain ⟨FB,hFB⟩ : ∃ P : Prop,P = ((rdP (d + 1) ver true fs_StreamsGroupDescribeRequest s0).2 = none) := ⟨_,rfl⟩
  have hb_0 : (rdL (rdP d ver true) (dfP d) ver true [fStreamsGroupDescribeRequest_0,fStreamsGroupDescribeRequest_1,fStreamsGroupDescribeRequest_2] s0).2 = none → FB := fun h => Eq.mpr hFB (rdP_bad h)
  have hh_0 : hasS fStreamsGroupDescribeRequest_0 ver = true := hasS_t (by show (0 : Int) ≤ ver;omega) (by show (-1 : Int) < 0 ∨ ver ≤ (-1 : Int);omega)
  obtain ⟨x_0,hx_0⟩ : ∃ x,x = (rdF (rdP d ver true) ver true fStreamsGroupDescribeRequest_0 s0).1 := ⟨_,rfl⟩
  repeat ((first | refine qA rfl ?_|refine qB ?_|refine qC rfl ?_|refine qD ?_|refine qE ?_|refine qF ?_|refine qG ?_|refine qH ?_);try simp (maxSteps:=1000000)(disch:=(first|omega|(simp only [qI,qJ,qK]<;>omega)|exact qL _)) only [go_sem,↓reduceIte,n0,reduceCtorEq,n1,n2,n3,n4,n5,i0,i1,i2,i3,i4,i5,i6,i7,hv_1])
  refine (RCompactArrayLen_fn w1 hq1 hrok hG1.1 hgrb).mono ?_
  rintro _ w2 ⟨rfl,hq2,hu2⟩
  have hv_2 := hu2.blk_some hv_1 (by omega)
  have hV2 : Upd (fun b => b = vb ∨ b = rb) w1 w2 := hu2.mono (fun _ h => .inr h)
  have hU2 : Upd (fun b => b = vb ∨ b = rb) w1 w2 := hU1.trans hV2
  have hz2 := hV2.size
  have hG2 : Glo ev w2 := hG1.updS hU2 hgM1 hgM2
  obtain ⟨s1,hs1⟩ : ∃ s,s = (rdALen true s0).2 := ⟨_,rfl⟩
  rw [← hs1] at hq2
  have hyr0 := rdALen_rng true s0
  generalize hy0 : (rdALen true s0).1 = y0 at *
  obtain ⟨N0,hN0⟩ : ∃ N,N = y0.toNat := ⟨_,rfl⟩
  have hlb0 : (rdMany (rd1 (rdP d ver true) fStreamsGroupDescribeRequest_0.of fStreamsGroupDescribeRequest_0.sub false true) N0 s1).2 = none → FB := fun h => hb_0 (by rw [rdL_st (by decide) hh_0];exact rdL_bad (rdF_listbad rfl (by rw [hy0,← hN0,← hs1];exact h)))
  repeat ((first | refine W.seqR rfl ?_ | refine W.seq ?_ | refine W.regR rfl ?_ | refine W.block ?_ | refine W.skip ?_ | refine W.ret ?_ | refine W.exit ?_);try simp (maxSteps:=1000000)(disch:=(first|omega|(simp only [qI,qJ,qK]<;>omega)|exact qL _)) only [go_sem,↓reduceIte,n0,reduceCtorEq,n1,n2,n3,n4,n5,i0,i1,i2,i3,i4,i5,i6,i7,hv_2])
  refine (ROk_fn w2 hq2.1).mono ?_
  rintro _ wz ⟨rfl,hez⟩
  rw [hez]
  clear hez wz
  by_cases hsn0 : s1 = none
  · have hso : s1.isSome = false := by rw [hsn0];rfl
    try simp (maxSteps:=1000000)(disch:=(first|omega|(simp only [qI,qJ,qK]<;>omega)|exact qL _)) only [go_sem,↓reduceIte,n0,reduceCtorEq,n1,n2,n3,n4,n5,i0,i1,i2,i3,i4,i5,i6,i7,hv_2,hso]
    repeat ((first | refine qA rfl ?_|refine qB ?_|refine qC rfl ?_|refine qD ?_|refine qE ?_|refine qF ?_|refine qG ?_|refine qH ?_);try simp (maxSteps:=1000000)(disch:=(first|omega|(simp only [qI,qJ,qK]<;>omega)|exact qL _)) only [go_sem,↓reduceIte,n0,reduceCtorEq,n1,n2,n3,n4,n5,i0,i1,i2,i3,i4,i5,i6,i7,hv_2,hso])
    refine (RComplete_fn w2 hq2.1 hG2.2).mono ?_
    rintro _ wz ⟨rfl,hez⟩
    rw [hez]
    try simp (maxSteps:=1000000)(disch:=(first|omega|(simp only [qI,qJ,qK]<;>omega)|exact qL _)) only [go_sem,↓reduceIte,n0,reduceCtorEq,n1,n2,n3,n4,n5,i0,i1,i2,i3,i4,i5,i6,i7,hv_2]
    repeat ((first | refine qA rfl ?_|refine qB ?_|refine qC rfl ?_|refine qD ?_|refine qE ?_|refine qF ?_|refine qG ?_|refine qH ?_);try simp (maxSteps:=1000000)(disch:=(first|omega|(simp only [qI,qJ,qK]<;>omega)|exact qL _)) only [go_sem,↓reduceIte,n0,reduceCtorEq,n1,n2,n3,n4,n5,i0,i1,i2,i3,i4,i5,i6,i7,hv_2])
    rw [errV_none hsn0]
    exact ReadQ.bad (Eq.mp hFB (hlb0 (by rw [hsn0];exact rdMany_none rd1P_none _))) (hbase.trans' hU2 fun i hi h => h.elim id fun h => by omega)
  have hso0 : s1.isSome = true := isSome_some hsn0
  try simp (maxSteps:=1000000)(disch:=(first|omega|(simp only [qI,qJ,qK]<;>omega)|exact qL _)) only [go_sem,↓reduceIte,n0,reduceCtorEq,n1,n2,n3,n4,n5,i0,i1,i2,i3,i4,i5,i6,i7,hv_2,hso0]
  repeat ((first | refine W.seqR rfl ?_ | refine W.seq ?_ | refine W.regR rfl ?_ | refine W.block ?_ | refine W.skip ?_ | refine W.ret ?_ | refine W.exit ?_);try simp (maxSteps:=1000000)(disch:=(first|omega|(simp only [qI,qJ,qK]<;>omega)|exact qL _)) only [go_sem,↓reduceIte,n0,reduceCtorEq,n1,n2,n3,n4,n5,i0,i1,i2,i3,i4,i5,i6,i7,hv_2,hso0])
  refine W.condK ?_
  try simp (maxSteps:=1000000)(disch:=(first|omega|(simp only [qI,qJ,qK]<;>omega)|exact qL _)) only [go_sem,↓reduceIte,n0,reduceCtorEq,n1,n2,n3,n4,n5,i0,i1,i2,i3,i4,i5,i6,i7,hv_2,hso0]
  repeat ((first | refine W.seqR rfl ?_ | refine W.seq ?_ | refine W.regR rfl ?_ | refine W.block ?_ | refine W.skip ?_ | refine W.ret ?_ | refine W.exit ?_);try simp (maxSteps:=1000000)(disch:=(first|omega|(simp only [qI,qJ,qK]<;>omega)|exact qL _)) only [go_sem,↓reduceIte,n0,reduceCtorEq,n1,n2,n3,n4,n5,i0,i1,i2,i3,i4,i5,i6,i7,hv_2,hso0,slBase_00])
  refine W.normJ (RowQ [(2,.bool false),(7,.pointer (some ⟨rb,0,none⟩)),(8,.int .i16 ver),(9,.bool true),(10,.pointer (some ⟨vb,0,none⟩)),(13,.int .i32 y0)] 12 (fun va w' => LstI RT (rd1 (rdP d ver true) fStreamsGroupDescribeRequest_0.of fStreamsGroupDescribeRequest_0.sub false true) (Rep1 (RepS true d) fStreamsGroupDescribeRequest_0.of fStreamsGroupDescribeRequest_0.sub) 1 9 [.string ByteArray.empty] w2.heap.size N0 ok (fun b => ok b ∨ w1.heap.size ≤ b) rb w2 s1 va 0 s1 [] [] w' ∧ (N0 = 0 → if nilS fStreamsGroupDescribeRequest_0 ver y0 = true then va = .slice none 0 0 else ∃ a,va = .slice (some a) 0 0))) ?_ ?_
  · by_cases hy0 : (0 : Int) < y0
    · have hyv : Value.int .i32 y0 = .int .i32 ((N0 : Nat) : Int) := by rw [show y0 = ((N0 : Nat) : Int) by omega]
      repeat ((first | refine qA rfl ?_|refine qB ?_|refine qC rfl ?_|refine qD ?_|refine qE ?_|refine qF ?_|refine qG ?_|refine qH ?_);try simp (maxSteps:=1000000)(disch:=(first|omega|(simp only [qI,qJ,qK]<;>omega)|exact qL _)) only [go_sem,↓reduceIte,n0,reduceCtorEq,n1,n2,n3,n4,n5,i0,i1,i2,i3,i4,i5,i6,i7,hv_2])
      refine wp_appendZ (m := N0) utStreamsGroupDescribeRequest_113 utStreamsGroupDescribeRequest_21 inStreamsGroupDescribeRequest_9 (by decide) (by first | rfl | simp (maxSteps:=1000000)(disch:=(first|omega|(simp only [qI,qJ,qK]<;>omega)|exact qL _)) only [go_sem,↓reduceIte,n0,reduceCtorEq,n1,n2,n3,n4,n5,i0,i1,i2,i3,i4,i5,i6,i7]) (by first | exact hyv | (simp (maxSteps:=1000000)(disch:=(first|omega|(simp only [qI,qJ,qK]<;>omega)|exact qL _)) only [go_sem,↓reduceIte,n0,reduceCtorEq,n1,n2,n3,n4,n5,i0,i1,i2,i3,i4,i5,i6,i7];exact hyv)) (by omega) (by omega) (by decide) ?_
      intro q rest hq1
      have hEw : Ext w2 (w2.drew.alloc (.cells (zs [.string ByteArray.empty] N0 ++ rest).toArray 9)) := (Upd.refl _ _).drew.alloc _
      try simp (maxSteps:=1000000)(disch:=(first|omega|(simp only [qI,qJ,qK]<;>omega)|exact qL _)) only [go_sem,↓reduceIte,n0,reduceCtorEq,n1,n2,n3,n4,n5,i0,i1,i2,i3,i4,i5,i6,i7,hv_2]
      repeat ((first | refine qA rfl ?_|refine qB ?_|refine qC rfl ?_|refine qD ?_|refine qE ?_|refine qF ?_|refine qG ?_|refine qH ?_);try simp (maxSteps:=1000000)(disch:=(first|omega|(simp only [qI,qJ,qK]<;>omega)|exact qL _)) only [go_sem,↓reduceIte,n0,reduceCtorEq,n1,n2,n3,n4,n5,i0,i1,i2,i3,i4,i5,i6,i7,hv_2])
      exact ⟨(by simp (maxSteps:=1000000)(disch:=(first|omega|(simp only [qI,qJ,qK]<;>omega)|exact qL _)) only [go_sem,↓reduceIte,n0,reduceCtorEq,n1,n2,n3,n4,n5,i0,i1,i2,i3,i4,i5,i6,i7,Holds_nil,Holds_cons]),.slice (some ⟨w2.heap.size,0,none⟩) N0 q,(by simp (maxSteps:=1000000)(disch:=(first|omega|(simp only [qI,qJ,qK]<;>omega)|exact qL _)) only [go_sem,↓reduceIte,n0,reduceCtorEq,n1,n2,n3,n4,n5,i0,i1,i2,i3,i4,i5,i6,i7]),LstI.start (RowJ.start (by omega) hq1 (by show w2.heap.size ≤ w2.drew.heap.size;rw [size_drew];omega) (blk_alloc_new rfl)) ⟨hq2.1.upd hEw (fun h => h) (fun _ _ _ h => h),hq2.2.upd hEw fun h => h⟩ (hEw.mono fun _ h => h.elim),fun h0 => by omega⟩
    · repeat ((first | refine qA rfl ?_|refine qB ?_|refine qC rfl ?_|refine qD ?_|refine qE ?_|refine qF ?_|refine qG ?_|refine qH ?_);try simp (maxSteps:=1000000)(disch:=(first|omega|(simp only [qI,qJ,qK]<;>omega)|exact qL _)) only [go_sem,↓reduceIte,n0,reduceCtorEq,n1,n2,n3,n4,n5,i0,i1,i2,i3,i4,i5,i6,i7,hv_2])
      exact ⟨(by simp (maxSteps:=1000000)(disch:=(first|omega|(simp only [qI,qJ,qK]<;>omega)|exact qL _)) only [go_sem,↓reduceIte,n0,reduceCtorEq,n1,n2,n3,n4,n5,i0,i1,i2,i3,i4,i5,i6,i7,Holds_nil,Holds_cons]),.slice none 0 0,(by simp (maxSteps:=1000000)(disch:=(first|omega|(simp only [qI,qJ,qK]<;>omega)|exact qL _)) only [go_sem,↓reduceIte,n0,reduceCtorEq,n1,n2,n3,n4,n5,i0,i1,i2,i3,i4,i5,i6,i7,slBase_00]),LstI.start (RowJ.zero (by omega) (fun _ h => by cases h)) hq2 (Upd.refl _ _),fun _ => by rw [nilS_plain (by decide) (by omega)];exact rfl⟩
  rintro ρ w3 ⟨⟨hrb0_2,hrb0_7,hrb0_8,hrb0_9,hrb0_10,hrb0_13,-⟩,va0,hra0,hL0,hnc0⟩
  repeat ((first | refine qA rfl ?_|refine qB ?_|refine qC rfl ?_|refine qD ?_|refine qE ?_|refine qF ?_|refine qG ?_|refine qH ?_);try simp (maxSteps:=1000000)(disch:=(first|omega|(simp only [qI,qJ,qK]<;>omega)|exact qL _)) only [go_sem,↓reduceIte,n0,reduceCtorEq,n1,n2,n3,n4,n5,i0,i1,i2,i3,i4,i5,i6,i7,hv_2,hrb0_2,hrb0_7,hrb0_8,hrb0_9,hrb0_10,hrb0_13,hra0,exitRQ_ret,exitRQ_exit,Int.toNat_natCast,Nat.mul_one])
  refine W.exitRJ 0 (EndQ [(2,.bool false),(7,.pointer (some ⟨rb,0,none⟩)),(8,.int .i16 ver),(9,.bool true),(10,.pointer (some ⟨vb,0,none⟩)),(13,.int .i32 y0),(12,va0)] (fun w' => ∃ s xs css,LstI RT (rd1 (rdP d ver true) fStreamsGroupDescribeRequest_0.of fStreamsGroupDescribeRequest_0.sub false true) (Rep1 (RepS true d) fStreamsGroupDescribeRequest_0.of fStreamsGroupDescribeRequest_0.sub) 1 9 [.string ByteArray.empty] w2.heap.size N0 ok (fun b => ok b ∨ w1.heap.size ≤ b) rb w2 s1 va0 N0 s xs css w')) (W.loop (LoopQ [(2,.bool false),(7,.pointer (some ⟨rb,0,none⟩)),(8,.int .i16 ver),(9,.bool true),(10,.pointer (some ⟨vb,0,none⟩)),(13,.int .i32 y0),(12,va0)] 14 (fun j w' => ∃ s xs css,LstI RT (rd1 (rdP d ver true) fStreamsGroupDescribeRequest_0.of fStreamsGroupDescribeRequest_0.sub false true) (Rep1 (RepS true d) fStreamsGroupDescribeRequest_0.of fStreamsGroupDescribeRequest_0.sub) 1 9 [.string ByteArray.empty] w2.heap.size N0 ok (fun b => ok b ∨ w1.heap.size ≤ b) rb w2 s1 va0 j s xs css w')) (fun ρ _ => N0 - (RowKit.intOf (ρ 14)).toNat) ?_ ?_) ?_
  · exact ⟨(by simp (maxSteps:=1000000)(disch:=(first|omega|(simp only [qI,qJ,qK]<;>omega)|exact qL _)) only [go_sem,↓reduceIte,n0,reduceCtorEq,n1,n2,n3,n4,n5,i0,i1,i2,i3,i4,i5,i6,i7,Holds_nil,Holds_cons,hrb0_2,hrb0_7,hrb0_8,hrb0_9,hrb0_10,hrb0_13,hra0]),0,(by simp (maxSteps:=1000000)(disch:=(first|omega|(simp only [qI,qJ,qK]<;>omega)|exact qL _)) only [go_sem,↓reduceIte,n0,reduceCtorEq,n1,n2,n3,n4,n5,i0,i1,i2,i3,i4,i5,i6,i7,hrb0_2,hrb0_7,hrb0_8,hrb0_9,hrb0_10,hrb0_13,hra0];all_goals rfl),s1,[],[],hL0⟩
  · rintro ρ w4 ⟨⟨hrc0_2,hrc0_7,hrc0_8,hrc0_9,hrc0_10,hrc0_13,hrc0_12,-⟩,j1,hri0,s2,xs0,css0,hL0⟩
    have hj0 := hL0.le
    have hq4 := hL0.rd
    have hU4 : Upd (fun b => b = vb ∨ b = rb) w1 w4 := hU2.trans' hL0.upd fun i _ h => .inr h
    have hz4 := hL0.upd.size
    have hG4 : Glo ev w4 := hG1.updS hU4 hgM1 hgM2
    by_cases hlt0 : j1 < N0
    · obtain ⟨R1,q1,B1,hva1,hNq1,hLR1,hA1,hx1_4,hnext1⟩ := hL0.row.next hlt0
      have hRl1 := blk_lt hx1_4
      generalize css0.flatten = A1 at hA1 hx1_4 hnext1
      rw [Nat.mul_one] at hA1
      replace hra0 : ρ 12 = .slice (some ⟨R1,0,none⟩) N0 q1 := hrc0_12.trans hva1
      have hown1 : ∀ b,ownB va0 b → w2.heap.size ≤ b ∧ b < w4.heap.size := fun b h => hL0.row.own h
      have hoM1 : ∀ b,(fun b => (ok b ∨ w1.heap.size ≤ b) ∧ ¬ ownB va0 b) b → ¬ (b = R1 ∨ b = rb) := fun b hk h => h.elim (fun e => hk.2 ⟨_,_,_,hva1,e⟩) (fun e => hoM b hk.1 (.inr e))
      obtain ⟨X4,hX4⟩ : ∃ X : Array Value,X = (A1 ++ (([.string ByteArray.empty] : List Value) ++ B1)).toArray := ⟨_,rfl⟩
      have hxb4 : blk w4 R1 = some (X4,9,(0,0)) := by rw [hX4];exact hx1_4
      have hXs4 : j1 + 1 ≤ X4.size := by rw [hX4];simp only [List.size_toArray,List.length_append,List.length_cons,List.length_nil,hA1];omega
      repeat ((first | refine qA rfl ?_|refine qB ?_|refine qC rfl ?_|refine qD ?_|refine qE ?_|refine qF ?_|refine qG ?_|refine qH ?_);try simp (maxSteps:=1000000)(disch:=(first|omega|(simp only [qI,qJ,qK]<;>omega)|exact qL _)) only [go_sem,↓reduceIte,n0,reduceCtorEq,n1,n2,n3,n4,n5,i0,i1,i2,i3,i4,i5,i6,i7,hxb4,hrc0_2,hrc0_7,hrc0_8,hrc0_9,hrc0_10,hrc0_13,hra0,hri0,exitRQ_ret,exitRQ_exit,Int.toNat_natCast,Nat.mul_one])
      refine (RCompactString_fn w4 hq4.1 hrok hG4.1 hgrb).mono ?_
      rintro _ w5 ⟨rfl,hq5,hu5⟩
      have hx1_5 := hu5.blk_some hx1_4 (by omega)
      have hV5 : Upd (fun b => b = R1 ∨ b = rb) w4 w5 := hu5.mono (fun _ h => .inr h)
      have hU5 : Upd (fun b => b = vb ∨ b = rb) w1 w5 := hU4.trans' hV5 fun i hi h => h.elim (fun h => by omega) .inr
      have hz5 := hV5.size
      have hG5 : Glo ev w5 := hG1.updS hU5 hgM1 hgM2
      obtain ⟨X5,hX5⟩ : ∃ X : Array Value,X = (A1 ++ (([.string ByteArray.empty] : List Value) ++ B1)).toArray := ⟨_,rfl⟩
      have hxb5 : blk w5 R1 = some (X5,9,(0,0)) := by rw [hX5];exact hx1_5
      have hXs5 : j1 + 1 ≤ X5.size := by rw [hX5];simp only [List.size_toArray,List.length_append,List.length_cons,List.length_nil,hA1];omega
      obtain ⟨s3,hs3⟩ : ∃ s,s = (rdStr true s2).2 := ⟨_,rfl⟩
      rw [← hs3] at hq5
      have hrE : (rd1 (rdP d ver true) fStreamsGroupDescribeRequest_0.of fStreamsGroupDescribeRequest_0.sub false true) s2 = ((.oct false (rdStr true s2).1),s3) := by rw [hs3];exact rd1_text
      have hst5_0 : j1 + 1 ≤ X5.size := by omega
      repeat ((first | refine qA rfl ?_|refine qB ?_|refine qC rfl ?_|refine qD ?_|refine qE ?_|refine qF ?_|refine qG ?_|refine qH ?_);try simp (maxSteps:=1000000)(disch:=(first|omega|(simp only [qI,qJ,qK]<;>omega)|exact qL _)) only [go_sem,↓reduceIte,n0,reduceCtorEq,n1,n2,n3,n4,n5,i0,i1,i2,i3,i4,i5,i6,i7,hxb5,hrc0_2,hrc0_7,hrc0_8,hrc0_9,hrc0_10,hrc0_13,hra0,hri0,exitRQ_ret,exitRQ_exit,Int.toNat_natCast,Nat.mul_one,hst5_0])
      generalize hw6 : wr w5 R1 (j1) [strV (rdStr true s2).1] = w6
      have hS6 : Upd (fun b => b = R1 ∨ b = rb) w5 w6 := by rw [← hw6];exact (Upd.refl _ _).wr _ _ (.inr (.inl rfl))
      have hx1_6 : blk w6 R1 = some ((A1 ++ (([strV (rdStr true s2).1] : List Value) ++ B1)).toArray,9,(0,0)) := by rw [← hw6];exact el_blk0 hx1_5 hA1 (Nat.le_of_ble_eq_true rfl)
      have hV6 := hS6
      have hU6 : Upd (fun b => b = vb ∨ b = rb) w1 w6 := hU5.trans' hV6 fun i hi h => h.elim (fun h => by omega) .inr
      have hz6 := hV6.size
      have hG6 : Glo ev w6 := hG1.updS hU6 hgM1 hgM2
      have hq6 : Rdr RT ok w6 rb s3 ∧ NN w6 rb s3 := by
        have hn : ∀ x,x = w6 → (Rdr RT ok x rb s3 ∧ NN x rb s3) := fun x hx => by
          rw [hx,← hw6]
          exact Rdr.store hq5 (by omega) (fun h => by have := (hok _ h).1;first | omega | exact (hok _ h).2 rfl)
        exact hn _ rfl
      obtain ⟨X6,hX6⟩ : ∃ X : Array Value,X = (A1 ++ (([strV (rdStr true s2).1] : List Value) ++ B1)).toArray := ⟨_,rfl⟩
      have hxb6 : blk w6 R1 = some (X6,9,(0,0)) := by rw [hX6];exact hx1_6
      have hXs6 : j1 + 1 ≤ X6.size := by rw [hX6];simp only [List.size_toArray,List.length_append,List.length_cons,List.length_nil,hA1];omega
      clear hw6
      have hxE : (Rep1 (RepS true d) fStreamsGroupDescribeRequest_0.of fStreamsGroupDescribeRequest_0.sub) (fun b => (ok b ∨ w1.heap.size ≤ b) ∧ ¬ ownB va0 b) w6 (.oct false (rdStr true s2).1) [strV (rdStr true s2).1] := Rep1_text.2 rfl
      repeat ((first | refine qA rfl ?_|refine qB ?_|refine qC rfl ?_|refine qD ?_|refine qE ?_|refine qF ?_|refine qG ?_|refine qH ?_);try simp (maxSteps:=1000000)(disch:=(first|omega|(simp only [qI,qJ,qK]<;>omega)|exact qL _)) only [go_sem,↓reduceIte,n0,reduceCtorEq,n1,n2,n3,n4,n5,i0,i1,i2,i3,i4,i5,i6,i7,hxb6,hrc0_2,hrc0_7,hrc0_8,hrc0_9,hrc0_10,hrc0_13,hra0,hri0,exitRQ_ret,exitRQ_exit,Int.toNat_natCast,Nat.mul_one])
      have hTk : Upd (fun b => b = R1 ∨ b = rb) w4 w6 := (hV5.trans hV6)
      have hL' := hL0.step (Rep1_lay _ _ fun _ => RepS_lay true _ _) hlt0 (hnext1 w6 [strV (rdStr true s2).1] rfl hx1_6) (by rw [hrE];exact hxE) (hTk.mono fun b h => h.imp (fun e => ⟨_,_,_,hva1,e⟩) id) (by rw [hrE];exact hq6) (fun h => hoM rb h (.inr rfl)) (Nat.le_refl _)
      have hij : IntKind.i32.wrap ((j1 : Int) + 1) = ((j1 + 1 : Nat) : Int) := by rw [i32_wrap (by omega)];omega
      repeat ((first | refine qA rfl ?_|refine qB ?_|refine qC rfl ?_|refine qD ?_|refine qE ?_|refine qF ?_|refine qG ?_|refine qH ?_);try simp (maxSteps:=1000000)(disch:=(first|omega|(simp only [qI,qJ,qK]<;>omega)|exact qL _)) only [go_sem,↓reduceIte,n0,reduceCtorEq,n1,n2,n3,n4,n5,i0,i1,i2,i3,i4,i5,i6,i7,hxb6,hrc0_2,hrc0_7,hrc0_8,hrc0_9,hrc0_10,hrc0_13,hra0,hri0,exitRQ_ret,exitRQ_exit,Int.toNat_natCast,Nat.mul_one,hij])
      refine ⟨⟨(by simp (maxSteps:=1000000)(disch:=(first|omega|(simp only [qI,qJ,qK]<;>omega)|exact qL _)) only [go_sem,↓reduceIte,n0,reduceCtorEq,n1,n2,n3,n4,n5,i0,i1,i2,i3,i4,i5,i6,i7,Holds_nil,Holds_cons,hrc0_2,hrc0_7,hrc0_8,hrc0_9,hrc0_10,hrc0_13,hra0,hri0];exact hva1.symm),j1 + 1,(by simp (maxSteps:=1000000)(disch:=(first|omega|(simp only [qI,qJ,qK]<;>omega)|exact qL _)) only [go_sem,↓reduceIte,n0,reduceCtorEq,n1,n2,n3,n4,n5,i0,i1,i2,i3,i4,i5,i6,i7,hrc0_2,hrc0_7,hrc0_8,hrc0_9,hrc0_10,hrc0_13,hra0,hri0,hij];all_goals rfl),_,_,_,hL'⟩,?_⟩
      try simp (maxSteps:=1000000)(disch:=(first|omega|(simp only [qI,qJ,qK]<;>omega)|exact qL _)) only [go_sem,↓reduceIte,n0,reduceCtorEq,n1,n2,n3,n4,n5,i0,i1,i2,i3,i4,i5,i6,i7,hrc0_2,hrc0_7,hrc0_8,hrc0_9,hrc0_10,hrc0_13,hra0,hri0]
      simp only [RowKit.intOf]
      omega
    · have hjN : j1 = N0 := by omega
      rw [hjN] at hL0
      repeat ((first | refine qA rfl ?_|refine qB ?_|refine qC rfl ?_|refine qD ?_|refine qE ?_|refine qF ?_|refine qG ?_|refine qH ?_);try simp (maxSteps:=1000000)(disch:=(first|omega|(simp only [qI,qJ,qK]<;>omega)|exact qL _)) only [go_sem,↓reduceIte,n0,reduceCtorEq,n1,n2,n3,n4,n5,i0,i1,i2,i3,i4,i5,i6,i7,hrc0_2,hrc0_7,hrc0_8,hrc0_9,hrc0_10,hrc0_13,hrc0_12,hri0,exitRQ_ret,exitRQ_exit])
      exact ⟨(by simp (maxSteps:=1000000)(disch:=(first|omega|(simp only [qI,qJ,qK]<;>omega)|exact qL _)) only [go_sem,↓reduceIte,n0,reduceCtorEq,n1,n2,n3,n4,n5,i0,i1,i2,i3,i4,i5,i6,i7,Holds_nil,Holds_cons,hrc0_2,hrc0_7,hrc0_8,hrc0_9,hrc0_10,hrc0_13,hrc0_12,hri0]),s2,xs0,css0,hL0⟩
  rintro ρ w7 ⟨⟨hrd0_2,hrd0_7,hrd0_8,hrd0_9,hrd0_10,hrd0_13,hrd0_12,-⟩,s4,xs0,css0,hL0⟩
  have hq7 := hL0.rd
  have hu7 := hL0.upd
  have hv_7 := hu7.blk_some hv_2 (by omega)
  have hV7 : Upd (fun b => b = vb ∨ b = rb) w2 w7 := hu7.mono (fun _ h => .inr h)
  have hU7 : Upd (fun b => b = vb ∨ b = rb) w1 w7 := hU2.trans hV7
  have hz7 := hV7.size
  have hG7 : Glo ev w7 := hG1.updS hU7 hgM1 hgM2
  have hrd0 : rdF (rdP d ver true) ver true fStreamsGroupDescribeRequest_0 s0 = (.mk 0 [] (nilS fStreamsGroupDescribeRequest_0 ver y0) xs0 [],s4) := by
    have h := rdF_listE (pt := (rdP d ver true)) (v := ver) (flex := true) (f := fStreamsGroupDescribeRequest_0) (s := s0) (xs := xs0) (e := s4) rfl (by rw [hy0,← hN0,← hs1];exact hL0.done)
    rw [hy0] at h;exact h
  have hs4 : s4 = (rdF (rdP d ver true) ver true fStreamsGroupDescribeRequest_0 s0).2 := by rw [hrd0]
  obtain ⟨aa0,qq0,hvs0⟩ := hL0.row.shape
  subst hvs0
  repeat ((first | refine qA rfl ?_|refine qB ?_|refine qC rfl ?_|refine qD ?_|refine qE ?_|refine qF ?_|refine qG ?_|refine qH ?_);try simp (maxSteps:=1000000)(disch:=(first|omega|(simp only [qI,qJ,qK]<;>omega)|exact qL _)) only [go_sem,↓reduceIte,n0,reduceCtorEq,n1,n2,n3,n4,n5,i0,i1,i2,i3,i4,i5,i6,i7,hv_7,hrd0_2,hrd0_7,hrd0_8,hrd0_9,hrd0_10,hrd0_13,hrd0_12])
  generalize hw8 : wr w7 vb 1 [.slice aa0 N0 qq0] = w8
  have hS8 : Upd (fun b => b = vb ∨ b = rb) w7 w8 := by rw [← hw8];exact (Upd.refl _ _).wr _ _ (.inr (.inl rfl))
  have hv_8 : blk w8 vb = some (#[.int .i16 ver,.slice aa0 N0 qq0,.bool false,.bool false,.map none],117,(0,0)) := by rw [← hw8,blk_wr_eq,hv_7];rfl
  have hV8 := hS8
  have hU8 : Upd (fun b => b = vb ∨ b = rb) w1 w8 := hU7.trans hV8
  have hz8 := hV8.size
  have hG8 : Glo ev w8 := hG1.updS hU8 hgM1 hgM2
  have hq8 : Rdr RT ok w8 rb s4 ∧ NN w8 rb s4 := by
    have hn : ∀ x,x = w8 → (Rdr RT ok x rb s4 ∧ NN x rb s4) := fun x hx => by
      rw [hx,← hw8]
      exact Rdr.store hq7 (by omega) (fun h => by have := (hok _ h).1;first | omega | exact (hok _ h).2 rfl)
    exact hn _ rfl
  clear hw8
  have hf_0 : RepF (RepS true d) (szS true d) fStreamsGroupDescribeRequest_0 (fun b => ok b ∨ w1.heap.size ≤ b) w8 (x_0) [.slice aa0 N0 qq0] := by rw [hx_0,hrd0];exact RepF.keepS (RepF_row rfl hnc0 hN0 rfl hL0.row hL0.all (fun b hb => .inr (by omega))) (hV8.keeps fun b _ hk e => (hoM b hk) e)
  clear hL0 hnc0
  have hb_1 : (rdL (rdP d ver true) (dfP d) ver true [fStreamsGroupDescribeRequest_1,fStreamsGroupDescribeRequest_2] s4).2 = none → FB := fun h => hb_0 (by rw [rdL_st (by decide) hh_0,← hs4];exact h)
  have hh_1 : hasS fStreamsGroupDescribeRequest_1 ver = true := hasS_t (by show (0 : Int) ≤ ver;omega) (by show (-1 : Int) < 0 ∨ ver ≤ (-1 : Int);omega)
  obtain ⟨x_1,hx_1⟩ : ∃ x,x = (rdF (rdP d ver true) ver true fStreamsGroupDescribeRequest_1 s4).1 := ⟨_,rfl⟩
  repeat ((first | refine qA rfl ?_|refine qB ?_|refine qC rfl ?_|refine qD ?_|refine qE ?_|refine qF ?_|refine qG ?_|refine qH ?_);try simp (maxSteps:=1000000)(disch:=(first|omega|(simp only [qI,qJ,qK]<;>omega)|exact qL _)) only [go_sem,↓reduceIte,n0,reduceCtorEq,n1,n2,n3,n4,n5,i0,i1,i2,i3,i4,i5,i6,i7,hv_8,hrd0_2,hrd0_7,hrd0_8,hrd0_9,hrd0_10,hrd0_13,hrd0_12])
  have hrd : rdF (rdP d ver true) ver true fStreamsGroupDescribeRequest_1 s4 = _ := rdF_bool rfl
  refine (Bool_fn w8 hq8.1 hrok).mono ?_
  rintro _ w9 ⟨rfl,hq9,hu9⟩
  have hv_9 := hu9.blk_some hv_8 (by omega)
  have hV9 : Upd (fun b => b = vb ∨ b = rb) w8 w9 := hu9.mono (fun _ h => .inr h)
  have hU9 : Upd (fun b => b = vb ∨ b = rb) w1 w9 := hU8.trans hV9
  have hz9 := hV9.size
  have hG9 : Glo ev w9 := hG1.updS hU9 hgM1 hgM2
  have hst : (rdF (rdP d ver true) ver true fStreamsGroupDescribeRequest_1 s4).2 = (rdN 1 s4).2 := by first | (rw [hrd];rfl) | rw [hrd]
  obtain ⟨s5,hs5⟩ : ∃ s,s = (rdF (rdP d ver true) ver true fStreamsGroupDescribeRequest_1 s4).2 := ⟨_,rfl⟩
  rw [← hst,← hs5] at hq9
  clear hst
  repeat ((first | refine qA rfl ?_|refine qB ?_|refine qC rfl ?_|refine qD ?_|refine qE ?_|refine qF ?_|refine qG ?_|refine qH ?_);try simp (maxSteps:=1000000)(disch:=(first|omega|(simp only [qI,qJ,qK]<;>omega)|exact qL _)) only [go_sem,↓reduceIte,n0,reduceCtorEq,n1,n2,n3,n4,n5,i0,i1,i2,i3,i4,i5,i6,i7,hv_9,hrd0_2,hrd0_7,hrd0_8,hrd0_9,hrd0_10,hrd0_13,hrd0_12])
  generalize hw10 : wr w9 vb 2 [.bool (!decide (beN (rdN 1 s4).1 = 0))] = w10
  have hS10 : Upd (fun b => b = vb ∨ b = rb) w9 w10 := by rw [← hw10];exact (Upd.refl _ _).wr _ _ (.inr (.inl rfl))
  have hv_10 : blk w10 vb = some (#[.int .i16 ver,.slice aa0 N0 qq0,.bool (!decide (beN (rdN 1 s4).1 = 0)),.bool false,.map none],117,(0,0)) := by rw [← hw10,blk_wr_eq,hv_9];rfl
  have hV10 := hS10
  have hU10 : Upd (fun b => b = vb ∨ b = rb) w1 w10 := hU9.trans hV10
  have hz10 := hV10.size
  have hG10 : Glo ev w10 := hG1.updS hU10 hgM1 hgM2
  have hq10 : Rdr RT ok w10 rb s5 ∧ NN w10 rb s5 := by
    have hn : ∀ x,x = w10 → (Rdr RT ok x rb s5 ∧ NN x rb s5) := fun x hx => by
      rw [hx,← hw10]
      exact Rdr.store hq9 (by omega) (fun h => by have := (hok _ h).1;first | omega | exact (hok _ h).2 rfl)
    exact hn _ rfl
  clear hw10
  have hf_1 : RepF (RepS true d) (szS true d) fStreamsGroupDescribeRequest_1 (fun b => ok b ∨ w1.heap.size ≤ b) w10 (x_1) [.bool (!decide (beN (rdN 1 s4).1 = 0))] := (RepF_num (by decide)).2 (by rw [hx_1,hrd];exact congrArg (fun x => [x]) (numC_bool _).symm)
  clear hrd
  have hb_2 : (rdL (rdP d ver true) (dfP d) ver true [fStreamsGroupDescribeRequest_2] s5).2 = none → FB := fun h => hb_1 (by rw [rdL_st (by decide) hh_1,← hs5];exact h)
  obtain ⟨x_2,hx_2⟩ : ∃ x,x = dfF (dfP d) fStreamsGroupDescribeRequest_2 := ⟨_,rfl⟩
  have hf_2 : RepF (RepS true d) (szS true d) fStreamsGroupDescribeRequest_2 (fun b => ok b ∨ w1.heap.size ≤ b) w10 (x_2) [.bool false] := by rw [hx_2];exact (RepF_num (by decide)).2 rfl
  have hh_2 : hasS fStreamsGroupDescribeRequest_2 ver = false := hasS_f (by show ver < 1 ∨ (0 ≤ (-1 : Int) ∧ (-1 : Int) < ver);omega)
  have hl_3 : rdL (rdP d ver true) (dfP d) ver true [] s5 = ([],s5) := rfl
  have hl_2 : rdL (rdP d ver true) (dfP d) ver true [fStreamsGroupDescribeRequest_2] s5 = ([x_2],s5) := by rw [rdL_no hh_2,← hx_2,hl_3]
  have hl_1 : rdL (rdP d ver true) (dfP d) ver true [fStreamsGroupDescribeRequest_1,fStreamsGroupDescribeRequest_2] s4 = ([x_1,x_2],s5) := by rw [rdL_st (by decide) hh_1,← hx_1,← hs5,hl_2]
  have hl_0 : rdL (rdP d ver true) (dfP d) ver true [fStreamsGroupDescribeRequest_0,fStreamsGroupDescribeRequest_1,fStreamsGroupDescribeRequest_2] s0 = ([x_0,x_1,x_2],s5) := by rw [rdL_st (by decide) hh_0,← hx_0,← hs4,hl_1]
  have hfin : rdP (d + 1) ver true fs_StreamsGroupDescribeRequest s0 = (.mk 0 [] false [x_0,x_1,x_2] (rdTags s5).1,(rdTags s5).2) := rdP_t hl_0
  repeat ((first | refine qA rfl ?_|refine qB ?_|refine qC rfl ?_|refine qD ?_|refine qE ?_|refine qF ?_|refine qG ?_|refine qH ?_);try simp (maxSteps:=1000000)(disch:=(first|omega|(simp only [qI,qJ,qK]<;>omega)|exact qL _)) only [go_sem,↓reduceIte,n0,reduceCtorEq,n1,n2,n3,n4,n5,i0,i1,i2,i3,i4,i5,i6,i7,hv_10,hrd0_2,hrd0_7,hrd0_8,hrd0_9,hrd0_10,hrd0_13,hrd0_12])
  refine (ReadTags_fn w10 hq10.1 hrok).mono ?_
  rintro _ w11 ⟨qm,rfl,hT11,hTn,hq11,hu11⟩
  have hv_11 := hu11.blk_some hv_10 (by omega)
  have hV11 : Upd (fun b => b = vb ∨ b = rb) w10 w11 := hu11.mono (fun _ h => .inr h)
  have hU11 : Upd (fun b => b = vb ∨ b = rb) w1 w11 := hU10.trans hV11
  have hz11 := hV11.size
  have hG11 : Glo ev w11 := hG1.updS hU11 hgM1 hgM2
  obtain ⟨s6,hs6⟩ : ∃ s,s = (rdTags s5).2 := ⟨_,rfl⟩
  rw [← hs6] at hq11 hfin
  try simp (maxSteps:=1000000)(disch:=(first|omega|(simp only [qI,qJ,qK]<;>omega)|exact qL _)) only [go_sem,↓reduceIte,n0,reduceCtorEq,n1,n2,n3,n4,n5,i0,i1,i2,i3,i4,i5,i6,i7,hv_11,hrd0_2,hrd0_7,hrd0_8,hrd0_9,hrd0_10,hrd0_13,hrd0_12]
  repeat ((first | refine qA rfl ?_|refine qB ?_|refine qC rfl ?_|refine qD ?_|refine qE ?_|refine qF ?_|refine qG ?_|refine qH ?_);try simp (maxSteps:=1000000)(disch:=(first|omega|(simp only [qI,qJ,qK]<;>omega)|exact qL _)) only [go_sem,↓reduceIte,n0,reduceCtorEq,n1,n2,n3,n4,n5,i0,i1,i2,i3,i4,i5,i6,i7,hv_11,hrd0_2,hrd0_7,hrd0_8,hrd0_9,hrd0_10,hrd0_13,hrd0_12])
  generalize hw12 : wr w11 vb 4 [.map qm] = w12
  have hS12 : Upd (fun b => b = vb ∨ b = rb) w11 w12 := by rw [← hw12];exact (Upd.refl _ _).wr _ _ (.inr (.inl rfl))
  have hv_12 : blk w12 vb = some (#[.int .i16 ver,.slice aa0 N0 qq0,.bool (!decide (beN (rdN 1 s4).1 = 0)),.bool false,.map qm],117,(0,0)) := by rw [← hw12,blk_wr_eq,hv_11];rfl
  have hV12 := hS12
  have hU12 : Upd (fun b => b = vb ∨ b = rb) w1 w12 := hU11.trans hV12
  have hz12 := hV12.size
  have hG12 : Glo ev w12 := hG1.updS hU12 hgM1 hgM2
  have hq12 : Rdr RT ok w12 rb s6 ∧ NN w12 rb s6 := by
    have hn : ∀ x,x = w12 → (Rdr RT ok x rb s6 ∧ NN x rb s6) := fun x hx => by
      rw [hx,← hw12]
      exact Rdr.store hq11 (by omega) (fun h => by have := (hok _ h).1;first | omega | exact (hok _ h).2 rfl)
    exact hn _ rfl
  clear hw12
  have hTg : TagsM (fun b => ok b ∨ w1.heap.size ≤ b) w12 (.map qm) (rdTags s5).1 := (hT11.weaken fun b _ hk => hk.elim (fun hk => .inl hk) (fun h => by have h' : w10.heap.size ≤ b := h;exact .inr (by omega))).keep (hV12.keeps fun b _ hk e => (hoM b hk) e)
  have hC_12 : Upd (fun b => b = vb ∨ b = rb) w12 w12 := Upd.refl _ _
  have hC_11 : Upd (fun b => b = vb ∨ b = rb) w11 w12 := hV12.trans hC_12
  have hC_10 : Upd (fun b => b = vb ∨ b = rb) w10 w12 := hV11.trans hC_11
  have hC_9 : Upd (fun b => b = vb ∨ b = rb) w9 w12 := hV10.trans hC_10
  have hC_8 : Upd (fun b => b = vb ∨ b = rb) w8 w12 := hV9.trans hC_9
  have hC_7 : Upd (fun b => b = vb ∨ b = rb) w7 w12 := hV8.trans hC_8
  have hC_2 : Upd (fun b => b = vb ∨ b = rb) w2 w12 := hV7.trans hC_7
  have hC_1 : Upd (fun b => b = vb ∨ b = rb) w1 w12 := hV2.trans hC_2
  have hR : RepS true (d + 1) fs_StreamsGroupDescribeRequest (fun b => ok b ∨ w1.heap.size ≤ b) w12 (.mk 0 [] false [x_0,x_1,x_2] (rdTags s5).1) [.slice aa0 N0 qq0,.bool (!decide (beN (rdN 1 s4).1 = 0)),.bool false,.map qm] := RepS.introT (c := [.slice aa0 N0 qq0,.bool (!decide (beN (rdN 1 s4).1 = 0)),.bool false]) (RepL.cons1 (hf_0.keepS (hC_8.keeps fun b _ hk e => (hoM b hk) e)) (RepL.cons1 (hf_1.keepS (hC_10.keeps fun b _ hk e => (hoM b hk) e)) (RepL.cons1 (hf_2.keepS (hC_10.keeps fun b _ hk e => (hoM b hk) e)) RepL.nil))) hTg
  repeat ((first | refine qA rfl ?_|refine qB ?_|refine qC rfl ?_|refine qD ?_|refine qE ?_|refine qF ?_|refine qG ?_|refine qH ?_);try simp (maxSteps:=1000000)(disch:=(first|omega|(simp only [qI,qJ,qK]<;>omega)|exact qL _)) only [go_sem,↓reduceIte,n0,reduceCtorEq,n1,n2,n3,n4,n5,i0,i1,i2,i3,i4,i5,i6,i7,hv_12,hrd0_2,hrd0_7,hrd0_8,hrd0_9,hrd0_10,hrd0_13,hrd0_12])
  refine (RComplete_fn w12 hq12.1 hG12.2).mono ?_
  rintro _ wz ⟨rfl,hez⟩
  rw [hez]
  repeat ((first | refine qA rfl ?_|refine qB ?_|refine qC rfl ?_|refine qD ?_|refine qE ?_|refine qF ?_|refine qG ?_|refine qH ?_);try simp (maxSteps:=1000000)(disch:=(first|omega|(simp only [qI,qJ,qK]<;>omega)|exact qL _)) only [go_sem,↓reduceIte,n0,reduceCtorEq,n1,n2,n3,n4,n5,i0,i1,i2,i3,i4,i5,i6,i7,hv_12,hrd0_2,hrd0_7,hrd0_8,hrd0_9,hrd0_10,hrd0_13,hrd0_12])
  rw [hfin]
  refine ⟨fun h => ?_,fun h => ⟨?_,[.slice aa0 N0 qq0,.bool (!decide (beN (rdN 1 s4).1 = 0)),.bool false,.map qm],hv_12,?_⟩,?_⟩
  · have h' : s6 = none := h
    rw [h'];rfl
  · cases hsn : s6 with
    | none => exact absurd hsn h
    | some x => rfl
  · exact (RepS_lay true (d + 1) fs_StreamsGroupDescribeRequest).weaken hR fun b _ hk => hk.imp id fun h => by omega
  · exact hbase.trans' hU12 fun i hi h => h.elim id fun h => by omega
end Ms

namespace Ms
open Go.World renaming size_alloc → qI
open Ms renaming size_wr → qJ,size_drew → qK,not_noB → qL
open W renaming seqR → qA,seq → qB,regR → qC,condK → qD,block → qE,skip → qF,ret → qG,exit → qH
open Nat renaming reduceEqDiff → n0,reduceAdd → n1,reduceMul → n2,reduceSub → n3,reduceLT → n4,reduceLeDiff → n5
open Int renaming reduceEq → i0,reduceLT → i1,reduceLE → i2,reduceNeg → i3,reduceAdd → i4,reduceSub → i5,reduceMul → i6,reduceToNat → i7
set_option maxRecDepth 8000
open Go Go.Proofs Go.Shelf
attribute [local congr] W_congr WPsq_congr WPp_congr optK_congr addrK_congr intK_congr boolK_congr sliceK_congr tupleK_congr funcK_congr Fn_congr rawK_congr takeK_congr stepK_congr convK_congr aggK_congr

set_option maxHeartbeats 4000000 in
theorem readStreamsGroupDescribeRequest_1 {d : Nat} {ok : Blocks} {ver : Int} {ev : Value} (hlo : 1 ≤ ver) (hhi : ver ≤ 1) (w : World) {vb : Nat} (src : Value) (s : List UInt8) (hv : blk w vb = some (#[.int .i16 ver,.slice none 0 0,.bool false,.bool false,.map none],117,(0,0))) (hsrc : BytesV ok w src s) (hok0 : ∀ b,ok b → b < w.heap.size ∧ b ≠ vb) (hG : Glo ev w) (hgv : ¬ 1 = vb ∧ ¬ 0 = vb) :
    Fn Tryz.prog 118 #[.pointer (some ⟨vb,0,none⟩),src,.bool false] w (ReadQ 117 ok ver (d + 1) fs_StreamsGroupDescribeRequest vb w (rdP (d + 1) ver true fs_StreamsGroupDescribeRequest (some s)) ev) := by
  have hvl := blk_lt hv
  have hgs := hG.lt
  obtain ⟨sa,sc,rfl,_⟩ := hsrc.shape
  refine fn_of_W Tryz.func118 rfl Tryz.results118 Tryz.ntmps118 rfl ?_
  repeat ((first | refine qA rfl ?_|refine qB ?_|refine qC rfl ?_|refine qD ?_|refine qE ?_|refine qF ?_|refine qG ?_|refine qH ?_);try simp (maxSteps:=1000000)(disch:=(first|omega|(simp only [qI,qJ,qK]<;>omega)|exact qL _)) only [go_sem,↓reduceIte,n0,reduceCtorEq,n1,n2,n3,n4,n5,i0,i1,i2,i3,i4,i5,i6,i7,hv])
  refine (DefaultStreamsGroupDescribeRequest_fn w hv).mono ?_
  rintro _ w0 ⟨hv0,hu0⟩
  have hz0 := hu0.size
  have hsrc0 : BytesV ok w0 (.slice sa s.length sc) s := hsrc.keep (hu0.keeps fun b _ hk e => (hok0 b hk).2 e)
  obtain ⟨rb,hrb⟩ : ∃ r,r = w0.heap.size := ⟨_,rfl⟩
  have hE1 : Ext w0 (wr (w0.alloc (.cells #[.slice none 0 0,.bool false] 131)) w0.heap.size 0 [.slice sa s.length sc,.bool false]) := (Upd.alloc (Upd.refl _ _) _).wr _ _ (.inl (Nat.le_refl _))
  have hz1 : (wr (w0.alloc (.cells #[.slice none 0 0,.bool false] 131)) w0.heap.size 0 [.slice sa s.length sc,.bool false]).heap.size = w0.heap.size + 1 := by rw [size_wr,World.size_alloc]
  have hR1 : Rdr RT ok (wr (w0.alloc (.cells #[.slice none 0 0,.bool false] 131)) w0.heap.size 0 [.slice sa s.length sc,.bool false]) w0.heap.size (some s) := Rdr.good (v := .slice sa s.length sc) (by simp (maxSteps:=1000000)(disch:=(first|omega|(simp only [qI,qJ,qK]<;>omega)|exact qL _)) only [go_sem,↓reduceIte,n0,reduceCtorEq,n1,n2,n3,n4,n5,i0,i1,i2,i3,i4,i5,i6,i7]) (hsrc0.keep (hE1.keeps _))
  have hv_1 := hE1.blk_some hv0 id
  repeat ((first | refine qA rfl ?_|refine qB ?_|refine qC rfl ?_|refine qD ?_|refine qE ?_|refine qF ?_|refine qG ?_|refine qH ?_);try simp (maxSteps:=1000000)(disch:=(first|omega|(simp only [qI,qJ,qK]<;>omega)|exact qL _)) only [go_sem,↓reduceIte,n0,reduceCtorEq,n1,n2,n3,n4,n5,i0,i1,i2,i3,i4,i5,i6,i7,hv0])
  generalize (wr (w0.alloc (.cells #[.slice none 0 0,.bool false] 131)) w0.heap.size 0 [.slice sa s.length sc,.bool false]) = w1 at *
  rw [← hrb] at hR1
  try rw [← hrb]
  have hok : ∀ b,ok b → b < w.heap.size ∧ b ≠ vb := hok0
  have hrok : ¬ ok rb := fun h => by have := (hok rb h).1;omega
  have hbase : Upd (fun b => b = vb) w w1 := hu0.trans (hE1.mono fun _ h => h.elim)
  have hG1 : Glo ev w1 := hG.updS hbase hgv.1 hgv.2
  have hgrb : ¬ 1 = rb := by omega
  have hgM1 : ¬ (1 = vb ∨ 1 = rb) := fun h => h.elim hgv.1 fun h => by omega
  have hgM2 : ¬ (0 = vb ∨ 0 = rb) := fun h => h.elim hgv.2 fun h => by omega
  obtain ⟨s0,hs0⟩ : ∃ s' : St,s' = some s := ⟨_,rfl⟩
  rw [← hs0] at hR1 ⊢
  have hU1 : Upd (fun b => b = vb ∨ b = rb) w1 w1 := Upd.refl _ _
  have hoM : ∀ b,(ok b ∨ w1.heap.size ≤ b) → ¬ (b = vb ∨ b = rb) := fun b hk h => by
    rcases hk with hk | hk
    · have := hok b hk;rcases h with h | h <;> omega
    · rcases h with h | h <;> omega
  have hq1 : Rdr RT ok w1 rb s0 := hR1
  obtain ⟨FB,hFB⟩ : ∃ P : Prop,P = ((rdP (d + 1) ver true fs_StreamsGroupDescribeRequest s0).2 = none) := ⟨_,rfl⟩
  have hb_0 : (rdL (rdP d ver true) (dfP d) ver true [fStreamsGroupDescribeRequest_0,fStreamsGroupDescribeRequest_1,fStreamsGroupDescribeRequest_2] s0).2 = none → FB := fun h => Eq.mpr hFB (rdP_bad h)
  have hh_0 : hasS fStreamsGroupDescribeRequest_0 ver = true := hasS_t (by show (0 : Int) ≤ ver;omega) (by show (-1 : Int) < 0 ∨ ver ≤ (-1 : Int);omega)
  obtain ⟨x_0,hx_0⟩ : ∃ x,x = (rdF (rdP d ver true) ver true fStreamsGroupDescribeRequest_0 s0).1 := ⟨_,rfl⟩
  repeat ((first | refine qA rfl ?_|refine qB ?_|refine qC rfl ?_|refine qD ?_|refine qE ?_|refine qF ?_|refine qG ?_|refine qH ?_);try simp (maxSteps:=1000000)(disch:=(first|omega|(simp only [qI,qJ,qK]<;>omega)|exact qL _)) only [go_sem,↓reduceIte,n0,reduceCtorEq,n1,n2,n3,n4,n5,i0,i1,i2,i3,i4,i5,i6,i7,hv_1])
  refine (RCompactArrayLen_fn w1 hq1 hrok hG1.1 hgrb).mono ?_
  rintro _ w2 ⟨rfl,hq2,hu2⟩
  have hv_2 := hu2.blk_some hv_1 (by omega)
  have hV2 : Upd (fun b => b = vb ∨ b = rb) w1 w2 := hu2.mono (fun _ h => .inr h)
  have hU2 : Upd (fun b => b = vb ∨ b = rb) w1 w2 := hU1.trans hV2
  have hz2 := hV2.size
  have hG2 : Glo ev w2 := hG1.updS hU2 hgM1 hgM2
  obtain ⟨s1,hs1⟩ : ∃ s,s = (rdALen true s0).2 := ⟨_,rfl⟩
  rw [← hs1] at hq2
  have hyr0 := rdALen_rng true s0
  generalize hy0 : (rdALen true s0).1 = y0 at *
  obtain ⟨N0,hN0⟩ : ∃ N,N = y0.toNat := ⟨_,rfl⟩
  have hlb0 : (rdMany (rd1 (rdP d ver true) fStreamsGroupDescribeRequest_0.of fStreamsGroupDescribeRequest_0.sub false true) N0 s1).2 = none → FB := fun h => hb_0 (by rw [rdL_st (by decide) hh_0];exact rdL_bad (rdF_listbad rfl (by rw [hy0,← hN0,← hs1];exact h)))
  repeat ((first | refine W.seqR rfl ?_ | refine W.seq ?_ | refine W.regR rfl ?_ | refine W.block ?_ | refine W.skip ?_ | refine W.ret ?_ | refine W.exit ?_);try simp (maxSteps:=1000000)(disch:=(first|omega|(simp only [qI,qJ,qK]<;>omega)|exact qL _)) only [go_sem,↓reduceIte,n0,reduceCtorEq,n1,n2,n3,n4,n5,i0,i1,i2,i3,i4,i5,i6,i7,hv_2])
  refine (ROk_fn w2 hq2.1).mono ?_
  rintro _ wz ⟨rfl,hez⟩
  rw [hez]
  clear hez wz
  by_cases hsn0 : s1 = none
  · have hso : s1.isSome = false := by rw [hsn0];rfl
    try simp (maxSteps:=1000000)(disch:=(first|omega|(simp only [qI,qJ,qK]<;>omega)|exact qL _)) only [go_sem,↓reduceIte,n0,reduceCtorEq,n1,n2,n3,n4,n5,i0,i1,i2,i3,i4,i5,i6,i7,hv_2,hso]
    repeat ((first | refine qA rfl ?_|refine qB ?_|refine qC rfl ?_|refine qD ?_|refine qE ?_|refine qF ?_|refine qG ?_|refine qH ?_);try simp (maxSteps:=1000000)(disch:=(first|omega|(simp only [qI,qJ,qK]<;>omega)|exact qL _)) only [go_sem,↓reduceIte,n0,reduceCtorEq,n1,n2,n3,n4,n5,i0,i1,i2,i3,i4,i5,i6,i7,hv_2,hso])
    refine (RComplete_fn w2 hq2.1 hG2.2).mono ?_
    rintro _ wz ⟨rfl,hez⟩
    rw [hez]
    try simp (maxSteps:=1000000)(disch:=(first|omega|(simp only [qI,qJ,qK]<;>omega)|exact qL _)) only [go_sem,↓reduceIte,n0,reduceCtorEq,n1,n2,n3,n4,n5,i0,i1,i2,i3,i4,i5,i6,i7,hv_2]
    repeat ((first | refine qA rfl ?_|refine qB ?_|refine qC rfl ?_|refine qD ?_|refine qE ?_|refine qF ?_|refine qG ?_|refine qH ?_);try simp (maxSteps:=1000000)(disch:=(first|omega|(simp only [qI,qJ,qK]<;>omega)|exact qL _)) only [go_sem,↓reduceIte,n0,reduceCtorEq,n1,n2,n3,n4,n5,i0,i1,i2,i3,i4,i5,i6,i7,hv_2])
    rw [errV_none hsn0]
    exact ReadQ.bad (Eq.mp hFB (hlb0 (by rw [hsn0];exact rdMany_none rd1P_none _))) (hbase.trans' hU2 fun i hi h => h.elim id fun h => by omega)
  have hso0 : s1.isSome = true := isSome_some hsn0
  try simp (maxSteps:=1000000)(disch:=(first|omega|(simp only [qI,qJ,qK]<;>omega)|exact qL _)) only [go_sem,↓reduceIte,n0,reduceCtorEq,n1,n2,n3,n4,n5,i0,i1,i2,i3,i4,i5,i6,i7,hv_2,hso0]
  repeat ((first | refine W.seqR rfl ?_ | refine W.seq ?_ | refine W.regR rfl ?_ | refine W.block ?_ | refine W.skip ?_ | refine W.ret ?_ | refine W.exit ?_);try simp (maxSteps:=1000000)(disch:=(first|omega|(simp only [qI,qJ,qK]<;>omega)|exact qL _)) only [go_sem,↓reduceIte,n0,reduceCtorEq,n1,n2,n3,n4,n5,i0,i1,i2,i3,i4,i5,i6,i7,hv_2,hso0])
  refine W.condK ?_
  try simp (maxSteps:=1000000)(disch:=(first|omega|(simp only [qI,qJ,qK]<;>omega)|exact qL _)) only [go_sem,↓reduceIte,n0,reduceCtorEq,n1,n2,n3,n4,n5,i0,i1,i2,i3,i4,i5,i6,i7,hv_2,hso0]
  repeat ((first | refine W.seqR rfl ?_ | refine W.seq ?_ | refine W.regR rfl ?_ | refine W.block ?_ | refine W.skip ?_ | refine W.ret ?_ | refine W.exit ?_);try simp (maxSteps:=1000000)(disch:=(first|omega|(simp only [qI,qJ,qK]<;>omega)|exact qL _)) only [go_sem,↓reduceIte,n0,reduceCtorEq,n1,n2,n3,n4,n5,i0,i1,i2,i3,i4,i5,i6,i7,hv_2,hso0,slBase_00])
  refine W.normJ (RowQ [(2,.bool false),(7,.pointer (some ⟨rb,0,none⟩)),(8,.int .i16 ver),(9,.bool true),(10,.pointer (some ⟨vb,0,none⟩)),(13,.int .i32 y0)] 12 (fun va w' => LstI RT (rd1 (rdP d ver true) fStreamsGroupDescribeRequest_0.of fStreamsGroupDescribeRequest_0.sub false true) (Rep1 (RepS true d) fStreamsGroupDescribeRequest_0.of fStreamsGroupDescribeRequest_0.sub) 1 9 [.string ByteArray.empty] w2.heap.size N0 ok (fun b => ok b ∨ w1.heap.size ≤ b) rb w2 s1 va 0 s1 [] [] w' ∧ (N0 = 0 → if nilS fStreamsGroupDescribeRequest_0 ver y0 = true then va = .slice none 0 0 else ∃ a,va = .slice (some a) 0 0))) ?_ ?_
  · by_cases hy0 : (0 : Int) < y0
    · have hyv : Value.int .i32 y0 = .int .i32 ((N0 : Nat) : Int) := by rw [show y0 = ((N0 : Nat) : Int) by omega]
      repeat ((first | refine qA rfl ?_|refine qB ?_|refine qC rfl ?_|refine qD ?_|refine qE ?_|refine qF ?_|refine qG ?_|refine qH ?_);try simp (maxSteps:=1000000)(disch:=(first|omega|(simp only [qI,qJ,qK]<;>omega)|exact qL _)) only [go_sem,↓reduceIte,n0,reduceCtorEq,n1,n2,n3,n4,n5,i0,i1,i2,i3,i4,i5,i6,i7,hv_2])
      refine wp_appendZ (m := N0) utStreamsGroupDescribeRequest_113 utStreamsGroupDescribeRequest_21 inStreamsGroupDescribeRequest_9 (by decide) (by first | rfl | simp (maxSteps:=1000000)(disch:=(first|omega|(simp only [qI,qJ,qK]<;>omega)|exact qL _)) only [go_sem,↓reduceIte,n0,reduceCtorEq,n1,n2,n3,n4,n5,i0,i1,i2,i3,i4,i5,i6,i7]) (by first | exact hyv | (simp (maxSteps:=1000000)(disch:=(first|omega|(simp only [qI,qJ,qK]<;>omega)|exact qL _)) only [go_sem,↓reduceIte,n0,reduceCtorEq,n1,n2,n3,n4,n5,i0,i1,i2,i3,i4,i5,i6,i7];exact hyv)) (by omega) (by omega) (by decide) ?_
      intro q rest hq1
      have hEw : Ext w2 (w2.drew.alloc (.cells (zs [.string ByteArray.empty] N0 ++ rest).toArray 9)) := (Upd.refl _ _).drew.alloc _
      try simp (maxSteps:=1000000)(disch:=(first|omega|(simp only [qI,qJ,qK]<;>omega)|exact qL _)) only [go_sem,↓reduceIte,n0,reduceCtorEq,n1,n2,n3,n4,n5,i0,i1,i2,i3,i4,i5,i6,i7,hv_2]
      repeat ((first | refine qA rfl ?_|refine qB ?_|refine qC rfl ?_|refine qD ?_|refine qE ?_|refine qF ?_|refine qG ?_|refine qH ?_);try simp (maxSteps:=1000000)(disch:=(first|omega|(simp only [qI,qJ,qK]<;>omega)|exact qL _)) only [go_sem,↓reduceIte,n0,reduceCtorEq,n1,n2,n3,n4,n5,i0,i1,i2,i3,i4,i5,i6,i7,hv_2])
      exact ⟨(by simp (maxSteps:=1000000)(disch:=(first|omega|(simp only [qI,qJ,qK]<;>omega)|exact qL _)) only [go_sem,↓reduceIte,n0,reduceCtorEq,n1,n2,n3,n4,n5,i0,i1,i2,i3,i4,i5,i6,i7,Holds_nil,Holds_cons]),.slice (some ⟨w2.heap.size,0,none⟩) N0 q,(by simp (maxSteps:=1000000)(disch:=(first|omega|(simp only [qI,qJ,qK]<;>omega)|exact qL _)) only [go_sem,↓reduceIte,n0,reduceCtorEq,n1,n2,n3,n4,n5,i0,i1,i2,i3,i4,i5,i6,i7]),LstI.start (RowJ.start (by omega) hq1 (by show w2.heap.size ≤ w2.drew.heap.size;rw [size_drew];omega) (blk_alloc_new rfl)) ⟨hq2.1.upd hEw (fun h => h) (fun _ _ _ h => h),hq2.2.upd hEw fun h => h⟩ (hEw.mono fun _ h => h.elim),fun h0 => by omega⟩
    · repeat ((first | refine qA rfl ?_|refine qB ?_|refine qC rfl ?_|refine qD ?_|refine qE ?_|refine qF ?_|refine qG ?_|refine qH ?_);try simp (maxSteps:=1000000)(disch:=(first|omega|(simp only [qI,qJ,qK]<;>omega)|exact qL _)) only [go_sem,↓reduceIte,n0,reduceCtorEq,n1,n2,n3,n4,n5,i0,i1,i2,i3,i4,i5,i6,i7,hv_2])
      exact ⟨(by simp (maxSteps:=1000000)(disch:=(first|omega|(simp only [qI,qJ,qK]<;>omega)|exact qL _)) only [go_sem,↓reduceIte,n0,reduceCtorEq,n1,n2,n3,n4,n5,i0,i1,i2,i3,i4,i5,i6,i7,Holds_nil,Holds_cons]),.slice none 0 0,(by simp (maxSteps:=1000000)(disch:=(first|omega|(simp only [qI,qJ,qK]<;>omega)|exact qL _)) only [go_sem,↓reduceIte,n0,reduceCtorEq,n1,n2,n3,n4,n5,i0,i1,i2,i3,i4,i5,i6,i7,slBase_00]),LstI.start (RowJ.zero (by omega) (fun _ h => by cases h)) hq2 (Upd.refl _ _),fun _ => by rw [nilS_plain (by decide) (by omega)];exact rfl⟩
  rintro ρ w3 ⟨⟨hrb0_2,hrb0_7,hrb0_8,hrb0_9,hrb0_10,hrb0_13,-⟩,va0,hra0,hL0,hnc0⟩
  repeat ((first | refine qA rfl ?_|refine qB ?_|refine qC rfl ?_|refine qD ?_|refine qE ?_|refine qF ?_|refine qG ?_|refine qH ?_);try simp (maxSteps:=1000000)(disch:=(first|omega|(simp only [qI,qJ,qK]<;>omega)|exact qL _)) only [go_sem,↓reduceIte,n0,reduceCtorEq,n1,n2,n3,n4,n5,i0,i1,i2,i3,i4,i5,i6,i7,hv_2,hrb0_2,hrb0_7,hrb0_8,hrb0_9,hrb0_10,hrb0_13,hra0,exitRQ_ret,exitRQ_exit,Int.toNat_natCast,Nat.mul_one])
  refine W.exitRJ 0 (EndQ [(2,.bool false),(7,.pointer (some ⟨rb,0,none⟩)),(8,.int .i16 ver),(9,.bool true),(10,.pointer (some ⟨vb,0,none⟩)),(13,.int .i32 y0),(12,va0)] (fun w' => ∃ s xs css,LstI RT (rd1 (rdP d ver true) fStreamsGroupDescribeRequest_0.of fStreamsGroupDescribeRequest_0.sub false true) (Rep1 (RepS true d) fStreamsGroupDescribeRequest_0.of fStreamsGroupDescribeRequest_0.sub) 1 9 [.string ByteArray.empty] w2.heap.size N0 ok (fun b => ok b ∨ w1.heap.size ≤ b) rb w2 s1 va0 N0 s xs css w')) (W.loop (LoopQ [(2,.bool false),(7,.pointer (some ⟨rb,0,none⟩)),(8,.int .i16 ver),(9,.bool true),(10,.pointer (some ⟨vb,0,none⟩)),(13,.int .i32 y0),(12,va0)] 14 (fun j w' => ∃ s xs css,LstI RT (rd1 (rdP d ver true) fStreamsGroupDescribeRequest_0.of fStreamsGroupDescribeRequest_0.sub false true) (Rep1 (RepS true d) fStreamsGroupDescribeRequest_0.of fStreamsGroupDescribeRequest_0.sub) 1 9 [.string ByteArray.empty] w2.heap.size N0 ok (fun b => ok b ∨ w1.heap.size ≤ b) rb w2 s1 va0 j s xs css w')) (fun ρ _ => N0 - (RowKit.intOf (ρ 14)).toNat) ?_ ?_) ?_
  · exact ⟨(by simp (maxSteps:=1000000)(disch:=(first|omega|(simp only [qI,qJ,qK]<;>omega)|exact qL _)) only [go_sem,↓reduceIte,n0,reduceCtorEq,n1,n2,n3,n4,n5,i0,i1,i2,i3,i4,i5,i6,i7,Holds_nil,Holds_cons,hrb0_2,hrb0_7,hrb0_8,hrb0_9,hrb0_10,hrb0_13,hra0]),0,(by simp (maxSteps:=1000000)(disch:=(first|omega|(simp only [qI,qJ,qK]<;>omega)|exact qL _)) only [go_sem,↓reduceIte,n0,reduceCtorEq,n1,n2,n3,n4,n5,i0,i1,i2,i3,i4,i5,i6,i7,hrb0_2,hrb0_7,hrb0_8,hrb0_9,hrb0_10,hrb0_13,hra0];all_goals rfl),s1,[],[],hL0⟩
  · rintro ρ w4 ⟨⟨hrc0_2,hrc0_7,hrc0_8,hrc0_9,hrc0_10,hrc0_13,hrc0_12,-⟩,j1,hri0,s2,xs0,css0,hL0⟩
    have hj0 := hL0.le
    have hq4 := hL0.rd
    have hU4 : Upd (fun b => b = vb ∨ b = rb) w1 w4 := hU2.trans' hL0.upd fun i _ h => .inr h
    have hz4 := hL0.upd.size
    have hG4 : Glo ev w4 := hG1.updS hU4 hgM1 hgM2
    by_cases hlt0 : j1 < N0
    · obtain ⟨R1,q1,B1,hva1,hNq1,hLR1,hA1,hx1_4,hnext1⟩ := hL0.row.next hlt0
      have hRl1 := blk_lt hx1_4
      generalize css0.flatten = A1 at hA1 hx1_4 hnext1
      rw [Nat.mul_one] at hA1
      replace hra0 : ρ 12 = .slice (some ⟨R1,0,none⟩) N0 q1 := hrc0_12.trans hva1
      have hown1 : ∀ b,ownB va0 b → w2.heap.size ≤ b ∧ b < w4.heap.size := fun b h => hL0.row.own h
      have hoM1 : ∀ b,(fun b => (ok b ∨ w1.heap.size ≤ b) ∧ ¬ ownB va0 b) b → ¬ (b = R1 ∨ b = rb) := fun b hk h => h.elim (fun e => hk.2 ⟨_,_,_,hva1,e⟩) (fun e => hoM b hk.1 (.inr e))
      obtain ⟨X4,hX4⟩ : ∃ X : Array Value,X = (A1 ++ (([.string ByteArray.empty] : List Value) ++ B1)).toArray := ⟨_,rfl⟩
      have hxb4 : blk w4 R1 = some (X4,9,(0,0)) := by rw [hX4];exact hx1_4
      have hXs4 : j1 + 1 ≤ X4.size := by rw [hX4];simp only [List.size_toArray,List.length_append,List.length_cons,List.length_nil,hA1];omega
      repeat ((first | refine qA rfl ?_|refine qB ?_|refine qC rfl ?_|refine qD ?_|refine qE ?_|refine qF ?_|refine qG ?_|refine qH ?_);try simp (maxSteps:=1000000)(disch:=(first|omega|(simp only [qI,qJ,qK]<;>omega)|exact qL _)) only [go_sem,↓reduceIte,n0,reduceCtorEq,n1,n2,n3,n4,n5,i0,i1,i2,i3,i4,i5,i6,i7,hxb4,hrc0_2,hrc0_7,hrc0_8,hrc0_9,hrc0_10,hrc0_13,hra0,hri0,exitRQ_ret,exitRQ_exit,Int.toNat_natCast,Nat.mul_one])
      refine (RCompactString_fn w4 hq4.1 hrok hG4.1 hgrb).mono ?_
      rintro _ w5 ⟨rfl,hq5,hu5⟩
      have hx1_5 := hu5.blk_some hx1_4 (by omega)
      have hV5 : Upd (fun b => b = R1 ∨ b = rb) w4 w5 := hu5.mono (fun _ h => .inr h)
      have hU5 : Upd (fun b => b = vb ∨ b = rb) w1 w5 := hU4.trans' hV5 fun i hi h => h.elim (fun h => by omega) .inr
      have hz5 := hV5.size
      have hG5 : Glo ev w5 := hG1.updS hU5 hgM1 hgM2
      obtain ⟨X5,hX5⟩ : ∃ X : Array Value,X = (A1 ++ (([.string ByteArray.empty] : List Value) ++ B1)).toArray := ⟨_,rfl⟩
      have hxb5 : blk w5 R1 = some (X5,9,(0,0)) := by rw [hX5];exact hx1_5
      have hXs5 : j1 + 1 ≤ X5.size := by rw [hX5];simp only [List.size_toArray,List.length_append,List.length_cons,List.length_nil,hA1];omega
      obtain ⟨s3,hs3⟩ : ∃ s,s = (rdStr true s2).2 := ⟨_,rfl⟩
      rw [← hs3] at hq5
      have hrE : (rd1 (rdP d ver true) fStreamsGroupDescribeRequest_0.of fStreamsGroupDescribeRequest_0.sub false true) s2 = ((.oct false (rdStr true s2).1),s3) := by rw [hs3];exact rd1_text
      have hst5_0 : j1 + 1 ≤ X5.size := by omega
      repeat ((first | refine qA rfl ?_|refine qB ?_|refine qC rfl ?_|refine qD ?_|refine qE ?_|refine qF ?_|refine qG ?_|refine qH ?_);try simp (maxSteps:=1000000)(disch:=(first|omega|(simp only [qI,qJ,qK]<;>omega)|exact qL _)) only [go_sem,↓reduceIte,n0,reduceCtorEq,n1,n2,n3,n4,n5,i0,i1,i2,i3,i4,i5,i6,i7,hxb5,hrc0_2,hrc0_7,hrc0_8,hrc0_9,hrc0_10,hrc0_13,hra0,hri0,exitRQ_ret,exitRQ_exit,Int.toNat_natCast,Nat.mul_one,hst5_0])
      generalize hw6 : wr w5 R1 (j1) [strV (rdStr true s2).1] = w6
      have hS6 : Upd (fun b => b = R1 ∨ b = rb) w5 w6 := by rw [← hw6];exact (Upd.refl _ _).wr _ _ (.inr (.inl rfl))
      have hx1_6 : blk w6 R1 = some ((A1 ++ (([strV (rdStr true s2).1] : List Value) ++ B1)).toArray,9,(0,0)) := by rw [← hw6];exact el_blk0 hx1_5 hA1 (Nat.le_of_ble_eq_true rfl)
      have hV6 := hS6
      have hU6 : Upd (fun b => b = vb ∨ b = rb) w1 w6 := hU5.trans' hV6 fun i hi h => h.elim (fun h => by omega) .inr
      have hz6 := hV6.size
      have hG6 : Glo ev w6 := hG1.updS hU6 hgM1 hgM2
      have hq6 : Rdr RT ok w6 rb s3 ∧ NN w6 rb s3 := by
        have hn : ∀ x,x = w6 → (Rdr RT ok x rb s3 ∧ NN x rb s3) := fun x hx => by
          rw [hx,← hw6]
          exact Rdr.store hq5 (by omega) (fun h => by have := (hok _ h).1;first | omega | exact (hok _ h).2 rfl)
        exact hn _ rfl
      obtain ⟨X6,hX6⟩ : ∃ X : Array Value,X = (A1 ++ (([strV (rdStr true s2).1] : List Value) ++ B1)).toArray := ⟨_,rfl⟩
      have hxb6 : blk w6 R1 = some (X6,9,(0,0)) := by rw [hX6];exact hx1_6
      have hXs6 : j1 + 1 ≤ X6.size := by rw [hX6];simp only [List.size_toArray,List.length_append,List.length_cons,List.length_nil,hA1];omega
      clear hw6
      have hxE : (Rep1 (RepS true d) fStreamsGroupDescribeRequest_0.of fStreamsGroupDescribeRequest_0.sub) (fun b => (ok b ∨ w1.heap.size ≤ b) ∧ ¬ ownB va0 b) w6 (.oct false (rdStr true s2).1) [strV (rdStr true s2).1] := Rep1_text.2 rfl
      repeat ((first | refine qA rfl ?_|refine qB ?_|refine qC rfl ?_|refine qD ?_|refine qE ?_|refine qF ?_|refine qG ?_|refine qH ?_);try simp (maxSteps:=1000000)(disch:=(first|omega|(simp only [qI,qJ,qK]<;>omega)|exact qL _)) only [go_sem,↓reduceIte,n0,reduceCtorEq,n1,n2,n3,n4,n5,i0,i1,i2,i3,i4,i5,i6,i7,hxb6,hrc0_2,hrc0_7,hrc0_8,hrc0_9,hrc0_10,hrc0_13,hra0,hri0,exitRQ_ret,exitRQ_exit,Int.toNat_natCast,Nat.mul_one])
      have hTk : Upd (fun b => b = R1 ∨ b = rb) w4 w6 := (hV5.trans hV6)
      have hL' := hL0.step (Rep1_lay _ _ fun _ => RepS_lay true _ _) hlt0 (hnext1 w6 [strV (rdStr true s2).1] rfl hx1_6) (by rw [hrE];exact hxE) (hTk.mono fun b h => h.imp (fun e => ⟨_,_,_,hva1,e⟩) id) (by rw [hrE];exact hq6) (fun h => hoM rb h (.inr rfl)) (Nat.le_refl _)
      have hij : IntKind.i32.wrap ((j1 : Int) + 1) = ((j1 + 1 : Nat) : Int) := by rw [i32_wrap (by omega)];omega
      repeat ((first | refine qA rfl ?_|refine qB ?_|refine qC rfl ?_|refine qD ?_|refine qE ?_|refine qF ?_|refine qG ?_|refine qH ?_);try simp (maxSteps:=1000000)(disch:=(first|omega|(simp only [qI,qJ,qK]<;>omega)|exact qL _)) only [go_sem,↓reduceIte,n0,reduceCtorEq,n1,n2,n3,n4,n5,i0,i1,i2,i3,i4,i5,i6,i7,hxb6,hrc0_2,hrc0_7,hrc0_8,hrc0_9,hrc0_10,hrc0_13,hra0,hri0,exitRQ_ret,exitRQ_exit,Int.toNat_natCast,Nat.mul_one,hij])
      refine ⟨⟨(by simp (maxSteps:=1000000)(disch:=(first|omega|(simp only [qI,qJ,qK]<;>omega)|exact qL _)) only [go_sem,↓reduceIte,n0,reduceCtorEq,n1,n2,n3,n4,n5,i0,i1,i2,i3,i4,i5,i6,i7,Holds_nil,Holds_cons,hrc0_2,hrc0_7,hrc0_8,hrc0_9,hrc0_10,hrc0_13,hra0,hri0];exact hva1.symm),j1 + 1,(by simp (maxSteps:=1000000)(disch:=(first|omega|(simp only [qI,qJ,qK]<;>omega)|exact qL _)) only [go_sem,↓reduceIte,n0,reduceCtorEq,n1,n2,n3,n4,n5,i0,i1,i2,i3,i4,i5,i6,i7,hrc0_2,hrc0_7,hrc0_8,hrc0_9,hrc0_10,hrc0_13,hra0,hri0,hij];all_goals rfl),_,_,_,hL'⟩,?_⟩
      try simp (maxSteps:=1000000)(disch:=(first|omega|(simp only [qI,qJ,qK]<;>omega)|exact qL _)) only [go_sem,↓reduceIte,n0,reduceCtorEq,n1,n2,n3,n4,n5,i0,i1,i2,i3,i4,i5,i6,i7,hrc0_2,hrc0_7,hrc0_8,hrc0_9,hrc0_10,hrc0_13,hra0,hri0]
      simp only [RowKit.intOf]
      omega
    · have hjN : j1 = N0 := by omega
      rw [hjN] at hL0
      repeat ((first | refine qA rfl ?_|refine qB ?_|refine qC rfl ?_|refine qD ?_|refine qE ?_|refine qF ?_|refine qG ?_|refine qH ?_);try simp (maxSteps:=1000000)(disch:=(first|omega|(simp only [qI,qJ,qK]<;>omega)|exact qL _)) only [go_sem,↓reduceIte,n0,reduceCtorEq,n1,n2,n3,n4,n5,i0,i1,i2,i3,i4,i5,i6,i7,hrc0_2,hrc0_7,hrc0_8,hrc0_9,hrc0_10,hrc0_13,hrc0_12,hri0,exitRQ_ret,exitRQ_exit])
      exact ⟨(by simp (maxSteps:=1000000)(disch:=(first|omega|(simp only [qI,qJ,qK]<;>omega)|exact qL _)) only [go_sem,↓reduceIte,n0,reduceCtorEq,n1,n2,n3,n4,n5,i0,i1,i2,i3,i4,i5,i6,i7,Holds_nil,Holds_cons,hrc0_2,hrc0_7,hrc0_8,hrc0_9,hrc0_10,hrc0_13,hrc0_12,hri0]),s2,xs0,css0,hL0⟩
  rintro ρ w7 ⟨⟨hrd0_2,hrd0_7,hrd0_8,hrd0_9,hrd0_10,hrd0_13,hrd0_12,-⟩,s4,xs0,css0,hL0⟩
  have hq7 := hL0.rd
  have hu7 := hL0.upd
  have hv_7 := hu7.blk_some hv_2 (by omega)
  have hV7 : Upd (fun b => b = vb ∨ b = rb) w2 w7 := hu7.mono (fun _ h => .inr h)
  have hU7 : Upd (fun b => b = vb ∨ b = rb) w1 w7 := hU2.trans hV7
  have hz7 := hV7.size
  have hG7 : Glo ev w7 := hG1.updS hU7 hgM1 hgM2
  have hrd0 : rdF (rdP d ver true) ver true fStreamsGroupDescribeRequest_0 s0 = (.mk 0 [] (nilS fStreamsGroupDescribeRequest_0 ver y0) xs0 [],s4) := by
    have h := rdF_listE (pt := (rdP d ver true)) (v := ver) (flex := true) (f := fStreamsGroupDescribeRequest_0) (s := s0) (xs := xs0) (e := s4) rfl (by rw [hy0,← hN0,← hs1];exact hL0.done)
    rw [hy0] at h;exact h
  have hs4 : s4 = (rdF (rdP d ver true) ver true fStreamsGroupDescribeRequest_0 s0).2 := by rw [hrd0]
  obtain ⟨aa0,qq0,hvs0⟩ := hL0.row.shape
  subst hvs0
  repeat ((first | refine qA rfl ?_|refine qB ?_|refine qC rfl ?_|refine qD ?_|refine qE ?_|refine qF ?_|refine qG ?_|refine qH ?_);try simp (maxSteps:=1000000)(disch:=(first|omega|(simp only [qI,qJ,qK]<;>omega)|exact qL _)) only [go_sem,↓reduceIte,n0,reduceCtorEq,n1,n2,n3,n4,n5,i0,i1,i2,i3,i4,i5,i6,i7,hv_7,hrd0_2,hrd0_7,hrd0_8,hrd0_9,hrd0_10,hrd0_13,hrd0_12])
  generalize hw8 : wr w7 vb 1 [.slice aa0 N0 qq0] = w8
  have hS8 : Upd (fun b => b = vb ∨ b = rb) w7 w8 := by rw [← hw8];exact (Upd.refl _ _).wr _ _ (.inr (.inl rfl))
  have hv_8 : blk w8 vb = some (#[.int .i16 ver,.slice aa0 N0 qq0,.bool false,.bool false,.map none],117,(0,0)) := by rw [← hw8,blk_wr_eq,hv_7];rfl
  have hV8 := hS8
  have hU8 : Upd (fun b => b = vb ∨ b = rb) w1 w8 := hU7.trans hV8
  have hz8 := hV8.size
  have hG8 : Glo ev w8 := hG1.updS hU8 hgM1 hgM2
  have hq8 : Rdr RT ok w8 rb s4 ∧ NN w8 rb s4 := by
    have hn : ∀ x,x = w8 → (Rdr RT ok x rb s4 ∧ NN x rb s4) := fun x hx => by
      rw [hx,← hw8]
      exact Rdr.store hq7 (by omega) (fun h => by have := (hok _ h).1;first | omega | exact (hok _ h).2 rfl)
    exact hn _ rfl
  clear hw8
  have hf_0 : RepF (RepS true d) (szS true d) fStreamsGroupDescribeRequest_0 (fun b => ok b ∨ w1.heap.size ≤ b) w8 (x_0) [.slice aa0 N0 qq0] := by rw [hx_0,hrd0];exact RepF.keepS (RepF_row rfl hnc0 hN0 rfl hL0.row hL0.all (fun b hb => .inr (by omega))) (hV8.keeps fun b _ hk e => (hoM b hk) e)
  clear hL0 hnc0
  have hb_1 : (rdL (rdP d ver true) (dfP d) ver true [fStreamsGroupDescribeRequest_1,fStreamsGroupDescribeRequest_2] s4).2 = none → FB := fun h => hb_0 (by rw [rdL_st (by decide) hh_0,← hs4];exact h)
  have hh_1 : hasS fStreamsGroupDescribeRequest_1 ver = true := hasS_t (by show (0 : Int) ≤ ver;omega) (by show (-1 : Int) < 0 ∨ ver ≤ (-1 : Int);omega)
  obtain ⟨x_1,hx_1⟩ : ∃ x,x = (rdF (rdP d ver true) ver true fStreamsGroupDescribeRequest_1 s4).1 := ⟨_,rfl⟩
  repeat ((first | refine qA rfl ?_|refine qB ?_|refine qC rfl ?_|refine qD ?_|refine qE ?_|refine qF ?_|refine qG ?_|refine qH ?_);try simp (maxSteps:=1000000)(disch:=(first|omega|(simp only [qI,qJ,qK]<;>omega)|exact qL _)) only [go_sem,↓reduceIte,n0,reduceCtorEq,n1,n2,n3,n4,n5,i0,i1,i2,i3,i4,i5,i6,i7,hv_8,hrd0_2,hrd0_7,hrd0_8,hrd0_9,hrd0_10,hrd0_13,hrd0_12])
  have hrd : rdF (rdP d ver true) ver true fStreamsGroupDescribeRequest_1 s4 = _ := rdF_bool rfl
  refine (Bool_fn w8 hq8.1 hrok).mono ?_
  rintro _ w9 ⟨rfl,hq9,hu9⟩
  have hv_9 := hu9.blk_some hv_8 (by omega)
  have hV9 : Upd (fun b => b = vb ∨ b = rb) w8 w9 := hu9.mono (fun _ h => .inr h)
  have hU9 : Upd (fun b => b = vb ∨ b = rb) w1 w9 := hU8.trans hV9
  have hz9 := hV9.size
  have hG9 : Glo ev w9 := hG1.updS hU9 hgM1 hgM2
  have hst : (rdF (rdP d ver true) ver true fStreamsGroupDescribeRequest_1 s4).2 = (rdN 1 s4).2 := by first | (rw [hrd];rfl) | rw [hrd]
  obtain ⟨s5,hs5⟩ : ∃ s,s = (rdF (rdP d ver true) ver true fStreamsGroupDescribeRequest_1 s4).2 := ⟨_,rfl⟩
  rw [← hst,← hs5] at hq9
  clear hst
  repeat ((first | refine qA rfl ?_|refine qB ?_|refine qC rfl ?_|refine qD ?_|refine qE ?_|refine qF ?_|refine qG ?_|refine qH ?_);try simp (maxSteps:=1000000)(disch:=(first|omega|(simp only [qI,qJ,qK]<;>omega)|exact qL _)) only [go_sem,↓reduceIte,n0,reduceCtorEq,n1,n2,n3,n4,n5,i0,i1,i2,i3,i4,i5,i6,i7,hv_9,hrd0_2,hrd0_7,hrd0_8,hrd0_9,hrd0_10,hrd0_13,hrd0_12])
  generalize hw10 : wr w9 vb 2 [.bool (!decide (beN (rdN 1 s4).1 = 0))] = w10
  have hS10 : Upd (fun b => b = vb ∨ b = rb) w9 w10 := by rw [← hw10];exact (Upd.refl _ _).wr _ _ (.inr (.inl rfl))
  have hv_10 : blk w10 vb = some (#[.int .i16 ver,.slice aa0 N0 qq0,.bool (!decide (beN (rdN 1 s4).1 = 0)),.bool false,.map none],117,(0,0)) := by rw [← hw10,blk_wr_eq,hv_9];rfl
  have hV10 := hS10
  have hU10 : Upd (fun b => b = vb ∨ b = rb) w1 w10 := hU9.trans hV10
  have hz10 := hV10.size
  have hG10 : Glo ev w10 := hG1.updS hU10 hgM1 hgM2
  have hq10 : Rdr RT ok w10 rb s5 ∧ NN w10 rb s5 := by
    have hn : ∀ x,x = w10 → (Rdr RT ok x rb s5 ∧ NN x rb s5) := fun x hx => by
      rw [hx,← hw10]
      exact Rdr.store hq9 (by omega) (fun h => by have := (hok _ h).1;first | omega | exact (hok _ h).2 rfl)
    exact hn _ rfl
  clear hw10
  have hf_1 : RepF (RepS true d) (szS true d) fStreamsGroupDescribeRequest_1 (fun b => ok b ∨ w1.heap.size ≤ b) w10 (x_1) [.bool (!decide (beN (rdN 1 s4).1 = 0))] := (RepF_num (by decide)).2 (by rw [hx_1,hrd];exact congrArg (fun x => [x]) (numC_bool _).symm)
  clear hrd
  have hb_2 : (rdL (rdP d ver true) (dfP d) ver true [fStreamsGroupDescribeRequest_2] s5).2 = none → FB := fun h => hb_1 (by rw [rdL_st (by decide) hh_1,← hs5];exact h)
  have hh_2 : hasS fStreamsGroupDescribeRequest_2 ver = true := hasS_t (by show (1 : Int) ≤ ver;omega) (by show (-1 : Int) < 0 ∨ ver ≤ (-1 : Int);omega)
  obtain ⟨x_2,hx_2⟩ : ∃ x,x = (rdF (rdP d ver true) ver true fStreamsGroupDescribeRequest_2 s5).1 := ⟨_,rfl⟩
  repeat ((first | refine qA rfl ?_|refine qB ?_|refine qC rfl ?_|refine qD ?_|refine qE ?_|refine qF ?_|refine qG ?_|refine qH ?_);try simp (maxSteps:=1000000)(disch:=(first|omega|(simp only [qI,qJ,qK]<;>omega)|exact qL _)) only [go_sem,↓reduceIte,n0,reduceCtorEq,n1,n2,n3,n4,n5,i0,i1,i2,i3,i4,i5,i6,i7,hv_10,hrd0_2,hrd0_7,hrd0_8,hrd0_9,hrd0_10,hrd0_13,hrd0_12])
  have hrd : rdF (rdP d ver true) ver true fStreamsGroupDescribeRequest_2 s5 = _ := rdF_bool rfl
  refine (Bool_fn w10 hq10.1 hrok).mono ?_
  rintro _ w11 ⟨rfl,hq11,hu11⟩
  have hv_11 := hu11.blk_some hv_10 (by omega)
  have hV11 : Upd (fun b => b = vb ∨ b = rb) w10 w11 := hu11.mono (fun _ h => .inr h)
  have hU11 : Upd (fun b => b = vb ∨ b = rb) w1 w11 := hU10.trans hV11
  have hz11 := hV11.size
  have hG11 : Glo ev w11 := hG1.updS hU11 hgM1 hgM2
  have hst : (rdF (rdP d ver true) ver true fStreamsGroupDescribeRequest_2 s5).2 = (rdN 1 s5).2 := by first | (rw [hrd];rfl) | rw [hrd]
  obtain ⟨s6,hs6⟩ : ∃ s,s = (rdF (rdP d ver true) ver true fStreamsGroupDescribeRequest_2 s5).2 := ⟨_,rfl⟩
  rw [← hst,← hs6] at hq11
  clear hst
  repeat ((first | refine qA rfl ?_|refine qB ?_|refine qC rfl ?_|refine qD ?_|refine qE ?_|refine qF ?_|refine qG ?_|refine qH ?_);try simp (maxSteps:=1000000)(disch:=(first|omega|(simp only [qI,qJ,qK]<;>omega)|exact qL _)) only [go_sem,↓reduceIte,n0,reduceCtorEq,n1,n2,n3,n4,n5,i0,i1,i2,i3,i4,i5,i6,i7,hv_11,hrd0_2,hrd0_7,hrd0_8,hrd0_9,hrd0_10,hrd0_13,hrd0_12])
  generalize hw12 : wr w11 vb 3 [.bool (!decide (beN (rdN 1 s5).1 = 0))] = w12
  have hS12 : Upd (fun b => b = vb ∨ b = rb) w11 w12 := by rw [← hw12];exact (Upd.refl _ _).wr _ _ (.inr (.inl rfl))
  have hv_12 : blk w12 vb = some (#[.int .i16 ver,.slice aa0 N0 qq0,.bool (!decide (beN (rdN 1 s4).1 = 0)),.bool (!decide (beN (rdN 1 s5).1 = 0)),.map none],117,(0,0)) := by rw [← hw12,blk_wr_eq,hv_11];rfl
  have hV12 := hS12
  have hU12 : Upd (fun b => b = vb ∨ b = rb) w1 w12 := hU11.trans hV12
  have hz12 := hV12.size
  have hG12 : Glo ev w12 := hG1.updS hU12 hgM1 hgM2
  have hq12 : Rdr RT ok w12 rb s6 ∧ NN w12 rb s6 := by
    have hn : ∀ x,x = w12 → (Rdr RT ok x rb s6 ∧ NN x rb s6) := fun x hx => by
      rw [hx,← hw12]
      exact Rdr.store hq11 (by omega) (fun h => by have := (hok _ h).1;first | omega | exact (hok _ h).2 rfl)
    exact hn _ rfl
  clear hw12
  have hf_2 : RepF (RepS true d) (szS true d) fStreamsGroupDescribeRequest_2 (fun b => ok b ∨ w1.heap.size ≤ b) w12 (x_2) [.bool (!decide (beN (rdN 1 s5).1 = 0))] := (RepF_num (by decide)).2 (by rw [hx_2,hrd];exact congrArg (fun x => [x]) (numC_bool _).symm)
  clear hrd
  have hl_3 : rdL (rdP d ver true) (dfP d) ver true [] s6 = ([],s6) := rfl
  have hl_2 : rdL (rdP d ver true) (dfP d) ver true [fStreamsGroupDescribeRequest_2] s5 = ([x_2],s6) := by rw [rdL_st (by decide) hh_2,← hx_2,← hs6,hl_3]
  have hl_1 : rdL (rdP d ver true) (dfP d) ver true [fStreamsGroupDescribeRequest_1,fStreamsGroupDescribeRequest_2] s4 = ([x_1,x_2],s6) := by rw [rdL_st (by decide) hh_1,← hx_1,← hs5,hl_2]
  have hl_0 : rdL (rdP d ver true) (dfP d) ver true [fStreamsGroupDescribeRequest_0,fStreamsGroupDescribeRequest_1,fStreamsGroupDescribeRequest_2] s0 = ([x_0,x_1,x_2],s6) := by rw [rdL_st (by decide) hh_0,← hx_0,← hs4,hl_1]
  have hfin : rdP (d + 1) ver true fs_StreamsGroupDescribeRequest s0 = (.mk 0 [] false [x_0,x_1,x_2] (rdTags s6).1,(rdTags s6).2) := rdP_t hl_0
  repeat ((first | refine qA rfl ?_|refine qB ?_|refine qC rfl ?_|refine qD ?_|refine qE ?_|refine qF ?_|refine qG ?_|refine qH ?_);try simp (maxSteps:=1000000)(disch:=(first|omega|(simp only [qI,qJ,qK]<;>omega)|exact qL _)) only [go_sem,↓reduceIte,n0,reduceCtorEq,n1,n2,n3,n4,n5,i0,i1,i2,i3,i4,i5,i6,i7,hv_12,hrd0_2,hrd0_7,hrd0_8,hrd0_9,hrd0_10,hrd0_13,hrd0_12])
  refine (ReadTags_fn w12 hq12.1 hrok).mono ?_
  rintro _ w13 ⟨qm,rfl,hT13,hTn,hq13,hu13⟩
  have hv_13 := hu13.blk_some hv_12 (by omega)
  have hV13 : Upd (fun b => b = vb ∨ b = rb) w12 w13 := hu13.mono (fun _ h => .inr h)
  have hU13 : Upd (fun b => b = vb ∨ b = rb) w1 w13 := hU12.trans hV13
  have hz13 := hV13.size
  have hG13 : Glo ev w13 := hG1.updS hU13 hgM1 hgM2
  obtain ⟨s7,hs7⟩ : ∃ s,s = (rdTags s6).2 := ⟨_,rfl⟩
  rw [← hs7] at hq13 hfin
  try simp (maxSteps:=1000000)(disch:=(first|omega|(simp only [qI,qJ,qK]<;>omega)|exact qL _)) only [go_sem,↓reduceIte,n0,reduceCtorEq,n1,n2,n3,n4,n5,i0,i1,i2,i3,i4,i5,i6,i7,hv_13,hrd0_2,hrd0_7,hrd0_8,hrd0_9,hrd0_10,hrd0_13,hrd0_12]
  repeat ((first | refine qA rfl ?_|refine qB ?_|refine qC rfl ?_|refine qD ?_|refine qE ?_|refine qF ?_|refine qG ?_|refine qH ?_);try simp (maxSteps:=1000000)(disch:=(first|omega|(simp only [qI,qJ,qK]<;>omega)|exact qL _)) only [go_sem,↓reduceIte,n0,reduceCtorEq,n1,n2,n3,n4,n5,i0,i1,i2,i3,i4,i5,i6,i7,hv_13,hrd0_2,hrd0_7,hrd0_8,hrd0_9,hrd0_10,hrd0_13,hrd0_12])
  generalize hw14 : wr w13 vb 4 [.map qm] = w14
  have hS14 : Upd (fun b => b = vb ∨ b = rb) w13 w14 := by rw [← hw14];exact (Upd.refl _ _).wr _ _ (.inr (.inl rfl))
  have hv_14 : blk w14 vb = some (#[.int .i16 ver,.slice aa0 N0 qq0,.bool (!decide (beN (rdN 1 s4).1 = 0)),.bool (!decide (beN (rdN 1 s5).1 = 0)),.map qm],117,(0,0)) := by rw [← hw14,blk_wr_eq,hv_13];rfl
  have hV14 := hS14
  have hU14 : Upd (fun b => b = vb ∨ b = rb) w1 w14 := hU13.trans hV14
  have hz14 := hV14.size
  have hG14 : Glo ev w14 := hG1.updS hU14 hgM1 hgM2
  have hq14 : Rdr RT ok w14 rb s7 ∧ NN w14 rb s7 := by
    have hn : ∀ x,x = w14 → (Rdr RT ok x rb s7 ∧ NN x rb s7) := fun x hx => by
      rw [hx,← hw14]
      exact Rdr.store hq13 (by omega) (fun h => by have := (hok _ h).1;first | omega | exact (hok _ h).2 rfl)
    exact hn _ rfl
  clear hw14
  have hTg : TagsM (fun b => ok b ∨ w1.heap.size ≤ b) w14 (.map qm) (rdTags s6).1 := (hT13.weaken fun b _ hk => hk.elim (fun hk => .inl hk) (fun h => by have h' : w12.heap.size ≤ b := h;exact .inr (by omega))).keep (hV14.keeps fun b _ hk e => (hoM b hk) e)
  have hC_14 : Upd (fun b => b = vb ∨ b = rb) w14 w14 := Upd.refl _ _
  have hC_13 : Upd (fun b => b = vb ∨ b = rb) w13 w14 := hV14.trans hC_14
  have hC_12 : Upd (fun b => b = vb ∨ b = rb) w12 w14 := hV13.trans hC_13
  have hC_11 : Upd (fun b => b = vb ∨ b = rb) w11 w14 := hV12.trans hC_12
  have hC_10 : Upd (fun b => b = vb ∨ b = rb) w10 w14 := hV11.trans hC_11
  have hC_9 : Upd (fun b => b = vb ∨ b = rb) w9 w14 := hV10.trans hC_10
  have hC_8 : Upd (fun b => b = vb ∨ b = rb) w8 w14 := hV9.trans hC_9
  have hC_7 : Upd (fun b => b = vb ∨ b = rb) w7 w14 := hV8.trans hC_8
  have hC_2 : Upd (fun b => b = vb ∨ b = rb) w2 w14 := hV7.trans hC_7
  have hC_1 : Upd (fun b => b = vb ∨ b = rb) w1 w14 := hV2.trans hC_2
  have hR : RepS true (d + 1) fs_StreamsGroupDescribeRequest (fun b => ok b ∨ w1.heap.size ≤ b) w14 (.mk 0 [] false [x_0,x_1,x_2] (rdTags s6).1) [.slice aa0 N0 qq0,.bool (!decide (beN (rdN 1 s4).1 = 0)),.bool (!decide (beN (rdN 1 s5).1 = 0)),.map qm] := RepS.introT (c := [.slice aa0 N0 qq0,.bool (!decide (beN (rdN 1 s4).1 = 0)),.bool (!decide (beN (rdN 1 s5).1 = 0))]) (RepL.cons1 (hf_0.keepS (hC_8.keeps fun b _ hk e => (hoM b hk) e)) (RepL.cons1 (hf_1.keepS (hC_10.keeps fun b _ hk e => (hoM b hk) e)) (RepL.cons1 (hf_2.keepS (hC_12.keeps fun b _ hk e => (hoM b hk) e)) RepL.nil))) hTg
  repeat ((first | refine qA rfl ?_|refine qB ?_|refine qC rfl ?_|refine qD ?_|refine qE ?_|refine qF ?_|refine qG ?_|refine qH ?_);try simp (maxSteps:=1000000)(disch:=(first|omega|(simp only [qI,qJ,qK]<;>omega)|exact qL _)) only [go_sem,↓reduceIte,n0,reduceCtorEq,n1,n2,n3,n4,n5,i0,i1,i2,i3,i4,i5,i6,i7,hv_14,hrd0_2,hrd0_7,hrd0_8,hrd0_9,hrd0_10,hrd0_13,hrd0_12])
  refine (RComplete_fn w14 hq14.1 hG14.2).mono ?_
  rintro _ wz ⟨rfl,hez⟩
  rw [hez]
  repeat ((first | refine qA rfl ?_|refine qB ?_|refine qC rfl ?_|refine qD ?_|refine qE ?_|refine qF ?_|refine qG ?_|refine qH ?_);try simp (maxSteps:=1000000)(disch:=(first|omega|(simp only [qI,qJ,qK]<;>omega)|exact qL _)) only [go_sem,↓reduceIte,n0,reduceCtorEq,n1,n2,n3,n4,n5,i0,i1,i2,i3,i4,i5,i6,i7,hv_14,hrd0_2,hrd0_7,hrd0_8,hrd0_9,hrd0_10,hrd0_13,hrd0_12])
  rw [hfin]
  refine ⟨fun h => ?_,fun h => ⟨?_,[.slice aa0 N0 qq0,.bool (!decide (beN (rdN 1 s4).1 = 0)),.bool (!decide (beN (rdN 1 s5).1 = 0)),.map qm],hv_14,?_⟩,?_⟩
  · have h' : s7 = none := h
    rw [h'];rfl
  · cases hsn : s7 with
    | none => exact absurd hsn h
    | some x => rfl
  · exact (RepS_lay true (d + 1) fs_StreamsGroupDescribeRequest).weaken hR fun b _ hk => hk.imp id fun h => by omega
  · exact hbase.trans' hU14 fun i hi h => h.elim id fun h => by omega
end Ms

namespace Ms
open Go.World renaming size_alloc → qI
open Ms renaming size_wr → qJ,size_drew → qK,not_noB → qL
open W renaming seqR → qA,seq → qB,regR → qC,condK → qD,block → qE,skip → qF,ret → qG,exit → qH
open Nat renaming reduceEqDiff → n0,reduceAdd → n1,reduceMul → n2,reduceSub → n3,reduceLT → n4,reduceLeDiff → n5
open Int renaming reduceEq → i0,reduceLT → i1,reduceLE → i2,reduceNeg → i3,reduceAdd → i4,reduceSub → i5,reduceMul → i6,reduceToNat → i7
set_option maxRecDepth 8000
open Go Go.Proofs Go.Shelf
attribute [local congr] W_congr WPsq_congr WPp_congr optK_congr addrK_congr intK_congr boolK_congr sliceK_congr tupleK_congr funcK_congr Fn_congr rawK_congr takeK_congr stepK_congr convK_congr aggK_congr

theorem ReadFromStreamsGroupDescribeRequest_fn {d : Nat} {ok : Blocks} {ver : Int} {ev : Value} (hlo : 0 ≤ ver) (hhi : ver ≤ 1) (w : World) {vb : Nat} (src : Value) (s : List UInt8) (hv : blk w vb = some (#[.int .i16 ver,.slice none 0 0,.bool false,.bool false,.map none],117,(0,0))) (hsrc : BytesV ok w src s) (hok0 : ∀ b,ok b → b < w.heap.size ∧ b ≠ vb) (hG : Glo ev w) (hgv : ¬ 1 = vb ∧ ¬ 0 = vb) :
    Fn Tryz.prog 81 #[.pointer (some ⟨vb,0,none⟩),src] w (ReadQ 117 ok ver (d + 1) fs_StreamsGroupDescribeRequest vb w (rdP (d + 1) ver (flexB 0 ver) fs_StreamsGroupDescribeRequest (some s)) ev) := by
  obtain ⟨sa,sc,rfl,_⟩ := hsrc.shape
  refine fn_of_W Tryz.func81 rfl Tryz.results81 Tryz.ntmps81 rfl ?_
  repeat ((first | refine qA rfl ?_|refine qB ?_|refine qC rfl ?_|refine qD ?_|refine qE ?_|refine qF ?_|refine qG ?_|refine qH ?_);try simp (maxSteps:=1000000)(disch:=(first|omega|(simp only [qI,qJ,qK]<;>omega)|exact qL _)) only [go_sem,↓reduceIte,n0,reduceCtorEq,n1,n2,n3,n4,n5,i0,i1,i2,i3,i4,i5,i6,i7])
  have hcl : (0 ≤ ver ∧ ver ≤ 0) ∨ (1 ≤ ver ∧ ver ≤ 1) := by omega
  rcases hcl with ⟨h1,h2⟩ | ⟨h1,h2⟩
  · have hfl : flexB 0 ver = true := by simp only [flexB,Bool.and_eq_true,decide_eq_true_eq];omega
    rw [hfl]
    refine (readStreamsGroupDescribeRequest_0 (d := d) h1 h2 w _ s hv hsrc hok0 hG hgv).mono ?_
    rintro r5 w5 h5
    repeat ((first | refine qA rfl ?_|refine qB ?_|refine qC rfl ?_|refine qD ?_|refine qE ?_|refine qF ?_|refine qG ?_|refine qH ?_);try simp (maxSteps:=1000000)(disch:=(first|omega|(simp only [qI,qJ,qK]<;>omega)|exact qL _)) only [go_sem,↓reduceIte,n0,reduceCtorEq,n1,n2,n3,n4,n5,i0,i1,i2,i3,i4,i5,i6,i7])
    all_goals exact h5
  · have hfl : flexB 0 ver = true := by simp only [flexB,Bool.and_eq_true,decide_eq_true_eq];omega
    rw [hfl]
    refine (readStreamsGroupDescribeRequest_1 (d := d) h1 h2 w _ s hv hsrc hok0 hG hgv).mono ?_
    rintro r5 w5 h5
    repeat ((first | refine qA rfl ?_|refine qB ?_|refine qC rfl ?_|refine qD ?_|refine qE ?_|refine qF ?_|refine qG ?_|refine qH ?_);try simp (maxSteps:=1000000)(disch:=(first|omega|(simp only [qI,qJ,qK]<;>omega)|exact qL _)) only [go_sem,↓reduceIte,n0,reduceCtorEq,n1,n2,n3,n4,n5,i0,i1,i2,i3,i4,i5,i6,i7])
    all_goals exact h5

end Ms

namespace Ms
open Go.World renaming size_alloc → qI
open Ms renaming size_wr → qJ,size_drew → qK,not_noB → qL
open W renaming seqR → qA,seq → qB,regR → qC,condK → qD,block → qE,skip → qF,ret → qG,exit → qH
open Nat renaming reduceEqDiff → n0,reduceAdd → n1,reduceMul → n2,reduceSub → n3,reduceLT → n4,reduceLeDiff → n5
open Int renaming reduceEq → i0,reduceLT → i1,reduceLE → i2,reduceNeg → i3,reduceAdd → i4,reduceSub → i5,reduceMul → i6,reduceToNat → i7
set_option maxRecDepth 8000
open Go Go.Proofs Go.Shelf
attribute [local congr] W_congr WPsq_congr WPp_congr optK_congr addrK_congr intK_congr boolK_congr sliceK_congr tupleK_congr funcK_congr Fn_congr rawK_congr takeK_congr stepK_congr convK_congr aggK_congr

set_option maxHeartbeats 4000000 in
theorem appStreamsGroupDescribeRequest_0 {d B : Nat} {okM : Blocks} {ver : Int} (hlo : 0 ≤ ver) (hhi : ver ≤ 0) (t : Tree) (cells : List Value) (v : Value) (s : List UInt8) (w : World) {vb : Nat} (ho : OwnBy 5 B w v s) (hB : B ≤ w.heap.size) (hvb : blk w vb = some ((.int .i16 ver :: cells).toArray,117,(0,0)))
    (hR : RepS true (d + 1) fs_StreamsGroupDescribeRequest okM w t cells) (hfit : FitW ver (d + 1) fs_StreamsGroupDescribeRequest t) (hd : ∀ b,b < w.heap.size → okM b → ¬ ownB v b) (hdv : ¬ ownB v vb) (hlen : s.length + (partS (d + 1) fs_StreamsGroupDescribeRequest ver true t).length ≤ 2 ^ 41) :
    Fn Tryz.prog 259 #[.pointer (some ⟨vb,0,none⟩),v] w fun r w' => AppR 5 B w v s (partS (d + 1) fs_StreamsGroupDescribeRequest ver true t) r w' := by
  obtain ⟨⟨g_0,g_1,g_2,-⟩,hfu⟩ := hfit
  replace g_0 : hasS fStreamsGroupDescribeRequest_0 ver = true → FitWF (FitW ver d) ver fStreamsGroupDescribeRequest_0 (t.at 0) := g_0
  have hh_0 : hasS fStreamsGroupDescribeRequest_0 ver = true := hasS_t (by show (0 : Int) ≤ ver;omega) (by show (-1 : Int) < 0 ∨ ver ≤ (-1 : Int);omega)
  replace g_0 := g_0 hh_0
  replace g_1 : hasS fStreamsGroupDescribeRequest_1 ver = true → FitWF (FitW ver d) ver fStreamsGroupDescribeRequest_1 (t.at 1) := g_1
  have hh_1 : hasS fStreamsGroupDescribeRequest_1 ver = true := hasS_t (by show (0 : Int) ≤ ver;omega) (by show (-1 : Int) < 0 ∨ ver ≤ (-1 : Int);omega)
  replace g_1 := g_1 hh_1
  replace g_2 : hasS fStreamsGroupDescribeRequest_2 ver = true → FitWF (FitW ver d) ver fStreamsGroupDescribeRequest_2 (t.at 2) := g_2
  have hh_2 : hasS fStreamsGroupDescribeRequest_2 ver = false := hasS_f (by show ver < 1 ∨ (0 ≤ (-1 : Int) ∧ (-1 : Int) < ver);omega)
  clear g_2
  obtain ⟨cs,q,hcs,hL,hT⟩ := hR.inv
  obtain ⟨c_0,e_0,rfl,h_0,c_1,e_1,rfl,h_1,c_2,e_2,rfl,h_2,rfl⟩ := hL
  replace h_0 : RepF (RepS true d) (szS true d) fStreamsGroupDescribeRequest_0 okM w (t.at 0) c_0 := h_0
  replace h_1 : RepF (RepS true d) (szS true d) fStreamsGroupDescribeRequest_1 okM w (t.at 1) c_1 := h_1
  replace h_2 : RepF (RepS true d) (szS true d) fStreamsGroupDescribeRequest_2 okM w (t.at 2) c_2 := h_2
  obtain ⟨p_0,rfl,hs_0⟩ := RepF_listW g_0 rfl (by decide) h_0
  obtain ⟨ab_0,ac_0,rfl,_⟩ := SlR.shape hs_0
  have hgl_0 := g_0.list rfl
  have hll_0 := hgl_0.1
  obtain rfl := (RepF_num (by decide)).1 h_1
  obtain rfl := (RepF_num (by decide)).1 h_2
  obtain ⟨qm,rfl⟩ := hT.shape
  have hv : blk w vb = some (#[.int .i16 ver,.slice ab_0 (t.at 0).l.length ac_0,.bool (decide ((t.at 1).n % 2 = 1)),.bool (decide ((t.at 2).n % 2 = 1)),.map qm],117,(0,0)) := by rw [hvb,hcs];rfl
  clear hvb hcs
  obtain ⟨XL_0,hXL_0⟩ : ∃ X,X = uvarS ((t.at 0).l.length + 1) := ⟨_,rfl⟩
  obtain ⟨XE_0,hXE_0⟩ : ∃ X,X = (t.at 0).l.flatMap (fun x : Tree => uvarS (x.s.length + 1) ++ x.s) := ⟨_,rfl⟩
  obtain ⟨X_1,hXX_1⟩ : ∃ X,X = [if decide ((t.at 1).n % 2 = 1) = true then (1 : UInt8) else 0] := ⟨_,rfl⟩
  obtain ⟨XU,hXU⟩ : ∃ X,X = uvarS t.u.length := ⟨_,rfl⟩
  obtain ⟨XT,hXT⟩ : ∃ X,X = t.u.flatMap oneTag := ⟨_,rfl⟩
  have hP : partS (d + 1) fs_StreamsGroupDescribeRequest ver true t = ((XL_0 ++ XE_0) ++ (X_1 ++ [])) ++ (XU ++ XT) := by rw [hXU,hXT];exact partS_yes rfl hfu (plainL_has (by decide) hh_0 ((fieldS_list_t (g := (fun x : Tree => uvarS (x.s.length + 1) ++ x.s)) g_0 rfl (by decide) (fun x hx => valueS_text ((hgl_0.2 x hx).1 (.inl rfl)))).trans (by rw [hXL_0,hXE_0])) (plainL_has (by decide) hh_1 ((fieldS_bool rfl).trans hXX_1.symm) (plainL_not hh_2 rfl)))
  rw [hP] at hlen
  simp only [List.length_append,List.length_nil] at hlen
  have hdK : ∀ {r : Value} {w' : World} {add : List UInt8},AppR 5 B w v s add r w' → ∀ b,b < w'.heap.size → OkS okM w.heap.size b → ¬ ownB r b := fun h b _ hk ho => (h.frame b ho).elim (hd b hk.2 hk.1) (fun h => by have := hk.2;omega)
  have ownK : ∀ {r : Value} {w' : World} {add : List UInt8} {b : Nat},AppR 5 B w v s add r w' → b < w.heap.size → ¬ ownB v b → ¬ ownB r b := fun h hb hn ho => (h.frame _ ho).elim hn (fun h => by omega)
  have ha0 : AppR 5 B w v s [] v w := AppR.refl ho
  obtain ⟨w0,hw0⟩ : ∃ w0,w0 = w := ⟨_,rfl⟩
  have hB0 := hB
  have hv_0 := hv
  refine fn_of_W Tryz.func259 rfl Tryz.results259 Tryz.ntmps259 rfl ?_
  repeat ((first | refine qA rfl ?_|refine qB ?_|refine qC rfl ?_|refine qD ?_|refine qE ?_|refine qF ?_|refine qG ?_|refine qH ?_);try simp (maxSteps:=1000000)(disch:=(first|omega|(simp only [qI,qJ,qK]<;>omega)|exact qL _)) only [go_sem,↓reduceIte,n0,reduceCtorEq,n1,n2,n3,n4,n5,i0,i1,i2,i3,i4,i5,i6,i7,hv_0])
  refine (AppendCompactArrayLen_fn _ _ _ ha0.own hB0 (t.at 0).l.length hll_0 (by simp only [List.length_append,List.length_nil];omega)).mono ?_
  rintro r1 w1 hc1
  rw [← hXL_0] at hc1
  have ha1 := ha0.trans hc1
  have hB1 : B ≤ w1.heap.size := Nat.le_trans hB ha1.upd.size
  have hv_1 := ha1.upd.blk_some hv hdv
  repeat ((first | refine qA rfl ?_|refine qB ?_|refine qC rfl ?_|refine qD ?_|refine qE ?_|refine qF ?_|refine qG ?_|refine qH ?_);try simp (maxSteps:=1000000)(disch:=(first|omega|(simp only [qI,qJ,qK]<;>omega)|exact qL _)) only [go_sem,↓reduceIte,n0,reduceCtorEq,n1,n2,n3,n4,n5,i0,i1,i2,i3,i4,i5,i6,i7,hv_1])
  have hadd1 := ha1
  refine W.exitJ 0 (fun ρ w' => ∃ r,ρ 1 = r ∧ ρ 0 = .pointer (some ⟨vb,0,none⟩) ∧ ρ 5 = .int .i16 ver ∧ ρ 6 = .bool true ∧ AppR 5 B w v s (([] ++ XL_0) ++ XE_0) r w')
    (W.loop (fun ρ w' => ∃ (j : Nat) (r : Value),j ≤ (t.at 0).l.length ∧ ρ 35 = .int .i64 j ∧ ρ 34 = .int .i64 (t.at 0).l.length ∧ ρ 7 = .slice ab_0 (t.at 0).l.length ac_0 ∧ ρ 1 = r ∧ ρ 0 = .pointer (some ⟨vb,0,none⟩) ∧ ρ 5 = .int .i16 ver ∧ ρ 6 = .bool true ∧ AppR 5 B w v s (([] ++ XL_0) ++ ((t.at 0).l.take j).flatMap (fun x : Tree => uvarS (x.s.length + 1) ++ x.s)) r w')
      (fun ρ _ => (t.at 0).l.length - (RowKit.intOf (ρ 35)).toNat) ?_ ?_) ?_
  · refine ⟨0,_,Nat.zero_le _,?_,?_,?_,?_,?_,?_,?_,ha1.eqs (by rw [List.take_zero,List.flatMap_nil,List.append_nil])⟩ <;> simp (maxSteps:=1000000)(disch:=(first|omega|(simp only [qI,qJ,qK]<;>omega)|exact qL _)) only [go_sem,↓reduceIte,n0,reduceCtorEq,n1,n2,n3,n4,n5,i0,i1,i2,i3,i4,i5,i6,i7]
    all_goals rfl
  · rintro ρ w2 ⟨j1,r2,hj1,hI1,hN1,hS1,hr1_1,hr1_0,hr1_5,hr1_6,ha2⟩
    have hB2 : B ≤ w2.heap.size := Nat.le_trans hB ha2.upd.size
    have hv_2 := ha2.upd.blk_some hv hdv
    by_cases hlt1 : j1 < (t.at 0).l.length
    · obtain ⟨_,b1,o1,x1,ce1,hb1,hok1,hx1,hbl1,hxs1,hxe1,hq1,hRe1⟩ := SlR.get (size := 1) (by decide) hs_0 hlt1
      subst hb1
      have hcat1 : (t.at 0).l.take (j1 + 1) = (t.at 0).l.take j1 ++ [(t.at 0).l[j1]] := List.take_succ_eq_append_getElem hlt1
      have htl1 := take_flatMap_len (t.at 0).l (fun x : Tree => uvarS (x.s.length + 1) ++ x.s) (j1 + 1)
      rw [← hXE_0,hcat1,List.flatMap_append,List.flatMap_cons,List.flatMap_nil,List.append_nil] at htl1
      have hge1 := hgl_0.2 _ (List.getElem_mem hlt1)
      generalize (t.at 0).l[j1] = y1 at *
      have hnx1 := hd b1 hbl1 hok1
      obtain ⟨T1,hTT1⟩ : ∃ T,T = ((t.at 0).l.take j1).flatMap (fun x : Tree => uvarS (x.s.length + 1) ++ x.s) := ⟨_,rfl⟩
      rw [← hTT1] at ha2 htl1
      have hx1_2 := ha2.upd.blk_some hx1 hnx1
      obtain rfl := Rep1_text.1 hRe1
      have hq1_0 : x1.1[o1 + j1]? = some (strV y1.s) := by have := hq1 0 (by decide);rw [Nat.mul_one] at this;exact this
      obtain ⟨Y1,hY1⟩ : ∃ Y,Y = uvarS ((y1).s.length + 1) ++ (y1).s := ⟨_,rfl⟩
      replace htl1 : (T1 ++ Y1).length ≤ XE_0.length := by rw [hY1];exact htl1
      simp only [List.length_append] at htl1
      repeat ((first | refine qA rfl ?_|refine qB ?_|refine qC rfl ?_|refine qD ?_|refine qE ?_|refine qF ?_|refine qG ?_|refine qH ?_);try simp (maxSteps:=1000000)(disch:=(first|omega|(simp only [qI,qJ,qK]<;>omega)|exact qL _)) only [go_sem,↓reduceIte,n0,reduceCtorEq,n1,n2,n3,n4,n5,i0,i1,i2,i3,i4,i5,i6,i7,hv_2,hx1_2,Int.toNat_natCast,Nat.mul_one,hq1_0,hr1_1,hr1_0,hr1_5,hr1_6,hI1,hN1,hS1])
      refine (AppendCompactString_fn _ _ _ ha2.own hB2 y1.s (hge1.1 (.inl rfl)) (by simp only [List.length_append,List.length_nil];omega)).mono ?_
      rintro r3 w3 hc3
      rw [← hY1] at hc3
      have ha3 := ha2.trans hc3
      have hB3 : B ≤ w3.heap.size := Nat.le_trans hB ha3.upd.size
      have hv_3 := ha3.upd.blk_some hv hdv
      have hx1_3 := ha3.upd.blk_some hx1 hnx1
      repeat ((first | refine qA rfl ?_|refine qB ?_|refine qC rfl ?_|refine qD ?_|refine qE ?_|refine qF ?_|refine qG ?_|refine qH ?_);try simp (maxSteps:=1000000)(disch:=(first|omega|(simp only [qI,qJ,qK]<;>omega)|exact qL _)) only [go_sem,↓reduceIte,n0,reduceCtorEq,n1,n2,n3,n4,n5,i0,i1,i2,i3,i4,i5,i6,i7,hr1_1,hr1_0,hr1_5,hr1_6,hI1,hN1,hS1])
      refine ⟨⟨j1 + 1,_,by omega,rfl,rfl,ha3.eqs ?_⟩,?_⟩
      · rw [hcat1,List.flatMap_append,List.flatMap_cons,List.flatMap_nil,List.append_nil,← hTT1,hY1];simp only [List.append_assoc,List.append_nil,List.nil_append]
      · simp only [RowKit.intOf];omega
    · have hjl1 : j1 = (t.at 0).l.length := by omega
      subst hjl1
      rw [List.take_length,← hXE_0] at ha2
      repeat ((first | refine qA rfl ?_|refine qB ?_|refine qC rfl ?_|refine qD ?_|refine qE ?_|refine qF ?_|refine qG ?_|refine qH ?_);try simp (maxSteps:=1000000)(disch:=(first|omega|(simp only [qI,qJ,qK]<;>omega)|exact qL _)) only [go_sem,↓reduceIte,n0,reduceCtorEq,n1,n2,n3,n4,n5,i0,i1,i2,i3,i4,i5,i6,i7,hI1,hN1])
      exact ⟨_,hr1_1,hr1_0,hr1_5,hr1_6,ha2⟩
  · rintro ρ w4 ⟨r4,hr1_2,hr2_0,hr2_5,hr2_6,ha4⟩
    have hB4 : B ≤ w4.heap.size := Nat.le_trans hB ha4.upd.size
    have hv_4 := ha4.upd.blk_some hv hdv
    repeat ((first | refine qA rfl ?_|refine qB ?_|refine qC rfl ?_|refine qD ?_|refine qE ?_|refine qF ?_|refine qG ?_|refine qH ?_);try simp (maxSteps:=1000000)(disch:=(first|omega|(simp only [qI,qJ,qK]<;>omega)|exact qL _)) only [go_sem,↓reduceIte,n0,reduceCtorEq,n1,n2,n3,n4,n5,i0,i1,i2,i3,i4,i5,i6,i7,hv_4,hr1_2,hr2_0,hr2_5,hr2_6])
    refine (AppendBool_fn _ _ _ ha4.own hB4 _ (by simp only [List.length_append,List.length_nil];omega)).mono ?_
    rintro r5 w5 hc5
    rw [← hXX_1] at hc5
    have ha5 := ha4.trans hc5
    have hB5 : B ≤ w5.heap.size := Nat.le_trans hB ha5.upd.size
    have hv_5 := ha5.upd.blk_some hv hdv
    repeat ((first | refine qA rfl ?_|refine qB ?_|refine qC rfl ?_|refine qD ?_|refine qE ?_|refine qF ?_|refine qG ?_|refine qH ?_);try simp (maxSteps:=1000000)(disch:=(first|omega|(simp only [qI,qJ,qK]<;>omega)|exact qL _)) only [go_sem,↓reduceIte,n0,reduceCtorEq,n1,n2,n3,n4,n5,i0,i1,i2,i3,i4,i5,i6,i7,hv_5,hr1_2,hr2_0,hr2_5,hr2_6])
    have hTk5 : TagsM (OkS okM w.heap.size) w5 (.map qm) t.u := (hT.weaken fun b h1 h2 => ⟨h2,h1⟩).keep (ha5.upd.keeps fun b hb hk => hd b hb hk.1)
    refine (TagsLen_fn (ok := OkS okM w.heap.size) w5 hv_5 (to := 4) (show (#[.int .i16 ver,.slice ab_0 (t.at 0).l.length ac_0,.bool (decide ((t.at 1).n % 2 = 1)),.bool (decide ((t.at 2).n % 2 = 1)),.map qm] : Array Value)[4]? = some (.map qm) from rfl) hTk5).mono ?_
    rintro _ w5' ⟨rfl,rfl⟩
    have hul5 : t.u.length ≤ 32767 := hfu.1
    have ew5 : IntKind.u32.wrap (t.u.length : Int) = t.u.length := u32_wrap (by omega)
    have ez5 : IntKind.u32.wrap (0 + (t.u.length : Int)) = t.u.length := by rw [Int.zero_add,u32_wrap (by omega)]
    simp (maxSteps:=1000000)(disch:=(first|omega|(simp only [qI,qJ,qK]<;>omega)|exact qL _)) only [go_sem,↓reduceIte,n0,reduceCtorEq,n1,n2,n3,n4,n5,i0,i1,i2,i3,i4,i5,i6,i7,hv_5,hr1_2,hr2_0,hr2_5,hr2_6,ew5,ez5]
    refine (AppendUvarint_fn _ _ _ ha5.own hB5 t.u.length (by omega) (by simp only [List.length_append,List.length_nil];omega)).mono ?_
    rintro r6 w6 hc6
    rw [← hXU] at hc6
    have ha6 := ha5.trans hc6
    have hB6 : B ≤ w6.heap.size := Nat.le_trans hB ha6.upd.size
    have hv_6 := ha6.upd.blk_some hv hdv
    repeat ((first | refine qA rfl ?_|refine qB ?_|refine qC rfl ?_|refine qD ?_|refine qE ?_|refine qF ?_|refine qG ?_|refine qH ?_);try simp (maxSteps:=1000000)(disch:=(first|omega|(simp only [qI,qJ,qK]<;>omega)|exact qL _)) only [go_sem,↓reduceIte,n0,reduceCtorEq,n1,n2,n3,n4,n5,i0,i1,i2,i3,i4,i5,i6,i7,hv_6,hr1_2,hr2_0,hr2_5,hr2_6])
    have hTk6 : TagsM (OkS okM w.heap.size) w6 (.map qm) t.u := (hT.weaken fun b h1 h2 => ⟨h2,h1⟩).keep (ha6.upd.keeps fun b hb hk => hd b hb hk.1)
    refine (AppendEach_fn (ok := OkS okM w.heap.size) _ _ _ ha6.own hB6 hv_6 (to := 4) (show (#[.int .i16 ver,.slice ab_0 (t.at 0).l.length ac_0,.bool (decide ((t.at 1).n % 2 = 1)),.bool (decide ((t.at 2).n % 2 = 1)),.map qm] : Array Value)[4]? = some (.map qm) from rfl) hTk6 (rising_keys hfu) hfu.1 (tags_small hfu hTk6) (hdK ha6) (ownK ha6 (blk_lt hv) hdv) (by simp only [List.length_append,List.length_nil];omega)).mono ?_
    rintro r7 w7 hc7
    rw [← hXT] at hc7
    have ha7 := ha6.trans hc7
    have hB7 : B ≤ w7.heap.size := Nat.le_trans hB ha7.upd.size
    have hv_7 := ha7.upd.blk_some hv hdv
    repeat ((first | refine qA rfl ?_|refine qB ?_|refine qC rfl ?_|refine qD ?_|refine qE ?_|refine qF ?_|refine qG ?_|refine qH ?_);try simp (maxSteps:=1000000)(disch:=(first|omega|(simp only [qI,qJ,qK]<;>omega)|exact qL _)) only [go_sem,↓reduceIte,n0,reduceCtorEq,n1,n2,n3,n4,n5,i0,i1,i2,i3,i4,i5,i6,i7,hv_7,hr1_2,hr2_0,hr2_5,hr2_6])
    refine ha7.eqs ?_
    rw [hP];simp only [List.append_assoc,List.append_nil,List.nil_append]
end Ms

