/- A part of the proof: see the last text. -/
import Derived.Test.YtdpckciobjkobaaGreatDoorC06
import Derived.Test.YtdpckciobjkobaaGreatDoorC07
import Derived.Test.YtdpckciobjkobaaGreatDoorC09
import Derived.Test.YtdpckciobjkobaaGreatDoorC10
import Derived.Test.YtdpckciobjkobaaGreatDoorC11
set_option linter.unusedSimpArgs false
set_option linter.unusedVariables false
namespace Ms
open Nat renaming reduceEqDiff → n0,reduceAdd → n1,reduceMul → n2,reduceSub → n3,reduceLT → n4,reduceLeDiff → n5
open Int renaming reduceEq → i0,reduceLT → i1,reduceLE → i2,reduceNeg → i3,reduceAdd → i4,reduceSub → i5,reduceMul → i6,reduceToNat → i7
set_option maxRecDepth 4000
open Go Go.Proofs
theorem ca_115 : callable Tryz.prog 115 = true := nr (by kernel_rfl)
theorem ca_116 : callable Tryz.prog 116 = true := nr (by kernel_rfl)
theorem ca_12 : callable Tryz.prog 12 = true := nr (by kernel_rfl)
theorem ca_129 : callable Tryz.prog 129 = true := nr (by kernel_rfl)
theorem ca_13 : callable Tryz.prog 13 = true := nr (by kernel_rfl)
theorem ca_130 : callable Tryz.prog 130 = true := nr (by kernel_rfl)
theorem ca_131 : callable Tryz.prog 131 = true := nr (by kernel_rfl)
theorem ca_132 : callable Tryz.prog 132 = true := nr (by kernel_rfl)
theorem ca_139 : callable Tryz.prog 139 = true := nr (by kernel_rfl)
theorem ca_144 : callable Tryz.prog 144 = true := nr (by kernel_rfl)
theorem ca_145 : callable Tryz.prog 145 = true := nr (by kernel_rfl)
theorem ca_146 : callable Tryz.prog 146 = true := nr (by kernel_rfl)
theorem ca_147 : callable Tryz.prog 147 = true := nr (by kernel_rfl)
theorem ca_153 : callable Tryz.prog 153 = true := nr (by kernel_rfl)
theorem ca_16 : callable Tryz.prog 16 = true := nr (by kernel_rfl)
theorem ca_17 : callable Tryz.prog 17 = true := nr (by kernel_rfl)
theorem ca_191 : callable Tryz.prog 191 = true := nr (by kernel_rfl)
theorem ca_192 : callable Tryz.prog 192 = true := nr (by kernel_rfl)
theorem ca_196 : callable Tryz.prog 196 = true := nr (by kernel_rfl)
theorem ca_197 : callable Tryz.prog 197 = true := nr (by kernel_rfl)
theorem ca_20 : callable Tryz.prog 20 = true := nr (by kernel_rfl)
theorem ca_21 : callable Tryz.prog 21 = true := nr (by kernel_rfl)
theorem ca_239 : callable Tryz.prog 239 = true := nr (by kernel_rfl)
theorem ca_34 : callable Tryz.prog 34 = true := nr (by kernel_rfl)
theorem ca_35 : callable Tryz.prog 35 = true := nr (by kernel_rfl)
theorem ca_36 : callable Tryz.prog 36 = true := nr (by kernel_rfl)
theorem ca_53 : callable Tryz.prog 53 = true := nr (by kernel_rfl)
theorem ca_74 : callable Tryz.prog 74 = true := nr (by kernel_rfl)
theorem ca_75 : callable Tryz.prog 75 = true := nr (by kernel_rfl)
theorem ca_76 : callable Tryz.prog 76 = true := nr (by kernel_rfl)
theorem ca_77 : callable Tryz.prog 77 = true := nr (by kernel_rfl)
theorem es_113 : elemSize Tryz.prog 113 = some 1 := nr (by kernel_rfl)
theorem fo_115_0 : fieldOff Tryz.prog 115 0 = some 0 := nr (by kernel_rfl)
theorem fo_115_1 : fieldOff Tryz.prog 115 1 = some 1 := nr (by kernel_rfl)
theorem fo_115_2 : fieldOff Tryz.prog 115 2 = some 2 := nr (by kernel_rfl)
theorem fo_115_3 : fieldOff Tryz.prog 115 3 = some 3 := nr (by kernel_rfl)
theorem if_55 : isIfaceT Tryz.prog 55 = true := nr (by kernel_rfl)
theorem kn_67 : knownT Tryz.prog 67 = true := nr (by kernel_rfl)
theorem kn_9 : knownT Tryz.prog 9 = true := nr (by kernel_rfl)
theorem ld_113 (w : World) (b o : Nat) : loadOf Tryz.prog 113 w ⟨b,o,none⟩ = (blk w b).bind fun x => x.1[o]? := loadOf_one (by kernel_rfl) w b o
theorem ld_23 (w : World) (b o : Nat) : loadOf Tryz.prog 23 w ⟨b,o,none⟩ = (blk w b).bind fun x => cellsAt x.1 o 2 := loadOf_agg (by kernel_rfl) w b o
theorem ld_34 (w : World) (b o : Nat) : loadOf Tryz.prog 34 w ⟨b,o,none⟩ = (blk w b).bind fun x => cellsAt x.1 o 2 := loadOf_agg (by kernel_rfl) w b o
theorem ld_45 (w : World) (b o : Nat) : loadOf Tryz.prog 45 w ⟨b,o,none⟩ = (blk w b).bind fun x => x.1[o]? := loadOf_one (by kernel_rfl) w b o
theorem nif_67 : isIfaceT Tryz.prog 67 = false := nr (by kernel_rfl)
theorem pl_131 : placesOf Tryz.prog 131 = some [(0,1),(1,1)] := nr (by kernel_rfl)
theorem pl_34 : placesOf Tryz.prog 34 = some [(0,1),(1,1)] := nr (by kernel_rfl)
theorem pl_51 : placesOf Tryz.prog 51 = some [(0,1),(1,1),(2,1),(3,1),(4,1),(5,1),(6,1),(7,1)] := nr (by kernel_rfl)
theorem se_32 : slElem Tryz.prog 32 = some (51,8) := nr (by kernel_rfl)
theorem sl_113 : isSliceT Tryz.prog 113 = true := nr (by kernel_rfl)
theorem sz_113 (w : World) (b o : Nat) (v : Value) : storeOf Tryz.prog 113 w ⟨b,o,none⟩ v = (blk w b).bind fun x => stO w b o v x 1 := storeOf_n (by kernel_rfl) w b o v
theorem sz_131 (w : World) (b o : Nat) (v : Value) : storeOf Tryz.prog 131 w ⟨b,o,none⟩ v = (blk w b).bind fun x => stO w b o v x 2 := storeOf_n (by kernel_rfl) w b o v
theorem sz_34 (w : World) (b o : Nat) (v : Value) : storeOf Tryz.prog 34 w ⟨b,o,none⟩ v = (blk w b).bind fun x => stO w b o v x 2 := storeOf_n (by kernel_rfl) w b o v
theorem sz_45 (w : World) (b o : Nat) (v : Value) : storeOf Tryz.prog 45 w ⟨b,o,none⟩ v = (blk w b).bind fun x => stO w b o v x 1 := storeOf_n (by kernel_rfl) w b o v
theorem z_115 : zeroOf Tryz.prog 115 = some #[.int .i16 0,.slice none 0 0,.bool false,.map none] := nr (by kernel_rfl)
theorem z_131 : zeroOf Tryz.prog 131 = some #[.slice none 0 0,.bool false] := nr (by kernel_rfl)
theorem z_34 : zeroOf Tryz.prog 34 = some #[.slice none 0 0,.int .i64 0] := nr (by kernel_rfl)
attribute [go_sem] ca_115 ca_116 ca_12 ca_129 ca_13 ca_130 ca_131 ca_132 ca_139 ca_144 ca_145 ca_146 ca_147 ca_153 ca_16 ca_17 ca_191 ca_192 ca_196 ca_197 ca_20 ca_21 ca_239 ca_34 ca_35 ca_36 ca_53 ca_74 ca_75 ca_76 ca_77 es_113 fo_115_0 fo_115_1 fo_115_2 fo_115_3 if_55 kn_67 kn_9 ld_113 ld_23 ld_34 ld_45 nif_67 pl_131 pl_34 pl_51 se_32 sl_113 sz_113 sz_131 sz_34 sz_45 z_115 z_131 z_34
end Ms

namespace Ms
open Go.World renaming size_alloc → qI
open Ms renaming size_wr → qJ,size_drew → qK,not_noB → qL
open W renaming seqR → qA,seq → qB,regR → qC,condK → qD,block → qE,skip → qF,ret → qG,exit → qH
open Nat renaming reduceEqDiff → n0,reduceAdd → n1,reduceMul → n2,reduceSub → n3,reduceLT → n4,reduceLeDiff → n5
open Int renaming reduceEq → i0,reduceLT → i1,reduceLE → i2,reduceNeg → i3,reduceAdd → i4,reduceSub → i5,reduceMul → i6,reduceToNat → i7
set_option maxRecDepth 8000
open Go Go.Proofs Go.Shelf
attribute [local congr] W_congr WPsq_congr WPp_congr optK_congr addrK_congr intK_congr boolK_congr sliceK_congr tupleK_congr funcK_congr Fn_congr rawK_congr takeK_congr stepK_congr convK_congr aggK_congr

def fShareGroupDescribeRequest_0 : Fld := .mk 11 0 (-1) (-1) (-1) 0 8 []
def fShareGroupDescribeRequest_1 : Fld := .mk 0 0 (-1) (-1) (-1) 0 0 []
def fs_ShareGroupDescribeRequest : List Fld := [fShareGroupDescribeRequest_0,fShareGroupDescribeRequest_1]

set_option maxHeartbeats 4000000 in
theorem cShareGroupDescribeRequest_fn (w : World) : Fn Tryz.prog 35 #[] w fun r w' => (∃ vs,r = .agg #[vs,.int .i64 0] ∧ FldsV (fun b => w.heap.size ≤ b) w' vs fs_ShareGroupDescribeRequest) ∧ Ext w w' := by
  refine fn_of_W Tryz.func35 rfl Tryz.results35 Tryz.ntmps35 rfl ?_
  repeat ((first | refine qA rfl ?_|refine qB ?_|refine qC rfl ?_|refine qD ?_|refine qE ?_|refine qF ?_|refine qG ?_|refine qH ?_);try simp (maxSteps:=1000000)(disch:=(first|omega|(simp only [qI,qJ,qK]<;>omega)|exact qL _)) only [go_sem,↓reduceIte,n0,reduceCtorEq,n1,n2,n3,n4,n5,i0,i1,i2,i3,i4,i5,i6,i7,fill_fld,fillN_nil,fillN_int,fillN_slice])
  have hz0 : (w.alloc (.cells #[.slice none 0 0,.int .i64 0] 34)).heap.size = w.heap.size + 1 := World.size_alloc _ _
  repeat ((first | refine qA rfl ?_|refine qB ?_|refine qC rfl ?_|refine qD ?_|refine qE ?_|refine qF ?_|refine qG ?_|refine qH ?_);try simp (maxSteps:=1000000)(disch:=(first|omega|(simp only [qI,qJ,qK]<;>omega)|exact qL _)) only [go_sem,↓reduceIte,n0,reduceCtorEq,n1,n2,n3,n4,n5,i0,i1,i2,i3,i4,i5,i6,i7,fill_fld,fillN_nil,fillN_int,fillN_slice])
  exact ⟨⟨_,rfl,FldsV.litO (fs := fs_ShareGroupDescribeRequest) (css := [[.int .i64 11,.int .i64 0,.int .i64 (-1),.int .i64 (-1),.int .i64 (-1),.int .i64 0,.int .i64 8,.slice none 0 0],[.int .i64 0,.int .i64 0,.int .i64 (-1),.int .i64 (-1),.int .i64 (-1),.int .i64 0,.int .i64 0,.slice none 0 0]]) (T := 51) (fr := (0,0)) (by first | omega | (simp only [World.size_alloc];omega)) (by first | (simp (maxSteps:=1000000)(disch:=(first|omega|(simp only [qI,qJ,qK]<;>omega)|exact qL _)) only [go_sem,↓reduceIte,n0,reduceCtorEq,n1,n2,n3,n4,n5,i0,i1,i2,i3,i4,i5,i6,i7];rfl) | rfl) (by simp) (All2.cons (FldC.intro (kind := 11) (FldsV.none _ _)) (All2.cons (FldC.intro (kind := 0) (FldsV.none _ _)) All2.nil))⟩,(Upd.wr (Upd.alloc (Upd.alloc (Upd.refl _ _) _) _) _ _ (.inl (Nat.le_refl _)))⟩

theorem DefaultShareGroupDescribeRequest_fn (w : World) {vb : Nat} {c0 c1 c2 c3 : Value} (hb : blk w vb = some (#[c0,c1,c2,c3],115,(0,0))) :
    Fn Tryz.prog 115 #[.pointer (some ⟨vb,0,none⟩)] w fun _ w' => blk w' vb = some (#[c0,c1,c2,c3],115,(0,0)) ∧ Upd (fun b => b = vb) w w' := by
  have hvl := blk_lt hb
  refine fn_of_W Tryz.func115 rfl Tryz.results115 Tryz.ntmps115 rfl ?_
  repeat ((first | refine qA rfl ?_|refine qB ?_|refine qC rfl ?_|refine qD ?_|refine qE ?_|refine qF ?_|refine qG ?_|refine qH ?_);try simp (maxSteps:=1000000)(disch:=(first|omega|(simp only [qI,qJ,qK]<;>omega)|exact qL _)) only [go_sem,↓reduceIte,n0,reduceCtorEq,n1,n2,n3,n4,n5,i0,i1,i2,i3,i4,i5,i6,i7,hb])
  first | exact Upd.refl _ _ | exact ⟨hb,Upd.refl _ _⟩

theorem NewPtrShareGroupDescribeRequest_fn (w : World) : Fn Tryz.prog 74 #[] w fun r w' => r = .pointer (some ⟨w.heap.size,0,none⟩) ∧ blk w' w.heap.size = some (#[.int .i16 0,.slice none 0 0,.bool false,.map none],115,(0,0)) ∧ Ext w w' := by
  refine fn_of_W Tryz.func74 rfl Tryz.results74 Tryz.ntmps74 rfl ?_
  repeat ((first | refine qA rfl ?_|refine qB ?_|refine qC rfl ?_|refine qD ?_|refine qE ?_|refine qF ?_|refine qG ?_|refine qH ?_);try simp (maxSteps:=1000000)(disch:=(first|omega|(simp only [qI,qJ,qK]<;>omega)|exact qL _)) only [go_sem,↓reduceIte,n0,reduceCtorEq,n1,n2,n3,n4,n5,i0,i1,i2,i3,i4,i5,i6,i7])
  refine (DefaultShareGroupDescribeRequest_fn _ (blk_alloc_new rfl)).mono ?_
  rintro _ w1 ⟨hb1,hU1⟩
  have hz := World.size_alloc w (.cells #[.int .i16 0,.slice none 0 0,.bool false,.map none] 115)
  repeat ((first | refine qA rfl ?_|refine qB ?_|refine qC rfl ?_|refine qD ?_|refine qE ?_|refine qF ?_|refine qG ?_|refine qH ?_);try simp (maxSteps:=1000000)(disch:=(first|omega|(simp only [qI,qJ,qK]<;>omega)|exact qL _)) only [go_sem,↓reduceIte,n0,reduceCtorEq,n1,n2,n3,n4,n5,i0,i1,i2,i3,i4,i5,i6,i7])
  exact ⟨hb1,(Upd.alloc (Upd.refl _ _) _ : Ext w _).more hU1 fun b hb h => by omega⟩

theorem SetVersionShareGroupDescribeRequest_fn (w : World) {vb : Nat} {c0 c1 c2 c3 : Value} (n : Int) (hb : blk w vb = some (#[c0,c1,c2,c3],115,(0,0))) :
    Fn Tryz.prog 76 #[.pointer (some ⟨vb,0,none⟩),.int .i16 n] w fun _ w' => blk w' vb = some (#[.int .i16 n,c1,c2,c3],115,(0,0)) ∧ Upd (fun b => b = vb) w w' := by
  have hvl := blk_lt hb
  refine fn_of_W Tryz.func76 rfl Tryz.results76 Tryz.ntmps76 rfl ?_
  repeat ((first | refine qA rfl ?_|refine qB ?_|refine qC rfl ?_|refine qD ?_|refine qE ?_|refine qF ?_|refine qG ?_|refine qH ?_);try simp (maxSteps:=1000000)(disch:=(first|omega|(simp only [qI,qJ,qK]<;>omega)|exact qL _)) only [go_sem,↓reduceIte,n0,reduceCtorEq,n1,n2,n3,n4,n5,i0,i1,i2,i3,i4,i5,i6,i7,hb])
  first | exact Upd.wr (Upd.refl _ _) _ _ (.inr rfl) | exact ⟨by simp (maxSteps:=1000000)(disch:=(first|omega|(simp only [qI,qJ,qK]<;>omega)|exact qL _)) only [go_sem,↓reduceIte,n0,reduceCtorEq,n1,n2,n3,n4,n5,i0,i1,i2,i3,i4,i5,i6,i7,hb],Upd.wr (Upd.refl _ _) _ _ (.inr rfl)⟩

theorem MaxShareGroupDescribeRequest_fn (w : World) : Fn Tryz.prog 34 #[] w fun r w' => r = .int .i64 1 ∧ Ext w w' := by
  refine fn_of_W Tryz.func34 rfl Tryz.results34 Tryz.ntmps34 rfl ?_
  repeat ((first | refine qA rfl ?_|refine qB ?_|refine qC rfl ?_|refine qD ?_|refine qE ?_|refine qF ?_|refine qG ?_|refine qH ?_);try simp (maxSteps:=1000000)(disch:=(first|omega|(simp only [qI,qJ,qK]<;>omega)|exact qL _)) only [go_sem,↓reduceIte,n0,reduceCtorEq,n1,n2,n3,n4,n5,i0,i1,i2,i3,i4,i5,i6,i7])
  refine (NewPtrShareGroupDescribeRequest_fn w).mono ?_
  rintro _ w1 ⟨rfl,hb1,hE1⟩
  repeat ((first | refine qA rfl ?_|refine qB ?_|refine qC rfl ?_|refine qD ?_|refine qE ?_|refine qF ?_|refine qG ?_|refine qH ?_);try simp (maxSteps:=1000000)(disch:=(first|omega|(simp only [qI,qJ,qK]<;>omega)|exact qL _)) only [go_sem,↓reduceIte,n0,reduceCtorEq,n1,n2,n3,n4,n5,i0,i1,i2,i3,i4,i5,i6,i7])
  have hm : Fn Tryz.prog 75 #[.pointer (some ⟨w.heap.size,0,none⟩)] w1 fun r w' => r = .int .i16 1 ∧ w' = w1 := by
    refine fn_of_W Tryz.func75 rfl Tryz.results75 Tryz.ntmps75 rfl ?_
    repeat ((first | refine qA rfl ?_|refine qB ?_|refine qC rfl ?_|refine qD ?_|refine qE ?_|refine qF ?_|refine qG ?_|refine qH ?_);try simp (maxSteps:=1000000)(disch:=(first|omega|(simp only [qI,qJ,qK]<;>omega)|exact qL _)) only [go_sem,↓reduceIte,n0,reduceCtorEq,n1,n2,n3,n4,n5,i0,i1,i2,i3,i4,i5,i6,i7])
  refine hm.mono ?_
  rintro _ w2 ⟨rfl,rfl⟩
  have ew : IntKind.i64.wrap (1 : Int) = 1 := i64_wrap (by decide)
  repeat ((first | refine qA rfl ?_|refine qB ?_|refine qC rfl ?_|refine qD ?_|refine qE ?_|refine qF ?_|refine qG ?_|refine qH ?_);try simp (maxSteps:=1000000)(disch:=(first|omega|(simp only [qI,qJ,qK]<;>omega)|exact qL _)) only [go_sem,↓reduceIte,n0,reduceCtorEq,n1,n2,n3,n4,n5,i0,i1,i2,i3,i4,i5,i6,i7,ew])
  exact hE1
end Ms

namespace Ms
open Nat renaming reduceEqDiff → n0,reduceAdd → n1,reduceMul → n2,reduceSub → n3,reduceLT → n4,reduceLeDiff → n5
open Int renaming reduceEq → i0,reduceLT → i1,reduceLE → i2,reduceNeg → i3,reduceAdd → i4,reduceSub → i5,reduceMul → i6,reduceToNat → i7
set_option maxRecDepth 8000
open Go Go.Proofs Go.Shelf
attribute [local congr] W_congr WPsq_congr WPp_congr optK_congr addrK_congr intK_congr boolK_congr sliceK_congr tupleK_congr funcK_congr Fn_congr rawK_congr takeK_congr stepK_congr convK_congr aggK_congr

theorem utShareGroupDescribeRequest_113 : Tryz.prog.underlying 113 = some (.slice 9) := by kernel_rfl
theorem utShareGroupDescribeRequest_21 : Tryz.prog.underlying 21 = some (.int .i32) := by kernel_rfl
theorem inShareGroupDescribeRequest_9 : (Tryz.prog.info? 9).map (fun i => (i.size,i.bytes,i.zero.map (·.cells))) = some (1,16,some #[.string ByteArray.empty]) := by kernel_rfl
end Ms

namespace Ms
open Go.World renaming size_alloc → qI
open Ms renaming size_wr → qJ,size_drew → qK,not_noB → qL
open W renaming seqR → qA,seq → qB,regR → qC,condK → qD,block → qE,skip → qF,ret → qG,exit → qH
open Nat renaming reduceEqDiff → n0,reduceAdd → n1,reduceMul → n2,reduceSub → n3,reduceLT → n4,reduceLeDiff → n5
open Int renaming reduceEq → i0,reduceLT → i1,reduceLE → i2,reduceNeg → i3,reduceAdd → i4,reduceSub → i5,reduceMul → i6,reduceToNat → i7
set_option maxRecDepth 8000
open Go Go.Proofs Go.Shelf
attribute [local congr] W_congr WPsq_congr WPp_congr optK_congr addrK_congr intK_congr boolK_congr sliceK_congr tupleK_congr funcK_congr Fn_congr rawK_congr takeK_congr stepK_congr convK_congr aggK_congr

set_option maxHeartbeats 4000000 in
theorem readShareGroupDescribeRequest_0 {d : Nat} {ok : Blocks} {ver : Int} {ev : Value} (hlo : 0 ≤ ver) (hhi : ver ≤ 1) (w : World) {vb : Nat} (src : Value) (s : List UInt8) (hv : blk w vb = some (#[.int .i16 ver,.slice none 0 0,.bool false,.map none],115,(0,0))) (hsrc : BytesV ok w src s) (hok0 : ∀ b,ok b → b < w.heap.size ∧ b ≠ vb) (hG : Glo ev w) (hgv : ¬ 1 = vb ∧ ¬ 0 = vb) :
    Fn Tryz.prog 116 #[.pointer (some ⟨vb,0,none⟩),src,.bool false] w (ReadQ 115 ok ver (d + 1) fs_ShareGroupDescribeRequest vb w (rdP (d + 1) ver true fs_ShareGroupDescribeRequest (some s)) ev) := by
  have hvl := blk_lt hv
  have hgs := hG.lt
  obtain ⟨sa,sc,rfl,_⟩ := hsrc.shape
  refine fn_of_W Tryz.func116 rfl Tryz.results116 Tryz.ntmps116 rfl ?_
  repeat ((first | refine qA rfl ?_|refine qB ?_|refine qC rfl ?_|refine qD ?_|refine qE ?_|refine qF ?_|refine qG ?_|refine qH ?_);try simp (maxSteps:=1000000)(disch:=(first|omega|(simp only [qI,qJ,qK]<;>omega)|exact qL _)) only [go_sem,↓reduceIte,n0,reduceCtorEq,n1,n2,n3,n4,n5,i0,i1,i2,i3,i4,i5,i6,i7,hv])
  refine (DefaultShareGroupDescribeRequest_fn w hv).mono ?_
  rintro _ w0 ⟨hv0,hu0⟩
  have hz0 := hu0.size
  have hsrc0 : BytesV ok w0 (.slice sa s.length sc) s := hsrc.keep (hu0.keeps fun b _ hk e => (hok0 b hk).2 e)
  obtain ⟨rb,hrb⟩ : ∃ r,r = w0.heap.size := ⟨_,rfl⟩
  have hE1 : Ext w0 (wr (w0.alloc (.cells #[.slice none 0 0,.bool false] 131)) w0.heap.size 0 [.slice sa s.length sc,.bool false]) := (Upd.alloc (Upd.refl _ _) _).wr _ _ (.inl (Nat.le_refl _))
  have hz1 : (wr (w0.alloc (.cells #[.slice none 0 0,.bool false] 131)) w0.heap.size 0 [.slice sa s.length sc,.bool false]).heap.size = w0.heap.size + 1 := by rw [size_wr,World.size_alloc]
  have hR1 : Rdr RT ok (wr (w0.alloc (.cells #[.slice none 0 0,.bool false] 131)) w0.heap.size 0 [.slice sa s.length sc,.bool false]) w0.heap.size (some s) := Rdr.good (v := .slice sa s.length sc) (by simp (maxSteps:=1000000)(disch:=(first|omega|(simp only [qI,qJ,qK]<;>omega)|exact qL _)) only [go_sem,↓reduceIte,n0,reduceCtorEq,n1,n2,n3,n4,n5,i0,i1,i2,i3,i4,i5,i6,i7]) (hsrc0.keep (hE1.keeps _))
  have hv_1 := hE1.blk_some hv0 id
  repeat ((first | refine qA rfl ?_|refine qB ?_|refine qC rfl ?_|refine qD ?_|refine qE ?_|refine qF ?_|refine qG ?_|refine qH ?_);try simp (maxSteps:=1000000)(disch:=(first|omega|(simp only [qI,qJ,qK]<;>omega)|exact qL _)) only [go_sem,↓reduceIte,n0,reduceCtorEq,n1,n2,n3,n4,n5,i0,i1,i2,i3,i4,i5,i6,i7,hv0])
  generalize (wr (w0.alloc (.cells #[.slice none 0 0,.bool false] 131)) w0.heap.size 0 [.slice sa s.length sc,.bool false]) = w1 at *
  rw [← hrb] at hR1
  try rw [← hrb]
  have hok : ∀ b,ok b → b < w.heap.size ∧ b ≠ vb := hok0
  have hrok : ¬ ok rb := fun h => by have := (hok rb h).1;omega
  have hbase : Upd (fun b => b = vb) w w1 := hu0.trans (hE1.mono fun _ h => h.elim)
  have hG1 : Glo ev w1 := hG.updS hbase hgv.1 hgv.2
  have hgrb : ¬ 1 = rb := by omega
  have hgM1 : ¬ (1 = vb ∨ 1 = rb) := fun h => h.elim hgv.1 fun h => by omega
  have hgM2 : ¬ (0 = vb ∨ 0 = rb) := fun h => h.elim hgv.2 fun h => by omega
  obtain ⟨s0,hs0⟩ : ∃ s' : St,s' = some s := ⟨_,rfl⟩
  rw [← hs0] at hR1 ⊢
  have hU1 : Upd (fun b => b = vb ∨ b = rb) w1 w1 := Upd.refl _ _
  have hoM : ∀ b,(ok b ∨ w1.heap.size ≤ b) → ¬ (b = vb ∨ b = rb) := fun b hk h => by
    rcases hk with hk | hk
    · have := hok b hk;rcases h with h | h <;> omega
    · rcases h with h | h <;> omega
  have hq1 : Rdr RT ok w1 rb s0 := hR1
  obtain ⟨FB,hFB⟩ : ∃ P : Prop,P = ((rdP (d + 1) ver true fs_ShareGroupDescribeRequest s0).2 = none) := ⟨_,rfl⟩
  have hb_0 : (rdL (rdP d ver true) (dfP d) ver true [fShareGroupDescribeRequest_0,fShareGroupDescribeRequest_1] s0).2 = none → FB := fun h => Eq.mpr hFB (rdP_bad h)
  have hh_0 : hasS fShareGroupDescribeRequest_0 ver = true := hasS_t (by show (0 : Int) ≤ ver;omega) (by show (-1 : Int) < 0 ∨ ver ≤ (-1 : Int);omega)
  obtain ⟨x_0,hx_0⟩ : ∃ x,x = (rdF (rdP d ver true) ver true fShareGroupDescribeRequest_0 s0).1 := ⟨_,rfl⟩
  repeat ((first | refine qA rfl ?_|refine qB ?_|refine qC rfl ?_|refine qD ?_|refine qE ?_|refine qF ?_|refine qG ?_|refine qH ?_);try simp (maxSteps:=1000000)(disch:=(first|omega|(simp only [qI,qJ,qK]<;>omega)|exact qL _)) only [go_sem,↓reduceIte,n0,reduceCtorEq,n1,n2,n3,n4,n5,i0,i1,i2,i3,i4,i5,i6,i7,hv_1])
  refine (RCompactArrayLen_fn w1 hq1 hrok hG1.1 hgrb).mono ?_
  rintro _ w2 ⟨rfl,hq2,hu2⟩
  have hv_2 := hu2.blk_some hv_1 (by omega)
  have hV2 : Upd (fun b => b = vb ∨ b = rb) w1 w2 := hu2.mono (fun _ h => .inr h)
  have hU2 : Upd (fun b => b = vb ∨ b = rb) w1 w2 := hU1.trans hV2
  have hz2 := hV2.size
  have hG2 : Glo ev w2 := hG1.updS hU2 hgM1 hgM2
  obtain ⟨s1,hs1⟩ : ∃ s,s = (rdALen true s0).2 := ⟨_,rfl⟩
  rw [← hs1] at hq2
  have hyr0 := rdALen_rng true s0
  generalize hy0 : (rdALen true s0).1 = y0 at *
  obtain ⟨N0,hN0⟩ : ∃ N,N = y0.toNat := ⟨_,rfl⟩
  have hlb0 : (rdMany (rd1 (rdP d ver true) fShareGroupDescribeRequest_0.of fShareGroupDescribeRequest_0.sub false true) N0 s1).2 = none → FB := fun h => hb_0 (by rw [rdL_st (by decide) hh_0];exact rdL_bad (rdF_listbad rfl (by rw [hy0,← hN0,← hs1];exact h)))
  repeat ((first | refine W.seqR rfl ?_ | refine W.seq ?_ | refine W.regR rfl ?_ | refine W.block ?_ | refine W.skip ?_ | refine W.ret ?_ | refine W.exit ?_);try simp (maxSteps:=1000000)(disch:=(first|omega|(simp only [qI,qJ,qK]<;>omega)|exact qL _)) only [go_sem,↓reduceIte,n0,reduceCtorEq,n1,n2,n3,n4,n5,i0,i1,i2,i3,i4,i5,i6,i7,hv_2])
  refine (ROk_fn w2 hq2.1).mono ?_
  rintro _ wz ⟨rfl,hez⟩
  rw [hez]
  clear hez wz
  by_cases hsn0 : s1 = none
  · have hso : s1.isSome = false := by rw [hsn0];rfl
    try simp (maxSteps:=1000000)(disch:=(first|omega|(simp only [qI,qJ,qK]<;>omega)|exact qL _)) only [go_sem,↓reduceIte,n0,reduceCtorEq,n1,n2,n3,n4,n5,i0,i1,i2,i3,i4,i5,i6,i7,hv_2,hso]
    repeat ((first | refine qA rfl ?_|refine qB ?_|refine qC rfl ?_|refine qD ?_|refine qE ?_|refine qF ?_|refine qG ?_|refine qH ?_);try simp (maxSteps:=1000000)(disch:=(first|omega|(simp only [qI,qJ,qK]<;>omega)|exact qL _)) only [go_sem,↓reduceIte,n0,reduceCtorEq,n1,n2,n3,n4,n5,i0,i1,i2,i3,i4,i5,i6,i7,hv_2,hso])
    refine (RComplete_fn w2 hq2.1 hG2.2).mono ?_
    rintro _ wz ⟨rfl,hez⟩
    rw [hez]
    try simp (maxSteps:=1000000)(disch:=(first|omega|(simp only [qI,qJ,qK]<;>omega)|exact qL _)) only [go_sem,↓reduceIte,n0,reduceCtorEq,n1,n2,n3,n4,n5,i0,i1,i2,i3,i4,i5,i6,i7,hv_2]
    repeat ((first | refine qA rfl ?_|refine qB ?_|refine qC rfl ?_|refine qD ?_|refine qE ?_|refine qF ?_|refine qG ?_|refine qH ?_);try simp (maxSteps:=1000000)(disch:=(first|omega|(simp only [qI,qJ,qK]<;>omega)|exact qL _)) only [go_sem,↓reduceIte,n0,reduceCtorEq,n1,n2,n3,n4,n5,i0,i1,i2,i3,i4,i5,i6,i7,hv_2])
    rw [errV_none hsn0]
    exact ReadQ.bad (Eq.mp hFB (hlb0 (by rw [hsn0];exact rdMany_none rd1P_none _))) (hbase.trans' hU2 fun i hi h => h.elim id fun h => by omega)
  have hso0 : s1.isSome = true := isSome_some hsn0
  try simp (maxSteps:=1000000)(disch:=(first|omega|(simp only [qI,qJ,qK]<;>omega)|exact qL _)) only [go_sem,↓reduceIte,n0,reduceCtorEq,n1,n2,n3,n4,n5,i0,i1,i2,i3,i4,i5,i6,i7,hv_2,hso0]
  repeat ((first | refine W.seqR rfl ?_ | refine W.seq ?_ | refine W.regR rfl ?_ | refine W.block ?_ | refine W.skip ?_ | refine W.ret ?_ | refine W.exit ?_);try simp (maxSteps:=1000000)(disch:=(first|omega|(simp only [qI,qJ,qK]<;>omega)|exact qL _)) only [go_sem,↓reduceIte,n0,reduceCtorEq,n1,n2,n3,n4,n5,i0,i1,i2,i3,i4,i5,i6,i7,hv_2,hso0])
  refine W.condK ?_
  try simp (maxSteps:=1000000)(disch:=(first|omega|(simp only [qI,qJ,qK]<;>omega)|exact qL _)) only [go_sem,↓reduceIte,n0,reduceCtorEq,n1,n2,n3,n4,n5,i0,i1,i2,i3,i4,i5,i6,i7,hv_2,hso0]
  repeat ((first | refine W.seqR rfl ?_ | refine W.seq ?_ | refine W.regR rfl ?_ | refine W.block ?_ | refine W.skip ?_ | refine W.ret ?_ | refine W.exit ?_);try simp (maxSteps:=1000000)(disch:=(first|omega|(simp only [qI,qJ,qK]<;>omega)|exact qL _)) only [go_sem,↓reduceIte,n0,reduceCtorEq,n1,n2,n3,n4,n5,i0,i1,i2,i3,i4,i5,i6,i7,hv_2,hso0,slBase_00])
  refine W.normJ (RowQ [(2,.bool false),(7,.pointer (some ⟨rb,0,none⟩)),(8,.int .i16 ver),(9,.bool true),(10,.pointer (some ⟨vb,0,none⟩)),(13,.int .i32 y0)] 12 (fun va w' => LstI RT (rd1 (rdP d ver true) fShareGroupDescribeRequest_0.of fShareGroupDescribeRequest_0.sub false true) (Rep1 (RepS true d) fShareGroupDescribeRequest_0.of fShareGroupDescribeRequest_0.sub) 1 9 [.string ByteArray.empty] w2.heap.size N0 ok (fun b => ok b ∨ w1.heap.size ≤ b) rb w2 s1 va 0 s1 [] [] w' ∧ (N0 = 0 → if nilS fShareGroupDescribeRequest_0 ver y0 = true then va = .slice none 0 0 else ∃ a,va = .slice (some a) 0 0))) ?_ ?_
  · by_cases hy0 : (0 : Int) < y0
    · have hyv : Value.int .i32 y0 = .int .i32 ((N0 : Nat) : Int) := by rw [show y0 = ((N0 : Nat) : Int) by omega]
      repeat ((first | refine qA rfl ?_|refine qB ?_|refine qC rfl ?_|refine qD ?_|refine qE ?_|refine qF ?_|refine qG ?_|refine qH ?_);try simp (maxSteps:=1000000)(disch:=(first|omega|(simp only [qI,qJ,qK]<;>omega)|exact qL _)) only [go_sem,↓reduceIte,n0,reduceCtorEq,n1,n2,n3,n4,n5,i0,i1,i2,i3,i4,i5,i6,i7,hv_2])
      refine wp_appendZ (m := N0) utShareGroupDescribeRequest_113 utShareGroupDescribeRequest_21 inShareGroupDescribeRequest_9 (by decide) (by first | rfl | simp (maxSteps:=1000000)(disch:=(first|omega|(simp only [qI,qJ,qK]<;>omega)|exact qL _)) only [go_sem,↓reduceIte,n0,reduceCtorEq,n1,n2,n3,n4,n5,i0,i1,i2,i3,i4,i5,i6,i7]) (by first | exact hyv | (simp (maxSteps:=1000000)(disch:=(first|omega|(simp only [qI,qJ,qK]<;>omega)|exact qL _)) only [go_sem,↓reduceIte,n0,reduceCtorEq,n1,n2,n3,n4,n5,i0,i1,i2,i3,i4,i5,i6,i7];exact hyv)) (by omega) (by omega) (by decide) ?_
      intro q rest hq1
      have hEw : Ext w2 (w2.drew.alloc (.cells (zs [.string ByteArray.empty] N0 ++ rest).toArray 9)) := (Upd.refl _ _).drew.alloc _
      try simp (maxSteps:=1000000)(disch:=(first|omega|(simp only [qI,qJ,qK]<;>omega)|exact qL _)) only [go_sem,↓reduceIte,n0,reduceCtorEq,n1,n2,n3,n4,n5,i0,i1,i2,i3,i4,i5,i6,i7,hv_2]
      repeat ((first | refine qA rfl ?_|refine qB ?_|refine qC rfl ?_|refine qD ?_|refine qE ?_|refine qF ?_|refine qG ?_|refine qH ?_);try simp (maxSteps:=1000000)(disch:=(first|omega|(simp only [qI,qJ,qK]<;>omega)|exact qL _)) only [go_sem,↓reduceIte,n0,reduceCtorEq,n1,n2,n3,n4,n5,i0,i1,i2,i3,i4,i5,i6,i7,hv_2])
      exact ⟨(by simp (maxSteps:=1000000)(disch:=(first|omega|(simp only [qI,qJ,qK]<;>omega)|exact qL _)) only [go_sem,↓reduceIte,n0,reduceCtorEq,n1,n2,n3,n4,n5,i0,i1,i2,i3,i4,i5,i6,i7,Holds_nil,Holds_cons]),.slice (some ⟨w2.heap.size,0,none⟩) N0 q,(by simp (maxSteps:=1000000)(disch:=(first|omega|(simp only [qI,qJ,qK]<;>omega)|exact qL _)) only [go_sem,↓reduceIte,n0,reduceCtorEq,n1,n2,n3,n4,n5,i0,i1,i2,i3,i4,i5,i6,i7]),LstI.start (RowJ.start (by omega) hq1 (by show w2.heap.size ≤ w2.drew.heap.size;rw [size_drew];omega) (blk_alloc_new rfl)) ⟨hq2.1.upd hEw (fun h => h) (fun _ _ _ h => h),hq2.2.upd hEw fun h => h⟩ (hEw.mono fun _ h => h.elim),fun h0 => by omega⟩
    · repeat ((first | refine qA rfl ?_|refine qB ?_|refine qC rfl ?_|refine qD ?_|refine qE ?_|refine qF ?_|refine qG ?_|refine qH ?_);try simp (maxSteps:=1000000)(disch:=(first|omega|(simp only [qI,qJ,qK]<;>omega)|exact qL _)) only [go_sem,↓reduceIte,n0,reduceCtorEq,n1,n2,n3,n4,n5,i0,i1,i2,i3,i4,i5,i6,i7,hv_2])
      exact ⟨(by simp (maxSteps:=1000000)(disch:=(first|omega|(simp only [qI,qJ,qK]<;>omega)|exact qL _)) only [go_sem,↓reduceIte,n0,reduceCtorEq,n1,n2,n3,n4,n5,i0,i1,i2,i3,i4,i5,i6,i7,Holds_nil,Holds_cons]),.slice none 0 0,(by simp (maxSteps:=1000000)(disch:=(first|omega|(simp only [qI,qJ,qK]<;>omega)|exact qL _)) only [go_sem,↓reduceIte,n0,reduceCtorEq,n1,n2,n3,n4,n5,i0,i1,i2,i3,i4,i5,i6,i7,slBase_00]),LstI.start (RowJ.zero (by omega) (fun _ h => by cases h)) hq2 (Upd.refl _ _),fun _ => by rw [nilS_plain (by decide) (by omega)];exact rfl⟩
  rintro ρ w3 ⟨⟨hrb0_2,hrb0_7,hrb0_8,hrb0_9,hrb0_10,hrb0_13,-⟩,va0,hra0,hL0,hnc0⟩
  repeat ((first | refine qA rfl ?_|refine qB ?_|refine qC rfl ?_|refine qD ?_|refine qE ?_|refine qF ?_|refine qG ?_|refine qH ?_);try simp (maxSteps:=1000000)(disch:=(first|omega|(simp only [qI,qJ,qK]<;>omega)|exact qL _)) only [go_sem,↓reduceIte,n0,reduceCtorEq,n1,n2,n3,n4,n5,i0,i1,i2,i3,i4,i5,i6,i7,hv_2,hrb0_2,hrb0_7,hrb0_8,hrb0_9,hrb0_10,hrb0_13,hra0,exitRQ_ret,exitRQ_exit,Int.toNat_natCast,Nat.mul_one])
  refine W.exitRJ 0 (EndQ [(2,.bool false),(7,.pointer (some ⟨rb,0,none⟩)),(8,.int .i16 ver),(9,.bool true),(10,.pointer (some ⟨vb,0,none⟩)),(13,.int .i32 y0),(12,va0)] (fun w' => ∃ s xs css,LstI RT (rd1 (rdP d ver true) fShareGroupDescribeRequest_0.of fShareGroupDescribeRequest_0.sub false true) (Rep1 (RepS true d) fShareGroupDescribeRequest_0.of fShareGroupDescribeRequest_0.sub) 1 9 [.string ByteArray.empty] w2.heap.size N0 ok (fun b => ok b ∨ w1.heap.size ≤ b) rb w2 s1 va0 N0 s xs css w')) (W.loop (LoopQ [(2,.bool false),(7,.pointer (some ⟨rb,0,none⟩)),(8,.int .i16 ver),(9,.bool true),(10,.pointer (some ⟨vb,0,none⟩)),(13,.int .i32 y0),(12,va0)] 14 (fun j w' => ∃ s xs css,LstI RT (rd1 (rdP d ver true) fShareGroupDescribeRequest_0.of fShareGroupDescribeRequest_0.sub false true) (Rep1 (RepS true d) fShareGroupDescribeRequest_0.of fShareGroupDescribeRequest_0.sub) 1 9 [.string ByteArray.empty] w2.heap.size N0 ok (fun b => ok b ∨ w1.heap.size ≤ b) rb w2 s1 va0 j s xs css w')) (fun ρ _ => N0 - (RowKit.intOf (ρ 14)).toNat) ?_ ?_) ?_
  · exact ⟨(by simp (maxSteps:=1000000)(disch:=(first|omega|(simp only [qI,qJ,qK]<;>omega)|exact qL _)) only [go_sem,↓reduceIte,n0,reduceCtorEq,n1,n2,n3,n4,n5,i0,i1,i2,i3,i4,i5,i6,i7,Holds_nil,Holds_cons,hrb0_2,hrb0_7,hrb0_8,hrb0_9,hrb0_10,hrb0_13,hra0]),0,(by simp (maxSteps:=1000000)(disch:=(first|omega|(simp only [qI,qJ,qK]<;>omega)|exact qL _)) only [go_sem,↓reduceIte,n0,reduceCtorEq,n1,n2,n3,n4,n5,i0,i1,i2,i3,i4,i5,i6,i7,hrb0_2,hrb0_7,hrb0_8,hrb0_9,hrb0_10,hrb0_13,hra0];all_goals rfl),s1,[],[],hL0⟩
  · rintro ρ w4 ⟨⟨hrc0_2,hrc0_7,hrc0_8,hrc0_9,hrc0_10,hrc0_13,hrc0_12,-⟩,j1,hri0,s2,xs0,css0,hL0⟩
    have hj0 := hL0.le
    have hq4 := hL0.rd
    have hU4 : Upd (fun b => b = vb ∨ b = rb) w1 w4 := hU2.trans' hL0.upd fun i _ h => .inr h
    have hz4 := hL0.upd.size
    have hG4 : Glo ev w4 := hG1.updS hU4 hgM1 hgM2
    by_cases hlt0 : j1 < N0
    · obtain ⟨R1,q1,B1,hva1,hNq1,hLR1,hA1,hx1_4,hnext1⟩ := hL0.row.next hlt0
      have hRl1 := blk_lt hx1_4
      generalize css0.flatten = A1 at hA1 hx1_4 hnext1
      rw [Nat.mul_one] at hA1
      replace hra0 : ρ 12 = .slice (some ⟨R1,0,none⟩) N0 q1 := hrc0_12.trans hva1
      have hown1 : ∀ b,ownB va0 b → w2.heap.size ≤ b ∧ b < w4.heap.size := fun b h => hL0.row.own h
      have hoM1 : ∀ b,(fun b => (ok b ∨ w1.heap.size ≤ b) ∧ ¬ ownB va0 b) b → ¬ (b = R1 ∨ b = rb) := fun b hk h => h.elim (fun e => hk.2 ⟨_,_,_,hva1,e⟩) (fun e => hoM b hk.1 (.inr e))
      obtain ⟨X4,hX4⟩ : ∃ X : Array Value,X = (A1 ++ (([.string ByteArray.empty] : List Value) ++ B1)).toArray := ⟨_,rfl⟩
      have hxb4 : blk w4 R1 = some (X4,9,(0,0)) := by rw [hX4];exact hx1_4
      have hXs4 : j1 + 1 ≤ X4.size := by rw [hX4];simp only [List.size_toArray,List.length_append,List.length_cons,List.length_nil,hA1];omega
      repeat ((first | refine qA rfl ?_|refine qB ?_|refine qC rfl ?_|refine qD ?_|refine qE ?_|refine qF ?_|refine qG ?_|refine qH ?_);try simp (maxSteps:=1000000)(disch:=(first|omega|(simp only [qI,qJ,qK]<;>omega)|exact qL _)) only [go_sem,↓reduceIte,n0,reduceCtorEq,n1,n2,n3,n4,n5,i0,i1,i2,i3,i4,i5,i6,i7,hxb4,hrc0_2,hrc0_7,hrc0_8,hrc0_9,hrc0_10,hrc0_13,hra0,hri0,exitRQ_ret,exitRQ_exit,Int.toNat_natCast,Nat.mul_one])
      refine (RCompactString_fn w4 hq4.1 hrok hG4.1 hgrb).mono ?_
      rintro _ w5 ⟨rfl,hq5,hu5⟩
      have hx1_5 := hu5.blk_some hx1_4 (by omega)
      have hV5 : Upd (fun b => b = R1 ∨ b = rb) w4 w5 := hu5.mono (fun _ h => .inr h)
      have hU5 : Upd (fun b => b = vb ∨ b = rb) w1 w5 := hU4.trans' hV5 fun i hi h => h.elim (fun h => by omega) .inr
      have hz5 := hV5.size
      have hG5 : Glo ev w5 := hG1.updS hU5 hgM1 hgM2
      obtain ⟨X5,hX5⟩ : ∃ X : Array Value,X = (A1 ++ (([.string ByteArray.empty] : List Value) ++ B1)).toArray := ⟨_,rfl⟩
      have hxb5 : blk w5 R1 = some (X5,9,(0,0)) := by rw [hX5];exact hx1_5
      have hXs5 : j1 + 1 ≤ X5.size := by rw [hX5];simp only [List.size_toArray,List.length_append,List.length_cons,List.length_nil,hA1];omega
      obtain ⟨s3,hs3⟩ : ∃ s,s = (rdStr true s2).2 := ⟨_,rfl⟩
      rw [← hs3] at hq5
      have hrE : (rd1 (rdP d ver true) fShareGroupDescribeRequest_0.of fShareGroupDescribeRequest_0.sub false true) s2 = ((.oct false (rdStr true s2).1),s3) := by rw [hs3];exact rd1_text
      have hst5_0 : j1 + 1 ≤ X5.size := by omega
      repeat ((first | refine qA rfl ?_|refine qB ?_|refine qC rfl ?_|refine qD ?_|refine qE ?_|refine qF ?_|refine qG ?_|refine qH ?_);try simp (maxSteps:=1000000)(disch:=(first|omega|(simp only [qI,qJ,qK]<;>omega)|exact qL _)) only [go_sem,↓reduceIte,n0,reduceCtorEq,n1,n2,n3,n4,n5,i0,i1,i2,i3,i4,i5,i6,i7,hxb5,hrc0_2,hrc0_7,hrc0_8,hrc0_9,hrc0_10,hrc0_13,hra0,hri0,exitRQ_ret,exitRQ_exit,Int.toNat_natCast,Nat.mul_one,hst5_0])
      generalize hw6 : wr w5 R1 (j1) [strV (rdStr true s2).1] = w6
      have hS6 : Upd (fun b => b = R1 ∨ b = rb) w5 w6 := by rw [← hw6];exact (Upd.refl _ _).wr _ _ (.inr (.inl rfl))
      have hx1_6 : blk w6 R1 = some ((A1 ++ (([strV (rdStr true s2).1] : List Value) ++ B1)).toArray,9,(0,0)) := by rw [← hw6];exact el_blk0 hx1_5 hA1 (Nat.le_of_ble_eq_true rfl)
      have hV6 := hS6
      have hU6 : Upd (fun b => b = vb ∨ b = rb) w1 w6 := hU5.trans' hV6 fun i hi h => h.elim (fun h => by omega) .inr
      have hz6 := hV6.size
      have hG6 : Glo ev w6 := hG1.updS hU6 hgM1 hgM2
      have hq6 : Rdr RT ok w6 rb s3 ∧ NN w6 rb s3 := by
        have hn : ∀ x,x = w6 → (Rdr RT ok x rb s3 ∧ NN x rb s3) := fun x hx => by
          rw [hx,← hw6]
          exact Rdr.store hq5 (by omega) (fun h => by have := (hok _ h).1;first | omega | exact (hok _ h).2 rfl)
        exact hn _ rfl
      obtain ⟨X6,hX6⟩ : ∃ X : Array Value,X = (A1 ++ (([strV (rdStr true s2).1] : List Value) ++ B1)).toArray := ⟨_,rfl⟩
      have hxb6 : blk w6 R1 = some (X6,9,(0,0)) := by rw [hX6];exact hx1_6
      have hXs6 : j1 + 1 ≤ X6.size := by rw [hX6];simp only [List.size_toArray,List.length_append,List.length_cons,List.length_nil,hA1];omega
      clear hw6
      have hxE : (Rep1 (RepS true d) fShareGroupDescribeRequest_0.of fShareGroupDescribeRequest_0.sub) (fun b => (ok b ∨ w1.heap.size ≤ b) ∧ ¬ ownB va0 b) w6 (.oct false (rdStr true s2).1) [strV (rdStr true s2).1] := Rep1_text.2 rfl
      repeat ((first | refine qA rfl ?_|refine qB ?_|refine qC rfl ?_|refine qD ?_|refine qE ?_|refine qF ?_|refine qG ?_|refine qH ?_);try simp (maxSteps:=1000000)(disch:=(first|omega|(simp only [qI,qJ,qK]<;>omega)|exact qL _)) only [go_sem,↓reduceIte,n0,reduceCtorEq,n1,n2,n3,n4,n5,i0,i1,i2,i3,i4,i5,i6,i7,hxb6,hrc0_2,hrc0_7,hrc0_8,hrc0_9,hrc0_10,hrc0_13,hra0,hri0,exitRQ_ret,exitRQ_exit,Int.toNat_natCast,Nat.mul_one])
      have hTk : Upd (fun b => b = R1 ∨ b = rb) w4 w6 := (hV5.trans hV6)
      have hL' := hL0.step (Rep1_lay _ _ fun _ => RepS_lay true _ _) hlt0 (hnext1 w6 [strV (rdStr true s2).1] rfl hx1_6) (by rw [hrE];exact hxE) (hTk.mono fun b h => h.imp (fun e => ⟨_,_,_,hva1,e⟩) id) (by rw [hrE];exact hq6) (fun h => hoM rb h (.inr rfl)) (Nat.le_refl _)
      have hij : IntKind.i32.wrap ((j1 : Int) + 1) = ((j1 + 1 : Nat) : Int) := by rw [i32_wrap (by omega)];omega
      repeat ((first | refine qA rfl ?_|refine qB ?_|refine qC rfl ?_|refine qD ?_|refine qE ?_|refine qF ?_|refine qG ?_|refine qH ?_);try simp (maxSteps:=1000000)(disch:=(first|omega|(simp only [qI,qJ,qK]<;>omega)|exact qL _)) only [go_sem,↓reduceIte,n0,reduceCtorEq,n1,n2,n3,n4,n5,i0,i1,i2,i3,i4,i5,i6,i7,hxb6,hrc0_2,hrc0_7,hrc0_8,hrc0_9,hrc0_10,hrc0_13,hra0,hri0,exitRQ_ret,exitRQ_exit,Int.toNat_natCast,Nat.mul_one,hij])
      refine ⟨⟨(by simp (maxSteps:=1000000)(disch:=(first|omega|(simp only [qI,qJ,qK]<;>omega)|exact qL _)) only [go_sem,↓reduceIte,n0,reduceCtorEq,n1,n2,n3,n4,n5,i0,i1,i2,i3,i4,i5,i6,i7,Holds_nil,Holds_cons,hrc0_2,hrc0_7,hrc0_8,hrc0_9,hrc0_10,hrc0_13,hra0,hri0];exact hva1.symm),j1 + 1,(by simp (maxSteps:=1000000)(disch:=(first|omega|(simp only [qI,qJ,qK]<;>omega)|exact qL _)) only [go_sem,↓reduceIte,n0,reduceCtorEq,n1,n2,n3,n4,n5,i0,i1,i2,i3,i4,i5,i6,i7,hrc0_2,hrc0_7,hrc0_8,hrc0_9,hrc0_10,hrc0_13,hra0,hri0,hij];all_goals rfl),_,_,_,hL'⟩,?_⟩
      try simp (maxSteps:=1000000)(disch:=(first|omega|(simp only [qI,qJ,qK]<;>omega)|exact qL _)) only [go_sem,↓reduceIte,n0,reduceCtorEq,n1,n2,n3,n4,n5,i0,i1,i2,i3,i4,i5,i6,i7,hrc0_2,hrc0_7,hrc0_8,hrc0_9,hrc0_10,hrc0_13,hra0,hri0]
      simp only [RowKit.intOf]
      omega
    · have hjN : j1 = N0 := by omega
      rw [hjN] at hL0
      repeat ((first | refine qA rfl ?_|refine qB ?_|refine qC rfl ?_|refine qD ?_|refine qE ?_|refine qF ?_|refine qG ?_|refine qH ?_);try simp (maxSteps:=1000000)(disch:=(first|omega|(simp only [qI,qJ,qK]<;>omega)|exact qL _)) only [go_sem,↓reduceIte,n0,reduceCtorEq,n1,n2,n3,n4,n5,i0,i1,i2,i3,i4,i5,i6,i7,hrc0_2,hrc0_7,hrc0_8,hrc0_9,hrc0_10,hrc0_13,hrc0_12,hri0,exitRQ_ret,exitRQ_exit])
      exact ⟨(by simp (maxSteps:=1000000)(disch:=(first|omega|(simp only [qI,qJ,qK]<;>omega)|exact qL _)) only [go_sem,↓reduceIte,n0,reduceCtorEq,n1,n2,n3,n4,n5,i0,i1,i2,i3,i4,i5,i6,i7,Holds_nil,Holds_cons,hrc0_2,hrc0_7,hrc0_8,hrc0_9,hrc0_10,hrc0_13,hrc0_12,hri0]),s2,xs0,css0,hL0⟩
  rintro ρ w7 ⟨⟨hrd0_2,hrd0_7,hrd0_8,hrd0_9,hrd0_10,hrd0_13,hrd0_12,-⟩,s4,xs0,css0,hL0⟩
  have hq7 := hL0.rd
  have hu7 := hL0.upd
  have hv_7 := hu7.blk_some hv_2 (by omega)
  have hV7 : Upd (fun b => b = vb ∨ b = rb) w2 w7 := hu7.mono (fun _ h => .inr h)
  have hU7 : Upd (fun b => b = vb ∨ b = rb) w1 w7 := hU2.trans hV7
  have hz7 := hV7.size
  have hG7 : Glo ev w7 := hG1.updS hU7 hgM1 hgM2
  have hrd0 : rdF (rdP d ver true) ver true fShareGroupDescribeRequest_0 s0 = (.mk 0 [] (nilS fShareGroupDescribeRequest_0 ver y0) xs0 [],s4) := by
    have h := rdF_listE (pt := (rdP d ver true)) (v := ver) (flex := true) (f := fShareGroupDescribeRequest_0) (s := s0) (xs := xs0) (e := s4) rfl (by rw [hy0,← hN0,← hs1];exact hL0.done)
    rw [hy0] at h;exact h
  have hs4 : s4 = (rdF (rdP d ver true) ver true fShareGroupDescribeRequest_0 s0).2 := by rw [hrd0]
  obtain ⟨aa0,qq0,hvs0⟩ := hL0.row.shape
  subst hvs0
  repeat ((first | refine qA rfl ?_|refine qB ?_|refine qC rfl ?_|refine qD ?_|refine qE ?_|refine qF ?_|refine qG ?_|refine qH ?_);try simp (maxSteps:=1000000)(disch:=(first|omega|(simp only [qI,qJ,qK]<;>omega)|exact qL _)) only [go_sem,↓reduceIte,n0,reduceCtorEq,n1,n2,n3,n4,n5,i0,i1,i2,i3,i4,i5,i6,i7,hv_7,hrd0_2,hrd0_7,hrd0_8,hrd0_9,hrd0_10,hrd0_13,hrd0_12])
  generalize hw8 : wr w7 vb 1 [.slice aa0 N0 qq0] = w8
  have hS8 : Upd (fun b => b = vb ∨ b = rb) w7 w8 := by rw [← hw8];exact (Upd.refl _ _).wr _ _ (.inr (.inl rfl))
  have hv_8 : blk w8 vb = some (#[.int .i16 ver,.slice aa0 N0 qq0,.bool false,.map none],115,(0,0)) := by rw [← hw8,blk_wr_eq,hv_7];rfl
  have hV8 := hS8
  have hU8 : Upd (fun b => b = vb ∨ b = rb) w1 w8 := hU7.trans hV8
  have hz8 := hV8.size
  have hG8 : Glo ev w8 := hG1.updS hU8 hgM1 hgM2
  have hq8 : Rdr RT ok w8 rb s4 ∧ NN w8 rb s4 := by
    have hn : ∀ x,x = w8 → (Rdr RT ok x rb s4 ∧ NN x rb s4) := fun x hx => by
      rw [hx,← hw8]
      exact Rdr.store hq7 (by omega) (fun h => by have := (hok _ h).1;first | omega | exact (hok _ h).2 rfl)
    exact hn _ rfl
  clear hw8
  have hf_0 : RepF (RepS true d) (szS true d) fShareGroupDescribeRequest_0 (fun b => ok b ∨ w1.heap.size ≤ b) w8 (x_0) [.slice aa0 N0 qq0] := by rw [hx_0,hrd0];exact RepF.keepS (RepF_row rfl hnc0 hN0 rfl hL0.row hL0.all (fun b hb => .inr (by omega))) (hV8.keeps fun b _ hk e => (hoM b hk) e)
  clear hL0 hnc0
  have hb_1 : (rdL (rdP d ver true) (dfP d) ver true [fShareGroupDescribeRequest_1] s4).2 = none → FB := fun h => hb_0 (by rw [rdL_st (by decide) hh_0,← hs4];exact h)
  have hh_1 : hasS fShareGroupDescribeRequest_1 ver = true := hasS_t (by show (0 : Int) ≤ ver;omega) (by show (-1 : Int) < 0 ∨ ver ≤ (-1 : Int);omega)
  obtain ⟨x_1,hx_1⟩ : ∃ x,x = (rdF (rdP d ver true) ver true fShareGroupDescribeRequest_1 s4).1 := ⟨_,rfl⟩
  repeat ((first | refine qA rfl ?_|refine qB ?_|refine qC rfl ?_|refine qD ?_|refine qE ?_|refine qF ?_|refine qG ?_|refine qH ?_);try simp (maxSteps:=1000000)(disch:=(first|omega|(simp only [qI,qJ,qK]<;>omega)|exact qL _)) only [go_sem,↓reduceIte,n0,reduceCtorEq,n1,n2,n3,n4,n5,i0,i1,i2,i3,i4,i5,i6,i7,hv_8,hrd0_2,hrd0_7,hrd0_8,hrd0_9,hrd0_10,hrd0_13,hrd0_12])
  have hrd : rdF (rdP d ver true) ver true fShareGroupDescribeRequest_1 s4 = _ := rdF_bool rfl
  refine (Bool_fn w8 hq8.1 hrok).mono ?_
  rintro _ w9 ⟨rfl,hq9,hu9⟩
  have hv_9 := hu9.blk_some hv_8 (by omega)
  have hV9 : Upd (fun b => b = vb ∨ b = rb) w8 w9 := hu9.mono (fun _ h => .inr h)
  have hU9 : Upd (fun b => b = vb ∨ b = rb) w1 w9 := hU8.trans hV9
  have hz9 := hV9.size
  have hG9 : Glo ev w9 := hG1.updS hU9 hgM1 hgM2
  have hst : (rdF (rdP d ver true) ver true fShareGroupDescribeRequest_1 s4).2 = (rdN 1 s4).2 := by first | (rw [hrd];rfl) | rw [hrd]
  obtain ⟨s5,hs5⟩ : ∃ s,s = (rdF (rdP d ver true) ver true fShareGroupDescribeRequest_1 s4).2 := ⟨_,rfl⟩
  rw [← hst,← hs5] at hq9
  clear hst
  repeat ((first | refine qA rfl ?_|refine qB ?_|refine qC rfl ?_|refine qD ?_|refine qE ?_|refine qF ?_|refine qG ?_|refine qH ?_);try simp (maxSteps:=1000000)(disch:=(first|omega|(simp only [qI,qJ,qK]<;>omega)|exact qL _)) only [go_sem,↓reduceIte,n0,reduceCtorEq,n1,n2,n3,n4,n5,i0,i1,i2,i3,i4,i5,i6,i7,hv_9,hrd0_2,hrd0_7,hrd0_8,hrd0_9,hrd0_10,hrd0_13,hrd0_12])
  generalize hw10 : wr w9 vb 2 [.bool (!decide (beN (rdN 1 s4).1 = 0))] = w10
  have hS10 : Upd (fun b => b = vb ∨ b = rb) w9 w10 := by rw [← hw10];exact (Upd.refl _ _).wr _ _ (.inr (.inl rfl))
  have hv_10 : blk w10 vb = some (#[.int .i16 ver,.slice aa0 N0 qq0,.bool (!decide (beN (rdN 1 s4).1 = 0)),.map none],115,(0,0)) := by rw [← hw10,blk_wr_eq,hv_9];rfl
  have hV10 := hS10
  have hU10 : Upd (fun b => b = vb ∨ b = rb) w1 w10 := hU9.trans hV10
  have hz10 := hV10.size
  have hG10 : Glo ev w10 := hG1.updS hU10 hgM1 hgM2
  have hq10 : Rdr RT ok w10 rb s5 ∧ NN w10 rb s5 := by
    have hn : ∀ x,x = w10 → (Rdr RT ok x rb s5 ∧ NN x rb s5) := fun x hx => by
      rw [hx,← hw10]
      exact Rdr.store hq9 (by omega) (fun h => by have := (hok _ h).1;first | omega | exact (hok _ h).2 rfl)
    exact hn _ rfl
  clear hw10
  have hf_1 : RepF (RepS true d) (szS true d) fShareGroupDescribeRequest_1 (fun b => ok b ∨ w1.heap.size ≤ b) w10 (x_1) [.bool (!decide (beN (rdN 1 s4).1 = 0))] := (RepF_num (by decide)).2 (by rw [hx_1,hrd];exact congrArg (fun x => [x]) (numC_bool _).symm)
  clear hrd
  have hl_2 : rdL (rdP d ver true) (dfP d) ver true [] s5 = ([],s5) := rfl
  have hl_1 : rdL (rdP d ver true) (dfP d) ver true [fShareGroupDescribeRequest_1] s4 = ([x_1],s5) := by rw [rdL_st (by decide) hh_1,← hx_1,← hs5,hl_2]
  have hl_0 : rdL (rdP d ver true) (dfP d) ver true [fShareGroupDescribeRequest_0,fShareGroupDescribeRequest_1] s0 = ([x_0,x_1],s5) := by rw [rdL_st (by decide) hh_0,← hx_0,← hs4,hl_1]
  have hfin : rdP (d + 1) ver true fs_ShareGroupDescribeRequest s0 = (.mk 0 [] false [x_0,x_1] (rdTags s5).1,(rdTags s5).2) := rdP_t hl_0
  repeat ((first | refine qA rfl ?_|refine qB ?_|refine qC rfl ?_|refine qD ?_|refine qE ?_|refine qF ?_|refine qG ?_|refine qH ?_);try simp (maxSteps:=1000000)(disch:=(first|omega|(simp only [qI,qJ,qK]<;>omega)|exact qL _)) only [go_sem,↓reduceIte,n0,reduceCtorEq,n1,n2,n3,n4,n5,i0,i1,i2,i3,i4,i5,i6,i7,hv_10,hrd0_2,hrd0_7,hrd0_8,hrd0_9,hrd0_10,hrd0_13,hrd0_12])
  refine (ReadTags_fn w10 hq10.1 hrok).mono ?_
  rintro _ w11 ⟨qm,rfl,hT11,hTn,hq11,hu11⟩
  have hv_11 := hu11.blk_some hv_10 (by omega)
  have hV11 : Upd (fun b => b = vb ∨ b = rb) w10 w11 := hu11.mono (fun _ h => .inr h)
  have hU11 : Upd (fun b => b = vb ∨ b = rb) w1 w11 := hU10.trans hV11
  have hz11 := hV11.size
  have hG11 : Glo ev w11 := hG1.updS hU11 hgM1 hgM2
  obtain ⟨s6,hs6⟩ : ∃ s,s = (rdTags s5).2 := ⟨_,rfl⟩
  rw [← hs6] at hq11 hfin
  try simp (maxSteps:=1000000)(disch:=(first|omega|(simp only [qI,qJ,qK]<;>omega)|exact qL _)) only [go_sem,↓reduceIte,n0,reduceCtorEq,n1,n2,n3,n4,n5,i0,i1,i2,i3,i4,i5,i6,i7,hv_11,hrd0_2,hrd0_7,hrd0_8,hrd0_9,hrd0_10,hrd0_13,hrd0_12]
  repeat ((first | refine qA rfl ?_|refine qB ?_|refine qC rfl ?_|refine qD ?_|refine qE ?_|refine qF ?_|refine qG ?_|refine qH ?_);try simp (maxSteps:=1000000)(disch:=(first|omega|(simp only [qI,qJ,qK]<;>omega)|exact qL _)) only [go_sem,↓reduceIte,n0,reduceCtorEq,n1,n2,n3,n4,n5,i0,i1,i2,i3,i4,i5,i6,i7,hv_11,hrd0_2,hrd0_7,hrd0_8,hrd0_9,hrd0_10,hrd0_13,hrd0_12])
  generalize hw12 : wr w11 vb 3 [.map qm] = w12
  have hS12 : Upd (fun b => b = vb ∨ b = rb) w11 w12 := by rw [← hw12];exact (Upd.refl _ _).wr _ _ (.inr (.inl rfl))
  have hv_12 : blk w12 vb = some (#[.int .i16 ver,.slice aa0 N0 qq0,.bool (!decide (beN (rdN 1 s4).1 = 0)),.map qm],115,(0,0)) := by rw [← hw12,blk_wr_eq,hv_11];rfl
  have hV12 := hS12
  have hU12 : Upd (fun b => b = vb ∨ b = rb) w1 w12 := hU11.trans hV12
  have hz12 := hV12.size
  have hG12 : Glo ev w12 := hG1.updS hU12 hgM1 hgM2
  have hq12 : Rdr RT ok w12 rb s6 ∧ NN w12 rb s6 := by
    have hn : ∀ x,x = w12 → (Rdr RT ok x rb s6 ∧ NN x rb s6) := fun x hx => by
      rw [hx,← hw12]
      exact Rdr.store hq11 (by omega) (fun h => by have := (hok _ h).1;first | omega | exact (hok _ h).2 rfl)
    exact hn _ rfl
  clear hw12
  have hTg : TagsM (fun b => ok b ∨ w1.heap.size ≤ b) w12 (.map qm) (rdTags s5).1 := (hT11.weaken fun b _ hk => hk.elim (fun hk => .inl hk) (fun h => by have h' : w10.heap.size ≤ b := h;exact .inr (by omega))).keep (hV12.keeps fun b _ hk e => (hoM b hk) e)
  have hC_12 : Upd (fun b => b = vb ∨ b = rb) w12 w12 := Upd.refl _ _
  have hC_11 : Upd (fun b => b = vb ∨ b = rb) w11 w12 := hV12.trans hC_12
  have hC_10 : Upd (fun b => b = vb ∨ b = rb) w10 w12 := hV11.trans hC_11
  have hC_9 : Upd (fun b => b = vb ∨ b = rb) w9 w12 := hV10.trans hC_10
  have hC_8 : Upd (fun b => b = vb ∨ b = rb) w8 w12 := hV9.trans hC_9
  have hC_7 : Upd (fun b => b = vb ∨ b = rb) w7 w12 := hV8.trans hC_8
  have hC_2 : Upd (fun b => b = vb ∨ b = rb) w2 w12 := hV7.trans hC_7
  have hC_1 : Upd (fun b => b = vb ∨ b = rb) w1 w12 := hV2.trans hC_2
  have hR : RepS true (d + 1) fs_ShareGroupDescribeRequest (fun b => ok b ∨ w1.heap.size ≤ b) w12 (.mk 0 [] false [x_0,x_1] (rdTags s5).1) [.slice aa0 N0 qq0,.bool (!decide (beN (rdN 1 s4).1 = 0)),.map qm] := RepS.introT (c := [.slice aa0 N0 qq0,.bool (!decide (beN (rdN 1 s4).1 = 0))]) (RepL.cons1 (hf_0.keepS (hC_8.keeps fun b _ hk e => (hoM b hk) e)) (RepL.cons1 (hf_1.keepS (hC_10.keeps fun b _ hk e => (hoM b hk) e)) RepL.nil)) hTg
  repeat ((first | refine qA rfl ?_|refine qB ?_|refine qC rfl ?_|refine qD ?_|refine qE ?_|refine qF ?_|refine qG ?_|refine qH ?_);try simp (maxSteps:=1000000)(disch:=(first|omega|(simp only [qI,qJ,qK]<;>omega)|exact qL _)) only [go_sem,↓reduceIte,n0,reduceCtorEq,n1,n2,n3,n4,n5,i0,i1,i2,i3,i4,i5,i6,i7,hv_12,hrd0_2,hrd0_7,hrd0_8,hrd0_9,hrd0_10,hrd0_13,hrd0_12])
  refine (RComplete_fn w12 hq12.1 hG12.2).mono ?_
  rintro _ wz ⟨rfl,hez⟩
  rw [hez]
  repeat ((first | refine qA rfl ?_|refine qB ?_|refine qC rfl ?_|refine qD ?_|refine qE ?_|refine qF ?_|refine qG ?_|refine qH ?_);try simp (maxSteps:=1000000)(disch:=(first|omega|(simp only [qI,qJ,qK]<;>omega)|exact qL _)) only [go_sem,↓reduceIte,n0,reduceCtorEq,n1,n2,n3,n4,n5,i0,i1,i2,i3,i4,i5,i6,i7,hv_12,hrd0_2,hrd0_7,hrd0_8,hrd0_9,hrd0_10,hrd0_13,hrd0_12])
  rw [hfin]
  refine ⟨fun h => ?_,fun h => ⟨?_,[.slice aa0 N0 qq0,.bool (!decide (beN (rdN 1 s4).1 = 0)),.map qm],hv_12,?_⟩,?_⟩
  · have h' : s6 = none := h
    rw [h'];rfl
  · cases hsn : s6 with
    | none => exact absurd hsn h
    | some x => rfl
  · exact (RepS_lay true (d + 1) fs_ShareGroupDescribeRequest).weaken hR fun b _ hk => hk.imp id fun h => by omega
  · exact hbase.trans' hU12 fun i hi h => h.elim id fun h => by omega
end Ms

namespace Ms
open Go.World renaming size_alloc → qI
open Ms renaming size_wr → qJ,size_drew → qK,not_noB → qL
open W renaming seqR → qA,seq → qB,regR → qC,condK → qD,block → qE,skip → qF,ret → qG,exit → qH
open Nat renaming reduceEqDiff → n0,reduceAdd → n1,reduceMul → n2,reduceSub → n3,reduceLT → n4,reduceLeDiff → n5
open Int renaming reduceEq → i0,reduceLT → i1,reduceLE → i2,reduceNeg → i3,reduceAdd → i4,reduceSub → i5,reduceMul → i6,reduceToNat → i7
set_option maxRecDepth 8000
open Go Go.Proofs Go.Shelf
attribute [local congr] W_congr WPsq_congr WPp_congr optK_congr addrK_congr intK_congr boolK_congr sliceK_congr tupleK_congr funcK_congr Fn_congr rawK_congr takeK_congr stepK_congr convK_congr aggK_congr

theorem ReadFromShareGroupDescribeRequest_fn {d : Nat} {ok : Blocks} {ver : Int} {ev : Value} (hlo : 0 ≤ ver) (hhi : ver ≤ 1) (w : World) {vb : Nat} (src : Value) (s : List UInt8) (hv : blk w vb = some (#[.int .i16 ver,.slice none 0 0,.bool false,.map none],115,(0,0))) (hsrc : BytesV ok w src s) (hok0 : ∀ b,ok b → b < w.heap.size ∧ b ≠ vb) (hG : Glo ev w) (hgv : ¬ 1 = vb ∧ ¬ 0 = vb) :
    Fn Tryz.prog 77 #[.pointer (some ⟨vb,0,none⟩),src] w (ReadQ 115 ok ver (d + 1) fs_ShareGroupDescribeRequest vb w (rdP (d + 1) ver (flexB 0 ver) fs_ShareGroupDescribeRequest (some s)) ev) := by
  obtain ⟨sa,sc,rfl,_⟩ := hsrc.shape
  refine fn_of_W Tryz.func77 rfl Tryz.results77 Tryz.ntmps77 rfl ?_
  repeat ((first | refine qA rfl ?_|refine qB ?_|refine qC rfl ?_|refine qD ?_|refine qE ?_|refine qF ?_|refine qG ?_|refine qH ?_);try simp (maxSteps:=1000000)(disch:=(first|omega|(simp only [qI,qJ,qK]<;>omega)|exact qL _)) only [go_sem,↓reduceIte,n0,reduceCtorEq,n1,n2,n3,n4,n5,i0,i1,i2,i3,i4,i5,i6,i7])
  have hcl : (0 ≤ ver ∧ ver ≤ 1) := by omega
  rcases hcl with ⟨h1,h2⟩
  · have hfl : flexB 0 ver = true := by simp only [flexB,Bool.and_eq_true,decide_eq_true_eq];omega
    rw [hfl]
    refine (readShareGroupDescribeRequest_0 (d := d) h1 h2 w _ s hv hsrc hok0 hG hgv).mono ?_
    rintro r5 w5 h5
    repeat ((first | refine qA rfl ?_|refine qB ?_|refine qC rfl ?_|refine qD ?_|refine qE ?_|refine qF ?_|refine qG ?_|refine qH ?_);try simp (maxSteps:=1000000)(disch:=(first|omega|(simp only [qI,qJ,qK]<;>omega)|exact qL _)) only [go_sem,↓reduceIte,n0,reduceCtorEq,n1,n2,n3,n4,n5,i0,i1,i2,i3,i4,i5,i6,i7])
    all_goals exact h5

end Ms

namespace Ms
open Go.World renaming size_alloc → qI
open Ms renaming size_wr → qJ,size_drew → qK,not_noB → qL
open W renaming seqR → qA,seq → qB,regR → qC,condK → qD,block → qE,skip → qF,ret → qG,exit → qH
open Nat renaming reduceEqDiff → n0,reduceAdd → n1,reduceMul → n2,reduceSub → n3,reduceLT → n4,reduceLeDiff → n5
open Int renaming reduceEq → i0,reduceLT → i1,reduceLE → i2,reduceNeg → i3,reduceAdd → i4,reduceSub → i5,reduceMul → i6,reduceToNat → i7
set_option maxRecDepth 8000
open Go Go.Proofs Go.Shelf
attribute [local congr] W_congr WPsq_congr WPp_congr optK_congr addrK_congr intK_congr boolK_congr sliceK_congr tupleK_congr funcK_congr Fn_congr rawK_congr takeK_congr stepK_congr convK_congr aggK_congr

set_option maxHeartbeats 4000000 in
theorem appShareGroupDescribeRequest_0 {d B : Nat} {okM : Blocks} {ver : Int} (hlo : 0 ≤ ver) (hhi : ver ≤ 1) (t : Tree) (cells : List Value) (v : Value) (s : List UInt8) (w : World) {vb : Nat} (ho : OwnBy 5 B w v s) (hB : B ≤ w.heap.size) (hvb : blk w vb = some ((.int .i16 ver :: cells).toArray,115,(0,0)))
    (hR : RepS true (d + 1) fs_ShareGroupDescribeRequest okM w t cells) (hfit : FitW ver (d + 1) fs_ShareGroupDescribeRequest t) (hd : ∀ b,b < w.heap.size → okM b → ¬ ownB v b) (hdv : ¬ ownB v vb) (hlen : s.length + (partS (d + 1) fs_ShareGroupDescribeRequest ver true t).length ≤ 2 ^ 41) :
    Fn Tryz.prog 255 #[.pointer (some ⟨vb,0,none⟩),v] w fun r w' => AppR 5 B w v s (partS (d + 1) fs_ShareGroupDescribeRequest ver true t) r w' := by
  obtain ⟨⟨g_0,g_1,-⟩,hfu⟩ := hfit
  replace g_0 : hasS fShareGroupDescribeRequest_0 ver = true → FitWF (FitW ver d) ver fShareGroupDescribeRequest_0 (t.at 0) := g_0
  have hh_0 : hasS fShareGroupDescribeRequest_0 ver = true := hasS_t (by show (0 : Int) ≤ ver;omega) (by show (-1 : Int) < 0 ∨ ver ≤ (-1 : Int);omega)
  replace g_0 := g_0 hh_0
  replace g_1 : hasS fShareGroupDescribeRequest_1 ver = true → FitWF (FitW ver d) ver fShareGroupDescribeRequest_1 (t.at 1) := g_1
  have hh_1 : hasS fShareGroupDescribeRequest_1 ver = true := hasS_t (by show (0 : Int) ≤ ver;omega) (by show (-1 : Int) < 0 ∨ ver ≤ (-1 : Int);omega)
  replace g_1 := g_1 hh_1
  obtain ⟨cs,q,hcs,hL,hT⟩ := hR.inv
  obtain ⟨c_0,e_0,rfl,h_0,c_1,e_1,rfl,h_1,rfl⟩ := hL
  replace h_0 : RepF (RepS true d) (szS true d) fShareGroupDescribeRequest_0 okM w (t.at 0) c_0 := h_0
  replace h_1 : RepF (RepS true d) (szS true d) fShareGroupDescribeRequest_1 okM w (t.at 1) c_1 := h_1
  obtain ⟨p_0,rfl,hs_0⟩ := RepF_listW g_0 rfl (by decide) h_0
  obtain ⟨ab_0,ac_0,rfl,_⟩ := SlR.shape hs_0
  have hgl_0 := g_0.list rfl
  have hll_0 := hgl_0.1
  obtain rfl := (RepF_num (by decide)).1 h_1
  obtain ⟨qm,rfl⟩ := hT.shape
  have hv : blk w vb = some (#[.int .i16 ver,.slice ab_0 (t.at 0).l.length ac_0,.bool (decide ((t.at 1).n % 2 = 1)),.map qm],115,(0,0)) := by rw [hvb,hcs];rfl
  clear hvb hcs
  obtain ⟨XL_0,hXL_0⟩ : ∃ X,X = uvarS ((t.at 0).l.length + 1) := ⟨_,rfl⟩
  obtain ⟨XE_0,hXE_0⟩ : ∃ X,X = (t.at 0).l.flatMap (fun x : Tree => uvarS (x.s.length + 1) ++ x.s) := ⟨_,rfl⟩
  obtain ⟨X_1,hXX_1⟩ : ∃ X,X = [if decide ((t.at 1).n % 2 = 1) = true then (1 : UInt8) else 0] := ⟨_,rfl⟩
  obtain ⟨XU,hXU⟩ : ∃ X,X = uvarS t.u.length := ⟨_,rfl⟩
  obtain ⟨XT,hXT⟩ : ∃ X,X = t.u.flatMap oneTag := ⟨_,rfl⟩
  have hP : partS (d + 1) fs_ShareGroupDescribeRequest ver true t = ((XL_0 ++ XE_0) ++ (X_1 ++ [])) ++ (XU ++ XT) := by rw [hXU,hXT];exact partS_yes rfl hfu (plainL_has (by decide) hh_0 ((fieldS_list_t (g := (fun x : Tree => uvarS (x.s.length + 1) ++ x.s)) g_0 rfl (by decide) (fun x hx => valueS_text ((hgl_0.2 x hx).1 (.inl rfl)))).trans (by rw [hXL_0,hXE_0])) (plainL_has (by decide) hh_1 ((fieldS_bool rfl).trans hXX_1.symm) rfl))
  rw [hP] at hlen
  simp only [List.length_append,List.length_nil] at hlen
  have hdK : ∀ {r : Value} {w' : World} {add : List UInt8},AppR 5 B w v s add r w' → ∀ b,b < w'.heap.size → OkS okM w.heap.size b → ¬ ownB r b := fun h b _ hk ho => (h.frame b ho).elim (hd b hk.2 hk.1) (fun h => by have := hk.2;omega)
  have ownK : ∀ {r : Value} {w' : World} {add : List UInt8} {b : Nat},AppR 5 B w v s add r w' → b < w.heap.size → ¬ ownB v b → ¬ ownB r b := fun h hb hn ho => (h.frame _ ho).elim hn (fun h => by omega)
  have ha0 : AppR 5 B w v s [] v w := AppR.refl ho
  obtain ⟨w0,hw0⟩ : ∃ w0,w0 = w := ⟨_,rfl⟩
  have hB0 := hB
  have hv_0 := hv
  refine fn_of_W Tryz.func255 rfl Tryz.results255 Tryz.ntmps255 rfl ?_
  repeat ((first | refine qA rfl ?_|refine qB ?_|refine qC rfl ?_|refine qD ?_|refine qE ?_|refine qF ?_|refine qG ?_|refine qH ?_);try simp (maxSteps:=1000000)(disch:=(first|omega|(simp only [qI,qJ,qK]<;>omega)|exact qL _)) only [go_sem,↓reduceIte,n0,reduceCtorEq,n1,n2,n3,n4,n5,i0,i1,i2,i3,i4,i5,i6,i7,hv_0])
  refine (AppendCompactArrayLen_fn _ _ _ ha0.own hB0 (t.at 0).l.length hll_0 (by simp only [List.length_append,List.length_nil];omega)).mono ?_
  rintro r1 w1 hc1
  rw [← hXL_0] at hc1
  have ha1 := ha0.trans hc1
  have hB1 : B ≤ w1.heap.size := Nat.le_trans hB ha1.upd.size
  have hv_1 := ha1.upd.blk_some hv hdv
  repeat ((first | refine qA rfl ?_|refine qB ?_|refine qC rfl ?_|refine qD ?_|refine qE ?_|refine qF ?_|refine qG ?_|refine qH ?_);try simp (maxSteps:=1000000)(disch:=(first|omega|(simp only [qI,qJ,qK]<;>omega)|exact qL _)) only [go_sem,↓reduceIte,n0,reduceCtorEq,n1,n2,n3,n4,n5,i0,i1,i2,i3,i4,i5,i6,i7,hv_1])
  have hadd1 := ha1
  refine W.exitJ 0 (fun ρ w' => ∃ r,ρ 1 = r ∧ ρ 0 = .pointer (some ⟨vb,0,none⟩) ∧ ρ 5 = .int .i16 ver ∧ ρ 6 = .bool true ∧ AppR 5 B w v s (([] ++ XL_0) ++ XE_0) r w')
    (W.loop (fun ρ w' => ∃ (j : Nat) (r : Value),j ≤ (t.at 0).l.length ∧ ρ 34 = .int .i64 j ∧ ρ 33 = .int .i64 (t.at 0).l.length ∧ ρ 7 = .slice ab_0 (t.at 0).l.length ac_0 ∧ ρ 1 = r ∧ ρ 0 = .pointer (some ⟨vb,0,none⟩) ∧ ρ 5 = .int .i16 ver ∧ ρ 6 = .bool true ∧ AppR 5 B w v s (([] ++ XL_0) ++ ((t.at 0).l.take j).flatMap (fun x : Tree => uvarS (x.s.length + 1) ++ x.s)) r w')
      (fun ρ _ => (t.at 0).l.length - (RowKit.intOf (ρ 34)).toNat) ?_ ?_) ?_
  · refine ⟨0,_,Nat.zero_le _,?_,?_,?_,?_,?_,?_,?_,ha1.eqs (by rw [List.take_zero,List.flatMap_nil,List.append_nil])⟩ <;> simp (maxSteps:=1000000)(disch:=(first|omega|(simp only [qI,qJ,qK]<;>omega)|exact qL _)) only [go_sem,↓reduceIte,n0,reduceCtorEq,n1,n2,n3,n4,n5,i0,i1,i2,i3,i4,i5,i6,i7]
    all_goals rfl
  · rintro ρ w2 ⟨j1,r2,hj1,hI1,hN1,hS1,hr1_1,hr1_0,hr1_5,hr1_6,ha2⟩
    have hB2 : B ≤ w2.heap.size := Nat.le_trans hB ha2.upd.size
    have hv_2 := ha2.upd.blk_some hv hdv
    by_cases hlt1 : j1 < (t.at 0).l.length
    · obtain ⟨_,b1,o1,x1,ce1,hb1,hok1,hx1,hbl1,hxs1,hxe1,hq1,hRe1⟩ := SlR.get (size := 1) (by decide) hs_0 hlt1
      subst hb1
      have hcat1 : (t.at 0).l.take (j1 + 1) = (t.at 0).l.take j1 ++ [(t.at 0).l[j1]] := List.take_succ_eq_append_getElem hlt1
      have htl1 := take_flatMap_len (t.at 0).l (fun x : Tree => uvarS (x.s.length + 1) ++ x.s) (j1 + 1)
      rw [← hXE_0,hcat1,List.flatMap_append,List.flatMap_cons,List.flatMap_nil,List.append_nil] at htl1
      have hge1 := hgl_0.2 _ (List.getElem_mem hlt1)
      generalize (t.at 0).l[j1] = y1 at *
      have hnx1 := hd b1 hbl1 hok1
      obtain ⟨T1,hTT1⟩ : ∃ T,T = ((t.at 0).l.take j1).flatMap (fun x : Tree => uvarS (x.s.length + 1) ++ x.s) := ⟨_,rfl⟩
      rw [← hTT1] at ha2 htl1
      have hx1_2 := ha2.upd.blk_some hx1 hnx1
      obtain rfl := Rep1_text.1 hRe1
      have hq1_0 : x1.1[o1 + j1]? = some (strV y1.s) := by have := hq1 0 (by decide);rw [Nat.mul_one] at this;exact this
      obtain ⟨Y1,hY1⟩ : ∃ Y,Y = uvarS ((y1).s.length + 1) ++ (y1).s := ⟨_,rfl⟩
      replace htl1 : (T1 ++ Y1).length ≤ XE_0.length := by rw [hY1];exact htl1
      simp only [List.length_append] at htl1
      repeat ((first | refine qA rfl ?_|refine qB ?_|refine qC rfl ?_|refine qD ?_|refine qE ?_|refine qF ?_|refine qG ?_|refine qH ?_);try simp (maxSteps:=1000000)(disch:=(first|omega|(simp only [qI,qJ,qK]<;>omega)|exact qL _)) only [go_sem,↓reduceIte,n0,reduceCtorEq,n1,n2,n3,n4,n5,i0,i1,i2,i3,i4,i5,i6,i7,hv_2,hx1_2,Int.toNat_natCast,Nat.mul_one,hq1_0,hr1_1,hr1_0,hr1_5,hr1_6,hI1,hN1,hS1])
      refine (AppendCompactString_fn _ _ _ ha2.own hB2 y1.s (hge1.1 (.inl rfl)) (by simp only [List.length_append,List.length_nil];omega)).mono ?_
      rintro r3 w3 hc3
      rw [← hY1] at hc3
      have ha3 := ha2.trans hc3
      have hB3 : B ≤ w3.heap.size := Nat.le_trans hB ha3.upd.size
      have hv_3 := ha3.upd.blk_some hv hdv
      have hx1_3 := ha3.upd.blk_some hx1 hnx1
      repeat ((first | refine qA rfl ?_|refine qB ?_|refine qC rfl ?_|refine qD ?_|refine qE ?_|refine qF ?_|refine qG ?_|refine qH ?_);try simp (maxSteps:=1000000)(disch:=(first|omega|(simp only [qI,qJ,qK]<;>omega)|exact qL _)) only [go_sem,↓reduceIte,n0,reduceCtorEq,n1,n2,n3,n4,n5,i0,i1,i2,i3,i4,i5,i6,i7,hr1_1,hr1_0,hr1_5,hr1_6,hI1,hN1,hS1])
      refine ⟨⟨j1 + 1,_,by omega,rfl,rfl,ha3.eqs ?_⟩,?_⟩
      · rw [hcat1,List.flatMap_append,List.flatMap_cons,List.flatMap_nil,List.append_nil,← hTT1,hY1];simp only [List.append_assoc,List.append_nil,List.nil_append]
      · simp only [RowKit.intOf];omega
    · have hjl1 : j1 = (t.at 0).l.length := by omega
      subst hjl1
      rw [List.take_length,← hXE_0] at ha2
      repeat ((first | refine qA rfl ?_|refine qB ?_|refine qC rfl ?_|refine qD ?_|refine qE ?_|refine qF ?_|refine qG ?_|refine qH ?_);try simp (maxSteps:=1000000)(disch:=(first|omega|(simp only [qI,qJ,qK]<;>omega)|exact qL _)) only [go_sem,↓reduceIte,n0,reduceCtorEq,n1,n2,n3,n4,n5,i0,i1,i2,i3,i4,i5,i6,i7,hI1,hN1])
      exact ⟨_,hr1_1,hr1_0,hr1_5,hr1_6,ha2⟩
  · rintro ρ w4 ⟨r4,hr1_2,hr2_0,hr2_5,hr2_6,ha4⟩
    have hB4 : B ≤ w4.heap.size := Nat.le_trans hB ha4.upd.size
    have hv_4 := ha4.upd.blk_some hv hdv
    repeat ((first | refine qA rfl ?_|refine qB ?_|refine qC rfl ?_|refine qD ?_|refine qE ?_|refine qF ?_|refine qG ?_|refine qH ?_);try simp (maxSteps:=1000000)(disch:=(first|omega|(simp only [qI,qJ,qK]<;>omega)|exact qL _)) only [go_sem,↓reduceIte,n0,reduceCtorEq,n1,n2,n3,n4,n5,i0,i1,i2,i3,i4,i5,i6,i7,hv_4,hr1_2,hr2_0,hr2_5,hr2_6])
    refine (AppendBool_fn _ _ _ ha4.own hB4 _ (by simp only [List.length_append,List.length_nil];omega)).mono ?_
    rintro r5 w5 hc5
    rw [← hXX_1] at hc5
    have ha5 := ha4.trans hc5
    have hB5 : B ≤ w5.heap.size := Nat.le_trans hB ha5.upd.size
    have hv_5 := ha5.upd.blk_some hv hdv
    repeat ((first | refine qA rfl ?_|refine qB ?_|refine qC rfl ?_|refine qD ?_|refine qE ?_|refine qF ?_|refine qG ?_|refine qH ?_);try simp (maxSteps:=1000000)(disch:=(first|omega|(simp only [qI,qJ,qK]<;>omega)|exact qL _)) only [go_sem,↓reduceIte,n0,reduceCtorEq,n1,n2,n3,n4,n5,i0,i1,i2,i3,i4,i5,i6,i7,hv_5,hr1_2,hr2_0,hr2_5,hr2_6])
    have hTk5 : TagsM (OkS okM w.heap.size) w5 (.map qm) t.u := (hT.weaken fun b h1 h2 => ⟨h2,h1⟩).keep (ha5.upd.keeps fun b hb hk => hd b hb hk.1)
    refine (TagsLen_fn (ok := OkS okM w.heap.size) w5 hv_5 (to := 3) (show (#[.int .i16 ver,.slice ab_0 (t.at 0).l.length ac_0,.bool (decide ((t.at 1).n % 2 = 1)),.map qm] : Array Value)[3]? = some (.map qm) from rfl) hTk5).mono ?_
    rintro _ w5' ⟨rfl,rfl⟩
    have hul5 : t.u.length ≤ 32767 := hfu.1
    have ew5 : IntKind.u32.wrap (t.u.length : Int) = t.u.length := u32_wrap (by omega)
    have ez5 : IntKind.u32.wrap (0 + (t.u.length : Int)) = t.u.length := by rw [Int.zero_add,u32_wrap (by omega)]
    simp (maxSteps:=1000000)(disch:=(first|omega|(simp only [qI,qJ,qK]<;>omega)|exact qL _)) only [go_sem,↓reduceIte,n0,reduceCtorEq,n1,n2,n3,n4,n5,i0,i1,i2,i3,i4,i5,i6,i7,hv_5,hr1_2,hr2_0,hr2_5,hr2_6,ew5,ez5]
    refine (AppendUvarint_fn _ _ _ ha5.own hB5 t.u.length (by omega) (by simp only [List.length_append,List.length_nil];omega)).mono ?_
    rintro r6 w6 hc6
    rw [← hXU] at hc6
    have ha6 := ha5.trans hc6
    have hB6 : B ≤ w6.heap.size := Nat.le_trans hB ha6.upd.size
    have hv_6 := ha6.upd.blk_some hv hdv
    repeat ((first | refine qA rfl ?_|refine qB ?_|refine qC rfl ?_|refine qD ?_|refine qE ?_|refine qF ?_|refine qG ?_|refine qH ?_);try simp (maxSteps:=1000000)(disch:=(first|omega|(simp only [qI,qJ,qK]<;>omega)|exact qL _)) only [go_sem,↓reduceIte,n0,reduceCtorEq,n1,n2,n3,n4,n5,i0,i1,i2,i3,i4,i5,i6,i7,hv_6,hr1_2,hr2_0,hr2_5,hr2_6])
    have hTk6 : TagsM (OkS okM w.heap.size) w6 (.map qm) t.u := (hT.weaken fun b h1 h2 => ⟨h2,h1⟩).keep (ha6.upd.keeps fun b hb hk => hd b hb hk.1)
    refine (AppendEach_fn (ok := OkS okM w.heap.size) _ _ _ ha6.own hB6 hv_6 (to := 3) (show (#[.int .i16 ver,.slice ab_0 (t.at 0).l.length ac_0,.bool (decide ((t.at 1).n % 2 = 1)),.map qm] : Array Value)[3]? = some (.map qm) from rfl) hTk6 (rising_keys hfu) hfu.1 (tags_small hfu hTk6) (hdK ha6) (ownK ha6 (blk_lt hv) hdv) (by simp only [List.length_append,List.length_nil];omega)).mono ?_
    rintro r7 w7 hc7
    rw [← hXT] at hc7
    have ha7 := ha6.trans hc7
    have hB7 : B ≤ w7.heap.size := Nat.le_trans hB ha7.upd.size
    have hv_7 := ha7.upd.blk_some hv hdv
    repeat ((first | refine qA rfl ?_|refine qB ?_|refine qC rfl ?_|refine qD ?_|refine qE ?_|refine qF ?_|refine qG ?_|refine qH ?_);try simp (maxSteps:=1000000)(disch:=(first|omega|(simp only [qI,qJ,qK]<;>omega)|exact qL _)) only [go_sem,↓reduceIte,n0,reduceCtorEq,n1,n2,n3,n4,n5,i0,i1,i2,i3,i4,i5,i6,i7,hv_7,hr1_2,hr2_0,hr2_5,hr2_6])
    refine ha7.eqs ?_
    rw [hP];simp only [List.append_assoc,List.append_nil,List.nil_append]
end Ms

namespace Ms
open Go.World renaming size_alloc → qI
open Ms renaming size_wr → qJ,size_drew → qK,not_noB → qL
open W renaming seqR → qA,seq → qB,regR → qC,condK → qD,block → qE,skip → qF,ret → qG,exit → qH
open Nat renaming reduceEqDiff → n0,reduceAdd → n1,reduceMul → n2,reduceSub → n3,reduceLT → n4,reduceLeDiff → n5
open Int renaming reduceEq → i0,reduceLT → i1,reduceLE → i2,reduceNeg → i3,reduceAdd → i4,reduceSub → i5,reduceMul → i6,reduceToNat → i7
set_option maxRecDepth 8000
open Go Go.Proofs Go.Shelf
attribute [local congr] W_congr WPsq_congr WPp_congr optK_congr addrK_congr intK_congr boolK_congr sliceK_congr tupleK_congr funcK_congr Fn_congr rawK_congr takeK_congr stepK_congr convK_congr aggK_congr

theorem KeyShareGroupDescribeRequest_fn (w : World) (vb : Nat) : Fn Tryz.prog 258 #[.pointer (some ⟨vb,0,none⟩)] w fun r w' => r = .int .i16 77 ∧ w' = w := by
  refine fn_of_W Tryz.func258 rfl Tryz.results258 Tryz.ntmps258 rfl ?_
  repeat ((first | refine qA rfl ?_|refine qB ?_|refine qC rfl ?_|refine qD ?_|refine qE ?_|refine qF ?_|refine qG ?_|refine qH ?_);try simp (maxSteps:=1000000)(disch:=(first|omega|(simp only [qI,qJ,qK]<;>omega)|exact qL _)) only [go_sem,↓reduceIte,n0,reduceCtorEq,n1,n2,n3,n4,n5,i0,i1,i2,i3,i4,i5,i6,i7])
  all_goals first | rfl | exact ⟨rfl,rfl⟩
theorem GetVShareGroupDescribeRequest_fn (w : World) {vb : Nat} {ver : Int} {cells : List Value} (hb : blk w vb = some ((.int .i16 ver :: cells).toArray,115,(0,0))) : Fn Tryz.prog 256 #[.pointer (some ⟨vb,0,none⟩)] w fun r w' => r = .int .i16 ver ∧ w' = w := by
  refine fn_of_W Tryz.func256 rfl Tryz.results256 Tryz.ntmps256 rfl ?_
  repeat ((first | refine qA rfl ?_|refine qB ?_|refine qC rfl ?_|refine qD ?_|refine qE ?_|refine qF ?_|refine qG ?_|refine qH ?_);try simp (maxSteps:=1000000)(disch:=(first|omega|(simp only [qI,qJ,qK]<;>omega)|exact qL _)) only [go_sem,↓reduceIte,n0,reduceCtorEq,n1,n2,n3,n4,n5,i0,i1,i2,i3,i4,i5,i6,i7,hb])
  all_goals first | rfl | exact ⟨rfl,rfl⟩
theorem IsFlexShareGroupDescribeRequest_fn (w : World) {vb : Nat} {ver : Int} {cells : List Value} (hlo : 0 ≤ ver) (hhi : ver ≤ 1) (hb : blk w vb = some ((.int .i16 ver :: cells).toArray,115,(0,0))) : Fn Tryz.prog 257 #[.pointer (some ⟨vb,0,none⟩)] w fun r w' => r = .bool (flexB 0 ver) ∧ w' = w := by
  refine fn_of_W Tryz.func257 rfl Tryz.results257 Tryz.ntmps257 rfl ?_
  by_cases hv : 0 ≤ ver
  · repeat ((first | refine qA rfl ?_|refine qB ?_|refine qC rfl ?_|refine qD ?_|refine qE ?_|refine qF ?_|refine qG ?_|refine qH ?_);try simp (maxSteps:=1000000)(disch:=(first|omega|(simp only [qI,qJ,qK]<;>omega)|exact qL _)) only [go_sem,↓reduceIte,n0,reduceCtorEq,n1,n2,n3,n4,n5,i0,i1,i2,i3,i4,i5,i6,i7,hb])
    all_goals simp [flexB] <;> omega
  · repeat ((first | refine qA rfl ?_|refine qB ?_|refine qC rfl ?_|refine qD ?_|refine qE ?_|refine qF ?_|refine qG ?_|refine qH ?_);try simp (maxSteps:=1000000)(disch:=(first|omega|(simp only [qI,qJ,qK]<;>omega)|exact qL _)) only [go_sem,↓reduceIte,n0,reduceCtorEq,n1,n2,n3,n4,n5,i0,i1,i2,i3,i4,i5,i6,i7,hb])
    all_goals simp [flexB] <;> omega
theorem mKeyShareGroupDescribeRequest : methodP Tryz.prog 67 "Key" = some (258,true) := by kernel_rfl
theorem kKeyShareGroupDescribeRequest : callable Tryz.prog 258 = true := by kernel_rfl
theorem mGetVShareGroupDescribeRequest : methodP Tryz.prog 67 "GetVersion" = some (256,true) := by kernel_rfl
theorem kGetVShareGroupDescribeRequest : callable Tryz.prog 256 = true := by kernel_rfl
theorem mIsFlexShareGroupDescribeRequest : methodP Tryz.prog 67 "IsFlexible" = some (257,true) := by kernel_rfl
theorem kIsFlexShareGroupDescribeRequest : callable Tryz.prog 257 = true := by kernel_rfl
theorem mAppShareGroupDescribeRequest : methodP Tryz.prog 67 "AppendTo" = some (255,true) := by kernel_rfl
theorem kAppShareGroupDescribeRequest : callable Tryz.prog 255 = true := by kernel_rfl
theorem recvShareGroupDescribeRequest : recvOk Tryz.prog 67 true = true := by kernel_rfl

set_option maxHeartbeats 2000000 in
theorem reqShareGroupDescribeRequest {d : Nat} {ver : Int} {vb B : Nat} {cells : List Value} {t : Tree} (hlo : 0 ≤ ver) (hhi : ver ≤ 1) (hvb : vb < B) (hcn : partS (d + 1) fs_ShareGroupDescribeRequest ver (flexB 0 ver) (cnP (d + 1) ver (flexB 0 ver) fs_ShareGroupDescribeRequest t) = (partS (d + 1) fs_ShareGroupDescribeRequest ver (flexB 0 ver) t) ∧ FitW ver (d + 1) fs_ShareGroupDescribeRequest (cnP (d + 1) ver (flexB 0 ver) fs_ShareGroupDescribeRequest t)) (hl : (partS (d + 1) fs_ShareGroupDescribeRequest ver (flexB 0 ver) t).length ≤ 2 ^ 40) :
    ReqOk Tryz.prog 5 67 (.pointer (some ⟨vb,0,none⟩)) B 77 ver (flexB 0 ver) (partS (d + 1) fs_ShareGroupDescribeRequest ver (flexB 0 ver) t) (fun w => (blk w vb = some ((.int .i16 ver :: cells).toArray,115,(0,0))) ∧ RepS true (d + 1) fs_ShareGroupDescribeRequest (fun b => b < B) w (cnP (d + 1) ver (flexB 0 ver) fs_ShareGroupDescribeRequest t) cells) := by
  refine ⟨fun w w' h hu => ⟨hu.blk_some h.1 (by omega),?_⟩,recvShareGroupDescribeRequest,⟨_,mKeyShareGroupDescribeRequest,kKeyShareGroupDescribeRequest,fun w _ => KeyShareGroupDescribeRequest_fn w vb⟩,⟨_,mGetVShareGroupDescribeRequest,kGetVShareGroupDescribeRequest,fun w h => GetVShareGroupDescribeRequest_fn w h.1⟩,⟨_,mIsFlexShareGroupDescribeRequest,kIsFlexShareGroupDescribeRequest,fun w h => IsFlexShareGroupDescribeRequest_fn w hlo hhi h.1⟩,⟨_,mAppShareGroupDescribeRequest,kAppShareGroupDescribeRequest,fun w v s B' h hB hB' ho hs => ?_⟩⟩
  · exact (RepS_lay true (d + 1) fs_ShareGroupDescribeRequest).keep h.2 (hu.keeps fun b _ hk hb => by omega)
  have hcl : (0 ≤ ver ∧ ver ≤ 1) := by omega
  rcases hcl with ⟨h1,h2⟩
  · have hfl : flexB 0 ver = true := by simp only [flexB,Bool.and_eq_true,decide_eq_true_eq];omega
    rw [hfl] at hcn h hl ⊢
    refine (appShareGroupDescribeRequest_0 (d := d) (B := B') h1 h2 _ cells v s w ho hB' h.1 h.2 hcn.2 (fun b hb h1 h2 => by have := Own.above ho h2;omega) (fun h => by have := Own.above ho h;omega) (by rw [hcn.1];omega)).mono ?_
    intro r w' h6
    rw [hcn.1] at h6
    exact h6

set_option maxHeartbeats 2000000 in
theorem FrameShareGroupDescribeRequest_fn {d : Nat} {ok : Blocks} {ev : Value} (ver : Nat) (hv : ver ≤ 1) (t : Tree) (has : Bool) (id : List UInt8) (number : Int) (b : Value) (w : World) (hb : BytesV ok w b (partS (d + 1) fs_ShareGroupDescribeRequest ver (flexB 0 ver) t)) (hG : Glo ev w) (hrd : rdP (d + 1) ver (flexB 0 ver) fs_ShareGroupDescribeRequest (some (partS (d + 1) fs_ShareGroupDescribeRequest ver (flexB 0 ver) t)) = (cnP (d + 1) ver (flexB 0 ver) fs_ShareGroupDescribeRequest t,some []))
    (hcn : partS (d + 1) fs_ShareGroupDescribeRequest ver (flexB 0 ver) (cnP (d + 1) ver (flexB 0 ver) fs_ShareGroupDescribeRequest t) = (partS (d + 1) fs_ShareGroupDescribeRequest ver (flexB 0 ver) t) ∧ FitW ver (d + 1) fs_ShareGroupDescribeRequest (cnP (d + 1) ver (flexB 0 ver) fs_ShareGroupDescribeRequest t)) (hl : (partS (d + 1) fs_ShareGroupDescribeRequest ver (flexB 0 ver) t).length ≤ 2 ^ 40) (hid : id.length ≤ 32767) (hkv : ¬ ((77 : Int) = 7 ∧ (ver : Int) = 0)) :
    Fn Tryz.prog 36 #[.agg #[.bool has,strV id],.int .i32 number,.int .i64 ver,b] w fun r w' => (∃ v,r = .tuple #[v,.bool true] ∧ OwnBy 5 w.heap.size w' v (frameS 77 ver number (!has) id (flexB 0 ver) (partS (d + 1) fs_ShareGroupDescribeRequest ver (flexB 0 ver) t))) ∧ Ext w w' := by
  obtain ⟨ba,bc,rfl,_⟩ := hb.shape
  have hgl := hG.lt
  have ew : IntKind.i16.wrap (ver : Int) = ver := i16_wrap (by omega)
  have hE0 : Ext w (w.alloc (.cells #[.bool has,strV id] 23)) := Upd.alloc (Upd.refl _ _) _
  have hz0 : (w.alloc (.cells #[.bool has,strV id] 23)).heap.size = w.heap.size + 1 := World.size_alloc _ _
  have hi0 : blk (w.alloc (.cells #[.bool has,strV id] 23)) w.heap.size = some (#[.bool has,strV id],23,(0,0)) := blk_alloc_new rfl
  refine fn_of_W Tryz.func36 rfl Tryz.results36 Tryz.ntmps36 rfl ?_
  repeat ((first | refine qA rfl ?_|refine qB ?_|refine qC rfl ?_|refine qD ?_|refine qE ?_|refine qF ?_|refine qG ?_|refine qH ?_);try simp (maxSteps:=1000000)(disch:=(first|omega|(simp only [qI,qJ,qK]<;>omega)|exact qL _)) only [go_sem,↓reduceIte,n0,reduceCtorEq,n1,n2,n3,n4,n5,i0,i1,i2,i3,i4,i5,i6,i7,ew,cells_strV,flat_strV])
  generalize (w.alloc (.cells #[.bool has,strV id] 23)) = w0 at *
  refine (NewPtrShareGroupDescribeRequest_fn w0).mono ?_
  rintro _ w1 ⟨rfl,hb1,hE1⟩
  have hz1 := blk_lt hb1
  repeat ((first | refine qA rfl ?_|refine qB ?_|refine qC rfl ?_|refine qD ?_|refine qE ?_|refine qF ?_|refine qG ?_|refine qH ?_);try simp (maxSteps:=1000000)(disch:=(first|omega|(simp only [qI,qJ,qK]<;>omega)|exact qL _)) only [go_sem,↓reduceIte,n0,reduceCtorEq,n1,n2,n3,n4,n5,i0,i1,i2,i3,i4,i5,i6,i7,ew])
  refine (SetVersionShareGroupDescribeRequest_fn w1 (vb := w0.heap.size) ver hb1).mono ?_
  rintro _ w2 ⟨hb2,hU2⟩
  have hz2 := hU2.size
  have hE2 : Ext w0 w2 := hE1.more hU2 fun b hb h => by omega
  repeat ((first | refine qA rfl ?_|refine qB ?_|refine qC rfl ?_|refine qD ?_|refine qE ?_|refine qF ?_|refine qG ?_|refine qH ?_);try simp (maxSteps:=1000000)(disch:=(first|omega|(simp only [qI,qJ,qK]<;>omega)|exact qL _)) only [go_sem,↓reduceIte,n0,reduceCtorEq,n1,n2,n3,n4,n5,i0,i1,i2,i3,i4,i5,i6,i7,ew])
  refine wp_copyN ap_24_24 (ok := ok) (s := (partS (d + 1) fs_ShareGroupDescribeRequest ver (flexB 0 ver) t)) (v := .slice ba _ bc) (by first | rfl | simp (maxSteps:=1000000)(disch:=(first|omega|(simp only [qI,qJ,qK]<;>omega)|exact qL _)) only [go_sem,↓reduceIte,n0,reduceCtorEq,n1,n2,n3,n4,n5,i0,i1,i2,i3,i4,i5,i6,i7]) (by first | rfl | simp (maxSteps:=1000000)(disch:=(first|omega|(simp only [qI,qJ,qK]<;>omega)|exact qL _)) only [go_sem,↓reduceIte,n0,reduceCtorEq,n1,n2,n3,n4,n5,i0,i1,i2,i3,i4,i5,i6,i7]) (hb.keep (Ext.keeps (hE0.trans hE2) _)) (by omega) ?_
  intro v3 w3 ho3 hE3 hf3
  have hz3 := hE3.size
  have hb3 := hE3.blk_some hb2 _root_.id
  have hG3 : Glo ev w3 := hG.updS ((hE0.trans hE2).trans hE3) _root_.id _root_.id
  obtain ⟨a3,c3,rfl,_⟩ := ho3.shape
  try simp (maxSteps:=1000000)(disch:=(first|omega|(simp only [qI,qJ,qK]<;>omega)|exact qL _)) only [go_sem,↓reduceIte,n0,reduceCtorEq,n1,n2,n3,n4,n5,i0,i1,i2,i3,i4,i5,i6,i7]
  refine (ReadFromShareGroupDescribeRequest_fn (d := d) (ok := fun b => b < w3.heap.size ∧ b ≠ w0.heap.size) (ev := ev) (ver := ver) (by omega) (by omega) w3 _ _ hb3 ((Own.bytes ho3 hf3).weaken fun b hb hk => ⟨hb,by omega⟩) (fun b hb => hb) hG3 ⟨by omega,by omega⟩).mono ?_
  rintro r4 w4 ⟨_,h4,hU4⟩
  rw [hrd] at h4
  obtain ⟨rfl,cells,hb4,hR4⟩ := h4 (by simp)
  have hz4 := hU4.size
  have hE4 : Ext w0 w4 := (hE2.trans hE3).more hU4 fun b hb h => by omega
  have hE04 := hE0.trans hE4
  have hi4 := hE4.blk_some hi0 _root_.id
  have hR4' : RepS true (d + 1) fs_ShareGroupDescribeRequest (fun b => b < w4.heap.size) w4 (cnP (d + 1) ver (flexB 0 ver) fs_ShareGroupDescribeRequest t) cells := (RepS_lay true (d + 1) fs_ShareGroupDescribeRequest).weaken hR4 fun b hb _ => hb
  try simp (maxSteps:=1000000)(disch:=(first|omega|(simp only [qI,qJ,qK]<;>omega)|exact qL _)) only [go_sem,↓reduceIte,n0,reduceCtorEq,n1,n2,n3,n4,n5,i0,i1,i2,i3,i4,i5,i6,i7]
  repeat ((first | refine qA rfl ?_|refine qB ?_|refine qC rfl ?_|refine qD ?_|refine qE ?_|refine qF ?_|refine qG ?_|refine qH ?_);try simp (maxSteps:=1000000)(disch:=(first|omega|(simp only [qI,qJ,qK]<;>omega)|exact qL _)) only [go_sem,↓reduceIte,n0,reduceCtorEq,n1,n2,n3,n4,n5,i0,i1,i2,i3,i4,i5,i6,i7,hi4,cellsAt_two])
  refine (framed_fn (reqShareGroupDescribeRequest (d := d) (B := w4.heap.size) (vb := w0.heap.size) (cells := cells) (t := t) (by omega) (by omega) (by omega) hcn hl) rfl w4 ⟨hb4,hR4'⟩ (Nat.le_refl _) has id hid hl number hkv).mono ?_
  rintro r5 w5 ⟨ho5,hE5⟩
  obtain ⟨a5,c5,rfl,_⟩ := ho5.shape
  try simp (maxSteps:=1000000)(disch:=(first|omega|(simp only [qI,qJ,qK]<;>omega)|exact qL _)) only [go_sem,↓reduceIte,n0,reduceCtorEq,n1,n2,n3,n4,n5,i0,i1,i2,i3,i4,i5,i6,i7]
  repeat ((first | refine qA rfl ?_|refine qB ?_|refine qC rfl ?_|refine qD ?_|refine qE ?_|refine qF ?_|refine qG ?_|refine qH ?_);try simp (maxSteps:=1000000)(disch:=(first|omega|(simp only [qI,qJ,qK]<;>omega)|exact qL _)) only [go_sem,↓reduceIte,n0,reduceCtorEq,n1,n2,n3,n4,n5,i0,i1,i2,i3,i4,i5,i6,i7])
  exact ⟨⟨_,rfl,Own.mono ho5 hE04.size⟩,hE04.trans hE5⟩

end Ms

namespace Ms
open Go.World renaming size_alloc → qI
open Ms renaming size_wr → qJ,size_drew → qK,not_noB → qL
open W renaming seqR → qA,seq → qB,regR → qC,condK → qD,block → qE,skip → qF,ret → qG,exit → qH
open Nat renaming reduceEqDiff → n0,reduceAdd → n1,reduceMul → n2,reduceSub → n3,reduceLT → n4,reduceLeDiff → n5
open Int renaming reduceEq → i0,reduceLT → i1,reduceLE → i2,reduceNeg → i3,reduceAdd → i4,reduceSub → i5,reduceMul → i6,reduceToNat → i7
set_option maxRecDepth 8000
open Go Go.Proofs Go.Shelf
attribute [local congr] W_congr WPsq_congr WPp_congr optK_congr addrK_congr intK_congr boolK_congr sliceK_congr tupleK_congr funcK_congr Fn_congr rawK_congr takeK_congr stepK_congr convK_congr aggK_congr

set_option maxHeartbeats 4000000 in
theorem law_FrameShareGroupDescribeRequest {ok : Blocks} {ev : Value} (n : Nat) (hn : n < 256) (has : Bool) (id : List UInt8) (number : Int) (hnum : -2147483648 ≤ number ∧ number < 2147483648) (t : Tree) (ct : List Value) (w : World) (ht : TreeC ok w t ct) (hsm : Small 4611686018427387903 t) (hG : Glo ev w) {N : Nat} (hN : N ≤ 1048576) (hsz : Sized N t) :
    Fn Tryz.prog 8 #[.int .u8 n,.agg #[.bool has,strV id],.int .i32 number,.agg ct.toArray] w fun r w' => r = .bool true ∧ Ext w w' := by
  obtain ⟨vS,vL,vU,rfl,hn',hS,hL,hU⟩ := ht.inv
  have f1 := hS.flat
  have f2 := SlR.flat hL
  have f3 := SlR.flat hU
  have hE : Ext w ((w.alloc (.cells #[.bool has,strV id] 23)).alloc (.cells #[.int .i64 t.n,vS,.bool t.null,vL,vU] 28)) := Upd.alloc (Upd.alloc (Upd.refl _ _) _) _
  refine fn_of_W Tryz.func8 rfl Tryz.results8 Tryz.ntmps8 rfl ?_
  repeat ((first | refine qA rfl ?_|refine qB ?_|refine qC rfl ?_|refine qD ?_|refine qE ?_|refine qF ?_|refine qG ?_|refine qH ?_);try simp (maxSteps:=1000000)(disch:=(first|omega|(simp only [qI,qJ,qK]<;>omega)|exact qL _)) only [go_sem,↓reduceIte,n0,reduceCtorEq,n1,n2,n3,n4,n5,i0,i1,i2,i3,i4,i5,i6,i7,f1,f2,f3,cellsAt_five,cellsAt_two,cells_strV,flat_strV])
  have hi1 : blk ((w.alloc (.cells #[.bool has,strV id] 23)).alloc (.cells #[.int .i64 t.n,vS,.bool t.null,vL,vU] 28)) w.heap.size = some (#[.bool has,strV id],23,(0,0)) := by simp (maxSteps:=1000000)(disch:=(first|omega|(simp only [qI,qJ,qK]<;>omega)|exact qL _)) only [go_sem,↓reduceIte,n0,reduceCtorEq,n1,n2,n3,n4,n5,i0,i1,i2,i3,i4,i5,i6,i7]
  have hb : blk ((w.alloc (.cells #[.bool has,strV id] 23)).alloc (.cells #[.int .i64 t.n,vS,.bool t.null,vL,vU] 28)) (w.heap.size + 1) = some (#[.int .i64 t.n,vS,.bool t.null,vL,vU],28,(0,0)) := by simp (maxSteps:=1000000)(disch:=(first|omega|(simp only [qI,qJ,qK]<;>omega)|exact qL _)) only [go_sem,↓reduceIte,n0,reduceCtorEq,n1,n2,n3,n4,n5,i0,i1,i2,i3,i4,i5,i6,i7]
  generalize ((w.alloc (.cells #[.bool has,strV id] 23)).alloc (.cells #[.int .i64 t.n,vS,.bool t.null,vL,vU] 28)) = w1 at *
  refine (zzFits4_fn has id w1).mono ?_
  rintro r2 w2 ⟨⟨b4,rfl⟩,hE2⟩
  have hE02 := hE.trans hE2
  have hi2 := hE2.blk_some hi1 _root_.id
  have hb2 := hE2.blk_some hb _root_.id
  cases b4 with
  | false =>
    try simp (maxSteps:=1000000)(disch:=(first|omega|(simp only [qI,qJ,qK]<;>omega)|exact qL _)) only [go_sem,↓reduceIte,n0,reduceCtorEq,n1,n2,n3,n4,n5,i0,i1,i2,i3,i4,i5,i6,i7]
    repeat ((first | refine qA rfl ?_|refine qB ?_|refine qC rfl ?_|refine qD ?_|refine qE ?_|refine qF ?_|refine qG ?_|refine qH ?_);try simp (maxSteps:=1000000)(disch:=(first|omega|(simp only [qI,qJ,qK]<;>omega)|exact qL _)) only [go_sem,↓reduceIte,n0,reduceCtorEq,n1,n2,n3,n4,n5,i0,i1,i2,i3,i4,i5,i6,i7])
    all_goals exact hE02
  | true =>
    try simp (maxSteps:=1000000)(disch:=(first|omega|(simp only [qI,qJ,qK]<;>omega)|exact qL _)) only [go_sem,↓reduceIte,n0,reduceCtorEq,n1,n2,n3,n4,n5,i0,i1,i2,i3,i4,i5,i6,i7,hb2,cellsAt_five]
    refine (zzFits1_fn (ok := ok) t _ w2 (ht.keep (Ext.keeps hE02 _)) hsm).mono ?_
    rintro r3 w3 ⟨⟨bb,rfl⟩,hE3⟩
    have hE03 := hE02.trans hE3
    have hi3 := hE3.blk_some hi2 _root_.id
    have hb3 := hE3.blk_some hb2 _root_.id
    cases bb with
    | false =>
      try simp (maxSteps:=1000000)(disch:=(first|omega|(simp only [qI,qJ,qK]<;>omega)|exact qL _)) only [go_sem,↓reduceIte,n0,reduceCtorEq,n1,n2,n3,n4,n5,i0,i1,i2,i3,i4,i5,i6,i7]
      repeat ((first | refine qA rfl ?_|refine qB ?_|refine qC rfl ?_|refine qD ?_|refine qE ?_|refine qF ?_|refine qG ?_|refine qH ?_);try simp (maxSteps:=1000000)(disch:=(first|omega|(simp only [qI,qJ,qK]<;>omega)|exact qL _)) only [go_sem,↓reduceIte,n0,reduceCtorEq,n1,n2,n3,n4,n5,i0,i1,i2,i3,i4,i5,i6,i7])
      all_goals exact hE03
    | true =>
      try simp (maxSteps:=1000000)(disch:=(first|omega|(simp only [qI,qJ,qK]<;>omega)|exact qL _)) only [go_sem,↓reduceIte,n0,reduceCtorEq,n1,n2,n3,n4,n5,i0,i1,i2,i3,i4,i5,i6,i7]
      repeat ((first | refine qA rfl ?_|refine qB ?_|refine qC rfl ?_|refine qD ?_|refine qE ?_|refine qF ?_|refine qG ?_|refine qH ?_);try simp (maxSteps:=1000000)(disch:=(first|omega|(simp only [qI,qJ,qK]<;>omega)|exact qL _)) only [go_sem,↓reduceIte,n0,reduceCtorEq,n1,n2,n3,n4,n5,i0,i1,i2,i3,i4,i5,i6,i7])
      refine (MaxShareGroupDescribeRequest_fn w3).mono ?_
      rintro _ w3m ⟨rfl,hE3m⟩
      repeat ((first | refine qA rfl ?_|refine qB ?_|refine qC rfl ?_|refine qD ?_|refine qE ?_|refine qF ?_|refine qG ?_|refine qH ?_);try simp (maxSteps:=1000000)(disch:=(first|omega|(simp only [qI,qJ,qK]<;>omega)|exact qL _)) only [go_sem,↓reduceIte,n0,reduceCtorEq,n1,n2,n3,n4,n5,i0,i1,i2,i3,i4,i5,i6,i7])
      refine (cShareGroupDescribeRequest_fn w3m).mono ?_
      rintro r4 w4 ⟨⟨vs,rfl,hF0⟩,hE4⟩
      have hF : FldsV AnyB w4 vs fs_ShareGroupDescribeRequest := hF0.weaken fun _ _ _ => trivial
      have fF := SlR.flat hF
      try simp (maxSteps:=1000000)(disch:=(first|omega|(simp only [qI,qJ,qK]<;>omega)|exact qL _)) only [go_sem,↓reduceIte,n0,reduceCtorEq,n1,n2,n3,n4,n5,i0,i1,i2,i3,i4,i5,i6,i7]
      refine (version_fn w4 n 1 hn (by decide)).mono ?_
      rintro _ w4v ⟨rfl,rfl⟩
      have hE04 : Ext w w4v := (hE03.trans hE3m).trans hE4
      have hi4 := hE4.blk_some (hE3m.blk_some hi3 _root_.id) _root_.id
      have hb4 := hE4.blk_some (hE3m.blk_some hb3 _root_.id) _root_.id
      have hE5 : Ext w4v (wr (w4v.alloc (.cells #[.slice none 0 0,.int .i64 0] 34)) w4v.heap.size 0 [vs,.int .i64 0]) := (Upd.alloc (Upd.refl _ _) _).wr _ _ (.inl (Nat.le_refl _))
      have hm5 : blk (wr (w4v.alloc (.cells #[.slice none 0 0,.int .i64 0] 34)) w4v.heap.size 0 [vs,.int .i64 0]) w4v.heap.size = some (#[vs,.int .i64 0],34,(0,0)) := by simp (maxSteps:=1000000)(disch:=(first|omega|(simp only [qI,qJ,qK]<;>omega)|exact qL _)) only [go_sem,↓reduceIte,n0,reduceCtorEq,n1,n2,n3,n4,n5,i0,i1,i2,i3,i4,i5,i6,i7]
      try simp (maxSteps:=1000000)(disch:=(first|omega|(simp only [qI,qJ,qK]<;>omega)|exact qL _)) only [go_sem,↓reduceIte,n0,reduceCtorEq,n1,n2,n3,n4,n5,i0,i1,i2,i3,i4,i5,i6,i7,fF]
      generalize (wr (w4v.alloc (.cells #[.slice none 0 0,.int .i64 0] 34)) w4v.heap.size 0 [vs,.int .i64 0]) = w5 at *
      have hi5 := hE5.blk_some hi4 _root_.id
      have hb5 := hE5.blk_some hb4 _root_.id
      have hv3 : n % 2 < 2 := Nat.mod_lt _ (by omega)
      generalize n % 2 = ver at *
      have hE05 : Ext w w5 := hE04.trans hE5
      skip
      by_cases hidb : (32767 : Int) < (id.length : Int)
      · repeat ((first | refine qA rfl ?_|refine qB ?_|refine qC rfl ?_|refine qD ?_|refine qE ?_|refine qF ?_|refine qG ?_|refine qH ?_);try simp (maxSteps:=1000000)(disch:=(first|omega|(simp only [qI,qJ,qK]<;>omega)|exact qL _)) only [go_sem,↓reduceIte,n0,reduceCtorEq,n1,n2,n3,n4,n5,i0,i1,i2,i3,i4,i5,i6,i7,hi5,lenV_strV,hidb])
        all_goals exact hE05
      repeat ((first | refine qA rfl ?_|refine qB ?_|refine qC rfl ?_|refine qD ?_|refine qE ?_|refine qF ?_|refine qG ?_|refine qH ?_);try simp (maxSteps:=1000000)(disch:=(first|omega|(simp only [qI,qJ,qK]<;>omega)|exact qL _)) only [go_sem,↓reduceIte,n0,reduceCtorEq,n1,n2,n3,n4,n5,i0,i1,i2,i3,i4,i5,i6,i7,hi5,lenV_strV,hidb,hb5,hm5,cellsAt_five,cellsAt_two])
      have hokF : okF 1 fs_ShareGroupDescribeRequest = true := by decide
      have hokM : okM 1 fs_ShareGroupDescribeRequest = true := by decide
      have hokR : okR 1 ver (flexB 0 ver) fs_ShareGroupDescribeRequest = true := (by decide : ∀ v : Fin 2,okR 1 ((v.val : Nat) : Int) (flexB 0 ((v.val : Nat) : Int)) fs_ShareGroupDescribeRequest = true) ⟨ver,hv3⟩
      have hpl : (partS 2 fs_ShareGroupDescribeRequest ver (flexB 0 ver) t).length ≤ 2 ^ 40 := Nat.le_trans (partS_bound ver _ 1 fs_ShareGroupDescribeRequest N t hokM hsz) (Nat.le_trans (Nat.mul_le_mul_left _ (Nat.succ_le_succ hN)) (by decide))
      refine (Write_fn (ok := AnyB) (d := 1) fs_ShareGroupDescribeRequest 0 ver t vs _ w5 (hF.keep (Ext.keeps hE5 _)) hokF ((ht.weaken fun _ _ _ => trivial).keep (Ext.keeps hE05 _)) hsm hpl).mono ?_
      rintro r6 w6 ⟨ho6,hE6⟩
      have hE06 := hE05.trans hE6
      have hi6 := hE6.blk_some hi5 _root_.id
      obtain ⟨a6,c6,rfl,_⟩ := ho6.shape
      repeat ((first | refine qA rfl ?_|refine qB ?_|refine qC rfl ?_|refine qD ?_|refine qE ?_|refine qF ?_|refine qG ?_|refine qH ?_);try simp (maxSteps:=1000000)(disch:=(first|omega|(simp only [qI,qJ,qK]<;>omega)|exact qL _)) only [go_sem,↓reduceIte,n0,reduceCtorEq,n1,n2,n3,n4,n5,i0,i1,i2,i3,i4,i5,i6,i7,hi6,cellsAt_two])
      have hrd := (rdP_part ver (flexB 0 ver) 1 fs_ShareGroupDescribeRequest N t hokR hsz).1 []
      rw [List.append_nil] at hrd
      refine (FrameShareGroupDescribeRequest_fn (d := 1) (ok := AnyB) (ev := ev) ver (by omega) t has id number _ w6 (Own.bytes (ok := AnyB) ho6 fun _ _ => trivial) (hG.updS hE06 _root_.id _root_.id) hrd (partS_cn ver (flexB 0 ver) 1 fs_ShareGroupDescribeRequest t hokR) hpl (by omega) (by omega)).mono ?_
      rintro _ w7 ⟨⟨v7,rfl,ho7⟩,hE7⟩
      have hE07 := hE06.trans hE7
      obtain ⟨a7,c7,rfl,_⟩ := ho7.shape
      have hi7 := hE7.blk_some hi6 _root_.id
      have hm7 := (hE6.trans hE7).blk_some hm5 _root_.id
      try simp (maxSteps:=1000000)(disch:=(first|omega|(simp only [qI,qJ,qK]<;>omega)|exact qL _)) only [go_sem,↓reduceIte,n0,reduceCtorEq,n1,n2,n3,n4,n5,i0,i1,i2,i3,i4,i5,i6,i7]
      repeat ((first | refine qA rfl ?_|refine qB ?_|refine qC rfl ?_|refine qD ?_|refine qE ?_|refine qF ?_|refine qG ?_|refine qH ?_);try simp (maxSteps:=1000000)(disch:=(first|omega|(simp only [qI,qJ,qK]<;>omega)|exact qL _)) only [go_sem,↓reduceIte,n0,reduceCtorEq,n1,n2,n3,n4,n5,i0,i1,i2,i3,i4,i5,i6,i7])
      have l1 := blk_lt hi7
      have l2 := blk_lt hm7
      refine W.drawR (.take 0 (.take 1 (.take 2 (.take 3 (.take 4 (.take 5 (.take 6 (.take 7 (.take 8 (.take 10 (.take 11 (.take 13 (.two 9 (.only 12 (.only 14 (.only 15 (.take 16 (.only 17 .done))))) 12 (.only 9 (.only 14 (.only 15 (.take 16 (.only 17 .done)))))))))))))))))) NoB mixed (by kernel_rfl) ?_
      have hEd : Ext w7 w7.drew := (Upd.refl _ _).drew
      have hE0d := hE07.trans hEd
      have hB6 := ((Own.bytes (ok := AnyB) ho6 fun _ _ => trivial).keep (Ext.keeps hE7 _)).keep (Ext.keeps hEd _)
      have hB7 := (Own.bytes (ok := AnyB) ho7 fun _ _ => trivial).keep (Ext.keeps hEd _)
      try simp (maxSteps:=1000000)(disch:=(first|omega|(simp only [qI,qJ,qK]<;>omega)|exact qL _)) only [go_sem,↓reduceIte,n0,reduceCtorEq,n1,n2,n3,n4,n5,i0,i1,i2,i3,i4,i5,i6,i7,hi7,hm7,fF,cellsAt_two,cells_strV,flat_strV,convK_strV]
      generalize w7.drew = w7d at *
      have hfl : (frameS 77 ver number (!has) id (flexB 0 ver) (partS 2 fs_ShareGroupDescribeRequest ver (flexB 0 ver) t)).length ≤ 2 ^ 42 := by
        have := frameB_len 77 ver number (!has) id (flexB 0 ver) (partS 2 fs_ShareGroupDescribeRequest ver (flexB 0 ver) t) (by omega)
        simp only [frameS,List.length_append,fixedS_len]
        omega
      have hsame : decide ((frameS 77 ver number (!has) id (flexB 0 ver) (partS 2 fs_ShareGroupDescribeRequest ver (flexB 0 ver) t)) = (frameS 77 ver number (!has) id (flexB 0 ver) (partS 2 fs_ShareGroupDescribeRequest ver (flexB 0 ver) t))) = true := decide_eq_true rfl
      refine ⟨?_,?_⟩
      · skip
        refine wp_octets (S := 9) (T := 24) (E := 5) (s := id) (by kernel_rfl) (by kernel_rfl) (by kernel_rfl) (by first | rfl | simp (maxSteps:=1000000)(disch:=(first|omega|(simp only [qI,qJ,qK]<;>omega)|exact qL _)) only [go_sem,↓reduceIte,n0,reduceCtorEq,n1,n2,n3,n4,n5,i0,i1,i2,i3,i4,i5,i6,i7]) ?_
        intro a8 k8 w8 hB8 hE8
        refine ⟨hE8,?_⟩
        try simp (maxSteps:=1000000)(disch:=(first|omega|(simp only [qI,qJ,qK]<;>omega)|exact qL _)) only [go_sem,↓reduceIte,n0,reduceCtorEq,n1,n2,n3,n4,n5,i0,i1,i2,i3,i4,i5,i6,i7]
        refine (Flexible_fn vs 0 ver fF w8).mono ?_
        rintro _ w9 ⟨rfl,hE9⟩
        have hE89 := hE8.trans hE9
        have hI := (hB8.weaken (ok' := AnyB) fun _ _ _ => trivial).keep (Ext.keeps hE9 _)
        refine ⟨hE89,?_⟩
        try simp (maxSteps:=1000000)(disch:=(first|omega|(simp only [qI,qJ,qK]<;>omega)|exact qL _)) only [go_sem,↓reduceIte,n0,reduceCtorEq,n1,n2,n3,n4,n5,i0,i1,i2,i3,i4,i5,i6,i7]
        refine (Frame_fn 77 ver number hnum has (flexB 0 ver) id (partS 2 fs_ShareGroupDescribeRequest ver (flexB 0 ver) t) _ _ w9 hI (hB6.keep (Ext.keeps hE89 _)) (by omega) hpl).mono ?_
        rintro r10 w10 ⟨ho10,hE10⟩
        have hE810 := hE89.trans hE10
        refine ⟨hE810,?_⟩
        obtain ⟨a10,c10,rfl,_⟩ := ho10.shape
        try simp (maxSteps:=1000000)(disch:=(first|omega|(simp only [qI,qJ,qK]<;>omega)|exact qL _)) only [go_sem,↓reduceIte,n0,reduceCtorEq,n1,n2,n3,n4,n5,i0,i1,i2,i3,i4,i5,i6,i7]
        refine (Same_fn (ok := AnyB) (frameS 77 ver number (!has) id (flexB 0 ver) (partS 2 fs_ShareGroupDescribeRequest ver (flexB 0 ver) t)) (frameS 77 ver number (!has) id (flexB 0 ver) (partS 2 fs_ShareGroupDescribeRequest ver (flexB 0 ver) t)) _ _ w10 (hB7.keep (Ext.keeps hE810 _)) (Own.bytes ho10 fun _ _ => trivial) (by omega)).mono ?_
        rintro _ w11 ⟨rfl,hE11⟩
        refine ⟨hE810.trans hE11,?_⟩
        try simp (maxSteps:=1000000)(disch:=(first|omega|(simp only [qI,qJ,qK]<;>omega)|exact qL _)) only [go_sem,↓reduceIte,n0,reduceCtorEq,n1,n2,n3,n4,n5,i0,i1,i2,i3,i4,i5,i6,i7,hsame]
        try refine ⟨hE810.trans hE11,?_⟩
        repeat ((first | refine qA rfl ?_|refine qB ?_|refine qC rfl ?_|refine qD ?_|refine qE ?_|refine qF ?_|refine qG ?_|refine qH ?_);try simp (maxSteps:=1000000)(disch:=(first|omega|(simp only [qI,qJ,qK]<;>omega)|exact qL _)) only [go_sem,↓reduceIte,n0,reduceCtorEq,n1,n2,n3,n4,n5,i0,i1,i2,i3,i4,i5,i6,i7,hsame])
        all_goals exact hE0d.trans (hE810.trans hE11)
      · skip
        refine (Flexible_fn vs 0 ver fF w7d).mono ?_
        rintro _ w8 ⟨rfl,hE8⟩
        refine ⟨hE8,?_⟩
        try simp (maxSteps:=1000000)(disch:=(first|omega|(simp only [qI,qJ,qK]<;>omega)|exact qL _)) only [go_sem,↓reduceIte,n0,reduceCtorEq,n1,n2,n3,n4,n5,i0,i1,i2,i3,i4,i5,i6,i7,convK_strV]
        refine wp_octets (S := 9) (T := 24) (E := 5) (s := id) (by kernel_rfl) (by kernel_rfl) (by kernel_rfl) (by first | rfl | simp (maxSteps:=1000000)(disch:=(first|omega|(simp only [qI,qJ,qK]<;>omega)|exact qL _)) only [go_sem,↓reduceIte,n0,reduceCtorEq,n1,n2,n3,n4,n5,i0,i1,i2,i3,i4,i5,i6,i7]) ?_
        intro a8 k8 w9 hB8 hE9
        have hE89 := hE8.trans hE9
        have hI := hB8.weaken (ok' := AnyB) fun _ _ _ => trivial
        refine ⟨hE89,?_⟩
        try simp (maxSteps:=1000000)(disch:=(first|omega|(simp only [qI,qJ,qK]<;>omega)|exact qL _)) only [go_sem,↓reduceIte,n0,reduceCtorEq,n1,n2,n3,n4,n5,i0,i1,i2,i3,i4,i5,i6,i7]
        refine (Frame_fn 77 ver number hnum has (flexB 0 ver) id (partS 2 fs_ShareGroupDescribeRequest ver (flexB 0 ver) t) _ _ w9 hI (hB6.keep (Ext.keeps hE89 _)) (by omega) hpl).mono ?_
        rintro r10 w10 ⟨ho10,hE10⟩
        have hE810 := hE89.trans hE10
        refine ⟨hE810,?_⟩
        obtain ⟨a10,c10,rfl,_⟩ := ho10.shape
        try simp (maxSteps:=1000000)(disch:=(first|omega|(simp only [qI,qJ,qK]<;>omega)|exact qL _)) only [go_sem,↓reduceIte,n0,reduceCtorEq,n1,n2,n3,n4,n5,i0,i1,i2,i3,i4,i5,i6,i7]
        refine (Same_fn (ok := AnyB) (frameS 77 ver number (!has) id (flexB 0 ver) (partS 2 fs_ShareGroupDescribeRequest ver (flexB 0 ver) t)) (frameS 77 ver number (!has) id (flexB 0 ver) (partS 2 fs_ShareGroupDescribeRequest ver (flexB 0 ver) t)) _ _ w10 (hB7.keep (Ext.keeps hE810 _)) (Own.bytes ho10 fun _ _ => trivial) (by omega)).mono ?_
        rintro _ w11 ⟨rfl,hE11⟩
        refine ⟨hE810.trans hE11,?_⟩
        try simp (maxSteps:=1000000)(disch:=(first|omega|(simp only [qI,qJ,qK]<;>omega)|exact qL _)) only [go_sem,↓reduceIte,n0,reduceCtorEq,n1,n2,n3,n4,n5,i0,i1,i2,i3,i4,i5,i6,i7,hsame]
        try refine ⟨hE810.trans hE11,?_⟩
        repeat ((first | refine qA rfl ?_|refine qB ?_|refine qC rfl ?_|refine qD ?_|refine qE ?_|refine qF ?_|refine qG ?_|refine qH ?_);try simp (maxSteps:=1000000)(disch:=(first|omega|(simp only [qI,qJ,qK]<;>omega)|exact qL _)) only [go_sem,↓reduceIte,n0,reduceCtorEq,n1,n2,n3,n4,n5,i0,i1,i2,i3,i4,i5,i6,i7,hsame])
        all_goals exact hE0d.trans (hE810.trans hE11)

end Ms

