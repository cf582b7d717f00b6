/- A part of the proof: see the last text. -/
import Derived.Test.YtmlpaobpdmgcgaaDoorC05
import Derived.Test.YtmlpaobpdmgcgaaDoorC06
import Derived.Test.YtmlpaobpdmgcgaaDoorC08
import Derived.Test.YtmlpaobpdmgcgaaDoorC09
import Derived.Test.YtmlpaobpdmgcgaaDoorC11
set_option linter.unusedSimpArgs false
set_option linter.unusedVariables false
namespace Ms
open Nat renaming reduceEqDiff → n0,reduceAdd → n1,reduceMul → n2,reduceSub → n3,reduceLT → n4,reduceLeDiff → n5
open Int renaming reduceEq → i0,reduceLT → i1,reduceLE → i2,reduceNeg → i3,reduceAdd → i4,reduceSub → i5,reduceMul → i6,reduceToNat → i7
set_option maxRecDepth 4000
open Go Go.Proofs
theorem ap_35_35 : AppT Tryd.prog 35 35 68 2 32 := AppT.of (by kernel_rfl)
theorem ca_10 : callable Tryd.prog 10 = true := nr (by kernel_rfl)
theorem ca_12 : callable Tryd.prog 12 = true := nr (by kernel_rfl)
theorem ca_16 : callable Tryd.prog 16 = true := nr (by kernel_rfl)
theorem ca_17 : callable Tryd.prog 17 = true := nr (by kernel_rfl)
theorem ca_18 : callable Tryd.prog 18 = true := nr (by kernel_rfl)
theorem ca_19 : callable Tryd.prog 19 = true := nr (by kernel_rfl)
theorem ca_41 : callable Tryd.prog 41 = true := nr (by kernel_rfl)
theorem ca_42 : callable Tryd.prog 42 = true := nr (by kernel_rfl)
theorem ca_43 : callable Tryd.prog 43 = true := nr (by kernel_rfl)
theorem ca_44 : callable Tryd.prog 44 = true := nr (by kernel_rfl)
theorem ca_45 : callable Tryd.prog 45 = true := nr (by kernel_rfl)
theorem ca_46 : callable Tryd.prog 46 = true := nr (by kernel_rfl)
theorem ca_62 : callable Tryd.prog 62 = true := nr (by kernel_rfl)
theorem ca_64 : callable Tryd.prog 64 = true := nr (by kernel_rfl)
theorem ca_7 : callable Tryd.prog 7 = true := nr (by kernel_rfl)
theorem ca_72 : callable Tryd.prog 72 = true := nr (by kernel_rfl)
theorem ca_73 : callable Tryd.prog 73 = true := nr (by kernel_rfl)
theorem ca_74 : callable Tryd.prog 74 = true := nr (by kernel_rfl)
theorem ca_82 : callable Tryd.prog 82 = true := nr (by kernel_rfl)
theorem ca_83 : callable Tryd.prog 83 = true := nr (by kernel_rfl)
theorem ca_84 : callable Tryd.prog 84 = true := nr (by kernel_rfl)
theorem ca_89 : callable Tryd.prog 89 = true := nr (by kernel_rfl)
theorem ca_90 : callable Tryd.prog 90 = true := nr (by kernel_rfl)
theorem ca_91 : callable Tryd.prog 91 = true := nr (by kernel_rfl)
theorem ca_92 : callable Tryd.prog 92 = true := nr (by kernel_rfl)
theorem fo_99_0 : fieldOff Tryd.prog 99 0 = some 0 := nr (by kernel_rfl)
theorem fo_99_1 : fieldOff Tryd.prog 99 1 = some 1 := nr (by kernel_rfl)
theorem fo_99_2 : fieldOff Tryd.prog 99 2 = some 2 := nr (by kernel_rfl)
theorem fo_99_3 : fieldOff Tryd.prog 99 3 = some 3 := nr (by kernel_rfl)
theorem fo_99_4 : fieldOff Tryd.prog 99 4 = some 4 := nr (by kernel_rfl)
theorem fo_99_5 : fieldOff Tryd.prog 99 5 = some 5 := nr (by kernel_rfl)
theorem if_55 : isIfaceT Tryd.prog 55 = true := nr (by kernel_rfl)
theorem ld_21 (w : World) (b o : Nat) : loadOf Tryd.prog 21 w ⟨b,o,none⟩ = (blk w b).bind fun x => x.1[o]? := loadOf_one (by kernel_rfl) w b o
theorem ld_31 (w : World) (b o : Nat) : loadOf Tryd.prog 31 w ⟨b,o,none⟩ = (blk w b).bind fun x => cellsAt x.1 o 2 := loadOf_agg (by kernel_rfl) w b o
theorem ld_47 (w : World) (b o : Nat) : loadOf Tryd.prog 47 w ⟨b,o,none⟩ = (blk w b).bind fun x => x.1[o]? := loadOf_one (by kernel_rfl) w b o
theorem ld_97 (w : World) (b o : Nat) : loadOf Tryd.prog 97 w ⟨b,o,none⟩ = (blk w b).bind fun x => x.1[o]? := loadOf_one (by kernel_rfl) w b o
theorem pl_113 : placesOf Tryd.prog 113 = some [(0,1),(1,1)] := nr (by kernel_rfl)
theorem pl_31 : placesOf Tryd.prog 31 = some [(0,1),(1,1)] := nr (by kernel_rfl)
theorem pl_52 : placesOf Tryd.prog 52 = some [(0,1),(1,1),(2,1),(3,1),(4,1),(5,1),(6,1),(7,1)] := nr (by kernel_rfl)
theorem pl_68 : placesOf Tryd.prog 68 = some [(0,1),(1,1)] := nr (by kernel_rfl)
theorem se_35 : slElem Tryd.prog 35 = some (68,2) := nr (by kernel_rfl)
theorem sz_113 (w : World) (b o : Nat) (v : Value) : storeOf Tryd.prog 113 w ⟨b,o,none⟩ v = (blk w b).bind fun x => stO w b o v x 2 := storeOf_n (by kernel_rfl) w b o v
theorem sz_2 (w : World) (b o : Nat) (v : Value) : storeOf Tryd.prog 2 w ⟨b,o,none⟩ v = (blk w b).bind fun x => stO w b o v x 1 := storeOf_n (by kernel_rfl) w b o v
theorem sz_21 (w : World) (b o : Nat) (v : Value) : storeOf Tryd.prog 21 w ⟨b,o,none⟩ v = (blk w b).bind fun x => stO w b o v x 1 := storeOf_n (by kernel_rfl) w b o v
theorem sz_31 (w : World) (b o : Nat) (v : Value) : storeOf Tryd.prog 31 w ⟨b,o,none⟩ v = (blk w b).bind fun x => stO w b o v x 2 := storeOf_n (by kernel_rfl) w b o v
theorem sz_35 (w : World) (b o : Nat) (v : Value) : storeOf Tryd.prog 35 w ⟨b,o,none⟩ v = (blk w b).bind fun x => stO w b o v x 1 := storeOf_n (by kernel_rfl) w b o v
theorem sz_47 (w : World) (b o : Nat) (v : Value) : storeOf Tryd.prog 47 w ⟨b,o,none⟩ v = (blk w b).bind fun x => stO w b o v x 1 := storeOf_n (by kernel_rfl) w b o v
theorem sz_97 (w : World) (b o : Nat) (v : Value) : storeOf Tryd.prog 97 w ⟨b,o,none⟩ v = (blk w b).bind fun x => stO w b o v x 1 := storeOf_n (by kernel_rfl) w b o v
theorem z_113 : zeroOf Tryd.prog 113 = some #[.slice none 0 0,.bool false] := nr (by kernel_rfl)
theorem z_31 : zeroOf Tryd.prog 31 = some #[.slice none 0 0,.int .i64 0] := nr (by kernel_rfl)
theorem z_99 : zeroOf Tryd.prog 99 = some #[.int .i16 0,.pointer none,.int .i32 0,.int .i64 0,.int .i16 0,.map none] := nr (by kernel_rfl)
attribute [go_sem] ca_10 ca_12 ca_16 ca_17 ca_18 ca_19 ca_41 ca_42 ca_43 ca_44 ca_45 ca_46 ca_62 ca_64 ca_7 ca_72 ca_73 ca_74 ca_82 ca_83 ca_84 ca_89 ca_90 ca_91 ca_92 fo_99_0 fo_99_1 fo_99_2 fo_99_3 fo_99_4 fo_99_5 if_55 ld_21 ld_31 ld_47 ld_97 pl_113 pl_31 pl_52 pl_68 se_35 sz_113 sz_2 sz_21 sz_31 sz_35 sz_47 sz_97 z_113 z_31 z_99
end Ms

namespace Ms
open Go.World renaming size_alloc → qI
open Ms renaming size_wr → qJ,size_drew → qK,not_noB → qL
open W renaming seqR → qA,seq → qB,regR → qC,condK → qD,block → qE,skip → qF,ret → qG,exit → qH
open Nat renaming reduceEqDiff → n0,reduceAdd → n1,reduceMul → n2,reduceSub → n3,reduceLT → n4,reduceLeDiff → n5
open Int renaming reduceEq → i0,reduceLT → i1,reduceLE → i2,reduceNeg → i3,reduceAdd → i4,reduceSub → i5,reduceMul → i6,reduceToNat → i7
set_option maxRecDepth 8000
open Go Go.Proofs Go.Shelf
attribute [local congr] W_congr WPsq_congr WPp_congr optK_congr addrK_congr intK_congr boolK_congr sliceK_congr tupleK_congr funcK_congr Fn_congr rawK_congr takeK_congr stepK_congr convK_congr aggK_congr

def fInitProducerIDRequest_0 : Fld := .mk 8 0 (-1) 0 (-1) 0 0 []
def fInitProducerIDRequest_1 : Fld := .mk 3 0 (-1) (-1) (-1) 0 0 []
def fInitProducerIDRequest_2 : Fld := .mk 4 3 (-1) (-1) (-1) (-1) 0 []
def fInitProducerIDRequest_3 : Fld := .mk 2 3 (-1) (-1) (-1) (-1) 0 []
def fs_InitProducerIDRequest : List Fld := [fInitProducerIDRequest_0,fInitProducerIDRequest_1,fInitProducerIDRequest_2,fInitProducerIDRequest_3]

set_option maxHeartbeats 4000000 in
theorem cInitProducerIDRequest_fn (w : World) : Fn Tryd.prog 17 #[] w fun r w' => (∃ vs,r = .agg #[vs,.int .i64 2] ∧ FldsV (fun b => w.heap.size ≤ b) w' vs fs_InitProducerIDRequest) ∧ Ext w w' := by
  refine fn_of_W Tryd.func17 rfl Tryd.results17 Tryd.ntmps17 rfl ?_
  repeat ((first | refine qA rfl ?_|refine qB ?_|refine qC rfl ?_|refine qD ?_|refine qE ?_|refine qF ?_|refine qG ?_|refine qH ?_);try simp (maxSteps:=1000000)(disch:=(first|omega|(simp only [qI,qJ,qK]<;>omega)|exact qL _)) only [go_sem,↓reduceIte,n0,reduceCtorEq,n1,n2,n3,n4,n5,i0,i1,i2,i3,i4,i5,i6,i7,fill_fld,fillN_nil,fillN_int,fillN_slice])
  have hz0 : (w.alloc (.cells #[.slice none 0 0,.int .i64 0] 31)).heap.size = w.heap.size + 1 := World.size_alloc _ _
  repeat ((first | refine qA rfl ?_|refine qB ?_|refine qC rfl ?_|refine qD ?_|refine qE ?_|refine qF ?_|refine qG ?_|refine qH ?_);try simp (maxSteps:=1000000)(disch:=(first|omega|(simp only [qI,qJ,qK]<;>omega)|exact qL _)) only [go_sem,↓reduceIte,n0,reduceCtorEq,n1,n2,n3,n4,n5,i0,i1,i2,i3,i4,i5,i6,i7,fill_fld,fillN_nil,fillN_int,fillN_slice])
  exact ⟨⟨_,rfl,FldsV.litO (fs := fs_InitProducerIDRequest) (css := [[.int .i64 8,.int .i64 0,.int .i64 (-1),.int .i64 0,.int .i64 (-1),.int .i64 0,.int .i64 0,.slice none 0 0],[.int .i64 3,.int .i64 0,.int .i64 (-1),.int .i64 (-1),.int .i64 (-1),.int .i64 0,.int .i64 0,.slice none 0 0],[.int .i64 4,.int .i64 3,.int .i64 (-1),.int .i64 (-1),.int .i64 (-1),.int .i64 (-1),.int .i64 0,.slice none 0 0],[.int .i64 2,.int .i64 3,.int .i64 (-1),.int .i64 (-1),.int .i64 (-1),.int .i64 (-1),.int .i64 0,.slice none 0 0]]) (T := 52) (fr := (0,0)) (by first | omega | (simp only [World.size_alloc];omega)) (by first | (simp (maxSteps:=1000000)(disch:=(first|omega|(simp only [qI,qJ,qK]<;>omega)|exact qL _)) only [go_sem,↓reduceIte,n0,reduceCtorEq,n1,n2,n3,n4,n5,i0,i1,i2,i3,i4,i5,i6,i7];rfl) | rfl) (by simp) (All2.cons (FldC.intro (kind := 8) (FldsV.none _ _)) (All2.cons (FldC.intro (kind := 3) (FldsV.none _ _)) (All2.cons (FldC.intro (kind := 4) (FldsV.none _ _)) (All2.cons (FldC.intro (kind := 2) (FldsV.none _ _)) All2.nil))))⟩,(Upd.wr (Upd.alloc (Upd.alloc (Upd.refl _ _) _) _) _ _ (.inl (Nat.le_refl _)))⟩

theorem DefaultInitProducerIDRequest_fn (w : World) {vb : Nat} {c0 c1 c2 c3 c4 c5 : Value} (hb : blk w vb = some (#[c0,c1,c2,c3,c4,c5],99,(0,0))) :
    Fn Tryd.prog 45 #[.pointer (some ⟨vb,0,none⟩)] w fun _ w' => blk w' vb = some (#[c0,c1,c2,.int .i64 (-1),.int .i16 (-1),c5],99,(0,0)) ∧ Upd (fun b => b = vb) w w' := by
  have hvl := blk_lt hb
  refine fn_of_W Tryd.func45 rfl Tryd.results45 Tryd.ntmps45 rfl ?_
  repeat ((first | refine qA rfl ?_|refine qB ?_|refine qC rfl ?_|refine qD ?_|refine qE ?_|refine qF ?_|refine qG ?_|refine qH ?_);try simp (maxSteps:=1000000)(disch:=(first|omega|(simp only [qI,qJ,qK]<;>omega)|exact qL _)) only [go_sem,↓reduceIte,n0,reduceCtorEq,n1,n2,n3,n4,n5,i0,i1,i2,i3,i4,i5,i6,i7,hb])
  first | (refine (Upd.wr (Upd.wr (Upd.refl _ _) _ _ ?_) _ _ ?_) <;> exact .inr rfl) | (refine ⟨by simp (maxSteps:=1000000)(disch:=(first|omega|(simp only [qI,qJ,qK]<;>omega)|exact qL _)) only [go_sem,↓reduceIte,n0,reduceCtorEq,n1,n2,n3,n4,n5,i0,i1,i2,i3,i4,i5,i6,i7,hb],?_⟩;refine (Upd.wr (Upd.wr (Upd.refl _ _) _ _ ?_) _ _ ?_) <;> exact .inr rfl)

theorem NewPtrInitProducerIDRequest_fn (w : World) : Fn Tryd.prog 41 #[] w fun r w' => r = .pointer (some ⟨w.heap.size,0,none⟩) ∧ blk w' w.heap.size = some (#[.int .i16 0,.pointer none,.int .i32 0,.int .i64 (-1),.int .i16 (-1),.map none],99,(0,0)) ∧ Ext w w' := by
  refine fn_of_W Tryd.func41 rfl Tryd.results41 Tryd.ntmps41 rfl ?_
  repeat ((first | refine qA rfl ?_|refine qB ?_|refine qC rfl ?_|refine qD ?_|refine qE ?_|refine qF ?_|refine qG ?_|refine qH ?_);try simp (maxSteps:=1000000)(disch:=(first|omega|(simp only [qI,qJ,qK]<;>omega)|exact qL _)) only [go_sem,↓reduceIte,n0,reduceCtorEq,n1,n2,n3,n4,n5,i0,i1,i2,i3,i4,i5,i6,i7])
  refine (DefaultInitProducerIDRequest_fn _ (blk_alloc_new rfl)).mono ?_
  rintro _ w1 ⟨hb1,hU1⟩
  have hz := World.size_alloc w (.cells #[.int .i16 0,.pointer none,.int .i32 0,.int .i64 0,.int .i16 0,.map none] 99)
  repeat ((first | refine qA rfl ?_|refine qB ?_|refine qC rfl ?_|refine qD ?_|refine qE ?_|refine qF ?_|refine qG ?_|refine qH ?_);try simp (maxSteps:=1000000)(disch:=(first|omega|(simp only [qI,qJ,qK]<;>omega)|exact qL _)) only [go_sem,↓reduceIte,n0,reduceCtorEq,n1,n2,n3,n4,n5,i0,i1,i2,i3,i4,i5,i6,i7])
  exact ⟨hb1,(Upd.alloc (Upd.refl _ _) _ : Ext w _).more hU1 fun b hb h => by omega⟩

theorem SetVersionInitProducerIDRequest_fn (w : World) {vb : Nat} {c0 c1 c2 c3 c4 c5 : Value} (n : Int) (hb : blk w vb = some (#[c0,c1,c2,c3,c4,c5],99,(0,0))) :
    Fn Tryd.prog 43 #[.pointer (some ⟨vb,0,none⟩),.int .i16 n] w fun _ w' => blk w' vb = some (#[.int .i16 n,c1,c2,c3,c4,c5],99,(0,0)) ∧ Upd (fun b => b = vb) w w' := by
  have hvl := blk_lt hb
  refine fn_of_W Tryd.func43 rfl Tryd.results43 Tryd.ntmps43 rfl ?_
  repeat ((first | refine qA rfl ?_|refine qB ?_|refine qC rfl ?_|refine qD ?_|refine qE ?_|refine qF ?_|refine qG ?_|refine qH ?_);try simp (maxSteps:=1000000)(disch:=(first|omega|(simp only [qI,qJ,qK]<;>omega)|exact qL _)) only [go_sem,↓reduceIte,n0,reduceCtorEq,n1,n2,n3,n4,n5,i0,i1,i2,i3,i4,i5,i6,i7,hb])
  first | exact Upd.wr (Upd.refl _ _) _ _ (.inr rfl) | exact ⟨by simp (maxSteps:=1000000)(disch:=(first|omega|(simp only [qI,qJ,qK]<;>omega)|exact qL _)) only [go_sem,↓reduceIte,n0,reduceCtorEq,n1,n2,n3,n4,n5,i0,i1,i2,i3,i4,i5,i6,i7,hb],Upd.wr (Upd.refl _ _) _ _ (.inr rfl)⟩

theorem MaxInitProducerIDRequest_fn (w : World) : Fn Tryd.prog 16 #[] w fun r w' => r = .int .i64 5 ∧ Ext w w' := by
  refine fn_of_W Tryd.func16 rfl Tryd.results16 Tryd.ntmps16 rfl ?_
  repeat ((first | refine qA rfl ?_|refine qB ?_|refine qC rfl ?_|refine qD ?_|refine qE ?_|refine qF ?_|refine qG ?_|refine qH ?_);try simp (maxSteps:=1000000)(disch:=(first|omega|(simp only [qI,qJ,qK]<;>omega)|exact qL _)) only [go_sem,↓reduceIte,n0,reduceCtorEq,n1,n2,n3,n4,n5,i0,i1,i2,i3,i4,i5,i6,i7])
  refine (NewPtrInitProducerIDRequest_fn w).mono ?_
  rintro _ w1 ⟨rfl,hb1,hE1⟩
  repeat ((first | refine qA rfl ?_|refine qB ?_|refine qC rfl ?_|refine qD ?_|refine qE ?_|refine qF ?_|refine qG ?_|refine qH ?_);try simp (maxSteps:=1000000)(disch:=(first|omega|(simp only [qI,qJ,qK]<;>omega)|exact qL _)) only [go_sem,↓reduceIte,n0,reduceCtorEq,n1,n2,n3,n4,n5,i0,i1,i2,i3,i4,i5,i6,i7])
  have hm : Fn Tryd.prog 42 #[.pointer (some ⟨w.heap.size,0,none⟩)] w1 fun r w' => r = .int .i16 5 ∧ w' = w1 := by
    refine fn_of_W Tryd.func42 rfl Tryd.results42 Tryd.ntmps42 rfl ?_
    repeat ((first | refine qA rfl ?_|refine qB ?_|refine qC rfl ?_|refine qD ?_|refine qE ?_|refine qF ?_|refine qG ?_|refine qH ?_);try simp (maxSteps:=1000000)(disch:=(first|omega|(simp only [qI,qJ,qK]<;>omega)|exact qL _)) only [go_sem,↓reduceIte,n0,reduceCtorEq,n1,n2,n3,n4,n5,i0,i1,i2,i3,i4,i5,i6,i7])
  refine hm.mono ?_
  rintro _ w2 ⟨rfl,rfl⟩
  have ew : IntKind.i64.wrap (5 : Int) = 5 := i64_wrap (by decide)
  repeat ((first | refine qA rfl ?_|refine qB ?_|refine qC rfl ?_|refine qD ?_|refine qE ?_|refine qF ?_|refine qG ?_|refine qH ?_);try simp (maxSteps:=1000000)(disch:=(first|omega|(simp only [qI,qJ,qK]<;>omega)|exact qL _)) only [go_sem,↓reduceIte,n0,reduceCtorEq,n1,n2,n3,n4,n5,i0,i1,i2,i3,i4,i5,i6,i7,ew])
  exact hE1
end Ms

namespace Ms
open Nat renaming reduceEqDiff → n0,reduceAdd → n1,reduceMul → n2,reduceSub → n3,reduceLT → n4,reduceLeDiff → n5
open Int renaming reduceEq → i0,reduceLT → i1,reduceLE → i2,reduceNeg → i3,reduceAdd → i4,reduceSub → i5,reduceMul → i6,reduceToNat → i7
set_option maxRecDepth 8000
open Go Go.Proofs Go.Shelf
attribute [local congr] W_congr WPsq_congr WPp_congr optK_congr addrK_congr intK_congr boolK_congr sliceK_congr tupleK_congr funcK_congr Fn_congr rawK_congr takeK_congr stepK_congr convK_congr aggK_congr

end Ms

namespace Ms
open Go.World renaming size_alloc → qI
open Ms renaming size_wr → qJ,size_drew → qK,not_noB → qL
open W renaming seqR → qA,seq → qB,regR → qC,condK → qD,block → qE,skip → qF,ret → qG,exit → qH
open Nat renaming reduceEqDiff → n0,reduceAdd → n1,reduceMul → n2,reduceSub → n3,reduceLT → n4,reduceLeDiff → n5
open Int renaming reduceEq → i0,reduceLT → i1,reduceLE → i2,reduceNeg → i3,reduceAdd → i4,reduceSub → i5,reduceMul → i6,reduceToNat → i7
set_option maxRecDepth 8000
open Go Go.Proofs Go.Shelf
attribute [local congr] W_congr WPsq_congr WPp_congr optK_congr addrK_congr intK_congr boolK_congr sliceK_congr tupleK_congr funcK_congr Fn_congr rawK_congr takeK_congr stepK_congr convK_congr aggK_congr

set_option maxHeartbeats 4000000 in
theorem readInitProducerIDRequest_0 {d : Nat} {ok : Blocks} {ver : Int} {ev : Value} (hlo : 0 ≤ ver) (hhi : ver ≤ 1) (w : World) {vb : Nat} (src : Value) (s : List UInt8) (hv : blk w vb = some (#[.int .i16 ver,.pointer none,.int .i32 0,.int .i64 (-1),.int .i16 (-1),.map none],99,(0,0))) (hsrc : BytesV ok w src s) (hok0 : ∀ b,ok b → b < w.heap.size ∧ b ≠ vb) (hG : Glo ev w) (hgv : ¬ 0 = vb ∧ ¬ 1 = vb) :
    Fn Tryd.prog 72 #[.pointer (some ⟨vb,0,none⟩),src,.bool false] w (ReadQ 99 ok ver (d + 1) fs_InitProducerIDRequest vb w (rdP (d + 1) ver false fs_InitProducerIDRequest (some s)) ev) := by
  have hvl := blk_lt hv
  have hgs := hG.lt
  obtain ⟨sa,sc,rfl,_⟩ := hsrc.shape
  refine fn_of_W Tryd.func72 rfl Tryd.results72 Tryd.ntmps72 rfl ?_
  repeat ((first | refine qA rfl ?_|refine qB ?_|refine qC rfl ?_|refine qD ?_|refine qE ?_|refine qF ?_|refine qG ?_|refine qH ?_);try simp (maxSteps:=1000000)(disch:=(first|omega|(simp only [qI,qJ,qK]<;>omega)|exact qL _)) only [go_sem,↓reduceIte,n0,reduceCtorEq,n1,n2,n3,n4,n5,i0,i1,i2,i3,i4,i5,i6,i7,hv])
  refine (DefaultInitProducerIDRequest_fn w hv).mono ?_
  rintro _ w0 ⟨hv0,hu0⟩
  have hz0 := hu0.size
  have hsrc0 : BytesV ok w0 (.slice sa s.length sc) s := hsrc.keep (hu0.keeps fun b _ hk e => (hok0 b hk).2 e)
  obtain ⟨rb,hrb⟩ : ∃ r,r = w0.heap.size := ⟨_,rfl⟩
  have hE1 : Ext w0 (wr (w0.alloc (.cells #[.slice none 0 0,.bool false] 113)) w0.heap.size 0 [.slice sa s.length sc,.bool false]) := (Upd.alloc (Upd.refl _ _) _).wr _ _ (.inl (Nat.le_refl _))
  have hz1 : (wr (w0.alloc (.cells #[.slice none 0 0,.bool false] 113)) w0.heap.size 0 [.slice sa s.length sc,.bool false]).heap.size = w0.heap.size + 1 := by rw [size_wr,World.size_alloc]
  have hR1 : Rdr RT ok (wr (w0.alloc (.cells #[.slice none 0 0,.bool false] 113)) w0.heap.size 0 [.slice sa s.length sc,.bool false]) w0.heap.size (some s) := Rdr.good (v := .slice sa s.length sc) (by simp (maxSteps:=1000000)(disch:=(first|omega|(simp only [qI,qJ,qK]<;>omega)|exact qL _)) only [go_sem,↓reduceIte,n0,reduceCtorEq,n1,n2,n3,n4,n5,i0,i1,i2,i3,i4,i5,i6,i7]) (hsrc0.keep (hE1.keeps _))
  have hv_1 := hE1.blk_some hv0 id
  repeat ((first | refine qA rfl ?_|refine qB ?_|refine qC rfl ?_|refine qD ?_|refine qE ?_|refine qF ?_|refine qG ?_|refine qH ?_);try simp (maxSteps:=1000000)(disch:=(first|omega|(simp only [qI,qJ,qK]<;>omega)|exact qL _)) only [go_sem,↓reduceIte,n0,reduceCtorEq,n1,n2,n3,n4,n5,i0,i1,i2,i3,i4,i5,i6,i7,hv0])
  generalize (wr (w0.alloc (.cells #[.slice none 0 0,.bool false] 113)) w0.heap.size 0 [.slice sa s.length sc,.bool false]) = w1 at *
  rw [← hrb] at hR1
  try rw [← hrb]
  have hok : ∀ b,ok b → b < w.heap.size ∧ b ≠ vb := hok0
  have hrok : ¬ ok rb := fun h => by have := (hok rb h).1;omega
  have hbase : Upd (fun b => b = vb) w w1 := hu0.trans (hE1.mono fun _ h => h.elim)
  have hG1 : Glo ev w1 := hG.updS hbase hgv.1 hgv.2
  have hgrb : ¬ 0 = rb := by omega
  have hgM1 : ¬ (0 = vb ∨ 0 = rb) := fun h => h.elim hgv.1 fun h => by omega
  have hgM2 : ¬ (1 = vb ∨ 1 = rb) := fun h => h.elim hgv.2 fun h => by omega
  obtain ⟨s0,hs0⟩ : ∃ s' : St,s' = some s := ⟨_,rfl⟩
  rw [← hs0] at hR1 ⊢
  have hU1 : Upd (fun b => b = vb ∨ b = rb) w1 w1 := Upd.refl _ _
  have hoM : ∀ b,(ok b ∨ w1.heap.size ≤ b) → ¬ (b = vb ∨ b = rb) := fun b hk h => by
    rcases hk with hk | hk
    · have := hok b hk;rcases h with h | h <;> omega
    · rcases h with h | h <;> omega
  have hq1 : Rdr RT ok w1 rb s0 := hR1
  obtain ⟨FB,hFB⟩ : ∃ P : Prop,P = ((rdP (d + 1) ver false fs_InitProducerIDRequest s0).2 = none) := ⟨_,rfl⟩
  have hb_0 : (rdL (rdP d ver false) (dfP d) ver false [fInitProducerIDRequest_0,fInitProducerIDRequest_1,fInitProducerIDRequest_2,fInitProducerIDRequest_3] s0).2 = none → FB := fun h => Eq.mpr hFB (rdP_bad h)
  have hh_0 : hasS fInitProducerIDRequest_0 ver = true := hasS_t (by show (0 : Int) ≤ ver;omega) (by show (-1 : Int) < 0 ∨ ver ≤ (-1 : Int);omega)
  obtain ⟨x_0,hx_0⟩ : ∃ x,x = (rdF (rdP d ver false) ver false fInitProducerIDRequest_0 s0).1 := ⟨_,rfl⟩
  repeat ((first | refine qA rfl ?_|refine qB ?_|refine qC rfl ?_|refine qD ?_|refine qE ?_|refine qF ?_|refine qG ?_|refine qH ?_);try simp (maxSteps:=1000000)(disch:=(first|omega|(simp only [qI,qJ,qK]<;>omega)|exact qL _)) only [go_sem,↓reduceIte,n0,reduceCtorEq,n1,n2,n3,n4,n5,i0,i1,i2,i3,i4,i5,i6,i7,hv_1])
  have hmay : mayS fInitProducerIDRequest_0 ver = true := mayS_yes (by decide) (by show (0 : Int) ≤ ver;omega)
  have hrd : rdF (rdP d ver false) ver false fInitProducerIDRequest_0 s0 = _ := rdF_ptr rfl hmay
  refine (RNullableString_fn w1 hq1 hrok hG1.1 hgrb).mono ?_
  rintro r2 w2 ⟨hp2,hq2,hu2⟩
  obtain ⟨ap2,rfl⟩ := hp2.shape
  have hv_2 := hu2.blk_some hv_1 (by omega)
  have hV2 : Upd (fun b => b = vb ∨ b = rb) w1 w2 := hu2.mono (fun _ h => .inr h)
  have hU2 : Upd (fun b => b = vb ∨ b = rb) w1 w2 := hU1.trans hV2
  have hz2 := hV2.size
  have hG2 : Glo ev w2 := hG1.updS hU2 hgM1 hgM2
  have hst : (rdF (rdP d ver false) ver false fInitProducerIDRequest_0 s0).2 = (rdNStr false s0).2 := by first | (rw [hrd];rfl) | rw [hrd]
  obtain ⟨s1,hs1⟩ : ∃ s,s = (rdF (rdP d ver false) ver false fInitProducerIDRequest_0 s0).2 := ⟨_,rfl⟩
  rw [← hst,← hs1] at hq2
  clear hst
  repeat ((first | refine qA rfl ?_|refine qB ?_|refine qC rfl ?_|refine qD ?_|refine qE ?_|refine qF ?_|refine qG ?_|refine qH ?_);try simp (maxSteps:=1000000)(disch:=(first|omega|(simp only [qI,qJ,qK]<;>omega)|exact qL _)) only [go_sem,↓reduceIte,n0,reduceCtorEq,n1,n2,n3,n4,n5,i0,i1,i2,i3,i4,i5,i6,i7,hv_2])
  generalize hw3 : wr w2 vb 1 [.pointer ap2] = w3
  have hS3 : Upd (fun b => b = vb ∨ b = rb) w2 w3 := by rw [← hw3];exact (Upd.refl _ _).wr _ _ (.inr (.inl rfl))
  have hv_3 : blk w3 vb = some (#[.int .i16 ver,.pointer ap2,.int .i32 0,.int .i64 (-1),.int .i16 (-1),.map none],99,(0,0)) := by rw [← hw3,blk_wr_eq,hv_2];rfl
  have hV3 := hS3
  have hU3 : Upd (fun b => b = vb ∨ b = rb) w1 w3 := hU2.trans hV3
  have hz3 := hV3.size
  have hG3 : Glo ev w3 := hG1.updS hU3 hgM1 hgM2
  have hq3 : Rdr RT ok w3 rb s1 ∧ NN w3 rb s1 := by
    have hn : ∀ x,x = w3 → (Rdr RT ok x rb s1 ∧ NN x rb s1) := fun x hx => by
      rw [hx,← hw3]
      exact Rdr.store hq2 (by omega) (fun h => by have := (hok _ h).1;first | omega | exact (hok _ h).2 rfl)
    exact hn _ rfl
  clear hw3
  have hf_0 : RepF (RepS true d) (szS true d) fInitProducerIDRequest_0 (fun b => ok b ∨ w1.heap.size ≤ b) w3 (x_0) [.pointer ap2] := (RepF_ptr rfl (by decide)).2 ⟨_,rfl,by rw [hx_0,hrd];exact (hp2.weaken fun b _ hk => by have hk' : w1.heap.size ≤ b := hk;exact .inr (by omega)).keep (hV3.keeps fun b _ hk e => (hoM b hk) e)⟩
  clear hrd
  have hb_1 : (rdL (rdP d ver false) (dfP d) ver false [fInitProducerIDRequest_1,fInitProducerIDRequest_2,fInitProducerIDRequest_3] s1).2 = none → FB := fun h => hb_0 (by rw [rdL_st (by decide) hh_0,← hs1];exact h)
  have hh_1 : hasS fInitProducerIDRequest_1 ver = true := hasS_t (by show (0 : Int) ≤ ver;omega) (by show (-1 : Int) < 0 ∨ ver ≤ (-1 : Int);omega)
  obtain ⟨x_1,hx_1⟩ : ∃ x,x = (rdF (rdP d ver false) ver false fInitProducerIDRequest_1 s1).1 := ⟨_,rfl⟩
  repeat ((first | refine qA rfl ?_|refine qB ?_|refine qC rfl ?_|refine qD ?_|refine qE ?_|refine qF ?_|refine qG ?_|refine qH ?_);try simp (maxSteps:=1000000)(disch:=(first|omega|(simp only [qI,qJ,qK]<;>omega)|exact qL _)) only [go_sem,↓reduceIte,n0,reduceCtorEq,n1,n2,n3,n4,n5,i0,i1,i2,i3,i4,i5,i6,i7,hv_3])
  have hrd : rdF (rdP d ver false) ver false fInitProducerIDRequest_1 s1 = _ := rdF_num 3 rfl (by decide)
  refine (Int32_fn w3 hq3.1 hrok hG3.1 hgrb).mono ?_
  rintro _ w4 ⟨rfl,hq4,hu4⟩
  have hv_4 := hu4.blk_some hv_3 (by omega)
  have hV4 : Upd (fun b => b = vb ∨ b = rb) w3 w4 := hu4.mono (fun _ h => .inr h)
  have hU4 : Upd (fun b => b = vb ∨ b = rb) w1 w4 := hU3.trans hV4
  have hz4 := hV4.size
  have hG4 : Glo ev w4 := hG1.updS hU4 hgM1 hgM2
  have hst : (rdF (rdP d ver false) ver false fInitProducerIDRequest_1 s1).2 = (rdInt .i32 4 s1).2 := by first | (rw [hrd];rfl) | rw [hrd]
  obtain ⟨s2,hs2⟩ : ∃ s,s = (rdF (rdP d ver false) ver false fInitProducerIDRequest_1 s1).2 := ⟨_,rfl⟩
  rw [← hst,← hs2] at hq4
  clear hst
  repeat ((first | refine qA rfl ?_|refine qB ?_|refine qC rfl ?_|refine qD ?_|refine qE ?_|refine qF ?_|refine qG ?_|refine qH ?_);try simp (maxSteps:=1000000)(disch:=(first|omega|(simp only [qI,qJ,qK]<;>omega)|exact qL _)) only [go_sem,↓reduceIte,n0,reduceCtorEq,n1,n2,n3,n4,n5,i0,i1,i2,i3,i4,i5,i6,i7,hv_4])
  generalize hw5 : wr w4 vb 2 [.int .i32 (rdInt .i32 4 s1).1] = w5
  have hS5 : Upd (fun b => b = vb ∨ b = rb) w4 w5 := by rw [← hw5];exact (Upd.refl _ _).wr _ _ (.inr (.inl rfl))
  have hv_5 : blk w5 vb = some (#[.int .i16 ver,.pointer ap2,.int .i32 (rdInt .i32 4 s1).1,.int .i64 (-1),.int .i16 (-1),.map none],99,(0,0)) := by rw [← hw5,blk_wr_eq,hv_4];rfl
  have hV5 := hS5
  have hU5 : Upd (fun b => b = vb ∨ b = rb) w1 w5 := hU4.trans hV5
  have hz5 := hV5.size
  have hG5 : Glo ev w5 := hG1.updS hU5 hgM1 hgM2
  have hq5 : Rdr RT ok w5 rb s2 ∧ NN w5 rb s2 := by
    have hn : ∀ x,x = w5 → (Rdr RT ok x rb s2 ∧ NN x rb s2) := fun x hx => by
      rw [hx,← hw5]
      exact Rdr.store hq4 (by omega) (fun h => by have := (hok _ h).1;first | omega | exact (hok _ h).2 rfl)
    exact hn _ rfl
  clear hw5
  have hf_1 : RepF (RepS true d) (szS true d) fInitProducerIDRequest_1 (fun b => ok b ∨ w1.heap.size ≤ b) w5 (x_1) [.int .i32 (rdInt .i32 4 s1).1] := (RepF_num (by decide)).2 (by rw [hx_1,hrd];exact congrArg (fun x => [x]) (numC_rd 3 (by decide) 4 s1).symm)
  clear hrd
  have hb_2 : (rdL (rdP d ver false) (dfP d) ver false [fInitProducerIDRequest_2,fInitProducerIDRequest_3] s2).2 = none → FB := fun h => hb_1 (by rw [rdL_st (by decide) hh_1,← hs2];exact h)
  obtain ⟨x_2,hx_2⟩ : ∃ x,x = dfF (dfP d) fInitProducerIDRequest_2 := ⟨_,rfl⟩
  have hf_2 : RepF (RepS true d) (szS true d) fInitProducerIDRequest_2 (fun b => ok b ∨ w1.heap.size ≤ b) w5 (x_2) [.int .i64 (-1)] := by rw [hx_2];exact (RepF_num (by decide)).2 rfl
  have hh_2 : hasS fInitProducerIDRequest_2 ver = false := hasS_f (by show ver < 3 ∨ (0 ≤ (-1 : Int) ∧ (-1 : Int) < ver);omega)
  have hb_3 : (rdL (rdP d ver false) (dfP d) ver false [fInitProducerIDRequest_3] s2).2 = none → FB := fun h => hb_2 (by rw [rdL_no hh_2];exact h)
  obtain ⟨x_3,hx_3⟩ : ∃ x,x = dfF (dfP d) fInitProducerIDRequest_3 := ⟨_,rfl⟩
  have hf_3 : RepF (RepS true d) (szS true d) fInitProducerIDRequest_3 (fun b => ok b ∨ w1.heap.size ≤ b) w5 (x_3) [.int .i16 (-1)] := by rw [hx_3];exact (RepF_num (by decide)).2 rfl
  have hh_3 : hasS fInitProducerIDRequest_3 ver = false := hasS_f (by show ver < 3 ∨ (0 ≤ (-1 : Int) ∧ (-1 : Int) < ver);omega)
  have hl_4 : rdL (rdP d ver false) (dfP d) ver false [] s2 = ([],s2) := rfl
  have hl_3 : rdL (rdP d ver false) (dfP d) ver false [fInitProducerIDRequest_3] s2 = ([x_3],s2) := by rw [rdL_no hh_3,← hx_3,hl_4]
  have hl_2 : rdL (rdP d ver false) (dfP d) ver false [fInitProducerIDRequest_2,fInitProducerIDRequest_3] s2 = ([x_2,x_3],s2) := by rw [rdL_no hh_2,← hx_2,hl_3]
  have hl_1 : rdL (rdP d ver false) (dfP d) ver false [fInitProducerIDRequest_1,fInitProducerIDRequest_2,fInitProducerIDRequest_3] s1 = ([x_1,x_2,x_3],s2) := by rw [rdL_st (by decide) hh_1,← hx_1,← hs2,hl_2]
  have hl_0 : rdL (rdP d ver false) (dfP d) ver false [fInitProducerIDRequest_0,fInitProducerIDRequest_1,fInitProducerIDRequest_2,fInitProducerIDRequest_3] s0 = ([x_0,x_1,x_2,x_3],s2) := by rw [rdL_st (by decide) hh_0,← hx_0,← hs1,hl_1]
  have hfin : rdP (d + 1) ver false fs_InitProducerIDRequest s0 = (.mk 0 [] false [x_0,x_1,x_2,x_3] [],s2) := rdP_f hl_0
  have hTg : TagsM (fun b => ok b ∨ w1.heap.size ≤ b) w5 (.map none) [] := .inl ⟨rfl,rfl⟩
  have hC_5 : Upd (fun b => b = vb ∨ b = rb) w5 w5 := Upd.refl _ _
  have hC_4 : Upd (fun b => b = vb ∨ b = rb) w4 w5 := hV5.trans hC_5
  have hC_3 : Upd (fun b => b = vb ∨ b = rb) w3 w5 := hV4.trans hC_4
  have hC_2 : Upd (fun b => b = vb ∨ b = rb) w2 w5 := hV3.trans hC_3
  have hC_1 : Upd (fun b => b = vb ∨ b = rb) w1 w5 := hV2.trans hC_2
  have hR : RepS true (d + 1) fs_InitProducerIDRequest (fun b => ok b ∨ w1.heap.size ≤ b) w5 (.mk 0 [] false [x_0,x_1,x_2,x_3] []) [.pointer ap2,.int .i32 (rdInt .i32 4 s1).1,.int .i64 (-1),.int .i16 (-1),.map none] := RepS.introT (c := [.pointer ap2,.int .i32 (rdInt .i32 4 s1).1,.int .i64 (-1),.int .i16 (-1)]) (RepL.cons1 (hf_0.keepS (hC_3.keeps fun b _ hk e => (hoM b hk) e)) (RepL.cons1 (hf_1.keepS (hC_5.keeps fun b _ hk e => (hoM b hk) e)) (RepL.cons1 (hf_2.keepS (hC_5.keeps fun b _ hk e => (hoM b hk) e)) (RepL.cons1 (hf_3.keepS (hC_5.keeps fun b _ hk e => (hoM b hk) e)) RepL.nil)))) hTg
  repeat ((first | refine qA rfl ?_|refine qB ?_|refine qC rfl ?_|refine qD ?_|refine qE ?_|refine qF ?_|refine qG ?_|refine qH ?_);try simp (maxSteps:=1000000)(disch:=(first|omega|(simp only [qI,qJ,qK]<;>omega)|exact qL _)) only [go_sem,↓reduceIte,n0,reduceCtorEq,n1,n2,n3,n4,n5,i0,i1,i2,i3,i4,i5,i6,i7,hv_5])
  refine (RComplete_fn w5 hq5.1 hG5.2).mono ?_
  rintro _ wz ⟨rfl,hez⟩
  rw [hez]
  repeat ((first | refine qA rfl ?_|refine qB ?_|refine qC rfl ?_|refine qD ?_|refine qE ?_|refine qF ?_|refine qG ?_|refine qH ?_);try simp (maxSteps:=1000000)(disch:=(first|omega|(simp only [qI,qJ,qK]<;>omega)|exact qL _)) only [go_sem,↓reduceIte,n0,reduceCtorEq,n1,n2,n3,n4,n5,i0,i1,i2,i3,i4,i5,i6,i7,hv_5])
  rw [hfin]
  refine ⟨fun h => ?_,fun h => ⟨?_,[.pointer ap2,.int .i32 (rdInt .i32 4 s1).1,.int .i64 (-1),.int .i16 (-1),.map none],hv_5,?_⟩,?_⟩
  · have h' : s2 = none := h
    rw [h'];rfl
  · cases hsn : s2 with
    | none => exact absurd hsn h
    | some x => rfl
  · exact (RepS_lay true (d + 1) fs_InitProducerIDRequest).weaken hR fun b _ hk => hk.imp id fun h => by omega
  · exact hbase.trans' hU5 fun i hi h => h.elim id fun h => by omega
end Ms

namespace Ms
open Go.World renaming size_alloc → qI
open Ms renaming size_wr → qJ,size_drew → qK,not_noB → qL
open W renaming seqR → qA,seq → qB,regR → qC,condK → qD,block → qE,skip → qF,ret → qG,exit → qH
open Nat renaming reduceEqDiff → n0,reduceAdd → n1,reduceMul → n2,reduceSub → n3,reduceLT → n4,reduceLeDiff → n5
open Int renaming reduceEq → i0,reduceLT → i1,reduceLE → i2,reduceNeg → i3,reduceAdd → i4,reduceSub → i5,reduceMul → i6,reduceToNat → i7
set_option maxRecDepth 8000
open Go Go.Proofs Go.Shelf
attribute [local congr] W_congr WPsq_congr WPp_congr optK_congr addrK_congr intK_congr boolK_congr sliceK_congr tupleK_congr funcK_congr Fn_congr rawK_congr takeK_congr stepK_congr convK_congr aggK_congr

set_option maxHeartbeats 4000000 in
theorem readInitProducerIDRequest_1 {d : Nat} {ok : Blocks} {ver : Int} {ev : Value} (hlo : 2 ≤ ver) (hhi : ver ≤ 2) (w : World) {vb : Nat} (src : Value) (s : List UInt8) (hv : blk w vb = some (#[.int .i16 ver,.pointer none,.int .i32 0,.int .i64 (-1),.int .i16 (-1),.map none],99,(0,0))) (hsrc : BytesV ok w src s) (hok0 : ∀ b,ok b → b < w.heap.size ∧ b ≠ vb) (hG : Glo ev w) (hgv : ¬ 0 = vb ∧ ¬ 1 = vb) :
    Fn Tryd.prog 72 #[.pointer (some ⟨vb,0,none⟩),src,.bool false] w (ReadQ 99 ok ver (d + 1) fs_InitProducerIDRequest vb w (rdP (d + 1) ver true fs_InitProducerIDRequest (some s)) ev) := by
  have hvl := blk_lt hv
  have hgs := hG.lt
  obtain ⟨sa,sc,rfl,_⟩ := hsrc.shape
  refine fn_of_W Tryd.func72 rfl Tryd.results72 Tryd.ntmps72 rfl ?_
  repeat ((first | refine qA rfl ?_|refine qB ?_|refine qC rfl ?_|refine qD ?_|refine qE ?_|refine qF ?_|refine qG ?_|refine qH ?_);try simp (maxSteps:=1000000)(disch:=(first|omega|(simp only [qI,qJ,qK]<;>omega)|exact qL _)) only [go_sem,↓reduceIte,n0,reduceCtorEq,n1,n2,n3,n4,n5,i0,i1,i2,i3,i4,i5,i6,i7,hv])
  refine (DefaultInitProducerIDRequest_fn w hv).mono ?_
  rintro _ w0 ⟨hv0,hu0⟩
  have hz0 := hu0.size
  have hsrc0 : BytesV ok w0 (.slice sa s.length sc) s := hsrc.keep (hu0.keeps fun b _ hk e => (hok0 b hk).2 e)
  obtain ⟨rb,hrb⟩ : ∃ r,r = w0.heap.size := ⟨_,rfl⟩
  have hE1 : Ext w0 (wr (w0.alloc (.cells #[.slice none 0 0,.bool false] 113)) w0.heap.size 0 [.slice sa s.length sc,.bool false]) := (Upd.alloc (Upd.refl _ _) _).wr _ _ (.inl (Nat.le_refl _))
  have hz1 : (wr (w0.alloc (.cells #[.slice none 0 0,.bool false] 113)) w0.heap.size 0 [.slice sa s.length sc,.bool false]).heap.size = w0.heap.size + 1 := by rw [size_wr,World.size_alloc]
  have hR1 : Rdr RT ok (wr (w0.alloc (.cells #[.slice none 0 0,.bool false] 113)) w0.heap.size 0 [.slice sa s.length sc,.bool false]) w0.heap.size (some s) := Rdr.good (v := .slice sa s.length sc) (by simp (maxSteps:=1000000)(disch:=(first|omega|(simp only [qI,qJ,qK]<;>omega)|exact qL _)) only [go_sem,↓reduceIte,n0,reduceCtorEq,n1,n2,n3,n4,n5,i0,i1,i2,i3,i4,i5,i6,i7]) (hsrc0.keep (hE1.keeps _))
  have hv_1 := hE1.blk_some hv0 id
  repeat ((first | refine qA rfl ?_|refine qB ?_|refine qC rfl ?_|refine qD ?_|refine qE ?_|refine qF ?_|refine qG ?_|refine qH ?_);try simp (maxSteps:=1000000)(disch:=(first|omega|(simp only [qI,qJ,qK]<;>omega)|exact qL _)) only [go_sem,↓reduceIte,n0,reduceCtorEq,n1,n2,n3,n4,n5,i0,i1,i2,i3,i4,i5,i6,i7,hv0])
  generalize (wr (w0.alloc (.cells #[.slice none 0 0,.bool false] 113)) w0.heap.size 0 [.slice sa s.length sc,.bool false]) = w1 at *
  rw [← hrb] at hR1
  try rw [← hrb]
  have hok : ∀ b,ok b → b < w.heap.size ∧ b ≠ vb := hok0
  have hrok : ¬ ok rb := fun h => by have := (hok rb h).1;omega
  have hbase : Upd (fun b => b = vb) w w1 := hu0.trans (hE1.mono fun _ h => h.elim)
  have hG1 : Glo ev w1 := hG.updS hbase hgv.1 hgv.2
  have hgrb : ¬ 0 = rb := by omega
  have hgM1 : ¬ (0 = vb ∨ 0 = rb) := fun h => h.elim hgv.1 fun h => by omega
  have hgM2 : ¬ (1 = vb ∨ 1 = rb) := fun h => h.elim hgv.2 fun h => by omega
  obtain ⟨s0,hs0⟩ : ∃ s' : St,s' = some s := ⟨_,rfl⟩
  rw [← hs0] at hR1 ⊢
  have hU1 : Upd (fun b => b = vb ∨ b = rb) w1 w1 := Upd.refl _ _
  have hoM : ∀ b,(ok b ∨ w1.heap.size ≤ b) → ¬ (b = vb ∨ b = rb) := fun b hk h => by
    rcases hk with hk | hk
    · have := hok b hk;rcases h with h | h <;> omega
    · rcases h with h | h <;> omega
  have hq1 : Rdr RT ok w1 rb s0 := hR1
  obtain ⟨FB,hFB⟩ : ∃ P : Prop,P = ((rdP (d + 1) ver true fs_InitProducerIDRequest s0).2 = none) := ⟨_,rfl⟩
  have hb_0 : (rdL (rdP d ver true) (dfP d) ver true [fInitProducerIDRequest_0,fInitProducerIDRequest_1,fInitProducerIDRequest_2,fInitProducerIDRequest_3] s0).2 = none → FB := fun h => Eq.mpr hFB (rdP_bad h)
  have hh_0 : hasS fInitProducerIDRequest_0 ver = true := hasS_t (by show (0 : Int) ≤ ver;omega) (by show (-1 : Int) < 0 ∨ ver ≤ (-1 : Int);omega)
  obtain ⟨x_0,hx_0⟩ : ∃ x,x = (rdF (rdP d ver true) ver true fInitProducerIDRequest_0 s0).1 := ⟨_,rfl⟩
  repeat ((first | refine qA rfl ?_|refine qB ?_|refine qC rfl ?_|refine qD ?_|refine qE ?_|refine qF ?_|refine qG ?_|refine qH ?_);try simp (maxSteps:=1000000)(disch:=(first|omega|(simp only [qI,qJ,qK]<;>omega)|exact qL _)) only [go_sem,↓reduceIte,n0,reduceCtorEq,n1,n2,n3,n4,n5,i0,i1,i2,i3,i4,i5,i6,i7,hv_1])
  have hmay : mayS fInitProducerIDRequest_0 ver = true := mayS_yes (by decide) (by show (0 : Int) ≤ ver;omega)
  have hrd : rdF (rdP d ver true) ver true fInitProducerIDRequest_0 s0 = _ := rdF_ptr rfl hmay
  refine (RCompactNullableString_fn w1 hq1 hrok hG1.1 hgrb).mono ?_
  rintro r2 w2 ⟨hp2,hq2,hu2⟩
  obtain ⟨ap2,rfl⟩ := hp2.shape
  have hv_2 := hu2.blk_some hv_1 (by omega)
  have hV2 : Upd (fun b => b = vb ∨ b = rb) w1 w2 := hu2.mono (fun _ h => .inr h)
  have hU2 : Upd (fun b => b = vb ∨ b = rb) w1 w2 := hU1.trans hV2
  have hz2 := hV2.size
  have hG2 : Glo ev w2 := hG1.updS hU2 hgM1 hgM2
  have hst : (rdF (rdP d ver true) ver true fInitProducerIDRequest_0 s0).2 = (rdNStr true s0).2 := by first | (rw [hrd];rfl) | rw [hrd]
  obtain ⟨s1,hs1⟩ : ∃ s,s = (rdF (rdP d ver true) ver true fInitProducerIDRequest_0 s0).2 := ⟨_,rfl⟩
  rw [← hst,← hs1] at hq2
  clear hst
  repeat ((first | refine qA rfl ?_|refine qB ?_|refine qC rfl ?_|refine qD ?_|refine qE ?_|refine qF ?_|refine qG ?_|refine qH ?_);try simp (maxSteps:=1000000)(disch:=(first|omega|(simp only [qI,qJ,qK]<;>omega)|exact qL _)) only [go_sem,↓reduceIte,n0,reduceCtorEq,n1,n2,n3,n4,n5,i0,i1,i2,i3,i4,i5,i6,i7,hv_2])
  generalize hw3 : wr w2 vb 1 [.pointer ap2] = w3
  have hS3 : Upd (fun b => b = vb ∨ b = rb) w2 w3 := by rw [← hw3];exact (Upd.refl _ _).wr _ _ (.inr (.inl rfl))
  have hv_3 : blk w3 vb = some (#[.int .i16 ver,.pointer ap2,.int .i32 0,.int .i64 (-1),.int .i16 (-1),.map none],99,(0,0)) := by rw [← hw3,blk_wr_eq,hv_2];rfl
  have hV3 := hS3
  have hU3 : Upd (fun b => b = vb ∨ b = rb) w1 w3 := hU2.trans hV3
  have hz3 := hV3.size
  have hG3 : Glo ev w3 := hG1.updS hU3 hgM1 hgM2
  have hq3 : Rdr RT ok w3 rb s1 ∧ NN w3 rb s1 := by
    have hn : ∀ x,x = w3 → (Rdr RT ok x rb s1 ∧ NN x rb s1) := fun x hx => by
      rw [hx,← hw3]
      exact Rdr.store hq2 (by omega) (fun h => by have := (hok _ h).1;first | omega | exact (hok _ h).2 rfl)
    exact hn _ rfl
  clear hw3
  have hf_0 : RepF (RepS true d) (szS true d) fInitProducerIDRequest_0 (fun b => ok b ∨ w1.heap.size ≤ b) w3 (x_0) [.pointer ap2] := (RepF_ptr rfl (by decide)).2 ⟨_,rfl,by rw [hx_0,hrd];exact (hp2.weaken fun b _ hk => by have hk' : w1.heap.size ≤ b := hk;exact .inr (by omega)).keep (hV3.keeps fun b _ hk e => (hoM b hk) e)⟩
  clear hrd
  have hb_1 : (rdL (rdP d ver true) (dfP d) ver true [fInitProducerIDRequest_1,fInitProducerIDRequest_2,fInitProducerIDRequest_3] s1).2 = none → FB := fun h => hb_0 (by rw [rdL_st (by decide) hh_0,← hs1];exact h)
  have hh_1 : hasS fInitProducerIDRequest_1 ver = true := hasS_t (by show (0 : Int) ≤ ver;omega) (by show (-1 : Int) < 0 ∨ ver ≤ (-1 : Int);omega)
  obtain ⟨x_1,hx_1⟩ : ∃ x,x = (rdF (rdP d ver true) ver true fInitProducerIDRequest_1 s1).1 := ⟨_,rfl⟩
  repeat ((first | refine qA rfl ?_|refine qB ?_|refine qC rfl ?_|refine qD ?_|refine qE ?_|refine qF ?_|refine qG ?_|refine qH ?_);try simp (maxSteps:=1000000)(disch:=(first|omega|(simp only [qI,qJ,qK]<;>omega)|exact qL _)) only [go_sem,↓reduceIte,n0,reduceCtorEq,n1,n2,n3,n4,n5,i0,i1,i2,i3,i4,i5,i6,i7,hv_3])
  have hrd : rdF (rdP d ver true) ver true fInitProducerIDRequest_1 s1 = _ := rdF_num 3 rfl (by decide)
  refine (Int32_fn w3 hq3.1 hrok hG3.1 hgrb).mono ?_
  rintro _ w4 ⟨rfl,hq4,hu4⟩
  have hv_4 := hu4.blk_some hv_3 (by omega)
  have hV4 : Upd (fun b => b = vb ∨ b = rb) w3 w4 := hu4.mono (fun _ h => .inr h)
  have hU4 : Upd (fun b => b = vb ∨ b = rb) w1 w4 := hU3.trans hV4
  have hz4 := hV4.size
  have hG4 : Glo ev w4 := hG1.updS hU4 hgM1 hgM2
  have hst : (rdF (rdP d ver true) ver true fInitProducerIDRequest_1 s1).2 = (rdInt .i32 4 s1).2 := by first | (rw [hrd];rfl) | rw [hrd]
  obtain ⟨s2,hs2⟩ : ∃ s,s = (rdF (rdP d ver true) ver true fInitProducerIDRequest_1 s1).2 := ⟨_,rfl⟩
  rw [← hst,← hs2] at hq4
  clear hst
  repeat ((first | refine qA rfl ?_|refine qB ?_|refine qC rfl ?_|refine qD ?_|refine qE ?_|refine qF ?_|refine qG ?_|refine qH ?_);try simp (maxSteps:=1000000)(disch:=(first|omega|(simp only [qI,qJ,qK]<;>omega)|exact qL _)) only [go_sem,↓reduceIte,n0,reduceCtorEq,n1,n2,n3,n4,n5,i0,i1,i2,i3,i4,i5,i6,i7,hv_4])
  generalize hw5 : wr w4 vb 2 [.int .i32 (rdInt .i32 4 s1).1] = w5
  have hS5 : Upd (fun b => b = vb ∨ b = rb) w4 w5 := by rw [← hw5];exact (Upd.refl _ _).wr _ _ (.inr (.inl rfl))
  have hv_5 : blk w5 vb = some (#[.int .i16 ver,.pointer ap2,.int .i32 (rdInt .i32 4 s1).1,.int .i64 (-1),.int .i16 (-1),.map none],99,(0,0)) := by rw [← hw5,blk_wr_eq,hv_4];rfl
  have hV5 := hS5
  have hU5 : Upd (fun b => b = vb ∨ b = rb) w1 w5 := hU4.trans hV5
  have hz5 := hV5.size
  have hG5 : Glo ev w5 := hG1.updS hU5 hgM1 hgM2
  have hq5 : Rdr RT ok w5 rb s2 ∧ NN w5 rb s2 := by
    have hn : ∀ x,x = w5 → (Rdr RT ok x rb s2 ∧ NN x rb s2) := fun x hx => by
      rw [hx,← hw5]
      exact Rdr.store hq4 (by omega) (fun h => by have := (hok _ h).1;first | omega | exact (hok _ h).2 rfl)
    exact hn _ rfl
  clear hw5
  have hf_1 : RepF (RepS true d) (szS true d) fInitProducerIDRequest_1 (fun b => ok b ∨ w1.heap.size ≤ b) w5 (x_1) [.int .i32 (rdInt .i32 4 s1).1] := (RepF_num (by decide)).2 (by rw [hx_1,hrd];exact congrArg (fun x => [x]) (numC_rd 3 (by decide) 4 s1).symm)
  clear hrd
  have hb_2 : (rdL (rdP d ver true) (dfP d) ver true [fInitProducerIDRequest_2,fInitProducerIDRequest_3] s2).2 = none → FB := fun h => hb_1 (by rw [rdL_st (by decide) hh_1,← hs2];exact h)
  obtain ⟨x_2,hx_2⟩ : ∃ x,x = dfF (dfP d) fInitProducerIDRequest_2 := ⟨_,rfl⟩
  have hf_2 : RepF (RepS true d) (szS true d) fInitProducerIDRequest_2 (fun b => ok b ∨ w1.heap.size ≤ b) w5 (x_2) [.int .i64 (-1)] := by rw [hx_2];exact (RepF_num (by decide)).2 rfl
  have hh_2 : hasS fInitProducerIDRequest_2 ver = false := hasS_f (by show ver < 3 ∨ (0 ≤ (-1 : Int) ∧ (-1 : Int) < ver);omega)
  have hb_3 : (rdL (rdP d ver true) (dfP d) ver true [fInitProducerIDRequest_3] s2).2 = none → FB := fun h => hb_2 (by rw [rdL_no hh_2];exact h)
  obtain ⟨x_3,hx_3⟩ : ∃ x,x = dfF (dfP d) fInitProducerIDRequest_3 := ⟨_,rfl⟩
  have hf_3 : RepF (RepS true d) (szS true d) fInitProducerIDRequest_3 (fun b => ok b ∨ w1.heap.size ≤ b) w5 (x_3) [.int .i16 (-1)] := by rw [hx_3];exact (RepF_num (by decide)).2 rfl
  have hh_3 : hasS fInitProducerIDRequest_3 ver = false := hasS_f (by show ver < 3 ∨ (0 ≤ (-1 : Int) ∧ (-1 : Int) < ver);omega)
  have hl_4 : rdL (rdP d ver true) (dfP d) ver true [] s2 = ([],s2) := rfl
  have hl_3 : rdL (rdP d ver true) (dfP d) ver true [fInitProducerIDRequest_3] s2 = ([x_3],s2) := by rw [rdL_no hh_3,← hx_3,hl_4]
  have hl_2 : rdL (rdP d ver true) (dfP d) ver true [fInitProducerIDRequest_2,fInitProducerIDRequest_3] s2 = ([x_2,x_3],s2) := by rw [rdL_no hh_2,← hx_2,hl_3]
  have hl_1 : rdL (rdP d ver true) (dfP d) ver true [fInitProducerIDRequest_1,fInitProducerIDRequest_2,fInitProducerIDRequest_3] s1 = ([x_1,x_2,x_3],s2) := by rw [rdL_st (by decide) hh_1,← hx_1,← hs2,hl_2]
  have hl_0 : rdL (rdP d ver true) (dfP d) ver true [fInitProducerIDRequest_0,fInitProducerIDRequest_1,fInitProducerIDRequest_2,fInitProducerIDRequest_3] s0 = ([x_0,x_1,x_2,x_3],s2) := by rw [rdL_st (by decide) hh_0,← hx_0,← hs1,hl_1]
  have hfin : rdP (d + 1) ver true fs_InitProducerIDRequest s0 = (.mk 0 [] false [x_0,x_1,x_2,x_3] (rdTags s2).1,(rdTags s2).2) := rdP_t hl_0
  repeat ((first | refine qA rfl ?_|refine qB ?_|refine qC rfl ?_|refine qD ?_|refine qE ?_|refine qF ?_|refine qG ?_|refine qH ?_);try simp (maxSteps:=1000000)(disch:=(first|omega|(simp only [qI,qJ,qK]<;>omega)|exact qL _)) only [go_sem,↓reduceIte,n0,reduceCtorEq,n1,n2,n3,n4,n5,i0,i1,i2,i3,i4,i5,i6,i7,hv_5])
  refine (ReadTags_fn w5 hq5.1 hrok).mono ?_
  rintro _ w6 ⟨qm,rfl,hT6,hTn,hq6,hu6⟩
  have hv_6 := hu6.blk_some hv_5 (by omega)
  have hV6 : Upd (fun b => b = vb ∨ b = rb) w5 w6 := hu6.mono (fun _ h => .inr h)
  have hU6 : Upd (fun b => b = vb ∨ b = rb) w1 w6 := hU5.trans hV6
  have hz6 := hV6.size
  have hG6 : Glo ev w6 := hG1.updS hU6 hgM1 hgM2
  obtain ⟨s3,hs3⟩ : ∃ s,s = (rdTags s2).2 := ⟨_,rfl⟩
  rw [← hs3] at hq6 hfin
  try simp (maxSteps:=1000000)(disch:=(first|omega|(simp only [qI,qJ,qK]<;>omega)|exact qL _)) only [go_sem,↓reduceIte,n0,reduceCtorEq,n1,n2,n3,n4,n5,i0,i1,i2,i3,i4,i5,i6,i7,hv_6]
  repeat ((first | refine qA rfl ?_|refine qB ?_|refine qC rfl ?_|refine qD ?_|refine qE ?_|refine qF ?_|refine qG ?_|refine qH ?_);try simp (maxSteps:=1000000)(disch:=(first|omega|(simp only [qI,qJ,qK]<;>omega)|exact qL _)) only [go_sem,↓reduceIte,n0,reduceCtorEq,n1,n2,n3,n4,n5,i0,i1,i2,i3,i4,i5,i6,i7,hv_6])
  generalize hw7 : wr w6 vb 5 [.map qm] = w7
  have hS7 : Upd (fun b => b = vb ∨ b = rb) w6 w7 := by rw [← hw7];exact (Upd.refl _ _).wr _ _ (.inr (.inl rfl))
  have hv_7 : blk w7 vb = some (#[.int .i16 ver,.pointer ap2,.int .i32 (rdInt .i32 4 s1).1,.int .i64 (-1),.int .i16 (-1),.map qm],99,(0,0)) := by rw [← hw7,blk_wr_eq,hv_6];rfl
  have hV7 := hS7
  have hU7 : Upd (fun b => b = vb ∨ b = rb) w1 w7 := hU6.trans hV7
  have hz7 := hV7.size
  have hG7 : Glo ev w7 := hG1.updS hU7 hgM1 hgM2
  have hq7 : Rdr RT ok w7 rb s3 ∧ NN w7 rb s3 := by
    have hn : ∀ x,x = w7 → (Rdr RT ok x rb s3 ∧ NN x rb s3) := fun x hx => by
      rw [hx,← hw7]
      exact Rdr.store hq6 (by omega) (fun h => by have := (hok _ h).1;first | omega | exact (hok _ h).2 rfl)
    exact hn _ rfl
  clear hw7
  have hTg : TagsM (fun b => ok b ∨ w1.heap.size ≤ b) w7 (.map qm) (rdTags s2).1 := (hT6.weaken fun b _ hk => hk.elim (fun hk => .inl hk) (fun h => by have h' : w5.heap.size ≤ b := h;exact .inr (by omega))).keep (hV7.keeps fun b _ hk e => (hoM b hk) e)
  have hC_7 : Upd (fun b => b = vb ∨ b = rb) w7 w7 := Upd.refl _ _
  have hC_6 : Upd (fun b => b = vb ∨ b = rb) w6 w7 := hV7.trans hC_7
  have hC_5 : Upd (fun b => b = vb ∨ b = rb) w5 w7 := hV6.trans hC_6
  have hC_4 : Upd (fun b => b = vb ∨ b = rb) w4 w7 := hV5.trans hC_5
  have hC_3 : Upd (fun b => b = vb ∨ b = rb) w3 w7 := hV4.trans hC_4
  have hC_2 : Upd (fun b => b = vb ∨ b = rb) w2 w7 := hV3.trans hC_3
  have hC_1 : Upd (fun b => b = vb ∨ b = rb) w1 w7 := hV2.trans hC_2
  have hR : RepS true (d + 1) fs_InitProducerIDRequest (fun b => ok b ∨ w1.heap.size ≤ b) w7 (.mk 0 [] false [x_0,x_1,x_2,x_3] (rdTags s2).1) [.pointer ap2,.int .i32 (rdInt .i32 4 s1).1,.int .i64 (-1),.int .i16 (-1),.map qm] := RepS.introT (c := [.pointer ap2,.int .i32 (rdInt .i32 4 s1).1,.int .i64 (-1),.int .i16 (-1)]) (RepL.cons1 (hf_0.keepS (hC_3.keeps fun b _ hk e => (hoM b hk) e)) (RepL.cons1 (hf_1.keepS (hC_5.keeps fun b _ hk e => (hoM b hk) e)) (RepL.cons1 (hf_2.keepS (hC_5.keeps fun b _ hk e => (hoM b hk) e)) (RepL.cons1 (hf_3.keepS (hC_5.keeps fun b _ hk e => (hoM b hk) e)) RepL.nil)))) hTg
  repeat ((first | refine qA rfl ?_|refine qB ?_|refine qC rfl ?_|refine qD ?_|refine qE ?_|refine qF ?_|refine qG ?_|refine qH ?_);try simp (maxSteps:=1000000)(disch:=(first|omega|(simp only [qI,qJ,qK]<;>omega)|exact qL _)) only [go_sem,↓reduceIte,n0,reduceCtorEq,n1,n2,n3,n4,n5,i0,i1,i2,i3,i4,i5,i6,i7,hv_7])
  refine (RComplete_fn w7 hq7.1 hG7.2).mono ?_
  rintro _ wz ⟨rfl,hez⟩
  rw [hez]
  repeat ((first | refine qA rfl ?_|refine qB ?_|refine qC rfl ?_|refine qD ?_|refine qE ?_|refine qF ?_|refine qG ?_|refine qH ?_);try simp (maxSteps:=1000000)(disch:=(first|omega|(simp only [qI,qJ,qK]<;>omega)|exact qL _)) only [go_sem,↓reduceIte,n0,reduceCtorEq,n1,n2,n3,n4,n5,i0,i1,i2,i3,i4,i5,i6,i7,hv_7])
  rw [hfin]
  refine ⟨fun h => ?_,fun h => ⟨?_,[.pointer ap2,.int .i32 (rdInt .i32 4 s1).1,.int .i64 (-1),.int .i16 (-1),.map qm],hv_7,?_⟩,?_⟩
  · have h' : s3 = none := h
    rw [h'];rfl
  · cases hsn : s3 with
    | none => exact absurd hsn h
    | some x => rfl
  · exact (RepS_lay true (d + 1) fs_InitProducerIDRequest).weaken hR fun b _ hk => hk.imp id fun h => by omega
  · exact hbase.trans' hU7 fun i hi h => h.elim id fun h => by omega
end Ms

namespace Ms
open Go.World renaming size_alloc → qI
open Ms renaming size_wr → qJ,size_drew → qK,not_noB → qL
open W renaming seqR → qA,seq → qB,regR → qC,condK → qD,block → qE,skip → qF,ret → qG,exit → qH
open Nat renaming reduceEqDiff → n0,reduceAdd → n1,reduceMul → n2,reduceSub → n3,reduceLT → n4,reduceLeDiff → n5
open Int renaming reduceEq → i0,reduceLT → i1,reduceLE → i2,reduceNeg → i3,reduceAdd → i4,reduceSub → i5,reduceMul → i6,reduceToNat → i7
set_option maxRecDepth 8000
open Go Go.Proofs Go.Shelf
attribute [local congr] W_congr WPsq_congr WPp_congr optK_congr addrK_congr intK_congr boolK_congr sliceK_congr tupleK_congr funcK_congr Fn_congr rawK_congr takeK_congr stepK_congr convK_congr aggK_congr

set_option maxHeartbeats 4000000 in
theorem readInitProducerIDRequest_2 {d : Nat} {ok : Blocks} {ver : Int} {ev : Value} (hlo : 3 ≤ ver) (hhi : ver ≤ 5) (w : World) {vb : Nat} (src : Value) (s : List UInt8) (hv : blk w vb = some (#[.int .i16 ver,.pointer none,.int .i32 0,.int .i64 (-1),.int .i16 (-1),.map none],99,(0,0))) (hsrc : BytesV ok w src s) (hok0 : ∀ b,ok b → b < w.heap.size ∧ b ≠ vb) (hG : Glo ev w) (hgv : ¬ 0 = vb ∧ ¬ 1 = vb) :
    Fn Tryd.prog 72 #[.pointer (some ⟨vb,0,none⟩),src,.bool false] w (ReadQ 99 ok ver (d + 1) fs_InitProducerIDRequest vb w (rdP (d + 1) ver true fs_InitProducerIDRequest (some s)) ev) := by
  have hvl := blk_lt hv
  have hgs := hG.lt
  obtain ⟨sa,sc,rfl,_⟩ := hsrc.shape
  refine fn_of_W Tryd.func72 rfl Tryd.results72 Tryd.ntmps72 rfl ?_
  repeat ((first | refine qA rfl ?_|refine qB ?_|refine qC rfl ?_|refine qD ?_|refine qE ?_|refine qF ?_|refine qG ?_|refine qH ?_);try simp (maxSteps:=1000000)(disch:=(first|omega|(simp only [qI,qJ,qK]<;>omega)|exact qL _)) only [go_sem,↓reduceIte,n0,reduceCtorEq,n1,n2,n3,n4,n5,i0,i1,i2,i3,i4,i5,i6,i7,hv])
  refine (DefaultInitProducerIDRequest_fn w hv).mono ?_
  rintro _ w0 ⟨hv0,hu0⟩
  have hz0 := hu0.size
  have hsrc0 : BytesV ok w0 (.slice sa s.length sc) s := hsrc.keep (hu0.keeps fun b _ hk e => (hok0 b hk).2 e)
  obtain ⟨rb,hrb⟩ : ∃ r,r = w0.heap.size := ⟨_,rfl⟩
  have hE1 : Ext w0 (wr (w0.alloc (.cells #[.slice none 0 0,.bool false] 113)) w0.heap.size 0 [.slice sa s.length sc,.bool false]) := (Upd.alloc (Upd.refl _ _) _).wr _ _ (.inl (Nat.le_refl _))
  have hz1 : (wr (w0.alloc (.cells #[.slice none 0 0,.bool false] 113)) w0.heap.size 0 [.slice sa s.length sc,.bool false]).heap.size = w0.heap.size + 1 := by rw [size_wr,World.size_alloc]
  have hR1 : Rdr RT ok (wr (w0.alloc (.cells #[.slice none 0 0,.bool false] 113)) w0.heap.size 0 [.slice sa s.length sc,.bool false]) w0.heap.size (some s) := Rdr.good (v := .slice sa s.length sc) (by simp (maxSteps:=1000000)(disch:=(first|omega|(simp only [qI,qJ,qK]<;>omega)|exact qL _)) only [go_sem,↓reduceIte,n0,reduceCtorEq,n1,n2,n3,n4,n5,i0,i1,i2,i3,i4,i5,i6,i7]) (hsrc0.keep (hE1.keeps _))
  have hv_1 := hE1.blk_some hv0 id
  repeat ((first | refine qA rfl ?_|refine qB ?_|refine qC rfl ?_|refine qD ?_|refine qE ?_|refine qF ?_|refine qG ?_|refine qH ?_);try simp (maxSteps:=1000000)(disch:=(first|omega|(simp only [qI,qJ,qK]<;>omega)|exact qL _)) only [go_sem,↓reduceIte,n0,reduceCtorEq,n1,n2,n3,n4,n5,i0,i1,i2,i3,i4,i5,i6,i7,hv0])
  generalize (wr (w0.alloc (.cells #[.slice none 0 0,.bool false] 113)) w0.heap.size 0 [.slice sa s.length sc,.bool false]) = w1 at *
  rw [← hrb] at hR1
  try rw [← hrb]
  have hok : ∀ b,ok b → b < w.heap.size ∧ b ≠ vb := hok0
  have hrok : ¬ ok rb := fun h => by have := (hok rb h).1;omega
  have hbase : Upd (fun b => b = vb) w w1 := hu0.trans (hE1.mono fun _ h => h.elim)
  have hG1 : Glo ev w1 := hG.updS hbase hgv.1 hgv.2
  have hgrb : ¬ 0 = rb := by omega
  have hgM1 : ¬ (0 = vb ∨ 0 = rb) := fun h => h.elim hgv.1 fun h => by omega
  have hgM2 : ¬ (1 = vb ∨ 1 = rb) := fun h => h.elim hgv.2 fun h => by omega
  obtain ⟨s0,hs0⟩ : ∃ s' : St,s' = some s := ⟨_,rfl⟩
  rw [← hs0] at hR1 ⊢
  have hU1 : Upd (fun b => b = vb ∨ b = rb) w1 w1 := Upd.refl _ _
  have hoM : ∀ b,(ok b ∨ w1.heap.size ≤ b) → ¬ (b = vb ∨ b = rb) := fun b hk h => by
    rcases hk with hk | hk
    · have := hok b hk;rcases h with h | h <;> omega
    · rcases h with h | h <;> omega
  have hq1 : Rdr RT ok w1 rb s0 := hR1
  obtain ⟨FB,hFB⟩ : ∃ P : Prop,P = ((rdP (d + 1) ver true fs_InitProducerIDRequest s0).2 = none) := ⟨_,rfl⟩
  have hb_0 : (rdL (rdP d ver true) (dfP d) ver true [fInitProducerIDRequest_0,fInitProducerIDRequest_1,fInitProducerIDRequest_2,fInitProducerIDRequest_3] s0).2 = none → FB := fun h => Eq.mpr hFB (rdP_bad h)
  have hh_0 : hasS fInitProducerIDRequest_0 ver = true := hasS_t (by show (0 : Int) ≤ ver;omega) (by show (-1 : Int) < 0 ∨ ver ≤ (-1 : Int);omega)
  obtain ⟨x_0,hx_0⟩ : ∃ x,x = (rdF (rdP d ver true) ver true fInitProducerIDRequest_0 s0).1 := ⟨_,rfl⟩
  repeat ((first | refine qA rfl ?_|refine qB ?_|refine qC rfl ?_|refine qD ?_|refine qE ?_|refine qF ?_|refine qG ?_|refine qH ?_);try simp (maxSteps:=1000000)(disch:=(first|omega|(simp only [qI,qJ,qK]<;>omega)|exact qL _)) only [go_sem,↓reduceIte,n0,reduceCtorEq,n1,n2,n3,n4,n5,i0,i1,i2,i3,i4,i5,i6,i7,hv_1])
  have hmay : mayS fInitProducerIDRequest_0 ver = true := mayS_yes (by decide) (by show (0 : Int) ≤ ver;omega)
  have hrd : rdF (rdP d ver true) ver true fInitProducerIDRequest_0 s0 = _ := rdF_ptr rfl hmay
  refine (RCompactNullableString_fn w1 hq1 hrok hG1.1 hgrb).mono ?_
  rintro r2 w2 ⟨hp2,hq2,hu2⟩
  obtain ⟨ap2,rfl⟩ := hp2.shape
  have hv_2 := hu2.blk_some hv_1 (by omega)
  have hV2 : Upd (fun b => b = vb ∨ b = rb) w1 w2 := hu2.mono (fun _ h => .inr h)
  have hU2 : Upd (fun b => b = vb ∨ b = rb) w1 w2 := hU1.trans hV2
  have hz2 := hV2.size
  have hG2 : Glo ev w2 := hG1.updS hU2 hgM1 hgM2
  have hst : (rdF (rdP d ver true) ver true fInitProducerIDRequest_0 s0).2 = (rdNStr true s0).2 := by first | (rw [hrd];rfl) | rw [hrd]
  obtain ⟨s1,hs1⟩ : ∃ s,s = (rdF (rdP d ver true) ver true fInitProducerIDRequest_0 s0).2 := ⟨_,rfl⟩
  rw [← hst,← hs1] at hq2
  clear hst
  repeat ((first | refine qA rfl ?_|refine qB ?_|refine qC rfl ?_|refine qD ?_|refine qE ?_|refine qF ?_|refine qG ?_|refine qH ?_);try simp (maxSteps:=1000000)(disch:=(first|omega|(simp only [qI,qJ,qK]<;>omega)|exact qL _)) only [go_sem,↓reduceIte,n0,reduceCtorEq,n1,n2,n3,n4,n5,i0,i1,i2,i3,i4,i5,i6,i7,hv_2])
  generalize hw3 : wr w2 vb 1 [.pointer ap2] = w3
  have hS3 : Upd (fun b => b = vb ∨ b = rb) w2 w3 := by rw [← hw3];exact (Upd.refl _ _).wr _ _ (.inr (.inl rfl))
  have hv_3 : blk w3 vb = some (#[.int .i16 ver,.pointer ap2,.int .i32 0,.int .i64 (-1),.int .i16 (-1),.map none],99,(0,0)) := by rw [← hw3,blk_wr_eq,hv_2];rfl
  have hV3 := hS3
  have hU3 : Upd (fun b => b = vb ∨ b = rb) w1 w3 := hU2.trans hV3
  have hz3 := hV3.size
  have hG3 : Glo ev w3 := hG1.updS hU3 hgM1 hgM2
  have hq3 : Rdr RT ok w3 rb s1 ∧ NN w3 rb s1 := by
    have hn : ∀ x,x = w3 → (Rdr RT ok x rb s1 ∧ NN x rb s1) := fun x hx => by
      rw [hx,← hw3]
      exact Rdr.store hq2 (by omega) (fun h => by have := (hok _ h).1;first | omega | exact (hok _ h).2 rfl)
    exact hn _ rfl
  clear hw3
  have hf_0 : RepF (RepS true d) (szS true d) fInitProducerIDRequest_0 (fun b => ok b ∨ w1.heap.size ≤ b) w3 (x_0) [.pointer ap2] := (RepF_ptr rfl (by decide)).2 ⟨_,rfl,by rw [hx_0,hrd];exact (hp2.weaken fun b _ hk => by have hk' : w1.heap.size ≤ b := hk;exact .inr (by omega)).keep (hV3.keeps fun b _ hk e => (hoM b hk) e)⟩
  clear hrd
  have hb_1 : (rdL (rdP d ver true) (dfP d) ver true [fInitProducerIDRequest_1,fInitProducerIDRequest_2,fInitProducerIDRequest_3] s1).2 = none → FB := fun h => hb_0 (by rw [rdL_st (by decide) hh_0,← hs1];exact h)
  have hh_1 : hasS fInitProducerIDRequest_1 ver = true := hasS_t (by show (0 : Int) ≤ ver;omega) (by show (-1 : Int) < 0 ∨ ver ≤ (-1 : Int);omega)
  obtain ⟨x_1,hx_1⟩ : ∃ x,x = (rdF (rdP d ver true) ver true fInitProducerIDRequest_1 s1).1 := ⟨_,rfl⟩
  repeat ((first | refine qA rfl ?_|refine qB ?_|refine qC rfl ?_|refine qD ?_|refine qE ?_|refine qF ?_|refine qG ?_|refine qH ?_);try simp (maxSteps:=1000000)(disch:=(first|omega|(simp only [qI,qJ,qK]<;>omega)|exact qL _)) only [go_sem,↓reduceIte,n0,reduceCtorEq,n1,n2,n3,n4,n5,i0,i1,i2,i3,i4,i5,i6,i7,hv_3])
  have hrd : rdF (rdP d ver true) ver true fInitProducerIDRequest_1 s1 = _ := rdF_num 3 rfl (by decide)
  refine (Int32_fn w3 hq3.1 hrok hG3.1 hgrb).mono ?_
  rintro _ w4 ⟨rfl,hq4,hu4⟩
  have hv_4 := hu4.blk_some hv_3 (by omega)
  have hV4 : Upd (fun b => b = vb ∨ b = rb) w3 w4 := hu4.mono (fun _ h => .inr h)
  have hU4 : Upd (fun b => b = vb ∨ b = rb) w1 w4 := hU3.trans hV4
  have hz4 := hV4.size
  have hG4 : Glo ev w4 := hG1.updS hU4 hgM1 hgM2
  have hst : (rdF (rdP d ver true) ver true fInitProducerIDRequest_1 s1).2 = (rdInt .i32 4 s1).2 := by first | (rw [hrd];rfl) | rw [hrd]
  obtain ⟨s2,hs2⟩ : ∃ s,s = (rdF (rdP d ver true) ver true fInitProducerIDRequest_1 s1).2 := ⟨_,rfl⟩
  rw [← hst,← hs2] at hq4
  clear hst
  repeat ((first | refine qA rfl ?_|refine qB ?_|refine qC rfl ?_|refine qD ?_|refine qE ?_|refine qF ?_|refine qG ?_|refine qH ?_);try simp (maxSteps:=1000000)(disch:=(first|omega|(simp only [qI,qJ,qK]<;>omega)|exact qL _)) only [go_sem,↓reduceIte,n0,reduceCtorEq,n1,n2,n3,n4,n5,i0,i1,i2,i3,i4,i5,i6,i7,hv_4])
  generalize hw5 : wr w4 vb 2 [.int .i32 (rdInt .i32 4 s1).1] = w5
  have hS5 : Upd (fun b => b = vb ∨ b = rb) w4 w5 := by rw [← hw5];exact (Upd.refl _ _).wr _ _ (.inr (.inl rfl))
  have hv_5 : blk w5 vb = some (#[.int .i16 ver,.pointer ap2,.int .i32 (rdInt .i32 4 s1).1,.int .i64 (-1),.int .i16 (-1),.map none],99,(0,0)) := by rw [← hw5,blk_wr_eq,hv_4];rfl
  have hV5 := hS5
  have hU5 : Upd (fun b => b = vb ∨ b = rb) w1 w5 := hU4.trans hV5
  have hz5 := hV5.size
  have hG5 : Glo ev w5 := hG1.updS hU5 hgM1 hgM2
  have hq5 : Rdr RT ok w5 rb s2 ∧ NN w5 rb s2 := by
    have hn : ∀ x,x = w5 → (Rdr RT ok x rb s2 ∧ NN x rb s2) := fun x hx => by
      rw [hx,← hw5]
      exact Rdr.store hq4 (by omega) (fun h => by have := (hok _ h).1;first | omega | exact (hok _ h).2 rfl)
    exact hn _ rfl
  clear hw5
  have hf_1 : RepF (RepS true d) (szS true d) fInitProducerIDRequest_1 (fun b => ok b ∨ w1.heap.size ≤ b) w5 (x_1) [.int .i32 (rdInt .i32 4 s1).1] := (RepF_num (by decide)).2 (by rw [hx_1,hrd];exact congrArg (fun x => [x]) (numC_rd 3 (by decide) 4 s1).symm)
  clear hrd
  have hb_2 : (rdL (rdP d ver true) (dfP d) ver true [fInitProducerIDRequest_2,fInitProducerIDRequest_3] s2).2 = none → FB := fun h => hb_1 (by rw [rdL_st (by decide) hh_1,← hs2];exact h)
  have hh_2 : hasS fInitProducerIDRequest_2 ver = true := hasS_t (by show (3 : Int) ≤ ver;omega) (by show (-1 : Int) < 0 ∨ ver ≤ (-1 : Int);omega)
  obtain ⟨x_2,hx_2⟩ : ∃ x,x = (rdF (rdP d ver true) ver true fInitProducerIDRequest_2 s2).1 := ⟨_,rfl⟩
  repeat ((first | refine qA rfl ?_|refine qB ?_|refine qC rfl ?_|refine qD ?_|refine qE ?_|refine qF ?_|refine qG ?_|refine qH ?_);try simp (maxSteps:=1000000)(disch:=(first|omega|(simp only [qI,qJ,qK]<;>omega)|exact qL _)) only [go_sem,↓reduceIte,n0,reduceCtorEq,n1,n2,n3,n4,n5,i0,i1,i2,i3,i4,i5,i6,i7,hv_5])
  have hrd : rdF (rdP d ver true) ver true fInitProducerIDRequest_2 s2 = _ := rdF_num 4 rfl (by decide)
  refine (Int64_fn w5 hq5.1 hrok hG5.1 hgrb).mono ?_
  rintro _ w6 ⟨rfl,hq6,hu6⟩
  have hv_6 := hu6.blk_some hv_5 (by omega)
  have hV6 : Upd (fun b => b = vb ∨ b = rb) w5 w6 := hu6.mono (fun _ h => .inr h)
  have hU6 : Upd (fun b => b = vb ∨ b = rb) w1 w6 := hU5.trans hV6
  have hz6 := hV6.size
  have hG6 : Glo ev w6 := hG1.updS hU6 hgM1 hgM2
  have hst : (rdF (rdP d ver true) ver true fInitProducerIDRequest_2 s2).2 = (rdInt .i64 8 s2).2 := by first | (rw [hrd];rfl) | rw [hrd]
  obtain ⟨s3,hs3⟩ : ∃ s,s = (rdF (rdP d ver true) ver true fInitProducerIDRequest_2 s2).2 := ⟨_,rfl⟩
  rw [← hst,← hs3] at hq6
  clear hst
  repeat ((first | refine qA rfl ?_|refine qB ?_|refine qC rfl ?_|refine qD ?_|refine qE ?_|refine qF ?_|refine qG ?_|refine qH ?_);try simp (maxSteps:=1000000)(disch:=(first|omega|(simp only [qI,qJ,qK]<;>omega)|exact qL _)) only [go_sem,↓reduceIte,n0,reduceCtorEq,n1,n2,n3,n4,n5,i0,i1,i2,i3,i4,i5,i6,i7,hv_6])
  generalize hw7 : wr w6 vb 3 [.int .i64 (rdInt .i64 8 s2).1] = w7
  have hS7 : Upd (fun b => b = vb ∨ b = rb) w6 w7 := by rw [← hw7];exact (Upd.refl _ _).wr _ _ (.inr (.inl rfl))
  have hv_7 : blk w7 vb = some (#[.int .i16 ver,.pointer ap2,.int .i32 (rdInt .i32 4 s1).1,.int .i64 (rdInt .i64 8 s2).1,.int .i16 (-1),.map none],99,(0,0)) := by rw [← hw7,blk_wr_eq,hv_6];rfl
  have hV7 := hS7
  have hU7 : Upd (fun b => b = vb ∨ b = rb) w1 w7 := hU6.trans hV7
  have hz7 := hV7.size
  have hG7 : Glo ev w7 := hG1.updS hU7 hgM1 hgM2
  have hq7 : Rdr RT ok w7 rb s3 ∧ NN w7 rb s3 := by
    have hn : ∀ x,x = w7 → (Rdr RT ok x rb s3 ∧ NN x rb s3) := fun x hx => by
      rw [hx,← hw7]
      exact Rdr.store hq6 (by omega) (fun h => by have := (hok _ h).1;first | omega | exact (hok _ h).2 rfl)
    exact hn _ rfl
  clear hw7
  have hf_2 : RepF (RepS true d) (szS true d) fInitProducerIDRequest_2 (fun b => ok b ∨ w1.heap.size ≤ b) w7 (x_2) [.int .i64 (rdInt .i64 8 s2).1] := (RepF_num (by decide)).2 (by rw [hx_2,hrd];exact congrArg (fun x => [x]) (numC_rd 4 (by decide) 8 s2).symm)
  clear hrd
  have hb_3 : (rdL (rdP d ver true) (dfP d) ver true [fInitProducerIDRequest_3] s3).2 = none → FB := fun h => hb_2 (by rw [rdL_st (by decide) hh_2,← hs3];exact h)
  have hh_3 : hasS fInitProducerIDRequest_3 ver = true := hasS_t (by show (3 : Int) ≤ ver;omega) (by show (-1 : Int) < 0 ∨ ver ≤ (-1 : Int);omega)
  obtain ⟨x_3,hx_3⟩ : ∃ x,x = (rdF (rdP d ver true) ver true fInitProducerIDRequest_3 s3).1 := ⟨_,rfl⟩
  repeat ((first | refine qA rfl ?_|refine qB ?_|refine qC rfl ?_|refine qD ?_|refine qE ?_|refine qF ?_|refine qG ?_|refine qH ?_);try simp (maxSteps:=1000000)(disch:=(first|omega|(simp only [qI,qJ,qK]<;>omega)|exact qL _)) only [go_sem,↓reduceIte,n0,reduceCtorEq,n1,n2,n3,n4,n5,i0,i1,i2,i3,i4,i5,i6,i7,hv_7])
  have hrd : rdF (rdP d ver true) ver true fInitProducerIDRequest_3 s3 = _ := rdF_num 2 rfl (by decide)
  refine (Int16_fn w7 hq7.1 hrok hG7.1 hgrb).mono ?_
  rintro _ w8 ⟨rfl,hq8,hu8⟩
  have hv_8 := hu8.blk_some hv_7 (by omega)
  have hV8 : Upd (fun b => b = vb ∨ b = rb) w7 w8 := hu8.mono (fun _ h => .inr h)
  have hU8 : Upd (fun b => b = vb ∨ b = rb) w1 w8 := hU7.trans hV8
  have hz8 := hV8.size
  have hG8 : Glo ev w8 := hG1.updS hU8 hgM1 hgM2
  have hst : (rdF (rdP d ver true) ver true fInitProducerIDRequest_3 s3).2 = (rdInt .i16 2 s3).2 := by first | (rw [hrd];rfl) | rw [hrd]
  obtain ⟨s4,hs4⟩ : ∃ s,s = (rdF (rdP d ver true) ver true fInitProducerIDRequest_3 s3).2 := ⟨_,rfl⟩
  rw [← hst,← hs4] at hq8
  clear hst
  repeat ((first | refine qA rfl ?_|refine qB ?_|refine qC rfl ?_|refine qD ?_|refine qE ?_|refine qF ?_|refine qG ?_|refine qH ?_);try simp (maxSteps:=1000000)(disch:=(first|omega|(simp only [qI,qJ,qK]<;>omega)|exact qL _)) only [go_sem,↓reduceIte,n0,reduceCtorEq,n1,n2,n3,n4,n5,i0,i1,i2,i3,i4,i5,i6,i7,hv_8])
  generalize hw9 : wr w8 vb 4 [.int .i16 (rdInt .i16 2 s3).1] = w9
  have hS9 : Upd (fun b => b = vb ∨ b = rb) w8 w9 := by rw [← hw9];exact (Upd.refl _ _).wr _ _ (.inr (.inl rfl))
  have hv_9 : blk w9 vb = some (#[.int .i16 ver,.pointer ap2,.int .i32 (rdInt .i32 4 s1).1,.int .i64 (rdInt .i64 8 s2).1,.int .i16 (rdInt .i16 2 s3).1,.map none],99,(0,0)) := by rw [← hw9,blk_wr_eq,hv_8];rfl
  have hV9 := hS9
  have hU9 : Upd (fun b => b = vb ∨ b = rb) w1 w9 := hU8.trans hV9
  have hz9 := hV9.size
  have hG9 : Glo ev w9 := hG1.updS hU9 hgM1 hgM2
  have hq9 : Rdr RT ok w9 rb s4 ∧ NN w9 rb s4 := by
    have hn : ∀ x,x = w9 → (Rdr RT ok x rb s4 ∧ NN x rb s4) := fun x hx => by
      rw [hx,← hw9]
      exact Rdr.store hq8 (by omega) (fun h => by have := (hok _ h).1;first | omega | exact (hok _ h).2 rfl)
    exact hn _ rfl
  clear hw9
  have hf_3 : RepF (RepS true d) (szS true d) fInitProducerIDRequest_3 (fun b => ok b ∨ w1.heap.size ≤ b) w9 (x_3) [.int .i16 (rdInt .i16 2 s3).1] := (RepF_num (by decide)).2 (by rw [hx_3,hrd];exact congrArg (fun x => [x]) (numC_rd 2 (by decide) 2 s3).symm)
  clear hrd
  have hl_4 : rdL (rdP d ver true) (dfP d) ver true [] s4 = ([],s4) := rfl
  have hl_3 : rdL (rdP d ver true) (dfP d) ver true [fInitProducerIDRequest_3] s3 = ([x_3],s4) := by rw [rdL_st (by decide) hh_3,← hx_3,← hs4,hl_4]
  have hl_2 : rdL (rdP d ver true) (dfP d) ver true [fInitProducerIDRequest_2,fInitProducerIDRequest_3] s2 = ([x_2,x_3],s4) := by rw [rdL_st (by decide) hh_2,← hx_2,← hs3,hl_3]
  have hl_1 : rdL (rdP d ver true) (dfP d) ver true [fInitProducerIDRequest_1,fInitProducerIDRequest_2,fInitProducerIDRequest_3] s1 = ([x_1,x_2,x_3],s4) := by rw [rdL_st (by decide) hh_1,← hx_1,← hs2,hl_2]
  have hl_0 : rdL (rdP d ver true) (dfP d) ver true [fInitProducerIDRequest_0,fInitProducerIDRequest_1,fInitProducerIDRequest_2,fInitProducerIDRequest_3] s0 = ([x_0,x_1,x_2,x_3],s4) := by rw [rdL_st (by decide) hh_0,← hx_0,← hs1,hl_1]
  have hfin : rdP (d + 1) ver true fs_InitProducerIDRequest s0 = (.mk 0 [] false [x_0,x_1,x_2,x_3] (rdTags s4).1,(rdTags s4).2) := rdP_t hl_0
  repeat ((first | refine qA rfl ?_|refine qB ?_|refine qC rfl ?_|refine qD ?_|refine qE ?_|refine qF ?_|refine qG ?_|refine qH ?_);try simp (maxSteps:=1000000)(disch:=(first|omega|(simp only [qI,qJ,qK]<;>omega)|exact qL _)) only [go_sem,↓reduceIte,n0,reduceCtorEq,n1,n2,n3,n4,n5,i0,i1,i2,i3,i4,i5,i6,i7,hv_9])
  refine (ReadTags_fn w9 hq9.1 hrok).mono ?_
  rintro _ w10 ⟨qm,rfl,hT10,hTn,hq10,hu10⟩
  have hv_10 := hu10.blk_some hv_9 (by omega)
  have hV10 : Upd (fun b => b = vb ∨ b = rb) w9 w10 := hu10.mono (fun _ h => .inr h)
  have hU10 : Upd (fun b => b = vb ∨ b = rb) w1 w10 := hU9.trans hV10
  have hz10 := hV10.size
  have hG10 : Glo ev w10 := hG1.updS hU10 hgM1 hgM2
  obtain ⟨s5,hs5⟩ : ∃ s,s = (rdTags s4).2 := ⟨_,rfl⟩
  rw [← hs5] at hq10 hfin
  try simp (maxSteps:=1000000)(disch:=(first|omega|(simp only [qI,qJ,qK]<;>omega)|exact qL _)) only [go_sem,↓reduceIte,n0,reduceCtorEq,n1,n2,n3,n4,n5,i0,i1,i2,i3,i4,i5,i6,i7,hv_10]
  repeat ((first | refine qA rfl ?_|refine qB ?_|refine qC rfl ?_|refine qD ?_|refine qE ?_|refine qF ?_|refine qG ?_|refine qH ?_);try simp (maxSteps:=1000000)(disch:=(first|omega|(simp only [qI,qJ,qK]<;>omega)|exact qL _)) only [go_sem,↓reduceIte,n0,reduceCtorEq,n1,n2,n3,n4,n5,i0,i1,i2,i3,i4,i5,i6,i7,hv_10])
  generalize hw11 : wr w10 vb 5 [.map qm] = w11
  have hS11 : Upd (fun b => b = vb ∨ b = rb) w10 w11 := by rw [← hw11];exact (Upd.refl _ _).wr _ _ (.inr (.inl rfl))
  have hv_11 : blk w11 vb = some (#[.int .i16 ver,.pointer ap2,.int .i32 (rdInt .i32 4 s1).1,.int .i64 (rdInt .i64 8 s2).1,.int .i16 (rdInt .i16 2 s3).1,.map qm],99,(0,0)) := by rw [← hw11,blk_wr_eq,hv_10];rfl
  have hV11 := hS11
  have hU11 : Upd (fun b => b = vb ∨ b = rb) w1 w11 := hU10.trans hV11
  have hz11 := hV11.size
  have hG11 : Glo ev w11 := hG1.updS hU11 hgM1 hgM2
  have hq11 : Rdr RT ok w11 rb s5 ∧ NN w11 rb s5 := by
    have hn : ∀ x,x = w11 → (Rdr RT ok x rb s5 ∧ NN x rb s5) := fun x hx => by
      rw [hx,← hw11]
      exact Rdr.store hq10 (by omega) (fun h => by have := (hok _ h).1;first | omega | exact (hok _ h).2 rfl)
    exact hn _ rfl
  clear hw11
  have hTg : TagsM (fun b => ok b ∨ w1.heap.size ≤ b) w11 (.map qm) (rdTags s4).1 := (hT10.weaken fun b _ hk => hk.elim (fun hk => .inl hk) (fun h => by have h' : w9.heap.size ≤ b := h;exact .inr (by omega))).keep (hV11.keeps fun b _ hk e => (hoM b hk) e)
  have hC_11 : Upd (fun b => b = vb ∨ b = rb) w11 w11 := Upd.refl _ _
  have hC_10 : Upd (fun b => b = vb ∨ b = rb) w10 w11 := hV11.trans hC_11
  have hC_9 : Upd (fun b => b = vb ∨ b = rb) w9 w11 := hV10.trans hC_10
  have hC_8 : Upd (fun b => b = vb ∨ b = rb) w8 w11 := hV9.trans hC_9
  have hC_7 : Upd (fun b => b = vb ∨ b = rb) w7 w11 := hV8.trans hC_8
  have hC_6 : Upd (fun b => b = vb ∨ b = rb) w6 w11 := hV7.trans hC_7
  have hC_5 : Upd (fun b => b = vb ∨ b = rb) w5 w11 := hV6.trans hC_6
  have hC_4 : Upd (fun b => b = vb ∨ b = rb) w4 w11 := hV5.trans hC_5
  have hC_3 : Upd (fun b => b = vb ∨ b = rb) w3 w11 := hV4.trans hC_4
  have hC_2 : Upd (fun b => b = vb ∨ b = rb) w2 w11 := hV3.trans hC_3
  have hC_1 : Upd (fun b => b = vb ∨ b = rb) w1 w11 := hV2.trans hC_2
  have hR : RepS true (d + 1) fs_InitProducerIDRequest (fun b => ok b ∨ w1.heap.size ≤ b) w11 (.mk 0 [] false [x_0,x_1,x_2,x_3] (rdTags s4).1) [.pointer ap2,.int .i32 (rdInt .i32 4 s1).1,.int .i64 (rdInt .i64 8 s2).1,.int .i16 (rdInt .i16 2 s3).1,.map qm] := RepS.introT (c := [.pointer ap2,.int .i32 (rdInt .i32 4 s1).1,.int .i64 (rdInt .i64 8 s2).1,.int .i16 (rdInt .i16 2 s3).1]) (RepL.cons1 (hf_0.keepS (hC_3.keeps fun b _ hk e => (hoM b hk) e)) (RepL.cons1 (hf_1.keepS (hC_5.keeps fun b _ hk e => (hoM b hk) e)) (RepL.cons1 (hf_2.keepS (hC_7.keeps fun b _ hk e => (hoM b hk) e)) (RepL.cons1 (hf_3.keepS (hC_9.keeps fun b _ hk e => (hoM b hk) e)) RepL.nil)))) hTg
  repeat ((first | refine qA rfl ?_|refine qB ?_|refine qC rfl ?_|refine qD ?_|refine qE ?_|refine qF ?_|refine qG ?_|refine qH ?_);try simp (maxSteps:=1000000)(disch:=(first|omega|(simp only [qI,qJ,qK]<;>omega)|exact qL _)) only [go_sem,↓reduceIte,n0,reduceCtorEq,n1,n2,n3,n4,n5,i0,i1,i2,i3,i4,i5,i6,i7,hv_11])
  refine (RComplete_fn w11 hq11.1 hG11.2).mono ?_
  rintro _ wz ⟨rfl,hez⟩
  rw [hez]
  repeat ((first | refine qA rfl ?_|refine qB ?_|refine qC rfl ?_|refine qD ?_|refine qE ?_|refine qF ?_|refine qG ?_|refine qH ?_);try simp (maxSteps:=1000000)(disch:=(first|omega|(simp only [qI,qJ,qK]<;>omega)|exact qL _)) only [go_sem,↓reduceIte,n0,reduceCtorEq,n1,n2,n3,n4,n5,i0,i1,i2,i3,i4,i5,i6,i7,hv_11])
  rw [hfin]
  refine ⟨fun h => ?_,fun h => ⟨?_,[.pointer ap2,.int .i32 (rdInt .i32 4 s1).1,.int .i64 (rdInt .i64 8 s2).1,.int .i16 (rdInt .i16 2 s3).1,.map qm],hv_11,?_⟩,?_⟩
  · have h' : s5 = none := h
    rw [h'];rfl
  · cases hsn : s5 with
    | none => exact absurd hsn h
    | some x => rfl
  · exact (RepS_lay true (d + 1) fs_InitProducerIDRequest).weaken hR fun b _ hk => hk.imp id fun h => by omega
  · exact hbase.trans' hU11 fun i hi h => h.elim id fun h => by omega
end Ms

namespace Ms
open Go.World renaming size_alloc → qI
open Ms renaming size_wr → qJ,size_drew → qK,not_noB → qL
open W renaming seqR → qA,seq → qB,regR → qC,condK → qD,block → qE,skip → qF,ret → qG,exit → qH
open Nat renaming reduceEqDiff → n0,reduceAdd → n1,reduceMul → n2,reduceSub → n3,reduceLT → n4,reduceLeDiff → n5
open Int renaming reduceEq → i0,reduceLT → i1,reduceLE → i2,reduceNeg → i3,reduceAdd → i4,reduceSub → i5,reduceMul → i6,reduceToNat → i7
set_option maxRecDepth 8000
open Go Go.Proofs Go.Shelf
attribute [local congr] W_congr WPsq_congr WPp_congr optK_congr addrK_congr intK_congr boolK_congr sliceK_congr tupleK_congr funcK_congr Fn_congr rawK_congr takeK_congr stepK_congr convK_congr aggK_congr

theorem ReadFromInitProducerIDRequest_fn {d : Nat} {ok : Blocks} {ver : Int} {ev : Value} (hlo : 0 ≤ ver) (hhi : ver ≤ 5) (w : World) {vb : Nat} (src : Value) (s : List UInt8) (hv : blk w vb = some (#[.int .i16 ver,.pointer none,.int .i32 0,.int .i64 (-1),.int .i16 (-1),.map none],99,(0,0))) (hsrc : BytesV ok w src s) (hok0 : ∀ b,ok b → b < w.heap.size ∧ b ≠ vb) (hG : Glo ev w) (hgv : ¬ 0 = vb ∧ ¬ 1 = vb) :
    Fn Tryd.prog 44 #[.pointer (some ⟨vb,0,none⟩),src] w (ReadQ 99 ok ver (d + 1) fs_InitProducerIDRequest vb w (rdP (d + 1) ver (flexB 2 ver) fs_InitProducerIDRequest (some s)) ev) := by
  obtain ⟨sa,sc,rfl,_⟩ := hsrc.shape
  refine fn_of_W Tryd.func44 rfl Tryd.results44 Tryd.ntmps44 rfl ?_
  repeat ((first | refine qA rfl ?_|refine qB ?_|refine qC rfl ?_|refine qD ?_|refine qE ?_|refine qF ?_|refine qG ?_|refine qH ?_);try simp (maxSteps:=1000000)(disch:=(first|omega|(simp only [qI,qJ,qK]<;>omega)|exact qL _)) only [go_sem,↓reduceIte,n0,reduceCtorEq,n1,n2,n3,n4,n5,i0,i1,i2,i3,i4,i5,i6,i7])
  have hcl : (0 ≤ ver ∧ ver ≤ 1) ∨ (2 ≤ ver ∧ ver ≤ 2) ∨ (3 ≤ ver ∧ ver ≤ 5) := by omega
  rcases hcl with ⟨h1,h2⟩ | ⟨h1,h2⟩ | ⟨h1,h2⟩
  · have hfl : flexB 2 ver = false := by simp only [flexB,Bool.and_eq_false_iff,decide_eq_false_iff_not];omega
    rw [hfl]
    refine (readInitProducerIDRequest_0 (d := d) h1 h2 w _ s hv hsrc hok0 hG hgv).mono ?_
    rintro r5 w5 h5
    repeat ((first | refine qA rfl ?_|refine qB ?_|refine qC rfl ?_|refine qD ?_|refine qE ?_|refine qF ?_|refine qG ?_|refine qH ?_);try simp (maxSteps:=1000000)(disch:=(first|omega|(simp only [qI,qJ,qK]<;>omega)|exact qL _)) only [go_sem,↓reduceIte,n0,reduceCtorEq,n1,n2,n3,n4,n5,i0,i1,i2,i3,i4,i5,i6,i7])
    all_goals exact h5
  · have hfl : flexB 2 ver = true := by simp only [flexB,Bool.and_eq_true,decide_eq_true_eq];omega
    rw [hfl]
    refine (readInitProducerIDRequest_1 (d := d) h1 h2 w _ s hv hsrc hok0 hG hgv).mono ?_
    rintro r5 w5 h5
    repeat ((first | refine qA rfl ?_|refine qB ?_|refine qC rfl ?_|refine qD ?_|refine qE ?_|refine qF ?_|refine qG ?_|refine qH ?_);try simp (maxSteps:=1000000)(disch:=(first|omega|(simp only [qI,qJ,qK]<;>omega)|exact qL _)) only [go_sem,↓reduceIte,n0,reduceCtorEq,n1,n2,n3,n4,n5,i0,i1,i2,i3,i4,i5,i6,i7])
    all_goals exact h5
  · have hfl : flexB 2 ver = true := by simp only [flexB,Bool.and_eq_true,decide_eq_true_eq];omega
    rw [hfl]
    refine (readInitProducerIDRequest_2 (d := d) h1 h2 w _ s hv hsrc hok0 hG hgv).mono ?_
    rintro r5 w5 h5
    repeat ((first | refine qA rfl ?_|refine qB ?_|refine qC rfl ?_|refine qD ?_|refine qE ?_|refine qF ?_|refine qG ?_|refine qH ?_);try simp (maxSteps:=1000000)(disch:=(first|omega|(simp only [qI,qJ,qK]<;>omega)|exact qL _)) only [go_sem,↓reduceIte,n0,reduceCtorEq,n1,n2,n3,n4,n5,i0,i1,i2,i3,i4,i5,i6,i7])
    all_goals exact h5

end Ms

namespace Ms
open Go.World renaming size_alloc → qI
open Ms renaming size_wr → qJ,size_drew → qK,not_noB → qL
open W renaming seqR → qA,seq → qB,regR → qC,condK → qD,block → qE,skip → qF,ret → qG,exit → qH
open Nat renaming reduceEqDiff → n0,reduceAdd → n1,reduceMul → n2,reduceSub → n3,reduceLT → n4,reduceLeDiff → n5
open Int renaming reduceEq → i0,reduceLT → i1,reduceLE → i2,reduceNeg → i3,reduceAdd → i4,reduceSub → i5,reduceMul → i6,reduceToNat → i7
set_option maxRecDepth 8000
open Go Go.Proofs Go.Shelf
attribute [local congr] W_congr WPsq_congr WPp_congr optK_congr addrK_congr intK_congr boolK_congr sliceK_congr tupleK_congr funcK_congr Fn_congr rawK_congr takeK_congr stepK_congr convK_congr aggK_congr

theorem tagclInitProducerIDRequest_fn {ok OK : Blocks} {B tb : Nat} (c0 c1 c2 c3 v : Value) (done : List TagD) (y : TagD) (vv : Value) (w : World) (hbt : blk w tb = some (#[c0,c1,c2,c3,v],37,(0,0))) (hg : GrowU OK B tb w 68 v done) (hB : B ≤ w.heap.size) (htb : tb < B) (hvv : BytesV ok w vv y.2) (hy : y.1 < 2 ^ 32) (hyl : y.2.length ≤ 32767) (hdl : done.length ≤ 32767) (hOK : ∀ b,B ≤ b → OK b) :
    Fn Tryd.prog 74 #[.int .u32 y.1,vv,.pointer (some ⟨tb,0,none⟩)] w fun _ w' => (∃ v',blk w' tb = some (#[c0,c1,c2,c3,v'],37,(0,0)) ∧ GrowU OK B tb w' 68 v' (done ++ [y])) ∧ Upd (fun b => b = tb ∨ B ≤ b) w w' := by
  have htl := blk_lt hbt
  refine fn_of_W Tryd.func74 rfl Tryd.results74 Tryd.ntmps74 rfl ?_
  repeat ((first | refine qA rfl ?_|refine qB ?_|refine qC rfl ?_|refine qD ?_|refine qE ?_|refine qF ?_|refine qG ?_|refine qH ?_);try simp (maxSteps:=1000000)(disch:=(first|omega|(simp only [qI,qJ,qK]<;>omega)|exact qL _)) only [go_sem,↓reduceIte,n0,reduceCtorEq,n1,n2,n3,n4,n5,i0,i1,i2,i3,i4,i5,i6,i7])
  obtain ⟨av,kv,rfl,_⟩ := hg.shape
  have hnb : ∀ b,b < B ∨ w.heap.size ≤ b → ¬ ownB (.slice av done.length kv) b := fun b hb h => by
    have := hg.above h
    have := hg.below h
    omega
  refine W.drawR (.take 0 (.take 1 (.take 2 (.take 3 (.only 4 (.only 5 (.only 6 (.only 7 (.take 8 (.last 9)))))))))) (ownB (.slice av done.length kv)) mixed (by kernel_rfl) ?_
  simp (maxSteps:=1000000)(disch:=(first|omega|(simp only [qI,qJ,qK]<;>omega)|exact qL _ | (refine hnb _ ?_;first | omega | (simp only [World.size_alloc,size_wr,size_drew] <;> omega)))) only [go_sem,↓reduceIte,n0,reduceCtorEq,n1,n2,n3,n4,n5,i0,i1,i2,i3,i4,i5,i6,i7,hbt]
  refine wp_copyN ap_22_22 (ok := ok) (s := y.2) (v := vv) (by first | rfl | simp (maxSteps:=1000000)(disch:=(first|omega|(simp only [qI,qJ,qK]<;>omega)|exact qL _)) only [go_sem,↓reduceIte,n0,reduceCtorEq,n1,n2,n3,n4,n5,i0,i1,i2,i3,i4,i5,i6,i7]) (by first | rfl | simp (maxSteps:=1000000)(disch:=(first|omega|(simp only [qI,qJ,qK]<;>omega)|exact qL _)) only [go_sem,↓reduceIte,n0,reduceCtorEq,n1,n2,n3,n4,n5,i0,i1,i2,i3,i4,i5,i6,i7]) (hvv.keep (Ext.keeps ((Upd.refl _ _).drew) _)) (by omega) ?_
  intro v1 w1 ho1 hE1 hf1
  obtain ⟨a1,k1,rfl,_⟩ := ho1.shape
  have hB1 := Own.bytes (ok := fun b => w.heap.size ≤ b) ho1 fun b hb => hf1 b hb
  have hP1 : Upd (ownB (.slice av done.length kv)) w.drew w1 := hE1.mono fun _ h => h.elim
  have hs1 := hE1.size
  simp only [size_drew] at hs1
  refine ⟨hP1,?_⟩
  simp (maxSteps:=1000000)(disch:=(first|omega|(simp only [qI,qJ,qK]<;>omega)|exact qL _ | (refine hnb _ ?_;first | omega | (simp only [World.size_alloc,size_wr,size_drew] <;> omega)))) only [go_sem,↓reduceIte,n0,reduceCtorEq,n1,n2,n3,n4,n5,i0,i1,i2,i3,i4,i5,i6,i7,hbt]
  refine ⟨hP1,?_⟩
  have hP2 : Upd (ownB (.slice av done.length kv)) w.drew (w1.alloc (.cells #[.int .u32 y.1,.slice a1 y.2.length k1] 68)) := hP1.alloc _
  have hn2 : blk (w1.alloc (.cells #[.int .u32 y.1,.slice a1 y.2.length k1] 68)) w1.heap.size = some (#[.int .u32 y.1,.slice a1 y.2.length k1],68,(0,0)) := blk_alloc_new rfl
  have hs2 : (w1.alloc (.cells #[.int .u32 y.1,.slice a1 y.2.length k1] 68)).heap.size = w1.heap.size + 1 := World.size_alloc _ _
  have hE2 : Ext w1 (w1.alloc (.cells #[.int .u32 y.1,.slice a1 y.2.length k1] 68)) := Upd.alloc (Upd.refl _ _) _
  refine ⟨hP2,?_⟩
  try simp only [List.append_nil]
  generalize (w1.alloc (.cells #[.int .u32 y.1,.slice a1 y.2.length k1] 68)) = w2 at *
  have hEw : Ext w w2 := (((Upd.refl _ _).drew).trans hE1).trans hE2
  obtain ⟨css,hown,hall⟩ := (hg.ext hEw).ex
  have hcl := hall.1
  have hx2 : TagC (fun b => OK b ∧ b ≠ tb ∧ ¬ ownB (.slice av done.length kv) b) w2 y [.int .u32 y.1,.slice a1 y.2.length k1] := ⟨_,rfl,(hB1.keep (hE2.keeps _)).weaken fun b _ hk => ⟨hOK b (by omega),by omega,hnb b (.inr hk)⟩,hy⟩
  refine wp_append ap_35_35 (m := 1) (news := [.int .u32 y.1,.slice a1 y.2.length k1]) (n := css.length) (cs := css.flatten) (v := .slice av done.length kv) ?_ rfl hown.1 hall.flat_cells (Src.blk (fr := (0,0)) (T := 68) hn2 rfl rfl) ?_ ?_ ?_
  · first | rfl | simp (maxSteps:=1000000)(disch:=(first|omega|(simp only [qI,qJ,qK]<;>omega)|exact qL _)) only [go_sem,↓reduceIte,n0,reduceCtorEq,n1,n2,n3,n4,n5,i0,i1,i2,i3,i4,i5,i6,i7]
  · omega
  · omega
  intro v' w3 ho hu hfr
  have hg3 := GrowU.snoc hown hall hx2 hu hfr ho
  obtain ⟨va,vc,hv',_⟩ := ho.shape
  subst hv'
  have hP3 := hP2.trans hu
  have hs3 := hu.size
  have hbt3 := hP3.blk_some (show blk w.drew tb = _ from hbt) (hnb _ (.inl htb))
  have hne : ¬ ownB (.slice va (css.length + 1) vc) tb := fun h => (hfr _ h).elim (hnb _ (.inl htb)) (fun h => by omega)
  refine ⟨hP3,?_⟩
  simp (maxSteps:=1000000)(disch:=(first|omega|(simp only [qI,qJ,qK]<;>omega)|exact qL _ | (refine hnb _ ?_;first | omega | (simp only [World.size_alloc,size_wr,size_drew] <;> omega)))) only [go_sem,↓reduceIte,n0,reduceCtorEq,n1,n2,n3,n4,n5,i0,i1,i2,i3,i4,i5,i6,i7,hbt3]
  repeat ((first | refine qA rfl ?_|refine qB ?_|refine qC rfl ?_|refine qD ?_|refine qE ?_|refine qF ?_|refine qG ?_|refine qH ?_);try simp (maxSteps:=1000000)(disch:=(first|omega|(simp only [qI,qJ,qK]<;>omega)|exact qL _)) only [go_sem,↓reduceIte,n0,reduceCtorEq,n1,n2,n3,n4,n5,i0,i1,i2,i3,i4,i5,i6,i7])
  refine ⟨⟨.slice va (css.length + 1) vc,by first | (rw [blk_wr_eq,hbt3];rfl) | rfl | (rw [hbt3];rfl) | (rw [blk_wr_eq,hbt3]),hg3.upd ((Upd.refl _ _).wr _ _ (.inr rfl)) hne⟩,?_⟩
  refine Upd.wr ?_ _ _ (.inr (.inl rfl))
  exact (((Upd.refl (fun b => b = tb ∨ B ≤ b) w).drew).trans (hP3.mono fun b h => .inr (hg.above h)))

set_option maxHeartbeats 4000000 in
theorem tellInitProducerIDRequest_fn {d : Nat} {ok : Blocks} (t : Tree) (cs : List Value) (w : World) {b : Nat} {x : Blk} (hb : blk w b = some x) (hq : ∀ k,k < 5 → x.1[1 + k]? = cs[k]?) (hR : RepS true (d + 1) fs_InitProducerIDRequest ok w t cs) (hg : GoodP (d + 1) fs_InitProducerIDRequest t) :
    Fn Tryd.prog 46 #[.pointer (some ⟨b,0,none⟩)] w fun r w' => (∃ c,r = .agg c.toArray ∧ TreeC (fun b => w.heap.size ≤ b) w' (tlP (d + 1) fs_InitProducerIDRequest t) c) ∧ Ext w w' := by
  have hbl := blk_lt hb
  obtain ⟨⟨gd0,gd1,gd2,gd3,-⟩,hgu⟩ := hg
  replace gd0 : GoodF (GoodP d) fInitProducerIDRequest_0 (t.at 0) := gd0
  replace gd1 : GoodF (GoodP d) fInitProducerIDRequest_1 (t.at 1) := gd1
  replace gd2 : GoodF (GoodP d) fInitProducerIDRequest_2 (t.at 2) := gd2
  replace gd3 : GoodF (GoodP d) fInitProducerIDRequest_3 (t.at 3) := gd3
  obtain ⟨cs0,q,hcs,hL,hT⟩ := hR.inv
  obtain ⟨c0,e0,rfl,h0,c1,e1,rfl,h1,c2,e2,rfl,h2,c3,e3,rfl,h3,rfl⟩ := hL
  replace h0 : RepF (RepS true d) (szS true d) fInitProducerIDRequest_0 ok w (t.at 0) c0 := h0
  replace h1 : RepF (RepS true d) (szS true d) fInitProducerIDRequest_1 ok w (t.at 1) c1 := h1
  replace h2 : RepF (RepS true d) (szS true d) fInitProducerIDRequest_2 ok w (t.at 2) c2 := h2
  replace h3 : RepF (RepS true d) (szS true d) fInitProducerIDRequest_3 ok w (t.at 3) c3 := h3
  obtain ⟨p0,rfl,hp0⟩ := (RepF_ptr rfl (by decide)).1 h0
  obtain ⟨ap0,rfl⟩ := hp0.shape
  obtain rfl := (RepF_num (by decide)).1 h1
  obtain rfl := (RepF_num (by decide)).1 h2
  obtain rfl := (RepF_num (by decide)).1 h3
  obtain ⟨qm,rfl⟩ := hT.shape
  subst hcs
  have hq0 : x.1[1]? = some (.pointer ap0) := hq 0 (by decide)
  have hq1 : x.1[2]? = some (.int .i32 (IntKind.i32.wrap (t.at 1).n)) := hq 1 (by decide)
  have hq2 : x.1[3]? = some (.int .i64 (t.at 2).n) := hq 2 (by decide)
  have hq3 : x.1[4]? = some (.int .i16 (IntKind.i16.wrap (t.at 3).n)) := hq 3 (by decide)
  have hq4 : x.1[5]? = some (.map qm) := hq 4 (by decide)
  have hn64_2 := (gd2.one (by decide)).1 rfl
  refine fn_of_W Tryd.func46 rfl Tryd.results46 Tryd.ntmps46 rfl ?_
  repeat ((first | refine qA rfl ?_|refine qB ?_|refine qC rfl ?_|refine qD ?_|refine qE ?_|refine qF ?_|refine qG ?_|refine qH ?_);try simp (maxSteps:=1000000)(disch:=(first|omega|(simp only [qI,qJ,qK]<;>omega)|exact qL _)) only [go_sem,↓reduceIte,n0,reduceCtorEq,n1,n2,n3,n4,n5,i0,i1,i2,i3,i4,i5,i6,i7])
  refine wp_make (T := 34) (E := 37) (size := 5) (bytes := 88) (z := .agg #[.int .i64 0,.slice none 0 0,.bool false,.slice none 0 0,.slice none 0 0]) (l := 4) (c := 4) (kl := .i64) (kc := .i64) (by kernel_rfl) (by kernel_rfl) (by first | rfl | (simp (maxSteps:=1000000)(disch:=(first|omega|(simp only [qI,qJ,qK]<;>omega)|exact qL _)) only [go_sem,↓reduceIte,n0,reduceCtorEq,n1,n2,n3,n4,n5,i0,i1,i2,i3,i4,i5,i6,i7];rfl)) (by first | rfl | (simp (maxSteps:=1000000)(disch:=(first|omega|(simp only [qI,qJ,qK]<;>omega)|exact qL _)) only [go_sem,↓reduceIte,n0,reduceCtorEq,n1,n2,n3,n4,n5,i0,i1,i2,i3,i4,i5,i6,i7];rfl)) (by omega) (by omega) (by omega) ?_
  have hmd : madeCells (Value.agg #[.int .i64 0,.slice none 0 0,.bool false,.slice none 0 0,.slice none 0 0]).cells (4 * 5) = #[.int .i64 0,.slice none 0 0,.bool false,.slice none 0 0,.slice none 0 0,.int .i64 0,.slice none 0 0,.bool false,.slice none 0 0,.slice none 0 0,.int .i64 0,.slice none 0 0,.bool false,.slice none 0 0,.slice none 0 0,.int .i64 0,.slice none 0 0,.bool false,.slice none 0 0,.slice none 0 0] := by kernel_rfl
  rw [hmd]
  simp (maxSteps:=1000000)(disch:=(first|omega|(simp only [qI,qJ,qK]<;>omega)|exact qL _)) only [go_sem,↓reduceIte,n0,reduceCtorEq,n1,n2,n3,n4,n5,i0,i1,i2,i3,i4,i5,i6,i7]
  repeat ((first | refine qA rfl ?_|refine qB ?_|refine qC rfl ?_|refine qD ?_|refine qE ?_|refine qF ?_|refine qG ?_|refine qH ?_);try simp (maxSteps:=1000000)(disch:=(first|omega|(simp only [qI,qJ,qK]<;>omega)|exact qL _)) only [go_sem,↓reduceIte,n0,reduceCtorEq,n1,n2,n3,n4,n5,i0,i1,i2,i3,i4,i5,i6,i7])
  have hE1 : Ext w (wr (((w.alloc (.cells #[.int .i64 0,.slice none 0 0,.bool false,.slice none 0 0,.slice none 0 0] 37)).alloc (.cells #[.int .i64 0,.slice none 0 0,.bool false,.slice none 0 0,.slice none 0 0,.int .i64 0,.slice none 0 0,.bool false,.slice none 0 0,.slice none 0 0,.int .i64 0,.slice none 0 0,.bool false,.slice none 0 0,.slice none 0 0,.int .i64 0,.slice none 0 0,.bool false,.slice none 0 0,.slice none 0 0] 37)).alloc (.cells #[.int .i64 0,.slice none 0 0,.bool false,.slice none 0 0,.slice none 0 0] 37)) (w.heap.size + 2) 0 [.int .i64 0,.slice none 0 0,.bool false,.slice (some ⟨w.heap.size + 1,0,none⟩) 4 4,.slice none 0 0]) := (Upd.alloc (Upd.alloc (Upd.alloc (Upd.refl _ _) _) _) _).wr _ _ (.inl (by omega))
  have hz1 : (wr (((w.alloc (.cells #[.int .i64 0,.slice none 0 0,.bool false,.slice none 0 0,.slice none 0 0] 37)).alloc (.cells #[.int .i64 0,.slice none 0 0,.bool false,.slice none 0 0,.slice none 0 0,.int .i64 0,.slice none 0 0,.bool false,.slice none 0 0,.slice none 0 0,.int .i64 0,.slice none 0 0,.bool false,.slice none 0 0,.slice none 0 0,.int .i64 0,.slice none 0 0,.bool false,.slice none 0 0,.slice none 0 0] 37)).alloc (.cells #[.int .i64 0,.slice none 0 0,.bool false,.slice none 0 0,.slice none 0 0] 37)) (w.heap.size + 2) 0 [.int .i64 0,.slice none 0 0,.bool false,.slice (some ⟨w.heap.size + 1,0,none⟩) 4 4,.slice none 0 0]).heap.size = w.heap.size + 3 := by simp only [size_wr,World.size_alloc]
  have hl1 : blk (wr (((w.alloc (.cells #[.int .i64 0,.slice none 0 0,.bool false,.slice none 0 0,.slice none 0 0] 37)).alloc (.cells #[.int .i64 0,.slice none 0 0,.bool false,.slice none 0 0,.slice none 0 0,.int .i64 0,.slice none 0 0,.bool false,.slice none 0 0,.slice none 0 0,.int .i64 0,.slice none 0 0,.bool false,.slice none 0 0,.slice none 0 0,.int .i64 0,.slice none 0 0,.bool false,.slice none 0 0,.slice none 0 0] 37)).alloc (.cells #[.int .i64 0,.slice none 0 0,.bool false,.slice none 0 0,.slice none 0 0] 37)) (w.heap.size + 2) 0 [.int .i64 0,.slice none 0 0,.bool false,.slice (some ⟨w.heap.size + 1,0,none⟩) 4 4,.slice none 0 0]) (w.heap.size + 1) = some (#[.int .i64 0,.slice none 0 0,.bool false,.slice none 0 0,.slice none 0 0,.int .i64 0,.slice none 0 0,.bool false,.slice none 0 0,.slice none 0 0,.int .i64 0,.slice none 0 0,.bool false,.slice none 0 0,.slice none 0 0,.int .i64 0,.slice none 0 0,.bool false,.slice none 0 0,.slice none 0 0],37,(0,0)) := by simp (maxSteps:=1000000)(disch:=(first|omega|(simp only [qI,qJ,qK]<;>omega)|exact qL _)) only [go_sem,↓reduceIte,n0,reduceCtorEq,n1,n2,n3,n4,n5,i0,i1,i2,i3,i4,i5,i6,i7]
  have ht1 : blk (wr (((w.alloc (.cells #[.int .i64 0,.slice none 0 0,.bool false,.slice none 0 0,.slice none 0 0] 37)).alloc (.cells #[.int .i64 0,.slice none 0 0,.bool false,.slice none 0 0,.slice none 0 0,.int .i64 0,.slice none 0 0,.bool false,.slice none 0 0,.slice none 0 0,.int .i64 0,.slice none 0 0,.bool false,.slice none 0 0,.slice none 0 0,.int .i64 0,.slice none 0 0,.bool false,.slice none 0 0,.slice none 0 0] 37)).alloc (.cells #[.int .i64 0,.slice none 0 0,.bool false,.slice none 0 0,.slice none 0 0] 37)) (w.heap.size + 2) 0 [.int .i64 0,.slice none 0 0,.bool false,.slice (some ⟨w.heap.size + 1,0,none⟩) 4 4,.slice none 0 0]) (w.heap.size + 2) = some (#[.int .i64 0,.slice none 0 0,.bool false,.slice (some ⟨w.heap.size + 1,0,none⟩) 4 4,.slice none 0 0],37,(0,0)) := by simp (maxSteps:=1000000)(disch:=(first|omega|(simp only [qI,qJ,qK]<;>omega)|exact qL _)) only [go_sem,↓reduceIte,n0,reduceCtorEq,n1,n2,n3,n4,n5,i0,i1,i2,i3,i4,i5,i6,i7]
  have hr1 : blk (wr (((w.alloc (.cells #[.int .i64 0,.slice none 0 0,.bool false,.slice none 0 0,.slice none 0 0] 37)).alloc (.cells #[.int .i64 0,.slice none 0 0,.bool false,.slice none 0 0,.slice none 0 0,.int .i64 0,.slice none 0 0,.bool false,.slice none 0 0,.slice none 0 0,.int .i64 0,.slice none 0 0,.bool false,.slice none 0 0,.slice none 0 0,.int .i64 0,.slice none 0 0,.bool false,.slice none 0 0,.slice none 0 0] 37)).alloc (.cells #[.int .i64 0,.slice none 0 0,.bool false,.slice none 0 0,.slice none 0 0] 37)) (w.heap.size + 2) 0 [.int .i64 0,.slice none 0 0,.bool false,.slice (some ⟨w.heap.size + 1,0,none⟩) 4 4,.slice none 0 0]) w.heap.size = some (#[.int .i64 0,.slice none 0 0,.bool false,.slice none 0 0,.slice none 0 0],37,(0,0)) := by simp (maxSteps:=1000000)(disch:=(first|omega|(simp only [qI,qJ,qK]<;>omega)|exact qL _)) only [go_sem,↓reduceIte,n0,reduceCtorEq,n1,n2,n3,n4,n5,i0,i1,i2,i3,i4,i5,i6,i7]
  generalize (wr (((w.alloc (.cells #[.int .i64 0,.slice none 0 0,.bool false,.slice none 0 0,.slice none 0 0] 37)).alloc (.cells #[.int .i64 0,.slice none 0 0,.bool false,.slice none 0 0,.slice none 0 0,.int .i64 0,.slice none 0 0,.bool false,.slice none 0 0,.slice none 0 0,.int .i64 0,.slice none 0 0,.bool false,.slice none 0 0,.slice none 0 0,.int .i64 0,.slice none 0 0,.bool false,.slice none 0 0,.slice none 0 0] 37)).alloc (.cells #[.int .i64 0,.slice none 0 0,.bool false,.slice none 0 0,.slice none 0 0] 37)) (w.heap.size + 2) 0 [.int .i64 0,.slice none 0 0,.bool false,.slice (some ⟨w.heap.size + 1,0,none⟩) 4 4,.slice none 0 0]) = w1 at *
  have hU1 : Upd (fun b => b = w.heap.size + 1 ∨ b = w.heap.size + 2) w1 w1 := Upd.refl _ _
  have hb1 := hE1.blk_some hb id
  repeat ((first | refine qA rfl ?_|refine qB ?_|refine qC rfl ?_|refine qD ?_|refine qE ?_|refine qF ?_|refine qG ?_|refine qH ?_);try simp (maxSteps:=1000000)(disch:=(first|omega|(simp only [qI,qJ,qK]<;>omega)|exact qL _)) only [go_sem,↓reduceIte,n0,reduceCtorEq,n1,n2,n3,n4,n5,i0,i1,i2,i3,i4,i5,i6,i7,hb1,hl1,ht1,hq0,hq1,hq2,hq3,hq4])
  refine W.drawR (.take 0 (.take 1 (.take 2 (.take 3 (.take 4 (.take 5 (.only 6 (.take 7 (.last 8))))))))) (NoB) mixed (by kernel_rfl) ?_
  try simp (maxSteps:=1000000)(disch:=(first|omega|(simp only [qI,qJ,qK]<;>omega)|exact qL _)) only [go_sem,↓reduceIte,n0,reduceCtorEq,n1,n2,n3,n4,n5,i0,i1,i2,i3,i4,i5,i6,i7,hb1,hl1,ht1,hq0,hq1,hq2,hq3,hq4]
  refine (textTree_fn (ok := ok) _ (t.at 0).null (t.at 0).s w1.drew (hp0.keep (Ext.keeps (hE1.drew) _))).mono ?_
  rintro _ w2 ⟨⟨vS2,rfl,hB2⟩,hEx2⟩
  have hfl2 := hB2.flat
  have hP2 : Upd NoB w1.drew w2 := (Upd.refl _ _).trans (hEx2.mono fun _ h => h.elim)
  have hsq2 := hEx2.size
  try simp only [size_drew] at hsq2
  refine ⟨hP2,?_⟩
  try simp (maxSteps:=1000000)(disch:=(first|omega|(simp only [qI,qJ,qK]<;>omega)|exact qL _)) only [go_sem,↓reduceIte,n0,reduceCtorEq,n1,n2,n3,n4,n5,i0,i1,i2,i3,i4,i5,i6,i7,hb1,hl1,ht1,hq0,hq1,hq2,hq3,hq4,hfl2]
  have hlq3 := hP2.blk_some (show blk w1.drew (w.heap.size + 1) = _ from hl1) id
  have hx3 : Upd (fun b => b = w.heap.size + 1 ∨ b = w.heap.size + 2) w1 w2 := ((Upd.refl _ _).drew).trans (hP2.mono fun _ h => h.elim)
  try simp (maxSteps:=1000000)(disch:=(first|omega|(simp only [qI,qJ,qK]<;>omega)|exact qL _)) only [go_sem,↓reduceIte,n0,reduceCtorEq,n1,n2,n3,n4,n5,i0,i1,i2,i3,i4,i5,i6,i7,hlq3]
  generalize hw3 : wr w2 (w.heap.size + 1) 0 [.int .i64 0,vS2,.bool (t.at 0).null,.slice none 0 0,.slice none 0 0] = w3
  have hl3 : blk w3 (w.heap.size + 1) = some (#[.int .i64 0,vS2,.bool (t.at 0).null,.slice none 0 0,.slice none 0 0,.int .i64 0,.slice none 0 0,.bool false,.slice none 0 0,.slice none 0 0,.int .i64 0,.slice none 0 0,.bool false,.slice none 0 0,.slice none 0 0,.int .i64 0,.slice none 0 0,.bool false,.slice none 0 0,.slice none 0 0],37,(0,0)) := by rw [← hw3,blk_wr_eq,hlq3];rfl
  have hv3 : Upd (fun b => b = w.heap.size + 1 ∨ b = w.heap.size + 2) w2 w3 := by rw [← hw3];exact (Upd.refl _ _).wr _ _ (.inr (.inl rfl))
  have hV3 : Upd (fun b => b = w.heap.size + 1 ∨ b = w.heap.size + 2) w1 w3 := hx3.trans hv3
  have hU3 : Upd (fun b => b = w.heap.size + 1 ∨ b = w.heap.size + 2) w1 w3 := hU1.trans hV3
  have hz3 := hU3.size
  have hX3 : Ext w w3 := hE1.more hU3 fun b hb h => by omega
  have hb3 := hX3.blk_some hb id
  have ht3 : blk w3 (w.heap.size + 2) = some (#[.int .i64 0,.slice none 0 0,.bool false,.slice (some ⟨w.heap.size + 1,0,none⟩) 4 4,.slice none 0 0],37,(0,0)) := by
    rw [← hw3,blk_wr_ne (by omega)]
    exact hP2.blk_some (show blk w1.drew (w.heap.size + 2) = _ from ht1) id
  clear hw3
  have hf0 : TreeC (fun b => w1.heap.size ≤ b) w3 (.oct (t.at 0).null (if (t.at 0).null = true then [] else (t.at 0).s)) [.int .i64 0,vS2,.bool (t.at 0).null,.slice none 0 0,.slice none 0 0] := (TreeC.keep (hv3.keeps fun b hb hk e => by have hk' : w1.heap.size ≤ b := hk;omega) (TreeC.intro rfl (hB2.weaken fun b _ hk => by have hk' : w1.drew.heap.size ≤ b := hk;(try simp only [size_drew] at hk');omega) (treesN _ _) (tagsN _ _) : TreeC (fun b => w1.heap.size ≤ b) w2 (.oct (t.at 0).null (if (t.at 0).null = true then [] else (t.at 0).s)) [.int .i64 0,vS2,.bool (t.at 0).null,.slice none 0 0,.slice none 0 0]))
  repeat ((first | refine qA rfl ?_|refine qB ?_|refine qC rfl ?_|refine qD ?_|refine qE ?_|refine qF ?_|refine qG ?_|refine qH ?_);try simp (maxSteps:=1000000)(disch:=(first|omega|(simp only [qI,qJ,qK]<;>omega)|exact qL _)) only [go_sem,↓reduceIte,n0,reduceCtorEq,n1,n2,n3,n4,n5,i0,i1,i2,i3,i4,i5,i6,i7,hb3,hl3,ht3,hq0,hq1,hq2,hq3,hq4])
  refine W.drawR (.take 0 (.take 1 (.take 2 (.take 3 (.take 4 (.take 5 (.take 6 (.only 7 (.take 8 (.last 9)))))))))) (NoB) mixed (by kernel_rfl) ?_
  try simp (maxSteps:=1000000)(disch:=(first|omega|(simp only [qI,qJ,qK]<;>omega)|exact qL _)) only [go_sem,↓reduceIte,n0,reduceCtorEq,n1,n2,n3,n4,n5,i0,i1,i2,i3,i4,i5,i6,i7,hb3,hl3,ht3,hq0,hq1,hq2,hq3,hq4,tl32]
  refine ⟨Upd.refl _ _,?_⟩
  have hlq4 : blk w3.drew (w.heap.size + 1) = _ := hl3
  have hx4 : Upd (fun b => b = w.heap.size + 1 ∨ b = w.heap.size + 2) w3 w3.drew := (Upd.refl _ _).drew
  generalize hw4 : wr w3.drew (w.heap.size + 1) 5 [.int .i64 (IntKind.i32.wrap (t.at 1).n),.slice none 0 0,.bool false,.slice none 0 0,.slice none 0 0] = w4
  have hl4 : blk w4 (w.heap.size + 1) = some (#[.int .i64 0,vS2,.bool (t.at 0).null,.slice none 0 0,.slice none 0 0,.int .i64 (IntKind.i32.wrap (t.at 1).n),.slice none 0 0,.bool false,.slice none 0 0,.slice none 0 0,.int .i64 0,.slice none 0 0,.bool false,.slice none 0 0,.slice none 0 0,.int .i64 0,.slice none 0 0,.bool false,.slice none 0 0,.slice none 0 0],37,(0,0)) := by rw [← hw4,blk_wr_eq,hlq4];rfl
  have hv4 : Upd (fun b => b = w.heap.size + 1 ∨ b = w.heap.size + 2) w3.drew w4 := by rw [← hw4];exact (Upd.refl _ _).wr _ _ (.inr (.inl rfl))
  have hV4 : Upd (fun b => b = w.heap.size + 1 ∨ b = w.heap.size + 2) w3 w4 := hx4.trans hv4
  have hU4 : Upd (fun b => b = w.heap.size + 1 ∨ b = w.heap.size + 2) w1 w4 := hU3.trans hV4
  have hz4 := hU4.size
  have hX4 : Ext w w4 := hE1.more hU4 fun b hb h => by omega
  have hb4 := hX4.blk_some hb id
  have ht4 : blk w4 (w.heap.size + 2) = some (#[.int .i64 0,.slice none 0 0,.bool false,.slice (some ⟨w.heap.size + 1,0,none⟩) 4 4,.slice none 0 0],37,(0,0)) := by
    rw [← hw4,blk_wr_ne (by omega)]
    exact ht3
  clear hw4
  have hf1 : TreeC (fun b => w1.heap.size ≤ b) w4 (.num (IntKind.i32.wrap (t.at 1).n)) [.int .i64 (IntKind.i32.wrap (t.at 1).n),.slice none 0 0,.bool false,.slice none 0 0,.slice none 0 0] := (TreeC.keep (hv4.keeps fun b hb hk e => by have hk' : w1.heap.size ≤ b := hk;omega) (TreeC.intro (tl32 _) (BytesV.nil _ _) (treesN _ _) (tagsN _ _) : TreeC (fun b => w1.heap.size ≤ b) w3.drew (.num (IntKind.i32.wrap (t.at 1).n)) [.int .i64 (IntKind.i32.wrap (t.at 1).n),.slice none 0 0,.bool false,.slice none 0 0,.slice none 0 0]))
  repeat ((first | refine qA rfl ?_|refine qB ?_|refine qC rfl ?_|refine qD ?_|refine qE ?_|refine qF ?_|refine qG ?_|refine qH ?_);try simp (maxSteps:=1000000)(disch:=(first|omega|(simp only [qI,qJ,qK]<;>omega)|exact qL _)) only [go_sem,↓reduceIte,n0,reduceCtorEq,n1,n2,n3,n4,n5,i0,i1,i2,i3,i4,i5,i6,i7,hb4,hl4,ht4,hq0,hq1,hq2,hq3,hq4])
  refine W.drawR (.take 0 (.take 1 (.take 2 (.take 3 (.take 4 (.take 5 (.only 6 (.take 7 (.last 8))))))))) (NoB) mixed (by kernel_rfl) ?_
  try simp (maxSteps:=1000000)(disch:=(first|omega|(simp only [qI,qJ,qK]<;>omega)|exact qL _)) only [go_sem,↓reduceIte,n0,reduceCtorEq,n1,n2,n3,n4,n5,i0,i1,i2,i3,i4,i5,i6,i7,hb4,hl4,ht4,hq0,hq1,hq2,hq3,hq4]
  refine ⟨Upd.refl _ _,?_⟩
  have hlq5 : blk w4.drew (w.heap.size + 1) = _ := hl4
  have hx5 : Upd (fun b => b = w.heap.size + 1 ∨ b = w.heap.size + 2) w4 w4.drew := (Upd.refl _ _).drew
  generalize hw5 : wr w4.drew (w.heap.size + 1) 10 [.int .i64 ((t.at 2).n),.slice none 0 0,.bool false,.slice none 0 0,.slice none 0 0] = w5
  have hl5 : blk w5 (w.heap.size + 1) = some (#[.int .i64 0,vS2,.bool (t.at 0).null,.slice none 0 0,.slice none 0 0,.int .i64 (IntKind.i32.wrap (t.at 1).n),.slice none 0 0,.bool false,.slice none 0 0,.slice none 0 0,.int .i64 ((t.at 2).n),.slice none 0 0,.bool false,.slice none 0 0,.slice none 0 0,.int .i64 0,.slice none 0 0,.bool false,.slice none 0 0,.slice none 0 0],37,(0,0)) := by rw [← hw5,blk_wr_eq,hlq5];rfl
  have hv5 : Upd (fun b => b = w.heap.size + 1 ∨ b = w.heap.size + 2) w4.drew w5 := by rw [← hw5];exact (Upd.refl _ _).wr _ _ (.inr (.inl rfl))
  have hV5 : Upd (fun b => b = w.heap.size + 1 ∨ b = w.heap.size + 2) w4 w5 := hx5.trans hv5
  have hU5 : Upd (fun b => b = w.heap.size + 1 ∨ b = w.heap.size + 2) w1 w5 := hU4.trans hV5
  have hz5 := hU5.size
  have hX5 : Ext w w5 := hE1.more hU5 fun b hb h => by omega
  have hb5 := hX5.blk_some hb id
  have ht5 : blk w5 (w.heap.size + 2) = some (#[.int .i64 0,.slice none 0 0,.bool false,.slice (some ⟨w.heap.size + 1,0,none⟩) 4 4,.slice none 0 0],37,(0,0)) := by
    rw [← hw5,blk_wr_ne (by omega)]
    exact ht4
  clear hw5
  have hf2 : TreeC (fun b => w1.heap.size ≤ b) w5 (.num ((t.at 2).n)) [.int .i64 ((t.at 2).n),.slice none 0 0,.bool false,.slice none 0 0,.slice none 0 0] := (TreeC.keep (hv5.keeps fun b hb hk e => by have hk' : w1.heap.size ≤ b := hk;omega) (TreeC.intro (hn64_2) (BytesV.nil _ _) (treesN _ _) (tagsN _ _) : TreeC (fun b => w1.heap.size ≤ b) w4.drew (.num ((t.at 2).n)) [.int .i64 ((t.at 2).n),.slice none 0 0,.bool false,.slice none 0 0,.slice none 0 0]))
  repeat ((first | refine qA rfl ?_|refine qB ?_|refine qC rfl ?_|refine qD ?_|refine qE ?_|refine qF ?_|refine qG ?_|refine qH ?_);try simp (maxSteps:=1000000)(disch:=(first|omega|(simp only [qI,qJ,qK]<;>omega)|exact qL _)) only [go_sem,↓reduceIte,n0,reduceCtorEq,n1,n2,n3,n4,n5,i0,i1,i2,i3,i4,i5,i6,i7,hb5,hl5,ht5,hq0,hq1,hq2,hq3,hq4])
  refine W.drawR (.take 0 (.take 1 (.take 2 (.take 3 (.take 4 (.take 5 (.take 6 (.only 7 (.take 8 (.last 9)))))))))) (NoB) mixed (by kernel_rfl) ?_
  try simp (maxSteps:=1000000)(disch:=(first|omega|(simp only [qI,qJ,qK]<;>omega)|exact qL _)) only [go_sem,↓reduceIte,n0,reduceCtorEq,n1,n2,n3,n4,n5,i0,i1,i2,i3,i4,i5,i6,i7,hb5,hl5,ht5,hq0,hq1,hq2,hq3,hq4,tl16]
  refine ⟨Upd.refl _ _,?_⟩
  have hlq6 : blk w5.drew (w.heap.size + 1) = _ := hl5
  have hx6 : Upd (fun b => b = w.heap.size + 1 ∨ b = w.heap.size + 2) w5 w5.drew := (Upd.refl _ _).drew
  generalize hw6 : wr w5.drew (w.heap.size + 1) 15 [.int .i64 (IntKind.i16.wrap (t.at 3).n),.slice none 0 0,.bool false,.slice none 0 0,.slice none 0 0] = w6
  have hl6 : blk w6 (w.heap.size + 1) = some (#[.int .i64 0,vS2,.bool (t.at 0).null,.slice none 0 0,.slice none 0 0,.int .i64 (IntKind.i32.wrap (t.at 1).n),.slice none 0 0,.bool false,.slice none 0 0,.slice none 0 0,.int .i64 ((t.at 2).n),.slice none 0 0,.bool false,.slice none 0 0,.slice none 0 0,.int .i64 (IntKind.i16.wrap (t.at 3).n),.slice none 0 0,.bool false,.slice none 0 0,.slice none 0 0],37,(0,0)) := by rw [← hw6,blk_wr_eq,hlq6];rfl
  have hv6 : Upd (fun b => b = w.heap.size + 1 ∨ b = w.heap.size + 2) w5.drew w6 := by rw [← hw6];exact (Upd.refl _ _).wr _ _ (.inr (.inl rfl))
  have hV6 : Upd (fun b => b = w.heap.size + 1 ∨ b = w.heap.size + 2) w5 w6 := hx6.trans hv6
  have hU6 : Upd (fun b => b = w.heap.size + 1 ∨ b = w.heap.size + 2) w1 w6 := hU5.trans hV6
  have hz6 := hU6.size
  have hX6 : Ext w w6 := hE1.more hU6 fun b hb h => by omega
  have hb6 := hX6.blk_some hb id
  have ht6 : blk w6 (w.heap.size + 2) = some (#[.int .i64 0,.slice none 0 0,.bool false,.slice (some ⟨w.heap.size + 1,0,none⟩) 4 4,.slice none 0 0],37,(0,0)) := by
    rw [← hw6,blk_wr_ne (by omega)]
    exact ht5
  clear hw6
  have hf3 : TreeC (fun b => w1.heap.size ≤ b) w6 (.num (IntKind.i16.wrap (t.at 3).n)) [.int .i64 (IntKind.i16.wrap (t.at 3).n),.slice none 0 0,.bool false,.slice none 0 0,.slice none 0 0] := (TreeC.keep (hv6.keeps fun b hb hk e => by have hk' : w1.heap.size ≤ b := hk;omega) (TreeC.intro (tl16 _) (BytesV.nil _ _) (treesN _ _) (tagsN _ _) : TreeC (fun b => w1.heap.size ≤ b) w5.drew (.num (IntKind.i16.wrap (t.at 3).n)) [.int .i64 (IntKind.i16.wrap (t.at 3).n),.slice none 0 0,.bool false,.slice none 0 0,.slice none 0 0]))
  repeat ((first | refine qA rfl ?_|refine qB ?_|refine qC rfl ?_|refine qD ?_|refine qE ?_|refine qF ?_|refine qG ?_|refine qH ?_);try simp (maxSteps:=1000000)(disch:=(first|omega|(simp only [qI,qJ,qK]<;>omega)|exact qL _)) only [go_sem,↓reduceIte,n0,reduceCtorEq,n1,n2,n3,n4,n5,i0,i1,i2,i3,i4,i5,i6,i7,hb6,hl6,ht6,hq0,hq1,hq2,hq3,hq4])
  refine (EachG_fn (ok := fun b => b < w.heap.size) 74 ca_74 #[.pointer (some ⟨w.heap.size + 2,0,none⟩)] w6 (tb := b) (to := 5) hb6 hq4 ((hT.weaken fun b hb _ => hb).keep (hX6.keeps _)) (sortT_perm _) (sortT_lt hgu.2.1) (by rw [(sortT_perm t.u).length_eq];exact hgu.1)
    (fun b => b = w.heap.size + 2) (by omega) (fun b hb hk e => by have hk' : b < w.heap.size := hk;omega) (fun b hb => by have := blk_lt ht6;omega)
    (fun wl done w' => ∃ v,blk w' (w.heap.size + 2) = some (#[.int .i64 0,.slice none 0 0,.bool false,.slice (some ⟨w.heap.size + 1,0,none⟩) 4 4,v],37,(0,0)) ∧ GrowU (fun b => w1.heap.size ≤ b) wl.heap.size (w.heap.size + 2) w' 68 v done) (fun wl hE => ⟨_,hE.blk_some ht6 id,GrowU.nil _ _ _ _ _⟩) ?_).mono ?_
  · rintro wl hE done y vv wc hpre ⟨v,hbv,hg⟩ hU hvv hy
    have hz' := hE.size
    have hzu := hU.size
    have htl := blk_lt ht6
    have hpl := hpre.length_le
    simp only [List.length_append,List.length_cons,List.length_nil] at hpl
    rw [(sortT_perm t.u).length_eq] at hpl
    have hlu := hgu.1
    have hmy : y ∈ t.u := (sortT_perm t.u).mem_iff.1 (hpre.subset (by simp))
    refine (tagclInitProducerIDRequest_fn (ok := fun b => b < w.heap.size) _ _ _ _ v done y vv wc hbv hg hzu (by omega) (hvv.keep ((hE.mono (fun _ h => h.elim) |>.trans hU : Upd (fun b => b = w.heap.size + 2) w6 wc).keeps fun b _ hk e => by have hk' : b < w.heap.size := hk;omega)) hy (hgu.2.2 y hmy) (by omega) (fun b hb => by have := hz6;omega)).mono ?_
    rintro _ w2' ⟨⟨v',h1,h2⟩,h3⟩
    exact ⟨⟨v',h1,h2⟩,hU.trans' h3 fun b hb h => h.elim id fun h => by omega⟩
  rintro _ w7 ⟨wl,hEl,⟨v,ht7,hgU⟩,hUe⟩
  have hzl := hEl.size
  obtain ⟨aU,kU,hvs,_⟩ := hgU.shape
  subst hvs
  have hV7 : Upd (fun b => b = w.heap.size + 1 ∨ b = w.heap.size + 2) w6 w7 := (hEl.mono fun _ h => h.elim).trans (hUe.mono fun _ h => .inr h)
  have hU7 : Upd (fun b => b = w.heap.size + 1 ∨ b = w.heap.size + 2) w1 w7 := hU6.trans hV7
  have hz7 := hU7.size
  have hX7 : Ext w w7 := hE1.more hU7 fun b hb h => by omega
  have hb7 := hX7.blk_some hb id
  have hl7 := (((hEl.mono fun _ h => h.elim).trans hUe : Upd (fun b => b = w.heap.size + 2) w6 w7)).blk_some hl6 (by omega)
  have hTU := hgU.tags (ok' := (fun b => w1.heap.size ≤ b)) (fun _ _ h => h) (fun b hb => by have := hz6;omega)
  repeat ((first | refine qA rfl ?_|refine qB ?_|refine qC rfl ?_|refine qD ?_|refine qE ?_|refine qF ?_|refine qG ?_|refine qH ?_);try simp (maxSteps:=1000000)(disch:=(first|omega|(simp only [qI,qJ,qK]<;>omega)|exact qL _)) only [go_sem,↓reduceIte,n0,reduceCtorEq,n1,n2,n3,n4,n5,i0,i1,i2,i3,i4,i5,i6,i7,hb7,hl7,ht7,hq0,hq1,hq2,hq3,hq4,cellsAt_five])
  refine (sorted_fn _ _ w7 hTU (sortT_lt hgu.2.1) (by rw [(sortT_perm t.u).length_eq];exact hgu.1)).mono ?_
  rintro _ w8 hEs
  have hV8 : Upd (fun b => b = w.heap.size + 1 ∨ b = w.heap.size + 2) w7 w8 := hEs.mono fun _ h => h.elim
  have hU8 : Upd (fun b => b = w.heap.size + 1 ∨ b = w.heap.size + 2) w1 w8 := hU7.trans hV8
  have hz8 := hU8.size
  have hX8 : Ext w w8 := hE1.more hU8 fun b hb h => by omega
  have hb8 := hX8.blk_some hb id
  have hl8 := hEs.blk_some hl7 id
  have ht8 := hEs.blk_some ht7 id
  have hr8 := (hU8.blk_some hr1 (by omega))
  have hC_8 : Upd (fun b => b = w.heap.size + 1 ∨ b = w.heap.size + 2) w8 w8 := Upd.refl _ _
  have hC_7 : Upd (fun b => b = w.heap.size + 1 ∨ b = w.heap.size + 2) w7 w8 := hV8.trans hC_8
  have hC_6 : Upd (fun b => b = w.heap.size + 1 ∨ b = w.heap.size + 2) w6 w8 := hV7.trans hC_7
  have hC_5 : Upd (fun b => b = w.heap.size + 1 ∨ b = w.heap.size + 2) w5 w8 := hV6.trans hC_6
  have hC_4 : Upd (fun b => b = w.heap.size + 1 ∨ b = w.heap.size + 2) w4 w8 := hV5.trans hC_5
  have hC_3 : Upd (fun b => b = w.heap.size + 1 ∨ b = w.heap.size + 2) w3 w8 := hV4.trans hC_4
  have hC_1 : Upd (fun b => b = w.heap.size + 1 ∨ b = w.heap.size + 2) w1 w8 := hV3.trans hC_3
  have hF0 := TreeC.keep (hC_3.keeps fun b hb hk e => by have hk' : w1.heap.size ≤ b := hk;omega) hf0
  have hF1 := TreeC.keep (hC_4.keeps fun b hb hk e => by have hk' : w1.heap.size ≤ b := hk;omega) hf1
  have hF2 := TreeC.keep (hC_5.keeps fun b hb hk e => by have hk' : w1.heap.size ≤ b := hk;omega) hf2
  have hF3 := TreeC.keep (hC_6.keeps fun b hb hk e => by have hk' : w1.heap.size ≤ b := hk;omega) hf3
  replace hF0 : TreeC (fun b => w1.heap.size ≤ b) w8 (tlF (tlP d) fInitProducerIDRequest_0 (t.at 0)) [.int .i64 0,vS2,.bool (t.at 0).null,.slice none 0 0,.slice none 0 0] := hF0
  replace hF1 : TreeC (fun b => w1.heap.size ≤ b) w8 (tlF (tlP d) fInitProducerIDRequest_1 (t.at 1)) [.int .i64 (IntKind.i32.wrap (t.at 1).n),.slice none 0 0,.bool false,.slice none 0 0,.slice none 0 0] := hF1
  replace hF2 : TreeC (fun b => w1.heap.size ≤ b) w8 (tlF (tlP d) fInitProducerIDRequest_2 (t.at 2)) [.int .i64 ((t.at 2).n),.slice none 0 0,.bool false,.slice none 0 0,.slice none 0 0] := hF2
  replace hF3 : TreeC (fun b => w1.heap.size ≤ b) w8 (tlF (tlP d) fInitProducerIDRequest_3 (t.at 3)) [.int .i64 (IntKind.i16.wrap (t.at 3).n),.slice none 0 0,.bool false,.slice none 0 0,.slice none 0 0] := hF3
  have hTL : TreesV (fun b => (fun b => w1.heap.size ≤ b) b ∨ b = w.heap.size + 1) w8 (.slice (some ⟨w.heap.size + 1,0,none⟩) 4 4) [tlF (tlP d) fInitProducerIDRequest_0 (t.at 0),tlF (tlP d) fInitProducerIDRequest_1 (t.at 1),tlF (tlP d) fInitProducerIDRequest_2 (t.at 2),tlF (tlP d) fInitProducerIDRequest_3 (t.at 3)] := by
    refine ⟨[[.int .i64 0,vS2,.bool (t.at 0).null,.slice none 0 0,.slice none 0 0],[.int .i64 (IntKind.i32.wrap (t.at 1).n),.slice none 0 0,.bool false,.slice none 0 0,.slice none 0 0],[.int .i64 ((t.at 2).n),.slice none 0 0,.bool false,.slice none 0 0,.slice none 0 0],[.int .i64 (IntKind.i16.wrap (t.at 3).n),.slice none 0 0,.bool false,.slice none 0 0,.slice none 0 0]],⟨_,4,rfl,Nat.le_refl _,(by intro cs hm;simp only [List.mem_cons,List.not_mem_nil,or_false] at hm;rcases hm with rfl | rfl | rfl | rfl <;> rfl),.inr ⟨_,rfl,rfl,.inr rfl,_,hl8,fun i hi => by rw [Nat.zero_add,List.getElem?_toArray];rfl⟩⟩,rfl,fun i h1 h2 => ?_⟩
    match i,h1 with
    | 0,_ => exact TreeC.weaken (fun b _ hk => .inl hk) hF0
    | 1,_ => exact TreeC.weaken (fun b _ hk => .inl hk) hF1
    | 2,_ => exact TreeC.weaken (fun b _ hk => .inl hk) hF2
    | 3,_ => exact TreeC.weaken (fun b _ hk => .inl hk) hF3
  repeat ((first | refine qA rfl ?_|refine qB ?_|refine qC rfl ?_|refine qD ?_|refine qE ?_|refine qF ?_|refine qG ?_|refine qH ?_);try simp (maxSteps:=1000000)(disch:=(first|omega|(simp only [qI,qJ,qK]<;>omega)|exact qL _)) only [go_sem,↓reduceIte,n0,reduceCtorEq,n1,n2,n3,n4,n5,i0,i1,i2,i3,i4,i5,i6,i7,hb8,hl8,ht8,hq0,hq1,hq2,hq3,hq4,hr8,cellsAt_five])
  refine ⟨⟨_,rfl,?_⟩,hX8.wr _ _ (.inl (Nat.le_refl _))⟩
  have hUr : Upd (fun b => b = w.heap.size) w8 (wr w8 w.heap.size 0 [.int .i64 0,.slice none 0 0,.bool false,.slice (some ⟨w.heap.size + 1,0,none⟩) 4 4,.slice aU (sortT t.u).length kU]) := (Upd.refl _ _).wr _ _ (.inr rfl)
  have hTU2 := hTU.keep (hEs.keeps _)
  exact TreeC.intro rfl (BytesV.nil _ _) ((hTL.keep (hUr.keeps fun b _ hk e => by rcases hk with hk | hk <;> omega)).weaken fun b _ hk => by rcases hk with hk | hk <;> omega) ((hTU2.keep (hUr.keeps fun b _ hk e => by omega)).weaken fun b _ hk => by omega)
end Ms

