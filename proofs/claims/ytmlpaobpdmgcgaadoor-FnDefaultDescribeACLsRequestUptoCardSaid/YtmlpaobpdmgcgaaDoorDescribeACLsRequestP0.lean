/- A part of the proof: see the last text. -/
import Derived.Test.YtmlpaobpdmgcgaaDoorC06
import Derived.Test.YtmlpaobpdmgcgaaDoorC08
import Derived.Test.YtmlpaobpdmgcgaaDoorC11
set_option linter.unusedSimpArgs false
set_option linter.unusedVariables false
namespace Ms
open Nat renaming reduceEqDiff → n0,reduceAdd → n1,reduceMul → n2,reduceSub → n3,reduceLT → n4,reduceLeDiff → n5
open Int renaming reduceEq → i0,reduceLT → i1,reduceLE → i2,reduceNeg → i3,reduceAdd → i4,reduceSub → i5,reduceMul → i6,reduceToNat → i7
set_option maxRecDepth 4000
open Go Go.Proofs
theorem ap_35_35 : AppT Tryd.prog 35 35 68 2 32 := AppT.of (by kernel_rfl)
theorem ca_10 : callable Tryd.prog 10 = true := nr (by kernel_rfl)
theorem ca_100 : callable Tryd.prog 100 = true := nr (by kernel_rfl)
theorem ca_12 : callable Tryd.prog 12 = true := nr (by kernel_rfl)
theorem ca_19 : callable Tryd.prog 19 = true := nr (by kernel_rfl)
theorem ca_23 : callable Tryd.prog 23 = true := nr (by kernel_rfl)
theorem ca_24 : callable Tryd.prog 24 = true := nr (by kernel_rfl)
theorem ca_25 : callable Tryd.prog 25 = true := nr (by kernel_rfl)
theorem ca_53 : callable Tryd.prog 53 = true := nr (by kernel_rfl)
theorem ca_54 : callable Tryd.prog 54 = true := nr (by kernel_rfl)
theorem ca_55 : callable Tryd.prog 55 = true := nr (by kernel_rfl)
theorem ca_56 : callable Tryd.prog 56 = true := nr (by kernel_rfl)
theorem ca_57 : callable Tryd.prog 57 = true := nr (by kernel_rfl)
theorem ca_58 : callable Tryd.prog 58 = true := nr (by kernel_rfl)
theorem ca_62 : callable Tryd.prog 62 = true := nr (by kernel_rfl)
theorem ca_64 : callable Tryd.prog 64 = true := nr (by kernel_rfl)
theorem ca_7 : callable Tryd.prog 7 = true := nr (by kernel_rfl)
theorem ca_73 : callable Tryd.prog 73 = true := nr (by kernel_rfl)
theorem ca_78 : callable Tryd.prog 78 = true := nr (by kernel_rfl)
theorem ca_79 : callable Tryd.prog 79 = true := nr (by kernel_rfl)
theorem ca_83 : callable Tryd.prog 83 = true := nr (by kernel_rfl)
theorem ca_84 : callable Tryd.prog 84 = true := nr (by kernel_rfl)
theorem ca_89 : callable Tryd.prog 89 = true := nr (by kernel_rfl)
theorem ca_90 : callable Tryd.prog 90 = true := nr (by kernel_rfl)
theorem ca_91 : callable Tryd.prog 91 = true := nr (by kernel_rfl)
theorem ca_92 : callable Tryd.prog 92 = true := nr (by kernel_rfl)
theorem fo_111_0 : fieldOff Tryd.prog 111 0 = some 0 := nr (by kernel_rfl)
theorem fo_111_1 : fieldOff Tryd.prog 111 1 = some 1 := nr (by kernel_rfl)
theorem fo_111_2 : fieldOff Tryd.prog 111 2 = some 2 := nr (by kernel_rfl)
theorem fo_111_3 : fieldOff Tryd.prog 111 3 = some 3 := nr (by kernel_rfl)
theorem fo_111_4 : fieldOff Tryd.prog 111 4 = some 4 := nr (by kernel_rfl)
theorem fo_111_5 : fieldOff Tryd.prog 111 5 = some 5 := nr (by kernel_rfl)
theorem fo_111_6 : fieldOff Tryd.prog 111 6 = some 6 := nr (by kernel_rfl)
theorem fo_111_7 : fieldOff Tryd.prog 111 7 = some 7 := nr (by kernel_rfl)
theorem fo_111_8 : fieldOff Tryd.prog 111 8 = some 8 := nr (by kernel_rfl)
theorem if_55 : isIfaceT Tryd.prog 55 = true := nr (by kernel_rfl)
theorem kn_106 : knownT Tryd.prog 106 = true := nr (by kernel_rfl)
theorem kn_107 : knownT Tryd.prog 107 = true := nr (by kernel_rfl)
theorem kn_108 : knownT Tryd.prog 108 = true := nr (by kernel_rfl)
theorem kn_109 : knownT Tryd.prog 109 = true := nr (by kernel_rfl)
theorem ld_106 (w : World) (b o : Nat) : loadOf Tryd.prog 106 w ⟨b,o,none⟩ = (blk w b).bind fun x => x.1[o]? := loadOf_one (by kernel_rfl) w b o
theorem ld_107 (w : World) (b o : Nat) : loadOf Tryd.prog 107 w ⟨b,o,none⟩ = (blk w b).bind fun x => x.1[o]? := loadOf_one (by kernel_rfl) w b o
theorem ld_108 (w : World) (b o : Nat) : loadOf Tryd.prog 108 w ⟨b,o,none⟩ = (blk w b).bind fun x => x.1[o]? := loadOf_one (by kernel_rfl) w b o
theorem ld_109 (w : World) (b o : Nat) : loadOf Tryd.prog 109 w ⟨b,o,none⟩ = (blk w b).bind fun x => x.1[o]? := loadOf_one (by kernel_rfl) w b o
theorem ld_31 (w : World) (b o : Nat) : loadOf Tryd.prog 31 w ⟨b,o,none⟩ = (blk w b).bind fun x => cellsAt x.1 o 2 := loadOf_agg (by kernel_rfl) w b o
theorem ld_47 (w : World) (b o : Nat) : loadOf Tryd.prog 47 w ⟨b,o,none⟩ = (blk w b).bind fun x => x.1[o]? := loadOf_one (by kernel_rfl) w b o
theorem ld_97 (w : World) (b o : Nat) : loadOf Tryd.prog 97 w ⟨b,o,none⟩ = (blk w b).bind fun x => x.1[o]? := loadOf_one (by kernel_rfl) w b o
theorem pl_113 : placesOf Tryd.prog 113 = some [(0,1),(1,1)] := nr (by kernel_rfl)
theorem pl_31 : placesOf Tryd.prog 31 = some [(0,1),(1,1)] := nr (by kernel_rfl)
theorem pl_52 : placesOf Tryd.prog 52 = some [(0,1),(1,1),(2,1),(3,1),(4,1),(5,1),(6,1),(7,1)] := nr (by kernel_rfl)
theorem pl_68 : placesOf Tryd.prog 68 = some [(0,1),(1,1)] := nr (by kernel_rfl)
theorem se_35 : slElem Tryd.prog 35 = some (68,2) := nr (by kernel_rfl)
theorem sz_106 (w : World) (b o : Nat) (v : Value) : storeOf Tryd.prog 106 w ⟨b,o,none⟩ v = (blk w b).bind fun x => stO w b o v x 1 := storeOf_n (by kernel_rfl) w b o v
theorem sz_107 (w : World) (b o : Nat) (v : Value) : storeOf Tryd.prog 107 w ⟨b,o,none⟩ v = (blk w b).bind fun x => stO w b o v x 1 := storeOf_n (by kernel_rfl) w b o v
theorem sz_108 (w : World) (b o : Nat) (v : Value) : storeOf Tryd.prog 108 w ⟨b,o,none⟩ v = (blk w b).bind fun x => stO w b o v x 1 := storeOf_n (by kernel_rfl) w b o v
theorem sz_109 (w : World) (b o : Nat) (v : Value) : storeOf Tryd.prog 109 w ⟨b,o,none⟩ v = (blk w b).bind fun x => stO w b o v x 1 := storeOf_n (by kernel_rfl) w b o v
theorem sz_113 (w : World) (b o : Nat) (v : Value) : storeOf Tryd.prog 113 w ⟨b,o,none⟩ v = (blk w b).bind fun x => stO w b o v x 2 := storeOf_n (by kernel_rfl) w b o v
theorem sz_31 (w : World) (b o : Nat) (v : Value) : storeOf Tryd.prog 31 w ⟨b,o,none⟩ v = (blk w b).bind fun x => stO w b o v x 2 := storeOf_n (by kernel_rfl) w b o v
theorem sz_35 (w : World) (b o : Nat) (v : Value) : storeOf Tryd.prog 35 w ⟨b,o,none⟩ v = (blk w b).bind fun x => stO w b o v x 1 := storeOf_n (by kernel_rfl) w b o v
theorem sz_47 (w : World) (b o : Nat) (v : Value) : storeOf Tryd.prog 47 w ⟨b,o,none⟩ v = (blk w b).bind fun x => stO w b o v x 1 := storeOf_n (by kernel_rfl) w b o v
theorem sz_97 (w : World) (b o : Nat) (v : Value) : storeOf Tryd.prog 97 w ⟨b,o,none⟩ v = (blk w b).bind fun x => stO w b o v x 1 := storeOf_n (by kernel_rfl) w b o v
theorem z_111 : zeroOf Tryd.prog 111 = some #[.int .i16 0,.int .i8 0,.pointer none,.int .i8 0,.pointer none,.pointer none,.int .i8 0,.int .i8 0,.map none] := nr (by kernel_rfl)
theorem z_113 : zeroOf Tryd.prog 113 = some #[.slice none 0 0,.bool false] := nr (by kernel_rfl)
theorem z_31 : zeroOf Tryd.prog 31 = some #[.slice none 0 0,.int .i64 0] := nr (by kernel_rfl)
attribute [go_sem] ca_10 ca_100 ca_12 ca_19 ca_23 ca_24 ca_25 ca_53 ca_54 ca_55 ca_56 ca_57 ca_58 ca_62 ca_64 ca_7 ca_73 ca_78 ca_79 ca_83 ca_84 ca_89 ca_90 ca_91 ca_92 fo_111_0 fo_111_1 fo_111_2 fo_111_3 fo_111_4 fo_111_5 fo_111_6 fo_111_7 fo_111_8 if_55 kn_106 kn_107 kn_108 kn_109 ld_106 ld_107 ld_108 ld_109 ld_31 ld_47 ld_97 pl_113 pl_31 pl_52 pl_68 se_35 sz_106 sz_107 sz_108 sz_109 sz_113 sz_31 sz_35 sz_47 sz_97 z_111 z_113 z_31
end Ms

namespace Ms
open Go.World renaming size_alloc → qI
open Ms renaming size_wr → qJ,size_drew → qK,not_noB → qL
open W renaming seqR → qA,seq → qB,regR → qC,condK → qD,block → qE,skip → qF,ret → qG,exit → qH
open Nat renaming reduceEqDiff → n0,reduceAdd → n1,reduceMul → n2,reduceSub → n3,reduceLT → n4,reduceLeDiff → n5
open Int renaming reduceEq → i0,reduceLT → i1,reduceLE → i2,reduceNeg → i3,reduceAdd → i4,reduceSub → i5,reduceMul → i6,reduceToNat → i7
set_option maxRecDepth 8000
open Go Go.Proofs Go.Shelf
attribute [local congr] W_congr WPsq_congr WPp_congr optK_congr addrK_congr intK_congr boolK_congr sliceK_congr tupleK_congr funcK_congr Fn_congr rawK_congr takeK_congr stepK_congr convK_congr aggK_congr

def fDescribeACLsRequest_0 : Fld := .mk 1 0 (-1) (-1) (-1) 0 0 []
def fDescribeACLsRequest_1 : Fld := .mk 8 0 (-1) 0 (-1) 0 0 []
def fDescribeACLsRequest_2 : Fld := .mk 1 1 (-1) (-1) (-1) 3 0 []
def fDescribeACLsRequest_3 : Fld := .mk 8 0 (-1) 0 (-1) 0 0 []
def fDescribeACLsRequest_4 : Fld := .mk 8 0 (-1) 0 (-1) 0 0 []
def fDescribeACLsRequest_5 : Fld := .mk 1 0 (-1) (-1) (-1) 0 0 []
def fDescribeACLsRequest_6 : Fld := .mk 1 0 (-1) (-1) (-1) 0 0 []
def fs_DescribeACLsRequest : List Fld := [fDescribeACLsRequest_0,fDescribeACLsRequest_1,fDescribeACLsRequest_2,fDescribeACLsRequest_3,fDescribeACLsRequest_4,fDescribeACLsRequest_5,fDescribeACLsRequest_6]

set_option maxHeartbeats 4000000 in
theorem cDescribeACLsRequest_fn (w : World) : Fn Tryd.prog 24 #[] w fun r w' => (∃ vs,r = .agg #[vs,.int .i64 2] ∧ FldsV (fun b => w.heap.size ≤ b) w' vs fs_DescribeACLsRequest) ∧ Ext w w' := by
  refine fn_of_W Tryd.func24 rfl Tryd.results24 Tryd.ntmps24 rfl ?_
  repeat ((first | refine qA rfl ?_|refine qB ?_|refine qC rfl ?_|refine qD ?_|refine qE ?_|refine qF ?_|refine qG ?_|refine qH ?_);try simp (maxSteps:=1000000)(disch:=(first|omega|(simp only [qI,qJ,qK]<;>omega)|exact qL _)) only [go_sem,↓reduceIte,n0,reduceCtorEq,n1,n2,n3,n4,n5,i0,i1,i2,i3,i4,i5,i6,i7,fill_fld,fillN_nil,fillN_int,fillN_slice])
  have hz0 : (w.alloc (.cells #[.slice none 0 0,.int .i64 0] 31)).heap.size = w.heap.size + 1 := World.size_alloc _ _
  repeat ((first | refine qA rfl ?_|refine qB ?_|refine qC rfl ?_|refine qD ?_|refine qE ?_|refine qF ?_|refine qG ?_|refine qH ?_);try simp (maxSteps:=1000000)(disch:=(first|omega|(simp only [qI,qJ,qK]<;>omega)|exact qL _)) only [go_sem,↓reduceIte,n0,reduceCtorEq,n1,n2,n3,n4,n5,i0,i1,i2,i3,i4,i5,i6,i7,fill_fld,fillN_nil,fillN_int,fillN_slice])
  exact ⟨⟨_,rfl,FldsV.litO (fs := fs_DescribeACLsRequest) (css := [[.int .i64 1,.int .i64 0,.int .i64 (-1),.int .i64 (-1),.int .i64 (-1),.int .i64 0,.int .i64 0,.slice none 0 0],[.int .i64 8,.int .i64 0,.int .i64 (-1),.int .i64 0,.int .i64 (-1),.int .i64 0,.int .i64 0,.slice none 0 0],[.int .i64 1,.int .i64 1,.int .i64 (-1),.int .i64 (-1),.int .i64 (-1),.int .i64 3,.int .i64 0,.slice none 0 0],[.int .i64 8,.int .i64 0,.int .i64 (-1),.int .i64 0,.int .i64 (-1),.int .i64 0,.int .i64 0,.slice none 0 0],[.int .i64 8,.int .i64 0,.int .i64 (-1),.int .i64 0,.int .i64 (-1),.int .i64 0,.int .i64 0,.slice none 0 0],[.int .i64 1,.int .i64 0,.int .i64 (-1),.int .i64 (-1),.int .i64 (-1),.int .i64 0,.int .i64 0,.slice none 0 0],[.int .i64 1,.int .i64 0,.int .i64 (-1),.int .i64 (-1),.int .i64 (-1),.int .i64 0,.int .i64 0,.slice none 0 0]]) (T := 52) (fr := (0,0)) (by first | omega | (simp only [World.size_alloc];omega)) (by first | (simp (maxSteps:=1000000)(disch:=(first|omega|(simp only [qI,qJ,qK]<;>omega)|exact qL _)) only [go_sem,↓reduceIte,n0,reduceCtorEq,n1,n2,n3,n4,n5,i0,i1,i2,i3,i4,i5,i6,i7];rfl) | rfl) (by simp) (All2.cons (FldC.intro (kind := 1) (FldsV.none _ _)) (All2.cons (FldC.intro (kind := 8) (FldsV.none _ _)) (All2.cons (FldC.intro (kind := 1) (FldsV.none _ _)) (All2.cons (FldC.intro (kind := 8) (FldsV.none _ _)) (All2.cons (FldC.intro (kind := 8) (FldsV.none _ _)) (All2.cons (FldC.intro (kind := 1) (FldsV.none _ _)) (All2.cons (FldC.intro (kind := 1) (FldsV.none _ _)) All2.nil)))))))⟩,(Upd.wr (Upd.alloc (Upd.alloc (Upd.refl _ _) _) _) _ _ (.inl (Nat.le_refl _)))⟩

theorem DefaultDescribeACLsRequest_fn (w : World) {vb : Nat} {c0 c1 c2 c3 c4 c5 c6 c7 c8 : Value} (hb : blk w vb = some (#[c0,c1,c2,c3,c4,c5,c6,c7,c8],111,(0,0))) :
    Fn Tryd.prog 57 #[.pointer (some ⟨vb,0,none⟩)] w fun _ w' => blk w' vb = some (#[c0,c1,c2,.int .i8 3,c4,c5,c6,c7,c8],111,(0,0)) ∧ Upd (fun b => b = vb) w w' := by
  have hvl := blk_lt hb
  refine fn_of_W Tryd.func57 rfl Tryd.results57 Tryd.ntmps57 rfl ?_
  repeat ((first | refine qA rfl ?_|refine qB ?_|refine qC rfl ?_|refine qD ?_|refine qE ?_|refine qF ?_|refine qG ?_|refine qH ?_);try simp (maxSteps:=1000000)(disch:=(first|omega|(simp only [qI,qJ,qK]<;>omega)|exact qL _)) only [go_sem,↓reduceIte,n0,reduceCtorEq,n1,n2,n3,n4,n5,i0,i1,i2,i3,i4,i5,i6,i7,hb])
  first | (refine (Upd.wr (Upd.refl _ _) _ _ ?_) <;> exact .inr rfl) | (refine ⟨by simp (maxSteps:=1000000)(disch:=(first|omega|(simp only [qI,qJ,qK]<;>omega)|exact qL _)) only [go_sem,↓reduceIte,n0,reduceCtorEq,n1,n2,n3,n4,n5,i0,i1,i2,i3,i4,i5,i6,i7,hb],?_⟩;refine (Upd.wr (Upd.refl _ _) _ _ ?_) <;> exact .inr rfl)

theorem NewPtrDescribeACLsRequest_fn (w : World) : Fn Tryd.prog 53 #[] w fun r w' => r = .pointer (some ⟨w.heap.size,0,none⟩) ∧ blk w' w.heap.size = some (#[.int .i16 0,.int .i8 0,.pointer none,.int .i8 3,.pointer none,.pointer none,.int .i8 0,.int .i8 0,.map none],111,(0,0)) ∧ Ext w w' := by
  refine fn_of_W Tryd.func53 rfl Tryd.results53 Tryd.ntmps53 rfl ?_
  repeat ((first | refine qA rfl ?_|refine qB ?_|refine qC rfl ?_|refine qD ?_|refine qE ?_|refine qF ?_|refine qG ?_|refine qH ?_);try simp (maxSteps:=1000000)(disch:=(first|omega|(simp only [qI,qJ,qK]<;>omega)|exact qL _)) only [go_sem,↓reduceIte,n0,reduceCtorEq,n1,n2,n3,n4,n5,i0,i1,i2,i3,i4,i5,i6,i7])
  refine (DefaultDescribeACLsRequest_fn _ (blk_alloc_new rfl)).mono ?_
  rintro _ w1 ⟨hb1,hU1⟩
  have hz := World.size_alloc w (.cells #[.int .i16 0,.int .i8 0,.pointer none,.int .i8 0,.pointer none,.pointer none,.int .i8 0,.int .i8 0,.map none] 111)
  repeat ((first | refine qA rfl ?_|refine qB ?_|refine qC rfl ?_|refine qD ?_|refine qE ?_|refine qF ?_|refine qG ?_|refine qH ?_);try simp (maxSteps:=1000000)(disch:=(first|omega|(simp only [qI,qJ,qK]<;>omega)|exact qL _)) only [go_sem,↓reduceIte,n0,reduceCtorEq,n1,n2,n3,n4,n5,i0,i1,i2,i3,i4,i5,i6,i7])
  exact ⟨hb1,(Upd.alloc (Upd.refl _ _) _ : Ext w _).more hU1 fun b hb h => by omega⟩

theorem SetVersionDescribeACLsRequest_fn (w : World) {vb : Nat} {c0 c1 c2 c3 c4 c5 c6 c7 c8 : Value} (n : Int) (hb : blk w vb = some (#[c0,c1,c2,c3,c4,c5,c6,c7,c8],111,(0,0))) :
    Fn Tryd.prog 55 #[.pointer (some ⟨vb,0,none⟩),.int .i16 n] w fun _ w' => blk w' vb = some (#[.int .i16 n,c1,c2,c3,c4,c5,c6,c7,c8],111,(0,0)) ∧ Upd (fun b => b = vb) w w' := by
  have hvl := blk_lt hb
  refine fn_of_W Tryd.func55 rfl Tryd.results55 Tryd.ntmps55 rfl ?_
  repeat ((first | refine qA rfl ?_|refine qB ?_|refine qC rfl ?_|refine qD ?_|refine qE ?_|refine qF ?_|refine qG ?_|refine qH ?_);try simp (maxSteps:=1000000)(disch:=(first|omega|(simp only [qI,qJ,qK]<;>omega)|exact qL _)) only [go_sem,↓reduceIte,n0,reduceCtorEq,n1,n2,n3,n4,n5,i0,i1,i2,i3,i4,i5,i6,i7,hb])
  first | exact Upd.wr (Upd.refl _ _) _ _ (.inr rfl) | exact ⟨by simp (maxSteps:=1000000)(disch:=(first|omega|(simp only [qI,qJ,qK]<;>omega)|exact qL _)) only [go_sem,↓reduceIte,n0,reduceCtorEq,n1,n2,n3,n4,n5,i0,i1,i2,i3,i4,i5,i6,i7,hb],Upd.wr (Upd.refl _ _) _ _ (.inr rfl)⟩

theorem MaxDescribeACLsRequest_fn (w : World) : Fn Tryd.prog 23 #[] w fun r w' => r = .int .i64 3 ∧ Ext w w' := by
  refine fn_of_W Tryd.func23 rfl Tryd.results23 Tryd.ntmps23 rfl ?_
  repeat ((first | refine qA rfl ?_|refine qB ?_|refine qC rfl ?_|refine qD ?_|refine qE ?_|refine qF ?_|refine qG ?_|refine qH ?_);try simp (maxSteps:=1000000)(disch:=(first|omega|(simp only [qI,qJ,qK]<;>omega)|exact qL _)) only [go_sem,↓reduceIte,n0,reduceCtorEq,n1,n2,n3,n4,n5,i0,i1,i2,i3,i4,i5,i6,i7])
  refine (NewPtrDescribeACLsRequest_fn w).mono ?_
  rintro _ w1 ⟨rfl,hb1,hE1⟩
  repeat ((first | refine qA rfl ?_|refine qB ?_|refine qC rfl ?_|refine qD ?_|refine qE ?_|refine qF ?_|refine qG ?_|refine qH ?_);try simp (maxSteps:=1000000)(disch:=(first|omega|(simp only [qI,qJ,qK]<;>omega)|exact qL _)) only [go_sem,↓reduceIte,n0,reduceCtorEq,n1,n2,n3,n4,n5,i0,i1,i2,i3,i4,i5,i6,i7])
  have hm : Fn Tryd.prog 54 #[.pointer (some ⟨w.heap.size,0,none⟩)] w1 fun r w' => r = .int .i16 3 ∧ w' = w1 := by
    refine fn_of_W Tryd.func54 rfl Tryd.results54 Tryd.ntmps54 rfl ?_
    repeat ((first | refine qA rfl ?_|refine qB ?_|refine qC rfl ?_|refine qD ?_|refine qE ?_|refine qF ?_|refine qG ?_|refine qH ?_);try simp (maxSteps:=1000000)(disch:=(first|omega|(simp only [qI,qJ,qK]<;>omega)|exact qL _)) only [go_sem,↓reduceIte,n0,reduceCtorEq,n1,n2,n3,n4,n5,i0,i1,i2,i3,i4,i5,i6,i7])
  refine hm.mono ?_
  rintro _ w2 ⟨rfl,rfl⟩
  have ew : IntKind.i64.wrap (3 : Int) = 3 := i64_wrap (by decide)
  repeat ((first | refine qA rfl ?_|refine qB ?_|refine qC rfl ?_|refine qD ?_|refine qE ?_|refine qF ?_|refine qG ?_|refine qH ?_);try simp (maxSteps:=1000000)(disch:=(first|omega|(simp only [qI,qJ,qK]<;>omega)|exact qL _)) only [go_sem,↓reduceIte,n0,reduceCtorEq,n1,n2,n3,n4,n5,i0,i1,i2,i3,i4,i5,i6,i7,ew])
  exact hE1
end Ms

namespace Ms
open Nat renaming reduceEqDiff → n0,reduceAdd → n1,reduceMul → n2,reduceSub → n3,reduceLT → n4,reduceLeDiff → n5
open Int renaming reduceEq → i0,reduceLT → i1,reduceLE → i2,reduceNeg → i3,reduceAdd → i4,reduceSub → i5,reduceMul → i6,reduceToNat → i7
set_option maxRecDepth 8000
open Go Go.Proofs Go.Shelf
attribute [local congr] W_congr WPsq_congr WPp_congr optK_congr addrK_congr intK_congr boolK_congr sliceK_congr tupleK_congr funcK_congr Fn_congr rawK_congr takeK_congr stepK_congr convK_congr aggK_congr

end Ms

namespace Ms
open Go.World renaming size_alloc → qI
open Ms renaming size_wr → qJ,size_drew → qK,not_noB → qL
open W renaming seqR → qA,seq → qB,regR → qC,condK → qD,block → qE,skip → qF,ret → qG,exit → qH
open Nat renaming reduceEqDiff → n0,reduceAdd → n1,reduceMul → n2,reduceSub → n3,reduceLT → n4,reduceLeDiff → n5
open Int renaming reduceEq → i0,reduceLT → i1,reduceLE → i2,reduceNeg → i3,reduceAdd → i4,reduceSub → i5,reduceMul → i6,reduceToNat → i7
set_option maxRecDepth 8000
open Go Go.Proofs Go.Shelf
attribute [local congr] W_congr WPsq_congr WPp_congr optK_congr addrK_congr intK_congr boolK_congr sliceK_congr tupleK_congr funcK_congr Fn_congr rawK_congr takeK_congr stepK_congr convK_congr aggK_congr

set_option maxHeartbeats 4000000 in
theorem readDescribeACLsRequest_0 {d : Nat} {ok : Blocks} {ver : Int} {ev : Value} (hlo : 0 ≤ ver) (hhi : ver ≤ 0) (w : World) {vb : Nat} (src : Value) (s : List UInt8) (hv : blk w vb = some (#[.int .i16 ver,.int .i8 0,.pointer none,.int .i8 3,.pointer none,.pointer none,.int .i8 0,.int .i8 0,.map none],111,(0,0))) (hsrc : BytesV ok w src s) (hok0 : ∀ b,ok b → b < w.heap.size ∧ b ≠ vb) (hG : Glo ev w) (hgv : ¬ 0 = vb ∧ ¬ 1 = vb) :
    Fn Tryd.prog 78 #[.pointer (some ⟨vb,0,none⟩),src,.bool false] w (ReadQ 111 ok ver (d + 1) fs_DescribeACLsRequest vb w (rdP (d + 1) ver false fs_DescribeACLsRequest (some s)) ev) := by
  have hvl := blk_lt hv
  have hgs := hG.lt
  obtain ⟨sa,sc,rfl,_⟩ := hsrc.shape
  refine fn_of_W Tryd.func78 rfl Tryd.results78 Tryd.ntmps78 rfl ?_
  repeat ((first | refine qA rfl ?_|refine qB ?_|refine qC rfl ?_|refine qD ?_|refine qE ?_|refine qF ?_|refine qG ?_|refine qH ?_);try simp (maxSteps:=1000000)(disch:=(first|omega|(simp only [qI,qJ,qK]<;>omega)|exact qL _)) only [go_sem,↓reduceIte,n0,reduceCtorEq,n1,n2,n3,n4,n5,i0,i1,i2,i3,i4,i5,i6,i7,hv])
  refine (DefaultDescribeACLsRequest_fn w hv).mono ?_
  rintro _ w0 ⟨hv0,hu0⟩
  have hz0 := hu0.size
  have hsrc0 : BytesV ok w0 (.slice sa s.length sc) s := hsrc.keep (hu0.keeps fun b _ hk e => (hok0 b hk).2 e)
  obtain ⟨rb,hrb⟩ : ∃ r,r = w0.heap.size := ⟨_,rfl⟩
  have hE1 : Ext w0 (wr (w0.alloc (.cells #[.slice none 0 0,.bool false] 113)) w0.heap.size 0 [.slice sa s.length sc,.bool false]) := (Upd.alloc (Upd.refl _ _) _).wr _ _ (.inl (Nat.le_refl _))
  have hz1 : (wr (w0.alloc (.cells #[.slice none 0 0,.bool false] 113)) w0.heap.size 0 [.slice sa s.length sc,.bool false]).heap.size = w0.heap.size + 1 := by rw [size_wr,World.size_alloc]
  have hR1 : Rdr RT ok (wr (w0.alloc (.cells #[.slice none 0 0,.bool false] 113)) w0.heap.size 0 [.slice sa s.length sc,.bool false]) w0.heap.size (some s) := Rdr.good (v := .slice sa s.length sc) (by simp (maxSteps:=1000000)(disch:=(first|omega|(simp only [qI,qJ,qK]<;>omega)|exact qL _)) only [go_sem,↓reduceIte,n0,reduceCtorEq,n1,n2,n3,n4,n5,i0,i1,i2,i3,i4,i5,i6,i7]) (hsrc0.keep (hE1.keeps _))
  have hv_1 := hE1.blk_some hv0 id
  repeat ((first | refine qA rfl ?_|refine qB ?_|refine qC rfl ?_|refine qD ?_|refine qE ?_|refine qF ?_|refine qG ?_|refine qH ?_);try simp (maxSteps:=1000000)(disch:=(first|omega|(simp only [qI,qJ,qK]<;>omega)|exact qL _)) only [go_sem,↓reduceIte,n0,reduceCtorEq,n1,n2,n3,n4,n5,i0,i1,i2,i3,i4,i5,i6,i7,hv0])
  generalize (wr (w0.alloc (.cells #[.slice none 0 0,.bool false] 113)) w0.heap.size 0 [.slice sa s.length sc,.bool false]) = w1 at *
  rw [← hrb] at hR1
  try rw [← hrb]
  have hok : ∀ b,ok b → b < w.heap.size ∧ b ≠ vb := hok0
  have hrok : ¬ ok rb := fun h => by have := (hok rb h).1;omega
  have hbase : Upd (fun b => b = vb) w w1 := hu0.trans (hE1.mono fun _ h => h.elim)
  have hG1 : Glo ev w1 := hG.updS hbase hgv.1 hgv.2
  have hgrb : ¬ 0 = rb := by omega
  have hgM1 : ¬ (0 = vb ∨ 0 = rb) := fun h => h.elim hgv.1 fun h => by omega
  have hgM2 : ¬ (1 = vb ∨ 1 = rb) := fun h => h.elim hgv.2 fun h => by omega
  obtain ⟨s0,hs0⟩ : ∃ s' : St,s' = some s := ⟨_,rfl⟩
  rw [← hs0] at hR1 ⊢
  have hU1 : Upd (fun b => b = vb ∨ b = rb) w1 w1 := Upd.refl _ _
  have hoM : ∀ b,(ok b ∨ w1.heap.size ≤ b) → ¬ (b = vb ∨ b = rb) := fun b hk h => by
    rcases hk with hk | hk
    · have := hok b hk;rcases h with h | h <;> omega
    · rcases h with h | h <;> omega
  have hq1 : Rdr RT ok w1 rb s0 := hR1
  obtain ⟨FB,hFB⟩ : ∃ P : Prop,P = ((rdP (d + 1) ver false fs_DescribeACLsRequest s0).2 = none) := ⟨_,rfl⟩
  have hb_0 : (rdL (rdP d ver false) (dfP d) ver false [fDescribeACLsRequest_0,fDescribeACLsRequest_1,fDescribeACLsRequest_2,fDescribeACLsRequest_3,fDescribeACLsRequest_4,fDescribeACLsRequest_5,fDescribeACLsRequest_6] s0).2 = none → FB := fun h => Eq.mpr hFB (rdP_bad h)
  have hh_0 : hasS fDescribeACLsRequest_0 ver = true := hasS_t (by show (0 : Int) ≤ ver;omega) (by show (-1 : Int) < 0 ∨ ver ≤ (-1 : Int);omega)
  obtain ⟨x_0,hx_0⟩ : ∃ x,x = (rdF (rdP d ver false) ver false fDescribeACLsRequest_0 s0).1 := ⟨_,rfl⟩
  repeat ((first | refine qA rfl ?_|refine qB ?_|refine qC rfl ?_|refine qD ?_|refine qE ?_|refine qF ?_|refine qG ?_|refine qH ?_);try simp (maxSteps:=1000000)(disch:=(first|omega|(simp only [qI,qJ,qK]<;>omega)|exact qL _)) only [go_sem,↓reduceIte,n0,reduceCtorEq,n1,n2,n3,n4,n5,i0,i1,i2,i3,i4,i5,i6,i7,hv_1])
  have hrd : rdF (rdP d ver false) ver false fDescribeACLsRequest_0 s0 = _ := rdF_num 1 rfl (by decide)
  refine (Int8_fn w1 hq1 hrok).mono ?_
  rintro _ w2 ⟨rfl,hq2,hu2⟩
  have hv_2 := hu2.blk_some hv_1 (by omega)
  have hV2 : Upd (fun b => b = vb ∨ b = rb) w1 w2 := hu2.mono (fun _ h => .inr h)
  have hU2 : Upd (fun b => b = vb ∨ b = rb) w1 w2 := hU1.trans hV2
  have hz2 := hV2.size
  have hG2 : Glo ev w2 := hG1.updS hU2 hgM1 hgM2
  have hst : (rdF (rdP d ver false) ver false fDescribeACLsRequest_0 s0).2 = (rdInt .i8 1 s0).2 := by first | (rw [hrd];rfl) | rw [hrd]
  obtain ⟨s1,hs1⟩ : ∃ s,s = (rdF (rdP d ver false) ver false fDescribeACLsRequest_0 s0).2 := ⟨_,rfl⟩
  rw [← hst,← hs1] at hq2
  clear hst
  repeat ((first | refine qA rfl ?_|refine qB ?_|refine qC rfl ?_|refine qD ?_|refine qE ?_|refine qF ?_|refine qG ?_|refine qH ?_);try simp (maxSteps:=1000000)(disch:=(first|omega|(simp only [qI,qJ,qK]<;>omega)|exact qL _)) only [go_sem,↓reduceIte,n0,reduceCtorEq,n1,n2,n3,n4,n5,i0,i1,i2,i3,i4,i5,i6,i7,hv_2])
  generalize hw3 : wr w2 vb 1 [.int .i8 (rdInt .i8 1 s0).1] = w3
  have hS3 : Upd (fun b => b = vb ∨ b = rb) w2 w3 := by rw [← hw3];exact (Upd.refl _ _).wr _ _ (.inr (.inl rfl))
  have hv_3 : blk w3 vb = some (#[.int .i16 ver,.int .i8 (rdInt .i8 1 s0).1,.pointer none,.int .i8 3,.pointer none,.pointer none,.int .i8 0,.int .i8 0,.map none],111,(0,0)) := by rw [← hw3,blk_wr_eq,hv_2];rfl
  have hV3 := hS3
  have hU3 : Upd (fun b => b = vb ∨ b = rb) w1 w3 := hU2.trans hV3
  have hz3 := hV3.size
  have hG3 : Glo ev w3 := hG1.updS hU3 hgM1 hgM2
  have hq3 : Rdr RT ok w3 rb s1 ∧ NN w3 rb s1 := by
    have hn : ∀ x,x = w3 → (Rdr RT ok x rb s1 ∧ NN x rb s1) := fun x hx => by
      rw [hx,← hw3]
      exact Rdr.store hq2 (by omega) (fun h => by have := (hok _ h).1;first | omega | exact (hok _ h).2 rfl)
    exact hn _ rfl
  clear hw3
  have hf_0 : RepF (RepS true d) (szS true d) fDescribeACLsRequest_0 (fun b => ok b ∨ w1.heap.size ≤ b) w3 (x_0) [.int .i8 (rdInt .i8 1 s0).1] := (RepF_num (by decide)).2 (by rw [hx_0,hrd];exact congrArg (fun x => [x]) (numC_rd 1 (by decide) 1 s0).symm)
  clear hrd
  have hb_1 : (rdL (rdP d ver false) (dfP d) ver false [fDescribeACLsRequest_1,fDescribeACLsRequest_2,fDescribeACLsRequest_3,fDescribeACLsRequest_4,fDescribeACLsRequest_5,fDescribeACLsRequest_6] s1).2 = none → FB := fun h => hb_0 (by rw [rdL_st (by decide) hh_0,← hs1];exact h)
  have hh_1 : hasS fDescribeACLsRequest_1 ver = true := hasS_t (by show (0 : Int) ≤ ver;omega) (by show (-1 : Int) < 0 ∨ ver ≤ (-1 : Int);omega)
  obtain ⟨x_1,hx_1⟩ : ∃ x,x = (rdF (rdP d ver false) ver false fDescribeACLsRequest_1 s1).1 := ⟨_,rfl⟩
  repeat ((first | refine qA rfl ?_|refine qB ?_|refine qC rfl ?_|refine qD ?_|refine qE ?_|refine qF ?_|refine qG ?_|refine qH ?_);try simp (maxSteps:=1000000)(disch:=(first|omega|(simp only [qI,qJ,qK]<;>omega)|exact qL _)) only [go_sem,↓reduceIte,n0,reduceCtorEq,n1,n2,n3,n4,n5,i0,i1,i2,i3,i4,i5,i6,i7,hv_3])
  have hmay : mayS fDescribeACLsRequest_1 ver = true := mayS_yes (by decide) (by show (0 : Int) ≤ ver;omega)
  have hrd : rdF (rdP d ver false) ver false fDescribeACLsRequest_1 s1 = _ := rdF_ptr rfl hmay
  refine (RNullableString_fn w3 hq3.1 hrok hG3.1 hgrb).mono ?_
  rintro r4 w4 ⟨hp4,hq4,hu4⟩
  obtain ⟨ap4,rfl⟩ := hp4.shape
  have hv_4 := hu4.blk_some hv_3 (by omega)
  have hV4 : Upd (fun b => b = vb ∨ b = rb) w3 w4 := hu4.mono (fun _ h => .inr h)
  have hU4 : Upd (fun b => b = vb ∨ b = rb) w1 w4 := hU3.trans hV4
  have hz4 := hV4.size
  have hG4 : Glo ev w4 := hG1.updS hU4 hgM1 hgM2
  have hst : (rdF (rdP d ver false) ver false fDescribeACLsRequest_1 s1).2 = (rdNStr false s1).2 := by first | (rw [hrd];rfl) | rw [hrd]
  obtain ⟨s2,hs2⟩ : ∃ s,s = (rdF (rdP d ver false) ver false fDescribeACLsRequest_1 s1).2 := ⟨_,rfl⟩
  rw [← hst,← hs2] at hq4
  clear hst
  repeat ((first | refine qA rfl ?_|refine qB ?_|refine qC rfl ?_|refine qD ?_|refine qE ?_|refine qF ?_|refine qG ?_|refine qH ?_);try simp (maxSteps:=1000000)(disch:=(first|omega|(simp only [qI,qJ,qK]<;>omega)|exact qL _)) only [go_sem,↓reduceIte,n0,reduceCtorEq,n1,n2,n3,n4,n5,i0,i1,i2,i3,i4,i5,i6,i7,hv_4])
  generalize hw5 : wr w4 vb 2 [.pointer ap4] = w5
  have hS5 : Upd (fun b => b = vb ∨ b = rb) w4 w5 := by rw [← hw5];exact (Upd.refl _ _).wr _ _ (.inr (.inl rfl))
  have hv_5 : blk w5 vb = some (#[.int .i16 ver,.int .i8 (rdInt .i8 1 s0).1,.pointer ap4,.int .i8 3,.pointer none,.pointer none,.int .i8 0,.int .i8 0,.map none],111,(0,0)) := by rw [← hw5,blk_wr_eq,hv_4];rfl
  have hV5 := hS5
  have hU5 : Upd (fun b => b = vb ∨ b = rb) w1 w5 := hU4.trans hV5
  have hz5 := hV5.size
  have hG5 : Glo ev w5 := hG1.updS hU5 hgM1 hgM2
  have hq5 : Rdr RT ok w5 rb s2 ∧ NN w5 rb s2 := by
    have hn : ∀ x,x = w5 → (Rdr RT ok x rb s2 ∧ NN x rb s2) := fun x hx => by
      rw [hx,← hw5]
      exact Rdr.store hq4 (by omega) (fun h => by have := (hok _ h).1;first | omega | exact (hok _ h).2 rfl)
    exact hn _ rfl
  clear hw5
  have hf_1 : RepF (RepS true d) (szS true d) fDescribeACLsRequest_1 (fun b => ok b ∨ w1.heap.size ≤ b) w5 (x_1) [.pointer ap4] := (RepF_ptr rfl (by decide)).2 ⟨_,rfl,by rw [hx_1,hrd];exact (hp4.weaken fun b _ hk => by have hk' : w3.heap.size ≤ b := hk;exact .inr (by omega)).keep (hV5.keeps fun b _ hk e => (hoM b hk) e)⟩
  clear hrd
  have hb_2 : (rdL (rdP d ver false) (dfP d) ver false [fDescribeACLsRequest_2,fDescribeACLsRequest_3,fDescribeACLsRequest_4,fDescribeACLsRequest_5,fDescribeACLsRequest_6] s2).2 = none → FB := fun h => hb_1 (by rw [rdL_st (by decide) hh_1,← hs2];exact h)
  obtain ⟨x_2,hx_2⟩ : ∃ x,x = dfF (dfP d) fDescribeACLsRequest_2 := ⟨_,rfl⟩
  have hf_2 : RepF (RepS true d) (szS true d) fDescribeACLsRequest_2 (fun b => ok b ∨ w1.heap.size ≤ b) w5 (x_2) [.int .i8 3] := by rw [hx_2];exact (RepF_num (by decide)).2 rfl
  have hh_2 : hasS fDescribeACLsRequest_2 ver = false := hasS_f (by show ver < 1 ∨ (0 ≤ (-1 : Int) ∧ (-1 : Int) < ver);omega)
  have hb_3 : (rdL (rdP d ver false) (dfP d) ver false [fDescribeACLsRequest_3,fDescribeACLsRequest_4,fDescribeACLsRequest_5,fDescribeACLsRequest_6] s2).2 = none → FB := fun h => hb_2 (by rw [rdL_no hh_2];exact h)
  have hh_3 : hasS fDescribeACLsRequest_3 ver = true := hasS_t (by show (0 : Int) ≤ ver;omega) (by show (-1 : Int) < 0 ∨ ver ≤ (-1 : Int);omega)
  obtain ⟨x_3,hx_3⟩ : ∃ x,x = (rdF (rdP d ver false) ver false fDescribeACLsRequest_3 s2).1 := ⟨_,rfl⟩
  repeat ((first | refine qA rfl ?_|refine qB ?_|refine qC rfl ?_|refine qD ?_|refine qE ?_|refine qF ?_|refine qG ?_|refine qH ?_);try simp (maxSteps:=1000000)(disch:=(first|omega|(simp only [qI,qJ,qK]<;>omega)|exact qL _)) only [go_sem,↓reduceIte,n0,reduceCtorEq,n1,n2,n3,n4,n5,i0,i1,i2,i3,i4,i5,i6,i7,hv_5])
  have hmay : mayS fDescribeACLsRequest_3 ver = true := mayS_yes (by decide) (by show (0 : Int) ≤ ver;omega)
  have hrd : rdF (rdP d ver false) ver false fDescribeACLsRequest_3 s2 = _ := rdF_ptr rfl hmay
  refine (RNullableString_fn w5 hq5.1 hrok hG5.1 hgrb).mono ?_
  rintro r6 w6 ⟨hp6,hq6,hu6⟩
  obtain ⟨ap6,rfl⟩ := hp6.shape
  have hv_6 := hu6.blk_some hv_5 (by omega)
  have hV6 : Upd (fun b => b = vb ∨ b = rb) w5 w6 := hu6.mono (fun _ h => .inr h)
  have hU6 : Upd (fun b => b = vb ∨ b = rb) w1 w6 := hU5.trans hV6
  have hz6 := hV6.size
  have hG6 : Glo ev w6 := hG1.updS hU6 hgM1 hgM2
  have hst : (rdF (rdP d ver false) ver false fDescribeACLsRequest_3 s2).2 = (rdNStr false s2).2 := by first | (rw [hrd];rfl) | rw [hrd]
  obtain ⟨s3,hs3⟩ : ∃ s,s = (rdF (rdP d ver false) ver false fDescribeACLsRequest_3 s2).2 := ⟨_,rfl⟩
  rw [← hst,← hs3] at hq6
  clear hst
  repeat ((first | refine qA rfl ?_|refine qB ?_|refine qC rfl ?_|refine qD ?_|refine qE ?_|refine qF ?_|refine qG ?_|refine qH ?_);try simp (maxSteps:=1000000)(disch:=(first|omega|(simp only [qI,qJ,qK]<;>omega)|exact qL _)) only [go_sem,↓reduceIte,n0,reduceCtorEq,n1,n2,n3,n4,n5,i0,i1,i2,i3,i4,i5,i6,i7,hv_6])
  generalize hw7 : wr w6 vb 4 [.pointer ap6] = w7
  have hS7 : Upd (fun b => b = vb ∨ b = rb) w6 w7 := by rw [← hw7];exact (Upd.refl _ _).wr _ _ (.inr (.inl rfl))
  have hv_7 : blk w7 vb = some (#[.int .i16 ver,.int .i8 (rdInt .i8 1 s0).1,.pointer ap4,.int .i8 3,.pointer ap6,.pointer none,.int .i8 0,.int .i8 0,.map none],111,(0,0)) := by rw [← hw7,blk_wr_eq,hv_6];rfl
  have hV7 := hS7
  have hU7 : Upd (fun b => b = vb ∨ b = rb) w1 w7 := hU6.trans hV7
  have hz7 := hV7.size
  have hG7 : Glo ev w7 := hG1.updS hU7 hgM1 hgM2
  have hq7 : Rdr RT ok w7 rb s3 ∧ NN w7 rb s3 := by
    have hn : ∀ x,x = w7 → (Rdr RT ok x rb s3 ∧ NN x rb s3) := fun x hx => by
      rw [hx,← hw7]
      exact Rdr.store hq6 (by omega) (fun h => by have := (hok _ h).1;first | omega | exact (hok _ h).2 rfl)
    exact hn _ rfl
  clear hw7
  have hf_3 : RepF (RepS true d) (szS true d) fDescribeACLsRequest_3 (fun b => ok b ∨ w1.heap.size ≤ b) w7 (x_3) [.pointer ap6] := (RepF_ptr rfl (by decide)).2 ⟨_,rfl,by rw [hx_3,hrd];exact (hp6.weaken fun b _ hk => by have hk' : w5.heap.size ≤ b := hk;exact .inr (by omega)).keep (hV7.keeps fun b _ hk e => (hoM b hk) e)⟩
  clear hrd
  have hb_4 : (rdL (rdP d ver false) (dfP d) ver false [fDescribeACLsRequest_4,fDescribeACLsRequest_5,fDescribeACLsRequest_6] s3).2 = none → FB := fun h => hb_3 (by rw [rdL_st (by decide) hh_3,← hs3];exact h)
  have hh_4 : hasS fDescribeACLsRequest_4 ver = true := hasS_t (by show (0 : Int) ≤ ver;omega) (by show (-1 : Int) < 0 ∨ ver ≤ (-1 : Int);omega)
  obtain ⟨x_4,hx_4⟩ : ∃ x,x = (rdF (rdP d ver false) ver false fDescribeACLsRequest_4 s3).1 := ⟨_,rfl⟩
  repeat ((first | refine qA rfl ?_|refine qB ?_|refine qC rfl ?_|refine qD ?_|refine qE ?_|refine qF ?_|refine qG ?_|refine qH ?_);try simp (maxSteps:=1000000)(disch:=(first|omega|(simp only [qI,qJ,qK]<;>omega)|exact qL _)) only [go_sem,↓reduceIte,n0,reduceCtorEq,n1,n2,n3,n4,n5,i0,i1,i2,i3,i4,i5,i6,i7,hv_7])
  have hmay : mayS fDescribeACLsRequest_4 ver = true := mayS_yes (by decide) (by show (0 : Int) ≤ ver;omega)
  have hrd : rdF (rdP d ver false) ver false fDescribeACLsRequest_4 s3 = _ := rdF_ptr rfl hmay
  refine (RNullableString_fn w7 hq7.1 hrok hG7.1 hgrb).mono ?_
  rintro r8 w8 ⟨hp8,hq8,hu8⟩
  obtain ⟨ap8,rfl⟩ := hp8.shape
  have hv_8 := hu8.blk_some hv_7 (by omega)
  have hV8 : Upd (fun b => b = vb ∨ b = rb) w7 w8 := hu8.mono (fun _ h => .inr h)
  have hU8 : Upd (fun b => b = vb ∨ b = rb) w1 w8 := hU7.trans hV8
  have hz8 := hV8.size
  have hG8 : Glo ev w8 := hG1.updS hU8 hgM1 hgM2
  have hst : (rdF (rdP d ver false) ver false fDescribeACLsRequest_4 s3).2 = (rdNStr false s3).2 := by first | (rw [hrd];rfl) | rw [hrd]
  obtain ⟨s4,hs4⟩ : ∃ s,s = (rdF (rdP d ver false) ver false fDescribeACLsRequest_4 s3).2 := ⟨_,rfl⟩
  rw [← hst,← hs4] at hq8
  clear hst
  repeat ((first | refine qA rfl ?_|refine qB ?_|refine qC rfl ?_|refine qD ?_|refine qE ?_|refine qF ?_|refine qG ?_|refine qH ?_);try simp (maxSteps:=1000000)(disch:=(first|omega|(simp only [qI,qJ,qK]<;>omega)|exact qL _)) only [go_sem,↓reduceIte,n0,reduceCtorEq,n1,n2,n3,n4,n5,i0,i1,i2,i3,i4,i5,i6,i7,hv_8])
  generalize hw9 : wr w8 vb 5 [.pointer ap8] = w9
  have hS9 : Upd (fun b => b = vb ∨ b = rb) w8 w9 := by rw [← hw9];exact (Upd.refl _ _).wr _ _ (.inr (.inl rfl))
  have hv_9 : blk w9 vb = some (#[.int .i16 ver,.int .i8 (rdInt .i8 1 s0).1,.pointer ap4,.int .i8 3,.pointer ap6,.pointer ap8,.int .i8 0,.int .i8 0,.map none],111,(0,0)) := by rw [← hw9,blk_wr_eq,hv_8];rfl
  have hV9 := hS9
  have hU9 : Upd (fun b => b = vb ∨ b = rb) w1 w9 := hU8.trans hV9
  have hz9 := hV9.size
  have hG9 : Glo ev w9 := hG1.updS hU9 hgM1 hgM2
  have hq9 : Rdr RT ok w9 rb s4 ∧ NN w9 rb s4 := by
    have hn : ∀ x,x = w9 → (Rdr RT ok x rb s4 ∧ NN x rb s4) := fun x hx => by
      rw [hx,← hw9]
      exact Rdr.store hq8 (by omega) (fun h => by have := (hok _ h).1;first | omega | exact (hok _ h).2 rfl)
    exact hn _ rfl
  clear hw9
  have hf_4 : RepF (RepS true d) (szS true d) fDescribeACLsRequest_4 (fun b => ok b ∨ w1.heap.size ≤ b) w9 (x_4) [.pointer ap8] := (RepF_ptr rfl (by decide)).2 ⟨_,rfl,by rw [hx_4,hrd];exact (hp8.weaken fun b _ hk => by have hk' : w7.heap.size ≤ b := hk;exact .inr (by omega)).keep (hV9.keeps fun b _ hk e => (hoM b hk) e)⟩
  clear hrd
  have hb_5 : (rdL (rdP d ver false) (dfP d) ver false [fDescribeACLsRequest_5,fDescribeACLsRequest_6] s4).2 = none → FB := fun h => hb_4 (by rw [rdL_st (by decide) hh_4,← hs4];exact h)
  have hh_5 : hasS fDescribeACLsRequest_5 ver = true := hasS_t (by show (0 : Int) ≤ ver;omega) (by show (-1 : Int) < 0 ∨ ver ≤ (-1 : Int);omega)
  obtain ⟨x_5,hx_5⟩ : ∃ x,x = (rdF (rdP d ver false) ver false fDescribeACLsRequest_5 s4).1 := ⟨_,rfl⟩
  repeat ((first | refine qA rfl ?_|refine qB ?_|refine qC rfl ?_|refine qD ?_|refine qE ?_|refine qF ?_|refine qG ?_|refine qH ?_);try simp (maxSteps:=1000000)(disch:=(first|omega|(simp only [qI,qJ,qK]<;>omega)|exact qL _)) only [go_sem,↓reduceIte,n0,reduceCtorEq,n1,n2,n3,n4,n5,i0,i1,i2,i3,i4,i5,i6,i7,hv_9])
  have hrd : rdF (rdP d ver false) ver false fDescribeACLsRequest_5 s4 = _ := rdF_num 1 rfl (by decide)
  refine (Int8_fn w9 hq9.1 hrok).mono ?_
  rintro _ w10 ⟨rfl,hq10,hu10⟩
  have hv_10 := hu10.blk_some hv_9 (by omega)
  have hV10 : Upd (fun b => b = vb ∨ b = rb) w9 w10 := hu10.mono (fun _ h => .inr h)
  have hU10 : Upd (fun b => b = vb ∨ b = rb) w1 w10 := hU9.trans hV10
  have hz10 := hV10.size
  have hG10 : Glo ev w10 := hG1.updS hU10 hgM1 hgM2
  have hst : (rdF (rdP d ver false) ver false fDescribeACLsRequest_5 s4).2 = (rdInt .i8 1 s4).2 := by first | (rw [hrd];rfl) | rw [hrd]
  obtain ⟨s5,hs5⟩ : ∃ s,s = (rdF (rdP d ver false) ver false fDescribeACLsRequest_5 s4).2 := ⟨_,rfl⟩
  rw [← hst,← hs5] at hq10
  clear hst
  repeat ((first | refine qA rfl ?_|refine qB ?_|refine qC rfl ?_|refine qD ?_|refine qE ?_|refine qF ?_|refine qG ?_|refine qH ?_);try simp (maxSteps:=1000000)(disch:=(first|omega|(simp only [qI,qJ,qK]<;>omega)|exact qL _)) only [go_sem,↓reduceIte,n0,reduceCtorEq,n1,n2,n3,n4,n5,i0,i1,i2,i3,i4,i5,i6,i7,hv_10])
  generalize hw11 : wr w10 vb 6 [.int .i8 (rdInt .i8 1 s4).1] = w11
  have hS11 : Upd (fun b => b = vb ∨ b = rb) w10 w11 := by rw [← hw11];exact (Upd.refl _ _).wr _ _ (.inr (.inl rfl))
  have hv_11 : blk w11 vb = some (#[.int .i16 ver,.int .i8 (rdInt .i8 1 s0).1,.pointer ap4,.int .i8 3,.pointer ap6,.pointer ap8,.int .i8 (rdInt .i8 1 s4).1,.int .i8 0,.map none],111,(0,0)) := by rw [← hw11,blk_wr_eq,hv_10];rfl
  have hV11 := hS11
  have hU11 : Upd (fun b => b = vb ∨ b = rb) w1 w11 := hU10.trans hV11
  have hz11 := hV11.size
  have hG11 : Glo ev w11 := hG1.updS hU11 hgM1 hgM2
  have hq11 : Rdr RT ok w11 rb s5 ∧ NN w11 rb s5 := by
    have hn : ∀ x,x = w11 → (Rdr RT ok x rb s5 ∧ NN x rb s5) := fun x hx => by
      rw [hx,← hw11]
      exact Rdr.store hq10 (by omega) (fun h => by have := (hok _ h).1;first | omega | exact (hok _ h).2 rfl)
    exact hn _ rfl
  clear hw11
  have hf_5 : RepF (RepS true d) (szS true d) fDescribeACLsRequest_5 (fun b => ok b ∨ w1.heap.size ≤ b) w11 (x_5) [.int .i8 (rdInt .i8 1 s4).1] := (RepF_num (by decide)).2 (by rw [hx_5,hrd];exact congrArg (fun x => [x]) (numC_rd 1 (by decide) 1 s4).symm)
  clear hrd
  have hb_6 : (rdL (rdP d ver false) (dfP d) ver false [fDescribeACLsRequest_6] s5).2 = none → FB := fun h => hb_5 (by rw [rdL_st (by decide) hh_5,← hs5];exact h)
  have hh_6 : hasS fDescribeACLsRequest_6 ver = true := hasS_t (by show (0 : Int) ≤ ver;omega) (by show (-1 : Int) < 0 ∨ ver ≤ (-1 : Int);omega)
  obtain ⟨x_6,hx_6⟩ : ∃ x,x = (rdF (rdP d ver false) ver false fDescribeACLsRequest_6 s5).1 := ⟨_,rfl⟩
  repeat ((first | refine qA rfl ?_|refine qB ?_|refine qC rfl ?_|refine qD ?_|refine qE ?_|refine qF ?_|refine qG ?_|refine qH ?_);try simp (maxSteps:=1000000)(disch:=(first|omega|(simp only [qI,qJ,qK]<;>omega)|exact qL _)) only [go_sem,↓reduceIte,n0,reduceCtorEq,n1,n2,n3,n4,n5,i0,i1,i2,i3,i4,i5,i6,i7,hv_11])
  have hrd : rdF (rdP d ver false) ver false fDescribeACLsRequest_6 s5 = _ := rdF_num 1 rfl (by decide)
  refine (Int8_fn w11 hq11.1 hrok).mono ?_
  rintro _ w12 ⟨rfl,hq12,hu12⟩
  have hv_12 := hu12.blk_some hv_11 (by omega)
  have hV12 : Upd (fun b => b = vb ∨ b = rb) w11 w12 := hu12.mono (fun _ h => .inr h)
  have hU12 : Upd (fun b => b = vb ∨ b = rb) w1 w12 := hU11.trans hV12
  have hz12 := hV12.size
  have hG12 : Glo ev w12 := hG1.updS hU12 hgM1 hgM2
  have hst : (rdF (rdP d ver false) ver false fDescribeACLsRequest_6 s5).2 = (rdInt .i8 1 s5).2 := by first | (rw [hrd];rfl) | rw [hrd]
  obtain ⟨s6,hs6⟩ : ∃ s,s = (rdF (rdP d ver false) ver false fDescribeACLsRequest_6 s5).2 := ⟨_,rfl⟩
  rw [← hst,← hs6] at hq12
  clear hst
  repeat ((first | refine qA rfl ?_|refine qB ?_|refine qC rfl ?_|refine qD ?_|refine qE ?_|refine qF ?_|refine qG ?_|refine qH ?_);try simp (maxSteps:=1000000)(disch:=(first|omega|(simp only [qI,qJ,qK]<;>omega)|exact qL _)) only [go_sem,↓reduceIte,n0,reduceCtorEq,n1,n2,n3,n4,n5,i0,i1,i2,i3,i4,i5,i6,i7,hv_12])
  generalize hw13 : wr w12 vb 7 [.int .i8 (rdInt .i8 1 s5).1] = w13
  have hS13 : Upd (fun b => b = vb ∨ b = rb) w12 w13 := by rw [← hw13];exact (Upd.refl _ _).wr _ _ (.inr (.inl rfl))
  have hv_13 : blk w13 vb = some (#[.int .i16 ver,.int .i8 (rdInt .i8 1 s0).1,.pointer ap4,.int .i8 3,.pointer ap6,.pointer ap8,.int .i8 (rdInt .i8 1 s4).1,.int .i8 (rdInt .i8 1 s5).1,.map none],111,(0,0)) := by rw [← hw13,blk_wr_eq,hv_12];rfl
  have hV13 := hS13
  have hU13 : Upd (fun b => b = vb ∨ b = rb) w1 w13 := hU12.trans hV13
  have hz13 := hV13.size
  have hG13 : Glo ev w13 := hG1.updS hU13 hgM1 hgM2
  have hq13 : Rdr RT ok w13 rb s6 ∧ NN w13 rb s6 := by
    have hn : ∀ x,x = w13 → (Rdr RT ok x rb s6 ∧ NN x rb s6) := fun x hx => by
      rw [hx,← hw13]
      exact Rdr.store hq12 (by omega) (fun h => by have := (hok _ h).1;first | omega | exact (hok _ h).2 rfl)
    exact hn _ rfl
  clear hw13
  have hf_6 : RepF (RepS true d) (szS true d) fDescribeACLsRequest_6 (fun b => ok b ∨ w1.heap.size ≤ b) w13 (x_6) [.int .i8 (rdInt .i8 1 s5).1] := (RepF_num (by decide)).2 (by rw [hx_6,hrd];exact congrArg (fun x => [x]) (numC_rd 1 (by decide) 1 s5).symm)
  clear hrd
  have hl_7 : rdL (rdP d ver false) (dfP d) ver false [] s6 = ([],s6) := rfl
  have hl_6 : rdL (rdP d ver false) (dfP d) ver false [fDescribeACLsRequest_6] s5 = ([x_6],s6) := by rw [rdL_st (by decide) hh_6,← hx_6,← hs6,hl_7]
  have hl_5 : rdL (rdP d ver false) (dfP d) ver false [fDescribeACLsRequest_5,fDescribeACLsRequest_6] s4 = ([x_5,x_6],s6) := by rw [rdL_st (by decide) hh_5,← hx_5,← hs5,hl_6]
  have hl_4 : rdL (rdP d ver false) (dfP d) ver false [fDescribeACLsRequest_4,fDescribeACLsRequest_5,fDescribeACLsRequest_6] s3 = ([x_4,x_5,x_6],s6) := by rw [rdL_st (by decide) hh_4,← hx_4,← hs4,hl_5]
  have hl_3 : rdL (rdP d ver false) (dfP d) ver false [fDescribeACLsRequest_3,fDescribeACLsRequest_4,fDescribeACLsRequest_5,fDescribeACLsRequest_6] s2 = ([x_3,x_4,x_5,x_6],s6) := by rw [rdL_st (by decide) hh_3,← hx_3,← hs3,hl_4]
  have hl_2 : rdL (rdP d ver false) (dfP d) ver false [fDescribeACLsRequest_2,fDescribeACLsRequest_3,fDescribeACLsRequest_4,fDescribeACLsRequest_5,fDescribeACLsRequest_6] s2 = ([x_2,x_3,x_4,x_5,x_6],s6) := by rw [rdL_no hh_2,← hx_2,hl_3]
  have hl_1 : rdL (rdP d ver false) (dfP d) ver false [fDescribeACLsRequest_1,fDescribeACLsRequest_2,fDescribeACLsRequest_3,fDescribeACLsRequest_4,fDescribeACLsRequest_5,fDescribeACLsRequest_6] s1 = ([x_1,x_2,x_3,x_4,x_5,x_6],s6) := by rw [rdL_st (by decide) hh_1,← hx_1,← hs2,hl_2]
  have hl_0 : rdL (rdP d ver false) (dfP d) ver false [fDescribeACLsRequest_0,fDescribeACLsRequest_1,fDescribeACLsRequest_2,fDescribeACLsRequest_3,fDescribeACLsRequest_4,fDescribeACLsRequest_5,fDescribeACLsRequest_6] s0 = ([x_0,x_1,x_2,x_3,x_4,x_5,x_6],s6) := by rw [rdL_st (by decide) hh_0,← hx_0,← hs1,hl_1]
  have hfin : rdP (d + 1) ver false fs_DescribeACLsRequest s0 = (.mk 0 [] false [x_0,x_1,x_2,x_3,x_4,x_5,x_6] [],s6) := rdP_f hl_0
  have hTg : TagsM (fun b => ok b ∨ w1.heap.size ≤ b) w13 (.map none) [] := .inl ⟨rfl,rfl⟩
  have hC_13 : Upd (fun b => b = vb ∨ b = rb) w13 w13 := Upd.refl _ _
  have hC_12 : Upd (fun b => b = vb ∨ b = rb) w12 w13 := hV13.trans hC_13
  have hC_11 : Upd (fun b => b = vb ∨ b = rb) w11 w13 := hV12.trans hC_12
  have hC_10 : Upd (fun b => b = vb ∨ b = rb) w10 w13 := hV11.trans hC_11
  have hC_9 : Upd (fun b => b = vb ∨ b = rb) w9 w13 := hV10.trans hC_10
  have hC_8 : Upd (fun b => b = vb ∨ b = rb) w8 w13 := hV9.trans hC_9
  have hC_7 : Upd (fun b => b = vb ∨ b = rb) w7 w13 := hV8.trans hC_8
  have hC_6 : Upd (fun b => b = vb ∨ b = rb) w6 w13 := hV7.trans hC_7
  have hC_5 : Upd (fun b => b = vb ∨ b = rb) w5 w13 := hV6.trans hC_6
  have hC_4 : Upd (fun b => b = vb ∨ b = rb) w4 w13 := hV5.trans hC_5
  have hC_3 : Upd (fun b => b = vb ∨ b = rb) w3 w13 := hV4.trans hC_4
  have hC_2 : Upd (fun b => b = vb ∨ b = rb) w2 w13 := hV3.trans hC_3
  have hC_1 : Upd (fun b => b = vb ∨ b = rb) w1 w13 := hV2.trans hC_2
  have hR : RepS true (d + 1) fs_DescribeACLsRequest (fun b => ok b ∨ w1.heap.size ≤ b) w13 (.mk 0 [] false [x_0,x_1,x_2,x_3,x_4,x_5,x_6] []) [.int .i8 (rdInt .i8 1 s0).1,.pointer ap4,.int .i8 3,.pointer ap6,.pointer ap8,.int .i8 (rdInt .i8 1 s4).1,.int .i8 (rdInt .i8 1 s5).1,.map none] := RepS.introT (c := [.int .i8 (rdInt .i8 1 s0).1,.pointer ap4,.int .i8 3,.pointer ap6,.pointer ap8,.int .i8 (rdInt .i8 1 s4).1,.int .i8 (rdInt .i8 1 s5).1]) (RepL.cons1 (hf_0.keepS (hC_3.keeps fun b _ hk e => (hoM b hk) e)) (RepL.cons1 (hf_1.keepS (hC_5.keeps fun b _ hk e => (hoM b hk) e)) (RepL.cons1 (hf_2.keepS (hC_5.keeps fun b _ hk e => (hoM b hk) e)) (RepL.cons1 (hf_3.keepS (hC_7.keeps fun b _ hk e => (hoM b hk) e)) (RepL.cons1 (hf_4.keepS (hC_9.keeps fun b _ hk e => (hoM b hk) e)) (RepL.cons1 (hf_5.keepS (hC_11.keeps fun b _ hk e => (hoM b hk) e)) (RepL.cons1 (hf_6.keepS (hC_13.keeps fun b _ hk e => (hoM b hk) e)) RepL.nil))))))) hTg
  repeat ((first | refine qA rfl ?_|refine qB ?_|refine qC rfl ?_|refine qD ?_|refine qE ?_|refine qF ?_|refine qG ?_|refine qH ?_);try simp (maxSteps:=1000000)(disch:=(first|omega|(simp only [qI,qJ,qK]<;>omega)|exact qL _)) only [go_sem,↓reduceIte,n0,reduceCtorEq,n1,n2,n3,n4,n5,i0,i1,i2,i3,i4,i5,i6,i7,hv_13])
  refine (RComplete_fn w13 hq13.1 hG13.2).mono ?_
  rintro _ wz ⟨rfl,hez⟩
  rw [hez]
  repeat ((first | refine qA rfl ?_|refine qB ?_|refine qC rfl ?_|refine qD ?_|refine qE ?_|refine qF ?_|refine qG ?_|refine qH ?_);try simp (maxSteps:=1000000)(disch:=(first|omega|(simp only [qI,qJ,qK]<;>omega)|exact qL _)) only [go_sem,↓reduceIte,n0,reduceCtorEq,n1,n2,n3,n4,n5,i0,i1,i2,i3,i4,i5,i6,i7,hv_13])
  rw [hfin]
  refine ⟨fun h => ?_,fun h => ⟨?_,[.int .i8 (rdInt .i8 1 s0).1,.pointer ap4,.int .i8 3,.pointer ap6,.pointer ap8,.int .i8 (rdInt .i8 1 s4).1,.int .i8 (rdInt .i8 1 s5).1,.map none],hv_13,?_⟩,?_⟩
  · have h' : s6 = none := h
    rw [h'];rfl
  · cases hsn : s6 with
    | none => exact absurd hsn h
    | some x => rfl
  · exact (RepS_lay true (d + 1) fs_DescribeACLsRequest).weaken hR fun b _ hk => hk.imp id fun h => by omega
  · exact hbase.trans' hU13 fun i hi h => h.elim id fun h => by omega
end Ms

namespace Ms
open Go.World renaming size_alloc → qI
open Ms renaming size_wr → qJ,size_drew → qK,not_noB → qL
open W renaming seqR → qA,seq → qB,regR → qC,condK → qD,block → qE,skip → qF,ret → qG,exit → qH
open Nat renaming reduceEqDiff → n0,reduceAdd → n1,reduceMul → n2,reduceSub → n3,reduceLT → n4,reduceLeDiff → n5
open Int renaming reduceEq → i0,reduceLT → i1,reduceLE → i2,reduceNeg → i3,reduceAdd → i4,reduceSub → i5,reduceMul → i6,reduceToNat → i7
set_option maxRecDepth 8000
open Go Go.Proofs Go.Shelf
attribute [local congr] W_congr WPsq_congr WPp_congr optK_congr addrK_congr intK_congr boolK_congr sliceK_congr tupleK_congr funcK_congr Fn_congr rawK_congr takeK_congr stepK_congr convK_congr aggK_congr

set_option maxHeartbeats 4000000 in
theorem readDescribeACLsRequest_1 {d : Nat} {ok : Blocks} {ver : Int} {ev : Value} (hlo : 1 ≤ ver) (hhi : ver ≤ 1) (w : World) {vb : Nat} (src : Value) (s : List UInt8) (hv : blk w vb = some (#[.int .i16 ver,.int .i8 0,.pointer none,.int .i8 3,.pointer none,.pointer none,.int .i8 0,.int .i8 0,.map none],111,(0,0))) (hsrc : BytesV ok w src s) (hok0 : ∀ b,ok b → b < w.heap.size ∧ b ≠ vb) (hG : Glo ev w) (hgv : ¬ 0 = vb ∧ ¬ 1 = vb) :
    Fn Tryd.prog 78 #[.pointer (some ⟨vb,0,none⟩),src,.bool false] w (ReadQ 111 ok ver (d + 1) fs_DescribeACLsRequest vb w (rdP (d + 1) ver false fs_DescribeACLsRequest (some s)) ev) := by
  have hvl := blk_lt hv
  have hgs := hG.lt
  obtain ⟨sa,sc,rfl,_⟩ := hsrc.shape
  refine fn_of_W Tryd.func78 rfl Tryd.results78 Tryd.ntmps78 rfl ?_
  repeat ((first | refine qA rfl ?_|refine qB ?_|refine qC rfl ?_|refine qD ?_|refine qE ?_|refine qF ?_|refine qG ?_|refine qH ?_);try simp (maxSteps:=1000000)(disch:=(first|omega|(simp only [qI,qJ,qK]<;>omega)|exact qL _)) only [go_sem,↓reduceIte,n0,reduceCtorEq,n1,n2,n3,n4,n5,i0,i1,i2,i3,i4,i5,i6,i7,hv])
  refine (DefaultDescribeACLsRequest_fn w hv).mono ?_
  rintro _ w0 ⟨hv0,hu0⟩
  have hz0 := hu0.size
  have hsrc0 : BytesV ok w0 (.slice sa s.length sc) s := hsrc.keep (hu0.keeps fun b _ hk e => (hok0 b hk).2 e)
  obtain ⟨rb,hrb⟩ : ∃ r,r = w0.heap.size := ⟨_,rfl⟩
  have hE1 : Ext w0 (wr (w0.alloc (.cells #[.slice none 0 0,.bool false] 113)) w0.heap.size 0 [.slice sa s.length sc,.bool false]) := (Upd.alloc (Upd.refl _ _) _).wr _ _ (.inl (Nat.le_refl _))
  have hz1 : (wr (w0.alloc (.cells #[.slice none 0 0,.bool false] 113)) w0.heap.size 0 [.slice sa s.length sc,.bool false]).heap.size = w0.heap.size + 1 := by rw [size_wr,World.size_alloc]
  have hR1 : Rdr RT ok (wr (w0.alloc (.cells #[.slice none 0 0,.bool false] 113)) w0.heap.size 0 [.slice sa s.length sc,.bool false]) w0.heap.size (some s) := Rdr.good (v := .slice sa s.length sc) (by simp (maxSteps:=1000000)(disch:=(first|omega|(simp only [qI,qJ,qK]<;>omega)|exact qL _)) only [go_sem,↓reduceIte,n0,reduceCtorEq,n1,n2,n3,n4,n5,i0,i1,i2,i3,i4,i5,i6,i7]) (hsrc0.keep (hE1.keeps _))
  have hv_1 := hE1.blk_some hv0 id
  repeat ((first | refine qA rfl ?_|refine qB ?_|refine qC rfl ?_|refine qD ?_|refine qE ?_|refine qF ?_|refine qG ?_|refine qH ?_);try simp (maxSteps:=1000000)(disch:=(first|omega|(simp only [qI,qJ,qK]<;>omega)|exact qL _)) only [go_sem,↓reduceIte,n0,reduceCtorEq,n1,n2,n3,n4,n5,i0,i1,i2,i3,i4,i5,i6,i7,hv0])
  generalize (wr (w0.alloc (.cells #[.slice none 0 0,.bool false] 113)) w0.heap.size 0 [.slice sa s.length sc,.bool false]) = w1 at *
  rw [← hrb] at hR1
  try rw [← hrb]
  have hok : ∀ b,ok b → b < w.heap.size ∧ b ≠ vb := hok0
  have hrok : ¬ ok rb := fun h => by have := (hok rb h).1;omega
  have hbase : Upd (fun b => b = vb) w w1 := hu0.trans (hE1.mono fun _ h => h.elim)
  have hG1 : Glo ev w1 := hG.updS hbase hgv.1 hgv.2
  have hgrb : ¬ 0 = rb := by omega
  have hgM1 : ¬ (0 = vb ∨ 0 = rb) := fun h => h.elim hgv.1 fun h => by omega
  have hgM2 : ¬ (1 = vb ∨ 1 = rb) := fun h => h.elim hgv.2 fun h => by omega
  obtain ⟨s0,hs0⟩ : ∃ s' : St,s' = some s := ⟨_,rfl⟩
  rw [← hs0] at hR1 ⊢
  have hU1 : Upd (fun b => b = vb ∨ b = rb) w1 w1 := Upd.refl _ _
  have hoM : ∀ b,(ok b ∨ w1.heap.size ≤ b) → ¬ (b = vb ∨ b = rb) := fun b hk h => by
    rcases hk with hk | hk
    · have := hok b hk;rcases h with h | h <;> omega
    · rcases h with h | h <;> omega
  have hq1 : Rdr RT ok w1 rb s0 := hR1
  obtain ⟨FB,hFB⟩ : ∃ P : Prop,P = ((rdP (d + 1) ver false fs_DescribeACLsRequest s0).2 = none) := ⟨_,rfl⟩
  have hb_0 : (rdL (rdP d ver false) (dfP d) ver false [fDescribeACLsRequest_0,fDescribeACLsRequest_1,fDescribeACLsRequest_2,fDescribeACLsRequest_3,fDescribeACLsRequest_4,fDescribeACLsRequest_5,fDescribeACLsRequest_6] s0).2 = none → FB := fun h => Eq.mpr hFB (rdP_bad h)
  have hh_0 : hasS fDescribeACLsRequest_0 ver = true := hasS_t (by show (0 : Int) ≤ ver;omega) (by show (-1 : Int) < 0 ∨ ver ≤ (-1 : Int);omega)
  obtain ⟨x_0,hx_0⟩ : ∃ x,x = (rdF (rdP d ver false) ver false fDescribeACLsRequest_0 s0).1 := ⟨_,rfl⟩
  repeat ((first | refine qA rfl ?_|refine qB ?_|refine qC rfl ?_|refine qD ?_|refine qE ?_|refine qF ?_|refine qG ?_|refine qH ?_);try simp (maxSteps:=1000000)(disch:=(first|omega|(simp only [qI,qJ,qK]<;>omega)|exact qL _)) only [go_sem,↓reduceIte,n0,reduceCtorEq,n1,n2,n3,n4,n5,i0,i1,i2,i3,i4,i5,i6,i7,hv_1])
  have hrd : rdF (rdP d ver false) ver false fDescribeACLsRequest_0 s0 = _ := rdF_num 1 rfl (by decide)
  refine (Int8_fn w1 hq1 hrok).mono ?_
  rintro _ w2 ⟨rfl,hq2,hu2⟩
  have hv_2 := hu2.blk_some hv_1 (by omega)
  have hV2 : Upd (fun b => b = vb ∨ b = rb) w1 w2 := hu2.mono (fun _ h => .inr h)
  have hU2 : Upd (fun b => b = vb ∨ b = rb) w1 w2 := hU1.trans hV2
  have hz2 := hV2.size
  have hG2 : Glo ev w2 := hG1.updS hU2 hgM1 hgM2
  have hst : (rdF (rdP d ver false) ver false fDescribeACLsRequest_0 s0).2 = (rdInt .i8 1 s0).2 := by first | (rw [hrd];rfl) | rw [hrd]
  obtain ⟨s1,hs1⟩ : ∃ s,s = (rdF (rdP d ver false) ver false fDescribeACLsRequest_0 s0).2 := ⟨_,rfl⟩
  rw [← hst,← hs1] at hq2
  clear hst
  repeat ((first | refine qA rfl ?_|refine qB ?_|refine qC rfl ?_|refine qD ?_|refine qE ?_|refine qF ?_|refine qG ?_|refine qH ?_);try simp (maxSteps:=1000000)(disch:=(first|omega|(simp only [qI,qJ,qK]<;>omega)|exact qL _)) only [go_sem,↓reduceIte,n0,reduceCtorEq,n1,n2,n3,n4,n5,i0,i1,i2,i3,i4,i5,i6,i7,hv_2])
  generalize hw3 : wr w2 vb 1 [.int .i8 (rdInt .i8 1 s0).1] = w3
  have hS3 : Upd (fun b => b = vb ∨ b = rb) w2 w3 := by rw [← hw3];exact (Upd.refl _ _).wr _ _ (.inr (.inl rfl))
  have hv_3 : blk w3 vb = some (#[.int .i16 ver,.int .i8 (rdInt .i8 1 s0).1,.pointer none,.int .i8 3,.pointer none,.pointer none,.int .i8 0,.int .i8 0,.map none],111,(0,0)) := by rw [← hw3,blk_wr_eq,hv_2];rfl
  have hV3 := hS3
  have hU3 : Upd (fun b => b = vb ∨ b = rb) w1 w3 := hU2.trans hV3
  have hz3 := hV3.size
  have hG3 : Glo ev w3 := hG1.updS hU3 hgM1 hgM2
  have hq3 : Rdr RT ok w3 rb s1 ∧ NN w3 rb s1 := by
    have hn : ∀ x,x = w3 → (Rdr RT ok x rb s1 ∧ NN x rb s1) := fun x hx => by
      rw [hx,← hw3]
      exact Rdr.store hq2 (by omega) (fun h => by have := (hok _ h).1;first | omega | exact (hok _ h).2 rfl)
    exact hn _ rfl
  clear hw3
  have hf_0 : RepF (RepS true d) (szS true d) fDescribeACLsRequest_0 (fun b => ok b ∨ w1.heap.size ≤ b) w3 (x_0) [.int .i8 (rdInt .i8 1 s0).1] := (RepF_num (by decide)).2 (by rw [hx_0,hrd];exact congrArg (fun x => [x]) (numC_rd 1 (by decide) 1 s0).symm)
  clear hrd
  have hb_1 : (rdL (rdP d ver false) (dfP d) ver false [fDescribeACLsRequest_1,fDescribeACLsRequest_2,fDescribeACLsRequest_3,fDescribeACLsRequest_4,fDescribeACLsRequest_5,fDescribeACLsRequest_6] s1).2 = none → FB := fun h => hb_0 (by rw [rdL_st (by decide) hh_0,← hs1];exact h)
  have hh_1 : hasS fDescribeACLsRequest_1 ver = true := hasS_t (by show (0 : Int) ≤ ver;omega) (by show (-1 : Int) < 0 ∨ ver ≤ (-1 : Int);omega)
  obtain ⟨x_1,hx_1⟩ : ∃ x,x = (rdF (rdP d ver false) ver false fDescribeACLsRequest_1 s1).1 := ⟨_,rfl⟩
  repeat ((first | refine qA rfl ?_|refine qB ?_|refine qC rfl ?_|refine qD ?_|refine qE ?_|refine qF ?_|refine qG ?_|refine qH ?_);try simp (maxSteps:=1000000)(disch:=(first|omega|(simp only [qI,qJ,qK]<;>omega)|exact qL _)) only [go_sem,↓reduceIte,n0,reduceCtorEq,n1,n2,n3,n4,n5,i0,i1,i2,i3,i4,i5,i6,i7,hv_3])
  have hmay : mayS fDescribeACLsRequest_1 ver = true := mayS_yes (by decide) (by show (0 : Int) ≤ ver;omega)
  have hrd : rdF (rdP d ver false) ver false fDescribeACLsRequest_1 s1 = _ := rdF_ptr rfl hmay
  refine (RNullableString_fn w3 hq3.1 hrok hG3.1 hgrb).mono ?_
  rintro r4 w4 ⟨hp4,hq4,hu4⟩
  obtain ⟨ap4,rfl⟩ := hp4.shape
  have hv_4 := hu4.blk_some hv_3 (by omega)
  have hV4 : Upd (fun b => b = vb ∨ b = rb) w3 w4 := hu4.mono (fun _ h => .inr h)
  have hU4 : Upd (fun b => b = vb ∨ b = rb) w1 w4 := hU3.trans hV4
  have hz4 := hV4.size
  have hG4 : Glo ev w4 := hG1.updS hU4 hgM1 hgM2
  have hst : (rdF (rdP d ver false) ver false fDescribeACLsRequest_1 s1).2 = (rdNStr false s1).2 := by first | (rw [hrd];rfl) | rw [hrd]
  obtain ⟨s2,hs2⟩ : ∃ s,s = (rdF (rdP d ver false) ver false fDescribeACLsRequest_1 s1).2 := ⟨_,rfl⟩
  rw [← hst,← hs2] at hq4
  clear hst
  repeat ((first | refine qA rfl ?_|refine qB ?_|refine qC rfl ?_|refine qD ?_|refine qE ?_|refine qF ?_|refine qG ?_|refine qH ?_);try simp (maxSteps:=1000000)(disch:=(first|omega|(simp only [qI,qJ,qK]<;>omega)|exact qL _)) only [go_sem,↓reduceIte,n0,reduceCtorEq,n1,n2,n3,n4,n5,i0,i1,i2,i3,i4,i5,i6,i7,hv_4])
  generalize hw5 : wr w4 vb 2 [.pointer ap4] = w5
  have hS5 : Upd (fun b => b = vb ∨ b = rb) w4 w5 := by rw [← hw5];exact (Upd.refl _ _).wr _ _ (.inr (.inl rfl))
  have hv_5 : blk w5 vb = some (#[.int .i16 ver,.int .i8 (rdInt .i8 1 s0).1,.pointer ap4,.int .i8 3,.pointer none,.pointer none,.int .i8 0,.int .i8 0,.map none],111,(0,0)) := by rw [← hw5,blk_wr_eq,hv_4];rfl
  have hV5 := hS5
  have hU5 : Upd (fun b => b = vb ∨ b = rb) w1 w5 := hU4.trans hV5
  have hz5 := hV5.size
  have hG5 : Glo ev w5 := hG1.updS hU5 hgM1 hgM2
  have hq5 : Rdr RT ok w5 rb s2 ∧ NN w5 rb s2 := by
    have hn : ∀ x,x = w5 → (Rdr RT ok x rb s2 ∧ NN x rb s2) := fun x hx => by
      rw [hx,← hw5]
      exact Rdr.store hq4 (by omega) (fun h => by have := (hok _ h).1;first | omega | exact (hok _ h).2 rfl)
    exact hn _ rfl
  clear hw5
  have hf_1 : RepF (RepS true d) (szS true d) fDescribeACLsRequest_1 (fun b => ok b ∨ w1.heap.size ≤ b) w5 (x_1) [.pointer ap4] := (RepF_ptr rfl (by decide)).2 ⟨_,rfl,by rw [hx_1,hrd];exact (hp4.weaken fun b _ hk => by have hk' : w3.heap.size ≤ b := hk;exact .inr (by omega)).keep (hV5.keeps fun b _ hk e => (hoM b hk) e)⟩
  clear hrd
  have hb_2 : (rdL (rdP d ver false) (dfP d) ver false [fDescribeACLsRequest_2,fDescribeACLsRequest_3,fDescribeACLsRequest_4,fDescribeACLsRequest_5,fDescribeACLsRequest_6] s2).2 = none → FB := fun h => hb_1 (by rw [rdL_st (by decide) hh_1,← hs2];exact h)
  have hh_2 : hasS fDescribeACLsRequest_2 ver = true := hasS_t (by show (1 : Int) ≤ ver;omega) (by show (-1 : Int) < 0 ∨ ver ≤ (-1 : Int);omega)
  obtain ⟨x_2,hx_2⟩ : ∃ x,x = (rdF (rdP d ver false) ver false fDescribeACLsRequest_2 s2).1 := ⟨_,rfl⟩
  repeat ((first | refine qA rfl ?_|refine qB ?_|refine qC rfl ?_|refine qD ?_|refine qE ?_|refine qF ?_|refine qG ?_|refine qH ?_);try simp (maxSteps:=1000000)(disch:=(first|omega|(simp only [qI,qJ,qK]<;>omega)|exact qL _)) only [go_sem,↓reduceIte,n0,reduceCtorEq,n1,n2,n3,n4,n5,i0,i1,i2,i3,i4,i5,i6,i7,hv_5])
  have hrd : rdF (rdP d ver false) ver false fDescribeACLsRequest_2 s2 = _ := rdF_num 1 rfl (by decide)
  refine (Int8_fn w5 hq5.1 hrok).mono ?_
  rintro _ w6 ⟨rfl,hq6,hu6⟩
  have hv_6 := hu6.blk_some hv_5 (by omega)
  have hV6 : Upd (fun b => b = vb ∨ b = rb) w5 w6 := hu6.mono (fun _ h => .inr h)
  have hU6 : Upd (fun b => b = vb ∨ b = rb) w1 w6 := hU5.trans hV6
  have hz6 := hV6.size
  have hG6 : Glo ev w6 := hG1.updS hU6 hgM1 hgM2
  have hst : (rdF (rdP d ver false) ver false fDescribeACLsRequest_2 s2).2 = (rdInt .i8 1 s2).2 := by first | (rw [hrd];rfl) | rw [hrd]
  obtain ⟨s3,hs3⟩ : ∃ s,s = (rdF (rdP d ver false) ver false fDescribeACLsRequest_2 s2).2 := ⟨_,rfl⟩
  rw [← hst,← hs3] at hq6
  clear hst
  repeat ((first | refine qA rfl ?_|refine qB ?_|refine qC rfl ?_|refine qD ?_|refine qE ?_|refine qF ?_|refine qG ?_|refine qH ?_);try simp (maxSteps:=1000000)(disch:=(first|omega|(simp only [qI,qJ,qK]<;>omega)|exact qL _)) only [go_sem,↓reduceIte,n0,reduceCtorEq,n1,n2,n3,n4,n5,i0,i1,i2,i3,i4,i5,i6,i7,hv_6])
  generalize hw7 : wr w6 vb 3 [.int .i8 (rdInt .i8 1 s2).1] = w7
  have hS7 : Upd (fun b => b = vb ∨ b = rb) w6 w7 := by rw [← hw7];exact (Upd.refl _ _).wr _ _ (.inr (.inl rfl))
  have hv_7 : blk w7 vb = some (#[.int .i16 ver,.int .i8 (rdInt .i8 1 s0).1,.pointer ap4,.int .i8 (rdInt .i8 1 s2).1,.pointer none,.pointer none,.int .i8 0,.int .i8 0,.map none],111,(0,0)) := by rw [← hw7,blk_wr_eq,hv_6];rfl
  have hV7 := hS7
  have hU7 : Upd (fun b => b = vb ∨ b = rb) w1 w7 := hU6.trans hV7
  have hz7 := hV7.size
  have hG7 : Glo ev w7 := hG1.updS hU7 hgM1 hgM2
  have hq7 : Rdr RT ok w7 rb s3 ∧ NN w7 rb s3 := by
    have hn : ∀ x,x = w7 → (Rdr RT ok x rb s3 ∧ NN x rb s3) := fun x hx => by
      rw [hx,← hw7]
      exact Rdr.store hq6 (by omega) (fun h => by have := (hok _ h).1;first | omega | exact (hok _ h).2 rfl)
    exact hn _ rfl
  clear hw7
  have hf_2 : RepF (RepS true d) (szS true d) fDescribeACLsRequest_2 (fun b => ok b ∨ w1.heap.size ≤ b) w7 (x_2) [.int .i8 (rdInt .i8 1 s2).1] := (RepF_num (by decide)).2 (by rw [hx_2,hrd];exact congrArg (fun x => [x]) (numC_rd 1 (by decide) 1 s2).symm)
  clear hrd
  have hb_3 : (rdL (rdP d ver false) (dfP d) ver false [fDescribeACLsRequest_3,fDescribeACLsRequest_4,fDescribeACLsRequest_5,fDescribeACLsRequest_6] s3).2 = none → FB := fun h => hb_2 (by rw [rdL_st (by decide) hh_2,← hs3];exact h)
  have hh_3 : hasS fDescribeACLsRequest_3 ver = true := hasS_t (by show (0 : Int) ≤ ver;omega) (by show (-1 : Int) < 0 ∨ ver ≤ (-1 : Int);omega)
  obtain ⟨x_3,hx_3⟩ : ∃ x,x = (rdF (rdP d ver false) ver false fDescribeACLsRequest_3 s3).1 := ⟨_,rfl⟩
  repeat ((first | refine qA rfl ?_|refine qB ?_|refine qC rfl ?_|refine qD ?_|refine qE ?_|refine qF ?_|refine qG ?_|refine qH ?_);try simp (maxSteps:=1000000)(disch:=(first|omega|(simp only [qI,qJ,qK]<;>omega)|exact qL _)) only [go_sem,↓reduceIte,n0,reduceCtorEq,n1,n2,n3,n4,n5,i0,i1,i2,i3,i4,i5,i6,i7,hv_7])
  have hmay : mayS fDescribeACLsRequest_3 ver = true := mayS_yes (by decide) (by show (0 : Int) ≤ ver;omega)
  have hrd : rdF (rdP d ver false) ver false fDescribeACLsRequest_3 s3 = _ := rdF_ptr rfl hmay
  refine (RNullableString_fn w7 hq7.1 hrok hG7.1 hgrb).mono ?_
  rintro r8 w8 ⟨hp8,hq8,hu8⟩
  obtain ⟨ap8,rfl⟩ := hp8.shape
  have hv_8 := hu8.blk_some hv_7 (by omega)
  have hV8 : Upd (fun b => b = vb ∨ b = rb) w7 w8 := hu8.mono (fun _ h => .inr h)
  have hU8 : Upd (fun b => b = vb ∨ b = rb) w1 w8 := hU7.trans hV8
  have hz8 := hV8.size
  have hG8 : Glo ev w8 := hG1.updS hU8 hgM1 hgM2
  have hst : (rdF (rdP d ver false) ver false fDescribeACLsRequest_3 s3).2 = (rdNStr false s3).2 := by first | (rw [hrd];rfl) | rw [hrd]
  obtain ⟨s4,hs4⟩ : ∃ s,s = (rdF (rdP d ver false) ver false fDescribeACLsRequest_3 s3).2 := ⟨_,rfl⟩
  rw [← hst,← hs4] at hq8
  clear hst
  repeat ((first | refine qA rfl ?_|refine qB ?_|refine qC rfl ?_|refine qD ?_|refine qE ?_|refine qF ?_|refine qG ?_|refine qH ?_);try simp (maxSteps:=1000000)(disch:=(first|omega|(simp only [qI,qJ,qK]<;>omega)|exact qL _)) only [go_sem,↓reduceIte,n0,reduceCtorEq,n1,n2,n3,n4,n5,i0,i1,i2,i3,i4,i5,i6,i7,hv_8])
  generalize hw9 : wr w8 vb 4 [.pointer ap8] = w9
  have hS9 : Upd (fun b => b = vb ∨ b = rb) w8 w9 := by rw [← hw9];exact (Upd.refl _ _).wr _ _ (.inr (.inl rfl))
  have hv_9 : blk w9 vb = some (#[.int .i16 ver,.int .i8 (rdInt .i8 1 s0).1,.pointer ap4,.int .i8 (rdInt .i8 1 s2).1,.pointer ap8,.pointer none,.int .i8 0,.int .i8 0,.map none],111,(0,0)) := by rw [← hw9,blk_wr_eq,hv_8];rfl
  have hV9 := hS9
  have hU9 : Upd (fun b => b = vb ∨ b = rb) w1 w9 := hU8.trans hV9
  have hz9 := hV9.size
  have hG9 : Glo ev w9 := hG1.updS hU9 hgM1 hgM2
  have hq9 : Rdr RT ok w9 rb s4 ∧ NN w9 rb s4 := by
    have hn : ∀ x,x = w9 → (Rdr RT ok x rb s4 ∧ NN x rb s4) := fun x hx => by
      rw [hx,← hw9]
      exact Rdr.store hq8 (by omega) (fun h => by have := (hok _ h).1;first | omega | exact (hok _ h).2 rfl)
    exact hn _ rfl
  clear hw9
  have hf_3 : RepF (RepS true d) (szS true d) fDescribeACLsRequest_3 (fun b => ok b ∨ w1.heap.size ≤ b) w9 (x_3) [.pointer ap8] := (RepF_ptr rfl (by decide)).2 ⟨_,rfl,by rw [hx_3,hrd];exact (hp8.weaken fun b _ hk => by have hk' : w7.heap.size ≤ b := hk;exact .inr (by omega)).keep (hV9.keeps fun b _ hk e => (hoM b hk) e)⟩
  clear hrd
  have hb_4 : (rdL (rdP d ver false) (dfP d) ver false [fDescribeACLsRequest_4,fDescribeACLsRequest_5,fDescribeACLsRequest_6] s4).2 = none → FB := fun h => hb_3 (by rw [rdL_st (by decide) hh_3,← hs4];exact h)
  have hh_4 : hasS fDescribeACLsRequest_4 ver = true := hasS_t (by show (0 : Int) ≤ ver;omega) (by show (-1 : Int) < 0 ∨ ver ≤ (-1 : Int);omega)
  obtain ⟨x_4,hx_4⟩ : ∃ x,x = (rdF (rdP d ver false) ver false fDescribeACLsRequest_4 s4).1 := ⟨_,rfl⟩
  repeat ((first | refine qA rfl ?_|refine qB ?_|refine qC rfl ?_|refine qD ?_|refine qE ?_|refine qF ?_|refine qG ?_|refine qH ?_);try simp (maxSteps:=1000000)(disch:=(first|omega|(simp only [qI,qJ,qK]<;>omega)|exact qL _)) only [go_sem,↓reduceIte,n0,reduceCtorEq,n1,n2,n3,n4,n5,i0,i1,i2,i3,i4,i5,i6,i7,hv_9])
  have hmay : mayS fDescribeACLsRequest_4 ver = true := mayS_yes (by decide) (by show (0 : Int) ≤ ver;omega)
  have hrd : rdF (rdP d ver false) ver false fDescribeACLsRequest_4 s4 = _ := rdF_ptr rfl hmay
  refine (RNullableString_fn w9 hq9.1 hrok hG9.1 hgrb).mono ?_
  rintro r10 w10 ⟨hp10,hq10,hu10⟩
  obtain ⟨ap10,rfl⟩ := hp10.shape
  have hv_10 := hu10.blk_some hv_9 (by omega)
  have hV10 : Upd (fun b => b = vb ∨ b = rb) w9 w10 := hu10.mono (fun _ h => .inr h)
  have hU10 : Upd (fun b => b = vb ∨ b = rb) w1 w10 := hU9.trans hV10
  have hz10 := hV10.size
  have hG10 : Glo ev w10 := hG1.updS hU10 hgM1 hgM2
  have hst : (rdF (rdP d ver false) ver false fDescribeACLsRequest_4 s4).2 = (rdNStr false s4).2 := by first | (rw [hrd];rfl) | rw [hrd]
  obtain ⟨s5,hs5⟩ : ∃ s,s = (rdF (rdP d ver false) ver false fDescribeACLsRequest_4 s4).2 := ⟨_,rfl⟩
  rw [← hst,← hs5] at hq10
  clear hst
  repeat ((first | refine qA rfl ?_|refine qB ?_|refine qC rfl ?_|refine qD ?_|refine qE ?_|refine qF ?_|refine qG ?_|refine qH ?_);try simp (maxSteps:=1000000)(disch:=(first|omega|(simp only [qI,qJ,qK]<;>omega)|exact qL _)) only [go_sem,↓reduceIte,n0,reduceCtorEq,n1,n2,n3,n4,n5,i0,i1,i2,i3,i4,i5,i6,i7,hv_10])
  generalize hw11 : wr w10 vb 5 [.pointer ap10] = w11
  have hS11 : Upd (fun b => b = vb ∨ b = rb) w10 w11 := by rw [← hw11];exact (Upd.refl _ _).wr _ _ (.inr (.inl rfl))
  have hv_11 : blk w11 vb = some (#[.int .i16 ver,.int .i8 (rdInt .i8 1 s0).1,.pointer ap4,.int .i8 (rdInt .i8 1 s2).1,.pointer ap8,.pointer ap10,.int .i8 0,.int .i8 0,.map none],111,(0,0)) := by rw [← hw11,blk_wr_eq,hv_10];rfl
  have hV11 := hS11
  have hU11 : Upd (fun b => b = vb ∨ b = rb) w1 w11 := hU10.trans hV11
  have hz11 := hV11.size
  have hG11 : Glo ev w11 := hG1.updS hU11 hgM1 hgM2
  have hq11 : Rdr RT ok w11 rb s5 ∧ NN w11 rb s5 := by
    have hn : ∀ x,x = w11 → (Rdr RT ok x rb s5 ∧ NN x rb s5) := fun x hx => by
      rw [hx,← hw11]
      exact Rdr.store hq10 (by omega) (fun h => by have := (hok _ h).1;first | omega | exact (hok _ h).2 rfl)
    exact hn _ rfl
  clear hw11
  have hf_4 : RepF (RepS true d) (szS true d) fDescribeACLsRequest_4 (fun b => ok b ∨ w1.heap.size ≤ b) w11 (x_4) [.pointer ap10] := (RepF_ptr rfl (by decide)).2 ⟨_,rfl,by rw [hx_4,hrd];exact (hp10.weaken fun b _ hk => by have hk' : w9.heap.size ≤ b := hk;exact .inr (by omega)).keep (hV11.keeps fun b _ hk e => (hoM b hk) e)⟩
  clear hrd
  have hb_5 : (rdL (rdP d ver false) (dfP d) ver false [fDescribeACLsRequest_5,fDescribeACLsRequest_6] s5).2 = none → FB := fun h => hb_4 (by rw [rdL_st (by decide) hh_4,← hs5];exact h)
  have hh_5 : hasS fDescribeACLsRequest_5 ver = true := hasS_t (by show (0 : Int) ≤ ver;omega) (by show (-1 : Int) < 0 ∨ ver ≤ (-1 : Int);omega)
  obtain ⟨x_5,hx_5⟩ : ∃ x,x = (rdF (rdP d ver false) ver false fDescribeACLsRequest_5 s5).1 := ⟨_,rfl⟩
  repeat ((first | refine qA rfl ?_|refine qB ?_|refine qC rfl ?_|refine qD ?_|refine qE ?_|refine qF ?_|refine qG ?_|refine qH ?_);try simp (maxSteps:=1000000)(disch:=(first|omega|(simp only [qI,qJ,qK]<;>omega)|exact qL _)) only [go_sem,↓reduceIte,n0,reduceCtorEq,n1,n2,n3,n4,n5,i0,i1,i2,i3,i4,i5,i6,i7,hv_11])
  have hrd : rdF (rdP d ver false) ver false fDescribeACLsRequest_5 s5 = _ := rdF_num 1 rfl (by decide)
  refine (Int8_fn w11 hq11.1 hrok).mono ?_
  rintro _ w12 ⟨rfl,hq12,hu12⟩
  have hv_12 := hu12.blk_some hv_11 (by omega)
  have hV12 : Upd (fun b => b = vb ∨ b = rb) w11 w12 := hu12.mono (fun _ h => .inr h)
  have hU12 : Upd (fun b => b = vb ∨ b = rb) w1 w12 := hU11.trans hV12
  have hz12 := hV12.size
  have hG12 : Glo ev w12 := hG1.updS hU12 hgM1 hgM2
  have hst : (rdF (rdP d ver false) ver false fDescribeACLsRequest_5 s5).2 = (rdInt .i8 1 s5).2 := by first | (rw [hrd];rfl) | rw [hrd]
  obtain ⟨s6,hs6⟩ : ∃ s,s = (rdF (rdP d ver false) ver false fDescribeACLsRequest_5 s5).2 := ⟨_,rfl⟩
  rw [← hst,← hs6] at hq12
  clear hst
  repeat ((first | refine qA rfl ?_|refine qB ?_|refine qC rfl ?_|refine qD ?_|refine qE ?_|refine qF ?_|refine qG ?_|refine qH ?_);try simp (maxSteps:=1000000)(disch:=(first|omega|(simp only [qI,qJ,qK]<;>omega)|exact qL _)) only [go_sem,↓reduceIte,n0,reduceCtorEq,n1,n2,n3,n4,n5,i0,i1,i2,i3,i4,i5,i6,i7,hv_12])
  generalize hw13 : wr w12 vb 6 [.int .i8 (rdInt .i8 1 s5).1] = w13
  have hS13 : Upd (fun b => b = vb ∨ b = rb) w12 w13 := by rw [← hw13];exact (Upd.refl _ _).wr _ _ (.inr (.inl rfl))
  have hv_13 : blk w13 vb = some (#[.int .i16 ver,.int .i8 (rdInt .i8 1 s0).1,.pointer ap4,.int .i8 (rdInt .i8 1 s2).1,.pointer ap8,.pointer ap10,.int .i8 (rdInt .i8 1 s5).1,.int .i8 0,.map none],111,(0,0)) := by rw [← hw13,blk_wr_eq,hv_12];rfl
  have hV13 := hS13
  have hU13 : Upd (fun b => b = vb ∨ b = rb) w1 w13 := hU12.trans hV13
  have hz13 := hV13.size
  have hG13 : Glo ev w13 := hG1.updS hU13 hgM1 hgM2
  have hq13 : Rdr RT ok w13 rb s6 ∧ NN w13 rb s6 := by
    have hn : ∀ x,x = w13 → (Rdr RT ok x rb s6 ∧ NN x rb s6) := fun x hx => by
      rw [hx,← hw13]
      exact Rdr.store hq12 (by omega) (fun h => by have := (hok _ h).1;first | omega | exact (hok _ h).2 rfl)
    exact hn _ rfl
  clear hw13
  have hf_5 : RepF (RepS true d) (szS true d) fDescribeACLsRequest_5 (fun b => ok b ∨ w1.heap.size ≤ b) w13 (x_5) [.int .i8 (rdInt .i8 1 s5).1] := (RepF_num (by decide)).2 (by rw [hx_5,hrd];exact congrArg (fun x => [x]) (numC_rd 1 (by decide) 1 s5).symm)
  clear hrd
  have hb_6 : (rdL (rdP d ver false) (dfP d) ver false [fDescribeACLsRequest_6] s6).2 = none → FB := fun h => hb_5 (by rw [rdL_st (by decide) hh_5,← hs6];exact h)
  have hh_6 : hasS fDescribeACLsRequest_6 ver = true := hasS_t (by show (0 : Int) ≤ ver;omega) (by show (-1 : Int) < 0 ∨ ver ≤ (-1 : Int);omega)
  obtain ⟨x_6,hx_6⟩ : ∃ x,x = (rdF (rdP d ver false) ver false fDescribeACLsRequest_6 s6).1 := ⟨_,rfl⟩
  repeat ((first | refine qA rfl ?_|refine qB ?_|refine qC rfl ?_|refine qD ?_|refine qE ?_|refine qF ?_|refine qG ?_|refine qH ?_);try simp (maxSteps:=1000000)(disch:=(first|omega|(simp only [qI,qJ,qK]<;>omega)|exact qL _)) only [go_sem,↓reduceIte,n0,reduceCtorEq,n1,n2,n3,n4,n5,i0,i1,i2,i3,i4,i5,i6,i7,hv_13])
  have hrd : rdF (rdP d ver false) ver false fDescribeACLsRequest_6 s6 = _ := rdF_num 1 rfl (by decide)
  refine (Int8_fn w13 hq13.1 hrok).mono ?_
  rintro _ w14 ⟨rfl,hq14,hu14⟩
  have hv_14 := hu14.blk_some hv_13 (by omega)
  have hV14 : Upd (fun b => b = vb ∨ b = rb) w13 w14 := hu14.mono (fun _ h => .inr h)
  have hU14 : Upd (fun b => b = vb ∨ b = rb) w1 w14 := hU13.trans hV14
  have hz14 := hV14.size
  have hG14 : Glo ev w14 := hG1.updS hU14 hgM1 hgM2
  have hst : (rdF (rdP d ver false) ver false fDescribeACLsRequest_6 s6).2 = (rdInt .i8 1 s6).2 := by first | (rw [hrd];rfl) | rw [hrd]
  obtain ⟨s7,hs7⟩ : ∃ s,s = (rdF (rdP d ver false) ver false fDescribeACLsRequest_6 s6).2 := ⟨_,rfl⟩
  rw [← hst,← hs7] at hq14
  clear hst
  repeat ((first | refine qA rfl ?_|refine qB ?_|refine qC rfl ?_|refine qD ?_|refine qE ?_|refine qF ?_|refine qG ?_|refine qH ?_);try simp (maxSteps:=1000000)(disch:=(first|omega|(simp only [qI,qJ,qK]<;>omega)|exact qL _)) only [go_sem,↓reduceIte,n0,reduceCtorEq,n1,n2,n3,n4,n5,i0,i1,i2,i3,i4,i5,i6,i7,hv_14])
  generalize hw15 : wr w14 vb 7 [.int .i8 (rdInt .i8 1 s6).1] = w15
  have hS15 : Upd (fun b => b = vb ∨ b = rb) w14 w15 := by rw [← hw15];exact (Upd.refl _ _).wr _ _ (.inr (.inl rfl))
  have hv_15 : blk w15 vb = some (#[.int .i16 ver,.int .i8 (rdInt .i8 1 s0).1,.pointer ap4,.int .i8 (rdInt .i8 1 s2).1,.pointer ap8,.pointer ap10,.int .i8 (rdInt .i8 1 s5).1,.int .i8 (rdInt .i8 1 s6).1,.map none],111,(0,0)) := by rw [← hw15,blk_wr_eq,hv_14];rfl
  have hV15 := hS15
  have hU15 : Upd (fun b => b = vb ∨ b = rb) w1 w15 := hU14.trans hV15
  have hz15 := hV15.size
  have hG15 : Glo ev w15 := hG1.updS hU15 hgM1 hgM2
  have hq15 : Rdr RT ok w15 rb s7 ∧ NN w15 rb s7 := by
    have hn : ∀ x,x = w15 → (Rdr RT ok x rb s7 ∧ NN x rb s7) := fun x hx => by
      rw [hx,← hw15]
      exact Rdr.store hq14 (by omega) (fun h => by have := (hok _ h).1;first | omega | exact (hok _ h).2 rfl)
    exact hn _ rfl
  clear hw15
  have hf_6 : RepF (RepS true d) (szS true d) fDescribeACLsRequest_6 (fun b => ok b ∨ w1.heap.size ≤ b) w15 (x_6) [.int .i8 (rdInt .i8 1 s6).1] := (RepF_num (by decide)).2 (by rw [hx_6,hrd];exact congrArg (fun x => [x]) (numC_rd 1 (by decide) 1 s6).symm)
  clear hrd
  have hl_7 : rdL (rdP d ver false) (dfP d) ver false [] s7 = ([],s7) := rfl
  have hl_6 : rdL (rdP d ver false) (dfP d) ver false [fDescribeACLsRequest_6] s6 = ([x_6],s7) := by rw [rdL_st (by decide) hh_6,← hx_6,← hs7,hl_7]
  have hl_5 : rdL (rdP d ver false) (dfP d) ver false [fDescribeACLsRequest_5,fDescribeACLsRequest_6] s5 = ([x_5,x_6],s7) := by rw [rdL_st (by decide) hh_5,← hx_5,← hs6,hl_6]
  have hl_4 : rdL (rdP d ver false) (dfP d) ver false [fDescribeACLsRequest_4,fDescribeACLsRequest_5,fDescribeACLsRequest_6] s4 = ([x_4,x_5,x_6],s7) := by rw [rdL_st (by decide) hh_4,← hx_4,← hs5,hl_5]
  have hl_3 : rdL (rdP d ver false) (dfP d) ver false [fDescribeACLsRequest_3,fDescribeACLsRequest_4,fDescribeACLsRequest_5,fDescribeACLsRequest_6] s3 = ([x_3,x_4,x_5,x_6],s7) := by rw [rdL_st (by decide) hh_3,← hx_3,← hs4,hl_4]
  have hl_2 : rdL (rdP d ver false) (dfP d) ver false [fDescribeACLsRequest_2,fDescribeACLsRequest_3,fDescribeACLsRequest_4,fDescribeACLsRequest_5,fDescribeACLsRequest_6] s2 = ([x_2,x_3,x_4,x_5,x_6],s7) := by rw [rdL_st (by decide) hh_2,← hx_2,← hs3,hl_3]
  have hl_1 : rdL (rdP d ver false) (dfP d) ver false [fDescribeACLsRequest_1,fDescribeACLsRequest_2,fDescribeACLsRequest_3,fDescribeACLsRequest_4,fDescribeACLsRequest_5,fDescribeACLsRequest_6] s1 = ([x_1,x_2,x_3,x_4,x_5,x_6],s7) := by rw [rdL_st (by decide) hh_1,← hx_1,← hs2,hl_2]
  have hl_0 : rdL (rdP d ver false) (dfP d) ver false [fDescribeACLsRequest_0,fDescribeACLsRequest_1,fDescribeACLsRequest_2,fDescribeACLsRequest_3,fDescribeACLsRequest_4,fDescribeACLsRequest_5,fDescribeACLsRequest_6] s0 = ([x_0,x_1,x_2,x_3,x_4,x_5,x_6],s7) := by rw [rdL_st (by decide) hh_0,← hx_0,← hs1,hl_1]
  have hfin : rdP (d + 1) ver false fs_DescribeACLsRequest s0 = (.mk 0 [] false [x_0,x_1,x_2,x_3,x_4,x_5,x_6] [],s7) := rdP_f hl_0
  have hTg : TagsM (fun b => ok b ∨ w1.heap.size ≤ b) w15 (.map none) [] := .inl ⟨rfl,rfl⟩
  have hC_15 : Upd (fun b => b = vb ∨ b = rb) w15 w15 := Upd.refl _ _
  have hC_14 : Upd (fun b => b = vb ∨ b = rb) w14 w15 := hV15.trans hC_15
  have hC_13 : Upd (fun b => b = vb ∨ b = rb) w13 w15 := hV14.trans hC_14
  have hC_12 : Upd (fun b => b = vb ∨ b = rb) w12 w15 := hV13.trans hC_13
  have hC_11 : Upd (fun b => b = vb ∨ b = rb) w11 w15 := hV12.trans hC_12
  have hC_10 : Upd (fun b => b = vb ∨ b = rb) w10 w15 := hV11.trans hC_11
  have hC_9 : Upd (fun b => b = vb ∨ b = rb) w9 w15 := hV10.trans hC_10
  have hC_8 : Upd (fun b => b = vb ∨ b = rb) w8 w15 := hV9.trans hC_9
  have hC_7 : Upd (fun b => b = vb ∨ b = rb) w7 w15 := hV8.trans hC_8
  have hC_6 : Upd (fun b => b = vb ∨ b = rb) w6 w15 := hV7.trans hC_7
  have hC_5 : Upd (fun b => b = vb ∨ b = rb) w5 w15 := hV6.trans hC_6
  have hC_4 : Upd (fun b => b = vb ∨ b = rb) w4 w15 := hV5.trans hC_5
  have hC_3 : Upd (fun b => b = vb ∨ b = rb) w3 w15 := hV4.trans hC_4
  have hC_2 : Upd (fun b => b = vb ∨ b = rb) w2 w15 := hV3.trans hC_3
  have hC_1 : Upd (fun b => b = vb ∨ b = rb) w1 w15 := hV2.trans hC_2
  have hR : RepS true (d + 1) fs_DescribeACLsRequest (fun b => ok b ∨ w1.heap.size ≤ b) w15 (.mk 0 [] false [x_0,x_1,x_2,x_3,x_4,x_5,x_6] []) [.int .i8 (rdInt .i8 1 s0).1,.pointer ap4,.int .i8 (rdInt .i8 1 s2).1,.pointer ap8,.pointer ap10,.int .i8 (rdInt .i8 1 s5).1,.int .i8 (rdInt .i8 1 s6).1,.map none] := RepS.introT (c := [.int .i8 (rdInt .i8 1 s0).1,.pointer ap4,.int .i8 (rdInt .i8 1 s2).1,.pointer ap8,.pointer ap10,.int .i8 (rdInt .i8 1 s5).1,.int .i8 (rdInt .i8 1 s6).1]) (RepL.cons1 (hf_0.keepS (hC_3.keeps fun b _ hk e => (hoM b hk) e)) (RepL.cons1 (hf_1.keepS (hC_5.keeps fun b _ hk e => (hoM b hk) e)) (RepL.cons1 (hf_2.keepS (hC_7.keeps fun b _ hk e => (hoM b hk) e)) (RepL.cons1 (hf_3.keepS (hC_9.keeps fun b _ hk e => (hoM b hk) e)) (RepL.cons1 (hf_4.keepS (hC_11.keeps fun b _ hk e => (hoM b hk) e)) (RepL.cons1 (hf_5.keepS (hC_13.keeps fun b _ hk e => (hoM b hk) e)) (RepL.cons1 (hf_6.keepS (hC_15.keeps fun b _ hk e => (hoM b hk) e)) RepL.nil))))))) hTg
  repeat ((first | refine qA rfl ?_|refine qB ?_|refine qC rfl ?_|refine qD ?_|refine qE ?_|refine qF ?_|refine qG ?_|refine qH ?_);try simp (maxSteps:=1000000)(disch:=(first|omega|(simp only [qI,qJ,qK]<;>omega)|exact qL _)) only [go_sem,↓reduceIte,n0,reduceCtorEq,n1,n2,n3,n4,n5,i0,i1,i2,i3,i4,i5,i6,i7,hv_15])
  refine (RComplete_fn w15 hq15.1 hG15.2).mono ?_
  rintro _ wz ⟨rfl,hez⟩
  rw [hez]
  repeat ((first | refine qA rfl ?_|refine qB ?_|refine qC rfl ?_|refine qD ?_|refine qE ?_|refine qF ?_|refine qG ?_|refine qH ?_);try simp (maxSteps:=1000000)(disch:=(first|omega|(simp only [qI,qJ,qK]<;>omega)|exact qL _)) only [go_sem,↓reduceIte,n0,reduceCtorEq,n1,n2,n3,n4,n5,i0,i1,i2,i3,i4,i5,i6,i7,hv_15])
  rw [hfin]
  refine ⟨fun h => ?_,fun h => ⟨?_,[.int .i8 (rdInt .i8 1 s0).1,.pointer ap4,.int .i8 (rdInt .i8 1 s2).1,.pointer ap8,.pointer ap10,.int .i8 (rdInt .i8 1 s5).1,.int .i8 (rdInt .i8 1 s6).1,.map none],hv_15,?_⟩,?_⟩
  · have h' : s7 = none := h
    rw [h'];rfl
  · cases hsn : s7 with
    | none => exact absurd hsn h
    | some x => rfl
  · exact (RepS_lay true (d + 1) fs_DescribeACLsRequest).weaken hR fun b _ hk => hk.imp id fun h => by omega
  · exact hbase.trans' hU15 fun i hi h => h.elim id fun h => by omega
end Ms

namespace Ms
open Go.World renaming size_alloc → qI
open Ms renaming size_wr → qJ,size_drew → qK,not_noB → qL
open W renaming seqR → qA,seq → qB,regR → qC,condK → qD,block → qE,skip → qF,ret → qG,exit → qH
open Nat renaming reduceEqDiff → n0,reduceAdd → n1,reduceMul → n2,reduceSub → n3,reduceLT → n4,reduceLeDiff → n5
open Int renaming reduceEq → i0,reduceLT → i1,reduceLE → i2,reduceNeg → i3,reduceAdd → i4,reduceSub → i5,reduceMul → i6,reduceToNat → i7
set_option maxRecDepth 8000
open Go Go.Proofs Go.Shelf
attribute [local congr] W_congr WPsq_congr WPp_congr optK_congr addrK_congr intK_congr boolK_congr sliceK_congr tupleK_congr funcK_congr Fn_congr rawK_congr takeK_congr stepK_congr convK_congr aggK_congr

set_option maxHeartbeats 4000000 in
theorem readDescribeACLsRequest_2 {d : Nat} {ok : Blocks} {ver : Int} {ev : Value} (hlo : 2 ≤ ver) (hhi : ver ≤ 3) (w : World) {vb : Nat} (src : Value) (s : List UInt8) (hv : blk w vb = some (#[.int .i16 ver,.int .i8 0,.pointer none,.int .i8 3,.pointer none,.pointer none,.int .i8 0,.int .i8 0,.map none],111,(0,0))) (hsrc : BytesV ok w src s) (hok0 : ∀ b,ok b → b < w.heap.size ∧ b ≠ vb) (hG : Glo ev w) (hgv : ¬ 0 = vb ∧ ¬ 1 = vb) :
    Fn Tryd.prog 78 #[.pointer (some ⟨vb,0,none⟩),src,.bool false] w (ReadQ 111 ok ver (d + 1) fs_DescribeACLsRequest vb w (rdP (d + 1) ver true fs_DescribeACLsRequest (some s)) ev) := by
  have hvl := blk_lt hv
  have hgs := hG.lt
  obtain ⟨sa,sc,rfl,_⟩ := hsrc.shape
  refine fn_of_W Tryd.func78 rfl Tryd.results78 Tryd.ntmps78 rfl ?_
  repeat ((first | refine qA rfl ?_|refine qB ?_|refine qC rfl ?_|refine qD ?_|refine qE ?_|refine qF ?_|refine qG ?_|refine qH ?_);try simp (maxSteps:=1000000)(disch:=(first|omega|(simp only [qI,qJ,qK]<;>omega)|exact qL _)) only [go_sem,↓reduceIte,n0,reduceCtorEq,n1,n2,n3,n4,n5,i0,i1,i2,i3,i4,i5,i6,i7,hv])
  refine (DefaultDescribeACLsRequest_fn w hv).mono ?_
  rintro _ w0 ⟨hv0,hu0⟩
  have hz0 := hu0.size
  have hsrc0 : BytesV ok w0 (.slice sa s.length sc) s := hsrc.keep (hu0.keeps fun b _ hk e => (hok0 b hk).2 e)
  obtain ⟨rb,hrb⟩ : ∃ r,r = w0.heap.size := ⟨_,rfl⟩
  have hE1 : Ext w0 (wr (w0.alloc (.cells #[.slice none 0 0,.bool false] 113)) w0.heap.size 0 [.slice sa s.length sc,.bool false]) := (Upd.alloc (Upd.refl _ _) _).wr _ _ (.inl (Nat.le_refl _))
  have hz1 : (wr (w0.alloc (.cells #[.slice none 0 0,.bool false] 113)) w0.heap.size 0 [.slice sa s.length sc,.bool false]).heap.size = w0.heap.size + 1 := by rw [size_wr,World.size_alloc]
  have hR1 : Rdr RT ok (wr (w0.alloc (.cells #[.slice none 0 0,.bool false] 113)) w0.heap.size 0 [.slice sa s.length sc,.bool false]) w0.heap.size (some s) := Rdr.good (v := .slice sa s.length sc) (by simp (maxSteps:=1000000)(disch:=(first|omega|(simp only [qI,qJ,qK]<;>omega)|exact qL _)) only [go_sem,↓reduceIte,n0,reduceCtorEq,n1,n2,n3,n4,n5,i0,i1,i2,i3,i4,i5,i6,i7]) (hsrc0.keep (hE1.keeps _))
  have hv_1 := hE1.blk_some hv0 id
  repeat ((first | refine qA rfl ?_|refine qB ?_|refine qC rfl ?_|refine qD ?_|refine qE ?_|refine qF ?_|refine qG ?_|refine qH ?_);try simp (maxSteps:=1000000)(disch:=(first|omega|(simp only [qI,qJ,qK]<;>omega)|exact qL _)) only [go_sem,↓reduceIte,n0,reduceCtorEq,n1,n2,n3,n4,n5,i0,i1,i2,i3,i4,i5,i6,i7,hv0])
  generalize (wr (w0.alloc (.cells #[.slice none 0 0,.bool false] 113)) w0.heap.size 0 [.slice sa s.length sc,.bool false]) = w1 at *
  rw [← hrb] at hR1
  try rw [← hrb]
  have hok : ∀ b,ok b → b < w.heap.size ∧ b ≠ vb := hok0
  have hrok : ¬ ok rb := fun h => by have := (hok rb h).1;omega
  have hbase : Upd (fun b => b = vb) w w1 := hu0.trans (hE1.mono fun _ h => h.elim)
  have hG1 : Glo ev w1 := hG.updS hbase hgv.1 hgv.2
  have hgrb : ¬ 0 = rb := by omega
  have hgM1 : ¬ (0 = vb ∨ 0 = rb) := fun h => h.elim hgv.1 fun h => by omega
  have hgM2 : ¬ (1 = vb ∨ 1 = rb) := fun h => h.elim hgv.2 fun h => by omega
  obtain ⟨s0,hs0⟩ : ∃ s' : St,s' = some s := ⟨_,rfl⟩
  rw [← hs0] at hR1 ⊢
  have hU1 : Upd (fun b => b = vb ∨ b = rb) w1 w1 := Upd.refl _ _
  have hoM : ∀ b,(ok b ∨ w1.heap.size ≤ b) → ¬ (b = vb ∨ b = rb) := fun b hk h => by
    rcases hk with hk | hk
    · have := hok b hk;rcases h with h | h <;> omega
    · rcases h with h | h <;> omega
  have hq1 : Rdr RT ok w1 rb s0 := hR1
  obtain ⟨FB,hFB⟩ : ∃ P : Prop,P = ((rdP (d + 1) ver true fs_DescribeACLsRequest s0).2 = none) := ⟨_,rfl⟩
  have hb_0 : (rdL (rdP d ver true) (dfP d) ver true [fDescribeACLsRequest_0,fDescribeACLsRequest_1,fDescribeACLsRequest_2,fDescribeACLsRequest_3,fDescribeACLsRequest_4,fDescribeACLsRequest_5,fDescribeACLsRequest_6] s0).2 = none → FB := fun h => Eq.mpr hFB (rdP_bad h)
  have hh_0 : hasS fDescribeACLsRequest_0 ver = true := hasS_t (by show (0 : Int) ≤ ver;omega) (by show (-1 : Int) < 0 ∨ ver ≤ (-1 : Int);omega)
  obtain ⟨x_0,hx_0⟩ : ∃ x,x = (rdF (rdP d ver true) ver true fDescribeACLsRequest_0 s0).1 := ⟨_,rfl⟩
  repeat ((first | refine qA rfl ?_|refine qB ?_|refine qC rfl ?_|refine qD ?_|refine qE ?_|refine qF ?_|refine qG ?_|refine qH ?_);try simp (maxSteps:=1000000)(disch:=(first|omega|(simp only [qI,qJ,qK]<;>omega)|exact qL _)) only [go_sem,↓reduceIte,n0,reduceCtorEq,n1,n2,n3,n4,n5,i0,i1,i2,i3,i4,i5,i6,i7,hv_1])
  have hrd : rdF (rdP d ver true) ver true fDescribeACLsRequest_0 s0 = _ := rdF_num 1 rfl (by decide)
  refine (Int8_fn w1 hq1 hrok).mono ?_
  rintro _ w2 ⟨rfl,hq2,hu2⟩
  have hv_2 := hu2.blk_some hv_1 (by omega)
  have hV2 : Upd (fun b => b = vb ∨ b = rb) w1 w2 := hu2.mono (fun _ h => .inr h)
  have hU2 : Upd (fun b => b = vb ∨ b = rb) w1 w2 := hU1.trans hV2
  have hz2 := hV2.size
  have hG2 : Glo ev w2 := hG1.updS hU2 hgM1 hgM2
  have hst : (rdF (rdP d ver true) ver true fDescribeACLsRequest_0 s0).2 = (rdInt .i8 1 s0).2 := by first | (rw [hrd];rfl) | rw [hrd]
  obtain ⟨s1,hs1⟩ : ∃ s,s = (rdF (rdP d ver true) ver true fDescribeACLsRequest_0 s0).2 := ⟨_,rfl⟩
  rw [← hst,← hs1] at hq2
  clear hst
  repeat ((first | refine qA rfl ?_|refine qB ?_|refine qC rfl ?_|refine qD ?_|refine qE ?_|refine qF ?_|refine qG ?_|refine qH ?_);try simp (maxSteps:=1000000)(disch:=(first|omega|(simp only [qI,qJ,qK]<;>omega)|exact qL _)) only [go_sem,↓reduceIte,n0,reduceCtorEq,n1,n2,n3,n4,n5,i0,i1,i2,i3,i4,i5,i6,i7,hv_2])
  generalize hw3 : wr w2 vb 1 [.int .i8 (rdInt .i8 1 s0).1] = w3
  have hS3 : Upd (fun b => b = vb ∨ b = rb) w2 w3 := by rw [← hw3];exact (Upd.refl _ _).wr _ _ (.inr (.inl rfl))
  have hv_3 : blk w3 vb = some (#[.int .i16 ver,.int .i8 (rdInt .i8 1 s0).1,.pointer none,.int .i8 3,.pointer none,.pointer none,.int .i8 0,.int .i8 0,.map none],111,(0,0)) := by rw [← hw3,blk_wr_eq,hv_2];rfl
  have hV3 := hS3
  have hU3 : Upd (fun b => b = vb ∨ b = rb) w1 w3 := hU2.trans hV3
  have hz3 := hV3.size
  have hG3 : Glo ev w3 := hG1.updS hU3 hgM1 hgM2
  have hq3 : Rdr RT ok w3 rb s1 ∧ NN w3 rb s1 := by
    have hn : ∀ x,x = w3 → (Rdr RT ok x rb s1 ∧ NN x rb s1) := fun x hx => by
      rw [hx,← hw3]
      exact Rdr.store hq2 (by omega) (fun h => by have := (hok _ h).1;first | omega | exact (hok _ h).2 rfl)
    exact hn _ rfl
  clear hw3
  have hf_0 : RepF (RepS true d) (szS true d) fDescribeACLsRequest_0 (fun b => ok b ∨ w1.heap.size ≤ b) w3 (x_0) [.int .i8 (rdInt .i8 1 s0).1] := (RepF_num (by decide)).2 (by rw [hx_0,hrd];exact congrArg (fun x => [x]) (numC_rd 1 (by decide) 1 s0).symm)
  clear hrd
  have hb_1 : (rdL (rdP d ver true) (dfP d) ver true [fDescribeACLsRequest_1,fDescribeACLsRequest_2,fDescribeACLsRequest_3,fDescribeACLsRequest_4,fDescribeACLsRequest_5,fDescribeACLsRequest_6] s1).2 = none → FB := fun h => hb_0 (by rw [rdL_st (by decide) hh_0,← hs1];exact h)
  have hh_1 : hasS fDescribeACLsRequest_1 ver = true := hasS_t (by show (0 : Int) ≤ ver;omega) (by show (-1 : Int) < 0 ∨ ver ≤ (-1 : Int);omega)
  obtain ⟨x_1,hx_1⟩ : ∃ x,x = (rdF (rdP d ver true) ver true fDescribeACLsRequest_1 s1).1 := ⟨_,rfl⟩
  repeat ((first | refine qA rfl ?_|refine qB ?_|refine qC rfl ?_|refine qD ?_|refine qE ?_|refine qF ?_|refine qG ?_|refine qH ?_);try simp (maxSteps:=1000000)(disch:=(first|omega|(simp only [qI,qJ,qK]<;>omega)|exact qL _)) only [go_sem,↓reduceIte,n0,reduceCtorEq,n1,n2,n3,n4,n5,i0,i1,i2,i3,i4,i5,i6,i7,hv_3])
  have hmay : mayS fDescribeACLsRequest_1 ver = true := mayS_yes (by decide) (by show (0 : Int) ≤ ver;omega)
  have hrd : rdF (rdP d ver true) ver true fDescribeACLsRequest_1 s1 = _ := rdF_ptr rfl hmay
  refine (RCompactNullableString_fn w3 hq3.1 hrok hG3.1 hgrb).mono ?_
  rintro r4 w4 ⟨hp4,hq4,hu4⟩
  obtain ⟨ap4,rfl⟩ := hp4.shape
  have hv_4 := hu4.blk_some hv_3 (by omega)
  have hV4 : Upd (fun b => b = vb ∨ b = rb) w3 w4 := hu4.mono (fun _ h => .inr h)
  have hU4 : Upd (fun b => b = vb ∨ b = rb) w1 w4 := hU3.trans hV4
  have hz4 := hV4.size
  have hG4 : Glo ev w4 := hG1.updS hU4 hgM1 hgM2
  have hst : (rdF (rdP d ver true) ver true fDescribeACLsRequest_1 s1).2 = (rdNStr true s1).2 := by first | (rw [hrd];rfl) | rw [hrd]
  obtain ⟨s2,hs2⟩ : ∃ s,s = (rdF (rdP d ver true) ver true fDescribeACLsRequest_1 s1).2 := ⟨_,rfl⟩
  rw [← hst,← hs2] at hq4
  clear hst
  repeat ((first | refine qA rfl ?_|refine qB ?_|refine qC rfl ?_|refine qD ?_|refine qE ?_|refine qF ?_|refine qG ?_|refine qH ?_);try simp (maxSteps:=1000000)(disch:=(first|omega|(simp only [qI,qJ,qK]<;>omega)|exact qL _)) only [go_sem,↓reduceIte,n0,reduceCtorEq,n1,n2,n3,n4,n5,i0,i1,i2,i3,i4,i5,i6,i7,hv_4])
  generalize hw5 : wr w4 vb 2 [.pointer ap4] = w5
  have hS5 : Upd (fun b => b = vb ∨ b = rb) w4 w5 := by rw [← hw5];exact (Upd.refl _ _).wr _ _ (.inr (.inl rfl))
  have hv_5 : blk w5 vb = some (#[.int .i16 ver,.int .i8 (rdInt .i8 1 s0).1,.pointer ap4,.int .i8 3,.pointer none,.pointer none,.int .i8 0,.int .i8 0,.map none],111,(0,0)) := by rw [← hw5,blk_wr_eq,hv_4];rfl
  have hV5 := hS5
  have hU5 : Upd (fun b => b = vb ∨ b = rb) w1 w5 := hU4.trans hV5
  have hz5 := hV5.size
  have hG5 : Glo ev w5 := hG1.updS hU5 hgM1 hgM2
  have hq5 : Rdr RT ok w5 rb s2 ∧ NN w5 rb s2 := by
    have hn : ∀ x,x = w5 → (Rdr RT ok x rb s2 ∧ NN x rb s2) := fun x hx => by
      rw [hx,← hw5]
      exact Rdr.store hq4 (by omega) (fun h => by have := (hok _ h).1;first | omega | exact (hok _ h).2 rfl)
    exact hn _ rfl
  clear hw5
  have hf_1 : RepF (RepS true d) (szS true d) fDescribeACLsRequest_1 (fun b => ok b ∨ w1.heap.size ≤ b) w5 (x_1) [.pointer ap4] := (RepF_ptr rfl (by decide)).2 ⟨_,rfl,by rw [hx_1,hrd];exact (hp4.weaken fun b _ hk => by have hk' : w3.heap.size ≤ b := hk;exact .inr (by omega)).keep (hV5.keeps fun b _ hk e => (hoM b hk) e)⟩
  clear hrd
  have hb_2 : (rdL (rdP d ver true) (dfP d) ver true [fDescribeACLsRequest_2,fDescribeACLsRequest_3,fDescribeACLsRequest_4,fDescribeACLsRequest_5,fDescribeACLsRequest_6] s2).2 = none → FB := fun h => hb_1 (by rw [rdL_st (by decide) hh_1,← hs2];exact h)
  have hh_2 : hasS fDescribeACLsRequest_2 ver = true := hasS_t (by show (1 : Int) ≤ ver;omega) (by show (-1 : Int) < 0 ∨ ver ≤ (-1 : Int);omega)
  obtain ⟨x_2,hx_2⟩ : ∃ x,x = (rdF (rdP d ver true) ver true fDescribeACLsRequest_2 s2).1 := ⟨_,rfl⟩
  repeat ((first | refine qA rfl ?_|refine qB ?_|refine qC rfl ?_|refine qD ?_|refine qE ?_|refine qF ?_|refine qG ?_|refine qH ?_);try simp (maxSteps:=1000000)(disch:=(first|omega|(simp only [qI,qJ,qK]<;>omega)|exact qL _)) only [go_sem,↓reduceIte,n0,reduceCtorEq,n1,n2,n3,n4,n5,i0,i1,i2,i3,i4,i5,i6,i7,hv_5])
  have hrd : rdF (rdP d ver true) ver true fDescribeACLsRequest_2 s2 = _ := rdF_num 1 rfl (by decide)
  refine (Int8_fn w5 hq5.1 hrok).mono ?_
  rintro _ w6 ⟨rfl,hq6,hu6⟩
  have hv_6 := hu6.blk_some hv_5 (by omega)
  have hV6 : Upd (fun b => b = vb ∨ b = rb) w5 w6 := hu6.mono (fun _ h => .inr h)
  have hU6 : Upd (fun b => b = vb ∨ b = rb) w1 w6 := hU5.trans hV6
  have hz6 := hV6.size
  have hG6 : Glo ev w6 := hG1.updS hU6 hgM1 hgM2
  have hst : (rdF (rdP d ver true) ver true fDescribeACLsRequest_2 s2).2 = (rdInt .i8 1 s2).2 := by first | (rw [hrd];rfl) | rw [hrd]
  obtain ⟨s3,hs3⟩ : ∃ s,s = (rdF (rdP d ver true) ver true fDescribeACLsRequest_2 s2).2 := ⟨_,rfl⟩
  rw [← hst,← hs3] at hq6
  clear hst
  repeat ((first | refine qA rfl ?_|refine qB ?_|refine qC rfl ?_|refine qD ?_|refine qE ?_|refine qF ?_|refine qG ?_|refine qH ?_);try simp (maxSteps:=1000000)(disch:=(first|omega|(simp only [qI,qJ,qK]<;>omega)|exact qL _)) only [go_sem,↓reduceIte,n0,reduceCtorEq,n1,n2,n3,n4,n5,i0,i1,i2,i3,i4,i5,i6,i7,hv_6])
  generalize hw7 : wr w6 vb 3 [.int .i8 (rdInt .i8 1 s2).1] = w7
  have hS7 : Upd (fun b => b = vb ∨ b = rb) w6 w7 := by rw [← hw7];exact (Upd.refl _ _).wr _ _ (.inr (.inl rfl))
  have hv_7 : blk w7 vb = some (#[.int .i16 ver,.int .i8 (rdInt .i8 1 s0).1,.pointer ap4,.int .i8 (rdInt .i8 1 s2).1,.pointer none,.pointer none,.int .i8 0,.int .i8 0,.map none],111,(0,0)) := by rw [← hw7,blk_wr_eq,hv_6];rfl
  have hV7 := hS7
  have hU7 : Upd (fun b => b = vb ∨ b = rb) w1 w7 := hU6.trans hV7
  have hz7 := hV7.size
  have hG7 : Glo ev w7 := hG1.updS hU7 hgM1 hgM2
  have hq7 : Rdr RT ok w7 rb s3 ∧ NN w7 rb s3 := by
    have hn : ∀ x,x = w7 → (Rdr RT ok x rb s3 ∧ NN x rb s3) := fun x hx => by
      rw [hx,← hw7]
      exact Rdr.store hq6 (by omega) (fun h => by have := (hok _ h).1;first | omega | exact (hok _ h).2 rfl)
    exact hn _ rfl
  clear hw7
  have hf_2 : RepF (RepS true d) (szS true d) fDescribeACLsRequest_2 (fun b => ok b ∨ w1.heap.size ≤ b) w7 (x_2) [.int .i8 (rdInt .i8 1 s2).1] := (RepF_num (by decide)).2 (by rw [hx_2,hrd];exact congrArg (fun x => [x]) (numC_rd 1 (by decide) 1 s2).symm)
  clear hrd
  have hb_3 : (rdL (rdP d ver true) (dfP d) ver true [fDescribeACLsRequest_3,fDescribeACLsRequest_4,fDescribeACLsRequest_5,fDescribeACLsRequest_6] s3).2 = none → FB := fun h => hb_2 (by rw [rdL_st (by decide) hh_2,← hs3];exact h)
  have hh_3 : hasS fDescribeACLsRequest_3 ver = true := hasS_t (by show (0 : Int) ≤ ver;omega) (by show (-1 : Int) < 0 ∨ ver ≤ (-1 : Int);omega)
  obtain ⟨x_3,hx_3⟩ : ∃ x,x = (rdF (rdP d ver true) ver true fDescribeACLsRequest_3 s3).1 := ⟨_,rfl⟩
  repeat ((first | refine qA rfl ?_|refine qB ?_|refine qC rfl ?_|refine qD ?_|refine qE ?_|refine qF ?_|refine qG ?_|refine qH ?_);try simp (maxSteps:=1000000)(disch:=(first|omega|(simp only [qI,qJ,qK]<;>omega)|exact qL _)) only [go_sem,↓reduceIte,n0,reduceCtorEq,n1,n2,n3,n4,n5,i0,i1,i2,i3,i4,i5,i6,i7,hv_7])
  have hmay : mayS fDescribeACLsRequest_3 ver = true := mayS_yes (by decide) (by show (0 : Int) ≤ ver;omega)
  have hrd : rdF (rdP d ver true) ver true fDescribeACLsRequest_3 s3 = _ := rdF_ptr rfl hmay
  refine (RCompactNullableString_fn w7 hq7.1 hrok hG7.1 hgrb).mono ?_
  rintro r8 w8 ⟨hp8,hq8,hu8⟩
  obtain ⟨ap8,rfl⟩ := hp8.shape
  have hv_8 := hu8.blk_some hv_7 (by omega)
  have hV8 : Upd (fun b => b = vb ∨ b = rb) w7 w8 := hu8.mono (fun _ h => .inr h)
  have hU8 : Upd (fun b => b = vb ∨ b = rb) w1 w8 := hU7.trans hV8
  have hz8 := hV8.size
  have hG8 : Glo ev w8 := hG1.updS hU8 hgM1 hgM2
  have hst : (rdF (rdP d ver true) ver true fDescribeACLsRequest_3 s3).2 = (rdNStr true s3).2 := by first | (rw [hrd];rfl) | rw [hrd]
  obtain ⟨s4,hs4⟩ : ∃ s,s = (rdF (rdP d ver true) ver true fDescribeACLsRequest_3 s3).2 := ⟨_,rfl⟩
  rw [← hst,← hs4] at hq8
  clear hst
  repeat ((first | refine qA rfl ?_|refine qB ?_|refine qC rfl ?_|refine qD ?_|refine qE ?_|refine qF ?_|refine qG ?_|refine qH ?_);try simp (maxSteps:=1000000)(disch:=(first|omega|(simp only [qI,qJ,qK]<;>omega)|exact qL _)) only [go_sem,↓reduceIte,n0,reduceCtorEq,n1,n2,n3,n4,n5,i0,i1,i2,i3,i4,i5,i6,i7,hv_8])
  generalize hw9 : wr w8 vb 4 [.pointer ap8] = w9
  have hS9 : Upd (fun b => b = vb ∨ b = rb) w8 w9 := by rw [← hw9];exact (Upd.refl _ _).wr _ _ (.inr (.inl rfl))
  have hv_9 : blk w9 vb = some (#[.int .i16 ver,.int .i8 (rdInt .i8 1 s0).1,.pointer ap4,.int .i8 (rdInt .i8 1 s2).1,.pointer ap8,.pointer none,.int .i8 0,.int .i8 0,.map none],111,(0,0)) := by rw [← hw9,blk_wr_eq,hv_8];rfl
  have hV9 := hS9
  have hU9 : Upd (fun b => b = vb ∨ b = rb) w1 w9 := hU8.trans hV9
  have hz9 := hV9.size
  have hG9 : Glo ev w9 := hG1.updS hU9 hgM1 hgM2
  have hq9 : Rdr RT ok w9 rb s4 ∧ NN w9 rb s4 := by
    have hn : ∀ x,x = w9 → (Rdr RT ok x rb s4 ∧ NN x rb s4) := fun x hx => by
      rw [hx,← hw9]
      exact Rdr.store hq8 (by omega) (fun h => by have := (hok _ h).1;first | omega | exact (hok _ h).2 rfl)
    exact hn _ rfl
  clear hw9
  have hf_3 : RepF (RepS true d) (szS true d) fDescribeACLsRequest_3 (fun b => ok b ∨ w1.heap.size ≤ b) w9 (x_3) [.pointer ap8] := (RepF_ptr rfl (by decide)).2 ⟨_,rfl,by rw [hx_3,hrd];exact (hp8.weaken fun b _ hk => by have hk' : w7.heap.size ≤ b := hk;exact .inr (by omega)).keep (hV9.keeps fun b _ hk e => (hoM b hk) e)⟩
  clear hrd
  have hb_4 : (rdL (rdP d ver true) (dfP d) ver true [fDescribeACLsRequest_4,fDescribeACLsRequest_5,fDescribeACLsRequest_6] s4).2 = none → FB := fun h => hb_3 (by rw [rdL_st (by decide) hh_3,← hs4];exact h)
  have hh_4 : hasS fDescribeACLsRequest_4 ver = true := hasS_t (by show (0 : Int) ≤ ver;omega) (by show (-1 : Int) < 0 ∨ ver ≤ (-1 : Int);omega)
  obtain ⟨x_4,hx_4⟩ : ∃ x,x = (rdF (rdP d ver true) ver true fDescribeACLsRequest_4 s4).1 := ⟨_,rfl⟩
  repeat ((first | refine qA rfl ?_|refine qB ?_|refine qC rfl ?_|refine qD ?_|refine qE ?_|refine qF ?_|refine qG ?_|refine qH ?_);try simp (maxSteps:=1000000)(disch:=(first|omega|(simp only [qI,qJ,qK]<;>omega)|exact qL _)) only [go_sem,↓reduceIte,n0,reduceCtorEq,n1,n2,n3,n4,n5,i0,i1,i2,i3,i4,i5,i6,i7,hv_9])
  have hmay : mayS fDescribeACLsRequest_4 ver = true := mayS_yes (by decide) (by show (0 : Int) ≤ ver;omega)
  have hrd : rdF (rdP d ver true) ver true fDescribeACLsRequest_4 s4 = _ := rdF_ptr rfl hmay
  refine (RCompactNullableString_fn w9 hq9.1 hrok hG9.1 hgrb).mono ?_
  rintro r10 w10 ⟨hp10,hq10,hu10⟩
  obtain ⟨ap10,rfl⟩ := hp10.shape
  have hv_10 := hu10.blk_some hv_9 (by omega)
  have hV10 : Upd (fun b => b = vb ∨ b = rb) w9 w10 := hu10.mono (fun _ h => .inr h)
  have hU10 : Upd (fun b => b = vb ∨ b = rb) w1 w10 := hU9.trans hV10
  have hz10 := hV10.size
  have hG10 : Glo ev w10 := hG1.updS hU10 hgM1 hgM2
  have hst : (rdF (rdP d ver true) ver true fDescribeACLsRequest_4 s4).2 = (rdNStr true s4).2 := by first | (rw [hrd];rfl) | rw [hrd]
  obtain ⟨s5,hs5⟩ : ∃ s,s = (rdF (rdP d ver true) ver true fDescribeACLsRequest_4 s4).2 := ⟨_,rfl⟩
  rw [← hst,← hs5] at hq10
  clear hst
  repeat ((first | refine qA rfl ?_|refine qB ?_|refine qC rfl ?_|refine qD ?_|refine qE ?_|refine qF ?_|refine qG ?_|refine qH ?_);try simp (maxSteps:=1000000)(disch:=(first|omega|(simp only [qI,qJ,qK]<;>omega)|exact qL _)) only [go_sem,↓reduceIte,n0,reduceCtorEq,n1,n2,n3,n4,n5,i0,i1,i2,i3,i4,i5,i6,i7,hv_10])
  generalize hw11 : wr w10 vb 5 [.pointer ap10] = w11
  have hS11 : Upd (fun b => b = vb ∨ b = rb) w10 w11 := by rw [← hw11];exact (Upd.refl _ _).wr _ _ (.inr (.inl rfl))
  have hv_11 : blk w11 vb = some (#[.int .i16 ver,.int .i8 (rdInt .i8 1 s0).1,.pointer ap4,.int .i8 (rdInt .i8 1 s2).1,.pointer ap8,.pointer ap10,.int .i8 0,.int .i8 0,.map none],111,(0,0)) := by rw [← hw11,blk_wr_eq,hv_10];rfl
  have hV11 := hS11
  have hU11 : Upd (fun b => b = vb ∨ b = rb) w1 w11 := hU10.trans hV11
  have hz11 := hV11.size
  have hG11 : Glo ev w11 := hG1.updS hU11 hgM1 hgM2
  have hq11 : Rdr RT ok w11 rb s5 ∧ NN w11 rb s5 := by
    have hn : ∀ x,x = w11 → (Rdr RT ok x rb s5 ∧ NN x rb s5) := fun x hx => by
      rw [hx,← hw11]
      exact Rdr.store hq10 (by omega) (fun h => by have := (hok _ h).1;first | omega | exact (hok _ h).2 rfl)
    exact hn _ rfl
  clear hw11
  have hf_4 : RepF (RepS true d) (szS true d) fDescribeACLsRequest_4 (fun b => ok b ∨ w1.heap.size ≤ b) w11 (x_4) [.pointer ap10] := (RepF_ptr rfl (by decide)).2 ⟨_,rfl,by rw [hx_4,hrd];exact (hp10.weaken fun b _ hk => by have hk' : w9.heap.size ≤ b := hk;exact .inr (by omega)).keep (hV11.keeps fun b _ hk e => (hoM b hk) e)⟩
  clear hrd
  have hb_5 : (rdL (rdP d ver true) (dfP d) ver true [fDescribeACLsRequest_5,fDescribeACLsRequest_6] s5).2 = none → FB := fun h => hb_4 (by rw [rdL_st (by decide) hh_4,← hs5];exact h)
  have hh_5 : hasS fDescribeACLsRequest_5 ver = true := hasS_t (by show (0 : Int) ≤ ver;omega) (by show (-1 : Int) < 0 ∨ ver ≤ (-1 : Int);omega)
  obtain ⟨x_5,hx_5⟩ : ∃ x,x = (rdF (rdP d ver true) ver true fDescribeACLsRequest_5 s5).1 := ⟨_,rfl⟩
  repeat ((first | refine qA rfl ?_|refine qB ?_|refine qC rfl ?_|refine qD ?_|refine qE ?_|refine qF ?_|refine qG ?_|refine qH ?_);try simp (maxSteps:=1000000)(disch:=(first|omega|(simp only [qI,qJ,qK]<;>omega)|exact qL _)) only [go_sem,↓reduceIte,n0,reduceCtorEq,n1,n2,n3,n4,n5,i0,i1,i2,i3,i4,i5,i6,i7,hv_11])
  have hrd : rdF (rdP d ver true) ver true fDescribeACLsRequest_5 s5 = _ := rdF_num 1 rfl (by decide)
  refine (Int8_fn w11 hq11.1 hrok).mono ?_
  rintro _ w12 ⟨rfl,hq12,hu12⟩
  have hv_12 := hu12.blk_some hv_11 (by omega)
  have hV12 : Upd (fun b => b = vb ∨ b = rb) w11 w12 := hu12.mono (fun _ h => .inr h)
  have hU12 : Upd (fun b => b = vb ∨ b = rb) w1 w12 := hU11.trans hV12
  have hz12 := hV12.size
  have hG12 : Glo ev w12 := hG1.updS hU12 hgM1 hgM2
  have hst : (rdF (rdP d ver true) ver true fDescribeACLsRequest_5 s5).2 = (rdInt .i8 1 s5).2 := by first | (rw [hrd];rfl) | rw [hrd]
  obtain ⟨s6,hs6⟩ : ∃ s,s = (rdF (rdP d ver true) ver true fDescribeACLsRequest_5 s5).2 := ⟨_,rfl⟩
  rw [← hst,← hs6] at hq12
  clear hst
  repeat ((first | refine qA rfl ?_|refine qB ?_|refine qC rfl ?_|refine qD ?_|refine qE ?_|refine qF ?_|refine qG ?_|refine qH ?_);try simp (maxSteps:=1000000)(disch:=(first|omega|(simp only [qI,qJ,qK]<;>omega)|exact qL _)) only [go_sem,↓reduceIte,n0,reduceCtorEq,n1,n2,n3,n4,n5,i0,i1,i2,i3,i4,i5,i6,i7,hv_12])
  generalize hw13 : wr w12 vb 6 [.int .i8 (rdInt .i8 1 s5).1] = w13
  have hS13 : Upd (fun b => b = vb ∨ b = rb) w12 w13 := by rw [← hw13];exact (Upd.refl _ _).wr _ _ (.inr (.inl rfl))
  have hv_13 : blk w13 vb = some (#[.int .i16 ver,.int .i8 (rdInt .i8 1 s0).1,.pointer ap4,.int .i8 (rdInt .i8 1 s2).1,.pointer ap8,.pointer ap10,.int .i8 (rdInt .i8 1 s5).1,.int .i8 0,.map none],111,(0,0)) := by rw [← hw13,blk_wr_eq,hv_12];rfl
  have hV13 := hS13
  have hU13 : Upd (fun b => b = vb ∨ b = rb) w1 w13 := hU12.trans hV13
  have hz13 := hV13.size
  have hG13 : Glo ev w13 := hG1.updS hU13 hgM1 hgM2
  have hq13 : Rdr RT ok w13 rb s6 ∧ NN w13 rb s6 := by
    have hn : ∀ x,x = w13 → (Rdr RT ok x rb s6 ∧ NN x rb s6) := fun x hx => by
      rw [hx,← hw13]
      exact Rdr.store hq12 (by omega) (fun h => by have := (hok _ h).1;first | omega | exact (hok _ h).2 rfl)
    exact hn _ rfl
  clear hw13
  have hf_5 : RepF (RepS true d) (szS true d) fDescribeACLsRequest_5 (fun b => ok b ∨ w1.heap.size ≤ b) w13 (x_5) [.int .i8 (rdInt .i8 1 s5).1] := (RepF_num (by decide)).2 (by rw [hx_5,hrd];exact congrArg (fun x => [x]) (numC_rd 1 (by decide) 1 s5).symm)
  clear hrd
  have hb_6 : (rdL (rdP d ver true) (dfP d) ver true [fDescribeACLsRequest_6] s6).2 = none → FB := fun h => hb_5 (by rw [rdL_st (by decide) hh_5,← hs6];exact h)
  have hh_6 : hasS fDescribeACLsRequest_6 ver = true := hasS_t (by show (0 : Int) ≤ ver;omega) (by show (-1 : Int) < 0 ∨ ver ≤ (-1 : Int);omega)
  obtain ⟨x_6,hx_6⟩ : ∃ x,x = (rdF (rdP d ver true) ver true fDescribeACLsRequest_6 s6).1 := ⟨_,rfl⟩
  repeat ((first | refine qA rfl ?_|refine qB ?_|refine qC rfl ?_|refine qD ?_|refine qE ?_|refine qF ?_|refine qG ?_|refine qH ?_);try simp (maxSteps:=1000000)(disch:=(first|omega|(simp only [qI,qJ,qK]<;>omega)|exact qL _)) only [go_sem,↓reduceIte,n0,reduceCtorEq,n1,n2,n3,n4,n5,i0,i1,i2,i3,i4,i5,i6,i7,hv_13])
  have hrd : rdF (rdP d ver true) ver true fDescribeACLsRequest_6 s6 = _ := rdF_num 1 rfl (by decide)
  refine (Int8_fn w13 hq13.1 hrok).mono ?_
  rintro _ w14 ⟨rfl,hq14,hu14⟩
  have hv_14 := hu14.blk_some hv_13 (by omega)
  have hV14 : Upd (fun b => b = vb ∨ b = rb) w13 w14 := hu14.mono (fun _ h => .inr h)
  have hU14 : Upd (fun b => b = vb ∨ b = rb) w1 w14 := hU13.trans hV14
  have hz14 := hV14.size
  have hG14 : Glo ev w14 := hG1.updS hU14 hgM1 hgM2
  have hst : (rdF (rdP d ver true) ver true fDescribeACLsRequest_6 s6).2 = (rdInt .i8 1 s6).2 := by first | (rw [hrd];rfl) | rw [hrd]
  obtain ⟨s7,hs7⟩ : ∃ s,s = (rdF (rdP d ver true) ver true fDescribeACLsRequest_6 s6).2 := ⟨_,rfl⟩
  rw [← hst,← hs7] at hq14
  clear hst
  repeat ((first | refine qA rfl ?_|refine qB ?_|refine qC rfl ?_|refine qD ?_|refine qE ?_|refine qF ?_|refine qG ?_|refine qH ?_);try simp (maxSteps:=1000000)(disch:=(first|omega|(simp only [qI,qJ,qK]<;>omega)|exact qL _)) only [go_sem,↓reduceIte,n0,reduceCtorEq,n1,n2,n3,n4,n5,i0,i1,i2,i3,i4,i5,i6,i7,hv_14])
  generalize hw15 : wr w14 vb 7 [.int .i8 (rdInt .i8 1 s6).1] = w15
  have hS15 : Upd (fun b => b = vb ∨ b = rb) w14 w15 := by rw [← hw15];exact (Upd.refl _ _).wr _ _ (.inr (.inl rfl))
  have hv_15 : blk w15 vb = some (#[.int .i16 ver,.int .i8 (rdInt .i8 1 s0).1,.pointer ap4,.int .i8 (rdInt .i8 1 s2).1,.pointer ap8,.pointer ap10,.int .i8 (rdInt .i8 1 s5).1,.int .i8 (rdInt .i8 1 s6).1,.map none],111,(0,0)) := by rw [← hw15,blk_wr_eq,hv_14];rfl
  have hV15 := hS15
  have hU15 : Upd (fun b => b = vb ∨ b = rb) w1 w15 := hU14.trans hV15
  have hz15 := hV15.size
  have hG15 : Glo ev w15 := hG1.updS hU15 hgM1 hgM2
  have hq15 : Rdr RT ok w15 rb s7 ∧ NN w15 rb s7 := by
    have hn : ∀ x,x = w15 → (Rdr RT ok x rb s7 ∧ NN x rb s7) := fun x hx => by
      rw [hx,← hw15]
      exact Rdr.store hq14 (by omega) (fun h => by have := (hok _ h).1;first | omega | exact (hok _ h).2 rfl)
    exact hn _ rfl
  clear hw15
  have hf_6 : RepF (RepS true d) (szS true d) fDescribeACLsRequest_6 (fun b => ok b ∨ w1.heap.size ≤ b) w15 (x_6) [.int .i8 (rdInt .i8 1 s6).1] := (RepF_num (by decide)).2 (by rw [hx_6,hrd];exact congrArg (fun x => [x]) (numC_rd 1 (by decide) 1 s6).symm)
  clear hrd
  have hl_7 : rdL (rdP d ver true) (dfP d) ver true [] s7 = ([],s7) := rfl
  have hl_6 : rdL (rdP d ver true) (dfP d) ver true [fDescribeACLsRequest_6] s6 = ([x_6],s7) := by rw [rdL_st (by decide) hh_6,← hx_6,← hs7,hl_7]
  have hl_5 : rdL (rdP d ver true) (dfP d) ver true [fDescribeACLsRequest_5,fDescribeACLsRequest_6] s5 = ([x_5,x_6],s7) := by rw [rdL_st (by decide) hh_5,← hx_5,← hs6,hl_6]
  have hl_4 : rdL (rdP d ver true) (dfP d) ver true [fDescribeACLsRequest_4,fDescribeACLsRequest_5,fDescribeACLsRequest_6] s4 = ([x_4,x_5,x_6],s7) := by rw [rdL_st (by decide) hh_4,← hx_4,← hs5,hl_5]
  have hl_3 : rdL (rdP d ver true) (dfP d) ver true [fDescribeACLsRequest_3,fDescribeACLsRequest_4,fDescribeACLsRequest_5,fDescribeACLsRequest_6] s3 = ([x_3,x_4,x_5,x_6],s7) := by rw [rdL_st (by decide) hh_3,← hx_3,← hs4,hl_4]
  have hl_2 : rdL (rdP d ver true) (dfP d) ver true [fDescribeACLsRequest_2,fDescribeACLsRequest_3,fDescribeACLsRequest_4,fDescribeACLsRequest_5,fDescribeACLsRequest_6] s2 = ([x_2,x_3,x_4,x_5,x_6],s7) := by rw [rdL_st (by decide) hh_2,← hx_2,← hs3,hl_3]
  have hl_1 : rdL (rdP d ver true) (dfP d) ver true [fDescribeACLsRequest_1,fDescribeACLsRequest_2,fDescribeACLsRequest_3,fDescribeACLsRequest_4,fDescribeACLsRequest_5,fDescribeACLsRequest_6] s1 = ([x_1,x_2,x_3,x_4,x_5,x_6],s7) := by rw [rdL_st (by decide) hh_1,← hx_1,← hs2,hl_2]
  have hl_0 : rdL (rdP d ver true) (dfP d) ver true [fDescribeACLsRequest_0,fDescribeACLsRequest_1,fDescribeACLsRequest_2,fDescribeACLsRequest_3,fDescribeACLsRequest_4,fDescribeACLsRequest_5,fDescribeACLsRequest_6] s0 = ([x_0,x_1,x_2,x_3,x_4,x_5,x_6],s7) := by rw [rdL_st (by decide) hh_0,← hx_0,← hs1,hl_1]
  have hfin : rdP (d + 1) ver true fs_DescribeACLsRequest s0 = (.mk 0 [] false [x_0,x_1,x_2,x_3,x_4,x_5,x_6] (rdTags s7).1,(rdTags s7).2) := rdP_t hl_0
  repeat ((first | refine qA rfl ?_|refine qB ?_|refine qC rfl ?_|refine qD ?_|refine qE ?_|refine qF ?_|refine qG ?_|refine qH ?_);try simp (maxSteps:=1000000)(disch:=(first|omega|(simp only [qI,qJ,qK]<;>omega)|exact qL _)) only [go_sem,↓reduceIte,n0,reduceCtorEq,n1,n2,n3,n4,n5,i0,i1,i2,i3,i4,i5,i6,i7,hv_15])
  refine (ReadTags_fn w15 hq15.1 hrok).mono ?_
  rintro _ w16 ⟨qm,rfl,hT16,hTn,hq16,hu16⟩
  have hv_16 := hu16.blk_some hv_15 (by omega)
  have hV16 : Upd (fun b => b = vb ∨ b = rb) w15 w16 := hu16.mono (fun _ h => .inr h)
  have hU16 : Upd (fun b => b = vb ∨ b = rb) w1 w16 := hU15.trans hV16
  have hz16 := hV16.size
  have hG16 : Glo ev w16 := hG1.updS hU16 hgM1 hgM2
  obtain ⟨s8,hs8⟩ : ∃ s,s = (rdTags s7).2 := ⟨_,rfl⟩
  rw [← hs8] at hq16 hfin
  try simp (maxSteps:=1000000)(disch:=(first|omega|(simp only [qI,qJ,qK]<;>omega)|exact qL _)) only [go_sem,↓reduceIte,n0,reduceCtorEq,n1,n2,n3,n4,n5,i0,i1,i2,i3,i4,i5,i6,i7,hv_16]
  repeat ((first | refine qA rfl ?_|refine qB ?_|refine qC rfl ?_|refine qD ?_|refine qE ?_|refine qF ?_|refine qG ?_|refine qH ?_);try simp (maxSteps:=1000000)(disch:=(first|omega|(simp only [qI,qJ,qK]<;>omega)|exact qL _)) only [go_sem,↓reduceIte,n0,reduceCtorEq,n1,n2,n3,n4,n5,i0,i1,i2,i3,i4,i5,i6,i7,hv_16])
  generalize hw17 : wr w16 vb 8 [.map qm] = w17
  have hS17 : Upd (fun b => b = vb ∨ b = rb) w16 w17 := by rw [← hw17];exact (Upd.refl _ _).wr _ _ (.inr (.inl rfl))
  have hv_17 : blk w17 vb = some (#[.int .i16 ver,.int .i8 (rdInt .i8 1 s0).1,.pointer ap4,.int .i8 (rdInt .i8 1 s2).1,.pointer ap8,.pointer ap10,.int .i8 (rdInt .i8 1 s5).1,.int .i8 (rdInt .i8 1 s6).1,.map qm],111,(0,0)) := by rw [← hw17,blk_wr_eq,hv_16];rfl
  have hV17 := hS17
  have hU17 : Upd (fun b => b = vb ∨ b = rb) w1 w17 := hU16.trans hV17
  have hz17 := hV17.size
  have hG17 : Glo ev w17 := hG1.updS hU17 hgM1 hgM2
  have hq17 : Rdr RT ok w17 rb s8 ∧ NN w17 rb s8 := by
    have hn : ∀ x,x = w17 → (Rdr RT ok x rb s8 ∧ NN x rb s8) := fun x hx => by
      rw [hx,← hw17]
      exact Rdr.store hq16 (by omega) (fun h => by have := (hok _ h).1;first | omega | exact (hok _ h).2 rfl)
    exact hn _ rfl
  clear hw17
  have hTg : TagsM (fun b => ok b ∨ w1.heap.size ≤ b) w17 (.map qm) (rdTags s7).1 := (hT16.weaken fun b _ hk => hk.elim (fun hk => .inl hk) (fun h => by have h' : w15.heap.size ≤ b := h;exact .inr (by omega))).keep (hV17.keeps fun b _ hk e => (hoM b hk) e)
  have hC_17 : Upd (fun b => b = vb ∨ b = rb) w17 w17 := Upd.refl _ _
  have hC_16 : Upd (fun b => b = vb ∨ b = rb) w16 w17 := hV17.trans hC_17
  have hC_15 : Upd (fun b => b = vb ∨ b = rb) w15 w17 := hV16.trans hC_16
  have hC_14 : Upd (fun b => b = vb ∨ b = rb) w14 w17 := hV15.trans hC_15
  have hC_13 : Upd (fun b => b = vb ∨ b = rb) w13 w17 := hV14.trans hC_14
  have hC_12 : Upd (fun b => b = vb ∨ b = rb) w12 w17 := hV13.trans hC_13
  have hC_11 : Upd (fun b => b = vb ∨ b = rb) w11 w17 := hV12.trans hC_12
  have hC_10 : Upd (fun b => b = vb ∨ b = rb) w10 w17 := hV11.trans hC_11
  have hC_9 : Upd (fun b => b = vb ∨ b = rb) w9 w17 := hV10.trans hC_10
  have hC_8 : Upd (fun b => b = vb ∨ b = rb) w8 w17 := hV9.trans hC_9
  have hC_7 : Upd (fun b => b = vb ∨ b = rb) w7 w17 := hV8.trans hC_8
  have hC_6 : Upd (fun b => b = vb ∨ b = rb) w6 w17 := hV7.trans hC_7
  have hC_5 : Upd (fun b => b = vb ∨ b = rb) w5 w17 := hV6.trans hC_6
  have hC_4 : Upd (fun b => b = vb ∨ b = rb) w4 w17 := hV5.trans hC_5
  have hC_3 : Upd (fun b => b = vb ∨ b = rb) w3 w17 := hV4.trans hC_4
  have hC_2 : Upd (fun b => b = vb ∨ b = rb) w2 w17 := hV3.trans hC_3
  have hC_1 : Upd (fun b => b = vb ∨ b = rb) w1 w17 := hV2.trans hC_2
  have hR : RepS true (d + 1) fs_DescribeACLsRequest (fun b => ok b ∨ w1.heap.size ≤ b) w17 (.mk 0 [] false [x_0,x_1,x_2,x_3,x_4,x_5,x_6] (rdTags s7).1) [.int .i8 (rdInt .i8 1 s0).1,.pointer ap4,.int .i8 (rdInt .i8 1 s2).1,.pointer ap8,.pointer ap10,.int .i8 (rdInt .i8 1 s5).1,.int .i8 (rdInt .i8 1 s6).1,.map qm] := RepS.introT (c := [.int .i8 (rdInt .i8 1 s0).1,.pointer ap4,.int .i8 (rdInt .i8 1 s2).1,.pointer ap8,.pointer ap10,.int .i8 (rdInt .i8 1 s5).1,.int .i8 (rdInt .i8 1 s6).1]) (RepL.cons1 (hf_0.keepS (hC_3.keeps fun b _ hk e => (hoM b hk) e)) (RepL.cons1 (hf_1.keepS (hC_5.keeps fun b _ hk e => (hoM b hk) e)) (RepL.cons1 (hf_2.keepS (hC_7.keeps fun b _ hk e => (hoM b hk) e)) (RepL.cons1 (hf_3.keepS (hC_9.keeps fun b _ hk e => (hoM b hk) e)) (RepL.cons1 (hf_4.keepS (hC_11.keeps fun b _ hk e => (hoM b hk) e)) (RepL.cons1 (hf_5.keepS (hC_13.keeps fun b _ hk e => (hoM b hk) e)) (RepL.cons1 (hf_6.keepS (hC_15.keeps fun b _ hk e => (hoM b hk) e)) RepL.nil))))))) hTg
  repeat ((first | refine qA rfl ?_|refine qB ?_|refine qC rfl ?_|refine qD ?_|refine qE ?_|refine qF ?_|refine qG ?_|refine qH ?_);try simp (maxSteps:=1000000)(disch:=(first|omega|(simp only [qI,qJ,qK]<;>omega)|exact qL _)) only [go_sem,↓reduceIte,n0,reduceCtorEq,n1,n2,n3,n4,n5,i0,i1,i2,i3,i4,i5,i6,i7,hv_17])
  refine (RComplete_fn w17 hq17.1 hG17.2).mono ?_
  rintro _ wz ⟨rfl,hez⟩
  rw [hez]
  repeat ((first | refine qA rfl ?_|refine qB ?_|refine qC rfl ?_|refine qD ?_|refine qE ?_|refine qF ?_|refine qG ?_|refine qH ?_);try simp (maxSteps:=1000000)(disch:=(first|omega|(simp only [qI,qJ,qK]<;>omega)|exact qL _)) only [go_sem,↓reduceIte,n0,reduceCtorEq,n1,n2,n3,n4,n5,i0,i1,i2,i3,i4,i5,i6,i7,hv_17])
  rw [hfin]
  refine ⟨fun h => ?_,fun h => ⟨?_,[.int .i8 (rdInt .i8 1 s0).1,.pointer ap4,.int .i8 (rdInt .i8 1 s2).1,.pointer ap8,.pointer ap10,.int .i8 (rdInt .i8 1 s5).1,.int .i8 (rdInt .i8 1 s6).1,.map qm],hv_17,?_⟩,?_⟩
  · have h' : s8 = none := h
    rw [h'];rfl
  · cases hsn : s8 with
    | none => exact absurd hsn h
    | some x => rfl
  · exact (RepS_lay true (d + 1) fs_DescribeACLsRequest).weaken hR fun b _ hk => hk.imp id fun h => by omega
  · exact hbase.trans' hU17 fun i hi h => h.elim id fun h => by omega
end Ms

