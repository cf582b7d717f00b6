/- A part of the proof: see the last text. -/
import Derived.Test.YtpaofegplnfiiaaDoorC06
import Derived.Test.YtpaofegplnfiiaaDoorC08
import Derived.Test.YtpaofegplnfiiaaDoorC09
import Derived.Test.YtpaofegplnfiiaaDoorC10
set_option linter.unusedSimpArgs false
set_option linter.unusedVariables false
namespace Ms
open Nat renaming reduceEqDiff → n0,reduceAdd → n1,reduceMul → n2,reduceSub → n3,reduceLT → n4,reduceLeDiff → n5
open Int renaming reduceEq → i0,reduceLT → i1,reduceLE → i2,reduceNeg → i3,reduceAdd → i4,reduceSub → i5,reduceMul → i6,reduceToNat → i7
set_option maxRecDepth 4000
open Go Go.Proofs
theorem ap_34_34 : AppT Tryd.prog 34 34 37 5 88:=AppT.of (by kernel_rfl)
theorem ap_35_35 : AppT Tryd.prog 35 35 61 2 32:=AppT.of (by kernel_rfl)
theorem ca_10 : callable Tryd.prog 10=true:=nr (by kernel_rfl)
theorem ca_13 : callable Tryd.prog 13=true:=nr (by kernel_rfl)
theorem ca_14 : callable Tryd.prog 14=true:=nr (by kernel_rfl)
theorem ca_15 : callable Tryd.prog 15=true:=nr (by kernel_rfl)
theorem ca_16 : callable Tryd.prog 16=true:=nr (by kernel_rfl)
theorem ca_17 : callable Tryd.prog 17=true:=nr (by kernel_rfl)
theorem ca_18 : callable Tryd.prog 18=true:=nr (by kernel_rfl)
theorem ca_23 : callable Tryd.prog 23=true:=nr (by kernel_rfl)
theorem ca_24 : callable Tryd.prog 24=true:=nr (by kernel_rfl)
theorem ca_25 : callable Tryd.prog 25=true:=nr (by kernel_rfl)
theorem ca_26 : callable Tryd.prog 26=true:=nr (by kernel_rfl)
theorem ca_27 : callable Tryd.prog 27=true:=nr (by kernel_rfl)
theorem ca_36 : callable Tryd.prog 36=true:=nr (by kernel_rfl)
theorem ca_37 : callable Tryd.prog 37=true:=nr (by kernel_rfl)
theorem ca_39 : callable Tryd.prog 39=true:=nr (by kernel_rfl)
theorem ca_4 : callable Tryd.prog 4=true:=nr (by kernel_rfl)
theorem ca_41 : callable Tryd.prog 41=true:=nr (by kernel_rfl)
theorem ca_42 : callable Tryd.prog 42=true:=nr (by kernel_rfl)
theorem ca_43 : callable Tryd.prog 43=true:=nr (by kernel_rfl)
theorem ca_44 : callable Tryd.prog 44=true:=nr (by kernel_rfl)
theorem ca_45 : callable Tryd.prog 45=true:=nr (by kernel_rfl)
theorem ca_5 : callable Tryd.prog 5=true:=nr (by kernel_rfl)
theorem ca_6 : callable Tryd.prog 6=true:=nr (by kernel_rfl)
theorem ca_7 : callable Tryd.prog 7=true:=nr (by kernel_rfl)
theorem ca_8 : callable Tryd.prog 8=true:=nr (by kernel_rfl)
theorem ca_9 : callable Tryd.prog 9=true:=nr (by kernel_rfl)
theorem es_64 : elemSize Tryd.prog 64=some 16:=nr (by kernel_rfl)
theorem fo_69_0 : fieldOff Tryd.prog 69 0=some 0:=nr (by kernel_rfl)
theorem fo_69_1 : fieldOff Tryd.prog 69 1=some 1:=nr (by kernel_rfl)
theorem fo_69_2 : fieldOff Tryd.prog 69 2=some 2:=nr (by kernel_rfl)
theorem fo_69_3 : fieldOff Tryd.prog 69 3=some 3:=nr (by kernel_rfl)
theorem fo_69_4 : fieldOff Tryd.prog 69 4=some 4:=nr (by kernel_rfl)
theorem fo_69_5 : fieldOff Tryd.prog 69 5=some 5:=nr (by kernel_rfl)
theorem fo_69_6 : fieldOff Tryd.prog 69 6=some 6:=nr (by kernel_rfl)
theorem fo_69_7 : fieldOff Tryd.prog 69 7=some 7:=nr (by kernel_rfl)
theorem fo_69_8 : fieldOff Tryd.prog 69 8=some 8:=nr (by kernel_rfl)
theorem if_53 : isIfaceT Tryd.prog 53=true:=nr (by kernel_rfl)
theorem ld_21 (w:World) (b o:Nat):loadOf Tryd.prog 21 w ⟨b,o,none⟩=(blk w b).bind fun x=>x.1[o]?:=loadOf_one (by kernel_rfl) w b o
theorem ld_31 (w:World) (b o:Nat):loadOf Tryd.prog 31 w ⟨b,o,none⟩=(blk w b).bind fun x=>cellsAt x.1 o 2:=loadOf_agg (by kernel_rfl) w b o
theorem ld_45 (w:World) (b o:Nat):loadOf Tryd.prog 45 w ⟨b,o,none⟩=(blk w b).bind fun x=>x.1[o]?:=loadOf_one (by kernel_rfl) w b o
theorem ld_64 (w:World) (b o:Nat):loadOf Tryd.prog 64 w ⟨b,o,none⟩=(blk w b).bind fun x=>x.1[o]?:=loadOf_one (by kernel_rfl) w b o
theorem pl_31 : placesOf Tryd.prog 31=some [(0,1),(1,1)]:=nr (by kernel_rfl)
theorem pl_50 : placesOf Tryd.prog 50=some [(0,1),(1,1),(2,1),(3,1),(4,1),(5,1),(6,1),(7,1)]:=nr (by kernel_rfl)
theorem pl_61 : placesOf Tryd.prog 61=some [(0,1),(1,1)]:=nr (by kernel_rfl)
theorem pl_87 : placesOf Tryd.prog 87=some [(0,1),(1,1)]:=nr (by kernel_rfl)
theorem se_29 : slElem Tryd.prog 29=some (50,8):=nr (by kernel_rfl)
theorem se_34 : slElem Tryd.prog 34=some (37,5):=nr (by kernel_rfl)
theorem se_35 : slElem Tryd.prog 35=some (61,2):=nr (by kernel_rfl)
theorem se_64 : slElem Tryd.prog 64=some (72,16):=nr (by kernel_rfl)
theorem sl_64 : isSliceT Tryd.prog 64=true:=nr (by kernel_rfl)
theorem sz_2 (w:World) (b o:Nat) (v:Value):storeOf Tryd.prog 2 w ⟨b,o,none⟩ v=(blk w b).bind fun x=>stO w b o v x 1:=storeOf_n (by kernel_rfl) w b o v
theorem sz_21 (w:World) (b o:Nat) (v:Value):storeOf Tryd.prog 21 w ⟨b,o,none⟩ v=(blk w b).bind fun x=>stO w b o v x 1:=storeOf_n (by kernel_rfl) w b o v
theorem sz_31 (w:World) (b o:Nat) (v:Value):storeOf Tryd.prog 31 w ⟨b,o,none⟩ v=(blk w b).bind fun x=>stO w b o v x 2:=storeOf_n (by kernel_rfl) w b o v
theorem sz_34 (w:World) (b o:Nat) (v:Value):storeOf Tryd.prog 34 w ⟨b,o,none⟩ v=(blk w b).bind fun x=>stO w b o v x 1:=storeOf_n (by kernel_rfl) w b o v
theorem sz_35 (w:World) (b o:Nat) (v:Value):storeOf Tryd.prog 35 w ⟨b,o,none⟩ v=(blk w b).bind fun x=>stO w b o v x 1:=storeOf_n (by kernel_rfl) w b o v
theorem sz_45 (w:World) (b o:Nat) (v:Value):storeOf Tryd.prog 45 w ⟨b,o,none⟩ v=(blk w b).bind fun x=>stO w b o v x 1:=storeOf_n (by kernel_rfl) w b o v
theorem sz_64 (w:World) (b o:Nat) (v:Value):storeOf Tryd.prog 64 w ⟨b,o,none⟩ v=(blk w b).bind fun x=>stO w b o v x 1:=storeOf_n (by kernel_rfl) w b o v
theorem sz_87 (w:World) (b o:Nat) (v:Value):storeOf Tryd.prog 87 w ⟨b,o,none⟩ v=(blk w b).bind fun x=>stO w b o v x 2:=storeOf_n (by kernel_rfl) w b o v
theorem z_31 : zeroOf Tryd.prog 31=some #[.slice none 0 0,.int .i64 0]:=nr (by kernel_rfl)
theorem z_4 : zeroOf Tryd.prog 4=some #[.bool false]:=nr (by kernel_rfl)
theorem z_69 : zeroOf Tryd.prog 69=some #[.int .i16 0,.int .i32 0,.int .i64 0,.int .i64 0,.bool false,.bool false,.slice none 0 0,.slice none 0 0,.map none]:=nr (by kernel_rfl)
theorem z_87 : zeroOf Tryd.prog 87=some #[.slice none 0 0,.bool false]:=nr (by kernel_rfl)
attribute [go_sem] ca_10 ca_13 ca_14 ca_15 ca_16 ca_17 ca_18 ca_23 ca_24 ca_25 ca_26 ca_27 ca_36 ca_37 ca_39 ca_4 ca_41 ca_42 ca_43 ca_44 ca_45 ca_5 ca_6 ca_7 ca_8 ca_9 es_64 fo_69_0 fo_69_1 fo_69_2 fo_69_3 fo_69_4 fo_69_5 fo_69_6 fo_69_7 fo_69_8 if_53 ld_21 ld_31 ld_45 ld_64 pl_31 pl_50 pl_61 pl_87 se_29 se_34 se_35 se_64 sl_64 sz_2 sz_21 sz_31 sz_34 sz_35 sz_45 sz_64 sz_87 z_31 z_4 z_69 z_87
end Ms

namespace Ms
open Go
abbrev qZ5 : Array Value:=#[.int .i64 0,.slice none 0 0,.bool false,.slice none 0 0,.slice none 0 0]
end Ms

namespace Ms
attribute [go_sem] exitRQ_ret exitRQ_exit Int.toNat_natCast Nat.mul_one
end Ms

namespace Ms
open Go.World renaming size_alloc → qI
open Ms renaming size_wr → qJ,size_drew → qK,not_noB → qL
open W renaming seqR → qA,seq → qB,regR → qC,condK → qD,block → qE,skip → qF,ret → qG,exit → qH
open Nat renaming reduceEqDiff → n0,reduceAdd → n1,reduceMul → n2,reduceSub → n3,reduceLT → n4,reduceLeDiff → n5
open Int renaming reduceEq → i0,reduceLT → i1,reduceLE → i2,reduceNeg → i3,reduceAdd → i4,reduceSub → i5,reduceMul → i6,reduceToNat → i7
set_option maxRecDepth 8000
open Go Go.Proofs Go.Shelf
attribute [local congr] W_congr WPsq_congr WPp_congr optK_congr addrK_congr intK_congr boolK_congr sliceK_congr tupleK_congr funcK_congr Fn_congr rawK_congr takeK_congr stepK_congr convK_congr aggK_congr

def fQ_0 : Fld:=.mk 3 0 (-1) (-1) (-1) 0 0 []
def fQ_1 : Fld:=.mk 4 0 (-1) (-1) (-1) (-1) 0 []
def fQ_2 : Fld:=.mk 4 0 (-1) (-1) (-1) 0 0 []
def fQ_3 : Fld:=.mk 0 0 (-1) (-1) (-1) 0 0 []
def fQ_4 : Fld:=.mk 0 0 (-1) (-1) (-1) 0 0 []
def fQ_5 : Fld:=.mk 11 0 (-1) (-1) 0 0 7 []
def fQ_6 : Fld:=.mk 11 0 (-1) (-1) 1 0 7 []
def fs_Q : List Fld:=[fQ_0,fQ_1,fQ_2,fQ_3,fQ_4,fQ_5,fQ_6]

set_option maxHeartbeats 4000000 in
theorem cQ_fn (w:World):Fn Tryd.prog 6 #[] w fun r w'=>(∃ vs,r = .agg #[vs,.int .i64 0]∧FldsV (fun b=>w.heap.size≤b) w' vs fs_Q)∧Ext w w':=by
 refine fn_of_W Tryd.func6 rfl Tryd.results6 Tryd.ntmps6 rfl ?_
 repeat ((first|refine qA rfl ?_|apply qB|refine qC rfl ?_|apply qD|apply qE|apply qF|apply qG|apply qH);try simp (maxSteps:=1000000)(disch:=(first|omega|(simp only [qI,qJ,qK]<;>omega)|exact qL _)) only [go_sem,↓reduceIte,n0,reduceCtorEq,n1,n2,n3,n4,n5,i0,i1,i2,i3,i4,i5,i6,i7,fill_fld,fillN_nil,fillN_int,fillN_slice])
 have hz0:(w.alloc (.cells #[.slice none 0 0,.int .i64 0] 31)).heap.size=w.heap.size+1:=World.size_alloc _ _
 repeat ((first|refine qA rfl ?_|apply qB|refine qC rfl ?_|apply qD|apply qE|apply qF|apply qG|apply qH);try simp (maxSteps:=1000000)(disch:=(first|omega|(simp only [qI,qJ,qK]<;>omega)|exact qL _)) only [go_sem,↓reduceIte,n0,reduceCtorEq,n1,n2,n3,n4,n5,i0,i1,i2,i3,i4,i5,i6,i7,fill_fld,fillN_nil,fillN_int,fillN_slice])
 exact ⟨⟨_,rfl,FldsV.litO (fs:=fs_Q) (css:=[[.int .i64 3,.int .i64 0,.int .i64 (-1),.int .i64 (-1),.int .i64 (-1),.int .i64 0,.int .i64 0,.slice none 0 0],[.int .i64 4,.int .i64 0,.int .i64 (-1),.int .i64 (-1),.int .i64 (-1),.int .i64 (-1),.int .i64 0,.slice none 0 0],[.int .i64 4,.int .i64 0,.int .i64 (-1),.int .i64 (-1),.int .i64 (-1),.int .i64 0,.int .i64 0,.slice none 0 0],[.int .i64 0,.int .i64 0,.int .i64 (-1),.int .i64 (-1),.int .i64 (-1),.int .i64 0,.int .i64 0,.slice none 0 0],[.int .i64 0,.int .i64 0,.int .i64 (-1),.int .i64 (-1),.int .i64 (-1),.int .i64 0,.int .i64 0,.slice none 0 0],[.int .i64 11,.int .i64 0,.int .i64 (-1),.int .i64 (-1),.int .i64 0,.int .i64 0,.int .i64 7,.slice none 0 0],[.int .i64 11,.int .i64 0,.int .i64 (-1),.int .i64 (-1),.int .i64 1,.int .i64 0,.int .i64 7,.slice none 0 0]]) (T:=50) (fr:=(0,0)) (by first|omega|(simp only [World.size_alloc];omega)) (by first|(simp (maxSteps:=1000000)(disch:=(first|omega|(simp only [qI,qJ,qK]<;>omega)|exact qL _)) only [go_sem,↓reduceIte,n0,reduceCtorEq,n1,n2,n3,n4,n5,i0,i1,i2,i3,i4,i5,i6,i7];rfl)|rfl) (by simp) (All2.cons (FldC.intro (kind:=3) (FldsV.none _ _)) (All2.cons (FldC.intro (kind:=4) (FldsV.none _ _)) (All2.cons (FldC.intro (kind:=4) (FldsV.none _ _)) (All2.cons (FldC.intro (kind:=0) (FldsV.none _ _)) (All2.cons (FldC.intro (kind:=0) (FldsV.none _ _)) (All2.cons (FldC.intro (kind:=11) (FldsV.none _ _)) (All2.cons (FldC.intro (kind:=11) (FldsV.none _ _)) All2.nil)))))))⟩,(Upd.wr (Upd.alloc (Upd.alloc (Upd.refl _ _) _) _) _ _ (.inl (Nat.le_refl _)))⟩

theorem DefaultQ_fn (w:World) {vb:Nat} {c0 c1 c2 c3 c4 c5 c6 c7 c8:Value} (hb:blk w vb=some (#[c0,c1,c2,c3,c4,c5,c6,c7,c8],69,(0,0))) :
  Fn Tryd.prog 17 #[.pointer (some ⟨vb,0,none⟩)] w fun _ w'=>blk w' vb=some (#[c0,c1,.int .i64 (-1),c3,c4,c5,c6,c7,c8],69,(0,0))∧Upd (fun b=>b=vb) w w':=by
 have hvl:=blk_lt hb
 refine fn_of_W Tryd.func17 rfl Tryd.results17 Tryd.ntmps17 rfl ?_
 repeat ((first|refine qA rfl ?_|apply qB|refine qC rfl ?_|apply qD|apply qE|apply qF|apply qG|apply qH);try simp (maxSteps:=1000000)(disch:=(first|omega|(simp only [qI,qJ,qK]<;>omega)|exact qL _)) only [go_sem,↓reduceIte,n0,reduceCtorEq,n1,n2,n3,n4,n5,i0,i1,i2,i3,i4,i5,i6,i7,hb])
 first|(refine (Upd.wr (Upd.refl _ _) _ _ ?_)<;>exact .inr rfl)|(refine ⟨by simp (maxSteps:=1000000)(disch:=(first|omega|(simp only [qI,qJ,qK]<;>omega)|exact qL _)) only [go_sem,↓reduceIte,n0,reduceCtorEq,n1,n2,n3,n4,n5,i0,i1,i2,i3,i4,i5,i6,i7,hb],?_⟩;refine (Upd.wr (Upd.refl _ _) _ _ ?_)<;>exact .inr rfl)

theorem NewPtrQ_fn (w:World):Fn Tryd.prog 13 #[] w fun r w'=>r = .pointer (some ⟨w.heap.size,0,none⟩)∧blk w' w.heap.size=some (#[.int .i16 0,.int .i32 0,.int .i64 (-1),.int .i64 0,.bool false,.bool false,.slice none 0 0,.slice none 0 0,.map none],69,(0,0))∧Ext w w':=by
 refine fn_of_W Tryd.func13 rfl Tryd.results13 Tryd.ntmps13 rfl ?_
 repeat ((first|refine qA rfl ?_|apply qB|refine qC rfl ?_|apply qD|apply qE|apply qF|apply qG|apply qH);try simp (maxSteps:=1000000)(disch:=(first|omega|(simp only [qI,qJ,qK]<;>omega)|exact qL _)) only [go_sem,↓reduceIte,n0,reduceCtorEq,n1,n2,n3,n4,n5,i0,i1,i2,i3,i4,i5,i6,i7])
 refine (DefaultQ_fn _ (blk_alloc_new rfl)).mono ?_
 rintro _ w1 ⟨hb1,hU1⟩
 have hz:=World.size_alloc w (.cells #[.int .i16 0,.int .i32 0,.int .i64 0,.int .i64 0,.bool false,.bool false,.slice none 0 0,.slice none 0 0,.map none] 69)
 repeat ((first|refine qA rfl ?_|apply qB|refine qC rfl ?_|apply qD|apply qE|apply qF|apply qG|apply qH);try simp (maxSteps:=1000000)(disch:=(first|omega|(simp only [qI,qJ,qK]<;>omega)|exact qL _)) only [go_sem,↓reduceIte,n0,reduceCtorEq,n1,n2,n3,n4,n5,i0,i1,i2,i3,i4,i5,i6,i7])
 exact ⟨hb1,(Upd.alloc (Upd.refl _ _) _:Ext w _).more hU1 fun b hb h=>by omega⟩

theorem SetVersionQ_fn (w:World) {vb:Nat} {c0 c1 c2 c3 c4 c5 c6 c7 c8:Value} (n:Int) (hb:blk w vb=some (#[c0,c1,c2,c3,c4,c5,c6,c7,c8],69,(0,0))) :
  Fn Tryd.prog 15 #[.pointer (some ⟨vb,0,none⟩),.int .i16 n] w fun _ w'=>blk w' vb=some (#[.int .i16 n,c1,c2,c3,c4,c5,c6,c7,c8],69,(0,0))∧Upd (fun b=>b=vb) w w':=by
 have hvl:=blk_lt hb
 refine fn_of_W Tryd.func15 rfl Tryd.results15 Tryd.ntmps15 rfl ?_
 repeat ((first|refine qA rfl ?_|apply qB|refine qC rfl ?_|apply qD|apply qE|apply qF|apply qG|apply qH);try simp (maxSteps:=1000000)(disch:=(first|omega|(simp only [qI,qJ,qK]<;>omega)|exact qL _)) only [go_sem,↓reduceIte,n0,reduceCtorEq,n1,n2,n3,n4,n5,i0,i1,i2,i3,i4,i5,i6,i7,hb])
 first|exact Upd.wr (Upd.refl _ _) _ _ (.inr rfl)|exact ⟨by simp (maxSteps:=1000000)(disch:=(first|omega|(simp only [qI,qJ,qK]<;>omega)|exact qL _)) only [go_sem,↓reduceIte,n0,reduceCtorEq,n1,n2,n3,n4,n5,i0,i1,i2,i3,i4,i5,i6,i7,hb],Upd.wr (Upd.refl _ _) _ _ (.inr rfl)⟩

theorem MaxQ_fn (w:World):Fn Tryd.prog 5 #[] w fun r w'=>r = .int .i64 2∧Ext w w':=by
 refine fn_of_W Tryd.func5 rfl Tryd.results5 Tryd.ntmps5 rfl ?_
 repeat ((first|refine qA rfl ?_|apply qB|refine qC rfl ?_|apply qD|apply qE|apply qF|apply qG|apply qH);try simp (maxSteps:=1000000)(disch:=(first|omega|(simp only [qI,qJ,qK]<;>omega)|exact qL _)) only [go_sem,↓reduceIte,n0,reduceCtorEq,n1,n2,n3,n4,n5,i0,i1,i2,i3,i4,i5,i6,i7])
 refine (NewPtrQ_fn w).mono ?_
 rintro _ w1 ⟨rfl,hb1,hE1⟩
 repeat ((first|refine qA rfl ?_|apply qB|refine qC rfl ?_|apply qD|apply qE|apply qF|apply qG|apply qH);try simp (maxSteps:=1000000)(disch:=(first|omega|(simp only [qI,qJ,qK]<;>omega)|exact qL _)) only [go_sem,↓reduceIte,n0,reduceCtorEq,n1,n2,n3,n4,n5,i0,i1,i2,i3,i4,i5,i6,i7])
 have hm:Fn Tryd.prog 14 #[.pointer (some ⟨w.heap.size,0,none⟩)] w1 fun r w'=>r = .int .i16 2∧w'=w1:=by
  refine fn_of_W Tryd.func14 rfl Tryd.results14 Tryd.ntmps14 rfl ?_
  repeat ((first|refine qA rfl ?_|apply qB|refine qC rfl ?_|apply qD|apply qE|apply qF|apply qG|apply qH);try simp (maxSteps:=1000000)(disch:=(first|omega|(simp only [qI,qJ,qK]<;>omega)|exact qL _)) only [go_sem,↓reduceIte,n0,reduceCtorEq,n1,n2,n3,n4,n5,i0,i1,i2,i3,i4,i5,i6,i7])
 refine hm.mono ?_
 rintro _ w2 ⟨rfl,rfl⟩
 have ew:IntKind.i64.wrap (2:Int)=2:=i64_wrap (by decide)
 repeat ((first|refine qA rfl ?_|apply qB|refine qC rfl ?_|apply qD|apply qE|apply qF|apply qG|apply qH);try simp (maxSteps:=1000000)(disch:=(first|omega|(simp only [qI,qJ,qK]<;>omega)|exact qL _)) only [go_sem,↓reduceIte,n0,reduceCtorEq,n1,n2,n3,n4,n5,i0,i1,i2,i3,i4,i5,i6,i7,ew])
 exact hE1
end Ms

namespace Ms
open Nat renaming reduceEqDiff → n0,reduceAdd → n1,reduceMul → n2,reduceSub → n3,reduceLT → n4,reduceLeDiff → n5
open Int renaming reduceEq → i0,reduceLT → i1,reduceLE → i2,reduceNeg → i3,reduceAdd → i4,reduceSub → i5,reduceMul → i6,reduceToNat → i7
set_option maxRecDepth 8000
open Go Go.Proofs Go.Shelf
attribute [local congr] W_congr WPsq_congr WPp_congr optK_congr addrK_congr intK_congr boolK_congr sliceK_congr tupleK_congr funcK_congr Fn_congr rawK_congr takeK_congr stepK_congr convK_congr aggK_congr

def frQ_6 : Fld:=.mk 11 0 (-1) 0 1 0 7 []
def fsr_Q : List Fld:=[fQ_0,fQ_1,fQ_2,fQ_3,fQ_4,fQ_5,frQ_6]

theorem utQ_64 : Tryd.prog.underlying 64=some (.slice 72):=by kernel_rfl
theorem utQ_21 : Tryd.prog.underlying 21=some (.int .i32):=by kernel_rfl
theorem inQ_72 : (Tryd.prog.info? 72).map (fun i=>(i.size,i.bytes,i.zero.map (·.cells)))=some (16,16,some #[.int .u8 0,.int .u8 0,.int .u8 0,.int .u8 0,.int .u8 0,.int .u8 0,.int .u8 0,.int .u8 0,.int .u8 0,.int .u8 0,.int .u8 0,.int .u8 0,.int .u8 0,.int .u8 0,.int .u8 0,.int .u8 0]):=by kernel_rfl
end Ms

