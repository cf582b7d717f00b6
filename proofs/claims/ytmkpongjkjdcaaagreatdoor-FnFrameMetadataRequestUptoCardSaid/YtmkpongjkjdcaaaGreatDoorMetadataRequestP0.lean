/- A part of the proof: see the last text. -/
import Derived.Test.YtmkpongjkjdcaaaGreatDoorC07
import Derived.Test.YtmkpongjkjdcaaaGreatDoorC09
import Derived.Test.YtmkpongjkjdcaaaGreatDoorC11
set_option linter.unusedSimpArgs false
set_option linter.unusedVariables false
namespace Ms
open Nat renaming reduceEqDiff → n0,reduceAdd → n1,reduceMul → n2,reduceSub → n3,reduceLT → n4,reduceLeDiff → n5
open Int renaming reduceEq → i0,reduceLT → i1,reduceLE → i2,reduceNeg → i3,reduceAdd → i4,reduceSub → i5,reduceMul → i6,reduceToNat → i7
set_option maxRecDepth 4000
open Go Go.Proofs
theorem ca_10 : callable Tryz.prog 10=true:=nr (by kernel_rfl)
theorem ca_100 : callable Tryz.prog 100=true:=nr (by kernel_rfl)
theorem ca_102 : callable Tryz.prog 102=true:=nr (by kernel_rfl)
theorem ca_103 : callable Tryz.prog 103=true:=nr (by kernel_rfl)
theorem ca_104 : callable Tryz.prog 104=true:=nr (by kernel_rfl)
theorem ca_12 : callable Tryz.prog 12=true:=nr (by kernel_rfl)
theorem ca_13 : callable Tryz.prog 13=true:=nr (by kernel_rfl)
theorem ca_15 : callable Tryz.prog 15=true:=nr (by kernel_rfl)
theorem ca_16 : callable Tryz.prog 16=true:=nr (by kernel_rfl)
theorem ca_17 : callable Tryz.prog 17=true:=nr (by kernel_rfl)
theorem ca_19 : callable Tryz.prog 19=true:=nr (by kernel_rfl)
theorem ca_20 : callable Tryz.prog 20=true:=nr (by kernel_rfl)
theorem ca_21 : callable Tryz.prog 21=true:=nr (by kernel_rfl)
theorem ca_24 : callable Tryz.prog 24=true:=nr (by kernel_rfl)
theorem ca_33 : callable Tryz.prog 33=true:=nr (by kernel_rfl)
theorem ca_4 : callable Tryz.prog 4=true:=nr (by kernel_rfl)
theorem ca_42 : callable Tryz.prog 42=true:=nr (by kernel_rfl)
theorem ca_43 : callable Tryz.prog 43=true:=nr (by kernel_rfl)
theorem ca_44 : callable Tryz.prog 44=true:=nr (by kernel_rfl)
theorem ca_45 : callable Tryz.prog 45=true:=nr (by kernel_rfl)
theorem ca_46 : callable Tryz.prog 46=true:=nr (by kernel_rfl)
theorem ca_47 : callable Tryz.prog 47=true:=nr (by kernel_rfl)
theorem ca_48 : callable Tryz.prog 48=true:=nr (by kernel_rfl)
theorem ca_49 : callable Tryz.prog 49=true:=nr (by kernel_rfl)
theorem ca_5 : callable Tryz.prog 5=true:=nr (by kernel_rfl)
theorem ca_50 : callable Tryz.prog 50=true:=nr (by kernel_rfl)
theorem ca_51 : callable Tryz.prog 51=true:=nr (by kernel_rfl)
theorem ca_52 : callable Tryz.prog 52=true:=nr (by kernel_rfl)
theorem ca_53 : callable Tryz.prog 53=true:=nr (by kernel_rfl)
theorem ca_54 : callable Tryz.prog 54=true:=nr (by kernel_rfl)
theorem ca_55 : callable Tryz.prog 55=true:=nr (by kernel_rfl)
theorem ca_56 : callable Tryz.prog 56=true:=nr (by kernel_rfl)
theorem ca_57 : callable Tryz.prog 57=true:=nr (by kernel_rfl)
theorem ca_6 : callable Tryz.prog 6=true:=nr (by kernel_rfl)
theorem ca_7 : callable Tryz.prog 7=true:=nr (by kernel_rfl)
theorem ca_8 : callable Tryz.prog 8=true:=nr (by kernel_rfl)
theorem ca_9 : callable Tryz.prog 9=true:=nr (by kernel_rfl)
theorem ca_94 : callable Tryz.prog 94=true:=nr (by kernel_rfl)
theorem ca_95 : callable Tryz.prog 95=true:=nr (by kernel_rfl)
theorem ca_96 : callable Tryz.prog 96=true:=nr (by kernel_rfl)
theorem ca_97 : callable Tryz.prog 97=true:=nr (by kernel_rfl)
theorem ca_98 : callable Tryz.prog 98=true:=nr (by kernel_rfl)
theorem es_63 : elemSize Tryz.prog 63=some 18:=nr (by kernel_rfl)
theorem fo_101_0 : fieldOff Tryz.prog 101 0=some 0:=nr (by kernel_rfl)
theorem fo_101_1 : fieldOff Tryz.prog 101 1=some 16:=nr (by kernel_rfl)
theorem fo_101_2 : fieldOff Tryz.prog 101 2=some 17:=nr (by kernel_rfl)
theorem fo_68_0 : fieldOff Tryz.prog 68 0=some 0:=nr (by kernel_rfl)
theorem fo_68_1 : fieldOff Tryz.prog 68 1=some 1:=nr (by kernel_rfl)
theorem fo_68_2 : fieldOff Tryz.prog 68 2=some 2:=nr (by kernel_rfl)
theorem fo_68_3 : fieldOff Tryz.prog 68 3=some 3:=nr (by kernel_rfl)
theorem fo_68_4 : fieldOff Tryz.prog 68 4=some 4:=nr (by kernel_rfl)
theorem fo_68_5 : fieldOff Tryz.prog 68 5=some 5:=nr (by kernel_rfl)
theorem if_55 : isIfaceT Tryz.prog 55=true:=nr (by kernel_rfl)
theorem kn_46 : knownT Tryz.prog 46=true:=nr (by kernel_rfl)
theorem kn_9 : knownT Tryz.prog 9=true:=nr (by kernel_rfl)
theorem ld_23 (w:World) (b o:Nat):loadOf Tryz.prog 23 w ⟨b,o,none⟩=(blk w b).bind fun x=>cellsAt x.1 o 2:=loadOf_agg (by kernel_rfl) w b o
theorem ld_34 (w:World) (b o:Nat):loadOf Tryz.prog 34 w ⟨b,o,none⟩=(blk w b).bind fun x=>cellsAt x.1 o 2:=loadOf_agg (by kernel_rfl) w b o
theorem ld_45 (w:World) (b o:Nat):loadOf Tryz.prog 45 w ⟨b,o,none⟩=(blk w b).bind fun x=>x.1[o]?:=loadOf_one (by kernel_rfl) w b o
theorem ld_63 (w:World) (b o:Nat):loadOf Tryz.prog 63 w ⟨b,o,none⟩=(blk w b).bind fun x=>x.1[o]?:=loadOf_one (by kernel_rfl) w b o
theorem nif_46 : isIfaceT Tryz.prog 46=false:=nr (by kernel_rfl)
theorem pl_34 : placesOf Tryz.prog 34=some [(0,1),(1,1)]:=nr (by kernel_rfl)
theorem pl_51 : placesOf Tryz.prog 51=some [(0,1),(1,1),(2,1),(3,1),(4,1),(5,1),(6,1),(7,1)]:=nr (by kernel_rfl)
theorem pl_93 : placesOf Tryz.prog 93=some [(0,1),(1,1)]:=nr (by kernel_rfl)
theorem se_32 : slElem Tryz.prog 32=some (51,8):=nr (by kernel_rfl)
theorem se_63 : slElem Tryz.prog 63=some (101,18):=nr (by kernel_rfl)
theorem sl_63 : isSliceT Tryz.prog 63=true:=nr (by kernel_rfl)
theorem sz_34 (w:World) (b o:Nat) (v:Value):storeOf Tryz.prog 34 w ⟨b,o,none⟩ v=(blk w b).bind fun x=>stO w b o v x 2:=storeOf_n (by kernel_rfl) w b o v
theorem sz_45 (w:World) (b o:Nat) (v:Value):storeOf Tryz.prog 45 w ⟨b,o,none⟩ v=(blk w b).bind fun x=>stO w b o v x 1:=storeOf_n (by kernel_rfl) w b o v
theorem sz_63 (w:World) (b o:Nat) (v:Value):storeOf Tryz.prog 63 w ⟨b,o,none⟩ v=(blk w b).bind fun x=>stO w b o v x 1:=storeOf_n (by kernel_rfl) w b o v
theorem sz_93 (w:World) (b o:Nat) (v:Value):storeOf Tryz.prog 93 w ⟨b,o,none⟩ v=(blk w b).bind fun x=>stO w b o v x 2:=storeOf_n (by kernel_rfl) w b o v
theorem z_34 : zeroOf Tryz.prog 34=some #[.slice none 0 0,.int .i64 0]:=nr (by kernel_rfl)
theorem z_68 : zeroOf Tryz.prog 68=some #[.int .i16 0,.slice none 0 0,.bool false,.bool false,.bool false,.map none]:=nr (by kernel_rfl)
theorem z_93 : zeroOf Tryz.prog 93=some #[.slice none 0 0,.bool false]:=nr (by kernel_rfl)
attribute [go_sem] ca_10 ca_100 ca_102 ca_103 ca_104 ca_12 ca_13 ca_15 ca_16 ca_17 ca_19 ca_20 ca_21 ca_24 ca_33 ca_4 ca_42 ca_43 ca_44 ca_45 ca_46 ca_47 ca_48 ca_49 ca_5 ca_50 ca_51 ca_52 ca_53 ca_54 ca_55 ca_56 ca_57 ca_6 ca_7 ca_8 ca_9 ca_94 ca_95 ca_96 ca_97 ca_98 es_63 fo_101_0 fo_101_1 fo_101_2 fo_68_0 fo_68_1 fo_68_2 fo_68_3 fo_68_4 fo_68_5 if_55 kn_46 kn_9 ld_23 ld_34 ld_45 ld_63 nif_46 pl_34 pl_51 pl_93 se_32 se_63 sl_63 sz_34 sz_45 sz_63 sz_93 z_34 z_68 z_93
end Ms

namespace Ms
open Go
abbrev qZ5 : Array Value:=#[.int .i64 0,.slice none 0 0,.bool false,.slice none 0 0,.slice none 0 0]
end Ms

namespace Ms
attribute [go_sem] exitRQ_ret exitRQ_exit Int.toNat_natCast Nat.mul_one
end Ms

namespace Ms
open Go.World renaming size_alloc → qI
open Ms renaming size_wr → qJ,size_drew → qK,not_noB → qL
open W renaming seqR → qA,seq → qB,regR → qC,condK → qD,block → qE,skip → qF,ret → qG,exit → qH
open Nat renaming reduceEqDiff → n0,reduceAdd → n1,reduceMul → n2,reduceSub → n3,reduceLT → n4,reduceLeDiff → n5
open Int renaming reduceEq → i0,reduceLT → i1,reduceLE → i2,reduceNeg → i3,reduceAdd → i4,reduceSub → i5,reduceMul → i6,reduceToNat → i7
set_option maxRecDepth 8000
open Go Go.Proofs Go.Shelf
attribute [local congr] W_congr WPsq_congr WPp_congr optK_congr addrK_congr intK_congr boolK_congr sliceK_congr tupleK_congr funcK_congr Fn_congr rawK_congr takeK_congr stepK_congr convK_congr aggK_congr

def fX0_0 : Fld:=.mk 7 10 (-1) (-1) (-1) 0 0 []
def fX0_1 : Fld:=.mk 8 0 (-1) 10 (-1) 0 0 []
def fs_X0 : List Fld:=[fX0_0,fX0_1]
def fQ_0 : Fld:=.mk 11 0 (-1) 1 (-1) 0 10 fs_X0
def fQ_1 : Fld:=.mk 0 4 (-1) (-1) (-1) 0 0 []
def fQ_2 : Fld:=.mk 0 8 10 (-1) (-1) 0 0 []
def fQ_3 : Fld:=.mk 0 8 (-1) (-1) (-1) 0 0 []
def fs_Q : List Fld:=[fQ_0,fQ_1,fQ_2,fQ_3]

set_option maxHeartbeats 4000000 in
theorem cX0_fn (w:World):Fn Tryz.prog 17 #[] w fun r w'=>FldsV (fun b=>w.heap.size≤b) w' r fs_X0∧Ext w w':=by
 refine fn_of_W Tryz.func17 rfl Tryz.results17 Tryz.ntmps17 rfl ?_
 repeat ((first|refine qA rfl ?_|apply qB|refine qC rfl ?_|apply qD|apply qE|apply qF|apply qG|apply qH);try simp (maxSteps:=1000000)(disch:=(first|omega|(simp only [qI,qJ,qK]<;>omega)|exact qL _)) only [go_sem,↓reduceIte,n0,reduceCtorEq,n1,n2,n3,n4,n5,i0,i1,i2,i3,i4,i5,i6,i7,fill_fld,fillN_nil,fillN_int,fillN_slice])
 repeat ((first|refine qA rfl ?_|apply qB|refine qC rfl ?_|apply qD|apply qE|apply qF|apply qG|apply qH);try simp (maxSteps:=1000000)(disch:=(first|omega|(simp only [qI,qJ,qK]<;>omega)|exact qL _)) only [go_sem,↓reduceIte,n0,reduceCtorEq,n1,n2,n3,n4,n5,i0,i1,i2,i3,i4,i5,i6,i7,fill_fld,fillN_nil,fillN_int,fillN_slice])
 exact ⟨FldsV.litO (fs:=fs_X0) (css:=[[.int .i64 7,.int .i64 10,.int .i64 (-1),.int .i64 (-1),.int .i64 (-1),.int .i64 0,.int .i64 0,.slice none 0 0],[.int .i64 8,.int .i64 0,.int .i64 (-1),.int .i64 10,.int .i64 (-1),.int .i64 0,.int .i64 0,.slice none 0 0]]) (T:=51) (fr:=(0,0)) (by first|omega|(simp only [World.size_alloc];omega)) (by first|(simp (maxSteps:=1000000)(disch:=(first|omega|(simp only [qI,qJ,qK]<;>omega)|exact qL _)) only [go_sem,↓reduceIte,n0,reduceCtorEq,n1,n2,n3,n4,n5,i0,i1,i2,i3,i4,i5,i6,i7];rfl)|rfl) (by simp) (All2.cons (FldC.intro (kind:=7) (FldsV.none _ _)) (All2.cons (FldC.intro (kind:=8) (FldsV.none _ _)) All2.nil)),(Upd.alloc (Upd.refl _ w) _)⟩

set_option maxHeartbeats 4000000 in
theorem cQ_fn (w:World):Fn Tryz.prog 7 #[] w fun r w'=>(∃ vs,r = .agg #[vs,.int .i64 9]∧FldsV (fun b=>w.heap.size≤b) w' vs fs_Q)∧Ext w w':=by
 refine fn_of_W Tryz.func7 rfl Tryz.results7 Tryz.ntmps7 rfl ?_
 repeat ((first|refine qA rfl ?_|apply qB|refine qC rfl ?_|apply qD|apply qE|apply qF|apply qG|apply qH);try simp (maxSteps:=1000000)(disch:=(first|omega|(simp only [qI,qJ,qK]<;>omega)|exact qL _)) only [go_sem,↓reduceIte,n0,reduceCtorEq,n1,n2,n3,n4,n5,i0,i1,i2,i3,i4,i5,i6,i7,fill_fld,fillN_nil,fillN_int,fillN_slice])
 have hz0:(w.alloc (.cells #[.slice none 0 0,.int .i64 0] 34)).heap.size=w.heap.size+1:=World.size_alloc _ _
 refine (cX0_fn _).mono ?_
 rintro r1 w1 ⟨hF1,hE1⟩
 obtain ⟨b1,k1,rfl,_⟩:=SlR.shape hF1
 have hz1:=hE1.size
 have hD1:Ext w w1:=Upd.trans (Upd.alloc (Upd.refl _ _) _) hE1
 have hb1:blk w1 w.heap.size=some (#[.slice none 0 0,.int .i64 0],34,(0,0)):=hE1.blk_some (blk_alloc_new rfl) id
 simp (maxSteps:=1000000)(disch:=(first|omega|(simp only [qI,qJ,qK]<;>omega)|exact qL _)) only [go_sem,↓reduceIte,n0,reduceCtorEq,n1,n2,n3,n4,n5,i0,i1,i2,i3,i4,i5,i6,i7,fill_fld,fillN_nil,fillN_int,fillN_slice,hb1]
 have hvl:=blk_lt hb1
 repeat ((first|refine qA rfl ?_|apply qB|refine qC rfl ?_|apply qD|apply qE|apply qF|apply qG|apply qH);try simp (maxSteps:=1000000)(disch:=(first|omega|(simp only [qI,qJ,qK]<;>omega)|exact qL _)) only [go_sem,↓reduceIte,n0,reduceCtorEq,n1,n2,n3,n4,n5,i0,i1,i2,i3,i4,i5,i6,i7,fill_fld,fillN_nil,fillN_int,fillN_slice,hb1])
 exact ⟨⟨_,rfl,FldsV.litO (fs:=fs_Q) (css:=[[.int .i64 11,.int .i64 0,.int .i64 (-1),.int .i64 1,.int .i64 (-1),.int .i64 0,.int .i64 10,.slice b1 fs_X0.length k1],[.int .i64 0,.int .i64 4,.int .i64 (-1),.int .i64 (-1),.int .i64 (-1),.int .i64 0,.int .i64 0,.slice none 0 0],[.int .i64 0,.int .i64 8,.int .i64 10,.int .i64 (-1),.int .i64 (-1),.int .i64 0,.int .i64 0,.slice none 0 0],[.int .i64 0,.int .i64 8,.int .i64 (-1),.int .i64 (-1),.int .i64 (-1),.int .i64 0,.int .i64 0,.slice none 0 0]]) (T:=51) (fr:=(0,0)) (by first|omega|(simp only [World.size_alloc];omega)) (by first|(simp (maxSteps:=1000000)(disch:=(first|omega|(simp only [qI,qJ,qK]<;>omega)|exact qL _)) only [go_sem,↓reduceIte,n0,reduceCtorEq,n1,n2,n3,n4,n5,i0,i1,i2,i3,i4,i5,i6,i7];rfl)|rfl) (by simp) (All2.cons (FldC.intro (kind:=11) (hF1.stay (B:=w.heap.size) (Upd.wr (Upd.alloc (Upd.refl _ _) _) _ _ (.inr rfl)) (by omega) (fun b hb=>by omega))) (All2.cons (FldC.intro (kind:=0) (FldsV.none _ _)) (All2.cons (FldC.intro (kind:=0) (FldsV.none _ _)) (All2.cons (FldC.intro (kind:=0) (FldsV.none _ _)) All2.nil))))⟩,(Upd.wr (Upd.alloc hD1 _) _ _ (.inl (Nat.le_refl _)))⟩

theorem DefaultQ_fn (w:World) {vb:Nat} {c0 c1 c2 c3 c4 c5:Value} (hb:blk w vb=some (#[c0,c1,c2,c3,c4,c5],68,(0,0))) :
  Fn Tryz.prog 24 #[.pointer (some ⟨vb,0,none⟩)] w fun _ w'=>blk w' vb=some (#[c0,c1,c2,c3,c4,c5],68,(0,0))∧Upd (fun b=>b=vb) w w':=by
 have hvl:=blk_lt hb
 refine fn_of_W Tryz.func24 rfl Tryz.results24 Tryz.ntmps24 rfl ?_
 repeat ((first|refine qA rfl ?_|apply qB|refine qC rfl ?_|apply qD|apply qE|apply qF|apply qG|apply qH);try simp (maxSteps:=1000000)(disch:=(first|omega|(simp only [qI,qJ,qK]<;>omega)|exact qL _)) only [go_sem,↓reduceIte,n0,reduceCtorEq,n1,n2,n3,n4,n5,i0,i1,i2,i3,i4,i5,i6,i7,hb])
 first|exact Upd.refl _ _|exact ⟨hb,Upd.refl _ _⟩

theorem NewPtrQ_fn (w:World):Fn Tryz.prog 15 #[] w fun r w'=>r = .pointer (some ⟨w.heap.size,0,none⟩)∧blk w' w.heap.size=some (#[.int .i16 0,.slice none 0 0,.bool false,.bool false,.bool false,.map none],68,(0,0))∧Ext w w':=by
 refine fn_of_W Tryz.func15 rfl Tryz.results15 Tryz.ntmps15 rfl ?_
 repeat ((first|refine qA rfl ?_|apply qB|refine qC rfl ?_|apply qD|apply qE|apply qF|apply qG|apply qH);try simp (maxSteps:=1000000)(disch:=(first|omega|(simp only [qI,qJ,qK]<;>omega)|exact qL _)) only [go_sem,↓reduceIte,n0,reduceCtorEq,n1,n2,n3,n4,n5,i0,i1,i2,i3,i4,i5,i6,i7])
 refine (DefaultQ_fn _ (blk_alloc_new rfl)).mono ?_
 rintro _ w1 ⟨hb1,hU1⟩
 have hz:=World.size_alloc w (.cells #[.int .i16 0,.slice none 0 0,.bool false,.bool false,.bool false,.map none] 68)
 repeat ((first|refine qA rfl ?_|apply qB|refine qC rfl ?_|apply qD|apply qE|apply qF|apply qG|apply qH);try simp (maxSteps:=1000000)(disch:=(first|omega|(simp only [qI,qJ,qK]<;>omega)|exact qL _)) only [go_sem,↓reduceIte,n0,reduceCtorEq,n1,n2,n3,n4,n5,i0,i1,i2,i3,i4,i5,i6,i7])
 exact ⟨hb1,(Upd.alloc (Upd.refl _ _) _:Ext w _).more hU1 fun b hb h=>by omega⟩

theorem SetVersionQ_fn (w:World) {vb:Nat} {c0 c1 c2 c3 c4 c5:Value} (n:Int) (hb:blk w vb=some (#[c0,c1,c2,c3,c4,c5],68,(0,0))) :
  Fn Tryz.prog 19 #[.pointer (some ⟨vb,0,none⟩),.int .i16 n] w fun _ w'=>blk w' vb=some (#[.int .i16 n,c1,c2,c3,c4,c5],68,(0,0))∧Upd (fun b=>b=vb) w w':=by
 have hvl:=blk_lt hb
 refine fn_of_W Tryz.func19 rfl Tryz.results19 Tryz.ntmps19 rfl ?_
 repeat ((first|refine qA rfl ?_|apply qB|refine qC rfl ?_|apply qD|apply qE|apply qF|apply qG|apply qH);try simp (maxSteps:=1000000)(disch:=(first|omega|(simp only [qI,qJ,qK]<;>omega)|exact qL _)) only [go_sem,↓reduceIte,n0,reduceCtorEq,n1,n2,n3,n4,n5,i0,i1,i2,i3,i4,i5,i6,i7,hb])
 first|exact Upd.wr (Upd.refl _ _) _ _ (.inr rfl)|exact ⟨by simp (maxSteps:=1000000)(disch:=(first|omega|(simp only [qI,qJ,qK]<;>omega)|exact qL _)) only [go_sem,↓reduceIte,n0,reduceCtorEq,n1,n2,n3,n4,n5,i0,i1,i2,i3,i4,i5,i6,i7,hb],Upd.wr (Upd.refl _ _) _ _ (.inr rfl)⟩

theorem MaxQ_fn (w:World):Fn Tryz.prog 6 #[] w fun r w'=>r = .int .i64 13∧Ext w w':=by
 refine fn_of_W Tryz.func6 rfl Tryz.results6 Tryz.ntmps6 rfl ?_
 repeat ((first|refine qA rfl ?_|apply qB|refine qC rfl ?_|apply qD|apply qE|apply qF|apply qG|apply qH);try simp (maxSteps:=1000000)(disch:=(first|omega|(simp only [qI,qJ,qK]<;>omega)|exact qL _)) only [go_sem,↓reduceIte,n0,reduceCtorEq,n1,n2,n3,n4,n5,i0,i1,i2,i3,i4,i5,i6,i7])
 refine (NewPtrQ_fn w).mono ?_
 rintro _ w1 ⟨rfl,hb1,hE1⟩
 repeat ((first|refine qA rfl ?_|apply qB|refine qC rfl ?_|apply qD|apply qE|apply qF|apply qG|apply qH);try simp (maxSteps:=1000000)(disch:=(first|omega|(simp only [qI,qJ,qK]<;>omega)|exact qL _)) only [go_sem,↓reduceIte,n0,reduceCtorEq,n1,n2,n3,n4,n5,i0,i1,i2,i3,i4,i5,i6,i7])
 have hm:Fn Tryz.prog 16 #[.pointer (some ⟨w.heap.size,0,none⟩)] w1 fun r w'=>r = .int .i16 13∧w'=w1:=by
  refine fn_of_W Tryz.func16 rfl Tryz.results16 Tryz.ntmps16 rfl ?_
  repeat ((first|refine qA rfl ?_|apply qB|refine qC rfl ?_|apply qD|apply qE|apply qF|apply qG|apply qH);try simp (maxSteps:=1000000)(disch:=(first|omega|(simp only [qI,qJ,qK]<;>omega)|exact qL _)) only [go_sem,↓reduceIte,n0,reduceCtorEq,n1,n2,n3,n4,n5,i0,i1,i2,i3,i4,i5,i6,i7])
 refine hm.mono ?_
 rintro _ w2 ⟨rfl,rfl⟩
 have ew:IntKind.i64.wrap (13:Int)=13:=i64_wrap (by decide)
 repeat ((first|refine qA rfl ?_|apply qB|refine qC rfl ?_|apply qD|apply qE|apply qF|apply qG|apply qH);try simp (maxSteps:=1000000)(disch:=(first|omega|(simp only [qI,qJ,qK]<;>omega)|exact qL _)) only [go_sem,↓reduceIte,n0,reduceCtorEq,n1,n2,n3,n4,n5,i0,i1,i2,i3,i4,i5,i6,i7,ew])
 exact hE1

theorem utQ_63 : Tryz.prog.underlying 63=some (.slice 101):=by kernel_rfl
theorem utQ_21 : Tryz.prog.underlying 21=some (.int .i32):=by kernel_rfl
theorem inQ_101 : (Tryz.prog.info? 101).map (fun i=>(i.size,i.bytes,i.zero.map (·.cells)))=some (18,32,some #[.int .u8 0,.int .u8 0,.int .u8 0,.int .u8 0,.int .u8 0,.int .u8 0,.int .u8 0,.int .u8 0,.int .u8 0,.int .u8 0,.int .u8 0,.int .u8 0,.int .u8 0,.int .u8 0,.int .u8 0,.int .u8 0,.pointer none,.map none]):=by kernel_rfl

theorem DefaultEX0_fn (w:World) {R k:Nat} {A B:List Value} {c0 c1 c2 c3 c4 c5 c6 c7 c8 c9 c10 c11 c12 c13 c14 c15 c16 c17:Value} {E:TypeId} (hb:blk w R=some ((A++([c0,c1,c2,c3,c4,c5,c6,c7,c8,c9,c10,c11,c12,c13,c14,c15,c16,c17]++B)).toArray,E,(0,0))) (hA:A.length=k) :
  Fn Tryz.prog 46 #[.pointer (some ⟨R,k,none⟩)] w fun _ w'=>blk w' R=some ((A++([c0,c1,c2,c3,c4,c5,c6,c7,c8,c9,c10,c11,c12,c13,c14,c15,c16,c17]++B)).toArray,E,(0,0))∧Upd (fun b=>b=R) w w':=by
 have hRl:=blk_lt hb
 obtain ⟨X,hX⟩:∃ X:Array Value,X=(A++(([c0,c1,c2,c3,c4,c5,c6,c7,c8,c9,c10,c11,c12,c13,c14,c15,c16,c17]:List Value)++B)).toArray:=⟨_,rfl⟩
 have hXs:k+18≤X.size:=by rw [hX];simp only [List.size_toArray,List.length_append,List.length_cons,List.length_nil,hA];omega
 have hb':blk w R=some (X,E,(0,0)):=by rw [hX];exact hb
 refine fn_of_W Tryz.func46 rfl Tryz.results46 Tryz.ntmps46 rfl ?_
 repeat ((first|refine qA rfl ?_|apply qB|refine qC rfl ?_|apply qD|apply qE|apply qF|apply qG|apply qH);try simp (maxSteps:=1000000)(disch:=(first|omega|(simp only [qI,qJ,qK]<;>omega)|exact qL _)) only [go_sem,↓reduceIte,n0,reduceCtorEq,n1,n2,n3,n4,n5,i0,i1,i2,i3,i4,i5,i6,i7,hb',Array.size_setIfInBounds])
 first|exact ⟨hb,Upd.refl _ _⟩|exact Upd.refl _ _|(rw [hX];exact ⟨rfl,Upd.refl _ _⟩)

set_option maxHeartbeats 4000000 in
theorem readQ_0 {d:Nat} {ok:Blocks} {ver:Int} {ev:Value} (hlo:0≤ver) (hhi:ver≤0) (w:World) {vb:Nat} (src:Value) (s:List UInt8) (hv:blk w vb=some (#[.int .i16 ver,.slice none 0 0,.bool false,.bool false,.bool false,.map none],68,(0,0))) (hsrc:BytesV ok w src s) (cP:∀ b,ok b→b < w.heap.size∧b≠vb) (hG:Glo ev w) (hgv:¬ 1=vb∧¬ 0=vb) :
  Fn Tryz.prog 33 #[.pointer (some ⟨vb,0,none⟩),src,.bool false] w (ReadQ 68 ok ver (d+2) fs_Q vb w (rdP (d+2) ver false fs_Q (some s)) ev):=by
 have hvl:=blk_lt hv
 have hgs:=hG.lt
 obtain ⟨sa,sc,rfl,_⟩:=hsrc.shape
 refine fn_of_W Tryz.func33 rfl Tryz.results33 Tryz.ntmps33 rfl ?_
 repeat ((first|refine qA rfl ?_|apply qB|refine qC rfl ?_|apply qD|apply qE|apply qF|apply qG|apply qH);try simp (disch:=(first|omega|(simp only [qI,qJ,qK]<;>omega)|exact qL _)) only [go_sem,↓reduceIte,n0,reduceCtorEq,n1,n2,n3,n4,n5,i0,i1,i2,i3,i4,i5,i6,i7,hv])
 refine (DefaultQ_fn w hv).mono ?_
 rintro _ w0 ⟨hv0,hu0⟩
 have hz0:=hu0.size
 have fW:BytesV ok w0 (.slice sa s.length sc) s:=hsrc.keep (hu0.keeps fun b _ hk e=>(cP b hk).2 e)
 obtain ⟨rb,hrb⟩:∃ r,r=w0.heap.size:=⟨_,rfl⟩
 have hE1:Ext w0 (wr (w0.alloc (.cells #[.slice none 0 0,.bool false] 93)) w0.heap.size 0 [.slice sa s.length sc,.bool false]):=(Upd.alloc (Upd.refl _ _) _).wr _ _ (.inl (Nat.le_refl _))
 have hz1:(wr (w0.alloc (.cells #[.slice none 0 0,.bool false] 93)) w0.heap.size 0 [.slice sa s.length sc,.bool false]).heap.size=w0.heap.size+1:=by rw [size_wr,World.size_alloc]
 have hR1:Rdr RT ok (wr (w0.alloc (.cells #[.slice none 0 0,.bool false] 93)) w0.heap.size 0 [.slice sa s.length sc,.bool false]) w0.heap.size (some s):=Rdr.good (v:=.slice sa s.length sc) (by simp (disch:=(first|omega|(simp only [qI,qJ,qK]<;>omega)|exact qL _)) only [go_sem,↓reduceIte,n0,reduceCtorEq,n1,n2,n3,n4,n5,i0,i1,i2,i3,i4,i5,i6,i7]) (fW.keep (hE1.keeps _))
 have hv_1:=hE1.blk_some hv0 id
 repeat ((first|refine qA rfl ?_|apply qB|refine qC rfl ?_|apply qD|apply qE|apply qF|apply qG|apply qH);try simp (disch:=(first|omega|(simp only [qI,qJ,qK]<;>omega)|exact qL _)) only [go_sem,↓reduceIte,n0,reduceCtorEq,n1,n2,n3,n4,n5,i0,i1,i2,i3,i4,i5,i6,i7,hv0])
 generalize (wr (w0.alloc (.cells #[.slice none 0 0,.bool false] 93)) w0.heap.size 0 [.slice sa s.length sc,.bool false])=w1 at *
 rw [← hrb] at hR1
 try rw [← hrb]
 have hok:∀ b,ok b→b < w.heap.size∧b≠vb:=cP
 have hrok:¬ ok rb:=fun h=>by have:=(hok rb h).1;omega
 have hbase:Upd (fun b=>b=vb) w w1:=hu0.trans (hE1.mono fun _ h=>h.elim)
 have hG1:Glo ev w1:=hG.updS hbase hgv.1 hgv.2
 have hgrb:¬ 1=rb:=by omega
 have aH:¬ (1=vb∨1=rb):=fun h=>h.elim hgv.1 fun h=>by omega
 have aI:¬ (0=vb∨0=rb):=fun h=>h.elim hgv.2 fun h=>by omega
 obtain ⟨s0,hs0⟩:∃ s':St,s'=some s:=⟨_,rfl⟩
 rw [← hs0] at hR1 ⊢
 have hU1:Upd (fun b=>b=vb∨b=rb) w1 w1:=Upd.refl _ _
 have hoM:∀ b,(ok b∨w1.heap.size≤b)→¬ (b=vb∨b=rb):=fun b hk h=>by
  rcases hk with hk|hk
  ·have:=hok b hk;rcases h with h|h<;>omega
  ·rcases h with h|h<;>omega
 have hq1:Rdr RT ok w1 rb s0:=hR1
 obtain ⟨FB,hFB⟩:∃ P:Prop,P=((rdP (d+2) ver false fs_Q s0).2=none):=⟨_,rfl⟩
 have hb_0:(rdL (rdP (d+1) ver false) (dfP (d+1)) ver false [fQ_0,fQ_1,fQ_2,fQ_3] s0).2=none→FB:=fun h=>Eq.mpr hFB (rdP_bad h)
 have hh_0:hasS fQ_0 ver=true:=hasS_t (by show (0:Int)≤ver;omega) (by show (-1:Int) < 0∨ver≤(-1:Int);omega)
 obtain ⟨x_0,hx_0⟩:∃ x,x=(rdF (rdP (d+1) ver false) ver false fQ_0 s0).1:=⟨_,rfl⟩
 repeat ((first|refine qA rfl ?_|apply qB|refine qC rfl ?_|apply qD|apply qE|apply qF|apply qG|apply qH);try simp (disch:=(first|omega|(simp only [qI,qJ,qK]<;>omega)|exact qL _)) only [go_sem,↓reduceIte,n0,reduceCtorEq,n1,n2,n3,n4,n5,i0,i1,i2,i3,i4,i5,i6,i7,hv_1])
 refine (RArrayLen_fn w1 hq1 hrok hG1.1 hgrb).mono ?_
 rintro _ w2 ⟨rfl,hq2,hu2⟩
 have hv_2:=hu2.blk_some hv_1 (by omega)
 have hV2:Upd (fun b=>b=vb∨b=rb) w1 w2:=hu2.mono (fun _ h=>.inr h)
 have hU2:Upd (fun b=>b=vb∨b=rb) w1 w2:=hU1.trans hV2
 have hz2:=hV2.size
 have hG2:Glo ev w2:=hG1.updS hU2 aH aI
 obtain ⟨s1,hs1⟩:∃ s,s=(rdALen false s0).2:=⟨_,rfl⟩
 rw [← hs1] at hq2
 have jM:=rdALen_rng false s0
 generalize hy0:(rdALen false s0).1=y0 at *
 obtain ⟨N0,hN0⟩:∃ N,N=y0.toNat:=⟨_,rfl⟩
 have dT:(rdMany (rd1 (rdP (d+1) ver false) fQ_0.of fQ_0.sub false false) N0 s1).2=none→FB:=fun h=>hb_0 (by rw [rdL_st (by decide) hh_0];exact rdL_bad (rdF_listbad rfl (by rw [hy0,← hN0,← hs1];exact h)))
 repeat ((first|refine W.seqR rfl ?_|refine W.seq ?_|refine W.regR rfl ?_|refine W.block ?_|refine W.skip ?_|refine W.ret ?_|refine W.exit ?_);try simp (disch:=(first|omega|(simp only [qI,qJ,qK]<;>omega)|exact qL _)) only [go_sem,↓reduceIte,n0,reduceCtorEq,n1,n2,n3,n4,n5,i0,i1,i2,i3,i4,i5,i6,i7,hv_2])
 refine W.normJ (RowQ [(2,.bool false),(7,.pointer (some ⟨rb,0,none⟩)),(8,.int .i16 ver),(9,.bool false),(10,.pointer (some ⟨vb,0,none⟩)),(13,.int .i32 y0)] 12 (fun va w'=>∃ a0,va = .slice a0 0 0∧Ext w2 w'∧(∀ x,a0=some x→w2.heap.size≤x.block∧x.block < w'.heap.size)∧(N0=0→if nilS fQ_0 ver y0=true then va = .slice none 0 0 else ∃ a,va = .slice (some a) 0 0))) ?_ ?_
 ·repeat ((first|refine qA rfl ?_|apply qB|refine qC rfl ?_|apply qD|apply qE|apply qF|apply qG|apply qH);try simp (disch:=(first|omega|(simp only [qI,qJ,qK]<;>omega)|exact qL _)) only [go_sem,↓reduceIte,n0,reduceCtorEq,n1,n2,n3,n4,n5,i0,i1,i2,i3,i4,i5,i6,i7,hv_2])
  exact ⟨(by simp (disch:=(first|omega|(simp only [qI,qJ,qK]<;>omega)|exact qL _)) only [go_sem,↓reduceIte,n0,reduceCtorEq,n1,n2,n3,n4,n5,i0,i1,i2,i3,i4,i5,i6,i7,Holds_nil,Holds_cons]),.slice (some ⟨w2.heap.size,0,none⟩) 0 0,(by simp (disch:=(first|omega|(simp only [qI,qJ,qK]<;>omega)|exact qL _)) only [go_sem,↓reduceIte,n0,reduceCtorEq,n1,n2,n3,n4,n5,i0,i1,i2,i3,i4,i5,i6,i7]),some ⟨w2.heap.size,0,none⟩,rfl,(Upd.alloc (Upd.refl _ _) _:Ext _ _),(fun x hx=>by cases hx;exact ⟨Nat.le_refl _,by simp only [World.size_alloc];omega⟩),(fun _=>by rw [nilS_early (by decide) (by show ver < (1:Int);omega)];exact ⟨_,rfl⟩)⟩
 rintro ρ w3 ⟨⟨aD,aE,aF,aG,aB,aC,-⟩,va,aA,a0,rfl,cQ,fC,fS⟩
 have bJ:Upd (fun b=>b=rb) w2 w3:=cQ.mono fun _ h=>h.elim
 have hq3:=And.intro (hq2.1.upd cQ (fun h=>h) (fun _ _ _ h=>h)) (hq2.2.upd cQ fun h=>h)
 have hv_3:=bJ.blk_some hv_2 (by omega)
 have hV3:Upd (fun b=>b=vb∨b=rb) w2 w3:=bJ.mono (fun _ h=>.inr h)
 have hU3:Upd (fun b=>b=vb∨b=rb) w1 w3:=hU2.trans hV3
 have hz3:=hV3.size
 have hG3:Glo ev w3:=hG1.updS hU3 aH aI
 repeat ((first|refine W.seqR rfl ?_|refine W.seq ?_|refine W.regR rfl ?_|refine W.block ?_|refine W.skip ?_|refine W.ret ?_|refine W.exit ?_);try simp (disch:=(first|omega|(simp only [qI,qJ,qK]<;>omega)|exact qL _)) only [go_sem,↓reduceIte,n0,reduceCtorEq,n1,n2,n3,n4,n5,i0,i1,i2,i3,i4,i5,i6,i7,hv_3,aD,aE,aF,aG,aB,aC,aA])
 refine (ROk_fn w3 hq3.1).mono ?_
 rintro _ wz ⟨rfl,hez⟩
 rw [hez]
 clear hez wz
 by_cases bF:s1=none
 ·have hso:s1.isSome=false:=by rw [bF];rfl
  repeat (first|simp (disch:=(first|omega|(simp only [qI,qJ,qK]<;>omega)|exact qL _)) only [go_sem,↓reduceIte,n0,reduceCtorEq,n1,n2,n3,n4,n5,i0,i1,i2,i3,i4,i5,i6,i7,hv_3,aD,aE,aF,aG,aB,aC,aA,hso]|refine qA rfl ?_|apply qB|refine qC rfl ?_|apply qD|apply qE|apply qF|apply qG|apply qH)
  refine (RComplete_fn w3 hq3.1 hG3.2).mono ?_
  rintro _ wz ⟨rfl,hez⟩
  rw [hez]
  repeat (first|simp (disch:=(first|omega|(simp only [qI,qJ,qK]<;>omega)|exact qL _)) only [go_sem,↓reduceIte,n0,reduceCtorEq,n1,n2,n3,n4,n5,i0,i1,i2,i3,i4,i5,i6,i7,hv_3,aD,aE,aF,aG,aB,aC,aA]|refine qA rfl ?_|apply qB|refine qC rfl ?_|apply qD|apply qE|apply qF|apply qG|apply qH)
  rw [errV_none bF]
  exact ReadQ.bad (Eq.mp hFB (dT (by rw [bF];exact rdMany_none rd1P_none _))) (hbase.trans' hU3 fun i hi h=>h.elim id fun h=>by omega)
 have bH:s1.isSome=true:=isSome_some bF
 try simp (disch:=(first|omega|(simp only [qI,qJ,qK]<;>omega)|exact qL _)) only [go_sem,↓reduceIte,n0,reduceCtorEq,n1,n2,n3,n4,n5,i0,i1,i2,i3,i4,i5,i6,i7,hv_3,aD,aE,aF,aG,aB,aC,aA,bH]
 repeat ((first|refine W.seqR rfl ?_|refine W.seq ?_|refine W.regR rfl ?_|refine W.block ?_|refine W.skip ?_|refine W.ret ?_|refine W.exit ?_);try simp (disch:=(first|omega|(simp only [qI,qJ,qK]<;>omega)|exact qL _)) only [go_sem,↓reduceIte,n0,reduceCtorEq,n1,n2,n3,n4,n5,i0,i1,i2,i3,i4,i5,i6,i7,hv_3,aD,aE,aF,aG,aB,aC,aA,bH])
 refine W.condK ?_
 try simp (disch:=(first|omega|(simp only [qI,qJ,qK]<;>omega)|exact qL _)) only [go_sem,↓reduceIte,n0,reduceCtorEq,n1,n2,n3,n4,n5,i0,i1,i2,i3,i4,i5,i6,i7,hv_3,aD,aE,aF,aG,aB,aC,aA,bH]
 repeat ((first|refine W.seqR rfl ?_|refine W.seq ?_|refine W.regR rfl ?_|refine W.block ?_|refine W.skip ?_|refine W.ret ?_|refine W.exit ?_);try simp (disch:=(first|omega|(simp only [qI,qJ,qK]<;>omega)|exact qL _)) only [go_sem,↓reduceIte,n0,reduceCtorEq,n1,n2,n3,n4,n5,i0,i1,i2,i3,i4,i5,i6,i7,hv_3,aD,aE,aF,aG,aB,aC,aA,bH,slBase_00])
 refine W.normJ (RowQ [(2,.bool false),(7,.pointer (some ⟨rb,0,none⟩)),(8,.int .i16 ver),(9,.bool false),(10,.pointer (some ⟨vb,0,none⟩)),(13,.int .i32 y0)] 12 (fun va w'=>LstI RT (rd1 (rdP (d+1) ver false) fQ_0.of fQ_0.sub false false) (Rep1 (RepS true (d+1)) fQ_0.of fQ_0.sub) 18 101 [.int .u8 0,.int .u8 0,.int .u8 0,.int .u8 0,.int .u8 0,.int .u8 0,.int .u8 0,.int .u8 0,.int .u8 0,.int .u8 0,.int .u8 0,.int .u8 0,.int .u8 0,.int .u8 0,.int .u8 0,.int .u8 0,.pointer none,.map none] w2.heap.size N0 ok (fun b=>ok b∨w1.heap.size≤b) rb w2 s1 va 0 s1 [] [] w'∧(N0=0→if nilS fQ_0 ver y0=true then va = .slice none 0 0 else ∃ a,va = .slice (some a) 0 0))) ?_ ?_
 ·by_cases hy0:(0:Int) < y0
  ·have hyv:Value.int .i32 y0 = .int .i32 ((N0:Nat):Int):=by rw [show y0=((N0:Nat):Int) by omega]
   repeat ((first|refine qA rfl ?_|apply qB|refine qC rfl ?_|apply qD|apply qE|apply qF|apply qG|apply qH);try simp (disch:=(first|omega|(simp only [qI,qJ,qK]<;>omega)|exact qL _)) only [go_sem,↓reduceIte,n0,reduceCtorEq,n1,n2,n3,n4,n5,i0,i1,i2,i3,i4,i5,i6,i7,hv_3,aD,aE,aF,aG,aB,aC,aA])
   refine wp_appendZ (m:=N0) utQ_63 utQ_21 inQ_101 (by decide) (by first|rfl|simp (disch:=(first|omega|(simp only [qI,qJ,qK]<;>omega)|exact qL _)) only [go_sem,↓reduceIte,n0,reduceCtorEq,n1,n2,n3,n4,n5,i0,i1,i2,i3,i4,i5,i6,i7,aD,aE,aF,aG,aB,aC,aA]) (by first|exact hyv|(simp (disch:=(first|omega|(simp only [qI,qJ,qK]<;>omega)|exact qL _)) only [go_sem,↓reduceIte,n0,reduceCtorEq,n1,n2,n3,n4,n5,i0,i1,i2,i3,i4,i5,i6,i7,aD,aE,aF,aG,aB,aC,aA];exact hyv)) (by omega) (by omega) (by decide) ?_
   intro q rest hq1
   have hEw:Ext w3 (w3.drew.alloc (.cells (zs [.int .u8 0,.int .u8 0,.int .u8 0,.int .u8 0,.int .u8 0,.int .u8 0,.int .u8 0,.int .u8 0,.int .u8 0,.int .u8 0,.int .u8 0,.int .u8 0,.int .u8 0,.int .u8 0,.int .u8 0,.int .u8 0,.pointer none,.map none] N0++rest).toArray 101)):=(Upd.refl _ _).drew.alloc _
   repeat (first|simp (disch:=(first|omega|(simp only [qI,qJ,qK]<;>omega)|exact qL _)) only [go_sem,↓reduceIte,n0,reduceCtorEq,n1,n2,n3,n4,n5,i0,i1,i2,i3,i4,i5,i6,i7,hv_3,aD,aE,aF,aG,aB,aC,aA]|refine qA rfl ?_|apply qB|refine qC rfl ?_|apply qD|apply qE|apply qF|apply qG|apply qH)
   exact ⟨(by simp (disch:=(first|omega|(simp only [qI,qJ,qK]<;>omega)|exact qL _)) only [go_sem,↓reduceIte,n0,reduceCtorEq,n1,n2,n3,n4,n5,i0,i1,i2,i3,i4,i5,i6,i7,Holds_nil,Holds_cons,aD,aE,aF,aG,aB,aC,aA]),.slice (some ⟨w3.heap.size,0,none⟩) N0 q,(by simp (disch:=(first|omega|(simp only [qI,qJ,qK]<;>omega)|exact qL _)) only [go_sem,↓reduceIte,n0,reduceCtorEq,n1,n2,n3,n4,n5,i0,i1,i2,i3,i4,i5,i6,i7,aD,aE,aF,aG,aB,aC,aA]),LstI.start (RowJ.start (by omega) hq1 (by show w2.heap.size≤w3.drew.heap.size;rw [size_drew];omega) (blk_alloc_new rfl)) ⟨hq3.1.upd hEw (fun h=>h) (fun _ _ _ h=>h),hq3.2.upd hEw fun h=>h⟩ (bJ.trans (hEw.mono fun _ h=>h.elim)),fun h0=>by omega⟩
  ·repeat ((first|refine qA rfl ?_|apply qB|refine qC rfl ?_|apply qD|apply qE|apply qF|apply qG|apply qH);try simp (disch:=(first|omega|(simp only [qI,qJ,qK]<;>omega)|exact qL _)) only [go_sem,↓reduceIte,n0,reduceCtorEq,n1,n2,n3,n4,n5,i0,i1,i2,i3,i4,i5,i6,i7,hv_3,aD,aE,aF,aG,aB,aC,aA])
   exact ⟨(by simp (disch:=(first|omega|(simp only [qI,qJ,qK]<;>omega)|exact qL _)) only [go_sem,↓reduceIte,n0,reduceCtorEq,n1,n2,n3,n4,n5,i0,i1,i2,i3,i4,i5,i6,i7,Holds_nil,Holds_cons,aD,aE,aF,aG,aB,aC,aA]),.slice a0 0 0,(by simp (disch:=(first|omega|(simp only [qI,qJ,qK]<;>omega)|exact qL _)) only [go_sem,↓reduceIte,n0,reduceCtorEq,n1,n2,n3,n4,n5,i0,i1,i2,i3,i4,i5,i6,i7,aD,aE,aF,aG,aB,aC,aA,slBase_00]),LstI.start (RowJ.zero (by omega) fC) hq3 (bJ),fS⟩
 rintro ρ w4 ⟨⟨dA,dB,dC,dD,d8,d9,-⟩,va0,aA,hL0,dU⟩
 repeat ((first|refine qA rfl ?_|apply qB|refine qC rfl ?_|apply qD|apply qE|apply qF|apply qG|apply qH);try simp (disch:=(first|omega|(simp only [qI,qJ,qK]<;>omega)|exact qL _)) only [go_sem,↓reduceIte,n0,reduceCtorEq,n1,n2,n3,n4,n5,i0,i1,i2,i3,i4,i5,i6,i7,hv_3,dA,dB,dC,dD,d8,d9,aA])
 refine W.exitRJ 0 (EndQ [(2,.bool false),(7,.pointer (some ⟨rb,0,none⟩)),(8,.int .i16 ver),(9,.bool false),(10,.pointer (some ⟨vb,0,none⟩)),(13,.int .i32 y0),(12,va0)] (fun w'=>∃ s xs css,LstI RT (rd1 (rdP (d+1) ver false) fQ_0.of fQ_0.sub false false) (Rep1 (RepS true (d+1)) fQ_0.of fQ_0.sub) 18 101 [.int .u8 0,.int .u8 0,.int .u8 0,.int .u8 0,.int .u8 0,.int .u8 0,.int .u8 0,.int .u8 0,.int .u8 0,.int .u8 0,.int .u8 0,.int .u8 0,.int .u8 0,.int .u8 0,.int .u8 0,.int .u8 0,.pointer none,.map none] w2.heap.size N0 ok (fun b=>ok b∨w1.heap.size≤b) rb w2 s1 va0 N0 s xs css w')) (W.loop (LoopQ [(2,.bool false),(7,.pointer (some ⟨rb,0,none⟩)),(8,.int .i16 ver),(9,.bool false),(10,.pointer (some ⟨vb,0,none⟩)),(13,.int .i32 y0),(12,va0)] 14 (fun j w'=>∃ s xs css,LstI RT (rd1 (rdP (d+1) ver false) fQ_0.of fQ_0.sub false false) (Rep1 (RepS true (d+1)) fQ_0.of fQ_0.sub) 18 101 [.int .u8 0,.int .u8 0,.int .u8 0,.int .u8 0,.int .u8 0,.int .u8 0,.int .u8 0,.int .u8 0,.int .u8 0,.int .u8 0,.int .u8 0,.int .u8 0,.int .u8 0,.int .u8 0,.int .u8 0,.int .u8 0,.pointer none,.map none] w2.heap.size N0 ok (fun b=>ok b∨w1.heap.size≤b) rb w2 s1 va0 j s xs css w')) (fun ρ _=>N0 - (RowKit.intOf (ρ 14)).toNat) ?_ ?_) ?_
 ·exact ⟨(by simp (disch:=(first|omega|(simp only [qI,qJ,qK]<;>omega)|exact qL _)) only [go_sem,↓reduceIte,n0,reduceCtorEq,n1,n2,n3,n4,n5,i0,i1,i2,i3,i4,i5,i6,i7,Holds_nil,Holds_cons,dA,dB,dC,dD,d8,d9,aA]),0,(by simp (disch:=(first|omega|(simp only [qI,qJ,qK]<;>omega)|exact qL _)) only [go_sem,↓reduceIte,n0,reduceCtorEq,n1,n2,n3,n4,n5,i0,i1,i2,i3,i4,i5,i6,i7,dA,dB,dC,dD,d8,d9,aA];all_goals rfl),s1,[],[],hL0⟩
 ·rintro ρ w5 ⟨⟨aL,aM,aN,aO,aJ,aK,dE,-⟩,j1,aP,s2,xs0,css0,hL0⟩
  have hj0:=hL0.le
  have hq5:=hL0.rd
  have hU5:Upd (fun b=>b=vb∨b=rb) w1 w5:=hU2.trans' hL0.upd fun i _ h=>.inr h
  have hz5:=hL0.upd.size
  have hG5:Glo ev w5:=hG1.updS hU5 aH aI
  by_cases cY:j1 < N0
  ·obtain ⟨R1,q1,B1,bK,iY,iX,hA1,b7,dV⟩:=hL0.row.next cY
   have iZ:=blk_lt b7
   generalize css0.flatten=A1 at hA1 b7 dV
   replace aA:ρ 12 = .slice (some ⟨R1,0,none⟩) N0 q1:=dE.trans bK
   have eA:∀ b,ownB va0 b→w2.heap.size≤b∧b < w5.heap.size:=fun b h=>hL0.row.own h
   have bN:∀ b,(fun b=>(ok b∨w1.heap.size≤b)∧¬ ownB va0 b) b→¬ (b=R1∨b=rb):=fun b hk h=>h.elim (fun e=>hk.2 ⟨_,_,_,bK,e⟩) (fun e=>hoM b hk.1 (.inr e))
   obtain ⟨X5,hX5⟩:∃ X:Array Value,X=(A1++(([.int .u8 0,.int .u8 0,.int .u8 0,.int .u8 0,.int .u8 0,.int .u8 0,.int .u8 0,.int .u8 0,.int .u8 0,.int .u8 0,.int .u8 0,.int .u8 0,.int .u8 0,.int .u8 0,.int .u8 0,.int .u8 0,.pointer none,.map none]:List Value)++B1)).toArray:=⟨_,rfl⟩
   have fZ:blk w5 R1=some (X5,101,(0,0)):=by rw [hX5];exact b7
   have jA:j1 * 18+18≤X5.size:=by rw [hX5];simp only [List.size_toArray,List.length_append,List.length_cons,List.length_nil,hA1];omega
   repeat ((first|refine qA rfl ?_|apply qB|refine qC rfl ?_|apply qD|apply qE|apply qF|apply qG|apply qH);try simp (disch:=(first|omega|(simp only [qI,qJ,qK]<;>omega)|exact qL _)) only [go_sem,↓reduceIte,n0,reduceCtorEq,n1,n2,n3,n4,n5,i0,i1,i2,i3,i4,i5,i6,i7,fZ,aL,aM,aN,aO,aJ,aK,aA,aP])
   refine (DefaultEX0_fn w5 b7 hA1).mono ?_
   rintro _ w6 ⟨dF,hu6⟩
   have hq6:=And.intro (hq5.1.upd hu6 (by omega) (fun b _ hk e=>by have:=(hok b hk).1;omega)) (hq5.2.upd hu6 (by omega))
   have hV6:Upd (fun b=>b=R1∨b=rb) w5 w6:=hu6.mono (fun _ h=>.inl h)
   have hU6:Upd (fun b=>b=vb∨b=rb) w1 w6:=hU5.trans' hV6 fun i hi h=>h.elim (fun h=>by omega) .inr
   have hz6:=hV6.size
   have hG6:Glo ev w6:=hG1.updS hU6 aH aI
   obtain ⟨X6,hX6⟩:∃ X:Array Value,X=(A1++(([.int .u8 0,.int .u8 0,.int .u8 0,.int .u8 0,.int .u8 0,.int .u8 0,.int .u8 0,.int .u8 0,.int .u8 0,.int .u8 0,.int .u8 0,.int .u8 0,.int .u8 0,.int .u8 0,.int .u8 0,.int .u8 0,.pointer none,.map none]:List Value)++B1)).toArray:=⟨_,rfl⟩
   have eG:blk w6 R1=some (X6,101,(0,0)):=by rw [hX6];exact dF
   have jB:j1 * 18+18≤X6.size:=by rw [hX6];simp only [List.size_toArray,List.length_append,List.length_cons,List.length_nil,hA1];omega
   have fD:(rdL (rdP d ver false) (dfP d) ver false [fX0_0,fX0_1] s2).2=none→FB:=fun h=>dT (hL0.bad cY rd1P_none (by show (rd1 (rdP (d+1) ver false) 10 fs_X0 false false s2).2=none;rw [rd1_part];exact rdP_bad h))
   obtain ⟨xe0_0,dY⟩:∃ x,x=dfF (dfP d) fX0_0:=⟨_,rfl⟩
   have fH:RepF (RepS true d) (szS true d) fX0_0 (fun b=>(ok b∨w1.heap.size≤b)∧¬ ownB va0 b) w6 (xe0_0) [.int .u8 0,.int .u8 0,.int .u8 0,.int .u8 0,.int .u8 0,.int .u8 0,.int .u8 0,.int .u8 0,.int .u8 0,.int .u8 0,.int .u8 0,.int .u8 0,.int .u8 0,.int .u8 0,.int .u8 0,.int .u8 0]:=by rw [dY];exact (RepF_uuid rfl).2 rfl
   have dR:hasS fX0_0 ver=false:=hasS_f (by show ver < 10∨(0≤(-1:Int)∧(-1:Int) < ver);omega)
   have jF:(rdL (rdP d ver false) (dfP d) ver false [fX0_1] s2).2=none→FB:=fun h=>fD (by rw [rdL_no dR];exact h)
   have fN:hasS fX0_1 ver=true:=hasS_t (by show (0:Int)≤ver;omega) (by show (-1:Int) < 0∨ver≤(-1:Int);omega)
   obtain ⟨xe0_1,dZ⟩:∃ x,x=(rdF (rdP d ver false) ver false fX0_1 s2).1:=⟨_,rfl⟩
   repeat ((first|refine qA rfl ?_|apply qB|refine qC rfl ?_|apply qD|apply qE|apply qF|apply qG|apply qH);try simp (disch:=(first|omega|(simp only [qI,qJ,qK]<;>omega)|exact qL _)) only [go_sem,↓reduceIte,n0,reduceCtorEq,n1,n2,n3,n4,n5,i0,i1,i2,i3,i4,i5,i6,i7,eG,aL,aM,aN,aO,aJ,aK,aA,aP])
   have hmay:mayS fX0_1 ver=false:=mayS_no (by show (10:Int) < 0∨ver < (10:Int);omega)
   have hrd:rdF (rdP d ver false) ver false fX0_1 s2=_:=rdF_text rfl hmay
   have dG:Ext w6 (w6.alloc (.cells #[.string ByteArray.empty] 9)):=Upd.alloc (Upd.refl _ _) _
   have kW:(w6.alloc (.cells #[.string ByteArray.empty] 9)).heap.size=w6.heap.size+1:=World.size_alloc _ _
   have gM:blk (w6.alloc (.cells #[.string ByteArray.empty] 9)) w6.heap.size=some (#[.string ByteArray.empty],9,(0,0)):=blk_alloc_new rfl
   have gU:=And.intro (hq6.1.upd dG (fun h=>h) (fun _ _ _ h=>h)) (hq6.2.upd dG fun h=>h)
   have gJ:Glo ev (w6.alloc (.cells #[.string ByteArray.empty] 9)):=hG6.updS dG id id
   generalize (w6.alloc (.cells #[.string ByteArray.empty] 9))=wb6 at *
   refine (RString_fn wb6 gU.1 hrok gJ.1 hgrb).mono ?_
   rintro _ wc6 ⟨rfl,eV,eB⟩
   have kX:=eB.size
   have eR:=eB.blk_some gM (by omega)
   have hu7:Upd (fun b=>b=rb) w6 (wr wc6 w6.heap.size 0 [strV (rdStr false s2).1]):=((dG.mono fun _ h=>h.elim).trans eB).wr _ _ (.inl (Nat.le_refl _))
   have eP:Upd (fun b=>b=w6.heap.size) wc6 (wr wc6 w6.heap.size 0 [strV (rdStr false s2).1]):=(Upd.refl _ _).wr _ _ (.inr rfl)
   have hq7:=And.intro (eV.1.upd eP (by omega) (fun b _ hk e=>by have:=(hok b hk).1;omega)) (eV.2.upd eP (by omega))
   have hbx6:blk (wr wc6 w6.heap.size 0 [strV (rdStr false s2).1]) w6.heap.size=some (#[strV (rdStr false s2).1],9,(0,0)):=by rw [blk_wr_eq,eR];rfl
   try simp (disch:=(first|omega|(simp only [qI,qJ,qK]<;>omega)|exact qL _)) only [go_sem,↓reduceIte,n0,reduceCtorEq,n1,n2,n3,n4,n5,i0,i1,i2,i3,i4,i5,i6,i7,eG,aL,aM,aN,aO,aJ,aK,aA,aP,eR]
   generalize (wr wc6 w6.heap.size 0 [strV (rdStr false s2).1])=w7 at *
   have dK:=hu7.blk_some dF (by omega)
   have hV7:Upd (fun b=>b=R1∨b=rb) w6 w7:=hu7.mono (fun _ h=>.inr h)
   have hU7:Upd (fun b=>b=vb∨b=rb) w1 w7:=hU6.trans' hV7 fun i hi h=>h.elim (fun h=>by omega) .inr
   have hz7:=hV7.size
   have hG7:Glo ev w7:=hG1.updS hU7 aH aI
   obtain ⟨X7,hX7⟩:∃ X:Array Value,X=(A1++(([.int .u8 0,.int .u8 0,.int .u8 0,.int .u8 0,.int .u8 0,.int .u8 0,.int .u8 0,.int .u8 0,.int .u8 0,.int .u8 0,.int .u8 0,.int .u8 0,.int .u8 0,.int .u8 0,.int .u8 0,.int .u8 0,.pointer none,.map none]:List Value)++B1)).toArray:=⟨_,rfl⟩
   have g7:blk w7 R1=some (X7,101,(0,0)):=by rw [hX7];exact dK
   have jC:j1 * 18+18≤X7.size:=by rw [hX7];simp only [List.size_toArray,List.length_append,List.length_cons,List.length_nil,hA1];omega
   have hst:(rdF (rdP d ver false) ver false fX0_1 s2).2=(rdStr false s2).2:=by first|(rw [hrd];rfl)|rw [hrd]
   obtain ⟨s3,hs3⟩:∃ s,s=(rdF (rdP d ver false) ver false fX0_1 s2).2:=⟨_,rfl⟩
   rw [← hst,← hs3] at hq7
   clear hst
   have gV:j1 * 18+17≤X7.size:=by omega
   repeat ((first|refine qA rfl ?_|apply qB|refine qC rfl ?_|apply qD|apply qE|apply qF|apply qG|apply qH);try simp (disch:=(first|omega|(simp only [qI,qJ,qK]<;>omega)|exact qL _)) only [go_sem,↓reduceIte,n0,reduceCtorEq,n1,n2,n3,n4,n5,i0,i1,i2,i3,i4,i5,i6,i7,g7,aL,aM,aN,aO,aJ,aK,aA,aP,gV])
   generalize hw8:wr w7 R1 (j1 * 18+16) [.pointer (some ⟨w6.heap.size,0,none⟩)] = w8
   have hS8:Upd (fun b=>b=R1∨b=rb) w7 w8:=by rw [← hw8];exact (Upd.refl _ _).wr _ _ (.inr (.inl rfl))
   have dX:blk w8 R1=some ((A1++(([.int .u8 0,.int .u8 0,.int .u8 0,.int .u8 0,.int .u8 0,.int .u8 0,.int .u8 0,.int .u8 0,.int .u8 0,.int .u8 0,.int .u8 0,.int .u8 0,.int .u8 0,.int .u8 0,.int .u8 0,.int .u8 0,.pointer (some ⟨w6.heap.size,0,none⟩),.map none]:List Value)++B1)).toArray,101,(0,0)):=by rw [← hw8];exact el_blk (o:=16) dK hA1 (Nat.le_of_ble_eq_true rfl)
   have hV8:=hS8
   have hU8:Upd (fun b=>b=vb∨b=rb) w1 w8:=hU7.trans' hV8 fun i hi h=>h.elim (fun h=>by omega) .inr
   have hz8:=hV8.size
   have hG8:Glo ev w8:=hG1.updS hU8 aH aI
   have hq8:Rdr RT ok w8 rb s3∧NN w8 rb s3:=by
    have hn:∀ x,x=w8→(Rdr RT ok x rb s3∧NN x rb s3):=fun x hx=>by
     rw [hx,← hw8]
     exact Rdr.store hq7 (by omega) (fun h=>by have:=(hok _ h).1;first|omega|exact (hok _ h).2 rfl)
    exact hn _ rfl
   obtain ⟨X8,hX8⟩:∃ X:Array Value,X=(A1++(([.int .u8 0,.int .u8 0,.int .u8 0,.int .u8 0,.int .u8 0,.int .u8 0,.int .u8 0,.int .u8 0,.int .u8 0,.int .u8 0,.int .u8 0,.int .u8 0,.int .u8 0,.int .u8 0,.int .u8 0,.int .u8 0,.pointer (some ⟨w6.heap.size,0,none⟩),.map none]:List Value)++B1)).toArray:=⟨_,rfl⟩
   have eO:blk w8 R1=some (X8,101,(0,0)):=by rw [hX8];exact dX
   have jD:j1 * 18+18≤X8.size:=by rw [hX8];simp only [List.size_toArray,List.length_append,List.length_cons,List.length_nil,hA1];omega
   clear hw8
   have fI:RepF (RepS true d) (szS true d) fX0_1 (fun b=>(ok b∨w1.heap.size≤b)∧¬ ownB va0 b) w8 (xe0_1) [.pointer (some ⟨w6.heap.size,0,none⟩)]:=(RepF_ptr rfl (by decide)).2 ⟨_,rfl,by rw [dZ,hrd];exact PtrText.keep (ok:=(fun b=>(ok b∨w1.heap.size≤b)∧¬ ownB va0 b)) (w:=w7) ⟨_,0,_,rfl,⟨.inr (by omega),fun ho=>by have:=(eA _ ho).2;omega⟩,hbx6,rfl⟩ (hV8.keeps fun b _ hk e=>bN b hk e)⟩
   clear hrd
   have fR:rdL (rdP d ver false) (dfP d) ver false [] s3=([],s3):=rfl
   have fQ:rdL (rdP d ver false) (dfP d) ver false [fX0_1] s2=([xe0_1],s3):=by rw [rdL_st (by decide) fN,← dZ,← hs3,fR]
   have fP:rdL (rdP d ver false) (dfP d) ver false [fX0_0,fX0_1] s2=([xe0_0,xe0_1],s3):=by rw [rdL_no dR,← dY,fQ]
   have eJ:rdP (d+1) ver false fs_X0 s2=(.mk 0 [] false [xe0_0,xe0_1] [],s3):=rdP_f fP
   have fB:TagsM (fun b=>(ok b∨w1.heap.size≤b)∧¬ ownB va0 b) w8 (.map none) []:=.inl ⟨rfl,rfl⟩
   have eD:Upd (fun b=>b=R1∨b=rb) w8 w8:=Upd.refl _ _
   have eX:Upd (fun b=>b=R1∨b=rb) w7 w8:=hV8.trans eD
   have eC:Upd (fun b=>b=R1∨b=rb) w6 w8:=hV7.trans eX
   have iW:Upd (fun b=>b=R1∨b=rb) w5 w8:=hV6.trans eC
   have eZ:RepS true (d+1) fs_X0 (fun b=>(ok b∨w1.heap.size≤b)∧¬ ownB va0 b) w8 (.mk 0 [] false [xe0_0,xe0_1] []) [.int .u8 0,.int .u8 0,.int .u8 0,.int .u8 0,.int .u8 0,.int .u8 0,.int .u8 0,.int .u8 0,.int .u8 0,.int .u8 0,.int .u8 0,.int .u8 0,.int .u8 0,.int .u8 0,.int .u8 0,.int .u8 0,.pointer (some ⟨w6.heap.size,0,none⟩),.map none]:=RepS.introT (c:=[.int .u8 0,.int .u8 0,.int .u8 0,.int .u8 0,.int .u8 0,.int .u8 0,.int .u8 0,.int .u8 0,.int .u8 0,.int .u8 0,.int .u8 0,.int .u8 0,.int .u8 0,.int .u8 0,.int .u8 0,.int .u8 0,.pointer (some ⟨w6.heap.size,0,none⟩)]) (RepL.cons16 (fH.keepS (eC.keeps fun b _ hk e=>bN b hk e)) (RepL.cons1 (fI.keepS (eD.keeps fun b _ hk e=>bN b hk e)) RepL.nil)) fB
   have hrE:(rd1 (rdP (d+1) ver false) fQ_0.of fQ_0.sub false false) s2=((.mk 0 [] false [xe0_0,xe0_1] []),s3):=by rw [show (rd1 (rdP (d+1) ver false) fQ_0.of fQ_0.sub false false) s2=_ from rd1_part];exact eJ
   have hxE:(Rep1 (RepS true (d+1)) fQ_0.of fQ_0.sub) (fun b=>(ok b∨w1.heap.size≤b)∧¬ ownB va0 b) w8 (.mk 0 [] false [xe0_0,xe0_1] []) [.int .u8 0,.int .u8 0,.int .u8 0,.int .u8 0,.int .u8 0,.int .u8 0,.int .u8 0,.int .u8 0,.int .u8 0,.int .u8 0,.int .u8 0,.int .u8 0,.int .u8 0,.int .u8 0,.int .u8 0,.int .u8 0,.pointer (some ⟨w6.heap.size,0,none⟩),.map none]:=Rep1_part.2 eZ
   repeat ((first|refine qA rfl ?_|apply qB|refine qC rfl ?_|apply qD|apply qE|apply qF|apply qG|apply qH);try simp (disch:=(first|omega|(simp only [qI,qJ,qK]<;>omega)|exact qL _)) only [go_sem,↓reduceIte,n0,reduceCtorEq,n1,n2,n3,n4,n5,i0,i1,i2,i3,i4,i5,i6,i7,eO,aL,aM,aN,aO,aJ,aK,aA,aP])
   have hTk:Upd (fun b=>b=R1∨b=rb) w5 w8:=((hV6.trans hV7).trans hV8)
   have hL':=hL0.step (Rep1_lay _ _ fun _=>RepS_lay true _ _) cY (dV w8 [.int .u8 0,.int .u8 0,.int .u8 0,.int .u8 0,.int .u8 0,.int .u8 0,.int .u8 0,.int .u8 0,.int .u8 0,.int .u8 0,.int .u8 0,.int .u8 0,.int .u8 0,.int .u8 0,.int .u8 0,.int .u8 0,.pointer (some ⟨w6.heap.size,0,none⟩),.map none] rfl dX) (by rw [hrE];exact hxE) (hTk.mono fun b h=>h.imp (fun e=>⟨_,_,_,bK,e⟩) id) (by rw [hrE];exact hq8) (fun h=>hoM rb h (.inr rfl)) (Nat.le_refl _)
   have hij:IntKind.i32.wrap ((j1:Int)+1)=((j1+1:Nat):Int):=by rw [i32_wrap (by omega)];omega
   repeat ((first|refine qA rfl ?_|apply qB|refine qC rfl ?_|apply qD|apply qE|apply qF|apply qG|apply qH);try simp (disch:=(first|omega|(simp only [qI,qJ,qK]<;>omega)|exact qL _)) only [go_sem,↓reduceIte,n0,reduceCtorEq,n1,n2,n3,n4,n5,i0,i1,i2,i3,i4,i5,i6,i7,eO,aL,aM,aN,aO,aJ,aK,aA,aP,hij])
   refine ⟨⟨(by simp (disch:=(first|omega|(simp only [qI,qJ,qK]<;>omega)|exact qL _)) only [go_sem,↓reduceIte,n0,reduceCtorEq,n1,n2,n3,n4,n5,i0,i1,i2,i3,i4,i5,i6,i7,Holds_nil,Holds_cons,aL,aM,aN,aO,aJ,aK,aA,aP];exact bK.symm),j1+1,(by simp (disch:=(first|omega|(simp only [qI,qJ,qK]<;>omega)|exact qL _)) only [go_sem,↓reduceIte,n0,reduceCtorEq,n1,n2,n3,n4,n5,i0,i1,i2,i3,i4,i5,i6,i7,aL,aM,aN,aO,aJ,aK,aA,aP,hij];all_goals rfl),_,_,_,hL'⟩,?_⟩
   try simp (disch:=(first|omega|(simp only [qI,qJ,qK]<;>omega)|exact qL _)) only [go_sem,↓reduceIte,n0,reduceCtorEq,n1,n2,n3,n4,n5,i0,i1,i2,i3,i4,i5,i6,i7,aL,aM,aN,aO,aJ,aK,aA,aP]
   simp only [RowKit.intOf]
   omega
  ·have hjN:j1=N0:=by omega
   rw [hjN] at hL0
   repeat ((first|refine qA rfl ?_|apply qB|refine qC rfl ?_|apply qD|apply qE|apply qF|apply qG|apply qH);try simp (disch:=(first|omega|(simp only [qI,qJ,qK]<;>omega)|exact qL _)) only [go_sem,↓reduceIte,n0,reduceCtorEq,n1,n2,n3,n4,n5,i0,i1,i2,i3,i4,i5,i6,i7,aL,aM,aN,aO,aJ,aK,dE,aP])
   exact ⟨(by simp (disch:=(first|omega|(simp only [qI,qJ,qK]<;>omega)|exact qL _)) only [go_sem,↓reduceIte,n0,reduceCtorEq,n1,n2,n3,n4,n5,i0,i1,i2,i3,i4,i5,i6,i7,Holds_nil,Holds_cons,aL,aM,aN,aO,aJ,aK,dE,aP]),s2,xs0,css0,hL0⟩
 rintro ρ w9 ⟨⟨aT,aU,aV,aW,aQ,aS,aR,-⟩,s4,xs0,css0,hL0⟩
 have hq9:=hL0.rd
 have hu9:=hL0.upd
 have hv_9:=hu9.blk_some hv_2 (by omega)
 have hV9:Upd (fun b=>b=vb∨b=rb) w2 w9:=hu9.mono (fun _ h=>.inr h)
 have hU9:Upd (fun b=>b=vb∨b=rb) w1 w9:=hU2.trans hV9
 have hz9:=hV9.size
 have hG9:Glo ev w9:=hG1.updS hU9 aH aI
 have dW:rdF (rdP (d+1) ver false) ver false fQ_0 s0=(.mk 0 [] (nilS fQ_0 ver y0) xs0 [],s4):=by
  have h:=rdF_listE (pt:=(rdP (d+1) ver false)) (v:=ver) (flex:=false) (f:=fQ_0) (s:=s0) (xs:=xs0) (e:=s4) rfl (by rw [hy0,← hN0,← hs1];exact hL0.done)
  rw [hy0] at h;exact h
 have hs4:s4=(rdF (rdP (d+1) ver false) ver false fQ_0 s0).2:=by rw [dW]
 obtain ⟨aa0,qq0,fX⟩:=hL0.row.shape
 subst fX
 repeat ((first|refine qA rfl ?_|apply qB|refine qC rfl ?_|apply qD|apply qE|apply qF|apply qG|apply qH);try simp (disch:=(first|omega|(simp only [qI,qJ,qK]<;>omega)|exact qL _)) only [go_sem,↓reduceIte,n0,reduceCtorEq,n1,n2,n3,n4,n5,i0,i1,i2,i3,i4,i5,i6,i7,hv_9,aT,aU,aV,aW,aQ,aS,aR])
 generalize dH:wr w9 vb 1 [.slice aa0 N0 qq0] = w10
 have gK:Upd (fun b=>b=vb∨b=rb) w9 w10:=by rw [← dH];exact (Upd.refl _ _).wr _ _ (.inr (.inl rfl))
 have hv_10:blk w10 vb=some (#[.int .i16 ver,.slice aa0 N0 qq0,.bool false,.bool false,.bool false,.map none],68,(0,0)):=by rw [← dH,blk_wr_eq,hv_9];rfl
 have b9:=gK
 have hU10:Upd (fun b=>b=vb∨b=rb) w1 w10:=hU9.trans b9
 have hz10:=b9.size
 have iA:Glo ev w10:=hG1.updS hU10 aH aI
 have eN:Rdr RT ok w10 rb s4∧NN w10 rb s4:=by
  have hn:∀ x,x=w10→(Rdr RT ok x rb s4∧NN x rb s4):=fun x hx=>by
   rw [hx,← dH]
   exact Rdr.store hq9 (by omega) (fun h=>by have:=(hok _ h).1;first|omega|exact (hok _ h).2 rfl)
  exact hn _ rfl
 clear dH
 have hf_0:RepF (RepS true (d+1)) (szS true (d+1)) fQ_0 (fun b=>ok b∨w1.heap.size≤b) w10 (x_0) [.slice aa0 N0 qq0]:=by rw [hx_0,dW];exact RepF.keepS (RepF_row rfl dU hN0 rfl hL0.row hL0.all (fun b hb=>.inr (by omega))) (b9.keeps fun b _ hk e=>(hoM b hk) e)
 clear hL0 dU
 have hb_1:(rdL (rdP (d+1) ver false) (dfP (d+1)) ver false [fQ_1,fQ_2,fQ_3] s4).2=none→FB:=fun h=>hb_0 (by rw [rdL_st (by decide) hh_0,← hs4];exact h)
 obtain ⟨x_1,hx_1⟩:∃ x,x=dfF (dfP (d+1)) fQ_1:=⟨_,rfl⟩
 have hf_1:RepF (RepS true (d+1)) (szS true (d+1)) fQ_1 (fun b=>ok b∨w1.heap.size≤b) w10 (x_1) [.bool false]:=by rw [hx_1];exact (RepF_num (by decide)).2 rfl
 have hh_1:hasS fQ_1 ver=false:=hasS_f (by show ver < 4∨(0≤(-1:Int)∧(-1:Int) < ver);omega)
 have hb_2:(rdL (rdP (d+1) ver false) (dfP (d+1)) ver false [fQ_2,fQ_3] s4).2=none→FB:=fun h=>hb_1 (by rw [rdL_no hh_1];exact h)
 obtain ⟨x_2,hx_2⟩:∃ x,x=dfF (dfP (d+1)) fQ_2:=⟨_,rfl⟩
 have hf_2:RepF (RepS true (d+1)) (szS true (d+1)) fQ_2 (fun b=>ok b∨w1.heap.size≤b) w10 (x_2) [.bool false]:=by rw [hx_2];exact (RepF_num (by decide)).2 rfl
 have hh_2:hasS fQ_2 ver=false:=hasS_f (by show ver < 8∨(0≤(10:Int)∧(10:Int) < ver);omega)
 have hb_3:(rdL (rdP (d+1) ver false) (dfP (d+1)) ver false [fQ_3] s4).2=none→FB:=fun h=>hb_2 (by rw [rdL_no hh_2];exact h)
 obtain ⟨x_3,hx_3⟩:∃ x,x=dfF (dfP (d+1)) fQ_3:=⟨_,rfl⟩
 have hf_3:RepF (RepS true (d+1)) (szS true (d+1)) fQ_3 (fun b=>ok b∨w1.heap.size≤b) w10 (x_3) [.bool false]:=by rw [hx_3];exact (RepF_num (by decide)).2 rfl
 have hh_3:hasS fQ_3 ver=false:=hasS_f (by show ver < 8∨(0≤(-1:Int)∧(-1:Int) < ver);omega)
 have hl_4:rdL (rdP (d+1) ver false) (dfP (d+1)) ver false [] s4=([],s4):=rfl
 have hl_3:rdL (rdP (d+1) ver false) (dfP (d+1)) ver false [fQ_3] s4=([x_3],s4):=by rw [rdL_no hh_3,← hx_3,hl_4]
 have hl_2:rdL (rdP (d+1) ver false) (dfP (d+1)) ver false [fQ_2,fQ_3] s4=([x_2,x_3],s4):=by rw [rdL_no hh_2,← hx_2,hl_3]
 have hl_1:rdL (rdP (d+1) ver false) (dfP (d+1)) ver false [fQ_1,fQ_2,fQ_3] s4=([x_1,x_2,x_3],s4):=by rw [rdL_no hh_1,← hx_1,hl_2]
 have hl_0:rdL (rdP (d+1) ver false) (dfP (d+1)) ver false [fQ_0,fQ_1,fQ_2,fQ_3] s0=([x_0,x_1,x_2,x_3],s4):=by rw [rdL_st (by decide) hh_0,← hx_0,← hs4,hl_1]
 have hfin:rdP (d+2) ver false fs_Q s0=(.mk 0 [] false [x_0,x_1,x_2,x_3] [],s4):=rdP_f hl_0
 have hTg:TagsM (fun b=>ok b∨w1.heap.size≤b) w10 (.map none) []:=.inl ⟨rfl,rfl⟩
 have hC_10:Upd (fun b=>b=vb∨b=rb) w10 w10:=Upd.refl _ _
 have hC_9:Upd (fun b=>b=vb∨b=rb) w9 w10:=b9.trans hC_10
 have hC_2:Upd (fun b=>b=vb∨b=rb) w2 w10:=hV9.trans hC_9
 have hC_1:Upd (fun b=>b=vb∨b=rb) w1 w10:=hV2.trans hC_2
 have hR:RepS true (d+2) fs_Q (fun b=>ok b∨w1.heap.size≤b) w10 (.mk 0 [] false [x_0,x_1,x_2,x_3] []) [.slice aa0 N0 qq0,.bool false,.bool false,.bool false,.map none]:=RepS.introT (c:=[.slice aa0 N0 qq0,.bool false,.bool false,.bool false]) (RepL.cons1 (hf_0.keepS (hC_10.keeps fun b _ hk e=>(hoM b hk) e)) (RepL.cons1 (hf_1.keepS (hC_10.keeps fun b _ hk e=>(hoM b hk) e)) (RepL.cons1 (hf_2.keepS (hC_10.keeps fun b _ hk e=>(hoM b hk) e)) (RepL.cons1 (hf_3.keepS (hC_10.keeps fun b _ hk e=>(hoM b hk) e)) RepL.nil)))) hTg
 repeat ((first|refine qA rfl ?_|apply qB|refine qC rfl ?_|apply qD|apply qE|apply qF|apply qG|apply qH);try simp (disch:=(first|omega|(simp only [qI,qJ,qK]<;>omega)|exact qL _)) only [go_sem,↓reduceIte,n0,reduceCtorEq,n1,n2,n3,n4,n5,i0,i1,i2,i3,i4,i5,i6,i7,hv_10,aT,aU,aV,aW,aQ,aS,aR])
 refine (RComplete_fn w10 eN.1 iA.2).mono ?_
 rintro _ wz ⟨rfl,hez⟩
 rw [hez]
 repeat ((first|refine qA rfl ?_|apply qB|refine qC rfl ?_|apply qD|apply qE|apply qF|apply qG|apply qH);try simp (disch:=(first|omega|(simp only [qI,qJ,qK]<;>omega)|exact qL _)) only [go_sem,↓reduceIte,n0,reduceCtorEq,n1,n2,n3,n4,n5,i0,i1,i2,i3,i4,i5,i6,i7,hv_10,aT,aU,aV,aW,aQ,aS,aR])
 rw [hfin]
 refine ⟨fun h => ?_,fun h=>⟨?_,[.slice aa0 N0 qq0,.bool false,.bool false,.bool false,.map none],hv_10,?_⟩,?_⟩
 ·have h':s4=none:=h
  rw [h'];rfl
 ·cases hsn:s4 with
  | none=>exact absurd hsn h
  | some x=>rfl
 ·exact (RepS_lay true (d+2) fs_Q).weaken hR fun b _ hk=>hk.imp id fun h=>by omega
 ·exact hbase.trans' hU10 fun i hi h=>h.elim id fun h=>by omega

set_option maxHeartbeats 4000000 in
theorem readQ_1 {d:Nat} {ok:Blocks} {ver:Int} {ev:Value} (hlo:1≤ver) (hhi:ver≤3) (w:World) {vb:Nat} (src:Value) (s:List UInt8) (hv:blk w vb=some (#[.int .i16 ver,.slice none 0 0,.bool false,.bool false,.bool false,.map none],68,(0,0))) (hsrc:BytesV ok w src s) (cP:∀ b,ok b→b < w.heap.size∧b≠vb) (hG:Glo ev w) (hgv:¬ 1=vb∧¬ 0=vb) :
  Fn Tryz.prog 33 #[.pointer (some ⟨vb,0,none⟩),src,.bool false] w (ReadQ 68 ok ver (d+2) fs_Q vb w (rdP (d+2) ver false fs_Q (some s)) ev):=by
 have hvl:=blk_lt hv
 have hgs:=hG.lt
 obtain ⟨sa,sc,rfl,_⟩:=hsrc.shape
 refine fn_of_W Tryz.func33 rfl Tryz.results33 Tryz.ntmps33 rfl ?_
 repeat ((first|refine qA rfl ?_|apply qB|refine qC rfl ?_|apply qD|apply qE|apply qF|apply qG|apply qH);try simp (disch:=(first|omega|(simp only [qI,qJ,qK]<;>omega)|exact qL _)) only [go_sem,↓reduceIte,n0,reduceCtorEq,n1,n2,n3,n4,n5,i0,i1,i2,i3,i4,i5,i6,i7,hv])
 refine (DefaultQ_fn w hv).mono ?_
 rintro _ w0 ⟨hv0,hu0⟩
 have hz0:=hu0.size
 have fW:BytesV ok w0 (.slice sa s.length sc) s:=hsrc.keep (hu0.keeps fun b _ hk e=>(cP b hk).2 e)
 obtain ⟨rb,hrb⟩:∃ r,r=w0.heap.size:=⟨_,rfl⟩
 have hE1:Ext w0 (wr (w0.alloc (.cells #[.slice none 0 0,.bool false] 93)) w0.heap.size 0 [.slice sa s.length sc,.bool false]):=(Upd.alloc (Upd.refl _ _) _).wr _ _ (.inl (Nat.le_refl _))
 have hz1:(wr (w0.alloc (.cells #[.slice none 0 0,.bool false] 93)) w0.heap.size 0 [.slice sa s.length sc,.bool false]).heap.size=w0.heap.size+1:=by rw [size_wr,World.size_alloc]
 have hR1:Rdr RT ok (wr (w0.alloc (.cells #[.slice none 0 0,.bool false] 93)) w0.heap.size 0 [.slice sa s.length sc,.bool false]) w0.heap.size (some s):=Rdr.good (v:=.slice sa s.length sc) (by simp (disch:=(first|omega|(simp only [qI,qJ,qK]<;>omega)|exact qL _)) only [go_sem,↓reduceIte,n0,reduceCtorEq,n1,n2,n3,n4,n5,i0,i1,i2,i3,i4,i5,i6,i7]) (fW.keep (hE1.keeps _))
 have hv_1:=hE1.blk_some hv0 id
 repeat ((first|refine qA rfl ?_|apply qB|refine qC rfl ?_|apply qD|apply qE|apply qF|apply qG|apply qH);try simp (disch:=(first|omega|(simp only [qI,qJ,qK]<;>omega)|exact qL _)) only [go_sem,↓reduceIte,n0,reduceCtorEq,n1,n2,n3,n4,n5,i0,i1,i2,i3,i4,i5,i6,i7,hv0])
 generalize (wr (w0.alloc (.cells #[.slice none 0 0,.bool false] 93)) w0.heap.size 0 [.slice sa s.length sc,.bool false])=w1 at *
 rw [← hrb] at hR1
 try rw [← hrb]
 have hok:∀ b,ok b→b < w.heap.size∧b≠vb:=cP
 have hrok:¬ ok rb:=fun h=>by have:=(hok rb h).1;omega
 have hbase:Upd (fun b=>b=vb) w w1:=hu0.trans (hE1.mono fun _ h=>h.elim)
 have hG1:Glo ev w1:=hG.updS hbase hgv.1 hgv.2
 have hgrb:¬ 1=rb:=by omega
 have aH:¬ (1=vb∨1=rb):=fun h=>h.elim hgv.1 fun h=>by omega
 have aI:¬ (0=vb∨0=rb):=fun h=>h.elim hgv.2 fun h=>by omega
 obtain ⟨s0,hs0⟩:∃ s':St,s'=some s:=⟨_,rfl⟩
 rw [← hs0] at hR1 ⊢
 have hU1:Upd (fun b=>b=vb∨b=rb) w1 w1:=Upd.refl _ _
 have hoM:∀ b,(ok b∨w1.heap.size≤b)→¬ (b=vb∨b=rb):=fun b hk h=>by
  rcases hk with hk|hk
  ·have:=hok b hk;rcases h with h|h<;>omega
  ·rcases h with h|h<;>omega
 have hq1:Rdr RT ok w1 rb s0:=hR1
 obtain ⟨FB,hFB⟩:∃ P:Prop,P=((rdP (d+2) ver false fs_Q s0).2=none):=⟨_,rfl⟩
 have hb_0:(rdL (rdP (d+1) ver false) (dfP (d+1)) ver false [fQ_0,fQ_1,fQ_2,fQ_3] s0).2=none→FB:=fun h=>Eq.mpr hFB (rdP_bad h)
 have hh_0:hasS fQ_0 ver=true:=hasS_t (by show (0:Int)≤ver;omega) (by show (-1:Int) < 0∨ver≤(-1:Int);omega)
 obtain ⟨x_0,hx_0⟩:∃ x,x=(rdF (rdP (d+1) ver false) ver false fQ_0 s0).1:=⟨_,rfl⟩
 repeat ((first|refine qA rfl ?_|apply qB|refine qC rfl ?_|apply qD|apply qE|apply qF|apply qG|apply qH);try simp (disch:=(first|omega|(simp only [qI,qJ,qK]<;>omega)|exact qL _)) only [go_sem,↓reduceIte,n0,reduceCtorEq,n1,n2,n3,n4,n5,i0,i1,i2,i3,i4,i5,i6,i7,hv_1])
 refine (RArrayLen_fn w1 hq1 hrok hG1.1 hgrb).mono ?_
 rintro _ w2 ⟨rfl,hq2,hu2⟩
 have hv_2:=hu2.blk_some hv_1 (by omega)
 have hV2:Upd (fun b=>b=vb∨b=rb) w1 w2:=hu2.mono (fun _ h=>.inr h)
 have hU2:Upd (fun b=>b=vb∨b=rb) w1 w2:=hU1.trans hV2
 have hz2:=hV2.size
 have hG2:Glo ev w2:=hG1.updS hU2 aH aI
 obtain ⟨s1,hs1⟩:∃ s,s=(rdALen false s0).2:=⟨_,rfl⟩
 rw [← hs1] at hq2
 have jM:=rdALen_rng false s0
 generalize hy0:(rdALen false s0).1=y0 at *
 obtain ⟨N0,hN0⟩:∃ N,N=y0.toNat:=⟨_,rfl⟩
 have dT:(rdMany (rd1 (rdP (d+1) ver false) fQ_0.of fQ_0.sub false false) N0 s1).2=none→FB:=fun h=>hb_0 (by rw [rdL_st (by decide) hh_0];exact rdL_bad (rdF_listbad rfl (by rw [hy0,← hN0,← hs1];exact h)))
 repeat ((first|refine W.seqR rfl ?_|refine W.seq ?_|refine W.regR rfl ?_|refine W.block ?_|refine W.skip ?_|refine W.ret ?_|refine W.exit ?_);try simp (disch:=(first|omega|(simp only [qI,qJ,qK]<;>omega)|exact qL _)) only [go_sem,↓reduceIte,n0,reduceCtorEq,n1,n2,n3,n4,n5,i0,i1,i2,i3,i4,i5,i6,i7,hv_2])
 refine W.normJ (RowQ [(2,.bool false),(7,.pointer (some ⟨rb,0,none⟩)),(8,.int .i16 ver),(9,.bool false),(10,.pointer (some ⟨vb,0,none⟩)),(13,.int .i32 y0)] 12 (fun va w'=>∃ a0,va = .slice a0 0 0∧Ext w2 w'∧(∀ x,a0=some x→w2.heap.size≤x.block∧x.block < w'.heap.size)∧(N0=0→if nilS fQ_0 ver y0=true then va = .slice none 0 0 else ∃ a,va = .slice (some a) 0 0))) ?_ ?_
 ·by_cases hye:y0=0
  ·repeat ((first|refine qA rfl ?_|apply qB|refine qC rfl ?_|apply qD|apply qE|apply qF|apply qG|apply qH);try simp (disch:=(first|omega|(simp only [qI,qJ,qK]<;>omega)|exact qL _)) only [go_sem,↓reduceIte,n0,reduceCtorEq,n1,n2,n3,n4,n5,i0,i1,i2,i3,i4,i5,i6,i7,hv_2,hye])
   exact ⟨(by simp (disch:=(first|omega|(simp only [qI,qJ,qK]<;>omega)|exact qL _)) only [go_sem,↓reduceIte,n0,reduceCtorEq,n1,n2,n3,n4,n5,i0,i1,i2,i3,i4,i5,i6,i7,Holds_nil,Holds_cons,hye]),.slice (some ⟨w2.heap.size,0,none⟩) 0 0,(by simp (disch:=(first|omega|(simp only [qI,qJ,qK]<;>omega)|exact qL _)) only [go_sem,↓reduceIte,n0,reduceCtorEq,n1,n2,n3,n4,n5,i0,i1,i2,i3,i4,i5,i6,i7]),some ⟨w2.heap.size,0,none⟩,rfl,(Upd.alloc (Upd.refl _ _) _:Ext _ _),(fun x hx=>by cases hx;exact ⟨Nat.le_refl _,by simp only [World.size_alloc];omega⟩),(fun _=>by rw [nilS_may (by decide) (by show (1:Int)≤ver;omega),decide_eq_false (by omega)];exact ⟨_,rfl⟩)⟩
  ·repeat ((first|refine qA rfl ?_|apply qB|refine qC rfl ?_|apply qD|apply qE|apply qF|apply qG|apply qH);try simp (disch:=(first|omega|(simp only [qI,qJ,qK]<;>omega)|exact qL _)) only [go_sem,↓reduceIte,n0,reduceCtorEq,n1,n2,n3,n4,n5,i0,i1,i2,i3,i4,i5,i6,i7,hv_2,hye])
   exact ⟨(by simp (disch:=(first|omega|(simp only [qI,qJ,qK]<;>omega)|exact qL _)) only [go_sem,↓reduceIte,n0,reduceCtorEq,n1,n2,n3,n4,n5,i0,i1,i2,i3,i4,i5,i6,i7,Holds_nil,Holds_cons,hye]),.slice none 0 0,(by simp (disch:=(first|omega|(simp only [qI,qJ,qK]<;>omega)|exact qL _)) only [go_sem,↓reduceIte,n0,reduceCtorEq,n1,n2,n3,n4,n5,i0,i1,i2,i3,i4,i5,i6,i7]),none,rfl,Upd.refl _ _,(fun x hx=>by cases hx),(fun _=>by rw [nilS_may (by decide) (by show (1:Int)≤ver;omega),decide_eq_true (by omega)];exact rfl)⟩
 rintro ρ w3 ⟨⟨aD,aE,aF,aG,aB,aC,-⟩,va,aA,a0,rfl,cQ,fC,fS⟩
 have bJ:Upd (fun b=>b=rb) w2 w3:=cQ.mono fun _ h=>h.elim
 have hq3:=And.intro (hq2.1.upd cQ (fun h=>h) (fun _ _ _ h=>h)) (hq2.2.upd cQ fun h=>h)
 have hv_3:=bJ.blk_some hv_2 (by omega)
 have hV3:Upd (fun b=>b=vb∨b=rb) w2 w3:=bJ.mono (fun _ h=>.inr h)
 have hU3:Upd (fun b=>b=vb∨b=rb) w1 w3:=hU2.trans hV3
 have hz3:=hV3.size
 have hG3:Glo ev w3:=hG1.updS hU3 aH aI
 repeat ((first|refine W.seqR rfl ?_|refine W.seq ?_|refine W.regR rfl ?_|refine W.block ?_|refine W.skip ?_|refine W.ret ?_|refine W.exit ?_);try simp (disch:=(first|omega|(simp only [qI,qJ,qK]<;>omega)|exact qL _)) only [go_sem,↓reduceIte,n0,reduceCtorEq,n1,n2,n3,n4,n5,i0,i1,i2,i3,i4,i5,i6,i7,hv_3,aD,aE,aF,aG,aB,aC,aA])
 refine (ROk_fn w3 hq3.1).mono ?_
 rintro _ wz ⟨rfl,hez⟩
 rw [hez]
 clear hez wz
 by_cases bF:s1=none
 ·have hso:s1.isSome=false:=by rw [bF];rfl
  repeat (first|simp (disch:=(first|omega|(simp only [qI,qJ,qK]<;>omega)|exact qL _)) only [go_sem,↓reduceIte,n0,reduceCtorEq,n1,n2,n3,n4,n5,i0,i1,i2,i3,i4,i5,i6,i7,hv_3,aD,aE,aF,aG,aB,aC,aA,hso]|refine qA rfl ?_|apply qB|refine qC rfl ?_|apply qD|apply qE|apply qF|apply qG|apply qH)
  refine (RComplete_fn w3 hq3.1 hG3.2).mono ?_
  rintro _ wz ⟨rfl,hez⟩
  rw [hez]
  repeat (first|simp (disch:=(first|omega|(simp only [qI,qJ,qK]<;>omega)|exact qL _)) only [go_sem,↓reduceIte,n0,reduceCtorEq,n1,n2,n3,n4,n5,i0,i1,i2,i3,i4,i5,i6,i7,hv_3,aD,aE,aF,aG,aB,aC,aA]|refine qA rfl ?_|apply qB|refine qC rfl ?_|apply qD|apply qE|apply qF|apply qG|apply qH)
  rw [errV_none bF]
  exact ReadQ.bad (Eq.mp hFB (dT (by rw [bF];exact rdMany_none rd1P_none _))) (hbase.trans' hU3 fun i hi h=>h.elim id fun h=>by omega)
 have bH:s1.isSome=true:=isSome_some bF
 try simp (disch:=(first|omega|(simp only [qI,qJ,qK]<;>omega)|exact qL _)) only [go_sem,↓reduceIte,n0,reduceCtorEq,n1,n2,n3,n4,n5,i0,i1,i2,i3,i4,i5,i6,i7,hv_3,aD,aE,aF,aG,aB,aC,aA,bH]
 repeat ((first|refine W.seqR rfl ?_|refine W.seq ?_|refine W.regR rfl ?_|refine W.block ?_|refine W.skip ?_|refine W.ret ?_|refine W.exit ?_);try simp (disch:=(first|omega|(simp only [qI,qJ,qK]<;>omega)|exact qL _)) only [go_sem,↓reduceIte,n0,reduceCtorEq,n1,n2,n3,n4,n5,i0,i1,i2,i3,i4,i5,i6,i7,hv_3,aD,aE,aF,aG,aB,aC,aA,bH])
 refine W.condK ?_
 try simp (disch:=(first|omega|(simp only [qI,qJ,qK]<;>omega)|exact qL _)) only [go_sem,↓reduceIte,n0,reduceCtorEq,n1,n2,n3,n4,n5,i0,i1,i2,i3,i4,i5,i6,i7,hv_3,aD,aE,aF,aG,aB,aC,aA,bH]
 repeat ((first|refine W.seqR rfl ?_|refine W.seq ?_|refine W.regR rfl ?_|refine W.block ?_|refine W.skip ?_|refine W.ret ?_|refine W.exit ?_);try simp (disch:=(first|omega|(simp only [qI,qJ,qK]<;>omega)|exact qL _)) only [go_sem,↓reduceIte,n0,reduceCtorEq,n1,n2,n3,n4,n5,i0,i1,i2,i3,i4,i5,i6,i7,hv_3,aD,aE,aF,aG,aB,aC,aA,bH,slBase_00])
 refine W.normJ (RowQ [(2,.bool false),(7,.pointer (some ⟨rb,0,none⟩)),(8,.int .i16 ver),(9,.bool false),(10,.pointer (some ⟨vb,0,none⟩)),(13,.int .i32 y0)] 12 (fun va w'=>LstI RT (rd1 (rdP (d+1) ver false) fQ_0.of fQ_0.sub false false) (Rep1 (RepS true (d+1)) fQ_0.of fQ_0.sub) 18 101 [.int .u8 0,.int .u8 0,.int .u8 0,.int .u8 0,.int .u8 0,.int .u8 0,.int .u8 0,.int .u8 0,.int .u8 0,.int .u8 0,.int .u8 0,.int .u8 0,.int .u8 0,.int .u8 0,.int .u8 0,.int .u8 0,.pointer none,.map none] w2.heap.size N0 ok (fun b=>ok b∨w1.heap.size≤b) rb w2 s1 va 0 s1 [] [] w'∧(N0=0→if nilS fQ_0 ver y0=true then va = .slice none 0 0 else ∃ a,va = .slice (some a) 0 0))) ?_ ?_
 ·by_cases hy0:(0:Int) < y0
  ·have hyv:Value.int .i32 y0 = .int .i32 ((N0:Nat):Int):=by rw [show y0=((N0:Nat):Int) by omega]
   repeat ((first|refine qA rfl ?_|apply qB|refine qC rfl ?_|apply qD|apply qE|apply qF|apply qG|apply qH);try simp (disch:=(first|omega|(simp only [qI,qJ,qK]<;>omega)|exact qL _)) only [go_sem,↓reduceIte,n0,reduceCtorEq,n1,n2,n3,n4,n5,i0,i1,i2,i3,i4,i5,i6,i7,hv_3,aD,aE,aF,aG,aB,aC,aA])
   refine wp_appendZ (m:=N0) utQ_63 utQ_21 inQ_101 (by decide) (by first|rfl|simp (disch:=(first|omega|(simp only [qI,qJ,qK]<;>omega)|exact qL _)) only [go_sem,↓reduceIte,n0,reduceCtorEq,n1,n2,n3,n4,n5,i0,i1,i2,i3,i4,i5,i6,i7,aD,aE,aF,aG,aB,aC,aA]) (by first|exact hyv|(simp (disch:=(first|omega|(simp only [qI,qJ,qK]<;>omega)|exact qL _)) only [go_sem,↓reduceIte,n0,reduceCtorEq,n1,n2,n3,n4,n5,i0,i1,i2,i3,i4,i5,i6,i7,aD,aE,aF,aG,aB,aC,aA];exact hyv)) (by omega) (by omega) (by decide) ?_
   intro q rest hq1
   have hEw:Ext w3 (w3.drew.alloc (.cells (zs [.int .u8 0,.int .u8 0,.int .u8 0,.int .u8 0,.int .u8 0,.int .u8 0,.int .u8 0,.int .u8 0,.int .u8 0,.int .u8 0,.int .u8 0,.int .u8 0,.int .u8 0,.int .u8 0,.int .u8 0,.int .u8 0,.pointer none,.map none] N0++rest).toArray 101)):=(Upd.refl _ _).drew.alloc _
   repeat (first|simp (disch:=(first|omega|(simp only [qI,qJ,qK]<;>omega)|exact qL _)) only [go_sem,↓reduceIte,n0,reduceCtorEq,n1,n2,n3,n4,n5,i0,i1,i2,i3,i4,i5,i6,i7,hv_3,aD,aE,aF,aG,aB,aC,aA]|refine qA rfl ?_|apply qB|refine qC rfl ?_|apply qD|apply qE|apply qF|apply qG|apply qH)
   exact ⟨(by simp (disch:=(first|omega|(simp only [qI,qJ,qK]<;>omega)|exact qL _)) only [go_sem,↓reduceIte,n0,reduceCtorEq,n1,n2,n3,n4,n5,i0,i1,i2,i3,i4,i5,i6,i7,Holds_nil,Holds_cons,aD,aE,aF,aG,aB,aC,aA]),.slice (some ⟨w3.heap.size,0,none⟩) N0 q,(by simp (disch:=(first|omega|(simp only [qI,qJ,qK]<;>omega)|exact qL _)) only [go_sem,↓reduceIte,n0,reduceCtorEq,n1,n2,n3,n4,n5,i0,i1,i2,i3,i4,i5,i6,i7,aD,aE,aF,aG,aB,aC,aA]),LstI.start (RowJ.start (by omega) hq1 (by show w2.heap.size≤w3.drew.heap.size;rw [size_drew];omega) (blk_alloc_new rfl)) ⟨hq3.1.upd hEw (fun h=>h) (fun _ _ _ h=>h),hq3.2.upd hEw fun h=>h⟩ (bJ.trans (hEw.mono fun _ h=>h.elim)),fun h0=>by omega⟩
  ·repeat ((first|refine qA rfl ?_|apply qB|refine qC rfl ?_|apply qD|apply qE|apply qF|apply qG|apply qH);try simp (disch:=(first|omega|(simp only [qI,qJ,qK]<;>omega)|exact qL _)) only [go_sem,↓reduceIte,n0,reduceCtorEq,n1,n2,n3,n4,n5,i0,i1,i2,i3,i4,i5,i6,i7,hv_3,aD,aE,aF,aG,aB,aC,aA])
   exact ⟨(by simp (disch:=(first|omega|(simp only [qI,qJ,qK]<;>omega)|exact qL _)) only [go_sem,↓reduceIte,n0,reduceCtorEq,n1,n2,n3,n4,n5,i0,i1,i2,i3,i4,i5,i6,i7,Holds_nil,Holds_cons,aD,aE,aF,aG,aB,aC,aA]),.slice a0 0 0,(by simp (disch:=(first|omega|(simp only [qI,qJ,qK]<;>omega)|exact qL _)) only [go_sem,↓reduceIte,n0,reduceCtorEq,n1,n2,n3,n4,n5,i0,i1,i2,i3,i4,i5,i6,i7,aD,aE,aF,aG,aB,aC,aA,slBase_00]),LstI.start (RowJ.zero (by omega) fC) hq3 (bJ),fS⟩
 rintro ρ w4 ⟨⟨dA,dB,dC,dD,d8,d9,-⟩,va0,aA,hL0,dU⟩
 repeat ((first|refine qA rfl ?_|apply qB|refine qC rfl ?_|apply qD|apply qE|apply qF|apply qG|apply qH);try simp (disch:=(first|omega|(simp only [qI,qJ,qK]<;>omega)|exact qL _)) only [go_sem,↓reduceIte,n0,reduceCtorEq,n1,n2,n3,n4,n5,i0,i1,i2,i3,i4,i5,i6,i7,hv_3,dA,dB,dC,dD,d8,d9,aA])
 refine W.exitRJ 0 (EndQ [(2,.bool false),(7,.pointer (some ⟨rb,0,none⟩)),(8,.int .i16 ver),(9,.bool false),(10,.pointer (some ⟨vb,0,none⟩)),(13,.int .i32 y0),(12,va0)] (fun w'=>∃ s xs css,LstI RT (rd1 (rdP (d+1) ver false) fQ_0.of fQ_0.sub false false) (Rep1 (RepS true (d+1)) fQ_0.of fQ_0.sub) 18 101 [.int .u8 0,.int .u8 0,.int .u8 0,.int .u8 0,.int .u8 0,.int .u8 0,.int .u8 0,.int .u8 0,.int .u8 0,.int .u8 0,.int .u8 0,.int .u8 0,.int .u8 0,.int .u8 0,.int .u8 0,.int .u8 0,.pointer none,.map none] w2.heap.size N0 ok (fun b=>ok b∨w1.heap.size≤b) rb w2 s1 va0 N0 s xs css w')) (W.loop (LoopQ [(2,.bool false),(7,.pointer (some ⟨rb,0,none⟩)),(8,.int .i16 ver),(9,.bool false),(10,.pointer (some ⟨vb,0,none⟩)),(13,.int .i32 y0),(12,va0)] 14 (fun j w'=>∃ s xs css,LstI RT (rd1 (rdP (d+1) ver false) fQ_0.of fQ_0.sub false false) (Rep1 (RepS true (d+1)) fQ_0.of fQ_0.sub) 18 101 [.int .u8 0,.int .u8 0,.int .u8 0,.int .u8 0,.int .u8 0,.int .u8 0,.int .u8 0,.int .u8 0,.int .u8 0,.int .u8 0,.int .u8 0,.int .u8 0,.int .u8 0,.int .u8 0,.int .u8 0,.int .u8 0,.pointer none,.map none] w2.heap.size N0 ok (fun b=>ok b∨w1.heap.size≤b) rb w2 s1 va0 j s xs css w')) (fun ρ _=>N0 - (RowKit.intOf (ρ 14)).toNat) ?_ ?_) ?_
 ·exact ⟨(by simp (disch:=(first|omega|(simp only [qI,qJ,qK]<;>omega)|exact qL _)) only [go_sem,↓reduceIte,n0,reduceCtorEq,n1,n2,n3,n4,n5,i0,i1,i2,i3,i4,i5,i6,i7,Holds_nil,Holds_cons,dA,dB,dC,dD,d8,d9,aA]),0,(by simp (disch:=(first|omega|(simp only [qI,qJ,qK]<;>omega)|exact qL _)) only [go_sem,↓reduceIte,n0,reduceCtorEq,n1,n2,n3,n4,n5,i0,i1,i2,i3,i4,i5,i6,i7,dA,dB,dC,dD,d8,d9,aA];all_goals rfl),s1,[],[],hL0⟩
 ·rintro ρ w5 ⟨⟨aL,aM,aN,aO,aJ,aK,dE,-⟩,j1,aP,s2,xs0,css0,hL0⟩
  have hj0:=hL0.le
  have hq5:=hL0.rd
  have hU5:Upd (fun b=>b=vb∨b=rb) w1 w5:=hU2.trans' hL0.upd fun i _ h=>.inr h
  have hz5:=hL0.upd.size
  have hG5:Glo ev w5:=hG1.updS hU5 aH aI
  by_cases cY:j1 < N0
  ·obtain ⟨R1,q1,B1,bK,iY,iX,hA1,b7,dV⟩:=hL0.row.next cY
   have iZ:=blk_lt b7
   generalize css0.flatten=A1 at hA1 b7 dV
   replace aA:ρ 12 = .slice (some ⟨R1,0,none⟩) N0 q1:=dE.trans bK
   have eA:∀ b,ownB va0 b→w2.heap.size≤b∧b < w5.heap.size:=fun b h=>hL0.row.own h
   have bN:∀ b,(fun b=>(ok b∨w1.heap.size≤b)∧¬ ownB va0 b) b→¬ (b=R1∨b=rb):=fun b hk h=>h.elim (fun e=>hk.2 ⟨_,_,_,bK,e⟩) (fun e=>hoM b hk.1 (.inr e))
   obtain ⟨X5,hX5⟩:∃ X:Array Value,X=(A1++(([.int .u8 0,.int .u8 0,.int .u8 0,.int .u8 0,.int .u8 0,.int .u8 0,.int .u8 0,.int .u8 0,.int .u8 0,.int .u8 0,.int .u8 0,.int .u8 0,.int .u8 0,.int .u8 0,.int .u8 0,.int .u8 0,.pointer none,.map none]:List Value)++B1)).toArray:=⟨_,rfl⟩
   have fZ:blk w5 R1=some (X5,101,(0,0)):=by rw [hX5];exact b7
   have jA:j1 * 18+18≤X5.size:=by rw [hX5];simp only [List.size_toArray,List.length_append,List.length_cons,List.length_nil,hA1];omega
   repeat ((first|refine qA rfl ?_|apply qB|refine qC rfl ?_|apply qD|apply qE|apply qF|apply qG|apply qH);try simp (disch:=(first|omega|(simp only [qI,qJ,qK]<;>omega)|exact qL _)) only [go_sem,↓reduceIte,n0,reduceCtorEq,n1,n2,n3,n4,n5,i0,i1,i2,i3,i4,i5,i6,i7,fZ,aL,aM,aN,aO,aJ,aK,aA,aP])
   refine (DefaultEX0_fn w5 b7 hA1).mono ?_
   rintro _ w6 ⟨dF,hu6⟩
   have hq6:=And.intro (hq5.1.upd hu6 (by omega) (fun b _ hk e=>by have:=(hok b hk).1;omega)) (hq5.2.upd hu6 (by omega))
   have hV6:Upd (fun b=>b=R1∨b=rb) w5 w6:=hu6.mono (fun _ h=>.inl h)
   have hU6:Upd (fun b=>b=vb∨b=rb) w1 w6:=hU5.trans' hV6 fun i hi h=>h.elim (fun h=>by omega) .inr
   have hz6:=hV6.size
   have hG6:Glo ev w6:=hG1.updS hU6 aH aI
   obtain ⟨X6,hX6⟩:∃ X:Array Value,X=(A1++(([.int .u8 0,.int .u8 0,.int .u8 0,.int .u8 0,.int .u8 0,.int .u8 0,.int .u8 0,.int .u8 0,.int .u8 0,.int .u8 0,.int .u8 0,.int .u8 0,.int .u8 0,.int .u8 0,.int .u8 0,.int .u8 0,.pointer none,.map none]:List Value)++B1)).toArray:=⟨_,rfl⟩
   have eG:blk w6 R1=some (X6,101,(0,0)):=by rw [hX6];exact dF
   have jB:j1 * 18+18≤X6.size:=by rw [hX6];simp only [List.size_toArray,List.length_append,List.length_cons,List.length_nil,hA1];omega
   have fD:(rdL (rdP d ver false) (dfP d) ver false [fX0_0,fX0_1] s2).2=none→FB:=fun h=>dT (hL0.bad cY rd1P_none (by show (rd1 (rdP (d+1) ver false) 10 fs_X0 false false s2).2=none;rw [rd1_part];exact rdP_bad h))
   obtain ⟨xe0_0,dY⟩:∃ x,x=dfF (dfP d) fX0_0:=⟨_,rfl⟩
   have fH:RepF (RepS true d) (szS true d) fX0_0 (fun b=>(ok b∨w1.heap.size≤b)∧¬ ownB va0 b) w6 (xe0_0) [.int .u8 0,.int .u8 0,.int .u8 0,.int .u8 0,.int .u8 0,.int .u8 0,.int .u8 0,.int .u8 0,.int .u8 0,.int .u8 0,.int .u8 0,.int .u8 0,.int .u8 0,.int .u8 0,.int .u8 0,.int .u8 0]:=by rw [dY];exact (RepF_uuid rfl).2 rfl
   have dR:hasS fX0_0 ver=false:=hasS_f (by show ver < 10∨(0≤(-1:Int)∧(-1:Int) < ver);omega)
   have jF:(rdL (rdP d ver false) (dfP d) ver false [fX0_1] s2).2=none→FB:=fun h=>fD (by rw [rdL_no dR];exact h)
   have fN:hasS fX0_1 ver=true:=hasS_t (by show (0:Int)≤ver;omega) (by show (-1:Int) < 0∨ver≤(-1:Int);omega)
   obtain ⟨xe0_1,dZ⟩:∃ x,x=(rdF (rdP d ver false) ver false fX0_1 s2).1:=⟨_,rfl⟩
   repeat ((first|refine qA rfl ?_|apply qB|refine qC rfl ?_|apply qD|apply qE|apply qF|apply qG|apply qH);try simp (disch:=(first|omega|(simp only [qI,qJ,qK]<;>omega)|exact qL _)) only [go_sem,↓reduceIte,n0,reduceCtorEq,n1,n2,n3,n4,n5,i0,i1,i2,i3,i4,i5,i6,i7,eG,aL,aM,aN,aO,aJ,aK,aA,aP])
   have hmay:mayS fX0_1 ver=false:=mayS_no (by show (10:Int) < 0∨ver < (10:Int);omega)
   have hrd:rdF (rdP d ver false) ver false fX0_1 s2=_:=rdF_text rfl hmay
   have dG:Ext w6 (w6.alloc (.cells #[.string ByteArray.empty] 9)):=Upd.alloc (Upd.refl _ _) _
   have kW:(w6.alloc (.cells #[.string ByteArray.empty] 9)).heap.size=w6.heap.size+1:=World.size_alloc _ _
   have gM:blk (w6.alloc (.cells #[.string ByteArray.empty] 9)) w6.heap.size=some (#[.string ByteArray.empty],9,(0,0)):=blk_alloc_new rfl
   have gU:=And.intro (hq6.1.upd dG (fun h=>h) (fun _ _ _ h=>h)) (hq6.2.upd dG fun h=>h)
   have gJ:Glo ev (w6.alloc (.cells #[.string ByteArray.empty] 9)):=hG6.updS dG id id
   generalize (w6.alloc (.cells #[.string ByteArray.empty] 9))=wb6 at *
   refine (RString_fn wb6 gU.1 hrok gJ.1 hgrb).mono ?_
   rintro _ wc6 ⟨rfl,eV,eB⟩
   have kX:=eB.size
   have eR:=eB.blk_some gM (by omega)
   have hu7:Upd (fun b=>b=rb) w6 (wr wc6 w6.heap.size 0 [strV (rdStr false s2).1]):=((dG.mono fun _ h=>h.elim).trans eB).wr _ _ (.inl (Nat.le_refl _))
   have eP:Upd (fun b=>b=w6.heap.size) wc6 (wr wc6 w6.heap.size 0 [strV (rdStr false s2).1]):=(Upd.refl _ _).wr _ _ (.inr rfl)
   have hq7:=And.intro (eV.1.upd eP (by omega) (fun b _ hk e=>by have:=(hok b hk).1;omega)) (eV.2.upd eP (by omega))
   have hbx6:blk (wr wc6 w6.heap.size 0 [strV (rdStr false s2).1]) w6.heap.size=some (#[strV (rdStr false s2).1],9,(0,0)):=by rw [blk_wr_eq,eR];rfl
   try simp (disch:=(first|omega|(simp only [qI,qJ,qK]<;>omega)|exact qL _)) only [go_sem,↓reduceIte,n0,reduceCtorEq,n1,n2,n3,n4,n5,i0,i1,i2,i3,i4,i5,i6,i7,eG,aL,aM,aN,aO,aJ,aK,aA,aP,eR]
   generalize (wr wc6 w6.heap.size 0 [strV (rdStr false s2).1])=w7 at *
   have dK:=hu7.blk_some dF (by omega)
   have hV7:Upd (fun b=>b=R1∨b=rb) w6 w7:=hu7.mono (fun _ h=>.inr h)
   have hU7:Upd (fun b=>b=vb∨b=rb) w1 w7:=hU6.trans' hV7 fun i hi h=>h.elim (fun h=>by omega) .inr
   have hz7:=hV7.size
   have hG7:Glo ev w7:=hG1.updS hU7 aH aI
   obtain ⟨X7,hX7⟩:∃ X:Array Value,X=(A1++(([.int .u8 0,.int .u8 0,.int .u8 0,.int .u8 0,.int .u8 0,.int .u8 0,.int .u8 0,.int .u8 0,.int .u8 0,.int .u8 0,.int .u8 0,.int .u8 0,.int .u8 0,.int .u8 0,.int .u8 0,.int .u8 0,.pointer none,.map none]:List Value)++B1)).toArray:=⟨_,rfl⟩
   have g7:blk w7 R1=some (X7,101,(0,0)):=by rw [hX7];exact dK
   have jC:j1 * 18+18≤X7.size:=by rw [hX7];simp only [List.size_toArray,List.length_append,List.length_cons,List.length_nil,hA1];omega
   have hst:(rdF (rdP d ver false) ver false fX0_1 s2).2=(rdStr false s2).2:=by first|(rw [hrd];rfl)|rw [hrd]
   obtain ⟨s3,hs3⟩:∃ s,s=(rdF (rdP d ver false) ver false fX0_1 s2).2:=⟨_,rfl⟩
   rw [← hst,← hs3] at hq7
   clear hst
   have gV:j1 * 18+17≤X7.size:=by omega
   repeat ((first|refine qA rfl ?_|apply qB|refine qC rfl ?_|apply qD|apply qE|apply qF|apply qG|apply qH);try simp (disch:=(first|omega|(simp only [qI,qJ,qK]<;>omega)|exact qL _)) only [go_sem,↓reduceIte,n0,reduceCtorEq,n1,n2,n3,n4,n5,i0,i1,i2,i3,i4,i5,i6,i7,g7,aL,aM,aN,aO,aJ,aK,aA,aP,gV])
   generalize hw8:wr w7 R1 (j1 * 18+16) [.pointer (some ⟨w6.heap.size,0,none⟩)] = w8
   have hS8:Upd (fun b=>b=R1∨b=rb) w7 w8:=by rw [← hw8];exact (Upd.refl _ _).wr _ _ (.inr (.inl rfl))
   have dX:blk w8 R1=some ((A1++(([.int .u8 0,.int .u8 0,.int .u8 0,.int .u8 0,.int .u8 0,.int .u8 0,.int .u8 0,.int .u8 0,.int .u8 0,.int .u8 0,.int .u8 0,.int .u8 0,.int .u8 0,.int .u8 0,.int .u8 0,.int .u8 0,.pointer (some ⟨w6.heap.size,0,none⟩),.map none]:List Value)++B1)).toArray,101,(0,0)):=by rw [← hw8];exact el_blk (o:=16) dK hA1 (Nat.le_of_ble_eq_true rfl)
   have hV8:=hS8
   have hU8:Upd (fun b=>b=vb∨b=rb) w1 w8:=hU7.trans' hV8 fun i hi h=>h.elim (fun h=>by omega) .inr
   have hz8:=hV8.size
   have hG8:Glo ev w8:=hG1.updS hU8 aH aI
   have hq8:Rdr RT ok w8 rb s3∧NN w8 rb s3:=by
    have hn:∀ x,x=w8→(Rdr RT ok x rb s3∧NN x rb s3):=fun x hx=>by
     rw [hx,← hw8]
     exact Rdr.store hq7 (by omega) (fun h=>by have:=(hok _ h).1;first|omega|exact (hok _ h).2 rfl)
    exact hn _ rfl
   obtain ⟨X8,hX8⟩:∃ X:Array Value,X=(A1++(([.int .u8 0,.int .u8 0,.int .u8 0,.int .u8 0,.int .u8 0,.int .u8 0,.int .u8 0,.int .u8 0,.int .u8 0,.int .u8 0,.int .u8 0,.int .u8 0,.int .u8 0,.int .u8 0,.int .u8 0,.int .u8 0,.pointer (some ⟨w6.heap.size,0,none⟩),.map none]:List Value)++B1)).toArray:=⟨_,rfl⟩
   have eO:blk w8 R1=some (X8,101,(0,0)):=by rw [hX8];exact dX
   have jD:j1 * 18+18≤X8.size:=by rw [hX8];simp only [List.size_toArray,List.length_append,List.length_cons,List.length_nil,hA1];omega
   clear hw8
   have fI:RepF (RepS true d) (szS true d) fX0_1 (fun b=>(ok b∨w1.heap.size≤b)∧¬ ownB va0 b) w8 (xe0_1) [.pointer (some ⟨w6.heap.size,0,none⟩)]:=(RepF_ptr rfl (by decide)).2 ⟨_,rfl,by rw [dZ,hrd];exact PtrText.keep (ok:=(fun b=>(ok b∨w1.heap.size≤b)∧¬ ownB va0 b)) (w:=w7) ⟨_,0,_,rfl,⟨.inr (by omega),fun ho=>by have:=(eA _ ho).2;omega⟩,hbx6,rfl⟩ (hV8.keeps fun b _ hk e=>bN b hk e)⟩
   clear hrd
   have fR:rdL (rdP d ver false) (dfP d) ver false [] s3=([],s3):=rfl
   have fQ:rdL (rdP d ver false) (dfP d) ver false [fX0_1] s2=([xe0_1],s3):=by rw [rdL_st (by decide) fN,← dZ,← hs3,fR]
   have fP:rdL (rdP d ver false) (dfP d) ver false [fX0_0,fX0_1] s2=([xe0_0,xe0_1],s3):=by rw [rdL_no dR,← dY,fQ]
   have eJ:rdP (d+1) ver false fs_X0 s2=(.mk 0 [] false [xe0_0,xe0_1] [],s3):=rdP_f fP
   have fB:TagsM (fun b=>(ok b∨w1.heap.size≤b)∧¬ ownB va0 b) w8 (.map none) []:=.inl ⟨rfl,rfl⟩
   have eD:Upd (fun b=>b=R1∨b=rb) w8 w8:=Upd.refl _ _
   have eX:Upd (fun b=>b=R1∨b=rb) w7 w8:=hV8.trans eD
   have eC:Upd (fun b=>b=R1∨b=rb) w6 w8:=hV7.trans eX
   have iW:Upd (fun b=>b=R1∨b=rb) w5 w8:=hV6.trans eC
   have eZ:RepS true (d+1) fs_X0 (fun b=>(ok b∨w1.heap.size≤b)∧¬ ownB va0 b) w8 (.mk 0 [] false [xe0_0,xe0_1] []) [.int .u8 0,.int .u8 0,.int .u8 0,.int .u8 0,.int .u8 0,.int .u8 0,.int .u8 0,.int .u8 0,.int .u8 0,.int .u8 0,.int .u8 0,.int .u8 0,.int .u8 0,.int .u8 0,.int .u8 0,.int .u8 0,.pointer (some ⟨w6.heap.size,0,none⟩),.map none]:=RepS.introT (c:=[.int .u8 0,.int .u8 0,.int .u8 0,.int .u8 0,.int .u8 0,.int .u8 0,.int .u8 0,.int .u8 0,.int .u8 0,.int .u8 0,.int .u8 0,.int .u8 0,.int .u8 0,.int .u8 0,.int .u8 0,.int .u8 0,.pointer (some ⟨w6.heap.size,0,none⟩)]) (RepL.cons16 (fH.keepS (eC.keeps fun b _ hk e=>bN b hk e)) (RepL.cons1 (fI.keepS (eD.keeps fun b _ hk e=>bN b hk e)) RepL.nil)) fB
   have hrE:(rd1 (rdP (d+1) ver false) fQ_0.of fQ_0.sub false false) s2=((.mk 0 [] false [xe0_0,xe0_1] []),s3):=by rw [show (rd1 (rdP (d+1) ver false) fQ_0.of fQ_0.sub false false) s2=_ from rd1_part];exact eJ
   have hxE:(Rep1 (RepS true (d+1)) fQ_0.of fQ_0.sub) (fun b=>(ok b∨w1.heap.size≤b)∧¬ ownB va0 b) w8 (.mk 0 [] false [xe0_0,xe0_1] []) [.int .u8 0,.int .u8 0,.int .u8 0,.int .u8 0,.int .u8 0,.int .u8 0,.int .u8 0,.int .u8 0,.int .u8 0,.int .u8 0,.int .u8 0,.int .u8 0,.int .u8 0,.int .u8 0,.int .u8 0,.int .u8 0,.pointer (some ⟨w6.heap.size,0,none⟩),.map none]:=Rep1_part.2 eZ
   repeat ((first|refine qA rfl ?_|apply qB|refine qC rfl ?_|apply qD|apply qE|apply qF|apply qG|apply qH);try simp (disch:=(first|omega|(simp only [qI,qJ,qK]<;>omega)|exact qL _)) only [go_sem,↓reduceIte,n0,reduceCtorEq,n1,n2,n3,n4,n5,i0,i1,i2,i3,i4,i5,i6,i7,eO,aL,aM,aN,aO,aJ,aK,aA,aP])
   have hTk:Upd (fun b=>b=R1∨b=rb) w5 w8:=((hV6.trans hV7).trans hV8)
   have hL':=hL0.step (Rep1_lay _ _ fun _=>RepS_lay true _ _) cY (dV w8 [.int .u8 0,.int .u8 0,.int .u8 0,.int .u8 0,.int .u8 0,.int .u8 0,.int .u8 0,.int .u8 0,.int .u8 0,.int .u8 0,.int .u8 0,.int .u8 0,.int .u8 0,.int .u8 0,.int .u8 0,.int .u8 0,.pointer (some ⟨w6.heap.size,0,none⟩),.map none] rfl dX) (by rw [hrE];exact hxE) (hTk.mono fun b h=>h.imp (fun e=>⟨_,_,_,bK,e⟩) id) (by rw [hrE];exact hq8) (fun h=>hoM rb h (.inr rfl)) (Nat.le_refl _)
   have hij:IntKind.i32.wrap ((j1:Int)+1)=((j1+1:Nat):Int):=by rw [i32_wrap (by omega)];omega
   repeat ((first|refine qA rfl ?_|apply qB|refine qC rfl ?_|apply qD|apply qE|apply qF|apply qG|apply qH);try simp (disch:=(first|omega|(simp only [qI,qJ,qK]<;>omega)|exact qL _)) only [go_sem,↓reduceIte,n0,reduceCtorEq,n1,n2,n3,n4,n5,i0,i1,i2,i3,i4,i5,i6,i7,eO,aL,aM,aN,aO,aJ,aK,aA,aP,hij])
   refine ⟨⟨(by simp (disch:=(first|omega|(simp only [qI,qJ,qK]<;>omega)|exact qL _)) only [go_sem,↓reduceIte,n0,reduceCtorEq,n1,n2,n3,n4,n5,i0,i1,i2,i3,i4,i5,i6,i7,Holds_nil,Holds_cons,aL,aM,aN,aO,aJ,aK,aA,aP];exact bK.symm),j1+1,(by simp (disch:=(first|omega|(simp only [qI,qJ,qK]<;>omega)|exact qL _)) only [go_sem,↓reduceIte,n0,reduceCtorEq,n1,n2,n3,n4,n5,i0,i1,i2,i3,i4,i5,i6,i7,aL,aM,aN,aO,aJ,aK,aA,aP,hij];all_goals rfl),_,_,_,hL'⟩,?_⟩
   try simp (disch:=(first|omega|(simp only [qI,qJ,qK]<;>omega)|exact qL _)) only [go_sem,↓reduceIte,n0,reduceCtorEq,n1,n2,n3,n4,n5,i0,i1,i2,i3,i4,i5,i6,i7,aL,aM,aN,aO,aJ,aK,aA,aP]
   simp only [RowKit.intOf]
   omega
  ·have hjN:j1=N0:=by omega
   rw [hjN] at hL0
   repeat ((first|refine qA rfl ?_|apply qB|refine qC rfl ?_|apply qD|apply qE|apply qF|apply qG|apply qH);try simp (disch:=(first|omega|(simp only [qI,qJ,qK]<;>omega)|exact qL _)) only [go_sem,↓reduceIte,n0,reduceCtorEq,n1,n2,n3,n4,n5,i0,i1,i2,i3,i4,i5,i6,i7,aL,aM,aN,aO,aJ,aK,dE,aP])
   exact ⟨(by simp (disch:=(first|omega|(simp only [qI,qJ,qK]<;>omega)|exact qL _)) only [go_sem,↓reduceIte,n0,reduceCtorEq,n1,n2,n3,n4,n5,i0,i1,i2,i3,i4,i5,i6,i7,Holds_nil,Holds_cons,aL,aM,aN,aO,aJ,aK,dE,aP]),s2,xs0,css0,hL0⟩
 rintro ρ w9 ⟨⟨aT,aU,aV,aW,aQ,aS,aR,-⟩,s4,xs0,css0,hL0⟩
 have hq9:=hL0.rd
 have hu9:=hL0.upd
 have hv_9:=hu9.blk_some hv_2 (by omega)
 have hV9:Upd (fun b=>b=vb∨b=rb) w2 w9:=hu9.mono (fun _ h=>.inr h)
 have hU9:Upd (fun b=>b=vb∨b=rb) w1 w9:=hU2.trans hV9
 have hz9:=hV9.size
 have hG9:Glo ev w9:=hG1.updS hU9 aH aI
 have dW:rdF (rdP (d+1) ver false) ver false fQ_0 s0=(.mk 0 [] (nilS fQ_0 ver y0) xs0 [],s4):=by
  have h:=rdF_listE (pt:=(rdP (d+1) ver false)) (v:=ver) (flex:=false) (f:=fQ_0) (s:=s0) (xs:=xs0) (e:=s4) rfl (by rw [hy0,← hN0,← hs1];exact hL0.done)
  rw [hy0] at h;exact h
 have hs4:s4=(rdF (rdP (d+1) ver false) ver false fQ_0 s0).2:=by rw [dW]
 obtain ⟨aa0,qq0,fX⟩:=hL0.row.shape
 subst fX
 repeat ((first|refine qA rfl ?_|apply qB|refine qC rfl ?_|apply qD|apply qE|apply qF|apply qG|apply qH);try simp (disch:=(first|omega|(simp only [qI,qJ,qK]<;>omega)|exact qL _)) only [go_sem,↓reduceIte,n0,reduceCtorEq,n1,n2,n3,n4,n5,i0,i1,i2,i3,i4,i5,i6,i7,hv_9,aT,aU,aV,aW,aQ,aS,aR])
 generalize dH:wr w9 vb 1 [.slice aa0 N0 qq0] = w10
 have gK:Upd (fun b=>b=vb∨b=rb) w9 w10:=by rw [← dH];exact (Upd.refl _ _).wr _ _ (.inr (.inl rfl))
 have hv_10:blk w10 vb=some (#[.int .i16 ver,.slice aa0 N0 qq0,.bool false,.bool false,.bool false,.map none],68,(0,0)):=by rw [← dH,blk_wr_eq,hv_9];rfl
 have b9:=gK
 have hU10:Upd (fun b=>b=vb∨b=rb) w1 w10:=hU9.trans b9
 have hz10:=b9.size
 have iA:Glo ev w10:=hG1.updS hU10 aH aI
 have eN:Rdr RT ok w10 rb s4∧NN w10 rb s4:=by
  have hn:∀ x,x=w10→(Rdr RT ok x rb s4∧NN x rb s4):=fun x hx=>by
   rw [hx,← dH]
   exact Rdr.store hq9 (by omega) (fun h=>by have:=(hok _ h).1;first|omega|exact (hok _ h).2 rfl)
  exact hn _ rfl
 clear dH
 have hf_0:RepF (RepS true (d+1)) (szS true (d+1)) fQ_0 (fun b=>ok b∨w1.heap.size≤b) w10 (x_0) [.slice aa0 N0 qq0]:=by rw [hx_0,dW];exact RepF.keepS (RepF_row rfl dU hN0 rfl hL0.row hL0.all (fun b hb=>.inr (by omega))) (b9.keeps fun b _ hk e=>(hoM b hk) e)
 clear hL0 dU
 have hb_1:(rdL (rdP (d+1) ver false) (dfP (d+1)) ver false [fQ_1,fQ_2,fQ_3] s4).2=none→FB:=fun h=>hb_0 (by rw [rdL_st (by decide) hh_0,← hs4];exact h)
 obtain ⟨x_1,hx_1⟩:∃ x,x=dfF (dfP (d+1)) fQ_1:=⟨_,rfl⟩
 have hf_1:RepF (RepS true (d+1)) (szS true (d+1)) fQ_1 (fun b=>ok b∨w1.heap.size≤b) w10 (x_1) [.bool false]:=by rw [hx_1];exact (RepF_num (by decide)).2 rfl
 have hh_1:hasS fQ_1 ver=false:=hasS_f (by show ver < 4∨(0≤(-1:Int)∧(-1:Int) < ver);omega)
 have hb_2:(rdL (rdP (d+1) ver false) (dfP (d+1)) ver false [fQ_2,fQ_3] s4).2=none→FB:=fun h=>hb_1 (by rw [rdL_no hh_1];exact h)
 obtain ⟨x_2,hx_2⟩:∃ x,x=dfF (dfP (d+1)) fQ_2:=⟨_,rfl⟩
 have hf_2:RepF (RepS true (d+1)) (szS true (d+1)) fQ_2 (fun b=>ok b∨w1.heap.size≤b) w10 (x_2) [.bool false]:=by rw [hx_2];exact (RepF_num (by decide)).2 rfl
 have hh_2:hasS fQ_2 ver=false:=hasS_f (by show ver < 8∨(0≤(10:Int)∧(10:Int) < ver);omega)
 have hb_3:(rdL (rdP (d+1) ver false) (dfP (d+1)) ver false [fQ_3] s4).2=none→FB:=fun h=>hb_2 (by rw [rdL_no hh_2];exact h)
 obtain ⟨x_3,hx_3⟩:∃ x,x=dfF (dfP (d+1)) fQ_3:=⟨_,rfl⟩
 have hf_3:RepF (RepS true (d+1)) (szS true (d+1)) fQ_3 (fun b=>ok b∨w1.heap.size≤b) w10 (x_3) [.bool false]:=by rw [hx_3];exact (RepF_num (by decide)).2 rfl
 have hh_3:hasS fQ_3 ver=false:=hasS_f (by show ver < 8∨(0≤(-1:Int)∧(-1:Int) < ver);omega)
 have hl_4:rdL (rdP (d+1) ver false) (dfP (d+1)) ver false [] s4=([],s4):=rfl
 have hl_3:rdL (rdP (d+1) ver false) (dfP (d+1)) ver false [fQ_3] s4=([x_3],s4):=by rw [rdL_no hh_3,← hx_3,hl_4]
 have hl_2:rdL (rdP (d+1) ver false) (dfP (d+1)) ver false [fQ_2,fQ_3] s4=([x_2,x_3],s4):=by rw [rdL_no hh_2,← hx_2,hl_3]
 have hl_1:rdL (rdP (d+1) ver false) (dfP (d+1)) ver false [fQ_1,fQ_2,fQ_3] s4=([x_1,x_2,x_3],s4):=by rw [rdL_no hh_1,← hx_1,hl_2]
 have hl_0:rdL (rdP (d+1) ver false) (dfP (d+1)) ver false [fQ_0,fQ_1,fQ_2,fQ_3] s0=([x_0,x_1,x_2,x_3],s4):=by rw [rdL_st (by decide) hh_0,← hx_0,← hs4,hl_1]
 have hfin:rdP (d+2) ver false fs_Q s0=(.mk 0 [] false [x_0,x_1,x_2,x_3] [],s4):=rdP_f hl_0
 have hTg:TagsM (fun b=>ok b∨w1.heap.size≤b) w10 (.map none) []:=.inl ⟨rfl,rfl⟩
 have hC_10:Upd (fun b=>b=vb∨b=rb) w10 w10:=Upd.refl _ _
 have hC_9:Upd (fun b=>b=vb∨b=rb) w9 w10:=b9.trans hC_10
 have hC_2:Upd (fun b=>b=vb∨b=rb) w2 w10:=hV9.trans hC_9
 have hC_1:Upd (fun b=>b=vb∨b=rb) w1 w10:=hV2.trans hC_2
 have hR:RepS true (d+2) fs_Q (fun b=>ok b∨w1.heap.size≤b) w10 (.mk 0 [] false [x_0,x_1,x_2,x_3] []) [.slice aa0 N0 qq0,.bool false,.bool false,.bool false,.map none]:=RepS.introT (c:=[.slice aa0 N0 qq0,.bool false,.bool false,.bool false]) (RepL.cons1 (hf_0.keepS (hC_10.keeps fun b _ hk e=>(hoM b hk) e)) (RepL.cons1 (hf_1.keepS (hC_10.keeps fun b _ hk e=>(hoM b hk) e)) (RepL.cons1 (hf_2.keepS (hC_10.keeps fun b _ hk e=>(hoM b hk) e)) (RepL.cons1 (hf_3.keepS (hC_10.keeps fun b _ hk e=>(hoM b hk) e)) RepL.nil)))) hTg
 repeat ((first|refine qA rfl ?_|apply qB|refine qC rfl ?_|apply qD|apply qE|apply qF|apply qG|apply qH);try simp (disch:=(first|omega|(simp only [qI,qJ,qK]<;>omega)|exact qL _)) only [go_sem,↓reduceIte,n0,reduceCtorEq,n1,n2,n3,n4,n5,i0,i1,i2,i3,i4,i5,i6,i7,hv_10,aT,aU,aV,aW,aQ,aS,aR])
 refine (RComplete_fn w10 eN.1 iA.2).mono ?_
 rintro _ wz ⟨rfl,hez⟩
 rw [hez]
 repeat ((first|refine qA rfl ?_|apply qB|refine qC rfl ?_|apply qD|apply qE|apply qF|apply qG|apply qH);try simp (disch:=(first|omega|(simp only [qI,qJ,qK]<;>omega)|exact qL _)) only [go_sem,↓reduceIte,n0,reduceCtorEq,n1,n2,n3,n4,n5,i0,i1,i2,i3,i4,i5,i6,i7,hv_10,aT,aU,aV,aW,aQ,aS,aR])
 rw [hfin]
 refine ⟨fun h => ?_,fun h=>⟨?_,[.slice aa0 N0 qq0,.bool false,.bool false,.bool false,.map none],hv_10,?_⟩,?_⟩
 ·have h':s4=none:=h
  rw [h'];rfl
 ·cases hsn:s4 with
  | none=>exact absurd hsn h
  | some x=>rfl
 ·exact (RepS_lay true (d+2) fs_Q).weaken hR fun b _ hk=>hk.imp id fun h=>by omega
 ·exact hbase.trans' hU10 fun i hi h=>h.elim id fun h=>by omega
end Ms

