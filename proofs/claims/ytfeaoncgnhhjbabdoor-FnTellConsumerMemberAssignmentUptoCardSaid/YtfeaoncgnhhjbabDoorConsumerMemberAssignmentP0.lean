/- A part of the proof: see the last text. -/
import Derived.Test.YtfeaoncgnhhjbabDoorC05
import Derived.Test.YtfeaoncgnhhjbabDoorC06
import Derived.Test.YtfeaoncgnhhjbabDoorC07
import Derived.Test.YtfeaoncgnhhjbabDoorC08
import Derived.Test.YtfeaoncgnhhjbabDoorC09
set_option linter.unusedSimpArgs false
set_option linter.unusedVariables false
namespace Ms
open Nat renaming reduceEqDiff → n0,reduceAdd → n1,reduceMul → n2,reduceSub → n3,reduceLT → n4,reduceLeDiff → n5
open Int renaming reduceEq → i0,reduceLT → i1,reduceLE → i2,reduceNeg → i3,reduceAdd → i4,reduceSub → i5,reduceMul → i6,reduceToNat → i7
set_option maxRecDepth 4000
open Go Go.Proofs
theorem ap_32_32 : AppT Tryd.prog 32 32 35 5 88 := AppT.of (by kernel_rfl)
theorem ca_12 : callable Tryd.prog 12 = true := nr (by kernel_rfl)
theorem ca_13 : callable Tryd.prog 13 = true := nr (by kernel_rfl)
theorem ca_14 : callable Tryd.prog 14 = true := nr (by kernel_rfl)
theorem ca_15 : callable Tryd.prog 15 = true := nr (by kernel_rfl)
theorem ca_27 : callable Tryd.prog 27 = true := nr (by kernel_rfl)
theorem ca_28 : callable Tryd.prog 28 = true := nr (by kernel_rfl)
theorem ca_29 : callable Tryd.prog 29 = true := nr (by kernel_rfl)
theorem ca_30 : callable Tryd.prog 30 = true := nr (by kernel_rfl)
theorem ca_38 : callable Tryd.prog 38 = true := nr (by kernel_rfl)
theorem ca_39 : callable Tryd.prog 39 = true := nr (by kernel_rfl)
theorem ca_4 : callable Tryd.prog 4 = true := nr (by kernel_rfl)
theorem ca_40 : callable Tryd.prog 40 = true := nr (by kernel_rfl)
theorem ca_41 : callable Tryd.prog 41 = true := nr (by kernel_rfl)
theorem ca_42 : callable Tryd.prog 42 = true := nr (by kernel_rfl)
theorem ca_43 : callable Tryd.prog 43 = true := nr (by kernel_rfl)
theorem ca_45 : callable Tryd.prog 45 = true := nr (by kernel_rfl)
theorem ca_5 : callable Tryd.prog 5 = true := nr (by kernel_rfl)
theorem ca_6 : callable Tryd.prog 6 = true := nr (by kernel_rfl)
theorem ca_7 : callable Tryd.prog 7 = true := nr (by kernel_rfl)
theorem ca_9 : callable Tryd.prog 9 = true := nr (by kernel_rfl)
theorem es_48 : elemSize Tryd.prog 48 = some 2 := nr (by kernel_rfl)
theorem es_73 : elemSize Tryd.prog 73 = some 1 := nr (by kernel_rfl)
theorem fo_50_0 : fieldOff Tryd.prog 50 0 = some 0 := nr (by kernel_rfl)
theorem fo_50_1 : fieldOff Tryd.prog 50 1 = some 1 := nr (by kernel_rfl)
theorem fo_50_2 : fieldOff Tryd.prog 50 2 = some 2 := nr (by kernel_rfl)
theorem fo_75_0 : fieldOff Tryd.prog 75 0 = some 0 := nr (by kernel_rfl)
theorem fo_75_1 : fieldOff Tryd.prog 75 1 = some 1 := nr (by kernel_rfl)
theorem if_53 : isIfaceT Tryd.prog 53 = true := nr (by kernel_rfl)
theorem kn_9 : knownT Tryd.prog 9 = true := nr (by kernel_rfl)
theorem ld_21 (w : World) (b o : Nat) : loadOf Tryd.prog 21 w ⟨b,o,none⟩ = (blk w b).bind fun x => x.1[o]? := loadOf_one (by kernel_rfl) w b o
theorem ld_47 (w : World) (b o : Nat) : loadOf Tryd.prog 47 w ⟨b,o,none⟩ = (blk w b).bind fun x => x.1[o]? := loadOf_one (by kernel_rfl) w b o
theorem ld_48 (w : World) (b o : Nat) : loadOf Tryd.prog 48 w ⟨b,o,none⟩ = (blk w b).bind fun x => x.1[o]? := loadOf_one (by kernel_rfl) w b o
theorem ld_50 (w : World) (b o : Nat) : loadOf Tryd.prog 50 w ⟨b,o,none⟩ = (blk w b).bind fun x => cellsAt x.1 o 3 := loadOf_agg (by kernel_rfl) w b o
theorem ld_73 (w : World) (b o : Nat) : loadOf Tryd.prog 73 w ⟨b,o,none⟩ = (blk w b).bind fun x => x.1[o]? := loadOf_one (by kernel_rfl) w b o
theorem ld_9 (w : World) (b o : Nat) : loadOf Tryd.prog 9 w ⟨b,o,none⟩ = (blk w b).bind fun x => x.1[o]? := loadOf_one (by kernel_rfl) w b o
theorem pl_30 : placesOf Tryd.prog 30 = some [(0,1),(1,1)] := nr (by kernel_rfl)
theorem pl_46 : placesOf Tryd.prog 46 = some [(0,1),(1,1),(2,1),(3,1),(4,1),(5,1),(6,1),(7,1)] := nr (by kernel_rfl)
theorem pl_84 : placesOf Tryd.prog 84 = some [(0,1),(1,1)] := nr (by kernel_rfl)
theorem se_32 : slElem Tryd.prog 32 = some (35,5) := nr (by kernel_rfl)
theorem sl_48 : isSliceT Tryd.prog 48 = true := nr (by kernel_rfl)
theorem sl_73 : isSliceT Tryd.prog 73 = true := nr (by kernel_rfl)
theorem sz_2 (w : World) (b o : Nat) (v : Value) : storeOf Tryd.prog 2 w ⟨b,o,none⟩ v = (blk w b).bind fun x => stO w b o v x 1 := storeOf_n (by kernel_rfl) w b o v
theorem sz_21 (w : World) (b o : Nat) (v : Value) : storeOf Tryd.prog 21 w ⟨b,o,none⟩ v = (blk w b).bind fun x => stO w b o v x 1 := storeOf_n (by kernel_rfl) w b o v
theorem sz_30 (w : World) (b o : Nat) (v : Value) : storeOf Tryd.prog 30 w ⟨b,o,none⟩ v = (blk w b).bind fun x => stO w b o v x 2 := storeOf_n (by kernel_rfl) w b o v
theorem sz_32 (w : World) (b o : Nat) (v : Value) : storeOf Tryd.prog 32 w ⟨b,o,none⟩ v = (blk w b).bind fun x => stO w b o v x 1 := storeOf_n (by kernel_rfl) w b o v
theorem sz_47 (w : World) (b o : Nat) (v : Value) : storeOf Tryd.prog 47 w ⟨b,o,none⟩ v = (blk w b).bind fun x => stO w b o v x 1 := storeOf_n (by kernel_rfl) w b o v
theorem sz_48 (w : World) (b o : Nat) (v : Value) : storeOf Tryd.prog 48 w ⟨b,o,none⟩ v = (blk w b).bind fun x => stO w b o v x 1 := storeOf_n (by kernel_rfl) w b o v
theorem sz_50 (w : World) (b o : Nat) (v : Value) : storeOf Tryd.prog 50 w ⟨b,o,none⟩ v = (blk w b).bind fun x => stO w b o v x 3 := storeOf_n (by kernel_rfl) w b o v
theorem sz_73 (w : World) (b o : Nat) (v : Value) : storeOf Tryd.prog 73 w ⟨b,o,none⟩ v = (blk w b).bind fun x => stO w b o v x 1 := storeOf_n (by kernel_rfl) w b o v
theorem sz_84 (w : World) (b o : Nat) (v : Value) : storeOf Tryd.prog 84 w ⟨b,o,none⟩ v = (blk w b).bind fun x => stO w b o v x 2 := storeOf_n (by kernel_rfl) w b o v
theorem sz_9 (w : World) (b o : Nat) (v : Value) : storeOf Tryd.prog 9 w ⟨b,o,none⟩ v = (blk w b).bind fun x => stO w b o v x 1 := storeOf_n (by kernel_rfl) w b o v
theorem z_30 : zeroOf Tryd.prog 30 = some #[.slice none 0 0,.int .i64 0] := nr (by kernel_rfl)
theorem z_4 : zeroOf Tryd.prog 4 = some #[.bool false] := nr (by kernel_rfl)
theorem z_50 : zeroOf Tryd.prog 50 = some #[.int .i16 0,.slice none 0 0,.slice none 0 0] := nr (by kernel_rfl)
theorem z_84 : zeroOf Tryd.prog 84 = some #[.slice none 0 0,.bool false] := nr (by kernel_rfl)
attribute [go_sem] ca_12 ca_13 ca_14 ca_15 ca_27 ca_28 ca_29 ca_30 ca_38 ca_39 ca_4 ca_40 ca_41 ca_42 ca_43 ca_45 ca_5 ca_6 ca_7 ca_9 es_48 es_73 fo_50_0 fo_50_1 fo_50_2 fo_75_0 fo_75_1 if_53 kn_9 ld_21 ld_47 ld_48 ld_50 ld_73 ld_9 pl_30 pl_46 pl_84 se_32 sl_48 sl_73 sz_2 sz_21 sz_30 sz_32 sz_47 sz_48 sz_50 sz_73 sz_84 sz_9 z_30 z_4 z_50 z_84
end Ms

namespace Ms
open Go
abbrev qZ5 : Array Value := #[.int .i64 0,.slice none 0 0,.bool false,.slice none 0 0,.slice none 0 0]
end Ms

namespace Ms
open Go.World renaming size_alloc → qI
open Ms renaming size_wr → qJ,size_drew → qK,not_noB → qL
open W renaming seqR → qA,seq → qB,regR → qC,condK → qD,block → qE,skip → qF,ret → qG,exit → qH
open Nat renaming reduceEqDiff → n0,reduceAdd → n1,reduceMul → n2,reduceSub → n3,reduceLT → n4,reduceLeDiff → n5
open Int renaming reduceEq → i0,reduceLT → i1,reduceLE → i2,reduceNeg → i3,reduceAdd → i4,reduceSub → i5,reduceMul → i6,reduceToNat → i7
set_option maxRecDepth 8000
open Go Go.Proofs Go.Shelf
attribute [local congr] W_congr WPsq_congr WPp_congr optK_congr addrK_congr intK_congr boolK_congr sliceK_congr tupleK_congr funcK_congr Fn_congr rawK_congr takeK_congr stepK_congr convK_congr aggK_congr

def fX0_0 : Fld := .mk 8 0 (-1) (-1) (-1) 0 0 []
def fX0_1 : Fld := .mk 11 0 (-1) (-1) (-1) 0 3 []
def fs_X0 : List Fld := [fX0_0,fX0_1]
def fQ_0 : Fld := .mk 11 0 (-1) (-1) (-1) 0 10 fs_X0
def fQ_1 : Fld := .mk 9 0 (-1) (-1) (-1) 0 0 []
def fs_Q : List Fld := [fQ_0,fQ_1]

set_option maxHeartbeats 4000000 in
theorem cX0_fn (w : World) : Fn Tryd.prog 12 #[] w fun r w' => FldsV (fun b => w.heap.size ≤ b) w' r fs_X0 ∧ Ext w w' := by
  refine fn_of_W Tryd.func12 rfl Tryd.results12 Tryd.ntmps12 rfl ?_
  repeat ((first | refine qA rfl ?_|apply qB|refine qC rfl ?_|apply qD|apply qE|apply qF|apply qG|apply qH);try simp (maxSteps:=1000000)(disch:=(first|omega|(simp only [qI,qJ,qK]<;>omega)|exact qL _)) only [go_sem,↓reduceIte,n0,reduceCtorEq,n1,n2,n3,n4,n5,i0,i1,i2,i3,i4,i5,i6,i7,fill_fld,fillN_nil,fillN_int,fillN_slice])
  repeat ((first | refine qA rfl ?_|apply qB|refine qC rfl ?_|apply qD|apply qE|apply qF|apply qG|apply qH);try simp (maxSteps:=1000000)(disch:=(first|omega|(simp only [qI,qJ,qK]<;>omega)|exact qL _)) only [go_sem,↓reduceIte,n0,reduceCtorEq,n1,n2,n3,n4,n5,i0,i1,i2,i3,i4,i5,i6,i7,fill_fld,fillN_nil,fillN_int,fillN_slice])
  exact ⟨FldsV.litO (fs := fs_X0) (css := [[.int .i64 8,.int .i64 0,.int .i64 (-1),.int .i64 (-1),.int .i64 (-1),.int .i64 0,.int .i64 0,.slice none 0 0],[.int .i64 11,.int .i64 0,.int .i64 (-1),.int .i64 (-1),.int .i64 (-1),.int .i64 0,.int .i64 3,.slice none 0 0]]) (T := 46) (fr := (0,0)) (by first | omega | (simp only [World.size_alloc];omega)) (by first | (simp (maxSteps:=1000000)(disch:=(first|omega|(simp only [qI,qJ,qK]<;>omega)|exact qL _)) only [go_sem,↓reduceIte,n0,reduceCtorEq,n1,n2,n3,n4,n5,i0,i1,i2,i3,i4,i5,i6,i7];rfl) | rfl) (by simp) (All2.cons (FldC.intro (kind := 8) (FldsV.none _ _)) (All2.cons (FldC.intro (kind := 11) (FldsV.none _ _)) All2.nil)),(Upd.alloc (Upd.refl _ w) _)⟩

set_option maxHeartbeats 4000000 in
theorem cQ_fn (w : World) : Fn Tryd.prog 5 #[] w fun r w' => (∃ vs,r = .agg #[vs,.int .i64 (-1)] ∧ FldsV (fun b => w.heap.size ≤ b) w' vs fs_Q) ∧ Ext w w' := by
  refine fn_of_W Tryd.func5 rfl Tryd.results5 Tryd.ntmps5 rfl ?_
  repeat ((first | refine qA rfl ?_|apply qB|refine qC rfl ?_|apply qD|apply qE|apply qF|apply qG|apply qH);try simp (maxSteps:=1000000)(disch:=(first|omega|(simp only [qI,qJ,qK]<;>omega)|exact qL _)) only [go_sem,↓reduceIte,n0,reduceCtorEq,n1,n2,n3,n4,n5,i0,i1,i2,i3,i4,i5,i6,i7,fill_fld,fillN_nil,fillN_int,fillN_slice])
  have hz0 : (w.alloc (.cells #[.slice none 0 0,.int .i64 0] 30)).heap.size = w.heap.size + 1 := World.size_alloc _ _
  refine (cX0_fn _).mono ?_
  rintro r1 w1 ⟨hF1,hE1⟩
  obtain ⟨b1,k1,rfl,_⟩ := SlR.shape hF1
  have hz1 := hE1.size
  have hD1 : Ext w w1 := Upd.trans (Upd.alloc (Upd.refl _ _) _) hE1
  have hb1 : blk w1 w.heap.size = some (#[.slice none 0 0,.int .i64 0],30,(0,0)) := hE1.blk_some (blk_alloc_new rfl) id
  simp (maxSteps:=1000000)(disch:=(first|omega|(simp only [qI,qJ,qK]<;>omega)|exact qL _)) only [go_sem,↓reduceIte,n0,reduceCtorEq,n1,n2,n3,n4,n5,i0,i1,i2,i3,i4,i5,i6,i7,fill_fld,fillN_nil,fillN_int,fillN_slice,hb1]
  have hvl := blk_lt hb1
  repeat ((first | refine qA rfl ?_|apply qB|refine qC rfl ?_|apply qD|apply qE|apply qF|apply qG|apply qH);try simp (maxSteps:=1000000)(disch:=(first|omega|(simp only [qI,qJ,qK]<;>omega)|exact qL _)) only [go_sem,↓reduceIte,n0,reduceCtorEq,n1,n2,n3,n4,n5,i0,i1,i2,i3,i4,i5,i6,i7,fill_fld,fillN_nil,fillN_int,fillN_slice,hb1])
  exact ⟨⟨_,rfl,FldsV.litO (fs := fs_Q) (css := [[.int .i64 11,.int .i64 0,.int .i64 (-1),.int .i64 (-1),.int .i64 (-1),.int .i64 0,.int .i64 10,.slice b1 fs_X0.length k1],[.int .i64 9,.int .i64 0,.int .i64 (-1),.int .i64 (-1),.int .i64 (-1),.int .i64 0,.int .i64 0,.slice none 0 0]]) (T := 46) (fr := (0,0)) (by first | omega | (simp only [World.size_alloc];omega)) (by first | (simp (maxSteps:=1000000)(disch:=(first|omega|(simp only [qI,qJ,qK]<;>omega)|exact qL _)) only [go_sem,↓reduceIte,n0,reduceCtorEq,n1,n2,n3,n4,n5,i0,i1,i2,i3,i4,i5,i6,i7];rfl) | rfl) (by simp) (All2.cons (FldC.intro (kind := 11) (hF1.stay (B := w.heap.size) (Upd.wr (Upd.alloc (Upd.refl _ _) _) _ _ (.inr rfl)) (by omega) (fun b hb => by omega))) (All2.cons (FldC.intro (kind := 9) (FldsV.none _ _)) All2.nil))⟩,(Upd.wr (Upd.alloc hD1 _) _ _ (.inl (Nat.le_refl _)))⟩

theorem DefaultQ_fn (w : World) {vb : Nat} {c0 c1 c2 : Value} (hb : blk w vb = some (#[c0,c1,c2],50,(0,0))) :
    Fn Tryd.prog 27 #[.pointer (some ⟨vb,0,none⟩)] w fun _ w' => blk w' vb = some (#[c0,c1,c2],50,(0,0)) ∧ Upd (fun b => b = vb) w w' := by
  have hvl := blk_lt hb
  refine fn_of_W Tryd.func27 rfl Tryd.results27 Tryd.ntmps27 rfl ?_
  repeat ((first | refine qA rfl ?_|apply qB|refine qC rfl ?_|apply qD|apply qE|apply qF|apply qG|apply qH);try simp (maxSteps:=1000000)(disch:=(first|omega|(simp only [qI,qJ,qK]<;>omega)|exact qL _)) only [go_sem,↓reduceIte,n0,reduceCtorEq,n1,n2,n3,n4,n5,i0,i1,i2,i3,i4,i5,i6,i7,hb])
  first | exact Upd.refl _ _ | exact ⟨hb,Upd.refl _ _⟩

theorem NewQ_fn (w : World) : Fn Tryd.prog 13 #[] w fun r w' => r = .agg #[.int .i16 0,.slice none 0 0,.slice none 0 0] ∧ Ext w w' := by
  have hcz : cellsAt #[.int .i16 0,.slice none 0 0,.slice none 0 0] 0 3 = some (.agg #[.int .i16 0,.slice none 0 0,.slice none 0 0]) := cellsAt_full rfl
  have hE : Ext w ((w.alloc (.cells #[.int .i16 0,.slice none 0 0,.slice none 0 0] 50)).alloc (.cells #[.int .i16 0,.slice none 0 0,.slice none 0 0] 50)) := Upd.alloc (Upd.alloc (Upd.refl _ _) _) _
  have hb0 : blk ((w.alloc (.cells #[.int .i16 0,.slice none 0 0,.slice none 0 0] 50)).alloc (.cells #[.int .i16 0,.slice none 0 0,.slice none 0 0] 50)) w.heap.size = some (#[.int .i16 0,.slice none 0 0,.slice none 0 0],50,(0,0)) := by simp (maxSteps:=1000000)(disch:=(first|omega|(simp only [qI,qJ,qK]<;>omega)|exact qL _)) only [go_sem,↓reduceIte,n0,reduceCtorEq,n1,n2,n3,n4,n5,i0,i1,i2,i3,i4,i5,i6,i7]
  have hb1 : blk ((w.alloc (.cells #[.int .i16 0,.slice none 0 0,.slice none 0 0] 50)).alloc (.cells #[.int .i16 0,.slice none 0 0,.slice none 0 0] 50)) (w.heap.size + 1) = some (#[.int .i16 0,.slice none 0 0,.slice none 0 0],50,(0,0)) := blk_alloc_new (by simp only [World.size_alloc])
  have hz1 : ((w.alloc (.cells #[.int .i16 0,.slice none 0 0,.slice none 0 0] 50)).alloc (.cells #[.int .i16 0,.slice none 0 0,.slice none 0 0] 50)).heap.size = w.heap.size + 2 := by simp only [World.size_alloc]
  refine fn_of_W Tryd.func13 rfl Tryd.results13 Tryd.ntmps13 rfl ?_
  repeat ((first | refine qA rfl ?_|apply qB|refine qC rfl ?_|apply qD|apply qE|apply qF|apply qG|apply qH);try simp (maxSteps:=1000000)(disch:=(first|omega|(simp only [qI,qJ,qK]<;>omega)|exact qL _)) only [go_sem,↓reduceIte,n0,reduceCtorEq,n1,n2,n3,n4,n5,i0,i1,i2,i3,i4,i5,i6,i7])
  generalize ((w.alloc (.cells #[.int .i16 0,.slice none 0 0,.slice none 0 0] 50)).alloc (.cells #[.int .i16 0,.slice none 0 0,.slice none 0 0] 50)) = w1 at *
  refine (DefaultQ_fn w1 hb1).mono ?_
  rintro _ w2 ⟨hb2,hU2⟩
  have hz2 := hU2.size
  have hb02 := hU2.blk_some hb0 (by omega)
  have hE2 : Ext w w2 := hE.more hU2 fun b hb h => by omega
  repeat ((first | refine qA rfl ?_|apply qB|refine qC rfl ?_|apply qD|apply qE|apply qF|apply qG|apply qH);try simp (maxSteps:=1000000)(disch:=(first|omega|(simp only [qI,qJ,qK]<;>omega)|exact qL _)) only [go_sem,↓reduceIte,n0,reduceCtorEq,n1,n2,n3,n4,n5,i0,i1,i2,i3,i4,i5,i6,i7,hb2,hb02,hcz])
  first | exact hE2.wr _ _ (.inl (Nat.le_refl _)) | exact ⟨rfl,hE2.wr _ _ (.inl (Nat.le_refl _))⟩

def frQ_1 : Fld := .mk 9 0 (-1) 0 (-1) 0 0 []
def fsr_Q : List Fld := [fQ_0,frQ_1]

theorem utQ_48 : Tryd.prog.underlying 48 = some (.slice 75) := by kernel_rfl
theorem utQ_21 : Tryd.prog.underlying 21 = some (.int .i32) := by kernel_rfl
theorem inQ_75 : (Tryd.prog.info? 75).map (fun i => (i.size,i.bytes,i.zero.map (·.cells))) = some (2,40,some #[.string ByteArray.empty,.slice none 0 0]) := by kernel_rfl
theorem utQ_73 : Tryd.prog.underlying 73 = some (.slice 21) := by kernel_rfl
theorem inQ_21 : (Tryd.prog.info? 21).map (fun i => (i.size,i.bytes,i.zero.map (·.cells))) = some (1,4,some #[.int .i32 0]) := by kernel_rfl

theorem DefaultEX0_fn (w : World) {R k : Nat} {A B : List Value} {c0 c1 : Value} {E : TypeId} (hb : blk w R = some ((A ++ ([c0,c1] ++ B)).toArray,E,(0,0))) (hA : A.length = k) :
    Fn Tryd.prog 41 #[.pointer (some ⟨R,k,none⟩)] w fun _ w' => blk w' R = some ((A ++ ([c0,c1] ++ B)).toArray,E,(0,0)) ∧ Upd (fun b => b = R) w w' := by
  have hRl := blk_lt hb
  obtain ⟨X,hX⟩ : ∃ X : Array Value,X = (A ++ (([c0,c1] : List Value) ++ B)).toArray := ⟨_,rfl⟩
  have hXs : k + 2 ≤ X.size := by rw [hX];simp only [List.size_toArray,List.length_append,List.length_cons,List.length_nil,hA];omega
  have hb' : blk w R = some (X,E,(0,0)) := by rw [hX];exact hb
  refine fn_of_W Tryd.func41 rfl Tryd.results41 Tryd.ntmps41 rfl ?_
  repeat ((first | refine qA rfl ?_|apply qB|refine qC rfl ?_|apply qD|apply qE|apply qF|apply qG|apply qH);try simp (maxSteps:=1000000)(disch:=(first|omega|(simp only [qI,qJ,qK]<;>omega)|exact qL _)) only [go_sem,↓reduceIte,n0,reduceCtorEq,n1,n2,n3,n4,n5,i0,i1,i2,i3,i4,i5,i6,i7,hb',Array.size_setIfInBounds])
  first | exact ⟨hb,Upd.refl _ _⟩ | exact Upd.refl _ _ | (rw [hX];exact ⟨rfl,Upd.refl _ _⟩)

set_option maxHeartbeats 4000000 in
theorem readQ_0 {d : Nat} {ok : Blocks} {ver : Int} {ev : Value} (hlo : 0 ≤ ver) (hhi : ver ≤ 32767) (w : World) {vb : Nat} (src : Value) (s : List UInt8) (hvc : (rdInt .i16 2 (some s)).1 = ver ∨ ((rdInt .i16 2 (some s)).1 < 0 ∧ ver = 0)) (hv : blk w vb = some (#[.int .i16 0,.slice none 0 0,.slice none 0 0],50,(0,0))) (hsrc : BytesV ok w src s) (hok0 : ∀ b,ok b → b < w.heap.size ∧ b ≠ vb) (hG : Glo ev w) (hgv : ¬ 0 = vb ∧ ¬ 1 = vb) :
    Fn Tryd.prog 28 #[.pointer (some ⟨vb,0,none⟩),src,.bool false] w (ReadQF 50 ok (rdInt .i16 2 (some s)).1 (d + 2) fsr_Q vb w (rdP (d + 2) ver false fsr_Q (rdInt .i16 2 (some s)).2) ev) := by
  have hvl := blk_lt hv
  have hgs := hG.lt
  obtain ⟨sa,sc,rfl,_⟩ := hsrc.shape
  refine fn_of_W Tryd.func28 rfl Tryd.results28 Tryd.ntmps28 rfl ?_
  repeat ((first | refine qA rfl ?_|apply qB|refine qC rfl ?_|apply qD|apply qE|apply qF|apply qG|apply qH);try simp (maxSteps:=1000000)(disch:=(first|omega|(simp only [qI,qJ,qK]<;>omega)|exact qL _)) only [go_sem,↓reduceIte,n0,reduceCtorEq,n1,n2,n3,n4,n5,i0,i1,i2,i3,i4,i5,i6,i7,hv])
  refine (DefaultQ_fn w hv).mono ?_
  rintro _ w0 ⟨hv0,hu0⟩
  have hz0 := hu0.size
  have hsrc0 : BytesV ok w0 (.slice sa s.length sc) s := hsrc.keep (hu0.keeps fun b _ hk e => (hok0 b hk).2 e)
  obtain ⟨rb,hrb⟩ : ∃ r,r = w0.heap.size := ⟨_,rfl⟩
  have hE1 : Ext w0 (wr (w0.alloc (.cells #[.slice none 0 0,.bool false] 84)) w0.heap.size 0 [.slice sa s.length sc,.bool false]) := (Upd.alloc (Upd.refl _ _) _).wr _ _ (.inl (Nat.le_refl _))
  have hz1 : (wr (w0.alloc (.cells #[.slice none 0 0,.bool false] 84)) w0.heap.size 0 [.slice sa s.length sc,.bool false]).heap.size = w0.heap.size + 1 := by rw [size_wr,World.size_alloc]
  have hR1 : Rdr RT ok (wr (w0.alloc (.cells #[.slice none 0 0,.bool false] 84)) w0.heap.size 0 [.slice sa s.length sc,.bool false]) w0.heap.size (some s) := Rdr.good (v := .slice sa s.length sc) (by simp (maxSteps:=1000000)(disch:=(first|omega|(simp only [qI,qJ,qK]<;>omega)|exact qL _)) only [go_sem,↓reduceIte,n0,reduceCtorEq,n1,n2,n3,n4,n5,i0,i1,i2,i3,i4,i5,i6,i7]) (hsrc0.keep (hE1.keeps _))
  have hv_1 := hE1.blk_some hv0 id
  repeat ((first | refine qA rfl ?_|apply qB|refine qC rfl ?_|apply qD|apply qE|apply qF|apply qG|apply qH);try simp (maxSteps:=1000000)(disch:=(first|omega|(simp only [qI,qJ,qK]<;>omega)|exact qL _)) only [go_sem,↓reduceIte,n0,reduceCtorEq,n1,n2,n3,n4,n5,i0,i1,i2,i3,i4,i5,i6,i7,hv0])
  generalize (wr (w0.alloc (.cells #[.slice none 0 0,.bool false] 84)) w0.heap.size 0 [.slice sa s.length sc,.bool false]) = w1 at *
  rw [← hrb] at hR1
  try rw [← hrb]
  have hok : ∀ b,ok b → b < w.heap.size ∧ b ≠ vb := hok0
  have hrok : ¬ ok rb := fun h => by have := (hok rb h).1;omega
  have hbase : Upd (fun b => b = vb) w w1 := hu0.trans (hE1.mono fun _ h => h.elim)
  have hG1 : Glo ev w1 := hG.updS hbase hgv.1 hgv.2
  have hgrb : ¬ 0 = rb := by omega
  have hgM1 : ¬ (0 = vb ∨ 0 = rb) := fun h => h.elim hgv.1 fun h => by omega
  have hgM2 : ¬ (1 = vb ∨ 1 = rb) := fun h => h.elim hgv.2 fun h => by omega
  obtain ⟨s0,hs0⟩ : ∃ s' : St,s' = some s := ⟨_,rfl⟩
  rw [← hs0] at hR1 hvc ⊢
  have hU1 : Upd (fun b => b = vb ∨ b = rb) w1 w1 := Upd.refl _ _
  have hoM : ∀ b,(ok b ∨ w1.heap.size ≤ b) → ¬ (b = vb ∨ b = rb) := fun b hk h => by
    rcases hk with hk | hk
    · have := hok b hk;rcases h with h | h <;> omega
    · rcases h with h | h <;> omega
  have hq1 : Rdr RT ok w1 rb s0 := hR1
  repeat ((first | refine qA rfl ?_|apply qB|refine qC rfl ?_|apply qD|apply qE|apply qF|apply qG|apply qH);try simp (maxSteps:=1000000)(disch:=(first|omega|(simp only [qI,qJ,qK]<;>omega)|exact qL _)) only [go_sem,↓reduceIte,n0,reduceCtorEq,n1,n2,n3,n4,n5,i0,i1,i2,i3,i4,i5,i6,i7,hv_1])
  refine (Int16_fn w1 hq1 hrok hG1.1 hgrb).mono ?_
  rintro _ w2 ⟨rfl,hq2,hu2⟩
  have hv_2 := hu2.blk_some hv_1 (by omega)
  have hV2 : Upd (fun b => b = vb ∨ b = rb) w1 w2 := hu2.mono (fun _ h => .inr h)
  have hU2 : Upd (fun b => b = vb ∨ b = rb) w1 w2 := hU1.trans hV2
  have hz2 := hV2.size
  have hG2 : Glo ev w2 := hG1.updS hU2 hgM1 hgM2
  obtain ⟨s1,hs1⟩ : ∃ s,s = (rdInt .i16 2 s0).2 := ⟨_,rfl⟩
  obtain ⟨vc,hvcE⟩ : ∃ x,x = (rdInt .i16 2 s0).1 := ⟨_,rfl⟩
  rw [← hs1] at hq2
  rw [← hvcE] at hvc
  rw [← hvcE,← hs1]
  repeat (first|simp (maxSteps:=1000000)(disch:=(first|omega|(simp only [qI,qJ,qK]<;>omega)|exact qL _)) only [go_sem,↓reduceIte,n0,reduceCtorEq,n1,n2,n3,n4,n5,i0,i1,i2,i3,i4,i5,i6,i7,hv_2]|refine qA rfl ?_|apply qB|refine qC rfl ?_|apply qD|apply qE|apply qF|apply qG|apply qH)
  generalize hw3 : wr w2 vb 0 [.int .i16 vc] = w3
  have hS3 : Upd (fun b => b = vb ∨ b = rb) w2 w3 := by rw [← hw3];exact (Upd.refl _ _).wr _ _ (.inr (.inl rfl))
  have hv_3 : blk w3 vb = some (#[.int .i16 vc,.slice none 0 0,.slice none 0 0],50,(0,0)) := by rw [← hw3,blk_wr_eq,hv_2];rfl
  have hV3 := hS3
  have hU3 : Upd (fun b => b = vb ∨ b = rb) w1 w3 := hU2.trans hV3
  have hz3 := hV3.size
  have hG3 : Glo ev w3 := hG1.updS hU3 hgM1 hgM2
  have hq3 := Rdr.stored hw3 hq2 (by omega) fun h => by have := (hok _ h).1;first | omega | exact (hok _ h).2 rfl
  clear hw3
  obtain ⟨FB,hFB⟩ : ∃ P : Prop,P = ((rdP (d + 2) ver false fsr_Q s1).2 = none) := ⟨_,rfl⟩
  have hb_0 : (rdL (rdP (d + 1) ver false) (dfP (d + 1)) ver false [fQ_0,frQ_1] s1).2 = none → FB := fun h => Eq.mpr hFB (rdP_bad h)
  have hh_0 : hasS fQ_0 ver = true := hasS_t (by show (0 : Int) ≤ ver;omega) (by show (-1 : Int) < 0 ∨ ver ≤ (-1 : Int);omega)
  obtain ⟨x_0,hx_0⟩ : ∃ x,x = (rdF (rdP (d + 1) ver false) ver false fQ_0 s1).1 := ⟨_,rfl⟩
  repeat ((first | refine qA rfl ?_|apply qB|refine qC rfl ?_|apply qD|apply qE|apply qF|apply qG|apply qH);try simp (maxSteps:=1000000)(disch:=(first|omega|(simp only [qI,qJ,qK]<;>omega)|exact qL _)) only [go_sem,↓reduceIte,n0,reduceCtorEq,n1,n2,n3,n4,n5,i0,i1,i2,i3,i4,i5,i6,i7,hv_3])
  refine (RArrayLen_fn w3 hq3.1 hrok hG3.1 hgrb).mono ?_
  rintro _ w4 ⟨rfl,hq4,hu4⟩
  have hv_4 := hu4.blk_some hv_3 (by omega)
  have hV4 : Upd (fun b => b = vb ∨ b = rb) w3 w4 := hu4.mono (fun _ h => .inr h)
  have hU4 : Upd (fun b => b = vb ∨ b = rb) w1 w4 := hU3.trans hV4
  have hz4 := hV4.size
  have hG4 : Glo ev w4 := hG1.updS hU4 hgM1 hgM2
  obtain ⟨s2,hs2⟩ : ∃ s,s = (rdALen false s1).2 := ⟨_,rfl⟩
  rw [← hs2] at hq4
  have hyr0 := rdALen_rng false s1
  generalize hy0 : (rdALen false s1).1 = y0 at *
  obtain ⟨N0,hN0⟩ : ∃ N,N = y0.toNat := ⟨_,rfl⟩
  have hlb0 : (rdMany (rd1 (rdP (d + 1) ver false) fQ_0.of fQ_0.sub false false) N0 s2).2 = none → FB := fun h => hb_0 (by rw [rdL_st (by decide) hh_0];exact rdL_bad (rdF_listbad rfl (by rw [hy0,← hN0,← hs2];exact h)))
  repeat ((first | refine W.seqR rfl ?_ | refine W.seq ?_ | refine W.regR rfl ?_ | refine W.block ?_ | refine W.skip ?_ | refine W.ret ?_ | refine W.exit ?_);try simp (maxSteps:=1000000)(disch:=(first|omega|(simp only [qI,qJ,qK]<;>omega)|exact qL _)) only [go_sem,↓reduceIte,n0,reduceCtorEq,n1,n2,n3,n4,n5,i0,i1,i2,i3,i4,i5,i6,i7,hv_4])
  refine (ROk_fn w4 hq4.1).mono ?_
  rintro _ wz ⟨rfl,hez⟩
  rw [hez]
  clear hez wz
  by_cases hsn0 : s2 = none
  · have hso : s2.isSome = false := by rw [hsn0];rfl
    repeat (first|simp (maxSteps:=1000000)(disch:=(first|omega|(simp only [qI,qJ,qK]<;>omega)|exact qL _)) only [go_sem,↓reduceIte,n0,reduceCtorEq,n1,n2,n3,n4,n5,i0,i1,i2,i3,i4,i5,i6,i7,hv_4,hso]|refine qA rfl ?_|apply qB|refine qC rfl ?_|apply qD|apply qE|apply qF|apply qG|apply qH)
    refine (RComplete_fn w4 hq4.1 hG4.2).mono ?_
    rintro _ wz ⟨rfl,hez⟩
    rw [hez]
    repeat (first|simp (maxSteps:=1000000)(disch:=(first|omega|(simp only [qI,qJ,qK]<;>omega)|exact qL _)) only [go_sem,↓reduceIte,n0,reduceCtorEq,n1,n2,n3,n4,n5,i0,i1,i2,i3,i4,i5,i6,i7,hv_4]|refine qA rfl ?_|apply qB|refine qC rfl ?_|apply qD|apply qE|apply qF|apply qG|apply qH)
    rw [errV_none hsn0]
    exact ReadQF.bad (Eq.mp hFB (hlb0 (by rw [hsn0];exact rdMany_none rd1P_none _))) (hbase.trans' hU4 fun i hi h => h.elim id fun h => by omega)
  have hso0 : s2.isSome = true := isSome_some hsn0
  try simp (maxSteps:=1000000)(disch:=(first|omega|(simp only [qI,qJ,qK]<;>omega)|exact qL _)) only [go_sem,↓reduceIte,n0,reduceCtorEq,n1,n2,n3,n4,n5,i0,i1,i2,i3,i4,i5,i6,i7,hv_4,hso0]
  repeat ((first | refine W.seqR rfl ?_ | refine W.seq ?_ | refine W.regR rfl ?_ | refine W.block ?_ | refine W.skip ?_ | refine W.ret ?_ | refine W.exit ?_);try simp (maxSteps:=1000000)(disch:=(first|omega|(simp only [qI,qJ,qK]<;>omega)|exact qL _)) only [go_sem,↓reduceIte,n0,reduceCtorEq,n1,n2,n3,n4,n5,i0,i1,i2,i3,i4,i5,i6,i7,hv_4,hso0])
  refine W.condK ?_
  try simp (maxSteps:=1000000)(disch:=(first|omega|(simp only [qI,qJ,qK]<;>omega)|exact qL _)) only [go_sem,↓reduceIte,n0,reduceCtorEq,n1,n2,n3,n4,n5,i0,i1,i2,i3,i4,i5,i6,i7,hv_4,hso0]
  repeat ((first | refine W.seqR rfl ?_ | refine W.seq ?_ | refine W.regR rfl ?_ | refine W.block ?_ | refine W.skip ?_ | refine W.ret ?_ | refine W.exit ?_);try simp (maxSteps:=1000000)(disch:=(first|omega|(simp only [qI,qJ,qK]<;>omega)|exact qL _)) only [go_sem,↓reduceIte,n0,reduceCtorEq,n1,n2,n3,n4,n5,i0,i1,i2,i3,i4,i5,i6,i7,hv_4,hso0,slBase_00])
  refine W.normJ (RowQ [(2,.bool false),(7,.pointer (some ⟨rb,0,none⟩)),(8,.int .i16 vc),(9,.pointer (some ⟨vb,0,none⟩)),(12,.int .i32 y0)] 11 (fun va w' => LstI RT (rd1 (rdP (d + 1) ver false) fQ_0.of fQ_0.sub false false) (Rep1 (RepS false (d + 1)) fQ_0.of fQ_0.sub) 2 75 [.string ByteArray.empty,.slice none 0 0] w4.heap.size N0 ok (fun b => ok b ∨ w1.heap.size ≤ b) rb w4 s2 va 0 s2 [] [] w' ∧ (N0 = 0 → if nilS fQ_0 ver y0 = true then va = .slice none 0 0 else ∃ a,va = .slice (some a) 0 0))) ?_ ?_
  · by_cases hy0 : (0 : Int) < y0
    · have hyv : Value.int .i32 y0 = .int .i32 ((N0 : Nat) : Int) := by rw [show y0 = ((N0 : Nat) : Int) by omega]
      repeat ((first | refine qA rfl ?_|apply qB|refine qC rfl ?_|apply qD|apply qE|apply qF|apply qG|apply qH);try simp (maxSteps:=1000000)(disch:=(first|omega|(simp only [qI,qJ,qK]<;>omega)|exact qL _)) only [go_sem,↓reduceIte,n0,reduceCtorEq,n1,n2,n3,n4,n5,i0,i1,i2,i3,i4,i5,i6,i7,hv_4])
      refine wp_appendZ (m := N0) utQ_48 utQ_21 inQ_75 (by decide) (by first | rfl | simp (maxSteps:=1000000)(disch:=(first|omega|(simp only [qI,qJ,qK]<;>omega)|exact qL _)) only [go_sem,↓reduceIte,n0,reduceCtorEq,n1,n2,n3,n4,n5,i0,i1,i2,i3,i4,i5,i6,i7]) (by first | exact hyv | (simp (maxSteps:=1000000)(disch:=(first|omega|(simp only [qI,qJ,qK]<;>omega)|exact qL _)) only [go_sem,↓reduceIte,n0,reduceCtorEq,n1,n2,n3,n4,n5,i0,i1,i2,i3,i4,i5,i6,i7];exact hyv)) (by omega) (by omega) (by decide) ?_
      intro q rest hq1
      have hEw : Ext w4 (w4.drew.alloc (.cells (zs [.string ByteArray.empty,.slice none 0 0] N0 ++ rest).toArray 75)) := (Upd.refl _ _).drew.alloc _
      repeat (first|simp (maxSteps:=1000000)(disch:=(first|omega|(simp only [qI,qJ,qK]<;>omega)|exact qL _)) only [go_sem,↓reduceIte,n0,reduceCtorEq,n1,n2,n3,n4,n5,i0,i1,i2,i3,i4,i5,i6,i7,hv_4]|refine qA rfl ?_|apply qB|refine qC rfl ?_|apply qD|apply qE|apply qF|apply qG|apply qH)
      exact ⟨(by simp (maxSteps:=1000000)(disch:=(first|omega|(simp only [qI,qJ,qK]<;>omega)|exact qL _)) only [go_sem,↓reduceIte,n0,reduceCtorEq,n1,n2,n3,n4,n5,i0,i1,i2,i3,i4,i5,i6,i7,Holds_nil,Holds_cons]),.slice (some ⟨w4.heap.size,0,none⟩) N0 q,(by simp (maxSteps:=1000000)(disch:=(first|omega|(simp only [qI,qJ,qK]<;>omega)|exact qL _)) only [go_sem,↓reduceIte,n0,reduceCtorEq,n1,n2,n3,n4,n5,i0,i1,i2,i3,i4,i5,i6,i7]),LstI.start (RowJ.start (by omega) hq1 (by show w4.heap.size ≤ w4.drew.heap.size;rw [size_drew];omega) (blk_alloc_new rfl)) ⟨hq4.1.upd hEw (fun h => h) (fun _ _ _ h => h),hq4.2.upd hEw fun h => h⟩ (hEw.mono fun _ h => h.elim),fun h0 => by omega⟩
    · repeat ((first | refine qA rfl ?_|apply qB|refine qC rfl ?_|apply qD|apply qE|apply qF|apply qG|apply qH);try simp (maxSteps:=1000000)(disch:=(first|omega|(simp only [qI,qJ,qK]<;>omega)|exact qL _)) only [go_sem,↓reduceIte,n0,reduceCtorEq,n1,n2,n3,n4,n5,i0,i1,i2,i3,i4,i5,i6,i7,hv_4])
      exact ⟨(by simp (maxSteps:=1000000)(disch:=(first|omega|(simp only [qI,qJ,qK]<;>omega)|exact qL _)) only [go_sem,↓reduceIte,n0,reduceCtorEq,n1,n2,n3,n4,n5,i0,i1,i2,i3,i4,i5,i6,i7,Holds_nil,Holds_cons]),.slice none 0 0,(by simp (maxSteps:=1000000)(disch:=(first|omega|(simp only [qI,qJ,qK]<;>omega)|exact qL _)) only [go_sem,↓reduceIte,n0,reduceCtorEq,n1,n2,n3,n4,n5,i0,i1,i2,i3,i4,i5,i6,i7,slBase_00]),LstI.start (RowJ.zero (by omega) (fun _ h => by cases h)) hq4 (Upd.refl _ _),fun _ => by rw [nilS_plain (by decide) (by omega)];exact rfl⟩
  rintro ρ w5 ⟨⟨hrb0_2,hrb0_7,hrb0_8,hrb0_9,hrb0_12,-⟩,va0,hra0,hL0,hnc0⟩
  repeat ((first | refine qA rfl ?_|apply qB|refine qC rfl ?_|apply qD|apply qE|apply qF|apply qG|apply qH);try simp (maxSteps:=1000000)(disch:=(first|omega|(simp only [qI,qJ,qK]<;>omega)|exact qL _)) only [go_sem,↓reduceIte,n0,reduceCtorEq,n1,n2,n3,n4,n5,i0,i1,i2,i3,i4,i5,i6,i7,hv_4,hrb0_2,hrb0_7,hrb0_8,hrb0_9,hrb0_12,hra0,exitRQ_ret,exitRQ_exit,Int.toNat_natCast,Nat.mul_one])
  refine W.exitRJ 0 (EndQ [(2,.bool false),(7,.pointer (some ⟨rb,0,none⟩)),(8,.int .i16 vc),(9,.pointer (some ⟨vb,0,none⟩)),(12,.int .i32 y0),(11,va0)] (fun w' => ∃ s xs css,LstI RT (rd1 (rdP (d + 1) ver false) fQ_0.of fQ_0.sub false false) (Rep1 (RepS false (d + 1)) fQ_0.of fQ_0.sub) 2 75 [.string ByteArray.empty,.slice none 0 0] w4.heap.size N0 ok (fun b => ok b ∨ w1.heap.size ≤ b) rb w4 s2 va0 N0 s xs css w')) (W.loop (LoopQ [(2,.bool false),(7,.pointer (some ⟨rb,0,none⟩)),(8,.int .i16 vc),(9,.pointer (some ⟨vb,0,none⟩)),(12,.int .i32 y0),(11,va0)] 13 (fun j w' => ∃ s xs css,LstI RT (rd1 (rdP (d + 1) ver false) fQ_0.of fQ_0.sub false false) (Rep1 (RepS false (d + 1)) fQ_0.of fQ_0.sub) 2 75 [.string ByteArray.empty,.slice none 0 0] w4.heap.size N0 ok (fun b => ok b ∨ w1.heap.size ≤ b) rb w4 s2 va0 j s xs css w')) (fun ρ _ => N0 - (RowKit.intOf (ρ 13)).toNat) ?_ ?_) ?_
  · exact ⟨(by simp (maxSteps:=1000000)(disch:=(first|omega|(simp only [qI,qJ,qK]<;>omega)|exact qL _)) only [go_sem,↓reduceIte,n0,reduceCtorEq,n1,n2,n3,n4,n5,i0,i1,i2,i3,i4,i5,i6,i7,Holds_nil,Holds_cons,hrb0_2,hrb0_7,hrb0_8,hrb0_9,hrb0_12,hra0]),0,(by simp (maxSteps:=1000000)(disch:=(first|omega|(simp only [qI,qJ,qK]<;>omega)|exact qL _)) only [go_sem,↓reduceIte,n0,reduceCtorEq,n1,n2,n3,n4,n5,i0,i1,i2,i3,i4,i5,i6,i7,hrb0_2,hrb0_7,hrb0_8,hrb0_9,hrb0_12,hra0];all_goals rfl),s2,[],[],hL0⟩
  · rintro ρ w6 ⟨⟨hrc0_2,hrc0_7,hrc0_8,hrc0_9,hrc0_12,hrc0_11,-⟩,j1,hri0,s3,xs0,css0,hL0⟩
    have hj0 := hL0.le
    have hq6 := hL0.rd
    have hU6 : Upd (fun b => b = vb ∨ b = rb) w1 w6 := hU4.trans' hL0.upd fun i _ h => .inr h
    have hz6 := hL0.upd.size
    have hG6 : Glo ev w6 := hG1.updS hU6 hgM1 hgM2
    by_cases hlt0 : j1 < N0
    · obtain ⟨R1,q1,B1,hva1,hNq1,hLR1,hA1,hx1_6,hnext1⟩ := hL0.row.next hlt0
      have hRl1 := blk_lt hx1_6
      generalize css0.flatten = A1 at hA1 hx1_6 hnext1
      replace hra0 : ρ 11 = .slice (some ⟨R1,0,none⟩) N0 q1 := hrc0_11.trans hva1
      have hown1 : ∀ b,ownB va0 b → w4.heap.size ≤ b ∧ b < w6.heap.size := fun b h => hL0.row.own h
      have hoM1 : ∀ b,(fun b => (ok b ∨ w1.heap.size ≤ b) ∧ ¬ ownB va0 b) b → ¬ (b = R1 ∨ b = rb) := fun b hk h => h.elim (fun e => hk.2 ⟨_,_,_,hva1,e⟩) (fun e => hoM b hk.1 (.inr e))
      obtain ⟨X6,hX6,hxb6,hXs6⟩ := el_open (n := 2) hx1_6 hA1 rfl
      repeat ((first | refine qA rfl ?_|apply qB|refine qC rfl ?_|apply qD|apply qE|apply qF|apply qG|apply qH);try simp (maxSteps:=1000000)(disch:=(first|omega|(simp only [qI,qJ,qK]<;>omega)|exact qL _)) only [go_sem,↓reduceIte,n0,reduceCtorEq,n1,n2,n3,n4,n5,i0,i1,i2,i3,i4,i5,i6,i7,hxb6,hrc0_2,hrc0_7,hrc0_8,hrc0_9,hrc0_12,hra0,hri0,exitRQ_ret,exitRQ_exit,Int.toNat_natCast,Nat.mul_one])
      refine (DefaultEX0_fn w6 hx1_6 hA1).mono ?_
      rintro _ w7 ⟨hx1_7,hu7⟩
      have hq7 := And.intro (hq6.1.upd hu7 (by omega) (fun b _ hk e => by have := (hok b hk).1;omega)) (hq6.2.upd hu7 (by omega))
      have hV7 : Upd (fun b => b = R1 ∨ b = rb) w6 w7 := hu7.mono (fun _ h => .inl h)
      have hU7 : Upd (fun b => b = vb ∨ b = rb) w1 w7 := hU6.trans' hV7 fun i hi h => h.elim (fun h => by omega) .inr
      have hz7 := hV7.size
      have hG7 : Glo ev w7 := hG1.updS hU7 hgM1 hgM2
      obtain ⟨X7,hX7,hxb7,hXs7⟩ := el_open (n := 2) hx1_7 hA1 rfl
      have hbe0_0 : (rdL (rdP d ver false) (dfP d) ver false [fX0_0,fX0_1] s3).2 = none → FB := fun h => hlb0 (hL0.bad hlt0 rd1P_none (by show (rd1 (rdP (d + 1) ver false) 10 fs_X0 false false s3).2 = none;rw [rd1_part];exact rdP_bad h))
      have hhe0_0 : hasS fX0_0 ver = true := hasS_t (by show (0 : Int) ≤ ver;omega) (by show (-1 : Int) < 0 ∨ ver ≤ (-1 : Int);omega)
      obtain ⟨xe0_0,hxe0_0⟩ : ∃ x,x = (rdF (rdP d ver false) ver false fX0_0 s3).1 := ⟨_,rfl⟩
      repeat ((first | refine qA rfl ?_|apply qB|refine qC rfl ?_|apply qD|apply qE|apply qF|apply qG|apply qH);try simp (maxSteps:=1000000)(disch:=(first|omega|(simp only [qI,qJ,qK]<;>omega)|exact qL _)) only [go_sem,↓reduceIte,n0,reduceCtorEq,n1,n2,n3,n4,n5,i0,i1,i2,i3,i4,i5,i6,i7,hxb7,hrc0_2,hrc0_7,hrc0_8,hrc0_9,hrc0_12,hra0,hri0,exitRQ_ret,exitRQ_exit,Int.toNat_natCast,Nat.mul_one])
      have hmay : mayS fX0_0 ver = false := mayS_no (by show (-1 : Int) < 0 ∨ ver < (-1 : Int);omega)
      have hrd : rdF (rdP d ver false) ver false fX0_0 s3 = _ := rdF_text rfl hmay
      refine (RString_fn w7 hq7.1 hrok hG7.1 hgrb).mono ?_
      rintro _ w8 ⟨rfl,hq8,hu8⟩
      have hx1_8 := hu8.blk_some hx1_7 (by omega)
      have hV8 : Upd (fun b => b = R1 ∨ b = rb) w7 w8 := hu8.mono (fun _ h => .inr h)
      have hU8 : Upd (fun b => b = vb ∨ b = rb) w1 w8 := hU7.trans' hV8 fun i hi h => h.elim (fun h => by omega) .inr
      have hz8 := hV8.size
      have hG8 : Glo ev w8 := hG1.updS hU8 hgM1 hgM2
      obtain ⟨X8,hX8,hxb8,hXs8⟩ := el_open (n := 2) hx1_8 hA1 rfl
      have hst : (rdF (rdP d ver false) ver false fX0_0 s3).2 = (rdStr false s3).2 := by first | (rw [hrd];rfl) | rw [hrd]
      obtain ⟨s4,hs4⟩ : ∃ s,s = (rdF (rdP d ver false) ver false fX0_0 s3).2 := ⟨_,rfl⟩
      rw [← hst,← hs4] at hq8
      clear hst
      have hst8_0 : j1 * 2 + 1 ≤ X8.size := by omega
      have hld8_1 : X8[j1 * 2 + 1]? = some (.slice none 0 0) := by rw [hX8];exact el_cell (R := 0) hA1 (Nat.le_of_ble_eq_true rfl)
      repeat ((first | refine qA rfl ?_|apply qB|refine qC rfl ?_|apply qD|apply qE|apply qF|apply qG|apply qH);try simp (maxSteps:=1000000)(disch:=(first|omega|(simp only [qI,qJ,qK]<;>omega)|exact qL _)) only [go_sem,↓reduceIte,n0,reduceCtorEq,n1,n2,n3,n4,n5,i0,i1,i2,i3,i4,i5,i6,i7,hxb8,hrc0_2,hrc0_7,hrc0_8,hrc0_9,hrc0_12,hra0,hri0,exitRQ_ret,exitRQ_exit,Int.toNat_natCast,Nat.mul_one,hst8_0,hld8_1,Array.getElem?_setIfInBounds_ne])
      generalize hw9 : wr w8 R1 (j1 * 2) [strV (rdStr false s3).1] = w9
      have hS9 : Upd (fun b => b = R1 ∨ b = rb) w8 w9 := by rw [← hw9];exact (Upd.refl _ _).wr _ _ (.inr (.inl rfl))
      have hx1_9 : blk w9 R1 = some ((A1 ++ (([strV (rdStr false s3).1,.slice none 0 0] : List Value) ++ B1)).toArray,75,(0,0)) := by rw [← hw9];exact el_blk0 hx1_8 hA1 (Nat.le_of_ble_eq_true rfl)
      have hV9 := hS9
      have hU9 : Upd (fun b => b = vb ∨ b = rb) w1 w9 := hU8.trans' hV9 fun i hi h => h.elim (fun h => by omega) .inr
      have hz9 := hV9.size
      have hG9 : Glo ev w9 := hG1.updS hU9 hgM1 hgM2
      have hq9 := Rdr.stored hw9 hq8 (by omega) fun h => by have := (hok _ h).1;first | omega | exact (hok _ h).2 rfl
      obtain ⟨X9,hX9,hxb9,hXs9⟩ := el_open (n := 2) hx1_9 hA1 rfl
      clear hw9
      have hfe0_0 : RepF (RepS false d) (szS false d) fX0_0 (fun b => (ok b ∨ w1.heap.size ≤ b) ∧ ¬ ownB va0 b) w9 (xe0_0) [strV (rdStr false s3).1] := (RepF_text rfl (by decide)).2 (by rw [hxe0_0,hrd];rfl)
      clear hrd
      have hbe0_1 : (rdL (rdP d ver false) (dfP d) ver false [fX0_1] s4).2 = none → FB := fun h => hbe0_0 (by rw [rdL_st (by decide) hhe0_0,← hs4];exact h)
      have hhe0_1 : hasS fX0_1 ver = true := hasS_t (by show (0 : Int) ≤ ver;omega) (by show (-1 : Int) < 0 ∨ ver ≤ (-1 : Int);omega)
      obtain ⟨xe0_1,hxe0_1⟩ : ∃ x,x = (rdF (rdP d ver false) ver false fX0_1 s4).1 := ⟨_,rfl⟩
      have hld9_1 : X9[j1 * 2 + 1]? = some (.slice none 0 0) := by rw [hX9];exact el_cell (R := 0) hA1 (Nat.le_of_ble_eq_true rfl)
      repeat ((first | refine qA rfl ?_|apply qB|refine qC rfl ?_|apply qD|apply qE|apply qF|apply qG|apply qH);try simp (maxSteps:=1000000)(disch:=(first|omega|(simp only [qI,qJ,qK]<;>omega)|exact qL _)) only [go_sem,↓reduceIte,n0,reduceCtorEq,n1,n2,n3,n4,n5,i0,i1,i2,i3,i4,i5,i6,i7,hxb9,hrc0_2,hrc0_7,hrc0_8,hrc0_9,hrc0_12,hra0,hri0,exitRQ_ret,exitRQ_exit,Int.toNat_natCast,Nat.mul_one,hld9_1])
      refine (RArrayLen_fn w9 hq9.1 hrok hG9.1 hgrb).mono ?_
      rintro _ w10 ⟨rfl,hq10,hu10⟩
      have hx1_10 := hu10.blk_some hx1_9 (by omega)
      have hV10 : Upd (fun b => b = R1 ∨ b = rb) w9 w10 := hu10.mono (fun _ h => .inr h)
      have hU10 : Upd (fun b => b = vb ∨ b = rb) w1 w10 := hU9.trans' hV10 fun i hi h => h.elim (fun h => by omega) .inr
      have hz10 := hV10.size
      have hG10 : Glo ev w10 := hG1.updS hU10 hgM1 hgM2
      obtain ⟨X10,hX10,hxb10,hXs10⟩ := el_open (n := 2) hx1_10 hA1 rfl
      obtain ⟨s5,hs5⟩ : ∃ s,s = (rdALen false s4).2 := ⟨_,rfl⟩
      rw [← hs5] at hq10
      have hyr1 := rdALen_rng false s4
      generalize hy1 : (rdALen false s4).1 = y1 at *
      obtain ⟨N1,hN1⟩ : ∃ N,N = y1.toNat := ⟨_,rfl⟩
      have hlb1 : (rdMany (rd1 (rdP d ver false) fX0_1.of fX0_1.sub false false) N1 s5).2 = none → FB := fun h => hbe0_1 (by rw [rdL_st (by decide) hhe0_1];exact rdL_bad (rdF_listbad rfl (by rw [hy1,← hN1,← hs5];exact h)))
      repeat ((first | refine W.seqR rfl ?_ | refine W.seq ?_ | refine W.regR rfl ?_ | refine W.block ?_ | refine W.skip ?_ | refine W.ret ?_ | refine W.exit ?_);try simp (maxSteps:=1000000)(disch:=(first|omega|(simp only [qI,qJ,qK]<;>omega)|exact qL _)) only [go_sem,↓reduceIte,n0,reduceCtorEq,n1,n2,n3,n4,n5,i0,i1,i2,i3,i4,i5,i6,i7,hxb10,hrc0_2,hrc0_7,hrc0_8,hrc0_9,hrc0_12,hra0,hri0,exitRQ_ret,exitRQ_exit,Int.toNat_natCast,Nat.mul_one])
      refine (ROk_fn w10 hq10.1).mono ?_
      rintro _ wz ⟨rfl,hez⟩
      rw [hez]
      clear hez wz
      by_cases hsn1 : s5 = none
      · have hso : s5.isSome = false := by rw [hsn1];rfl
        repeat (first|simp (maxSteps:=1000000)(disch:=(first|omega|(simp only [qI,qJ,qK]<;>omega)|exact qL _)) only [go_sem,↓reduceIte,n0,reduceCtorEq,n1,n2,n3,n4,n5,i0,i1,i2,i3,i4,i5,i6,i7,hxb10,hrc0_2,hrc0_7,hrc0_8,hrc0_9,hrc0_12,hra0,hri0,exitRQ_ret,exitRQ_exit,Int.toNat_natCast,Nat.mul_one,hso]|refine qA rfl ?_|apply qB|refine qC rfl ?_|apply qD|apply qE|apply qF|apply qG|apply qH)
        refine (RComplete_fn w10 hq10.1 hG10.2).mono ?_
        rintro _ wz ⟨rfl,hez⟩
        rw [hez]
        repeat (first|simp (maxSteps:=1000000)(disch:=(first|omega|(simp only [qI,qJ,qK]<;>omega)|exact qL _)) only [go_sem,↓reduceIte,n0,reduceCtorEq,n1,n2,n3,n4,n5,i0,i1,i2,i3,i4,i5,i6,i7,hxb10,hrc0_2,hrc0_7,hrc0_8,hrc0_9,hrc0_12,hra0,hri0,exitRQ_ret,exitRQ_exit,Int.toNat_natCast,Nat.mul_one]|refine qA rfl ?_|apply qB|refine qC rfl ?_|apply qD|apply qE|apply qF|apply qG|apply qH)
        rw [errV_none hsn1]
        exact ReadQF.bad (Eq.mp hFB (hlb1 (by rw [hsn1];exact rdMany_none rd1P_none _))) (hbase.trans' hU10 fun i hi h => h.elim id fun h => by omega)
      have hso1 : s5.isSome = true := isSome_some hsn1
      try simp (maxSteps:=1000000)(disch:=(first|omega|(simp only [qI,qJ,qK]<;>omega)|exact qL _)) only [go_sem,↓reduceIte,n0,reduceCtorEq,n1,n2,n3,n4,n5,i0,i1,i2,i3,i4,i5,i6,i7,hxb10,hrc0_2,hrc0_7,hrc0_8,hrc0_9,hrc0_12,hra0,hri0,exitRQ_ret,exitRQ_exit,Int.toNat_natCast,Nat.mul_one,hso1]
      repeat ((first | refine W.seqR rfl ?_ | refine W.seq ?_ | refine W.regR rfl ?_ | refine W.block ?_ | refine W.skip ?_ | refine W.ret ?_ | refine W.exit ?_);try simp (maxSteps:=1000000)(disch:=(first|omega|(simp only [qI,qJ,qK]<;>omega)|exact qL _)) only [go_sem,↓reduceIte,n0,reduceCtorEq,n1,n2,n3,n4,n5,i0,i1,i2,i3,i4,i5,i6,i7,hxb10,hrc0_2,hrc0_7,hrc0_8,hrc0_9,hrc0_12,hra0,hri0,exitRQ_ret,exitRQ_exit,Int.toNat_natCast,Nat.mul_one,hso1])
      refine W.condK ?_
      try simp (maxSteps:=1000000)(disch:=(first|omega|(simp only [qI,qJ,qK]<;>omega)|exact qL _)) only [go_sem,↓reduceIte,n0,reduceCtorEq,n1,n2,n3,n4,n5,i0,i1,i2,i3,i4,i5,i6,i7,hxb10,hrc0_2,hrc0_7,hrc0_8,hrc0_9,hrc0_12,hra0,hri0,exitRQ_ret,exitRQ_exit,Int.toNat_natCast,Nat.mul_one,hso1]
      repeat ((first | refine W.seqR rfl ?_ | refine W.seq ?_ | refine W.regR rfl ?_ | refine W.block ?_ | refine W.skip ?_ | refine W.ret ?_ | refine W.exit ?_);try simp (maxSteps:=1000000)(disch:=(first|omega|(simp only [qI,qJ,qK]<;>omega)|exact qL _)) only [go_sem,↓reduceIte,n0,reduceCtorEq,n1,n2,n3,n4,n5,i0,i1,i2,i3,i4,i5,i6,i7,hxb10,hrc0_2,hrc0_7,hrc0_8,hrc0_9,hrc0_12,hra0,hri0,exitRQ_ret,exitRQ_exit,Int.toNat_natCast,Nat.mul_one,hso1,slBase_00])
      refine W.normJ (RowQ [(2,.bool false),(7,.pointer (some ⟨rb,0,none⟩)),(8,.int .i16 vc),(9,.pointer (some ⟨vb,0,none⟩)),(12,.int .i32 y0),(11,.slice (some ⟨R1,0,none⟩) N0 q1),(13,.int .i32 j1),(15,.pointer (some ⟨R1,j1 * 2,none⟩)),(19,.int .i32 y1)] 18 (fun va w' => LstI RT (rd1 (rdP d ver false) fX0_1.of fX0_1.sub false false) (Rep1 (RepS false d) fX0_1.of fX0_1.sub) 1 21 [.int .i32 0] w10.heap.size N1 ok (fun b => (ok b ∨ w1.heap.size ≤ b) ∧ ¬ ownB va0 b) rb w10 s5 va 0 s5 [] [] w' ∧ (N1 = 0 → if nilS fX0_1 ver y1 = true then va = .slice none 0 0 else ∃ a,va = .slice (some a) 0 0))) ?_ ?_
      · by_cases hy0 : (0 : Int) < y1
        · have hyv : Value.int .i32 y1 = .int .i32 ((N1 : Nat) : Int) := by rw [show y1 = ((N1 : Nat) : Int) by omega]
          repeat ((first | refine qA rfl ?_|apply qB|refine qC rfl ?_|apply qD|apply qE|apply qF|apply qG|apply qH);try simp (maxSteps:=1000000)(disch:=(first|omega|(simp only [qI,qJ,qK]<;>omega)|exact qL _)) only [go_sem,↓reduceIte,n0,reduceCtorEq,n1,n2,n3,n4,n5,i0,i1,i2,i3,i4,i5,i6,i7,hxb10,hrc0_2,hrc0_7,hrc0_8,hrc0_9,hrc0_12,hra0,hri0,exitRQ_ret,exitRQ_exit,Int.toNat_natCast,Nat.mul_one])
          refine wp_appendZ (m := N1) utQ_73 utQ_21 inQ_21 (by decide) (by first | rfl | simp (maxSteps:=1000000)(disch:=(first|omega|(simp only [qI,qJ,qK]<;>omega)|exact qL _)) only [go_sem,↓reduceIte,n0,reduceCtorEq,n1,n2,n3,n4,n5,i0,i1,i2,i3,i4,i5,i6,i7,hrc0_2,hrc0_7,hrc0_8,hrc0_9,hrc0_12,hra0,hri0]) (by first | exact hyv | (simp (maxSteps:=1000000)(disch:=(first|omega|(simp only [qI,qJ,qK]<;>omega)|exact qL _)) only [go_sem,↓reduceIte,n0,reduceCtorEq,n1,n2,n3,n4,n5,i0,i1,i2,i3,i4,i5,i6,i7,hrc0_2,hrc0_7,hrc0_8,hrc0_9,hrc0_12,hra0,hri0];exact hyv)) (by omega) (by omega) (by decide) ?_
          intro q rest hq1
          have hEw : Ext w10 (w10.drew.alloc (.cells (zs [.int .i32 0] N1 ++ rest).toArray 21)) := (Upd.refl _ _).drew.alloc _
          repeat (first|simp (maxSteps:=1000000)(disch:=(first|omega|(simp only [qI,qJ,qK]<;>omega)|exact qL _)) only [go_sem,↓reduceIte,n0,reduceCtorEq,n1,n2,n3,n4,n5,i0,i1,i2,i3,i4,i5,i6,i7,hxb10,hrc0_2,hrc0_7,hrc0_8,hrc0_9,hrc0_12,hra0,hri0,exitRQ_ret,exitRQ_exit,Int.toNat_natCast,Nat.mul_one]|refine qA rfl ?_|apply qB|refine qC rfl ?_|apply qD|apply qE|apply qF|apply qG|apply qH)
          exact ⟨(by simp (maxSteps:=1000000)(disch:=(first|omega|(simp only [qI,qJ,qK]<;>omega)|exact qL _)) only [go_sem,↓reduceIte,n0,reduceCtorEq,n1,n2,n3,n4,n5,i0,i1,i2,i3,i4,i5,i6,i7,Holds_nil,Holds_cons,hrc0_2,hrc0_7,hrc0_8,hrc0_9,hrc0_12,hra0,hri0]),.slice (some ⟨w10.heap.size,0,none⟩) N1 q,(by simp (maxSteps:=1000000)(disch:=(first|omega|(simp only [qI,qJ,qK]<;>omega)|exact qL _)) only [go_sem,↓reduceIte,n0,reduceCtorEq,n1,n2,n3,n4,n5,i0,i1,i2,i3,i4,i5,i6,i7,hrc0_2,hrc0_7,hrc0_8,hrc0_9,hrc0_12,hra0,hri0]),LstI.start (RowJ.start (by omega) hq1 (by show w10.heap.size ≤ w10.drew.heap.size;rw [size_drew];omega) (blk_alloc_new rfl)) ⟨hq10.1.upd hEw (fun h => h) (fun _ _ _ h => h),hq10.2.upd hEw fun h => h⟩ (hEw.mono fun _ h => h.elim),fun h0 => by omega⟩
        · repeat ((first | refine qA rfl ?_|apply qB|refine qC rfl ?_|apply qD|apply qE|apply qF|apply qG|apply qH);try simp (maxSteps:=1000000)(disch:=(first|omega|(simp only [qI,qJ,qK]<;>omega)|exact qL _)) only [go_sem,↓reduceIte,n0,reduceCtorEq,n1,n2,n3,n4,n5,i0,i1,i2,i3,i4,i5,i6,i7,hxb10,hrc0_2,hrc0_7,hrc0_8,hrc0_9,hrc0_12,hra0,hri0,exitRQ_ret,exitRQ_exit,Int.toNat_natCast,Nat.mul_one])
          exact ⟨(by simp (maxSteps:=1000000)(disch:=(first|omega|(simp only [qI,qJ,qK]<;>omega)|exact qL _)) only [go_sem,↓reduceIte,n0,reduceCtorEq,n1,n2,n3,n4,n5,i0,i1,i2,i3,i4,i5,i6,i7,Holds_nil,Holds_cons,hrc0_2,hrc0_7,hrc0_8,hrc0_9,hrc0_12,hra0,hri0]),.slice none 0 0,(by simp (maxSteps:=1000000)(disch:=(first|omega|(simp only [qI,qJ,qK]<;>omega)|exact qL _)) only [go_sem,↓reduceIte,n0,reduceCtorEq,n1,n2,n3,n4,n5,i0,i1,i2,i3,i4,i5,i6,i7,hrc0_2,hrc0_7,hrc0_8,hrc0_9,hrc0_12,hra0,hri0,slBase_00]),LstI.start (RowJ.zero (by omega) (fun _ h => by cases h)) hq10 (Upd.refl _ _),fun _ => by rw [nilS_plain (by decide) (by omega)];exact rfl⟩
      rintro ρ w11 ⟨⟨hrb1_2,hrb1_7,hrb1_8,hrb1_9,hrb1_12,hrb1_11,hrb1_13,hrb1_15,hrb1_19,-⟩,va1,hra1,hL1,hnc1⟩
      repeat ((first | refine qA rfl ?_|apply qB|refine qC rfl ?_|apply qD|apply qE|apply qF|apply qG|apply qH);try simp (maxSteps:=1000000)(disch:=(first|omega|(simp only [qI,qJ,qK]<;>omega)|exact qL _)) only [go_sem,↓reduceIte,n0,reduceCtorEq,n1,n2,n3,n4,n5,i0,i1,i2,i3,i4,i5,i6,i7,hxb10,hrb1_2,hrb1_7,hrb1_8,hrb1_9,hrb1_12,hrb1_11,hrb1_13,hrb1_15,hrb1_19,hra1,exitRQ_ret,exitRQ_exit,Int.toNat_natCast,Nat.mul_one])
      refine W.exitRJ 2 (EndQ [(2,.bool false),(7,.pointer (some ⟨rb,0,none⟩)),(8,.int .i16 vc),(9,.pointer (some ⟨vb,0,none⟩)),(12,.int .i32 y0),(11,.slice (some ⟨R1,0,none⟩) N0 q1),(13,.int .i32 j1),(15,.pointer (some ⟨R1,j1 * 2,none⟩)),(19,.int .i32 y1),(18,va1)] (fun w' => ∃ s xs css,LstI RT (rd1 (rdP d ver false) fX0_1.of fX0_1.sub false false) (Rep1 (RepS false d) fX0_1.of fX0_1.sub) 1 21 [.int .i32 0] w10.heap.size N1 ok (fun b => (ok b ∨ w1.heap.size ≤ b) ∧ ¬ ownB va0 b) rb w10 s5 va1 N1 s xs css w')) (W.loop (LoopQ [(2,.bool false),(7,.pointer (some ⟨rb,0,none⟩)),(8,.int .i16 vc),(9,.pointer (some ⟨vb,0,none⟩)),(12,.int .i32 y0),(11,.slice (some ⟨R1,0,none⟩) N0 q1),(13,.int .i32 j1),(15,.pointer (some ⟨R1,j1 * 2,none⟩)),(19,.int .i32 y1),(18,va1)] 20 (fun j w' => ∃ s xs css,LstI RT (rd1 (rdP d ver false) fX0_1.of fX0_1.sub false false) (Rep1 (RepS false d) fX0_1.of fX0_1.sub) 1 21 [.int .i32 0] w10.heap.size N1 ok (fun b => (ok b ∨ w1.heap.size ≤ b) ∧ ¬ ownB va0 b) rb w10 s5 va1 j s xs css w')) (fun ρ _ => N1 - (RowKit.intOf (ρ 20)).toNat) ?_ ?_) ?_
      · exact ⟨(by simp (maxSteps:=1000000)(disch:=(first|omega|(simp only [qI,qJ,qK]<;>omega)|exact qL _)) only [go_sem,↓reduceIte,n0,reduceCtorEq,n1,n2,n3,n4,n5,i0,i1,i2,i3,i4,i5,i6,i7,Holds_nil,Holds_cons,hrb1_2,hrb1_7,hrb1_8,hrb1_9,hrb1_12,hrb1_11,hrb1_13,hrb1_15,hrb1_19,hra1]),0,(by simp (maxSteps:=1000000)(disch:=(first|omega|(simp only [qI,qJ,qK]<;>omega)|exact qL _)) only [go_sem,↓reduceIte,n0,reduceCtorEq,n1,n2,n3,n4,n5,i0,i1,i2,i3,i4,i5,i6,i7,hrb1_2,hrb1_7,hrb1_8,hrb1_9,hrb1_12,hrb1_11,hrb1_13,hrb1_15,hrb1_19,hra1];all_goals rfl),s5,[],[],hL1⟩
      · rintro ρ w12 ⟨⟨hrc1_2,hrc1_7,hrc1_8,hrc1_9,hrc1_12,hrc1_11,hrc1_13,hrc1_15,hrc1_19,hrc1_18,-⟩,j2,hri1,s6,xs1,css1,hL1⟩
        have hj1 := hL1.le
        have hq12 := hL1.rd
        have hU12 : Upd (fun b => b = vb ∨ b = rb) w1 w12 := hU10.trans' hL1.upd fun i _ h => .inr h
        have hz12 := hL1.upd.size
        have hG12 : Glo ev w12 := hG1.updS hU12 hgM1 hgM2
        by_cases hlt1 : j2 < N1
        · obtain ⟨R2,q2,B2,hva2,hNq2,hLR2,hA2,hx2_12,hnext2⟩ := hL1.row.next hlt1
          have hRl2 := blk_lt hx2_12
          generalize css1.flatten = A2 at hA2 hx2_12 hnext2
          rw [Nat.mul_one] at hA2
          replace hra1 : ρ 18 = .slice (some ⟨R2,0,none⟩) N1 q2 := hrc1_18.trans hva2
          have hown2 : ∀ b,ownB va1 b → w10.heap.size ≤ b ∧ b < w12.heap.size := fun b h => hL1.row.own h
          have hoM2 : ∀ b,(fun b => (fun b => (ok b ∨ w1.heap.size ≤ b) ∧ ¬ ownB va0 b) b ∧ ¬ ownB va1 b) b → ¬ (b = R2 ∨ b = rb) := fun b hk h => h.elim (fun e => hk.2 ⟨_,_,_,hva2,e⟩) (fun e => hoM1 b hk.1 (.inr e))
          obtain ⟨X12,hX12,hxb12,hXs12⟩ := el_open (n := 1) hx2_12 hA2 rfl
          repeat ((first | refine qA rfl ?_|apply qB|refine qC rfl ?_|apply qD|apply qE|apply qF|apply qG|apply qH);try simp (maxSteps:=1000000)(disch:=(first|omega|(simp only [qI,qJ,qK]<;>omega)|exact qL _)) only [go_sem,↓reduceIte,n0,reduceCtorEq,n1,n2,n3,n4,n5,i0,i1,i2,i3,i4,i5,i6,i7,hxb12,hrc1_2,hrc1_7,hrc1_8,hrc1_9,hrc1_12,hrc1_11,hrc1_13,hrc1_15,hrc1_19,hra1,hri1,exitRQ_ret,exitRQ_exit,Int.toNat_natCast,Nat.mul_one])
          refine (Int32_fn w12 hq12.1 hrok hG12.1 hgrb).mono ?_
          rintro _ w13 ⟨rfl,hq13,hu13⟩
          have hx2_13 := hu13.blk_some hx2_12 (by omega)
          have hV13 : Upd (fun b => b = R2 ∨ b = rb) w12 w13 := hu13.mono (fun _ h => .inr h)
          have hU13 : Upd (fun b => b = vb ∨ b = rb) w1 w13 := hU12.trans' hV13 fun i hi h => h.elim (fun h => by omega) .inr
          have hz13 := hV13.size
          have hG13 : Glo ev w13 := hG1.updS hU13 hgM1 hgM2
          obtain ⟨X13,hX13,hxb13,hXs13⟩ := el_open (n := 1) hx2_13 hA2 rfl
          obtain ⟨s7,hs7⟩ : ∃ s,s = (rdInt .i32 4 s6).2 := ⟨_,rfl⟩
          rw [← hs7] at hq13
          have hrE : (rd1 (rdP d ver false) fX0_1.of fX0_1.sub false false) s6 = ((.num (rdInt .i32 4 s6).1),s7) := by rw [hs7];exact rd1_num 3 (by decide)
          have hst13_0 : j2 + 1 ≤ X13.size := by omega
          repeat ((first | refine qA rfl ?_|apply qB|refine qC rfl ?_|apply qD|apply qE|apply qF|apply qG|apply qH);try simp (maxSteps:=1000000)(disch:=(first|omega|(simp only [qI,qJ,qK]<;>omega)|exact qL _)) only [go_sem,↓reduceIte,n0,reduceCtorEq,n1,n2,n3,n4,n5,i0,i1,i2,i3,i4,i5,i6,i7,hxb13,hrc1_2,hrc1_7,hrc1_8,hrc1_9,hrc1_12,hrc1_11,hrc1_13,hrc1_15,hrc1_19,hra1,hri1,exitRQ_ret,exitRQ_exit,Int.toNat_natCast,Nat.mul_one,hst13_0])
          generalize hw14 : wr w13 R2 (j2) [.int .i32 (rdInt .i32 4 s6).1] = w14
          have hS14 : Upd (fun b => b = R2 ∨ b = rb) w13 w14 := by rw [← hw14];exact (Upd.refl _ _).wr _ _ (.inr (.inl rfl))
          have hx2_14 : blk w14 R2 = some ((A2 ++ (([.int .i32 (rdInt .i32 4 s6).1] : List Value) ++ B2)).toArray,21,(0,0)) := by rw [← hw14];exact el_blk0 hx2_13 hA2 (Nat.le_of_ble_eq_true rfl)
          have hV14 := hS14
          have hU14 : Upd (fun b => b = vb ∨ b = rb) w1 w14 := hU13.trans' hV14 fun i hi h => h.elim (fun h => by omega) .inr
          have hz14 := hV14.size
          have hG14 : Glo ev w14 := hG1.updS hU14 hgM1 hgM2
          have hq14 := Rdr.stored hw14 hq13 (by omega) fun h => by have := (hok _ h).1;first | omega | exact (hok _ h).2 rfl
          obtain ⟨X14,hX14,hxb14,hXs14⟩ := el_open (n := 1) hx2_14 hA2 rfl
          clear hw14
          have hxE : (Rep1 (RepS false d) fX0_1.of fX0_1.sub) (fun b => (fun b => (ok b ∨ w1.heap.size ≤ b) ∧ ¬ ownB va0 b) b ∧ ¬ ownB va1 b) w14 (.num (rdInt .i32 4 s6).1) [.int .i32 (rdInt .i32 4 s6).1] := (Rep1_num (by decide)).2 (congrArg (fun x => [x]) (numC_rd 3 (by decide) 4 s6).symm)
          repeat ((first | refine qA rfl ?_|apply qB|refine qC rfl ?_|apply qD|apply qE|apply qF|apply qG|apply qH);try simp (maxSteps:=1000000)(disch:=(first|omega|(simp only [qI,qJ,qK]<;>omega)|exact qL _)) only [go_sem,↓reduceIte,n0,reduceCtorEq,n1,n2,n3,n4,n5,i0,i1,i2,i3,i4,i5,i6,i7,hxb14,hrc1_2,hrc1_7,hrc1_8,hrc1_9,hrc1_12,hrc1_11,hrc1_13,hrc1_15,hrc1_19,hra1,hri1,exitRQ_ret,exitRQ_exit,Int.toNat_natCast,Nat.mul_one])
          have hTk : Upd (fun b => b = R2 ∨ b = rb) w12 w14 := (hV13.trans hV14)
          have hL' := hL1.step (Rep1_lay _ _ fun _ => RepS_lay false _ _) hlt1 (hnext2 w14 [.int .i32 (rdInt .i32 4 s6).1] rfl hx2_14) (by rw [hrE];exact hxE) (hTk.mono fun b h => h.imp (fun e => ⟨_,_,_,hva2,e⟩) id) (by rw [hrE];exact hq14) (fun h => hoM1 rb h (.inr rfl)) (Nat.le_refl _)
          have hij : IntKind.i32.wrap ((j2 : Int) + 1) = ((j2 + 1 : Nat) : Int) := by rw [i32_wrap (by omega)];omega
          repeat ((first | refine qA rfl ?_|apply qB|refine qC rfl ?_|apply qD|apply qE|apply qF|apply qG|apply qH);try simp (maxSteps:=1000000)(disch:=(first|omega|(simp only [qI,qJ,qK]<;>omega)|exact qL _)) only [go_sem,↓reduceIte,n0,reduceCtorEq,n1,n2,n3,n4,n5,i0,i1,i2,i3,i4,i5,i6,i7,hxb14,hrc1_2,hrc1_7,hrc1_8,hrc1_9,hrc1_12,hrc1_11,hrc1_13,hrc1_15,hrc1_19,hra1,hri1,exitRQ_ret,exitRQ_exit,Int.toNat_natCast,Nat.mul_one,hij])
          refine ⟨⟨(by simp (maxSteps:=1000000)(disch:=(first|omega|(simp only [qI,qJ,qK]<;>omega)|exact qL _)) only [go_sem,↓reduceIte,n0,reduceCtorEq,n1,n2,n3,n4,n5,i0,i1,i2,i3,i4,i5,i6,i7,Holds_nil,Holds_cons,hrc1_2,hrc1_7,hrc1_8,hrc1_9,hrc1_12,hrc1_11,hrc1_13,hrc1_15,hrc1_19,hra1,hri1];exact hva2.symm),j2 + 1,(by simp (maxSteps:=1000000)(disch:=(first|omega|(simp only [qI,qJ,qK]<;>omega)|exact qL _)) only [go_sem,↓reduceIte,n0,reduceCtorEq,n1,n2,n3,n4,n5,i0,i1,i2,i3,i4,i5,i6,i7,hrc1_2,hrc1_7,hrc1_8,hrc1_9,hrc1_12,hrc1_11,hrc1_13,hrc1_15,hrc1_19,hra1,hri1,hij];all_goals rfl),_,_,_,hL'⟩,?_⟩
          try simp (maxSteps:=1000000)(disch:=(first|omega|(simp only [qI,qJ,qK]<;>omega)|exact qL _)) only [go_sem,↓reduceIte,n0,reduceCtorEq,n1,n2,n3,n4,n5,i0,i1,i2,i3,i4,i5,i6,i7,hrc1_2,hrc1_7,hrc1_8,hrc1_9,hrc1_12,hrc1_11,hrc1_13,hrc1_15,hrc1_19,hra1,hri1]
          simp only [RowKit.intOf]
          omega
        · have hjN : j2 = N1 := by omega
          rw [hjN] at hL1
          repeat ((first | refine qA rfl ?_|apply qB|refine qC rfl ?_|apply qD|apply qE|apply qF|apply qG|apply qH);try simp (maxSteps:=1000000)(disch:=(first|omega|(simp only [qI,qJ,qK]<;>omega)|exact qL _)) only [go_sem,↓reduceIte,n0,reduceCtorEq,n1,n2,n3,n4,n5,i0,i1,i2,i3,i4,i5,i6,i7,hrc1_2,hrc1_7,hrc1_8,hrc1_9,hrc1_12,hrc1_11,hrc1_13,hrc1_15,hrc1_19,hrc1_18,hri1,exitRQ_ret,exitRQ_exit])
          exact ⟨(by simp (maxSteps:=1000000)(disch:=(first|omega|(simp only [qI,qJ,qK]<;>omega)|exact qL _)) only [go_sem,↓reduceIte,n0,reduceCtorEq,n1,n2,n3,n4,n5,i0,i1,i2,i3,i4,i5,i6,i7,Holds_nil,Holds_cons,hrc1_2,hrc1_7,hrc1_8,hrc1_9,hrc1_12,hrc1_11,hrc1_13,hrc1_15,hrc1_19,hrc1_18,hri1]),s6,xs1,css1,hL1⟩
      rintro ρ w15 ⟨⟨hrd1_2,hrd1_7,hrd1_8,hrd1_9,hrd1_12,hrd1_11,hrd1_13,hrd1_15,hrd1_19,hrd1_18,-⟩,s8,xs1,css1,hL1⟩
      have hq15 := hL1.rd
      have hu15 := hL1.upd
      have hx1_15 := hu15.blk_some hx1_10 (by omega)
      have hV15 : Upd (fun b => b = R1 ∨ b = rb) w10 w15 := hu15.mono (fun _ h => .inr h)
      have hU15 : Upd (fun b => b = vb ∨ b = rb) w1 w15 := hU10.trans' hV15 fun i hi h => h.elim (fun h => by omega) .inr
      have hz15 := hV15.size
      have hG15 : Glo ev w15 := hG1.updS hU15 hgM1 hgM2
      obtain ⟨X15,hX15,hxb15,hXs15⟩ := el_open (n := 2) hx1_15 hA1 rfl
      have hrd1 : rdF (rdP d ver false) ver false fX0_1 s4 = (.mk 0 [] (nilS fX0_1 ver y1) xs1 [],s8) := by
        have h := rdF_listE (pt := (rdP d ver false)) (v := ver) (flex := false) (f := fX0_1) (s := s4) (xs := xs1) (e := s8) rfl (by rw [hy1,← hN1,← hs5];exact hL1.done)
        rw [hy1] at h;exact h
      have hs8 : s8 = (rdF (rdP d ver false) ver false fX0_1 s4).2 := by rw [hrd1]
      obtain ⟨aa1,qq1,hvs1⟩ := hL1.row.shape
      subst hvs1
      have hst15_1 : j1 * 2 + 2 ≤ X15.size := by omega
      repeat ((first | refine qA rfl ?_|apply qB|refine qC rfl ?_|apply qD|apply qE|apply qF|apply qG|apply qH);try simp (maxSteps:=1000000)(disch:=(first|omega|(simp only [qI,qJ,qK]<;>omega)|exact qL _)) only [go_sem,↓reduceIte,n0,reduceCtorEq,n1,n2,n3,n4,n5,i0,i1,i2,i3,i4,i5,i6,i7,hxb15,hrd1_2,hrd1_7,hrd1_8,hrd1_9,hrd1_12,hrd1_11,hrd1_13,hrd1_15,hrd1_19,hrd1_18,exitRQ_ret,exitRQ_exit,Int.toNat_natCast,Nat.mul_one,hst15_1])
      generalize hw16 : wr w15 R1 (j1 * 2 + 1) [.slice aa1 N1 qq1] = w16
      have hS16 : Upd (fun b => b = R1 ∨ b = rb) w15 w16 := by rw [← hw16];exact (Upd.refl _ _).wr _ _ (.inr (.inl rfl))
      have hx1_16 : blk w16 R1 = some ((A1 ++ (([strV (rdStr false s3).1,.slice aa1 N1 qq1] : List Value) ++ B1)).toArray,75,(0,0)) := by rw [← hw16];exact el_blk (o := 1) hx1_15 hA1 (Nat.le_of_ble_eq_true rfl)
      have hV16 := hS16
      have hU16 : Upd (fun b => b = vb ∨ b = rb) w1 w16 := hU15.trans' hV16 fun i hi h => h.elim (fun h => by omega) .inr
      have hz16 := hV16.size
      have hG16 : Glo ev w16 := hG1.updS hU16 hgM1 hgM2
      have hq16 := Rdr.stored hw16 hq15 (by omega) fun h => by have := (hok _ h).1;first | omega | exact (hok _ h).2 rfl
      obtain ⟨X16,hX16,hxb16,hXs16⟩ := el_open (n := 2) hx1_16 hA1 rfl
      clear hw16
      have hfe0_1 : RepF (RepS false d) (szS false d) fX0_1 (fun b => (ok b ∨ w1.heap.size ≤ b) ∧ ¬ ownB va0 b) w16 (xe0_1) [.slice aa1 N1 qq1] := by rw [hxe0_1,hrd1];exact RepF.keepS (RepF_row rfl hnc1 hN1 rfl hL1.row hL1.all (fun b hb => ⟨.inr (by omega),fun ho => by have := (hown1 _ ho).2;omega⟩)) (hV16.keeps fun b _ hk e => hoM1 b hk e)
      clear hL1 hnc1
      have hle0_2 : rdL (rdP d ver false) (dfP d) ver false [] s8 = ([],s8) := rfl
      have hle0_1 : rdL (rdP d ver false) (dfP d) ver false [fX0_1] s4 = ([xe0_1],s8) := by rw [rdL_st (by decide) hhe0_1,← hxe0_1,← hs8,hle0_2]
      have hle0_0 : rdL (rdP d ver false) (dfP d) ver false [fX0_0,fX0_1] s3 = ([xe0_0,xe0_1],s8) := by rw [rdL_st (by decide) hhe0_0,← hxe0_0,← hs4,hle0_1]
      have hfine0 : rdP (d + 1) ver false fs_X0 s3 = (.mk 0 [] false [xe0_0,xe0_1] [],s8) := rdP_f hle0_0
      have hCe0_16 : Upd (fun b => b = R1 ∨ b = rb) w16 w16 := Upd.refl _ _
      have hCe0_15 : Upd (fun b => b = R1 ∨ b = rb) w15 w16 := hV16.trans hCe0_16
      have hCe0_10 : Upd (fun b => b = R1 ∨ b = rb) w10 w16 := hV15.trans hCe0_15
      have hCe0_9 : Upd (fun b => b = R1 ∨ b = rb) w9 w16 := hV10.trans hCe0_10
      have hCe0_8 : Upd (fun b => b = R1 ∨ b = rb) w8 w16 := hV9.trans hCe0_9
      have hCe0_7 : Upd (fun b => b = R1 ∨ b = rb) w7 w16 := hV8.trans hCe0_8
      have hCe0_6 : Upd (fun b => b = R1 ∨ b = rb) w6 w16 := hV7.trans hCe0_7
      have hRe0 : RepS false (d + 1) fs_X0 (fun b => (ok b ∨ w1.heap.size ≤ b) ∧ ¬ ownB va0 b) w16 (.mk 0 [] false [xe0_0,xe0_1] []) [strV (rdStr false s3).1,.slice aa1 N1 qq1] := RepS.introF (RepL.cons1 (hfe0_0.keepS (hCe0_9.keeps fun b _ hk e => hoM1 b hk e)) (RepL.cons1 (hfe0_1.keepS (hCe0_16.keeps fun b _ hk e => hoM1 b hk e)) RepL.nil))
      have hrE : (rd1 (rdP (d + 1) ver false) fQ_0.of fQ_0.sub false false) s3 = ((.mk 0 [] false [xe0_0,xe0_1] []),s8) := by rw [show (rd1 (rdP (d + 1) ver false) fQ_0.of fQ_0.sub false false) s3 = _ from rd1_part];exact hfine0
      have hxE : (Rep1 (RepS false (d + 1)) fQ_0.of fQ_0.sub) (fun b => (ok b ∨ w1.heap.size ≤ b) ∧ ¬ ownB va0 b) w16 (.mk 0 [] false [xe0_0,xe0_1] []) [strV (rdStr false s3).1,.slice aa1 N1 qq1] := Rep1_part.2 hRe0
      repeat ((first | refine qA rfl ?_|apply qB|refine qC rfl ?_|apply qD|apply qE|apply qF|apply qG|apply qH);try simp (maxSteps:=1000000)(disch:=(first|omega|(simp only [qI,qJ,qK]<;>omega)|exact qL _)) only [go_sem,↓reduceIte,n0,reduceCtorEq,n1,n2,n3,n4,n5,i0,i1,i2,i3,i4,i5,i6,i7,hxb16,hrd1_2,hrd1_7,hrd1_8,hrd1_9,hrd1_12,hrd1_11,hrd1_13,hrd1_15,hrd1_19,hrd1_18,exitRQ_ret,exitRQ_exit,Int.toNat_natCast,Nat.mul_one])
      have hTk : Upd (fun b => b = R1 ∨ b = rb) w6 w16 := (((((hV7.trans hV8).trans hV9).trans hV10).trans hV15).trans hV16)
      have hL' := hL0.step (Rep1_lay _ _ fun _ => RepS_lay false _ _) hlt0 (hnext1 w16 [strV (rdStr false s3).1,.slice aa1 N1 qq1] rfl hx1_16) (by rw [hrE];exact hxE) (hTk.mono fun b h => h.imp (fun e => ⟨_,_,_,hva1,e⟩) id) (by rw [hrE];exact hq16) (fun h => hoM rb h (.inr rfl)) (Nat.le_refl _)
      have hij : IntKind.i32.wrap ((j1 : Int) + 1) = ((j1 + 1 : Nat) : Int) := by rw [i32_wrap (by omega)];omega
      repeat ((first | refine qA rfl ?_|apply qB|refine qC rfl ?_|apply qD|apply qE|apply qF|apply qG|apply qH);try simp (maxSteps:=1000000)(disch:=(first|omega|(simp only [qI,qJ,qK]<;>omega)|exact qL _)) only [go_sem,↓reduceIte,n0,reduceCtorEq,n1,n2,n3,n4,n5,i0,i1,i2,i3,i4,i5,i6,i7,hxb16,hrd1_2,hrd1_7,hrd1_8,hrd1_9,hrd1_12,hrd1_11,hrd1_13,hrd1_15,hrd1_19,hrd1_18,exitRQ_ret,exitRQ_exit,Int.toNat_natCast,Nat.mul_one,hij])
      refine ⟨⟨(by simp (maxSteps:=1000000)(disch:=(first|omega|(simp only [qI,qJ,qK]<;>omega)|exact qL _)) only [go_sem,↓reduceIte,n0,reduceCtorEq,n1,n2,n3,n4,n5,i0,i1,i2,i3,i4,i5,i6,i7,Holds_nil,Holds_cons,hrd1_2,hrd1_7,hrd1_8,hrd1_9,hrd1_12,hrd1_11,hrd1_13,hrd1_15,hrd1_19,hrd1_18];exact hva1.symm),j1 + 1,(by simp (maxSteps:=1000000)(disch:=(first|omega|(simp only [qI,qJ,qK]<;>omega)|exact qL _)) only [go_sem,↓reduceIte,n0,reduceCtorEq,n1,n2,n3,n4,n5,i0,i1,i2,i3,i4,i5,i6,i7,hrd1_2,hrd1_7,hrd1_8,hrd1_9,hrd1_12,hrd1_11,hrd1_13,hrd1_15,hrd1_19,hrd1_18,hij];all_goals rfl),_,_,_,hL'⟩,?_⟩
      try simp (maxSteps:=1000000)(disch:=(first|omega|(simp only [qI,qJ,qK]<;>omega)|exact qL _)) only [go_sem,↓reduceIte,n0,reduceCtorEq,n1,n2,n3,n4,n5,i0,i1,i2,i3,i4,i5,i6,i7,hrd1_2,hrd1_7,hrd1_8,hrd1_9,hrd1_12,hrd1_11,hrd1_13,hrd1_15,hrd1_19,hrd1_18]
      simp only [RowKit.intOf]
      omega
    · have hjN : j1 = N0 := by omega
      rw [hjN] at hL0
      repeat ((first | refine qA rfl ?_|apply qB|refine qC rfl ?_|apply qD|apply qE|apply qF|apply qG|apply qH);try simp (maxSteps:=1000000)(disch:=(first|omega|(simp only [qI,qJ,qK]<;>omega)|exact qL _)) only [go_sem,↓reduceIte,n0,reduceCtorEq,n1,n2,n3,n4,n5,i0,i1,i2,i3,i4,i5,i6,i7,hrc0_2,hrc0_7,hrc0_8,hrc0_9,hrc0_12,hrc0_11,hri0,exitRQ_ret,exitRQ_exit])
      exact ⟨(by simp (maxSteps:=1000000)(disch:=(first|omega|(simp only [qI,qJ,qK]<;>omega)|exact qL _)) only [go_sem,↓reduceIte,n0,reduceCtorEq,n1,n2,n3,n4,n5,i0,i1,i2,i3,i4,i5,i6,i7,Holds_nil,Holds_cons,hrc0_2,hrc0_7,hrc0_8,hrc0_9,hrc0_12,hrc0_11,hri0]),s3,xs0,css0,hL0⟩
  rintro ρ w17 ⟨⟨hrd0_2,hrd0_7,hrd0_8,hrd0_9,hrd0_12,hrd0_11,-⟩,s9,xs0,css0,hL0⟩
  have hq17 := hL0.rd
  have hu17 := hL0.upd
  have hv_17 := hu17.blk_some hv_4 (by omega)
  have hV17 : Upd (fun b => b = vb ∨ b = rb) w4 w17 := hu17.mono (fun _ h => .inr h)
  have hU17 : Upd (fun b => b = vb ∨ b = rb) w1 w17 := hU4.trans hV17
  have hz17 := hV17.size
  have hG17 : Glo ev w17 := hG1.updS hU17 hgM1 hgM2
  have hrd0 : rdF (rdP (d + 1) ver false) ver false fQ_0 s1 = (.mk 0 [] (nilS fQ_0 ver y0) xs0 [],s9) := by
    have h := rdF_listE (pt := (rdP (d + 1) ver false)) (v := ver) (flex := false) (f := fQ_0) (s := s1) (xs := xs0) (e := s9) rfl (by rw [hy0,← hN0,← hs2];exact hL0.done)
    rw [hy0] at h;exact h
  have hs9 : s9 = (rdF (rdP (d + 1) ver false) ver false fQ_0 s1).2 := by rw [hrd0]
  obtain ⟨aa0,qq0,hvs0⟩ := hL0.row.shape
  subst hvs0
  repeat ((first | refine qA rfl ?_|apply qB|refine qC rfl ?_|apply qD|apply qE|apply qF|apply qG|apply qH);try simp (maxSteps:=1000000)(disch:=(first|omega|(simp only [qI,qJ,qK]<;>omega)|exact qL _)) only [go_sem,↓reduceIte,n0,reduceCtorEq,n1,n2,n3,n4,n5,i0,i1,i2,i3,i4,i5,i6,i7,hv_17,hrd0_2,hrd0_7,hrd0_8,hrd0_9,hrd0_12,hrd0_11])
  generalize hw18 : wr w17 vb 1 [.slice aa0 N0 qq0] = w18
  have hS18 : Upd (fun b => b = vb ∨ b = rb) w17 w18 := by rw [← hw18];exact (Upd.refl _ _).wr _ _ (.inr (.inl rfl))
  have hv_18 : blk w18 vb = some (#[.int .i16 vc,.slice aa0 N0 qq0,.slice none 0 0],50,(0,0)) := by rw [← hw18,blk_wr_eq,hv_17];rfl
  have hV18 := hS18
  have hU18 : Upd (fun b => b = vb ∨ b = rb) w1 w18 := hU17.trans hV18
  have hz18 := hV18.size
  have hG18 : Glo ev w18 := hG1.updS hU18 hgM1 hgM2
  have hq18 := Rdr.stored hw18 hq17 (by omega) fun h => by have := (hok _ h).1;first | omega | exact (hok _ h).2 rfl
  clear hw18
  have hf_0 : RepF (RepS false (d + 1)) (szS false (d + 1)) fQ_0 (fun b => ok b ∨ w1.heap.size ≤ b) w18 (x_0) [.slice aa0 N0 qq0] := by rw [hx_0,hrd0];exact RepF.keepS (RepF_row rfl hnc0 hN0 rfl hL0.row hL0.all (fun b hb => .inr (by omega))) (hV18.keeps fun b _ hk e => (hoM b hk) e)
  clear hL0 hnc0
  have hb_1 : (rdL (rdP (d + 1) ver false) (dfP (d + 1)) ver false [frQ_1] s9).2 = none → FB := fun h => hb_0 (by rw [rdL_st (by decide) hh_0,← hs9];exact h)
  have hh_1 : hasS frQ_1 ver = true := hasS_t (by show (0 : Int) ≤ ver;omega) (by show (-1 : Int) < 0 ∨ ver ≤ (-1 : Int);omega)
  obtain ⟨x_1,hx_1⟩ : ∃ x,x = (rdF (rdP (d + 1) ver false) ver false frQ_1 s9).1 := ⟨_,rfl⟩
  repeat ((first | refine qA rfl ?_|apply qB|refine qC rfl ?_|apply qD|apply qE|apply qF|apply qG|apply qH);try simp (maxSteps:=1000000)(disch:=(first|omega|(simp only [qI,qJ,qK]<;>omega)|exact qL _)) only [go_sem,↓reduceIte,n0,reduceCtorEq,n1,n2,n3,n4,n5,i0,i1,i2,i3,i4,i5,i6,i7,hv_18,hrd0_2,hrd0_7,hrd0_8,hrd0_9,hrd0_12,hrd0_11])
  have hmay : mayS frQ_1 ver = true := mayS_yes (by decide) (by show (0 : Int) ≤ ver;omega)
  have hrd : rdF (rdP (d + 1) ver false) ver false frQ_1 s9 = _ := rdF_noct rfl hmay
  refine (RNullableBytes_fn w18 hq18.1 hrok hG18.1 hgrb).mono ?_
  rintro r19 w19 ⟨hp19,hq19,hu19⟩
  obtain ⟨ao19,no19,co19,rfl⟩ := hp19.shape
  have hv_19 := hu19.blk_some hv_18 (by omega)
  have hV19 : Upd (fun b => b = vb ∨ b = rb) w18 w19 := hu19.mono (fun _ h => .inr h)
  have hU19 : Upd (fun b => b = vb ∨ b = rb) w1 w19 := hU18.trans hV19
  have hz19 := hV19.size
  have hG19 : Glo ev w19 := hG1.updS hU19 hgM1 hgM2
  have hst : (rdF (rdP (d + 1) ver false) ver false frQ_1 s9).2 = (rdNBytes false s9).2 := by first | (rw [hrd];rfl) | rw [hrd]
  obtain ⟨s10,hs10⟩ : ∃ s,s = (rdF (rdP (d + 1) ver false) ver false frQ_1 s9).2 := ⟨_,rfl⟩
  rw [← hst,← hs10] at hq19
  clear hst
  repeat ((first | refine qA rfl ?_|apply qB|refine qC rfl ?_|apply qD|apply qE|apply qF|apply qG|apply qH);try simp (maxSteps:=1000000)(disch:=(first|omega|(simp only [qI,qJ,qK]<;>omega)|exact qL _)) only [go_sem,↓reduceIte,n0,reduceCtorEq,n1,n2,n3,n4,n5,i0,i1,i2,i3,i4,i5,i6,i7,hv_19,hrd0_2,hrd0_7,hrd0_8,hrd0_9,hrd0_12,hrd0_11])
  generalize hw20 : wr w19 vb 2 [.slice ao19 no19 co19] = w20
  have hS20 : Upd (fun b => b = vb ∨ b = rb) w19 w20 := by rw [← hw20];exact (Upd.refl _ _).wr _ _ (.inr (.inl rfl))
  have hv_20 : blk w20 vb = some (#[.int .i16 vc,.slice aa0 N0 qq0,.slice ao19 no19 co19],50,(0,0)) := by rw [← hw20,blk_wr_eq,hv_19];rfl
  have hV20 := hS20
  have hU20 : Upd (fun b => b = vb ∨ b = rb) w1 w20 := hU19.trans hV20
  have hz20 := hV20.size
  have hG20 : Glo ev w20 := hG1.updS hU20 hgM1 hgM2
  have hq20 := Rdr.stored hw20 hq19 (by omega) fun h => by have := (hok _ h).1;first | omega | exact (hok _ h).2 rfl
  clear hw20
  have hf_1 : RepF (RepS false (d + 1)) (szS false (d + 1)) frQ_1 (fun b => ok b ∨ w1.heap.size ≤ b) w20 (x_1) [.slice ao19 no19 co19] := (RepF_bytes rfl).2 ⟨_,rfl,by rw [hx_1,hrd];exact (hp19.weaken fun b _ hk => .inl hk).keep (hV20.keeps fun b _ hk e => (hoM b hk) e)⟩
  clear hrd
  have hl_2 : rdL (rdP (d + 1) ver false) (dfP (d + 1)) ver false [] s10 = ([],s10) := rfl
  have hl_1 : rdL (rdP (d + 1) ver false) (dfP (d + 1)) ver false [frQ_1] s9 = ([x_1],s10) := by rw [rdL_st (by decide) hh_1,← hx_1,← hs10,hl_2]
  have hl_0 : rdL (rdP (d + 1) ver false) (dfP (d + 1)) ver false [fQ_0,frQ_1] s1 = ([x_0,x_1],s10) := by rw [rdL_st (by decide) hh_0,← hx_0,← hs9,hl_1]
  have hfin : rdP (d + 2) ver false fsr_Q s1 = (.mk 0 [] false [x_0,x_1] [],s10) := rdP_f hl_0
  have hC_20 : Upd (fun b => b = vb ∨ b = rb) w20 w20 := Upd.refl _ _
  have hC_19 : Upd (fun b => b = vb ∨ b = rb) w19 w20 := hV20.trans hC_20
  have hC_18 : Upd (fun b => b = vb ∨ b = rb) w18 w20 := hV19.trans hC_19
  have hC_17 : Upd (fun b => b = vb ∨ b = rb) w17 w20 := hV18.trans hC_18
  have hC_4 : Upd (fun b => b = vb ∨ b = rb) w4 w20 := hV17.trans hC_17
  have hC_3 : Upd (fun b => b = vb ∨ b = rb) w3 w20 := hV4.trans hC_4
  have hC_2 : Upd (fun b => b = vb ∨ b = rb) w2 w20 := hV3.trans hC_3
  have hC_1 : Upd (fun b => b = vb ∨ b = rb) w1 w20 := hV2.trans hC_2
  have hR : RepS false (d + 2) fsr_Q (fun b => ok b ∨ w1.heap.size ≤ b) w20 (.mk 0 [] false [x_0,x_1] []) [.slice aa0 N0 qq0,.slice ao19 no19 co19] := RepS.introF (RepL.cons1 (hf_0.keepS (hC_18.keeps fun b _ hk e => (hoM b hk) e)) (RepL.cons1 (hf_1.keepS (hC_20.keeps fun b _ hk e => (hoM b hk) e)) RepL.nil))
  repeat ((first | refine qA rfl ?_|apply qB|refine qC rfl ?_|apply qD|apply qE|apply qF|apply qG|apply qH);try simp (maxSteps:=1000000)(disch:=(first|omega|(simp only [qI,qJ,qK]<;>omega)|exact qL _)) only [go_sem,↓reduceIte,n0,reduceCtorEq,n1,n2,n3,n4,n5,i0,i1,i2,i3,i4,i5,i6,i7,hv_20,hrd0_2,hrd0_7,hrd0_8,hrd0_9,hrd0_12,hrd0_11])
  refine (RComplete_fn w20 hq20.1 hG20.2).mono ?_
  rintro _ wz ⟨rfl,hez⟩
  rw [hez]
  repeat ((first | refine qA rfl ?_|apply qB|refine qC rfl ?_|apply qD|apply qE|apply qF|apply qG|apply qH);try simp (maxSteps:=1000000)(disch:=(first|omega|(simp only [qI,qJ,qK]<;>omega)|exact qL _)) only [go_sem,↓reduceIte,n0,reduceCtorEq,n1,n2,n3,n4,n5,i0,i1,i2,i3,i4,i5,i6,i7,hv_20,hrd0_2,hrd0_7,hrd0_8,hrd0_9,hrd0_12,hrd0_11])
  rw [hfin]
  refine ⟨fun h => ?_,fun h => ⟨?_,[.slice aa0 N0 qq0,.slice ao19 no19 co19],hv_20,?_⟩,?_⟩
  · have h' : s10 = none := h
    rw [h'];rfl
  · cases hsn : s10 with
    | none => exact absurd hsn h
    | some x => rfl
  · exact (RepS_lay false (d + 2) fsr_Q).weaken hR fun b _ hk => hk.imp id fun h => by omega
  · exact hbase.trans' hU20 fun i hi h => h.elim id fun h => by omega

theorem ReadFromQ_fn {d : Nat} {ok : Blocks} {ev : Value} (w : World) {vb : Nat} (src : Value) (s : List UInt8) (hv : blk w vb = some (#[.int .i16 0,.slice none 0 0,.slice none 0 0],50,(0,0))) (hsrc : BytesV ok w src s) (hok0 : ∀ b,ok b → b < w.heap.size ∧ b ≠ vb) (hG : Glo ev w) (hgv : ¬ 0 = vb ∧ ¬ 1 = vb) :
    Fn Tryd.prog 14 #[.pointer (some ⟨vb,0,none⟩),src] w (ReadQF 50 ok (rdInt .i16 2 (some s)).1 (d + 2) fsr_Q vb w (rdP (d + 2) (verN (rdInt .i16 2 (some s)).1) (flexB (-1) (verN (rdInt .i16 2 (some s)).1)) fsr_Q (rdInt .i16 2 (some s)).2) ev) := by
  obtain ⟨sa,sc,rfl,_⟩ := hsrc.shape
  have hr := verN_rng (some s)
  have hvc := verN_cases (rdInt .i16 2 (some s)).1
  refine fn_of_W Tryd.func14 rfl Tryd.results14 Tryd.ntmps14 rfl ?_
  repeat ((first | refine qA rfl ?_|apply qB|refine qC rfl ?_|apply qD|apply qE|apply qF|apply qG|apply qH);try simp (maxSteps:=1000000)(disch:=(first|omega|(simp only [qI,qJ,qK]<;>omega)|exact qL _)) only [go_sem,↓reduceIte,n0,reduceCtorEq,n1,n2,n3,n4,n5,i0,i1,i2,i3,i4,i5,i6,i7])
  generalize verN (rdInt .i16 2 (some s)).1 = ver at *
  have hcl : (0 ≤ ver ∧ ver ≤ 32767) := by omega
  rcases hcl with ⟨h1,h2⟩
  · have hfl : flexB (-1) ver = false := by simp [flexB]
    rw [hfl]
    refine (readQ_0 (d := d) h1 h2 w _ s hvc hv hsrc hok0 hG hgv).mono ?_
    rintro r5 w5 h5
    repeat ((first | refine qA rfl ?_|apply qB|refine qC rfl ?_|apply qD|apply qE|apply qF|apply qG|apply qH);try simp (maxSteps:=1000000)(disch:=(first|omega|(simp only [qI,qJ,qK]<;>omega)|exact qL _)) only [go_sem,↓reduceIte,n0,reduceCtorEq,n1,n2,n3,n4,n5,i0,i1,i2,i3,i4,i5,i6,i7])
    all_goals exact h5

end Ms

