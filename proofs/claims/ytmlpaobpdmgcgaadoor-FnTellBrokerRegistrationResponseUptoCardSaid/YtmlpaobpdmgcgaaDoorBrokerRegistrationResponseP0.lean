/- A part of the proof: see the last text. -/
import Derived.Test.YtmlpaobpdmgcgaaDoorC05
import Derived.Test.YtmlpaobpdmgcgaaDoorC06
import Derived.Test.YtmlpaobpdmgcgaaDoorC08
import Derived.Test.YtmlpaobpdmgcgaaDoorC09
import Derived.Test.YtmlpaobpdmgcgaaDoorC10
import Derived.Test.YtmlpaobpdmgcgaaDoorC11
set_option linter.unusedSimpArgs false
set_option linter.unusedVariables false
namespace Ms
open Nat renaming reduceEqDiff → n0,reduceAdd → n1,reduceMul → n2,reduceSub → n3,reduceLT → n4,reduceLeDiff → n5
open Int renaming reduceEq → i0,reduceLT → i1,reduceLE → i2,reduceNeg → i3,reduceAdd → i4,reduceSub → i5,reduceMul → i6,reduceToNat → i7
set_option maxRecDepth 4000
open Go Go.Proofs
theorem ap_35_35 : AppT Tryd.prog 35 35 68 2 32 := AppT.of (by kernel_rfl)
theorem ca_10 : callable Tryd.prog 10 = true := nr (by kernel_rfl)
theorem ca_11 : callable Tryd.prog 11 = true := nr (by kernel_rfl)
theorem ca_12 : callable Tryd.prog 12 = true := nr (by kernel_rfl)
theorem ca_14 : callable Tryd.prog 14 = true := nr (by kernel_rfl)
theorem ca_27 : callable Tryd.prog 27 = true := nr (by kernel_rfl)
theorem ca_28 : callable Tryd.prog 28 = true := nr (by kernel_rfl)
theorem ca_29 : callable Tryd.prog 29 = true := nr (by kernel_rfl)
theorem ca_30 : callable Tryd.prog 30 = true := nr (by kernel_rfl)
theorem ca_31 : callable Tryd.prog 31 = true := nr (by kernel_rfl)
theorem ca_60 : callable Tryd.prog 60 = true := nr (by kernel_rfl)
theorem ca_61 : callable Tryd.prog 61 = true := nr (by kernel_rfl)
theorem ca_62 : callable Tryd.prog 62 = true := nr (by kernel_rfl)
theorem ca_63 : callable Tryd.prog 63 = true := nr (by kernel_rfl)
theorem ca_64 : callable Tryd.prog 64 = true := nr (by kernel_rfl)
theorem ca_7 : callable Tryd.prog 7 = true := nr (by kernel_rfl)
theorem ca_8 : callable Tryd.prog 8 = true := nr (by kernel_rfl)
theorem ca_82 : callable Tryd.prog 82 = true := nr (by kernel_rfl)
theorem ca_83 : callable Tryd.prog 83 = true := nr (by kernel_rfl)
theorem ca_84 : callable Tryd.prog 84 = true := nr (by kernel_rfl)
theorem ca_9 : callable Tryd.prog 9 = true := nr (by kernel_rfl)
theorem fo_84_0 : fieldOff Tryd.prog 84 0 = some 0 := nr (by kernel_rfl)
theorem fo_84_1 : fieldOff Tryd.prog 84 1 = some 1 := nr (by kernel_rfl)
theorem fo_84_2 : fieldOff Tryd.prog 84 2 = some 2 := nr (by kernel_rfl)
theorem fo_84_3 : fieldOff Tryd.prog 84 3 = some 3 := nr (by kernel_rfl)
theorem fo_84_4 : fieldOff Tryd.prog 84 4 = some 4 := nr (by kernel_rfl)
theorem if_55 : isIfaceT Tryd.prog 55 = true := nr (by kernel_rfl)
theorem ld_21 (w : World) (b o : Nat) : loadOf Tryd.prog 21 w ⟨b,o,none⟩ = (blk w b).bind fun x => x.1[o]? := loadOf_one (by kernel_rfl) w b o
theorem ld_31 (w : World) (b o : Nat) : loadOf Tryd.prog 31 w ⟨b,o,none⟩ = (blk w b).bind fun x => cellsAt x.1 o 2 := loadOf_agg (by kernel_rfl) w b o
theorem ld_47 (w : World) (b o : Nat) : loadOf Tryd.prog 47 w ⟨b,o,none⟩ = (blk w b).bind fun x => x.1[o]? := loadOf_one (by kernel_rfl) w b o
theorem pl_113 : placesOf Tryd.prog 113 = some [(0,1),(1,1)] := nr (by kernel_rfl)
theorem pl_31 : placesOf Tryd.prog 31 = some [(0,1),(1,1)] := nr (by kernel_rfl)
theorem pl_52 : placesOf Tryd.prog 52 = some [(0,1),(1,1),(2,1),(3,1),(4,1),(5,1),(6,1),(7,1)] := nr (by kernel_rfl)
theorem pl_68 : placesOf Tryd.prog 68 = some [(0,1),(1,1)] := nr (by kernel_rfl)
theorem se_35 : slElem Tryd.prog 35 = some (68,2) := nr (by kernel_rfl)
theorem sz_113 (w : World) (b o : Nat) (v : Value) : storeOf Tryd.prog 113 w ⟨b,o,none⟩ v = (blk w b).bind fun x => stO w b o v x 2 := storeOf_n (by kernel_rfl) w b o v
theorem sz_2 (w : World) (b o : Nat) (v : Value) : storeOf Tryd.prog 2 w ⟨b,o,none⟩ v = (blk w b).bind fun x => stO w b o v x 1 := storeOf_n (by kernel_rfl) w b o v
theorem sz_21 (w : World) (b o : Nat) (v : Value) : storeOf Tryd.prog 21 w ⟨b,o,none⟩ v = (blk w b).bind fun x => stO w b o v x 1 := storeOf_n (by kernel_rfl) w b o v
theorem sz_31 (w : World) (b o : Nat) (v : Value) : storeOf Tryd.prog 31 w ⟨b,o,none⟩ v = (blk w b).bind fun x => stO w b o v x 2 := storeOf_n (by kernel_rfl) w b o v
theorem sz_35 (w : World) (b o : Nat) (v : Value) : storeOf Tryd.prog 35 w ⟨b,o,none⟩ v = (blk w b).bind fun x => stO w b o v x 1 := storeOf_n (by kernel_rfl) w b o v
theorem sz_47 (w : World) (b o : Nat) (v : Value) : storeOf Tryd.prog 47 w ⟨b,o,none⟩ v = (blk w b).bind fun x => stO w b o v x 1 := storeOf_n (by kernel_rfl) w b o v
theorem z_113 : zeroOf Tryd.prog 113 = some #[.slice none 0 0,.bool false] := nr (by kernel_rfl)
theorem z_31 : zeroOf Tryd.prog 31 = some #[.slice none 0 0,.int .i64 0] := nr (by kernel_rfl)
theorem z_84 : zeroOf Tryd.prog 84 = some #[.int .i16 0,.int .i32 0,.int .i16 0,.int .i64 0,.map none] := nr (by kernel_rfl)
attribute [go_sem] ca_10 ca_11 ca_12 ca_14 ca_27 ca_28 ca_29 ca_30 ca_31 ca_60 ca_61 ca_62 ca_63 ca_64 ca_7 ca_8 ca_82 ca_83 ca_84 ca_9 fo_84_0 fo_84_1 fo_84_2 fo_84_3 fo_84_4 if_55 ld_21 ld_31 ld_47 pl_113 pl_31 pl_52 pl_68 se_35 sz_113 sz_2 sz_21 sz_31 sz_35 sz_47 z_113 z_31 z_84
end Ms

namespace Ms
open Go.World renaming size_alloc → qI
open Ms renaming size_wr → qJ,size_drew → qK,not_noB → qL
open W renaming seqR → qA,seq → qB,regR → qC,condK → qD,block → qE,skip → qF,ret → qG,exit → qH
open Nat renaming reduceEqDiff → n0,reduceAdd → n1,reduceMul → n2,reduceSub → n3,reduceLT → n4,reduceLeDiff → n5
open Int renaming reduceEq → i0,reduceLT → i1,reduceLE → i2,reduceNeg → i3,reduceAdd → i4,reduceSub → i5,reduceMul → i6,reduceToNat → i7
set_option maxRecDepth 8000
open Go Go.Proofs Go.Shelf
attribute [local congr] W_congr WPsq_congr WPp_congr optK_congr addrK_congr intK_congr boolK_congr sliceK_congr tupleK_congr funcK_congr Fn_congr rawK_congr takeK_congr stepK_congr convK_congr aggK_congr

def fBrokerRegistrationResponse_0 : Fld := .mk 3 0 (-1) (-1) (-1) 0 0 []
def fBrokerRegistrationResponse_1 : Fld := .mk 2 0 (-1) (-1) (-1) 0 0 []
def fBrokerRegistrationResponse_2 : Fld := .mk 4 0 (-1) (-1) (-1) (-1) 0 []
def fs_BrokerRegistrationResponse : List Fld := [fBrokerRegistrationResponse_0,fBrokerRegistrationResponse_1,fBrokerRegistrationResponse_2]

set_option maxHeartbeats 4000000 in
theorem cBrokerRegistrationResponse_fn (w : World) : Fn Tryd.prog 9 #[] w fun r w' => (∃ vs,r = .agg #[vs,.int .i64 0] ∧ FldsV (fun b => w.heap.size ≤ b) w' vs fs_BrokerRegistrationResponse) ∧ Ext w w' := by
  refine fn_of_W Tryd.func9 rfl Tryd.results9 Tryd.ntmps9 rfl ?_
  repeat ((first | refine qA rfl ?_|refine qB ?_|refine qC rfl ?_|refine qD ?_|refine qE ?_|refine qF ?_|refine qG ?_|refine qH ?_);try simp (maxSteps:=1000000)(disch:=(first|omega|(simp only [qI,qJ,qK]<;>omega)|exact qL _)) only [go_sem,↓reduceIte,n0,reduceCtorEq,n1,n2,n3,n4,n5,i0,i1,i2,i3,i4,i5,i6,i7,fill_fld,fillN_nil,fillN_int,fillN_slice])
  have hz0 : (w.alloc (.cells #[.slice none 0 0,.int .i64 0] 31)).heap.size = w.heap.size + 1 := World.size_alloc _ _
  repeat ((first | refine qA rfl ?_|refine qB ?_|refine qC rfl ?_|refine qD ?_|refine qE ?_|refine qF ?_|refine qG ?_|refine qH ?_);try simp (maxSteps:=1000000)(disch:=(first|omega|(simp only [qI,qJ,qK]<;>omega)|exact qL _)) only [go_sem,↓reduceIte,n0,reduceCtorEq,n1,n2,n3,n4,n5,i0,i1,i2,i3,i4,i5,i6,i7,fill_fld,fillN_nil,fillN_int,fillN_slice])
  exact ⟨⟨_,rfl,FldsV.litO (fs := fs_BrokerRegistrationResponse) (css := [[.int .i64 3,.int .i64 0,.int .i64 (-1),.int .i64 (-1),.int .i64 (-1),.int .i64 0,.int .i64 0,.slice none 0 0],[.int .i64 2,.int .i64 0,.int .i64 (-1),.int .i64 (-1),.int .i64 (-1),.int .i64 0,.int .i64 0,.slice none 0 0],[.int .i64 4,.int .i64 0,.int .i64 (-1),.int .i64 (-1),.int .i64 (-1),.int .i64 (-1),.int .i64 0,.slice none 0 0]]) (T := 52) (fr := (0,0)) (by first | omega | (simp only [World.size_alloc];omega)) (by first | (simp (maxSteps:=1000000)(disch:=(first|omega|(simp only [qI,qJ,qK]<;>omega)|exact qL _)) only [go_sem,↓reduceIte,n0,reduceCtorEq,n1,n2,n3,n4,n5,i0,i1,i2,i3,i4,i5,i6,i7];rfl) | rfl) (by simp) (All2.cons (FldC.intro (kind := 3) (FldsV.none _ _)) (All2.cons (FldC.intro (kind := 2) (FldsV.none _ _)) (All2.cons (FldC.intro (kind := 4) (FldsV.none _ _)) All2.nil)))⟩,(Upd.wr (Upd.alloc (Upd.alloc (Upd.refl _ _) _) _) _ _ (.inl (Nat.le_refl _)))⟩

theorem DefaultBrokerRegistrationResponse_fn (w : World) {vb : Nat} {c0 c1 c2 c3 c4 : Value} (hb : blk w vb = some (#[c0,c1,c2,c3,c4],84,(0,0))) :
    Fn Tryd.prog 60 #[.pointer (some ⟨vb,0,none⟩)] w fun _ w' => blk w' vb = some (#[c0,c1,c2,.int .i64 (-1),c4],84,(0,0)) ∧ Upd (fun b => b = vb) w w' := by
  have hvl := blk_lt hb
  refine fn_of_W Tryd.func60 rfl Tryd.results60 Tryd.ntmps60 rfl ?_
  repeat ((first | refine qA rfl ?_|refine qB ?_|refine qC rfl ?_|refine qD ?_|refine qE ?_|refine qF ?_|refine qG ?_|refine qH ?_);try simp (maxSteps:=1000000)(disch:=(first|omega|(simp only [qI,qJ,qK]<;>omega)|exact qL _)) only [go_sem,↓reduceIte,n0,reduceCtorEq,n1,n2,n3,n4,n5,i0,i1,i2,i3,i4,i5,i6,i7,hb])
  first | (refine (Upd.wr (Upd.refl _ _) _ _ ?_) <;> exact .inr rfl) | (refine ⟨by simp (maxSteps:=1000000)(disch:=(first|omega|(simp only [qI,qJ,qK]<;>omega)|exact qL _)) only [go_sem,↓reduceIte,n0,reduceCtorEq,n1,n2,n3,n4,n5,i0,i1,i2,i3,i4,i5,i6,i7,hb],?_⟩;refine (Upd.wr (Upd.refl _ _) _ _ ?_) <;> exact .inr rfl)

theorem NewPtrBrokerRegistrationResponse_fn (w : World) : Fn Tryd.prog 27 #[] w fun r w' => r = .pointer (some ⟨w.heap.size,0,none⟩) ∧ blk w' w.heap.size = some (#[.int .i16 0,.int .i32 0,.int .i16 0,.int .i64 (-1),.map none],84,(0,0)) ∧ Ext w w' := by
  refine fn_of_W Tryd.func27 rfl Tryd.results27 Tryd.ntmps27 rfl ?_
  repeat ((first | refine qA rfl ?_|refine qB ?_|refine qC rfl ?_|refine qD ?_|refine qE ?_|refine qF ?_|refine qG ?_|refine qH ?_);try simp (maxSteps:=1000000)(disch:=(first|omega|(simp only [qI,qJ,qK]<;>omega)|exact qL _)) only [go_sem,↓reduceIte,n0,reduceCtorEq,n1,n2,n3,n4,n5,i0,i1,i2,i3,i4,i5,i6,i7])
  refine (DefaultBrokerRegistrationResponse_fn _ (blk_alloc_new rfl)).mono ?_
  rintro _ w1 ⟨hb1,hU1⟩
  have hz := World.size_alloc w (.cells #[.int .i16 0,.int .i32 0,.int .i16 0,.int .i64 0,.map none] 84)
  repeat ((first | refine qA rfl ?_|refine qB ?_|refine qC rfl ?_|refine qD ?_|refine qE ?_|refine qF ?_|refine qG ?_|refine qH ?_);try simp (maxSteps:=1000000)(disch:=(first|omega|(simp only [qI,qJ,qK]<;>omega)|exact qL _)) only [go_sem,↓reduceIte,n0,reduceCtorEq,n1,n2,n3,n4,n5,i0,i1,i2,i3,i4,i5,i6,i7])
  exact ⟨hb1,(Upd.alloc (Upd.refl _ _) _ : Ext w _).more hU1 fun b hb h => by omega⟩

theorem SetVersionBrokerRegistrationResponse_fn (w : World) {vb : Nat} {c0 c1 c2 c3 c4 : Value} (n : Int) (hb : blk w vb = some (#[c0,c1,c2,c3,c4],84,(0,0))) :
    Fn Tryd.prog 29 #[.pointer (some ⟨vb,0,none⟩),.int .i16 n] w fun _ w' => blk w' vb = some (#[.int .i16 n,c1,c2,c3,c4],84,(0,0)) ∧ Upd (fun b => b = vb) w w' := by
  have hvl := blk_lt hb
  refine fn_of_W Tryd.func29 rfl Tryd.results29 Tryd.ntmps29 rfl ?_
  repeat ((first | refine qA rfl ?_|refine qB ?_|refine qC rfl ?_|refine qD ?_|refine qE ?_|refine qF ?_|refine qG ?_|refine qH ?_);try simp (maxSteps:=1000000)(disch:=(first|omega|(simp only [qI,qJ,qK]<;>omega)|exact qL _)) only [go_sem,↓reduceIte,n0,reduceCtorEq,n1,n2,n3,n4,n5,i0,i1,i2,i3,i4,i5,i6,i7,hb])
  first | exact Upd.wr (Upd.refl _ _) _ _ (.inr rfl) | exact ⟨by simp (maxSteps:=1000000)(disch:=(first|omega|(simp only [qI,qJ,qK]<;>omega)|exact qL _)) only [go_sem,↓reduceIte,n0,reduceCtorEq,n1,n2,n3,n4,n5,i0,i1,i2,i3,i4,i5,i6,i7,hb],Upd.wr (Upd.refl _ _) _ _ (.inr rfl)⟩

theorem MaxBrokerRegistrationResponse_fn (w : World) : Fn Tryd.prog 8 #[] w fun r w' => r = .int .i64 4 ∧ Ext w w' := by
  refine fn_of_W Tryd.func8 rfl Tryd.results8 Tryd.ntmps8 rfl ?_
  repeat ((first | refine qA rfl ?_|refine qB ?_|refine qC rfl ?_|refine qD ?_|refine qE ?_|refine qF ?_|refine qG ?_|refine qH ?_);try simp (maxSteps:=1000000)(disch:=(first|omega|(simp only [qI,qJ,qK]<;>omega)|exact qL _)) only [go_sem,↓reduceIte,n0,reduceCtorEq,n1,n2,n3,n4,n5,i0,i1,i2,i3,i4,i5,i6,i7])
  refine (NewPtrBrokerRegistrationResponse_fn w).mono ?_
  rintro _ w1 ⟨rfl,hb1,hE1⟩
  repeat ((first | refine qA rfl ?_|refine qB ?_|refine qC rfl ?_|refine qD ?_|refine qE ?_|refine qF ?_|refine qG ?_|refine qH ?_);try simp (maxSteps:=1000000)(disch:=(first|omega|(simp only [qI,qJ,qK]<;>omega)|exact qL _)) only [go_sem,↓reduceIte,n0,reduceCtorEq,n1,n2,n3,n4,n5,i0,i1,i2,i3,i4,i5,i6,i7])
  have hm : Fn Tryd.prog 28 #[.pointer (some ⟨w.heap.size,0,none⟩)] w1 fun r w' => r = .int .i16 4 ∧ w' = w1 := by
    refine fn_of_W Tryd.func28 rfl Tryd.results28 Tryd.ntmps28 rfl ?_
    repeat ((first | refine qA rfl ?_|refine qB ?_|refine qC rfl ?_|refine qD ?_|refine qE ?_|refine qF ?_|refine qG ?_|refine qH ?_);try simp (maxSteps:=1000000)(disch:=(first|omega|(simp only [qI,qJ,qK]<;>omega)|exact qL _)) only [go_sem,↓reduceIte,n0,reduceCtorEq,n1,n2,n3,n4,n5,i0,i1,i2,i3,i4,i5,i6,i7])
  refine hm.mono ?_
  rintro _ w2 ⟨rfl,rfl⟩
  have ew : IntKind.i64.wrap (4 : Int) = 4 := i64_wrap (by decide)
  repeat ((first | refine qA rfl ?_|refine qB ?_|refine qC rfl ?_|refine qD ?_|refine qE ?_|refine qF ?_|refine qG ?_|refine qH ?_);try simp (maxSteps:=1000000)(disch:=(first|omega|(simp only [qI,qJ,qK]<;>omega)|exact qL _)) only [go_sem,↓reduceIte,n0,reduceCtorEq,n1,n2,n3,n4,n5,i0,i1,i2,i3,i4,i5,i6,i7,ew])
  exact hE1
end Ms

namespace Ms
open Nat renaming reduceEqDiff → n0,reduceAdd → n1,reduceMul → n2,reduceSub → n3,reduceLT → n4,reduceLeDiff → n5
open Int renaming reduceEq → i0,reduceLT → i1,reduceLE → i2,reduceNeg → i3,reduceAdd → i4,reduceSub → i5,reduceMul → i6,reduceToNat → i7
set_option maxRecDepth 8000
open Go Go.Proofs Go.Shelf
attribute [local congr] W_congr WPsq_congr WPp_congr optK_congr addrK_congr intK_congr boolK_congr sliceK_congr tupleK_congr funcK_congr Fn_congr rawK_congr takeK_congr stepK_congr convK_congr aggK_congr

end Ms

namespace Ms
open Go.World renaming size_alloc → qI
open Ms renaming size_wr → qJ,size_drew → qK,not_noB → qL
open W renaming seqR → qA,seq → qB,regR → qC,condK → qD,block → qE,skip → qF,ret → qG,exit → qH
open Nat renaming reduceEqDiff → n0,reduceAdd → n1,reduceMul → n2,reduceSub → n3,reduceLT → n4,reduceLeDiff → n5
open Int renaming reduceEq → i0,reduceLT → i1,reduceLE → i2,reduceNeg → i3,reduceAdd → i4,reduceSub → i5,reduceMul → i6,reduceToNat → i7
set_option maxRecDepth 8000
open Go Go.Proofs Go.Shelf
attribute [local congr] W_congr WPsq_congr WPp_congr optK_congr addrK_congr intK_congr boolK_congr sliceK_congr tupleK_congr funcK_congr Fn_congr rawK_congr takeK_congr stepK_congr convK_congr aggK_congr

set_option maxHeartbeats 4000000 in
theorem readBrokerRegistrationResponse_0 {d : Nat} {ok : Blocks} {ver : Int} {ev : Value} (hlo : 0 ≤ ver) (hhi : ver ≤ 4) (w : World) {vb : Nat} (src : Value) (s : List UInt8) (hv : blk w vb = some (#[.int .i16 ver,.int .i32 0,.int .i16 0,.int .i64 (-1),.map none],84,(0,0))) (hsrc : BytesV ok w src s) (hok0 : ∀ b,ok b → b < w.heap.size ∧ b ≠ vb) (hG : Glo ev w) (hgv : ¬ 0 = vb ∧ ¬ 1 = vb) :
    Fn Tryd.prog 61 #[.pointer (some ⟨vb,0,none⟩),src,.bool false] w (ReadQ 84 ok ver (d + 1) fs_BrokerRegistrationResponse vb w (rdP (d + 1) ver true fs_BrokerRegistrationResponse (some s)) ev) := by
  have hvl := blk_lt hv
  have hgs := hG.lt
  obtain ⟨sa,sc,rfl,_⟩ := hsrc.shape
  refine fn_of_W Tryd.func61 rfl Tryd.results61 Tryd.ntmps61 rfl ?_
  repeat ((first | refine qA rfl ?_|refine qB ?_|refine qC rfl ?_|refine qD ?_|refine qE ?_|refine qF ?_|refine qG ?_|refine qH ?_);try simp (maxSteps:=1000000)(disch:=(first|omega|(simp only [qI,qJ,qK]<;>omega)|exact qL _)) only [go_sem,↓reduceIte,n0,reduceCtorEq,n1,n2,n3,n4,n5,i0,i1,i2,i3,i4,i5,i6,i7,hv])
  refine (DefaultBrokerRegistrationResponse_fn w hv).mono ?_
  rintro _ w0 ⟨hv0,hu0⟩
  have hz0 := hu0.size
  have hsrc0 : BytesV ok w0 (.slice sa s.length sc) s := hsrc.keep (hu0.keeps fun b _ hk e => (hok0 b hk).2 e)
  obtain ⟨rb,hrb⟩ : ∃ r,r = w0.heap.size := ⟨_,rfl⟩
  have hE1 : Ext w0 (wr (w0.alloc (.cells #[.slice none 0 0,.bool false] 113)) w0.heap.size 0 [.slice sa s.length sc,.bool false]) := (Upd.alloc (Upd.refl _ _) _).wr _ _ (.inl (Nat.le_refl _))
  have hz1 : (wr (w0.alloc (.cells #[.slice none 0 0,.bool false] 113)) w0.heap.size 0 [.slice sa s.length sc,.bool false]).heap.size = w0.heap.size + 1 := by rw [size_wr,World.size_alloc]
  have hR1 : Rdr RT ok (wr (w0.alloc (.cells #[.slice none 0 0,.bool false] 113)) w0.heap.size 0 [.slice sa s.length sc,.bool false]) w0.heap.size (some s) := Rdr.good (v := .slice sa s.length sc) (by simp (maxSteps:=1000000)(disch:=(first|omega|(simp only [qI,qJ,qK]<;>omega)|exact qL _)) only [go_sem,↓reduceIte,n0,reduceCtorEq,n1,n2,n3,n4,n5,i0,i1,i2,i3,i4,i5,i6,i7]) (hsrc0.keep (hE1.keeps _))
  have hv_1 := hE1.blk_some hv0 id
  repeat ((first | refine qA rfl ?_|refine qB ?_|refine qC rfl ?_|refine qD ?_|refine qE ?_|refine qF ?_|refine qG ?_|refine qH ?_);try simp (maxSteps:=1000000)(disch:=(first|omega|(simp only [qI,qJ,qK]<;>omega)|exact qL _)) only [go_sem,↓reduceIte,n0,reduceCtorEq,n1,n2,n3,n4,n5,i0,i1,i2,i3,i4,i5,i6,i7,hv0])
  generalize (wr (w0.alloc (.cells #[.slice none 0 0,.bool false] 113)) w0.heap.size 0 [.slice sa s.length sc,.bool false]) = w1 at *
  rw [← hrb] at hR1
  try rw [← hrb]
  have hok : ∀ b,ok b → b < w.heap.size ∧ b ≠ vb := hok0
  have hrok : ¬ ok rb := fun h => by have := (hok rb h).1;omega
  have hbase : Upd (fun b => b = vb) w w1 := hu0.trans (hE1.mono fun _ h => h.elim)
  have hG1 : Glo ev w1 := hG.updS hbase hgv.1 hgv.2
  have hgrb : ¬ 0 = rb := by omega
  have hgM1 : ¬ (0 = vb ∨ 0 = rb) := fun h => h.elim hgv.1 fun h => by omega
  have hgM2 : ¬ (1 = vb ∨ 1 = rb) := fun h => h.elim hgv.2 fun h => by omega
  obtain ⟨s0,hs0⟩ : ∃ s' : St,s' = some s := ⟨_,rfl⟩
  rw [← hs0] at hR1 ⊢
  have hU1 : Upd (fun b => b = vb ∨ b = rb) w1 w1 := Upd.refl _ _
  have hoM : ∀ b,(ok b ∨ w1.heap.size ≤ b) → ¬ (b = vb ∨ b = rb) := fun b hk h => by
    rcases hk with hk | hk
    · have := hok b hk;rcases h with h | h <;> omega
    · rcases h with h | h <;> omega
  have hq1 : Rdr RT ok w1 rb s0 := hR1
  obtain ⟨FB,hFB⟩ : ∃ P : Prop,P = ((rdP (d + 1) ver true fs_BrokerRegistrationResponse s0).2 = none) := ⟨_,rfl⟩
  have hb_0 : (rdL (rdP d ver true) (dfP d) ver true [fBrokerRegistrationResponse_0,fBrokerRegistrationResponse_1,fBrokerRegistrationResponse_2] s0).2 = none → FB := fun h => Eq.mpr hFB (rdP_bad h)
  have hh_0 : hasS fBrokerRegistrationResponse_0 ver = true := hasS_t (by show (0 : Int) ≤ ver;omega) (by show (-1 : Int) < 0 ∨ ver ≤ (-1 : Int);omega)
  obtain ⟨x_0,hx_0⟩ : ∃ x,x = (rdF (rdP d ver true) ver true fBrokerRegistrationResponse_0 s0).1 := ⟨_,rfl⟩
  repeat ((first | refine qA rfl ?_|refine qB ?_|refine qC rfl ?_|refine qD ?_|refine qE ?_|refine qF ?_|refine qG ?_|refine qH ?_);try simp (maxSteps:=1000000)(disch:=(first|omega|(simp only [qI,qJ,qK]<;>omega)|exact qL _)) only [go_sem,↓reduceIte,n0,reduceCtorEq,n1,n2,n3,n4,n5,i0,i1,i2,i3,i4,i5,i6,i7,hv_1])
  have hrd : rdF (rdP d ver true) ver true fBrokerRegistrationResponse_0 s0 = _ := rdF_num 3 rfl (by decide)
  refine (Int32_fn w1 hq1 hrok hG1.1 hgrb).mono ?_
  rintro _ w2 ⟨rfl,hq2,hu2⟩
  have hv_2 := hu2.blk_some hv_1 (by omega)
  have hV2 : Upd (fun b => b = vb ∨ b = rb) w1 w2 := hu2.mono (fun _ h => .inr h)
  have hU2 : Upd (fun b => b = vb ∨ b = rb) w1 w2 := hU1.trans hV2
  have hz2 := hV2.size
  have hG2 : Glo ev w2 := hG1.updS hU2 hgM1 hgM2
  have hst : (rdF (rdP d ver true) ver true fBrokerRegistrationResponse_0 s0).2 = (rdInt .i32 4 s0).2 := by first | (rw [hrd];rfl) | rw [hrd]
  obtain ⟨s1,hs1⟩ : ∃ s,s = (rdF (rdP d ver true) ver true fBrokerRegistrationResponse_0 s0).2 := ⟨_,rfl⟩
  rw [← hst,← hs1] at hq2
  clear hst
  repeat ((first | refine qA rfl ?_|refine qB ?_|refine qC rfl ?_|refine qD ?_|refine qE ?_|refine qF ?_|refine qG ?_|refine qH ?_);try simp (maxSteps:=1000000)(disch:=(first|omega|(simp only [qI,qJ,qK]<;>omega)|exact qL _)) only [go_sem,↓reduceIte,n0,reduceCtorEq,n1,n2,n3,n4,n5,i0,i1,i2,i3,i4,i5,i6,i7,hv_2])
  generalize hw3 : wr w2 vb 1 [.int .i32 (rdInt .i32 4 s0).1] = w3
  have hS3 : Upd (fun b => b = vb ∨ b = rb) w2 w3 := by rw [← hw3];exact (Upd.refl _ _).wr _ _ (.inr (.inl rfl))
  have hv_3 : blk w3 vb = some (#[.int .i16 ver,.int .i32 (rdInt .i32 4 s0).1,.int .i16 0,.int .i64 (-1),.map none],84,(0,0)) := by rw [← hw3,blk_wr_eq,hv_2];rfl
  have hV3 := hS3
  have hU3 : Upd (fun b => b = vb ∨ b = rb) w1 w3 := hU2.trans hV3
  have hz3 := hV3.size
  have hG3 : Glo ev w3 := hG1.updS hU3 hgM1 hgM2
  have hq3 : Rdr RT ok w3 rb s1 ∧ NN w3 rb s1 := by
    have hn : ∀ x,x = w3 → (Rdr RT ok x rb s1 ∧ NN x rb s1) := fun x hx => by
      rw [hx,← hw3]
      exact Rdr.store hq2 (by omega) (fun h => by have := (hok _ h).1;first | omega | exact (hok _ h).2 rfl)
    exact hn _ rfl
  clear hw3
  have hf_0 : RepF (RepS true d) (szS true d) fBrokerRegistrationResponse_0 (fun b => ok b ∨ w1.heap.size ≤ b) w3 (x_0) [.int .i32 (rdInt .i32 4 s0).1] := (RepF_num (by decide)).2 (by rw [hx_0,hrd];exact congrArg (fun x => [x]) (numC_rd 3 (by decide) 4 s0).symm)
  clear hrd
  have hb_1 : (rdL (rdP d ver true) (dfP d) ver true [fBrokerRegistrationResponse_1,fBrokerRegistrationResponse_2] s1).2 = none → FB := fun h => hb_0 (by rw [rdL_st (by decide) hh_0,← hs1];exact h)
  have hh_1 : hasS fBrokerRegistrationResponse_1 ver = true := hasS_t (by show (0 : Int) ≤ ver;omega) (by show (-1 : Int) < 0 ∨ ver ≤ (-1 : Int);omega)
  obtain ⟨x_1,hx_1⟩ : ∃ x,x = (rdF (rdP d ver true) ver true fBrokerRegistrationResponse_1 s1).1 := ⟨_,rfl⟩
  repeat ((first | refine qA rfl ?_|refine qB ?_|refine qC rfl ?_|refine qD ?_|refine qE ?_|refine qF ?_|refine qG ?_|refine qH ?_);try simp (maxSteps:=1000000)(disch:=(first|omega|(simp only [qI,qJ,qK]<;>omega)|exact qL _)) only [go_sem,↓reduceIte,n0,reduceCtorEq,n1,n2,n3,n4,n5,i0,i1,i2,i3,i4,i5,i6,i7,hv_3])
  have hrd : rdF (rdP d ver true) ver true fBrokerRegistrationResponse_1 s1 = _ := rdF_num 2 rfl (by decide)
  refine (Int16_fn w3 hq3.1 hrok hG3.1 hgrb).mono ?_
  rintro _ w4 ⟨rfl,hq4,hu4⟩
  have hv_4 := hu4.blk_some hv_3 (by omega)
  have hV4 : Upd (fun b => b = vb ∨ b = rb) w3 w4 := hu4.mono (fun _ h => .inr h)
  have hU4 : Upd (fun b => b = vb ∨ b = rb) w1 w4 := hU3.trans hV4
  have hz4 := hV4.size
  have hG4 : Glo ev w4 := hG1.updS hU4 hgM1 hgM2
  have hst : (rdF (rdP d ver true) ver true fBrokerRegistrationResponse_1 s1).2 = (rdInt .i16 2 s1).2 := by first | (rw [hrd];rfl) | rw [hrd]
  obtain ⟨s2,hs2⟩ : ∃ s,s = (rdF (rdP d ver true) ver true fBrokerRegistrationResponse_1 s1).2 := ⟨_,rfl⟩
  rw [← hst,← hs2] at hq4
  clear hst
  repeat ((first | refine qA rfl ?_|refine qB ?_|refine qC rfl ?_|refine qD ?_|refine qE ?_|refine qF ?_|refine qG ?_|refine qH ?_);try simp (maxSteps:=1000000)(disch:=(first|omega|(simp only [qI,qJ,qK]<;>omega)|exact qL _)) only [go_sem,↓reduceIte,n0,reduceCtorEq,n1,n2,n3,n4,n5,i0,i1,i2,i3,i4,i5,i6,i7,hv_4])
  generalize hw5 : wr w4 vb 2 [.int .i16 (rdInt .i16 2 s1).1] = w5
  have hS5 : Upd (fun b => b = vb ∨ b = rb) w4 w5 := by rw [← hw5];exact (Upd.refl _ _).wr _ _ (.inr (.inl rfl))
  have hv_5 : blk w5 vb = some (#[.int .i16 ver,.int .i32 (rdInt .i32 4 s0).1,.int .i16 (rdInt .i16 2 s1).1,.int .i64 (-1),.map none],84,(0,0)) := by rw [← hw5,blk_wr_eq,hv_4];rfl
  have hV5 := hS5
  have hU5 : Upd (fun b => b = vb ∨ b = rb) w1 w5 := hU4.trans hV5
  have hz5 := hV5.size
  have hG5 : Glo ev w5 := hG1.updS hU5 hgM1 hgM2
  have hq5 : Rdr RT ok w5 rb s2 ∧ NN w5 rb s2 := by
    have hn : ∀ x,x = w5 → (Rdr RT ok x rb s2 ∧ NN x rb s2) := fun x hx => by
      rw [hx,← hw5]
      exact Rdr.store hq4 (by omega) (fun h => by have := (hok _ h).1;first | omega | exact (hok _ h).2 rfl)
    exact hn _ rfl
  clear hw5
  have hf_1 : RepF (RepS true d) (szS true d) fBrokerRegistrationResponse_1 (fun b => ok b ∨ w1.heap.size ≤ b) w5 (x_1) [.int .i16 (rdInt .i16 2 s1).1] := (RepF_num (by decide)).2 (by rw [hx_1,hrd];exact congrArg (fun x => [x]) (numC_rd 2 (by decide) 2 s1).symm)
  clear hrd
  have hb_2 : (rdL (rdP d ver true) (dfP d) ver true [fBrokerRegistrationResponse_2] s2).2 = none → FB := fun h => hb_1 (by rw [rdL_st (by decide) hh_1,← hs2];exact h)
  have hh_2 : hasS fBrokerRegistrationResponse_2 ver = true := hasS_t (by show (0 : Int) ≤ ver;omega) (by show (-1 : Int) < 0 ∨ ver ≤ (-1 : Int);omega)
  obtain ⟨x_2,hx_2⟩ : ∃ x,x = (rdF (rdP d ver true) ver true fBrokerRegistrationResponse_2 s2).1 := ⟨_,rfl⟩
  repeat ((first | refine qA rfl ?_|refine qB ?_|refine qC rfl ?_|refine qD ?_|refine qE ?_|refine qF ?_|refine qG ?_|refine qH ?_);try simp (maxSteps:=1000000)(disch:=(first|omega|(simp only [qI,qJ,qK]<;>omega)|exact qL _)) only [go_sem,↓reduceIte,n0,reduceCtorEq,n1,n2,n3,n4,n5,i0,i1,i2,i3,i4,i5,i6,i7,hv_5])
  have hrd : rdF (rdP d ver true) ver true fBrokerRegistrationResponse_2 s2 = _ := rdF_num 4 rfl (by decide)
  refine (Int64_fn w5 hq5.1 hrok hG5.1 hgrb).mono ?_
  rintro _ w6 ⟨rfl,hq6,hu6⟩
  have hv_6 := hu6.blk_some hv_5 (by omega)
  have hV6 : Upd (fun b => b = vb ∨ b = rb) w5 w6 := hu6.mono (fun _ h => .inr h)
  have hU6 : Upd (fun b => b = vb ∨ b = rb) w1 w6 := hU5.trans hV6
  have hz6 := hV6.size
  have hG6 : Glo ev w6 := hG1.updS hU6 hgM1 hgM2
  have hst : (rdF (rdP d ver true) ver true fBrokerRegistrationResponse_2 s2).2 = (rdInt .i64 8 s2).2 := by first | (rw [hrd];rfl) | rw [hrd]
  obtain ⟨s3,hs3⟩ : ∃ s,s = (rdF (rdP d ver true) ver true fBrokerRegistrationResponse_2 s2).2 := ⟨_,rfl⟩
  rw [← hst,← hs3] at hq6
  clear hst
  repeat ((first | refine qA rfl ?_|refine qB ?_|refine qC rfl ?_|refine qD ?_|refine qE ?_|refine qF ?_|refine qG ?_|refine qH ?_);try simp (maxSteps:=1000000)(disch:=(first|omega|(simp only [qI,qJ,qK]<;>omega)|exact qL _)) only [go_sem,↓reduceIte,n0,reduceCtorEq,n1,n2,n3,n4,n5,i0,i1,i2,i3,i4,i5,i6,i7,hv_6])
  generalize hw7 : wr w6 vb 3 [.int .i64 (rdInt .i64 8 s2).1] = w7
  have hS7 : Upd (fun b => b = vb ∨ b = rb) w6 w7 := by rw [← hw7];exact (Upd.refl _ _).wr _ _ (.inr (.inl rfl))
  have hv_7 : blk w7 vb = some (#[.int .i16 ver,.int .i32 (rdInt .i32 4 s0).1,.int .i16 (rdInt .i16 2 s1).1,.int .i64 (rdInt .i64 8 s2).1,.map none],84,(0,0)) := by rw [← hw7,blk_wr_eq,hv_6];rfl
  have hV7 := hS7
  have hU7 : Upd (fun b => b = vb ∨ b = rb) w1 w7 := hU6.trans hV7
  have hz7 := hV7.size
  have hG7 : Glo ev w7 := hG1.updS hU7 hgM1 hgM2
  have hq7 : Rdr RT ok w7 rb s3 ∧ NN w7 rb s3 := by
    have hn : ∀ x,x = w7 → (Rdr RT ok x rb s3 ∧ NN x rb s3) := fun x hx => by
      rw [hx,← hw7]
      exact Rdr.store hq6 (by omega) (fun h => by have := (hok _ h).1;first | omega | exact (hok _ h).2 rfl)
    exact hn _ rfl
  clear hw7
  have hf_2 : RepF (RepS true d) (szS true d) fBrokerRegistrationResponse_2 (fun b => ok b ∨ w1.heap.size ≤ b) w7 (x_2) [.int .i64 (rdInt .i64 8 s2).1] := (RepF_num (by decide)).2 (by rw [hx_2,hrd];exact congrArg (fun x => [x]) (numC_rd 4 (by decide) 8 s2).symm)
  clear hrd
  have hl_3 : rdL (rdP d ver true) (dfP d) ver true [] s3 = ([],s3) := rfl
  have hl_2 : rdL (rdP d ver true) (dfP d) ver true [fBrokerRegistrationResponse_2] s2 = ([x_2],s3) := by rw [rdL_st (by decide) hh_2,← hx_2,← hs3,hl_3]
  have hl_1 : rdL (rdP d ver true) (dfP d) ver true [fBrokerRegistrationResponse_1,fBrokerRegistrationResponse_2] s1 = ([x_1,x_2],s3) := by rw [rdL_st (by decide) hh_1,← hx_1,← hs2,hl_2]
  have hl_0 : rdL (rdP d ver true) (dfP d) ver true [fBrokerRegistrationResponse_0,fBrokerRegistrationResponse_1,fBrokerRegistrationResponse_2] s0 = ([x_0,x_1,x_2],s3) := by rw [rdL_st (by decide) hh_0,← hx_0,← hs1,hl_1]
  have hfin : rdP (d + 1) ver true fs_BrokerRegistrationResponse s0 = (.mk 0 [] false [x_0,x_1,x_2] (rdTags s3).1,(rdTags s3).2) := rdP_t hl_0
  repeat ((first | refine qA rfl ?_|refine qB ?_|refine qC rfl ?_|refine qD ?_|refine qE ?_|refine qF ?_|refine qG ?_|refine qH ?_);try simp (maxSteps:=1000000)(disch:=(first|omega|(simp only [qI,qJ,qK]<;>omega)|exact qL _)) only [go_sem,↓reduceIte,n0,reduceCtorEq,n1,n2,n3,n4,n5,i0,i1,i2,i3,i4,i5,i6,i7,hv_7])
  refine (ReadTags_fn w7 hq7.1 hrok).mono ?_
  rintro _ w8 ⟨qm,rfl,hT8,hTn,hq8,hu8⟩
  have hv_8 := hu8.blk_some hv_7 (by omega)
  have hV8 : Upd (fun b => b = vb ∨ b = rb) w7 w8 := hu8.mono (fun _ h => .inr h)
  have hU8 : Upd (fun b => b = vb ∨ b = rb) w1 w8 := hU7.trans hV8
  have hz8 := hV8.size
  have hG8 : Glo ev w8 := hG1.updS hU8 hgM1 hgM2
  obtain ⟨s4,hs4⟩ : ∃ s,s = (rdTags s3).2 := ⟨_,rfl⟩
  rw [← hs4] at hq8 hfin
  try simp (maxSteps:=1000000)(disch:=(first|omega|(simp only [qI,qJ,qK]<;>omega)|exact qL _)) only [go_sem,↓reduceIte,n0,reduceCtorEq,n1,n2,n3,n4,n5,i0,i1,i2,i3,i4,i5,i6,i7,hv_8]
  repeat ((first | refine qA rfl ?_|refine qB ?_|refine qC rfl ?_|refine qD ?_|refine qE ?_|refine qF ?_|refine qG ?_|refine qH ?_);try simp (maxSteps:=1000000)(disch:=(first|omega|(simp only [qI,qJ,qK]<;>omega)|exact qL _)) only [go_sem,↓reduceIte,n0,reduceCtorEq,n1,n2,n3,n4,n5,i0,i1,i2,i3,i4,i5,i6,i7,hv_8])
  generalize hw9 : wr w8 vb 4 [.map qm] = w9
  have hS9 : Upd (fun b => b = vb ∨ b = rb) w8 w9 := by rw [← hw9];exact (Upd.refl _ _).wr _ _ (.inr (.inl rfl))
  have hv_9 : blk w9 vb = some (#[.int .i16 ver,.int .i32 (rdInt .i32 4 s0).1,.int .i16 (rdInt .i16 2 s1).1,.int .i64 (rdInt .i64 8 s2).1,.map qm],84,(0,0)) := by rw [← hw9,blk_wr_eq,hv_8];rfl
  have hV9 := hS9
  have hU9 : Upd (fun b => b = vb ∨ b = rb) w1 w9 := hU8.trans hV9
  have hz9 := hV9.size
  have hG9 : Glo ev w9 := hG1.updS hU9 hgM1 hgM2
  have hq9 : Rdr RT ok w9 rb s4 ∧ NN w9 rb s4 := by
    have hn : ∀ x,x = w9 → (Rdr RT ok x rb s4 ∧ NN x rb s4) := fun x hx => by
      rw [hx,← hw9]
      exact Rdr.store hq8 (by omega) (fun h => by have := (hok _ h).1;first | omega | exact (hok _ h).2 rfl)
    exact hn _ rfl
  clear hw9
  have hTg : TagsM (fun b => ok b ∨ w1.heap.size ≤ b) w9 (.map qm) (rdTags s3).1 := (hT8.weaken fun b _ hk => hk.elim (fun hk => .inl hk) (fun h => by have h' : w7.heap.size ≤ b := h;exact .inr (by omega))).keep (hV9.keeps fun b _ hk e => (hoM b hk) e)
  have hC_9 : Upd (fun b => b = vb ∨ b = rb) w9 w9 := Upd.refl _ _
  have hC_8 : Upd (fun b => b = vb ∨ b = rb) w8 w9 := hV9.trans hC_9
  have hC_7 : Upd (fun b => b = vb ∨ b = rb) w7 w9 := hV8.trans hC_8
  have hC_6 : Upd (fun b => b = vb ∨ b = rb) w6 w9 := hV7.trans hC_7
  have hC_5 : Upd (fun b => b = vb ∨ b = rb) w5 w9 := hV6.trans hC_6
  have hC_4 : Upd (fun b => b = vb ∨ b = rb) w4 w9 := hV5.trans hC_5
  have hC_3 : Upd (fun b => b = vb ∨ b = rb) w3 w9 := hV4.trans hC_4
  have hC_2 : Upd (fun b => b = vb ∨ b = rb) w2 w9 := hV3.trans hC_3
  have hC_1 : Upd (fun b => b = vb ∨ b = rb) w1 w9 := hV2.trans hC_2
  have hR : RepS true (d + 1) fs_BrokerRegistrationResponse (fun b => ok b ∨ w1.heap.size ≤ b) w9 (.mk 0 [] false [x_0,x_1,x_2] (rdTags s3).1) [.int .i32 (rdInt .i32 4 s0).1,.int .i16 (rdInt .i16 2 s1).1,.int .i64 (rdInt .i64 8 s2).1,.map qm] := RepS.introT (c := [.int .i32 (rdInt .i32 4 s0).1,.int .i16 (rdInt .i16 2 s1).1,.int .i64 (rdInt .i64 8 s2).1]) (RepL.cons1 (hf_0.keepS (hC_3.keeps fun b _ hk e => (hoM b hk) e)) (RepL.cons1 (hf_1.keepS (hC_5.keeps fun b _ hk e => (hoM b hk) e)) (RepL.cons1 (hf_2.keepS (hC_7.keeps fun b _ hk e => (hoM b hk) e)) RepL.nil))) hTg
  repeat ((first | refine qA rfl ?_|refine qB ?_|refine qC rfl ?_|refine qD ?_|refine qE ?_|refine qF ?_|refine qG ?_|refine qH ?_);try simp (maxSteps:=1000000)(disch:=(first|omega|(simp only [qI,qJ,qK]<;>omega)|exact qL _)) only [go_sem,↓reduceIte,n0,reduceCtorEq,n1,n2,n3,n4,n5,i0,i1,i2,i3,i4,i5,i6,i7,hv_9])
  refine (RComplete_fn w9 hq9.1 hG9.2).mono ?_
  rintro _ wz ⟨rfl,hez⟩
  rw [hez]
  repeat ((first | refine qA rfl ?_|refine qB ?_|refine qC rfl ?_|refine qD ?_|refine qE ?_|refine qF ?_|refine qG ?_|refine qH ?_);try simp (maxSteps:=1000000)(disch:=(first|omega|(simp only [qI,qJ,qK]<;>omega)|exact qL _)) only [go_sem,↓reduceIte,n0,reduceCtorEq,n1,n2,n3,n4,n5,i0,i1,i2,i3,i4,i5,i6,i7,hv_9])
  rw [hfin]
  refine ⟨fun h => ?_,fun h => ⟨?_,[.int .i32 (rdInt .i32 4 s0).1,.int .i16 (rdInt .i16 2 s1).1,.int .i64 (rdInt .i64 8 s2).1,.map qm],hv_9,?_⟩,?_⟩
  · have h' : s4 = none := h
    rw [h'];rfl
  · cases hsn : s4 with
    | none => exact absurd hsn h
    | some x => rfl
  · exact (RepS_lay true (d + 1) fs_BrokerRegistrationResponse).weaken hR fun b _ hk => hk.imp id fun h => by omega
  · exact hbase.trans' hU9 fun i hi h => h.elim id fun h => by omega
end Ms

namespace Ms
open Go.World renaming size_alloc → qI
open Ms renaming size_wr → qJ,size_drew → qK,not_noB → qL
open W renaming seqR → qA,seq → qB,regR → qC,condK → qD,block → qE,skip → qF,ret → qG,exit → qH
open Nat renaming reduceEqDiff → n0,reduceAdd → n1,reduceMul → n2,reduceSub → n3,reduceLT → n4,reduceLeDiff → n5
open Int renaming reduceEq → i0,reduceLT → i1,reduceLE → i2,reduceNeg → i3,reduceAdd → i4,reduceSub → i5,reduceMul → i6,reduceToNat → i7
set_option maxRecDepth 8000
open Go Go.Proofs Go.Shelf
attribute [local congr] W_congr WPsq_congr WPp_congr optK_congr addrK_congr intK_congr boolK_congr sliceK_congr tupleK_congr funcK_congr Fn_congr rawK_congr takeK_congr stepK_congr convK_congr aggK_congr

theorem ReadFromBrokerRegistrationResponse_fn {d : Nat} {ok : Blocks} {ver : Int} {ev : Value} (hlo : 0 ≤ ver) (hhi : ver ≤ 4) (w : World) {vb : Nat} (src : Value) (s : List UInt8) (hv : blk w vb = some (#[.int .i16 ver,.int .i32 0,.int .i16 0,.int .i64 (-1),.map none],84,(0,0))) (hsrc : BytesV ok w src s) (hok0 : ∀ b,ok b → b < w.heap.size ∧ b ≠ vb) (hG : Glo ev w) (hgv : ¬ 0 = vb ∧ ¬ 1 = vb) :
    Fn Tryd.prog 30 #[.pointer (some ⟨vb,0,none⟩),src] w (ReadQ 84 ok ver (d + 1) fs_BrokerRegistrationResponse vb w (rdP (d + 1) ver (flexB 0 ver) fs_BrokerRegistrationResponse (some s)) ev) := by
  obtain ⟨sa,sc,rfl,_⟩ := hsrc.shape
  refine fn_of_W Tryd.func30 rfl Tryd.results30 Tryd.ntmps30 rfl ?_
  repeat ((first | refine qA rfl ?_|refine qB ?_|refine qC rfl ?_|refine qD ?_|refine qE ?_|refine qF ?_|refine qG ?_|refine qH ?_);try simp (maxSteps:=1000000)(disch:=(first|omega|(simp only [qI,qJ,qK]<;>omega)|exact qL _)) only [go_sem,↓reduceIte,n0,reduceCtorEq,n1,n2,n3,n4,n5,i0,i1,i2,i3,i4,i5,i6,i7])
  have hcl : (0 ≤ ver ∧ ver ≤ 4) := by omega
  rcases hcl with ⟨h1,h2⟩
  · have hfl : flexB 0 ver = true := by simp only [flexB,Bool.and_eq_true,decide_eq_true_eq];omega
    rw [hfl]
    refine (readBrokerRegistrationResponse_0 (d := d) h1 h2 w _ s hv hsrc hok0 hG hgv).mono ?_
    rintro r5 w5 h5
    repeat ((first | refine qA rfl ?_|refine qB ?_|refine qC rfl ?_|refine qD ?_|refine qE ?_|refine qF ?_|refine qG ?_|refine qH ?_);try simp (maxSteps:=1000000)(disch:=(first|omega|(simp only [qI,qJ,qK]<;>omega)|exact qL _)) only [go_sem,↓reduceIte,n0,reduceCtorEq,n1,n2,n3,n4,n5,i0,i1,i2,i3,i4,i5,i6,i7])
    all_goals exact h5

end Ms

namespace Ms
open Go.World renaming size_alloc → qI
open Ms renaming size_wr → qJ,size_drew → qK,not_noB → qL
open W renaming seqR → qA,seq → qB,regR → qC,condK → qD,block → qE,skip → qF,ret → qG,exit → qH
open Nat renaming reduceEqDiff → n0,reduceAdd → n1,reduceMul → n2,reduceSub → n3,reduceLT → n4,reduceLeDiff → n5
open Int renaming reduceEq → i0,reduceLT → i1,reduceLE → i2,reduceNeg → i3,reduceAdd → i4,reduceSub → i5,reduceMul → i6,reduceToNat → i7
set_option maxRecDepth 8000
open Go Go.Proofs Go.Shelf
attribute [local congr] W_congr WPsq_congr WPp_congr optK_congr addrK_congr intK_congr boolK_congr sliceK_congr tupleK_congr funcK_congr Fn_congr rawK_congr takeK_congr stepK_congr convK_congr aggK_congr

theorem tagclBrokerRegistrationResponse_fn {ok OK : Blocks} {B tb : Nat} (c0 c1 c2 c3 v : Value) (done : List TagD) (y : TagD) (vv : Value) (w : World) (hbt : blk w tb = some (#[c0,c1,c2,c3,v],37,(0,0))) (hg : GrowU OK B tb w 68 v done) (hB : B ≤ w.heap.size) (htb : tb < B) (hvv : BytesV ok w vv y.2) (hy : y.1 < 2 ^ 32) (hyl : y.2.length ≤ 32767) (hdl : done.length ≤ 32767) (hOK : ∀ b,B ≤ b → OK b) :
    Fn Tryd.prog 63 #[.int .u32 y.1,vv,.pointer (some ⟨tb,0,none⟩)] w fun _ w' => (∃ v',blk w' tb = some (#[c0,c1,c2,c3,v'],37,(0,0)) ∧ GrowU OK B tb w' 68 v' (done ++ [y])) ∧ Upd (fun b => b = tb ∨ B ≤ b) w w' := by
  have htl := blk_lt hbt
  refine fn_of_W Tryd.func63 rfl Tryd.results63 Tryd.ntmps63 rfl ?_
  repeat ((first | refine qA rfl ?_|refine qB ?_|refine qC rfl ?_|refine qD ?_|refine qE ?_|refine qF ?_|refine qG ?_|refine qH ?_);try simp (maxSteps:=1000000)(disch:=(first|omega|(simp only [qI,qJ,qK]<;>omega)|exact qL _)) only [go_sem,↓reduceIte,n0,reduceCtorEq,n1,n2,n3,n4,n5,i0,i1,i2,i3,i4,i5,i6,i7])
  obtain ⟨av,kv,rfl,_⟩ := hg.shape
  have hnb : ∀ b,b < B ∨ w.heap.size ≤ b → ¬ ownB (.slice av done.length kv) b := fun b hb h => by
    have := hg.above h
    have := hg.below h
    omega
  refine W.drawR (.take 0 (.take 1 (.take 2 (.take 3 (.only 4 (.only 5 (.only 6 (.only 7 (.take 8 (.last 9)))))))))) (ownB (.slice av done.length kv)) mixed (by kernel_rfl) ?_
  simp (maxSteps:=1000000)(disch:=(first|omega|(simp only [qI,qJ,qK]<;>omega)|exact qL _ | (refine hnb _ ?_;first | omega | (simp only [World.size_alloc,size_wr,size_drew] <;> omega)))) only [go_sem,↓reduceIte,n0,reduceCtorEq,n1,n2,n3,n4,n5,i0,i1,i2,i3,i4,i5,i6,i7,hbt]
  refine wp_copyN ap_22_22 (ok := ok) (s := y.2) (v := vv) (by first | rfl | simp (maxSteps:=1000000)(disch:=(first|omega|(simp only [qI,qJ,qK]<;>omega)|exact qL _)) only [go_sem,↓reduceIte,n0,reduceCtorEq,n1,n2,n3,n4,n5,i0,i1,i2,i3,i4,i5,i6,i7]) (by first | rfl | simp (maxSteps:=1000000)(disch:=(first|omega|(simp only [qI,qJ,qK]<;>omega)|exact qL _)) only [go_sem,↓reduceIte,n0,reduceCtorEq,n1,n2,n3,n4,n5,i0,i1,i2,i3,i4,i5,i6,i7]) (hvv.keep (Ext.keeps ((Upd.refl _ _).drew) _)) (by omega) ?_
  intro v1 w1 ho1 hE1 hf1
  obtain ⟨a1,k1,rfl,_⟩ := ho1.shape
  have hB1 := Own.bytes (ok := fun b => w.heap.size ≤ b) ho1 fun b hb => hf1 b hb
  have hP1 : Upd (ownB (.slice av done.length kv)) w.drew w1 := hE1.mono fun _ h => h.elim
  have hs1 := hE1.size
  simp only [size_drew] at hs1
  refine ⟨hP1,?_⟩
  simp (maxSteps:=1000000)(disch:=(first|omega|(simp only [qI,qJ,qK]<;>omega)|exact qL _ | (refine hnb _ ?_;first | omega | (simp only [World.size_alloc,size_wr,size_drew] <;> omega)))) only [go_sem,↓reduceIte,n0,reduceCtorEq,n1,n2,n3,n4,n5,i0,i1,i2,i3,i4,i5,i6,i7,hbt]
  refine ⟨hP1,?_⟩
  have hP2 : Upd (ownB (.slice av done.length kv)) w.drew (w1.alloc (.cells #[.int .u32 y.1,.slice a1 y.2.length k1] 68)) := hP1.alloc _
  have hn2 : blk (w1.alloc (.cells #[.int .u32 y.1,.slice a1 y.2.length k1] 68)) w1.heap.size = some (#[.int .u32 y.1,.slice a1 y.2.length k1],68,(0,0)) := blk_alloc_new rfl
  have hs2 : (w1.alloc (.cells #[.int .u32 y.1,.slice a1 y.2.length k1] 68)).heap.size = w1.heap.size + 1 := World.size_alloc _ _
  have hE2 : Ext w1 (w1.alloc (.cells #[.int .u32 y.1,.slice a1 y.2.length k1] 68)) := Upd.alloc (Upd.refl _ _) _
  refine ⟨hP2,?_⟩
  try simp only [List.append_nil]
  generalize (w1.alloc (.cells #[.int .u32 y.1,.slice a1 y.2.length k1] 68)) = w2 at *
  have hEw : Ext w w2 := (((Upd.refl _ _).drew).trans hE1).trans hE2
  obtain ⟨css,hown,hall⟩ := (hg.ext hEw).ex
  have hcl := hall.1
  have hx2 : TagC (fun b => OK b ∧ b ≠ tb ∧ ¬ ownB (.slice av done.length kv) b) w2 y [.int .u32 y.1,.slice a1 y.2.length k1] := ⟨_,rfl,(hB1.keep (hE2.keeps _)).weaken fun b _ hk => ⟨hOK b (by omega),by omega,hnb b (.inr hk)⟩,hy⟩
  refine wp_append ap_35_35 (m := 1) (news := [.int .u32 y.1,.slice a1 y.2.length k1]) (n := css.length) (cs := css.flatten) (v := .slice av done.length kv) ?_ rfl hown.1 hall.flat_cells (Src.blk (fr := (0,0)) (T := 68) hn2 rfl rfl) ?_ ?_ ?_
  · first | rfl | simp (maxSteps:=1000000)(disch:=(first|omega|(simp only [qI,qJ,qK]<;>omega)|exact qL _)) only [go_sem,↓reduceIte,n0,reduceCtorEq,n1,n2,n3,n4,n5,i0,i1,i2,i3,i4,i5,i6,i7]
  · omega
  · omega
  intro v' w3 ho hu hfr
  have hg3 := GrowU.snoc hown hall hx2 hu hfr ho
  obtain ⟨va,vc,hv',_⟩ := ho.shape
  subst hv'
  have hP3 := hP2.trans hu
  have hs3 := hu.size
  have hbt3 := hP3.blk_some (show blk w.drew tb = _ from hbt) (hnb _ (.inl htb))
  have hne : ¬ ownB (.slice va (css.length + 1) vc) tb := fun h => (hfr _ h).elim (hnb _ (.inl htb)) (fun h => by omega)
  refine ⟨hP3,?_⟩
  simp (maxSteps:=1000000)(disch:=(first|omega|(simp only [qI,qJ,qK]<;>omega)|exact qL _ | (refine hnb _ ?_;first | omega | (simp only [World.size_alloc,size_wr,size_drew] <;> omega)))) only [go_sem,↓reduceIte,n0,reduceCtorEq,n1,n2,n3,n4,n5,i0,i1,i2,i3,i4,i5,i6,i7,hbt3]
  repeat ((first | refine qA rfl ?_|refine qB ?_|refine qC rfl ?_|refine qD ?_|refine qE ?_|refine qF ?_|refine qG ?_|refine qH ?_);try simp (maxSteps:=1000000)(disch:=(first|omega|(simp only [qI,qJ,qK]<;>omega)|exact qL _)) only [go_sem,↓reduceIte,n0,reduceCtorEq,n1,n2,n3,n4,n5,i0,i1,i2,i3,i4,i5,i6,i7])
  refine ⟨⟨.slice va (css.length + 1) vc,by first | (rw [blk_wr_eq,hbt3];rfl) | rfl | (rw [hbt3];rfl) | (rw [blk_wr_eq,hbt3]),hg3.upd ((Upd.refl _ _).wr _ _ (.inr rfl)) hne⟩,?_⟩
  refine Upd.wr ?_ _ _ (.inr (.inl rfl))
  exact (((Upd.refl (fun b => b = tb ∨ B ≤ b) w).drew).trans (hP3.mono fun b h => .inr (hg.above h)))

set_option maxHeartbeats 4000000 in
theorem tellBrokerRegistrationResponse_fn {d : Nat} {ok : Blocks} (t : Tree) (cs : List Value) (w : World) {b : Nat} {x : Blk} (hb : blk w b = some x) (hq : ∀ k,k < 4 → x.1[1 + k]? = cs[k]?) (hR : RepS true (d + 1) fs_BrokerRegistrationResponse ok w t cs) (hg : GoodP (d + 1) fs_BrokerRegistrationResponse t) :
    Fn Tryd.prog 31 #[.pointer (some ⟨b,0,none⟩)] w fun r w' => (∃ c,r = .agg c.toArray ∧ TreeC (fun b => w.heap.size ≤ b) w' (tlP (d + 1) fs_BrokerRegistrationResponse t) c) ∧ Ext w w' := by
  have hbl := blk_lt hb
  obtain ⟨⟨gd0,gd1,gd2,-⟩,hgu⟩ := hg
  replace gd0 : GoodF (GoodP d) fBrokerRegistrationResponse_0 (t.at 0) := gd0
  replace gd1 : GoodF (GoodP d) fBrokerRegistrationResponse_1 (t.at 1) := gd1
  replace gd2 : GoodF (GoodP d) fBrokerRegistrationResponse_2 (t.at 2) := gd2
  obtain ⟨cs0,q,hcs,hL,hT⟩ := hR.inv
  obtain ⟨c0,e0,rfl,h0,c1,e1,rfl,h1,c2,e2,rfl,h2,rfl⟩ := hL
  replace h0 : RepF (RepS true d) (szS true d) fBrokerRegistrationResponse_0 ok w (t.at 0) c0 := h0
  replace h1 : RepF (RepS true d) (szS true d) fBrokerRegistrationResponse_1 ok w (t.at 1) c1 := h1
  replace h2 : RepF (RepS true d) (szS true d) fBrokerRegistrationResponse_2 ok w (t.at 2) c2 := h2
  obtain rfl := (RepF_num (by decide)).1 h0
  obtain rfl := (RepF_num (by decide)).1 h1
  obtain rfl := (RepF_num (by decide)).1 h2
  obtain ⟨qm,rfl⟩ := hT.shape
  subst hcs
  have hq0 : x.1[1]? = some (.int .i32 (IntKind.i32.wrap (t.at 0).n)) := hq 0 (by decide)
  have hq1 : x.1[2]? = some (.int .i16 (IntKind.i16.wrap (t.at 1).n)) := hq 1 (by decide)
  have hq2 : x.1[3]? = some (.int .i64 (t.at 2).n) := hq 2 (by decide)
  have hq3 : x.1[4]? = some (.map qm) := hq 3 (by decide)
  have hn64_2 := (gd2.one (by decide)).1 rfl
  refine fn_of_W Tryd.func31 rfl Tryd.results31 Tryd.ntmps31 rfl ?_
  repeat ((first | refine qA rfl ?_|refine qB ?_|refine qC rfl ?_|refine qD ?_|refine qE ?_|refine qF ?_|refine qG ?_|refine qH ?_);try simp (maxSteps:=1000000)(disch:=(first|omega|(simp only [qI,qJ,qK]<;>omega)|exact qL _)) only [go_sem,↓reduceIte,n0,reduceCtorEq,n1,n2,n3,n4,n5,i0,i1,i2,i3,i4,i5,i6,i7])
  refine wp_make (T := 34) (E := 37) (size := 5) (bytes := 88) (z := .agg #[.int .i64 0,.slice none 0 0,.bool false,.slice none 0 0,.slice none 0 0]) (l := 3) (c := 3) (kl := .i64) (kc := .i64) (by kernel_rfl) (by kernel_rfl) (by first | rfl | (simp (maxSteps:=1000000)(disch:=(first|omega|(simp only [qI,qJ,qK]<;>omega)|exact qL _)) only [go_sem,↓reduceIte,n0,reduceCtorEq,n1,n2,n3,n4,n5,i0,i1,i2,i3,i4,i5,i6,i7];rfl)) (by first | rfl | (simp (maxSteps:=1000000)(disch:=(first|omega|(simp only [qI,qJ,qK]<;>omega)|exact qL _)) only [go_sem,↓reduceIte,n0,reduceCtorEq,n1,n2,n3,n4,n5,i0,i1,i2,i3,i4,i5,i6,i7];rfl)) (by omega) (by omega) (by omega) ?_
  have hmd : madeCells (Value.agg #[.int .i64 0,.slice none 0 0,.bool false,.slice none 0 0,.slice none 0 0]).cells (3 * 5) = #[.int .i64 0,.slice none 0 0,.bool false,.slice none 0 0,.slice none 0 0,.int .i64 0,.slice none 0 0,.bool false,.slice none 0 0,.slice none 0 0,.int .i64 0,.slice none 0 0,.bool false,.slice none 0 0,.slice none 0 0] := by kernel_rfl
  rw [hmd]
  simp (maxSteps:=1000000)(disch:=(first|omega|(simp only [qI,qJ,qK]<;>omega)|exact qL _)) only [go_sem,↓reduceIte,n0,reduceCtorEq,n1,n2,n3,n4,n5,i0,i1,i2,i3,i4,i5,i6,i7]
  repeat ((first | refine qA rfl ?_|refine qB ?_|refine qC rfl ?_|refine qD ?_|refine qE ?_|refine qF ?_|refine qG ?_|refine qH ?_);try simp (maxSteps:=1000000)(disch:=(first|omega|(simp only [qI,qJ,qK]<;>omega)|exact qL _)) only [go_sem,↓reduceIte,n0,reduceCtorEq,n1,n2,n3,n4,n5,i0,i1,i2,i3,i4,i5,i6,i7])
  have hE1 : Ext w (wr (((w.alloc (.cells #[.int .i64 0,.slice none 0 0,.bool false,.slice none 0 0,.slice none 0 0] 37)).alloc (.cells #[.int .i64 0,.slice none 0 0,.bool false,.slice none 0 0,.slice none 0 0,.int .i64 0,.slice none 0 0,.bool false,.slice none 0 0,.slice none 0 0,.int .i64 0,.slice none 0 0,.bool false,.slice none 0 0,.slice none 0 0] 37)).alloc (.cells #[.int .i64 0,.slice none 0 0,.bool false,.slice none 0 0,.slice none 0 0] 37)) (w.heap.size + 2) 0 [.int .i64 0,.slice none 0 0,.bool false,.slice (some ⟨w.heap.size + 1,0,none⟩) 3 3,.slice none 0 0]) := (Upd.alloc (Upd.alloc (Upd.alloc (Upd.refl _ _) _) _) _).wr _ _ (.inl (by omega))
  have hz1 : (wr (((w.alloc (.cells #[.int .i64 0,.slice none 0 0,.bool false,.slice none 0 0,.slice none 0 0] 37)).alloc (.cells #[.int .i64 0,.slice none 0 0,.bool false,.slice none 0 0,.slice none 0 0,.int .i64 0,.slice none 0 0,.bool false,.slice none 0 0,.slice none 0 0,.int .i64 0,.slice none 0 0,.bool false,.slice none 0 0,.slice none 0 0] 37)).alloc (.cells #[.int .i64 0,.slice none 0 0,.bool false,.slice none 0 0,.slice none 0 0] 37)) (w.heap.size + 2) 0 [.int .i64 0,.slice none 0 0,.bool false,.slice (some ⟨w.heap.size + 1,0,none⟩) 3 3,.slice none 0 0]).heap.size = w.heap.size + 3 := by simp only [size_wr,World.size_alloc]
  have hl1 : blk (wr (((w.alloc (.cells #[.int .i64 0,.slice none 0 0,.bool false,.slice none 0 0,.slice none 0 0] 37)).alloc (.cells #[.int .i64 0,.slice none 0 0,.bool false,.slice none 0 0,.slice none 0 0,.int .i64 0,.slice none 0 0,.bool false,.slice none 0 0,.slice none 0 0,.int .i64 0,.slice none 0 0,.bool false,.slice none 0 0,.slice none 0 0] 37)).alloc (.cells #[.int .i64 0,.slice none 0 0,.bool false,.slice none 0 0,.slice none 0 0] 37)) (w.heap.size + 2) 0 [.int .i64 0,.slice none 0 0,.bool false,.slice (some ⟨w.heap.size + 1,0,none⟩) 3 3,.slice none 0 0]) (w.heap.size + 1) = some (#[.int .i64 0,.slice none 0 0,.bool false,.slice none 0 0,.slice none 0 0,.int .i64 0,.slice none 0 0,.bool false,.slice none 0 0,.slice none 0 0,.int .i64 0,.slice none 0 0,.bool false,.slice none 0 0,.slice none 0 0],37,(0,0)) := by simp (maxSteps:=1000000)(disch:=(first|omega|(simp only [qI,qJ,qK]<;>omega)|exact qL _)) only [go_sem,↓reduceIte,n0,reduceCtorEq,n1,n2,n3,n4,n5,i0,i1,i2,i3,i4,i5,i6,i7]
  have ht1 : blk (wr (((w.alloc (.cells #[.int .i64 0,.slice none 0 0,.bool false,.slice none 0 0,.slice none 0 0] 37)).alloc (.cells #[.int .i64 0,.slice none 0 0,.bool false,.slice none 0 0,.slice none 0 0,.int .i64 0,.slice none 0 0,.bool false,.slice none 0 0,.slice none 0 0,.int .i64 0,.slice none 0 0,.bool false,.slice none 0 0,.slice none 0 0] 37)).alloc (.cells #[.int .i64 0,.slice none 0 0,.bool false,.slice none 0 0,.slice none 0 0] 37)) (w.heap.size + 2) 0 [.int .i64 0,.slice none 0 0,.bool false,.slice (some ⟨w.heap.size + 1,0,none⟩) 3 3,.slice none 0 0]) (w.heap.size + 2) = some (#[.int .i64 0,.slice none 0 0,.bool false,.slice (some ⟨w.heap.size + 1,0,none⟩) 3 3,.slice none 0 0],37,(0,0)) := by simp (maxSteps:=1000000)(disch:=(first|omega|(simp only [qI,qJ,qK]<;>omega)|exact qL _)) only [go_sem,↓reduceIte,n0,reduceCtorEq,n1,n2,n3,n4,n5,i0,i1,i2,i3,i4,i5,i6,i7]
  have hr1 : blk (wr (((w.alloc (.cells #[.int .i64 0,.slice none 0 0,.bool false,.slice none 0 0,.slice none 0 0] 37)).alloc (.cells #[.int .i64 0,.slice none 0 0,.bool false,.slice none 0 0,.slice none 0 0,.int .i64 0,.slice none 0 0,.bool false,.slice none 0 0,.slice none 0 0,.int .i64 0,.slice none 0 0,.bool false,.slice none 0 0,.slice none 0 0] 37)).alloc (.cells #[.int .i64 0,.slice none 0 0,.bool false,.slice none 0 0,.slice none 0 0] 37)) (w.heap.size + 2) 0 [.int .i64 0,.slice none 0 0,.bool false,.slice (some ⟨w.heap.size + 1,0,none⟩) 3 3,.slice none 0 0]) w.heap.size = some (#[.int .i64 0,.slice none 0 0,.bool false,.slice none 0 0,.slice none 0 0],37,(0,0)) := by simp (maxSteps:=1000000)(disch:=(first|omega|(simp only [qI,qJ,qK]<;>omega)|exact qL _)) only [go_sem,↓reduceIte,n0,reduceCtorEq,n1,n2,n3,n4,n5,i0,i1,i2,i3,i4,i5,i6,i7]
  generalize (wr (((w.alloc (.cells #[.int .i64 0,.slice none 0 0,.bool false,.slice none 0 0,.slice none 0 0] 37)).alloc (.cells #[.int .i64 0,.slice none 0 0,.bool false,.slice none 0 0,.slice none 0 0,.int .i64 0,.slice none 0 0,.bool false,.slice none 0 0,.slice none 0 0,.int .i64 0,.slice none 0 0,.bool false,.slice none 0 0,.slice none 0 0] 37)).alloc (.cells #[.int .i64 0,.slice none 0 0,.bool false,.slice none 0 0,.slice none 0 0] 37)) (w.heap.size + 2) 0 [.int .i64 0,.slice none 0 0,.bool false,.slice (some ⟨w.heap.size + 1,0,none⟩) 3 3,.slice none 0 0]) = w1 at *
  have hU1 : Upd (fun b => b = w.heap.size + 1 ∨ b = w.heap.size + 2) w1 w1 := Upd.refl _ _
  have hb1 := hE1.blk_some hb id
  repeat ((first | refine qA rfl ?_|refine qB ?_|refine qC rfl ?_|refine qD ?_|refine qE ?_|refine qF ?_|refine qG ?_|refine qH ?_);try simp (maxSteps:=1000000)(disch:=(first|omega|(simp only [qI,qJ,qK]<;>omega)|exact qL _)) only [go_sem,↓reduceIte,n0,reduceCtorEq,n1,n2,n3,n4,n5,i0,i1,i2,i3,i4,i5,i6,i7,hb1,hl1,ht1,hq0,hq1,hq2,hq3])
  refine W.drawR (.take 0 (.take 1 (.take 2 (.take 3 (.take 4 (.take 5 (.take 6 (.only 7 (.take 8 (.last 9)))))))))) (NoB) mixed (by kernel_rfl) ?_
  try simp (maxSteps:=1000000)(disch:=(first|omega|(simp only [qI,qJ,qK]<;>omega)|exact qL _)) only [go_sem,↓reduceIte,n0,reduceCtorEq,n1,n2,n3,n4,n5,i0,i1,i2,i3,i4,i5,i6,i7,hb1,hl1,ht1,hq0,hq1,hq2,hq3,tl32]
  refine ⟨Upd.refl _ _,?_⟩
  have hlq2 : blk w1.drew (w.heap.size + 1) = _ := hl1
  have hx2 : Upd (fun b => b = w.heap.size + 1 ∨ b = w.heap.size + 2) w1 w1.drew := (Upd.refl _ _).drew
  generalize hw2 : wr w1.drew (w.heap.size + 1) 0 [.int .i64 (IntKind.i32.wrap (t.at 0).n),.slice none 0 0,.bool false,.slice none 0 0,.slice none 0 0] = w2
  have hl2 : blk w2 (w.heap.size + 1) = some (#[.int .i64 (IntKind.i32.wrap (t.at 0).n),.slice none 0 0,.bool false,.slice none 0 0,.slice none 0 0,.int .i64 0,.slice none 0 0,.bool false,.slice none 0 0,.slice none 0 0,.int .i64 0,.slice none 0 0,.bool false,.slice none 0 0,.slice none 0 0],37,(0,0)) := by rw [← hw2,blk_wr_eq,hlq2];rfl
  have hv2 : Upd (fun b => b = w.heap.size + 1 ∨ b = w.heap.size + 2) w1.drew w2 := by rw [← hw2];exact (Upd.refl _ _).wr _ _ (.inr (.inl rfl))
  have hV2 : Upd (fun b => b = w.heap.size + 1 ∨ b = w.heap.size + 2) w1 w2 := hx2.trans hv2
  have hU2 : Upd (fun b => b = w.heap.size + 1 ∨ b = w.heap.size + 2) w1 w2 := hU1.trans hV2
  have hz2 := hU2.size
  have hX2 : Ext w w2 := hE1.more hU2 fun b hb h => by omega
  have hb2 := hX2.blk_some hb id
  have ht2 : blk w2 (w.heap.size + 2) = some (#[.int .i64 0,.slice none 0 0,.bool false,.slice (some ⟨w.heap.size + 1,0,none⟩) 3 3,.slice none 0 0],37,(0,0)) := by
    rw [← hw2,blk_wr_ne (by omega)]
    exact ht1
  clear hw2
  have hf0 : TreeC (fun b => w1.heap.size ≤ b) w2 (.num (IntKind.i32.wrap (t.at 0).n)) [.int .i64 (IntKind.i32.wrap (t.at 0).n),.slice none 0 0,.bool false,.slice none 0 0,.slice none 0 0] := (TreeC.keep (hv2.keeps fun b hb hk e => by have hk' : w1.heap.size ≤ b := hk;omega) (TreeC.intro (tl32 _) (BytesV.nil _ _) (treesN _ _) (tagsN _ _) : TreeC (fun b => w1.heap.size ≤ b) w1.drew (.num (IntKind.i32.wrap (t.at 0).n)) [.int .i64 (IntKind.i32.wrap (t.at 0).n),.slice none 0 0,.bool false,.slice none 0 0,.slice none 0 0]))
  repeat ((first | refine qA rfl ?_|refine qB ?_|refine qC rfl ?_|refine qD ?_|refine qE ?_|refine qF ?_|refine qG ?_|refine qH ?_);try simp (maxSteps:=1000000)(disch:=(first|omega|(simp only [qI,qJ,qK]<;>omega)|exact qL _)) only [go_sem,↓reduceIte,n0,reduceCtorEq,n1,n2,n3,n4,n5,i0,i1,i2,i3,i4,i5,i6,i7,hb2,hl2,ht2,hq0,hq1,hq2,hq3])
  refine W.drawR (.take 0 (.take 1 (.take 2 (.take 3 (.take 4 (.take 5 (.take 6 (.only 7 (.take 8 (.last 9)))))))))) (NoB) mixed (by kernel_rfl) ?_
  try simp (maxSteps:=1000000)(disch:=(first|omega|(simp only [qI,qJ,qK]<;>omega)|exact qL _)) only [go_sem,↓reduceIte,n0,reduceCtorEq,n1,n2,n3,n4,n5,i0,i1,i2,i3,i4,i5,i6,i7,hb2,hl2,ht2,hq0,hq1,hq2,hq3,tl16]
  refine ⟨Upd.refl _ _,?_⟩
  have hlq3 : blk w2.drew (w.heap.size + 1) = _ := hl2
  have hx3 : Upd (fun b => b = w.heap.size + 1 ∨ b = w.heap.size + 2) w2 w2.drew := (Upd.refl _ _).drew
  generalize hw3 : wr w2.drew (w.heap.size + 1) 5 [.int .i64 (IntKind.i16.wrap (t.at 1).n),.slice none 0 0,.bool false,.slice none 0 0,.slice none 0 0] = w3
  have hl3 : blk w3 (w.heap.size + 1) = some (#[.int .i64 (IntKind.i32.wrap (t.at 0).n),.slice none 0 0,.bool false,.slice none 0 0,.slice none 0 0,.int .i64 (IntKind.i16.wrap (t.at 1).n),.slice none 0 0,.bool false,.slice none 0 0,.slice none 0 0,.int .i64 0,.slice none 0 0,.bool false,.slice none 0 0,.slice none 0 0],37,(0,0)) := by rw [← hw3,blk_wr_eq,hlq3];rfl
  have hv3 : Upd (fun b => b = w.heap.size + 1 ∨ b = w.heap.size + 2) w2.drew w3 := by rw [← hw3];exact (Upd.refl _ _).wr _ _ (.inr (.inl rfl))
  have hV3 : Upd (fun b => b = w.heap.size + 1 ∨ b = w.heap.size + 2) w2 w3 := hx3.trans hv3
  have hU3 : Upd (fun b => b = w.heap.size + 1 ∨ b = w.heap.size + 2) w1 w3 := hU2.trans hV3
  have hz3 := hU3.size
  have hX3 : Ext w w3 := hE1.more hU3 fun b hb h => by omega
  have hb3 := hX3.blk_some hb id
  have ht3 : blk w3 (w.heap.size + 2) = some (#[.int .i64 0,.slice none 0 0,.bool false,.slice (some ⟨w.heap.size + 1,0,none⟩) 3 3,.slice none 0 0],37,(0,0)) := by
    rw [← hw3,blk_wr_ne (by omega)]
    exact ht2
  clear hw3
  have hf1 : TreeC (fun b => w1.heap.size ≤ b) w3 (.num (IntKind.i16.wrap (t.at 1).n)) [.int .i64 (IntKind.i16.wrap (t.at 1).n),.slice none 0 0,.bool false,.slice none 0 0,.slice none 0 0] := (TreeC.keep (hv3.keeps fun b hb hk e => by have hk' : w1.heap.size ≤ b := hk;omega) (TreeC.intro (tl16 _) (BytesV.nil _ _) (treesN _ _) (tagsN _ _) : TreeC (fun b => w1.heap.size ≤ b) w2.drew (.num (IntKind.i16.wrap (t.at 1).n)) [.int .i64 (IntKind.i16.wrap (t.at 1).n),.slice none 0 0,.bool false,.slice none 0 0,.slice none 0 0]))
  repeat ((first | refine qA rfl ?_|refine qB ?_|refine qC rfl ?_|refine qD ?_|refine qE ?_|refine qF ?_|refine qG ?_|refine qH ?_);try simp (maxSteps:=1000000)(disch:=(first|omega|(simp only [qI,qJ,qK]<;>omega)|exact qL _)) only [go_sem,↓reduceIte,n0,reduceCtorEq,n1,n2,n3,n4,n5,i0,i1,i2,i3,i4,i5,i6,i7,hb3,hl3,ht3,hq0,hq1,hq2,hq3])
  refine W.drawR (.take 0 (.take 1 (.take 2 (.take 3 (.take 4 (.take 5 (.only 6 (.take 7 (.last 8))))))))) (NoB) mixed (by kernel_rfl) ?_
  try simp (maxSteps:=1000000)(disch:=(first|omega|(simp only [qI,qJ,qK]<;>omega)|exact qL _)) only [go_sem,↓reduceIte,n0,reduceCtorEq,n1,n2,n3,n4,n5,i0,i1,i2,i3,i4,i5,i6,i7,hb3,hl3,ht3,hq0,hq1,hq2,hq3]
  refine ⟨Upd.refl _ _,?_⟩
  have hlq4 : blk w3.drew (w.heap.size + 1) = _ := hl3
  have hx4 : Upd (fun b => b = w.heap.size + 1 ∨ b = w.heap.size + 2) w3 w3.drew := (Upd.refl _ _).drew
  generalize hw4 : wr w3.drew (w.heap.size + 1) 10 [.int .i64 ((t.at 2).n),.slice none 0 0,.bool false,.slice none 0 0,.slice none 0 0] = w4
  have hl4 : blk w4 (w.heap.size + 1) = some (#[.int .i64 (IntKind.i32.wrap (t.at 0).n),.slice none 0 0,.bool false,.slice none 0 0,.slice none 0 0,.int .i64 (IntKind.i16.wrap (t.at 1).n),.slice none 0 0,.bool false,.slice none 0 0,.slice none 0 0,.int .i64 ((t.at 2).n),.slice none 0 0,.bool false,.slice none 0 0,.slice none 0 0],37,(0,0)) := by rw [← hw4,blk_wr_eq,hlq4];rfl
  have hv4 : Upd (fun b => b = w.heap.size + 1 ∨ b = w.heap.size + 2) w3.drew w4 := by rw [← hw4];exact (Upd.refl _ _).wr _ _ (.inr (.inl rfl))
  have hV4 : Upd (fun b => b = w.heap.size + 1 ∨ b = w.heap.size + 2) w3 w4 := hx4.trans hv4
  have hU4 : Upd (fun b => b = w.heap.size + 1 ∨ b = w.heap.size + 2) w1 w4 := hU3.trans hV4
  have hz4 := hU4.size
  have hX4 : Ext w w4 := hE1.more hU4 fun b hb h => by omega
  have hb4 := hX4.blk_some hb id
  have ht4 : blk w4 (w.heap.size + 2) = some (#[.int .i64 0,.slice none 0 0,.bool false,.slice (some ⟨w.heap.size + 1,0,none⟩) 3 3,.slice none 0 0],37,(0,0)) := by
    rw [← hw4,blk_wr_ne (by omega)]
    exact ht3
  clear hw4
  have hf2 : TreeC (fun b => w1.heap.size ≤ b) w4 (.num ((t.at 2).n)) [.int .i64 ((t.at 2).n),.slice none 0 0,.bool false,.slice none 0 0,.slice none 0 0] := (TreeC.keep (hv4.keeps fun b hb hk e => by have hk' : w1.heap.size ≤ b := hk;omega) (TreeC.intro (hn64_2) (BytesV.nil _ _) (treesN _ _) (tagsN _ _) : TreeC (fun b => w1.heap.size ≤ b) w3.drew (.num ((t.at 2).n)) [.int .i64 ((t.at 2).n),.slice none 0 0,.bool false,.slice none 0 0,.slice none 0 0]))
  repeat ((first | refine qA rfl ?_|refine qB ?_|refine qC rfl ?_|refine qD ?_|refine qE ?_|refine qF ?_|refine qG ?_|refine qH ?_);try simp (maxSteps:=1000000)(disch:=(first|omega|(simp only [qI,qJ,qK]<;>omega)|exact qL _)) only [go_sem,↓reduceIte,n0,reduceCtorEq,n1,n2,n3,n4,n5,i0,i1,i2,i3,i4,i5,i6,i7,hb4,hl4,ht4,hq0,hq1,hq2,hq3])
  refine (EachG_fn (ok := fun b => b < w.heap.size) 63 ca_63 #[.pointer (some ⟨w.heap.size + 2,0,none⟩)] w4 (tb := b) (to := 4) hb4 hq3 ((hT.weaken fun b hb _ => hb).keep (hX4.keeps _)) (sortT_perm _) (sortT_lt hgu.2.1) (by rw [(sortT_perm t.u).length_eq];exact hgu.1)
    (fun b => b = w.heap.size + 2) (by omega) (fun b hb hk e => by have hk' : b < w.heap.size := hk;omega) (fun b hb => by have := blk_lt ht4;omega)
    (fun wl done w' => ∃ v,blk w' (w.heap.size + 2) = some (#[.int .i64 0,.slice none 0 0,.bool false,.slice (some ⟨w.heap.size + 1,0,none⟩) 3 3,v],37,(0,0)) ∧ GrowU (fun b => w1.heap.size ≤ b) wl.heap.size (w.heap.size + 2) w' 68 v done) (fun wl hE => ⟨_,hE.blk_some ht4 id,GrowU.nil _ _ _ _ _⟩) ?_).mono ?_
  · rintro wl hE done y vv wc hpre ⟨v,hbv,hg⟩ hU hvv hy
    have hz' := hE.size
    have hzu := hU.size
    have htl := blk_lt ht4
    have hpl := hpre.length_le
    simp only [List.length_append,List.length_cons,List.length_nil] at hpl
    rw [(sortT_perm t.u).length_eq] at hpl
    have hlu := hgu.1
    have hmy : y ∈ t.u := (sortT_perm t.u).mem_iff.1 (hpre.subset (by simp))
    refine (tagclBrokerRegistrationResponse_fn (ok := fun b => b < w.heap.size) _ _ _ _ v done y vv wc hbv hg hzu (by omega) (hvv.keep ((hE.mono (fun _ h => h.elim) |>.trans hU : Upd (fun b => b = w.heap.size + 2) w4 wc).keeps fun b _ hk e => by have hk' : b < w.heap.size := hk;omega)) hy (hgu.2.2 y hmy) (by omega) (fun b hb => by have := hz4;omega)).mono ?_
    rintro _ w2' ⟨⟨v',h1,h2⟩,h3⟩
    exact ⟨⟨v',h1,h2⟩,hU.trans' h3 fun b hb h => h.elim id fun h => by omega⟩
  rintro _ w5 ⟨wl,hEl,⟨v,ht5,hgU⟩,hUe⟩
  have hzl := hEl.size
  obtain ⟨aU,kU,hvs,_⟩ := hgU.shape
  subst hvs
  have hV5 : Upd (fun b => b = w.heap.size + 1 ∨ b = w.heap.size + 2) w4 w5 := (hEl.mono fun _ h => h.elim).trans (hUe.mono fun _ h => .inr h)
  have hU5 : Upd (fun b => b = w.heap.size + 1 ∨ b = w.heap.size + 2) w1 w5 := hU4.trans hV5
  have hz5 := hU5.size
  have hX5 : Ext w w5 := hE1.more hU5 fun b hb h => by omega
  have hb5 := hX5.blk_some hb id
  have hl5 := (((hEl.mono fun _ h => h.elim).trans hUe : Upd (fun b => b = w.heap.size + 2) w4 w5)).blk_some hl4 (by omega)
  have hTU := hgU.tags (ok' := (fun b => w1.heap.size ≤ b)) (fun _ _ h => h) (fun b hb => by have := hz4;omega)
  repeat ((first | refine qA rfl ?_|refine qB ?_|refine qC rfl ?_|refine qD ?_|refine qE ?_|refine qF ?_|refine qG ?_|refine qH ?_);try simp (maxSteps:=1000000)(disch:=(first|omega|(simp only [qI,qJ,qK]<;>omega)|exact qL _)) only [go_sem,↓reduceIte,n0,reduceCtorEq,n1,n2,n3,n4,n5,i0,i1,i2,i3,i4,i5,i6,i7,hb5,hl5,ht5,hq0,hq1,hq2,hq3,cellsAt_five])
  refine (sorted_fn _ _ w5 hTU (sortT_lt hgu.2.1) (by rw [(sortT_perm t.u).length_eq];exact hgu.1)).mono ?_
  rintro _ w6 hEs
  have hV6 : Upd (fun b => b = w.heap.size + 1 ∨ b = w.heap.size + 2) w5 w6 := hEs.mono fun _ h => h.elim
  have hU6 : Upd (fun b => b = w.heap.size + 1 ∨ b = w.heap.size + 2) w1 w6 := hU5.trans hV6
  have hz6 := hU6.size
  have hX6 : Ext w w6 := hE1.more hU6 fun b hb h => by omega
  have hb6 := hX6.blk_some hb id
  have hl6 := hEs.blk_some hl5 id
  have ht6 := hEs.blk_some ht5 id
  have hr6 := (hU6.blk_some hr1 (by omega))
  have hC_6 : Upd (fun b => b = w.heap.size + 1 ∨ b = w.heap.size + 2) w6 w6 := Upd.refl _ _
  have hC_5 : Upd (fun b => b = w.heap.size + 1 ∨ b = w.heap.size + 2) w5 w6 := hV6.trans hC_6
  have hC_4 : Upd (fun b => b = w.heap.size + 1 ∨ b = w.heap.size + 2) w4 w6 := hV5.trans hC_5
  have hC_3 : Upd (fun b => b = w.heap.size + 1 ∨ b = w.heap.size + 2) w3 w6 := hV4.trans hC_4
  have hC_2 : Upd (fun b => b = w.heap.size + 1 ∨ b = w.heap.size + 2) w2 w6 := hV3.trans hC_3
  have hC_1 : Upd (fun b => b = w.heap.size + 1 ∨ b = w.heap.size + 2) w1 w6 := hV2.trans hC_2
  have hF0 := TreeC.keep (hC_2.keeps fun b hb hk e => by have hk' : w1.heap.size ≤ b := hk;omega) hf0
  have hF1 := TreeC.keep (hC_3.keeps fun b hb hk e => by have hk' : w1.heap.size ≤ b := hk;omega) hf1
  have hF2 := TreeC.keep (hC_4.keeps fun b hb hk e => by have hk' : w1.heap.size ≤ b := hk;omega) hf2
  replace hF0 : TreeC (fun b => w1.heap.size ≤ b) w6 (tlF (tlP d) fBrokerRegistrationResponse_0 (t.at 0)) [.int .i64 (IntKind.i32.wrap (t.at 0).n),.slice none 0 0,.bool false,.slice none 0 0,.slice none 0 0] := hF0
  replace hF1 : TreeC (fun b => w1.heap.size ≤ b) w6 (tlF (tlP d) fBrokerRegistrationResponse_1 (t.at 1)) [.int .i64 (IntKind.i16.wrap (t.at 1).n),.slice none 0 0,.bool false,.slice none 0 0,.slice none 0 0] := hF1
  replace hF2 : TreeC (fun b => w1.heap.size ≤ b) w6 (tlF (tlP d) fBrokerRegistrationResponse_2 (t.at 2)) [.int .i64 ((t.at 2).n),.slice none 0 0,.bool false,.slice none 0 0,.slice none 0 0] := hF2
  have hTL : TreesV (fun b => (fun b => w1.heap.size ≤ b) b ∨ b = w.heap.size + 1) w6 (.slice (some ⟨w.heap.size + 1,0,none⟩) 3 3) [tlF (tlP d) fBrokerRegistrationResponse_0 (t.at 0),tlF (tlP d) fBrokerRegistrationResponse_1 (t.at 1),tlF (tlP d) fBrokerRegistrationResponse_2 (t.at 2)] := by
    refine ⟨[[.int .i64 (IntKind.i32.wrap (t.at 0).n),.slice none 0 0,.bool false,.slice none 0 0,.slice none 0 0],[.int .i64 (IntKind.i16.wrap (t.at 1).n),.slice none 0 0,.bool false,.slice none 0 0,.slice none 0 0],[.int .i64 ((t.at 2).n),.slice none 0 0,.bool false,.slice none 0 0,.slice none 0 0]],⟨_,3,rfl,Nat.le_refl _,(by intro cs hm;simp only [List.mem_cons,List.not_mem_nil,or_false] at hm;rcases hm with rfl | rfl | rfl <;> rfl),.inr ⟨_,rfl,rfl,.inr rfl,_,hl6,fun i hi => by rw [Nat.zero_add,List.getElem?_toArray];rfl⟩⟩,rfl,fun i h1 h2 => ?_⟩
    match i,h1 with
    | 0,_ => exact TreeC.weaken (fun b _ hk => .inl hk) hF0
    | 1,_ => exact TreeC.weaken (fun b _ hk => .inl hk) hF1
    | 2,_ => exact TreeC.weaken (fun b _ hk => .inl hk) hF2
  repeat ((first | refine qA rfl ?_|refine qB ?_|refine qC rfl ?_|refine qD ?_|refine qE ?_|refine qF ?_|refine qG ?_|refine qH ?_);try simp (maxSteps:=1000000)(disch:=(first|omega|(simp only [qI,qJ,qK]<;>omega)|exact qL _)) only [go_sem,↓reduceIte,n0,reduceCtorEq,n1,n2,n3,n4,n5,i0,i1,i2,i3,i4,i5,i6,i7,hb6,hl6,ht6,hq0,hq1,hq2,hq3,hr6,cellsAt_five])
  refine ⟨⟨_,rfl,?_⟩,hX6.wr _ _ (.inl (Nat.le_refl _))⟩
  have hUr : Upd (fun b => b = w.heap.size) w6 (wr w6 w.heap.size 0 [.int .i64 0,.slice none 0 0,.bool false,.slice (some ⟨w.heap.size + 1,0,none⟩) 3 3,.slice aU (sortT t.u).length kU]) := (Upd.refl _ _).wr _ _ (.inr rfl)
  have hTU2 := hTU.keep (hEs.keeps _)
  exact TreeC.intro rfl (BytesV.nil _ _) ((hTL.keep (hUr.keeps fun b _ hk e => by rcases hk with hk | hk <;> omega)).weaken fun b _ hk => by rcases hk with hk | hk <;> omega) ((hTU2.keep (hUr.keeps fun b _ hk e => by omega)).weaken fun b _ hk => by omega)
end Ms

namespace Ms
open Go.World renaming size_alloc → qI
open Ms renaming size_wr → qJ,size_drew → qK,not_noB → qL
open W renaming seqR → qA,seq → qB,regR → qC,condK → qD,block → qE,skip → qF,ret → qG,exit → qH
open Nat renaming reduceEqDiff → n0,reduceAdd → n1,reduceMul → n2,reduceSub → n3,reduceLT → n4,reduceLeDiff → n5
open Int renaming reduceEq → i0,reduceLT → i1,reduceLE → i2,reduceNeg → i3,reduceAdd → i4,reduceSub → i5,reduceMul → i6,reduceToNat → i7
set_option maxRecDepth 8000
open Go Go.Proofs Go.Shelf
attribute [local congr] W_congr WPsq_congr WPp_congr optK_congr addrK_congr intK_congr boolK_congr sliceK_congr tupleK_congr funcK_congr Fn_congr rawK_congr takeK_congr stepK_congr convK_congr aggK_congr

set_option maxHeartbeats 2000000 in
theorem TellDBrokerRegistrationResponse_fn {d : Nat} {ok : Blocks} {ev : Value} (ver : Nat) (hv : ver ≤ 4) (b : Value) (s : List UInt8) (w : World) (hb : BytesV ok w b s) (hG : Glo ev w) (hev : ∃ T p,ev = .iface T p) (hs : s.length ≤ 2 ^ 40) (fin : Tree × St) (hfin : fin = rdP (d + 1) ver (flexB 0 ver) fs_BrokerRegistrationResponse (some s)) (hgood : GoodP (d + 1) fs_BrokerRegistrationResponse fin.1) :
    Fn Tryd.prog 11 #[.int .i64 ver,b] w fun r w' => (∃ c T,r = .tuple #[.agg c.toArray,.bool fin.2.isSome] ∧ TreeC AnyB w' T c ∧ (fin.2.isSome = true → T = tlP (d + 1) fs_BrokerRegistrationResponse fin.1)) ∧ Ext w w' := by
  obtain ⟨ba,bc,rfl,_⟩ := hb.shape
  have hgl := hG.lt
  have ew : IntKind.i16.wrap (ver : Int) = ver := i16_wrap (by omega)
  have hE0 : Ext w (w.alloc (.cells #[.int .i64 0,.slice none 0 0,.bool false,.slice none 0 0,.slice none 0 0] 37)) := Upd.alloc (Upd.refl _ _) _
  have hz0 : (w.alloc (.cells #[.int .i64 0,.slice none 0 0,.bool false,.slice none 0 0,.slice none 0 0] 37)).heap.size = w.heap.size + 1 := World.size_alloc _ _
  have hr0 : blk (w.alloc (.cells #[.int .i64 0,.slice none 0 0,.bool false,.slice none 0 0,.slice none 0 0] 37)) w.heap.size = some (#[.int .i64 0,.slice none 0 0,.bool false,.slice none 0 0,.slice none 0 0],37,(0,0)) := blk_alloc_new rfl
  refine fn_of_W Tryd.func11 rfl Tryd.results11 Tryd.ntmps11 rfl ?_
  repeat ((first | refine qA rfl ?_|refine qB ?_|refine qC rfl ?_|refine qD ?_|refine qE ?_|refine qF ?_|refine qG ?_|refine qH ?_);try simp (maxSteps:=1000000)(disch:=(first|omega|(simp only [qI,qJ,qK]<;>omega)|exact qL _)) only [go_sem,↓reduceIte,n0,reduceCtorEq,n1,n2,n3,n4,n5,i0,i1,i2,i3,i4,i5,i6,i7,ew])
  generalize (w.alloc (.cells #[.int .i64 0,.slice none 0 0,.bool false,.slice none 0 0,.slice none 0 0] 37)) = w0 at *
  refine (NewPtrBrokerRegistrationResponse_fn w0).mono ?_
  rintro _ w1 ⟨rfl,hb1,hE1⟩
  have hz1 := blk_lt hb1
  repeat ((first | refine qA rfl ?_|refine qB ?_|refine qC rfl ?_|refine qD ?_|refine qE ?_|refine qF ?_|refine qG ?_|refine qH ?_);try simp (maxSteps:=1000000)(disch:=(first|omega|(simp only [qI,qJ,qK]<;>omega)|exact qL _)) only [go_sem,↓reduceIte,n0,reduceCtorEq,n1,n2,n3,n4,n5,i0,i1,i2,i3,i4,i5,i6,i7,ew])
  refine (SetVersionBrokerRegistrationResponse_fn w1 (vb := w0.heap.size) ver hb1).mono ?_
  rintro _ w2 ⟨hb2,hU2⟩
  have hz2 := hU2.size
  have hE2 : Ext w0 w2 := hE1.more hU2 fun b hb h => by omega
  repeat ((first | refine qA rfl ?_|refine qB ?_|refine qC rfl ?_|refine qD ?_|refine qE ?_|refine qF ?_|refine qG ?_|refine qH ?_);try simp (maxSteps:=1000000)(disch:=(first|omega|(simp only [qI,qJ,qK]<;>omega)|exact qL _)) only [go_sem,↓reduceIte,n0,reduceCtorEq,n1,n2,n3,n4,n5,i0,i1,i2,i3,i4,i5,i6,i7,ew])
  refine wp_copyN ap_22_22 (ok := ok) (s := s) (v := .slice ba _ bc) (by first | rfl | simp (maxSteps:=1000000)(disch:=(first|omega|(simp only [qI,qJ,qK]<;>omega)|exact qL _)) only [go_sem,↓reduceIte,n0,reduceCtorEq,n1,n2,n3,n4,n5,i0,i1,i2,i3,i4,i5,i6,i7]) (by first | rfl | simp (maxSteps:=1000000)(disch:=(first|omega|(simp only [qI,qJ,qK]<;>omega)|exact qL _)) only [go_sem,↓reduceIte,n0,reduceCtorEq,n1,n2,n3,n4,n5,i0,i1,i2,i3,i4,i5,i6,i7]) (hb.keep (Ext.keeps (hE0.trans hE2) _)) (by omega) ?_
  intro v3 w3 ho3 hE3 hf3
  have hz3 := hE3.size
  have hb3 := hE3.blk_some hb2 id
  have hE03 : Ext w0 w3 := hE2.trans hE3
  have hG3 : Glo ev w3 := hG.updS (hE0.trans hE03) id id
  obtain ⟨a3,c3,rfl,_⟩ := ho3.shape
  simp (maxSteps:=1000000)(disch:=(first|omega|(simp only [qI,qJ,qK]<;>omega)|exact qL _)) only [go_sem,↓reduceIte,n0,reduceCtorEq,n1,n2,n3,n4,n5,i0,i1,i2,i3,i4,i5,i6,i7]
  refine (ReadFromBrokerRegistrationResponse_fn (d := d) (ok := fun b => b < w3.heap.size ∧ b ≠ w0.heap.size) (ev := ev) (ver := ver) (by omega) (by omega) w3 _ _ hb3 ((Own.bytes ho3 hf3).weaken fun b hb hk => ⟨hb,by omega⟩) (fun b hb => hb) hG3 ⟨by omega,by omega⟩).mono ?_
  rw [← hfin]
  rintro r4 w4 ⟨h4n,h4s,hU4⟩
  have hz4 := hU4.size
  have hE4 : Ext w0 w4 := hE03.more hU4 fun b hb h => by omega
  have hr4 := hE4.blk_some hr0 id
  by_cases hst : fin.2 = none
  · obtain rfl := h4n hst
    obtain ⟨eT,ep,rfl⟩ := hev
    have hso : fin.2.isSome = false := by rw [hst];rfl
    rw [hso]
    try simp (maxSteps:=1000000)(disch:=(first|omega|(simp only [qI,qJ,qK]<;>omega)|exact qL _)) only [go_sem,↓reduceIte,n0,reduceCtorEq,n1,n2,n3,n4,n5,i0,i1,i2,i3,i4,i5,i6,i7,hr4]
    repeat ((first | refine qA rfl ?_|refine qB ?_|refine qC rfl ?_|refine qD ?_|refine qE ?_|refine qF ?_|refine qG ?_|refine qH ?_);try simp (maxSteps:=1000000)(disch:=(first|omega|(simp only [qI,qJ,qK]<;>omega)|exact qL _)) only [go_sem,↓reduceIte,n0,reduceCtorEq,n1,n2,n3,n4,n5,i0,i1,i2,i3,i4,i5,i6,i7,hr4,cellsAt_five])
    refine ⟨⟨[.int .i64 0,.slice none 0 0,.bool false,.slice none 0 0,.slice none 0 0],.zero,rfl,TreeC.intro rfl (BytesV.nil _ _) (treesN _ _) (tagsN _ _)⟩,(hE0.trans hE4).wr _ _ (.inl (Nat.le_refl _))⟩
  · obtain ⟨rfl,cells,hb4,hR4⟩ := h4s hst
    have hso : fin.2.isSome = true := isSome_some hst
    rw [hso]
    try simp (maxSteps:=1000000)(disch:=(first|omega|(simp only [qI,qJ,qK]<;>omega)|exact qL _)) only [go_sem,↓reduceIte,n0,reduceCtorEq,n1,n2,n3,n4,n5,i0,i1,i2,i3,i4,i5,i6,i7,hr4]
    repeat ((first | refine qA rfl ?_|refine qB ?_|refine qC rfl ?_|refine qD ?_|refine qE ?_|refine qF ?_|refine qG ?_|refine qH ?_);try simp (maxSteps:=1000000)(disch:=(first|omega|(simp only [qI,qJ,qK]<;>omega)|exact qL _)) only [go_sem,↓reduceIte,n0,reduceCtorEq,n1,n2,n3,n4,n5,i0,i1,i2,i3,i4,i5,i6,i7,hr4])
    have hcl := (RepS_lay true (d + 1) fs_BrokerRegistrationResponse).flat hR4
    refine (tellBrokerRegistrationResponse_fn (d := d) fin.1 cells w4 hb4 (fun k hk => by show ((.int .i16 (ver : Int) :: cells).toArray)[1 + k]? = cells[k]?;rw [List.getElem?_toArray,Nat.add_comm,List.getElem?_cons_succ]) hR4 hgood).mono ?_
    rintro _ w5 ⟨⟨c5,rfl,hc5⟩,hE5⟩
    obtain ⟨vS,vL,vU,rfl,hn5,hS5,hL5,hU5⟩ := hc5.inv
    have f1 := hS5.flat
    have f2 := SlR.flat hL5
    have f3 := SlR.flat hU5
    have hr5 := hE5.blk_some hr4 id
    try simp (maxSteps:=1000000)(disch:=(first|omega|(simp only [qI,qJ,qK]<;>omega)|exact qL _)) only [go_sem,↓reduceIte,n0,reduceCtorEq,n1,n2,n3,n4,n5,i0,i1,i2,i3,i4,i5,i6,i7,hr5,f1,f2,f3]
    repeat ((first | refine qA rfl ?_|refine qB ?_|refine qC rfl ?_|refine qD ?_|refine qE ?_|refine qF ?_|refine qG ?_|refine qH ?_);try simp (maxSteps:=1000000)(disch:=(first|omega|(simp only [qI,qJ,qK]<;>omega)|exact qL _)) only [go_sem,↓reduceIte,n0,reduceCtorEq,n1,n2,n3,n4,n5,i0,i1,i2,i3,i4,i5,i6,i7,hr5,f1,f2,f3,cellsAt_five])
    have hUw : Upd (fun b => b = w.heap.size) w5 (wr w5 w.heap.size 0 [.int .i64 (tlP (d + 1) fs_BrokerRegistrationResponse fin.1).n,vS,.bool (tlP (d + 1) fs_BrokerRegistrationResponse fin.1).null,vL,vU]) := (Upd.refl _ _).wr _ _ (.inr rfl)
    refine ⟨⟨_,_,rfl,TreeC.weaken (fun _ _ _ => trivial) (TreeC.keep (hUw.keeps (ok := fun b => w4.heap.size ≤ b) fun b _ hk e => by have hk' : w4.heap.size ≤ b := hk;omega) hc5),rfl⟩,(hE0.trans (hE4.trans hE5)).wr _ _ (.inl (Nat.le_refl _))⟩

end Ms

namespace Ms
open Go.World renaming size_alloc → qI
open Ms renaming size_wr → qJ,size_drew → qK,not_noB → qL
open W renaming seqR → qA,seq → qB,regR → qC,condK → qD,block → qE,skip → qF,ret → qG,exit → qH
open Nat renaming reduceEqDiff → n0,reduceAdd → n1,reduceMul → n2,reduceSub → n3,reduceLT → n4,reduceLeDiff → n5
open Int renaming reduceEq → i0,reduceLT → i1,reduceLE → i2,reduceNeg → i3,reduceAdd → i4,reduceSub → i5,reduceMul → i6,reduceToNat → i7
set_option maxRecDepth 8000
open Go Go.Proofs Go.Shelf
attribute [local congr] W_congr WPsq_congr WPp_congr optK_congr addrK_congr intK_congr boolK_congr sliceK_congr tupleK_congr funcK_congr Fn_congr rawK_congr takeK_congr stepK_congr convK_congr aggK_congr

set_option maxHeartbeats 4000000 in
theorem law_TellBrokerRegistrationResponse {ok : Blocks} {ev : Value} (n : Nat) (hn : n < 256) (t : Tree) (ct : List Value) (w : World) (ht : TreeC ok w t ct) (hsm : Small 4611686018427387903 t) (hG : Glo ev w) (hev : ∃ T p,ev = .iface T p) {N : Nat} (hN : N ≤ 1048576) (hsz : Sized N t) :
    Fn Tryd.prog 3 #[.int .u8 n,.agg ct.toArray] w fun r w' => r = .bool true ∧ Ext w w' := by
  have hn64 := TreeC.n64 ht
  obtain ⟨vS,vL,vU,rfl,hn',hS,hL,hU⟩ := ht.inv
  have f1 := hS.flat
  have f2 := SlR.flat hL
  have f3 := SlR.flat hU
  have hE : Ext w (w.alloc (.cells #[.int .i64 t.n,vS,.bool t.null,vL,vU] 26)) := Upd.alloc (Upd.refl _ _) _
  refine fn_of_W Tryd.func3 rfl Tryd.results3 Tryd.ntmps3 rfl ?_
  repeat ((first | refine qA rfl ?_|refine qB ?_|refine qC rfl ?_|refine qD ?_|refine qE ?_|refine qF ?_|refine qG ?_|refine qH ?_);try simp (maxSteps:=1000000)(disch:=(first|omega|(simp only [qI,qJ,qK]<;>omega)|exact qL _)) only [go_sem,↓reduceIte,n0,reduceCtorEq,n1,n2,n3,n4,n5,i0,i1,i2,i3,i4,i5,i6,i7,f1,f2,f3,cellsAt_five])
  have hb : blk (w.alloc (.cells #[.int .i64 t.n,vS,.bool t.null,vL,vU] 26)) w.heap.size = some (#[.int .i64 t.n,vS,.bool t.null,vL,vU],26,(0,0)) := blk_alloc_new rfl
  generalize (w.alloc (.cells #[.int .i64 t.n,vS,.bool t.null,vL,vU] 26)) = w1 at *
  refine (zzFits1_fn (ok := ok) t _ w1 (ht.keep (hE.keeps _)) hsm).mono ?_
  rintro r2 w2 ⟨⟨bb,rfl⟩,hE2⟩
  cases bb with
  | false =>
    simp (maxSteps:=1000000)(disch:=(first|omega|(simp only [qI,qJ,qK]<;>omega)|exact qL _)) only [go_sem,↓reduceIte,n0,reduceCtorEq,n1,n2,n3,n4,n5,i0,i1,i2,i3,i4,i5,i6,i7]
    repeat ((first | refine qA rfl ?_|refine qB ?_|refine qC rfl ?_|refine qD ?_|refine qE ?_|refine qF ?_|refine qG ?_|refine qH ?_);try simp (maxSteps:=1000000)(disch:=(first|omega|(simp only [qI,qJ,qK]<;>omega)|exact qL _)) only [go_sem,↓reduceIte,n0,reduceCtorEq,n1,n2,n3,n4,n5,i0,i1,i2,i3,i4,i5,i6,i7])
    all_goals exact hE.trans hE2
  | true =>
    simp (maxSteps:=1000000)(disch:=(first|omega|(simp only [qI,qJ,qK]<;>omega)|exact qL _)) only [go_sem,↓reduceIte,n0,reduceCtorEq,n1,n2,n3,n4,n5,i0,i1,i2,i3,i4,i5,i6,i7]
    repeat ((first | refine qA rfl ?_|refine qB ?_|refine qC rfl ?_|refine qD ?_|refine qE ?_|refine qF ?_|refine qG ?_|refine qH ?_);try simp (maxSteps:=1000000)(disch:=(first|omega|(simp only [qI,qJ,qK]<;>omega)|exact qL _)) only [go_sem,↓reduceIte,n0,reduceCtorEq,n1,n2,n3,n4,n5,i0,i1,i2,i3,i4,i5,i6,i7])
    refine (MaxBrokerRegistrationResponse_fn w2).mono ?_
    rintro _ w2m ⟨rfl,hE2m⟩
    repeat ((first | refine qA rfl ?_|refine qB ?_|refine qC rfl ?_|refine qD ?_|refine qE ?_|refine qF ?_|refine qG ?_|refine qH ?_);try simp (maxSteps:=1000000)(disch:=(first|omega|(simp only [qI,qJ,qK]<;>omega)|exact qL _)) only [go_sem,↓reduceIte,n0,reduceCtorEq,n1,n2,n3,n4,n5,i0,i1,i2,i3,i4,i5,i6,i7])
    refine (cBrokerRegistrationResponse_fn w2m).mono ?_
    rintro r3 w3 ⟨⟨vs,rfl,hF0⟩,hE3⟩
    have hF : FldsV AnyB w3 vs fs_BrokerRegistrationResponse := hF0.weaken fun _ _ _ => trivial
    have fF := SlR.flat hF
    try simp (maxSteps:=1000000)(disch:=(first|omega|(simp only [qI,qJ,qK]<;>omega)|exact qL _)) only [go_sem,↓reduceIte,n0,reduceCtorEq,n1,n2,n3,n4,n5,i0,i1,i2,i3,i4,i5,i6,i7]
    refine (version_fn w3 n 4 hn (by decide)).mono ?_
    rintro _ w3v ⟨rfl,rfl⟩
    have hE03 : Ext w w3v := ((hE.trans hE2).trans hE2m).trans hE3
    have hb3 := hE3.blk_some (hE2m.blk_some (hE2.blk_some hb id) id) id
    have hE4 : Ext w3v (wr (w3v.alloc (.cells #[.slice none 0 0,.int .i64 0] 31)) w3v.heap.size 0 [vs,.int .i64 0]) := (Upd.alloc (Upd.refl _ _) _).wr _ _ (.inl (Nat.le_refl _))
    have hb4 : blk (wr (w3v.alloc (.cells #[.slice none 0 0,.int .i64 0] 31)) w3v.heap.size 0 [vs,.int .i64 0]) w3v.heap.size = some (#[vs,.int .i64 0],31,(0,0)) := by simp (maxSteps:=1000000)(disch:=(first|omega|(simp only [qI,qJ,qK]<;>omega)|exact qL _)) only [go_sem,↓reduceIte,n0,reduceCtorEq,n1,n2,n3,n4,n5,i0,i1,i2,i3,i4,i5,i6,i7]
    try simp (maxSteps:=1000000)(disch:=(first|omega|(simp only [qI,qJ,qK]<;>omega)|exact qL _)) only [go_sem,↓reduceIte,n0,reduceCtorEq,n1,n2,n3,n4,n5,i0,i1,i2,i3,i4,i5,i6,i7,fF]
    generalize (wr (w3v.alloc (.cells #[.slice none 0 0,.int .i64 0] 31)) w3v.heap.size 0 [vs,.int .i64 0]) = w4 at *
    have hb34 := hE4.blk_some hb3 id
    have hv3 : n % 5 < 5 := Nat.mod_lt _ (by omega)
    generalize n % 5 = ver at *
    have hs1 := blk_lt hb4
    have hs2 := blk_lt hb34
    repeat ((first | refine qA rfl ?_|refine qB ?_|refine qC rfl ?_|refine qD ?_|refine qE ?_|refine qF ?_|refine qG ?_|refine qH ?_);try simp (maxSteps:=1000000)(disch:=(first|omega|(simp only [qI,qJ,qK]<;>omega)|exact qL _)) only [go_sem,↓reduceIte,n0,reduceCtorEq,n1,n2,n3,n4,n5,i0,i1,i2,i3,i4,i5,i6,i7,hb34,hb4,cellsAt_five,cellsAt_two])
    have hE04 : Ext w w4 := hE03.trans hE4
    have hokF : okF 1 fs_BrokerRegistrationResponse = true := by decide
    have hokM : okM 1 fs_BrokerRegistrationResponse = true := by decide
    have hokR : okR 1 ver (flexB 0 ver) fs_BrokerRegistrationResponse = true := (by decide : ∀ v : Fin 5,okR 1 ((v.val : Nat) : Int) (flexB 0 ((v.val : Nat) : Int)) fs_BrokerRegistrationResponse = true) ⟨ver,hv3⟩
    have hokT : okTs 1 fs_BrokerRegistrationResponse = true := by decide
    have hdf : okDf (1 + 1) fs_BrokerRegistrationResponse = true := by decide
    have hpl : (partS 2 fs_BrokerRegistrationResponse ver (flexB 0 ver) t).length ≤ 2 ^ 40 := Nat.le_trans (partS_bound ver _ 1 fs_BrokerRegistrationResponse N t hokM hsz) (Nat.le_trans (Nat.mul_le_mul_left _ (Nat.succ_le_succ hN)) (by decide))
    refine (Write_fn (ok := AnyB) (d := 1) fs_BrokerRegistrationResponse 0 ver t vs _ w4 (hF.keep (Ext.keeps hE4 _)) hokF ((ht.weaken fun _ _ _ => trivial).keep (Ext.keeps hE04 _)) hsm hpl).mono ?_
    rintro r5 w5 ⟨ho5,hE5⟩
    have hE05 := hE04.trans hE5
    obtain ⟨a5,c5,rfl,_⟩ := ho5.shape
    repeat ((first | refine qA rfl ?_|refine qB ?_|refine qC rfl ?_|refine qD ?_|refine qE ?_|refine qF ?_|refine qG ?_|refine qH ?_);try simp (maxSteps:=1000000)(disch:=(first|omega|(simp only [qI,qJ,qK]<;>omega)|exact qL _)) only [go_sem,↓reduceIte,n0,reduceCtorEq,n1,n2,n3,n4,n5,i0,i1,i2,i3,i4,i5,i6,i7])
    have hrd := (rdP_part ver (flexB 0 ver) 1 fs_BrokerRegistrationResponse N t hokR hsz).1 []
    rw [List.append_nil] at hrd
    have hgood : GoodP (1 + 1) fs_BrokerRegistrationResponse (cnP 2 ver (flexB 0 ver) fs_BrokerRegistrationResponse t) := cnP_good ver _ _ _ _ hdf
    refine (TellDBrokerRegistrationResponse_fn (d := 1) (ok := AnyB) (ev := ev) ver (by omega) _ _ w5 (Own.bytes (ok := AnyB) ho5 fun _ _ => trivial) (hG.updS hE05 id id) hev hpl (cnP 2 ver (flexB 0 ver) fs_BrokerRegistrationResponse t,some []) hrd.symm hgood).mono ?_
    rintro _ w6 ⟨⟨ca,Ta,rfl,hca,hTa⟩,hE6⟩
    obtain rfl := hTa rfl
    have hsT : Small 32767 (tlP (1 + 1) fs_BrokerRegistrationResponse (cnP 2 ver (flexB 0 ver) fs_BrokerRegistrationResponse t)) := tlP_small _ _ _ hdf hgood
    have htold : ToldP 2 ver (flexB 0 ver) fs_BrokerRegistrationResponse t (tlP (1 + 1) fs_BrokerRegistrationResponse (cnP 2 ver (flexB 0 ver) fs_BrokerRegistrationResponse t)) := told_cn ver (flexB 0 ver) 1 fs_BrokerRegistrationResponse t hokR hokT hn64
    simp only at hca
    generalize tlP (1 + 1) fs_BrokerRegistrationResponse (cnP 2 ver (flexB 0 ver) fs_BrokerRegistrationResponse t) = Ta at *
    have hE06 := hE05.trans hE6
    obtain ⟨aS,aL,aU,rfl,hna,hSa,hLa,hUa⟩ := hca.inv
    have g1 := hSa.flat
    have g2 := SlR.flat hLa
    have g3 := SlR.flat hUa
    have hE7 : Ext w6 (wr (w6.alloc (.cells #[.int .i64 0,.slice none 0 0,.bool false,.slice none 0 0,.slice none 0 0] 37)) w6.heap.size 0 [.int .i64 Ta.n,aS,.bool Ta.null,aL,aU]) := (Upd.alloc (Upd.refl _ _) _).wr _ _ (.inl (Nat.le_refl _))
    have hb7 : blk (wr (w6.alloc (.cells #[.int .i64 0,.slice none 0 0,.bool false,.slice none 0 0,.slice none 0 0] 37)) w6.heap.size 0 [.int .i64 Ta.n,aS,.bool Ta.null,aL,aU]) w6.heap.size = some (#[.int .i64 Ta.n,aS,.bool Ta.null,aL,aU],37,(0,0)) := by simp (maxSteps:=1000000)(disch:=(first|omega|(simp only [qI,qJ,qK]<;>omega)|exact qL _)) only [go_sem,↓reduceIte,n0,reduceCtorEq,n1,n2,n3,n4,n5,i0,i1,i2,i3,i4,i5,i6,i7]
    try simp (maxSteps:=1000000)(disch:=(first|omega|(simp only [qI,qJ,qK]<;>omega)|exact qL _)) only [go_sem,↓reduceIte,n0,reduceCtorEq,n1,n2,n3,n4,n5,i0,i1,i2,i3,i4,i5,i6,i7,g1,g2,g3,Option.isSome_some]
    repeat ((first | refine qA rfl ?_|refine qB ?_|refine qC rfl ?_|refine qD ?_|refine qE ?_|refine qF ?_|refine qG ?_|refine qH ?_);try simp (maxSteps:=1000000)(disch:=(first|omega|(simp only [qI,qJ,qK]<;>omega)|exact qL _)) only [go_sem,↓reduceIte,n0,reduceCtorEq,n1,n2,n3,n4,n5,i0,i1,i2,i3,i4,i5,i6,i7,g1,g2,g3,Option.isSome_some])
    generalize (wr (w6.alloc (.cells #[.int .i64 0,.slice none 0 0,.bool false,.slice none 0 0,.slice none 0 0] 37)) w6.heap.size 0 [.int .i64 Ta.n,aS,.bool Ta.null,aL,aU]) = w7 at *
    have hE47 := (hE5.trans hE6).trans hE7
    have hE07 := hE04.trans hE47
    have hb47 := hE47.blk_some hb4 id
    have hb37 := hE47.blk_some hb34 id
    have l1 := blk_lt hb7
    have l2 := blk_lt hb47
    have l3 := blk_lt hb37
    refine W.drawR (.take 0 (.take 1 (.take 2 (.take 3 (.take 4 (.take 5 (.take 6 (.take 8 (.take 9 (.only 7 (.only 10 (.only 11 (.take 12 (.only 13 .done)))))))))))))) NoB mixed (by kernel_rfl) ?_
    try simp (maxSteps:=1000000)(disch:=(first|omega|(simp only [qI,qJ,qK]<;>omega)|exact qL _)) only [go_sem,↓reduceIte,n0,reduceCtorEq,n1,n2,n3,n4,n5,i0,i1,i2,i3,i4,i5,i6,i7,fF,f1,f2,f3,g1,g2,g3,hb7,hb47,hb37,cellsAt_five,cellsAt_two]
    have hEd : Ext w7 w7.drew := (Upd.refl _ _).drew
    have hE0d := hE07.trans hEd
    have hE4d := hE47.trans hEd
    have hcad := (hca.keep (Ext.keeps hE7 _)).keep (Ext.keeps hEd _)
    generalize w7.drew = w8 at *
    refine (Flexible_fn vs 0 ver fF w8).mono ?_
    rintro _ w9 ⟨rfl,hE9⟩
    refine ⟨hE9,?_⟩
    try simp (maxSteps:=1000000)(disch:=(first|omega|(simp only [qI,qJ,qK]<;>omega)|exact qL _)) only [go_sem,↓reduceIte,n0,reduceCtorEq,n1,n2,n3,n4,n5,i0,i1,i2,i3,i4,i5,i6,i7]
    refine (got_fn hsT.lists AnyB _ w9 (hcad.keep (Ext.keeps hE9 _))).mono ?_
    rintro _ w10 ⟨⟨c10,rfl,hc10⟩,hE10⟩
    have hE810 := hE9.trans hE10
    refine ⟨hE810,?_⟩
    try simp (maxSteps:=1000000)(disch:=(first|omega|(simp only [qI,qJ,qK]<;>omega)|exact qL _)) only [go_sem,↓reduceIte,n0,reduceCtorEq,n1,n2,n3,n4,n5,i0,i1,i2,i3,i4,i5,i6,i7]
    refine (Told_fn ver (flexB 0 ver) 1 fs_BrokerRegistrationResponse t Ta vs _ _ w10 (((hF.keep (Ext.keeps hE4 _)).keep (Ext.keeps hE4d _)).keep (Ext.keeps hE810 _)) hokF (((ht.weaken (ok' := AnyB) fun _ _ _ => trivial).keep (Ext.keeps hE0d _)).keep (Ext.keeps hE810 _)) (hc10.weaken fun _ _ _ => trivial) hsm (hsT.mono (by decide)) htold).mono ?_
    rintro _ w11 ⟨rfl,hE11⟩
    refine ⟨hE810.trans hE11,?_⟩
    try simp (maxSteps:=1000000)(disch:=(first|omega|(simp only [qI,qJ,qK]<;>omega)|exact qL _)) only [go_sem,↓reduceIte,n0,reduceCtorEq,n1,n2,n3,n4,n5,i0,i1,i2,i3,i4,i5,i6,i7]
    try refine ⟨hE810.trans hE11,?_⟩
    repeat ((first | refine qA rfl ?_|refine qB ?_|refine qC rfl ?_|refine qD ?_|refine qE ?_|refine qF ?_|refine qG ?_|refine qH ?_);try simp (maxSteps:=1000000)(disch:=(first|omega|(simp only [qI,qJ,qK]<;>omega)|exact qL _)) only [go_sem,↓reduceIte,n0,reduceCtorEq,n1,n2,n3,n4,n5,i0,i1,i2,i3,i4,i5,i6,i7])
    all_goals exact hE0d.trans (hE810.trans hE11)
end Ms

