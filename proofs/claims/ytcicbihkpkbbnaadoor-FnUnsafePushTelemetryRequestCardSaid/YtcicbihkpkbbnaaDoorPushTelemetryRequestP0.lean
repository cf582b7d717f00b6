/- A part of the proof: see the last text. -/
import Derived.Test.YtcicbihkpkbbnaaDoorC00
import Derived.Test.YtcicbihkpkbbnaaDoorC03
import Derived.Test.YtcicbihkpkbbnaaDoorC04
import Derived.Test.YtcicbihkpkbbnaaDoorC06
import Derived.Test.YtcicbihkpkbbnaaDoorC07
import Derived.Test.YtcicbihkpkbbnaaDoorC08
set_option linter.unusedSimpArgs false
set_option linter.unusedVariables false
namespace Ms
open Nat renaming reduceEqDiff → n0,reduceAdd → n1,reduceMul → n2,reduceSub → n3,reduceLT → n4,reduceLeDiff → n5
open Int renaming reduceEq → i0,reduceLT → i1,reduceLE → i2,reduceNeg → i3,reduceAdd → i4,reduceSub → i5,reduceMul → i6,reduceToNat → i7
set_option maxRecDepth 4000
open Go Go.Proofs
theorem ap_25_25 : AppT Tryd.prog 25 25 59 2 32 := AppT.of (by kernel_rfl)
theorem ca_144 : callable Tryd.prog 144 = true := nr (by kernel_rfl)
theorem ca_145 : callable Tryd.prog 145 = true := nr (by kernel_rfl)
theorem ca_146 : callable Tryd.prog 146 = true := nr (by kernel_rfl)
theorem ca_147 : callable Tryd.prog 147 = true := nr (by kernel_rfl)
theorem ca_148 : callable Tryd.prog 148 = true := nr (by kernel_rfl)
theorem ca_149 : callable Tryd.prog 149 = true := nr (by kernel_rfl)
theorem ca_150 : callable Tryd.prog 150 = true := nr (by kernel_rfl)
theorem ca_16 : callable Tryd.prog 16 = true := nr (by kernel_rfl)
theorem ca_17 : callable Tryd.prog 17 = true := nr (by kernel_rfl)
theorem ca_18 : callable Tryd.prog 18 = true := nr (by kernel_rfl)
theorem ca_19 : callable Tryd.prog 19 = true := nr (by kernel_rfl)
theorem ca_205 : callable Tryd.prog 205 = true := nr (by kernel_rfl)
theorem ca_207 : callable Tryd.prog 207 = true := nr (by kernel_rfl)
theorem ca_208 : callable Tryd.prog 208 = true := nr (by kernel_rfl)
theorem ca_209 : callable Tryd.prog 209 = true := nr (by kernel_rfl)
theorem ca_210 : callable Tryd.prog 210 = true := nr (by kernel_rfl)
theorem ca_211 : callable Tryd.prog 211 = true := nr (by kernel_rfl)
theorem ca_212 : callable Tryd.prog 212 = true := nr (by kernel_rfl)
theorem ca_61 : callable Tryd.prog 61 = true := nr (by kernel_rfl)
theorem ca_62 : callable Tryd.prog 62 = true := nr (by kernel_rfl)
theorem ca_63 : callable Tryd.prog 63 = true := nr (by kernel_rfl)
theorem ca_64 : callable Tryd.prog 64 = true := nr (by kernel_rfl)
theorem ca_65 : callable Tryd.prog 65 = true := nr (by kernel_rfl)
theorem ca_66 : callable Tryd.prog 66 = true := nr (by kernel_rfl)
theorem fo_108_0 : fieldOff Tryd.prog 108 0 = some 0 := nr (by kernel_rfl)
theorem fo_108_1 : fieldOff Tryd.prog 108 1 = some 1 := nr (by kernel_rfl)
theorem fo_108_2 : fieldOff Tryd.prog 108 2 = some 17 := nr (by kernel_rfl)
theorem fo_108_3 : fieldOff Tryd.prog 108 3 = some 18 := nr (by kernel_rfl)
theorem fo_108_4 : fieldOff Tryd.prog 108 4 = some 19 := nr (by kernel_rfl)
theorem fo_108_5 : fieldOff Tryd.prog 108 5 = some 20 := nr (by kernel_rfl)
theorem fo_108_6 : fieldOff Tryd.prog 108 6 = some 21 := nr (by kernel_rfl)
theorem if_52 : isIfaceT Tryd.prog 52 = true := nr (by kernel_rfl)
theorem kn_103 : knownT Tryd.prog 103 = true := nr (by kernel_rfl)
theorem kn_3 : knownT Tryd.prog 3 = true := nr (by kernel_rfl)
theorem ld_103 (w : World) (b o : Nat) : loadOf Tryd.prog 103 w ⟨b,o,none⟩ = (blk w b).bind fun x => x.1[o]? := loadOf_one (by kernel_rfl) w b o
theorem ld_21 (w : World) (b o : Nat) : loadOf Tryd.prog 21 w ⟨b,o,none⟩ = (blk w b).bind fun x => x.1[o]? := loadOf_one (by kernel_rfl) w b o
theorem ld_46 (w : World) (b o : Nat) : loadOf Tryd.prog 46 w ⟨b,o,none⟩ = (blk w b).bind fun x => x.1[o]? := loadOf_one (by kernel_rfl) w b o
theorem pl_221 : placesOf Tryd.prog 221 = some [(0,1),(1,1)] := nr (by kernel_rfl)
theorem pl_59 : placesOf Tryd.prog 59 = some [(0,1),(1,1)] := nr (by kernel_rfl)
theorem se_25 : slElem Tryd.prog 25 = some (59,2) := nr (by kernel_rfl)
theorem sz_103 (w : World) (b o : Nat) (v : Value) : storeOf Tryd.prog 103 w ⟨b,o,none⟩ v = (blk w b).bind fun x => stO w b o v x 1 := storeOf_n (by kernel_rfl) w b o v
theorem sz_21 (w : World) (b o : Nat) (v : Value) : storeOf Tryd.prog 21 w ⟨b,o,none⟩ v = (blk w b).bind fun x => stO w b o v x 1 := storeOf_n (by kernel_rfl) w b o v
theorem sz_221 (w : World) (b o : Nat) (v : Value) : storeOf Tryd.prog 221 w ⟨b,o,none⟩ v = (blk w b).bind fun x => stO w b o v x 2 := storeOf_n (by kernel_rfl) w b o v
theorem sz_25 (w : World) (b o : Nat) (v : Value) : storeOf Tryd.prog 25 w ⟨b,o,none⟩ v = (blk w b).bind fun x => stO w b o v x 1 := storeOf_n (by kernel_rfl) w b o v
theorem sz_46 (w : World) (b o : Nat) (v : Value) : storeOf Tryd.prog 46 w ⟨b,o,none⟩ v = (blk w b).bind fun x => stO w b o v x 1 := storeOf_n (by kernel_rfl) w b o v
theorem z_108 : zeroOf Tryd.prog 108 = some #[.int .i16 0,.int .u8 0,.int .u8 0,.int .u8 0,.int .u8 0,.int .u8 0,.int .u8 0,.int .u8 0,.int .u8 0,.int .u8 0,.int .u8 0,.int .u8 0,.int .u8 0,.int .u8 0,.int .u8 0,.int .u8 0,.int .u8 0,.int .i32 0,.bool false,.int .i8 0,.slice none 0 0,.map none] := nr (by kernel_rfl)
theorem z_221 : zeroOf Tryd.prog 221 = some #[.slice none 0 0,.bool false] := nr (by kernel_rfl)
attribute [go_sem] ca_144 ca_145 ca_146 ca_147 ca_148 ca_149 ca_150 ca_16 ca_17 ca_18 ca_19 ca_205 ca_207 ca_208 ca_209 ca_210 ca_211 ca_212 ca_61 ca_62 ca_63 ca_64 ca_65 ca_66 fo_108_0 fo_108_1 fo_108_2 fo_108_3 fo_108_4 fo_108_5 fo_108_6 if_52 kn_103 kn_3 ld_103 ld_21 ld_46 pl_221 pl_59 se_25 sz_103 sz_21 sz_221 sz_25 sz_46 z_108 z_221
end Ms

namespace Ms
open Go.World renaming size_alloc → qI
open Ms renaming size_wr → qJ,size_drew → qK,not_noB → qL
open W renaming seqR → qA,seq → qB,regR → qC,condK → qD,block → qE,skip → qF,ret → qG,exit → qH
open Nat renaming reduceEqDiff → n0,reduceAdd → n1,reduceMul → n2,reduceSub → n3,reduceLT → n4,reduceLeDiff → n5
open Int renaming reduceEq → i0,reduceLT → i1,reduceLE → i2,reduceNeg → i3,reduceAdd → i4,reduceSub → i5,reduceMul → i6,reduceToNat → i7
set_option maxRecDepth 8000
open Go Go.Proofs Go.Shelf
attribute [local congr] W_congr WPsq_congr WPp_congr optK_congr addrK_congr intK_congr boolK_congr sliceK_congr tupleK_congr funcK_congr Fn_congr rawK_congr takeK_congr stepK_congr convK_congr aggK_congr

def fPushTelemetryRequest_0 : Fld := .mk 7 0 (-1) (-1) (-1) 0 0 []
def fPushTelemetryRequest_1 : Fld := .mk 3 0 (-1) (-1) (-1) 0 0 []
def fPushTelemetryRequest_2 : Fld := .mk 0 0 (-1) (-1) (-1) 0 0 []
def fPushTelemetryRequest_3 : Fld := .mk 1 0 (-1) (-1) (-1) 0 0 []
def fPushTelemetryRequest_4 : Fld := .mk 9 0 (-1) (-1) (-1) 0 0 []
def fs_PushTelemetryRequest : List Fld := [fPushTelemetryRequest_0,fPushTelemetryRequest_1,fPushTelemetryRequest_2,fPushTelemetryRequest_3,fPushTelemetryRequest_4]

theorem DefaultPushTelemetryRequest_fn (w : World) {vb : Nat} {c0 c1 c2 c3 c4 c5 c6 c7 c8 c9 c10 c11 c12 c13 c14 c15 c16 c17 c18 c19 c20 c21 : Value} (hb : blk w vb = some (#[c0,c1,c2,c3,c4,c5,c6,c7,c8,c9,c10,c11,c12,c13,c14,c15,c16,c17,c18,c19,c20,c21],108,(0,0))) :
    Fn Tryd.prog 144 #[.pointer (some ⟨vb,0,none⟩)] w fun _ w' => blk w' vb = some (#[c0,c1,c2,c3,c4,c5,c6,c7,c8,c9,c10,c11,c12,c13,c14,c15,c16,c17,c18,c19,c20,c21],108,(0,0)) ∧ Upd (fun b => b = vb) w w' := by
  have hvl := blk_lt hb
  refine fn_of_W Tryd.func144 rfl Tryd.results144 Tryd.ntmps144 rfl ?_
  repeat ((first | refine qA rfl ?_|refine qB ?_|refine qC rfl ?_|refine qD ?_|refine qE ?_|refine qF ?_|refine qG ?_|refine qH ?_);try simp (maxSteps:=1000000)(disch:=(first|omega|(simp only [qI,qJ,qK]<;>omega)|exact qL _)) only [go_sem,↓reduceIte,n0,reduceCtorEq,n1,n2,n3,n4,n5,i0,i1,i2,i3,i4,i5,i6,i7,hb])
  first | exact Upd.refl _ _ | exact ⟨hb,Upd.refl _ _⟩

theorem NewPtrPushTelemetryRequest_fn (w : World) : Fn Tryd.prog 61 #[] w fun r w' => r = .pointer (some ⟨w.heap.size,0,none⟩) ∧ blk w' w.heap.size = some (#[.int .i16 0,.int .u8 0,.int .u8 0,.int .u8 0,.int .u8 0,.int .u8 0,.int .u8 0,.int .u8 0,.int .u8 0,.int .u8 0,.int .u8 0,.int .u8 0,.int .u8 0,.int .u8 0,.int .u8 0,.int .u8 0,.int .u8 0,.int .i32 0,.bool false,.int .i8 0,.slice none 0 0,.map none],108,(0,0)) ∧ Ext w w' := by
  refine fn_of_W Tryd.func61 rfl Tryd.results61 Tryd.ntmps61 rfl ?_
  repeat ((first | refine qA rfl ?_|refine qB ?_|refine qC rfl ?_|refine qD ?_|refine qE ?_|refine qF ?_|refine qG ?_|refine qH ?_);try simp (maxSteps:=1000000)(disch:=(first|omega|(simp only [qI,qJ,qK]<;>omega)|exact qL _)) only [go_sem,↓reduceIte,n0,reduceCtorEq,n1,n2,n3,n4,n5,i0,i1,i2,i3,i4,i5,i6,i7])
  refine (DefaultPushTelemetryRequest_fn _ (blk_alloc_new rfl)).mono ?_
  rintro _ w1 ⟨hb1,hU1⟩
  have hz := World.size_alloc w (.cells #[.int .i16 0,.int .u8 0,.int .u8 0,.int .u8 0,.int .u8 0,.int .u8 0,.int .u8 0,.int .u8 0,.int .u8 0,.int .u8 0,.int .u8 0,.int .u8 0,.int .u8 0,.int .u8 0,.int .u8 0,.int .u8 0,.int .u8 0,.int .i32 0,.bool false,.int .i8 0,.slice none 0 0,.map none] 108)
  repeat ((first | refine qA rfl ?_|refine qB ?_|refine qC rfl ?_|refine qD ?_|refine qE ?_|refine qF ?_|refine qG ?_|refine qH ?_);try simp (maxSteps:=1000000)(disch:=(first|omega|(simp only [qI,qJ,qK]<;>omega)|exact qL _)) only [go_sem,↓reduceIte,n0,reduceCtorEq,n1,n2,n3,n4,n5,i0,i1,i2,i3,i4,i5,i6,i7])
  exact ⟨hb1,(Upd.alloc (Upd.refl _ _) _ : Ext w _).more hU1 fun b hb h => by omega⟩

theorem SetVersionPushTelemetryRequest_fn (w : World) {vb : Nat} {c0 c1 c2 c3 c4 c5 c6 c7 c8 c9 c10 c11 c12 c13 c14 c15 c16 c17 c18 c19 c20 c21 : Value} (n : Int) (hb : blk w vb = some (#[c0,c1,c2,c3,c4,c5,c6,c7,c8,c9,c10,c11,c12,c13,c14,c15,c16,c17,c18,c19,c20,c21],108,(0,0))) :
    Fn Tryd.prog 63 #[.pointer (some ⟨vb,0,none⟩),.int .i16 n] w fun _ w' => blk w' vb = some (#[.int .i16 n,c1,c2,c3,c4,c5,c6,c7,c8,c9,c10,c11,c12,c13,c14,c15,c16,c17,c18,c19,c20,c21],108,(0,0)) ∧ Upd (fun b => b = vb) w w' := by
  have hvl := blk_lt hb
  refine fn_of_W Tryd.func63 rfl Tryd.results63 Tryd.ntmps63 rfl ?_
  repeat ((first | refine qA rfl ?_|refine qB ?_|refine qC rfl ?_|refine qD ?_|refine qE ?_|refine qF ?_|refine qG ?_|refine qH ?_);try simp (maxSteps:=1000000)(disch:=(first|omega|(simp only [qI,qJ,qK]<;>omega)|exact qL _)) only [go_sem,↓reduceIte,n0,reduceCtorEq,n1,n2,n3,n4,n5,i0,i1,i2,i3,i4,i5,i6,i7,hb])
  first | exact Upd.wr (Upd.refl _ _) _ _ (.inr rfl) | exact ⟨by simp (maxSteps:=1000000)(disch:=(first|omega|(simp only [qI,qJ,qK]<;>omega)|exact qL _)) only [go_sem,↓reduceIte,n0,reduceCtorEq,n1,n2,n3,n4,n5,i0,i1,i2,i3,i4,i5,i6,i7,hb],Upd.wr (Upd.refl _ _) _ _ (.inr rfl)⟩

theorem MaxPushTelemetryRequest_fn (w : World) : Fn Tryd.prog 16 #[] w fun r w' => r = .int .i64 0 ∧ Ext w w' := by
  refine fn_of_W Tryd.func16 rfl Tryd.results16 Tryd.ntmps16 rfl ?_
  repeat ((first | refine qA rfl ?_|refine qB ?_|refine qC rfl ?_|refine qD ?_|refine qE ?_|refine qF ?_|refine qG ?_|refine qH ?_);try simp (maxSteps:=1000000)(disch:=(first|omega|(simp only [qI,qJ,qK]<;>omega)|exact qL _)) only [go_sem,↓reduceIte,n0,reduceCtorEq,n1,n2,n3,n4,n5,i0,i1,i2,i3,i4,i5,i6,i7])
  refine (NewPtrPushTelemetryRequest_fn w).mono ?_
  rintro _ w1 ⟨rfl,hb1,hE1⟩
  repeat ((first | refine qA rfl ?_|refine qB ?_|refine qC rfl ?_|refine qD ?_|refine qE ?_|refine qF ?_|refine qG ?_|refine qH ?_);try simp (maxSteps:=1000000)(disch:=(first|omega|(simp only [qI,qJ,qK]<;>omega)|exact qL _)) only [go_sem,↓reduceIte,n0,reduceCtorEq,n1,n2,n3,n4,n5,i0,i1,i2,i3,i4,i5,i6,i7])
  have hm : Fn Tryd.prog 62 #[.pointer (some ⟨w.heap.size,0,none⟩)] w1 fun r w' => r = .int .i16 0 ∧ w' = w1 := by
    refine fn_of_W Tryd.func62 rfl Tryd.results62 Tryd.ntmps62 rfl ?_
    repeat ((first | refine qA rfl ?_|refine qB ?_|refine qC rfl ?_|refine qD ?_|refine qE ?_|refine qF ?_|refine qG ?_|refine qH ?_);try simp (maxSteps:=1000000)(disch:=(first|omega|(simp only [qI,qJ,qK]<;>omega)|exact qL _)) only [go_sem,↓reduceIte,n0,reduceCtorEq,n1,n2,n3,n4,n5,i0,i1,i2,i3,i4,i5,i6,i7])
  refine hm.mono ?_
  rintro _ w2 ⟨rfl,rfl⟩
  have ew : IntKind.i64.wrap (0 : Int) = 0 := i64_wrap (by decide)
  repeat ((first | refine qA rfl ?_|refine qB ?_|refine qC rfl ?_|refine qD ?_|refine qE ?_|refine qF ?_|refine qG ?_|refine qH ?_);try simp (maxSteps:=1000000)(disch:=(first|omega|(simp only [qI,qJ,qK]<;>omega)|exact qL _)) only [go_sem,↓reduceIte,n0,reduceCtorEq,n1,n2,n3,n4,n5,i0,i1,i2,i3,i4,i5,i6,i7,ew])
  exact hE1
end Ms

namespace Ms
open Nat renaming reduceEqDiff → n0,reduceAdd → n1,reduceMul → n2,reduceSub → n3,reduceLT → n4,reduceLeDiff → n5
open Int renaming reduceEq → i0,reduceLT → i1,reduceLE → i2,reduceNeg → i3,reduceAdd → i4,reduceSub → i5,reduceMul → i6,reduceToNat → i7
set_option maxRecDepth 8000
open Go Go.Proofs Go.Shelf
attribute [local congr] W_congr WPsq_congr WPp_congr optK_congr addrK_congr intK_congr boolK_congr sliceK_congr tupleK_congr funcK_congr Fn_congr rawK_congr takeK_congr stepK_congr convK_congr aggK_congr

end Ms

namespace Ms
open Go.World renaming size_alloc → qI
open Ms renaming size_wr → qJ,size_drew → qK,not_noB → qL
open W renaming seqR → qA,seq → qB,regR → qC,condK → qD,block → qE,skip → qF,ret → qG,exit → qH
open Nat renaming reduceEqDiff → n0,reduceAdd → n1,reduceMul → n2,reduceSub → n3,reduceLT → n4,reduceLeDiff → n5
open Int renaming reduceEq → i0,reduceLT → i1,reduceLE → i2,reduceNeg → i3,reduceAdd → i4,reduceSub → i5,reduceMul → i6,reduceToNat → i7
set_option maxRecDepth 8000
open Go Go.Proofs Go.Shelf
attribute [local congr] W_congr WPsq_congr WPp_congr optK_congr addrK_congr intK_congr boolK_congr sliceK_congr tupleK_congr funcK_congr Fn_congr rawK_congr takeK_congr stepK_congr convK_congr aggK_congr

set_option maxHeartbeats 4000000 in
theorem readPushTelemetryRequest_0b {un : Bool} {d : Nat} {ok : Blocks} {ver : Int} {ev : Value} (hlo : 0 ≤ ver) (hhi : ver ≤ 0) (w : World) {vb : Nat} (src : Value) (s : List UInt8) (hv : blk w vb = some (#[.int .i16 ver,.int .u8 0,.int .u8 0,.int .u8 0,.int .u8 0,.int .u8 0,.int .u8 0,.int .u8 0,.int .u8 0,.int .u8 0,.int .u8 0,.int .u8 0,.int .u8 0,.int .u8 0,.int .u8 0,.int .u8 0,.int .u8 0,.int .i32 0,.bool false,.int .i8 0,.slice none 0 0,.map none],108,(0,0))) (hsrc : BytesV ok w src s) (hok0 : ∀ b,ok b → b < w.heap.size ∧ b ≠ vb) (hG : Glo ev w) (hgv : ¬ 0 = vb ∧ ¬ 1 = vb) :
    Fn Tryd.prog 145 #[.pointer (some ⟨vb,0,none⟩),src,.bool un] w (ReadQ 108 ok ver (d + 1) fs_PushTelemetryRequest vb w (rdP (d + 1) ver true fs_PushTelemetryRequest (some s)) ev) := by
  rcases Bool.eq_false_or_eq_true un with hun | hun
  all_goals
    have hvl := blk_lt hv
    have hgs := hG.lt
    obtain ⟨sa,sc,rfl,_⟩ := hsrc.shape
    refine fn_of_W Tryd.func145 rfl Tryd.results145 Tryd.ntmps145 rfl ?_
    repeat ((first | refine qA rfl ?_|refine qB ?_|refine qC rfl ?_|refine qD ?_|refine qE ?_|refine qF ?_|refine qG ?_|refine qH ?_);try simp (maxSteps:=1000000)(disch:=(first|omega|(simp only [qI,qJ,qK]<;>omega)|exact qL _)) only [go_sem,↓reduceIte,n0,reduceCtorEq,n1,n2,n3,n4,n5,i0,i1,i2,i3,i4,i5,i6,i7,hv])
    refine (DefaultPushTelemetryRequest_fn w hv).mono ?_
    rintro _ w0 ⟨hv0,hu0⟩
    have hz0 := hu0.size
    have hsrc0 : BytesV ok w0 (.slice sa s.length sc) s := hsrc.keep (hu0.keeps fun b _ hk e => (hok0 b hk).2 e)
    obtain ⟨rb,hrb⟩ : ∃ r,r = w0.heap.size := ⟨_,rfl⟩
    have hE1 : Ext w0 (wr (w0.alloc (.cells #[.slice none 0 0,.bool false] 221)) w0.heap.size 0 [.slice sa s.length sc,.bool false]) := (Upd.alloc (Upd.refl _ _) _).wr _ _ (.inl (Nat.le_refl _))
    have hz1 : (wr (w0.alloc (.cells #[.slice none 0 0,.bool false] 221)) w0.heap.size 0 [.slice sa s.length sc,.bool false]).heap.size = w0.heap.size + 1 := by rw [size_wr,World.size_alloc]
    have hR1 : Rdr RT ok (wr (w0.alloc (.cells #[.slice none 0 0,.bool false] 221)) w0.heap.size 0 [.slice sa s.length sc,.bool false]) w0.heap.size (some s) := Rdr.good (v := .slice sa s.length sc) (by simp (maxSteps:=1000000)(disch:=(first|omega|(simp only [qI,qJ,qK]<;>omega)|exact qL _)) only [go_sem,↓reduceIte,n0,reduceCtorEq,n1,n2,n3,n4,n5,i0,i1,i2,i3,i4,i5,i6,i7]) (hsrc0.keep (hE1.keeps _))
    have hv_1 := hE1.blk_some hv0 id
    repeat ((first | refine qA rfl ?_|refine qB ?_|refine qC rfl ?_|refine qD ?_|refine qE ?_|refine qF ?_|refine qG ?_|refine qH ?_);try simp (maxSteps:=1000000)(disch:=(first|omega|(simp only [qI,qJ,qK]<;>omega)|exact qL _)) only [go_sem,↓reduceIte,n0,reduceCtorEq,n1,n2,n3,n4,n5,i0,i1,i2,i3,i4,i5,i6,i7,hv0])
    generalize (wr (w0.alloc (.cells #[.slice none 0 0,.bool false] 221)) w0.heap.size 0 [.slice sa s.length sc,.bool false]) = w1 at *
    rw [← hrb] at hR1
    try rw [← hrb]
    have hok : ∀ b,ok b → b < w.heap.size ∧ b ≠ vb := hok0
    have hrok : ¬ ok rb := fun h => by have := (hok rb h).1;omega
    have hbase : Upd (fun b => b = vb) w w1 := hu0.trans (hE1.mono fun _ h => h.elim)
    have hG1 : Glo ev w1 := hG.updS hbase hgv.1 hgv.2
    have hgrb : ¬ 0 = rb := by omega
    have hgM1 : ¬ (0 = vb ∨ 0 = rb) := fun h => h.elim hgv.1 fun h => by omega
    have hgM2 : ¬ (1 = vb ∨ 1 = rb) := fun h => h.elim hgv.2 fun h => by omega
    obtain ⟨s0,hs0⟩ : ∃ s' : St,s' = some s := ⟨_,rfl⟩
    rw [← hs0] at hR1 ⊢
    have hU1 : Upd (fun b => b = vb ∨ b = rb) w1 w1 := Upd.refl _ _
    have hoM : ∀ b,(ok b ∨ w1.heap.size ≤ b) → ¬ (b = vb ∨ b = rb) := fun b hk h => by
      rcases hk with hk | hk
      · have := hok b hk;rcases h with h | h <;> omega
      · rcases h with h | h <;> omega
    have hq1 : Rdr RT ok w1 rb s0 := hR1
    obtain ⟨FB,hFB⟩ : ∃ P : Prop,P = ((rdP (d + 1) ver true fs_PushTelemetryRequest s0).2 = none) := ⟨_,rfl⟩
    have hb_0 : (rdL (rdP d ver true) (dfP d) ver true [fPushTelemetryRequest_0,fPushTelemetryRequest_1,fPushTelemetryRequest_2,fPushTelemetryRequest_3,fPushTelemetryRequest_4] s0).2 = none → FB := fun h => Eq.mpr hFB (rdP_bad h)
    have hh_0 : hasS fPushTelemetryRequest_0 ver = true := hasS_t (by show (0 : Int) ≤ ver;omega) (by show (-1 : Int) < 0 ∨ ver ≤ (-1 : Int);omega)
    obtain ⟨x_0,hx_0⟩ : ∃ x,x = (rdF (rdP d ver true) ver true fPushTelemetryRequest_0 s0).1 := ⟨_,rfl⟩
    repeat ((first | refine qA rfl ?_|refine qB ?_|refine qC rfl ?_|refine qD ?_|refine qE ?_|refine qF ?_|refine qG ?_|refine qH ?_);try simp (maxSteps:=1000000)(disch:=(first|omega|(simp only [qI,qJ,qK]<;>omega)|exact qL _)) only [go_sem,↓reduceIte,n0,reduceCtorEq,n1,n2,n3,n4,n5,i0,i1,i2,i3,i4,i5,i6,i7,hv_1,hun])
    have hrd : rdF (rdP d ver true) ver true fPushTelemetryRequest_0 s0 = _ := rdF_uuid rfl
    refine (RUuid_fn w1 hq1 hrok).mono ?_
    rintro _ w2 ⟨rfl,hq2,hu2⟩
    have hv_2 := hu2.blk_some hv_1 (by omega)
    have hV2 : Upd (fun b => b = vb ∨ b = rb) w1 w2 := hu2.mono (fun _ h => .inr h)
    have hU2 : Upd (fun b => b = vb ∨ b = rb) w1 w2 := hU1.trans hV2
    have hz2 := hV2.size
    have hG2 : Glo ev w2 := hG1.updS hU2 hgM1 hgM2
    have hst : (rdF (rdP d ver true) ver true fPushTelemetryRequest_0 s0).2 = (rdSpan 16 s0).2 := by first | (rw [hrd];rfl) | rw [hrd]
    obtain ⟨s1,hs1⟩ : ∃ s,s = (rdF (rdP d ver true) ver true fPushTelemetryRequest_0 s0).2 := ⟨_,rfl⟩
    rw [← hst,← hs1] at hq2
    clear hst
    have hl16 : ((uuidS (rdSpan 16 s0).1).map byteV).length = 16 := by rw [List.length_map,uuidS_len]
    have hx16 := flat_bytes (uuidS (rdSpan 16 s0).1)
    have hxe : x_0 = .oct false (uuidS (rdSpan 16 s0).1) := by rw [hx_0,hrd]
    have hxc : (uuidS (x_0).s).map byteV = (uuidS (rdSpan 16 s0).1).map byteV := by rw [hxe];show (uuidS (uuidS _)).map byteV = _;rw [uuidS_idem]
    generalize (uuidS (rdSpan 16 s0).1).map byteV = Xu at *
    obtain ⟨u0_0,u0_1,u0_2,u0_3,u0_4,u0_5,u0_6,u0_7,u0_8,u0_9,u0_10,u0_11,u0_12,u0_13,u0_14,u0_15,rfl⟩ := list16 hl16
    simp only [List.all_cons,List.all_nil,Bool.and_true,Bool.and_eq_true] at hx16
    obtain ⟨fu0_0,fu0_1,fu0_2,fu0_3,fu0_4,fu0_5,fu0_6,fu0_7,fu0_8,fu0_9,fu0_10,fu0_11,fu0_12,fu0_13,fu0_14,fu0_15⟩ := hx16
    have hcz : cellsAt #[u0_0,u0_1,u0_2,u0_3,u0_4,u0_5,u0_6,u0_7,u0_8,u0_9,u0_10,u0_11,u0_12,u0_13,u0_14,u0_15] 0 16 = some (.agg #[u0_0,u0_1,u0_2,u0_3,u0_4,u0_5,u0_6,u0_7,u0_8,u0_9,u0_10,u0_11,u0_12,u0_13,u0_14,u0_15]) := cellsAt_full rfl
    try simp (maxSteps:=1000000)(disch:=(first|omega|(simp only [qI,qJ,qK]<;>omega)|exact qL _)) only [go_sem,↓reduceIte,n0,reduceCtorEq,n1,n2,n3,n4,n5,i0,i1,i2,i3,i4,i5,i6,i7,hv_2,hun,hcz,fu0_0,fu0_1,fu0_2,fu0_3,fu0_4,fu0_5,fu0_6,fu0_7,fu0_8,fu0_9,fu0_10,fu0_11,fu0_12,fu0_13,fu0_14,fu0_15]
    repeat ((first | refine qA rfl ?_|refine qB ?_|refine qC rfl ?_|refine qD ?_|refine qE ?_|refine qF ?_|refine qG ?_|refine qH ?_);try simp (maxSteps:=1000000)(disch:=(first|omega|(simp only [qI,qJ,qK]<;>omega)|exact qL _)) only [go_sem,↓reduceIte,n0,reduceCtorEq,n1,n2,n3,n4,n5,i0,i1,i2,i3,i4,i5,i6,i7,hv_2,hun,hcz,fu0_0,fu0_1,fu0_2,fu0_3,fu0_4,fu0_5,fu0_6,fu0_7,fu0_8,fu0_9,fu0_10,fu0_11,fu0_12,fu0_13,fu0_14,fu0_15])
    have hEu : Ext w2 (wr (w2.alloc (.cells #[.int .u8 0,.int .u8 0,.int .u8 0,.int .u8 0,.int .u8 0,.int .u8 0,.int .u8 0,.int .u8 0,.int .u8 0,.int .u8 0,.int .u8 0,.int .u8 0,.int .u8 0,.int .u8 0,.int .u8 0,.int .u8 0] 102)) w2.heap.size 0 [u0_0,u0_1,u0_2,u0_3,u0_4,u0_5,u0_6,u0_7,u0_8,u0_9,u0_10,u0_11,u0_12,u0_13,u0_14,u0_15]) := (Upd.alloc (Upd.refl _ _) _).wr _ _ (.inl (Nat.le_refl _))
    have hq3 := And.intro (hq2.1.upd hEu (fun h => h) (fun _ _ _ h => h)) (hq2.2.upd hEu fun h => h)
    have hu3 : Upd (fun b => b = rb) w2 (wr (w2.alloc (.cells #[.int .u8 0,.int .u8 0,.int .u8 0,.int .u8 0,.int .u8 0,.int .u8 0,.int .u8 0,.int .u8 0,.int .u8 0,.int .u8 0,.int .u8 0,.int .u8 0,.int .u8 0,.int .u8 0,.int .u8 0,.int .u8 0] 102)) w2.heap.size 0 [u0_0,u0_1,u0_2,u0_3,u0_4,u0_5,u0_6,u0_7,u0_8,u0_9,u0_10,u0_11,u0_12,u0_13,u0_14,u0_15]) := hEu.mono fun _ h => h.elim
    clear hEu
    generalize (wr (w2.alloc (.cells #[.int .u8 0,.int .u8 0,.int .u8 0,.int .u8 0,.int .u8 0,.int .u8 0,.int .u8 0,.int .u8 0,.int .u8 0,.int .u8 0,.int .u8 0,.int .u8 0,.int .u8 0,.int .u8 0,.int .u8 0,.int .u8 0] 102)) w2.heap.size 0 [u0_0,u0_1,u0_2,u0_3,u0_4,u0_5,u0_6,u0_7,u0_8,u0_9,u0_10,u0_11,u0_12,u0_13,u0_14,u0_15]) = w3 at *
    have hv_3 := hu3.blk_some hv_2 (by omega)
    have hV3 : Upd (fun b => b = vb ∨ b = rb) w2 w3 := hu3.mono (fun _ h => .inr h)
    have hU3 : Upd (fun b => b = vb ∨ b = rb) w1 w3 := hU2.trans hV3
    have hz3 := hV3.size
    have hG3 : Glo ev w3 := hG1.updS hU3 hgM1 hgM2
    generalize hw4 : wr w3 vb 1 [u0_0,u0_1,u0_2,u0_3,u0_4,u0_5,u0_6,u0_7,u0_8,u0_9,u0_10,u0_11,u0_12,u0_13,u0_14,u0_15] = w4
    have hS4 : Upd (fun b => b = vb ∨ b = rb) w3 w4 := by rw [← hw4];exact (Upd.refl _ _).wr _ _ (.inr (.inl rfl))
    have hv_4 : blk w4 vb = some (#[.int .i16 ver,u0_0,u0_1,u0_2,u0_3,u0_4,u0_5,u0_6,u0_7,u0_8,u0_9,u0_10,u0_11,u0_12,u0_13,u0_14,u0_15,.int .i32 0,.bool false,.int .i8 0,.slice none 0 0,.map none],108,(0,0)) := by rw [← hw4,blk_wr_eq,hv_3];simp only [Option.map_some,wrArr_cons,wrArr_nil,List.setIfInBounds_toArray,List.set_cons_zero,List.set_cons_succ,Nat.reduceAdd]
    have hV4 := hS4
    have hU4 : Upd (fun b => b = vb ∨ b = rb) w1 w4 := hU3.trans hV4
    have hz4 := hV4.size
    have hG4 : Glo ev w4 := hG1.updS hU4 hgM1 hgM2
    have hq4 : Rdr RT ok w4 rb s1 ∧ NN w4 rb s1 := by
      have hn : ∀ x,x = w4 → (Rdr RT ok x rb s1 ∧ NN x rb s1) := fun x hx => by
        rw [hx,← hw4]
        exact Rdr.store hq3 (by omega) (fun h => by have := (hok _ h).1;first | omega | exact (hok _ h).2 rfl)
      exact hn _ rfl
    clear hw4
    have hf_0 : RepF (RepS true d) (szS true d) fPushTelemetryRequest_0 (fun b => ok b ∨ w1.heap.size ≤ b) w4 (x_0) [u0_0,u0_1,u0_2,u0_3,u0_4,u0_5,u0_6,u0_7,u0_8,u0_9,u0_10,u0_11,u0_12,u0_13,u0_14,u0_15] := (RepF_uuid rfl).2 hxc.symm
    clear hrd
    have hb_1 : (rdL (rdP d ver true) (dfP d) ver true [fPushTelemetryRequest_1,fPushTelemetryRequest_2,fPushTelemetryRequest_3,fPushTelemetryRequest_4] s1).2 = none → FB := fun h => hb_0 (by rw [rdL_st (by decide) hh_0,← hs1];exact h)
    have hh_1 : hasS fPushTelemetryRequest_1 ver = true := hasS_t (by show (0 : Int) ≤ ver;omega) (by show (-1 : Int) < 0 ∨ ver ≤ (-1 : Int);omega)
    obtain ⟨x_1,hx_1⟩ : ∃ x,x = (rdF (rdP d ver true) ver true fPushTelemetryRequest_1 s1).1 := ⟨_,rfl⟩
    repeat ((first | refine qA rfl ?_|refine qB ?_|refine qC rfl ?_|refine qD ?_|refine qE ?_|refine qF ?_|refine qG ?_|refine qH ?_);try simp (maxSteps:=1000000)(disch:=(first|omega|(simp only [qI,qJ,qK]<;>omega)|exact qL _)) only [go_sem,↓reduceIte,n0,reduceCtorEq,n1,n2,n3,n4,n5,i0,i1,i2,i3,i4,i5,i6,i7,hv_4,hun])
    have hrd : rdF (rdP d ver true) ver true fPushTelemetryRequest_1 s1 = _ := rdF_num 3 rfl (by decide)
    refine (Int32_fn w4 hq4.1 hrok hG4.1 hgrb).mono ?_
    rintro _ w5 ⟨rfl,hq5,hu5⟩
    have hv_5 := hu5.blk_some hv_4 (by omega)
    have hV5 : Upd (fun b => b = vb ∨ b = rb) w4 w5 := hu5.mono (fun _ h => .inr h)
    have hU5 : Upd (fun b => b = vb ∨ b = rb) w1 w5 := hU4.trans hV5
    have hz5 := hV5.size
    have hG5 : Glo ev w5 := hG1.updS hU5 hgM1 hgM2
    have hst : (rdF (rdP d ver true) ver true fPushTelemetryRequest_1 s1).2 = (rdInt .i32 4 s1).2 := by first | (rw [hrd];rfl) | rw [hrd]
    obtain ⟨s2,hs2⟩ : ∃ s,s = (rdF (rdP d ver true) ver true fPushTelemetryRequest_1 s1).2 := ⟨_,rfl⟩
    rw [← hst,← hs2] at hq5
    clear hst
    repeat ((first | refine qA rfl ?_|refine qB ?_|refine qC rfl ?_|refine qD ?_|refine qE ?_|refine qF ?_|refine qG ?_|refine qH ?_);try simp (maxSteps:=1000000)(disch:=(first|omega|(simp only [qI,qJ,qK]<;>omega)|exact qL _)) only [go_sem,↓reduceIte,n0,reduceCtorEq,n1,n2,n3,n4,n5,i0,i1,i2,i3,i4,i5,i6,i7,hv_5,hun])
    generalize hw6 : wr w5 vb 17 [.int .i32 (rdInt .i32 4 s1).1] = w6
    have hS6 : Upd (fun b => b = vb ∨ b = rb) w5 w6 := by rw [← hw6];exact (Upd.refl _ _).wr _ _ (.inr (.inl rfl))
    have hv_6 : blk w6 vb = some (#[.int .i16 ver,u0_0,u0_1,u0_2,u0_3,u0_4,u0_5,u0_6,u0_7,u0_8,u0_9,u0_10,u0_11,u0_12,u0_13,u0_14,u0_15,.int .i32 (rdInt .i32 4 s1).1,.bool false,.int .i8 0,.slice none 0 0,.map none],108,(0,0)) := by rw [← hw6,blk_wr_eq,hv_5];rfl
    have hV6 := hS6
    have hU6 : Upd (fun b => b = vb ∨ b = rb) w1 w6 := hU5.trans hV6
    have hz6 := hV6.size
    have hG6 : Glo ev w6 := hG1.updS hU6 hgM1 hgM2
    have hq6 : Rdr RT ok w6 rb s2 ∧ NN w6 rb s2 := by
      have hn : ∀ x,x = w6 → (Rdr RT ok x rb s2 ∧ NN x rb s2) := fun x hx => by
        rw [hx,← hw6]
        exact Rdr.store hq5 (by omega) (fun h => by have := (hok _ h).1;first | omega | exact (hok _ h).2 rfl)
      exact hn _ rfl
    clear hw6
    have hf_1 : RepF (RepS true d) (szS true d) fPushTelemetryRequest_1 (fun b => ok b ∨ w1.heap.size ≤ b) w6 (x_1) [.int .i32 (rdInt .i32 4 s1).1] := (RepF_num (by decide)).2 (by rw [hx_1,hrd];exact congrArg (fun x => [x]) (numC_rd 3 (by decide) 4 s1).symm)
    clear hrd
    have hb_2 : (rdL (rdP d ver true) (dfP d) ver true [fPushTelemetryRequest_2,fPushTelemetryRequest_3,fPushTelemetryRequest_4] s2).2 = none → FB := fun h => hb_1 (by rw [rdL_st (by decide) hh_1,← hs2];exact h)
    have hh_2 : hasS fPushTelemetryRequest_2 ver = true := hasS_t (by show (0 : Int) ≤ ver;omega) (by show (-1 : Int) < 0 ∨ ver ≤ (-1 : Int);omega)
    obtain ⟨x_2,hx_2⟩ : ∃ x,x = (rdF (rdP d ver true) ver true fPushTelemetryRequest_2 s2).1 := ⟨_,rfl⟩
    repeat ((first | refine qA rfl ?_|refine qB ?_|refine qC rfl ?_|refine qD ?_|refine qE ?_|refine qF ?_|refine qG ?_|refine qH ?_);try simp (maxSteps:=1000000)(disch:=(first|omega|(simp only [qI,qJ,qK]<;>omega)|exact qL _)) only [go_sem,↓reduceIte,n0,reduceCtorEq,n1,n2,n3,n4,n5,i0,i1,i2,i3,i4,i5,i6,i7,hv_6,hun])
    have hrd : rdF (rdP d ver true) ver true fPushTelemetryRequest_2 s2 = _ := rdF_bool rfl
    refine (Bool_fn w6 hq6.1 hrok).mono ?_
    rintro _ w7 ⟨rfl,hq7,hu7⟩
    have hv_7 := hu7.blk_some hv_6 (by omega)
    have hV7 : Upd (fun b => b = vb ∨ b = rb) w6 w7 := hu7.mono (fun _ h => .inr h)
    have hU7 : Upd (fun b => b = vb ∨ b = rb) w1 w7 := hU6.trans hV7
    have hz7 := hV7.size
    have hG7 : Glo ev w7 := hG1.updS hU7 hgM1 hgM2
    have hst : (rdF (rdP d ver true) ver true fPushTelemetryRequest_2 s2).2 = (rdN 1 s2).2 := by first | (rw [hrd];rfl) | rw [hrd]
    obtain ⟨s3,hs3⟩ : ∃ s,s = (rdF (rdP d ver true) ver true fPushTelemetryRequest_2 s2).2 := ⟨_,rfl⟩
    rw [← hst,← hs3] at hq7
    clear hst
    repeat ((first | refine qA rfl ?_|refine qB ?_|refine qC rfl ?_|refine qD ?_|refine qE ?_|refine qF ?_|refine qG ?_|refine qH ?_);try simp (maxSteps:=1000000)(disch:=(first|omega|(simp only [qI,qJ,qK]<;>omega)|exact qL _)) only [go_sem,↓reduceIte,n0,reduceCtorEq,n1,n2,n3,n4,n5,i0,i1,i2,i3,i4,i5,i6,i7,hv_7,hun])
    generalize hw8 : wr w7 vb 18 [.bool (!decide (beN (rdN 1 s2).1 = 0))] = w8
    have hS8 : Upd (fun b => b = vb ∨ b = rb) w7 w8 := by rw [← hw8];exact (Upd.refl _ _).wr _ _ (.inr (.inl rfl))
    have hv_8 : blk w8 vb = some (#[.int .i16 ver,u0_0,u0_1,u0_2,u0_3,u0_4,u0_5,u0_6,u0_7,u0_8,u0_9,u0_10,u0_11,u0_12,u0_13,u0_14,u0_15,.int .i32 (rdInt .i32 4 s1).1,.bool (!decide (beN (rdN 1 s2).1 = 0)),.int .i8 0,.slice none 0 0,.map none],108,(0,0)) := by rw [← hw8,blk_wr_eq,hv_7];rfl
    have hV8 := hS8
    have hU8 : Upd (fun b => b = vb ∨ b = rb) w1 w8 := hU7.trans hV8
    have hz8 := hV8.size
    have hG8 : Glo ev w8 := hG1.updS hU8 hgM1 hgM2
    have hq8 : Rdr RT ok w8 rb s3 ∧ NN w8 rb s3 := by
      have hn : ∀ x,x = w8 → (Rdr RT ok x rb s3 ∧ NN x rb s3) := fun x hx => by
        rw [hx,← hw8]
        exact Rdr.store hq7 (by omega) (fun h => by have := (hok _ h).1;first | omega | exact (hok _ h).2 rfl)
      exact hn _ rfl
    clear hw8
    have hf_2 : RepF (RepS true d) (szS true d) fPushTelemetryRequest_2 (fun b => ok b ∨ w1.heap.size ≤ b) w8 (x_2) [.bool (!decide (beN (rdN 1 s2).1 = 0))] := (RepF_num (by decide)).2 (by rw [hx_2,hrd];exact congrArg (fun x => [x]) (numC_bool _).symm)
    clear hrd
    have hb_3 : (rdL (rdP d ver true) (dfP d) ver true [fPushTelemetryRequest_3,fPushTelemetryRequest_4] s3).2 = none → FB := fun h => hb_2 (by rw [rdL_st (by decide) hh_2,← hs3];exact h)
    have hh_3 : hasS fPushTelemetryRequest_3 ver = true := hasS_t (by show (0 : Int) ≤ ver;omega) (by show (-1 : Int) < 0 ∨ ver ≤ (-1 : Int);omega)
    obtain ⟨x_3,hx_3⟩ : ∃ x,x = (rdF (rdP d ver true) ver true fPushTelemetryRequest_3 s3).1 := ⟨_,rfl⟩
    repeat ((first | refine qA rfl ?_|refine qB ?_|refine qC rfl ?_|refine qD ?_|refine qE ?_|refine qF ?_|refine qG ?_|refine qH ?_);try simp (maxSteps:=1000000)(disch:=(first|omega|(simp only [qI,qJ,qK]<;>omega)|exact qL _)) only [go_sem,↓reduceIte,n0,reduceCtorEq,n1,n2,n3,n4,n5,i0,i1,i2,i3,i4,i5,i6,i7,hv_8,hun])
    have hrd : rdF (rdP d ver true) ver true fPushTelemetryRequest_3 s3 = _ := rdF_num 1 rfl (by decide)
    refine (Int8_fn w8 hq8.1 hrok).mono ?_
    rintro _ w9 ⟨rfl,hq9,hu9⟩
    have hv_9 := hu9.blk_some hv_8 (by omega)
    have hV9 : Upd (fun b => b = vb ∨ b = rb) w8 w9 := hu9.mono (fun _ h => .inr h)
    have hU9 : Upd (fun b => b = vb ∨ b = rb) w1 w9 := hU8.trans hV9
    have hz9 := hV9.size
    have hG9 : Glo ev w9 := hG1.updS hU9 hgM1 hgM2
    have hst : (rdF (rdP d ver true) ver true fPushTelemetryRequest_3 s3).2 = (rdInt .i8 1 s3).2 := by first | (rw [hrd];rfl) | rw [hrd]
    obtain ⟨s4,hs4⟩ : ∃ s,s = (rdF (rdP d ver true) ver true fPushTelemetryRequest_3 s3).2 := ⟨_,rfl⟩
    rw [← hst,← hs4] at hq9
    clear hst
    repeat ((first | refine qA rfl ?_|refine qB ?_|refine qC rfl ?_|refine qD ?_|refine qE ?_|refine qF ?_|refine qG ?_|refine qH ?_);try simp (maxSteps:=1000000)(disch:=(first|omega|(simp only [qI,qJ,qK]<;>omega)|exact qL _)) only [go_sem,↓reduceIte,n0,reduceCtorEq,n1,n2,n3,n4,n5,i0,i1,i2,i3,i4,i5,i6,i7,hv_9,hun])
    generalize hw10 : wr w9 vb 19 [.int .i8 (rdInt .i8 1 s3).1] = w10
    have hS10 : Upd (fun b => b = vb ∨ b = rb) w9 w10 := by rw [← hw10];exact (Upd.refl _ _).wr _ _ (.inr (.inl rfl))
    have hv_10 : blk w10 vb = some (#[.int .i16 ver,u0_0,u0_1,u0_2,u0_3,u0_4,u0_5,u0_6,u0_7,u0_8,u0_9,u0_10,u0_11,u0_12,u0_13,u0_14,u0_15,.int .i32 (rdInt .i32 4 s1).1,.bool (!decide (beN (rdN 1 s2).1 = 0)),.int .i8 (rdInt .i8 1 s3).1,.slice none 0 0,.map none],108,(0,0)) := by rw [← hw10,blk_wr_eq,hv_9];rfl
    have hV10 := hS10
    have hU10 : Upd (fun b => b = vb ∨ b = rb) w1 w10 := hU9.trans hV10
    have hz10 := hV10.size
    have hG10 : Glo ev w10 := hG1.updS hU10 hgM1 hgM2
    have hq10 : Rdr RT ok w10 rb s4 ∧ NN w10 rb s4 := by
      have hn : ∀ x,x = w10 → (Rdr RT ok x rb s4 ∧ NN x rb s4) := fun x hx => by
        rw [hx,← hw10]
        exact Rdr.store hq9 (by omega) (fun h => by have := (hok _ h).1;first | omega | exact (hok _ h).2 rfl)
      exact hn _ rfl
    clear hw10
    have hf_3 : RepF (RepS true d) (szS true d) fPushTelemetryRequest_3 (fun b => ok b ∨ w1.heap.size ≤ b) w10 (x_3) [.int .i8 (rdInt .i8 1 s3).1] := (RepF_num (by decide)).2 (by rw [hx_3,hrd];exact congrArg (fun x => [x]) (numC_rd 1 (by decide) 1 s3).symm)
    clear hrd
    have hb_4 : (rdL (rdP d ver true) (dfP d) ver true [fPushTelemetryRequest_4] s4).2 = none → FB := fun h => hb_3 (by rw [rdL_st (by decide) hh_3,← hs4];exact h)
    have hh_4 : hasS fPushTelemetryRequest_4 ver = true := hasS_t (by show (0 : Int) ≤ ver;omega) (by show (-1 : Int) < 0 ∨ ver ≤ (-1 : Int);omega)
    obtain ⟨x_4,hx_4⟩ : ∃ x,x = (rdF (rdP d ver true) ver true fPushTelemetryRequest_4 s4).1 := ⟨_,rfl⟩
    repeat ((first | refine qA rfl ?_|refine qB ?_|refine qC rfl ?_|refine qD ?_|refine qE ?_|refine qF ?_|refine qG ?_|refine qH ?_);try simp (maxSteps:=1000000)(disch:=(first|omega|(simp only [qI,qJ,qK]<;>omega)|exact qL _)) only [go_sem,↓reduceIte,n0,reduceCtorEq,n1,n2,n3,n4,n5,i0,i1,i2,i3,i4,i5,i6,i7,hv_10,hun])
    have hmay : mayS fPushTelemetryRequest_4 ver = false := mayS_no (by show (-1 : Int) < 0 ∨ ver < (-1 : Int);omega)
    have hrd : rdF (rdP d ver true) ver true fPushTelemetryRequest_4 s4 = _ := rdF_oct rfl hmay
    refine (RCompactBytes_fn w10 hq10.1 hrok hG10.1 hgrb).mono ?_
    rintro r11 w11 ⟨hp11,hq11,hu11⟩
    obtain ⟨ao11,no11,co11,rfl⟩ := hp11.shape
    have hv_11 := hu11.blk_some hv_10 (by omega)
    have hV11 : Upd (fun b => b = vb ∨ b = rb) w10 w11 := hu11.mono (fun _ h => .inr h)
    have hU11 : Upd (fun b => b = vb ∨ b = rb) w1 w11 := hU10.trans hV11
    have hz11 := hV11.size
    have hG11 : Glo ev w11 := hG1.updS hU11 hgM1 hgM2
    have hst : (rdF (rdP d ver true) ver true fPushTelemetryRequest_4 s4).2 = (rdBytes true s4).2 := by first | (rw [hrd];rfl) | rw [hrd]
    obtain ⟨s5,hs5⟩ : ∃ s,s = (rdF (rdP d ver true) ver true fPushTelemetryRequest_4 s4).2 := ⟨_,rfl⟩
    rw [← hst,← hs5] at hq11
    clear hst
    repeat ((first | refine qA rfl ?_|refine qB ?_|refine qC rfl ?_|refine qD ?_|refine qE ?_|refine qF ?_|refine qG ?_|refine qH ?_);try simp (maxSteps:=1000000)(disch:=(first|omega|(simp only [qI,qJ,qK]<;>omega)|exact qL _)) only [go_sem,↓reduceIte,n0,reduceCtorEq,n1,n2,n3,n4,n5,i0,i1,i2,i3,i4,i5,i6,i7,hv_11,hun])
    generalize hw12 : wr w11 vb 20 [.slice ao11 no11 co11] = w12
    have hS12 : Upd (fun b => b = vb ∨ b = rb) w11 w12 := by rw [← hw12];exact (Upd.refl _ _).wr _ _ (.inr (.inl rfl))
    have hv_12 : blk w12 vb = some (#[.int .i16 ver,u0_0,u0_1,u0_2,u0_3,u0_4,u0_5,u0_6,u0_7,u0_8,u0_9,u0_10,u0_11,u0_12,u0_13,u0_14,u0_15,.int .i32 (rdInt .i32 4 s1).1,.bool (!decide (beN (rdN 1 s2).1 = 0)),.int .i8 (rdInt .i8 1 s3).1,.slice ao11 no11 co11,.map none],108,(0,0)) := by rw [← hw12,blk_wr_eq,hv_11];rfl
    have hV12 := hS12
    have hU12 : Upd (fun b => b = vb ∨ b = rb) w1 w12 := hU11.trans hV12
    have hz12 := hV12.size
    have hG12 : Glo ev w12 := hG1.updS hU12 hgM1 hgM2
    have hq12 : Rdr RT ok w12 rb s5 ∧ NN w12 rb s5 := by
      have hn : ∀ x,x = w12 → (Rdr RT ok x rb s5 ∧ NN x rb s5) := fun x hx => by
        rw [hx,← hw12]
        exact Rdr.store hq11 (by omega) (fun h => by have := (hok _ h).1;first | omega | exact (hok _ h).2 rfl)
      exact hn _ rfl
    clear hw12
    have hf_4 : RepF (RepS true d) (szS true d) fPushTelemetryRequest_4 (fun b => ok b ∨ w1.heap.size ≤ b) w12 (x_4) [.slice ao11 no11 co11] := (RepF_bytes rfl).2 ⟨_,rfl,by rw [hx_4,hrd];exact (hp11.weaken fun b _ hk => .inl hk).keep (hV12.keeps fun b _ hk e => (hoM b hk) e)⟩
    clear hrd
    have hl_5 : rdL (rdP d ver true) (dfP d) ver true [] s5 = ([],s5) := rfl
    have hl_4 : rdL (rdP d ver true) (dfP d) ver true [fPushTelemetryRequest_4] s4 = ([x_4],s5) := by rw [rdL_st (by decide) hh_4,← hx_4,← hs5,hl_5]
    have hl_3 : rdL (rdP d ver true) (dfP d) ver true [fPushTelemetryRequest_3,fPushTelemetryRequest_4] s3 = ([x_3,x_4],s5) := by rw [rdL_st (by decide) hh_3,← hx_3,← hs4,hl_4]
    have hl_2 : rdL (rdP d ver true) (dfP d) ver true [fPushTelemetryRequest_2,fPushTelemetryRequest_3,fPushTelemetryRequest_4] s2 = ([x_2,x_3,x_4],s5) := by rw [rdL_st (by decide) hh_2,← hx_2,← hs3,hl_3]
    have hl_1 : rdL (rdP d ver true) (dfP d) ver true [fPushTelemetryRequest_1,fPushTelemetryRequest_2,fPushTelemetryRequest_3,fPushTelemetryRequest_4] s1 = ([x_1,x_2,x_3,x_4],s5) := by rw [rdL_st (by decide) hh_1,← hx_1,← hs2,hl_2]
    have hl_0 : rdL (rdP d ver true) (dfP d) ver true [fPushTelemetryRequest_0,fPushTelemetryRequest_1,fPushTelemetryRequest_2,fPushTelemetryRequest_3,fPushTelemetryRequest_4] s0 = ([x_0,x_1,x_2,x_3,x_4],s5) := by rw [rdL_st (by decide) hh_0,← hx_0,← hs1,hl_1]
    have hfin : rdP (d + 1) ver true fs_PushTelemetryRequest s0 = (.mk 0 [] false [x_0,x_1,x_2,x_3,x_4] (rdTags s5).1,(rdTags s5).2) := rdP_t hl_0
    repeat ((first | refine qA rfl ?_|refine qB ?_|refine qC rfl ?_|refine qD ?_|refine qE ?_|refine qF ?_|refine qG ?_|refine qH ?_);try simp (maxSteps:=1000000)(disch:=(first|omega|(simp only [qI,qJ,qK]<;>omega)|exact qL _)) only [go_sem,↓reduceIte,n0,reduceCtorEq,n1,n2,n3,n4,n5,i0,i1,i2,i3,i4,i5,i6,i7,hv_12,hun])
    refine (ReadTags_fn w12 hq12.1 hrok).mono ?_
    rintro _ w13 ⟨qm,rfl,hT13,hTn,hq13,hu13⟩
    have hv_13 := hu13.blk_some hv_12 (by omega)
    have hV13 : Upd (fun b => b = vb ∨ b = rb) w12 w13 := hu13.mono (fun _ h => .inr h)
    have hU13 : Upd (fun b => b = vb ∨ b = rb) w1 w13 := hU12.trans hV13
    have hz13 := hV13.size
    have hG13 : Glo ev w13 := hG1.updS hU13 hgM1 hgM2
    obtain ⟨s6,hs6⟩ : ∃ s,s = (rdTags s5).2 := ⟨_,rfl⟩
    rw [← hs6] at hq13 hfin
    try simp (maxSteps:=1000000)(disch:=(first|omega|(simp only [qI,qJ,qK]<;>omega)|exact qL _)) only [go_sem,↓reduceIte,n0,reduceCtorEq,n1,n2,n3,n4,n5,i0,i1,i2,i3,i4,i5,i6,i7,hv_13,hun]
    repeat ((first | refine qA rfl ?_|refine qB ?_|refine qC rfl ?_|refine qD ?_|refine qE ?_|refine qF ?_|refine qG ?_|refine qH ?_);try simp (maxSteps:=1000000)(disch:=(first|omega|(simp only [qI,qJ,qK]<;>omega)|exact qL _)) only [go_sem,↓reduceIte,n0,reduceCtorEq,n1,n2,n3,n4,n5,i0,i1,i2,i3,i4,i5,i6,i7,hv_13,hun])
    generalize hw14 : wr w13 vb 21 [.map qm] = w14
    have hS14 : Upd (fun b => b = vb ∨ b = rb) w13 w14 := by rw [← hw14];exact (Upd.refl _ _).wr _ _ (.inr (.inl rfl))
    have hv_14 : blk w14 vb = some (#[.int .i16 ver,u0_0,u0_1,u0_2,u0_3,u0_4,u0_5,u0_6,u0_7,u0_8,u0_9,u0_10,u0_11,u0_12,u0_13,u0_14,u0_15,.int .i32 (rdInt .i32 4 s1).1,.bool (!decide (beN (rdN 1 s2).1 = 0)),.int .i8 (rdInt .i8 1 s3).1,.slice ao11 no11 co11,.map qm],108,(0,0)) := by rw [← hw14,blk_wr_eq,hv_13];rfl
    have hV14 := hS14
    have hU14 : Upd (fun b => b = vb ∨ b = rb) w1 w14 := hU13.trans hV14
    have hz14 := hV14.size
    have hG14 : Glo ev w14 := hG1.updS hU14 hgM1 hgM2
    have hq14 : Rdr RT ok w14 rb s6 ∧ NN w14 rb s6 := by
      have hn : ∀ x,x = w14 → (Rdr RT ok x rb s6 ∧ NN x rb s6) := fun x hx => by
        rw [hx,← hw14]
        exact Rdr.store hq13 (by omega) (fun h => by have := (hok _ h).1;first | omega | exact (hok _ h).2 rfl)
      exact hn _ rfl
    clear hw14
    have hTg : TagsM (fun b => ok b ∨ w1.heap.size ≤ b) w14 (.map qm) (rdTags s5).1 := (hT13.weaken fun b _ hk => hk.elim (fun hk => .inl hk) (fun h => by have h' : w12.heap.size ≤ b := h;exact .inr (by omega))).keep (hV14.keeps fun b _ hk e => (hoM b hk) e)
    have hC_14 : Upd (fun b => b = vb ∨ b = rb) w14 w14 := Upd.refl _ _
    have hC_13 : Upd (fun b => b = vb ∨ b = rb) w13 w14 := hV14.trans hC_14
    have hC_12 : Upd (fun b => b = vb ∨ b = rb) w12 w14 := hV13.trans hC_13
    have hC_11 : Upd (fun b => b = vb ∨ b = rb) w11 w14 := hV12.trans hC_12
    have hC_10 : Upd (fun b => b = vb ∨ b = rb) w10 w14 := hV11.trans hC_11
    have hC_9 : Upd (fun b => b = vb ∨ b = rb) w9 w14 := hV10.trans hC_10
    have hC_8 : Upd (fun b => b = vb ∨ b = rb) w8 w14 := hV9.trans hC_9
    have hC_7 : Upd (fun b => b = vb ∨ b = rb) w7 w14 := hV8.trans hC_8
    have hC_6 : Upd (fun b => b = vb ∨ b = rb) w6 w14 := hV7.trans hC_7
    have hC_5 : Upd (fun b => b = vb ∨ b = rb) w5 w14 := hV6.trans hC_6
    have hC_4 : Upd (fun b => b = vb ∨ b = rb) w4 w14 := hV5.trans hC_5
    have hC_3 : Upd (fun b => b = vb ∨ b = rb) w3 w14 := hV4.trans hC_4
    have hC_2 : Upd (fun b => b = vb ∨ b = rb) w2 w14 := hV3.trans hC_3
    have hC_1 : Upd (fun b => b = vb ∨ b = rb) w1 w14 := hV2.trans hC_2
    have hR : RepS true (d + 1) fs_PushTelemetryRequest (fun b => ok b ∨ w1.heap.size ≤ b) w14 (.mk 0 [] false [x_0,x_1,x_2,x_3,x_4] (rdTags s5).1) [u0_0,u0_1,u0_2,u0_3,u0_4,u0_5,u0_6,u0_7,u0_8,u0_9,u0_10,u0_11,u0_12,u0_13,u0_14,u0_15,.int .i32 (rdInt .i32 4 s1).1,.bool (!decide (beN (rdN 1 s2).1 = 0)),.int .i8 (rdInt .i8 1 s3).1,.slice ao11 no11 co11,.map qm] := RepS.introT (c := [u0_0,u0_1,u0_2,u0_3,u0_4,u0_5,u0_6,u0_7,u0_8,u0_9,u0_10,u0_11,u0_12,u0_13,u0_14,u0_15,.int .i32 (rdInt .i32 4 s1).1,.bool (!decide (beN (rdN 1 s2).1 = 0)),.int .i8 (rdInt .i8 1 s3).1,.slice ao11 no11 co11]) (RepL.cons16 (hf_0.keepS (hC_4.keeps fun b _ hk e => (hoM b hk) e)) (RepL.cons1 (hf_1.keepS (hC_6.keeps fun b _ hk e => (hoM b hk) e)) (RepL.cons1 (hf_2.keepS (hC_8.keeps fun b _ hk e => (hoM b hk) e)) (RepL.cons1 (hf_3.keepS (hC_10.keeps fun b _ hk e => (hoM b hk) e)) (RepL.cons1 (hf_4.keepS (hC_12.keeps fun b _ hk e => (hoM b hk) e)) RepL.nil))))) hTg
    repeat ((first | refine qA rfl ?_|refine qB ?_|refine qC rfl ?_|refine qD ?_|refine qE ?_|refine qF ?_|refine qG ?_|refine qH ?_);try simp (maxSteps:=1000000)(disch:=(first|omega|(simp only [qI,qJ,qK]<;>omega)|exact qL _)) only [go_sem,↓reduceIte,n0,reduceCtorEq,n1,n2,n3,n4,n5,i0,i1,i2,i3,i4,i5,i6,i7,hv_14,hun])
    refine (RComplete_fn w14 hq14.1 hG14.2).mono ?_
    rintro _ wz ⟨rfl,hez⟩
    rw [hez]
    repeat ((first | refine qA rfl ?_|refine qB ?_|refine qC rfl ?_|refine qD ?_|refine qE ?_|refine qF ?_|refine qG ?_|refine qH ?_);try simp (maxSteps:=1000000)(disch:=(first|omega|(simp only [qI,qJ,qK]<;>omega)|exact qL _)) only [go_sem,↓reduceIte,n0,reduceCtorEq,n1,n2,n3,n4,n5,i0,i1,i2,i3,i4,i5,i6,i7,hv_14,hun])
    rw [hfin]
    refine ⟨fun h => ?_,fun h => ⟨?_,[u0_0,u0_1,u0_2,u0_3,u0_4,u0_5,u0_6,u0_7,u0_8,u0_9,u0_10,u0_11,u0_12,u0_13,u0_14,u0_15,.int .i32 (rdInt .i32 4 s1).1,.bool (!decide (beN (rdN 1 s2).1 = 0)),.int .i8 (rdInt .i8 1 s3).1,.slice ao11 no11 co11,.map qm],hv_14,?_⟩,?_⟩
    · have h' : s6 = none := h
      rw [h'];rfl
    · cases hsn : s6 with
      | none => exact absurd hsn h
      | some x => rfl
    · exact (RepS_lay true (d + 1) fs_PushTelemetryRequest).weaken hR fun b _ hk => hk.imp id fun h => by omega
    · exact hbase.trans' hU14 fun i hi h => h.elim id fun h => by omega
end Ms

namespace Ms
def flexB (flex ver : Int) : Bool := decide (0 ≤ flex) && decide (flex ≤ ver)
end Ms

namespace Ms
open Go.World renaming size_alloc → qI
open Ms renaming size_wr → qJ,size_drew → qK,not_noB → qL
open W renaming seqR → qA,seq → qB,regR → qC,condK → qD,block → qE,skip → qF,ret → qG,exit → qH
open Nat renaming reduceEqDiff → n0,reduceAdd → n1,reduceMul → n2,reduceSub → n3,reduceLT → n4,reduceLeDiff → n5
open Int renaming reduceEq → i0,reduceLT → i1,reduceLE → i2,reduceNeg → i3,reduceAdd → i4,reduceSub → i5,reduceMul → i6,reduceToNat → i7
set_option maxRecDepth 8000
open Go Go.Proofs Go.Shelf
attribute [local congr] W_congr WPsq_congr WPp_congr optK_congr addrK_congr intK_congr boolK_congr sliceK_congr tupleK_congr funcK_congr Fn_congr rawK_congr takeK_congr stepK_congr convK_congr aggK_congr

theorem ReadFromPushTelemetryRequest_fn {d : Nat} {ok : Blocks} {ver : Int} {ev : Value} (hlo : 0 ≤ ver) (hhi : ver ≤ 0) (w : World) {vb : Nat} (src : Value) (s : List UInt8) (hv : blk w vb = some (#[.int .i16 ver,.int .u8 0,.int .u8 0,.int .u8 0,.int .u8 0,.int .u8 0,.int .u8 0,.int .u8 0,.int .u8 0,.int .u8 0,.int .u8 0,.int .u8 0,.int .u8 0,.int .u8 0,.int .u8 0,.int .u8 0,.int .u8 0,.int .i32 0,.bool false,.int .i8 0,.slice none 0 0,.map none],108,(0,0))) (hsrc : BytesV ok w src s) (hok0 : ∀ b,ok b → b < w.heap.size ∧ b ≠ vb) (hG : Glo ev w) (hgv : ¬ 0 = vb ∧ ¬ 1 = vb) :
    Fn Tryd.prog 64 #[.pointer (some ⟨vb,0,none⟩),src] w (ReadQ 108 ok ver (d + 1) fs_PushTelemetryRequest vb w (rdP (d + 1) ver (flexB 0 ver) fs_PushTelemetryRequest (some s)) ev) := by
  obtain ⟨sa,sc,rfl,_⟩ := hsrc.shape
  refine fn_of_W Tryd.func64 rfl Tryd.results64 Tryd.ntmps64 rfl ?_
  repeat ((first | refine qA rfl ?_|refine qB ?_|refine qC rfl ?_|refine qD ?_|refine qE ?_|refine qF ?_|refine qG ?_|refine qH ?_);try simp (maxSteps:=1000000)(disch:=(first|omega|(simp only [qI,qJ,qK]<;>omega)|exact qL _)) only [go_sem,↓reduceIte,n0,reduceCtorEq,n1,n2,n3,n4,n5,i0,i1,i2,i3,i4,i5,i6,i7])
  have hcl : (0 ≤ ver ∧ ver ≤ 0) := by omega
  rcases hcl with ⟨h1,h2⟩
  · have hfl : flexB 0 ver = true := by simp only [flexB,Bool.and_eq_true,decide_eq_true_eq];omega
    rw [hfl]
    refine (readPushTelemetryRequest_0b (d := d) (un := false) h1 h2 w _ s hv hsrc hok0 hG hgv).mono ?_
    rintro r5 w5 h5
    repeat ((first | refine qA rfl ?_|refine qB ?_|refine qC rfl ?_|refine qD ?_|refine qE ?_|refine qF ?_|refine qG ?_|refine qH ?_);try simp (maxSteps:=1000000)(disch:=(first|omega|(simp only [qI,qJ,qK]<;>omega)|exact qL _)) only [go_sem,↓reduceIte,n0,reduceCtorEq,n1,n2,n3,n4,n5,i0,i1,i2,i3,i4,i5,i6,i7])
    all_goals exact h5

theorem UnsafeReadFromPushTelemetryRequest_fn {d : Nat} {ok : Blocks} {ver : Int} {ev : Value} (hlo : 0 ≤ ver) (hhi : ver ≤ 0) (w : World) {vb : Nat} (src : Value) (s : List UInt8) (hv : blk w vb = some (#[.int .i16 ver,.int .u8 0,.int .u8 0,.int .u8 0,.int .u8 0,.int .u8 0,.int .u8 0,.int .u8 0,.int .u8 0,.int .u8 0,.int .u8 0,.int .u8 0,.int .u8 0,.int .u8 0,.int .u8 0,.int .u8 0,.int .u8 0,.int .i32 0,.bool false,.int .i8 0,.slice none 0 0,.map none],108,(0,0))) (hsrc : BytesV ok w src s) (hok0 : ∀ b,ok b → b < w.heap.size ∧ b ≠ vb) (hG : Glo ev w) (hgv : ¬ 0 = vb ∧ ¬ 1 = vb) :
    Fn Tryd.prog 66 #[.pointer (some ⟨vb,0,none⟩),src] w (ReadQ 108 ok ver (d + 1) fs_PushTelemetryRequest vb w (rdP (d + 1) ver (flexB 0 ver) fs_PushTelemetryRequest (some s)) ev) := by
  obtain ⟨sa,sc,rfl,_⟩ := hsrc.shape
  refine fn_of_W Tryd.func66 rfl Tryd.results66 Tryd.ntmps66 rfl ?_
  repeat ((first | refine qA rfl ?_|refine qB ?_|refine qC rfl ?_|refine qD ?_|refine qE ?_|refine qF ?_|refine qG ?_|refine qH ?_);try simp (maxSteps:=1000000)(disch:=(first|omega|(simp only [qI,qJ,qK]<;>omega)|exact qL _)) only [go_sem,↓reduceIte,n0,reduceCtorEq,n1,n2,n3,n4,n5,i0,i1,i2,i3,i4,i5,i6,i7])
  have hcl : (0 ≤ ver ∧ ver ≤ 0) := by omega
  rcases hcl with ⟨h1,h2⟩
  · have hfl : flexB 0 ver = true := by simp only [flexB,Bool.and_eq_true,decide_eq_true_eq];omega
    rw [hfl]
    refine (readPushTelemetryRequest_0b (d := d) (un := true) h1 h2 w _ s hv hsrc hok0 hG hgv).mono ?_
    rintro r5 w5 h5
    repeat ((first | refine qA rfl ?_|refine qB ?_|refine qC rfl ?_|refine qD ?_|refine qE ?_|refine qF ?_|refine qG ?_|refine qH ?_);try simp (maxSteps:=1000000)(disch:=(first|omega|(simp only [qI,qJ,qK]<;>omega)|exact qL _)) only [go_sem,↓reduceIte,n0,reduceCtorEq,n1,n2,n3,n4,n5,i0,i1,i2,i3,i4,i5,i6,i7])
    all_goals exact h5

end Ms

namespace Ms
open Go.World renaming size_alloc → qI
open Ms renaming size_wr → qJ,size_drew → qK,not_noB → qL
open W renaming seqR → qA,seq → qB,regR → qC,condK → qD,block → qE,skip → qF,ret → qG,exit → qH
open Nat renaming reduceEqDiff → n0,reduceAdd → n1,reduceMul → n2,reduceSub → n3,reduceLT → n4,reduceLeDiff → n5
open Int renaming reduceEq → i0,reduceLT → i1,reduceLE → i2,reduceNeg → i3,reduceAdd → i4,reduceSub → i5,reduceMul → i6,reduceToNat → i7
set_option maxRecDepth 8000
open Go Go.Proofs Go.Shelf
attribute [local congr] W_congr WPsq_congr WPp_congr optK_congr addrK_congr intK_congr boolK_congr sliceK_congr tupleK_congr funcK_congr Fn_congr rawK_congr takeK_congr stepK_congr convK_congr aggK_congr

theorem tagclPushTelemetryRequest_fn {ok OK : Blocks} {B tb : Nat} (c0 c1 c2 c3 v : Value) (done : List TagD) (y : TagD) (vv : Value) (w : World) (hbt : blk w tb = some (#[c0,c1,c2,c3,v],27,(0,0))) (hg : GrowU OK B tb w 59 v done) (hB : B ≤ w.heap.size) (htb : tb < B) (hvv : BytesV ok w vv y.2) (hy : y.1 < 2 ^ 32) (hyl : y.2.length ≤ 32767) (hdl : done.length ≤ 32767) (hOK : ∀ b,B ≤ b → OK b) :
    Fn Tryd.prog 149 #[.int .u32 y.1,vv,.pointer (some ⟨tb,0,none⟩)] w fun _ w' => (∃ v',blk w' tb = some (#[c0,c1,c2,c3,v'],27,(0,0)) ∧ GrowU OK B tb w' 59 v' (done ++ [y])) ∧ Upd (fun b => b = tb ∨ B ≤ b) w w' := by
  have htl := blk_lt hbt
  refine fn_of_W Tryd.func149 rfl Tryd.results149 Tryd.ntmps149 rfl ?_
  repeat ((first | refine qA rfl ?_|refine qB ?_|refine qC rfl ?_|refine qD ?_|refine qE ?_|refine qF ?_|refine qG ?_|refine qH ?_);try simp (maxSteps:=1000000)(disch:=(first|omega|(simp only [qI,qJ,qK]<;>omega)|exact qL _)) only [go_sem,↓reduceIte,n0,reduceCtorEq,n1,n2,n3,n4,n5,i0,i1,i2,i3,i4,i5,i6,i7])
  obtain ⟨av,kv,rfl,_⟩ := hg.shape
  have hnb : ∀ b,b < B ∨ w.heap.size ≤ b → ¬ ownB (.slice av done.length kv) b := fun b hb h => by
    have := hg.above h
    have := hg.below h
    omega
  refine W.drawR (.take 0 (.take 1 (.take 2 (.take 3 (.only 4 (.only 5 (.only 6 (.only 7 (.take 8 (.last 9)))))))))) (ownB (.slice av done.length kv)) mixed (by kernel_rfl) ?_
  simp (maxSteps:=1000000)(disch:=(first|omega|(simp only [qI,qJ,qK]<;>omega)|exact qL _ | (refine hnb _ ?_;first | omega | (simp only [World.size_alloc,size_wr,size_drew] <;> omega)))) only [go_sem,↓reduceIte,n0,reduceCtorEq,n1,n2,n3,n4,n5,i0,i1,i2,i3,i4,i5,i6,i7,hbt]
  refine wp_copyN ap_22_22 (ok := ok) (s := y.2) (v := vv) (by first | rfl | simp (maxSteps:=1000000)(disch:=(first|omega|(simp only [qI,qJ,qK]<;>omega)|exact qL _)) only [go_sem,↓reduceIte,n0,reduceCtorEq,n1,n2,n3,n4,n5,i0,i1,i2,i3,i4,i5,i6,i7]) (by first | rfl | simp (maxSteps:=1000000)(disch:=(first|omega|(simp only [qI,qJ,qK]<;>omega)|exact qL _)) only [go_sem,↓reduceIte,n0,reduceCtorEq,n1,n2,n3,n4,n5,i0,i1,i2,i3,i4,i5,i6,i7]) (hvv.keep (Ext.keeps ((Upd.refl _ _).drew) _)) (by omega) ?_
  intro v1 w1 ho1 hE1 hf1
  obtain ⟨a1,k1,rfl,_⟩ := ho1.shape
  have hB1 := Own.bytes (ok := fun b => w.heap.size ≤ b) ho1 fun b hb => hf1 b hb
  have hP1 : Upd (ownB (.slice av done.length kv)) w.drew w1 := hE1.mono fun _ h => h.elim
  have hs1 := hE1.size
  simp only [size_drew] at hs1
  refine ⟨hP1,?_⟩
  simp (maxSteps:=1000000)(disch:=(first|omega|(simp only [qI,qJ,qK]<;>omega)|exact qL _ | (refine hnb _ ?_;first | omega | (simp only [World.size_alloc,size_wr,size_drew] <;> omega)))) only [go_sem,↓reduceIte,n0,reduceCtorEq,n1,n2,n3,n4,n5,i0,i1,i2,i3,i4,i5,i6,i7,hbt]
  refine ⟨hP1,?_⟩
  have hP2 : Upd (ownB (.slice av done.length kv)) w.drew (w1.alloc (.cells #[.int .u32 y.1,.slice a1 y.2.length k1] 59)) := hP1.alloc _
  have hn2 : blk (w1.alloc (.cells #[.int .u32 y.1,.slice a1 y.2.length k1] 59)) w1.heap.size = some (#[.int .u32 y.1,.slice a1 y.2.length k1],59,(0,0)) := blk_alloc_new rfl
  have hs2 : (w1.alloc (.cells #[.int .u32 y.1,.slice a1 y.2.length k1] 59)).heap.size = w1.heap.size + 1 := World.size_alloc _ _
  have hE2 : Ext w1 (w1.alloc (.cells #[.int .u32 y.1,.slice a1 y.2.length k1] 59)) := Upd.alloc (Upd.refl _ _) _
  refine ⟨hP2,?_⟩
  try simp only [List.append_nil]
  generalize (w1.alloc (.cells #[.int .u32 y.1,.slice a1 y.2.length k1] 59)) = w2 at *
  have hEw : Ext w w2 := (((Upd.refl _ _).drew).trans hE1).trans hE2
  obtain ⟨css,hown,hall⟩ := (hg.ext hEw).ex
  have hcl := hall.1
  have hx2 : TagC (fun b => OK b ∧ b ≠ tb ∧ ¬ ownB (.slice av done.length kv) b) w2 y [.int .u32 y.1,.slice a1 y.2.length k1] := ⟨_,rfl,(hB1.keep (hE2.keeps _)).weaken fun b _ hk => ⟨hOK b (by omega),by omega,hnb b (.inr hk)⟩,hy⟩
  refine wp_append ap_25_25 (m := 1) (news := [.int .u32 y.1,.slice a1 y.2.length k1]) (n := css.length) (cs := css.flatten) (v := .slice av done.length kv) ?_ rfl hown.1 hall.flat_cells (Src.blk (fr := (0,0)) (T := 59) hn2 rfl rfl) ?_ ?_ ?_
  · first | rfl | simp (maxSteps:=1000000)(disch:=(first|omega|(simp only [qI,qJ,qK]<;>omega)|exact qL _)) only [go_sem,↓reduceIte,n0,reduceCtorEq,n1,n2,n3,n4,n5,i0,i1,i2,i3,i4,i5,i6,i7]
  · omega
  · omega
  intro v' w3 ho hu hfr
  have hg3 := GrowU.snoc hown hall hx2 hu hfr ho
  obtain ⟨va,vc,hv',_⟩ := ho.shape
  subst hv'
  have hP3 := hP2.trans hu
  have hs3 := hu.size
  have hbt3 := hP3.blk_some (show blk w.drew tb = _ from hbt) (hnb _ (.inl htb))
  have hne : ¬ ownB (.slice va (css.length + 1) vc) tb := fun h => (hfr _ h).elim (hnb _ (.inl htb)) (fun h => by omega)
  refine ⟨hP3,?_⟩
  simp (maxSteps:=1000000)(disch:=(first|omega|(simp only [qI,qJ,qK]<;>omega)|exact qL _ | (refine hnb _ ?_;first | omega | (simp only [World.size_alloc,size_wr,size_drew] <;> omega)))) only [go_sem,↓reduceIte,n0,reduceCtorEq,n1,n2,n3,n4,n5,i0,i1,i2,i3,i4,i5,i6,i7,hbt3]
  repeat ((first | refine qA rfl ?_|refine qB ?_|refine qC rfl ?_|refine qD ?_|refine qE ?_|refine qF ?_|refine qG ?_|refine qH ?_);try simp (maxSteps:=1000000)(disch:=(first|omega|(simp only [qI,qJ,qK]<;>omega)|exact qL _)) only [go_sem,↓reduceIte,n0,reduceCtorEq,n1,n2,n3,n4,n5,i0,i1,i2,i3,i4,i5,i6,i7])
  refine ⟨⟨.slice va (css.length + 1) vc,by first | (rw [blk_wr_eq,hbt3];rfl) | rfl | (rw [hbt3];rfl) | (rw [blk_wr_eq,hbt3]),hg3.upd ((Upd.refl _ _).wr _ _ (.inr rfl)) hne⟩,?_⟩
  refine Upd.wr ?_ _ _ (.inr (.inl rfl))
  exact (((Upd.refl (fun b => b = tb ∨ B ≤ b) w).drew).trans (hP3.mono fun b h => .inr (hg.above h)))

set_option maxHeartbeats 4000000 in
theorem tellPushTelemetryRequest_fn {d : Nat} {ok : Blocks} (t : Tree) (cs : List Value) (w : World) {b : Nat} {x : Blk} (hb : blk w b = some x) (hq : ∀ k,k < 21 → x.1[1 + k]? = cs[k]?) (hR : RepS true (d + 1) fs_PushTelemetryRequest ok w t cs) (hg : GoodP (d + 1) fs_PushTelemetryRequest t) :
    Fn Tryd.prog 65 #[.pointer (some ⟨b,0,none⟩)] w fun r w' => (∃ c,r = .agg c.toArray ∧ TreeC (fun b => w.heap.size ≤ b) w' (tlP (d + 1) fs_PushTelemetryRequest t) c) ∧ Ext w w' := by
  have hbl := blk_lt hb
  obtain ⟨⟨gd0,gd1,gd2,gd3,gd4,-⟩,hgu⟩ := hg
  replace gd0 : GoodF (GoodP d) fPushTelemetryRequest_0 (t.at 0) := gd0
  replace gd1 : GoodF (GoodP d) fPushTelemetryRequest_1 (t.at 1) := gd1
  replace gd2 : GoodF (GoodP d) fPushTelemetryRequest_2 (t.at 2) := gd2
  replace gd3 : GoodF (GoodP d) fPushTelemetryRequest_3 (t.at 3) := gd3
  replace gd4 : GoodF (GoodP d) fPushTelemetryRequest_4 (t.at 4) := gd4
  obtain ⟨cs0,q,hcs,hL,hT⟩ := hR.inv
  obtain ⟨c0,e0,rfl,h0,c1,e1,rfl,h1,c2,e2,rfl,h2,c3,e3,rfl,h3,c4,e4,rfl,h4,rfl⟩ := hL
  replace h0 : RepF (RepS true d) (szS true d) fPushTelemetryRequest_0 ok w (t.at 0) c0 := h0
  replace h1 : RepF (RepS true d) (szS true d) fPushTelemetryRequest_1 ok w (t.at 1) c1 := h1
  replace h2 : RepF (RepS true d) (szS true d) fPushTelemetryRequest_2 ok w (t.at 2) c2 := h2
  replace h3 : RepF (RepS true d) (szS true d) fPushTelemetryRequest_3 ok w (t.at 3) c3 := h3
  replace h4 : RepF (RepS true d) (szS true d) fPushTelemetryRequest_4 ok w (t.at 4) c4 := h4
  obtain rfl := (RepF_uuid rfl).1 h0
  have hl16_0 : ((uuidS (t.at 0).s).map byteV).length = 16 := by rw [List.length_map,uuidS_len]
  generalize hZ0 : (uuidS (t.at 0).s).map byteV = Z0 at *
  obtain ⟨z0_0,z0_1,z0_2,z0_3,z0_4,z0_5,z0_6,z0_7,z0_8,z0_9,z0_10,z0_11,z0_12,z0_13,z0_14,z0_15,rfl⟩ := list16 hl16_0
  obtain rfl := (RepF_num (by decide)).1 h1
  obtain rfl := (RepF_num (by decide)).1 h2
  obtain rfl := (RepF_num (by decide)).1 h3
  obtain ⟨p4,rfl,hp4⟩ := (RepF_bytes rfl).1 h4
  obtain ⟨ao4,no4,co4,rfl⟩ := hp4.shape
  obtain ⟨qm,rfl⟩ := hT.shape
  subst hcs
  have hq0 : x.1[1]? = some (z0_0) := hq 0 (by decide)
  have hq1 : x.1[2]? = some (z0_1) := hq 1 (by decide)
  have hq2 : x.1[3]? = some (z0_2) := hq 2 (by decide)
  have hq3 : x.1[4]? = some (z0_3) := hq 3 (by decide)
  have hq4 : x.1[5]? = some (z0_4) := hq 4 (by decide)
  have hq5 : x.1[6]? = some (z0_5) := hq 5 (by decide)
  have hq6 : x.1[7]? = some (z0_6) := hq 6 (by decide)
  have hq7 : x.1[8]? = some (z0_7) := hq 7 (by decide)
  have hq8 : x.1[9]? = some (z0_8) := hq 8 (by decide)
  have hq9 : x.1[10]? = some (z0_9) := hq 9 (by decide)
  have hq10 : x.1[11]? = some (z0_10) := hq 10 (by decide)
  have hq11 : x.1[12]? = some (z0_11) := hq 11 (by decide)
  have hq12 : x.1[13]? = some (z0_12) := hq 12 (by decide)
  have hq13 : x.1[14]? = some (z0_13) := hq 13 (by decide)
  have hq14 : x.1[15]? = some (z0_14) := hq 14 (by decide)
  have hq15 : x.1[16]? = some (z0_15) := hq 15 (by decide)
  have hq16 : x.1[17]? = some (.int .i32 (IntKind.i32.wrap (t.at 1).n)) := hq 16 (by decide)
  have hq17 : x.1[18]? = some (.bool (decide ((t.at 2).n % 2 = 1))) := hq 17 (by decide)
  have hq18 : x.1[19]? = some (.int .i8 (IntKind.i8.wrap (t.at 3).n)) := hq 18 (by decide)
  have hq19 : x.1[20]? = some (.slice ao4 no4 co4) := hq 19 (by decide)
  have hq20 : x.1[21]? = some (.map qm) := hq 20 (by decide)
  refine fn_of_W Tryd.func65 rfl Tryd.results65 Tryd.ntmps65 rfl ?_
  repeat ((first | refine qA rfl ?_|refine qB ?_|refine qC rfl ?_|refine qD ?_|refine qE ?_|refine qF ?_|refine qG ?_|refine qH ?_);try simp (maxSteps:=1000000)(disch:=(first|omega|(simp only [qI,qJ,qK]<;>omega)|exact qL _)) only [go_sem,↓reduceIte,n0,reduceCtorEq,n1,n2,n3,n4,n5,i0,i1,i2,i3,i4,i5,i6,i7])
  refine wp_make (T := 24) (E := 27) (size := 5) (bytes := 88) (z := .agg #[.int .i64 0,.slice none 0 0,.bool false,.slice none 0 0,.slice none 0 0]) (l := 5) (c := 5) (kl := .i64) (kc := .i64) (by kernel_rfl) (by kernel_rfl) (by first | rfl | (simp (maxSteps:=1000000)(disch:=(first|omega|(simp only [qI,qJ,qK]<;>omega)|exact qL _)) only [go_sem,↓reduceIte,n0,reduceCtorEq,n1,n2,n3,n4,n5,i0,i1,i2,i3,i4,i5,i6,i7];rfl)) (by first | rfl | (simp (maxSteps:=1000000)(disch:=(first|omega|(simp only [qI,qJ,qK]<;>omega)|exact qL _)) only [go_sem,↓reduceIte,n0,reduceCtorEq,n1,n2,n3,n4,n5,i0,i1,i2,i3,i4,i5,i6,i7];rfl)) (by omega) (by omega) (by omega) ?_
  have hmd : madeCells (Value.agg #[.int .i64 0,.slice none 0 0,.bool false,.slice none 0 0,.slice none 0 0]).cells (5 * 5) = #[.int .i64 0,.slice none 0 0,.bool false,.slice none 0 0,.slice none 0 0,.int .i64 0,.slice none 0 0,.bool false,.slice none 0 0,.slice none 0 0,.int .i64 0,.slice none 0 0,.bool false,.slice none 0 0,.slice none 0 0,.int .i64 0,.slice none 0 0,.bool false,.slice none 0 0,.slice none 0 0,.int .i64 0,.slice none 0 0,.bool false,.slice none 0 0,.slice none 0 0] := by kernel_rfl
  rw [hmd]
  simp (maxSteps:=1000000)(disch:=(first|omega|(simp only [qI,qJ,qK]<;>omega)|exact qL _)) only [go_sem,↓reduceIte,n0,reduceCtorEq,n1,n2,n3,n4,n5,i0,i1,i2,i3,i4,i5,i6,i7]
  repeat ((first | refine qA rfl ?_|refine qB ?_|refine qC rfl ?_|refine qD ?_|refine qE ?_|refine qF ?_|refine qG ?_|refine qH ?_);try simp (maxSteps:=1000000)(disch:=(first|omega|(simp only [qI,qJ,qK]<;>omega)|exact qL _)) only [go_sem,↓reduceIte,n0,reduceCtorEq,n1,n2,n3,n4,n5,i0,i1,i2,i3,i4,i5,i6,i7])
  have hE1 : Ext w (wr (((w.alloc (.cells #[.int .i64 0,.slice none 0 0,.bool false,.slice none 0 0,.slice none 0 0] 27)).alloc (.cells #[.int .i64 0,.slice none 0 0,.bool false,.slice none 0 0,.slice none 0 0,.int .i64 0,.slice none 0 0,.bool false,.slice none 0 0,.slice none 0 0,.int .i64 0,.slice none 0 0,.bool false,.slice none 0 0,.slice none 0 0,.int .i64 0,.slice none 0 0,.bool false,.slice none 0 0,.slice none 0 0,.int .i64 0,.slice none 0 0,.bool false,.slice none 0 0,.slice none 0 0] 27)).alloc (.cells #[.int .i64 0,.slice none 0 0,.bool false,.slice none 0 0,.slice none 0 0] 27)) (w.heap.size + 2) 0 [.int .i64 0,.slice none 0 0,.bool false,.slice (some ⟨w.heap.size + 1,0,none⟩) 5 5,.slice none 0 0]) := (Upd.alloc (Upd.alloc (Upd.alloc (Upd.refl _ _) _) _) _).wr _ _ (.inl (by omega))
  have hz1 : (wr (((w.alloc (.cells #[.int .i64 0,.slice none 0 0,.bool false,.slice none 0 0,.slice none 0 0] 27)).alloc (.cells #[.int .i64 0,.slice none 0 0,.bool false,.slice none 0 0,.slice none 0 0,.int .i64 0,.slice none 0 0,.bool false,.slice none 0 0,.slice none 0 0,.int .i64 0,.slice none 0 0,.bool false,.slice none 0 0,.slice none 0 0,.int .i64 0,.slice none 0 0,.bool false,.slice none 0 0,.slice none 0 0,.int .i64 0,.slice none 0 0,.bool false,.slice none 0 0,.slice none 0 0] 27)).alloc (.cells #[.int .i64 0,.slice none 0 0,.bool false,.slice none 0 0,.slice none 0 0] 27)) (w.heap.size + 2) 0 [.int .i64 0,.slice none 0 0,.bool false,.slice (some ⟨w.heap.size + 1,0,none⟩) 5 5,.slice none 0 0]).heap.size = w.heap.size + 3 := by simp only [size_wr,World.size_alloc]
  have hl1 : blk (wr (((w.alloc (.cells #[.int .i64 0,.slice none 0 0,.bool false,.slice none 0 0,.slice none 0 0] 27)).alloc (.cells #[.int .i64 0,.slice none 0 0,.bool false,.slice none 0 0,.slice none 0 0,.int .i64 0,.slice none 0 0,.bool false,.slice none 0 0,.slice none 0 0,.int .i64 0,.slice none 0 0,.bool false,.slice none 0 0,.slice none 0 0,.int .i64 0,.slice none 0 0,.bool false,.slice none 0 0,.slice none 0 0,.int .i64 0,.slice none 0 0,.bool false,.slice none 0 0,.slice none 0 0] 27)).alloc (.cells #[.int .i64 0,.slice none 0 0,.bool false,.slice none 0 0,.slice none 0 0] 27)) (w.heap.size + 2) 0 [.int .i64 0,.slice none 0 0,.bool false,.slice (some ⟨w.heap.size + 1,0,none⟩) 5 5,.slice none 0 0]) (w.heap.size + 1) = some (#[.int .i64 0,.slice none 0 0,.bool false,.slice none 0 0,.slice none 0 0,.int .i64 0,.slice none 0 0,.bool false,.slice none 0 0,.slice none 0 0,.int .i64 0,.slice none 0 0,.bool false,.slice none 0 0,.slice none 0 0,.int .i64 0,.slice none 0 0,.bool false,.slice none 0 0,.slice none 0 0,.int .i64 0,.slice none 0 0,.bool false,.slice none 0 0,.slice none 0 0],27,(0,0)) := by simp (maxSteps:=1000000)(disch:=(first|omega|(simp only [qI,qJ,qK]<;>omega)|exact qL _)) only [go_sem,↓reduceIte,n0,reduceCtorEq,n1,n2,n3,n4,n5,i0,i1,i2,i3,i4,i5,i6,i7]
  have ht1 : blk (wr (((w.alloc (.cells #[.int .i64 0,.slice none 0 0,.bool false,.slice none 0 0,.slice none 0 0] 27)).alloc (.cells #[.int .i64 0,.slice none 0 0,.bool false,.slice none 0 0,.slice none 0 0,.int .i64 0,.slice none 0 0,.bool false,.slice none 0 0,.slice none 0 0,.int .i64 0,.slice none 0 0,.bool false,.slice none 0 0,.slice none 0 0,.int .i64 0,.slice none 0 0,.bool false,.slice none 0 0,.slice none 0 0,.int .i64 0,.slice none 0 0,.bool false,.slice none 0 0,.slice none 0 0] 27)).alloc (.cells #[.int .i64 0,.slice none 0 0,.bool false,.slice none 0 0,.slice none 0 0] 27)) (w.heap.size + 2) 0 [.int .i64 0,.slice none 0 0,.bool false,.slice (some ⟨w.heap.size + 1,0,none⟩) 5 5,.slice none 0 0]) (w.heap.size + 2) = some (#[.int .i64 0,.slice none 0 0,.bool false,.slice (some ⟨w.heap.size + 1,0,none⟩) 5 5,.slice none 0 0],27,(0,0)) := by simp (maxSteps:=1000000)(disch:=(first|omega|(simp only [qI,qJ,qK]<;>omega)|exact qL _)) only [go_sem,↓reduceIte,n0,reduceCtorEq,n1,n2,n3,n4,n5,i0,i1,i2,i3,i4,i5,i6,i7]
  have hr1 : blk (wr (((w.alloc (.cells #[.int .i64 0,.slice none 0 0,.bool false,.slice none 0 0,.slice none 0 0] 27)).alloc (.cells #[.int .i64 0,.slice none 0 0,.bool false,.slice none 0 0,.slice none 0 0,.int .i64 0,.slice none 0 0,.bool false,.slice none 0 0,.slice none 0 0,.int .i64 0,.slice none 0 0,.bool false,.slice none 0 0,.slice none 0 0,.int .i64 0,.slice none 0 0,.bool false,.slice none 0 0,.slice none 0 0,.int .i64 0,.slice none 0 0,.bool false,.slice none 0 0,.slice none 0 0] 27)).alloc (.cells #[.int .i64 0,.slice none 0 0,.bool false,.slice none 0 0,.slice none 0 0] 27)) (w.heap.size + 2) 0 [.int .i64 0,.slice none 0 0,.bool false,.slice (some ⟨w.heap.size + 1,0,none⟩) 5 5,.slice none 0 0]) w.heap.size = some (#[.int .i64 0,.slice none 0 0,.bool false,.slice none 0 0,.slice none 0 0],27,(0,0)) := by simp (maxSteps:=1000000)(disch:=(first|omega|(simp only [qI,qJ,qK]<;>omega)|exact qL _)) only [go_sem,↓reduceIte,n0,reduceCtorEq,n1,n2,n3,n4,n5,i0,i1,i2,i3,i4,i5,i6,i7]
  generalize (wr (((w.alloc (.cells #[.int .i64 0,.slice none 0 0,.bool false,.slice none 0 0,.slice none 0 0] 27)).alloc (.cells #[.int .i64 0,.slice none 0 0,.bool false,.slice none 0 0,.slice none 0 0,.int .i64 0,.slice none 0 0,.bool false,.slice none 0 0,.slice none 0 0,.int .i64 0,.slice none 0 0,.bool false,.slice none 0 0,.slice none 0 0,.int .i64 0,.slice none 0 0,.bool false,.slice none 0 0,.slice none 0 0,.int .i64 0,.slice none 0 0,.bool false,.slice none 0 0,.slice none 0 0] 27)).alloc (.cells #[.int .i64 0,.slice none 0 0,.bool false,.slice none 0 0,.slice none 0 0] 27)) (w.heap.size + 2) 0 [.int .i64 0,.slice none 0 0,.bool false,.slice (some ⟨w.heap.size + 1,0,none⟩) 5 5,.slice none 0 0]) = w1 at *
  have hU1 : Upd (fun b => b = w.heap.size + 1 ∨ b = w.heap.size + 2) w1 w1 := Upd.refl _ _
  have hb1 := hE1.blk_some hb id
  repeat ((first | refine qA rfl ?_|refine qB ?_|refine qC rfl ?_|refine qD ?_|refine qE ?_|refine qF ?_|refine qG ?_|refine qH ?_);try simp (maxSteps:=1000000)(disch:=(first|omega|(simp only [qI,qJ,qK]<;>omega)|exact qL _)) only [go_sem,↓reduceIte,n0,reduceCtorEq,n1,n2,n3,n4,n5,i0,i1,i2,i3,i4,i5,i6,i7,hb1,hl1,ht1,hq0,hq1,hq2,hq3,hq4,hq5,hq6,hq7,hq8,hq9,hq10,hq11,hq12,hq13,hq14,hq15,hq16,hq17,hq18,hq19,hq20])
  refine W.drawR (.take 0 (.take 1 (.take 2 (.take 3 (.take 4 (.take 5 (.only 6 (.only 7 (.take 8 (.last 9)))))))))) (NoB) mixed (by kernel_rfl) ?_
  simp (maxSteps:=1000000)(disch:=(first|omega|(simp only [qI,qJ,qK]<;>omega)|exact qL _)) only [go_sem,↓reduceIte,n0,reduceCtorEq,n1,n2,n3,n4,n5,i0,i1,i2,i3,i4,i5,i6,i7,hb1,hl1,ht1,hq0,hq1,hq2,hq3,hq4,hq5,hq6,hq7,hq8,hq9,hq10,hq11,hq12,hq13,hq14,hq15,hq16,hq17,hq18,hq19,hq20]
  have hbd2 : blk w1.drew b = some x := hb1
  have hc16_2 : BytesV AnyB w1.drew (.slice (some ⟨b,1,none⟩) 16 16) (uuidS (t.at 0).s) := bytes_at hbd2 (uuidS_len _) fun j hj => by
    rw [hZ0,show 1 + j = 1 + (0 + j) from by omega]
    exact (hq (0 + j) (by omega)).trans (get_mid (pre := []) (xs := [z0_0,z0_1,z0_2,z0_3,z0_4,z0_5,z0_6,z0_7,z0_8,z0_9,z0_10,z0_11,z0_12,z0_13,z0_14,z0_15]) (post := [.int .i32 (IntKind.i32.wrap (t.at 1).n),.bool (decide ((t.at 2).n % 2 = 1)),.int .i8 (IntKind.i8.wrap (t.at 3).n),.slice ao4 no4 co4,.map qm]) hj)
  refine wp_copyN ap_22_22 (ok := AnyB) (s := uuidS (t.at 0).s) (v := .slice (some ⟨b,1,none⟩) 16 16) (by first | rfl | simp (maxSteps:=1000000)(disch:=(first|omega|(simp only [qI,qJ,qK]<;>omega)|exact qL _)) only [go_sem,↓reduceIte,n0,reduceCtorEq,n1,n2,n3,n4,n5,i0,i1,i2,i3,i4,i5,i6,i7]) (by first | rfl | simp (maxSteps:=1000000)(disch:=(first|omega|(simp only [qI,qJ,qK]<;>omega)|exact qL _)) only [go_sem,↓reduceIte,n0,reduceCtorEq,n1,n2,n3,n4,n5,i0,i1,i2,i3,i4,i5,i6,i7]) hc16_2 (by rw [uuidS_len];omega) ?_
  intro v2 w2 ho2 hEx2 hfr2
  obtain ⟨av2,kv2,rfl,_⟩ := ho2.shape
  have hB2 := Own.bytes (ok := fun b => w1.drew.heap.size ≤ b) ho2 fun b hb => hfr2 b hb
  have hP2 : Upd NoB w1.drew w2 := (Upd.refl _ _).trans (hEx2.mono fun _ h => h.elim)
  have hs2 := hEx2.size
  refine ⟨hP2,?_⟩
  simp (maxSteps:=1000000)(disch:=(first|omega|(simp only [qI,qJ,qK]<;>omega)|exact qL _)) only [go_sem,↓reduceIte,n0,reduceCtorEq,n1,n2,n3,n4,n5,i0,i1,i2,i3,i4,i5,i6,i7,hb1,hl1,ht1,hq0,hq1,hq2,hq3,hq4,hq5,hq6,hq7,hq8,hq9,hq10,hq11,hq12,hq13,hq14,hq15,hq16,hq17,hq18,hq19,hq20]
  refine ⟨hP2,?_⟩
  have hlq3 := hP2.blk_some (show blk w1.drew (w.heap.size + 1) = _ from hl1) id
  have hx3 : Upd (fun b => b = w.heap.size + 1 ∨ b = w.heap.size + 2) w1 w2 := ((Upd.refl _ _).drew).trans (hP2.mono fun _ h => h.elim)
  try simp (maxSteps:=1000000)(disch:=(first|omega|(simp only [qI,qJ,qK]<;>omega)|exact qL _)) only [go_sem,↓reduceIte,n0,reduceCtorEq,n1,n2,n3,n4,n5,i0,i1,i2,i3,i4,i5,i6,i7,hlq3]
  generalize hw3 : wr w2 (w.heap.size + 1) 0 [.int .i64 0,.slice av2 (uuidS (t.at 0).s).length kv2,.bool false,.slice none 0 0,.slice none 0 0] = w3
  have hl3 : blk w3 (w.heap.size + 1) = some (#[.int .i64 0,.slice av2 (uuidS (t.at 0).s).length kv2,.bool false,.slice none 0 0,.slice none 0 0,.int .i64 0,.slice none 0 0,.bool false,.slice none 0 0,.slice none 0 0,.int .i64 0,.slice none 0 0,.bool false,.slice none 0 0,.slice none 0 0,.int .i64 0,.slice none 0 0,.bool false,.slice none 0 0,.slice none 0 0,.int .i64 0,.slice none 0 0,.bool false,.slice none 0 0,.slice none 0 0],27,(0,0)) := by rw [← hw3,blk_wr_eq,hlq3];rfl
  have hv3 : Upd (fun b => b = w.heap.size + 1 ∨ b = w.heap.size + 2) w2 w3 := by rw [← hw3];exact (Upd.refl _ _).wr _ _ (.inr (.inl rfl))
  have hV3 : Upd (fun b => b = w.heap.size + 1 ∨ b = w.heap.size + 2) w1 w3 := hx3.trans hv3
  have hU3 : Upd (fun b => b = w.heap.size + 1 ∨ b = w.heap.size + 2) w1 w3 := hU1.trans hV3
  have hz3 := hU3.size
  have hX3 : Ext w w3 := hE1.more hU3 fun b hb h => by omega
  have hb3 := hX3.blk_some hb id
  have ht3 : blk w3 (w.heap.size + 2) = some (#[.int .i64 0,.slice none 0 0,.bool false,.slice (some ⟨w.heap.size + 1,0,none⟩) 5 5,.slice none 0 0],27,(0,0)) := by
    rw [← hw3,blk_wr_ne (by omega)]
    exact hP2.blk_some (show blk w1.drew (w.heap.size + 2) = _ from ht1) id
  clear hw3
  have hf0 : TreeC (fun b => w1.heap.size ≤ b) w3 (.oct false (uuidS (t.at 0).s)) [.int .i64 0,.slice av2 (uuidS (t.at 0).s).length kv2,.bool false,.slice none 0 0,.slice none 0 0] := (TreeC.keep (hv3.keeps fun b hb hk e => by have hk' : w1.heap.size ≤ b := hk;omega) (TreeC.intro rfl (hB2.weaken fun b _ hk => by have hk' : w1.drew.heap.size ≤ b := hk;simp only [size_drew] at hk';omega) (treesN _ _) (tagsN _ _) : TreeC (fun b => w1.heap.size ≤ b) w2 (.oct false (uuidS (t.at 0).s)) [.int .i64 0,.slice av2 (uuidS (t.at 0).s).length kv2,.bool false,.slice none 0 0,.slice none 0 0]))
  repeat ((first | refine qA rfl ?_|refine qB ?_|refine qC rfl ?_|refine qD ?_|refine qE ?_|refine qF ?_|refine qG ?_|refine qH ?_);try simp (maxSteps:=1000000)(disch:=(first|omega|(simp only [qI,qJ,qK]<;>omega)|exact qL _)) only [go_sem,↓reduceIte,n0,reduceCtorEq,n1,n2,n3,n4,n5,i0,i1,i2,i3,i4,i5,i6,i7,hb3,hl3,ht3,hq0,hq1,hq2,hq3,hq4,hq5,hq6,hq7,hq8,hq9,hq10,hq11,hq12,hq13,hq14,hq15,hq16,hq17,hq18,hq19,hq20])
  refine W.drawR (.take 0 (.take 1 (.take 2 (.take 3 (.take 4 (.take 5 (.take 6 (.only 7 (.take 8 (.last 9)))))))))) (NoB) mixed (by kernel_rfl) ?_
  simp (maxSteps:=1000000)(disch:=(first|omega|(simp only [qI,qJ,qK]<;>omega)|exact qL _)) only [go_sem,↓reduceIte,n0,reduceCtorEq,n1,n2,n3,n4,n5,i0,i1,i2,i3,i4,i5,i6,i7,hb3,hl3,ht3,hq0,hq1,hq2,hq3,hq4,hq5,hq6,hq7,hq8,hq9,hq10,hq11,hq12,hq13,hq14,hq15,hq16,hq17,hq18,hq19,hq20,tl32]
  refine ⟨Upd.refl _ _,?_⟩
  have hlq4 : blk w3.drew (w.heap.size + 1) = _ := hl3
  have hx4 : Upd (fun b => b = w.heap.size + 1 ∨ b = w.heap.size + 2) w3 w3.drew := (Upd.refl _ _).drew
  generalize hw4 : wr w3.drew (w.heap.size + 1) 5 [.int .i64 (IntKind.i32.wrap (t.at 1).n),.slice none 0 0,.bool false,.slice none 0 0,.slice none 0 0] = w4
  have hl4 : blk w4 (w.heap.size + 1) = some (#[.int .i64 0,.slice av2 (uuidS (t.at 0).s).length kv2,.bool false,.slice none 0 0,.slice none 0 0,.int .i64 (IntKind.i32.wrap (t.at 1).n),.slice none 0 0,.bool false,.slice none 0 0,.slice none 0 0,.int .i64 0,.slice none 0 0,.bool false,.slice none 0 0,.slice none 0 0,.int .i64 0,.slice none 0 0,.bool false,.slice none 0 0,.slice none 0 0,.int .i64 0,.slice none 0 0,.bool false,.slice none 0 0,.slice none 0 0],27,(0,0)) := by rw [← hw4,blk_wr_eq,hlq4];rfl
  have hv4 : Upd (fun b => b = w.heap.size + 1 ∨ b = w.heap.size + 2) w3.drew w4 := by rw [← hw4];exact (Upd.refl _ _).wr _ _ (.inr (.inl rfl))
  have hV4 : Upd (fun b => b = w.heap.size + 1 ∨ b = w.heap.size + 2) w3 w4 := hx4.trans hv4
  have hU4 : Upd (fun b => b = w.heap.size + 1 ∨ b = w.heap.size + 2) w1 w4 := hU3.trans hV4
  have hz4 := hU4.size
  have hX4 : Ext w w4 := hE1.more hU4 fun b hb h => by omega
  have hb4 := hX4.blk_some hb id
  have ht4 : blk w4 (w.heap.size + 2) = some (#[.int .i64 0,.slice none 0 0,.bool false,.slice (some ⟨w.heap.size + 1,0,none⟩) 5 5,.slice none 0 0],27,(0,0)) := by
    rw [← hw4,blk_wr_ne (by omega)]
    exact ht3
  clear hw4
  have hf1 : TreeC (fun b => w1.heap.size ≤ b) w4 (.num (IntKind.i32.wrap (t.at 1).n)) [.int .i64 (IntKind.i32.wrap (t.at 1).n),.slice none 0 0,.bool false,.slice none 0 0,.slice none 0 0] := (TreeC.keep (hv4.keeps fun b hb hk e => by have hk' : w1.heap.size ≤ b := hk;omega) (TreeC.intro (tl32 _) (BytesV.nil _ _) (treesN _ _) (tagsN _ _) : TreeC (fun b => w1.heap.size ≤ b) w3.drew (.num (IntKind.i32.wrap (t.at 1).n)) [.int .i64 (IntKind.i32.wrap (t.at 1).n),.slice none 0 0,.bool false,.slice none 0 0,.slice none 0 0]))
  repeat ((first | refine qA rfl ?_|refine qB ?_|refine qC rfl ?_|refine qD ?_|refine qE ?_|refine qF ?_|refine qG ?_|refine qH ?_);try simp (maxSteps:=1000000)(disch:=(first|omega|(simp only [qI,qJ,qK]<;>omega)|exact qL _)) only [go_sem,↓reduceIte,n0,reduceCtorEq,n1,n2,n3,n4,n5,i0,i1,i2,i3,i4,i5,i6,i7,hb4,hl4,ht4,hq0,hq1,hq2,hq3,hq4,hq5,hq6,hq7,hq8,hq9,hq10,hq11,hq12,hq13,hq14,hq15,hq16,hq17,hq18,hq19,hq20])
  refine W.drawR (.take 0 (.take 1 (.take 2 (.take 3 (.take 4 (.take 5 (.only 6 (.take 7 (.last 8))))))))) (NoB) mixed (by kernel_rfl) ?_
  simp (maxSteps:=1000000)(disch:=(first|omega|(simp only [qI,qJ,qK]<;>omega)|exact qL _)) only [go_sem,↓reduceIte,n0,reduceCtorEq,n1,n2,n3,n4,n5,i0,i1,i2,i3,i4,i5,i6,i7,hb4,hl4,ht4,hq0,hq1,hq2,hq3,hq4,hq5,hq6,hq7,hq8,hq9,hq10,hq11,hq12,hq13,hq14,hq15,hq16,hq17,hq18,hq19,hq20]
  refine (boolTree_fn _ w4.drew).mono ?_
  rintro _ w5 ⟨rfl,hEx5⟩
  have hbe5 : (if decide ((t.at 2).n % 2 = 1) = true then 1 else 0 : Int) = (if (t.at 2).n % 2 = 1 then 1 else 0) := by by_cases h : (t.at 2).n % 2 = 1 <;> simp [h]
  have hP5 : Upd NoB w4.drew w5 := (Upd.refl _ _).trans (hEx5.mono fun _ h => h.elim)
  have hs5 := hEx5.size
  refine ⟨hP5,?_⟩
  simp (maxSteps:=1000000)(disch:=(first|omega|(simp only [qI,qJ,qK]<;>omega)|exact qL _)) only [go_sem,↓reduceIte,n0,reduceCtorEq,n1,n2,n3,n4,n5,i0,i1,i2,i3,i4,i5,i6,i7,hb4,hl4,ht4,hq0,hq1,hq2,hq3,hq4,hq5,hq6,hq7,hq8,hq9,hq10,hq11,hq12,hq13,hq14,hq15,hq16,hq17,hq18,hq19,hq20]
  have hlq6 := hP5.blk_some (show blk w4.drew (w.heap.size + 1) = _ from hl4) id
  have hx6 : Upd (fun b => b = w.heap.size + 1 ∨ b = w.heap.size + 2) w4 w5 := ((Upd.refl _ _).drew).trans (hP5.mono fun _ h => h.elim)
  try simp (maxSteps:=1000000)(disch:=(first|omega|(simp only [qI,qJ,qK]<;>omega)|exact qL _)) only [go_sem,↓reduceIte,n0,reduceCtorEq,n1,n2,n3,n4,n5,i0,i1,i2,i3,i4,i5,i6,i7,hlq6]
  generalize hw6 : wr w5 (w.heap.size + 1) 10 [.int .i64 (if decide ((t.at 2).n % 2 = 1) = true then 1 else 0 : Int),.slice none 0 0,.bool false,.slice none 0 0,.slice none 0 0] = w6
  have hl6 : blk w6 (w.heap.size + 1) = some (#[.int .i64 0,.slice av2 (uuidS (t.at 0).s).length kv2,.bool false,.slice none 0 0,.slice none 0 0,.int .i64 (IntKind.i32.wrap (t.at 1).n),.slice none 0 0,.bool false,.slice none 0 0,.slice none 0 0,.int .i64 (if decide ((t.at 2).n % 2 = 1) = true then 1 else 0 : Int),.slice none 0 0,.bool false,.slice none 0 0,.slice none 0 0,.int .i64 0,.slice none 0 0,.bool false,.slice none 0 0,.slice none 0 0,.int .i64 0,.slice none 0 0,.bool false,.slice none 0 0,.slice none 0 0],27,(0,0)) := by rw [← hw6,blk_wr_eq,hlq6];rfl
  have hv6 : Upd (fun b => b = w.heap.size + 1 ∨ b = w.heap.size + 2) w5 w6 := by rw [← hw6];exact (Upd.refl _ _).wr _ _ (.inr (.inl rfl))
  have hV6 : Upd (fun b => b = w.heap.size + 1 ∨ b = w.heap.size + 2) w4 w6 := hx6.trans hv6
  have hU6 : Upd (fun b => b = w.heap.size + 1 ∨ b = w.heap.size + 2) w1 w6 := hU4.trans hV6
  have hz6 := hU6.size
  have hX6 : Ext w w6 := hE1.more hU6 fun b hb h => by omega
  have hb6 := hX6.blk_some hb id
  have ht6 : blk w6 (w.heap.size + 2) = some (#[.int .i64 0,.slice none 0 0,.bool false,.slice (some ⟨w.heap.size + 1,0,none⟩) 5 5,.slice none 0 0],27,(0,0)) := by
    rw [← hw6,blk_wr_ne (by omega)]
    exact hP5.blk_some (show blk w4.drew (w.heap.size + 2) = _ from ht4) id
  clear hw6
  have hf2 : TreeC (fun b => w1.heap.size ≤ b) w6 (.num (if (t.at 2).n % 2 = 1 then 1 else 0)) [.int .i64 (if decide ((t.at 2).n % 2 = 1) = true then 1 else 0 : Int),.slice none 0 0,.bool false,.slice none 0 0,.slice none 0 0] := (TreeC.keep (hv6.keeps fun b hb hk e => by have hk' : w1.heap.size ≤ b := hk;omega) (by rw [hbe5];exact TreeC.intro (by split <;> rfl) (BytesV.nil _ _) (treesN _ _) (tagsN _ _) : TreeC (fun b => w1.heap.size ≤ b) w5 (.num (if (t.at 2).n % 2 = 1 then 1 else 0)) [.int .i64 (if decide ((t.at 2).n % 2 = 1) = true then 1 else 0 : Int),.slice none 0 0,.bool false,.slice none 0 0,.slice none 0 0]))
  repeat ((first | refine qA rfl ?_|refine qB ?_|refine qC rfl ?_|refine qD ?_|refine qE ?_|refine qF ?_|refine qG ?_|refine qH ?_);try simp (maxSteps:=1000000)(disch:=(first|omega|(simp only [qI,qJ,qK]<;>omega)|exact qL _)) only [go_sem,↓reduceIte,n0,reduceCtorEq,n1,n2,n3,n4,n5,i0,i1,i2,i3,i4,i5,i6,i7,hb6,hl6,ht6,hq0,hq1,hq2,hq3,hq4,hq5,hq6,hq7,hq8,hq9,hq10,hq11,hq12,hq13,hq14,hq15,hq16,hq17,hq18,hq19,hq20])
  refine W.drawR (.take 0 (.take 1 (.take 2 (.take 3 (.take 4 (.take 5 (.take 6 (.only 7 (.take 8 (.last 9)))))))))) (NoB) mixed (by kernel_rfl) ?_
  simp (maxSteps:=1000000)(disch:=(first|omega|(simp only [qI,qJ,qK]<;>omega)|exact qL _)) only [go_sem,↓reduceIte,n0,reduceCtorEq,n1,n2,n3,n4,n5,i0,i1,i2,i3,i4,i5,i6,i7,hb6,hl6,ht6,hq0,hq1,hq2,hq3,hq4,hq5,hq6,hq7,hq8,hq9,hq10,hq11,hq12,hq13,hq14,hq15,hq16,hq17,hq18,hq19,hq20,tl8]
  refine ⟨Upd.refl _ _,?_⟩
  have hlq7 : blk w6.drew (w.heap.size + 1) = _ := hl6
  have hx7 : Upd (fun b => b = w.heap.size + 1 ∨ b = w.heap.size + 2) w6 w6.drew := (Upd.refl _ _).drew
  generalize hw7 : wr w6.drew (w.heap.size + 1) 15 [.int .i64 (IntKind.i8.wrap (t.at 3).n),.slice none 0 0,.bool false,.slice none 0 0,.slice none 0 0] = w7
  have hl7 : blk w7 (w.heap.size + 1) = some (#[.int .i64 0,.slice av2 (uuidS (t.at 0).s).length kv2,.bool false,.slice none 0 0,.slice none 0 0,.int .i64 (IntKind.i32.wrap (t.at 1).n),.slice none 0 0,.bool false,.slice none 0 0,.slice none 0 0,.int .i64 (if decide ((t.at 2).n % 2 = 1) = true then 1 else 0 : Int),.slice none 0 0,.bool false,.slice none 0 0,.slice none 0 0,.int .i64 (IntKind.i8.wrap (t.at 3).n),.slice none 0 0,.bool false,.slice none 0 0,.slice none 0 0,.int .i64 0,.slice none 0 0,.bool false,.slice none 0 0,.slice none 0 0],27,(0,0)) := by rw [← hw7,blk_wr_eq,hlq7];rfl
  have hv7 : Upd (fun b => b = w.heap.size + 1 ∨ b = w.heap.size + 2) w6.drew w7 := by rw [← hw7];exact (Upd.refl _ _).wr _ _ (.inr (.inl rfl))
  have hV7 : Upd (fun b => b = w.heap.size + 1 ∨ b = w.heap.size + 2) w6 w7 := hx7.trans hv7
  have hU7 : Upd (fun b => b = w.heap.size + 1 ∨ b = w.heap.size + 2) w1 w7 := hU6.trans hV7
  have hz7 := hU7.size
  have hX7 : Ext w w7 := hE1.more hU7 fun b hb h => by omega
  have hb7 := hX7.blk_some hb id
  have ht7 : blk w7 (w.heap.size + 2) = some (#[.int .i64 0,.slice none 0 0,.bool false,.slice (some ⟨w.heap.size + 1,0,none⟩) 5 5,.slice none 0 0],27,(0,0)) := by
    rw [← hw7,blk_wr_ne (by omega)]
    exact ht6
  clear hw7
  have hf3 : TreeC (fun b => w1.heap.size ≤ b) w7 (.num (IntKind.i8.wrap (t.at 3).n)) [.int .i64 (IntKind.i8.wrap (t.at 3).n),.slice none 0 0,.bool false,.slice none 0 0,.slice none 0 0] := (TreeC.keep (hv7.keeps fun b hb hk e => by have hk' : w1.heap.size ≤ b := hk;omega) (TreeC.intro (tl8 _) (BytesV.nil _ _) (treesN _ _) (tagsN _ _) : TreeC (fun b => w1.heap.size ≤ b) w6.drew (.num (IntKind.i8.wrap (t.at 3).n)) [.int .i64 (IntKind.i8.wrap (t.at 3).n),.slice none 0 0,.bool false,.slice none 0 0,.slice none 0 0]))
  repeat ((first | refine qA rfl ?_|refine qB ?_|refine qC rfl ?_|refine qD ?_|refine qE ?_|refine qF ?_|refine qG ?_|refine qH ?_);try simp (maxSteps:=1000000)(disch:=(first|omega|(simp only [qI,qJ,qK]<;>omega)|exact qL _)) only [go_sem,↓reduceIte,n0,reduceCtorEq,n1,n2,n3,n4,n5,i0,i1,i2,i3,i4,i5,i6,i7,hb7,hl7,ht7,hq0,hq1,hq2,hq3,hq4,hq5,hq6,hq7,hq8,hq9,hq10,hq11,hq12,hq13,hq14,hq15,hq16,hq17,hq18,hq19,hq20])
  refine W.drawR (.take 0 (.take 1 (.take 2 (.take 3 (.take 4 (.take 5 (.only 6 (.take 7 (.last 8))))))))) (NoB) mixed (by kernel_rfl) ?_
  simp (maxSteps:=1000000)(disch:=(first|omega|(simp only [qI,qJ,qK]<;>omega)|exact qL _)) only [go_sem,↓reduceIte,n0,reduceCtorEq,n1,n2,n3,n4,n5,i0,i1,i2,i3,i4,i5,i6,i7,hb7,hl7,ht7,hq0,hq1,hq2,hq3,hq4,hq5,hq6,hq7,hq8,hq9,hq10,hq11,hq12,hq13,hq14,hq15,hq16,hq17,hq18,hq19,hq20]
  refine (octetsTree_fn (ok := ok) _ (t.at 4).null (t.at 4).s w7.drew (hp4.keep (Ext.keeps (hX7.drew) _)) (by have := (gd4.one (by decide)).2.1;omega)).mono ?_
  rintro _ w8 ⟨⟨vS8,rfl,hB8⟩,hEx8⟩
  have hfl8 := hB8.flat
  have hP8 : Upd NoB w7.drew w8 := (Upd.refl _ _).trans (hEx8.mono fun _ h => h.elim)
  have hs8 := hEx8.size
  refine ⟨hP8,?_⟩
  simp (maxSteps:=1000000)(disch:=(first|omega|(simp only [qI,qJ,qK]<;>omega)|exact qL _)) only [go_sem,↓reduceIte,n0,reduceCtorEq,n1,n2,n3,n4,n5,i0,i1,i2,i3,i4,i5,i6,i7,hb7,hl7,ht7,hq0,hq1,hq2,hq3,hq4,hq5,hq6,hq7,hq8,hq9,hq10,hq11,hq12,hq13,hq14,hq15,hq16,hq17,hq18,hq19,hq20,hfl8]
  have hlq9 := hP8.blk_some (show blk w7.drew (w.heap.size + 1) = _ from hl7) id
  have hx9 : Upd (fun b => b = w.heap.size + 1 ∨ b = w.heap.size + 2) w7 w8 := ((Upd.refl _ _).drew).trans (hP8.mono fun _ h => h.elim)
  try simp (maxSteps:=1000000)(disch:=(first|omega|(simp only [qI,qJ,qK]<;>omega)|exact qL _)) only [go_sem,↓reduceIte,n0,reduceCtorEq,n1,n2,n3,n4,n5,i0,i1,i2,i3,i4,i5,i6,i7,hlq9]
  generalize hw9 : wr w8 (w.heap.size + 1) 20 [.int .i64 0,vS8,.bool (t.at 4).null,.slice none 0 0,.slice none 0 0] = w9
  have hl9 : blk w9 (w.heap.size + 1) = some (#[.int .i64 0,.slice av2 (uuidS (t.at 0).s).length kv2,.bool false,.slice none 0 0,.slice none 0 0,.int .i64 (IntKind.i32.wrap (t.at 1).n),.slice none 0 0,.bool false,.slice none 0 0,.slice none 0 0,.int .i64 (if decide ((t.at 2).n % 2 = 1) = true then 1 else 0 : Int),.slice none 0 0,.bool false,.slice none 0 0,.slice none 0 0,.int .i64 (IntKind.i8.wrap (t.at 3).n),.slice none 0 0,.bool false,.slice none 0 0,.slice none 0 0,.int .i64 0,vS8,.bool (t.at 4).null,.slice none 0 0,.slice none 0 0],27,(0,0)) := by rw [← hw9,blk_wr_eq,hlq9];rfl
  have hv9 : Upd (fun b => b = w.heap.size + 1 ∨ b = w.heap.size + 2) w8 w9 := by rw [← hw9];exact (Upd.refl _ _).wr _ _ (.inr (.inl rfl))
  have hV9 : Upd (fun b => b = w.heap.size + 1 ∨ b = w.heap.size + 2) w7 w9 := hx9.trans hv9
  have hU9 : Upd (fun b => b = w.heap.size + 1 ∨ b = w.heap.size + 2) w1 w9 := hU7.trans hV9
  have hz9 := hU9.size
  have hX9 : Ext w w9 := hE1.more hU9 fun b hb h => by omega
  have hb9 := hX9.blk_some hb id
  have ht9 : blk w9 (w.heap.size + 2) = some (#[.int .i64 0,.slice none 0 0,.bool false,.slice (some ⟨w.heap.size + 1,0,none⟩) 5 5,.slice none 0 0],27,(0,0)) := by
    rw [← hw9,blk_wr_ne (by omega)]
    exact hP8.blk_some (show blk w7.drew (w.heap.size + 2) = _ from ht7) id
  clear hw9
  have hf4 : TreeC (fun b => w1.heap.size ≤ b) w9 (.oct (t.at 4).null (if (t.at 4).null = true then [] else (t.at 4).s)) [.int .i64 0,vS8,.bool (t.at 4).null,.slice none 0 0,.slice none 0 0] := (TreeC.keep (hv9.keeps fun b hb hk e => by have hk' : w1.heap.size ≤ b := hk;omega) (TreeC.intro rfl (hB8.weaken fun b _ hk => by have hk' : w7.drew.heap.size ≤ b := hk;simp only [size_drew] at hk';omega) (treesN _ _) (tagsN _ _) : TreeC (fun b => w1.heap.size ≤ b) w8 (.oct (t.at 4).null (if (t.at 4).null = true then [] else (t.at 4).s)) [.int .i64 0,vS8,.bool (t.at 4).null,.slice none 0 0,.slice none 0 0]))
  repeat ((first | refine qA rfl ?_|refine qB ?_|refine qC rfl ?_|refine qD ?_|refine qE ?_|refine qF ?_|refine qG ?_|refine qH ?_);try simp (maxSteps:=1000000)(disch:=(first|omega|(simp only [qI,qJ,qK]<;>omega)|exact qL _)) only [go_sem,↓reduceIte,n0,reduceCtorEq,n1,n2,n3,n4,n5,i0,i1,i2,i3,i4,i5,i6,i7,hb9,hl9,ht9,hq0,hq1,hq2,hq3,hq4,hq5,hq6,hq7,hq8,hq9,hq10,hq11,hq12,hq13,hq14,hq15,hq16,hq17,hq18,hq19,hq20])
  refine (EachG_fn (ok := fun b => b < w.heap.size) 149 ca_149 #[.pointer (some ⟨w.heap.size + 2,0,none⟩)] w9 (tb := b) (to := 21) hb9 hq20 ((hT.weaken fun b hb _ => hb).keep (hX9.keeps _)) (sortT_perm _) (sortT_lt hgu.2.1) (by rw [(sortT_perm t.u).length_eq];exact hgu.1)
    (fun b => b = w.heap.size + 2) (by omega) (fun b hb hk e => by have hk' : b < w.heap.size := hk;omega) (fun b hb => by have := blk_lt ht9;omega)
    (fun wl done w' => ∃ v,blk w' (w.heap.size + 2) = some (#[.int .i64 0,.slice none 0 0,.bool false,.slice (some ⟨w.heap.size + 1,0,none⟩) 5 5,v],27,(0,0)) ∧ GrowU (fun b => w1.heap.size ≤ b) wl.heap.size (w.heap.size + 2) w' 59 v done) (fun wl hE => ⟨_,hE.blk_some ht9 id,GrowU.nil _ _ _ _ _⟩) ?_).mono ?_
  · rintro wl hE done y vv wc hpre ⟨v,hbv,hg⟩ hU hvv hy
    have hz' := hE.size
    have hzu := hU.size
    have htl := blk_lt ht9
    have hpl := hpre.length_le
    simp only [List.length_append,List.length_cons,List.length_nil] at hpl
    rw [(sortT_perm t.u).length_eq] at hpl
    have hlu := hgu.1
    have hmy : y ∈ t.u := (sortT_perm t.u).mem_iff.1 (hpre.subset (by simp))
    refine (tagclPushTelemetryRequest_fn (ok := fun b => b < w.heap.size) _ _ _ _ v done y vv wc hbv hg hzu (by omega) (hvv.keep ((hE.mono (fun _ h => h.elim) |>.trans hU : Upd (fun b => b = w.heap.size + 2) w9 wc).keeps fun b _ hk e => by have hk' : b < w.heap.size := hk;omega)) hy (hgu.2.2 y hmy) (by omega) (fun b hb => by have := hz9;omega)).mono ?_
    rintro _ w2' ⟨⟨v',h1,h2⟩,h3⟩
    exact ⟨⟨v',h1,h2⟩,hU.trans' h3 fun b hb h => h.elim id fun h => by omega⟩
  rintro _ w10 ⟨wl,hEl,⟨v,ht10,hgU⟩,hUe⟩
  have hzl := hEl.size
  obtain ⟨aU,kU,hvs,_⟩ := hgU.shape
  subst hvs
  have hV10 : Upd (fun b => b = w.heap.size + 1 ∨ b = w.heap.size + 2) w9 w10 := (hEl.mono fun _ h => h.elim).trans (hUe.mono fun _ h => .inr h)
  have hU10 : Upd (fun b => b = w.heap.size + 1 ∨ b = w.heap.size + 2) w1 w10 := hU9.trans hV10
  have hz10 := hU10.size
  have hX10 : Ext w w10 := hE1.more hU10 fun b hb h => by omega
  have hb10 := hX10.blk_some hb id
  have hl10 := (((hEl.mono fun _ h => h.elim).trans hUe : Upd (fun b => b = w.heap.size + 2) w9 w10)).blk_some hl9 (by omega)
  have hTU := hgU.tags (ok' := (fun b => w1.heap.size ≤ b)) (fun _ _ h => h) (fun b hb => by have := hz9;omega)
  repeat ((first | refine qA rfl ?_|refine qB ?_|refine qC rfl ?_|refine qD ?_|refine qE ?_|refine qF ?_|refine qG ?_|refine qH ?_);try simp (maxSteps:=1000000)(disch:=(first|omega|(simp only [qI,qJ,qK]<;>omega)|exact qL _)) only [go_sem,↓reduceIte,n0,reduceCtorEq,n1,n2,n3,n4,n5,i0,i1,i2,i3,i4,i5,i6,i7,hb10,hl10,ht10,hq0,hq1,hq2,hq3,hq4,hq5,hq6,hq7,hq8,hq9,hq10,hq11,hq12,hq13,hq14,hq15,hq16,hq17,hq18,hq19,hq20,cellsAt_five])
  refine (sorted_fn _ _ w10 hTU (sortT_lt hgu.2.1) (by rw [(sortT_perm t.u).length_eq];exact hgu.1)).mono ?_
  rintro _ w11 hEs
  have hV11 : Upd (fun b => b = w.heap.size + 1 ∨ b = w.heap.size + 2) w10 w11 := hEs.mono fun _ h => h.elim
  have hU11 : Upd (fun b => b = w.heap.size + 1 ∨ b = w.heap.size + 2) w1 w11 := hU10.trans hV11
  have hz11 := hU11.size
  have hX11 : Ext w w11 := hE1.more hU11 fun b hb h => by omega
  have hb11 := hX11.blk_some hb id
  have hl11 := hEs.blk_some hl10 id
  have ht11 := hEs.blk_some ht10 id
  have hr11 := (hU11.blk_some hr1 (by omega))
  have hC_11 : Upd (fun b => b = w.heap.size + 1 ∨ b = w.heap.size + 2) w11 w11 := Upd.refl _ _
  have hC_10 : Upd (fun b => b = w.heap.size + 1 ∨ b = w.heap.size + 2) w10 w11 := hV11.trans hC_11
  have hC_9 : Upd (fun b => b = w.heap.size + 1 ∨ b = w.heap.size + 2) w9 w11 := hV10.trans hC_10
  have hC_7 : Upd (fun b => b = w.heap.size + 1 ∨ b = w.heap.size + 2) w7 w11 := hV9.trans hC_9
  have hC_6 : Upd (fun b => b = w.heap.size + 1 ∨ b = w.heap.size + 2) w6 w11 := hV7.trans hC_7
  have hC_4 : Upd (fun b => b = w.heap.size + 1 ∨ b = w.heap.size + 2) w4 w11 := hV6.trans hC_6
  have hC_3 : Upd (fun b => b = w.heap.size + 1 ∨ b = w.heap.size + 2) w3 w11 := hV4.trans hC_4
  have hC_1 : Upd (fun b => b = w.heap.size + 1 ∨ b = w.heap.size + 2) w1 w11 := hV3.trans hC_3
  have hF0 := TreeC.keep (hC_3.keeps fun b hb hk e => by have hk' : w1.heap.size ≤ b := hk;omega) hf0
  have hF1 := TreeC.keep (hC_4.keeps fun b hb hk e => by have hk' : w1.heap.size ≤ b := hk;omega) hf1
  have hF2 := TreeC.keep (hC_6.keeps fun b hb hk e => by have hk' : w1.heap.size ≤ b := hk;omega) hf2
  have hF3 := TreeC.keep (hC_7.keeps fun b hb hk e => by have hk' : w1.heap.size ≤ b := hk;omega) hf3
  have hF4 := TreeC.keep (hC_9.keeps fun b hb hk e => by have hk' : w1.heap.size ≤ b := hk;omega) hf4
  replace hF0 : TreeC (fun b => w1.heap.size ≤ b) w11 (tlF (tlP d) fPushTelemetryRequest_0 (t.at 0)) [.int .i64 0,.slice av2 (uuidS (t.at 0).s).length kv2,.bool false,.slice none 0 0,.slice none 0 0] := hF0
  replace hF1 : TreeC (fun b => w1.heap.size ≤ b) w11 (tlF (tlP d) fPushTelemetryRequest_1 (t.at 1)) [.int .i64 (IntKind.i32.wrap (t.at 1).n),.slice none 0 0,.bool false,.slice none 0 0,.slice none 0 0] := hF1
  replace hF2 : TreeC (fun b => w1.heap.size ≤ b) w11 (tlF (tlP d) fPushTelemetryRequest_2 (t.at 2)) [.int .i64 (if decide ((t.at 2).n % 2 = 1) = true then 1 else 0 : Int),.slice none 0 0,.bool false,.slice none 0 0,.slice none 0 0] := hF2
  replace hF3 : TreeC (fun b => w1.heap.size ≤ b) w11 (tlF (tlP d) fPushTelemetryRequest_3 (t.at 3)) [.int .i64 (IntKind.i8.wrap (t.at 3).n),.slice none 0 0,.bool false,.slice none 0 0,.slice none 0 0] := hF3
  replace hF4 : TreeC (fun b => w1.heap.size ≤ b) w11 (tlF (tlP d) fPushTelemetryRequest_4 (t.at 4)) [.int .i64 0,vS8,.bool (t.at 4).null,.slice none 0 0,.slice none 0 0] := hF4
  have hTL : TreesV (fun b => (fun b => w1.heap.size ≤ b) b ∨ b = w.heap.size + 1) w11 (.slice (some ⟨w.heap.size + 1,0,none⟩) 5 5) [tlF (tlP d) fPushTelemetryRequest_0 (t.at 0),tlF (tlP d) fPushTelemetryRequest_1 (t.at 1),tlF (tlP d) fPushTelemetryRequest_2 (t.at 2),tlF (tlP d) fPushTelemetryRequest_3 (t.at 3),tlF (tlP d) fPushTelemetryRequest_4 (t.at 4)] := by
    refine ⟨[[.int .i64 0,.slice av2 (uuidS (t.at 0).s).length kv2,.bool false,.slice none 0 0,.slice none 0 0],[.int .i64 (IntKind.i32.wrap (t.at 1).n),.slice none 0 0,.bool false,.slice none 0 0,.slice none 0 0],[.int .i64 (if decide ((t.at 2).n % 2 = 1) = true then 1 else 0 : Int),.slice none 0 0,.bool false,.slice none 0 0,.slice none 0 0],[.int .i64 (IntKind.i8.wrap (t.at 3).n),.slice none 0 0,.bool false,.slice none 0 0,.slice none 0 0],[.int .i64 0,vS8,.bool (t.at 4).null,.slice none 0 0,.slice none 0 0]],⟨_,5,rfl,Nat.le_refl _,(by intro cs hm;simp only [List.mem_cons,List.not_mem_nil,or_false] at hm;rcases hm with rfl | rfl | rfl | rfl | rfl <;> rfl),.inr ⟨_,rfl,rfl,.inr rfl,_,hl11,fun i hi => by rw [Nat.zero_add,List.getElem?_toArray];rfl⟩⟩,rfl,fun i h1 h2 => ?_⟩
    match i,h1 with
    | 0,_ => exact TreeC.weaken (fun b _ hk => .inl hk) hF0
    | 1,_ => exact TreeC.weaken (fun b _ hk => .inl hk) hF1
    | 2,_ => exact TreeC.weaken (fun b _ hk => .inl hk) hF2
    | 3,_ => exact TreeC.weaken (fun b _ hk => .inl hk) hF3
    | 4,_ => exact TreeC.weaken (fun b _ hk => .inl hk) hF4
  repeat ((first | refine qA rfl ?_|refine qB ?_|refine qC rfl ?_|refine qD ?_|refine qE ?_|refine qF ?_|refine qG ?_|refine qH ?_);try simp (maxSteps:=1000000)(disch:=(first|omega|(simp only [qI,qJ,qK]<;>omega)|exact qL _)) only [go_sem,↓reduceIte,n0,reduceCtorEq,n1,n2,n3,n4,n5,i0,i1,i2,i3,i4,i5,i6,i7,hb11,hl11,ht11,hq0,hq1,hq2,hq3,hq4,hq5,hq6,hq7,hq8,hq9,hq10,hq11,hq12,hq13,hq14,hq15,hq16,hq17,hq18,hq19,hq20,hr11,cellsAt_five])
  refine ⟨⟨_,rfl,?_⟩,hX11.wr _ _ (.inl (Nat.le_refl _))⟩
  have hUr : Upd (fun b => b = w.heap.size) w11 (wr w11 w.heap.size 0 [.int .i64 0,.slice none 0 0,.bool false,.slice (some ⟨w.heap.size + 1,0,none⟩) 5 5,.slice aU (sortT t.u).length kU]) := (Upd.refl _ _).wr _ _ (.inr rfl)
  have hTU2 := hTU.keep (hEs.keeps _)
  exact TreeC.intro rfl (BytesV.nil _ _) ((hTL.keep (hUr.keeps fun b _ hk e => by rcases hk with hk | hk <;> omega)).weaken fun b _ hk => by rcases hk with hk | hk <;> omega) ((hTU2.keep (hUr.keeps fun b _ hk e => by omega)).weaken fun b _ hk => by omega)
end Ms

namespace Ms
open Go.World renaming size_alloc → qI
open Ms renaming size_wr → qJ,size_drew → qK,not_noB → qL
open W renaming seqR → qA,seq → qB,regR → qC,condK → qD,block → qE,skip → qF,ret → qG,exit → qH
open Nat renaming reduceEqDiff → n0,reduceAdd → n1,reduceMul → n2,reduceSub → n3,reduceLT → n4,reduceLeDiff → n5
open Int renaming reduceEq → i0,reduceLT → i1,reduceLE → i2,reduceNeg → i3,reduceAdd → i4,reduceSub → i5,reduceMul → i6,reduceToNat → i7
set_option maxRecDepth 8000
open Go Go.Proofs Go.Shelf
attribute [local congr] W_congr WPsq_congr WPp_congr optK_congr addrK_congr intK_congr boolK_congr sliceK_congr tupleK_congr funcK_congr Fn_congr rawK_congr takeK_congr stepK_congr convK_congr aggK_congr

set_option maxHeartbeats 2000000 in
theorem TellDPushTelemetryRequest_fn {d : Nat} {ok : Blocks} {ev : Value} (ver : Nat) (hv : ver ≤ 0) (b : Value) (s : List UInt8) (w : World) (hb : BytesV ok w b s) (hG : Glo ev w) (hev : ∃ T p,ev = .iface T p) (hs : s.length ≤ 1000) (hdf : okDf (d + 1) fs_PushTelemetryRequest = true) (fin : Tree × St) (hfin : fin = rdP (d + 1) ver (flexB 0 ver) fs_PushTelemetryRequest (some s)) :
    Fn Tryd.prog 17 #[.int .i64 ver,b] w fun r w' => (∃ c T,r = .tuple #[.agg c.toArray,.bool fin.2.isSome] ∧ TreeC AnyB w' T c ∧ (fin.2.isSome = true → T = tlP (d + 1) fs_PushTelemetryRequest fin.1)) ∧ Ext w w' := by
  obtain ⟨ba,bc,rfl,_⟩ := hb.shape
  have hgl := hG.lt
  have ew : IntKind.i16.wrap (ver : Int) = ver := i16_wrap (by omega)
  have hE0 : Ext w (w.alloc (.cells #[.int .i64 0,.slice none 0 0,.bool false,.slice none 0 0,.slice none 0 0] 27)) := Upd.alloc (Upd.refl _ _) _
  have hz0 : (w.alloc (.cells #[.int .i64 0,.slice none 0 0,.bool false,.slice none 0 0,.slice none 0 0] 27)).heap.size = w.heap.size + 1 := World.size_alloc _ _
  have hr0 : blk (w.alloc (.cells #[.int .i64 0,.slice none 0 0,.bool false,.slice none 0 0,.slice none 0 0] 27)) w.heap.size = some (#[.int .i64 0,.slice none 0 0,.bool false,.slice none 0 0,.slice none 0 0],27,(0,0)) := blk_alloc_new rfl
  refine fn_of_W Tryd.func17 rfl Tryd.results17 Tryd.ntmps17 rfl ?_
  repeat ((first | refine qA rfl ?_|refine qB ?_|refine qC rfl ?_|refine qD ?_|refine qE ?_|refine qF ?_|refine qG ?_|refine qH ?_);try simp (maxSteps:=1000000)(disch:=(first|omega|(simp only [qI,qJ,qK]<;>omega)|exact qL _)) only [go_sem,↓reduceIte,n0,reduceCtorEq,n1,n2,n3,n4,n5,i0,i1,i2,i3,i4,i5,i6,i7,ew])
  generalize (w.alloc (.cells #[.int .i64 0,.slice none 0 0,.bool false,.slice none 0 0,.slice none 0 0] 27)) = w0 at *
  refine (NewPtrPushTelemetryRequest_fn w0).mono ?_
  rintro _ w1 ⟨rfl,hb1,hE1⟩
  have hz1 := blk_lt hb1
  repeat ((first | refine qA rfl ?_|refine qB ?_|refine qC rfl ?_|refine qD ?_|refine qE ?_|refine qF ?_|refine qG ?_|refine qH ?_);try simp (maxSteps:=1000000)(disch:=(first|omega|(simp only [qI,qJ,qK]<;>omega)|exact qL _)) only [go_sem,↓reduceIte,n0,reduceCtorEq,n1,n2,n3,n4,n5,i0,i1,i2,i3,i4,i5,i6,i7,ew])
  refine (SetVersionPushTelemetryRequest_fn w1 (vb := w0.heap.size) ver hb1).mono ?_
  rintro _ w2 ⟨hb2,hU2⟩
  have hz2 := hU2.size
  have hE2 : Ext w0 w2 := hE1.more hU2 fun b hb h => by omega
  repeat ((first | refine qA rfl ?_|refine qB ?_|refine qC rfl ?_|refine qD ?_|refine qE ?_|refine qF ?_|refine qG ?_|refine qH ?_);try simp (maxSteps:=1000000)(disch:=(first|omega|(simp only [qI,qJ,qK]<;>omega)|exact qL _)) only [go_sem,↓reduceIte,n0,reduceCtorEq,n1,n2,n3,n4,n5,i0,i1,i2,i3,i4,i5,i6,i7,ew])
  refine wp_copyN ap_22_22 (ok := ok) (s := s) (v := .slice ba _ bc) (by first | rfl | simp (maxSteps:=1000000)(disch:=(first|omega|(simp only [qI,qJ,qK]<;>omega)|exact qL _)) only [go_sem,↓reduceIte,n0,reduceCtorEq,n1,n2,n3,n4,n5,i0,i1,i2,i3,i4,i5,i6,i7]) (by first | rfl | simp (maxSteps:=1000000)(disch:=(first|omega|(simp only [qI,qJ,qK]<;>omega)|exact qL _)) only [go_sem,↓reduceIte,n0,reduceCtorEq,n1,n2,n3,n4,n5,i0,i1,i2,i3,i4,i5,i6,i7]) (hb.keep (Ext.keeps (hE0.trans hE2) _)) (by omega) ?_
  intro v3 w3 ho3 hE3 hf3
  have hz3 := hE3.size
  have hb3 := hE3.blk_some hb2 id
  have hE03 : Ext w0 w3 := hE2.trans hE3
  have hG3 : Glo ev w3 := hG.updS (hE0.trans hE03) id id
  obtain ⟨a3,c3,rfl,_⟩ := ho3.shape
  simp (maxSteps:=1000000)(disch:=(first|omega|(simp only [qI,qJ,qK]<;>omega)|exact qL _)) only [go_sem,↓reduceIte,n0,reduceCtorEq,n1,n2,n3,n4,n5,i0,i1,i2,i3,i4,i5,i6,i7]
  refine (ReadFromPushTelemetryRequest_fn (d := d) (ok := fun b => b < w3.heap.size ∧ b ≠ w0.heap.size) (ev := ev) (ver := ver) (by omega) (by omega) w3 _ _ hb3 ((Own.bytes ho3 hf3).weaken fun b hb hk => ⟨hb,by omega⟩) (fun b hb => hb) hG3 ⟨by omega,by omega⟩).mono ?_
  rw [← hfin]
  rintro r4 w4 ⟨h4n,h4s,hU4⟩
  have hz4 := hU4.size
  have hE4 : Ext w0 w4 := hE03.more hU4 fun b hb h => by omega
  have hr4 := hE4.blk_some hr0 id
  by_cases hst : fin.2 = none
  · obtain rfl := h4n hst
    obtain ⟨eT,ep,rfl⟩ := hev
    have hso : fin.2.isSome = false := by rw [hst];rfl
    rw [hso]
    try simp (maxSteps:=1000000)(disch:=(first|omega|(simp only [qI,qJ,qK]<;>omega)|exact qL _)) only [go_sem,↓reduceIte,n0,reduceCtorEq,n1,n2,n3,n4,n5,i0,i1,i2,i3,i4,i5,i6,i7,hr4]
    repeat ((first | refine qA rfl ?_|refine qB ?_|refine qC rfl ?_|refine qD ?_|refine qE ?_|refine qF ?_|refine qG ?_|refine qH ?_);try simp (maxSteps:=1000000)(disch:=(first|omega|(simp only [qI,qJ,qK]<;>omega)|exact qL _)) only [go_sem,↓reduceIte,n0,reduceCtorEq,n1,n2,n3,n4,n5,i0,i1,i2,i3,i4,i5,i6,i7,hr4,cellsAt_five])
    refine ⟨⟨[.int .i64 0,.slice none 0 0,.bool false,.slice none 0 0,.slice none 0 0],.zero,rfl,TreeC.intro rfl (BytesV.nil _ _) (treesN _ _) (tagsN _ _)⟩,(hE0.trans hE4).wr _ _ (.inl (Nat.le_refl _))⟩
  · obtain ⟨rfl,cells,hb4,hR4⟩ := h4s hst
    have hso : fin.2.isSome = true := isSome_some hst
    rw [hso]
    try simp (maxSteps:=1000000)(disch:=(first|omega|(simp only [qI,qJ,qK]<;>omega)|exact qL _)) only [go_sem,↓reduceIte,n0,reduceCtorEq,n1,n2,n3,n4,n5,i0,i1,i2,i3,i4,i5,i6,i7,hr4]
    repeat ((first | refine qA rfl ?_|refine qB ?_|refine qC rfl ?_|refine qD ?_|refine qE ?_|refine qF ?_|refine qG ?_|refine qH ?_);try simp (maxSteps:=1000000)(disch:=(first|omega|(simp only [qI,qJ,qK]<;>omega)|exact qL _)) only [go_sem,↓reduceIte,n0,reduceCtorEq,n1,n2,n3,n4,n5,i0,i1,i2,i3,i4,i5,i6,i7,hr4])
    have hgood : GoodP (d + 1) fs_PushTelemetryRequest fin.1 := by rw [hfin];exact rdP_good ver _ (d + 1) fs_PushTelemetryRequest hdf (some s) (by rw [stLen_some];omega)
    have hcl := (RepS_lay true (d + 1) fs_PushTelemetryRequest).flat hR4
    refine (tellPushTelemetryRequest_fn (d := d) fin.1 cells w4 hb4 (fun k hk => by show ((.int .i16 (ver : Int) :: cells).toArray)[1 + k]? = cells[k]?;rw [List.getElem?_toArray,Nat.add_comm,List.getElem?_cons_succ]) hR4 hgood).mono ?_
    rintro _ w5 ⟨⟨c5,rfl,hc5⟩,hE5⟩
    obtain ⟨vS,vL,vU,rfl,hn5,hS5,hL5,hU5⟩ := hc5.inv
    have f1 := hS5.flat
    have f2 := SlR.flat hL5
    have f3 := SlR.flat hU5
    have hr5 := hE5.blk_some hr4 id
    try simp (maxSteps:=1000000)(disch:=(first|omega|(simp only [qI,qJ,qK]<;>omega)|exact qL _)) only [go_sem,↓reduceIte,n0,reduceCtorEq,n1,n2,n3,n4,n5,i0,i1,i2,i3,i4,i5,i6,i7,hr5,f1,f2,f3]
    repeat ((first | refine qA rfl ?_|refine qB ?_|refine qC rfl ?_|refine qD ?_|refine qE ?_|refine qF ?_|refine qG ?_|refine qH ?_);try simp (maxSteps:=1000000)(disch:=(first|omega|(simp only [qI,qJ,qK]<;>omega)|exact qL _)) only [go_sem,↓reduceIte,n0,reduceCtorEq,n1,n2,n3,n4,n5,i0,i1,i2,i3,i4,i5,i6,i7,hr5,f1,f2,f3,cellsAt_five])
    have hUw : Upd (fun b => b = w.heap.size) w5 (wr w5 w.heap.size 0 [.int .i64 (tlP (d + 1) fs_PushTelemetryRequest fin.1).n,vS,.bool (tlP (d + 1) fs_PushTelemetryRequest fin.1).null,vL,vU]) := (Upd.refl _ _).wr _ _ (.inr rfl)
    refine ⟨⟨_,_,rfl,TreeC.weaken (fun _ _ _ => trivial) (TreeC.keep (hUw.keeps (ok := fun b => w4.heap.size ≤ b) fun b _ hk e => by have hk' : w4.heap.size ≤ b := hk;omega) hc5),rfl⟩,(hE0.trans (hE4.trans hE5)).wr _ _ (.inl (Nat.le_refl _))⟩

set_option maxHeartbeats 2000000 in
theorem UnsafeDPushTelemetryRequest_fn {d : Nat} {ok : Blocks} {ev : Value} (ver : Nat) (hv : ver ≤ 0) (b : Value) (s : List UInt8) (w : World) (hb : BytesV ok w b s) (hG : Glo ev w) (hev : ∃ T p,ev = .iface T p) (hs : s.length ≤ 1000) (hdf : okDf (d + 1) fs_PushTelemetryRequest = true) (fin : Tree × St) (hfin : fin = rdP (d + 1) ver (flexB 0 ver) fs_PushTelemetryRequest (some s)) :
    Fn Tryd.prog 19 #[.int .i64 ver,b] w fun r w' => (∃ c T,r = .tuple #[.agg c.toArray,.bool fin.2.isSome] ∧ TreeC AnyB w' T c ∧ (fin.2.isSome = true → T = tlP (d + 1) fs_PushTelemetryRequest fin.1)) ∧ Ext w w' := by
  obtain ⟨ba,bc,rfl,_⟩ := hb.shape
  have hgl := hG.lt
  have ew : IntKind.i16.wrap (ver : Int) = ver := i16_wrap (by omega)
  have hE0 : Ext w (w.alloc (.cells #[.int .i64 0,.slice none 0 0,.bool false,.slice none 0 0,.slice none 0 0] 27)) := Upd.alloc (Upd.refl _ _) _
  have hz0 : (w.alloc (.cells #[.int .i64 0,.slice none 0 0,.bool false,.slice none 0 0,.slice none 0 0] 27)).heap.size = w.heap.size + 1 := World.size_alloc _ _
  have hr0 : blk (w.alloc (.cells #[.int .i64 0,.slice none 0 0,.bool false,.slice none 0 0,.slice none 0 0] 27)) w.heap.size = some (#[.int .i64 0,.slice none 0 0,.bool false,.slice none 0 0,.slice none 0 0],27,(0,0)) := blk_alloc_new rfl
  refine fn_of_W Tryd.func19 rfl Tryd.results19 Tryd.ntmps19 rfl ?_
  repeat ((first | refine qA rfl ?_|refine qB ?_|refine qC rfl ?_|refine qD ?_|refine qE ?_|refine qF ?_|refine qG ?_|refine qH ?_);try simp (maxSteps:=1000000)(disch:=(first|omega|(simp only [qI,qJ,qK]<;>omega)|exact qL _)) only [go_sem,↓reduceIte,n0,reduceCtorEq,n1,n2,n3,n4,n5,i0,i1,i2,i3,i4,i5,i6,i7,ew])
  generalize (w.alloc (.cells #[.int .i64 0,.slice none 0 0,.bool false,.slice none 0 0,.slice none 0 0] 27)) = w0 at *
  refine (NewPtrPushTelemetryRequest_fn w0).mono ?_
  rintro _ w1 ⟨rfl,hb1,hE1⟩
  have hz1 := blk_lt hb1
  repeat ((first | refine qA rfl ?_|refine qB ?_|refine qC rfl ?_|refine qD ?_|refine qE ?_|refine qF ?_|refine qG ?_|refine qH ?_);try simp (maxSteps:=1000000)(disch:=(first|omega|(simp only [qI,qJ,qK]<;>omega)|exact qL _)) only [go_sem,↓reduceIte,n0,reduceCtorEq,n1,n2,n3,n4,n5,i0,i1,i2,i3,i4,i5,i6,i7,ew])
  refine (SetVersionPushTelemetryRequest_fn w1 (vb := w0.heap.size) ver hb1).mono ?_
  rintro _ w2 ⟨hb2,hU2⟩
  have hz2 := hU2.size
  have hE2 : Ext w0 w2 := hE1.more hU2 fun b hb h => by omega
  repeat ((first | refine qA rfl ?_|refine qB ?_|refine qC rfl ?_|refine qD ?_|refine qE ?_|refine qF ?_|refine qG ?_|refine qH ?_);try simp (maxSteps:=1000000)(disch:=(first|omega|(simp only [qI,qJ,qK]<;>omega)|exact qL _)) only [go_sem,↓reduceIte,n0,reduceCtorEq,n1,n2,n3,n4,n5,i0,i1,i2,i3,i4,i5,i6,i7,ew])
  refine wp_copyN ap_22_22 (ok := ok) (s := s) (v := .slice ba _ bc) (by first | rfl | simp (maxSteps:=1000000)(disch:=(first|omega|(simp only [qI,qJ,qK]<;>omega)|exact qL _)) only [go_sem,↓reduceIte,n0,reduceCtorEq,n1,n2,n3,n4,n5,i0,i1,i2,i3,i4,i5,i6,i7]) (by first | rfl | simp (maxSteps:=1000000)(disch:=(first|omega|(simp only [qI,qJ,qK]<;>omega)|exact qL _)) only [go_sem,↓reduceIte,n0,reduceCtorEq,n1,n2,n3,n4,n5,i0,i1,i2,i3,i4,i5,i6,i7]) (hb.keep (Ext.keeps (hE0.trans hE2) _)) (by omega) ?_
  intro v3 w3 ho3 hE3 hf3
  have hz3 := hE3.size
  have hb3 := hE3.blk_some hb2 id
  have hE03 : Ext w0 w3 := hE2.trans hE3
  have hG3 : Glo ev w3 := hG.updS (hE0.trans hE03) id id
  obtain ⟨a3,c3,rfl,_⟩ := ho3.shape
  simp (maxSteps:=1000000)(disch:=(first|omega|(simp only [qI,qJ,qK]<;>omega)|exact qL _)) only [go_sem,↓reduceIte,n0,reduceCtorEq,n1,n2,n3,n4,n5,i0,i1,i2,i3,i4,i5,i6,i7]
  refine (UnsafeReadFromPushTelemetryRequest_fn (d := d) (ok := fun b => b < w3.heap.size ∧ b ≠ w0.heap.size) (ev := ev) (ver := ver) (by omega) (by omega) w3 _ _ hb3 ((Own.bytes ho3 hf3).weaken fun b hb hk => ⟨hb,by omega⟩) (fun b hb => hb) hG3 ⟨by omega,by omega⟩).mono ?_
  rw [← hfin]
  rintro r4 w4 ⟨h4n,h4s,hU4⟩
  have hz4 := hU4.size
  have hE4 : Ext w0 w4 := hE03.more hU4 fun b hb h => by omega
  have hr4 := hE4.blk_some hr0 id
  by_cases hst : fin.2 = none
  · obtain rfl := h4n hst
    obtain ⟨eT,ep,rfl⟩ := hev
    have hso : fin.2.isSome = false := by rw [hst];rfl
    rw [hso]
    try simp (maxSteps:=1000000)(disch:=(first|omega|(simp only [qI,qJ,qK]<;>omega)|exact qL _)) only [go_sem,↓reduceIte,n0,reduceCtorEq,n1,n2,n3,n4,n5,i0,i1,i2,i3,i4,i5,i6,i7,hr4]
    repeat ((first | refine qA rfl ?_|refine qB ?_|refine qC rfl ?_|refine qD ?_|refine qE ?_|refine qF ?_|refine qG ?_|refine qH ?_);try simp (maxSteps:=1000000)(disch:=(first|omega|(simp only [qI,qJ,qK]<;>omega)|exact qL _)) only [go_sem,↓reduceIte,n0,reduceCtorEq,n1,n2,n3,n4,n5,i0,i1,i2,i3,i4,i5,i6,i7,hr4,cellsAt_five])
    refine ⟨⟨[.int .i64 0,.slice none 0 0,.bool false,.slice none 0 0,.slice none 0 0],.zero,rfl,TreeC.intro rfl (BytesV.nil _ _) (treesN _ _) (tagsN _ _)⟩,(hE0.trans hE4).wr _ _ (.inl (Nat.le_refl _))⟩
  · obtain ⟨rfl,cells,hb4,hR4⟩ := h4s hst
    have hso : fin.2.isSome = true := isSome_some hst
    rw [hso]
    try simp (maxSteps:=1000000)(disch:=(first|omega|(simp only [qI,qJ,qK]<;>omega)|exact qL _)) only [go_sem,↓reduceIte,n0,reduceCtorEq,n1,n2,n3,n4,n5,i0,i1,i2,i3,i4,i5,i6,i7,hr4]
    repeat ((first | refine qA rfl ?_|refine qB ?_|refine qC rfl ?_|refine qD ?_|refine qE ?_|refine qF ?_|refine qG ?_|refine qH ?_);try simp (maxSteps:=1000000)(disch:=(first|omega|(simp only [qI,qJ,qK]<;>omega)|exact qL _)) only [go_sem,↓reduceIte,n0,reduceCtorEq,n1,n2,n3,n4,n5,i0,i1,i2,i3,i4,i5,i6,i7,hr4])
    have hgood : GoodP (d + 1) fs_PushTelemetryRequest fin.1 := by rw [hfin];exact rdP_good ver _ (d + 1) fs_PushTelemetryRequest hdf (some s) (by rw [stLen_some];omega)
    have hcl := (RepS_lay true (d + 1) fs_PushTelemetryRequest).flat hR4
    refine (tellPushTelemetryRequest_fn (d := d) fin.1 cells w4 hb4 (fun k hk => by show ((.int .i16 (ver : Int) :: cells).toArray)[1 + k]? = cells[k]?;rw [List.getElem?_toArray,Nat.add_comm,List.getElem?_cons_succ]) hR4 hgood).mono ?_
    rintro _ w5 ⟨⟨c5,rfl,hc5⟩,hE5⟩
    obtain ⟨vS,vL,vU,rfl,hn5,hS5,hL5,hU5⟩ := hc5.inv
    have f1 := hS5.flat
    have f2 := SlR.flat hL5
    have f3 := SlR.flat hU5
    have hr5 := hE5.blk_some hr4 id
    try simp (maxSteps:=1000000)(disch:=(first|omega|(simp only [qI,qJ,qK]<;>omega)|exact qL _)) only [go_sem,↓reduceIte,n0,reduceCtorEq,n1,n2,n3,n4,n5,i0,i1,i2,i3,i4,i5,i6,i7,hr5,f1,f2,f3]
    repeat ((first | refine qA rfl ?_|refine qB ?_|refine qC rfl ?_|refine qD ?_|refine qE ?_|refine qF ?_|refine qG ?_|refine qH ?_);try simp (maxSteps:=1000000)(disch:=(first|omega|(simp only [qI,qJ,qK]<;>omega)|exact qL _)) only [go_sem,↓reduceIte,n0,reduceCtorEq,n1,n2,n3,n4,n5,i0,i1,i2,i3,i4,i5,i6,i7,hr5,f1,f2,f3,cellsAt_five])
    have hUw : Upd (fun b => b = w.heap.size) w5 (wr w5 w.heap.size 0 [.int .i64 (tlP (d + 1) fs_PushTelemetryRequest fin.1).n,vS,.bool (tlP (d + 1) fs_PushTelemetryRequest fin.1).null,vL,vU]) := (Upd.refl _ _).wr _ _ (.inr rfl)
    refine ⟨⟨_,_,rfl,TreeC.weaken (fun _ _ _ => trivial) (TreeC.keep (hUw.keeps (ok := fun b => w4.heap.size ≤ b) fun b _ hk e => by have hk' : w4.heap.size ≤ b := hk;omega) hc5),rfl⟩,(hE0.trans (hE4.trans hE5)).wr _ _ (.inl (Nat.le_refl _))⟩

end Ms

