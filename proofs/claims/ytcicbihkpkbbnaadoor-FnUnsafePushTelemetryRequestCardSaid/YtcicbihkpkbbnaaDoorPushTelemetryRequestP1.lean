/- A part of the proof: see the last text. -/
import GoSem.ClaimChange
import Derived.JoinedOf
import Derived.Test.YtcicbihkpkbbnaaDoorCards
import Derived.Test.YtcicbihkpkbbnaaDoorTie
import Derived.JoinedCond
import Derived.Test.YtcicbihkpkbbnaaDoorC00
import Derived.Test.YtcicbihkpkbbnaaDoorC04
import Derived.Test.YtcicbihkpkbbnaaDoorC07
import Derived.Test.YtcicbihkpkbbnaaDoorPushTelemetryRequestP0
set_option linter.unusedSimpArgs false
set_option linter.unusedVariables false
namespace Ms
open Go.World renaming size_alloc → qI
open Ms renaming size_wr → qJ,size_drew → qK,not_noB → qL
open W renaming seqR → qA,seq → qB,regR → qC,condK → qD,block → qE,skip → qF,ret → qG,exit → qH
open Nat renaming reduceEqDiff → n0,reduceAdd → n1,reduceMul → n2,reduceSub → n3,reduceLT → n4,reduceLeDiff → n5
open Int renaming reduceEq → i0,reduceLT → i1,reduceLE → i2,reduceNeg → i3,reduceAdd → i4,reduceSub → i5,reduceMul → i6,reduceToNat → i7
set_option maxRecDepth 8000
open Go Go.Proofs Go.Shelf
attribute [local congr] W_congr WPsq_congr WPp_congr optK_congr addrK_congr intK_congr boolK_congr sliceK_congr tupleK_congr funcK_congr Fn_congr rawK_congr takeK_congr stepK_congr convK_congr aggK_congr

set_option maxHeartbeats 2000000 in
theorem law_UnsafePushTelemetryRequest {ok : Blocks} {ev : Value} (n : Nat) (hn : n < 256) (b : Value) (s : List UInt8) (w : World) (hb : BytesV ok w b s) (hG : Glo ev w) (hev : ∃ T p,ev = .iface T p) :
    Fn Tryd.prog 3 #[.int .u8 n,b] w fun r w' => r = .bool true ∧ Ext w w' := by
  obtain ⟨ba,bc,rfl,_⟩ := hb.shape
  refine fn_of_W Tryd.func3 rfl Tryd.results3 Tryd.ntmps3 rfl ?_
  by_cases hD1 : (2147483647 : Int) < (s.length : Int)
  · repeat ((first | refine qA rfl ?_|refine qB ?_|refine qC rfl ?_|refine qD ?_|refine qE ?_|refine qF ?_|refine qG ?_|refine qH ?_);try simp (maxSteps:=1000000)(disch:=(first|omega|(simp only [qI,qJ,qK]<;>omega)|exact qL _)) only [go_sem,↓reduceIte,n0,reduceCtorEq,n1,n2,n3,n4,n5,i0,i1,i2,i3,i4,i5,i6,i7,hD1])
    all_goals exact Upd.refl _ _
  repeat ((first | refine qA rfl ?_|refine qB ?_|refine qC rfl ?_|refine qD ?_|refine qE ?_|refine qF ?_|refine qG ?_|refine qH ?_);try simp (maxSteps:=1000000)(disch:=(first|omega|(simp only [qI,qJ,qK]<;>omega)|exact qL _)) only [go_sem,↓reduceIte,n0,reduceCtorEq,n1,n2,n3,n4,n5,i0,i1,i2,i3,i4,i5,i6,i7,hD1])
  refine (MaxPushTelemetryRequest_fn w).mono ?_
  rintro _ w1 ⟨rfl,hE1⟩
  by_cases hD2 : (1000 : Int) < (s.length : Int)
  · repeat ((first | refine qA rfl ?_|refine qB ?_|refine qC rfl ?_|refine qD ?_|refine qE ?_|refine qF ?_|refine qG ?_|refine qH ?_);try simp (maxSteps:=1000000)(disch:=(first|omega|(simp only [qI,qJ,qK]<;>omega)|exact qL _)) only [go_sem,↓reduceIte,n0,reduceCtorEq,n1,n2,n3,n4,n5,i0,i1,i2,i3,i4,i5,i6,i7,hD2])
    all_goals exact hE1
  repeat ((first | refine qA rfl ?_|refine qB ?_|refine qC rfl ?_|refine qD ?_|refine qE ?_|refine qF ?_|refine qG ?_|refine qH ?_);try simp (maxSteps:=1000000)(disch:=(first|omega|(simp only [qI,qJ,qK]<;>omega)|exact qL _)) only [go_sem,↓reduceIte,n0,reduceCtorEq,n1,n2,n3,n4,n5,i0,i1,i2,i3,i4,i5,i6,i7,hD2])
  refine (version_fn w1 n 0 hn (by decide)).mono ?_
  rintro _ wv ⟨rfl,hwv⟩
  rw [hwv]
  clear hwv wv
  have hv3 : n % 1 < 1 := Nat.mod_lt _ (by omega)
  generalize hver : n % 1 = ver at *
  obtain ⟨fin,hfin⟩ : ∃ fin,fin = rdP (1 + 1) ver (flexB 0 ver) fs_PushTelemetryRequest (some s) := ⟨_,rfl⟩
  have hdf : okDf (1 + 1) fs_PushTelemetryRequest = true := by decide
  repeat ((first | refine qA rfl ?_|refine qB ?_|refine qC rfl ?_|refine qD ?_|refine qE ?_|refine qF ?_|refine qG ?_|refine qH ?_);try simp (maxSteps:=1000000)(disch:=(first|omega|(simp only [qI,qJ,qK]<;>omega)|exact qL _)) only [go_sem,↓reduceIte,n0,reduceCtorEq,n1,n2,n3,n4,n5,i0,i1,i2,i3,i4,i5,i6,i7])
  refine (TellDPushTelemetryRequest_fn (d := 1) (ok := ok) ver (by omega) _ s w1 (hb.keep (hE1.keeps _)) (hG.updS hE1 id id) hev (by omega) hdf fin hfin).mono ?_
  rintro _ w2 ⟨⟨ca,Ta,rfl,hca,hTa⟩,hE2⟩
  have hE02 := hE1.trans hE2
  obtain ⟨aS,aL,aU,rfl,hna,hSa,hLa,hUa⟩ := hca.inv
  have f1 := hSa.flat
  have f2 := SlR.flat hLa
  have f3 := SlR.flat hUa
  have hE3 : Ext w2 (wr (w2.alloc (.cells #[.int .i64 0,.slice none 0 0,.bool false,.slice none 0 0,.slice none 0 0] 27)) w2.heap.size 0 [.int .i64 Ta.n,aS,.bool Ta.null,aL,aU]) := (Upd.alloc (Upd.refl _ _) _).wr _ _ (.inl (Nat.le_refl _))
  have hb3 : blk (wr (w2.alloc (.cells #[.int .i64 0,.slice none 0 0,.bool false,.slice none 0 0,.slice none 0 0] 27)) w2.heap.size 0 [.int .i64 Ta.n,aS,.bool Ta.null,aL,aU]) w2.heap.size = some (#[.int .i64 Ta.n,aS,.bool Ta.null,aL,aU],27,(0,0)) := by simp (maxSteps:=1000000)(disch:=(first|omega|(simp only [qI,qJ,qK]<;>omega)|exact qL _)) only [go_sem,↓reduceIte,n0,reduceCtorEq,n1,n2,n3,n4,n5,i0,i1,i2,i3,i4,i5,i6,i7]
  try simp (maxSteps:=1000000)(disch:=(first|omega|(simp only [qI,qJ,qK]<;>omega)|exact qL _)) only [go_sem,↓reduceIte,n0,reduceCtorEq,n1,n2,n3,n4,n5,i0,i1,i2,i3,i4,i5,i6,i7,f1,f2,f3]
  repeat ((first | refine qA rfl ?_|refine qB ?_|refine qC rfl ?_|refine qD ?_|refine qE ?_|refine qF ?_|refine qG ?_|refine qH ?_);try simp (maxSteps:=1000000)(disch:=(first|omega|(simp only [qI,qJ,qK]<;>omega)|exact qL _)) only [go_sem,↓reduceIte,n0,reduceCtorEq,n1,n2,n3,n4,n5,i0,i1,i2,i3,i4,i5,i6,i7,f1,f2,f3])
  generalize (wr (w2.alloc (.cells #[.int .i64 0,.slice none 0 0,.bool false,.slice none 0 0,.slice none 0 0] 27)) w2.heap.size 0 [.int .i64 Ta.n,aS,.bool Ta.null,aL,aU]) = w3 at *
  have hE03 := hE02.trans hE3
  refine (version_fn w3 n 0 hn (by decide)).mono ?_
  rintro _ wv ⟨rfl,hwv⟩
  rw [hwv,hver]
  clear hwv wv
  repeat ((first | refine qA rfl ?_|refine qB ?_|refine qC rfl ?_|refine qD ?_|refine qE ?_|refine qF ?_|refine qG ?_|refine qH ?_);try simp (maxSteps:=1000000)(disch:=(first|omega|(simp only [qI,qJ,qK]<;>omega)|exact qL _)) only [go_sem,↓reduceIte,n0,reduceCtorEq,n1,n2,n3,n4,n5,i0,i1,i2,i3,i4,i5,i6,i7])
  refine (UnsafeDPushTelemetryRequest_fn (d := 1) (ok := ok) ver (by omega) _ s w3 (hb.keep (Ext.keeps hE03 _)) (hG.updS hE03 id id) hev (by omega) hdf fin hfin).mono ?_
  rintro _ w4 ⟨⟨cb,Tb,rfl,hcb,hTb⟩,hE4⟩
  have hE04 := hE03.trans hE4
  obtain ⟨bS,bL,bU,rfl,hnb,hSb,hLb,hUb⟩ := hcb.inv
  have g1 := hSb.flat
  have g2 := SlR.flat hLb
  have g3 := SlR.flat hUb
  have hE5 : Ext w4 (wr (w4.alloc (.cells #[.int .i64 0,.slice none 0 0,.bool false,.slice none 0 0,.slice none 0 0] 27)) w4.heap.size 0 [.int .i64 Tb.n,bS,.bool Tb.null,bL,bU]) := (Upd.alloc (Upd.refl _ _) _).wr _ _ (.inl (Nat.le_refl _))
  have hb5 : blk (wr (w4.alloc (.cells #[.int .i64 0,.slice none 0 0,.bool false,.slice none 0 0,.slice none 0 0] 27)) w4.heap.size 0 [.int .i64 Tb.n,bS,.bool Tb.null,bL,bU]) w4.heap.size = some (#[.int .i64 Tb.n,bS,.bool Tb.null,bL,bU],27,(0,0)) := by simp (maxSteps:=1000000)(disch:=(first|omega|(simp only [qI,qJ,qK]<;>omega)|exact qL _)) only [go_sem,↓reduceIte,n0,reduceCtorEq,n1,n2,n3,n4,n5,i0,i1,i2,i3,i4,i5,i6,i7]
  try simp (maxSteps:=1000000)(disch:=(first|omega|(simp only [qI,qJ,qK]<;>omega)|exact qL _)) only [go_sem,↓reduceIte,n0,reduceCtorEq,n1,n2,n3,n4,n5,i0,i1,i2,i3,i4,i5,i6,i7,g1,g2,g3]
  repeat ((first | refine qA rfl ?_|refine qB ?_|refine qC rfl ?_|refine qD ?_|refine qE ?_|refine qF ?_|refine qG ?_|refine qH ?_);try simp (maxSteps:=1000000)(disch:=(first|omega|(simp only [qI,qJ,qK]<;>omega)|exact qL _)) only [go_sem,↓reduceIte,n0,reduceCtorEq,n1,n2,n3,n4,n5,i0,i1,i2,i3,i4,i5,i6,i7,g1,g2,g3])
  generalize (wr (w4.alloc (.cells #[.int .i64 0,.slice none 0 0,.bool false,.slice none 0 0,.slice none 0 0] 27)) w4.heap.size 0 [.int .i64 Tb.n,bS,.bool Tb.null,bL,bU]) = w5 at *
  have hE05 := hE04.trans hE5
  have ha5 := (hE4.trans hE5).blk_some hb3 id
  have la5 := blk_lt ha5
  have lb5 := blk_lt hb5
  refine W.drawR (.take 0 (.take 1 (.take 2 (.take 3 (.take 4 (.take 5 (.take 6 (.take 7 (.take 9 (.only 8 (.only 10 (.only 11 (.take 12 (.take 13 (.only 14 .done))))))))))))))) NoB mixed (by kernel_rfl) ?_
  cases hso : fin.2.isSome with
  | false =>
    simp (maxSteps:=1000000)(disch:=(first|omega|(simp only [qI,qJ,qK]<;>omega)|exact qL _)) only [go_sem,↓reduceIte,n0,reduceCtorEq,n1,n2,n3,n4,n5,i0,i1,i2,i3,i4,i5,i6,i7,hso,ha5,hb5]
    repeat refine ⟨Upd.refl _ _,?_⟩
    repeat ((first | refine qA rfl ?_|refine qB ?_|refine qC rfl ?_|refine qD ?_|refine qE ?_|refine qF ?_|refine qG ?_|refine qH ?_);try simp (maxSteps:=1000000)(disch:=(first|omega|(simp only [qI,qJ,qK]<;>omega)|exact qL _)) only [go_sem,↓reduceIte,n0,reduceCtorEq,n1,n2,n3,n4,n5,i0,i1,i2,i3,i4,i5,i6,i7,hso])
    all_goals exact hE05.drew
  | true =>
    obtain rfl := hTa hso
    obtain rfl := hTb hso
    have hsm : Small 32767 (tlP (1 + 1) fs_PushTelemetryRequest fin.1) := tlP_small _ _ _ hdf (by rw [hfin];exact rdP_good ver _ (1 + 1) fs_PushTelemetryRequest hdf (some s) (by rw [stLen_some];omega))
    generalize tlP (1 + 1) fs_PushTelemetryRequest fin.1 = T at *
    have hEd : Ext w5 w5.drew := (Upd.refl _ _).drew
    simp (maxSteps:=1000000)(disch:=(first|omega|(simp only [qI,qJ,qK]<;>omega)|exact qL _)) only [go_sem,↓reduceIte,n0,reduceCtorEq,n1,n2,n3,n4,n5,i0,i1,i2,i3,i4,i5,i6,i7,hso,ha5,hb5,cellsAt_five]
    refine (got_fn hsm.lists AnyB _ w5.drew (TreeC.keep (Ext.keeps (((hE3.trans hE4).trans hE5).drew) _) hca)).mono ?_
    rintro _ w6 ⟨⟨c6,rfl,hc6⟩,hE6⟩
    refine ⟨hE6,?_⟩
    have hb6 := hE6.blk_some (show blk w5.drew w4.heap.size = _ from hb5) id
    try simp (maxSteps:=1000000)(disch:=(first|omega|(simp only [qI,qJ,qK]<;>omega)|exact qL _)) only [go_sem,↓reduceIte,n0,reduceCtorEq,n1,n2,n3,n4,n5,i0,i1,i2,i3,i4,i5,i6,i7,hso,hb6,cellsAt_five]
    refine (got_fn hsm.lists AnyB _ w6 (TreeC.keep (Ext.keeps ((hE5.drew).trans hE6) _) hcb)).mono ?_
    rintro _ w7 ⟨⟨c7,rfl,hc7⟩,hE7⟩
    have hE57 : Ext w5.drew w7 := hE6.trans hE7
    refine ⟨hE57,?_⟩
    try simp (maxSteps:=1000000)(disch:=(first|omega|(simp only [qI,qJ,qK]<;>omega)|exact qL _)) only [go_sem,↓reduceIte,n0,reduceCtorEq,n1,n2,n3,n4,n5,i0,i1,i2,i3,i4,i5,i6,i7,hso]
    refine (SameTree_fn hsm AnyB c6 c7 w7 (TreeC.weaken (fun _ _ _ => trivial) (TreeC.keep (Ext.keeps hE7 _) hc6)) (TreeC.weaken (fun _ _ _ => trivial) hc7)).mono ?_
    rintro _ w8 ⟨rfl,hE8⟩
    repeat refine ⟨hE57.trans hE8,?_⟩
    try simp (maxSteps:=1000000)(disch:=(first|omega|(simp only [qI,qJ,qK]<;>omega)|exact qL _)) only [go_sem,↓reduceIte,n0,reduceCtorEq,n1,n2,n3,n4,n5,i0,i1,i2,i3,i4,i5,i6,i7,hso]
    repeat ((first | refine qA rfl ?_|refine qB ?_|refine qC rfl ?_|refine qD ?_|refine qE ?_|refine qF ?_|refine qG ?_|refine qH ?_);try simp (maxSteps:=1000000)(disch:=(first|omega|(simp only [qI,qJ,qK]<;>omega)|exact qL _)) only [go_sem,↓reduceIte,n0,reduceCtorEq,n1,n2,n3,n4,n5,i0,i1,i2,i3,i4,i5,i6,i7,hso])
    all_goals exact (hE05.trans hEd).trans (hE57.trans hE8)
end Ms

namespace Ms
open Go
theorem iface_of {P : Program} {w : World} {t : TypeId} {m : Array (String × TypeId)} {fuel : Nat} {cs : List Value} {n : String} {d : DataW Unit} {p : List MemPlace} (hu : P.underlying t = some (.interface m))
    (h : DataW.trod (fun _ => ()) P w 0 (fun _ => true) false fuel t cs = some (.iface n d,p)) : ∃ u v,cs = [.iface u v] := by
  cases fuel with
  | zero => simp [DataW.trod] at h
  | succ fuel =>
    unfold DataW.trod at h
    rw [hu] at h
    match cs with
    | [] => simp at h
    | [v] => cases v <;> simp at h <;> exact ⟨_,_,rfl⟩
    | _ :: _ :: _ => simp at h
end Ms

namespace Ms
open Go
theorem words_ne : ∀ a : List Char,wordsSigns a ≠ []
  | [] => by simp [wordsSigns]
  | c :: r => by
    unfold wordsSigns
    split
    · simp
    · simp
    · split <;> simp
theorem words_app : ∀ (a r : List Char),wordsSigns (a ++ ' ' :: r) = wordsSigns a ++ wordsSigns r
  | [],r => by
    rw [List.nil_append]
    conv => lhs;unfold wordsSigns
    simp [wordsSigns]
  | c :: a,r => by
    have ih := words_app a r
    have hn := words_ne a
    by_cases hc : c = ' '
    · subst hc
      have e : ∀ l,wordsSigns (' ' :: l) = [] :: wordsSigns l := fun l => by rw [wordsSigns]
      rw [List.cons_append,e,e,ih];rfl
    · rw [List.cons_append]
      have e : ∀ l,wordsSigns (c :: l) = match wordsSigns l with | w :: ws => (c :: w) :: ws | [] => [[c]] := fun l => by
        conv => lhs;unfold wordsSigns
        split
        · rename_i h;cases h
        · rename_i h;cases h;exact absurd rfl hc
        · rename_i h;cases h;rfl
      rw [e,e,ih]
      cases hw : wordsSigns a with
      | nil => exact absurd hw hn
      | cons w ws => rfl
def cutHead : List (List Char) → Bool
  | [h,s,c] => h == "harness".toList && isSumSigns s && c == "cut".toList
  | _ => false
def Cut (P : Program) : Prop := ∃ W,behindMainWord (wordsSigns P.initOrder.toList) = "cut".toList :: W
theorem cut_of {P : Program} (k : Nat) (hs : P.initOrder.toList = P.initOrder.toList.take k ++ ' ' :: P.initOrder.toList.drop (k + 1)) (hA : cutHead (wordsSigns (P.initOrder.toList.take k)) = true) : Cut P := by
  unfold Cut
  rw [hs,words_app]
  generalize wordsSigns (P.initOrder.toList.take k) = A at hA
  generalize wordsSigns (P.initOrder.toList.drop (k + 1)) = W
  match A,hA with
  | [h,s,c],hA =>
    unfold cutHead at hA
    simp only [Bool.and_eq_true] at hA
    obtain ⟨⟨h1,h2⟩,h3⟩ := hA
    refine ⟨W,?_⟩
    have hc : c = "cut".toList := eq_of_beq h3
    subst hc
    show behindMainWord (h :: s :: ("cut".toList :: W)) = _
    unfold behindMainWord
    simp only [h1,h2,Bool.true_or,Bool.and_self,if_true]
theorem strip_cut (W : List (List Char)) : stripLifts liftWords ("cut".toList :: W) = ([],"cut".toList :: W) := rfl
theorem headLifts_of {P : Program} (h : Cut P) : P.headLifts = [] := by
  obtain ⟨W,h⟩ := h
  unfold Program.headLifts
  rw [h,strip_cut]
  rfl
theorem mayEnter_of {P : Program} (h : Cut P) (h1 : P.laysLater = false) (h2 : P.bearsReflect = false) (h3 : P.doorFits [] = true) : P.mayEnter = true := by
  obtain ⟨W,h⟩ := h
  unfold Program.mayEnter
  rw [h]
  simp only [strip_cut,h1,h2,h3]
  rfl
theorem liftsFinal_of {P : Program} (h : Cut P) : P.liftsFinal = false := by
  have hl := headLifts_of h
  obtain ⟨W,h⟩ := h
  unfold Program.liftsFinal
  rw [h,hl]
  rfl
theorem make_of {P : Program} (h : Cut P) : P.make = some .cut := by
  obtain ⟨W,h⟩ := h
  unfold Program.make
  rw [h]
  rfl
end Ms

namespace Go.Proofs.YtcicbihkpkbbnaaDoor
theorem isCut : Ms.Cut Tryd.pinned.checked.prog := Ms.cut_of 76 (by kernel_rfl) (by kernel_rfl)
theorem laysLater0 : Tryd.pinned.checked.prog.laysLater = false := by kernel_rfl
theorem bears0 : Tryd.pinned.checked.prog.bearsReflect = false := by kernel_rfl
theorem doors0 : Tryd.pinned.checked.prog.doorFits [] = true := by kernel_rfl
theorem enters0 : Tryd.pinned.checked.prog.mayEnter = true := Ms.mayEnter_of isCut laysLater0 bears0 doors0
theorem lifts0 : Tryd.pinned.checked.prog.liftsFinal = false := Ms.liftsFinal_of isCut
theorem make0 : Tryd.pinned.checked.prog.make = some .cut := Ms.make_of isCut
theorem hears0 : Tryd.pinned.checked.prog.stopsHeard = true := by kernel_rfl
theorem laid0 : laidOutB Tryd.pinned.checked.prog = true := by kernel_rfl
theorem rowed0 : mapsRowed Tryd.pinned.checked.prog = true := by kernel_rfl
end Go.Proofs.YtcicbihkpkbbnaaDoor

