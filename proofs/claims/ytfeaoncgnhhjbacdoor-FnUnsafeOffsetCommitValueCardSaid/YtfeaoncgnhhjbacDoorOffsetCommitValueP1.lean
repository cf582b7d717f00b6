/- A part of the proof: see the last text. -/
import Derived.Test.YtfeaoncgnhhjbacDoorC05
import Derived.Test.YtfeaoncgnhhjbacDoorC09
import Derived.Test.YtfeaoncgnhhjbacDoorOffsetCommitValueP0
set_option linter.unusedSimpArgs false
set_option linter.unusedVariables false
namespace Ms
open Go.World renaming size_alloc → qI
open Ms renaming size_wr → qJ,size_drew → qK,not_noB → qL
open W renaming seqR → qA,seq → qB,regR → qC,condK → qD,block → qE,skip → qF,ret → qG,exit → qH
open Nat renaming reduceEqDiff → n0,reduceAdd → n1,reduceMul → n2,reduceSub → n3,reduceLT → n4,reduceLeDiff → n5
open Int renaming reduceEq → i0,reduceLT → i1,reduceLE → i2,reduceNeg → i3,reduceAdd → i4,reduceSub → i5,reduceMul → i6,reduceToNat → i7
set_option maxRecDepth 8000
open Go Go.Proofs Go.Shelf
attribute [local congr] W_congr WPsq_congr WPp_congr optK_congr addrK_congr intK_congr boolK_congr sliceK_congr tupleK_congr funcK_congr Fn_congr rawK_congr takeK_congr stepK_congr convK_congr aggK_congr

set_option maxHeartbeats 24000000 in
theorem readOffsetCommitValue_3b {un : Bool} {d : Nat} {ok : Blocks} {ver : Int} {ev : Value} (hlo : 3 ≤ ver) (hhi : ver ≤ 3) (w : World) {vb : Nat} (src : Value) (s : List UInt8) (hvc : (rdInt .i16 2 (some s)).1 = ver ∨ ((rdInt .i16 2 (some s)).1 < 0 ∧ ver = 0)) (hv : blk w vb = some (#[.int .i16 0,.int .i64 0,.int .i32 0,.string ByteArray.empty,.int .i64 0,.int .i64 0,.int .u8 0,.int .u8 0,.int .u8 0,.int .u8 0,.int .u8 0,.int .u8 0,.int .u8 0,.int .u8 0,.int .u8 0,.int .u8 0,.int .u8 0,.int .u8 0,.int .u8 0,.int .u8 0,.int .u8 0,.int .u8 0,.map none],47,(0,0))) (hsrc : BytesV ok w src s) (hok0 : ∀ b,ok b → b < w.heap.size ∧ b ≠ vb) (hG : Glo ev w) (hgv : ¬ 0 = vb ∧ ¬ 1 = vb) (hev : ∃ T p,ev = .iface T p) :
    Fn Tryd.prog 18 #[.pointer (some ⟨vb,0,none⟩),src,.bool un] w (ReadQ 47 ok (rdInt .i16 2 (some s)).1 (d + 1) fs_OffsetCommitValue vb w (rdM d ver false fs_OffsetCommitValue (rdInt .i16 2 (some s)).2) ev) := by
  have hcs : ((un = true) = True ∧ (un = false) = False) ∨ ((un = true) = False ∧ (un = false) = True) := by cases un <;> simp
  rcases hcs with ⟨hun,hun'⟩ | ⟨hun,hun'⟩
  all_goals
    have hvl := blk_lt hv
    have hgs := hG.lt
    obtain ⟨sa,sc,rfl,_⟩ := hsrc.shape
    refine fn_of_W Tryd.func18 rfl Tryd.results18 Tryd.ntmps18 rfl ?_
    repeat ((first | refine qA rfl ?_|refine qB ?_|refine qC rfl ?_|refine qD ?_|refine qE ?_|refine qF ?_|refine qG ?_|refine qH ?_);try simp (maxSteps:=1000000)(disch:=(first|omega|(simp only [qI,qJ,qK]<;>omega)|exact qL _)) only [go_sem,↓reduceIte,n0,reduceCtorEq,n1,n2,n3,n4,n5,i0,i1,i2,i3,i4,i5,i6,i7,hv])
    refine (DefaultOffsetCommitValue_fn w hv).mono ?_
    rintro _ w0 ⟨hv0,hu0⟩
    have hz0 := hu0.size
    have hsrc0 : BytesV ok w0 (.slice sa s.length sc) s := hsrc.keep (hu0.keeps fun b _ hk e => (hok0 b hk).2 e)
    obtain ⟨rb,hrb⟩ : ∃ r,r = w0.heap.size := ⟨_,rfl⟩
    have hE1 : Ext w0 (wr (w0.alloc (.cells #[.slice none 0 0,.bool false] 68)) w0.heap.size 0 [.slice sa s.length sc,.bool false]) := (Upd.alloc (Upd.refl _ _) _).wr _ _ (.inl (Nat.le_refl _))
    have hz1 : (wr (w0.alloc (.cells #[.slice none 0 0,.bool false] 68)) w0.heap.size 0 [.slice sa s.length sc,.bool false]).heap.size = w0.heap.size + 1 := by rw [size_wr,World.size_alloc]
    have hR1 : Rdr RT ok (wr (w0.alloc (.cells #[.slice none 0 0,.bool false] 68)) w0.heap.size 0 [.slice sa s.length sc,.bool false]) w0.heap.size (some s) := Rdr.good (v := .slice sa s.length sc) (by simp (maxSteps:=1000000)(disch:=(first|omega|(simp only [qI,qJ,qK]<;>omega)|exact qL _)) only [go_sem,↓reduceIte,n0,reduceCtorEq,n1,n2,n3,n4,n5,i0,i1,i2,i3,i4,i5,i6,i7]) (hsrc0.keep (hE1.keeps _))
    have hv_1 := hE1.blk_some hv0 id
    repeat ((first | refine qA rfl ?_|refine qB ?_|refine qC rfl ?_|refine qD ?_|refine qE ?_|refine qF ?_|refine qG ?_|refine qH ?_);try simp (maxSteps:=1000000)(disch:=(first|omega|(simp only [qI,qJ,qK]<;>omega)|exact qL _)) only [go_sem,↓reduceIte,n0,reduceCtorEq,n1,n2,n3,n4,n5,i0,i1,i2,i3,i4,i5,i6,i7,hv0])
    generalize (wr (w0.alloc (.cells #[.slice none 0 0,.bool false] 68)) w0.heap.size 0 [.slice sa s.length sc,.bool false]) = w1 at *
    rw [← hrb] at hR1
    try rw [← hrb]
    have hok : ∀ b,ok b → b < w.heap.size ∧ b ≠ vb := hok0
    have hrok : ¬ ok rb := fun h => by have := (hok rb h).1;omega
    have hbase : Upd (fun b => b = vb) w w1 := hu0.trans (hE1.mono fun _ h => h.elim)
    have hG1 : Glo ev w1 := hG.updS hbase hgv.1 hgv.2
    have hgrb : ¬ 0 = rb := by omega
    have hgM1 : ¬ (0 = vb ∨ 0 = rb) := fun h => h.elim hgv.1 fun h => by omega
    have hgM2 : ¬ (1 = vb ∨ 1 = rb) := fun h => h.elim hgv.2 fun h => by omega
    obtain ⟨s0,hs0⟩ : ∃ s' : St,s' = some s := ⟨_,rfl⟩
    rw [← hs0] at hR1 hvc ⊢
    have hU1 : Upd (fun b => b = vb ∨ b = rb) w1 w1 := Upd.refl _ _
    have hoM : ∀ b,(ok b ∨ w1.heap.size ≤ b) → ¬ (b = vb ∨ b = rb) := fun b hk h => by
      rcases hk with hk | hk
      · have := hok b hk;rcases h with h | h <;> omega
      · rcases h with h | h <;> omega
    have hq1 : Rdr RT ok w1 rb s0 := hR1
    repeat ((first | refine qA rfl ?_|refine qB ?_|refine qC rfl ?_|refine qD ?_|refine qE ?_|refine qF ?_|refine qG ?_|refine qH ?_);try simp (maxSteps:=1000000)(disch:=(first|omega|(simp only [qI,qJ,qK]<;>omega)|exact qL _)) only [go_sem,↓reduceIte,n0,reduceCtorEq,n1,n2,n3,n4,n5,i0,i1,i2,i3,i4,i5,i6,i7,hv_1,hun,hun'])
    refine (Int16_fn w1 hq1 hrok hG1.1 hgrb).mono ?_
    rintro _ w2 ⟨rfl,hq2,hu2⟩
    have hv_2 := hu2.blk_some hv_1 (by omega)
    have hV2 : Upd (fun b => b = vb ∨ b = rb) w1 w2 := hu2.mono (fun _ h => .inr h)
    have hU2 : Upd (fun b => b = vb ∨ b = rb) w1 w2 := hU1.trans hV2
    have hz2 := hV2.size
    have hG2 : Glo ev w2 := hG1.updS hU2 hgM1 hgM2
    obtain ⟨s1,hs1⟩ : ∃ s,s = (rdInt .i16 2 s0).2 := ⟨_,rfl⟩
    obtain ⟨vc,hvcE⟩ : ∃ x,x = (rdInt .i16 2 s0).1 := ⟨_,rfl⟩
    rw [← hs1] at hq2
    rw [← hvcE] at hvc
    rw [← hvcE,← hs1]
    try simp (maxSteps:=1000000)(disch:=(first|omega|(simp only [qI,qJ,qK]<;>omega)|exact qL _)) only [go_sem,↓reduceIte,n0,reduceCtorEq,n1,n2,n3,n4,n5,i0,i1,i2,i3,i4,i5,i6,i7,hv_2,hun,hun']
    repeat ((first | refine qA rfl ?_|refine qB ?_|refine qC rfl ?_|refine qD ?_|refine qE ?_|refine qF ?_|refine qG ?_|refine qH ?_);try simp (maxSteps:=1000000)(disch:=(first|omega|(simp only [qI,qJ,qK]<;>omega)|exact qL _)) only [go_sem,↓reduceIte,n0,reduceCtorEq,n1,n2,n3,n4,n5,i0,i1,i2,i3,i4,i5,i6,i7,hv_2,hun,hun'])
    generalize hw3 : wr w2 vb 0 [.int .i16 vc] = w3
    have hS3 : Upd (fun b => b = vb ∨ b = rb) w2 w3 := by rw [← hw3];exact (Upd.refl _ _).wr _ _ (.inr (.inl rfl))
    have hv_3 : blk w3 vb = some (#[.int .i16 vc,.int .i64 0,.int .i32 0,.string ByteArray.empty,.int .i64 0,.int .i64 0,.int .u8 0,.int .u8 0,.int .u8 0,.int .u8 0,.int .u8 0,.int .u8 0,.int .u8 0,.int .u8 0,.int .u8 0,.int .u8 0,.int .u8 0,.int .u8 0,.int .u8 0,.int .u8 0,.int .u8 0,.int .u8 0,.map none],47,(0,0)) := by rw [← hw3,blk_wr_eq,hv_2];rfl
    have hV3 := hS3
    have hU3 : Upd (fun b => b = vb ∨ b = rb) w1 w3 := hU2.trans hV3
    have hz3 := hV3.size
    have hG3 : Glo ev w3 := hG1.updS hU3 hgM1 hgM2
    have hq3 := Rdr.stored hw3 hq2 (by omega) fun h => by have := (hok _ h).1;first | omega | exact (hok _ h).2 rfl
    clear hw3
    obtain ⟨FB,hFB⟩ : ∃ P : Prop,P = ((rdM d ver false fs_OffsetCommitValue s1).2 = none) := ⟨_,rfl⟩
    have hb_0 : (rdL (rdP d ver false) (dfP d) ver false [fOffsetCommitValue_0,fOffsetCommitValue_1,fOffsetCommitValue_2,fOffsetCommitValue_3,fOffsetCommitValue_4,fOffsetCommitValue_5] s1).2 = none → FB := fun h => Eq.mpr hFB (rdM_bad h)
    have hh_0 : hasS fOffsetCommitValue_0 ver = true := hasS_t (by show (0 : Int) ≤ ver;omega) (by show (-1 : Int) < 0 ∨ ver ≤ (-1 : Int);omega)
    obtain ⟨x_0,hx_0⟩ : ∃ x,x = (rdF (rdP d ver false) ver false fOffsetCommitValue_0 s1).1 := ⟨_,rfl⟩
    repeat ((first | refine qA rfl ?_|refine qB ?_|refine qC rfl ?_|refine qD ?_|refine qE ?_|refine qF ?_|refine qG ?_|refine qH ?_);try simp (maxSteps:=1000000)(disch:=(first|omega|(simp only [qI,qJ,qK]<;>omega)|exact qL _)) only [go_sem,↓reduceIte,n0,reduceCtorEq,n1,n2,n3,n4,n5,i0,i1,i2,i3,i4,i5,i6,i7,hv_3,hun,hun'])
    have hrd : rdF (rdP d ver false) ver false fOffsetCommitValue_0 s1 = _ := rdF_num 4 rfl (by decide)
    refine (Int64_fn w3 hq3.1 hrok hG3.1 hgrb).mono ?_
    rintro _ w4 ⟨rfl,hq4,hu4⟩
    have hv_4 := hu4.blk_some hv_3 (by omega)
    have hV4 : Upd (fun b => b = vb ∨ b = rb) w3 w4 := hu4.mono (fun _ h => .inr h)
    have hU4 : Upd (fun b => b = vb ∨ b = rb) w1 w4 := hU3.trans hV4
    have hz4 := hV4.size
    have hG4 : Glo ev w4 := hG1.updS hU4 hgM1 hgM2
    have hst : (rdF (rdP d ver false) ver false fOffsetCommitValue_0 s1).2 = (rdInt .i64 8 s1).2 := by first | (rw [hrd];rfl) | rw [hrd]
    obtain ⟨s2,hs2⟩ : ∃ s,s = (rdF (rdP d ver false) ver false fOffsetCommitValue_0 s1).2 := ⟨_,rfl⟩
    rw [← hst,← hs2] at hq4
    clear hst
    repeat ((first | refine qA rfl ?_|refine qB ?_|refine qC rfl ?_|refine qD ?_|refine qE ?_|refine qF ?_|refine qG ?_|refine qH ?_);try simp (maxSteps:=1000000)(disch:=(first|omega|(simp only [qI,qJ,qK]<;>omega)|exact qL _)) only [go_sem,↓reduceIte,n0,reduceCtorEq,n1,n2,n3,n4,n5,i0,i1,i2,i3,i4,i5,i6,i7,hv_4,hun,hun'])
    generalize hw5 : wr w4 vb 1 [.int .i64 (rdInt .i64 8 s1).1] = w5
    have hS5 : Upd (fun b => b = vb ∨ b = rb) w4 w5 := by rw [← hw5];exact (Upd.refl _ _).wr _ _ (.inr (.inl rfl))
    have hv_5 : blk w5 vb = some (#[.int .i16 vc,.int .i64 (rdInt .i64 8 s1).1,.int .i32 0,.string ByteArray.empty,.int .i64 0,.int .i64 0,.int .u8 0,.int .u8 0,.int .u8 0,.int .u8 0,.int .u8 0,.int .u8 0,.int .u8 0,.int .u8 0,.int .u8 0,.int .u8 0,.int .u8 0,.int .u8 0,.int .u8 0,.int .u8 0,.int .u8 0,.int .u8 0,.map none],47,(0,0)) := by rw [← hw5,blk_wr_eq,hv_4];rfl
    have hV5 := hS5
    have hU5 : Upd (fun b => b = vb ∨ b = rb) w1 w5 := hU4.trans hV5
    have hz5 := hV5.size
    have hG5 : Glo ev w5 := hG1.updS hU5 hgM1 hgM2
    have hq5 := Rdr.stored hw5 hq4 (by omega) fun h => by have := (hok _ h).1;first | omega | exact (hok _ h).2 rfl
    clear hw5
    have hf_0 : RepF (RepS true d) (szS true d) fOffsetCommitValue_0 (fun b => ok b ∨ w1.heap.size ≤ b) w5 (x_0) [.int .i64 (rdInt .i64 8 s1).1] := (RepF_num (by decide)).2 (by rw [hx_0,hrd];exact congrArg (fun x => [x]) (numC_rd 4 (by decide) 8 s1).symm)
    clear hrd
    have hb_1 : (rdL (rdP d ver false) (dfP d) ver false [fOffsetCommitValue_1,fOffsetCommitValue_2,fOffsetCommitValue_3,fOffsetCommitValue_4,fOffsetCommitValue_5] s2).2 = none → FB := fun h => hb_0 (by rw [rdL_st (by decide) hh_0,← hs2];exact h)
    have hh_1 : hasS fOffsetCommitValue_1 ver = true := hasS_t (by show (3 : Int) ≤ ver;omega) (by show (-1 : Int) < 0 ∨ ver ≤ (-1 : Int);omega)
    obtain ⟨x_1,hx_1⟩ : ∃ x,x = (rdF (rdP d ver false) ver false fOffsetCommitValue_1 s2).1 := ⟨_,rfl⟩
    repeat ((first | refine qA rfl ?_|refine qB ?_|refine qC rfl ?_|refine qD ?_|refine qE ?_|refine qF ?_|refine qG ?_|refine qH ?_);try simp (maxSteps:=1000000)(disch:=(first|omega|(simp only [qI,qJ,qK]<;>omega)|exact qL _)) only [go_sem,↓reduceIte,n0,reduceCtorEq,n1,n2,n3,n4,n5,i0,i1,i2,i3,i4,i5,i6,i7,hv_5,hun,hun'])
    have hrd : rdF (rdP d ver false) ver false fOffsetCommitValue_1 s2 = _ := rdF_num 3 rfl (by decide)
    refine (Int32_fn w5 hq5.1 hrok hG5.1 hgrb).mono ?_
    rintro _ w6 ⟨rfl,hq6,hu6⟩
    have hv_6 := hu6.blk_some hv_5 (by omega)
    have hV6 : Upd (fun b => b = vb ∨ b = rb) w5 w6 := hu6.mono (fun _ h => .inr h)
    have hU6 : Upd (fun b => b = vb ∨ b = rb) w1 w6 := hU5.trans hV6
    have hz6 := hV6.size
    have hG6 : Glo ev w6 := hG1.updS hU6 hgM1 hgM2
    have hst : (rdF (rdP d ver false) ver false fOffsetCommitValue_1 s2).2 = (rdInt .i32 4 s2).2 := by first | (rw [hrd];rfl) | rw [hrd]
    obtain ⟨s3,hs3⟩ : ∃ s,s = (rdF (rdP d ver false) ver false fOffsetCommitValue_1 s2).2 := ⟨_,rfl⟩
    rw [← hst,← hs3] at hq6
    clear hst
    repeat ((first | refine qA rfl ?_|refine qB ?_|refine qC rfl ?_|refine qD ?_|refine qE ?_|refine qF ?_|refine qG ?_|refine qH ?_);try simp (maxSteps:=1000000)(disch:=(first|omega|(simp only [qI,qJ,qK]<;>omega)|exact qL _)) only [go_sem,↓reduceIte,n0,reduceCtorEq,n1,n2,n3,n4,n5,i0,i1,i2,i3,i4,i5,i6,i7,hv_6,hun,hun'])
    generalize hw7 : wr w6 vb 2 [.int .i32 (rdInt .i32 4 s2).1] = w7
    have hS7 : Upd (fun b => b = vb ∨ b = rb) w6 w7 := by rw [← hw7];exact (Upd.refl _ _).wr _ _ (.inr (.inl rfl))
    have hv_7 : blk w7 vb = some (#[.int .i16 vc,.int .i64 (rdInt .i64 8 s1).1,.int .i32 (rdInt .i32 4 s2).1,.string ByteArray.empty,.int .i64 0,.int .i64 0,.int .u8 0,.int .u8 0,.int .u8 0,.int .u8 0,.int .u8 0,.int .u8 0,.int .u8 0,.int .u8 0,.int .u8 0,.int .u8 0,.int .u8 0,.int .u8 0,.int .u8 0,.int .u8 0,.int .u8 0,.int .u8 0,.map none],47,(0,0)) := by rw [← hw7,blk_wr_eq,hv_6];rfl
    have hV7 := hS7
    have hU7 : Upd (fun b => b = vb ∨ b = rb) w1 w7 := hU6.trans hV7
    have hz7 := hV7.size
    have hG7 : Glo ev w7 := hG1.updS hU7 hgM1 hgM2
    have hq7 := Rdr.stored hw7 hq6 (by omega) fun h => by have := (hok _ h).1;first | omega | exact (hok _ h).2 rfl
    clear hw7
    have hf_1 : RepF (RepS true d) (szS true d) fOffsetCommitValue_1 (fun b => ok b ∨ w1.heap.size ≤ b) w7 (x_1) [.int .i32 (rdInt .i32 4 s2).1] := (RepF_num (by decide)).2 (by rw [hx_1,hrd];exact congrArg (fun x => [x]) (numC_rd 3 (by decide) 4 s2).symm)
    clear hrd
    have hb_2 : (rdL (rdP d ver false) (dfP d) ver false [fOffsetCommitValue_2,fOffsetCommitValue_3,fOffsetCommitValue_4,fOffsetCommitValue_5] s3).2 = none → FB := fun h => hb_1 (by rw [rdL_st (by decide) hh_1,← hs3];exact h)
    have hh_2 : hasS fOffsetCommitValue_2 ver = true := hasS_t (by show (0 : Int) ≤ ver;omega) (by show (-1 : Int) < 0 ∨ ver ≤ (-1 : Int);omega)
    obtain ⟨x_2,hx_2⟩ : ∃ x,x = (rdF (rdP d ver false) ver false fOffsetCommitValue_2 s3).1 := ⟨_,rfl⟩
    repeat ((first | refine qA rfl ?_|refine qB ?_|refine qC rfl ?_|refine qD ?_|refine qE ?_|refine qF ?_|refine qG ?_|refine qH ?_);try simp (maxSteps:=1000000)(disch:=(first|omega|(simp only [qI,qJ,qK]<;>omega)|exact qL _)) only [go_sem,↓reduceIte,n0,reduceCtorEq,n1,n2,n3,n4,n5,i0,i1,i2,i3,i4,i5,i6,i7,hv_7,hun,hun'])
    have hmay : mayS fOffsetCommitValue_2 ver = false := mayS_no (by show (-1 : Int) < 0 ∨ ver < (-1 : Int);omega)
    have hrd : rdF (rdP d ver false) ver false fOffsetCommitValue_2 s3 = _ := rdF_text rfl hmay
    first | refine (RUnsafeString_fn w7 hq7.1 hrok hG7.1 hgrb).mono ?_ | refine (RString_fn w7 hq7.1 hrok hG7.1 hgrb).mono ?_
    rintro _ w8 ⟨rfl,hq8,hu8⟩
    have hv_8 := hu8.blk_some hv_7 (by omega)
    have hV8 : Upd (fun b => b = vb ∨ b = rb) w7 w8 := hu8.mono (fun _ h => .inr h)
    have hU8 : Upd (fun b => b = vb ∨ b = rb) w1 w8 := hU7.trans hV8
    have hz8 := hV8.size
    have hG8 : Glo ev w8 := hG1.updS hU8 hgM1 hgM2
    have hst : (rdF (rdP d ver false) ver false fOffsetCommitValue_2 s3).2 = (rdStr false s3).2 := by first | (rw [hrd];rfl) | rw [hrd]
    obtain ⟨s4,hs4⟩ : ∃ s,s = (rdF (rdP d ver false) ver false fOffsetCommitValue_2 s3).2 := ⟨_,rfl⟩
    rw [← hst,← hs4] at hq8
    clear hst
    repeat ((first | refine qA rfl ?_|refine qB ?_|refine qC rfl ?_|refine qD ?_|refine qE ?_|refine qF ?_|refine qG ?_|refine qH ?_);try simp (maxSteps:=1000000)(disch:=(first|omega|(simp only [qI,qJ,qK]<;>omega)|exact qL _)) only [go_sem,↓reduceIte,n0,reduceCtorEq,n1,n2,n3,n4,n5,i0,i1,i2,i3,i4,i5,i6,i7,hv_8,hun,hun'])
    generalize hw9 : wr w8 vb 3 [strV (rdStr false s3).1] = w9
    have hS9 : Upd (fun b => b = vb ∨ b = rb) w8 w9 := by rw [← hw9];exact (Upd.refl _ _).wr _ _ (.inr (.inl rfl))
    have hv_9 : blk w9 vb = some (#[.int .i16 vc,.int .i64 (rdInt .i64 8 s1).1,.int .i32 (rdInt .i32 4 s2).1,strV (rdStr false s3).1,.int .i64 0,.int .i64 0,.int .u8 0,.int .u8 0,.int .u8 0,.int .u8 0,.int .u8 0,.int .u8 0,.int .u8 0,.int .u8 0,.int .u8 0,.int .u8 0,.int .u8 0,.int .u8 0,.int .u8 0,.int .u8 0,.int .u8 0,.int .u8 0,.map none],47,(0,0)) := by rw [← hw9,blk_wr_eq,hv_8];rfl
    have hV9 := hS9
    have hU9 : Upd (fun b => b = vb ∨ b = rb) w1 w9 := hU8.trans hV9
    have hz9 := hV9.size
    have hG9 : Glo ev w9 := hG1.updS hU9 hgM1 hgM2
    have hq9 := Rdr.stored hw9 hq8 (by omega) fun h => by have := (hok _ h).1;first | omega | exact (hok _ h).2 rfl
    clear hw9
    have hf_2 : RepF (RepS true d) (szS true d) fOffsetCommitValue_2 (fun b => ok b ∨ w1.heap.size ≤ b) w9 (x_2) [strV (rdStr false s3).1] := (RepF_text rfl (by decide)).2 (by rw [hx_2,hrd];rfl)
    clear hrd
    have hb_3 : (rdL (rdP d ver false) (dfP d) ver false [fOffsetCommitValue_3,fOffsetCommitValue_4,fOffsetCommitValue_5] s4).2 = none → FB := fun h => hb_2 (by rw [rdL_st (by decide) hh_2,← hs4];exact h)
    have hh_3 : hasS fOffsetCommitValue_3 ver = true := hasS_t (by show (0 : Int) ≤ ver;omega) (by show (-1 : Int) < 0 ∨ ver ≤ (-1 : Int);omega)
    obtain ⟨x_3,hx_3⟩ : ∃ x,x = (rdF (rdP d ver false) ver false fOffsetCommitValue_3 s4).1 := ⟨_,rfl⟩
    repeat ((first | refine qA rfl ?_|refine qB ?_|refine qC rfl ?_|refine qD ?_|refine qE ?_|refine qF ?_|refine qG ?_|refine qH ?_);try simp (maxSteps:=1000000)(disch:=(first|omega|(simp only [qI,qJ,qK]<;>omega)|exact qL _)) only [go_sem,↓reduceIte,n0,reduceCtorEq,n1,n2,n3,n4,n5,i0,i1,i2,i3,i4,i5,i6,i7,hv_9,hun,hun'])
    have hrd : rdF (rdP d ver false) ver false fOffsetCommitValue_3 s4 = _ := rdF_num 4 rfl (by decide)
    refine (Int64_fn w9 hq9.1 hrok hG9.1 hgrb).mono ?_
    rintro _ w10 ⟨rfl,hq10,hu10⟩
    have hv_10 := hu10.blk_some hv_9 (by omega)
    have hV10 : Upd (fun b => b = vb ∨ b = rb) w9 w10 := hu10.mono (fun _ h => .inr h)
    have hU10 : Upd (fun b => b = vb ∨ b = rb) w1 w10 := hU9.trans hV10
    have hz10 := hV10.size
    have hG10 : Glo ev w10 := hG1.updS hU10 hgM1 hgM2
    have hst : (rdF (rdP d ver false) ver false fOffsetCommitValue_3 s4).2 = (rdInt .i64 8 s4).2 := by first | (rw [hrd];rfl) | rw [hrd]
    obtain ⟨s5,hs5⟩ : ∃ s,s = (rdF (rdP d ver false) ver false fOffsetCommitValue_3 s4).2 := ⟨_,rfl⟩
    rw [← hst,← hs5] at hq10
    clear hst
    repeat ((first | refine qA rfl ?_|refine qB ?_|refine qC rfl ?_|refine qD ?_|refine qE ?_|refine qF ?_|refine qG ?_|refine qH ?_);try simp (maxSteps:=1000000)(disch:=(first|omega|(simp only [qI,qJ,qK]<;>omega)|exact qL _)) only [go_sem,↓reduceIte,n0,reduceCtorEq,n1,n2,n3,n4,n5,i0,i1,i2,i3,i4,i5,i6,i7,hv_10,hun,hun'])
    generalize hw11 : wr w10 vb 4 [.int .i64 (rdInt .i64 8 s4).1] = w11
    have hS11 : Upd (fun b => b = vb ∨ b = rb) w10 w11 := by rw [← hw11];exact (Upd.refl _ _).wr _ _ (.inr (.inl rfl))
    have hv_11 : blk w11 vb = some (#[.int .i16 vc,.int .i64 (rdInt .i64 8 s1).1,.int .i32 (rdInt .i32 4 s2).1,strV (rdStr false s3).1,.int .i64 (rdInt .i64 8 s4).1,.int .i64 0,.int .u8 0,.int .u8 0,.int .u8 0,.int .u8 0,.int .u8 0,.int .u8 0,.int .u8 0,.int .u8 0,.int .u8 0,.int .u8 0,.int .u8 0,.int .u8 0,.int .u8 0,.int .u8 0,.int .u8 0,.int .u8 0,.map none],47,(0,0)) := by rw [← hw11,blk_wr_eq,hv_10];rfl
    have hV11 := hS11
    have hU11 : Upd (fun b => b = vb ∨ b = rb) w1 w11 := hU10.trans hV11
    have hz11 := hV11.size
    have hG11 : Glo ev w11 := hG1.updS hU11 hgM1 hgM2
    have hq11 := Rdr.stored hw11 hq10 (by omega) fun h => by have := (hok _ h).1;first | omega | exact (hok _ h).2 rfl
    clear hw11
    have hf_3 : RepF (RepS true d) (szS true d) fOffsetCommitValue_3 (fun b => ok b ∨ w1.heap.size ≤ b) w11 (x_3) [.int .i64 (rdInt .i64 8 s4).1] := (RepF_num (by decide)).2 (by rw [hx_3,hrd];exact congrArg (fun x => [x]) (numC_rd 4 (by decide) 8 s4).symm)
    clear hrd
    have hb_4 : (rdL (rdP d ver false) (dfP d) ver false [fOffsetCommitValue_4,fOffsetCommitValue_5] s5).2 = none → FB := fun h => hb_3 (by rw [rdL_st (by decide) hh_3,← hs5];exact h)
    obtain ⟨x_4,hx_4⟩ : ∃ x,x = dfF (dfP d) fOffsetCommitValue_4 := ⟨_,rfl⟩
    have hf_4 : RepF (RepS true d) (szS true d) fOffsetCommitValue_4 (fun b => ok b ∨ w1.heap.size ≤ b) w11 (x_4) [.int .i64 0] := by rw [hx_4];exact (RepF_num (by decide)).2 rfl
    have hh_4 : hasS fOffsetCommitValue_4 ver = false := hasS_f (by show ver < 1 ∨ (0 ≤ (1 : Int) ∧ (1 : Int) < ver);omega)
    have hb_5 : (rdL (rdP d ver false) (dfP d) ver false [fOffsetCommitValue_5] s5).2 = none → FB := fun h => hb_4 (by rw [rdL_no hh_4];exact h)
    obtain ⟨x_5,hx_5⟩ : ∃ x,x = dfF (dfP d) fOffsetCommitValue_5 := ⟨_,rfl⟩
    have hf_5 : RepF (RepS true d) (szS true d) fOffsetCommitValue_5 (fun b => ok b ∨ w1.heap.size ≤ b) w11 (x_5) [.int .u8 0,.int .u8 0,.int .u8 0,.int .u8 0,.int .u8 0,.int .u8 0,.int .u8 0,.int .u8 0,.int .u8 0,.int .u8 0,.int .u8 0,.int .u8 0,.int .u8 0,.int .u8 0,.int .u8 0,.int .u8 0] := by rw [hx_5];exact (RepF_uuid rfl).2 rfl
    have hl_6 : rdL (rdP d ver false) (dfP d) ver false [] s5 = ([],s5) := rfl
    have hl_5 : rdL (rdP d ver false) (dfP d) ver false [fOffsetCommitValue_5] s5 = ([x_5],s5) := by rw [rdL_tg (by decide),← hx_5,hl_6]
    have hl_4 : rdL (rdP d ver false) (dfP d) ver false [fOffsetCommitValue_4,fOffsetCommitValue_5] s5 = ([x_4,x_5],s5) := by rw [rdL_no hh_4,← hx_4,hl_5]
    have hl_3 : rdL (rdP d ver false) (dfP d) ver false [fOffsetCommitValue_3,fOffsetCommitValue_4,fOffsetCommitValue_5] s4 = ([x_3,x_4,x_5],s5) := by rw [rdL_st (by decide) hh_3,← hx_3,← hs5,hl_4]
    have hl_2 : rdL (rdP d ver false) (dfP d) ver false [fOffsetCommitValue_2,fOffsetCommitValue_3,fOffsetCommitValue_4,fOffsetCommitValue_5] s3 = ([x_2,x_3,x_4,x_5],s5) := by rw [rdL_st (by decide) hh_2,← hx_2,← hs4,hl_3]
    have hl_1 : rdL (rdP d ver false) (dfP d) ver false [fOffsetCommitValue_1,fOffsetCommitValue_2,fOffsetCommitValue_3,fOffsetCommitValue_4,fOffsetCommitValue_5] s2 = ([x_1,x_2,x_3,x_4,x_5],s5) := by rw [rdL_st (by decide) hh_1,← hx_1,← hs3,hl_2]
    have hl_0 : rdL (rdP d ver false) (dfP d) ver false [fOffsetCommitValue_0,fOffsetCommitValue_1,fOffsetCommitValue_2,fOffsetCommitValue_3,fOffsetCommitValue_4,fOffsetCommitValue_5] s1 = ([x_0,x_1,x_2,x_3,x_4,x_5],s5) := by rw [rdL_st (by decide) hh_0,← hx_0,← hs2,hl_1]
    have hfin : rdM d ver false fs_OffsetCommitValue s1 = (.mk 0 [] false [x_0,x_1,x_2,x_3,x_4,x_5] [],s5) := rdM_f.trans (rdP_f hl_0)
    have hTg : TagsM (fun b => ok b ∨ w1.heap.size ≤ b) w11 (.map none) [] := .inl ⟨rfl,rfl⟩
    have hC_11 : Upd (fun b => b = vb ∨ b = rb) w11 w11 := Upd.refl _ _
    have hC_10 : Upd (fun b => b = vb ∨ b = rb) w10 w11 := hV11.trans hC_11
    have hC_9 : Upd (fun b => b = vb ∨ b = rb) w9 w11 := hV10.trans hC_10
    have hC_8 : Upd (fun b => b = vb ∨ b = rb) w8 w11 := hV9.trans hC_9
    have hC_7 : Upd (fun b => b = vb ∨ b = rb) w7 w11 := hV8.trans hC_8
    have hC_6 : Upd (fun b => b = vb ∨ b = rb) w6 w11 := hV7.trans hC_7
    have hC_5 : Upd (fun b => b = vb ∨ b = rb) w5 w11 := hV6.trans hC_6
    have hC_4 : Upd (fun b => b = vb ∨ b = rb) w4 w11 := hV5.trans hC_5
    have hC_3 : Upd (fun b => b = vb ∨ b = rb) w3 w11 := hV4.trans hC_4
    have hC_2 : Upd (fun b => b = vb ∨ b = rb) w2 w11 := hV3.trans hC_3
    have hC_1 : Upd (fun b => b = vb ∨ b = rb) w1 w11 := hV2.trans hC_2
    have hR : RepS true (d + 1) fs_OffsetCommitValue (fun b => ok b ∨ w1.heap.size ≤ b) w11 (.mk 0 [] false [x_0,x_1,x_2,x_3,x_4,x_5] []) [.int .i64 (rdInt .i64 8 s1).1,.int .i32 (rdInt .i32 4 s2).1,strV (rdStr false s3).1,.int .i64 (rdInt .i64 8 s4).1,.int .i64 0,.int .u8 0,.int .u8 0,.int .u8 0,.int .u8 0,.int .u8 0,.int .u8 0,.int .u8 0,.int .u8 0,.int .u8 0,.int .u8 0,.int .u8 0,.int .u8 0,.int .u8 0,.int .u8 0,.int .u8 0,.int .u8 0,.map none] := RepS.introT (c := [.int .i64 (rdInt .i64 8 s1).1,.int .i32 (rdInt .i32 4 s2).1,strV (rdStr false s3).1,.int .i64 (rdInt .i64 8 s4).1,.int .i64 0,.int .u8 0,.int .u8 0,.int .u8 0,.int .u8 0,.int .u8 0,.int .u8 0,.int .u8 0,.int .u8 0,.int .u8 0,.int .u8 0,.int .u8 0,.int .u8 0,.int .u8 0,.int .u8 0,.int .u8 0,.int .u8 0]) (RepL.cons1 (hf_0.keepS (hC_5.keeps fun b _ hk e => (hoM b hk) e)) (RepL.cons1 (hf_1.keepS (hC_7.keeps fun b _ hk e => (hoM b hk) e)) (RepL.cons1 (hf_2.keepS (hC_9.keeps fun b _ hk e => (hoM b hk) e)) (RepL.cons1 (hf_3.keepS (hC_11.keeps fun b _ hk e => (hoM b hk) e)) (RepL.cons1 (hf_4.keepS (hC_11.keeps fun b _ hk e => (hoM b hk) e)) (RepL.cons16 (hf_5.keepS (hC_11.keeps fun b _ hk e => (hoM b hk) e)) RepL.nil)))))) hTg
    repeat ((first | refine qA rfl ?_|refine qB ?_|refine qC rfl ?_|refine qD ?_|refine qE ?_|refine qF ?_|refine qG ?_|refine qH ?_);try simp (maxSteps:=1000000)(disch:=(first|omega|(simp only [qI,qJ,qK]<;>omega)|exact qL _)) only [go_sem,↓reduceIte,n0,reduceCtorEq,n1,n2,n3,n4,n5,i0,i1,i2,i3,i4,i5,i6,i7,hv_11,hun,hun'])
    refine (RComplete_fn w11 hq11.1 hG11.2).mono ?_
    rintro _ wz ⟨rfl,hez⟩
    rw [hez]
    repeat ((first | refine qA rfl ?_|refine qB ?_|refine qC rfl ?_|refine qD ?_|refine qE ?_|refine qF ?_|refine qG ?_|refine qH ?_);try simp (maxSteps:=1000000)(disch:=(first|omega|(simp only [qI,qJ,qK]<;>omega)|exact qL _)) only [go_sem,↓reduceIte,n0,reduceCtorEq,n1,n2,n3,n4,n5,i0,i1,i2,i3,i4,i5,i6,i7,hv_11,hun,hun'])
    rw [hfin]
    refine ⟨fun h => ?_,fun h => ⟨?_,[.int .i64 (rdInt .i64 8 s1).1,.int .i32 (rdInt .i32 4 s2).1,strV (rdStr false s3).1,.int .i64 (rdInt .i64 8 s4).1,.int .i64 0,.int .u8 0,.int .u8 0,.int .u8 0,.int .u8 0,.int .u8 0,.int .u8 0,.int .u8 0,.int .u8 0,.int .u8 0,.int .u8 0,.int .u8 0,.int .u8 0,.int .u8 0,.int .u8 0,.int .u8 0,.int .u8 0,.map none],hv_11,?_⟩,?_⟩
    · have h' : s5 = none := h
      rw [h'];rfl
    · cases hsn : s5 with
      | none => exact absurd hsn h
      | some x => rfl
    · exact (RepS_lay true (d + 1) fs_OffsetCommitValue).weaken hR fun b _ hk => hk.imp id fun h => by omega
    · exact hbase.trans' hU11 fun i hi h => h.elim id fun h => by omega
end Ms

namespace Ms
open Go.World renaming size_alloc → qI
open Ms renaming size_wr → qJ,size_drew → qK,not_noB → qL
open W renaming seqR → qA,seq → qB,regR → qC,condK → qD,block → qE,skip → qF,ret → qG,exit → qH
open Nat renaming reduceEqDiff → n0,reduceAdd → n1,reduceMul → n2,reduceSub → n3,reduceLT → n4,reduceLeDiff → n5
open Int renaming reduceEq → i0,reduceLT → i1,reduceLE → i2,reduceNeg → i3,reduceAdd → i4,reduceSub → i5,reduceMul → i6,reduceToNat → i7
set_option maxRecDepth 8000
open Go Go.Proofs Go.Shelf
attribute [local congr] W_congr WPsq_congr WPp_congr optK_congr addrK_congr intK_congr boolK_congr sliceK_congr tupleK_congr funcK_congr Fn_congr rawK_congr takeK_congr stepK_congr convK_congr aggK_congr

set_option maxHeartbeats 24000000 in
theorem readOffsetCommitValue_4b {un : Bool} {d : Nat} {ok : Blocks} {ver : Int} {ev : Value} (hlo : 4 ≤ ver) (hhi : ver ≤ 32767) (w : World) {vb : Nat} (src : Value) (s : List UInt8) (hvc : (rdInt .i16 2 (some s)).1 = ver ∨ ((rdInt .i16 2 (some s)).1 < 0 ∧ ver = 0)) (hv : blk w vb = some (#[.int .i16 0,.int .i64 0,.int .i32 0,.string ByteArray.empty,.int .i64 0,.int .i64 0,.int .u8 0,.int .u8 0,.int .u8 0,.int .u8 0,.int .u8 0,.int .u8 0,.int .u8 0,.int .u8 0,.int .u8 0,.int .u8 0,.int .u8 0,.int .u8 0,.int .u8 0,.int .u8 0,.int .u8 0,.int .u8 0,.map none],47,(0,0))) (hsrc : BytesV ok w src s) (hok0 : ∀ b,ok b → b < w.heap.size ∧ b ≠ vb) (hG : Glo ev w) (hgv : ¬ 0 = vb ∧ ¬ 1 = vb) (hev : ∃ T p,ev = .iface T p) :
    Fn Tryd.prog 18 #[.pointer (some ⟨vb,0,none⟩),src,.bool un] w (ReadQ 47 ok (rdInt .i16 2 (some s)).1 (d + 1) fs_OffsetCommitValue vb w (rdM d ver true fs_OffsetCommitValue (rdInt .i16 2 (some s)).2) ev) := by
  have hcs : ((un = true) = True ∧ (un = false) = False) ∨ ((un = true) = False ∧ (un = false) = True) := by cases un <;> simp
  rcases hcs with ⟨hun,hun'⟩ | ⟨hun,hun'⟩
  all_goals
    have hvl := blk_lt hv
    have hgs := hG.lt
    obtain ⟨sa,sc,rfl,_⟩ := hsrc.shape
    refine fn_of_W Tryd.func18 rfl Tryd.results18 Tryd.ntmps18 rfl ?_
    repeat ((first | refine qA rfl ?_|refine qB ?_|refine qC rfl ?_|refine qD ?_|refine qE ?_|refine qF ?_|refine qG ?_|refine qH ?_);try simp (maxSteps:=1000000)(disch:=(first|omega|(simp only [qI,qJ,qK]<;>omega)|exact qL _)) only [go_sem,↓reduceIte,n0,reduceCtorEq,n1,n2,n3,n4,n5,i0,i1,i2,i3,i4,i5,i6,i7,hv])
    refine (DefaultOffsetCommitValue_fn w hv).mono ?_
    rintro _ w0 ⟨hv0,hu0⟩
    have hz0 := hu0.size
    have hsrc0 : BytesV ok w0 (.slice sa s.length sc) s := hsrc.keep (hu0.keeps fun b _ hk e => (hok0 b hk).2 e)
    obtain ⟨rb,hrb⟩ : ∃ r,r = w0.heap.size := ⟨_,rfl⟩
    have hE1 : Ext w0 (wr (w0.alloc (.cells #[.slice none 0 0,.bool false] 68)) w0.heap.size 0 [.slice sa s.length sc,.bool false]) := (Upd.alloc (Upd.refl _ _) _).wr _ _ (.inl (Nat.le_refl _))
    have hz1 : (wr (w0.alloc (.cells #[.slice none 0 0,.bool false] 68)) w0.heap.size 0 [.slice sa s.length sc,.bool false]).heap.size = w0.heap.size + 1 := by rw [size_wr,World.size_alloc]
    have hR1 : Rdr RT ok (wr (w0.alloc (.cells #[.slice none 0 0,.bool false] 68)) w0.heap.size 0 [.slice sa s.length sc,.bool false]) w0.heap.size (some s) := Rdr.good (v := .slice sa s.length sc) (by simp (maxSteps:=1000000)(disch:=(first|omega|(simp only [qI,qJ,qK]<;>omega)|exact qL _)) only [go_sem,↓reduceIte,n0,reduceCtorEq,n1,n2,n3,n4,n5,i0,i1,i2,i3,i4,i5,i6,i7]) (hsrc0.keep (hE1.keeps _))
    have hv_1 := hE1.blk_some hv0 id
    repeat ((first | refine qA rfl ?_|refine qB ?_|refine qC rfl ?_|refine qD ?_|refine qE ?_|refine qF ?_|refine qG ?_|refine qH ?_);try simp (maxSteps:=1000000)(disch:=(first|omega|(simp only [qI,qJ,qK]<;>omega)|exact qL _)) only [go_sem,↓reduceIte,n0,reduceCtorEq,n1,n2,n3,n4,n5,i0,i1,i2,i3,i4,i5,i6,i7,hv0])
    generalize (wr (w0.alloc (.cells #[.slice none 0 0,.bool false] 68)) w0.heap.size 0 [.slice sa s.length sc,.bool false]) = w1 at *
    rw [← hrb] at hR1
    try rw [← hrb]
    have hok : ∀ b,ok b → b < w.heap.size ∧ b ≠ vb := hok0
    have hrok : ¬ ok rb := fun h => by have := (hok rb h).1;omega
    have hbase : Upd (fun b => b = vb) w w1 := hu0.trans (hE1.mono fun _ h => h.elim)
    have hG1 : Glo ev w1 := hG.updS hbase hgv.1 hgv.2
    have hgrb : ¬ 0 = rb := by omega
    have hgM1 : ¬ (0 = vb ∨ 0 = rb) := fun h => h.elim hgv.1 fun h => by omega
    have hgM2 : ¬ (1 = vb ∨ 1 = rb) := fun h => h.elim hgv.2 fun h => by omega
    obtain ⟨s0,hs0⟩ : ∃ s' : St,s' = some s := ⟨_,rfl⟩
    rw [← hs0] at hR1 hvc ⊢
    have hU1 : Upd (fun b => b = vb ∨ b = rb) w1 w1 := Upd.refl _ _
    have hoM : ∀ b,(ok b ∨ w1.heap.size ≤ b) → ¬ (b = vb ∨ b = rb) := fun b hk h => by
      rcases hk with hk | hk
      · have := hok b hk;rcases h with h | h <;> omega
      · rcases h with h | h <;> omega
    have hq1 : Rdr RT ok w1 rb s0 := hR1
    repeat ((first | refine qA rfl ?_|refine qB ?_|refine qC rfl ?_|refine qD ?_|refine qE ?_|refine qF ?_|refine qG ?_|refine qH ?_);try simp (maxSteps:=1000000)(disch:=(first|omega|(simp only [qI,qJ,qK]<;>omega)|exact qL _)) only [go_sem,↓reduceIte,n0,reduceCtorEq,n1,n2,n3,n4,n5,i0,i1,i2,i3,i4,i5,i6,i7,hv_1,hun,hun'])
    refine (Int16_fn w1 hq1 hrok hG1.1 hgrb).mono ?_
    rintro _ w2 ⟨rfl,hq2,hu2⟩
    have hv_2 := hu2.blk_some hv_1 (by omega)
    have hV2 : Upd (fun b => b = vb ∨ b = rb) w1 w2 := hu2.mono (fun _ h => .inr h)
    have hU2 : Upd (fun b => b = vb ∨ b = rb) w1 w2 := hU1.trans hV2
    have hz2 := hV2.size
    have hG2 : Glo ev w2 := hG1.updS hU2 hgM1 hgM2
    obtain ⟨s1,hs1⟩ : ∃ s,s = (rdInt .i16 2 s0).2 := ⟨_,rfl⟩
    obtain ⟨vc,hvcE⟩ : ∃ x,x = (rdInt .i16 2 s0).1 := ⟨_,rfl⟩
    rw [← hs1] at hq2
    rw [← hvcE] at hvc
    rw [← hvcE,← hs1]
    try simp (maxSteps:=1000000)(disch:=(first|omega|(simp only [qI,qJ,qK]<;>omega)|exact qL _)) only [go_sem,↓reduceIte,n0,reduceCtorEq,n1,n2,n3,n4,n5,i0,i1,i2,i3,i4,i5,i6,i7,hv_2,hun,hun']
    repeat ((first | refine qA rfl ?_|refine qB ?_|refine qC rfl ?_|refine qD ?_|refine qE ?_|refine qF ?_|refine qG ?_|refine qH ?_);try simp (maxSteps:=1000000)(disch:=(first|omega|(simp only [qI,qJ,qK]<;>omega)|exact qL _)) only [go_sem,↓reduceIte,n0,reduceCtorEq,n1,n2,n3,n4,n5,i0,i1,i2,i3,i4,i5,i6,i7,hv_2,hun,hun'])
    generalize hw3 : wr w2 vb 0 [.int .i16 vc] = w3
    have hS3 : Upd (fun b => b = vb ∨ b = rb) w2 w3 := by rw [← hw3];exact (Upd.refl _ _).wr _ _ (.inr (.inl rfl))
    have hv_3 : blk w3 vb = some (#[.int .i16 vc,.int .i64 0,.int .i32 0,.string ByteArray.empty,.int .i64 0,.int .i64 0,.int .u8 0,.int .u8 0,.int .u8 0,.int .u8 0,.int .u8 0,.int .u8 0,.int .u8 0,.int .u8 0,.int .u8 0,.int .u8 0,.int .u8 0,.int .u8 0,.int .u8 0,.int .u8 0,.int .u8 0,.int .u8 0,.map none],47,(0,0)) := by rw [← hw3,blk_wr_eq,hv_2];rfl
    have hV3 := hS3
    have hU3 : Upd (fun b => b = vb ∨ b = rb) w1 w3 := hU2.trans hV3
    have hz3 := hV3.size
    have hG3 : Glo ev w3 := hG1.updS hU3 hgM1 hgM2
    have hq3 := Rdr.stored hw3 hq2 (by omega) fun h => by have := (hok _ h).1;first | omega | exact (hok _ h).2 rfl
    clear hw3
    obtain ⟨FB,hFB⟩ : ∃ P : Prop,P = ((rdM d ver true fs_OffsetCommitValue s1).2 = none) := ⟨_,rfl⟩
    have hb_0 : (rdL (rdP d ver true) (dfP d) ver true [fOffsetCommitValue_0,fOffsetCommitValue_1,fOffsetCommitValue_2,fOffsetCommitValue_3,fOffsetCommitValue_4,fOffsetCommitValue_5] s1).2 = none → FB := fun h => Eq.mpr hFB (rdM_bad h)
    have hh_0 : hasS fOffsetCommitValue_0 ver = true := hasS_t (by show (0 : Int) ≤ ver;omega) (by show (-1 : Int) < 0 ∨ ver ≤ (-1 : Int);omega)
    obtain ⟨x_0,hx_0⟩ : ∃ x,x = (rdF (rdP d ver true) ver true fOffsetCommitValue_0 s1).1 := ⟨_,rfl⟩
    repeat ((first | refine qA rfl ?_|refine qB ?_|refine qC rfl ?_|refine qD ?_|refine qE ?_|refine qF ?_|refine qG ?_|refine qH ?_);try simp (maxSteps:=1000000)(disch:=(first|omega|(simp only [qI,qJ,qK]<;>omega)|exact qL _)) only [go_sem,↓reduceIte,n0,reduceCtorEq,n1,n2,n3,n4,n5,i0,i1,i2,i3,i4,i5,i6,i7,hv_3,hun,hun'])
    have hrd : rdF (rdP d ver true) ver true fOffsetCommitValue_0 s1 = _ := rdF_num 4 rfl (by decide)
    refine (Int64_fn w3 hq3.1 hrok hG3.1 hgrb).mono ?_
    rintro _ w4 ⟨rfl,hq4,hu4⟩
    have hv_4 := hu4.blk_some hv_3 (by omega)
    have hV4 : Upd (fun b => b = vb ∨ b = rb) w3 w4 := hu4.mono (fun _ h => .inr h)
    have hU4 : Upd (fun b => b = vb ∨ b = rb) w1 w4 := hU3.trans hV4
    have hz4 := hV4.size
    have hG4 : Glo ev w4 := hG1.updS hU4 hgM1 hgM2
    have hst : (rdF (rdP d ver true) ver true fOffsetCommitValue_0 s1).2 = (rdInt .i64 8 s1).2 := by first | (rw [hrd];rfl) | rw [hrd]
    obtain ⟨s2,hs2⟩ : ∃ s,s = (rdF (rdP d ver true) ver true fOffsetCommitValue_0 s1).2 := ⟨_,rfl⟩
    rw [← hst,← hs2] at hq4
    clear hst
    repeat ((first | refine qA rfl ?_|refine qB ?_|refine qC rfl ?_|refine qD ?_|refine qE ?_|refine qF ?_|refine qG ?_|refine qH ?_);try simp (maxSteps:=1000000)(disch:=(first|omega|(simp only [qI,qJ,qK]<;>omega)|exact qL _)) only [go_sem,↓reduceIte,n0,reduceCtorEq,n1,n2,n3,n4,n5,i0,i1,i2,i3,i4,i5,i6,i7,hv_4,hun,hun'])
    generalize hw5 : wr w4 vb 1 [.int .i64 (rdInt .i64 8 s1).1] = w5
    have hS5 : Upd (fun b => b = vb ∨ b = rb) w4 w5 := by rw [← hw5];exact (Upd.refl _ _).wr _ _ (.inr (.inl rfl))
    have hv_5 : blk w5 vb = some (#[.int .i16 vc,.int .i64 (rdInt .i64 8 s1).1,.int .i32 0,.string ByteArray.empty,.int .i64 0,.int .i64 0,.int .u8 0,.int .u8 0,.int .u8 0,.int .u8 0,.int .u8 0,.int .u8 0,.int .u8 0,.int .u8 0,.int .u8 0,.int .u8 0,.int .u8 0,.int .u8 0,.int .u8 0,.int .u8 0,.int .u8 0,.int .u8 0,.map none],47,(0,0)) := by rw [← hw5,blk_wr_eq,hv_4];rfl
    have hV5 := hS5
    have hU5 : Upd (fun b => b = vb ∨ b = rb) w1 w5 := hU4.trans hV5
    have hz5 := hV5.size
    have hG5 : Glo ev w5 := hG1.updS hU5 hgM1 hgM2
    have hq5 := Rdr.stored hw5 hq4 (by omega) fun h => by have := (hok _ h).1;first | omega | exact (hok _ h).2 rfl
    clear hw5
    have hf_0 : RepF (RepS true d) (szS true d) fOffsetCommitValue_0 (fun b => ok b ∨ w1.heap.size ≤ b) w5 (x_0) [.int .i64 (rdInt .i64 8 s1).1] := (RepF_num (by decide)).2 (by rw [hx_0,hrd];exact congrArg (fun x => [x]) (numC_rd 4 (by decide) 8 s1).symm)
    clear hrd
    have hb_1 : (rdL (rdP d ver true) (dfP d) ver true [fOffsetCommitValue_1,fOffsetCommitValue_2,fOffsetCommitValue_3,fOffsetCommitValue_4,fOffsetCommitValue_5] s2).2 = none → FB := fun h => hb_0 (by rw [rdL_st (by decide) hh_0,← hs2];exact h)
    have hh_1 : hasS fOffsetCommitValue_1 ver = true := hasS_t (by show (3 : Int) ≤ ver;omega) (by show (-1 : Int) < 0 ∨ ver ≤ (-1 : Int);omega)
    obtain ⟨x_1,hx_1⟩ : ∃ x,x = (rdF (rdP d ver true) ver true fOffsetCommitValue_1 s2).1 := ⟨_,rfl⟩
    repeat ((first | refine qA rfl ?_|refine qB ?_|refine qC rfl ?_|refine qD ?_|refine qE ?_|refine qF ?_|refine qG ?_|refine qH ?_);try simp (maxSteps:=1000000)(disch:=(first|omega|(simp only [qI,qJ,qK]<;>omega)|exact qL _)) only [go_sem,↓reduceIte,n0,reduceCtorEq,n1,n2,n3,n4,n5,i0,i1,i2,i3,i4,i5,i6,i7,hv_5,hun,hun'])
    have hrd : rdF (rdP d ver true) ver true fOffsetCommitValue_1 s2 = _ := rdF_num 3 rfl (by decide)
    refine (Int32_fn w5 hq5.1 hrok hG5.1 hgrb).mono ?_
    rintro _ w6 ⟨rfl,hq6,hu6⟩
    have hv_6 := hu6.blk_some hv_5 (by omega)
    have hV6 : Upd (fun b => b = vb ∨ b = rb) w5 w6 := hu6.mono (fun _ h => .inr h)
    have hU6 : Upd (fun b => b = vb ∨ b = rb) w1 w6 := hU5.trans hV6
    have hz6 := hV6.size
    have hG6 : Glo ev w6 := hG1.updS hU6 hgM1 hgM2
    have hst : (rdF (rdP d ver true) ver true fOffsetCommitValue_1 s2).2 = (rdInt .i32 4 s2).2 := by first | (rw [hrd];rfl) | rw [hrd]
    obtain ⟨s3,hs3⟩ : ∃ s,s = (rdF (rdP d ver true) ver true fOffsetCommitValue_1 s2).2 := ⟨_,rfl⟩
    rw [← hst,← hs3] at hq6
    clear hst
    repeat ((first | refine qA rfl ?_|refine qB ?_|refine qC rfl ?_|refine qD ?_|refine qE ?_|refine qF ?_|refine qG ?_|refine qH ?_);try simp (maxSteps:=1000000)(disch:=(first|omega|(simp only [qI,qJ,qK]<;>omega)|exact qL _)) only [go_sem,↓reduceIte,n0,reduceCtorEq,n1,n2,n3,n4,n5,i0,i1,i2,i3,i4,i5,i6,i7,hv_6,hun,hun'])
    generalize hw7 : wr w6 vb 2 [.int .i32 (rdInt .i32 4 s2).1] = w7
    have hS7 : Upd (fun b => b = vb ∨ b = rb) w6 w7 := by rw [← hw7];exact (Upd.refl _ _).wr _ _ (.inr (.inl rfl))
    have hv_7 : blk w7 vb = some (#[.int .i16 vc,.int .i64 (rdInt .i64 8 s1).1,.int .i32 (rdInt .i32 4 s2).1,.string ByteArray.empty,.int .i64 0,.int .i64 0,.int .u8 0,.int .u8 0,.int .u8 0,.int .u8 0,.int .u8 0,.int .u8 0,.int .u8 0,.int .u8 0,.int .u8 0,.int .u8 0,.int .u8 0,.int .u8 0,.int .u8 0,.int .u8 0,.int .u8 0,.int .u8 0,.map none],47,(0,0)) := by rw [← hw7,blk_wr_eq,hv_6];rfl
    have hV7 := hS7
    have hU7 : Upd (fun b => b = vb ∨ b = rb) w1 w7 := hU6.trans hV7
    have hz7 := hV7.size
    have hG7 : Glo ev w7 := hG1.updS hU7 hgM1 hgM2
    have hq7 := Rdr.stored hw7 hq6 (by omega) fun h => by have := (hok _ h).1;first | omega | exact (hok _ h).2 rfl
    clear hw7
    have hf_1 : RepF (RepS true d) (szS true d) fOffsetCommitValue_1 (fun b => ok b ∨ w1.heap.size ≤ b) w7 (x_1) [.int .i32 (rdInt .i32 4 s2).1] := (RepF_num (by decide)).2 (by rw [hx_1,hrd];exact congrArg (fun x => [x]) (numC_rd 3 (by decide) 4 s2).symm)
    clear hrd
    have hb_2 : (rdL (rdP d ver true) (dfP d) ver true [fOffsetCommitValue_2,fOffsetCommitValue_3,fOffsetCommitValue_4,fOffsetCommitValue_5] s3).2 = none → FB := fun h => hb_1 (by rw [rdL_st (by decide) hh_1,← hs3];exact h)
    have hh_2 : hasS fOffsetCommitValue_2 ver = true := hasS_t (by show (0 : Int) ≤ ver;omega) (by show (-1 : Int) < 0 ∨ ver ≤ (-1 : Int);omega)
    obtain ⟨x_2,hx_2⟩ : ∃ x,x = (rdF (rdP d ver true) ver true fOffsetCommitValue_2 s3).1 := ⟨_,rfl⟩
    repeat ((first | refine qA rfl ?_|refine qB ?_|refine qC rfl ?_|refine qD ?_|refine qE ?_|refine qF ?_|refine qG ?_|refine qH ?_);try simp (maxSteps:=1000000)(disch:=(first|omega|(simp only [qI,qJ,qK]<;>omega)|exact qL _)) only [go_sem,↓reduceIte,n0,reduceCtorEq,n1,n2,n3,n4,n5,i0,i1,i2,i3,i4,i5,i6,i7,hv_7,hun,hun'])
    have hmay : mayS fOffsetCommitValue_2 ver = false := mayS_no (by show (-1 : Int) < 0 ∨ ver < (-1 : Int);omega)
    have hrd : rdF (rdP d ver true) ver true fOffsetCommitValue_2 s3 = _ := rdF_text rfl hmay
    first | refine (RUnsafeCompactString_fn w7 hq7.1 hrok hG7.1 hgrb).mono ?_ | refine (RCompactString_fn w7 hq7.1 hrok hG7.1 hgrb).mono ?_
    rintro _ w8 ⟨rfl,hq8,hu8⟩
    have hv_8 := hu8.blk_some hv_7 (by omega)
    have hV8 : Upd (fun b => b = vb ∨ b = rb) w7 w8 := hu8.mono (fun _ h => .inr h)
    have hU8 : Upd (fun b => b = vb ∨ b = rb) w1 w8 := hU7.trans hV8
    have hz8 := hV8.size
    have hG8 : Glo ev w8 := hG1.updS hU8 hgM1 hgM2
    have hst : (rdF (rdP d ver true) ver true fOffsetCommitValue_2 s3).2 = (rdStr true s3).2 := by first | (rw [hrd];rfl) | rw [hrd]
    obtain ⟨s4,hs4⟩ : ∃ s,s = (rdF (rdP d ver true) ver true fOffsetCommitValue_2 s3).2 := ⟨_,rfl⟩
    rw [← hst,← hs4] at hq8
    clear hst
    repeat ((first | refine qA rfl ?_|refine qB ?_|refine qC rfl ?_|refine qD ?_|refine qE ?_|refine qF ?_|refine qG ?_|refine qH ?_);try simp (maxSteps:=1000000)(disch:=(first|omega|(simp only [qI,qJ,qK]<;>omega)|exact qL _)) only [go_sem,↓reduceIte,n0,reduceCtorEq,n1,n2,n3,n4,n5,i0,i1,i2,i3,i4,i5,i6,i7,hv_8,hun,hun'])
    generalize hw9 : wr w8 vb 3 [strV (rdStr true s3).1] = w9
    have hS9 : Upd (fun b => b = vb ∨ b = rb) w8 w9 := by rw [← hw9];exact (Upd.refl _ _).wr _ _ (.inr (.inl rfl))
    have hv_9 : blk w9 vb = some (#[.int .i16 vc,.int .i64 (rdInt .i64 8 s1).1,.int .i32 (rdInt .i32 4 s2).1,strV (rdStr true s3).1,.int .i64 0,.int .i64 0,.int .u8 0,.int .u8 0,.int .u8 0,.int .u8 0,.int .u8 0,.int .u8 0,.int .u8 0,.int .u8 0,.int .u8 0,.int .u8 0,.int .u8 0,.int .u8 0,.int .u8 0,.int .u8 0,.int .u8 0,.int .u8 0,.map none],47,(0,0)) := by rw [← hw9,blk_wr_eq,hv_8];rfl
    have hV9 := hS9
    have hU9 : Upd (fun b => b = vb ∨ b = rb) w1 w9 := hU8.trans hV9
    have hz9 := hV9.size
    have hG9 : Glo ev w9 := hG1.updS hU9 hgM1 hgM2
    have hq9 := Rdr.stored hw9 hq8 (by omega) fun h => by have := (hok _ h).1;first | omega | exact (hok _ h).2 rfl
    clear hw9
    have hf_2 : RepF (RepS true d) (szS true d) fOffsetCommitValue_2 (fun b => ok b ∨ w1.heap.size ≤ b) w9 (x_2) [strV (rdStr true s3).1] := (RepF_text rfl (by decide)).2 (by rw [hx_2,hrd];rfl)
    clear hrd
    have hb_3 : (rdL (rdP d ver true) (dfP d) ver true [fOffsetCommitValue_3,fOffsetCommitValue_4,fOffsetCommitValue_5] s4).2 = none → FB := fun h => hb_2 (by rw [rdL_st (by decide) hh_2,← hs4];exact h)
    have hh_3 : hasS fOffsetCommitValue_3 ver = true := hasS_t (by show (0 : Int) ≤ ver;omega) (by show (-1 : Int) < 0 ∨ ver ≤ (-1 : Int);omega)
    obtain ⟨x_3,hx_3⟩ : ∃ x,x = (rdF (rdP d ver true) ver true fOffsetCommitValue_3 s4).1 := ⟨_,rfl⟩
    repeat ((first | refine qA rfl ?_|refine qB ?_|refine qC rfl ?_|refine qD ?_|refine qE ?_|refine qF ?_|refine qG ?_|refine qH ?_);try simp (maxSteps:=1000000)(disch:=(first|omega|(simp only [qI,qJ,qK]<;>omega)|exact qL _)) only [go_sem,↓reduceIte,n0,reduceCtorEq,n1,n2,n3,n4,n5,i0,i1,i2,i3,i4,i5,i6,i7,hv_9,hun,hun'])
    have hrd : rdF (rdP d ver true) ver true fOffsetCommitValue_3 s4 = _ := rdF_num 4 rfl (by decide)
    refine (Int64_fn w9 hq9.1 hrok hG9.1 hgrb).mono ?_
    rintro _ w10 ⟨rfl,hq10,hu10⟩
    have hv_10 := hu10.blk_some hv_9 (by omega)
    have hV10 : Upd (fun b => b = vb ∨ b = rb) w9 w10 := hu10.mono (fun _ h => .inr h)
    have hU10 : Upd (fun b => b = vb ∨ b = rb) w1 w10 := hU9.trans hV10
    have hz10 := hV10.size
    have hG10 : Glo ev w10 := hG1.updS hU10 hgM1 hgM2
    have hst : (rdF (rdP d ver true) ver true fOffsetCommitValue_3 s4).2 = (rdInt .i64 8 s4).2 := by first | (rw [hrd];rfl) | rw [hrd]
    obtain ⟨s5,hs5⟩ : ∃ s,s = (rdF (rdP d ver true) ver true fOffsetCommitValue_3 s4).2 := ⟨_,rfl⟩
    rw [← hst,← hs5] at hq10
    clear hst
    repeat ((first | refine qA rfl ?_|refine qB ?_|refine qC rfl ?_|refine qD ?_|refine qE ?_|refine qF ?_|refine qG ?_|refine qH ?_);try simp (maxSteps:=1000000)(disch:=(first|omega|(simp only [qI,qJ,qK]<;>omega)|exact qL _)) only [go_sem,↓reduceIte,n0,reduceCtorEq,n1,n2,n3,n4,n5,i0,i1,i2,i3,i4,i5,i6,i7,hv_10,hun,hun'])
    generalize hw11 : wr w10 vb 4 [.int .i64 (rdInt .i64 8 s4).1] = w11
    have hS11 : Upd (fun b => b = vb ∨ b = rb) w10 w11 := by rw [← hw11];exact (Upd.refl _ _).wr _ _ (.inr (.inl rfl))
    have hv_11 : blk w11 vb = some (#[.int .i16 vc,.int .i64 (rdInt .i64 8 s1).1,.int .i32 (rdInt .i32 4 s2).1,strV (rdStr true s3).1,.int .i64 (rdInt .i64 8 s4).1,.int .i64 0,.int .u8 0,.int .u8 0,.int .u8 0,.int .u8 0,.int .u8 0,.int .u8 0,.int .u8 0,.int .u8 0,.int .u8 0,.int .u8 0,.int .u8 0,.int .u8 0,.int .u8 0,.int .u8 0,.int .u8 0,.int .u8 0,.map none],47,(0,0)) := by rw [← hw11,blk_wr_eq,hv_10];rfl
    have hV11 := hS11
    have hU11 : Upd (fun b => b = vb ∨ b = rb) w1 w11 := hU10.trans hV11
    have hz11 := hV11.size
    have hG11 : Glo ev w11 := hG1.updS hU11 hgM1 hgM2
    have hq11 := Rdr.stored hw11 hq10 (by omega) fun h => by have := (hok _ h).1;first | omega | exact (hok _ h).2 rfl
    clear hw11
    have hf_3 : RepF (RepS true d) (szS true d) fOffsetCommitValue_3 (fun b => ok b ∨ w1.heap.size ≤ b) w11 (x_3) [.int .i64 (rdInt .i64 8 s4).1] := (RepF_num (by decide)).2 (by rw [hx_3,hrd];exact congrArg (fun x => [x]) (numC_rd 4 (by decide) 8 s4).symm)
    clear hrd
    have hb_4 : (rdL (rdP d ver true) (dfP d) ver true [fOffsetCommitValue_4,fOffsetCommitValue_5] s5).2 = none → FB := fun h => hb_3 (by rw [rdL_st (by decide) hh_3,← hs5];exact h)
    obtain ⟨x_4,hx_4⟩ : ∃ x,x = dfF (dfP d) fOffsetCommitValue_4 := ⟨_,rfl⟩
    have hf_4 : RepF (RepS true d) (szS true d) fOffsetCommitValue_4 (fun b => ok b ∨ w1.heap.size ≤ b) w11 (x_4) [.int .i64 0] := by rw [hx_4];exact (RepF_num (by decide)).2 rfl
    have hh_4 : hasS fOffsetCommitValue_4 ver = false := hasS_f (by show ver < 1 ∨ (0 ≤ (1 : Int) ∧ (1 : Int) < ver);omega)
    have hb_5 : (rdL (rdP d ver true) (dfP d) ver true [fOffsetCommitValue_5] s5).2 = none → FB := fun h => hb_4 (by rw [rdL_no hh_4];exact h)
    obtain ⟨x_5,hx_5⟩ : ∃ x,x = dfF (dfP d) fOffsetCommitValue_5 := ⟨_,rfl⟩
    have hf_5 : RepF (RepS true d) (szS true d) fOffsetCommitValue_5 (fun b => ok b ∨ w1.heap.size ≤ b) w11 (x_5) [.int .u8 0,.int .u8 0,.int .u8 0,.int .u8 0,.int .u8 0,.int .u8 0,.int .u8 0,.int .u8 0,.int .u8 0,.int .u8 0,.int .u8 0,.int .u8 0,.int .u8 0,.int .u8 0,.int .u8 0,.int .u8 0] := by rw [hx_5];exact (RepF_uuid rfl).2 rfl
    have hl_6 : rdL (rdP d ver true) (dfP d) ver true [] s5 = ([],s5) := rfl
    have hl_5 : rdL (rdP d ver true) (dfP d) ver true [fOffsetCommitValue_5] s5 = ([x_5],s5) := by rw [rdL_tg (by decide),← hx_5,hl_6]
    have hl_4 : rdL (rdP d ver true) (dfP d) ver true [fOffsetCommitValue_4,fOffsetCommitValue_5] s5 = ([x_4,x_5],s5) := by rw [rdL_no hh_4,← hx_4,hl_5]
    have hl_3 : rdL (rdP d ver true) (dfP d) ver true [fOffsetCommitValue_3,fOffsetCommitValue_4,fOffsetCommitValue_5] s4 = ([x_3,x_4,x_5],s5) := by rw [rdL_st (by decide) hh_3,← hx_3,← hs5,hl_4]
    have hl_2 : rdL (rdP d ver true) (dfP d) ver true [fOffsetCommitValue_2,fOffsetCommitValue_3,fOffsetCommitValue_4,fOffsetCommitValue_5] s3 = ([x_2,x_3,x_4,x_5],s5) := by rw [rdL_st (by decide) hh_2,← hx_2,← hs4,hl_3]
    have hl_1 : rdL (rdP d ver true) (dfP d) ver true [fOffsetCommitValue_1,fOffsetCommitValue_2,fOffsetCommitValue_3,fOffsetCommitValue_4,fOffsetCommitValue_5] s2 = ([x_1,x_2,x_3,x_4,x_5],s5) := by rw [rdL_st (by decide) hh_1,← hx_1,← hs3,hl_2]
    have hl_0 : rdL (rdP d ver true) (dfP d) ver true [fOffsetCommitValue_0,fOffsetCommitValue_1,fOffsetCommitValue_2,fOffsetCommitValue_3,fOffsetCommitValue_4,fOffsetCommitValue_5] s1 = ([x_0,x_1,x_2,x_3,x_4,x_5],s5) := by rw [rdL_st (by decide) hh_0,← hx_0,← hs2,hl_1]
    repeat ((first | refine qA rfl ?_|refine qB ?_|refine qC rfl ?_|refine qD ?_|refine qE ?_|refine qF ?_|refine qG ?_|refine qH ?_);try simp (maxSteps:=1000000)(disch:=(first|omega|(simp only [qI,qJ,qK]<;>omega)|exact qL _)) only [go_sem,↓reduceIte,n0,reduceCtorEq,n1,n2,n3,n4,n5,i0,i1,i2,i3,i4,i5,i6,i7,hv_11,hun,hun'])
    refine (RUvarint_fn w11 hq11.1 hrok).mono ?_
    rintro _ w12 ⟨rfl,hq12,hu12⟩
    have hv_12 := hu12.blk_some hv_11 (by omega)
    have hV12 : Upd (fun b => b = vb ∨ b = rb) w11 w12 := hu12.mono (fun _ h => .inr h)
    have hU12 : Upd (fun b => b = vb ∨ b = rb) w1 w12 := hU11.trans hV12
    have hz12 := hV12.size
    have hG12 : Glo ev w12 := hG1.updS hU12 hgM1 hgM2
    have hNl := rdUv_lt s5
    obtain ⟨s6,hs6⟩ : ∃ s,s = (rdUv s5).2 := ⟨_,rfl⟩
    rw [← hs6] at hq12
    obtain ⟨NT,hNT⟩ : ∃ N,N = (rdUv s5).1 := ⟨_,rfl⟩
    rw [← hNT] at hNl
    try rw [← hNT]
    have hCt_12 : Upd (fun b => b = vb ∨ b = rb) w12 w12 := Upd.refl _ _
    have hCt_11 : Upd (fun b => b = vb ∨ b = rb) w11 w12 := hV12.trans hCt_12
    have hCt_10 : Upd (fun b => b = vb ∨ b = rb) w10 w12 := hV11.trans hCt_11
    have hCt_9 : Upd (fun b => b = vb ∨ b = rb) w9 w12 := hV10.trans hCt_10
    have hCt_8 : Upd (fun b => b = vb ∨ b = rb) w8 w12 := hV9.trans hCt_9
    have hCt_7 : Upd (fun b => b = vb ∨ b = rb) w7 w12 := hV8.trans hCt_8
    have hCt_6 : Upd (fun b => b = vb ∨ b = rb) w6 w12 := hV7.trans hCt_7
    have hCt_5 : Upd (fun b => b = vb ∨ b = rb) w5 w12 := hV6.trans hCt_6
    have hCt_4 : Upd (fun b => b = vb ∨ b = rb) w4 w12 := hV5.trans hCt_5
    have hCt_3 : Upd (fun b => b = vb ∨ b = rb) w3 w12 := hV4.trans hCt_4
    have hCt_2 : Upd (fun b => b = vb ∨ b = rb) w2 w12 := hV3.trans hCt_3
    have hCt_1 : Upd (fun b => b = vb ∨ b = rb) w1 w12 := hV2.trans hCt_2
    have hgt_0 : RepF (RepS true d) (szS true d) fOffsetCommitValue_0 (fun b => (ok b ∨ w1.heap.size ≤ b) ∧ b < w12.heap.size) w12 x_0 [.int .i64 (rdInt .i64 8 s1).1] := RepF.weakenS (hf_0.keepS (hCt_5.keeps fun b _ hk e => (hoM b hk) e)) fun b hb hk => ⟨hk,hb⟩
    have hgt_1 : RepF (RepS true d) (szS true d) fOffsetCommitValue_1 (fun b => (ok b ∨ w1.heap.size ≤ b) ∧ b < w12.heap.size) w12 x_1 [.int .i32 (rdInt .i32 4 s2).1] := RepF.weakenS (hf_1.keepS (hCt_7.keeps fun b _ hk e => (hoM b hk) e)) fun b hb hk => ⟨hk,hb⟩
    have hgt_2 : RepF (RepS true d) (szS true d) fOffsetCommitValue_2 (fun b => (ok b ∨ w1.heap.size ≤ b) ∧ b < w12.heap.size) w12 x_2 [strV (rdStr true s3).1] := RepF.weakenS (hf_2.keepS (hCt_9.keeps fun b _ hk e => (hoM b hk) e)) fun b hb hk => ⟨hk,hb⟩
    have hgt_3 : RepF (RepS true d) (szS true d) fOffsetCommitValue_3 (fun b => (ok b ∨ w1.heap.size ≤ b) ∧ b < w12.heap.size) w12 x_3 [.int .i64 (rdInt .i64 8 s4).1] := RepF.weakenS (hf_3.keepS (hCt_11.keeps fun b _ hk e => (hoM b hk) e)) fun b hb hk => ⟨hk,hb⟩
    have hgt_4 : RepF (RepS true d) (szS true d) fOffsetCommitValue_4 (fun b => (ok b ∨ w1.heap.size ≤ b) ∧ b < w12.heap.size) w12 x_4 [.int .i64 0] := RepF.weakenS (hf_4.keepS (hCt_11.keeps fun b _ hk e => (hoM b hk) e)) fun b hb hk => ⟨hk,hb⟩
    have hgt_5 : RepF (RepS true d) (szS true d) fOffsetCommitValue_5 (fun b => (ok b ∨ w1.heap.size ≤ b) ∧ b < w12.heap.size) w12 x_5 [.int .u8 0,.int .u8 0,.int .u8 0,.int .u8 0,.int .u8 0,.int .u8 0,.int .u8 0,.int .u8 0,.int .u8 0,.int .u8 0,.int .u8 0,.int .u8 0,.int .u8 0,.int .u8 0,.int .u8 0,.int .u8 0] := RepF.weakenS (hf_5.keepS (hCt_11.keeps fun b _ hk e => (hoM b hk) e)) fun b hb hk => ⟨hk,hb⟩
    repeat ((first | refine qA rfl ?_|refine qB ?_|refine qC rfl ?_|refine qD ?_|refine qE ?_|refine qF ?_|refine qG ?_|refine qH ?_);try simp (maxSteps:=1000000)(disch:=(first|omega|(simp only [qI,qJ,qK]<;>omega)|exact qL _)) only [go_sem,↓reduceIte,n0,reduceCtorEq,n1,n2,n3,n4,n5,i0,i1,i2,i3,i4,i5,i6,i7,hv_12,hun,hun'])
    refine W.exitRJ 0 (EndQ [(2,.bool un),(7,.pointer (some ⟨rb,0,none⟩)),(8,.int .i16 vc),(9,.bool true),(10,.pointer (some ⟨vb,0,none⟩))] (fun w' => ∃ (u : List TagD) (st : St) (qm : Option Nat) (y_5 : Tree) (v_6 : Value) (v_7 : Value) (v_8 : Value) (v_9 : Value) (v_10 : Value) (v_11 : Value) (v_12 : Value) (v_13 : Value) (v_14 : Value) (v_15 : Value) (v_16 : Value) (v_17 : Value) (v_18 : Value) (v_19 : Value) (v_20 : Value) (v_21 : Value),rdTg (rdP d ver true) ver true fs_OffsetCommitValue 0 [x_0,x_1,x_2,x_3,x_4,y_5] u st = rdTgs (rdP d ver true) ver true fs_OffsetCommitValue [x_0,x_1,x_2,x_3,x_4,x_5] s5 ∧ blk w' vb = some (#[.int .i16 vc,.int .i64 (rdInt .i64 8 s1).1,.int .i32 (rdInt .i32 4 s2).1,strV (rdStr true s3).1,.int .i64 (rdInt .i64 8 s4).1,.int .i64 0,v_6,v_7,v_8,v_9,v_10,v_11,v_12,v_13,v_14,v_15,v_16,v_17,v_18,v_19,v_20,v_21,.map qm],47,(0,0)) ∧ RepF (RepS true d) (szS true d) fOffsetCommitValue_5 (fun b => (ok b ∨ w1.heap.size ≤ b) ∧ b < w'.heap.size ∧ ¬ qm = some b) w' y_5 [v_6,v_7,v_8,v_9,v_10,v_11,v_12,v_13,v_14,v_15,v_16,v_17,v_18,v_19,v_20,v_21] ∧ TagsG ok w12.heap.size w' (.map qm) u ∧ (u.map (·.1)).Nodup ∧ (Rdr RT ok w' rb st ∧ NN w' rb st) ∧ Upd (fun b => b = vb ∨ b = rb) w12 w')) (W.loop (LoopT [(2,.bool un),(7,.pointer (some ⟨rb,0,none⟩)),(8,.int .i16 vc),(9,.bool true),(10,.pointer (some ⟨vb,0,none⟩))] 16 (fun m w' => ∃ (u : List TagD) (st : St) (qm : Option Nat) (y_5 : Tree) (v_6 : Value) (v_7 : Value) (v_8 : Value) (v_9 : Value) (v_10 : Value) (v_11 : Value) (v_12 : Value) (v_13 : Value) (v_14 : Value) (v_15 : Value) (v_16 : Value) (v_17 : Value) (v_18 : Value) (v_19 : Value) (v_20 : Value) (v_21 : Value),m ≤ NT ∧ rdTg (rdP d ver true) ver true fs_OffsetCommitValue m [x_0,x_1,x_2,x_3,x_4,y_5] u st = rdTgs (rdP d ver true) ver true fs_OffsetCommitValue [x_0,x_1,x_2,x_3,x_4,x_5] s5 ∧ blk w' vb = some (#[.int .i16 vc,.int .i64 (rdInt .i64 8 s1).1,.int .i32 (rdInt .i32 4 s2).1,strV (rdStr true s3).1,.int .i64 (rdInt .i64 8 s4).1,.int .i64 0,v_6,v_7,v_8,v_9,v_10,v_11,v_12,v_13,v_14,v_15,v_16,v_17,v_18,v_19,v_20,v_21,.map qm],47,(0,0)) ∧ RepF (RepS true d) (szS true d) fOffsetCommitValue_5 (fun b => (ok b ∨ w1.heap.size ≤ b) ∧ b < w'.heap.size ∧ ¬ qm = some b) w' y_5 [v_6,v_7,v_8,v_9,v_10,v_11,v_12,v_13,v_14,v_15,v_16,v_17,v_18,v_19,v_20,v_21] ∧ TagsG ok w12.heap.size w' (.map qm) u ∧ (u.map (·.1)).Nodup ∧ (Rdr RT ok w' rb st ∧ NN w' rb st) ∧ Upd (fun b => b = vb ∨ b = rb) w12 w')) (fun ρ _ => (RowKit.intOf (ρ 16)).toNat) ?_ ?_) ?_
    · exact ⟨(by simp (maxSteps:=1000000)(disch:=(first|omega|(simp only [qI,qJ,qK]<;>omega)|exact qL _)) only [go_sem,↓reduceIte,n0,reduceCtorEq,n1,n2,n3,n4,n5,i0,i1,i2,i3,i4,i5,i6,i7,Holds_nil,Holds_cons]),NT,(by simp (maxSteps:=1000000)(disch:=(first|omega|(simp only [qI,qJ,qK]<;>omega)|exact qL _)) only [go_sem,↓reduceIte,n0,reduceCtorEq,n1,n2,n3,n4,n5,i0,i1,i2,i3,i4,i5,i6,i7];all_goals rfl),[],s6,none,x_5,.int .u8 0,.int .u8 0,.int .u8 0,.int .u8 0,.int .u8 0,.int .u8 0,.int .u8 0,.int .u8 0,.int .u8 0,.int .u8 0,.int .u8 0,.int .u8 0,.int .u8 0,.int .u8 0,.int .u8 0,.int .u8 0,Nat.le_refl _,(by unfold rdTgs;rw [← hNT,← hs6]),hv_12,RepF.weakenS hgt_5 (fun b hb hk => ⟨hk.1,hb,fun h => by cases h⟩),TagsG.start _ _ _,by simp,hq12,Upd.refl _ _⟩
    · rintro ρ w13 ⟨⟨hrt_2,hrt_7,hrt_8,hrt_9,hrt_10,-⟩,m,hri,u,s7,qm,y_5,v_6,v_7,v_8,v_9,v_10,v_11,v_12,v_13,v_14,v_15,v_16,v_17,v_18,v_19,v_20,v_21,hmN,hE,hv_13,hfT_5,hTG,hnd,hq13,hUa13⟩
      have hU13 : Upd (fun b => b = vb ∨ b = rb) w1 w13 := hU12.trans hUa13
      have hz13 := hU13.size
      have hza13 := hUa13.size
      have hG13 : Glo ev w13 := hG1.updS hU13 hgM1 hgM2
      have hmap : ∀ b,qm = some b → b < w13.heap.size ∧ w12.heap.size ≤ b := fun b h => hTG.lt h
      by_cases hm0 : m = 0
      · subst hm0
        have hc : ¬ (0 : Int) < ((0 : Nat) : Int) := by omega
        repeat ((first | refine qA rfl ?_|refine qB ?_|refine qC rfl ?_|refine qD ?_|refine qE ?_|refine qF ?_|refine qG ?_|refine qH ?_);try simp (maxSteps:=1000000)(disch:=(first|omega|(simp only [qI,qJ,qK]<;>omega)|exact qL _)) only [go_sem,↓reduceIte,n0,reduceCtorEq,n1,n2,n3,n4,n5,i0,i1,i2,i3,i4,i5,i6,i7,hv_13,hrt_2,hrt_7,hrt_8,hrt_9,hrt_10,hri,exitRQ_ret,exitRQ_exit,Int.toNat_natCast,Nat.mul_one,hun,hun'])
        exact ⟨(by simp (maxSteps:=1000000)(disch:=(first|omega|(simp only [qI,qJ,qK]<;>omega)|exact qL _)) only [go_sem,↓reduceIte,n0,reduceCtorEq,n1,n2,n3,n4,n5,i0,i1,i2,i3,i4,i5,i6,i7,Holds_nil,Holds_cons,hrt_2,hrt_7,hrt_8,hrt_9,hrt_10,hri]),u,s7,qm,y_5,v_6,v_7,v_8,v_9,v_10,v_11,v_12,v_13,v_14,v_15,v_16,v_17,v_18,v_19,v_20,v_21,hE,hv_13,hfT_5,hTG,hnd,hq13,hUa13⟩
      · obtain ⟨m,rfl⟩ : ∃ q,m = q + 1 := ⟨m - 1,by omega⟩
        have hw1 : IntKind.u32.wrap (((m + 1 : Nat) : Int) - 1) = ((m : Nat) : Int) := by rw [u32_wrap (by omega)];omega
        repeat ((first | refine qA rfl ?_|refine qB ?_|refine qC rfl ?_|refine qD ?_|refine qE ?_|refine qF ?_|refine qG ?_|refine qH ?_);try simp (maxSteps:=1000000)(disch:=(first|omega|(simp only [qI,qJ,qK]<;>omega)|exact qL _)) only [go_sem,↓reduceIte,n0,reduceCtorEq,n1,n2,n3,n4,n5,i0,i1,i2,i3,i4,i5,i6,i7,hv_13,hrt_2,hrt_7,hrt_8,hrt_9,hrt_10,hri,exitRQ_ret,exitRQ_exit,Int.toNat_natCast,Nat.mul_one,hun,hun'])
        refine (RUvarint_fn w13 hq13.1 hrok).mono ?_
        rintro _ w14 ⟨rfl,hq14,hu14⟩
        have hv_14 := hu14.blk_some hv_13 (by omega)
        have hV14 : Upd (fun b => b = vb ∨ b = rb) w13 w14 := hu14.mono (fun _ h => .inr h)
        have hU14 : Upd (fun b => b = vb ∨ b = rb) w1 w14 := hU13.trans hV14
        have hz14 := hV14.size
        have hG14 : Glo ev w14 := hG1.updS hU14 hgM1 hgM2
        have hKl := rdUv_lt s7
        obtain ⟨s8,hs8⟩ : ∃ s,s = (rdUv s7).2 := ⟨_,rfl⟩
        rw [← hs8] at hq14
        obtain ⟨K,hK⟩ : ∃ N,N = (rdUv s7).1 := ⟨_,rfl⟩
        rw [← hK] at hKl
        try rw [← hK]
        by_cases hk0 : K = 0
        · have hkI : (K : Int) = 0 := by omega
          repeat ((first | refine qA rfl ?_|refine qB ?_|refine qC rfl ?_|refine qD ?_|refine qE ?_|refine qF ?_|refine qG ?_|refine qH ?_);try simp (maxSteps:=1000000)(disch:=(first|omega|(simp only [qI,qJ,qK]<;>omega)|exact qL _)) only [go_sem,↓reduceIte,n0,reduceCtorEq,n1,n2,n3,n4,n5,i0,i1,i2,i3,i4,i5,i6,i7,hv_14,hrt_2,hrt_7,hrt_8,hrt_9,hrt_10,hri,exitRQ_ret,exitRQ_exit,Int.toNat_natCast,Nat.mul_one,hun,hun',hkI])
          refine (RUvarint_fn w14 hq14.1 hrok).mono ?_
          rintro _ w15 ⟨rfl,hq15,hu15⟩
          have hv_15 := hu15.blk_some hv_14 (by omega)
          have hV15 : Upd (fun b => b = vb ∨ b = rb) w14 w15 := hu15.mono (fun _ h => .inr h)
          have hU15 : Upd (fun b => b = vb ∨ b = rb) w1 w15 := hU14.trans hV15
          have hz15 := hV15.size
          have hG15 : Glo ev w15 := hG1.updS hU15 hgM1 hgM2
          have hSl := rdUv_lt s8
          obtain ⟨s9,hs9⟩ : ∃ s,s = (rdUv s8).2 := ⟨_,rfl⟩
          rw [← hs9] at hq15
          obtain ⟨SL,hSL⟩ : ∃ N,N = (rdUv s8).1 := ⟨_,rfl⟩
          rw [← hSL] at hSl
          try rw [← hSL]
          have e64 : IntKind.i64.wrap (SL : Int) = SL := i64_wrap (by omega)
          try simp (maxSteps:=1000000)(disch:=(first|omega|(simp only [qI,qJ,qK]<;>omega)|exact qL _)) only [go_sem,↓reduceIte,n0,reduceCtorEq,n1,n2,n3,n4,n5,i0,i1,i2,i3,i4,i5,i6,i7,hv_15,hrt_2,hrt_7,hrt_8,hrt_9,hrt_10,hri,exitRQ_ret,exitRQ_exit,Int.toNat_natCast,Nat.mul_one,hun,hun',e64]
          repeat ((first | refine qA rfl ?_|refine qB ?_|refine qC rfl ?_|refine qD ?_|refine qE ?_|refine qF ?_|refine qG ?_|refine qH ?_);try simp (maxSteps:=1000000)(disch:=(first|omega|(simp only [qI,qJ,qK]<;>omega)|exact qL _)) only [go_sem,↓reduceIte,n0,reduceCtorEq,n1,n2,n3,n4,n5,i0,i1,i2,i3,i4,i5,i6,i7,hv_15,hrt_2,hrt_7,hrt_8,hrt_9,hrt_10,hri,exitRQ_ret,exitRQ_exit,Int.toNat_natCast,Nat.mul_one,hun,hun',e64])
          refine (Span_fn w15 hq15.1 hrok _).mono ?_
          rintro r16 w16 ⟨hBs,_,_,hqx,hqy,hu16⟩
          have hq16 := And.intro hqx (hqy (.inl hq15.2))
          clear hqx hqy
          have hv_16 := hu16.blk_some hv_15 (by omega)
          have hV16 : Upd (fun b => b = vb ∨ b = rb) w15 w16 := hu16.mono (fun _ h => .inr h)
          have hU16 : Upd (fun b => b = vb ∨ b = rb) w1 w16 := hU15.trans hV16
          have hz16 := hV16.size
          have hG16 : Glo ev w16 := hG1.updS hU16 hgM1 hgM2
          obtain ⟨s10,hs10⟩ : ∃ s,s = (rdSpan (SL : Int) s9).2 := ⟨_,rfl⟩
          rw [← hs10] at hq16
          obtain ⟨SP,hSP⟩ : ∃ x,x = (rdSpan (SL : Int) s9).1 := ⟨_,rfl⟩
          rw [← hSP] at hBs
          rw [hs9] at hSP hs10
          obtain ⟨spa,spc,rfl,_⟩ := hBs.shape
          repeat ((first | refine qA rfl ?_|refine qB ?_|refine qC rfl ?_|refine qD ?_|refine qE ?_|refine qF ?_|refine qG ?_|refine qH ?_);try simp (maxSteps:=1000000)(disch:=(first|omega|(simp only [qI,qJ,qK]<;>omega)|exact qL _)) only [go_sem,↓reduceIte,n0,reduceCtorEq,n1,n2,n3,n4,n5,i0,i1,i2,i3,i4,i5,i6,i7,hv_16,hrt_2,hrt_7,hrt_8,hrt_9,hrt_10,hri,exitRQ_ret,exitRQ_exit,Int.toNat_natCast,Nat.mul_one,hun,hun',e64])
          obtain ⟨rc0,hrc⟩ : ∃ r,r = w16.heap.size := ⟨_,rfl⟩
          have hEi : Ext w16 (wr (w16.alloc (.cells #[.slice none 0 0,.bool false] 68)) w16.heap.size 0 [.slice spa SP.length spc,.bool false]) := (Upd.alloc (Upd.refl _ _) _).wr _ _ (.inl (Nat.le_refl _))
          have hzi : (wr (w16.alloc (.cells #[.slice none 0 0,.bool false] 68)) w16.heap.size 0 [.slice spa SP.length spc,.bool false]).heap.size = w16.heap.size + 1 := by rw [size_wr,World.size_alloc]
          have hRi : Rdr RT ok (wr (w16.alloc (.cells #[.slice none 0 0,.bool false] 68)) w16.heap.size 0 [.slice spa SP.length spc,.bool false]) w16.heap.size (some SP) := Rdr.good (v := .slice spa SP.length spc) (by simp (maxSteps:=1000000)(disch:=(first|omega|(simp only [qI,qJ,qK]<;>omega)|exact qL _)) only [go_sem,↓reduceIte,n0,reduceCtorEq,n1,n2,n3,n4,n5,i0,i1,i2,i3,i4,i5,i6,i7]) (hBs.keep (hEi.keeps _))
          have hv_17 := hEi.blk_some hv_16 id
          have hqo := And.intro (hq16.1.upd hEi (fun h => h) (fun _ _ _ h => h)) (hq16.2.upd hEi fun h => h)
          repeat ((first | refine qA rfl ?_|refine qB ?_|refine qC rfl ?_|refine qD ?_|refine qE ?_|refine qF ?_|refine qG ?_|refine qH ?_);try simp (maxSteps:=1000000)(disch:=(first|omega|(simp only [qI,qJ,qK]<;>omega)|exact qL _)) only [go_sem,↓reduceIte,n0,reduceCtorEq,n1,n2,n3,n4,n5,i0,i1,i2,i3,i4,i5,i6,i7,hv_16,hrt_2,hrt_7,hrt_8,hrt_9,hrt_10,hri,exitRQ_ret,exitRQ_exit,Int.toNat_natCast,Nat.mul_one,hun,hun',hkI])
          generalize (wr (w16.alloc (.cells #[.slice none 0 0,.bool false] 68)) w16.heap.size 0 [.slice spa SP.length spc,.bool false]) = w17 at *
          rw [← hrc] at hRi
          try rw [← hrc]
          have hV17 : Upd (fun b => b = vb ∨ b = rb) w16 w17 := hEi.mono fun _ h => h.elim
          have hU17 : Upd (fun b => b = vb ∨ b = rb) w1 w17 := hU16.trans hV17
          have hz17 := hV17.size
          have hG17 : Glo ev w17 := hG1.updS hU17 hgM1 hgM2
          have hQo : Upd (fun b => b = vb ∨ b = rb) w13 w17 := (((hV14.trans hV15).trans hV16).trans hV17)
          have hzo := hQo.size
          have hrokc : ¬ ok rc0 := fun h => by have := (hok _ h).1;omega
          have hgrbc : ¬ 0 = rc0 := by omega
          have hgM1c : ¬ (0 = vb ∨ 0 = rc0) := fun h => h.elim hgv.1 fun h => by omega
          have hgM2c : ¬ (1 = vb ∨ 1 = rc0) := fun h => h.elim hgv.2 fun h => by omega
          have hoMc : ∀ b,(ok b ∨ w17.heap.size ≤ b) → ¬ (b = vb ∨ b = rc0) := fun b hk h => by
            rcases hk with hk | hk
            · have := hok b hk;rcases h with h | h <;> omega
            · rcases h with h | h <;> omega
          have hbasec : Upd (fun b => b = vb) w w17 := hbase.trans' hU17 fun i hi h => h.elim id fun h => by omega
          have hUc : Upd (fun b => b = vb ∨ b = rc0) w17 w17 := Upd.refl _ _
          have hqc : Rdr RT ok w17 rc0 (some SP) := hRi
          obtain ⟨s11,hs11⟩ : ∃ s : St,s = some SP := ⟨_,rfl⟩
          rw [← hs11] at hqc
          have hbT : (rdF (rdP d ver true) ver true fOffsetCommitValue_5 s11).2 = none → FB := fun h => Eq.mpr hFB (rdM_badT hl_0 (by rw [← hE];exact rdTg_bad (hK.symm.trans hk0) rfl (by rw [← hs8,← hSL,← hSP,← hs11];exact h)))
          have hht0_5 : hasS fOffsetCommitValue_5 ver = true := hasS_t (by show (0 : Int) ≤ ver;omega) (by show (-1 : Int) < 0 ∨ ver ≤ (-1 : Int);omega)
          obtain ⟨xt0_5,hxt0_5⟩ : ∃ x,x = (rdF (rdP d ver true) ver true fOffsetCommitValue_5 s11).1 := ⟨_,rfl⟩
          repeat ((first | refine qA rfl ?_|refine qB ?_|refine qC rfl ?_|refine qD ?_|refine qE ?_|refine qF ?_|refine qG ?_|refine qH ?_);try simp (maxSteps:=1000000)(disch:=(first|omega|(simp only [qI,qJ,qK]<;>omega)|exact qL _)) only [go_sem,↓reduceIte,n0,reduceCtorEq,n1,n2,n3,n4,n5,i0,i1,i2,i3,i4,i5,i6,i7,hv_17,hrt_2,hrt_7,hrt_8,hrt_9,hrt_10,hri,exitRQ_ret,exitRQ_exit,Int.toNat_natCast,Nat.mul_one,hun,hun'])
          have hrd : rdF (rdP d ver true) ver true fOffsetCommitValue_5 s11 = _ := rdF_uuid rfl
          refine (RUuid_fn w17 hqc hrokc).mono ?_
          rintro _ w18 ⟨rfl,hq18,hu18⟩
          have hv_18 := hu18.blk_some hv_17 (by omega)
          have hV18 : Upd (fun b => b = vb ∨ b = rc0) w17 w18 := hu18.mono (fun _ h => .inr h)
          have hU18 : Upd (fun b => b = vb ∨ b = rc0) w17 w18 := hUc.trans hV18
          have hz18 := hV18.size
          have hG18 : Glo ev w18 := hG17.updS hU18 hgM1c hgM2c
          have hst : (rdF (rdP d ver true) ver true fOffsetCommitValue_5 s11).2 = (rdSpan 16 s11).2 := by first | (rw [hrd];rfl) | rw [hrd]
          obtain ⟨s12,hs12⟩ : ∃ s,s = (rdF (rdP d ver true) ver true fOffsetCommitValue_5 s11).2 := ⟨_,rfl⟩
          rw [← hst,← hs12] at hq18
          clear hst
          have hl16 : ((uuidS (rdSpan 16 s11).1).map byteV).length = 16 := by rw [List.length_map,uuidS_len]
          have hx16 := flat_bytes (uuidS (rdSpan 16 s11).1)
          have hxe : xt0_5 = .oct false (uuidS (rdSpan 16 s11).1) := by rw [hxt0_5,hrd]
          have hxc : (uuidS (xt0_5).s).map byteV = (uuidS (rdSpan 16 s11).1).map byteV := by rw [hxe];show (uuidS (uuidS _)).map byteV = _;rw [uuidS_idem]
          generalize (uuidS (rdSpan 16 s11).1).map byteV = Xu at *
          obtain ⟨ut05_0,ut05_1,ut05_2,ut05_3,ut05_4,ut05_5,ut05_6,ut05_7,ut05_8,ut05_9,ut05_10,ut05_11,ut05_12,ut05_13,ut05_14,ut05_15,rfl⟩ := list16 hl16
          simp only [List.all_cons,List.all_nil,Bool.and_true,Bool.and_eq_true] at hx16
          obtain ⟨fut05_0,fut05_1,fut05_2,fut05_3,fut05_4,fut05_5,fut05_6,fut05_7,fut05_8,fut05_9,fut05_10,fut05_11,fut05_12,fut05_13,fut05_14,fut05_15⟩ := hx16
          have hcz : cellsAt #[ut05_0,ut05_1,ut05_2,ut05_3,ut05_4,ut05_5,ut05_6,ut05_7,ut05_8,ut05_9,ut05_10,ut05_11,ut05_12,ut05_13,ut05_14,ut05_15] 0 16 = some (.agg #[ut05_0,ut05_1,ut05_2,ut05_3,ut05_4,ut05_5,ut05_6,ut05_7,ut05_8,ut05_9,ut05_10,ut05_11,ut05_12,ut05_13,ut05_14,ut05_15]) := cellsAt_full rfl
          try simp (maxSteps:=1000000)(disch:=(first|omega|(simp only [qI,qJ,qK]<;>omega)|exact qL _)) only [go_sem,↓reduceIte,n0,reduceCtorEq,n1,n2,n3,n4,n5,i0,i1,i2,i3,i4,i5,i6,i7,hv_18,hrt_2,hrt_7,hrt_8,hrt_9,hrt_10,hri,exitRQ_ret,exitRQ_exit,Int.toNat_natCast,Nat.mul_one,hun,hun',hcz,fut05_0,fut05_1,fut05_2,fut05_3,fut05_4,fut05_5,fut05_6,fut05_7,fut05_8,fut05_9,fut05_10,fut05_11,fut05_12,fut05_13,fut05_14,fut05_15]
          repeat ((first | refine qA rfl ?_|refine qB ?_|refine qC rfl ?_|refine qD ?_|refine qE ?_|refine qF ?_|refine qG ?_|refine qH ?_);try simp (maxSteps:=1000000)(disch:=(first|omega|(simp only [qI,qJ,qK]<;>omega)|exact qL _)) only [go_sem,↓reduceIte,n0,reduceCtorEq,n1,n2,n3,n4,n5,i0,i1,i2,i3,i4,i5,i6,i7,hv_18,hrt_2,hrt_7,hrt_8,hrt_9,hrt_10,hri,exitRQ_ret,exitRQ_exit,Int.toNat_natCast,Nat.mul_one,hun,hun',hcz,fut05_0,fut05_1,fut05_2,fut05_3,fut05_4,fut05_5,fut05_6,fut05_7,fut05_8,fut05_9,fut05_10,fut05_11,fut05_12,fut05_13,fut05_14,fut05_15])
          have hEu : Ext w18 (wr (w18.alloc (.cells #[.int .u8 0,.int .u8 0,.int .u8 0,.int .u8 0,.int .u8 0,.int .u8 0,.int .u8 0,.int .u8 0,.int .u8 0,.int .u8 0,.int .u8 0,.int .u8 0,.int .u8 0,.int .u8 0,.int .u8 0,.int .u8 0] 42)) w18.heap.size 0 [ut05_0,ut05_1,ut05_2,ut05_3,ut05_4,ut05_5,ut05_6,ut05_7,ut05_8,ut05_9,ut05_10,ut05_11,ut05_12,ut05_13,ut05_14,ut05_15]) := (Upd.alloc (Upd.refl _ _) _).wr _ _ (.inl (Nat.le_refl _))
          have hq19 := And.intro (hq18.1.upd hEu (fun h => h) (fun _ _ _ h => h)) (hq18.2.upd hEu fun h => h)
          have hu19 : Upd (fun b => b = rc0) w18 (wr (w18.alloc (.cells #[.int .u8 0,.int .u8 0,.int .u8 0,.int .u8 0,.int .u8 0,.int .u8 0,.int .u8 0,.int .u8 0,.int .u8 0,.int .u8 0,.int .u8 0,.int .u8 0,.int .u8 0,.int .u8 0,.int .u8 0,.int .u8 0] 42)) w18.heap.size 0 [ut05_0,ut05_1,ut05_2,ut05_3,ut05_4,ut05_5,ut05_6,ut05_7,ut05_8,ut05_9,ut05_10,ut05_11,ut05_12,ut05_13,ut05_14,ut05_15]) := hEu.mono fun _ h => h.elim
          clear hEu
          generalize (wr (w18.alloc (.cells #[.int .u8 0,.int .u8 0,.int .u8 0,.int .u8 0,.int .u8 0,.int .u8 0,.int .u8 0,.int .u8 0,.int .u8 0,.int .u8 0,.int .u8 0,.int .u8 0,.int .u8 0,.int .u8 0,.int .u8 0,.int .u8 0] 42)) w18.heap.size 0 [ut05_0,ut05_1,ut05_2,ut05_3,ut05_4,ut05_5,ut05_6,ut05_7,ut05_8,ut05_9,ut05_10,ut05_11,ut05_12,ut05_13,ut05_14,ut05_15]) = w19 at *
          have hv_19 := hu19.blk_some hv_18 (by omega)
          have hV19 : Upd (fun b => b = vb ∨ b = rc0) w18 w19 := hu19.mono (fun _ h => .inr h)
          have hU19 : Upd (fun b => b = vb ∨ b = rc0) w17 w19 := hU18.trans hV19
          have hz19 := hV19.size
          have hG19 : Glo ev w19 := hG17.updS hU19 hgM1c hgM2c
          generalize hw20 : wr w19 vb 6 [ut05_0,ut05_1,ut05_2,ut05_3,ut05_4,ut05_5,ut05_6,ut05_7,ut05_8,ut05_9,ut05_10,ut05_11,ut05_12,ut05_13,ut05_14,ut05_15] = w20
          have hS20 : Upd (fun b => b = vb ∨ b = rc0) w19 w20 := by rw [← hw20];exact (Upd.refl _ _).wr _ _ (.inr (.inl rfl))
          have hv_20 : blk w20 vb = some (#[.int .i16 vc,.int .i64 (rdInt .i64 8 s1).1,.int .i32 (rdInt .i32 4 s2).1,strV (rdStr true s3).1,.int .i64 (rdInt .i64 8 s4).1,.int .i64 0,ut05_0,ut05_1,ut05_2,ut05_3,ut05_4,ut05_5,ut05_6,ut05_7,ut05_8,ut05_9,ut05_10,ut05_11,ut05_12,ut05_13,ut05_14,ut05_15,.map qm],47,(0,0)) := by rw [← hw20,blk_wr_eq,hv_19];simp only [Option.map_some,wrArr_cons,wrArr_nil,List.setIfInBounds_toArray,List.set_cons_zero,List.set_cons_succ,Nat.reduceAdd]
          have hV20 := hS20
          have hU20 : Upd (fun b => b = vb ∨ b = rc0) w17 w20 := hU19.trans hV20
          have hz20 := hV20.size
          have hG20 : Glo ev w20 := hG17.updS hU20 hgM1c hgM2c
          have hq20 := Rdr.stored hw20 hq19 (by omega) fun h => by have := (hok _ h).1;first | omega | exact (hok _ h).2 rfl
          clear hw20
          have hft0_5 : RepF (RepS true d) (szS true d) fOffsetCommitValue_5 (fun b => ok b ∨ w17.heap.size ≤ b) w20 (xt0_5) [ut05_0,ut05_1,ut05_2,ut05_3,ut05_4,ut05_5,ut05_6,ut05_7,ut05_8,ut05_9,ut05_10,ut05_11,ut05_12,ut05_13,ut05_14,ut05_15] := (RepF_uuid rfl).2 hxc.symm
          clear hrd
          repeat ((first | refine qA rfl ?_|refine qB ?_|refine qC rfl ?_|refine qD ?_|refine qE ?_|refine qF ?_|refine qG ?_|refine qH ?_);try simp (maxSteps:=1000000)(disch:=(first|omega|(simp only [qI,qJ,qK]<;>omega)|exact qL _)) only [go_sem,↓reduceIte,n0,reduceCtorEq,n1,n2,n3,n4,n5,i0,i1,i2,i3,i4,i5,i6,i7,hv_20,hrt_2,hrt_7,hrt_8,hrt_9,hrt_10,hri,exitRQ_ret,exitRQ_exit,Int.toNat_natCast,Nat.mul_one,hun,hun'])
          refine (RComplete_fn w20 hq20.1 hG20.2).mono ?_
          rintro _ wz ⟨rfl,hez⟩
          rw [hez]
          clear hez wz
          have hxF : rdF (rdP d ver true) ver true fOffsetCommitValue_5 s11 = (xt0_5,s12) := by rw [hxt0_5,hs12]
          by_cases hsz : s12 = none
          · rw [errV_none hsz]
            obtain ⟨eT,ep,hevE⟩ := hev
            rw [hevE]
            try simp (maxSteps:=1000000)(disch:=(first|omega|(simp only [qI,qJ,qK]<;>omega)|exact qL _)) only [go_sem,↓reduceIte,n0,reduceCtorEq,n1,n2,n3,n4,n5,i0,i1,i2,i3,i4,i5,i6,i7,hv_20,hrt_2,hrt_7,hrt_8,hrt_9,hrt_10,hri,exitRQ_ret,exitRQ_exit,Int.toNat_natCast,Nat.mul_one,hun,hun']
            repeat ((first | refine qA rfl ?_|refine qB ?_|refine qC rfl ?_|refine qD ?_|refine qE ?_|refine qF ?_|refine qG ?_|refine qH ?_);try simp (maxSteps:=1000000)(disch:=(first|omega|(simp only [qI,qJ,qK]<;>omega)|exact qL _)) only [go_sem,↓reduceIte,n0,reduceCtorEq,n1,n2,n3,n4,n5,i0,i1,i2,i3,i4,i5,i6,i7,hv_20,hrt_2,hrt_7,hrt_8,hrt_9,hrt_10,hri,exitRQ_ret,exitRQ_exit,Int.toNat_natCast,Nat.mul_one,hun,hun'])
            rw [← hevE]
            exact ReadQ.bad (Eq.mp hFB (hbT (by rw [hxF];exact hsz))) (hbasec.trans' hU20 fun i hi h => h.elim id fun h => by omega)
          have hen : errV ev s12 = .nilIface := errV_some hsz
          rw [hen]
          try simp (maxSteps:=1000000)(disch:=(first|omega|(simp only [qI,qJ,qK]<;>omega)|exact qL _)) only [go_sem,↓reduceIte,n0,reduceCtorEq,n1,n2,n3,n4,n5,i0,i1,i2,i3,i4,i5,i6,i7,hv_20,hrt_2,hrt_7,hrt_8,hrt_9,hrt_10,hri,exitRQ_ret,exitRQ_exit,Int.toNat_natCast,Nat.mul_one,hun,hun',hw1]
          repeat ((first | refine qA rfl ?_|refine qB ?_|refine qC rfl ?_|refine qD ?_|refine qE ?_|refine qF ?_|refine qG ?_|refine qH ?_);try simp (maxSteps:=1000000)(disch:=(first|omega|(simp only [qI,qJ,qK]<;>omega)|exact qL _)) only [go_sem,↓reduceIte,n0,reduceCtorEq,n1,n2,n3,n4,n5,i0,i1,i2,i3,i4,i5,i6,i7,hv_20,hrt_2,hrt_7,hrt_8,hrt_9,hrt_10,hri,exitRQ_ret,exitRQ_exit,Int.toNat_natCast,Nat.mul_one,hun,hun',hw1])
          have hRk : Upd (fun b => b = vb ∨ b = rb) w13 w20 := hQo.trans' hU20 fun i hi h => h.elim .inl fun h => by omega
          have hzr := hRk.size
          have hE2 : rdTg (rdP d ver true) ver true fs_OffsetCommitValue m [x_0,x_1,x_2,x_3,x_4,xt0_5] u s10 = rdTgs (rdP d ver true) ver true fs_OffsetCommitValue [x_0,x_1,x_2,x_3,x_4,x_5] s5 := by
            have h := (rdTg_known (k := 0) (hK.symm.trans hk0) rfl (by rw [← hs8,← hSL,← hSP,← hs11];exact hxF) hsz).symm.trans hE
            rw [← hs8,← hSL,← hs10] at h;exact h
          refine ⟨⟨(by simp (maxSteps:=1000000)(disch:=(first|omega|(simp only [qI,qJ,qK]<;>omega)|exact qL _)) only [go_sem,↓reduceIte,n0,reduceCtorEq,n1,n2,n3,n4,n5,i0,i1,i2,i3,i4,i5,i6,i7,Holds_nil,Holds_cons,hrt_2,hrt_7,hrt_8,hrt_9,hrt_10,hri]),m,(by simp (maxSteps:=1000000)(disch:=(first|omega|(simp only [qI,qJ,qK]<;>omega)|exact qL _)) only [go_sem,↓reduceIte,n0,reduceCtorEq,n1,n2,n3,n4,n5,i0,i1,i2,i3,i4,i5,i6,i7,hrt_2,hrt_7,hrt_8,hrt_9,hrt_10,hri,hw1];all_goals rfl),u,s10,qm,xt0_5,ut05_0,ut05_1,ut05_2,ut05_3,ut05_4,ut05_5,ut05_6,ut05_7,ut05_8,ut05_9,ut05_10,ut05_11,ut05_12,ut05_13,ut05_14,ut05_15,by omega,hE2,hv_20,RepF.weakenS hft0_5 (fun b hb hk => ⟨hk.imp id fun h => by omega,hb,fun h => by have := hmap b h;rcases hk with hk | hk <;> first | omega | (have := (hok b hk).1;omega)⟩),hTG.keep (fun b hb hk => hRk.keep b hb fun e => by rcases hk with hk | hk <;> rcases e with e | e <;> first | omega | (have := hok b hk.1;omega)),hnd,⟨hqo.1.upd hU20 (by omega) (fun b _ hk e => by have := hok b hk;omega),hqo.2.upd hU20 (by omega)⟩,hUa13.trans hRk⟩,?_⟩
          try simp (maxSteps:=1000000)(disch:=(first|omega|(simp only [qI,qJ,qK]<;>omega)|exact qL _)) only [go_sem,↓reduceIte,n0,reduceCtorEq,n1,n2,n3,n4,n5,i0,i1,i2,i3,i4,i5,i6,i7,hrt_2,hrt_7,hrt_8,hrt_9,hrt_10,hri]
          simp only [RowKit.intOf]
          omega
        · have hkI0 : ¬ (K : Int) = 0 := by omega
          repeat ((first | refine qA rfl ?_|refine qB ?_|refine qC rfl ?_|refine qD ?_|refine qE ?_|refine qF ?_|refine qG ?_|refine qH ?_);try simp (maxSteps:=1000000)(disch:=(first|omega|(simp only [qI,qJ,qK]<;>omega)|exact qL _)) only [go_sem,↓reduceIte,n0,reduceCtorEq,n1,n2,n3,n4,n5,i0,i1,i2,i3,i4,i5,i6,i7,hv_14,hrt_2,hrt_7,hrt_8,hrt_9,hrt_10,hri,exitRQ_ret,exitRQ_exit,Int.toNat_natCast,Nat.mul_one,hun,hun',hkI0])
          have hQk : Upd (fun b => b = vb ∨ b = rb) w13 w14 := hV14
          have hEd : Ext w14 w14.drew := (Upd.refl _ _).drew
          have hqd : Rdr RT ok w14.drew rb s8 ∧ NN w14.drew rb s8 := ⟨hq14.1.upd hEd (fun h => h) (fun _ _ _ h => h),hq14.2.upd hEd fun h => h⟩
          have hnb : ∀ b,¬ b = rb → ¬ b = rb := fun _ h => h
          refine W.drawR (.take 0 (.take 1 (.take 2 (.take 3 (.only 4 (.take 5 (.only 6 (.last 7)))))))) (fun b => b = rb) mixed (by kernel_rfl) ?_
          try simp (maxSteps:=1000000)(disch:=(first|omega|(simp only [qI,qJ,qK]<;>omega)|exact qL _ | (refine hnb _ ?_;first | omega | (simp only [World.size_alloc,size_wr,size_drew] <;> omega)))) only [go_sem,↓reduceIte,n0,reduceCtorEq,n1,n2,n3,n4,n5,i0,i1,i2,i3,i4,i5,i6,i7,hv_14,hrt_2,hrt_7,hrt_8,hrt_9,hrt_10,hri,exitRQ_ret,exitRQ_exit,Int.toNat_natCast,Nat.mul_one,hun,hun']
          refine (RUvarint_fn w14.drew hqd.1 hrok).mono ?_
          rintro _ w15 ⟨rfl,hq15,hu15⟩
          have hSl := rdUv_lt s8
          obtain ⟨s13,hs13⟩ : ∃ s,s = (rdUv s8).2 := ⟨_,rfl⟩
          rw [← hs13] at hq15
          obtain ⟨SL,hSL⟩ : ∃ N,N = (rdUv s8).1 := ⟨_,rfl⟩
          rw [← hSL] at hSl
          try rw [← hSL]
          have e64 : IntKind.i64.wrap (SL : Int) = SL := i64_wrap (by omega)
          have hP1 : Upd (fun b => b = rb) w14.drew w15 := hu15
          have hv_15 := hu15.blk_some (show blk w14.drew vb = _ from hv_14) (by omega)
          refine ⟨hP1,?_⟩
          try simp (maxSteps:=1000000)(disch:=(first|omega|(simp only [qI,qJ,qK]<;>omega)|exact qL _ | (refine hnb _ ?_;first | omega | (simp only [World.size_alloc,size_wr,size_drew] <;> omega)))) only [go_sem,↓reduceIte,n0,reduceCtorEq,n1,n2,n3,n4,n5,i0,i1,i2,i3,i4,i5,i6,i7,hv_15,e64,hrt_2,hrt_7,hrt_8,hrt_9,hrt_10,hri]
          refine (Span_fn w15 hq15.1 hrok _).mono ?_
          rintro r16 w16 ⟨hBs,_,_,hqx,hqy,hu16⟩
          have hq16 := And.intro hqx (hqy (.inl hq15.2))
          clear hqx hqy
          obtain ⟨s14,hs14⟩ : ∃ s,s = (rdSpan (SL : Int) s13).2 := ⟨_,rfl⟩
          rw [← hs14] at hq16
          obtain ⟨SP,hSP⟩ : ∃ x,x = (rdSpan (SL : Int) s13).1 := ⟨_,rfl⟩
          rw [← hSP] at hBs
          rw [hs13] at hSP hs14
          obtain ⟨spa,spc,rfl,_⟩ := hBs.shape
          have hP2 : Upd (fun b => b = rb) w14.drew w16 := hP1.trans hu16
          have hv_16 := hu16.blk_some hv_15 (by omega)
          refine ⟨hP2,?_⟩
          try simp (maxSteps:=1000000)(disch:=(first|omega|(simp only [qI,qJ,qK]<;>omega)|exact qL _ | (refine hnb _ ?_;first | omega | (simp only [World.size_alloc,size_wr,size_drew] <;> omega)))) only [go_sem,↓reduceIte,n0,reduceCtorEq,n1,n2,n3,n4,n5,i0,i1,i2,i3,i4,i5,i6,i7,hv_16,e64,hrt_2,hrt_7,hrt_8,hrt_9,hrt_10,hri]
          have hR7 : Upd (fun b => b = vb ∨ b = rb) w13 w16 := hQk.trans ((hEd.mono fun _ h => h.elim).trans (hP2.mono fun _ h => .inr h))
          have hz7 := hR7.size
          have hTG7 := hTG.keep (w' := w16) (fun b hb hk => hR7.keep b hb fun e => by rcases hk with hk | hk <;> rcases e with e | e <;> first | omega | (have := hok b hk.1;omega))
          refine (TagsPutX_fn (okT := ok) (L := w12.heap.size) w16 hTG7 (by omega) (by omega) hv_16 (o := 22) rfl (thaw_00 _ _) (K,SP) _ (hBs.weaken fun b _ hk => ⟨hk,by have := hok b hk;omega⟩) hKl hnd (fun b hk => (hok b hk).2)).mono ?_
          rintro _ w17 ⟨qn,hb8,hTG8,hU8,hnw⟩
          have hv_17 : blk w17 vb = some (#[.int .i16 vc,.int .i64 (rdInt .i64 8 s1).1,.int .i32 (rdInt .i32 4 s2).1,strV (rdStr true s3).1,.int .i64 (rdInt .i64 8 s4).1,.int .i64 0,v_6,v_7,v_8,v_9,v_10,v_11,v_12,v_13,v_14,v_15,v_16,v_17,v_18,v_19,v_20,v_21,.map qn],47,(0,0)) := hb8
          have hUz : Upd (fun b => b = vb ∨ b = rb) w12 w17 := (hUa13.trans hR7).trans' hU8 fun i hi h => h.elim .inl fun h => by cases h;have := hmap _ rfl;omega
          have hz8 := hU8.size
          have hn : ∀ f ∈ ([fOffsetCommitValue_0,fOffsetCommitValue_1,fOffsetCommitValue_2,fOffsetCommitValue_3,fOffsetCommitValue_4,fOffsetCommitValue_5] : List Fld),f.tag ≠ (K : Int) := by
            intro f hf
            simp only [List.mem_cons,List.not_mem_nil,or_false] at hf
            rcases hf with rfl | rfl | rfl | rfl | rfl | rfl
            · intro h;have h' : (-1 : Int) = (K : Int) := h;omega
            · intro h;have h' : (-1 : Int) = (K : Int) := h;omega
            · intro h;have h' : (-1 : Int) = (K : Int) := h;omega
            · intro h;have h' : (-1 : Int) = (K : Int) := h;omega
            · intro h;have h' : (-1 : Int) = (K : Int) := h;omega
            · intro h;have h' : (0 : Int) = (K : Int) := h;omega
          have hE2 : rdTg (rdP d ver true) ver true fs_OffsetCommitValue m [x_0,x_1,x_2,x_3,x_4,y_5] (tagPut u (K,SP)) s14 = rdTgs (rdP d ver true) ver true fs_OffsetCommitValue [x_0,x_1,x_2,x_3,x_4,x_5] s5 := by
            have h := (rdTg_unk (by rw [← hK];exact tagX_none hn)).symm.trans hE
            rw [← hK,← hs8,← hSL,← hSP,← hs14] at h;exact h
          have hrm : ¬ (rb = vb ∨ Value.map qm = .map (some rb)) := fun h => h.elim (fun h => by omega) fun h => by cases h;have := hmap _ rfl;omega
          try simp (maxSteps:=1000000)(disch:=(first|omega|(simp only [qI,qJ,qK]<;>omega)|exact qL _)) only [go_sem,↓reduceIte,n0,reduceCtorEq,n1,n2,n3,n4,n5,i0,i1,i2,i3,i4,i5,i6,i7,hv_17,hrt_2,hrt_7,hrt_8,hrt_9,hrt_10,hri,exitRQ_ret,exitRQ_exit,Int.toNat_natCast,Nat.mul_one,hun,hun',hw1]
          repeat ((first | refine qA rfl ?_|refine qB ?_|refine qC rfl ?_|refine qD ?_|refine qE ?_|refine qF ?_|refine qG ?_|refine qH ?_);try simp (maxSteps:=1000000)(disch:=(first|omega|(simp only [qI,qJ,qK]<;>omega)|exact qL _)) only [go_sem,↓reduceIte,n0,reduceCtorEq,n1,n2,n3,n4,n5,i0,i1,i2,i3,i4,i5,i6,i7,hv_17,hrt_2,hrt_7,hrt_8,hrt_9,hrt_10,hri,exitRQ_ret,exitRQ_exit,Int.toNat_natCast,Nat.mul_one,hun,hun',hw1])
          refine ⟨⟨(by simp (maxSteps:=1000000)(disch:=(first|omega|(simp only [qI,qJ,qK]<;>omega)|exact qL _)) only [go_sem,↓reduceIte,n0,reduceCtorEq,n1,n2,n3,n4,n5,i0,i1,i2,i3,i4,i5,i6,i7,Holds_nil,Holds_cons,hrt_2,hrt_7,hrt_8,hrt_9,hrt_10,hri]),m,(by simp (maxSteps:=1000000)(disch:=(first|omega|(simp only [qI,qJ,qK]<;>omega)|exact qL _)) only [go_sem,↓reduceIte,n0,reduceCtorEq,n1,n2,n3,n4,n5,i0,i1,i2,i3,i4,i5,i6,i7,hrt_2,hrt_7,hrt_8,hrt_9,hrt_10,hri,hw1];all_goals rfl),_,s14,qn,y_5,v_6,v_7,v_8,v_9,v_10,v_11,v_12,v_13,v_14,v_15,v_16,v_17,v_18,v_19,v_20,v_21,by omega,hE2,hv_17,RepF.weakenS ((hfT_5.keepS (hR7.keeps fun b _ hk e => (hoM b hk.1) e)).keepS (hU8.keeps fun b _ hk e => e.elim (fun e => hoM b hk.1 (.inl e)) fun e => hk.2.2 (by cases e;rfl))) (fun b hb hk => ⟨hk.1,hb,fun h => (hnw b h).elim (fun h => hk.2.2 (by cases h;rfl)) fun h => by have := hk.2.1;omega⟩),hTG8,tagPut_keys _ _ hnd,⟨hq16.1.upd hU8 hrm (fun b _ hk h => h.elim (fun h => (hok b hk).2 h) fun h => by cases h;have := hmap _ rfl;have := hok _ hk;omega),hq16.2.upd hU8 hrm⟩,hUz⟩,?_⟩
          try simp (maxSteps:=1000000)(disch:=(first|omega|(simp only [qI,qJ,qK]<;>omega)|exact qL _)) only [go_sem,↓reduceIte,n0,reduceCtorEq,n1,n2,n3,n4,n5,i0,i1,i2,i3,i4,i5,i6,i7,hrt_2,hrt_7,hrt_8,hrt_9,hrt_10,hri]
          simp only [RowKit.intOf]
          omega
    rintro ρ w18 ⟨⟨hrz_2,hrz_7,hrz_8,hrz_9,hrz_10,-⟩,u,s15,qm,y_5,v_6,v_7,v_8,v_9,v_10,v_11,v_12,v_13,v_14,v_15,v_16,v_17,v_18,v_19,v_20,v_21,hE0,hv_18,hfT_5,hTG,hnd,hq18,hUa18⟩
    have hV18 : Upd (fun b => b = vb ∨ b = rb) w12 w18 := hUa18
    have hU18 : Upd (fun b => b = vb ∨ b = rb) w1 w18 := hU12.trans hV18
    have hz18 := hV18.size
    have hG18 : Glo ev w18 := hG1.updS hU18 hgM1 hgM2
    have hf_5 := RepF.weakenS hfT_5 (ok' := fun b => (ok b ∨ w1.heap.size ≤ b)) fun b _ hk => hk.1
    have hTg : TagsM (fun b => ok b ∨ w1.heap.size ≤ b) w18 (.map qm) u := hTG.tags (fun b _ hk => .inl hk) (fun b hb => .inr (by omega))
    have hfin : rdM d ver true fs_OffsetCommitValue s1 = (.mk 0 [] false [x_0,x_1,x_2,x_3,x_4,y_5] u,s15) := rdM_t hl_0 hE0.symm
    have hC_18 : Upd (fun b => b = vb ∨ b = rb) w18 w18 := Upd.refl _ _
    have hC_12 : Upd (fun b => b = vb ∨ b = rb) w12 w18 := hV18.trans hC_18
    have hC_11 : Upd (fun b => b = vb ∨ b = rb) w11 w18 := hV12.trans hC_12
    have hC_10 : Upd (fun b => b = vb ∨ b = rb) w10 w18 := hV11.trans hC_11
    have hC_9 : Upd (fun b => b = vb ∨ b = rb) w9 w18 := hV10.trans hC_10
    have hC_8 : Upd (fun b => b = vb ∨ b = rb) w8 w18 := hV9.trans hC_9
    have hC_7 : Upd (fun b => b = vb ∨ b = rb) w7 w18 := hV8.trans hC_8
    have hC_6 : Upd (fun b => b = vb ∨ b = rb) w6 w18 := hV7.trans hC_7
    have hC_5 : Upd (fun b => b = vb ∨ b = rb) w5 w18 := hV6.trans hC_6
    have hC_4 : Upd (fun b => b = vb ∨ b = rb) w4 w18 := hV5.trans hC_5
    have hC_3 : Upd (fun b => b = vb ∨ b = rb) w3 w18 := hV4.trans hC_4
    have hC_2 : Upd (fun b => b = vb ∨ b = rb) w2 w18 := hV3.trans hC_3
    have hC_1 : Upd (fun b => b = vb ∨ b = rb) w1 w18 := hV2.trans hC_2
    have hR : RepS true (d + 1) fs_OffsetCommitValue (fun b => ok b ∨ w1.heap.size ≤ b) w18 (.mk 0 [] false [x_0,x_1,x_2,x_3,x_4,y_5] u) [.int .i64 (rdInt .i64 8 s1).1,.int .i32 (rdInt .i32 4 s2).1,strV (rdStr true s3).1,.int .i64 (rdInt .i64 8 s4).1,.int .i64 0,v_6,v_7,v_8,v_9,v_10,v_11,v_12,v_13,v_14,v_15,v_16,v_17,v_18,v_19,v_20,v_21,.map qm] := RepS.introT (c := [.int .i64 (rdInt .i64 8 s1).1,.int .i32 (rdInt .i32 4 s2).1,strV (rdStr true s3).1,.int .i64 (rdInt .i64 8 s4).1,.int .i64 0,v_6,v_7,v_8,v_9,v_10,v_11,v_12,v_13,v_14,v_15,v_16,v_17,v_18,v_19,v_20,v_21]) (RepL.cons1 (hf_0.keepS (hC_5.keeps fun b _ hk e => (hoM b hk) e)) (RepL.cons1 (hf_1.keepS (hC_7.keeps fun b _ hk e => (hoM b hk) e)) (RepL.cons1 (hf_2.keepS (hC_9.keeps fun b _ hk e => (hoM b hk) e)) (RepL.cons1 (hf_3.keepS (hC_11.keeps fun b _ hk e => (hoM b hk) e)) (RepL.cons1 (hf_4.keepS (hC_11.keeps fun b _ hk e => (hoM b hk) e)) (RepL.cons16 (hf_5.keepS (hC_18.keeps fun b _ hk e => (hoM b hk) e)) RepL.nil)))))) hTg
    repeat ((first | refine qA rfl ?_|refine qB ?_|refine qC rfl ?_|refine qD ?_|refine qE ?_|refine qF ?_|refine qG ?_|refine qH ?_);try simp (maxSteps:=1000000)(disch:=(first|omega|(simp only [qI,qJ,qK]<;>omega)|exact qL _)) only [go_sem,↓reduceIte,n0,reduceCtorEq,n1,n2,n3,n4,n5,i0,i1,i2,i3,i4,i5,i6,i7,hv_18,hrz_2,hrz_7,hrz_8,hrz_9,hrz_10,hun,hun'])
    refine (RComplete_fn w18 hq18.1 hG18.2).mono ?_
    rintro _ wz ⟨rfl,hez⟩
    rw [hez]
    repeat ((first | refine qA rfl ?_|refine qB ?_|refine qC rfl ?_|refine qD ?_|refine qE ?_|refine qF ?_|refine qG ?_|refine qH ?_);try simp (maxSteps:=1000000)(disch:=(first|omega|(simp only [qI,qJ,qK]<;>omega)|exact qL _)) only [go_sem,↓reduceIte,n0,reduceCtorEq,n1,n2,n3,n4,n5,i0,i1,i2,i3,i4,i5,i6,i7,hv_18,hrz_2,hrz_7,hrz_8,hrz_9,hrz_10,hun,hun'])
    rw [hfin]
    refine ⟨fun h => ?_,fun h => ⟨?_,[.int .i64 (rdInt .i64 8 s1).1,.int .i32 (rdInt .i32 4 s2).1,strV (rdStr true s3).1,.int .i64 (rdInt .i64 8 s4).1,.int .i64 0,v_6,v_7,v_8,v_9,v_10,v_11,v_12,v_13,v_14,v_15,v_16,v_17,v_18,v_19,v_20,v_21,.map qm],hv_18,?_⟩,?_⟩
    · have h' : s15 = none := h
      rw [h'];rfl
    · cases hsn : s15 with
      | none => exact absurd hsn h
      | some x => rfl
    · exact (RepS_lay true (d + 1) fs_OffsetCommitValue).weaken hR fun b _ hk => hk.imp id fun h => by omega
    · exact hbase.trans' hU18 fun i hi h => h.elim id fun h => by omega
end Ms

namespace Ms
open Go.World renaming size_alloc → qI
open Ms renaming size_wr → qJ,size_drew → qK,not_noB → qL
open W renaming seqR → qA,seq → qB,regR → qC,condK → qD,block → qE,skip → qF,ret → qG,exit → qH
open Nat renaming reduceEqDiff → n0,reduceAdd → n1,reduceMul → n2,reduceSub → n3,reduceLT → n4,reduceLeDiff → n5
open Int renaming reduceEq → i0,reduceLT → i1,reduceLE → i2,reduceNeg → i3,reduceAdd → i4,reduceSub → i5,reduceMul → i6,reduceToNat → i7
set_option maxRecDepth 8000
open Go Go.Proofs Go.Shelf
attribute [local congr] W_congr WPsq_congr WPp_congr optK_congr addrK_congr intK_congr boolK_congr sliceK_congr tupleK_congr funcK_congr Fn_congr rawK_congr takeK_congr stepK_congr convK_congr aggK_congr

theorem ReadFromOffsetCommitValue_fn {d : Nat} {ok : Blocks} {ev : Value} (w : World) {vb : Nat} (src : Value) (s : List UInt8) (hv : blk w vb = some (#[.int .i16 0,.int .i64 0,.int .i32 0,.string ByteArray.empty,.int .i64 0,.int .i64 0,.int .u8 0,.int .u8 0,.int .u8 0,.int .u8 0,.int .u8 0,.int .u8 0,.int .u8 0,.int .u8 0,.int .u8 0,.int .u8 0,.int .u8 0,.int .u8 0,.int .u8 0,.int .u8 0,.int .u8 0,.int .u8 0,.map none],47,(0,0))) (hsrc : BytesV ok w src s) (hok0 : ∀ b,ok b → b < w.heap.size ∧ b ≠ vb) (hG : Glo ev w) (hgv : ¬ 0 = vb ∧ ¬ 1 = vb) (hev : ∃ T p,ev = .iface T p) :
    Fn Tryd.prog 11 #[.pointer (some ⟨vb,0,none⟩),src] w (ReadQ 47 ok (rdInt .i16 2 (some s)).1 (d + 1) fs_OffsetCommitValue vb w (rdM d (verN (rdInt .i16 2 (some s)).1) (flexB 4 (verN (rdInt .i16 2 (some s)).1)) fs_OffsetCommitValue (rdInt .i16 2 (some s)).2) ev) := by
  obtain ⟨sa,sc,rfl,_⟩ := hsrc.shape
  have hr := verN_rng (some s)
  have hvc := verN_cases (rdInt .i16 2 (some s)).1
  refine fn_of_W Tryd.func11 rfl Tryd.results11 Tryd.ntmps11 rfl ?_
  repeat ((first | refine qA rfl ?_|refine qB ?_|refine qC rfl ?_|refine qD ?_|refine qE ?_|refine qF ?_|refine qG ?_|refine qH ?_);try simp (maxSteps:=1000000)(disch:=(first|omega|(simp only [qI,qJ,qK]<;>omega)|exact qL _)) only [go_sem,↓reduceIte,n0,reduceCtorEq,n1,n2,n3,n4,n5,i0,i1,i2,i3,i4,i5,i6,i7])
  generalize verN (rdInt .i16 2 (some s)).1 = ver at *
  have hcl : (0 ≤ ver ∧ ver ≤ 0) ∨ (1 ≤ ver ∧ ver ≤ 1) ∨ (2 ≤ ver ∧ ver ≤ 2) ∨ (3 ≤ ver ∧ ver ≤ 3) ∨ (4 ≤ ver ∧ ver ≤ 32767) := by omega
  rcases hcl with ⟨h1,h2⟩ | ⟨h1,h2⟩ | ⟨h1,h2⟩ | ⟨h1,h2⟩ | ⟨h1,h2⟩
  · have hfl : flexB 4 ver = false := by simp only [flexB,Bool.and_eq_false_iff,decide_eq_false_iff_not];omega
    rw [hfl]
    refine (readOffsetCommitValue_0b (d := d) (un := false) h1 h2 w _ s hvc hv hsrc hok0 hG hgv hev).mono ?_
    rintro r5 w5 h5
    repeat ((first | refine qA rfl ?_|refine qB ?_|refine qC rfl ?_|refine qD ?_|refine qE ?_|refine qF ?_|refine qG ?_|refine qH ?_);try simp (maxSteps:=1000000)(disch:=(first|omega|(simp only [qI,qJ,qK]<;>omega)|exact qL _)) only [go_sem,↓reduceIte,n0,reduceCtorEq,n1,n2,n3,n4,n5,i0,i1,i2,i3,i4,i5,i6,i7])
    all_goals exact h5
  · have hfl : flexB 4 ver = false := by simp only [flexB,Bool.and_eq_false_iff,decide_eq_false_iff_not];omega
    rw [hfl]
    refine (readOffsetCommitValue_1b (d := d) (un := false) h1 h2 w _ s hvc hv hsrc hok0 hG hgv hev).mono ?_
    rintro r5 w5 h5
    repeat ((first | refine qA rfl ?_|refine qB ?_|refine qC rfl ?_|refine qD ?_|refine qE ?_|refine qF ?_|refine qG ?_|refine qH ?_);try simp (maxSteps:=1000000)(disch:=(first|omega|(simp only [qI,qJ,qK]<;>omega)|exact qL _)) only [go_sem,↓reduceIte,n0,reduceCtorEq,n1,n2,n3,n4,n5,i0,i1,i2,i3,i4,i5,i6,i7])
    all_goals exact h5
  · have hfl : flexB 4 ver = false := by simp only [flexB,Bool.and_eq_false_iff,decide_eq_false_iff_not];omega
    rw [hfl]
    refine (readOffsetCommitValue_2b (d := d) (un := false) h1 h2 w _ s hvc hv hsrc hok0 hG hgv hev).mono ?_
    rintro r5 w5 h5
    repeat ((first | refine qA rfl ?_|refine qB ?_|refine qC rfl ?_|refine qD ?_|refine qE ?_|refine qF ?_|refine qG ?_|refine qH ?_);try simp (maxSteps:=1000000)(disch:=(first|omega|(simp only [qI,qJ,qK]<;>omega)|exact qL _)) only [go_sem,↓reduceIte,n0,reduceCtorEq,n1,n2,n3,n4,n5,i0,i1,i2,i3,i4,i5,i6,i7])
    all_goals exact h5
  · have hfl : flexB 4 ver = false := by simp only [flexB,Bool.and_eq_false_iff,decide_eq_false_iff_not];omega
    rw [hfl]
    refine (readOffsetCommitValue_3b (d := d) (un := false) h1 h2 w _ s hvc hv hsrc hok0 hG hgv hev).mono ?_
    rintro r5 w5 h5
    repeat ((first | refine qA rfl ?_|refine qB ?_|refine qC rfl ?_|refine qD ?_|refine qE ?_|refine qF ?_|refine qG ?_|refine qH ?_);try simp (maxSteps:=1000000)(disch:=(first|omega|(simp only [qI,qJ,qK]<;>omega)|exact qL _)) only [go_sem,↓reduceIte,n0,reduceCtorEq,n1,n2,n3,n4,n5,i0,i1,i2,i3,i4,i5,i6,i7])
    all_goals exact h5
  · have hfl : flexB 4 ver = true := by simp only [flexB,Bool.and_eq_true,decide_eq_true_eq];omega
    rw [hfl]
    refine (readOffsetCommitValue_4b (d := d) (un := false) h1 h2 w _ s hvc hv hsrc hok0 hG hgv hev).mono ?_
    rintro r5 w5 h5
    repeat ((first | refine qA rfl ?_|refine qB ?_|refine qC rfl ?_|refine qD ?_|refine qE ?_|refine qF ?_|refine qG ?_|refine qH ?_);try simp (maxSteps:=1000000)(disch:=(first|omega|(simp only [qI,qJ,qK]<;>omega)|exact qL _)) only [go_sem,↓reduceIte,n0,reduceCtorEq,n1,n2,n3,n4,n5,i0,i1,i2,i3,i4,i5,i6,i7])
    all_goals exact h5

theorem UnsafeReadFromOffsetCommitValue_fn {d : Nat} {ok : Blocks} {ev : Value} (w : World) {vb : Nat} (src : Value) (s : List UInt8) (hv : blk w vb = some (#[.int .i16 0,.int .i64 0,.int .i32 0,.string ByteArray.empty,.int .i64 0,.int .i64 0,.int .u8 0,.int .u8 0,.int .u8 0,.int .u8 0,.int .u8 0,.int .u8 0,.int .u8 0,.int .u8 0,.int .u8 0,.int .u8 0,.int .u8 0,.int .u8 0,.int .u8 0,.int .u8 0,.int .u8 0,.int .u8 0,.map none],47,(0,0))) (hsrc : BytesV ok w src s) (hok0 : ∀ b,ok b → b < w.heap.size ∧ b ≠ vb) (hG : Glo ev w) (hgv : ¬ 0 = vb ∧ ¬ 1 = vb) (hev : ∃ T p,ev = .iface T p) :
    Fn Tryd.prog 15 #[.pointer (some ⟨vb,0,none⟩),src] w (ReadQ 47 ok (rdInt .i16 2 (some s)).1 (d + 1) fs_OffsetCommitValue vb w (rdM d (verN (rdInt .i16 2 (some s)).1) (flexB 4 (verN (rdInt .i16 2 (some s)).1)) fs_OffsetCommitValue (rdInt .i16 2 (some s)).2) ev) := by
  obtain ⟨sa,sc,rfl,_⟩ := hsrc.shape
  have hr := verN_rng (some s)
  have hvc := verN_cases (rdInt .i16 2 (some s)).1
  refine fn_of_W Tryd.func15 rfl Tryd.results15 Tryd.ntmps15 rfl ?_
  repeat ((first | refine qA rfl ?_|refine qB ?_|refine qC rfl ?_|refine qD ?_|refine qE ?_|refine qF ?_|refine qG ?_|refine qH ?_);try simp (maxSteps:=1000000)(disch:=(first|omega|(simp only [qI,qJ,qK]<;>omega)|exact qL _)) only [go_sem,↓reduceIte,n0,reduceCtorEq,n1,n2,n3,n4,n5,i0,i1,i2,i3,i4,i5,i6,i7])
  generalize verN (rdInt .i16 2 (some s)).1 = ver at *
  have hcl : (0 ≤ ver ∧ ver ≤ 0) ∨ (1 ≤ ver ∧ ver ≤ 1) ∨ (2 ≤ ver ∧ ver ≤ 2) ∨ (3 ≤ ver ∧ ver ≤ 3) ∨ (4 ≤ ver ∧ ver ≤ 32767) := by omega
  rcases hcl with ⟨h1,h2⟩ | ⟨h1,h2⟩ | ⟨h1,h2⟩ | ⟨h1,h2⟩ | ⟨h1,h2⟩
  · have hfl : flexB 4 ver = false := by simp only [flexB,Bool.and_eq_false_iff,decide_eq_false_iff_not];omega
    rw [hfl]
    refine (readOffsetCommitValue_0b (d := d) (un := true) h1 h2 w _ s hvc hv hsrc hok0 hG hgv hev).mono ?_
    rintro r5 w5 h5
    repeat ((first | refine qA rfl ?_|refine qB ?_|refine qC rfl ?_|refine qD ?_|refine qE ?_|refine qF ?_|refine qG ?_|refine qH ?_);try simp (maxSteps:=1000000)(disch:=(first|omega|(simp only [qI,qJ,qK]<;>omega)|exact qL _)) only [go_sem,↓reduceIte,n0,reduceCtorEq,n1,n2,n3,n4,n5,i0,i1,i2,i3,i4,i5,i6,i7])
    all_goals exact h5
  · have hfl : flexB 4 ver = false := by simp only [flexB,Bool.and_eq_false_iff,decide_eq_false_iff_not];omega
    rw [hfl]
    refine (readOffsetCommitValue_1b (d := d) (un := true) h1 h2 w _ s hvc hv hsrc hok0 hG hgv hev).mono ?_
    rintro r5 w5 h5
    repeat ((first | refine qA rfl ?_|refine qB ?_|refine qC rfl ?_|refine qD ?_|refine qE ?_|refine qF ?_|refine qG ?_|refine qH ?_);try simp (maxSteps:=1000000)(disch:=(first|omega|(simp only [qI,qJ,qK]<;>omega)|exact qL _)) only [go_sem,↓reduceIte,n0,reduceCtorEq,n1,n2,n3,n4,n5,i0,i1,i2,i3,i4,i5,i6,i7])
    all_goals exact h5
  · have hfl : flexB 4 ver = false := by simp only [flexB,Bool.and_eq_false_iff,decide_eq_false_iff_not];omega
    rw [hfl]
    refine (readOffsetCommitValue_2b (d := d) (un := true) h1 h2 w _ s hvc hv hsrc hok0 hG hgv hev).mono ?_
    rintro r5 w5 h5
    repeat ((first | refine qA rfl ?_|refine qB ?_|refine qC rfl ?_|refine qD ?_|refine qE ?_|refine qF ?_|refine qG ?_|refine qH ?_);try simp (maxSteps:=1000000)(disch:=(first|omega|(simp only [qI,qJ,qK]<;>omega)|exact qL _)) only [go_sem,↓reduceIte,n0,reduceCtorEq,n1,n2,n3,n4,n5,i0,i1,i2,i3,i4,i5,i6,i7])
    all_goals exact h5
  · have hfl : flexB 4 ver = false := by simp only [flexB,Bool.and_eq_false_iff,decide_eq_false_iff_not];omega
    rw [hfl]
    refine (readOffsetCommitValue_3b (d := d) (un := true) h1 h2 w _ s hvc hv hsrc hok0 hG hgv hev).mono ?_
    rintro r5 w5 h5
    repeat ((first | refine qA rfl ?_|refine qB ?_|refine qC rfl ?_|refine qD ?_|refine qE ?_|refine qF ?_|refine qG ?_|refine qH ?_);try simp (maxSteps:=1000000)(disch:=(first|omega|(simp only [qI,qJ,qK]<;>omega)|exact qL _)) only [go_sem,↓reduceIte,n0,reduceCtorEq,n1,n2,n3,n4,n5,i0,i1,i2,i3,i4,i5,i6,i7])
    all_goals exact h5
  · have hfl : flexB 4 ver = true := by simp only [flexB,Bool.and_eq_true,decide_eq_true_eq];omega
    rw [hfl]
    refine (readOffsetCommitValue_4b (d := d) (un := true) h1 h2 w _ s hvc hv hsrc hok0 hG hgv hev).mono ?_
    rintro r5 w5 h5
    repeat ((first | refine qA rfl ?_|refine qB ?_|refine qC rfl ?_|refine qD ?_|refine qE ?_|refine qF ?_|refine qG ?_|refine qH ?_);try simp (maxSteps:=1000000)(disch:=(first|omega|(simp only [qI,qJ,qK]<;>omega)|exact qL _)) only [go_sem,↓reduceIte,n0,reduceCtorEq,n1,n2,n3,n4,n5,i0,i1,i2,i3,i4,i5,i6,i7])
    all_goals exact h5

end Ms

