/- A part of the proof: see the last text. -/
import Derived.Test.YtkoeaaababfjkaaGreatDoorC07
import Derived.Test.YtkoeaaababfjkaaGreatDoorSyncGroupRequestP0
import Derived.Test.YtkoeaaababfjkaaGreatDoorSyncGroupRequestP1
import Derived.Test.YtkoeaaababfjkaaGreatDoorSyncGroupRequestP2
set_option linter.unusedSimpArgs false
set_option linter.unusedVariables false
namespace Ms
open Go.World renaming size_alloc → qI
open Ms renaming size_wr → qJ,size_drew → qK,not_noB → qL
open W renaming seqR → qA,seq → qB,regR → qC,condK → qD,block → qE,skip → qF,ret → qG,exit → qH
open Nat renaming reduceEqDiff → n0,reduceAdd → n1,reduceMul → n2,reduceSub → n3,reduceLT → n4,reduceLeDiff → n5
open Int renaming reduceEq → i0,reduceLT → i1,reduceLE → i2,reduceNeg → i3,reduceAdd → i4,reduceSub → i5,reduceMul → i6,reduceToNat → i7
set_option maxRecDepth 8000
open Go Go.Proofs Go.Shelf
attribute [local congr] W_congr WPsq_congr WPp_congr optK_congr addrK_congr intK_congr boolK_congr sliceK_congr tupleK_congr funcK_congr Fn_congr rawK_congr takeK_congr stepK_congr convK_congr aggK_congr

set_option maxHeartbeats 4000000 in
theorem readSyncGroupRequest_3 {d : Nat} {ok : Blocks} {ver : Int} {ev : Value} (hlo : 5 ≤ ver) (hhi : ver ≤ 5) (w : World) {vb : Nat} (src : Value) (s : List UInt8) (hv : blk w vb = some (#[.int .i16 ver,.string ByteArray.empty,.int .i32 0,.string ByteArray.empty,.pointer none,.pointer none,.pointer none,.slice none 0 0,.map none],123,(0,0))) (hsrc : BytesV ok w src s) (hok0 : ∀ b,ok b → b < w.heap.size ∧ b ≠ vb) (hG : Glo ev w) (hgv : ¬ 0 = vb ∧ ¬ 1 = vb) :
    Fn Tryz.prog 113 #[.pointer (some ⟨vb,0,none⟩),src,.bool false] w (ReadQ 123 ok ver (d + 2) fs_SyncGroupRequest vb w (rdP (d + 2) ver true fs_SyncGroupRequest (some s)) ev) := by
  have hvl := blk_lt hv
  have hgs := hG.lt
  obtain ⟨sa,sc,rfl,_⟩ := hsrc.shape
  refine fn_of_W Tryz.func113 rfl Tryz.results113 Tryz.ntmps113 rfl ?_
  repeat ((first | refine qA rfl ?_|refine qB ?_|refine qC rfl ?_|refine qD ?_|refine qE ?_|refine qF ?_|refine qG ?_|refine qH ?_);try simp (maxSteps:=1000000)(disch:=(first|omega|(simp only [qI,qJ,qK]<;>omega)|exact qL _)) only [go_sem,↓reduceIte,n0,reduceCtorEq,n1,n2,n3,n4,n5,i0,i1,i2,i3,i4,i5,i6,i7,hv])
  refine (DefaultSyncGroupRequest_fn w hv).mono ?_
  rintro _ w0 ⟨hv0,hu0⟩
  have hz0 := hu0.size
  have hsrc0 : BytesV ok w0 (.slice sa s.length sc) s := hsrc.keep (hu0.keeps fun b _ hk e => (hok0 b hk).2 e)
  obtain ⟨rb,hrb⟩ : ∃ r,r = w0.heap.size := ⟨_,rfl⟩
  have hE1 : Ext w0 (wr (w0.alloc (.cells #[.slice none 0 0,.bool false] 153)) w0.heap.size 0 [.slice sa s.length sc,.bool false]) := (Upd.alloc (Upd.refl _ _) _).wr _ _ (.inl (Nat.le_refl _))
  have hz1 : (wr (w0.alloc (.cells #[.slice none 0 0,.bool false] 153)) w0.heap.size 0 [.slice sa s.length sc,.bool false]).heap.size = w0.heap.size + 1 := by rw [size_wr,World.size_alloc]
  have hR1 : Rdr RT ok (wr (w0.alloc (.cells #[.slice none 0 0,.bool false] 153)) w0.heap.size 0 [.slice sa s.length sc,.bool false]) w0.heap.size (some s) := Rdr.good (v := .slice sa s.length sc) (by simp (maxSteps:=1000000)(disch:=(first|omega|(simp only [qI,qJ,qK]<;>omega)|exact qL _)) only [go_sem,↓reduceIte,n0,reduceCtorEq,n1,n2,n3,n4,n5,i0,i1,i2,i3,i4,i5,i6,i7]) (hsrc0.keep (hE1.keeps _))
  have hv_1 := hE1.blk_some hv0 id
  repeat ((first | refine qA rfl ?_|refine qB ?_|refine qC rfl ?_|refine qD ?_|refine qE ?_|refine qF ?_|refine qG ?_|refine qH ?_);try simp (maxSteps:=1000000)(disch:=(first|omega|(simp only [qI,qJ,qK]<;>omega)|exact qL _)) only [go_sem,↓reduceIte,n0,reduceCtorEq,n1,n2,n3,n4,n5,i0,i1,i2,i3,i4,i5,i6,i7,hv0])
  generalize (wr (w0.alloc (.cells #[.slice none 0 0,.bool false] 153)) w0.heap.size 0 [.slice sa s.length sc,.bool false]) = w1 at *
  rw [← hrb] at hR1
  try rw [← hrb]
  have hok : ∀ b,ok b → b < w.heap.size ∧ b ≠ vb := hok0
  have hrok : ¬ ok rb := fun h => by have := (hok rb h).1;omega
  have hbase : Upd (fun b => b = vb) w w1 := hu0.trans (hE1.mono fun _ h => h.elim)
  have hG1 : Glo ev w1 := hG.updS hbase hgv.1 hgv.2
  have hgrb : ¬ 0 = rb := by omega
  have hgM1 : ¬ (0 = vb ∨ 0 = rb) := fun h => h.elim hgv.1 fun h => by omega
  have hgM2 : ¬ (1 = vb ∨ 1 = rb) := fun h => h.elim hgv.2 fun h => by omega
  obtain ⟨s0,hs0⟩ : ∃ s' : St,s' = some s := ⟨_,rfl⟩
  rw [← hs0] at hR1 ⊢
  have hU1 : Upd (fun b => b = vb ∨ b = rb) w1 w1 := Upd.refl _ _
  have hoM : ∀ b,(ok b ∨ w1.heap.size ≤ b) → ¬ (b = vb ∨ b = rb) := fun b hk h => by
    rcases hk with hk | hk
    · have := hok b hk;rcases h with h | h <;> omega
    · rcases h with h | h <;> omega
  have hq1 : Rdr RT ok w1 rb s0 := hR1
  obtain ⟨FB,hFB⟩ : ∃ P : Prop,P = ((rdP (d + 2) ver true fs_SyncGroupRequest s0).2 = none) := ⟨_,rfl⟩
  have hb_0 : (rdL (rdP (d + 1) ver true) (dfP (d + 1)) ver true [fSyncGroupRequest_0,fSyncGroupRequest_1,fSyncGroupRequest_2,fSyncGroupRequest_3,fSyncGroupRequest_4,fSyncGroupRequest_5,fSyncGroupRequest_6] s0).2 = none → FB := fun h => Eq.mpr hFB (rdP_bad h)
  have hh_0 : hasS fSyncGroupRequest_0 ver = true := hasS_t (by show (0 : Int) ≤ ver;omega) (by show (-1 : Int) < 0 ∨ ver ≤ (-1 : Int);omega)
  obtain ⟨x_0,hx_0⟩ : ∃ x,x = (rdF (rdP (d + 1) ver true) ver true fSyncGroupRequest_0 s0).1 := ⟨_,rfl⟩
  repeat ((first | refine qA rfl ?_|refine qB ?_|refine qC rfl ?_|refine qD ?_|refine qE ?_|refine qF ?_|refine qG ?_|refine qH ?_);try simp (maxSteps:=1000000)(disch:=(first|omega|(simp only [qI,qJ,qK]<;>omega)|exact qL _)) only [go_sem,↓reduceIte,n0,reduceCtorEq,n1,n2,n3,n4,n5,i0,i1,i2,i3,i4,i5,i6,i7,hv_1])
  have hmay : mayS fSyncGroupRequest_0 ver = false := mayS_no (by show (-1 : Int) < 0 ∨ ver < (-1 : Int);omega)
  have hrd : rdF (rdP (d + 1) ver true) ver true fSyncGroupRequest_0 s0 = _ := rdF_text rfl hmay
  refine (RCompactString_fn w1 hq1 hrok hG1.1 hgrb).mono ?_
  rintro _ w2 ⟨rfl,hq2,hu2⟩
  have hv_2 := hu2.blk_some hv_1 (by omega)
  have hV2 : Upd (fun b => b = vb ∨ b = rb) w1 w2 := hu2.mono (fun _ h => .inr h)
  have hU2 : Upd (fun b => b = vb ∨ b = rb) w1 w2 := hU1.trans hV2
  have hz2 := hV2.size
  have hG2 : Glo ev w2 := hG1.updS hU2 hgM1 hgM2
  have hst : (rdF (rdP (d + 1) ver true) ver true fSyncGroupRequest_0 s0).2 = (rdStr true s0).2 := by first | (rw [hrd];rfl) | rw [hrd]
  obtain ⟨s1,hs1⟩ : ∃ s,s = (rdF (rdP (d + 1) ver true) ver true fSyncGroupRequest_0 s0).2 := ⟨_,rfl⟩
  rw [← hst,← hs1] at hq2
  clear hst
  repeat ((first | refine qA rfl ?_|refine qB ?_|refine qC rfl ?_|refine qD ?_|refine qE ?_|refine qF ?_|refine qG ?_|refine qH ?_);try simp (maxSteps:=1000000)(disch:=(first|omega|(simp only [qI,qJ,qK]<;>omega)|exact qL _)) only [go_sem,↓reduceIte,n0,reduceCtorEq,n1,n2,n3,n4,n5,i0,i1,i2,i3,i4,i5,i6,i7,hv_2])
  generalize hw3 : wr w2 vb 1 [strV (rdStr true s0).1] = w3
  have hS3 : Upd (fun b => b = vb ∨ b = rb) w2 w3 := by rw [← hw3];exact (Upd.refl _ _).wr _ _ (.inr (.inl rfl))
  have hv_3 : blk w3 vb = some (#[.int .i16 ver,strV (rdStr true s0).1,.int .i32 0,.string ByteArray.empty,.pointer none,.pointer none,.pointer none,.slice none 0 0,.map none],123,(0,0)) := by rw [← hw3,blk_wr_eq,hv_2];rfl
  have hV3 := hS3
  have hU3 : Upd (fun b => b = vb ∨ b = rb) w1 w3 := hU2.trans hV3
  have hz3 := hV3.size
  have hG3 : Glo ev w3 := hG1.updS hU3 hgM1 hgM2
  have hq3 : Rdr RT ok w3 rb s1 ∧ NN w3 rb s1 := by
    have hn : ∀ x,x = w3 → (Rdr RT ok x rb s1 ∧ NN x rb s1) := fun x hx => by
      rw [hx,← hw3]
      exact Rdr.store hq2 (by omega) (fun h => by have := (hok _ h).1;first | omega | exact (hok _ h).2 rfl)
    exact hn _ rfl
  clear hw3
  have hf_0 : RepF (RepS true (d + 1)) (szS true (d + 1)) fSyncGroupRequest_0 (fun b => ok b ∨ w1.heap.size ≤ b) w3 (x_0) [strV (rdStr true s0).1] := (RepF_text rfl (by decide)).2 (by rw [hx_0,hrd];rfl)
  clear hrd
  have hb_1 : (rdL (rdP (d + 1) ver true) (dfP (d + 1)) ver true [fSyncGroupRequest_1,fSyncGroupRequest_2,fSyncGroupRequest_3,fSyncGroupRequest_4,fSyncGroupRequest_5,fSyncGroupRequest_6] s1).2 = none → FB := fun h => hb_0 (by rw [rdL_st (by decide) hh_0,← hs1];exact h)
  have hh_1 : hasS fSyncGroupRequest_1 ver = true := hasS_t (by show (0 : Int) ≤ ver;omega) (by show (-1 : Int) < 0 ∨ ver ≤ (-1 : Int);omega)
  obtain ⟨x_1,hx_1⟩ : ∃ x,x = (rdF (rdP (d + 1) ver true) ver true fSyncGroupRequest_1 s1).1 := ⟨_,rfl⟩
  repeat ((first | refine qA rfl ?_|refine qB ?_|refine qC rfl ?_|refine qD ?_|refine qE ?_|refine qF ?_|refine qG ?_|refine qH ?_);try simp (maxSteps:=1000000)(disch:=(first|omega|(simp only [qI,qJ,qK]<;>omega)|exact qL _)) only [go_sem,↓reduceIte,n0,reduceCtorEq,n1,n2,n3,n4,n5,i0,i1,i2,i3,i4,i5,i6,i7,hv_3])
  have hrd : rdF (rdP (d + 1) ver true) ver true fSyncGroupRequest_1 s1 = _ := rdF_num 3 rfl (by decide)
  refine (Int32_fn w3 hq3.1 hrok hG3.1 hgrb).mono ?_
  rintro _ w4 ⟨rfl,hq4,hu4⟩
  have hv_4 := hu4.blk_some hv_3 (by omega)
  have hV4 : Upd (fun b => b = vb ∨ b = rb) w3 w4 := hu4.mono (fun _ h => .inr h)
  have hU4 : Upd (fun b => b = vb ∨ b = rb) w1 w4 := hU3.trans hV4
  have hz4 := hV4.size
  have hG4 : Glo ev w4 := hG1.updS hU4 hgM1 hgM2
  have hst : (rdF (rdP (d + 1) ver true) ver true fSyncGroupRequest_1 s1).2 = (rdInt .i32 4 s1).2 := by first | (rw [hrd];rfl) | rw [hrd]
  obtain ⟨s2,hs2⟩ : ∃ s,s = (rdF (rdP (d + 1) ver true) ver true fSyncGroupRequest_1 s1).2 := ⟨_,rfl⟩
  rw [← hst,← hs2] at hq4
  clear hst
  repeat ((first | refine qA rfl ?_|refine qB ?_|refine qC rfl ?_|refine qD ?_|refine qE ?_|refine qF ?_|refine qG ?_|refine qH ?_);try simp (maxSteps:=1000000)(disch:=(first|omega|(simp only [qI,qJ,qK]<;>omega)|exact qL _)) only [go_sem,↓reduceIte,n0,reduceCtorEq,n1,n2,n3,n4,n5,i0,i1,i2,i3,i4,i5,i6,i7,hv_4])
  generalize hw5 : wr w4 vb 2 [.int .i32 (rdInt .i32 4 s1).1] = w5
  have hS5 : Upd (fun b => b = vb ∨ b = rb) w4 w5 := by rw [← hw5];exact (Upd.refl _ _).wr _ _ (.inr (.inl rfl))
  have hv_5 : blk w5 vb = some (#[.int .i16 ver,strV (rdStr true s0).1,.int .i32 (rdInt .i32 4 s1).1,.string ByteArray.empty,.pointer none,.pointer none,.pointer none,.slice none 0 0,.map none],123,(0,0)) := by rw [← hw5,blk_wr_eq,hv_4];rfl
  have hV5 := hS5
  have hU5 : Upd (fun b => b = vb ∨ b = rb) w1 w5 := hU4.trans hV5
  have hz5 := hV5.size
  have hG5 : Glo ev w5 := hG1.updS hU5 hgM1 hgM2
  have hq5 : Rdr RT ok w5 rb s2 ∧ NN w5 rb s2 := by
    have hn : ∀ x,x = w5 → (Rdr RT ok x rb s2 ∧ NN x rb s2) := fun x hx => by
      rw [hx,← hw5]
      exact Rdr.store hq4 (by omega) (fun h => by have := (hok _ h).1;first | omega | exact (hok _ h).2 rfl)
    exact hn _ rfl
  clear hw5
  have hf_1 : RepF (RepS true (d + 1)) (szS true (d + 1)) fSyncGroupRequest_1 (fun b => ok b ∨ w1.heap.size ≤ b) w5 (x_1) [.int .i32 (rdInt .i32 4 s1).1] := (RepF_num (by decide)).2 (by rw [hx_1,hrd];exact congrArg (fun x => [x]) (numC_rd 3 (by decide) 4 s1).symm)
  clear hrd
  have hb_2 : (rdL (rdP (d + 1) ver true) (dfP (d + 1)) ver true [fSyncGroupRequest_2,fSyncGroupRequest_3,fSyncGroupRequest_4,fSyncGroupRequest_5,fSyncGroupRequest_6] s2).2 = none → FB := fun h => hb_1 (by rw [rdL_st (by decide) hh_1,← hs2];exact h)
  have hh_2 : hasS fSyncGroupRequest_2 ver = true := hasS_t (by show (0 : Int) ≤ ver;omega) (by show (-1 : Int) < 0 ∨ ver ≤ (-1 : Int);omega)
  obtain ⟨x_2,hx_2⟩ : ∃ x,x = (rdF (rdP (d + 1) ver true) ver true fSyncGroupRequest_2 s2).1 := ⟨_,rfl⟩
  repeat ((first | refine qA rfl ?_|refine qB ?_|refine qC rfl ?_|refine qD ?_|refine qE ?_|refine qF ?_|refine qG ?_|refine qH ?_);try simp (maxSteps:=1000000)(disch:=(first|omega|(simp only [qI,qJ,qK]<;>omega)|exact qL _)) only [go_sem,↓reduceIte,n0,reduceCtorEq,n1,n2,n3,n4,n5,i0,i1,i2,i3,i4,i5,i6,i7,hv_5])
  have hmay : mayS fSyncGroupRequest_2 ver = false := mayS_no (by show (-1 : Int) < 0 ∨ ver < (-1 : Int);omega)
  have hrd : rdF (rdP (d + 1) ver true) ver true fSyncGroupRequest_2 s2 = _ := rdF_text rfl hmay
  refine (RCompactString_fn w5 hq5.1 hrok hG5.1 hgrb).mono ?_
  rintro _ w6 ⟨rfl,hq6,hu6⟩
  have hv_6 := hu6.blk_some hv_5 (by omega)
  have hV6 : Upd (fun b => b = vb ∨ b = rb) w5 w6 := hu6.mono (fun _ h => .inr h)
  have hU6 : Upd (fun b => b = vb ∨ b = rb) w1 w6 := hU5.trans hV6
  have hz6 := hV6.size
  have hG6 : Glo ev w6 := hG1.updS hU6 hgM1 hgM2
  have hst : (rdF (rdP (d + 1) ver true) ver true fSyncGroupRequest_2 s2).2 = (rdStr true s2).2 := by first | (rw [hrd];rfl) | rw [hrd]
  obtain ⟨s3,hs3⟩ : ∃ s,s = (rdF (rdP (d + 1) ver true) ver true fSyncGroupRequest_2 s2).2 := ⟨_,rfl⟩
  rw [← hst,← hs3] at hq6
  clear hst
  repeat ((first | refine qA rfl ?_|refine qB ?_|refine qC rfl ?_|refine qD ?_|refine qE ?_|refine qF ?_|refine qG ?_|refine qH ?_);try simp (maxSteps:=1000000)(disch:=(first|omega|(simp only [qI,qJ,qK]<;>omega)|exact qL _)) only [go_sem,↓reduceIte,n0,reduceCtorEq,n1,n2,n3,n4,n5,i0,i1,i2,i3,i4,i5,i6,i7,hv_6])
  generalize hw7 : wr w6 vb 3 [strV (rdStr true s2).1] = w7
  have hS7 : Upd (fun b => b = vb ∨ b = rb) w6 w7 := by rw [← hw7];exact (Upd.refl _ _).wr _ _ (.inr (.inl rfl))
  have hv_7 : blk w7 vb = some (#[.int .i16 ver,strV (rdStr true s0).1,.int .i32 (rdInt .i32 4 s1).1,strV (rdStr true s2).1,.pointer none,.pointer none,.pointer none,.slice none 0 0,.map none],123,(0,0)) := by rw [← hw7,blk_wr_eq,hv_6];rfl
  have hV7 := hS7
  have hU7 : Upd (fun b => b = vb ∨ b = rb) w1 w7 := hU6.trans hV7
  have hz7 := hV7.size
  have hG7 : Glo ev w7 := hG1.updS hU7 hgM1 hgM2
  have hq7 : Rdr RT ok w7 rb s3 ∧ NN w7 rb s3 := by
    have hn : ∀ x,x = w7 → (Rdr RT ok x rb s3 ∧ NN x rb s3) := fun x hx => by
      rw [hx,← hw7]
      exact Rdr.store hq6 (by omega) (fun h => by have := (hok _ h).1;first | omega | exact (hok _ h).2 rfl)
    exact hn _ rfl
  clear hw7
  have hf_2 : RepF (RepS true (d + 1)) (szS true (d + 1)) fSyncGroupRequest_2 (fun b => ok b ∨ w1.heap.size ≤ b) w7 (x_2) [strV (rdStr true s2).1] := (RepF_text rfl (by decide)).2 (by rw [hx_2,hrd];rfl)
  clear hrd
  have hb_3 : (rdL (rdP (d + 1) ver true) (dfP (d + 1)) ver true [fSyncGroupRequest_3,fSyncGroupRequest_4,fSyncGroupRequest_5,fSyncGroupRequest_6] s3).2 = none → FB := fun h => hb_2 (by rw [rdL_st (by decide) hh_2,← hs3];exact h)
  have hh_3 : hasS fSyncGroupRequest_3 ver = true := hasS_t (by show (3 : Int) ≤ ver;omega) (by show (-1 : Int) < 0 ∨ ver ≤ (-1 : Int);omega)
  obtain ⟨x_3,hx_3⟩ : ∃ x,x = (rdF (rdP (d + 1) ver true) ver true fSyncGroupRequest_3 s3).1 := ⟨_,rfl⟩
  repeat ((first | refine qA rfl ?_|refine qB ?_|refine qC rfl ?_|refine qD ?_|refine qE ?_|refine qF ?_|refine qG ?_|refine qH ?_);try simp (maxSteps:=1000000)(disch:=(first|omega|(simp only [qI,qJ,qK]<;>omega)|exact qL _)) only [go_sem,↓reduceIte,n0,reduceCtorEq,n1,n2,n3,n4,n5,i0,i1,i2,i3,i4,i5,i6,i7,hv_7])
  have hmay : mayS fSyncGroupRequest_3 ver = true := mayS_yes (by decide) (by show (3 : Int) ≤ ver;omega)
  have hrd : rdF (rdP (d + 1) ver true) ver true fSyncGroupRequest_3 s3 = _ := rdF_ptr rfl hmay
  refine (RCompactNullableString_fn w7 hq7.1 hrok hG7.1 hgrb).mono ?_
  rintro r8 w8 ⟨hp8,hq8,hu8⟩
  obtain ⟨ap8,rfl⟩ := hp8.shape
  have hv_8 := hu8.blk_some hv_7 (by omega)
  have hV8 : Upd (fun b => b = vb ∨ b = rb) w7 w8 := hu8.mono (fun _ h => .inr h)
  have hU8 : Upd (fun b => b = vb ∨ b = rb) w1 w8 := hU7.trans hV8
  have hz8 := hV8.size
  have hG8 : Glo ev w8 := hG1.updS hU8 hgM1 hgM2
  have hst : (rdF (rdP (d + 1) ver true) ver true fSyncGroupRequest_3 s3).2 = (rdNStr true s3).2 := by first | (rw [hrd];rfl) | rw [hrd]
  obtain ⟨s4,hs4⟩ : ∃ s,s = (rdF (rdP (d + 1) ver true) ver true fSyncGroupRequest_3 s3).2 := ⟨_,rfl⟩
  rw [← hst,← hs4] at hq8
  clear hst
  repeat ((first | refine qA rfl ?_|refine qB ?_|refine qC rfl ?_|refine qD ?_|refine qE ?_|refine qF ?_|refine qG ?_|refine qH ?_);try simp (maxSteps:=1000000)(disch:=(first|omega|(simp only [qI,qJ,qK]<;>omega)|exact qL _)) only [go_sem,↓reduceIte,n0,reduceCtorEq,n1,n2,n3,n4,n5,i0,i1,i2,i3,i4,i5,i6,i7,hv_8])
  generalize hw9 : wr w8 vb 4 [.pointer ap8] = w9
  have hS9 : Upd (fun b => b = vb ∨ b = rb) w8 w9 := by rw [← hw9];exact (Upd.refl _ _).wr _ _ (.inr (.inl rfl))
  have hv_9 : blk w9 vb = some (#[.int .i16 ver,strV (rdStr true s0).1,.int .i32 (rdInt .i32 4 s1).1,strV (rdStr true s2).1,.pointer ap8,.pointer none,.pointer none,.slice none 0 0,.map none],123,(0,0)) := by rw [← hw9,blk_wr_eq,hv_8];rfl
  have hV9 := hS9
  have hU9 : Upd (fun b => b = vb ∨ b = rb) w1 w9 := hU8.trans hV9
  have hz9 := hV9.size
  have hG9 : Glo ev w9 := hG1.updS hU9 hgM1 hgM2
  have hq9 : Rdr RT ok w9 rb s4 ∧ NN w9 rb s4 := by
    have hn : ∀ x,x = w9 → (Rdr RT ok x rb s4 ∧ NN x rb s4) := fun x hx => by
      rw [hx,← hw9]
      exact Rdr.store hq8 (by omega) (fun h => by have := (hok _ h).1;first | omega | exact (hok _ h).2 rfl)
    exact hn _ rfl
  clear hw9
  have hf_3 : RepF (RepS true (d + 1)) (szS true (d + 1)) fSyncGroupRequest_3 (fun b => ok b ∨ w1.heap.size ≤ b) w9 (x_3) [.pointer ap8] := (RepF_ptr rfl (by decide)).2 ⟨_,rfl,by rw [hx_3,hrd];exact (hp8.weaken fun b _ hk => by have hk' : w7.heap.size ≤ b := hk;exact .inr (by omega)).keep (hV9.keeps fun b _ hk e => (hoM b hk) e)⟩
  clear hrd
  have hb_4 : (rdL (rdP (d + 1) ver true) (dfP (d + 1)) ver true [fSyncGroupRequest_4,fSyncGroupRequest_5,fSyncGroupRequest_6] s4).2 = none → FB := fun h => hb_3 (by rw [rdL_st (by decide) hh_3,← hs4];exact h)
  have hh_4 : hasS fSyncGroupRequest_4 ver = true := hasS_t (by show (5 : Int) ≤ ver;omega) (by show (-1 : Int) < 0 ∨ ver ≤ (-1 : Int);omega)
  obtain ⟨x_4,hx_4⟩ : ∃ x,x = (rdF (rdP (d + 1) ver true) ver true fSyncGroupRequest_4 s4).1 := ⟨_,rfl⟩
  repeat ((first | refine qA rfl ?_|refine qB ?_|refine qC rfl ?_|refine qD ?_|refine qE ?_|refine qF ?_|refine qG ?_|refine qH ?_);try simp (maxSteps:=1000000)(disch:=(first|omega|(simp only [qI,qJ,qK]<;>omega)|exact qL _)) only [go_sem,↓reduceIte,n0,reduceCtorEq,n1,n2,n3,n4,n5,i0,i1,i2,i3,i4,i5,i6,i7,hv_9])
  have hmay : mayS fSyncGroupRequest_4 ver = true := mayS_yes (by decide) (by show (5 : Int) ≤ ver;omega)
  have hrd : rdF (rdP (d + 1) ver true) ver true fSyncGroupRequest_4 s4 = _ := rdF_ptr rfl hmay
  refine (RCompactNullableString_fn w9 hq9.1 hrok hG9.1 hgrb).mono ?_
  rintro r10 w10 ⟨hp10,hq10,hu10⟩
  obtain ⟨ap10,rfl⟩ := hp10.shape
  have hv_10 := hu10.blk_some hv_9 (by omega)
  have hV10 : Upd (fun b => b = vb ∨ b = rb) w9 w10 := hu10.mono (fun _ h => .inr h)
  have hU10 : Upd (fun b => b = vb ∨ b = rb) w1 w10 := hU9.trans hV10
  have hz10 := hV10.size
  have hG10 : Glo ev w10 := hG1.updS hU10 hgM1 hgM2
  have hst : (rdF (rdP (d + 1) ver true) ver true fSyncGroupRequest_4 s4).2 = (rdNStr true s4).2 := by first | (rw [hrd];rfl) | rw [hrd]
  obtain ⟨s5,hs5⟩ : ∃ s,s = (rdF (rdP (d + 1) ver true) ver true fSyncGroupRequest_4 s4).2 := ⟨_,rfl⟩
  rw [← hst,← hs5] at hq10
  clear hst
  repeat ((first | refine qA rfl ?_|refine qB ?_|refine qC rfl ?_|refine qD ?_|refine qE ?_|refine qF ?_|refine qG ?_|refine qH ?_);try simp (maxSteps:=1000000)(disch:=(first|omega|(simp only [qI,qJ,qK]<;>omega)|exact qL _)) only [go_sem,↓reduceIte,n0,reduceCtorEq,n1,n2,n3,n4,n5,i0,i1,i2,i3,i4,i5,i6,i7,hv_10])
  generalize hw11 : wr w10 vb 5 [.pointer ap10] = w11
  have hS11 : Upd (fun b => b = vb ∨ b = rb) w10 w11 := by rw [← hw11];exact (Upd.refl _ _).wr _ _ (.inr (.inl rfl))
  have hv_11 : blk w11 vb = some (#[.int .i16 ver,strV (rdStr true s0).1,.int .i32 (rdInt .i32 4 s1).1,strV (rdStr true s2).1,.pointer ap8,.pointer ap10,.pointer none,.slice none 0 0,.map none],123,(0,0)) := by rw [← hw11,blk_wr_eq,hv_10];rfl
  have hV11 := hS11
  have hU11 : Upd (fun b => b = vb ∨ b = rb) w1 w11 := hU10.trans hV11
  have hz11 := hV11.size
  have hG11 : Glo ev w11 := hG1.updS hU11 hgM1 hgM2
  have hq11 : Rdr RT ok w11 rb s5 ∧ NN w11 rb s5 := by
    have hn : ∀ x,x = w11 → (Rdr RT ok x rb s5 ∧ NN x rb s5) := fun x hx => by
      rw [hx,← hw11]
      exact Rdr.store hq10 (by omega) (fun h => by have := (hok _ h).1;first | omega | exact (hok _ h).2 rfl)
    exact hn _ rfl
  clear hw11
  have hf_4 : RepF (RepS true (d + 1)) (szS true (d + 1)) fSyncGroupRequest_4 (fun b => ok b ∨ w1.heap.size ≤ b) w11 (x_4) [.pointer ap10] := (RepF_ptr rfl (by decide)).2 ⟨_,rfl,by rw [hx_4,hrd];exact (hp10.weaken fun b _ hk => by have hk' : w9.heap.size ≤ b := hk;exact .inr (by omega)).keep (hV11.keeps fun b _ hk e => (hoM b hk) e)⟩
  clear hrd
  have hb_5 : (rdL (rdP (d + 1) ver true) (dfP (d + 1)) ver true [fSyncGroupRequest_5,fSyncGroupRequest_6] s5).2 = none → FB := fun h => hb_4 (by rw [rdL_st (by decide) hh_4,← hs5];exact h)
  have hh_5 : hasS fSyncGroupRequest_5 ver = true := hasS_t (by show (5 : Int) ≤ ver;omega) (by show (-1 : Int) < 0 ∨ ver ≤ (-1 : Int);omega)
  obtain ⟨x_5,hx_5⟩ : ∃ x,x = (rdF (rdP (d + 1) ver true) ver true fSyncGroupRequest_5 s5).1 := ⟨_,rfl⟩
  repeat ((first | refine qA rfl ?_|refine qB ?_|refine qC rfl ?_|refine qD ?_|refine qE ?_|refine qF ?_|refine qG ?_|refine qH ?_);try simp (maxSteps:=1000000)(disch:=(first|omega|(simp only [qI,qJ,qK]<;>omega)|exact qL _)) only [go_sem,↓reduceIte,n0,reduceCtorEq,n1,n2,n3,n4,n5,i0,i1,i2,i3,i4,i5,i6,i7,hv_11])
  have hmay : mayS fSyncGroupRequest_5 ver = true := mayS_yes (by decide) (by show (5 : Int) ≤ ver;omega)
  have hrd : rdF (rdP (d + 1) ver true) ver true fSyncGroupRequest_5 s5 = _ := rdF_ptr rfl hmay
  refine (RCompactNullableString_fn w11 hq11.1 hrok hG11.1 hgrb).mono ?_
  rintro r12 w12 ⟨hp12,hq12,hu12⟩
  obtain ⟨ap12,rfl⟩ := hp12.shape
  have hv_12 := hu12.blk_some hv_11 (by omega)
  have hV12 : Upd (fun b => b = vb ∨ b = rb) w11 w12 := hu12.mono (fun _ h => .inr h)
  have hU12 : Upd (fun b => b = vb ∨ b = rb) w1 w12 := hU11.trans hV12
  have hz12 := hV12.size
  have hG12 : Glo ev w12 := hG1.updS hU12 hgM1 hgM2
  have hst : (rdF (rdP (d + 1) ver true) ver true fSyncGroupRequest_5 s5).2 = (rdNStr true s5).2 := by first | (rw [hrd];rfl) | rw [hrd]
  obtain ⟨s6,hs6⟩ : ∃ s,s = (rdF (rdP (d + 1) ver true) ver true fSyncGroupRequest_5 s5).2 := ⟨_,rfl⟩
  rw [← hst,← hs6] at hq12
  clear hst
  repeat ((first | refine qA rfl ?_|refine qB ?_|refine qC rfl ?_|refine qD ?_|refine qE ?_|refine qF ?_|refine qG ?_|refine qH ?_);try simp (maxSteps:=1000000)(disch:=(first|omega|(simp only [qI,qJ,qK]<;>omega)|exact qL _)) only [go_sem,↓reduceIte,n0,reduceCtorEq,n1,n2,n3,n4,n5,i0,i1,i2,i3,i4,i5,i6,i7,hv_12])
  generalize hw13 : wr w12 vb 6 [.pointer ap12] = w13
  have hS13 : Upd (fun b => b = vb ∨ b = rb) w12 w13 := by rw [← hw13];exact (Upd.refl _ _).wr _ _ (.inr (.inl rfl))
  have hv_13 : blk w13 vb = some (#[.int .i16 ver,strV (rdStr true s0).1,.int .i32 (rdInt .i32 4 s1).1,strV (rdStr true s2).1,.pointer ap8,.pointer ap10,.pointer ap12,.slice none 0 0,.map none],123,(0,0)) := by rw [← hw13,blk_wr_eq,hv_12];rfl
  have hV13 := hS13
  have hU13 : Upd (fun b => b = vb ∨ b = rb) w1 w13 := hU12.trans hV13
  have hz13 := hV13.size
  have hG13 : Glo ev w13 := hG1.updS hU13 hgM1 hgM2
  have hq13 : Rdr RT ok w13 rb s6 ∧ NN w13 rb s6 := by
    have hn : ∀ x,x = w13 → (Rdr RT ok x rb s6 ∧ NN x rb s6) := fun x hx => by
      rw [hx,← hw13]
      exact Rdr.store hq12 (by omega) (fun h => by have := (hok _ h).1;first | omega | exact (hok _ h).2 rfl)
    exact hn _ rfl
  clear hw13
  have hf_5 : RepF (RepS true (d + 1)) (szS true (d + 1)) fSyncGroupRequest_5 (fun b => ok b ∨ w1.heap.size ≤ b) w13 (x_5) [.pointer ap12] := (RepF_ptr rfl (by decide)).2 ⟨_,rfl,by rw [hx_5,hrd];exact (hp12.weaken fun b _ hk => by have hk' : w11.heap.size ≤ b := hk;exact .inr (by omega)).keep (hV13.keeps fun b _ hk e => (hoM b hk) e)⟩
  clear hrd
  have hb_6 : (rdL (rdP (d + 1) ver true) (dfP (d + 1)) ver true [fSyncGroupRequest_6] s6).2 = none → FB := fun h => hb_5 (by rw [rdL_st (by decide) hh_5,← hs6];exact h)
  have hh_6 : hasS fSyncGroupRequest_6 ver = true := hasS_t (by show (0 : Int) ≤ ver;omega) (by show (-1 : Int) < 0 ∨ ver ≤ (-1 : Int);omega)
  obtain ⟨x_6,hx_6⟩ : ∃ x,x = (rdF (rdP (d + 1) ver true) ver true fSyncGroupRequest_6 s6).1 := ⟨_,rfl⟩
  repeat ((first | refine qA rfl ?_|refine qB ?_|refine qC rfl ?_|refine qD ?_|refine qE ?_|refine qF ?_|refine qG ?_|refine qH ?_);try simp (maxSteps:=1000000)(disch:=(first|omega|(simp only [qI,qJ,qK]<;>omega)|exact qL _)) only [go_sem,↓reduceIte,n0,reduceCtorEq,n1,n2,n3,n4,n5,i0,i1,i2,i3,i4,i5,i6,i7,hv_13])
  refine (RCompactArrayLen_fn w13 hq13.1 hrok hG13.1 hgrb).mono ?_
  rintro _ w14 ⟨rfl,hq14,hu14⟩
  have hv_14 := hu14.blk_some hv_13 (by omega)
  have hV14 : Upd (fun b => b = vb ∨ b = rb) w13 w14 := hu14.mono (fun _ h => .inr h)
  have hU14 : Upd (fun b => b = vb ∨ b = rb) w1 w14 := hU13.trans hV14
  have hz14 := hV14.size
  have hG14 : Glo ev w14 := hG1.updS hU14 hgM1 hgM2
  obtain ⟨s7,hs7⟩ : ∃ s,s = (rdALen true s6).2 := ⟨_,rfl⟩
  rw [← hs7] at hq14
  have hyr0 := rdALen_rng true s6
  generalize hy0 : (rdALen true s6).1 = y0 at *
  obtain ⟨N0,hN0⟩ : ∃ N,N = y0.toNat := ⟨_,rfl⟩
  have hlb0 : (rdMany (rd1 (rdP (d + 1) ver true) fSyncGroupRequest_6.of fSyncGroupRequest_6.sub false true) N0 s7).2 = none → FB := fun h => hb_6 (by rw [rdL_st (by decide) hh_6];exact rdL_bad (rdF_listbad rfl (by rw [hy0,← hN0,← hs7];exact h)))
  repeat ((first | refine W.seqR rfl ?_ | refine W.seq ?_ | refine W.regR rfl ?_ | refine W.block ?_ | refine W.skip ?_ | refine W.ret ?_ | refine W.exit ?_);try simp (maxSteps:=1000000)(disch:=(first|omega|(simp only [qI,qJ,qK]<;>omega)|exact qL _)) only [go_sem,↓reduceIte,n0,reduceCtorEq,n1,n2,n3,n4,n5,i0,i1,i2,i3,i4,i5,i6,i7,hv_14])
  refine (ROk_fn w14 hq14.1).mono ?_
  rintro _ wz ⟨rfl,hez⟩
  rw [hez]
  clear hez wz
  by_cases hsn0 : s7 = none
  · have hso : s7.isSome = false := by rw [hsn0];rfl
    try simp (maxSteps:=1000000)(disch:=(first|omega|(simp only [qI,qJ,qK]<;>omega)|exact qL _)) only [go_sem,↓reduceIte,n0,reduceCtorEq,n1,n2,n3,n4,n5,i0,i1,i2,i3,i4,i5,i6,i7,hv_14,hso]
    repeat ((first | refine qA rfl ?_|refine qB ?_|refine qC rfl ?_|refine qD ?_|refine qE ?_|refine qF ?_|refine qG ?_|refine qH ?_);try simp (maxSteps:=1000000)(disch:=(first|omega|(simp only [qI,qJ,qK]<;>omega)|exact qL _)) only [go_sem,↓reduceIte,n0,reduceCtorEq,n1,n2,n3,n4,n5,i0,i1,i2,i3,i4,i5,i6,i7,hv_14,hso])
    refine (RComplete_fn w14 hq14.1 hG14.2).mono ?_
    rintro _ wz ⟨rfl,hez⟩
    rw [hez]
    try simp (maxSteps:=1000000)(disch:=(first|omega|(simp only [qI,qJ,qK]<;>omega)|exact qL _)) only [go_sem,↓reduceIte,n0,reduceCtorEq,n1,n2,n3,n4,n5,i0,i1,i2,i3,i4,i5,i6,i7,hv_14]
    repeat ((first | refine qA rfl ?_|refine qB ?_|refine qC rfl ?_|refine qD ?_|refine qE ?_|refine qF ?_|refine qG ?_|refine qH ?_);try simp (maxSteps:=1000000)(disch:=(first|omega|(simp only [qI,qJ,qK]<;>omega)|exact qL _)) only [go_sem,↓reduceIte,n0,reduceCtorEq,n1,n2,n3,n4,n5,i0,i1,i2,i3,i4,i5,i6,i7,hv_14])
    rw [errV_none hsn0]
    exact ReadQ.bad (Eq.mp hFB (hlb0 (by rw [hsn0];exact rdMany_none rd1P_none _))) (hbase.trans' hU14 fun i hi h => h.elim id fun h => by omega)
  have hso0 : s7.isSome = true := isSome_some hsn0
  try simp (maxSteps:=1000000)(disch:=(first|omega|(simp only [qI,qJ,qK]<;>omega)|exact qL _)) only [go_sem,↓reduceIte,n0,reduceCtorEq,n1,n2,n3,n4,n5,i0,i1,i2,i3,i4,i5,i6,i7,hv_14,hso0]
  repeat ((first | refine W.seqR rfl ?_ | refine W.seq ?_ | refine W.regR rfl ?_ | refine W.block ?_ | refine W.skip ?_ | refine W.ret ?_ | refine W.exit ?_);try simp (maxSteps:=1000000)(disch:=(first|omega|(simp only [qI,qJ,qK]<;>omega)|exact qL _)) only [go_sem,↓reduceIte,n0,reduceCtorEq,n1,n2,n3,n4,n5,i0,i1,i2,i3,i4,i5,i6,i7,hv_14,hso0])
  refine W.condK ?_
  try simp (maxSteps:=1000000)(disch:=(first|omega|(simp only [qI,qJ,qK]<;>omega)|exact qL _)) only [go_sem,↓reduceIte,n0,reduceCtorEq,n1,n2,n3,n4,n5,i0,i1,i2,i3,i4,i5,i6,i7,hv_14,hso0]
  repeat ((first | refine W.seqR rfl ?_ | refine W.seq ?_ | refine W.regR rfl ?_ | refine W.block ?_ | refine W.skip ?_ | refine W.ret ?_ | refine W.exit ?_);try simp (maxSteps:=1000000)(disch:=(first|omega|(simp only [qI,qJ,qK]<;>omega)|exact qL _)) only [go_sem,↓reduceIte,n0,reduceCtorEq,n1,n2,n3,n4,n5,i0,i1,i2,i3,i4,i5,i6,i7,hv_14,hso0,slBase_00])
  refine W.normJ (RowQ [(2,.bool false),(7,.pointer (some ⟨rb,0,none⟩)),(8,.int .i16 ver),(9,.bool true),(10,.pointer (some ⟨vb,0,none⟩)),(19,.int .i32 y0)] 18 (fun va w' => LstI RT (rd1 (rdP (d + 1) ver true) fSyncGroupRequest_6.of fSyncGroupRequest_6.sub false true) (Rep1 (RepS true (d + 1)) fSyncGroupRequest_6.of fSyncGroupRequest_6.sub) 3 126 [.string ByteArray.empty,.slice none 0 0,.map none] w14.heap.size N0 ok (fun b => ok b ∨ w1.heap.size ≤ b) rb w14 s7 va 0 s7 [] [] w' ∧ (N0 = 0 → if nilS fSyncGroupRequest_6 ver y0 = true then va = .slice none 0 0 else ∃ a,va = .slice (some a) 0 0))) ?_ ?_
  · by_cases hy0 : (0 : Int) < y0
    · have hyv : Value.int .i32 y0 = .int .i32 ((N0 : Nat) : Int) := by rw [show y0 = ((N0 : Nat) : Int) by omega]
      repeat ((first | refine qA rfl ?_|refine qB ?_|refine qC rfl ?_|refine qD ?_|refine qE ?_|refine qF ?_|refine qG ?_|refine qH ?_);try simp (maxSteps:=1000000)(disch:=(first|omega|(simp only [qI,qJ,qK]<;>omega)|exact qL _)) only [go_sem,↓reduceIte,n0,reduceCtorEq,n1,n2,n3,n4,n5,i0,i1,i2,i3,i4,i5,i6,i7,hv_14])
      refine wp_appendZ (m := N0) utSyncGroupRequest_121 utSyncGroupRequest_21 inSyncGroupRequest_126 (by decide) (by first | rfl | simp (maxSteps:=1000000)(disch:=(first|omega|(simp only [qI,qJ,qK]<;>omega)|exact qL _)) only [go_sem,↓reduceIte,n0,reduceCtorEq,n1,n2,n3,n4,n5,i0,i1,i2,i3,i4,i5,i6,i7]) (by first | exact hyv | (simp (maxSteps:=1000000)(disch:=(first|omega|(simp only [qI,qJ,qK]<;>omega)|exact qL _)) only [go_sem,↓reduceIte,n0,reduceCtorEq,n1,n2,n3,n4,n5,i0,i1,i2,i3,i4,i5,i6,i7];exact hyv)) (by omega) (by omega) (by decide) ?_
      intro q rest hq1
      have hEw : Ext w14 (w14.drew.alloc (.cells (zs [.string ByteArray.empty,.slice none 0 0,.map none] N0 ++ rest).toArray 126)) := (Upd.refl _ _).drew.alloc _
      try simp (maxSteps:=1000000)(disch:=(first|omega|(simp only [qI,qJ,qK]<;>omega)|exact qL _)) only [go_sem,↓reduceIte,n0,reduceCtorEq,n1,n2,n3,n4,n5,i0,i1,i2,i3,i4,i5,i6,i7,hv_14]
      repeat ((first | refine qA rfl ?_|refine qB ?_|refine qC rfl ?_|refine qD ?_|refine qE ?_|refine qF ?_|refine qG ?_|refine qH ?_);try simp (maxSteps:=1000000)(disch:=(first|omega|(simp only [qI,qJ,qK]<;>omega)|exact qL _)) only [go_sem,↓reduceIte,n0,reduceCtorEq,n1,n2,n3,n4,n5,i0,i1,i2,i3,i4,i5,i6,i7,hv_14])
      exact ⟨(by simp (maxSteps:=1000000)(disch:=(first|omega|(simp only [qI,qJ,qK]<;>omega)|exact qL _)) only [go_sem,↓reduceIte,n0,reduceCtorEq,n1,n2,n3,n4,n5,i0,i1,i2,i3,i4,i5,i6,i7,Holds_nil,Holds_cons]),.slice (some ⟨w14.heap.size,0,none⟩) N0 q,(by simp (maxSteps:=1000000)(disch:=(first|omega|(simp only [qI,qJ,qK]<;>omega)|exact qL _)) only [go_sem,↓reduceIte,n0,reduceCtorEq,n1,n2,n3,n4,n5,i0,i1,i2,i3,i4,i5,i6,i7]),LstI.start (RowJ.start (by omega) hq1 (by show w14.heap.size ≤ w14.drew.heap.size;rw [size_drew];omega) (blk_alloc_new rfl)) ⟨hq14.1.upd hEw (fun h => h) (fun _ _ _ h => h),hq14.2.upd hEw fun h => h⟩ (hEw.mono fun _ h => h.elim),fun h0 => by omega⟩
    · repeat ((first | refine qA rfl ?_|refine qB ?_|refine qC rfl ?_|refine qD ?_|refine qE ?_|refine qF ?_|refine qG ?_|refine qH ?_);try simp (maxSteps:=1000000)(disch:=(first|omega|(simp only [qI,qJ,qK]<;>omega)|exact qL _)) only [go_sem,↓reduceIte,n0,reduceCtorEq,n1,n2,n3,n4,n5,i0,i1,i2,i3,i4,i5,i6,i7,hv_14])
      exact ⟨(by simp (maxSteps:=1000000)(disch:=(first|omega|(simp only [qI,qJ,qK]<;>omega)|exact qL _)) only [go_sem,↓reduceIte,n0,reduceCtorEq,n1,n2,n3,n4,n5,i0,i1,i2,i3,i4,i5,i6,i7,Holds_nil,Holds_cons]),.slice none 0 0,(by simp (maxSteps:=1000000)(disch:=(first|omega|(simp only [qI,qJ,qK]<;>omega)|exact qL _)) only [go_sem,↓reduceIte,n0,reduceCtorEq,n1,n2,n3,n4,n5,i0,i1,i2,i3,i4,i5,i6,i7,slBase_00]),LstI.start (RowJ.zero (by omega) (fun _ h => by cases h)) hq14 (Upd.refl _ _),fun _ => by rw [nilS_plain (by decide) (by omega)];exact rfl⟩
  rintro ρ w15 ⟨⟨hrb0_2,hrb0_7,hrb0_8,hrb0_9,hrb0_10,hrb0_19,-⟩,va0,hra0,hL0,hnc0⟩
  repeat ((first | refine qA rfl ?_|refine qB ?_|refine qC rfl ?_|refine qD ?_|refine qE ?_|refine qF ?_|refine qG ?_|refine qH ?_);try simp (maxSteps:=1000000)(disch:=(first|omega|(simp only [qI,qJ,qK]<;>omega)|exact qL _)) only [go_sem,↓reduceIte,n0,reduceCtorEq,n1,n2,n3,n4,n5,i0,i1,i2,i3,i4,i5,i6,i7,hv_14,hrb0_2,hrb0_7,hrb0_8,hrb0_9,hrb0_10,hrb0_19,hra0,exitRQ_ret,exitRQ_exit,Int.toNat_natCast,Nat.mul_one])
  refine W.exitRJ 0 (EndQ [(2,.bool false),(7,.pointer (some ⟨rb,0,none⟩)),(8,.int .i16 ver),(9,.bool true),(10,.pointer (some ⟨vb,0,none⟩)),(19,.int .i32 y0),(18,va0)] (fun w' => ∃ s xs css,LstI RT (rd1 (rdP (d + 1) ver true) fSyncGroupRequest_6.of fSyncGroupRequest_6.sub false true) (Rep1 (RepS true (d + 1)) fSyncGroupRequest_6.of fSyncGroupRequest_6.sub) 3 126 [.string ByteArray.empty,.slice none 0 0,.map none] w14.heap.size N0 ok (fun b => ok b ∨ w1.heap.size ≤ b) rb w14 s7 va0 N0 s xs css w')) (W.loop (LoopQ [(2,.bool false),(7,.pointer (some ⟨rb,0,none⟩)),(8,.int .i16 ver),(9,.bool true),(10,.pointer (some ⟨vb,0,none⟩)),(19,.int .i32 y0),(18,va0)] 20 (fun j w' => ∃ s xs css,LstI RT (rd1 (rdP (d + 1) ver true) fSyncGroupRequest_6.of fSyncGroupRequest_6.sub false true) (Rep1 (RepS true (d + 1)) fSyncGroupRequest_6.of fSyncGroupRequest_6.sub) 3 126 [.string ByteArray.empty,.slice none 0 0,.map none] w14.heap.size N0 ok (fun b => ok b ∨ w1.heap.size ≤ b) rb w14 s7 va0 j s xs css w')) (fun ρ _ => N0 - (RowKit.intOf (ρ 20)).toNat) ?_ ?_) ?_
  · exact ⟨(by simp (maxSteps:=1000000)(disch:=(first|omega|(simp only [qI,qJ,qK]<;>omega)|exact qL _)) only [go_sem,↓reduceIte,n0,reduceCtorEq,n1,n2,n3,n4,n5,i0,i1,i2,i3,i4,i5,i6,i7,Holds_nil,Holds_cons,hrb0_2,hrb0_7,hrb0_8,hrb0_9,hrb0_10,hrb0_19,hra0]),0,(by simp (maxSteps:=1000000)(disch:=(first|omega|(simp only [qI,qJ,qK]<;>omega)|exact qL _)) only [go_sem,↓reduceIte,n0,reduceCtorEq,n1,n2,n3,n4,n5,i0,i1,i2,i3,i4,i5,i6,i7,hrb0_2,hrb0_7,hrb0_8,hrb0_9,hrb0_10,hrb0_19,hra0];all_goals rfl),s7,[],[],hL0⟩
  · rintro ρ w16 ⟨⟨hrc0_2,hrc0_7,hrc0_8,hrc0_9,hrc0_10,hrc0_19,hrc0_18,-⟩,j1,hri0,s8,xs0,css0,hL0⟩
    have hj0 := hL0.le
    have hq16 := hL0.rd
    have hU16 : Upd (fun b => b = vb ∨ b = rb) w1 w16 := hU14.trans' hL0.upd fun i _ h => .inr h
    have hz16 := hL0.upd.size
    have hG16 : Glo ev w16 := hG1.updS hU16 hgM1 hgM2
    by_cases hlt0 : j1 < N0
    · obtain ⟨R1,q1,B1,hva1,hNq1,hLR1,hA1,hx1_16,hnext1⟩ := hL0.row.next hlt0
      have hRl1 := blk_lt hx1_16
      generalize css0.flatten = A1 at hA1 hx1_16 hnext1
      replace hra0 : ρ 18 = .slice (some ⟨R1,0,none⟩) N0 q1 := hrc0_18.trans hva1
      have hown1 : ∀ b,ownB va0 b → w14.heap.size ≤ b ∧ b < w16.heap.size := fun b h => hL0.row.own h
      have hoM1 : ∀ b,(fun b => (ok b ∨ w1.heap.size ≤ b) ∧ ¬ ownB va0 b) b → ¬ (b = R1 ∨ b = rb) := fun b hk h => h.elim (fun e => hk.2 ⟨_,_,_,hva1,e⟩) (fun e => hoM b hk.1 (.inr e))
      obtain ⟨X16,hX16⟩ : ∃ X : Array Value,X = (A1 ++ (([.string ByteArray.empty,.slice none 0 0,.map none] : List Value) ++ B1)).toArray := ⟨_,rfl⟩
      have hxb16 : blk w16 R1 = some (X16,126,(0,0)) := by rw [hX16];exact hx1_16
      have hXs16 : j1 * 3 + 3 ≤ X16.size := by rw [hX16];simp only [List.size_toArray,List.length_append,List.length_cons,List.length_nil,hA1];omega
      repeat ((first | refine qA rfl ?_|refine qB ?_|refine qC rfl ?_|refine qD ?_|refine qE ?_|refine qF ?_|refine qG ?_|refine qH ?_);try simp (maxSteps:=1000000)(disch:=(first|omega|(simp only [qI,qJ,qK]<;>omega)|exact qL _)) only [go_sem,↓reduceIte,n0,reduceCtorEq,n1,n2,n3,n4,n5,i0,i1,i2,i3,i4,i5,i6,i7,hxb16,hrc0_2,hrc0_7,hrc0_8,hrc0_9,hrc0_10,hrc0_19,hra0,hri0,exitRQ_ret,exitRQ_exit,Int.toNat_natCast,Nat.mul_one])
      refine (DefaultEX0_fn w16 hx1_16 hA1).mono ?_
      rintro _ w17 ⟨hx1_17,hu17⟩
      have hq17 := And.intro (hq16.1.upd hu17 (by omega) (fun b _ hk e => by have := (hok b hk).1;omega)) (hq16.2.upd hu17 (by omega))
      have hV17 : Upd (fun b => b = R1 ∨ b = rb) w16 w17 := hu17.mono (fun _ h => .inl h)
      have hU17 : Upd (fun b => b = vb ∨ b = rb) w1 w17 := hU16.trans' hV17 fun i hi h => h.elim (fun h => by omega) .inr
      have hz17 := hV17.size
      have hG17 : Glo ev w17 := hG1.updS hU17 hgM1 hgM2
      obtain ⟨X17,hX17⟩ : ∃ X : Array Value,X = (A1 ++ (([.string ByteArray.empty,.slice none 0 0,.map none] : List Value) ++ B1)).toArray := ⟨_,rfl⟩
      have hxb17 : blk w17 R1 = some (X17,126,(0,0)) := by rw [hX17];exact hx1_17
      have hXs17 : j1 * 3 + 3 ≤ X17.size := by rw [hX17];simp only [List.size_toArray,List.length_append,List.length_cons,List.length_nil,hA1];omega
      have hbe0_0 : (rdL (rdP d ver true) (dfP d) ver true [fX0_0,fX0_1] s8).2 = none → FB := fun h => hlb0 (hL0.bad hlt0 rd1P_none (by show (rd1 (rdP (d + 1) ver true) 10 fs_X0 false true s8).2 = none;rw [rd1_part];exact rdP_bad h))
      have hhe0_0 : hasS fX0_0 ver = true := hasS_t (by show (0 : Int) ≤ ver;omega) (by show (-1 : Int) < 0 ∨ ver ≤ (-1 : Int);omega)
      obtain ⟨xe0_0,hxe0_0⟩ : ∃ x,x = (rdF (rdP d ver true) ver true fX0_0 s8).1 := ⟨_,rfl⟩
      repeat ((first | refine qA rfl ?_|refine qB ?_|refine qC rfl ?_|refine qD ?_|refine qE ?_|refine qF ?_|refine qG ?_|refine qH ?_);try simp (maxSteps:=1000000)(disch:=(first|omega|(simp only [qI,qJ,qK]<;>omega)|exact qL _)) only [go_sem,↓reduceIte,n0,reduceCtorEq,n1,n2,n3,n4,n5,i0,i1,i2,i3,i4,i5,i6,i7,hxb17,hrc0_2,hrc0_7,hrc0_8,hrc0_9,hrc0_10,hrc0_19,hra0,hri0,exitRQ_ret,exitRQ_exit,Int.toNat_natCast,Nat.mul_one])
      have hmay : mayS fX0_0 ver = false := mayS_no (by show (-1 : Int) < 0 ∨ ver < (-1 : Int);omega)
      have hrd : rdF (rdP d ver true) ver true fX0_0 s8 = _ := rdF_text rfl hmay
      refine (RCompactString_fn w17 hq17.1 hrok hG17.1 hgrb).mono ?_
      rintro _ w18 ⟨rfl,hq18,hu18⟩
      have hx1_18 := hu18.blk_some hx1_17 (by omega)
      have hV18 : Upd (fun b => b = R1 ∨ b = rb) w17 w18 := hu18.mono (fun _ h => .inr h)
      have hU18 : Upd (fun b => b = vb ∨ b = rb) w1 w18 := hU17.trans' hV18 fun i hi h => h.elim (fun h => by omega) .inr
      have hz18 := hV18.size
      have hG18 : Glo ev w18 := hG1.updS hU18 hgM1 hgM2
      obtain ⟨X18,hX18⟩ : ∃ X : Array Value,X = (A1 ++ (([.string ByteArray.empty,.slice none 0 0,.map none] : List Value) ++ B1)).toArray := ⟨_,rfl⟩
      have hxb18 : blk w18 R1 = some (X18,126,(0,0)) := by rw [hX18];exact hx1_18
      have hXs18 : j1 * 3 + 3 ≤ X18.size := by rw [hX18];simp only [List.size_toArray,List.length_append,List.length_cons,List.length_nil,hA1];omega
      have hst : (rdF (rdP d ver true) ver true fX0_0 s8).2 = (rdStr true s8).2 := by first | (rw [hrd];rfl) | rw [hrd]
      obtain ⟨s9,hs9⟩ : ∃ s,s = (rdF (rdP d ver true) ver true fX0_0 s8).2 := ⟨_,rfl⟩
      rw [← hst,← hs9] at hq18
      clear hst
      have hst18_0 : j1 * 3 + 1 ≤ X18.size := by omega
      repeat ((first | refine qA rfl ?_|refine qB ?_|refine qC rfl ?_|refine qD ?_|refine qE ?_|refine qF ?_|refine qG ?_|refine qH ?_);try simp (maxSteps:=1000000)(disch:=(first|omega|(simp only [qI,qJ,qK]<;>omega)|exact qL _)) only [go_sem,↓reduceIte,n0,reduceCtorEq,n1,n2,n3,n4,n5,i0,i1,i2,i3,i4,i5,i6,i7,hxb18,hrc0_2,hrc0_7,hrc0_8,hrc0_9,hrc0_10,hrc0_19,hra0,hri0,exitRQ_ret,exitRQ_exit,Int.toNat_natCast,Nat.mul_one,hst18_0])
      generalize hw19 : wr w18 R1 (j1 * 3) [strV (rdStr true s8).1] = w19
      have hS19 : Upd (fun b => b = R1 ∨ b = rb) w18 w19 := by rw [← hw19];exact (Upd.refl _ _).wr _ _ (.inr (.inl rfl))
      have hx1_19 : blk w19 R1 = some ((A1 ++ (([strV (rdStr true s8).1,.slice none 0 0,.map none] : List Value) ++ B1)).toArray,126,(0,0)) := by rw [← hw19];exact el_blk0 hx1_18 hA1 (Nat.le_of_ble_eq_true rfl)
      have hV19 := hS19
      have hU19 : Upd (fun b => b = vb ∨ b = rb) w1 w19 := hU18.trans' hV19 fun i hi h => h.elim (fun h => by omega) .inr
      have hz19 := hV19.size
      have hG19 : Glo ev w19 := hG1.updS hU19 hgM1 hgM2
      have hq19 : Rdr RT ok w19 rb s9 ∧ NN w19 rb s9 := by
        have hn : ∀ x,x = w19 → (Rdr RT ok x rb s9 ∧ NN x rb s9) := fun x hx => by
          rw [hx,← hw19]
          exact Rdr.store hq18 (by omega) (fun h => by have := (hok _ h).1;first | omega | exact (hok _ h).2 rfl)
        exact hn _ rfl
      obtain ⟨X19,hX19⟩ : ∃ X : Array Value,X = (A1 ++ (([strV (rdStr true s8).1,.slice none 0 0,.map none] : List Value) ++ B1)).toArray := ⟨_,rfl⟩
      have hxb19 : blk w19 R1 = some (X19,126,(0,0)) := by rw [hX19];exact hx1_19
      have hXs19 : j1 * 3 + 3 ≤ X19.size := by rw [hX19];simp only [List.size_toArray,List.length_append,List.length_cons,List.length_nil,hA1];omega
      clear hw19
      have hfe0_0 : RepF (RepS true d) (szS true d) fX0_0 (fun b => (ok b ∨ w1.heap.size ≤ b) ∧ ¬ ownB va0 b) w19 (xe0_0) [strV (rdStr true s8).1] := (RepF_text rfl (by decide)).2 (by rw [hxe0_0,hrd];rfl)
      clear hrd
      have hbe0_1 : (rdL (rdP d ver true) (dfP d) ver true [fX0_1] s9).2 = none → FB := fun h => hbe0_0 (by rw [rdL_st (by decide) hhe0_0,← hs9];exact h)
      have hhe0_1 : hasS fX0_1 ver = true := hasS_t (by show (0 : Int) ≤ ver;omega) (by show (-1 : Int) < 0 ∨ ver ≤ (-1 : Int);omega)
      obtain ⟨xe0_1,hxe0_1⟩ : ∃ x,x = (rdF (rdP d ver true) ver true fX0_1 s9).1 := ⟨_,rfl⟩
      repeat ((first | refine qA rfl ?_|refine qB ?_|refine qC rfl ?_|refine qD ?_|refine qE ?_|refine qF ?_|refine qG ?_|refine qH ?_);try simp (maxSteps:=1000000)(disch:=(first|omega|(simp only [qI,qJ,qK]<;>omega)|exact qL _)) only [go_sem,↓reduceIte,n0,reduceCtorEq,n1,n2,n3,n4,n5,i0,i1,i2,i3,i4,i5,i6,i7,hxb19,hrc0_2,hrc0_7,hrc0_8,hrc0_9,hrc0_10,hrc0_19,hra0,hri0,exitRQ_ret,exitRQ_exit,Int.toNat_natCast,Nat.mul_one])
      have hmay : mayS fX0_1 ver = false := mayS_no (by show (-1 : Int) < 0 ∨ ver < (-1 : Int);omega)
      have hrd : rdF (rdP d ver true) ver true fX0_1 s9 = _ := rdF_oct rfl hmay
      refine (RCompactBytes_fn w19 hq19.1 hrok hG19.1 hgrb).mono ?_
      rintro r20 w20 ⟨hp20,hq20,hu20⟩
      obtain ⟨ao20,no20,co20,rfl⟩ := hp20.shape
      have hx1_20 := hu20.blk_some hx1_19 (by omega)
      have hV20 : Upd (fun b => b = R1 ∨ b = rb) w19 w20 := hu20.mono (fun _ h => .inr h)
      have hU20 : Upd (fun b => b = vb ∨ b = rb) w1 w20 := hU19.trans' hV20 fun i hi h => h.elim (fun h => by omega) .inr
      have hz20 := hV20.size
      have hG20 : Glo ev w20 := hG1.updS hU20 hgM1 hgM2
      obtain ⟨X20,hX20⟩ : ∃ X : Array Value,X = (A1 ++ (([strV (rdStr true s8).1,.slice none 0 0,.map none] : List Value) ++ B1)).toArray := ⟨_,rfl⟩
      have hxb20 : blk w20 R1 = some (X20,126,(0,0)) := by rw [hX20];exact hx1_20
      have hXs20 : j1 * 3 + 3 ≤ X20.size := by rw [hX20];simp only [List.size_toArray,List.length_append,List.length_cons,List.length_nil,hA1];omega
      have hst : (rdF (rdP d ver true) ver true fX0_1 s9).2 = (rdBytes true s9).2 := by first | (rw [hrd];rfl) | rw [hrd]
      obtain ⟨s10,hs10⟩ : ∃ s,s = (rdF (rdP d ver true) ver true fX0_1 s9).2 := ⟨_,rfl⟩
      rw [← hst,← hs10] at hq20
      clear hst
      have hst20_1 : j1 * 3 + 2 ≤ X20.size := by omega
      repeat ((first | refine qA rfl ?_|refine qB ?_|refine qC rfl ?_|refine qD ?_|refine qE ?_|refine qF ?_|refine qG ?_|refine qH ?_);try simp (maxSteps:=1000000)(disch:=(first|omega|(simp only [qI,qJ,qK]<;>omega)|exact qL _)) only [go_sem,↓reduceIte,n0,reduceCtorEq,n1,n2,n3,n4,n5,i0,i1,i2,i3,i4,i5,i6,i7,hxb20,hrc0_2,hrc0_7,hrc0_8,hrc0_9,hrc0_10,hrc0_19,hra0,hri0,exitRQ_ret,exitRQ_exit,Int.toNat_natCast,Nat.mul_one,hst20_1])
      generalize hw21 : wr w20 R1 (j1 * 3 + 1) [.slice ao20 no20 co20] = w21
      have hS21 : Upd (fun b => b = R1 ∨ b = rb) w20 w21 := by rw [← hw21];exact (Upd.refl _ _).wr _ _ (.inr (.inl rfl))
      have hx1_21 : blk w21 R1 = some ((A1 ++ (([strV (rdStr true s8).1,.slice ao20 no20 co20,.map none] : List Value) ++ B1)).toArray,126,(0,0)) := by rw [← hw21];exact el_blk (o := 1) hx1_20 hA1 (Nat.le_of_ble_eq_true rfl)
      have hV21 := hS21
      have hU21 : Upd (fun b => b = vb ∨ b = rb) w1 w21 := hU20.trans' hV21 fun i hi h => h.elim (fun h => by omega) .inr
      have hz21 := hV21.size
      have hG21 : Glo ev w21 := hG1.updS hU21 hgM1 hgM2
      have hq21 : Rdr RT ok w21 rb s10 ∧ NN w21 rb s10 := by
        have hn : ∀ x,x = w21 → (Rdr RT ok x rb s10 ∧ NN x rb s10) := fun x hx => by
          rw [hx,← hw21]
          exact Rdr.store hq20 (by omega) (fun h => by have := (hok _ h).1;first | omega | exact (hok _ h).2 rfl)
        exact hn _ rfl
      obtain ⟨X21,hX21⟩ : ∃ X : Array Value,X = (A1 ++ (([strV (rdStr true s8).1,.slice ao20 no20 co20,.map none] : List Value) ++ B1)).toArray := ⟨_,rfl⟩
      have hxb21 : blk w21 R1 = some (X21,126,(0,0)) := by rw [hX21];exact hx1_21
      have hXs21 : j1 * 3 + 3 ≤ X21.size := by rw [hX21];simp only [List.size_toArray,List.length_append,List.length_cons,List.length_nil,hA1];omega
      clear hw21
      have hfe0_1 : RepF (RepS true d) (szS true d) fX0_1 (fun b => (ok b ∨ w1.heap.size ≤ b) ∧ ¬ ownB va0 b) w21 (xe0_1) [.slice ao20 no20 co20] := (RepF_bytes rfl).2 ⟨_,rfl,by rw [hxe0_1,hrd];exact (hp20.weaken fun b _ hk => ⟨.inl hk,fun ho => by have := (hown1 b ho).1;have := (hok b hk).1;omega⟩).keep (hV21.keeps fun b _ hk e => hoM1 b hk e)⟩
      clear hrd
      have hle0_2 : rdL (rdP d ver true) (dfP d) ver true [] s10 = ([],s10) := rfl
      have hle0_1 : rdL (rdP d ver true) (dfP d) ver true [fX0_1] s9 = ([xe0_1],s10) := by rw [rdL_st (by decide) hhe0_1,← hxe0_1,← hs10,hle0_2]
      have hle0_0 : rdL (rdP d ver true) (dfP d) ver true [fX0_0,fX0_1] s8 = ([xe0_0,xe0_1],s10) := by rw [rdL_st (by decide) hhe0_0,← hxe0_0,← hs9,hle0_1]
      have hfine0 : rdP (d + 1) ver true fs_X0 s8 = (.mk 0 [] false [xe0_0,xe0_1] (rdTags s10).1,(rdTags s10).2) := rdP_t hle0_0
      repeat ((first | refine qA rfl ?_|refine qB ?_|refine qC rfl ?_|refine qD ?_|refine qE ?_|refine qF ?_|refine qG ?_|refine qH ?_);try simp (maxSteps:=1000000)(disch:=(first|omega|(simp only [qI,qJ,qK]<;>omega)|exact qL _)) only [go_sem,↓reduceIte,n0,reduceCtorEq,n1,n2,n3,n4,n5,i0,i1,i2,i3,i4,i5,i6,i7,hxb21,hrc0_2,hrc0_7,hrc0_8,hrc0_9,hrc0_10,hrc0_19,hra0,hri0,exitRQ_ret,exitRQ_exit,Int.toNat_natCast,Nat.mul_one])
      refine (ReadTags_fn w21 hq21.1 hrok).mono ?_
      rintro _ w22 ⟨qme0,rfl,hT22,hTn,hq22,hu22⟩
      have hx1_22 := hu22.blk_some hx1_21 (by omega)
      have hV22 : Upd (fun b => b = R1 ∨ b = rb) w21 w22 := hu22.mono (fun _ h => .inr h)
      have hU22 : Upd (fun b => b = vb ∨ b = rb) w1 w22 := hU21.trans' hV22 fun i hi h => h.elim (fun h => by omega) .inr
      have hz22 := hV22.size
      have hG22 : Glo ev w22 := hG1.updS hU22 hgM1 hgM2
      obtain ⟨X22,hX22⟩ : ∃ X : Array Value,X = (A1 ++ (([strV (rdStr true s8).1,.slice ao20 no20 co20,.map none] : List Value) ++ B1)).toArray := ⟨_,rfl⟩
      have hxb22 : blk w22 R1 = some (X22,126,(0,0)) := by rw [hX22];exact hx1_22
      have hXs22 : j1 * 3 + 3 ≤ X22.size := by rw [hX22];simp only [List.size_toArray,List.length_append,List.length_cons,List.length_nil,hA1];omega
      obtain ⟨s11,hs11⟩ : ∃ s,s = (rdTags s10).2 := ⟨_,rfl⟩
      rw [← hs11] at hq22 hfine0
      have hst22_2 : j1 * 3 + 3 ≤ X22.size := by omega
      try simp (maxSteps:=1000000)(disch:=(first|omega|(simp only [qI,qJ,qK]<;>omega)|exact qL _)) only [go_sem,↓reduceIte,n0,reduceCtorEq,n1,n2,n3,n4,n5,i0,i1,i2,i3,i4,i5,i6,i7,hxb22,hrc0_2,hrc0_7,hrc0_8,hrc0_9,hrc0_10,hrc0_19,hra0,hri0,exitRQ_ret,exitRQ_exit,Int.toNat_natCast,Nat.mul_one,hst22_2]
      repeat ((first | refine qA rfl ?_|refine qB ?_|refine qC rfl ?_|refine qD ?_|refine qE ?_|refine qF ?_|refine qG ?_|refine qH ?_);try simp (maxSteps:=1000000)(disch:=(first|omega|(simp only [qI,qJ,qK]<;>omega)|exact qL _)) only [go_sem,↓reduceIte,n0,reduceCtorEq,n1,n2,n3,n4,n5,i0,i1,i2,i3,i4,i5,i6,i7,hxb22,hrc0_2,hrc0_7,hrc0_8,hrc0_9,hrc0_10,hrc0_19,hra0,hri0,exitRQ_ret,exitRQ_exit,Int.toNat_natCast,Nat.mul_one,hst22_2])
      generalize hw23 : wr w22 R1 (j1 * 3 + 2) [.map qme0] = w23
      have hS23 : Upd (fun b => b = R1 ∨ b = rb) w22 w23 := by rw [← hw23];exact (Upd.refl _ _).wr _ _ (.inr (.inl rfl))
      have hx1_23 : blk w23 R1 = some ((A1 ++ (([strV (rdStr true s8).1,.slice ao20 no20 co20,.map qme0] : List Value) ++ B1)).toArray,126,(0,0)) := by rw [← hw23];exact el_blk (o := 2) hx1_22 hA1 (Nat.le_of_ble_eq_true rfl)
      have hV23 := hS23
      have hU23 : Upd (fun b => b = vb ∨ b = rb) w1 w23 := hU22.trans' hV23 fun i hi h => h.elim (fun h => by omega) .inr
      have hz23 := hV23.size
      have hG23 : Glo ev w23 := hG1.updS hU23 hgM1 hgM2
      have hq23 : Rdr RT ok w23 rb s11 ∧ NN w23 rb s11 := by
        have hn : ∀ x,x = w23 → (Rdr RT ok x rb s11 ∧ NN x rb s11) := fun x hx => by
          rw [hx,← hw23]
          exact Rdr.store hq22 (by omega) (fun h => by have := (hok _ h).1;first | omega | exact (hok _ h).2 rfl)
        exact hn _ rfl
      obtain ⟨X23,hX23⟩ : ∃ X : Array Value,X = (A1 ++ (([strV (rdStr true s8).1,.slice ao20 no20 co20,.map qme0] : List Value) ++ B1)).toArray := ⟨_,rfl⟩
      have hxb23 : blk w23 R1 = some (X23,126,(0,0)) := by rw [hX23];exact hx1_23
      have hXs23 : j1 * 3 + 3 ≤ X23.size := by rw [hX23];simp only [List.size_toArray,List.length_append,List.length_cons,List.length_nil,hA1];omega
      clear hw23
      have hTge0 : TagsM (fun b => (ok b ∨ w1.heap.size ≤ b) ∧ ¬ ownB va0 b) w23 (.map qme0) (rdTags s10).1 := (hT22.weaken fun b _ hk => hk.elim (fun hk => ⟨.inl hk,fun ho => by have := (hown1 b ho).1;have := (hok b hk).1;omega⟩) (fun h => by have h' : w21.heap.size ≤ b := h;exact ⟨.inr (by omega),fun ho => by have := (hown1 _ ho).2;omega⟩)).keep (hV23.keeps fun b _ hk e => hoM1 b hk e)
      have hCe0_23 : Upd (fun b => b = R1 ∨ b = rb) w23 w23 := Upd.refl _ _
      have hCe0_22 : Upd (fun b => b = R1 ∨ b = rb) w22 w23 := hV23.trans hCe0_23
      have hCe0_21 : Upd (fun b => b = R1 ∨ b = rb) w21 w23 := hV22.trans hCe0_22
      have hCe0_20 : Upd (fun b => b = R1 ∨ b = rb) w20 w23 := hV21.trans hCe0_21
      have hCe0_19 : Upd (fun b => b = R1 ∨ b = rb) w19 w23 := hV20.trans hCe0_20
      have hCe0_18 : Upd (fun b => b = R1 ∨ b = rb) w18 w23 := hV19.trans hCe0_19
      have hCe0_17 : Upd (fun b => b = R1 ∨ b = rb) w17 w23 := hV18.trans hCe0_18
      have hCe0_16 : Upd (fun b => b = R1 ∨ b = rb) w16 w23 := hV17.trans hCe0_17
      have hRe0 : RepS true (d + 1) fs_X0 (fun b => (ok b ∨ w1.heap.size ≤ b) ∧ ¬ ownB va0 b) w23 (.mk 0 [] false [xe0_0,xe0_1] (rdTags s10).1) [strV (rdStr true s8).1,.slice ao20 no20 co20,.map qme0] := RepS.introT (c := [strV (rdStr true s8).1,.slice ao20 no20 co20]) (RepL.cons1 (hfe0_0.keepS (hCe0_19.keeps fun b _ hk e => hoM1 b hk e)) (RepL.cons1 (hfe0_1.keepS (hCe0_21.keeps fun b _ hk e => hoM1 b hk e)) RepL.nil)) hTge0
      have hrE : (rd1 (rdP (d + 1) ver true) fSyncGroupRequest_6.of fSyncGroupRequest_6.sub false true) s8 = ((.mk 0 [] false [xe0_0,xe0_1] (rdTags s10).1),s11) := by rw [show (rd1 (rdP (d + 1) ver true) fSyncGroupRequest_6.of fSyncGroupRequest_6.sub false true) s8 = _ from rd1_part];exact hfine0
      have hxE : (Rep1 (RepS true (d + 1)) fSyncGroupRequest_6.of fSyncGroupRequest_6.sub) (fun b => (ok b ∨ w1.heap.size ≤ b) ∧ ¬ ownB va0 b) w23 (.mk 0 [] false [xe0_0,xe0_1] (rdTags s10).1) [strV (rdStr true s8).1,.slice ao20 no20 co20,.map qme0] := Rep1_part.2 hRe0
      repeat ((first | refine qA rfl ?_|refine qB ?_|refine qC rfl ?_|refine qD ?_|refine qE ?_|refine qF ?_|refine qG ?_|refine qH ?_);try simp (maxSteps:=1000000)(disch:=(first|omega|(simp only [qI,qJ,qK]<;>omega)|exact qL _)) only [go_sem,↓reduceIte,n0,reduceCtorEq,n1,n2,n3,n4,n5,i0,i1,i2,i3,i4,i5,i6,i7,hxb23,hrc0_2,hrc0_7,hrc0_8,hrc0_9,hrc0_10,hrc0_19,hra0,hri0,exitRQ_ret,exitRQ_exit,Int.toNat_natCast,Nat.mul_one])
      have hTk : Upd (fun b => b = R1 ∨ b = rb) w16 w23 := ((((((hV17.trans hV18).trans hV19).trans hV20).trans hV21).trans hV22).trans hV23)
      have hL' := hL0.step (Rep1_lay _ _ fun _ => RepS_lay true _ _) hlt0 (hnext1 w23 [strV (rdStr true s8).1,.slice ao20 no20 co20,.map qme0] rfl hx1_23) (by rw [hrE];exact hxE) (hTk.mono fun b h => h.imp (fun e => ⟨_,_,_,hva1,e⟩) id) (by rw [hrE];exact hq23) (fun h => hoM rb h (.inr rfl)) (Nat.le_refl _)
      have hij : IntKind.i32.wrap ((j1 : Int) + 1) = ((j1 + 1 : Nat) : Int) := by rw [i32_wrap (by omega)];omega
      repeat ((first | refine qA rfl ?_|refine qB ?_|refine qC rfl ?_|refine qD ?_|refine qE ?_|refine qF ?_|refine qG ?_|refine qH ?_);try simp (maxSteps:=1000000)(disch:=(first|omega|(simp only [qI,qJ,qK]<;>omega)|exact qL _)) only [go_sem,↓reduceIte,n0,reduceCtorEq,n1,n2,n3,n4,n5,i0,i1,i2,i3,i4,i5,i6,i7,hxb23,hrc0_2,hrc0_7,hrc0_8,hrc0_9,hrc0_10,hrc0_19,hra0,hri0,exitRQ_ret,exitRQ_exit,Int.toNat_natCast,Nat.mul_one,hij])
      refine ⟨⟨(by simp (maxSteps:=1000000)(disch:=(first|omega|(simp only [qI,qJ,qK]<;>omega)|exact qL _)) only [go_sem,↓reduceIte,n0,reduceCtorEq,n1,n2,n3,n4,n5,i0,i1,i2,i3,i4,i5,i6,i7,Holds_nil,Holds_cons,hrc0_2,hrc0_7,hrc0_8,hrc0_9,hrc0_10,hrc0_19,hra0,hri0];exact hva1.symm),j1 + 1,(by simp (maxSteps:=1000000)(disch:=(first|omega|(simp only [qI,qJ,qK]<;>omega)|exact qL _)) only [go_sem,↓reduceIte,n0,reduceCtorEq,n1,n2,n3,n4,n5,i0,i1,i2,i3,i4,i5,i6,i7,hrc0_2,hrc0_7,hrc0_8,hrc0_9,hrc0_10,hrc0_19,hra0,hri0,hij];all_goals rfl),_,_,_,hL'⟩,?_⟩
      try simp (maxSteps:=1000000)(disch:=(first|omega|(simp only [qI,qJ,qK]<;>omega)|exact qL _)) only [go_sem,↓reduceIte,n0,reduceCtorEq,n1,n2,n3,n4,n5,i0,i1,i2,i3,i4,i5,i6,i7,hrc0_2,hrc0_7,hrc0_8,hrc0_9,hrc0_10,hrc0_19,hra0,hri0]
      simp only [RowKit.intOf]
      omega
    · have hjN : j1 = N0 := by omega
      rw [hjN] at hL0
      repeat ((first | refine qA rfl ?_|refine qB ?_|refine qC rfl ?_|refine qD ?_|refine qE ?_|refine qF ?_|refine qG ?_|refine qH ?_);try simp (maxSteps:=1000000)(disch:=(first|omega|(simp only [qI,qJ,qK]<;>omega)|exact qL _)) only [go_sem,↓reduceIte,n0,reduceCtorEq,n1,n2,n3,n4,n5,i0,i1,i2,i3,i4,i5,i6,i7,hrc0_2,hrc0_7,hrc0_8,hrc0_9,hrc0_10,hrc0_19,hrc0_18,hri0,exitRQ_ret,exitRQ_exit])
      exact ⟨(by simp (maxSteps:=1000000)(disch:=(first|omega|(simp only [qI,qJ,qK]<;>omega)|exact qL _)) only [go_sem,↓reduceIte,n0,reduceCtorEq,n1,n2,n3,n4,n5,i0,i1,i2,i3,i4,i5,i6,i7,Holds_nil,Holds_cons,hrc0_2,hrc0_7,hrc0_8,hrc0_9,hrc0_10,hrc0_19,hrc0_18,hri0]),s8,xs0,css0,hL0⟩
  rintro ρ w24 ⟨⟨hrd0_2,hrd0_7,hrd0_8,hrd0_9,hrd0_10,hrd0_19,hrd0_18,-⟩,s12,xs0,css0,hL0⟩
  have hq24 := hL0.rd
  have hu24 := hL0.upd
  have hv_24 := hu24.blk_some hv_14 (by omega)
  have hV24 : Upd (fun b => b = vb ∨ b = rb) w14 w24 := hu24.mono (fun _ h => .inr h)
  have hU24 : Upd (fun b => b = vb ∨ b = rb) w1 w24 := hU14.trans hV24
  have hz24 := hV24.size
  have hG24 : Glo ev w24 := hG1.updS hU24 hgM1 hgM2
  have hrd0 : rdF (rdP (d + 1) ver true) ver true fSyncGroupRequest_6 s6 = (.mk 0 [] (nilS fSyncGroupRequest_6 ver y0) xs0 [],s12) := by
    have h := rdF_listE (pt := (rdP (d + 1) ver true)) (v := ver) (flex := true) (f := fSyncGroupRequest_6) (s := s6) (xs := xs0) (e := s12) rfl (by rw [hy0,← hN0,← hs7];exact hL0.done)
    rw [hy0] at h;exact h
  have hs12 : s12 = (rdF (rdP (d + 1) ver true) ver true fSyncGroupRequest_6 s6).2 := by rw [hrd0]
  obtain ⟨aa0,qq0,hvs0⟩ := hL0.row.shape
  subst hvs0
  repeat ((first | refine qA rfl ?_|refine qB ?_|refine qC rfl ?_|refine qD ?_|refine qE ?_|refine qF ?_|refine qG ?_|refine qH ?_);try simp (maxSteps:=1000000)(disch:=(first|omega|(simp only [qI,qJ,qK]<;>omega)|exact qL _)) only [go_sem,↓reduceIte,n0,reduceCtorEq,n1,n2,n3,n4,n5,i0,i1,i2,i3,i4,i5,i6,i7,hv_24,hrd0_2,hrd0_7,hrd0_8,hrd0_9,hrd0_10,hrd0_19,hrd0_18])
  generalize hw25 : wr w24 vb 7 [.slice aa0 N0 qq0] = w25
  have hS25 : Upd (fun b => b = vb ∨ b = rb) w24 w25 := by rw [← hw25];exact (Upd.refl _ _).wr _ _ (.inr (.inl rfl))
  have hv_25 : blk w25 vb = some (#[.int .i16 ver,strV (rdStr true s0).1,.int .i32 (rdInt .i32 4 s1).1,strV (rdStr true s2).1,.pointer ap8,.pointer ap10,.pointer ap12,.slice aa0 N0 qq0,.map none],123,(0,0)) := by rw [← hw25,blk_wr_eq,hv_24];rfl
  have hV25 := hS25
  have hU25 : Upd (fun b => b = vb ∨ b = rb) w1 w25 := hU24.trans hV25
  have hz25 := hV25.size
  have hG25 : Glo ev w25 := hG1.updS hU25 hgM1 hgM2
  have hq25 : Rdr RT ok w25 rb s12 ∧ NN w25 rb s12 := by
    have hn : ∀ x,x = w25 → (Rdr RT ok x rb s12 ∧ NN x rb s12) := fun x hx => by
      rw [hx,← hw25]
      exact Rdr.store hq24 (by omega) (fun h => by have := (hok _ h).1;first | omega | exact (hok _ h).2 rfl)
    exact hn _ rfl
  clear hw25
  have hf_6 : RepF (RepS true (d + 1)) (szS true (d + 1)) fSyncGroupRequest_6 (fun b => ok b ∨ w1.heap.size ≤ b) w25 (x_6) [.slice aa0 N0 qq0] := by rw [hx_6,hrd0];exact RepF.keepS (RepF_row rfl hnc0 hN0 rfl hL0.row hL0.all (fun b hb => .inr (by omega))) (hV25.keeps fun b _ hk e => (hoM b hk) e)
  clear hL0 hnc0
  have hl_7 : rdL (rdP (d + 1) ver true) (dfP (d + 1)) ver true [] s12 = ([],s12) := rfl
  have hl_6 : rdL (rdP (d + 1) ver true) (dfP (d + 1)) ver true [fSyncGroupRequest_6] s6 = ([x_6],s12) := by rw [rdL_st (by decide) hh_6,← hx_6,← hs12,hl_7]
  have hl_5 : rdL (rdP (d + 1) ver true) (dfP (d + 1)) ver true [fSyncGroupRequest_5,fSyncGroupRequest_6] s5 = ([x_5,x_6],s12) := by rw [rdL_st (by decide) hh_5,← hx_5,← hs6,hl_6]
  have hl_4 : rdL (rdP (d + 1) ver true) (dfP (d + 1)) ver true [fSyncGroupRequest_4,fSyncGroupRequest_5,fSyncGroupRequest_6] s4 = ([x_4,x_5,x_6],s12) := by rw [rdL_st (by decide) hh_4,← hx_4,← hs5,hl_5]
  have hl_3 : rdL (rdP (d + 1) ver true) (dfP (d + 1)) ver true [fSyncGroupRequest_3,fSyncGroupRequest_4,fSyncGroupRequest_5,fSyncGroupRequest_6] s3 = ([x_3,x_4,x_5,x_6],s12) := by rw [rdL_st (by decide) hh_3,← hx_3,← hs4,hl_4]
  have hl_2 : rdL (rdP (d + 1) ver true) (dfP (d + 1)) ver true [fSyncGroupRequest_2,fSyncGroupRequest_3,fSyncGroupRequest_4,fSyncGroupRequest_5,fSyncGroupRequest_6] s2 = ([x_2,x_3,x_4,x_5,x_6],s12) := by rw [rdL_st (by decide) hh_2,← hx_2,← hs3,hl_3]
  have hl_1 : rdL (rdP (d + 1) ver true) (dfP (d + 1)) ver true [fSyncGroupRequest_1,fSyncGroupRequest_2,fSyncGroupRequest_3,fSyncGroupRequest_4,fSyncGroupRequest_5,fSyncGroupRequest_6] s1 = ([x_1,x_2,x_3,x_4,x_5,x_6],s12) := by rw [rdL_st (by decide) hh_1,← hx_1,← hs2,hl_2]
  have hl_0 : rdL (rdP (d + 1) ver true) (dfP (d + 1)) ver true [fSyncGroupRequest_0,fSyncGroupRequest_1,fSyncGroupRequest_2,fSyncGroupRequest_3,fSyncGroupRequest_4,fSyncGroupRequest_5,fSyncGroupRequest_6] s0 = ([x_0,x_1,x_2,x_3,x_4,x_5,x_6],s12) := by rw [rdL_st (by decide) hh_0,← hx_0,← hs1,hl_1]
  have hfin : rdP (d + 2) ver true fs_SyncGroupRequest s0 = (.mk 0 [] false [x_0,x_1,x_2,x_3,x_4,x_5,x_6] (rdTags s12).1,(rdTags s12).2) := rdP_t hl_0
  repeat ((first | refine qA rfl ?_|refine qB ?_|refine qC rfl ?_|refine qD ?_|refine qE ?_|refine qF ?_|refine qG ?_|refine qH ?_);try simp (maxSteps:=1000000)(disch:=(first|omega|(simp only [qI,qJ,qK]<;>omega)|exact qL _)) only [go_sem,↓reduceIte,n0,reduceCtorEq,n1,n2,n3,n4,n5,i0,i1,i2,i3,i4,i5,i6,i7,hv_25,hrd0_2,hrd0_7,hrd0_8,hrd0_9,hrd0_10,hrd0_19,hrd0_18])
  refine (ReadTags_fn w25 hq25.1 hrok).mono ?_
  rintro _ w26 ⟨qm,rfl,hT26,hTn,hq26,hu26⟩
  have hv_26 := hu26.blk_some hv_25 (by omega)
  have hV26 : Upd (fun b => b = vb ∨ b = rb) w25 w26 := hu26.mono (fun _ h => .inr h)
  have hU26 : Upd (fun b => b = vb ∨ b = rb) w1 w26 := hU25.trans hV26
  have hz26 := hV26.size
  have hG26 : Glo ev w26 := hG1.updS hU26 hgM1 hgM2
  obtain ⟨s13,hs13⟩ : ∃ s,s = (rdTags s12).2 := ⟨_,rfl⟩
  rw [← hs13] at hq26 hfin
  try simp (maxSteps:=1000000)(disch:=(first|omega|(simp only [qI,qJ,qK]<;>omega)|exact qL _)) only [go_sem,↓reduceIte,n0,reduceCtorEq,n1,n2,n3,n4,n5,i0,i1,i2,i3,i4,i5,i6,i7,hv_26,hrd0_2,hrd0_7,hrd0_8,hrd0_9,hrd0_10,hrd0_19,hrd0_18]
  repeat ((first | refine qA rfl ?_|refine qB ?_|refine qC rfl ?_|refine qD ?_|refine qE ?_|refine qF ?_|refine qG ?_|refine qH ?_);try simp (maxSteps:=1000000)(disch:=(first|omega|(simp only [qI,qJ,qK]<;>omega)|exact qL _)) only [go_sem,↓reduceIte,n0,reduceCtorEq,n1,n2,n3,n4,n5,i0,i1,i2,i3,i4,i5,i6,i7,hv_26,hrd0_2,hrd0_7,hrd0_8,hrd0_9,hrd0_10,hrd0_19,hrd0_18])
  generalize hw27 : wr w26 vb 8 [.map qm] = w27
  have hS27 : Upd (fun b => b = vb ∨ b = rb) w26 w27 := by rw [← hw27];exact (Upd.refl _ _).wr _ _ (.inr (.inl rfl))
  have hv_27 : blk w27 vb = some (#[.int .i16 ver,strV (rdStr true s0).1,.int .i32 (rdInt .i32 4 s1).1,strV (rdStr true s2).1,.pointer ap8,.pointer ap10,.pointer ap12,.slice aa0 N0 qq0,.map qm],123,(0,0)) := by rw [← hw27,blk_wr_eq,hv_26];rfl
  have hV27 := hS27
  have hU27 : Upd (fun b => b = vb ∨ b = rb) w1 w27 := hU26.trans hV27
  have hz27 := hV27.size
  have hG27 : Glo ev w27 := hG1.updS hU27 hgM1 hgM2
  have hq27 : Rdr RT ok w27 rb s13 ∧ NN w27 rb s13 := by
    have hn : ∀ x,x = w27 → (Rdr RT ok x rb s13 ∧ NN x rb s13) := fun x hx => by
      rw [hx,← hw27]
      exact Rdr.store hq26 (by omega) (fun h => by have := (hok _ h).1;first | omega | exact (hok _ h).2 rfl)
    exact hn _ rfl
  clear hw27
  have hTg : TagsM (fun b => ok b ∨ w1.heap.size ≤ b) w27 (.map qm) (rdTags s12).1 := (hT26.weaken fun b _ hk => hk.elim (fun hk => .inl hk) (fun h => by have h' : w25.heap.size ≤ b := h;exact .inr (by omega))).keep (hV27.keeps fun b _ hk e => (hoM b hk) e)
  have hC_27 : Upd (fun b => b = vb ∨ b = rb) w27 w27 := Upd.refl _ _
  have hC_26 : Upd (fun b => b = vb ∨ b = rb) w26 w27 := hV27.trans hC_27
  have hC_25 : Upd (fun b => b = vb ∨ b = rb) w25 w27 := hV26.trans hC_26
  have hC_24 : Upd (fun b => b = vb ∨ b = rb) w24 w27 := hV25.trans hC_25
  have hC_14 : Upd (fun b => b = vb ∨ b = rb) w14 w27 := hV24.trans hC_24
  have hC_13 : Upd (fun b => b = vb ∨ b = rb) w13 w27 := hV14.trans hC_14
  have hC_12 : Upd (fun b => b = vb ∨ b = rb) w12 w27 := hV13.trans hC_13
  have hC_11 : Upd (fun b => b = vb ∨ b = rb) w11 w27 := hV12.trans hC_12
  have hC_10 : Upd (fun b => b = vb ∨ b = rb) w10 w27 := hV11.trans hC_11
  have hC_9 : Upd (fun b => b = vb ∨ b = rb) w9 w27 := hV10.trans hC_10
  have hC_8 : Upd (fun b => b = vb ∨ b = rb) w8 w27 := hV9.trans hC_9
  have hC_7 : Upd (fun b => b = vb ∨ b = rb) w7 w27 := hV8.trans hC_8
  have hC_6 : Upd (fun b => b = vb ∨ b = rb) w6 w27 := hV7.trans hC_7
  have hC_5 : Upd (fun b => b = vb ∨ b = rb) w5 w27 := hV6.trans hC_6
  have hC_4 : Upd (fun b => b = vb ∨ b = rb) w4 w27 := hV5.trans hC_5
  have hC_3 : Upd (fun b => b = vb ∨ b = rb) w3 w27 := hV4.trans hC_4
  have hC_2 : Upd (fun b => b = vb ∨ b = rb) w2 w27 := hV3.trans hC_3
  have hC_1 : Upd (fun b => b = vb ∨ b = rb) w1 w27 := hV2.trans hC_2
  have hR : RepS true (d + 2) fs_SyncGroupRequest (fun b => ok b ∨ w1.heap.size ≤ b) w27 (.mk 0 [] false [x_0,x_1,x_2,x_3,x_4,x_5,x_6] (rdTags s12).1) [strV (rdStr true s0).1,.int .i32 (rdInt .i32 4 s1).1,strV (rdStr true s2).1,.pointer ap8,.pointer ap10,.pointer ap12,.slice aa0 N0 qq0,.map qm] := RepS.introT (c := [strV (rdStr true s0).1,.int .i32 (rdInt .i32 4 s1).1,strV (rdStr true s2).1,.pointer ap8,.pointer ap10,.pointer ap12,.slice aa0 N0 qq0]) (RepL.cons1 (hf_0.keepS (hC_3.keeps fun b _ hk e => (hoM b hk) e)) (RepL.cons1 (hf_1.keepS (hC_5.keeps fun b _ hk e => (hoM b hk) e)) (RepL.cons1 (hf_2.keepS (hC_7.keeps fun b _ hk e => (hoM b hk) e)) (RepL.cons1 (hf_3.keepS (hC_9.keeps fun b _ hk e => (hoM b hk) e)) (RepL.cons1 (hf_4.keepS (hC_11.keeps fun b _ hk e => (hoM b hk) e)) (RepL.cons1 (hf_5.keepS (hC_13.keeps fun b _ hk e => (hoM b hk) e)) (RepL.cons1 (hf_6.keepS (hC_25.keeps fun b _ hk e => (hoM b hk) e)) RepL.nil))))))) hTg
  repeat ((first | refine qA rfl ?_|refine qB ?_|refine qC rfl ?_|refine qD ?_|refine qE ?_|refine qF ?_|refine qG ?_|refine qH ?_);try simp (maxSteps:=1000000)(disch:=(first|omega|(simp only [qI,qJ,qK]<;>omega)|exact qL _)) only [go_sem,↓reduceIte,n0,reduceCtorEq,n1,n2,n3,n4,n5,i0,i1,i2,i3,i4,i5,i6,i7,hv_27,hrd0_2,hrd0_7,hrd0_8,hrd0_9,hrd0_10,hrd0_19,hrd0_18])
  refine (RComplete_fn w27 hq27.1 hG27.2).mono ?_
  rintro _ wz ⟨rfl,hez⟩
  rw [hez]
  repeat ((first | refine qA rfl ?_|refine qB ?_|refine qC rfl ?_|refine qD ?_|refine qE ?_|refine qF ?_|refine qG ?_|refine qH ?_);try simp (maxSteps:=1000000)(disch:=(first|omega|(simp only [qI,qJ,qK]<;>omega)|exact qL _)) only [go_sem,↓reduceIte,n0,reduceCtorEq,n1,n2,n3,n4,n5,i0,i1,i2,i3,i4,i5,i6,i7,hv_27,hrd0_2,hrd0_7,hrd0_8,hrd0_9,hrd0_10,hrd0_19,hrd0_18])
  rw [hfin]
  refine ⟨fun h => ?_,fun h => ⟨?_,[strV (rdStr true s0).1,.int .i32 (rdInt .i32 4 s1).1,strV (rdStr true s2).1,.pointer ap8,.pointer ap10,.pointer ap12,.slice aa0 N0 qq0,.map qm],hv_27,?_⟩,?_⟩
  · have h' : s13 = none := h
    rw [h'];rfl
  · cases hsn : s13 with
    | none => exact absurd hsn h
    | some x => rfl
  · exact (RepS_lay true (d + 2) fs_SyncGroupRequest).weaken hR fun b _ hk => hk.imp id fun h => by omega
  · exact hbase.trans' hU27 fun i hi h => h.elim id fun h => by omega
end Ms

namespace Ms
open Go.World renaming size_alloc → qI
open Ms renaming size_wr → qJ,size_drew → qK,not_noB → qL
open W renaming seqR → qA,seq → qB,regR → qC,condK → qD,block → qE,skip → qF,ret → qG,exit → qH
open Nat renaming reduceEqDiff → n0,reduceAdd → n1,reduceMul → n2,reduceSub → n3,reduceLT → n4,reduceLeDiff → n5
open Int renaming reduceEq → i0,reduceLT → i1,reduceLE → i2,reduceNeg → i3,reduceAdd → i4,reduceSub → i5,reduceMul → i6,reduceToNat → i7
set_option maxRecDepth 8000
open Go Go.Proofs Go.Shelf
attribute [local congr] W_congr WPsq_congr WPp_congr optK_congr addrK_congr intK_congr boolK_congr sliceK_congr tupleK_congr funcK_congr Fn_congr rawK_congr takeK_congr stepK_congr convK_congr aggK_congr

theorem ReadFromSyncGroupRequest_fn {d : Nat} {ok : Blocks} {ver : Int} {ev : Value} (hlo : 0 ≤ ver) (hhi : ver ≤ 5) (w : World) {vb : Nat} (src : Value) (s : List UInt8) (hv : blk w vb = some (#[.int .i16 ver,.string ByteArray.empty,.int .i32 0,.string ByteArray.empty,.pointer none,.pointer none,.pointer none,.slice none 0 0,.map none],123,(0,0))) (hsrc : BytesV ok w src s) (hok0 : ∀ b,ok b → b < w.heap.size ∧ b ≠ vb) (hG : Glo ev w) (hgv : ¬ 0 = vb ∧ ¬ 1 = vb) :
    Fn Tryz.prog 69 #[.pointer (some ⟨vb,0,none⟩),src] w (ReadQ 123 ok ver (d + 2) fs_SyncGroupRequest vb w (rdP (d + 2) ver (flexB 4 ver) fs_SyncGroupRequest (some s)) ev) := by
  obtain ⟨sa,sc,rfl,_⟩ := hsrc.shape
  refine fn_of_W Tryz.func69 rfl Tryz.results69 Tryz.ntmps69 rfl ?_
  repeat ((first | refine qA rfl ?_|refine qB ?_|refine qC rfl ?_|refine qD ?_|refine qE ?_|refine qF ?_|refine qG ?_|refine qH ?_);try simp (maxSteps:=1000000)(disch:=(first|omega|(simp only [qI,qJ,qK]<;>omega)|exact qL _)) only [go_sem,↓reduceIte,n0,reduceCtorEq,n1,n2,n3,n4,n5,i0,i1,i2,i3,i4,i5,i6,i7])
  have hcl : (0 ≤ ver ∧ ver ≤ 2) ∨ (3 ≤ ver ∧ ver ≤ 3) ∨ (4 ≤ ver ∧ ver ≤ 4) ∨ (5 ≤ ver ∧ ver ≤ 5) := by omega
  rcases hcl with ⟨h1,h2⟩ | ⟨h1,h2⟩ | ⟨h1,h2⟩ | ⟨h1,h2⟩
  · have hfl : flexB 4 ver = false := by simp only [flexB,Bool.and_eq_false_iff,decide_eq_false_iff_not];omega
    rw [hfl]
    refine (readSyncGroupRequest_0 (d := d) h1 h2 w _ s hv hsrc hok0 hG hgv).mono ?_
    rintro r5 w5 h5
    repeat ((first | refine qA rfl ?_|refine qB ?_|refine qC rfl ?_|refine qD ?_|refine qE ?_|refine qF ?_|refine qG ?_|refine qH ?_);try simp (maxSteps:=1000000)(disch:=(first|omega|(simp only [qI,qJ,qK]<;>omega)|exact qL _)) only [go_sem,↓reduceIte,n0,reduceCtorEq,n1,n2,n3,n4,n5,i0,i1,i2,i3,i4,i5,i6,i7])
    all_goals exact h5
  · have hfl : flexB 4 ver = false := by simp only [flexB,Bool.and_eq_false_iff,decide_eq_false_iff_not];omega
    rw [hfl]
    refine (readSyncGroupRequest_1 (d := d) h1 h2 w _ s hv hsrc hok0 hG hgv).mono ?_
    rintro r5 w5 h5
    repeat ((first | refine qA rfl ?_|refine qB ?_|refine qC rfl ?_|refine qD ?_|refine qE ?_|refine qF ?_|refine qG ?_|refine qH ?_);try simp (maxSteps:=1000000)(disch:=(first|omega|(simp only [qI,qJ,qK]<;>omega)|exact qL _)) only [go_sem,↓reduceIte,n0,reduceCtorEq,n1,n2,n3,n4,n5,i0,i1,i2,i3,i4,i5,i6,i7])
    all_goals exact h5
  · have hfl : flexB 4 ver = true := by simp only [flexB,Bool.and_eq_true,decide_eq_true_eq];omega
    rw [hfl]
    refine (readSyncGroupRequest_2 (d := d) h1 h2 w _ s hv hsrc hok0 hG hgv).mono ?_
    rintro r5 w5 h5
    repeat ((first | refine qA rfl ?_|refine qB ?_|refine qC rfl ?_|refine qD ?_|refine qE ?_|refine qF ?_|refine qG ?_|refine qH ?_);try simp (maxSteps:=1000000)(disch:=(first|omega|(simp only [qI,qJ,qK]<;>omega)|exact qL _)) only [go_sem,↓reduceIte,n0,reduceCtorEq,n1,n2,n3,n4,n5,i0,i1,i2,i3,i4,i5,i6,i7])
    all_goals exact h5
  · have hfl : flexB 4 ver = true := by simp only [flexB,Bool.and_eq_true,decide_eq_true_eq];omega
    rw [hfl]
    refine (readSyncGroupRequest_3 (d := d) h1 h2 w _ s hv hsrc hok0 hG hgv).mono ?_
    rintro r5 w5 h5
    repeat ((first | refine qA rfl ?_|refine qB ?_|refine qC rfl ?_|refine qD ?_|refine qE ?_|refine qF ?_|refine qG ?_|refine qH ?_);try simp (maxSteps:=1000000)(disch:=(first|omega|(simp only [qI,qJ,qK]<;>omega)|exact qL _)) only [go_sem,↓reduceIte,n0,reduceCtorEq,n1,n2,n3,n4,n5,i0,i1,i2,i3,i4,i5,i6,i7])
    all_goals exact h5

end Ms

namespace Ms
open Go.World renaming size_alloc → qI
open Ms renaming size_wr → qJ,size_drew → qK,not_noB → qL
open W renaming seqR → qA,seq → qB,regR → qC,condK → qD,block → qE,skip → qF,ret → qG,exit → qH
open Nat renaming reduceEqDiff → n0,reduceAdd → n1,reduceMul → n2,reduceSub → n3,reduceLT → n4,reduceLeDiff → n5
open Int renaming reduceEq → i0,reduceLT → i1,reduceLE → i2,reduceNeg → i3,reduceAdd → i4,reduceSub → i5,reduceMul → i6,reduceToNat → i7
set_option maxRecDepth 8000
open Go Go.Proofs Go.Shelf
attribute [local congr] W_congr WPsq_congr WPp_congr optK_congr addrK_congr intK_congr boolK_congr sliceK_congr tupleK_congr funcK_congr Fn_congr rawK_congr takeK_congr stepK_congr convK_congr aggK_congr

set_option maxHeartbeats 4000000 in
theorem appSyncGroupRequest_0 {d B : Nat} {okM : Blocks} {ver : Int} (hlo : 0 ≤ ver) (hhi : ver ≤ 2) (t : Tree) (cells : List Value) (v : Value) (s : List UInt8) (w : World) {vb : Nat} (ho : OwnBy 5 B w v s) (hB : B ≤ w.heap.size) (hvb : blk w vb = some ((.int .i16 ver :: cells).toArray,123,(0,0)))
    (hR : RepS true (d + 2) fs_SyncGroupRequest okM w t cells) (hfit : FitW ver (d + 2) fs_SyncGroupRequest t) (hd : ∀ b,b < w.heap.size → okM b → ¬ ownB v b) (hdv : ¬ ownB v vb) (hlen : s.length + (partS (d + 2) fs_SyncGroupRequest ver false t).length ≤ 2 ^ 41) :
    Fn Tryz.prog 70 #[.pointer (some ⟨vb,0,none⟩),v] w fun r w' => AppR 5 B w v s (partS (d + 2) fs_SyncGroupRequest ver false t) r w' := by
  obtain ⟨⟨g_0,g_1,g_2,g_3,g_4,g_5,g_6,-⟩,hfu⟩ := hfit
  replace g_0 : hasS fSyncGroupRequest_0 ver = true → FitWF (FitW ver (d + 1)) ver fSyncGroupRequest_0 (t.at 0) := g_0
  have hh_0 : hasS fSyncGroupRequest_0 ver = true := hasS_t (by show (0 : Int) ≤ ver;omega) (by show (-1 : Int) < 0 ∨ ver ≤ (-1 : Int);omega)
  replace g_0 := g_0 hh_0
  replace g_1 : hasS fSyncGroupRequest_1 ver = true → FitWF (FitW ver (d + 1)) ver fSyncGroupRequest_1 (t.at 1) := g_1
  have hh_1 : hasS fSyncGroupRequest_1 ver = true := hasS_t (by show (0 : Int) ≤ ver;omega) (by show (-1 : Int) < 0 ∨ ver ≤ (-1 : Int);omega)
  replace g_1 := g_1 hh_1
  replace g_2 : hasS fSyncGroupRequest_2 ver = true → FitWF (FitW ver (d + 1)) ver fSyncGroupRequest_2 (t.at 2) := g_2
  have hh_2 : hasS fSyncGroupRequest_2 ver = true := hasS_t (by show (0 : Int) ≤ ver;omega) (by show (-1 : Int) < 0 ∨ ver ≤ (-1 : Int);omega)
  replace g_2 := g_2 hh_2
  replace g_3 : hasS fSyncGroupRequest_3 ver = true → FitWF (FitW ver (d + 1)) ver fSyncGroupRequest_3 (t.at 3) := g_3
  have hh_3 : hasS fSyncGroupRequest_3 ver = false := hasS_f (by show ver < 3 ∨ (0 ≤ (-1 : Int) ∧ (-1 : Int) < ver);omega)
  clear g_3
  replace g_4 : hasS fSyncGroupRequest_4 ver = true → FitWF (FitW ver (d + 1)) ver fSyncGroupRequest_4 (t.at 4) := g_4
  have hh_4 : hasS fSyncGroupRequest_4 ver = false := hasS_f (by show ver < 5 ∨ (0 ≤ (-1 : Int) ∧ (-1 : Int) < ver);omega)
  clear g_4
  replace g_5 : hasS fSyncGroupRequest_5 ver = true → FitWF (FitW ver (d + 1)) ver fSyncGroupRequest_5 (t.at 5) := g_5
  have hh_5 : hasS fSyncGroupRequest_5 ver = false := hasS_f (by show ver < 5 ∨ (0 ≤ (-1 : Int) ∧ (-1 : Int) < ver);omega)
  clear g_5
  replace g_6 : hasS fSyncGroupRequest_6 ver = true → FitWF (FitW ver (d + 1)) ver fSyncGroupRequest_6 (t.at 6) := g_6
  have hh_6 : hasS fSyncGroupRequest_6 ver = true := hasS_t (by show (0 : Int) ≤ ver;omega) (by show (-1 : Int) < 0 ∨ ver ≤ (-1 : Int);omega)
  replace g_6 := g_6 hh_6
  obtain ⟨cs,q,hcs,hL,hT⟩ := hR.inv
  obtain ⟨c_0,e_0,rfl,h_0,c_1,e_1,rfl,h_1,c_2,e_2,rfl,h_2,c_3,e_3,rfl,h_3,c_4,e_4,rfl,h_4,c_5,e_5,rfl,h_5,c_6,e_6,rfl,h_6,rfl⟩ := hL
  replace h_0 : RepF (RepS true (d + 1)) (szS true (d + 1)) fSyncGroupRequest_0 okM w (t.at 0) c_0 := h_0
  replace h_1 : RepF (RepS true (d + 1)) (szS true (d + 1)) fSyncGroupRequest_1 okM w (t.at 1) c_1 := h_1
  replace h_2 : RepF (RepS true (d + 1)) (szS true (d + 1)) fSyncGroupRequest_2 okM w (t.at 2) c_2 := h_2
  replace h_3 : RepF (RepS true (d + 1)) (szS true (d + 1)) fSyncGroupRequest_3 okM w (t.at 3) c_3 := h_3
  replace h_4 : RepF (RepS true (d + 1)) (szS true (d + 1)) fSyncGroupRequest_4 okM w (t.at 4) c_4 := h_4
  replace h_5 : RepF (RepS true (d + 1)) (szS true (d + 1)) fSyncGroupRequest_5 okM w (t.at 5) c_5 := h_5
  replace h_6 : RepF (RepS true (d + 1)) (szS true (d + 1)) fSyncGroupRequest_6 okM w (t.at 6) c_6 := h_6
  obtain rfl := (RepF_text rfl (by decide)).1 h_0
  obtain rfl := (RepF_num (by decide)).1 h_1
  obtain rfl := (RepF_text rfl (by decide)).1 h_2
  obtain ⟨p_3,rfl,hp_3⟩ := (RepF_ptr rfl (by decide)).1 h_3
  obtain ⟨p_4,rfl,hp_4⟩ := (RepF_ptr rfl (by decide)).1 h_4
  obtain ⟨p_5,rfl,hp_5⟩ := (RepF_ptr rfl (by decide)).1 h_5
  obtain ⟨p_6,rfl,hs_6⟩ := RepF_listW g_6 rfl (by decide) h_6
  obtain ⟨ab_6,ac_6,rfl,_⟩ := SlR.shape hs_6
  have hll_6 := (g_6.list rfl).1
  obtain ⟨qm,rfl⟩ := hT.shape
  have hv : blk w vb = some (#[.int .i16 ver,strV (t.at 0).s,.int .i32 (IntKind.i32.wrap (t.at 1).n),strV (t.at 2).s,p_3,p_4,p_5,.slice ab_6 (t.at 6).l.length ac_6,.map qm],123,(0,0)) := by rw [hvb,hcs];rfl
  clear hvb hcs
  obtain ⟨X_0,hXX_0⟩ : ∃ X,X = fixedS (t.at 0).s.length 2 ++ (t.at 0).s := ⟨_,rfl⟩
  obtain ⟨X_1,hXX_1⟩ : ∃ X,X = fixedS (t.at 1).n 4 := ⟨_,rfl⟩
  obtain ⟨X_2,hXX_2⟩ : ∃ X,X = fixedS (t.at 2).s.length 2 ++ (t.at 2).s := ⟨_,rfl⟩
  obtain ⟨XL_6,hXL_6⟩ : ∃ X,X = fixedS (t.at 6).l.length 4 := ⟨_,rfl⟩
  obtain ⟨XE_6,hXE_6⟩ : ∃ X,X = (t.at 6).l.flatMap (fun x => partS (d + 1) fs_X0 ver false x) := ⟨_,rfl⟩
  have hP : partS (d + 2) fs_SyncGroupRequest ver false t = X_0 ++ (X_1 ++ (X_2 ++ ((XL_6 ++ XE_6) ++ []))) := partS_no (plainL_has (by decide) hh_0 ((fieldS_text_f g_0 rfl (by decide)).trans hXX_0.symm) (plainL_has (by decide) hh_1 ((fieldS_num 3 rfl (by decide)).trans hXX_1.symm) (plainL_has (by decide) hh_2 ((fieldS_text_f g_2 rfl (by decide)).trans hXX_2.symm) (plainL_not hh_3 (plainL_not hh_4 (plainL_not hh_5 (plainL_has (by decide) hh_6 ((fieldS_list_f (g := (fun x => partS (d + 1) fs_X0 ver false x)) g_6 rfl (by decide) (fun x _ => valueS_part)).trans (by rw [hXL_6,hXE_6])) rfl)))))))
  rw [hP] at hlen
  simp only [List.length_append,List.length_nil] at hlen
  have hdK : ∀ {r : Value} {w' : World} {add : List UInt8},AppR 5 B w v s add r w' → ∀ b,b < w'.heap.size → OkS okM w.heap.size b → ¬ ownB r b := fun h b _ hk ho => (h.frame b ho).elim (hd b hk.2 hk.1) (fun h => by have := hk.2;omega)
  have ownK : ∀ {r : Value} {w' : World} {add : List UInt8} {b : Nat},AppR 5 B w v s add r w' → b < w.heap.size → ¬ ownB v b → ¬ ownB r b := fun h hb hn ho => (h.frame _ ho).elim hn (fun h => by omega)
  have ha0 : AppR 5 B w v s [] v w := AppR.refl ho
  obtain ⟨w0,hw0⟩ : ∃ w0,w0 = w := ⟨_,rfl⟩
  have hB0 := hB
  have hv_0 := hv
  refine fn_of_W Tryz.func70 rfl Tryz.results70 Tryz.ntmps70 rfl ?_
  repeat ((first | refine qA rfl ?_|refine qB ?_|refine qC rfl ?_|refine qD ?_|refine qE ?_|refine qF ?_|refine qG ?_|refine qH ?_);try simp (maxSteps:=1000000)(disch:=(first|omega|(simp only [qI,qJ,qK]<;>omega)|exact qL _)) only [go_sem,↓reduceIte,n0,reduceCtorEq,n1,n2,n3,n4,n5,i0,i1,i2,i3,i4,i5,i6,i7,hv_0])
  refine (AppendString_fn _ _ _ ha0.own hB0 (t.at 0).s (g_0.text (.inl rfl)) (by simp only [List.length_append,List.length_nil];omega)).mono ?_
  rintro r1 w1 hc1
  rw [← hXX_0] at hc1
  have ha1 := ha0.trans hc1
  have hB1 : B ≤ w1.heap.size := Nat.le_trans hB ha1.upd.size
  have hv_1 := ha1.upd.blk_some hv hdv
  repeat ((first | refine qA rfl ?_|refine qB ?_|refine qC rfl ?_|refine qD ?_|refine qE ?_|refine qF ?_|refine qG ?_|refine qH ?_);try simp (maxSteps:=1000000)(disch:=(first|omega|(simp only [qI,qJ,qK]<;>omega)|exact qL _)) only [go_sem,↓reduceIte,n0,reduceCtorEq,n1,n2,n3,n4,n5,i0,i1,i2,i3,i4,i5,i6,i7,hv_1])
  refine (AppendInt32_fn _ _ _ ha1.own hB1 _ (by simp only [List.length_append,List.length_nil];omega)).mono ?_
  rintro r2 w2 hc2
  rw [wrap32,← hXX_1] at hc2
  have ha2 := ha1.trans hc2
  have hB2 : B ≤ w2.heap.size := Nat.le_trans hB ha2.upd.size
  have hv_2 := ha2.upd.blk_some hv hdv
  repeat ((first | refine qA rfl ?_|refine qB ?_|refine qC rfl ?_|refine qD ?_|refine qE ?_|refine qF ?_|refine qG ?_|refine qH ?_);try simp (maxSteps:=1000000)(disch:=(first|omega|(simp only [qI,qJ,qK]<;>omega)|exact qL _)) only [go_sem,↓reduceIte,n0,reduceCtorEq,n1,n2,n3,n4,n5,i0,i1,i2,i3,i4,i5,i6,i7,hv_2])
  refine (AppendString_fn _ _ _ ha2.own hB2 (t.at 2).s (g_2.text (.inl rfl)) (by simp only [List.length_append,List.length_nil];omega)).mono ?_
  rintro r3 w3 hc3
  rw [← hXX_2] at hc3
  have ha3 := ha2.trans hc3
  have hB3 : B ≤ w3.heap.size := Nat.le_trans hB ha3.upd.size
  have hv_3 := ha3.upd.blk_some hv hdv
  repeat ((first | refine qA rfl ?_|refine qB ?_|refine qC rfl ?_|refine qD ?_|refine qE ?_|refine qF ?_|refine qG ?_|refine qH ?_);try simp (maxSteps:=1000000)(disch:=(first|omega|(simp only [qI,qJ,qK]<;>omega)|exact qL _)) only [go_sem,↓reduceIte,n0,reduceCtorEq,n1,n2,n3,n4,n5,i0,i1,i2,i3,i4,i5,i6,i7,hv_3])
  refine (AppendArrayLen_fn _ _ _ ha3.own hB3 (t.at 6).l.length hll_6 (by simp only [List.length_append,List.length_nil];omega)).mono ?_
  rintro r4 w4 hc4
  rw [← hXL_6] at hc4
  have ha4 := ha3.trans hc4
  have hB4 : B ≤ w4.heap.size := Nat.le_trans hB ha4.upd.size
  have hv_4 := ha4.upd.blk_some hv hdv
  repeat ((first | refine qA rfl ?_|refine qB ?_|refine qC rfl ?_|refine qD ?_|refine qE ?_|refine qF ?_|refine qG ?_|refine qH ?_);try simp (maxSteps:=1000000)(disch:=(first|omega|(simp only [qI,qJ,qK]<;>omega)|exact qL _)) only [go_sem,↓reduceIte,n0,reduceCtorEq,n1,n2,n3,n4,n5,i0,i1,i2,i3,i4,i5,i6,i7,hv_4])
  have hadd1 := ha4
  refine W.exitJ 0 (fun ρ w' => ∃ r,ρ 1 = r ∧ ρ 0 = .pointer (some ⟨vb,0,none⟩) ∧ ρ 5 = .int .i16 ver ∧ ρ 6 = .bool false ∧ AppR 5 B w v s (([] ++ X_0 ++ X_1 ++ X_2 ++ XL_6) ++ XE_6) r w')
    (W.loop (fun ρ w' => ∃ (j : Nat) (r : Value),j ≤ (t.at 6).l.length ∧ ρ 109 = .int .i64 j ∧ ρ 108 = .int .i64 (t.at 6).l.length ∧ ρ 13 = .slice ab_6 (t.at 6).l.length ac_6 ∧ ρ 1 = r ∧ ρ 0 = .pointer (some ⟨vb,0,none⟩) ∧ ρ 5 = .int .i16 ver ∧ ρ 6 = .bool false ∧ AppR 5 B w v s (([] ++ X_0 ++ X_1 ++ X_2 ++ XL_6) ++ ((t.at 6).l.take j).flatMap (fun x => partS (d + 1) fs_X0 ver false x)) r w')
      (fun ρ _ => (t.at 6).l.length - (RowKit.intOf (ρ 109)).toNat) ?_ ?_) ?_
  · refine ⟨0,_,Nat.zero_le _,?_,?_,?_,?_,?_,?_,?_,ha4.eqs (by rw [List.take_zero,List.flatMap_nil,List.append_nil])⟩ <;> simp (maxSteps:=1000000)(disch:=(first|omega|(simp only [qI,qJ,qK]<;>omega)|exact qL _)) only [go_sem,↓reduceIte,n0,reduceCtorEq,n1,n2,n3,n4,n5,i0,i1,i2,i3,i4,i5,i6,i7]
    all_goals rfl
  · rintro ρ w5 ⟨j1,r5,hj1,hI1,hN1,hS1,hr1_1,hr1_0,hr1_5,hr1_6,ha5⟩
    have hB5 : B ≤ w5.heap.size := Nat.le_trans hB ha5.upd.size
    have hv_5 := ha5.upd.blk_some hv hdv
    by_cases hlt1 : j1 < (t.at 6).l.length
    · obtain ⟨_,b1,o1,x1,ce1,hb1,hok1,hx1,hbl1,hxs1,hxe1,hq1,hRe1⟩ := SlR.get (size := 3) (by decide) hs_6 hlt1
      subst hb1
      have hcat1 : (t.at 6).l.take (j1 + 1) = (t.at 6).l.take j1 ++ [(t.at 6).l[j1]] := List.take_succ_eq_append_getElem hlt1
      have htl1 := take_flatMap_len (t.at 6).l (fun x => partS (d + 1) fs_X0 ver false x) (j1 + 1)
      rw [← hXE_6,hcat1,List.flatMap_append,List.flatMap_cons,List.flatMap_nil,List.append_nil] at htl1
      have hge1 := (g_6.list rfl).2 _ (List.getElem_mem hlt1)
      generalize (t.at 6).l[j1] = y1 at *
      have hnx1 := hd b1 hbl1 hok1
      obtain ⟨T1,hTT1⟩ : ∃ T,T = ((t.at 6).l.take j1).flatMap (fun x => partS (d + 1) fs_X0 ver false x) := ⟨_,rfl⟩
      rw [← hTT1] at ha5 htl1
      have hx1_5 := ha5.upd.blk_some hx1 hnx1
      replace hRe1 : RepS true (d + 1) fs_X0 okM w y1 ce1 := Rep1_part.1 hRe1
      have hfe1 : FitW ver (d + 1) fs_X0 y1 := hge1.2 rfl
      obtain ⟨⟨ge1_0,ge1_1,-⟩,hfue1⟩ := hfe1
      replace ge1_0 : hasS fX0_0 ver = true → FitWF (FitW ver d) ver fX0_0 (y1.at 0) := ge1_0
      have hhe1_0 : hasS fX0_0 ver = true := hasS_t (by show (0 : Int) ≤ ver;omega) (by show (-1 : Int) < 0 ∨ ver ≤ (-1 : Int);omega)
      replace ge1_0 := ge1_0 hhe1_0
      replace ge1_1 : hasS fX0_1 ver = true → FitWF (FitW ver d) ver fX0_1 (y1.at 1) := ge1_1
      have hhe1_1 : hasS fX0_1 ver = true := hasS_t (by show (0 : Int) ≤ ver;omega) (by show (-1 : Int) < 0 ∨ ver ≤ (-1 : Int);omega)
      replace ge1_1 := ge1_1 hhe1_1
      obtain ⟨cse1,qe1,hcse1,hLe1,hTe1⟩ := hRe1.inv
      obtain ⟨ce1_0,ee1_0,rfl,he1_0,ce1_1,ee1_1,rfl,he1_1,rfl⟩ := hLe1
      replace he1_0 : RepF (RepS true d) (szS true d) fX0_0 okM w (y1.at 0) ce1_0 := he1_0
      replace he1_1 : RepF (RepS true d) (szS true d) fX0_1 okM w (y1.at 1) ce1_1 := he1_1
      obtain rfl := (RepF_text rfl (by decide)).1 he1_0
      obtain ⟨pe1_1,rfl,hpe1_1⟩ := RepF_bytesW ge1_1 rfl (by decide) he1_1
      obtain ⟨qme1,rfl⟩ := hTe1.shape
      subst hcse1
      have hq1_0 : x1.1[o1 + j1 * 3]? = some (strV (y1.at 0).s) := hq1 0 (by decide)
      have hq1_1 : x1.1[o1 + (j1 * 3 + 1)]? = some (pe1_1) := hq1 1 (by decide)
      have hq1_2 : x1.1[o1 + (j1 * 3 + 2)]? = some (.map qme1) := hq1 2 (by decide)
      obtain ⟨Xe1_0,hXXe1_0⟩ : ∃ X,X = fixedS (y1.at 0).s.length 2 ++ (y1.at 0).s := ⟨_,rfl⟩
      obtain ⟨Xe1_1,hXXe1_1⟩ : ∃ X,X = fixedS (y1.at 1).s.length 4 ++ (y1.at 1).s := ⟨_,rfl⟩
      have hPe1 : partS (d + 1) fs_X0 ver false y1 = Xe1_0 ++ (Xe1_1 ++ []) := partS_no (plainL_has (by decide) hhe1_0 ((fieldS_text_f ge1_0 rfl (by decide)).trans hXXe1_0.symm) (plainL_has (by decide) hhe1_1 ((fieldS_bytes_f ge1_1 rfl (by decide)).trans hXXe1_1.symm) rfl))
      rw [hPe1] at htl1
      simp only [List.length_append,List.length_nil] at htl1
      repeat ((first | refine qA rfl ?_|refine qB ?_|refine qC rfl ?_|refine qD ?_|refine qE ?_|refine qF ?_|refine qG ?_|refine qH ?_);try simp (maxSteps:=1000000)(disch:=(first|omega|(simp only [qI,qJ,qK]<;>omega)|exact qL _)) only [go_sem,↓reduceIte,n0,reduceCtorEq,n1,n2,n3,n4,n5,i0,i1,i2,i3,i4,i5,i6,i7,hv_5,hx1_5,Int.toNat_natCast,Nat.mul_one,hq1_0,hq1_1,hq1_2,hr1_1,hr1_0,hr1_5,hr1_6,hI1,hN1,hS1])
      refine (AppendString_fn _ _ _ ha5.own hB5 (y1.at 0).s (ge1_0.text (.inl rfl)) (by simp only [List.length_append,List.length_nil];omega)).mono ?_
      rintro r6 w6 hc6
      rw [← hXXe1_0] at hc6
      have ha6 := ha5.trans hc6
      have hB6 : B ≤ w6.heap.size := Nat.le_trans hB ha6.upd.size
      have hv_6 := ha6.upd.blk_some hv hdv
      have hx1_6 := ha6.upd.blk_some hx1 hnx1
      repeat ((first | refine qA rfl ?_|refine qB ?_|refine qC rfl ?_|refine qD ?_|refine qE ?_|refine qF ?_|refine qG ?_|refine qH ?_);try simp (maxSteps:=1000000)(disch:=(first|omega|(simp only [qI,qJ,qK]<;>omega)|exact qL _)) only [go_sem,↓reduceIte,n0,reduceCtorEq,n1,n2,n3,n4,n5,i0,i1,i2,i3,i4,i5,i6,i7,hv_6,hx1_6,Int.toNat_natCast,Nat.mul_one,hq1_0,hq1_1,hq1_2,hr1_1,hr1_0,hr1_5,hr1_6,hI1,hN1,hS1])
      refine (AppendBytes_fn (ok := OkS okM w.heap.size) _ _ _ ha6.own hB6 _ (y1.at 1).s ((hpe1_1.weaken fun b h1 h2 => ⟨h2,h1⟩).keep (ha6.upd.keeps fun b hb hk => hd b hb hk.1)) (hdK ha6) (ge1_1.text (.inr rfl)) (by simp only [List.length_append,List.length_nil];omega)).mono ?_
      rintro r7 w7 hc7
      rw [← hXXe1_1] at hc7
      have ha7 := ha6.trans hc7
      have hB7 : B ≤ w7.heap.size := Nat.le_trans hB ha7.upd.size
      have hv_7 := ha7.upd.blk_some hv hdv
      have hx1_7 := ha7.upd.blk_some hx1 hnx1
      repeat ((first | refine qA rfl ?_|refine qB ?_|refine qC rfl ?_|refine qD ?_|refine qE ?_|refine qF ?_|refine qG ?_|refine qH ?_);try simp (maxSteps:=1000000)(disch:=(first|omega|(simp only [qI,qJ,qK]<;>omega)|exact qL _)) only [go_sem,↓reduceIte,n0,reduceCtorEq,n1,n2,n3,n4,n5,i0,i1,i2,i3,i4,i5,i6,i7,hr1_1,hr1_0,hr1_5,hr1_6,hI1,hN1,hS1])
      refine ⟨⟨j1 + 1,_,by omega,rfl,rfl,ha7.eqs ?_⟩,?_⟩
      · rw [hcat1,List.flatMap_append,List.flatMap_cons,List.flatMap_nil,List.append_nil,← hTT1,hPe1];simp only [List.append_assoc,List.append_nil,List.nil_append]
      · simp only [RowKit.intOf];omega
    · have hjl1 : j1 = (t.at 6).l.length := by omega
      subst hjl1
      rw [List.take_length,← hXE_6] at ha5
      repeat ((first | refine qA rfl ?_|refine qB ?_|refine qC rfl ?_|refine qD ?_|refine qE ?_|refine qF ?_|refine qG ?_|refine qH ?_);try simp (maxSteps:=1000000)(disch:=(first|omega|(simp only [qI,qJ,qK]<;>omega)|exact qL _)) only [go_sem,↓reduceIte,n0,reduceCtorEq,n1,n2,n3,n4,n5,i0,i1,i2,i3,i4,i5,i6,i7,hI1,hN1])
      exact ⟨_,hr1_1,hr1_0,hr1_5,hr1_6,ha5⟩
  · rintro ρ w8 ⟨r8,hr1_2,hr2_0,hr2_5,hr2_6,ha8⟩
    have hB8 : B ≤ w8.heap.size := Nat.le_trans hB ha8.upd.size
    have hv_8 := ha8.upd.blk_some hv hdv
    repeat ((first | refine qA rfl ?_|refine qB ?_|refine qC rfl ?_|refine qD ?_|refine qE ?_|refine qF ?_|refine qG ?_|refine qH ?_);try simp (maxSteps:=1000000)(disch:=(first|omega|(simp only [qI,qJ,qK]<;>omega)|exact qL _)) only [go_sem,↓reduceIte,n0,reduceCtorEq,n1,n2,n3,n4,n5,i0,i1,i2,i3,i4,i5,i6,i7,hv_8,hr1_2,hr2_0,hr2_5,hr2_6])
    refine ha8.eqs ?_
    rw [hP];simp only [List.append_assoc,List.append_nil,List.nil_append]
end Ms

namespace Ms
open Go.World renaming size_alloc → qI
open Ms renaming size_wr → qJ,size_drew → qK,not_noB → qL
open W renaming seqR → qA,seq → qB,regR → qC,condK → qD,block → qE,skip → qF,ret → qG,exit → qH
open Nat renaming reduceEqDiff → n0,reduceAdd → n1,reduceMul → n2,reduceSub → n3,reduceLT → n4,reduceLeDiff → n5
open Int renaming reduceEq → i0,reduceLT → i1,reduceLE → i2,reduceNeg → i3,reduceAdd → i4,reduceSub → i5,reduceMul → i6,reduceToNat → i7
set_option maxRecDepth 8000
open Go Go.Proofs Go.Shelf
attribute [local congr] W_congr WPsq_congr WPp_congr optK_congr addrK_congr intK_congr boolK_congr sliceK_congr tupleK_congr funcK_congr Fn_congr rawK_congr takeK_congr stepK_congr convK_congr aggK_congr

set_option maxHeartbeats 4000000 in
theorem appSyncGroupRequest_1 {d B : Nat} {okM : Blocks} {ver : Int} (hlo : 3 ≤ ver) (hhi : ver ≤ 3) (t : Tree) (cells : List Value) (v : Value) (s : List UInt8) (w : World) {vb : Nat} (ho : OwnBy 5 B w v s) (hB : B ≤ w.heap.size) (hvb : blk w vb = some ((.int .i16 ver :: cells).toArray,123,(0,0)))
    (hR : RepS true (d + 2) fs_SyncGroupRequest okM w t cells) (hfit : FitW ver (d + 2) fs_SyncGroupRequest t) (hd : ∀ b,b < w.heap.size → okM b → ¬ ownB v b) (hdv : ¬ ownB v vb) (hlen : s.length + (partS (d + 2) fs_SyncGroupRequest ver false t).length ≤ 2 ^ 41) :
    Fn Tryz.prog 70 #[.pointer (some ⟨vb,0,none⟩),v] w fun r w' => AppR 5 B w v s (partS (d + 2) fs_SyncGroupRequest ver false t) r w' := by
  obtain ⟨⟨g_0,g_1,g_2,g_3,g_4,g_5,g_6,-⟩,hfu⟩ := hfit
  replace g_0 : hasS fSyncGroupRequest_0 ver = true → FitWF (FitW ver (d + 1)) ver fSyncGroupRequest_0 (t.at 0) := g_0
  have hh_0 : hasS fSyncGroupRequest_0 ver = true := hasS_t (by show (0 : Int) ≤ ver;omega) (by show (-1 : Int) < 0 ∨ ver ≤ (-1 : Int);omega)
  replace g_0 := g_0 hh_0
  replace g_1 : hasS fSyncGroupRequest_1 ver = true → FitWF (FitW ver (d + 1)) ver fSyncGroupRequest_1 (t.at 1) := g_1
  have hh_1 : hasS fSyncGroupRequest_1 ver = true := hasS_t (by show (0 : Int) ≤ ver;omega) (by show (-1 : Int) < 0 ∨ ver ≤ (-1 : Int);omega)
  replace g_1 := g_1 hh_1
  replace g_2 : hasS fSyncGroupRequest_2 ver = true → FitWF (FitW ver (d + 1)) ver fSyncGroupRequest_2 (t.at 2) := g_2
  have hh_2 : hasS fSyncGroupRequest_2 ver = true := hasS_t (by show (0 : Int) ≤ ver;omega) (by show (-1 : Int) < 0 ∨ ver ≤ (-1 : Int);omega)
  replace g_2 := g_2 hh_2
  replace g_3 : hasS fSyncGroupRequest_3 ver = true → FitWF (FitW ver (d + 1)) ver fSyncGroupRequest_3 (t.at 3) := g_3
  have hh_3 : hasS fSyncGroupRequest_3 ver = true := hasS_t (by show (3 : Int) ≤ ver;omega) (by show (-1 : Int) < 0 ∨ ver ≤ (-1 : Int);omega)
  replace g_3 := g_3 hh_3
  replace g_4 : hasS fSyncGroupRequest_4 ver = true → FitWF (FitW ver (d + 1)) ver fSyncGroupRequest_4 (t.at 4) := g_4
  have hh_4 : hasS fSyncGroupRequest_4 ver = false := hasS_f (by show ver < 5 ∨ (0 ≤ (-1 : Int) ∧ (-1 : Int) < ver);omega)
  clear g_4
  replace g_5 : hasS fSyncGroupRequest_5 ver = true → FitWF (FitW ver (d + 1)) ver fSyncGroupRequest_5 (t.at 5) := g_5
  have hh_5 : hasS fSyncGroupRequest_5 ver = false := hasS_f (by show ver < 5 ∨ (0 ≤ (-1 : Int) ∧ (-1 : Int) < ver);omega)
  clear g_5
  replace g_6 : hasS fSyncGroupRequest_6 ver = true → FitWF (FitW ver (d + 1)) ver fSyncGroupRequest_6 (t.at 6) := g_6
  have hh_6 : hasS fSyncGroupRequest_6 ver = true := hasS_t (by show (0 : Int) ≤ ver;omega) (by show (-1 : Int) < 0 ∨ ver ≤ (-1 : Int);omega)
  replace g_6 := g_6 hh_6
  obtain ⟨cs,q,hcs,hL,hT⟩ := hR.inv
  obtain ⟨c_0,e_0,rfl,h_0,c_1,e_1,rfl,h_1,c_2,e_2,rfl,h_2,c_3,e_3,rfl,h_3,c_4,e_4,rfl,h_4,c_5,e_5,rfl,h_5,c_6,e_6,rfl,h_6,rfl⟩ := hL
  replace h_0 : RepF (RepS true (d + 1)) (szS true (d + 1)) fSyncGroupRequest_0 okM w (t.at 0) c_0 := h_0
  replace h_1 : RepF (RepS true (d + 1)) (szS true (d + 1)) fSyncGroupRequest_1 okM w (t.at 1) c_1 := h_1
  replace h_2 : RepF (RepS true (d + 1)) (szS true (d + 1)) fSyncGroupRequest_2 okM w (t.at 2) c_2 := h_2
  replace h_3 : RepF (RepS true (d + 1)) (szS true (d + 1)) fSyncGroupRequest_3 okM w (t.at 3) c_3 := h_3
  replace h_4 : RepF (RepS true (d + 1)) (szS true (d + 1)) fSyncGroupRequest_4 okM w (t.at 4) c_4 := h_4
  replace h_5 : RepF (RepS true (d + 1)) (szS true (d + 1)) fSyncGroupRequest_5 okM w (t.at 5) c_5 := h_5
  replace h_6 : RepF (RepS true (d + 1)) (szS true (d + 1)) fSyncGroupRequest_6 okM w (t.at 6) c_6 := h_6
  obtain rfl := (RepF_text rfl (by decide)).1 h_0
  obtain rfl := (RepF_num (by decide)).1 h_1
  obtain rfl := (RepF_text rfl (by decide)).1 h_2
  obtain ⟨p_3,rfl,hp_3⟩ := (RepF_ptr rfl (by decide)).1 h_3
  obtain ⟨p_4,rfl,hp_4⟩ := (RepF_ptr rfl (by decide)).1 h_4
  obtain ⟨p_5,rfl,hp_5⟩ := (RepF_ptr rfl (by decide)).1 h_5
  obtain ⟨p_6,rfl,hs_6⟩ := RepF_listW g_6 rfl (by decide) h_6
  obtain ⟨ab_6,ac_6,rfl,_⟩ := SlR.shape hs_6
  have hll_6 := (g_6.list rfl).1
  obtain ⟨qm,rfl⟩ := hT.shape
  have hv : blk w vb = some (#[.int .i16 ver,strV (t.at 0).s,.int .i32 (IntKind.i32.wrap (t.at 1).n),strV (t.at 2).s,p_3,p_4,p_5,.slice ab_6 (t.at 6).l.length ac_6,.map qm],123,(0,0)) := by rw [hvb,hcs];rfl
  clear hvb hcs
  obtain ⟨X_0,hXX_0⟩ : ∃ X,X = fixedS (t.at 0).s.length 2 ++ (t.at 0).s := ⟨_,rfl⟩
  obtain ⟨X_1,hXX_1⟩ : ∃ X,X = fixedS (t.at 1).n 4 := ⟨_,rfl⟩
  obtain ⟨X_2,hXX_2⟩ : ∃ X,X = fixedS (t.at 2).s.length 2 ++ (t.at 2).s := ⟨_,rfl⟩
  obtain ⟨X_3,hXX_3⟩ : ∃ X,X = if (t.at 3).null = true then fixedS (-1) 2 else fixedS (t.at 3).s.length 2 ++ (t.at 3).s := ⟨_,rfl⟩
  obtain ⟨XL_6,hXL_6⟩ : ∃ X,X = fixedS (t.at 6).l.length 4 := ⟨_,rfl⟩
  obtain ⟨XE_6,hXE_6⟩ : ∃ X,X = (t.at 6).l.flatMap (fun x => partS (d + 1) fs_X0 ver false x) := ⟨_,rfl⟩
  have hP : partS (d + 2) fs_SyncGroupRequest ver false t = X_0 ++ (X_1 ++ (X_2 ++ (X_3 ++ ((XL_6 ++ XE_6) ++ [])))) := partS_no (plainL_has (by decide) hh_0 ((fieldS_text_f g_0 rfl (by decide)).trans hXX_0.symm) (plainL_has (by decide) hh_1 ((fieldS_num 3 rfl (by decide)).trans hXX_1.symm) (plainL_has (by decide) hh_2 ((fieldS_text_f g_2 rfl (by decide)).trans hXX_2.symm) (plainL_has (by decide) hh_3 ((fieldS_ptr_f g_3 rfl (by decide)).trans hXX_3.symm) (plainL_not hh_4 (plainL_not hh_5 (plainL_has (by decide) hh_6 ((fieldS_list_f (g := (fun x => partS (d + 1) fs_X0 ver false x)) g_6 rfl (by decide) (fun x _ => valueS_part)).trans (by rw [hXL_6,hXE_6])) rfl)))))))
  rw [hP] at hlen
  simp only [List.length_append,List.length_nil] at hlen
  have hdK : ∀ {r : Value} {w' : World} {add : List UInt8},AppR 5 B w v s add r w' → ∀ b,b < w'.heap.size → OkS okM w.heap.size b → ¬ ownB r b := fun h b _ hk ho => (h.frame b ho).elim (hd b hk.2 hk.1) (fun h => by have := hk.2;omega)
  have ownK : ∀ {r : Value} {w' : World} {add : List UInt8} {b : Nat},AppR 5 B w v s add r w' → b < w.heap.size → ¬ ownB v b → ¬ ownB r b := fun h hb hn ho => (h.frame _ ho).elim hn (fun h => by omega)
  have ha0 : AppR 5 B w v s [] v w := AppR.refl ho
  obtain ⟨w0,hw0⟩ : ∃ w0,w0 = w := ⟨_,rfl⟩
  have hB0 := hB
  have hv_0 := hv
  refine fn_of_W Tryz.func70 rfl Tryz.results70 Tryz.ntmps70 rfl ?_
  repeat ((first | refine qA rfl ?_|refine qB ?_|refine qC rfl ?_|refine qD ?_|refine qE ?_|refine qF ?_|refine qG ?_|refine qH ?_);try simp (maxSteps:=1000000)(disch:=(first|omega|(simp only [qI,qJ,qK]<;>omega)|exact qL _)) only [go_sem,↓reduceIte,n0,reduceCtorEq,n1,n2,n3,n4,n5,i0,i1,i2,i3,i4,i5,i6,i7,hv_0])
  refine (AppendString_fn _ _ _ ha0.own hB0 (t.at 0).s (g_0.text (.inl rfl)) (by simp only [List.length_append,List.length_nil];omega)).mono ?_
  rintro r1 w1 hc1
  rw [← hXX_0] at hc1
  have ha1 := ha0.trans hc1
  have hB1 : B ≤ w1.heap.size := Nat.le_trans hB ha1.upd.size
  have hv_1 := ha1.upd.blk_some hv hdv
  repeat ((first | refine qA rfl ?_|refine qB ?_|refine qC rfl ?_|refine qD ?_|refine qE ?_|refine qF ?_|refine qG ?_|refine qH ?_);try simp (maxSteps:=1000000)(disch:=(first|omega|(simp only [qI,qJ,qK]<;>omega)|exact qL _)) only [go_sem,↓reduceIte,n0,reduceCtorEq,n1,n2,n3,n4,n5,i0,i1,i2,i3,i4,i5,i6,i7,hv_1])
  refine (AppendInt32_fn _ _ _ ha1.own hB1 _ (by simp only [List.length_append,List.length_nil];omega)).mono ?_
  rintro r2 w2 hc2
  rw [wrap32,← hXX_1] at hc2
  have ha2 := ha1.trans hc2
  have hB2 : B ≤ w2.heap.size := Nat.le_trans hB ha2.upd.size
  have hv_2 := ha2.upd.blk_some hv hdv
  repeat ((first | refine qA rfl ?_|refine qB ?_|refine qC rfl ?_|refine qD ?_|refine qE ?_|refine qF ?_|refine qG ?_|refine qH ?_);try simp (maxSteps:=1000000)(disch:=(first|omega|(simp only [qI,qJ,qK]<;>omega)|exact qL _)) only [go_sem,↓reduceIte,n0,reduceCtorEq,n1,n2,n3,n4,n5,i0,i1,i2,i3,i4,i5,i6,i7,hv_2])
  refine (AppendString_fn _ _ _ ha2.own hB2 (t.at 2).s (g_2.text (.inl rfl)) (by simp only [List.length_append,List.length_nil];omega)).mono ?_
  rintro r3 w3 hc3
  rw [← hXX_2] at hc3
  have ha3 := ha2.trans hc3
  have hB3 : B ≤ w3.heap.size := Nat.le_trans hB ha3.upd.size
  have hv_3 := ha3.upd.blk_some hv hdv
  repeat ((first | refine qA rfl ?_|refine qB ?_|refine qC rfl ?_|refine qD ?_|refine qE ?_|refine qF ?_|refine qG ?_|refine qH ?_);try simp (maxSteps:=1000000)(disch:=(first|omega|(simp only [qI,qJ,qK]<;>omega)|exact qL _)) only [go_sem,↓reduceIte,n0,reduceCtorEq,n1,n2,n3,n4,n5,i0,i1,i2,i3,i4,i5,i6,i7,hv_3])
  refine (AppendNullableString_fn (ok := okM) _ _ _ ha3.own hB3 _ (t.at 3).null (t.at 3).s (hp_3.keep (ha3.upd.keeps hd)) (g_3.text (.inl rfl)) (by simp only [List.length_append,List.length_nil];omega)).mono ?_
  rintro r4 w4 hc4
  rw [← hXX_3] at hc4
  have ha4 := ha3.trans hc4
  have hB4 : B ≤ w4.heap.size := Nat.le_trans hB ha4.upd.size
  have hv_4 := ha4.upd.blk_some hv hdv
  repeat ((first | refine qA rfl ?_|refine qB ?_|refine qC rfl ?_|refine qD ?_|refine qE ?_|refine qF ?_|refine qG ?_|refine qH ?_);try simp (maxSteps:=1000000)(disch:=(first|omega|(simp only [qI,qJ,qK]<;>omega)|exact qL _)) only [go_sem,↓reduceIte,n0,reduceCtorEq,n1,n2,n3,n4,n5,i0,i1,i2,i3,i4,i5,i6,i7,hv_4])
  refine (AppendArrayLen_fn _ _ _ ha4.own hB4 (t.at 6).l.length hll_6 (by simp only [List.length_append,List.length_nil];omega)).mono ?_
  rintro r5 w5 hc5
  rw [← hXL_6] at hc5
  have ha5 := ha4.trans hc5
  have hB5 : B ≤ w5.heap.size := Nat.le_trans hB ha5.upd.size
  have hv_5 := ha5.upd.blk_some hv hdv
  repeat ((first | refine qA rfl ?_|refine qB ?_|refine qC rfl ?_|refine qD ?_|refine qE ?_|refine qF ?_|refine qG ?_|refine qH ?_);try simp (maxSteps:=1000000)(disch:=(first|omega|(simp only [qI,qJ,qK]<;>omega)|exact qL _)) only [go_sem,↓reduceIte,n0,reduceCtorEq,n1,n2,n3,n4,n5,i0,i1,i2,i3,i4,i5,i6,i7,hv_5])
  have hadd1 := ha5
  refine W.exitJ 0 (fun ρ w' => ∃ r,ρ 1 = r ∧ ρ 0 = .pointer (some ⟨vb,0,none⟩) ∧ ρ 5 = .int .i16 ver ∧ ρ 6 = .bool false ∧ AppR 5 B w v s (([] ++ X_0 ++ X_1 ++ X_2 ++ X_3 ++ XL_6) ++ XE_6) r w')
    (W.loop (fun ρ w' => ∃ (j : Nat) (r : Value),j ≤ (t.at 6).l.length ∧ ρ 109 = .int .i64 j ∧ ρ 108 = .int .i64 (t.at 6).l.length ∧ ρ 13 = .slice ab_6 (t.at 6).l.length ac_6 ∧ ρ 1 = r ∧ ρ 0 = .pointer (some ⟨vb,0,none⟩) ∧ ρ 5 = .int .i16 ver ∧ ρ 6 = .bool false ∧ AppR 5 B w v s (([] ++ X_0 ++ X_1 ++ X_2 ++ X_3 ++ XL_6) ++ ((t.at 6).l.take j).flatMap (fun x => partS (d + 1) fs_X0 ver false x)) r w')
      (fun ρ _ => (t.at 6).l.length - (RowKit.intOf (ρ 109)).toNat) ?_ ?_) ?_
  · refine ⟨0,_,Nat.zero_le _,?_,?_,?_,?_,?_,?_,?_,ha5.eqs (by rw [List.take_zero,List.flatMap_nil,List.append_nil])⟩ <;> simp (maxSteps:=1000000)(disch:=(first|omega|(simp only [qI,qJ,qK]<;>omega)|exact qL _)) only [go_sem,↓reduceIte,n0,reduceCtorEq,n1,n2,n3,n4,n5,i0,i1,i2,i3,i4,i5,i6,i7]
    all_goals rfl
  · rintro ρ w6 ⟨j1,r6,hj1,hI1,hN1,hS1,hr1_1,hr1_0,hr1_5,hr1_6,ha6⟩
    have hB6 : B ≤ w6.heap.size := Nat.le_trans hB ha6.upd.size
    have hv_6 := ha6.upd.blk_some hv hdv
    by_cases hlt1 : j1 < (t.at 6).l.length
    · obtain ⟨_,b1,o1,x1,ce1,hb1,hok1,hx1,hbl1,hxs1,hxe1,hq1,hRe1⟩ := SlR.get (size := 3) (by decide) hs_6 hlt1
      subst hb1
      have hcat1 : (t.at 6).l.take (j1 + 1) = (t.at 6).l.take j1 ++ [(t.at 6).l[j1]] := List.take_succ_eq_append_getElem hlt1
      have htl1 := take_flatMap_len (t.at 6).l (fun x => partS (d + 1) fs_X0 ver false x) (j1 + 1)
      rw [← hXE_6,hcat1,List.flatMap_append,List.flatMap_cons,List.flatMap_nil,List.append_nil] at htl1
      have hge1 := (g_6.list rfl).2 _ (List.getElem_mem hlt1)
      generalize (t.at 6).l[j1] = y1 at *
      have hnx1 := hd b1 hbl1 hok1
      obtain ⟨T1,hTT1⟩ : ∃ T,T = ((t.at 6).l.take j1).flatMap (fun x => partS (d + 1) fs_X0 ver false x) := ⟨_,rfl⟩
      rw [← hTT1] at ha6 htl1
      have hx1_6 := ha6.upd.blk_some hx1 hnx1
      replace hRe1 : RepS true (d + 1) fs_X0 okM w y1 ce1 := Rep1_part.1 hRe1
      have hfe1 : FitW ver (d + 1) fs_X0 y1 := hge1.2 rfl
      obtain ⟨⟨ge1_0,ge1_1,-⟩,hfue1⟩ := hfe1
      replace ge1_0 : hasS fX0_0 ver = true → FitWF (FitW ver d) ver fX0_0 (y1.at 0) := ge1_0
      have hhe1_0 : hasS fX0_0 ver = true := hasS_t (by show (0 : Int) ≤ ver;omega) (by show (-1 : Int) < 0 ∨ ver ≤ (-1 : Int);omega)
      replace ge1_0 := ge1_0 hhe1_0
      replace ge1_1 : hasS fX0_1 ver = true → FitWF (FitW ver d) ver fX0_1 (y1.at 1) := ge1_1
      have hhe1_1 : hasS fX0_1 ver = true := hasS_t (by show (0 : Int) ≤ ver;omega) (by show (-1 : Int) < 0 ∨ ver ≤ (-1 : Int);omega)
      replace ge1_1 := ge1_1 hhe1_1
      obtain ⟨cse1,qe1,hcse1,hLe1,hTe1⟩ := hRe1.inv
      obtain ⟨ce1_0,ee1_0,rfl,he1_0,ce1_1,ee1_1,rfl,he1_1,rfl⟩ := hLe1
      replace he1_0 : RepF (RepS true d) (szS true d) fX0_0 okM w (y1.at 0) ce1_0 := he1_0
      replace he1_1 : RepF (RepS true d) (szS true d) fX0_1 okM w (y1.at 1) ce1_1 := he1_1
      obtain rfl := (RepF_text rfl (by decide)).1 he1_0
      obtain ⟨pe1_1,rfl,hpe1_1⟩ := RepF_bytesW ge1_1 rfl (by decide) he1_1
      obtain ⟨qme1,rfl⟩ := hTe1.shape
      subst hcse1
      have hq1_0 : x1.1[o1 + j1 * 3]? = some (strV (y1.at 0).s) := hq1 0 (by decide)
      have hq1_1 : x1.1[o1 + (j1 * 3 + 1)]? = some (pe1_1) := hq1 1 (by decide)
      have hq1_2 : x1.1[o1 + (j1 * 3 + 2)]? = some (.map qme1) := hq1 2 (by decide)
      obtain ⟨Xe1_0,hXXe1_0⟩ : ∃ X,X = fixedS (y1.at 0).s.length 2 ++ (y1.at 0).s := ⟨_,rfl⟩
      obtain ⟨Xe1_1,hXXe1_1⟩ : ∃ X,X = fixedS (y1.at 1).s.length 4 ++ (y1.at 1).s := ⟨_,rfl⟩
      have hPe1 : partS (d + 1) fs_X0 ver false y1 = Xe1_0 ++ (Xe1_1 ++ []) := partS_no (plainL_has (by decide) hhe1_0 ((fieldS_text_f ge1_0 rfl (by decide)).trans hXXe1_0.symm) (plainL_has (by decide) hhe1_1 ((fieldS_bytes_f ge1_1 rfl (by decide)).trans hXXe1_1.symm) rfl))
      rw [hPe1] at htl1
      simp only [List.length_append,List.length_nil] at htl1
      repeat ((first | refine qA rfl ?_|refine qB ?_|refine qC rfl ?_|refine qD ?_|refine qE ?_|refine qF ?_|refine qG ?_|refine qH ?_);try simp (maxSteps:=1000000)(disch:=(first|omega|(simp only [qI,qJ,qK]<;>omega)|exact qL _)) only [go_sem,↓reduceIte,n0,reduceCtorEq,n1,n2,n3,n4,n5,i0,i1,i2,i3,i4,i5,i6,i7,hv_6,hx1_6,Int.toNat_natCast,Nat.mul_one,hq1_0,hq1_1,hq1_2,hr1_1,hr1_0,hr1_5,hr1_6,hI1,hN1,hS1])
      refine (AppendString_fn _ _ _ ha6.own hB6 (y1.at 0).s (ge1_0.text (.inl rfl)) (by simp only [List.length_append,List.length_nil];omega)).mono ?_
      rintro r7 w7 hc7
      rw [← hXXe1_0] at hc7
      have ha7 := ha6.trans hc7
      have hB7 : B ≤ w7.heap.size := Nat.le_trans hB ha7.upd.size
      have hv_7 := ha7.upd.blk_some hv hdv
      have hx1_7 := ha7.upd.blk_some hx1 hnx1
      repeat ((first | refine qA rfl ?_|refine qB ?_|refine qC rfl ?_|refine qD ?_|refine qE ?_|refine qF ?_|refine qG ?_|refine qH ?_);try simp (maxSteps:=1000000)(disch:=(first|omega|(simp only [qI,qJ,qK]<;>omega)|exact qL _)) only [go_sem,↓reduceIte,n0,reduceCtorEq,n1,n2,n3,n4,n5,i0,i1,i2,i3,i4,i5,i6,i7,hv_7,hx1_7,Int.toNat_natCast,Nat.mul_one,hq1_0,hq1_1,hq1_2,hr1_1,hr1_0,hr1_5,hr1_6,hI1,hN1,hS1])
      refine (AppendBytes_fn (ok := OkS okM w.heap.size) _ _ _ ha7.own hB7 _ (y1.at 1).s ((hpe1_1.weaken fun b h1 h2 => ⟨h2,h1⟩).keep (ha7.upd.keeps fun b hb hk => hd b hb hk.1)) (hdK ha7) (ge1_1.text (.inr rfl)) (by simp only [List.length_append,List.length_nil];omega)).mono ?_
      rintro r8 w8 hc8
      rw [← hXXe1_1] at hc8
      have ha8 := ha7.trans hc8
      have hB8 : B ≤ w8.heap.size := Nat.le_trans hB ha8.upd.size
      have hv_8 := ha8.upd.blk_some hv hdv
      have hx1_8 := ha8.upd.blk_some hx1 hnx1
      repeat ((first | refine qA rfl ?_|refine qB ?_|refine qC rfl ?_|refine qD ?_|refine qE ?_|refine qF ?_|refine qG ?_|refine qH ?_);try simp (maxSteps:=1000000)(disch:=(first|omega|(simp only [qI,qJ,qK]<;>omega)|exact qL _)) only [go_sem,↓reduceIte,n0,reduceCtorEq,n1,n2,n3,n4,n5,i0,i1,i2,i3,i4,i5,i6,i7,hr1_1,hr1_0,hr1_5,hr1_6,hI1,hN1,hS1])
      refine ⟨⟨j1 + 1,_,by omega,rfl,rfl,ha8.eqs ?_⟩,?_⟩
      · rw [hcat1,List.flatMap_append,List.flatMap_cons,List.flatMap_nil,List.append_nil,← hTT1,hPe1];simp only [List.append_assoc,List.append_nil,List.nil_append]
      · simp only [RowKit.intOf];omega
    · have hjl1 : j1 = (t.at 6).l.length := by omega
      subst hjl1
      rw [List.take_length,← hXE_6] at ha6
      repeat ((first | refine qA rfl ?_|refine qB ?_|refine qC rfl ?_|refine qD ?_|refine qE ?_|refine qF ?_|refine qG ?_|refine qH ?_);try simp (maxSteps:=1000000)(disch:=(first|omega|(simp only [qI,qJ,qK]<;>omega)|exact qL _)) only [go_sem,↓reduceIte,n0,reduceCtorEq,n1,n2,n3,n4,n5,i0,i1,i2,i3,i4,i5,i6,i7,hI1,hN1])
      exact ⟨_,hr1_1,hr1_0,hr1_5,hr1_6,ha6⟩
  · rintro ρ w9 ⟨r9,hr1_2,hr2_0,hr2_5,hr2_6,ha9⟩
    have hB9 : B ≤ w9.heap.size := Nat.le_trans hB ha9.upd.size
    have hv_9 := ha9.upd.blk_some hv hdv
    repeat ((first | refine qA rfl ?_|refine qB ?_|refine qC rfl ?_|refine qD ?_|refine qE ?_|refine qF ?_|refine qG ?_|refine qH ?_);try simp (maxSteps:=1000000)(disch:=(first|omega|(simp only [qI,qJ,qK]<;>omega)|exact qL _)) only [go_sem,↓reduceIte,n0,reduceCtorEq,n1,n2,n3,n4,n5,i0,i1,i2,i3,i4,i5,i6,i7,hv_9,hr1_2,hr2_0,hr2_5,hr2_6])
    refine ha9.eqs ?_
    rw [hP];simp only [List.append_assoc,List.append_nil,List.nil_append]
end Ms

