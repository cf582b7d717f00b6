/- A part of the proof: see the last text. -/
import Derived.Test.YtkoeaaababfjkaaGreatDoorSyncGroupRequestP0
set_option linter.unusedSimpArgs false
set_option linter.unusedVariables false
namespace Ms
open Go.World renaming size_alloc → qI
open Ms renaming size_wr → qJ,size_drew → qK,not_noB → qL
open W renaming seqR → qA,seq → qB,regR → qC,condK → qD,block → qE,skip → qF,ret → qG,exit → qH
open Nat renaming reduceEqDiff → n0,reduceAdd → n1,reduceMul → n2,reduceSub → n3,reduceLT → n4,reduceLeDiff → n5
open Int renaming reduceEq → i0,reduceLT → i1,reduceLE → i2,reduceNeg → i3,reduceAdd → i4,reduceSub → i5,reduceMul → i6,reduceToNat → i7
set_option maxRecDepth 8000
open Go Go.Proofs Go.Shelf
attribute [local congr] W_congr WPsq_congr WPp_congr optK_congr addrK_congr intK_congr boolK_congr sliceK_congr tupleK_congr funcK_congr Fn_congr rawK_congr takeK_congr stepK_congr convK_congr aggK_congr

set_option maxHeartbeats 4000000 in
theorem readSyncGroupRequest_1 {d : Nat} {ok : Blocks} {ver : Int} {ev : Value} (hlo : 3 ≤ ver) (hhi : ver ≤ 3) (w : World) {vb : Nat} (src : Value) (s : List UInt8) (hv : blk w vb = some (#[.int .i16 ver,.string ByteArray.empty,.int .i32 0,.string ByteArray.empty,.pointer none,.pointer none,.pointer none,.slice none 0 0,.map none],123,(0,0))) (hsrc : BytesV ok w src s) (hok0 : ∀ b,ok b → b < w.heap.size ∧ b ≠ vb) (hG : Glo ev w) (hgv : ¬ 0 = vb ∧ ¬ 1 = vb) :
    Fn Tryz.prog 113 #[.pointer (some ⟨vb,0,none⟩),src,.bool false] w (ReadQ 123 ok ver (d + 2) fs_SyncGroupRequest vb w (rdP (d + 2) ver false fs_SyncGroupRequest (some s)) ev) := by
  have hvl := blk_lt hv
  have hgs := hG.lt
  obtain ⟨sa,sc,rfl,_⟩ := hsrc.shape
  refine fn_of_W Tryz.func113 rfl Tryz.results113 Tryz.ntmps113 rfl ?_
  repeat ((first | refine qA rfl ?_|refine qB ?_|refine qC rfl ?_|refine qD ?_|refine qE ?_|refine qF ?_|refine qG ?_|refine qH ?_);try simp (maxSteps:=1000000)(disch:=(first|omega|(simp only [qI,qJ,qK]<;>omega)|exact qL _)) only [go_sem,↓reduceIte,n0,reduceCtorEq,n1,n2,n3,n4,n5,i0,i1,i2,i3,i4,i5,i6,i7,hv])
  refine (DefaultSyncGroupRequest_fn w hv).mono ?_
  rintro _ w0 ⟨hv0,hu0⟩
  have hz0 := hu0.size
  have hsrc0 : BytesV ok w0 (.slice sa s.length sc) s := hsrc.keep (hu0.keeps fun b _ hk e => (hok0 b hk).2 e)
  obtain ⟨rb,hrb⟩ : ∃ r,r = w0.heap.size := ⟨_,rfl⟩
  have hE1 : Ext w0 (wr (w0.alloc (.cells #[.slice none 0 0,.bool false] 153)) w0.heap.size 0 [.slice sa s.length sc,.bool false]) := (Upd.alloc (Upd.refl _ _) _).wr _ _ (.inl (Nat.le_refl _))
  have hz1 : (wr (w0.alloc (.cells #[.slice none 0 0,.bool false] 153)) w0.heap.size 0 [.slice sa s.length sc,.bool false]).heap.size = w0.heap.size + 1 := by rw [size_wr,World.size_alloc]
  have hR1 : Rdr RT ok (wr (w0.alloc (.cells #[.slice none 0 0,.bool false] 153)) w0.heap.size 0 [.slice sa s.length sc,.bool false]) w0.heap.size (some s) := Rdr.good (v := .slice sa s.length sc) (by simp (maxSteps:=1000000)(disch:=(first|omega|(simp only [qI,qJ,qK]<;>omega)|exact qL _)) only [go_sem,↓reduceIte,n0,reduceCtorEq,n1,n2,n3,n4,n5,i0,i1,i2,i3,i4,i5,i6,i7]) (hsrc0.keep (hE1.keeps _))
  have hv_1 := hE1.blk_some hv0 id
  repeat ((first | refine qA rfl ?_|refine qB ?_|refine qC rfl ?_|refine qD ?_|refine qE ?_|refine qF ?_|refine qG ?_|refine qH ?_);try simp (maxSteps:=1000000)(disch:=(first|omega|(simp only [qI,qJ,qK]<;>omega)|exact qL _)) only [go_sem,↓reduceIte,n0,reduceCtorEq,n1,n2,n3,n4,n5,i0,i1,i2,i3,i4,i5,i6,i7,hv0])
  generalize (wr (w0.alloc (.cells #[.slice none 0 0,.bool false] 153)) w0.heap.size 0 [.slice sa s.length sc,.bool false]) = w1 at *
  rw [← hrb] at hR1
  try rw [← hrb]
  have hok : ∀ b,ok b → b < w.heap.size ∧ b ≠ vb := hok0
  have hrok : ¬ ok rb := fun h => by have := (hok rb h).1;omega
  have hbase : Upd (fun b => b = vb) w w1 := hu0.trans (hE1.mono fun _ h => h.elim)
  have hG1 : Glo ev w1 := hG.updS hbase hgv.1 hgv.2
  have hgrb : ¬ 0 = rb := by omega
  have hgM1 : ¬ (0 = vb ∨ 0 = rb) := fun h => h.elim hgv.1 fun h => by omega
  have hgM2 : ¬ (1 = vb ∨ 1 = rb) := fun h => h.elim hgv.2 fun h => by omega
  obtain ⟨s0,hs0⟩ : ∃ s' : St,s' = some s := ⟨_,rfl⟩
  rw [← hs0] at hR1 ⊢
  have hU1 : Upd (fun b => b = vb ∨ b = rb) w1 w1 := Upd.refl _ _
  have hoM : ∀ b,(ok b ∨ w1.heap.size ≤ b) → ¬ (b = vb ∨ b = rb) := fun b hk h => by
    rcases hk with hk | hk
    · have := hok b hk;rcases h with h | h <;> omega
    · rcases h with h | h <;> omega
  have hq1 : Rdr RT ok w1 rb s0 := hR1
  obtain ⟨FB,hFB⟩ : ∃ P : Prop,P = ((rdP (d + 2) ver false fs_SyncGroupRequest s0).2 = none) := ⟨_,rfl⟩
  have hb_0 : (rdL (rdP (d + 1) ver false) (dfP (d + 1)) ver false [fSyncGroupRequest_0,fSyncGroupRequest_1,fSyncGroupRequest_2,fSyncGroupRequest_3,fSyncGroupRequest_4,fSyncGroupRequest_5,fSyncGroupRequest_6] s0).2 = none → FB := fun h => Eq.mpr hFB (rdP_bad h)
  have hh_0 : hasS fSyncGroupRequest_0 ver = true := hasS_t (by show (0 : Int) ≤ ver;omega) (by show (-1 : Int) < 0 ∨ ver ≤ (-1 : Int);omega)
  obtain ⟨x_0,hx_0⟩ : ∃ x,x = (rdF (rdP (d + 1) ver false) ver false fSyncGroupRequest_0 s0).1 := ⟨_,rfl⟩
  repeat ((first | refine qA rfl ?_|refine qB ?_|refine qC rfl ?_|refine qD ?_|refine qE ?_|refine qF ?_|refine qG ?_|refine qH ?_);try simp (maxSteps:=1000000)(disch:=(first|omega|(simp only [qI,qJ,qK]<;>omega)|exact qL _)) only [go_sem,↓reduceIte,n0,reduceCtorEq,n1,n2,n3,n4,n5,i0,i1,i2,i3,i4,i5,i6,i7,hv_1])
  have hmay : mayS fSyncGroupRequest_0 ver = false := mayS_no (by show (-1 : Int) < 0 ∨ ver < (-1 : Int);omega)
  have hrd : rdF (rdP (d + 1) ver false) ver false fSyncGroupRequest_0 s0 = _ := rdF_text rfl hmay
  refine (RString_fn w1 hq1 hrok hG1.1 hgrb).mono ?_
  rintro _ w2 ⟨rfl,hq2,hu2⟩
  have hv_2 := hu2.blk_some hv_1 (by omega)
  have hV2 : Upd (fun b => b = vb ∨ b = rb) w1 w2 := hu2.mono (fun _ h => .inr h)
  have hU2 : Upd (fun b => b = vb ∨ b = rb) w1 w2 := hU1.trans hV2
  have hz2 := hV2.size
  have hG2 : Glo ev w2 := hG1.updS hU2 hgM1 hgM2
  have hst : (rdF (rdP (d + 1) ver false) ver false fSyncGroupRequest_0 s0).2 = (rdStr false s0).2 := by first | (rw [hrd];rfl) | rw [hrd]
  obtain ⟨s1,hs1⟩ : ∃ s,s = (rdF (rdP (d + 1) ver false) ver false fSyncGroupRequest_0 s0).2 := ⟨_,rfl⟩
  rw [← hst,← hs1] at hq2
  clear hst
  repeat ((first | refine qA rfl ?_|refine qB ?_|refine qC rfl ?_|refine qD ?_|refine qE ?_|refine qF ?_|refine qG ?_|refine qH ?_);try simp (maxSteps:=1000000)(disch:=(first|omega|(simp only [qI,qJ,qK]<;>omega)|exact qL _)) only [go_sem,↓reduceIte,n0,reduceCtorEq,n1,n2,n3,n4,n5,i0,i1,i2,i3,i4,i5,i6,i7,hv_2])
  generalize hw3 : wr w2 vb 1 [strV (rdStr false s0).1] = w3
  have hS3 : Upd (fun b => b = vb ∨ b = rb) w2 w3 := by rw [← hw3];exact (Upd.refl _ _).wr _ _ (.inr (.inl rfl))
  have hv_3 : blk w3 vb = some (#[.int .i16 ver,strV (rdStr false s0).1,.int .i32 0,.string ByteArray.empty,.pointer none,.pointer none,.pointer none,.slice none 0 0,.map none],123,(0,0)) := by rw [← hw3,blk_wr_eq,hv_2];rfl
  have hV3 := hS3
  have hU3 : Upd (fun b => b = vb ∨ b = rb) w1 w3 := hU2.trans hV3
  have hz3 := hV3.size
  have hG3 : Glo ev w3 := hG1.updS hU3 hgM1 hgM2
  have hq3 : Rdr RT ok w3 rb s1 ∧ NN w3 rb s1 := by
    have hn : ∀ x,x = w3 → (Rdr RT ok x rb s1 ∧ NN x rb s1) := fun x hx => by
      rw [hx,← hw3]
      exact Rdr.store hq2 (by omega) (fun h => by have := (hok _ h).1;first | omega | exact (hok _ h).2 rfl)
    exact hn _ rfl
  clear hw3
  have hf_0 : RepF (RepS true (d + 1)) (szS true (d + 1)) fSyncGroupRequest_0 (fun b => ok b ∨ w1.heap.size ≤ b) w3 (x_0) [strV (rdStr false s0).1] := (RepF_text rfl (by decide)).2 (by rw [hx_0,hrd];rfl)
  clear hrd
  have hb_1 : (rdL (rdP (d + 1) ver false) (dfP (d + 1)) ver false [fSyncGroupRequest_1,fSyncGroupRequest_2,fSyncGroupRequest_3,fSyncGroupRequest_4,fSyncGroupRequest_5,fSyncGroupRequest_6] s1).2 = none → FB := fun h => hb_0 (by rw [rdL_st (by decide) hh_0,← hs1];exact h)
  have hh_1 : hasS fSyncGroupRequest_1 ver = true := hasS_t (by show (0 : Int) ≤ ver;omega) (by show (-1 : Int) < 0 ∨ ver ≤ (-1 : Int);omega)
  obtain ⟨x_1,hx_1⟩ : ∃ x,x = (rdF (rdP (d + 1) ver false) ver false fSyncGroupRequest_1 s1).1 := ⟨_,rfl⟩
  repeat ((first | refine qA rfl ?_|refine qB ?_|refine qC rfl ?_|refine qD ?_|refine qE ?_|refine qF ?_|refine qG ?_|refine qH ?_);try simp (maxSteps:=1000000)(disch:=(first|omega|(simp only [qI,qJ,qK]<;>omega)|exact qL _)) only [go_sem,↓reduceIte,n0,reduceCtorEq,n1,n2,n3,n4,n5,i0,i1,i2,i3,i4,i5,i6,i7,hv_3])
  have hrd : rdF (rdP (d + 1) ver false) ver false fSyncGroupRequest_1 s1 = _ := rdF_num 3 rfl (by decide)
  refine (Int32_fn w3 hq3.1 hrok hG3.1 hgrb).mono ?_
  rintro _ w4 ⟨rfl,hq4,hu4⟩
  have hv_4 := hu4.blk_some hv_3 (by omega)
  have hV4 : Upd (fun b => b = vb ∨ b = rb) w3 w4 := hu4.mono (fun _ h => .inr h)
  have hU4 : Upd (fun b => b = vb ∨ b = rb) w1 w4 := hU3.trans hV4
  have hz4 := hV4.size
  have hG4 : Glo ev w4 := hG1.updS hU4 hgM1 hgM2
  have hst : (rdF (rdP (d + 1) ver false) ver false fSyncGroupRequest_1 s1).2 = (rdInt .i32 4 s1).2 := by first | (rw [hrd];rfl) | rw [hrd]
  obtain ⟨s2,hs2⟩ : ∃ s,s = (rdF (rdP (d + 1) ver false) ver false fSyncGroupRequest_1 s1).2 := ⟨_,rfl⟩
  rw [← hst,← hs2] at hq4
  clear hst
  repeat ((first | refine qA rfl ?_|refine qB ?_|refine qC rfl ?_|refine qD ?_|refine qE ?_|refine qF ?_|refine qG ?_|refine qH ?_);try simp (maxSteps:=1000000)(disch:=(first|omega|(simp only [qI,qJ,qK]<;>omega)|exact qL _)) only [go_sem,↓reduceIte,n0,reduceCtorEq,n1,n2,n3,n4,n5,i0,i1,i2,i3,i4,i5,i6,i7,hv_4])
  generalize hw5 : wr w4 vb 2 [.int .i32 (rdInt .i32 4 s1).1] = w5
  have hS5 : Upd (fun b => b = vb ∨ b = rb) w4 w5 := by rw [← hw5];exact (Upd.refl _ _).wr _ _ (.inr (.inl rfl))
  have hv_5 : blk w5 vb = some (#[.int .i16 ver,strV (rdStr false s0).1,.int .i32 (rdInt .i32 4 s1).1,.string ByteArray.empty,.pointer none,.pointer none,.pointer none,.slice none 0 0,.map none],123,(0,0)) := by rw [← hw5,blk_wr_eq,hv_4];rfl
  have hV5 := hS5
  have hU5 : Upd (fun b => b = vb ∨ b = rb) w1 w5 := hU4.trans hV5
  have hz5 := hV5.size
  have hG5 : Glo ev w5 := hG1.updS hU5 hgM1 hgM2
  have hq5 : Rdr RT ok w5 rb s2 ∧ NN w5 rb s2 := by
    have hn : ∀ x,x = w5 → (Rdr RT ok x rb s2 ∧ NN x rb s2) := fun x hx => by
      rw [hx,← hw5]
      exact Rdr.store hq4 (by omega) (fun h => by have := (hok _ h).1;first | omega | exact (hok _ h).2 rfl)
    exact hn _ rfl
  clear hw5
  have hf_1 : RepF (RepS true (d + 1)) (szS true (d + 1)) fSyncGroupRequest_1 (fun b => ok b ∨ w1.heap.size ≤ b) w5 (x_1) [.int .i32 (rdInt .i32 4 s1).1] := (RepF_num (by decide)).2 (by rw [hx_1,hrd];exact congrArg (fun x => [x]) (numC_rd 3 (by decide) 4 s1).symm)
  clear hrd
  have hb_2 : (rdL (rdP (d + 1) ver false) (dfP (d + 1)) ver false [fSyncGroupRequest_2,fSyncGroupRequest_3,fSyncGroupRequest_4,fSyncGroupRequest_5,fSyncGroupRequest_6] s2).2 = none → FB := fun h => hb_1 (by rw [rdL_st (by decide) hh_1,← hs2];exact h)
  have hh_2 : hasS fSyncGroupRequest_2 ver = true := hasS_t (by show (0 : Int) ≤ ver;omega) (by show (-1 : Int) < 0 ∨ ver ≤ (-1 : Int);omega)
  obtain ⟨x_2,hx_2⟩ : ∃ x,x = (rdF (rdP (d + 1) ver false) ver false fSyncGroupRequest_2 s2).1 := ⟨_,rfl⟩
  repeat ((first | refine qA rfl ?_|refine qB ?_|refine qC rfl ?_|refine qD ?_|refine qE ?_|refine qF ?_|refine qG ?_|refine qH ?_);try simp (maxSteps:=1000000)(disch:=(first|omega|(simp only [qI,qJ,qK]<;>omega)|exact qL _)) only [go_sem,↓reduceIte,n0,reduceCtorEq,n1,n2,n3,n4,n5,i0,i1,i2,i3,i4,i5,i6,i7,hv_5])
  have hmay : mayS fSyncGroupRequest_2 ver = false := mayS_no (by show (-1 : Int) < 0 ∨ ver < (-1 : Int);omega)
  have hrd : rdF (rdP (d + 1) ver false) ver false fSyncGroupRequest_2 s2 = _ := rdF_text rfl hmay
  refine (RString_fn w5 hq5.1 hrok hG5.1 hgrb).mono ?_
  rintro _ w6 ⟨rfl,hq6,hu6⟩
  have hv_6 := hu6.blk_some hv_5 (by omega)
  have hV6 : Upd (fun b => b = vb ∨ b = rb) w5 w6 := hu6.mono (fun _ h => .inr h)
  have hU6 : Upd (fun b => b = vb ∨ b = rb) w1 w6 := hU5.trans hV6
  have hz6 := hV6.size
  have hG6 : Glo ev w6 := hG1.updS hU6 hgM1 hgM2
  have hst : (rdF (rdP (d + 1) ver false) ver false fSyncGroupRequest_2 s2).2 = (rdStr false s2).2 := by first | (rw [hrd];rfl) | rw [hrd]
  obtain ⟨s3,hs3⟩ : ∃ s,s = (rdF (rdP (d + 1) ver false) ver false fSyncGroupRequest_2 s2).2 := ⟨_,rfl⟩
  rw [← hst,← hs3] at hq6
  clear hst
  repeat ((first | refine qA rfl ?_|refine qB ?_|refine qC rfl ?_|refine qD ?_|refine qE ?_|refine qF ?_|refine qG ?_|refine qH ?_);try simp (maxSteps:=1000000)(disch:=(first|omega|(simp only [qI,qJ,qK]<;>omega)|exact qL _)) only [go_sem,↓reduceIte,n0,reduceCtorEq,n1,n2,n3,n4,n5,i0,i1,i2,i3,i4,i5,i6,i7,hv_6])
  generalize hw7 : wr w6 vb 3 [strV (rdStr false s2).1] = w7
  have hS7 : Upd (fun b => b = vb ∨ b = rb) w6 w7 := by rw [← hw7];exact (Upd.refl _ _).wr _ _ (.inr (.inl rfl))
  have hv_7 : blk w7 vb = some (#[.int .i16 ver,strV (rdStr false s0).1,.int .i32 (rdInt .i32 4 s1).1,strV (rdStr false s2).1,.pointer none,.pointer none,.pointer none,.slice none 0 0,.map none],123,(0,0)) := by rw [← hw7,blk_wr_eq,hv_6];rfl
  have hV7 := hS7
  have hU7 : Upd (fun b => b = vb ∨ b = rb) w1 w7 := hU6.trans hV7
  have hz7 := hV7.size
  have hG7 : Glo ev w7 := hG1.updS hU7 hgM1 hgM2
  have hq7 : Rdr RT ok w7 rb s3 ∧ NN w7 rb s3 := by
    have hn : ∀ x,x = w7 → (Rdr RT ok x rb s3 ∧ NN x rb s3) := fun x hx => by
      rw [hx,← hw7]
      exact Rdr.store hq6 (by omega) (fun h => by have := (hok _ h).1;first | omega | exact (hok _ h).2 rfl)
    exact hn _ rfl
  clear hw7
  have hf_2 : RepF (RepS true (d + 1)) (szS true (d + 1)) fSyncGroupRequest_2 (fun b => ok b ∨ w1.heap.size ≤ b) w7 (x_2) [strV (rdStr false s2).1] := (RepF_text rfl (by decide)).2 (by rw [hx_2,hrd];rfl)
  clear hrd
  have hb_3 : (rdL (rdP (d + 1) ver false) (dfP (d + 1)) ver false [fSyncGroupRequest_3,fSyncGroupRequest_4,fSyncGroupRequest_5,fSyncGroupRequest_6] s3).2 = none → FB := fun h => hb_2 (by rw [rdL_st (by decide) hh_2,← hs3];exact h)
  have hh_3 : hasS fSyncGroupRequest_3 ver = true := hasS_t (by show (3 : Int) ≤ ver;omega) (by show (-1 : Int) < 0 ∨ ver ≤ (-1 : Int);omega)
  obtain ⟨x_3,hx_3⟩ : ∃ x,x = (rdF (rdP (d + 1) ver false) ver false fSyncGroupRequest_3 s3).1 := ⟨_,rfl⟩
  repeat ((first | refine qA rfl ?_|refine qB ?_|refine qC rfl ?_|refine qD ?_|refine qE ?_|refine qF ?_|refine qG ?_|refine qH ?_);try simp (maxSteps:=1000000)(disch:=(first|omega|(simp only [qI,qJ,qK]<;>omega)|exact qL _)) only [go_sem,↓reduceIte,n0,reduceCtorEq,n1,n2,n3,n4,n5,i0,i1,i2,i3,i4,i5,i6,i7,hv_7])
  have hmay : mayS fSyncGroupRequest_3 ver = true := mayS_yes (by decide) (by show (3 : Int) ≤ ver;omega)
  have hrd : rdF (rdP (d + 1) ver false) ver false fSyncGroupRequest_3 s3 = _ := rdF_ptr rfl hmay
  refine (RNullableString_fn w7 hq7.1 hrok hG7.1 hgrb).mono ?_
  rintro r8 w8 ⟨hp8,hq8,hu8⟩
  obtain ⟨ap8,rfl⟩ := hp8.shape
  have hv_8 := hu8.blk_some hv_7 (by omega)
  have hV8 : Upd (fun b => b = vb ∨ b = rb) w7 w8 := hu8.mono (fun _ h => .inr h)
  have hU8 : Upd (fun b => b = vb ∨ b = rb) w1 w8 := hU7.trans hV8
  have hz8 := hV8.size
  have hG8 : Glo ev w8 := hG1.updS hU8 hgM1 hgM2
  have hst : (rdF (rdP (d + 1) ver false) ver false fSyncGroupRequest_3 s3).2 = (rdNStr false s3).2 := by first | (rw [hrd];rfl) | rw [hrd]
  obtain ⟨s4,hs4⟩ : ∃ s,s = (rdF (rdP (d + 1) ver false) ver false fSyncGroupRequest_3 s3).2 := ⟨_,rfl⟩
  rw [← hst,← hs4] at hq8
  clear hst
  repeat ((first | refine qA rfl ?_|refine qB ?_|refine qC rfl ?_|refine qD ?_|refine qE ?_|refine qF ?_|refine qG ?_|refine qH ?_);try simp (maxSteps:=1000000)(disch:=(first|omega|(simp only [qI,qJ,qK]<;>omega)|exact qL _)) only [go_sem,↓reduceIte,n0,reduceCtorEq,n1,n2,n3,n4,n5,i0,i1,i2,i3,i4,i5,i6,i7,hv_8])
  generalize hw9 : wr w8 vb 4 [.pointer ap8] = w9
  have hS9 : Upd (fun b => b = vb ∨ b = rb) w8 w9 := by rw [← hw9];exact (Upd.refl _ _).wr _ _ (.inr (.inl rfl))
  have hv_9 : blk w9 vb = some (#[.int .i16 ver,strV (rdStr false s0).1,.int .i32 (rdInt .i32 4 s1).1,strV (rdStr false s2).1,.pointer ap8,.pointer none,.pointer none,.slice none 0 0,.map none],123,(0,0)) := by rw [← hw9,blk_wr_eq,hv_8];rfl
  have hV9 := hS9
  have hU9 : Upd (fun b => b = vb ∨ b = rb) w1 w9 := hU8.trans hV9
  have hz9 := hV9.size
  have hG9 : Glo ev w9 := hG1.updS hU9 hgM1 hgM2
  have hq9 : Rdr RT ok w9 rb s4 ∧ NN w9 rb s4 := by
    have hn : ∀ x,x = w9 → (Rdr RT ok x rb s4 ∧ NN x rb s4) := fun x hx => by
      rw [hx,← hw9]
      exact Rdr.store hq8 (by omega) (fun h => by have := (hok _ h).1;first | omega | exact (hok _ h).2 rfl)
    exact hn _ rfl
  clear hw9
  have hf_3 : RepF (RepS true (d + 1)) (szS true (d + 1)) fSyncGroupRequest_3 (fun b => ok b ∨ w1.heap.size ≤ b) w9 (x_3) [.pointer ap8] := (RepF_ptr rfl (by decide)).2 ⟨_,rfl,by rw [hx_3,hrd];exact (hp8.weaken fun b _ hk => by have hk' : w7.heap.size ≤ b := hk;exact .inr (by omega)).keep (hV9.keeps fun b _ hk e => (hoM b hk) e)⟩
  clear hrd
  have hb_4 : (rdL (rdP (d + 1) ver false) (dfP (d + 1)) ver false [fSyncGroupRequest_4,fSyncGroupRequest_5,fSyncGroupRequest_6] s4).2 = none → FB := fun h => hb_3 (by rw [rdL_st (by decide) hh_3,← hs4];exact h)
  obtain ⟨x_4,hx_4⟩ : ∃ x,x = dfF (dfP (d + 1)) fSyncGroupRequest_4 := ⟨_,rfl⟩
  have hf_4 : RepF (RepS true (d + 1)) (szS true (d + 1)) fSyncGroupRequest_4 (fun b => ok b ∨ w1.heap.size ≤ b) w9 (x_4) [.pointer none] := by rw [hx_4];exact (RepF_ptr rfl (by decide)).2 ⟨_,rfl,rfl⟩
  have hh_4 : hasS fSyncGroupRequest_4 ver = false := hasS_f (by show ver < 5 ∨ (0 ≤ (-1 : Int) ∧ (-1 : Int) < ver);omega)
  have hb_5 : (rdL (rdP (d + 1) ver false) (dfP (d + 1)) ver false [fSyncGroupRequest_5,fSyncGroupRequest_6] s4).2 = none → FB := fun h => hb_4 (by rw [rdL_no hh_4];exact h)
  obtain ⟨x_5,hx_5⟩ : ∃ x,x = dfF (dfP (d + 1)) fSyncGroupRequest_5 := ⟨_,rfl⟩
  have hf_5 : RepF (RepS true (d + 1)) (szS true (d + 1)) fSyncGroupRequest_5 (fun b => ok b ∨ w1.heap.size ≤ b) w9 (x_5) [.pointer none] := by rw [hx_5];exact (RepF_ptr rfl (by decide)).2 ⟨_,rfl,rfl⟩
  have hh_5 : hasS fSyncGroupRequest_5 ver = false := hasS_f (by show ver < 5 ∨ (0 ≤ (-1 : Int) ∧ (-1 : Int) < ver);omega)
  have hb_6 : (rdL (rdP (d + 1) ver false) (dfP (d + 1)) ver false [fSyncGroupRequest_6] s4).2 = none → FB := fun h => hb_5 (by rw [rdL_no hh_5];exact h)
  have hh_6 : hasS fSyncGroupRequest_6 ver = true := hasS_t (by show (0 : Int) ≤ ver;omega) (by show (-1 : Int) < 0 ∨ ver ≤ (-1 : Int);omega)
  obtain ⟨x_6,hx_6⟩ : ∃ x,x = (rdF (rdP (d + 1) ver false) ver false fSyncGroupRequest_6 s4).1 := ⟨_,rfl⟩
  repeat ((first | refine qA rfl ?_|refine qB ?_|refine qC rfl ?_|refine qD ?_|refine qE ?_|refine qF ?_|refine qG ?_|refine qH ?_);try simp (maxSteps:=1000000)(disch:=(first|omega|(simp only [qI,qJ,qK]<;>omega)|exact qL _)) only [go_sem,↓reduceIte,n0,reduceCtorEq,n1,n2,n3,n4,n5,i0,i1,i2,i3,i4,i5,i6,i7,hv_9])
  refine (RArrayLen_fn w9 hq9.1 hrok hG9.1 hgrb).mono ?_
  rintro _ w10 ⟨rfl,hq10,hu10⟩
  have hv_10 := hu10.blk_some hv_9 (by omega)
  have hV10 : Upd (fun b => b = vb ∨ b = rb) w9 w10 := hu10.mono (fun _ h => .inr h)
  have hU10 : Upd (fun b => b = vb ∨ b = rb) w1 w10 := hU9.trans hV10
  have hz10 := hV10.size
  have hG10 : Glo ev w10 := hG1.updS hU10 hgM1 hgM2
  obtain ⟨s5,hs5⟩ : ∃ s,s = (rdALen false s4).2 := ⟨_,rfl⟩
  rw [← hs5] at hq10
  have hyr0 := rdALen_rng false s4
  generalize hy0 : (rdALen false s4).1 = y0 at *
  obtain ⟨N0,hN0⟩ : ∃ N,N = y0.toNat := ⟨_,rfl⟩
  have hlb0 : (rdMany (rd1 (rdP (d + 1) ver false) fSyncGroupRequest_6.of fSyncGroupRequest_6.sub false false) N0 s5).2 = none → FB := fun h => hb_6 (by rw [rdL_st (by decide) hh_6];exact rdL_bad (rdF_listbad rfl (by rw [hy0,← hN0,← hs5];exact h)))
  repeat ((first | refine W.seqR rfl ?_ | refine W.seq ?_ | refine W.regR rfl ?_ | refine W.block ?_ | refine W.skip ?_ | refine W.ret ?_ | refine W.exit ?_);try simp (maxSteps:=1000000)(disch:=(first|omega|(simp only [qI,qJ,qK]<;>omega)|exact qL _)) only [go_sem,↓reduceIte,n0,reduceCtorEq,n1,n2,n3,n4,n5,i0,i1,i2,i3,i4,i5,i6,i7,hv_10])
  refine (ROk_fn w10 hq10.1).mono ?_
  rintro _ wz ⟨rfl,hez⟩
  rw [hez]
  clear hez wz
  by_cases hsn0 : s5 = none
  · have hso : s5.isSome = false := by rw [hsn0];rfl
    try simp (maxSteps:=1000000)(disch:=(first|omega|(simp only [qI,qJ,qK]<;>omega)|exact qL _)) only [go_sem,↓reduceIte,n0,reduceCtorEq,n1,n2,n3,n4,n5,i0,i1,i2,i3,i4,i5,i6,i7,hv_10,hso]
    repeat ((first | refine qA rfl ?_|refine qB ?_|refine qC rfl ?_|refine qD ?_|refine qE ?_|refine qF ?_|refine qG ?_|refine qH ?_);try simp (maxSteps:=1000000)(disch:=(first|omega|(simp only [qI,qJ,qK]<;>omega)|exact qL _)) only [go_sem,↓reduceIte,n0,reduceCtorEq,n1,n2,n3,n4,n5,i0,i1,i2,i3,i4,i5,i6,i7,hv_10,hso])
    refine (RComplete_fn w10 hq10.1 hG10.2).mono ?_
    rintro _ wz ⟨rfl,hez⟩
    rw [hez]
    try simp (maxSteps:=1000000)(disch:=(first|omega|(simp only [qI,qJ,qK]<;>omega)|exact qL _)) only [go_sem,↓reduceIte,n0,reduceCtorEq,n1,n2,n3,n4,n5,i0,i1,i2,i3,i4,i5,i6,i7,hv_10]
    repeat ((first | refine qA rfl ?_|refine qB ?_|refine qC rfl ?_|refine qD ?_|refine qE ?_|refine qF ?_|refine qG ?_|refine qH ?_);try simp (maxSteps:=1000000)(disch:=(first|omega|(simp only [qI,qJ,qK]<;>omega)|exact qL _)) only [go_sem,↓reduceIte,n0,reduceCtorEq,n1,n2,n3,n4,n5,i0,i1,i2,i3,i4,i5,i6,i7,hv_10])
    rw [errV_none hsn0]
    exact ReadQ.bad (Eq.mp hFB (hlb0 (by rw [hsn0];exact rdMany_none rd1P_none _))) (hbase.trans' hU10 fun i hi h => h.elim id fun h => by omega)
  have hso0 : s5.isSome = true := isSome_some hsn0
  try simp (maxSteps:=1000000)(disch:=(first|omega|(simp only [qI,qJ,qK]<;>omega)|exact qL _)) only [go_sem,↓reduceIte,n0,reduceCtorEq,n1,n2,n3,n4,n5,i0,i1,i2,i3,i4,i5,i6,i7,hv_10,hso0]
  repeat ((first | refine W.seqR rfl ?_ | refine W.seq ?_ | refine W.regR rfl ?_ | refine W.block ?_ | refine W.skip ?_ | refine W.ret ?_ | refine W.exit ?_);try simp (maxSteps:=1000000)(disch:=(first|omega|(simp only [qI,qJ,qK]<;>omega)|exact qL _)) only [go_sem,↓reduceIte,n0,reduceCtorEq,n1,n2,n3,n4,n5,i0,i1,i2,i3,i4,i5,i6,i7,hv_10,hso0])
  refine W.condK ?_
  try simp (maxSteps:=1000000)(disch:=(first|omega|(simp only [qI,qJ,qK]<;>omega)|exact qL _)) only [go_sem,↓reduceIte,n0,reduceCtorEq,n1,n2,n3,n4,n5,i0,i1,i2,i3,i4,i5,i6,i7,hv_10,hso0]
  repeat ((first | refine W.seqR rfl ?_ | refine W.seq ?_ | refine W.regR rfl ?_ | refine W.block ?_ | refine W.skip ?_ | refine W.ret ?_ | refine W.exit ?_);try simp (maxSteps:=1000000)(disch:=(first|omega|(simp only [qI,qJ,qK]<;>omega)|exact qL _)) only [go_sem,↓reduceIte,n0,reduceCtorEq,n1,n2,n3,n4,n5,i0,i1,i2,i3,i4,i5,i6,i7,hv_10,hso0,slBase_00])
  refine W.normJ (RowQ [(2,.bool false),(7,.pointer (some ⟨rb,0,none⟩)),(8,.int .i16 ver),(9,.bool false),(10,.pointer (some ⟨vb,0,none⟩)),(19,.int .i32 y0)] 18 (fun va w' => LstI RT (rd1 (rdP (d + 1) ver false) fSyncGroupRequest_6.of fSyncGroupRequest_6.sub false false) (Rep1 (RepS true (d + 1)) fSyncGroupRequest_6.of fSyncGroupRequest_6.sub) 3 126 [.string ByteArray.empty,.slice none 0 0,.map none] w10.heap.size N0 ok (fun b => ok b ∨ w1.heap.size ≤ b) rb w10 s5 va 0 s5 [] [] w' ∧ (N0 = 0 → if nilS fSyncGroupRequest_6 ver y0 = true then va = .slice none 0 0 else ∃ a,va = .slice (some a) 0 0))) ?_ ?_
  · by_cases hy0 : (0 : Int) < y0
    · have hyv : Value.int .i32 y0 = .int .i32 ((N0 : Nat) : Int) := by rw [show y0 = ((N0 : Nat) : Int) by omega]
      repeat ((first | refine qA rfl ?_|refine qB ?_|refine qC rfl ?_|refine qD ?_|refine qE ?_|refine qF ?_|refine qG ?_|refine qH ?_);try simp (maxSteps:=1000000)(disch:=(first|omega|(simp only [qI,qJ,qK]<;>omega)|exact qL _)) only [go_sem,↓reduceIte,n0,reduceCtorEq,n1,n2,n3,n4,n5,i0,i1,i2,i3,i4,i5,i6,i7,hv_10])
      refine wp_appendZ (m := N0) utSyncGroupRequest_121 utSyncGroupRequest_21 inSyncGroupRequest_126 (by decide) (by first | rfl | simp (maxSteps:=1000000)(disch:=(first|omega|(simp only [qI,qJ,qK]<;>omega)|exact qL _)) only [go_sem,↓reduceIte,n0,reduceCtorEq,n1,n2,n3,n4,n5,i0,i1,i2,i3,i4,i5,i6,i7]) (by first | exact hyv | (simp (maxSteps:=1000000)(disch:=(first|omega|(simp only [qI,qJ,qK]<;>omega)|exact qL _)) only [go_sem,↓reduceIte,n0,reduceCtorEq,n1,n2,n3,n4,n5,i0,i1,i2,i3,i4,i5,i6,i7];exact hyv)) (by omega) (by omega) (by decide) ?_
      intro q rest hq1
      have hEw : Ext w10 (w10.drew.alloc (.cells (zs [.string ByteArray.empty,.slice none 0 0,.map none] N0 ++ rest).toArray 126)) := (Upd.refl _ _).drew.alloc _
      try simp (maxSteps:=1000000)(disch:=(first|omega|(simp only [qI,qJ,qK]<;>omega)|exact qL _)) only [go_sem,↓reduceIte,n0,reduceCtorEq,n1,n2,n3,n4,n5,i0,i1,i2,i3,i4,i5,i6,i7,hv_10]
      repeat ((first | refine qA rfl ?_|refine qB ?_|refine qC rfl ?_|refine qD ?_|refine qE ?_|refine qF ?_|refine qG ?_|refine qH ?_);try simp (maxSteps:=1000000)(disch:=(first|omega|(simp only [qI,qJ,qK]<;>omega)|exact qL _)) only [go_sem,↓reduceIte,n0,reduceCtorEq,n1,n2,n3,n4,n5,i0,i1,i2,i3,i4,i5,i6,i7,hv_10])
      exact ⟨(by simp (maxSteps:=1000000)(disch:=(first|omega|(simp only [qI,qJ,qK]<;>omega)|exact qL _)) only [go_sem,↓reduceIte,n0,reduceCtorEq,n1,n2,n3,n4,n5,i0,i1,i2,i3,i4,i5,i6,i7,Holds_nil,Holds_cons]),.slice (some ⟨w10.heap.size,0,none⟩) N0 q,(by simp (maxSteps:=1000000)(disch:=(first|omega|(simp only [qI,qJ,qK]<;>omega)|exact qL _)) only [go_sem,↓reduceIte,n0,reduceCtorEq,n1,n2,n3,n4,n5,i0,i1,i2,i3,i4,i5,i6,i7]),LstI.start (RowJ.start (by omega) hq1 (by show w10.heap.size ≤ w10.drew.heap.size;rw [size_drew];omega) (blk_alloc_new rfl)) ⟨hq10.1.upd hEw (fun h => h) (fun _ _ _ h => h),hq10.2.upd hEw fun h => h⟩ (hEw.mono fun _ h => h.elim),fun h0 => by omega⟩
    · repeat ((first | refine qA rfl ?_|refine qB ?_|refine qC rfl ?_|refine qD ?_|refine qE ?_|refine qF ?_|refine qG ?_|refine qH ?_);try simp (maxSteps:=1000000)(disch:=(first|omega|(simp only [qI,qJ,qK]<;>omega)|exact qL _)) only [go_sem,↓reduceIte,n0,reduceCtorEq,n1,n2,n3,n4,n5,i0,i1,i2,i3,i4,i5,i6,i7,hv_10])
      exact ⟨(by simp (maxSteps:=1000000)(disch:=(first|omega|(simp only [qI,qJ,qK]<;>omega)|exact qL _)) only [go_sem,↓reduceIte,n0,reduceCtorEq,n1,n2,n3,n4,n5,i0,i1,i2,i3,i4,i5,i6,i7,Holds_nil,Holds_cons]),.slice none 0 0,(by simp (maxSteps:=1000000)(disch:=(first|omega|(simp only [qI,qJ,qK]<;>omega)|exact qL _)) only [go_sem,↓reduceIte,n0,reduceCtorEq,n1,n2,n3,n4,n5,i0,i1,i2,i3,i4,i5,i6,i7,slBase_00]),LstI.start (RowJ.zero (by omega) (fun _ h => by cases h)) hq10 (Upd.refl _ _),fun _ => by rw [nilS_plain (by decide) (by omega)];exact rfl⟩
  rintro ρ w11 ⟨⟨hrb0_2,hrb0_7,hrb0_8,hrb0_9,hrb0_10,hrb0_19,-⟩,va0,hra0,hL0,hnc0⟩
  repeat ((first | refine qA rfl ?_|refine qB ?_|refine qC rfl ?_|refine qD ?_|refine qE ?_|refine qF ?_|refine qG ?_|refine qH ?_);try simp (maxSteps:=1000000)(disch:=(first|omega|(simp only [qI,qJ,qK]<;>omega)|exact qL _)) only [go_sem,↓reduceIte,n0,reduceCtorEq,n1,n2,n3,n4,n5,i0,i1,i2,i3,i4,i5,i6,i7,hv_10,hrb0_2,hrb0_7,hrb0_8,hrb0_9,hrb0_10,hrb0_19,hra0,exitRQ_ret,exitRQ_exit,Int.toNat_natCast,Nat.mul_one])
  refine W.exitRJ 0 (EndQ [(2,.bool false),(7,.pointer (some ⟨rb,0,none⟩)),(8,.int .i16 ver),(9,.bool false),(10,.pointer (some ⟨vb,0,none⟩)),(19,.int .i32 y0),(18,va0)] (fun w' => ∃ s xs css,LstI RT (rd1 (rdP (d + 1) ver false) fSyncGroupRequest_6.of fSyncGroupRequest_6.sub false false) (Rep1 (RepS true (d + 1)) fSyncGroupRequest_6.of fSyncGroupRequest_6.sub) 3 126 [.string ByteArray.empty,.slice none 0 0,.map none] w10.heap.size N0 ok (fun b => ok b ∨ w1.heap.size ≤ b) rb w10 s5 va0 N0 s xs css w')) (W.loop (LoopQ [(2,.bool false),(7,.pointer (some ⟨rb,0,none⟩)),(8,.int .i16 ver),(9,.bool false),(10,.pointer (some ⟨vb,0,none⟩)),(19,.int .i32 y0),(18,va0)] 20 (fun j w' => ∃ s xs css,LstI RT (rd1 (rdP (d + 1) ver false) fSyncGroupRequest_6.of fSyncGroupRequest_6.sub false false) (Rep1 (RepS true (d + 1)) fSyncGroupRequest_6.of fSyncGroupRequest_6.sub) 3 126 [.string ByteArray.empty,.slice none 0 0,.map none] w10.heap.size N0 ok (fun b => ok b ∨ w1.heap.size ≤ b) rb w10 s5 va0 j s xs css w')) (fun ρ _ => N0 - (RowKit.intOf (ρ 20)).toNat) ?_ ?_) ?_
  · exact ⟨(by simp (maxSteps:=1000000)(disch:=(first|omega|(simp only [qI,qJ,qK]<;>omega)|exact qL _)) only [go_sem,↓reduceIte,n0,reduceCtorEq,n1,n2,n3,n4,n5,i0,i1,i2,i3,i4,i5,i6,i7,Holds_nil,Holds_cons,hrb0_2,hrb0_7,hrb0_8,hrb0_9,hrb0_10,hrb0_19,hra0]),0,(by simp (maxSteps:=1000000)(disch:=(first|omega|(simp only [qI,qJ,qK]<;>omega)|exact qL _)) only [go_sem,↓reduceIte,n0,reduceCtorEq,n1,n2,n3,n4,n5,i0,i1,i2,i3,i4,i5,i6,i7,hrb0_2,hrb0_7,hrb0_8,hrb0_9,hrb0_10,hrb0_19,hra0];all_goals rfl),s5,[],[],hL0⟩
  · rintro ρ w12 ⟨⟨hrc0_2,hrc0_7,hrc0_8,hrc0_9,hrc0_10,hrc0_19,hrc0_18,-⟩,j1,hri0,s6,xs0,css0,hL0⟩
    have hj0 := hL0.le
    have hq12 := hL0.rd
    have hU12 : Upd (fun b => b = vb ∨ b = rb) w1 w12 := hU10.trans' hL0.upd fun i _ h => .inr h
    have hz12 := hL0.upd.size
    have hG12 : Glo ev w12 := hG1.updS hU12 hgM1 hgM2
    by_cases hlt0 : j1 < N0
    · obtain ⟨R1,q1,B1,hva1,hNq1,hLR1,hA1,hx1_12,hnext1⟩ := hL0.row.next hlt0
      have hRl1 := blk_lt hx1_12
      generalize css0.flatten = A1 at hA1 hx1_12 hnext1
      replace hra0 : ρ 18 = .slice (some ⟨R1,0,none⟩) N0 q1 := hrc0_18.trans hva1
      have hown1 : ∀ b,ownB va0 b → w10.heap.size ≤ b ∧ b < w12.heap.size := fun b h => hL0.row.own h
      have hoM1 : ∀ b,(fun b => (ok b ∨ w1.heap.size ≤ b) ∧ ¬ ownB va0 b) b → ¬ (b = R1 ∨ b = rb) := fun b hk h => h.elim (fun e => hk.2 ⟨_,_,_,hva1,e⟩) (fun e => hoM b hk.1 (.inr e))
      obtain ⟨X12,hX12⟩ : ∃ X : Array Value,X = (A1 ++ (([.string ByteArray.empty,.slice none 0 0,.map none] : List Value) ++ B1)).toArray := ⟨_,rfl⟩
      have hxb12 : blk w12 R1 = some (X12,126,(0,0)) := by rw [hX12];exact hx1_12
      have hXs12 : j1 * 3 + 3 ≤ X12.size := by rw [hX12];simp only [List.size_toArray,List.length_append,List.length_cons,List.length_nil,hA1];omega
      repeat ((first | refine qA rfl ?_|refine qB ?_|refine qC rfl ?_|refine qD ?_|refine qE ?_|refine qF ?_|refine qG ?_|refine qH ?_);try simp (maxSteps:=1000000)(disch:=(first|omega|(simp only [qI,qJ,qK]<;>omega)|exact qL _)) only [go_sem,↓reduceIte,n0,reduceCtorEq,n1,n2,n3,n4,n5,i0,i1,i2,i3,i4,i5,i6,i7,hxb12,hrc0_2,hrc0_7,hrc0_8,hrc0_9,hrc0_10,hrc0_19,hra0,hri0,exitRQ_ret,exitRQ_exit,Int.toNat_natCast,Nat.mul_one])
      refine (DefaultEX0_fn w12 hx1_12 hA1).mono ?_
      rintro _ w13 ⟨hx1_13,hu13⟩
      have hq13 := And.intro (hq12.1.upd hu13 (by omega) (fun b _ hk e => by have := (hok b hk).1;omega)) (hq12.2.upd hu13 (by omega))
      have hV13 : Upd (fun b => b = R1 ∨ b = rb) w12 w13 := hu13.mono (fun _ h => .inl h)
      have hU13 : Upd (fun b => b = vb ∨ b = rb) w1 w13 := hU12.trans' hV13 fun i hi h => h.elim (fun h => by omega) .inr
      have hz13 := hV13.size
      have hG13 : Glo ev w13 := hG1.updS hU13 hgM1 hgM2
      obtain ⟨X13,hX13⟩ : ∃ X : Array Value,X = (A1 ++ (([.string ByteArray.empty,.slice none 0 0,.map none] : List Value) ++ B1)).toArray := ⟨_,rfl⟩
      have hxb13 : blk w13 R1 = some (X13,126,(0,0)) := by rw [hX13];exact hx1_13
      have hXs13 : j1 * 3 + 3 ≤ X13.size := by rw [hX13];simp only [List.size_toArray,List.length_append,List.length_cons,List.length_nil,hA1];omega
      have hbe0_0 : (rdL (rdP d ver false) (dfP d) ver false [fX0_0,fX0_1] s6).2 = none → FB := fun h => hlb0 (hL0.bad hlt0 rd1P_none (by show (rd1 (rdP (d + 1) ver false) 10 fs_X0 false false s6).2 = none;rw [rd1_part];exact rdP_bad h))
      have hhe0_0 : hasS fX0_0 ver = true := hasS_t (by show (0 : Int) ≤ ver;omega) (by show (-1 : Int) < 0 ∨ ver ≤ (-1 : Int);omega)
      obtain ⟨xe0_0,hxe0_0⟩ : ∃ x,x = (rdF (rdP d ver false) ver false fX0_0 s6).1 := ⟨_,rfl⟩
      repeat ((first | refine qA rfl ?_|refine qB ?_|refine qC rfl ?_|refine qD ?_|refine qE ?_|refine qF ?_|refine qG ?_|refine qH ?_);try simp (maxSteps:=1000000)(disch:=(first|omega|(simp only [qI,qJ,qK]<;>omega)|exact qL _)) only [go_sem,↓reduceIte,n0,reduceCtorEq,n1,n2,n3,n4,n5,i0,i1,i2,i3,i4,i5,i6,i7,hxb13,hrc0_2,hrc0_7,hrc0_8,hrc0_9,hrc0_10,hrc0_19,hra0,hri0,exitRQ_ret,exitRQ_exit,Int.toNat_natCast,Nat.mul_one])
      have hmay : mayS fX0_0 ver = false := mayS_no (by show (-1 : Int) < 0 ∨ ver < (-1 : Int);omega)
      have hrd : rdF (rdP d ver false) ver false fX0_0 s6 = _ := rdF_text rfl hmay
      refine (RString_fn w13 hq13.1 hrok hG13.1 hgrb).mono ?_
      rintro _ w14 ⟨rfl,hq14,hu14⟩
      have hx1_14 := hu14.blk_some hx1_13 (by omega)
      have hV14 : Upd (fun b => b = R1 ∨ b = rb) w13 w14 := hu14.mono (fun _ h => .inr h)
      have hU14 : Upd (fun b => b = vb ∨ b = rb) w1 w14 := hU13.trans' hV14 fun i hi h => h.elim (fun h => by omega) .inr
      have hz14 := hV14.size
      have hG14 : Glo ev w14 := hG1.updS hU14 hgM1 hgM2
      obtain ⟨X14,hX14⟩ : ∃ X : Array Value,X = (A1 ++ (([.string ByteArray.empty,.slice none 0 0,.map none] : List Value) ++ B1)).toArray := ⟨_,rfl⟩
      have hxb14 : blk w14 R1 = some (X14,126,(0,0)) := by rw [hX14];exact hx1_14
      have hXs14 : j1 * 3 + 3 ≤ X14.size := by rw [hX14];simp only [List.size_toArray,List.length_append,List.length_cons,List.length_nil,hA1];omega
      have hst : (rdF (rdP d ver false) ver false fX0_0 s6).2 = (rdStr false s6).2 := by first | (rw [hrd];rfl) | rw [hrd]
      obtain ⟨s7,hs7⟩ : ∃ s,s = (rdF (rdP d ver false) ver false fX0_0 s6).2 := ⟨_,rfl⟩
      rw [← hst,← hs7] at hq14
      clear hst
      have hst14_0 : j1 * 3 + 1 ≤ X14.size := by omega
      repeat ((first | refine qA rfl ?_|refine qB ?_|refine qC rfl ?_|refine qD ?_|refine qE ?_|refine qF ?_|refine qG ?_|refine qH ?_);try simp (maxSteps:=1000000)(disch:=(first|omega|(simp only [qI,qJ,qK]<;>omega)|exact qL _)) only [go_sem,↓reduceIte,n0,reduceCtorEq,n1,n2,n3,n4,n5,i0,i1,i2,i3,i4,i5,i6,i7,hxb14,hrc0_2,hrc0_7,hrc0_8,hrc0_9,hrc0_10,hrc0_19,hra0,hri0,exitRQ_ret,exitRQ_exit,Int.toNat_natCast,Nat.mul_one,hst14_0])
      generalize hw15 : wr w14 R1 (j1 * 3) [strV (rdStr false s6).1] = w15
      have hS15 : Upd (fun b => b = R1 ∨ b = rb) w14 w15 := by rw [← hw15];exact (Upd.refl _ _).wr _ _ (.inr (.inl rfl))
      have hx1_15 : blk w15 R1 = some ((A1 ++ (([strV (rdStr false s6).1,.slice none 0 0,.map none] : List Value) ++ B1)).toArray,126,(0,0)) := by rw [← hw15];exact el_blk0 hx1_14 hA1 (Nat.le_of_ble_eq_true rfl)
      have hV15 := hS15
      have hU15 : Upd (fun b => b = vb ∨ b = rb) w1 w15 := hU14.trans' hV15 fun i hi h => h.elim (fun h => by omega) .inr
      have hz15 := hV15.size
      have hG15 : Glo ev w15 := hG1.updS hU15 hgM1 hgM2
      have hq15 : Rdr RT ok w15 rb s7 ∧ NN w15 rb s7 := by
        have hn : ∀ x,x = w15 → (Rdr RT ok x rb s7 ∧ NN x rb s7) := fun x hx => by
          rw [hx,← hw15]
          exact Rdr.store hq14 (by omega) (fun h => by have := (hok _ h).1;first | omega | exact (hok _ h).2 rfl)
        exact hn _ rfl
      obtain ⟨X15,hX15⟩ : ∃ X : Array Value,X = (A1 ++ (([strV (rdStr false s6).1,.slice none 0 0,.map none] : List Value) ++ B1)).toArray := ⟨_,rfl⟩
      have hxb15 : blk w15 R1 = some (X15,126,(0,0)) := by rw [hX15];exact hx1_15
      have hXs15 : j1 * 3 + 3 ≤ X15.size := by rw [hX15];simp only [List.size_toArray,List.length_append,List.length_cons,List.length_nil,hA1];omega
      clear hw15
      have hfe0_0 : RepF (RepS true d) (szS true d) fX0_0 (fun b => (ok b ∨ w1.heap.size ≤ b) ∧ ¬ ownB va0 b) w15 (xe0_0) [strV (rdStr false s6).1] := (RepF_text rfl (by decide)).2 (by rw [hxe0_0,hrd];rfl)
      clear hrd
      have hbe0_1 : (rdL (rdP d ver false) (dfP d) ver false [fX0_1] s7).2 = none → FB := fun h => hbe0_0 (by rw [rdL_st (by decide) hhe0_0,← hs7];exact h)
      have hhe0_1 : hasS fX0_1 ver = true := hasS_t (by show (0 : Int) ≤ ver;omega) (by show (-1 : Int) < 0 ∨ ver ≤ (-1 : Int);omega)
      obtain ⟨xe0_1,hxe0_1⟩ : ∃ x,x = (rdF (rdP d ver false) ver false fX0_1 s7).1 := ⟨_,rfl⟩
      repeat ((first | refine qA rfl ?_|refine qB ?_|refine qC rfl ?_|refine qD ?_|refine qE ?_|refine qF ?_|refine qG ?_|refine qH ?_);try simp (maxSteps:=1000000)(disch:=(first|omega|(simp only [qI,qJ,qK]<;>omega)|exact qL _)) only [go_sem,↓reduceIte,n0,reduceCtorEq,n1,n2,n3,n4,n5,i0,i1,i2,i3,i4,i5,i6,i7,hxb15,hrc0_2,hrc0_7,hrc0_8,hrc0_9,hrc0_10,hrc0_19,hra0,hri0,exitRQ_ret,exitRQ_exit,Int.toNat_natCast,Nat.mul_one])
      have hmay : mayS fX0_1 ver = false := mayS_no (by show (-1 : Int) < 0 ∨ ver < (-1 : Int);omega)
      have hrd : rdF (rdP d ver false) ver false fX0_1 s7 = _ := rdF_oct rfl hmay
      refine (RBytes_fn w15 hq15.1 hrok hG15.1 hgrb).mono ?_
      rintro r16 w16 ⟨hp16,hq16,hu16⟩
      obtain ⟨ao16,no16,co16,rfl⟩ := hp16.shape
      have hx1_16 := hu16.blk_some hx1_15 (by omega)
      have hV16 : Upd (fun b => b = R1 ∨ b = rb) w15 w16 := hu16.mono (fun _ h => .inr h)
      have hU16 : Upd (fun b => b = vb ∨ b = rb) w1 w16 := hU15.trans' hV16 fun i hi h => h.elim (fun h => by omega) .inr
      have hz16 := hV16.size
      have hG16 : Glo ev w16 := hG1.updS hU16 hgM1 hgM2
      obtain ⟨X16,hX16⟩ : ∃ X : Array Value,X = (A1 ++ (([strV (rdStr false s6).1,.slice none 0 0,.map none] : List Value) ++ B1)).toArray := ⟨_,rfl⟩
      have hxb16 : blk w16 R1 = some (X16,126,(0,0)) := by rw [hX16];exact hx1_16
      have hXs16 : j1 * 3 + 3 ≤ X16.size := by rw [hX16];simp only [List.size_toArray,List.length_append,List.length_cons,List.length_nil,hA1];omega
      have hst : (rdF (rdP d ver false) ver false fX0_1 s7).2 = (rdBytes false s7).2 := by first | (rw [hrd];rfl) | rw [hrd]
      obtain ⟨s8,hs8⟩ : ∃ s,s = (rdF (rdP d ver false) ver false fX0_1 s7).2 := ⟨_,rfl⟩
      rw [← hst,← hs8] at hq16
      clear hst
      have hst16_1 : j1 * 3 + 2 ≤ X16.size := by omega
      repeat ((first | refine qA rfl ?_|refine qB ?_|refine qC rfl ?_|refine qD ?_|refine qE ?_|refine qF ?_|refine qG ?_|refine qH ?_);try simp (maxSteps:=1000000)(disch:=(first|omega|(simp only [qI,qJ,qK]<;>omega)|exact qL _)) only [go_sem,↓reduceIte,n0,reduceCtorEq,n1,n2,n3,n4,n5,i0,i1,i2,i3,i4,i5,i6,i7,hxb16,hrc0_2,hrc0_7,hrc0_8,hrc0_9,hrc0_10,hrc0_19,hra0,hri0,exitRQ_ret,exitRQ_exit,Int.toNat_natCast,Nat.mul_one,hst16_1])
      generalize hw17 : wr w16 R1 (j1 * 3 + 1) [.slice ao16 no16 co16] = w17
      have hS17 : Upd (fun b => b = R1 ∨ b = rb) w16 w17 := by rw [← hw17];exact (Upd.refl _ _).wr _ _ (.inr (.inl rfl))
      have hx1_17 : blk w17 R1 = some ((A1 ++ (([strV (rdStr false s6).1,.slice ao16 no16 co16,.map none] : List Value) ++ B1)).toArray,126,(0,0)) := by rw [← hw17];exact el_blk (o := 1) hx1_16 hA1 (Nat.le_of_ble_eq_true rfl)
      have hV17 := hS17
      have hU17 : Upd (fun b => b = vb ∨ b = rb) w1 w17 := hU16.trans' hV17 fun i hi h => h.elim (fun h => by omega) .inr
      have hz17 := hV17.size
      have hG17 : Glo ev w17 := hG1.updS hU17 hgM1 hgM2
      have hq17 : Rdr RT ok w17 rb s8 ∧ NN w17 rb s8 := by
        have hn : ∀ x,x = w17 → (Rdr RT ok x rb s8 ∧ NN x rb s8) := fun x hx => by
          rw [hx,← hw17]
          exact Rdr.store hq16 (by omega) (fun h => by have := (hok _ h).1;first | omega | exact (hok _ h).2 rfl)
        exact hn _ rfl
      obtain ⟨X17,hX17⟩ : ∃ X : Array Value,X = (A1 ++ (([strV (rdStr false s6).1,.slice ao16 no16 co16,.map none] : List Value) ++ B1)).toArray := ⟨_,rfl⟩
      have hxb17 : blk w17 R1 = some (X17,126,(0,0)) := by rw [hX17];exact hx1_17
      have hXs17 : j1 * 3 + 3 ≤ X17.size := by rw [hX17];simp only [List.size_toArray,List.length_append,List.length_cons,List.length_nil,hA1];omega
      clear hw17
      have hfe0_1 : RepF (RepS true d) (szS true d) fX0_1 (fun b => (ok b ∨ w1.heap.size ≤ b) ∧ ¬ ownB va0 b) w17 (xe0_1) [.slice ao16 no16 co16] := (RepF_bytes rfl).2 ⟨_,rfl,by rw [hxe0_1,hrd];exact (hp16.weaken fun b _ hk => ⟨.inl hk,fun ho => by have := (hown1 b ho).1;have := (hok b hk).1;omega⟩).keep (hV17.keeps fun b _ hk e => hoM1 b hk e)⟩
      clear hrd
      have hle0_2 : rdL (rdP d ver false) (dfP d) ver false [] s8 = ([],s8) := rfl
      have hle0_1 : rdL (rdP d ver false) (dfP d) ver false [fX0_1] s7 = ([xe0_1],s8) := by rw [rdL_st (by decide) hhe0_1,← hxe0_1,← hs8,hle0_2]
      have hle0_0 : rdL (rdP d ver false) (dfP d) ver false [fX0_0,fX0_1] s6 = ([xe0_0,xe0_1],s8) := by rw [rdL_st (by decide) hhe0_0,← hxe0_0,← hs7,hle0_1]
      have hfine0 : rdP (d + 1) ver false fs_X0 s6 = (.mk 0 [] false [xe0_0,xe0_1] [],s8) := rdP_f hle0_0
      have hTge0 : TagsM (fun b => (ok b ∨ w1.heap.size ≤ b) ∧ ¬ ownB va0 b) w17 (.map none) [] := .inl ⟨rfl,rfl⟩
      have hCe0_17 : Upd (fun b => b = R1 ∨ b = rb) w17 w17 := Upd.refl _ _
      have hCe0_16 : Upd (fun b => b = R1 ∨ b = rb) w16 w17 := hV17.trans hCe0_17
      have hCe0_15 : Upd (fun b => b = R1 ∨ b = rb) w15 w17 := hV16.trans hCe0_16
      have hCe0_14 : Upd (fun b => b = R1 ∨ b = rb) w14 w17 := hV15.trans hCe0_15
      have hCe0_13 : Upd (fun b => b = R1 ∨ b = rb) w13 w17 := hV14.trans hCe0_14
      have hCe0_12 : Upd (fun b => b = R1 ∨ b = rb) w12 w17 := hV13.trans hCe0_13
      have hRe0 : RepS true (d + 1) fs_X0 (fun b => (ok b ∨ w1.heap.size ≤ b) ∧ ¬ ownB va0 b) w17 (.mk 0 [] false [xe0_0,xe0_1] []) [strV (rdStr false s6).1,.slice ao16 no16 co16,.map none] := RepS.introT (c := [strV (rdStr false s6).1,.slice ao16 no16 co16]) (RepL.cons1 (hfe0_0.keepS (hCe0_15.keeps fun b _ hk e => hoM1 b hk e)) (RepL.cons1 (hfe0_1.keepS (hCe0_17.keeps fun b _ hk e => hoM1 b hk e)) RepL.nil)) hTge0
      have hrE : (rd1 (rdP (d + 1) ver false) fSyncGroupRequest_6.of fSyncGroupRequest_6.sub false false) s6 = ((.mk 0 [] false [xe0_0,xe0_1] []),s8) := by rw [show (rd1 (rdP (d + 1) ver false) fSyncGroupRequest_6.of fSyncGroupRequest_6.sub false false) s6 = _ from rd1_part];exact hfine0
      have hxE : (Rep1 (RepS true (d + 1)) fSyncGroupRequest_6.of fSyncGroupRequest_6.sub) (fun b => (ok b ∨ w1.heap.size ≤ b) ∧ ¬ ownB va0 b) w17 (.mk 0 [] false [xe0_0,xe0_1] []) [strV (rdStr false s6).1,.slice ao16 no16 co16,.map none] := Rep1_part.2 hRe0
      repeat ((first | refine qA rfl ?_|refine qB ?_|refine qC rfl ?_|refine qD ?_|refine qE ?_|refine qF ?_|refine qG ?_|refine qH ?_);try simp (maxSteps:=1000000)(disch:=(first|omega|(simp only [qI,qJ,qK]<;>omega)|exact qL _)) only [go_sem,↓reduceIte,n0,reduceCtorEq,n1,n2,n3,n4,n5,i0,i1,i2,i3,i4,i5,i6,i7,hxb17,hrc0_2,hrc0_7,hrc0_8,hrc0_9,hrc0_10,hrc0_19,hra0,hri0,exitRQ_ret,exitRQ_exit,Int.toNat_natCast,Nat.mul_one])
      have hTk : Upd (fun b => b = R1 ∨ b = rb) w12 w17 := ((((hV13.trans hV14).trans hV15).trans hV16).trans hV17)
      have hL' := hL0.step (Rep1_lay _ _ fun _ => RepS_lay true _ _) hlt0 (hnext1 w17 [strV (rdStr false s6).1,.slice ao16 no16 co16,.map none] rfl hx1_17) (by rw [hrE];exact hxE) (hTk.mono fun b h => h.imp (fun e => ⟨_,_,_,hva1,e⟩) id) (by rw [hrE];exact hq17) (fun h => hoM rb h (.inr rfl)) (Nat.le_refl _)
      have hij : IntKind.i32.wrap ((j1 : Int) + 1) = ((j1 + 1 : Nat) : Int) := by rw [i32_wrap (by omega)];omega
      repeat ((first | refine qA rfl ?_|refine qB ?_|refine qC rfl ?_|refine qD ?_|refine qE ?_|refine qF ?_|refine qG ?_|refine qH ?_);try simp (maxSteps:=1000000)(disch:=(first|omega|(simp only [qI,qJ,qK]<;>omega)|exact qL _)) only [go_sem,↓reduceIte,n0,reduceCtorEq,n1,n2,n3,n4,n5,i0,i1,i2,i3,i4,i5,i6,i7,hxb17,hrc0_2,hrc0_7,hrc0_8,hrc0_9,hrc0_10,hrc0_19,hra0,hri0,exitRQ_ret,exitRQ_exit,Int.toNat_natCast,Nat.mul_one,hij])
      refine ⟨⟨(by simp (maxSteps:=1000000)(disch:=(first|omega|(simp only [qI,qJ,qK]<;>omega)|exact qL _)) only [go_sem,↓reduceIte,n0,reduceCtorEq,n1,n2,n3,n4,n5,i0,i1,i2,i3,i4,i5,i6,i7,Holds_nil,Holds_cons,hrc0_2,hrc0_7,hrc0_8,hrc0_9,hrc0_10,hrc0_19,hra0,hri0];exact hva1.symm),j1 + 1,(by simp (maxSteps:=1000000)(disch:=(first|omega|(simp only [qI,qJ,qK]<;>omega)|exact qL _)) only [go_sem,↓reduceIte,n0,reduceCtorEq,n1,n2,n3,n4,n5,i0,i1,i2,i3,i4,i5,i6,i7,hrc0_2,hrc0_7,hrc0_8,hrc0_9,hrc0_10,hrc0_19,hra0,hri0,hij];all_goals rfl),_,_,_,hL'⟩,?_⟩
      try simp (maxSteps:=1000000)(disch:=(first|omega|(simp only [qI,qJ,qK]<;>omega)|exact qL _)) only [go_sem,↓reduceIte,n0,reduceCtorEq,n1,n2,n3,n4,n5,i0,i1,i2,i3,i4,i5,i6,i7,hrc0_2,hrc0_7,hrc0_8,hrc0_9,hrc0_10,hrc0_19,hra0,hri0]
      simp only [RowKit.intOf]
      omega
    · have hjN : j1 = N0 := by omega
      rw [hjN] at hL0
      repeat ((first | refine qA rfl ?_|refine qB ?_|refine qC rfl ?_|refine qD ?_|refine qE ?_|refine qF ?_|refine qG ?_|refine qH ?_);try simp (maxSteps:=1000000)(disch:=(first|omega|(simp only [qI,qJ,qK]<;>omega)|exact qL _)) only [go_sem,↓reduceIte,n0,reduceCtorEq,n1,n2,n3,n4,n5,i0,i1,i2,i3,i4,i5,i6,i7,hrc0_2,hrc0_7,hrc0_8,hrc0_9,hrc0_10,hrc0_19,hrc0_18,hri0,exitRQ_ret,exitRQ_exit])
      exact ⟨(by simp (maxSteps:=1000000)(disch:=(first|omega|(simp only [qI,qJ,qK]<;>omega)|exact qL _)) only [go_sem,↓reduceIte,n0,reduceCtorEq,n1,n2,n3,n4,n5,i0,i1,i2,i3,i4,i5,i6,i7,Holds_nil,Holds_cons,hrc0_2,hrc0_7,hrc0_8,hrc0_9,hrc0_10,hrc0_19,hrc0_18,hri0]),s6,xs0,css0,hL0⟩
  rintro ρ w18 ⟨⟨hrd0_2,hrd0_7,hrd0_8,hrd0_9,hrd0_10,hrd0_19,hrd0_18,-⟩,s9,xs0,css0,hL0⟩
  have hq18 := hL0.rd
  have hu18 := hL0.upd
  have hv_18 := hu18.blk_some hv_10 (by omega)
  have hV18 : Upd (fun b => b = vb ∨ b = rb) w10 w18 := hu18.mono (fun _ h => .inr h)
  have hU18 : Upd (fun b => b = vb ∨ b = rb) w1 w18 := hU10.trans hV18
  have hz18 := hV18.size
  have hG18 : Glo ev w18 := hG1.updS hU18 hgM1 hgM2
  have hrd0 : rdF (rdP (d + 1) ver false) ver false fSyncGroupRequest_6 s4 = (.mk 0 [] (nilS fSyncGroupRequest_6 ver y0) xs0 [],s9) := by
    have h := rdF_listE (pt := (rdP (d + 1) ver false)) (v := ver) (flex := false) (f := fSyncGroupRequest_6) (s := s4) (xs := xs0) (e := s9) rfl (by rw [hy0,← hN0,← hs5];exact hL0.done)
    rw [hy0] at h;exact h
  have hs9 : s9 = (rdF (rdP (d + 1) ver false) ver false fSyncGroupRequest_6 s4).2 := by rw [hrd0]
  obtain ⟨aa0,qq0,hvs0⟩ := hL0.row.shape
  subst hvs0
  repeat ((first | refine qA rfl ?_|refine qB ?_|refine qC rfl ?_|refine qD ?_|refine qE ?_|refine qF ?_|refine qG ?_|refine qH ?_);try simp (maxSteps:=1000000)(disch:=(first|omega|(simp only [qI,qJ,qK]<;>omega)|exact qL _)) only [go_sem,↓reduceIte,n0,reduceCtorEq,n1,n2,n3,n4,n5,i0,i1,i2,i3,i4,i5,i6,i7,hv_18,hrd0_2,hrd0_7,hrd0_8,hrd0_9,hrd0_10,hrd0_19,hrd0_18])
  generalize hw19 : wr w18 vb 7 [.slice aa0 N0 qq0] = w19
  have hS19 : Upd (fun b => b = vb ∨ b = rb) w18 w19 := by rw [← hw19];exact (Upd.refl _ _).wr _ _ (.inr (.inl rfl))
  have hv_19 : blk w19 vb = some (#[.int .i16 ver,strV (rdStr false s0).1,.int .i32 (rdInt .i32 4 s1).1,strV (rdStr false s2).1,.pointer ap8,.pointer none,.pointer none,.slice aa0 N0 qq0,.map none],123,(0,0)) := by rw [← hw19,blk_wr_eq,hv_18];rfl
  have hV19 := hS19
  have hU19 : Upd (fun b => b = vb ∨ b = rb) w1 w19 := hU18.trans hV19
  have hz19 := hV19.size
  have hG19 : Glo ev w19 := hG1.updS hU19 hgM1 hgM2
  have hq19 : Rdr RT ok w19 rb s9 ∧ NN w19 rb s9 := by
    have hn : ∀ x,x = w19 → (Rdr RT ok x rb s9 ∧ NN x rb s9) := fun x hx => by
      rw [hx,← hw19]
      exact Rdr.store hq18 (by omega) (fun h => by have := (hok _ h).1;first | omega | exact (hok _ h).2 rfl)
    exact hn _ rfl
  clear hw19
  have hf_6 : RepF (RepS true (d + 1)) (szS true (d + 1)) fSyncGroupRequest_6 (fun b => ok b ∨ w1.heap.size ≤ b) w19 (x_6) [.slice aa0 N0 qq0] := by rw [hx_6,hrd0];exact RepF.keepS (RepF_row rfl hnc0 hN0 rfl hL0.row hL0.all (fun b hb => .inr (by omega))) (hV19.keeps fun b _ hk e => (hoM b hk) e)
  clear hL0 hnc0
  have hl_7 : rdL (rdP (d + 1) ver false) (dfP (d + 1)) ver false [] s9 = ([],s9) := rfl
  have hl_6 : rdL (rdP (d + 1) ver false) (dfP (d + 1)) ver false [fSyncGroupRequest_6] s4 = ([x_6],s9) := by rw [rdL_st (by decide) hh_6,← hx_6,← hs9,hl_7]
  have hl_5 : rdL (rdP (d + 1) ver false) (dfP (d + 1)) ver false [fSyncGroupRequest_5,fSyncGroupRequest_6] s4 = ([x_5,x_6],s9) := by rw [rdL_no hh_5,← hx_5,hl_6]
  have hl_4 : rdL (rdP (d + 1) ver false) (dfP (d + 1)) ver false [fSyncGroupRequest_4,fSyncGroupRequest_5,fSyncGroupRequest_6] s4 = ([x_4,x_5,x_6],s9) := by rw [rdL_no hh_4,← hx_4,hl_5]
  have hl_3 : rdL (rdP (d + 1) ver false) (dfP (d + 1)) ver false [fSyncGroupRequest_3,fSyncGroupRequest_4,fSyncGroupRequest_5,fSyncGroupRequest_6] s3 = ([x_3,x_4,x_5,x_6],s9) := by rw [rdL_st (by decide) hh_3,← hx_3,← hs4,hl_4]
  have hl_2 : rdL (rdP (d + 1) ver false) (dfP (d + 1)) ver false [fSyncGroupRequest_2,fSyncGroupRequest_3,fSyncGroupRequest_4,fSyncGroupRequest_5,fSyncGroupRequest_6] s2 = ([x_2,x_3,x_4,x_5,x_6],s9) := by rw [rdL_st (by decide) hh_2,← hx_2,← hs3,hl_3]
  have hl_1 : rdL (rdP (d + 1) ver false) (dfP (d + 1)) ver false [fSyncGroupRequest_1,fSyncGroupRequest_2,fSyncGroupRequest_3,fSyncGroupRequest_4,fSyncGroupRequest_5,fSyncGroupRequest_6] s1 = ([x_1,x_2,x_3,x_4,x_5,x_6],s9) := by rw [rdL_st (by decide) hh_1,← hx_1,← hs2,hl_2]
  have hl_0 : rdL (rdP (d + 1) ver false) (dfP (d + 1)) ver false [fSyncGroupRequest_0,fSyncGroupRequest_1,fSyncGroupRequest_2,fSyncGroupRequest_3,fSyncGroupRequest_4,fSyncGroupRequest_5,fSyncGroupRequest_6] s0 = ([x_0,x_1,x_2,x_3,x_4,x_5,x_6],s9) := by rw [rdL_st (by decide) hh_0,← hx_0,← hs1,hl_1]
  have hfin : rdP (d + 2) ver false fs_SyncGroupRequest s0 = (.mk 0 [] false [x_0,x_1,x_2,x_3,x_4,x_5,x_6] [],s9) := rdP_f hl_0
  have hTg : TagsM (fun b => ok b ∨ w1.heap.size ≤ b) w19 (.map none) [] := .inl ⟨rfl,rfl⟩
  have hC_19 : Upd (fun b => b = vb ∨ b = rb) w19 w19 := Upd.refl _ _
  have hC_18 : Upd (fun b => b = vb ∨ b = rb) w18 w19 := hV19.trans hC_19
  have hC_10 : Upd (fun b => b = vb ∨ b = rb) w10 w19 := hV18.trans hC_18
  have hC_9 : Upd (fun b => b = vb ∨ b = rb) w9 w19 := hV10.trans hC_10
  have hC_8 : Upd (fun b => b = vb ∨ b = rb) w8 w19 := hV9.trans hC_9
  have hC_7 : Upd (fun b => b = vb ∨ b = rb) w7 w19 := hV8.trans hC_8
  have hC_6 : Upd (fun b => b = vb ∨ b = rb) w6 w19 := hV7.trans hC_7
  have hC_5 : Upd (fun b => b = vb ∨ b = rb) w5 w19 := hV6.trans hC_6
  have hC_4 : Upd (fun b => b = vb ∨ b = rb) w4 w19 := hV5.trans hC_5
  have hC_3 : Upd (fun b => b = vb ∨ b = rb) w3 w19 := hV4.trans hC_4
  have hC_2 : Upd (fun b => b = vb ∨ b = rb) w2 w19 := hV3.trans hC_3
  have hC_1 : Upd (fun b => b = vb ∨ b = rb) w1 w19 := hV2.trans hC_2
  have hR : RepS true (d + 2) fs_SyncGroupRequest (fun b => ok b ∨ w1.heap.size ≤ b) w19 (.mk 0 [] false [x_0,x_1,x_2,x_3,x_4,x_5,x_6] []) [strV (rdStr false s0).1,.int .i32 (rdInt .i32 4 s1).1,strV (rdStr false s2).1,.pointer ap8,.pointer none,.pointer none,.slice aa0 N0 qq0,.map none] := RepS.introT (c := [strV (rdStr false s0).1,.int .i32 (rdInt .i32 4 s1).1,strV (rdStr false s2).1,.pointer ap8,.pointer none,.pointer none,.slice aa0 N0 qq0]) (RepL.cons1 (hf_0.keepS (hC_3.keeps fun b _ hk e => (hoM b hk) e)) (RepL.cons1 (hf_1.keepS (hC_5.keeps fun b _ hk e => (hoM b hk) e)) (RepL.cons1 (hf_2.keepS (hC_7.keeps fun b _ hk e => (hoM b hk) e)) (RepL.cons1 (hf_3.keepS (hC_9.keeps fun b _ hk e => (hoM b hk) e)) (RepL.cons1 (hf_4.keepS (hC_9.keeps fun b _ hk e => (hoM b hk) e)) (RepL.cons1 (hf_5.keepS (hC_9.keeps fun b _ hk e => (hoM b hk) e)) (RepL.cons1 (hf_6.keepS (hC_19.keeps fun b _ hk e => (hoM b hk) e)) RepL.nil))))))) hTg
  repeat ((first | refine qA rfl ?_|refine qB ?_|refine qC rfl ?_|refine qD ?_|refine qE ?_|refine qF ?_|refine qG ?_|refine qH ?_);try simp (maxSteps:=1000000)(disch:=(first|omega|(simp only [qI,qJ,qK]<;>omega)|exact qL _)) only [go_sem,↓reduceIte,n0,reduceCtorEq,n1,n2,n3,n4,n5,i0,i1,i2,i3,i4,i5,i6,i7,hv_19,hrd0_2,hrd0_7,hrd0_8,hrd0_9,hrd0_10,hrd0_19,hrd0_18])
  refine (RComplete_fn w19 hq19.1 hG19.2).mono ?_
  rintro _ wz ⟨rfl,hez⟩
  rw [hez]
  repeat ((first | refine qA rfl ?_|refine qB ?_|refine qC rfl ?_|refine qD ?_|refine qE ?_|refine qF ?_|refine qG ?_|refine qH ?_);try simp (maxSteps:=1000000)(disch:=(first|omega|(simp only [qI,qJ,qK]<;>omega)|exact qL _)) only [go_sem,↓reduceIte,n0,reduceCtorEq,n1,n2,n3,n4,n5,i0,i1,i2,i3,i4,i5,i6,i7,hv_19,hrd0_2,hrd0_7,hrd0_8,hrd0_9,hrd0_10,hrd0_19,hrd0_18])
  rw [hfin]
  refine ⟨fun h => ?_,fun h => ⟨?_,[strV (rdStr false s0).1,.int .i32 (rdInt .i32 4 s1).1,strV (rdStr false s2).1,.pointer ap8,.pointer none,.pointer none,.slice aa0 N0 qq0,.map none],hv_19,?_⟩,?_⟩
  · have h' : s9 = none := h
    rw [h'];rfl
  · cases hsn : s9 with
    | none => exact absurd hsn h
    | some x => rfl
  · exact (RepS_lay true (d + 2) fs_SyncGroupRequest).weaken hR fun b _ hk => hk.imp id fun h => by omega
  · exact hbase.trans' hU19 fun i hi h => h.elim id fun h => by omega
end Ms

