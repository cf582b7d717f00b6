/- A part of the proof: see the last text. -/
import Derived.Test.YtanfebeopfbamaaGreatDoorDescribeClientQuotasResponseP0
set_option linter.unusedSimpArgs false
set_option linter.unusedVariables false
namespace Ms
open Go.World renaming size_alloc → qI
open Ms renaming size_wr → qJ,size_drew → qK,not_noB → qL
open W renaming seqR → qA,seq → qB,regR → qC,condK → qD,block → qE,skip → qF,ret → qG,exit → qH
open Nat renaming reduceEqDiff → n0,reduceAdd → n1,reduceMul → n2,reduceSub → n3,reduceLT → n4,reduceLeDiff → n5
open Int renaming reduceEq → i0,reduceLT → i1,reduceLE → i2,reduceNeg → i3,reduceAdd → i4,reduceSub → i5,reduceMul → i6,reduceToNat → i7
set_option maxRecDepth 8000
open Go Go.Proofs Go.Shelf
attribute [local congr] W_congr WPsq_congr WPp_congr optK_congr addrK_congr intK_congr boolK_congr sliceK_congr tupleK_congr funcK_congr Fn_congr rawK_congr takeK_congr stepK_congr convK_congr aggK_congr

set_option maxHeartbeats 4000000 in
theorem readQ_0 {d : Nat} {ok : Blocks} {ver : Int} {ev : Value} (hlo : 0 ≤ ver) (hhi : ver ≤ 0) (w : World) {vb : Nat} (src : Value) (s : List UInt8) (hv : blk w vb = some (#[.int .i16 ver,.int .i32 0,.int .i16 0,.pointer none,.slice none 0 0,.map none],95,(0,0))) (hsrc : BytesV ok w src s) (hok0 : ∀ b,ok b → b < w.heap.size ∧ b ≠ vb) (hG : Glo ev w) (hgv : ¬ 2 = vb ∧ ¬ 0 = vb) :
    Fn Tryz.prog 56 #[.pointer (some ⟨vb,0,none⟩),src,.bool false] w (ReadQ 95 ok ver (d + 3) fs_Q vb w (rdP (d + 3) ver false fs_Q (some s)) ev) := by
  have hvl := blk_lt hv
  have hgs := hG.lt
  obtain ⟨sa,sc,rfl,_⟩ := hsrc.shape
  refine fn_of_W Tryz.func56 rfl Tryz.results56 Tryz.ntmps56 rfl ?_
  repeat ((first | refine qA rfl ?_|apply qB|refine qC rfl ?_|apply qD|apply qE|apply qF|apply qG|apply qH);try simp (maxSteps:=1000000)(disch:=(first|omega|(simp only [qI,qJ,qK]<;>omega)|exact qL _)) only [go_sem,↓reduceIte,n0,reduceCtorEq,n1,n2,n3,n4,n5,i0,i1,i2,i3,i4,i5,i6,i7,hv])
  refine (DefaultQ_fn w hv).mono ?_
  rintro _ w0 ⟨hv0,hu0⟩
  have hz0 := hu0.size
  have hsrc0 : BytesV ok w0 (.slice sa s.length sc) s := hsrc.keep (hu0.keeps fun b _ hk e => (hok0 b hk).2 e)
  obtain ⟨rb,hrb⟩ : ∃ r,r = w0.heap.size := ⟨_,rfl⟩
  have hE1 : Ext w0 (wr (w0.alloc (.cells #[.slice none 0 0,.bool false] 117)) w0.heap.size 0 [.slice sa s.length sc,.bool false]) := (Upd.alloc (Upd.refl _ _) _).wr _ _ (.inl (Nat.le_refl _))
  have hz1 : (wr (w0.alloc (.cells #[.slice none 0 0,.bool false] 117)) w0.heap.size 0 [.slice sa s.length sc,.bool false]).heap.size = w0.heap.size + 1 := by rw [size_wr,World.size_alloc]
  have hR1 : Rdr RT ok (wr (w0.alloc (.cells #[.slice none 0 0,.bool false] 117)) w0.heap.size 0 [.slice sa s.length sc,.bool false]) w0.heap.size (some s) := Rdr.good (v := .slice sa s.length sc) (by simp (maxSteps:=1000000)(disch:=(first|omega|(simp only [qI,qJ,qK]<;>omega)|exact qL _)) only [go_sem,↓reduceIte,n0,reduceCtorEq,n1,n2,n3,n4,n5,i0,i1,i2,i3,i4,i5,i6,i7]) (hsrc0.keep (hE1.keeps _))
  have hv_1 := hE1.blk_some hv0 id
  repeat ((first | refine qA rfl ?_|apply qB|refine qC rfl ?_|apply qD|apply qE|apply qF|apply qG|apply qH);try simp (maxSteps:=1000000)(disch:=(first|omega|(simp only [qI,qJ,qK]<;>omega)|exact qL _)) only [go_sem,↓reduceIte,n0,reduceCtorEq,n1,n2,n3,n4,n5,i0,i1,i2,i3,i4,i5,i6,i7,hv0])
  generalize (wr (w0.alloc (.cells #[.slice none 0 0,.bool false] 117)) w0.heap.size 0 [.slice sa s.length sc,.bool false]) = w1 at *
  rw [← hrb] at hR1
  try rw [← hrb]
  have hok : ∀ b,ok b → b < w.heap.size ∧ b ≠ vb := hok0
  have hrok : ¬ ok rb := fun h => by have := (hok rb h).1;omega
  have hbase : Upd (fun b => b = vb) w w1 := hu0.trans (hE1.mono fun _ h => h.elim)
  have hG1 : Glo ev w1 := hG.updS hbase hgv.1 hgv.2
  have hgrb : ¬ 2 = rb := by omega
  have hgM1 : ¬ (2 = vb ∨ 2 = rb) := fun h => h.elim hgv.1 fun h => by omega
  have hgM2 : ¬ (0 = vb ∨ 0 = rb) := fun h => h.elim hgv.2 fun h => by omega
  obtain ⟨s0,hs0⟩ : ∃ s' : St,s' = some s := ⟨_,rfl⟩
  rw [← hs0] at hR1 ⊢
  have hU1 : Upd (fun b => b = vb ∨ b = rb) w1 w1 := Upd.refl _ _
  have hoM : ∀ b,(ok b ∨ w1.heap.size ≤ b) → ¬ (b = vb ∨ b = rb) := fun b hk h => by
    rcases hk with hk | hk
    · have := hok b hk;rcases h with h | h <;> omega
    · rcases h with h | h <;> omega
  have hq1 : Rdr RT ok w1 rb s0 := hR1
  obtain ⟨FB,hFB⟩ : ∃ P : Prop,P = ((rdP (d + 3) ver false fs_Q s0).2 = none) := ⟨_,rfl⟩
  have hb_0 : (rdL (rdP (d + 2) ver false) (dfP (d + 2)) ver false [fQ_0,fQ_1,fQ_2,fQ_3] s0).2 = none → FB := fun h => Eq.mpr hFB (rdP_bad h)
  have hh_0 : hasS fQ_0 ver = true := hasS_t (by show (0 : Int) ≤ ver;omega) (by show (-1 : Int) < 0 ∨ ver ≤ (-1 : Int);omega)
  obtain ⟨x_0,hx_0⟩ : ∃ x,x = (rdF (rdP (d + 2) ver false) ver false fQ_0 s0).1 := ⟨_,rfl⟩
  repeat ((first | refine qA rfl ?_|apply qB|refine qC rfl ?_|apply qD|apply qE|apply qF|apply qG|apply qH);try simp (maxSteps:=1000000)(disch:=(first|omega|(simp only [qI,qJ,qK]<;>omega)|exact qL _)) only [go_sem,↓reduceIte,n0,reduceCtorEq,n1,n2,n3,n4,n5,i0,i1,i2,i3,i4,i5,i6,i7,hv_1])
  have hrd : rdF (rdP (d + 2) ver false) ver false fQ_0 s0 = _ := rdF_num 3 rfl (by decide)
  refine (Int32_fn w1 hq1 hrok hG1.1 hgrb).mono ?_
  rintro _ w2 ⟨rfl,hq2,hu2⟩
  have hv_2 := hu2.blk_some hv_1 (by omega)
  have hV2 : Upd (fun b => b = vb ∨ b = rb) w1 w2 := hu2.mono (fun _ h => .inr h)
  have hU2 : Upd (fun b => b = vb ∨ b = rb) w1 w2 := hU1.trans hV2
  have hz2 := hV2.size
  have hG2 : Glo ev w2 := hG1.updS hU2 hgM1 hgM2
  have hst : (rdF (rdP (d + 2) ver false) ver false fQ_0 s0).2 = (rdInt .i32 4 s0).2 := by first | (rw [hrd];rfl) | rw [hrd]
  obtain ⟨s1,hs1⟩ : ∃ s,s = (rdF (rdP (d + 2) ver false) ver false fQ_0 s0).2 := ⟨_,rfl⟩
  rw [← hst,← hs1] at hq2
  clear hst
  repeat ((first | refine qA rfl ?_|apply qB|refine qC rfl ?_|apply qD|apply qE|apply qF|apply qG|apply qH);try simp (maxSteps:=1000000)(disch:=(first|omega|(simp only [qI,qJ,qK]<;>omega)|exact qL _)) only [go_sem,↓reduceIte,n0,reduceCtorEq,n1,n2,n3,n4,n5,i0,i1,i2,i3,i4,i5,i6,i7,hv_2])
  generalize hw3 : wr w2 vb 1 [.int .i32 (rdInt .i32 4 s0).1] = w3
  have hS3 : Upd (fun b => b = vb ∨ b = rb) w2 w3 := by rw [← hw3];exact (Upd.refl _ _).wr _ _ (.inr (.inl rfl))
  have hv_3 : blk w3 vb = some (#[.int .i16 ver,.int .i32 (rdInt .i32 4 s0).1,.int .i16 0,.pointer none,.slice none 0 0,.map none],95,(0,0)) := by rw [← hw3,blk_wr_eq,hv_2];rfl
  have hV3 := hS3
  have hU3 : Upd (fun b => b = vb ∨ b = rb) w1 w3 := hU2.trans hV3
  have hz3 := hV3.size
  have hG3 : Glo ev w3 := hG1.updS hU3 hgM1 hgM2
  have hq3 : Rdr RT ok w3 rb s1 ∧ NN w3 rb s1 := by
    have hn : ∀ x,x = w3 → (Rdr RT ok x rb s1 ∧ NN x rb s1) := fun x hx => by
      rw [hx,← hw3]
      exact Rdr.store hq2 (by omega) (fun h => by have := (hok _ h).1;first | omega | exact (hok _ h).2 rfl)
    exact hn _ rfl
  clear hw3
  have hf_0 : RepF (RepS true (d + 2)) (szS true (d + 2)) fQ_0 (fun b => ok b ∨ w1.heap.size ≤ b) w3 (x_0) [.int .i32 (rdInt .i32 4 s0).1] := (RepF_num (by decide)).2 (by rw [hx_0,hrd];exact congrArg (fun x => [x]) (numC_rd 3 (by decide) 4 s0).symm)
  clear hrd
  have hb_1 : (rdL (rdP (d + 2) ver false) (dfP (d + 2)) ver false [fQ_1,fQ_2,fQ_3] s1).2 = none → FB := fun h => hb_0 (by rw [rdL_st (by decide) hh_0,← hs1];exact h)
  have hh_1 : hasS fQ_1 ver = true := hasS_t (by show (0 : Int) ≤ ver;omega) (by show (-1 : Int) < 0 ∨ ver ≤ (-1 : Int);omega)
  obtain ⟨x_1,hx_1⟩ : ∃ x,x = (rdF (rdP (d + 2) ver false) ver false fQ_1 s1).1 := ⟨_,rfl⟩
  repeat ((first | refine qA rfl ?_|apply qB|refine qC rfl ?_|apply qD|apply qE|apply qF|apply qG|apply qH);try simp (maxSteps:=1000000)(disch:=(first|omega|(simp only [qI,qJ,qK]<;>omega)|exact qL _)) only [go_sem,↓reduceIte,n0,reduceCtorEq,n1,n2,n3,n4,n5,i0,i1,i2,i3,i4,i5,i6,i7,hv_3])
  have hrd : rdF (rdP (d + 2) ver false) ver false fQ_1 s1 = _ := rdF_num 2 rfl (by decide)
  refine (Int16_fn w3 hq3.1 hrok hG3.1 hgrb).mono ?_
  rintro _ w4 ⟨rfl,hq4,hu4⟩
  have hv_4 := hu4.blk_some hv_3 (by omega)
  have hV4 : Upd (fun b => b = vb ∨ b = rb) w3 w4 := hu4.mono (fun _ h => .inr h)
  have hU4 : Upd (fun b => b = vb ∨ b = rb) w1 w4 := hU3.trans hV4
  have hz4 := hV4.size
  have hG4 : Glo ev w4 := hG1.updS hU4 hgM1 hgM2
  have hst : (rdF (rdP (d + 2) ver false) ver false fQ_1 s1).2 = (rdInt .i16 2 s1).2 := by first | (rw [hrd];rfl) | rw [hrd]
  obtain ⟨s2,hs2⟩ : ∃ s,s = (rdF (rdP (d + 2) ver false) ver false fQ_1 s1).2 := ⟨_,rfl⟩
  rw [← hst,← hs2] at hq4
  clear hst
  repeat ((first | refine qA rfl ?_|apply qB|refine qC rfl ?_|apply qD|apply qE|apply qF|apply qG|apply qH);try simp (maxSteps:=1000000)(disch:=(first|omega|(simp only [qI,qJ,qK]<;>omega)|exact qL _)) only [go_sem,↓reduceIte,n0,reduceCtorEq,n1,n2,n3,n4,n5,i0,i1,i2,i3,i4,i5,i6,i7,hv_4])
  generalize hw5 : wr w4 vb 2 [.int .i16 (rdInt .i16 2 s1).1] = w5
  have hS5 : Upd (fun b => b = vb ∨ b = rb) w4 w5 := by rw [← hw5];exact (Upd.refl _ _).wr _ _ (.inr (.inl rfl))
  have hv_5 : blk w5 vb = some (#[.int .i16 ver,.int .i32 (rdInt .i32 4 s0).1,.int .i16 (rdInt .i16 2 s1).1,.pointer none,.slice none 0 0,.map none],95,(0,0)) := by rw [← hw5,blk_wr_eq,hv_4];rfl
  have hV5 := hS5
  have hU5 : Upd (fun b => b = vb ∨ b = rb) w1 w5 := hU4.trans hV5
  have hz5 := hV5.size
  have hG5 : Glo ev w5 := hG1.updS hU5 hgM1 hgM2
  have hq5 : Rdr RT ok w5 rb s2 ∧ NN w5 rb s2 := by
    have hn : ∀ x,x = w5 → (Rdr RT ok x rb s2 ∧ NN x rb s2) := fun x hx => by
      rw [hx,← hw5]
      exact Rdr.store hq4 (by omega) (fun h => by have := (hok _ h).1;first | omega | exact (hok _ h).2 rfl)
    exact hn _ rfl
  clear hw5
  have hf_1 : RepF (RepS true (d + 2)) (szS true (d + 2)) fQ_1 (fun b => ok b ∨ w1.heap.size ≤ b) w5 (x_1) [.int .i16 (rdInt .i16 2 s1).1] := (RepF_num (by decide)).2 (by rw [hx_1,hrd];exact congrArg (fun x => [x]) (numC_rd 2 (by decide) 2 s1).symm)
  clear hrd
  have hb_2 : (rdL (rdP (d + 2) ver false) (dfP (d + 2)) ver false [fQ_2,fQ_3] s2).2 = none → FB := fun h => hb_1 (by rw [rdL_st (by decide) hh_1,← hs2];exact h)
  have hh_2 : hasS fQ_2 ver = true := hasS_t (by show (0 : Int) ≤ ver;omega) (by show (-1 : Int) < 0 ∨ ver ≤ (-1 : Int);omega)
  obtain ⟨x_2,hx_2⟩ : ∃ x,x = (rdF (rdP (d + 2) ver false) ver false fQ_2 s2).1 := ⟨_,rfl⟩
  repeat ((first | refine qA rfl ?_|apply qB|refine qC rfl ?_|apply qD|apply qE|apply qF|apply qG|apply qH);try simp (maxSteps:=1000000)(disch:=(first|omega|(simp only [qI,qJ,qK]<;>omega)|exact qL _)) only [go_sem,↓reduceIte,n0,reduceCtorEq,n1,n2,n3,n4,n5,i0,i1,i2,i3,i4,i5,i6,i7,hv_5])
  have hmay : mayS fQ_2 ver = true := mayS_yes (by decide) (by show (0 : Int) ≤ ver;omega)
  have hrd : rdF (rdP (d + 2) ver false) ver false fQ_2 s2 = _ := rdF_ptr rfl hmay
  refine (RNullableString_fn w5 hq5.1 hrok hG5.1 hgrb).mono ?_
  rintro r6 w6 ⟨hp6,hq6,hu6⟩
  obtain ⟨ap6,rfl⟩ := hp6.shape
  have hv_6 := hu6.blk_some hv_5 (by omega)
  have hV6 : Upd (fun b => b = vb ∨ b = rb) w5 w6 := hu6.mono (fun _ h => .inr h)
  have hU6 : Upd (fun b => b = vb ∨ b = rb) w1 w6 := hU5.trans hV6
  have hz6 := hV6.size
  have hG6 : Glo ev w6 := hG1.updS hU6 hgM1 hgM2
  have hst : (rdF (rdP (d + 2) ver false) ver false fQ_2 s2).2 = (rdNStr false s2).2 := by first | (rw [hrd];rfl) | rw [hrd]
  obtain ⟨s3,hs3⟩ : ∃ s,s = (rdF (rdP (d + 2) ver false) ver false fQ_2 s2).2 := ⟨_,rfl⟩
  rw [← hst,← hs3] at hq6
  clear hst
  repeat ((first | refine qA rfl ?_|apply qB|refine qC rfl ?_|apply qD|apply qE|apply qF|apply qG|apply qH);try simp (maxSteps:=1000000)(disch:=(first|omega|(simp only [qI,qJ,qK]<;>omega)|exact qL _)) only [go_sem,↓reduceIte,n0,reduceCtorEq,n1,n2,n3,n4,n5,i0,i1,i2,i3,i4,i5,i6,i7,hv_6])
  generalize hw7 : wr w6 vb 3 [.pointer ap6] = w7
  have hS7 : Upd (fun b => b = vb ∨ b = rb) w6 w7 := by rw [← hw7];exact (Upd.refl _ _).wr _ _ (.inr (.inl rfl))
  have hv_7 : blk w7 vb = some (#[.int .i16 ver,.int .i32 (rdInt .i32 4 s0).1,.int .i16 (rdInt .i16 2 s1).1,.pointer ap6,.slice none 0 0,.map none],95,(0,0)) := by rw [← hw7,blk_wr_eq,hv_6];rfl
  have hV7 := hS7
  have hU7 : Upd (fun b => b = vb ∨ b = rb) w1 w7 := hU6.trans hV7
  have hz7 := hV7.size
  have hG7 : Glo ev w7 := hG1.updS hU7 hgM1 hgM2
  have hq7 : Rdr RT ok w7 rb s3 ∧ NN w7 rb s3 := by
    have hn : ∀ x,x = w7 → (Rdr RT ok x rb s3 ∧ NN x rb s3) := fun x hx => by
      rw [hx,← hw7]
      exact Rdr.store hq6 (by omega) (fun h => by have := (hok _ h).1;first | omega | exact (hok _ h).2 rfl)
    exact hn _ rfl
  clear hw7
  have hf_2 : RepF (RepS true (d + 2)) (szS true (d + 2)) fQ_2 (fun b => ok b ∨ w1.heap.size ≤ b) w7 (x_2) [.pointer ap6] := (RepF_ptr rfl (by decide)).2 ⟨_,rfl,by rw [hx_2,hrd];exact (hp6.weaken fun b _ hk => by have hk' : w5.heap.size ≤ b := hk;exact .inr (by omega)).keep (hV7.keeps fun b _ hk e => (hoM b hk) e)⟩
  clear hrd
  have hb_3 : (rdL (rdP (d + 2) ver false) (dfP (d + 2)) ver false [fQ_3] s3).2 = none → FB := fun h => hb_2 (by rw [rdL_st (by decide) hh_2,← hs3];exact h)
  have hh_3 : hasS fQ_3 ver = true := hasS_t (by show (0 : Int) ≤ ver;omega) (by show (-1 : Int) < 0 ∨ ver ≤ (-1 : Int);omega)
  obtain ⟨x_3,hx_3⟩ : ∃ x,x = (rdF (rdP (d + 2) ver false) ver false fQ_3 s3).1 := ⟨_,rfl⟩
  repeat ((first | refine qA rfl ?_|apply qB|refine qC rfl ?_|apply qD|apply qE|apply qF|apply qG|apply qH);try simp (maxSteps:=1000000)(disch:=(first|omega|(simp only [qI,qJ,qK]<;>omega)|exact qL _)) only [go_sem,↓reduceIte,n0,reduceCtorEq,n1,n2,n3,n4,n5,i0,i1,i2,i3,i4,i5,i6,i7,hv_7])
  refine (RArrayLen_fn w7 hq7.1 hrok hG7.1 hgrb).mono ?_
  rintro _ w8 ⟨rfl,hq8,hu8⟩
  have hv_8 := hu8.blk_some hv_7 (by omega)
  have hV8 : Upd (fun b => b = vb ∨ b = rb) w7 w8 := hu8.mono (fun _ h => .inr h)
  have hU8 : Upd (fun b => b = vb ∨ b = rb) w1 w8 := hU7.trans hV8
  have hz8 := hV8.size
  have hG8 : Glo ev w8 := hG1.updS hU8 hgM1 hgM2
  obtain ⟨s4,hs4⟩ : ∃ s,s = (rdALen false s3).2 := ⟨_,rfl⟩
  rw [← hs4] at hq8
  have hyr0 := rdALen_rng false s3
  generalize hy0 : (rdALen false s3).1 = y0 at *
  obtain ⟨N0,hN0⟩ : ∃ N,N = y0.toNat := ⟨_,rfl⟩
  have hlb0 : (rdMany (rd1 (rdP (d + 2) ver false) fQ_3.of fQ_3.sub false false) N0 s4).2 = none → FB := fun h => hb_3 (by rw [rdL_st (by decide) hh_3];exact rdL_bad (rdF_listbad rfl (by rw [hy0,← hN0,← hs4];exact h)))
  repeat ((first | refine W.seqR rfl ?_ | refine W.seq ?_ | refine W.regR rfl ?_ | refine W.block ?_ | refine W.skip ?_ | refine W.ret ?_ | refine W.exit ?_);try simp (maxSteps:=1000000)(disch:=(first|omega|(simp only [qI,qJ,qK]<;>omega)|exact qL _)) only [go_sem,↓reduceIte,n0,reduceCtorEq,n1,n2,n3,n4,n5,i0,i1,i2,i3,i4,i5,i6,i7,hv_8])
  refine W.normJ (RowQ [(2,.bool false),(7,.pointer (some ⟨rb,0,none⟩)),(8,.int .i16 ver),(9,.bool false),(10,.pointer (some ⟨vb,0,none⟩)),(16,.int .i32 y0)] 15 (fun va w' => ∃ a0,va = .slice a0 0 0 ∧ Ext w8 w' ∧ (∀ x,a0 = some x → w8.heap.size ≤ x.block ∧ x.block < w'.heap.size) ∧ (N0 = 0 → if nilS fQ_3 ver y0 = true then va = .slice none 0 0 else ∃ a,va = .slice (some a) 0 0))) ?_ ?_
  · by_cases hye : y0 = 0
    · repeat ((first | refine qA rfl ?_|apply qB|refine qC rfl ?_|apply qD|apply qE|apply qF|apply qG|apply qH);try simp (maxSteps:=1000000)(disch:=(first|omega|(simp only [qI,qJ,qK]<;>omega)|exact qL _)) only [go_sem,↓reduceIte,n0,reduceCtorEq,n1,n2,n3,n4,n5,i0,i1,i2,i3,i4,i5,i6,i7,hv_8,hye])
      exact ⟨(by simp (maxSteps:=1000000)(disch:=(first|omega|(simp only [qI,qJ,qK]<;>omega)|exact qL _)) only [go_sem,↓reduceIte,n0,reduceCtorEq,n1,n2,n3,n4,n5,i0,i1,i2,i3,i4,i5,i6,i7,Holds_nil,Holds_cons,hye]),.slice (some ⟨w8.heap.size,0,none⟩) 0 0,(by simp (maxSteps:=1000000)(disch:=(first|omega|(simp only [qI,qJ,qK]<;>omega)|exact qL _)) only [go_sem,↓reduceIte,n0,reduceCtorEq,n1,n2,n3,n4,n5,i0,i1,i2,i3,i4,i5,i6,i7]),some ⟨w8.heap.size,0,none⟩,rfl,(Upd.alloc (Upd.refl _ _) _ : Ext _ _),(fun x hx => by cases hx;exact ⟨Nat.le_refl _,by simp only [World.size_alloc];omega⟩),(fun _ => by rw [nilS_may (by decide) (by show (0 : Int) ≤ ver;omega),decide_eq_false (by omega)];exact ⟨_,rfl⟩)⟩
    · repeat ((first | refine qA rfl ?_|apply qB|refine qC rfl ?_|apply qD|apply qE|apply qF|apply qG|apply qH);try simp (maxSteps:=1000000)(disch:=(first|omega|(simp only [qI,qJ,qK]<;>omega)|exact qL _)) only [go_sem,↓reduceIte,n0,reduceCtorEq,n1,n2,n3,n4,n5,i0,i1,i2,i3,i4,i5,i6,i7,hv_8,hye])
      exact ⟨(by simp (maxSteps:=1000000)(disch:=(first|omega|(simp only [qI,qJ,qK]<;>omega)|exact qL _)) only [go_sem,↓reduceIte,n0,reduceCtorEq,n1,n2,n3,n4,n5,i0,i1,i2,i3,i4,i5,i6,i7,Holds_nil,Holds_cons,hye]),.slice none 0 0,(by simp (maxSteps:=1000000)(disch:=(first|omega|(simp only [qI,qJ,qK]<;>omega)|exact qL _)) only [go_sem,↓reduceIte,n0,reduceCtorEq,n1,n2,n3,n4,n5,i0,i1,i2,i3,i4,i5,i6,i7]),none,rfl,Upd.refl _ _,(fun x hx => by cases hx),(fun _ => by rw [nilS_may (by decide) (by show (0 : Int) ≤ ver;omega),decide_eq_true (by omega)];exact rfl)⟩
  rintro ρ w9 ⟨⟨hrn0_2,hrn0_7,hrn0_8,hrn0_9,hrn0_10,hrn0_16,-⟩,va,hra0,a0,rfl,hEn0,hab0,hnl0⟩
  have hun9 : Upd (fun b => b = rb) w8 w9 := hEn0.mono fun _ h => h.elim
  have hq9 := And.intro (hq8.1.upd hEn0 (fun h => h) (fun _ _ _ h => h)) (hq8.2.upd hEn0 fun h => h)
  have hv_9 := hun9.blk_some hv_8 (by omega)
  have hV9 : Upd (fun b => b = vb ∨ b = rb) w8 w9 := hun9.mono (fun _ h => .inr h)
  have hU9 : Upd (fun b => b = vb ∨ b = rb) w1 w9 := hU8.trans hV9
  have hz9 := hV9.size
  have hG9 : Glo ev w9 := hG1.updS hU9 hgM1 hgM2
  repeat ((first | refine W.seqR rfl ?_ | refine W.seq ?_ | refine W.regR rfl ?_ | refine W.block ?_ | refine W.skip ?_ | refine W.ret ?_ | refine W.exit ?_);try simp (maxSteps:=1000000)(disch:=(first|omega|(simp only [qI,qJ,qK]<;>omega)|exact qL _)) only [go_sem,↓reduceIte,n0,reduceCtorEq,n1,n2,n3,n4,n5,i0,i1,i2,i3,i4,i5,i6,i7,hv_9,hrn0_2,hrn0_7,hrn0_8,hrn0_9,hrn0_10,hrn0_16,hra0])
  refine (ROk_fn w9 hq9.1).mono ?_
  rintro _ wz ⟨rfl,hez⟩
  rw [hez]
  clear hez wz
  by_cases hsn0 : s4 = none
  · have hso : s4.isSome = false := by rw [hsn0];rfl
    repeat (first|simp (maxSteps:=1000000)(disch:=(first|omega|(simp only [qI,qJ,qK]<;>omega)|exact qL _)) only [go_sem,↓reduceIte,n0,reduceCtorEq,n1,n2,n3,n4,n5,i0,i1,i2,i3,i4,i5,i6,i7,hv_9,hrn0_2,hrn0_7,hrn0_8,hrn0_9,hrn0_10,hrn0_16,hra0,hso]|refine qA rfl ?_|apply qB|refine qC rfl ?_|apply qD|apply qE|apply qF|apply qG|apply qH)
    refine (RComplete_fn w9 hq9.1 hG9.2).mono ?_
    rintro _ wz ⟨rfl,hez⟩
    rw [hez]
    repeat (first|simp (maxSteps:=1000000)(disch:=(first|omega|(simp only [qI,qJ,qK]<;>omega)|exact qL _)) only [go_sem,↓reduceIte,n0,reduceCtorEq,n1,n2,n3,n4,n5,i0,i1,i2,i3,i4,i5,i6,i7,hv_9,hrn0_2,hrn0_7,hrn0_8,hrn0_9,hrn0_10,hrn0_16,hra0]|refine qA rfl ?_|apply qB|refine qC rfl ?_|apply qD|apply qE|apply qF|apply qG|apply qH)
    rw [errV_none hsn0]
    exact ReadQ.bad (Eq.mp hFB (hlb0 (by rw [hsn0];exact rdMany_none rd1P_none _))) (hbase.trans' hU9 fun i hi h => h.elim id fun h => by omega)
  have hso0 : s4.isSome = true := isSome_some hsn0
  try simp (maxSteps:=1000000)(disch:=(first|omega|(simp only [qI,qJ,qK]<;>omega)|exact qL _)) only [go_sem,↓reduceIte,n0,reduceCtorEq,n1,n2,n3,n4,n5,i0,i1,i2,i3,i4,i5,i6,i7,hv_9,hrn0_2,hrn0_7,hrn0_8,hrn0_9,hrn0_10,hrn0_16,hra0,hso0]
  repeat ((first | refine W.seqR rfl ?_ | refine W.seq ?_ | refine W.regR rfl ?_ | refine W.block ?_ | refine W.skip ?_ | refine W.ret ?_ | refine W.exit ?_);try simp (maxSteps:=1000000)(disch:=(first|omega|(simp only [qI,qJ,qK]<;>omega)|exact qL _)) only [go_sem,↓reduceIte,n0,reduceCtorEq,n1,n2,n3,n4,n5,i0,i1,i2,i3,i4,i5,i6,i7,hv_9,hrn0_2,hrn0_7,hrn0_8,hrn0_9,hrn0_10,hrn0_16,hra0,hso0])
  refine W.condK ?_
  try simp (maxSteps:=1000000)(disch:=(first|omega|(simp only [qI,qJ,qK]<;>omega)|exact qL _)) only [go_sem,↓reduceIte,n0,reduceCtorEq,n1,n2,n3,n4,n5,i0,i1,i2,i3,i4,i5,i6,i7,hv_9,hrn0_2,hrn0_7,hrn0_8,hrn0_9,hrn0_10,hrn0_16,hra0,hso0]
  repeat ((first | refine W.seqR rfl ?_ | refine W.seq ?_ | refine W.regR rfl ?_ | refine W.block ?_ | refine W.skip ?_ | refine W.ret ?_ | refine W.exit ?_);try simp (maxSteps:=1000000)(disch:=(first|omega|(simp only [qI,qJ,qK]<;>omega)|exact qL _)) only [go_sem,↓reduceIte,n0,reduceCtorEq,n1,n2,n3,n4,n5,i0,i1,i2,i3,i4,i5,i6,i7,hv_9,hrn0_2,hrn0_7,hrn0_8,hrn0_9,hrn0_10,hrn0_16,hra0,hso0,slBase_00])
  refine W.normJ (RowQ [(2,.bool false),(7,.pointer (some ⟨rb,0,none⟩)),(8,.int .i16 ver),(9,.bool false),(10,.pointer (some ⟨vb,0,none⟩)),(16,.int .i32 y0)] 15 (fun va w' => LstI RT (rd1 (rdP (d + 2) ver false) fQ_3.of fQ_3.sub false false) (Rep1 (RepS true (d + 2)) fQ_3.of fQ_3.sub) 3 103 [.slice none 0 0,.slice none 0 0,.map none] w8.heap.size N0 ok (fun b => ok b ∨ w1.heap.size ≤ b) rb w8 s4 va 0 s4 [] [] w' ∧ (N0 = 0 → if nilS fQ_3 ver y0 = true then va = .slice none 0 0 else ∃ a,va = .slice (some a) 0 0))) ?_ ?_
  · by_cases hy0 : (0 : Int) < y0
    · have hyv : Value.int .i32 y0 = .int .i32 ((N0 : Nat) : Int) := by rw [show y0 = ((N0 : Nat) : Int) by omega]
      repeat ((first | refine qA rfl ?_|apply qB|refine qC rfl ?_|apply qD|apply qE|apply qF|apply qG|apply qH);try simp (maxSteps:=1000000)(disch:=(first|omega|(simp only [qI,qJ,qK]<;>omega)|exact qL _)) only [go_sem,↓reduceIte,n0,reduceCtorEq,n1,n2,n3,n4,n5,i0,i1,i2,i3,i4,i5,i6,i7,hv_9,hrn0_2,hrn0_7,hrn0_8,hrn0_9,hrn0_10,hrn0_16,hra0])
      refine wp_appendZ (m := N0) utQ_93 utQ_21 inQ_103 (by decide) (by first | rfl | simp (maxSteps:=1000000)(disch:=(first|omega|(simp only [qI,qJ,qK]<;>omega)|exact qL _)) only [go_sem,↓reduceIte,n0,reduceCtorEq,n1,n2,n3,n4,n5,i0,i1,i2,i3,i4,i5,i6,i7,hrn0_2,hrn0_7,hrn0_8,hrn0_9,hrn0_10,hrn0_16,hra0]) (by first | exact hyv | (simp (maxSteps:=1000000)(disch:=(first|omega|(simp only [qI,qJ,qK]<;>omega)|exact qL _)) only [go_sem,↓reduceIte,n0,reduceCtorEq,n1,n2,n3,n4,n5,i0,i1,i2,i3,i4,i5,i6,i7,hrn0_2,hrn0_7,hrn0_8,hrn0_9,hrn0_10,hrn0_16,hra0];exact hyv)) (by omega) (by omega) (by decide) ?_
      intro q rest hq1
      have hEw : Ext w9 (w9.drew.alloc (.cells (zs [.slice none 0 0,.slice none 0 0,.map none] N0 ++ rest).toArray 103)) := (Upd.refl _ _).drew.alloc _
      repeat (first|simp (maxSteps:=1000000)(disch:=(first|omega|(simp only [qI,qJ,qK]<;>omega)|exact qL _)) only [go_sem,↓reduceIte,n0,reduceCtorEq,n1,n2,n3,n4,n5,i0,i1,i2,i3,i4,i5,i6,i7,hv_9,hrn0_2,hrn0_7,hrn0_8,hrn0_9,hrn0_10,hrn0_16,hra0]|refine qA rfl ?_|apply qB|refine qC rfl ?_|apply qD|apply qE|apply qF|apply qG|apply qH)
      exact ⟨(by simp (maxSteps:=1000000)(disch:=(first|omega|(simp only [qI,qJ,qK]<;>omega)|exact qL _)) only [go_sem,↓reduceIte,n0,reduceCtorEq,n1,n2,n3,n4,n5,i0,i1,i2,i3,i4,i5,i6,i7,Holds_nil,Holds_cons,hrn0_2,hrn0_7,hrn0_8,hrn0_9,hrn0_10,hrn0_16,hra0]),.slice (some ⟨w9.heap.size,0,none⟩) N0 q,(by simp (maxSteps:=1000000)(disch:=(first|omega|(simp only [qI,qJ,qK]<;>omega)|exact qL _)) only [go_sem,↓reduceIte,n0,reduceCtorEq,n1,n2,n3,n4,n5,i0,i1,i2,i3,i4,i5,i6,i7,hrn0_2,hrn0_7,hrn0_8,hrn0_9,hrn0_10,hrn0_16,hra0]),LstI.start (RowJ.start (by omega) hq1 (by show w8.heap.size ≤ w9.drew.heap.size;rw [size_drew];omega) (blk_alloc_new rfl)) ⟨hq9.1.upd hEw (fun h => h) (fun _ _ _ h => h),hq9.2.upd hEw fun h => h⟩ (hun9.trans (hEw.mono fun _ h => h.elim)),fun h0 => by omega⟩
    · repeat ((first | refine qA rfl ?_|apply qB|refine qC rfl ?_|apply qD|apply qE|apply qF|apply qG|apply qH);try simp (maxSteps:=1000000)(disch:=(first|omega|(simp only [qI,qJ,qK]<;>omega)|exact qL _)) only [go_sem,↓reduceIte,n0,reduceCtorEq,n1,n2,n3,n4,n5,i0,i1,i2,i3,i4,i5,i6,i7,hv_9,hrn0_2,hrn0_7,hrn0_8,hrn0_9,hrn0_10,hrn0_16,hra0])
      exact ⟨(by simp (maxSteps:=1000000)(disch:=(first|omega|(simp only [qI,qJ,qK]<;>omega)|exact qL _)) only [go_sem,↓reduceIte,n0,reduceCtorEq,n1,n2,n3,n4,n5,i0,i1,i2,i3,i4,i5,i6,i7,Holds_nil,Holds_cons,hrn0_2,hrn0_7,hrn0_8,hrn0_9,hrn0_10,hrn0_16,hra0]),.slice a0 0 0,(by simp (maxSteps:=1000000)(disch:=(first|omega|(simp only [qI,qJ,qK]<;>omega)|exact qL _)) only [go_sem,↓reduceIte,n0,reduceCtorEq,n1,n2,n3,n4,n5,i0,i1,i2,i3,i4,i5,i6,i7,hrn0_2,hrn0_7,hrn0_8,hrn0_9,hrn0_10,hrn0_16,hra0,slBase_00]),LstI.start (RowJ.zero (by omega) hab0) hq9 (hun9),hnl0⟩
  rintro ρ w10 ⟨⟨hrb0_2,hrb0_7,hrb0_8,hrb0_9,hrb0_10,hrb0_16,-⟩,va0,hra0,hL0,hnc0⟩
  repeat ((first | refine qA rfl ?_|apply qB|refine qC rfl ?_|apply qD|apply qE|apply qF|apply qG|apply qH);try simp (maxSteps:=1000000)(disch:=(first|omega|(simp only [qI,qJ,qK]<;>omega)|exact qL _)) only [go_sem,↓reduceIte,n0,reduceCtorEq,n1,n2,n3,n4,n5,i0,i1,i2,i3,i4,i5,i6,i7,hv_9,hrb0_2,hrb0_7,hrb0_8,hrb0_9,hrb0_10,hrb0_16,hra0,exitRQ_ret,exitRQ_exit,Int.toNat_natCast,Nat.mul_one])
  refine W.exitRJ 0 (EndQ [(2,.bool false),(7,.pointer (some ⟨rb,0,none⟩)),(8,.int .i16 ver),(9,.bool false),(10,.pointer (some ⟨vb,0,none⟩)),(16,.int .i32 y0),(15,va0)] (fun w' => ∃ s xs css,LstI RT (rd1 (rdP (d + 2) ver false) fQ_3.of fQ_3.sub false false) (Rep1 (RepS true (d + 2)) fQ_3.of fQ_3.sub) 3 103 [.slice none 0 0,.slice none 0 0,.map none] w8.heap.size N0 ok (fun b => ok b ∨ w1.heap.size ≤ b) rb w8 s4 va0 N0 s xs css w')) (W.loop (LoopQ [(2,.bool false),(7,.pointer (some ⟨rb,0,none⟩)),(8,.int .i16 ver),(9,.bool false),(10,.pointer (some ⟨vb,0,none⟩)),(16,.int .i32 y0),(15,va0)] 17 (fun j w' => ∃ s xs css,LstI RT (rd1 (rdP (d + 2) ver false) fQ_3.of fQ_3.sub false false) (Rep1 (RepS true (d + 2)) fQ_3.of fQ_3.sub) 3 103 [.slice none 0 0,.slice none 0 0,.map none] w8.heap.size N0 ok (fun b => ok b ∨ w1.heap.size ≤ b) rb w8 s4 va0 j s xs css w')) (fun ρ _ => N0 - (RowKit.intOf (ρ 17)).toNat) ?_ ?_) ?_
  · exact ⟨(by simp (maxSteps:=1000000)(disch:=(first|omega|(simp only [qI,qJ,qK]<;>omega)|exact qL _)) only [go_sem,↓reduceIte,n0,reduceCtorEq,n1,n2,n3,n4,n5,i0,i1,i2,i3,i4,i5,i6,i7,Holds_nil,Holds_cons,hrb0_2,hrb0_7,hrb0_8,hrb0_9,hrb0_10,hrb0_16,hra0]),0,(by simp (maxSteps:=1000000)(disch:=(first|omega|(simp only [qI,qJ,qK]<;>omega)|exact qL _)) only [go_sem,↓reduceIte,n0,reduceCtorEq,n1,n2,n3,n4,n5,i0,i1,i2,i3,i4,i5,i6,i7,hrb0_2,hrb0_7,hrb0_8,hrb0_9,hrb0_10,hrb0_16,hra0];all_goals rfl),s4,[],[],hL0⟩
  · rintro ρ w11 ⟨⟨hrc0_2,hrc0_7,hrc0_8,hrc0_9,hrc0_10,hrc0_16,hrc0_15,-⟩,j1,hri0,s5,xs0,css0,hL0⟩
    have hj0 := hL0.le
    have hq11 := hL0.rd
    have hU11 : Upd (fun b => b = vb ∨ b = rb) w1 w11 := hU8.trans' hL0.upd fun i _ h => .inr h
    have hz11 := hL0.upd.size
    have hG11 : Glo ev w11 := hG1.updS hU11 hgM1 hgM2
    by_cases hlt0 : j1 < N0
    · obtain ⟨R1,q1,B1,hva1,hNq1,hLR1,hA1,hx1_11,hnext1⟩ := hL0.row.next hlt0
      have hRl1 := blk_lt hx1_11
      generalize css0.flatten = A1 at hA1 hx1_11 hnext1
      replace hra0 : ρ 15 = .slice (some ⟨R1,0,none⟩) N0 q1 := hrc0_15.trans hva1
      have hown1 : ∀ b,ownB va0 b → w8.heap.size ≤ b ∧ b < w11.heap.size := fun b h => hL0.row.own h
      have hoM1 : ∀ b,(fun b => (ok b ∨ w1.heap.size ≤ b) ∧ ¬ ownB va0 b) b → ¬ (b = R1 ∨ b = rb) := fun b hk h => h.elim (fun e => hk.2 ⟨_,_,_,hva1,e⟩) (fun e => hoM b hk.1 (.inr e))
      obtain ⟨X11,hX11⟩ : ∃ X : Array Value,X = (A1 ++ (([.slice none 0 0,.slice none 0 0,.map none] : List Value) ++ B1)).toArray := ⟨_,rfl⟩
      have hxb11 : blk w11 R1 = some (X11,103,(0,0)) := by rw [hX11];exact hx1_11
      have hXs11 : j1 * 3 + 3 ≤ X11.size := by rw [hX11];simp only [List.size_toArray,List.length_append,List.length_cons,List.length_nil,hA1];omega
      repeat ((first | refine qA rfl ?_|apply qB|refine qC rfl ?_|apply qD|apply qE|apply qF|apply qG|apply qH);try simp (maxSteps:=1000000)(disch:=(first|omega|(simp only [qI,qJ,qK]<;>omega)|exact qL _)) only [go_sem,↓reduceIte,n0,reduceCtorEq,n1,n2,n3,n4,n5,i0,i1,i2,i3,i4,i5,i6,i7,hxb11,hrc0_2,hrc0_7,hrc0_8,hrc0_9,hrc0_10,hrc0_16,hra0,hri0,exitRQ_ret,exitRQ_exit,Int.toNat_natCast,Nat.mul_one])
      refine (DefaultEX2_fn w11 hx1_11 hA1).mono ?_
      rintro _ w12 ⟨hx1_12,hu12⟩
      have hq12 := And.intro (hq11.1.upd hu12 (by omega) (fun b _ hk e => by have := (hok b hk).1;omega)) (hq11.2.upd hu12 (by omega))
      have hV12 : Upd (fun b => b = R1 ∨ b = rb) w11 w12 := hu12.mono (fun _ h => .inl h)
      have hU12 : Upd (fun b => b = vb ∨ b = rb) w1 w12 := hU11.trans' hV12 fun i hi h => h.elim (fun h => by omega) .inr
      have hz12 := hV12.size
      have hG12 : Glo ev w12 := hG1.updS hU12 hgM1 hgM2
      obtain ⟨X12,hX12⟩ : ∃ X : Array Value,X = (A1 ++ (([.slice none 0 0,.slice none 0 0,.map none] : List Value) ++ B1)).toArray := ⟨_,rfl⟩
      have hxb12 : blk w12 R1 = some (X12,103,(0,0)) := by rw [hX12];exact hx1_12
      have hXs12 : j1 * 3 + 3 ≤ X12.size := by rw [hX12];simp only [List.size_toArray,List.length_append,List.length_cons,List.length_nil,hA1];omega
      have hbe0_0 : (rdL (rdP (d + 1) ver false) (dfP (d + 1)) ver false [fX2_0,fX2_1] s5).2 = none → FB := fun h => hlb0 (hL0.bad hlt0 rd1P_none (by show (rd1 (rdP (d + 2) ver false) 10 fs_X2 false false s5).2 = none;rw [rd1_part];exact rdP_bad h))
      have hhe0_0 : hasS fX2_0 ver = true := hasS_t (by show (0 : Int) ≤ ver;omega) (by show (-1 : Int) < 0 ∨ ver ≤ (-1 : Int);omega)
      obtain ⟨xe0_0,hxe0_0⟩ : ∃ x,x = (rdF (rdP (d + 1) ver false) ver false fX2_0 s5).1 := ⟨_,rfl⟩
      have hld12_0 : X12[j1 * 3]? = some (.slice none 0 0) := by rw [hX12];exact el_cell0 hA1 (Nat.le_of_ble_eq_true rfl)
      repeat ((first | refine qA rfl ?_|apply qB|refine qC rfl ?_|apply qD|apply qE|apply qF|apply qG|apply qH);try simp (maxSteps:=1000000)(disch:=(first|omega|(simp only [qI,qJ,qK]<;>omega)|exact qL _)) only [go_sem,↓reduceIte,n0,reduceCtorEq,n1,n2,n3,n4,n5,i0,i1,i2,i3,i4,i5,i6,i7,hxb12,hrc0_2,hrc0_7,hrc0_8,hrc0_9,hrc0_10,hrc0_16,hra0,hri0,exitRQ_ret,exitRQ_exit,Int.toNat_natCast,Nat.mul_one,hld12_0])
      refine (RArrayLen_fn w12 hq12.1 hrok hG12.1 hgrb).mono ?_
      rintro _ w13 ⟨rfl,hq13,hu13⟩
      have hx1_13 := hu13.blk_some hx1_12 (by omega)
      have hV13 : Upd (fun b => b = R1 ∨ b = rb) w12 w13 := hu13.mono (fun _ h => .inr h)
      have hU13 : Upd (fun b => b = vb ∨ b = rb) w1 w13 := hU12.trans' hV13 fun i hi h => h.elim (fun h => by omega) .inr
      have hz13 := hV13.size
      have hG13 : Glo ev w13 := hG1.updS hU13 hgM1 hgM2
      obtain ⟨X13,hX13⟩ : ∃ X : Array Value,X = (A1 ++ (([.slice none 0 0,.slice none 0 0,.map none] : List Value) ++ B1)).toArray := ⟨_,rfl⟩
      have hxb13 : blk w13 R1 = some (X13,103,(0,0)) := by rw [hX13];exact hx1_13
      have hXs13 : j1 * 3 + 3 ≤ X13.size := by rw [hX13];simp only [List.size_toArray,List.length_append,List.length_cons,List.length_nil,hA1];omega
      obtain ⟨s6,hs6⟩ : ∃ s,s = (rdALen false s5).2 := ⟨_,rfl⟩
      rw [← hs6] at hq13
      have hyr1 := rdALen_rng false s5
      generalize hy1 : (rdALen false s5).1 = y1 at *
      obtain ⟨N1,hN1⟩ : ∃ N,N = y1.toNat := ⟨_,rfl⟩
      have hlb1 : (rdMany (rd1 (rdP (d + 1) ver false) fX2_0.of fX2_0.sub false false) N1 s6).2 = none → FB := fun h => hbe0_0 (by rw [rdL_st (by decide) hhe0_0];exact rdL_bad (rdF_listbad rfl (by rw [hy1,← hN1,← hs6];exact h)))
      repeat ((first | refine W.seqR rfl ?_ | refine W.seq ?_ | refine W.regR rfl ?_ | refine W.block ?_ | refine W.skip ?_ | refine W.ret ?_ | refine W.exit ?_);try simp (maxSteps:=1000000)(disch:=(first|omega|(simp only [qI,qJ,qK]<;>omega)|exact qL _)) only [go_sem,↓reduceIte,n0,reduceCtorEq,n1,n2,n3,n4,n5,i0,i1,i2,i3,i4,i5,i6,i7,hxb13,hrc0_2,hrc0_7,hrc0_8,hrc0_9,hrc0_10,hrc0_16,hra0,hri0,exitRQ_ret,exitRQ_exit,Int.toNat_natCast,Nat.mul_one])
      refine (ROk_fn w13 hq13.1).mono ?_
      rintro _ wz ⟨rfl,hez⟩
      rw [hez]
      clear hez wz
      by_cases hsn1 : s6 = none
      · have hso : s6.isSome = false := by rw [hsn1];rfl
        repeat (first|simp (maxSteps:=1000000)(disch:=(first|omega|(simp only [qI,qJ,qK]<;>omega)|exact qL _)) only [go_sem,↓reduceIte,n0,reduceCtorEq,n1,n2,n3,n4,n5,i0,i1,i2,i3,i4,i5,i6,i7,hxb13,hrc0_2,hrc0_7,hrc0_8,hrc0_9,hrc0_10,hrc0_16,hra0,hri0,exitRQ_ret,exitRQ_exit,Int.toNat_natCast,Nat.mul_one,hso]|refine qA rfl ?_|apply qB|refine qC rfl ?_|apply qD|apply qE|apply qF|apply qG|apply qH)
        refine (RComplete_fn w13 hq13.1 hG13.2).mono ?_
        rintro _ wz ⟨rfl,hez⟩
        rw [hez]
        repeat (first|simp (maxSteps:=1000000)(disch:=(first|omega|(simp only [qI,qJ,qK]<;>omega)|exact qL _)) only [go_sem,↓reduceIte,n0,reduceCtorEq,n1,n2,n3,n4,n5,i0,i1,i2,i3,i4,i5,i6,i7,hxb13,hrc0_2,hrc0_7,hrc0_8,hrc0_9,hrc0_10,hrc0_16,hra0,hri0,exitRQ_ret,exitRQ_exit,Int.toNat_natCast,Nat.mul_one]|refine qA rfl ?_|apply qB|refine qC rfl ?_|apply qD|apply qE|apply qF|apply qG|apply qH)
        rw [errV_none hsn1]
        exact ReadQ.bad (Eq.mp hFB (hlb1 (by rw [hsn1];exact rdMany_none rd1P_none _))) (hbase.trans' hU13 fun i hi h => h.elim id fun h => by omega)
      have hso1 : s6.isSome = true := isSome_some hsn1
      try simp (maxSteps:=1000000)(disch:=(first|omega|(simp only [qI,qJ,qK]<;>omega)|exact qL _)) only [go_sem,↓reduceIte,n0,reduceCtorEq,n1,n2,n3,n4,n5,i0,i1,i2,i3,i4,i5,i6,i7,hxb13,hrc0_2,hrc0_7,hrc0_8,hrc0_9,hrc0_10,hrc0_16,hra0,hri0,exitRQ_ret,exitRQ_exit,Int.toNat_natCast,Nat.mul_one,hso1]
      repeat ((first | refine W.seqR rfl ?_ | refine W.seq ?_ | refine W.regR rfl ?_ | refine W.block ?_ | refine W.skip ?_ | refine W.ret ?_ | refine W.exit ?_);try simp (maxSteps:=1000000)(disch:=(first|omega|(simp only [qI,qJ,qK]<;>omega)|exact qL _)) only [go_sem,↓reduceIte,n0,reduceCtorEq,n1,n2,n3,n4,n5,i0,i1,i2,i3,i4,i5,i6,i7,hxb13,hrc0_2,hrc0_7,hrc0_8,hrc0_9,hrc0_10,hrc0_16,hra0,hri0,exitRQ_ret,exitRQ_exit,Int.toNat_natCast,Nat.mul_one,hso1])
      refine W.condK ?_
      try simp (maxSteps:=1000000)(disch:=(first|omega|(simp only [qI,qJ,qK]<;>omega)|exact qL _)) only [go_sem,↓reduceIte,n0,reduceCtorEq,n1,n2,n3,n4,n5,i0,i1,i2,i3,i4,i5,i6,i7,hxb13,hrc0_2,hrc0_7,hrc0_8,hrc0_9,hrc0_10,hrc0_16,hra0,hri0,exitRQ_ret,exitRQ_exit,Int.toNat_natCast,Nat.mul_one,hso1]
      repeat ((first | refine W.seqR rfl ?_ | refine W.seq ?_ | refine W.regR rfl ?_ | refine W.block ?_ | refine W.skip ?_ | refine W.ret ?_ | refine W.exit ?_);try simp (maxSteps:=1000000)(disch:=(first|omega|(simp only [qI,qJ,qK]<;>omega)|exact qL _)) only [go_sem,↓reduceIte,n0,reduceCtorEq,n1,n2,n3,n4,n5,i0,i1,i2,i3,i4,i5,i6,i7,hxb13,hrc0_2,hrc0_7,hrc0_8,hrc0_9,hrc0_10,hrc0_16,hra0,hri0,exitRQ_ret,exitRQ_exit,Int.toNat_natCast,Nat.mul_one,hso1,slBase_00])
      refine W.normJ (RowQ [(2,.bool false),(7,.pointer (some ⟨rb,0,none⟩)),(8,.int .i16 ver),(9,.bool false),(10,.pointer (some ⟨vb,0,none⟩)),(16,.int .i32 y0),(15,.slice (some ⟨R1,0,none⟩) N0 q1),(17,.int .i32 j1),(19,.pointer (some ⟨R1,j1 * 3,none⟩)),(22,.int .i32 y1)] 21 (fun va w' => LstI RT (rd1 (rdP (d + 1) ver false) fX2_0.of fX2_0.sub false false) (Rep1 (RepS true (d + 1)) fX2_0.of fX2_0.sub) 3 105 [.string ByteArray.empty,.pointer none,.map none] w13.heap.size N1 ok (fun b => (ok b ∨ w1.heap.size ≤ b) ∧ ¬ ownB va0 b) rb w13 s6 va 0 s6 [] [] w' ∧ (N1 = 0 → if nilS fX2_0 ver y1 = true then va = .slice none 0 0 else ∃ a,va = .slice (some a) 0 0))) ?_ ?_
      · by_cases hy0 : (0 : Int) < y1
        · have hyv : Value.int .i32 y1 = .int .i32 ((N1 : Nat) : Int) := by rw [show y1 = ((N1 : Nat) : Int) by omega]
          repeat ((first | refine qA rfl ?_|apply qB|refine qC rfl ?_|apply qD|apply qE|apply qF|apply qG|apply qH);try simp (maxSteps:=1000000)(disch:=(first|omega|(simp only [qI,qJ,qK]<;>omega)|exact qL _)) only [go_sem,↓reduceIte,n0,reduceCtorEq,n1,n2,n3,n4,n5,i0,i1,i2,i3,i4,i5,i6,i7,hxb13,hrc0_2,hrc0_7,hrc0_8,hrc0_9,hrc0_10,hrc0_16,hra0,hri0,exitRQ_ret,exitRQ_exit,Int.toNat_natCast,Nat.mul_one])
          refine wp_appendZ (m := N1) utQ_100 utQ_21 inQ_105 (by decide) (by first | rfl | simp (maxSteps:=1000000)(disch:=(first|omega|(simp only [qI,qJ,qK]<;>omega)|exact qL _)) only [go_sem,↓reduceIte,n0,reduceCtorEq,n1,n2,n3,n4,n5,i0,i1,i2,i3,i4,i5,i6,i7,hrc0_2,hrc0_7,hrc0_8,hrc0_9,hrc0_10,hrc0_16,hra0,hri0]) (by first | exact hyv | (simp (maxSteps:=1000000)(disch:=(first|omega|(simp only [qI,qJ,qK]<;>omega)|exact qL _)) only [go_sem,↓reduceIte,n0,reduceCtorEq,n1,n2,n3,n4,n5,i0,i1,i2,i3,i4,i5,i6,i7,hrc0_2,hrc0_7,hrc0_8,hrc0_9,hrc0_10,hrc0_16,hra0,hri0];exact hyv)) (by omega) (by omega) (by decide) ?_
          intro q rest hq1
          have hEw : Ext w13 (w13.drew.alloc (.cells (zs [.string ByteArray.empty,.pointer none,.map none] N1 ++ rest).toArray 105)) := (Upd.refl _ _).drew.alloc _
          repeat (first|simp (maxSteps:=1000000)(disch:=(first|omega|(simp only [qI,qJ,qK]<;>omega)|exact qL _)) only [go_sem,↓reduceIte,n0,reduceCtorEq,n1,n2,n3,n4,n5,i0,i1,i2,i3,i4,i5,i6,i7,hxb13,hrc0_2,hrc0_7,hrc0_8,hrc0_9,hrc0_10,hrc0_16,hra0,hri0,exitRQ_ret,exitRQ_exit,Int.toNat_natCast,Nat.mul_one]|refine qA rfl ?_|apply qB|refine qC rfl ?_|apply qD|apply qE|apply qF|apply qG|apply qH)
          exact ⟨(by simp (maxSteps:=1000000)(disch:=(first|omega|(simp only [qI,qJ,qK]<;>omega)|exact qL _)) only [go_sem,↓reduceIte,n0,reduceCtorEq,n1,n2,n3,n4,n5,i0,i1,i2,i3,i4,i5,i6,i7,Holds_nil,Holds_cons,hrc0_2,hrc0_7,hrc0_8,hrc0_9,hrc0_10,hrc0_16,hra0,hri0]),.slice (some ⟨w13.heap.size,0,none⟩) N1 q,(by simp (maxSteps:=1000000)(disch:=(first|omega|(simp only [qI,qJ,qK]<;>omega)|exact qL _)) only [go_sem,↓reduceIte,n0,reduceCtorEq,n1,n2,n3,n4,n5,i0,i1,i2,i3,i4,i5,i6,i7,hrc0_2,hrc0_7,hrc0_8,hrc0_9,hrc0_10,hrc0_16,hra0,hri0]),LstI.start (RowJ.start (by omega) hq1 (by show w13.heap.size ≤ w13.drew.heap.size;rw [size_drew];omega) (blk_alloc_new rfl)) ⟨hq13.1.upd hEw (fun h => h) (fun _ _ _ h => h),hq13.2.upd hEw fun h => h⟩ (hEw.mono fun _ h => h.elim),fun h0 => by omega⟩
        · repeat ((first | refine qA rfl ?_|apply qB|refine qC rfl ?_|apply qD|apply qE|apply qF|apply qG|apply qH);try simp (maxSteps:=1000000)(disch:=(first|omega|(simp only [qI,qJ,qK]<;>omega)|exact qL _)) only [go_sem,↓reduceIte,n0,reduceCtorEq,n1,n2,n3,n4,n5,i0,i1,i2,i3,i4,i5,i6,i7,hxb13,hrc0_2,hrc0_7,hrc0_8,hrc0_9,hrc0_10,hrc0_16,hra0,hri0,exitRQ_ret,exitRQ_exit,Int.toNat_natCast,Nat.mul_one])
          exact ⟨(by simp (maxSteps:=1000000)(disch:=(first|omega|(simp only [qI,qJ,qK]<;>omega)|exact qL _)) only [go_sem,↓reduceIte,n0,reduceCtorEq,n1,n2,n3,n4,n5,i0,i1,i2,i3,i4,i5,i6,i7,Holds_nil,Holds_cons,hrc0_2,hrc0_7,hrc0_8,hrc0_9,hrc0_10,hrc0_16,hra0,hri0]),.slice none 0 0,(by simp (maxSteps:=1000000)(disch:=(first|omega|(simp only [qI,qJ,qK]<;>omega)|exact qL _)) only [go_sem,↓reduceIte,n0,reduceCtorEq,n1,n2,n3,n4,n5,i0,i1,i2,i3,i4,i5,i6,i7,hrc0_2,hrc0_7,hrc0_8,hrc0_9,hrc0_10,hrc0_16,hra0,hri0,slBase_00]),LstI.start (RowJ.zero (by omega) (fun _ h => by cases h)) hq13 (Upd.refl _ _),fun _ => by rw [nilS_plain (by decide) (by omega)];exact rfl⟩
      rintro ρ w14 ⟨⟨hrb1_2,hrb1_7,hrb1_8,hrb1_9,hrb1_10,hrb1_16,hrb1_15,hrb1_17,hrb1_19,hrb1_22,-⟩,va1,hra1,hL1,hnc1⟩
      repeat ((first | refine qA rfl ?_|apply qB|refine qC rfl ?_|apply qD|apply qE|apply qF|apply qG|apply qH);try simp (maxSteps:=1000000)(disch:=(first|omega|(simp only [qI,qJ,qK]<;>omega)|exact qL _)) only [go_sem,↓reduceIte,n0,reduceCtorEq,n1,n2,n3,n4,n5,i0,i1,i2,i3,i4,i5,i6,i7,hxb13,hrb1_2,hrb1_7,hrb1_8,hrb1_9,hrb1_10,hrb1_16,hrb1_15,hrb1_17,hrb1_19,hrb1_22,hra1,exitRQ_ret,exitRQ_exit,Int.toNat_natCast,Nat.mul_one])
      refine W.exitRJ 2 (EndQ [(2,.bool false),(7,.pointer (some ⟨rb,0,none⟩)),(8,.int .i16 ver),(9,.bool false),(10,.pointer (some ⟨vb,0,none⟩)),(16,.int .i32 y0),(15,.slice (some ⟨R1,0,none⟩) N0 q1),(17,.int .i32 j1),(19,.pointer (some ⟨R1,j1 * 3,none⟩)),(22,.int .i32 y1),(21,va1)] (fun w' => ∃ s xs css,LstI RT (rd1 (rdP (d + 1) ver false) fX2_0.of fX2_0.sub false false) (Rep1 (RepS true (d + 1)) fX2_0.of fX2_0.sub) 3 105 [.string ByteArray.empty,.pointer none,.map none] w13.heap.size N1 ok (fun b => (ok b ∨ w1.heap.size ≤ b) ∧ ¬ ownB va0 b) rb w13 s6 va1 N1 s xs css w')) (W.loop (LoopQ [(2,.bool false),(7,.pointer (some ⟨rb,0,none⟩)),(8,.int .i16 ver),(9,.bool false),(10,.pointer (some ⟨vb,0,none⟩)),(16,.int .i32 y0),(15,.slice (some ⟨R1,0,none⟩) N0 q1),(17,.int .i32 j1),(19,.pointer (some ⟨R1,j1 * 3,none⟩)),(22,.int .i32 y1),(21,va1)] 23 (fun j w' => ∃ s xs css,LstI RT (rd1 (rdP (d + 1) ver false) fX2_0.of fX2_0.sub false false) (Rep1 (RepS true (d + 1)) fX2_0.of fX2_0.sub) 3 105 [.string ByteArray.empty,.pointer none,.map none] w13.heap.size N1 ok (fun b => (ok b ∨ w1.heap.size ≤ b) ∧ ¬ ownB va0 b) rb w13 s6 va1 j s xs css w')) (fun ρ _ => N1 - (RowKit.intOf (ρ 23)).toNat) ?_ ?_) ?_
      · exact ⟨(by simp (maxSteps:=1000000)(disch:=(first|omega|(simp only [qI,qJ,qK]<;>omega)|exact qL _)) only [go_sem,↓reduceIte,n0,reduceCtorEq,n1,n2,n3,n4,n5,i0,i1,i2,i3,i4,i5,i6,i7,Holds_nil,Holds_cons,hrb1_2,hrb1_7,hrb1_8,hrb1_9,hrb1_10,hrb1_16,hrb1_15,hrb1_17,hrb1_19,hrb1_22,hra1]),0,(by simp (maxSteps:=1000000)(disch:=(first|omega|(simp only [qI,qJ,qK]<;>omega)|exact qL _)) only [go_sem,↓reduceIte,n0,reduceCtorEq,n1,n2,n3,n4,n5,i0,i1,i2,i3,i4,i5,i6,i7,hrb1_2,hrb1_7,hrb1_8,hrb1_9,hrb1_10,hrb1_16,hrb1_15,hrb1_17,hrb1_19,hrb1_22,hra1];all_goals rfl),s6,[],[],hL1⟩
      · rintro ρ w15 ⟨⟨hrc1_2,hrc1_7,hrc1_8,hrc1_9,hrc1_10,hrc1_16,hrc1_15,hrc1_17,hrc1_19,hrc1_22,hrc1_21,-⟩,j2,hri1,s7,xs1,css1,hL1⟩
        have hj1 := hL1.le
        have hq15 := hL1.rd
        have hU15 : Upd (fun b => b = vb ∨ b = rb) w1 w15 := hU13.trans' hL1.upd fun i _ h => .inr h
        have hz15 := hL1.upd.size
        have hG15 : Glo ev w15 := hG1.updS hU15 hgM1 hgM2
        by_cases hlt1 : j2 < N1
        · obtain ⟨R2,q2,B2,hva2,hNq2,hLR2,hA2,hx2_15,hnext2⟩ := hL1.row.next hlt1
          have hRl2 := blk_lt hx2_15
          generalize css1.flatten = A2 at hA2 hx2_15 hnext2
          replace hra1 : ρ 21 = .slice (some ⟨R2,0,none⟩) N1 q2 := hrc1_21.trans hva2
          have hown2 : ∀ b,ownB va1 b → w13.heap.size ≤ b ∧ b < w15.heap.size := fun b h => hL1.row.own h
          have hoM2 : ∀ b,(fun b => (fun b => (ok b ∨ w1.heap.size ≤ b) ∧ ¬ ownB va0 b) b ∧ ¬ ownB va1 b) b → ¬ (b = R2 ∨ b = rb) := fun b hk h => h.elim (fun e => hk.2 ⟨_,_,_,hva2,e⟩) (fun e => hoM1 b hk.1 (.inr e))
          obtain ⟨X15,hX15⟩ : ∃ X : Array Value,X = (A2 ++ (([.string ByteArray.empty,.pointer none,.map none] : List Value) ++ B2)).toArray := ⟨_,rfl⟩
          have hxb15 : blk w15 R2 = some (X15,105,(0,0)) := by rw [hX15];exact hx2_15
          have hXs15 : j2 * 3 + 3 ≤ X15.size := by rw [hX15];simp only [List.size_toArray,List.length_append,List.length_cons,List.length_nil,hA2];omega
          repeat ((first | refine qA rfl ?_|apply qB|refine qC rfl ?_|apply qD|apply qE|apply qF|apply qG|apply qH);try simp (maxSteps:=1000000)(disch:=(first|omega|(simp only [qI,qJ,qK]<;>omega)|exact qL _)) only [go_sem,↓reduceIte,n0,reduceCtorEq,n1,n2,n3,n4,n5,i0,i1,i2,i3,i4,i5,i6,i7,hxb15,hrc1_2,hrc1_7,hrc1_8,hrc1_9,hrc1_10,hrc1_16,hrc1_15,hrc1_17,hrc1_19,hrc1_22,hra1,hri1,exitRQ_ret,exitRQ_exit,Int.toNat_natCast,Nat.mul_one])
          refine (DefaultEX0_fn w15 hx2_15 hA2).mono ?_
          rintro _ w16 ⟨hx2_16,hu16⟩
          have hq16 := And.intro (hq15.1.upd hu16 (by omega) (fun b _ hk e => by have := (hok b hk).1;omega)) (hq15.2.upd hu16 (by omega))
          have hV16 : Upd (fun b => b = R2 ∨ b = rb) w15 w16 := hu16.mono (fun _ h => .inl h)
          have hU16 : Upd (fun b => b = vb ∨ b = rb) w1 w16 := hU15.trans' hV16 fun i hi h => h.elim (fun h => by omega) .inr
          have hz16 := hV16.size
          have hG16 : Glo ev w16 := hG1.updS hU16 hgM1 hgM2
          obtain ⟨X16,hX16⟩ : ∃ X : Array Value,X = (A2 ++ (([.string ByteArray.empty,.pointer none,.map none] : List Value) ++ B2)).toArray := ⟨_,rfl⟩
          have hxb16 : blk w16 R2 = some (X16,105,(0,0)) := by rw [hX16];exact hx2_16
          have hXs16 : j2 * 3 + 3 ≤ X16.size := by rw [hX16];simp only [List.size_toArray,List.length_append,List.length_cons,List.length_nil,hA2];omega
          have hbe0e1_0 : (rdL (rdP d ver false) (dfP d) ver false [fX0_0,fX0_1] s7).2 = none → FB := fun h => hlb1 (hL1.bad hlt1 rd1P_none (by show (rd1 (rdP (d + 1) ver false) 10 fs_X0 false false s7).2 = none;rw [rd1_part];exact rdP_bad h))
          have hhe0e1_0 : hasS fX0_0 ver = true := hasS_t (by show (0 : Int) ≤ ver;omega) (by show (-1 : Int) < 0 ∨ ver ≤ (-1 : Int);omega)
          obtain ⟨xe0e1_0,hxe0e1_0⟩ : ∃ x,x = (rdF (rdP d ver false) ver false fX0_0 s7).1 := ⟨_,rfl⟩
          repeat ((first | refine qA rfl ?_|apply qB|refine qC rfl ?_|apply qD|apply qE|apply qF|apply qG|apply qH);try simp (maxSteps:=1000000)(disch:=(first|omega|(simp only [qI,qJ,qK]<;>omega)|exact qL _)) only [go_sem,↓reduceIte,n0,reduceCtorEq,n1,n2,n3,n4,n5,i0,i1,i2,i3,i4,i5,i6,i7,hxb16,hrc1_2,hrc1_7,hrc1_8,hrc1_9,hrc1_10,hrc1_16,hrc1_15,hrc1_17,hrc1_19,hrc1_22,hra1,hri1,exitRQ_ret,exitRQ_exit,Int.toNat_natCast,Nat.mul_one])
          have hmay : mayS fX0_0 ver = false := mayS_no (by show (-1 : Int) < 0 ∨ ver < (-1 : Int);omega)
          have hrd : rdF (rdP d ver false) ver false fX0_0 s7 = _ := rdF_text rfl hmay
          refine (RString_fn w16 hq16.1 hrok hG16.1 hgrb).mono ?_
          rintro _ w17 ⟨rfl,hq17,hu17⟩
          have hx2_17 := hu17.blk_some hx2_16 (by omega)
          have hV17 : Upd (fun b => b = R2 ∨ b = rb) w16 w17 := hu17.mono (fun _ h => .inr h)
          have hU17 : Upd (fun b => b = vb ∨ b = rb) w1 w17 := hU16.trans' hV17 fun i hi h => h.elim (fun h => by omega) .inr
          have hz17 := hV17.size
          have hG17 : Glo ev w17 := hG1.updS hU17 hgM1 hgM2
          obtain ⟨X17,hX17⟩ : ∃ X : Array Value,X = (A2 ++ (([.string ByteArray.empty,.pointer none,.map none] : List Value) ++ B2)).toArray := ⟨_,rfl⟩
          have hxb17 : blk w17 R2 = some (X17,105,(0,0)) := by rw [hX17];exact hx2_17
          have hXs17 : j2 * 3 + 3 ≤ X17.size := by rw [hX17];simp only [List.size_toArray,List.length_append,List.length_cons,List.length_nil,hA2];omega
          have hst : (rdF (rdP d ver false) ver false fX0_0 s7).2 = (rdStr false s7).2 := by first | (rw [hrd];rfl) | rw [hrd]
          obtain ⟨s8,hs8⟩ : ∃ s,s = (rdF (rdP d ver false) ver false fX0_0 s7).2 := ⟨_,rfl⟩
          rw [← hst,← hs8] at hq17
          clear hst
          have hst17_0 : j2 * 3 + 1 ≤ X17.size := by omega
          repeat ((first | refine qA rfl ?_|apply qB|refine qC rfl ?_|apply qD|apply qE|apply qF|apply qG|apply qH);try simp (maxSteps:=1000000)(disch:=(first|omega|(simp only [qI,qJ,qK]<;>omega)|exact qL _)) only [go_sem,↓reduceIte,n0,reduceCtorEq,n1,n2,n3,n4,n5,i0,i1,i2,i3,i4,i5,i6,i7,hxb17,hrc1_2,hrc1_7,hrc1_8,hrc1_9,hrc1_10,hrc1_16,hrc1_15,hrc1_17,hrc1_19,hrc1_22,hra1,hri1,exitRQ_ret,exitRQ_exit,Int.toNat_natCast,Nat.mul_one,hst17_0])
          generalize hw18 : wr w17 R2 (j2 * 3) [strV (rdStr false s7).1] = w18
          have hS18 : Upd (fun b => b = R2 ∨ b = rb) w17 w18 := by rw [← hw18];exact (Upd.refl _ _).wr _ _ (.inr (.inl rfl))
          have hx2_18 : blk w18 R2 = some ((A2 ++ (([strV (rdStr false s7).1,.pointer none,.map none] : List Value) ++ B2)).toArray,105,(0,0)) := by rw [← hw18];exact el_blk0 hx2_17 hA2 (Nat.le_of_ble_eq_true rfl)
          have hV18 := hS18
          have hU18 : Upd (fun b => b = vb ∨ b = rb) w1 w18 := hU17.trans' hV18 fun i hi h => h.elim (fun h => by omega) .inr
          have hz18 := hV18.size
          have hG18 : Glo ev w18 := hG1.updS hU18 hgM1 hgM2
          have hq18 : Rdr RT ok w18 rb s8 ∧ NN w18 rb s8 := by
            have hn : ∀ x,x = w18 → (Rdr RT ok x rb s8 ∧ NN x rb s8) := fun x hx => by
              rw [hx,← hw18]
              exact Rdr.store hq17 (by omega) (fun h => by have := (hok _ h).1;first | omega | exact (hok _ h).2 rfl)
            exact hn _ rfl
          obtain ⟨X18,hX18⟩ : ∃ X : Array Value,X = (A2 ++ (([strV (rdStr false s7).1,.pointer none,.map none] : List Value) ++ B2)).toArray := ⟨_,rfl⟩
          have hxb18 : blk w18 R2 = some (X18,105,(0,0)) := by rw [hX18];exact hx2_18
          have hXs18 : j2 * 3 + 3 ≤ X18.size := by rw [hX18];simp only [List.size_toArray,List.length_append,List.length_cons,List.length_nil,hA2];omega
          clear hw18
          have hfe0e1_0 : RepF (RepS true d) (szS true d) fX0_0 (fun b => (fun b => (ok b ∨ w1.heap.size ≤ b) ∧ ¬ ownB va0 b) b ∧ ¬ ownB va1 b) w18 (xe0e1_0) [strV (rdStr false s7).1] := (RepF_text rfl (by decide)).2 (by rw [hxe0e1_0,hrd];rfl)
          clear hrd
          have hbe0e1_1 : (rdL (rdP d ver false) (dfP d) ver false [fX0_1] s8).2 = none → FB := fun h => hbe0e1_0 (by rw [rdL_st (by decide) hhe0e1_0,← hs8];exact h)
          have hhe0e1_1 : hasS fX0_1 ver = true := hasS_t (by show (0 : Int) ≤ ver;omega) (by show (-1 : Int) < 0 ∨ ver ≤ (-1 : Int);omega)
          obtain ⟨xe0e1_1,hxe0e1_1⟩ : ∃ x,x = (rdF (rdP d ver false) ver false fX0_1 s8).1 := ⟨_,rfl⟩
          repeat ((first | refine qA rfl ?_|apply qB|refine qC rfl ?_|apply qD|apply qE|apply qF|apply qG|apply qH);try simp (maxSteps:=1000000)(disch:=(first|omega|(simp only [qI,qJ,qK]<;>omega)|exact qL _)) only [go_sem,↓reduceIte,n0,reduceCtorEq,n1,n2,n3,n4,n5,i0,i1,i2,i3,i4,i5,i6,i7,hxb18,hrc1_2,hrc1_7,hrc1_8,hrc1_9,hrc1_10,hrc1_16,hrc1_15,hrc1_17,hrc1_19,hrc1_22,hra1,hri1,exitRQ_ret,exitRQ_exit,Int.toNat_natCast,Nat.mul_one])
          have hmay : mayS fX0_1 ver = true := mayS_yes (by decide) (by show (0 : Int) ≤ ver;omega)
          have hrd : rdF (rdP d ver false) ver false fX0_1 s8 = _ := rdF_ptr rfl hmay
          refine (RNullableString_fn w18 hq18.1 hrok hG18.1 hgrb).mono ?_
          rintro r19 w19 ⟨hp19,hq19,hu19⟩
          obtain ⟨ap19,rfl⟩ := hp19.shape
          have hx2_19 := hu19.blk_some hx2_18 (by omega)
          have hV19 : Upd (fun b => b = R2 ∨ b = rb) w18 w19 := hu19.mono (fun _ h => .inr h)
          have hU19 : Upd (fun b => b = vb ∨ b = rb) w1 w19 := hU18.trans' hV19 fun i hi h => h.elim (fun h => by omega) .inr
          have hz19 := hV19.size
          have hG19 : Glo ev w19 := hG1.updS hU19 hgM1 hgM2
          obtain ⟨X19,hX19⟩ : ∃ X : Array Value,X = (A2 ++ (([strV (rdStr false s7).1,.pointer none,.map none] : List Value) ++ B2)).toArray := ⟨_,rfl⟩
          have hxb19 : blk w19 R2 = some (X19,105,(0,0)) := by rw [hX19];exact hx2_19
          have hXs19 : j2 * 3 + 3 ≤ X19.size := by rw [hX19];simp only [List.size_toArray,List.length_append,List.length_cons,List.length_nil,hA2];omega
          have hst : (rdF (rdP d ver false) ver false fX0_1 s8).2 = (rdNStr false s8).2 := by first | (rw [hrd];rfl) | rw [hrd]
          obtain ⟨s9,hs9⟩ : ∃ s,s = (rdF (rdP d ver false) ver false fX0_1 s8).2 := ⟨_,rfl⟩
          rw [← hst,← hs9] at hq19
          clear hst
          have hst19_1 : j2 * 3 + 2 ≤ X19.size := by omega
          repeat ((first | refine qA rfl ?_|apply qB|refine qC rfl ?_|apply qD|apply qE|apply qF|apply qG|apply qH);try simp (maxSteps:=1000000)(disch:=(first|omega|(simp only [qI,qJ,qK]<;>omega)|exact qL _)) only [go_sem,↓reduceIte,n0,reduceCtorEq,n1,n2,n3,n4,n5,i0,i1,i2,i3,i4,i5,i6,i7,hxb19,hrc1_2,hrc1_7,hrc1_8,hrc1_9,hrc1_10,hrc1_16,hrc1_15,hrc1_17,hrc1_19,hrc1_22,hra1,hri1,exitRQ_ret,exitRQ_exit,Int.toNat_natCast,Nat.mul_one,hst19_1])
          generalize hw20 : wr w19 R2 (j2 * 3 + 1) [.pointer ap19] = w20
          have hS20 : Upd (fun b => b = R2 ∨ b = rb) w19 w20 := by rw [← hw20];exact (Upd.refl _ _).wr _ _ (.inr (.inl rfl))
          have hx2_20 : blk w20 R2 = some ((A2 ++ (([strV (rdStr false s7).1,.pointer ap19,.map none] : List Value) ++ B2)).toArray,105,(0,0)) := by rw [← hw20];exact el_blk (o := 1) hx2_19 hA2 (Nat.le_of_ble_eq_true rfl)
          have hV20 := hS20
          have hU20 : Upd (fun b => b = vb ∨ b = rb) w1 w20 := hU19.trans' hV20 fun i hi h => h.elim (fun h => by omega) .inr
          have hz20 := hV20.size
          have hG20 : Glo ev w20 := hG1.updS hU20 hgM1 hgM2
          have hq20 : Rdr RT ok w20 rb s9 ∧ NN w20 rb s9 := by
            have hn : ∀ x,x = w20 → (Rdr RT ok x rb s9 ∧ NN x rb s9) := fun x hx => by
              rw [hx,← hw20]
              exact Rdr.store hq19 (by omega) (fun h => by have := (hok _ h).1;first | omega | exact (hok _ h).2 rfl)
            exact hn _ rfl
          obtain ⟨X20,hX20⟩ : ∃ X : Array Value,X = (A2 ++ (([strV (rdStr false s7).1,.pointer ap19,.map none] : List Value) ++ B2)).toArray := ⟨_,rfl⟩
          have hxb20 : blk w20 R2 = some (X20,105,(0,0)) := by rw [hX20];exact hx2_20
          have hXs20 : j2 * 3 + 3 ≤ X20.size := by rw [hX20];simp only [List.size_toArray,List.length_append,List.length_cons,List.length_nil,hA2];omega
          clear hw20
          have hfe0e1_1 : RepF (RepS true d) (szS true d) fX0_1 (fun b => (fun b => (ok b ∨ w1.heap.size ≤ b) ∧ ¬ ownB va0 b) b ∧ ¬ ownB va1 b) w20 (xe0e1_1) [.pointer ap19] := (RepF_ptr rfl (by decide)).2 ⟨_,rfl,by rw [hxe0e1_1,hrd];exact (hp19.weaken fun b _ hk => by have hk' : w18.heap.size ≤ b := hk;exact ⟨⟨.inr (by omega),fun ho => by have := (hown1 _ ho).2;omega⟩,fun ho => by have := (hown2 _ ho).2;omega⟩).keep (hV20.keeps fun b _ hk e => hoM2 b hk e)⟩
          clear hrd
          have hle0e1_2 : rdL (rdP d ver false) (dfP d) ver false [] s9 = ([],s9) := rfl
          have hle0e1_1 : rdL (rdP d ver false) (dfP d) ver false [fX0_1] s8 = ([xe0e1_1],s9) := by rw [rdL_st (by decide) hhe0e1_1,← hxe0e1_1,← hs9,hle0e1_2]
          have hle0e1_0 : rdL (rdP d ver false) (dfP d) ver false [fX0_0,fX0_1] s7 = ([xe0e1_0,xe0e1_1],s9) := by rw [rdL_st (by decide) hhe0e1_0,← hxe0e1_0,← hs8,hle0e1_1]
          have hfine0e1 : rdP (d + 1) ver false fs_X0 s7 = (.mk 0 [] false [xe0e1_0,xe0e1_1] [],s9) := rdP_f hle0e1_0
          have hTge0e1 : TagsM (fun b => (fun b => (ok b ∨ w1.heap.size ≤ b) ∧ ¬ ownB va0 b) b ∧ ¬ ownB va1 b) w20 (.map none) [] := .inl ⟨rfl,rfl⟩
          have hCe0e1_20 : Upd (fun b => b = R2 ∨ b = rb) w20 w20 := Upd.refl _ _
          have hCe0e1_19 : Upd (fun b => b = R2 ∨ b = rb) w19 w20 := hV20.trans hCe0e1_20
          have hCe0e1_18 : Upd (fun b => b = R2 ∨ b = rb) w18 w20 := hV19.trans hCe0e1_19
          have hCe0e1_17 : Upd (fun b => b = R2 ∨ b = rb) w17 w20 := hV18.trans hCe0e1_18
          have hCe0e1_16 : Upd (fun b => b = R2 ∨ b = rb) w16 w20 := hV17.trans hCe0e1_17
          have hCe0e1_15 : Upd (fun b => b = R2 ∨ b = rb) w15 w20 := hV16.trans hCe0e1_16
          have hRe0e1 : RepS true (d + 1) fs_X0 (fun b => (fun b => (ok b ∨ w1.heap.size ≤ b) ∧ ¬ ownB va0 b) b ∧ ¬ ownB va1 b) w20 (.mk 0 [] false [xe0e1_0,xe0e1_1] []) [strV (rdStr false s7).1,.pointer ap19,.map none] := RepS.introT (c := [strV (rdStr false s7).1,.pointer ap19]) (RepL.cons1 (hfe0e1_0.keepS (hCe0e1_18.keeps fun b _ hk e => hoM2 b hk e)) (RepL.cons1 (hfe0e1_1.keepS (hCe0e1_20.keeps fun b _ hk e => hoM2 b hk e)) RepL.nil)) hTge0e1
          have hrE : (rd1 (rdP (d + 1) ver false) fX2_0.of fX2_0.sub false false) s7 = ((.mk 0 [] false [xe0e1_0,xe0e1_1] []),s9) := by rw [show (rd1 (rdP (d + 1) ver false) fX2_0.of fX2_0.sub false false) s7 = _ from rd1_part];exact hfine0e1
          have hxE : (Rep1 (RepS true (d + 1)) fX2_0.of fX2_0.sub) (fun b => (fun b => (ok b ∨ w1.heap.size ≤ b) ∧ ¬ ownB va0 b) b ∧ ¬ ownB va1 b) w20 (.mk 0 [] false [xe0e1_0,xe0e1_1] []) [strV (rdStr false s7).1,.pointer ap19,.map none] := Rep1_part.2 hRe0e1
          repeat ((first | refine qA rfl ?_|apply qB|refine qC rfl ?_|apply qD|apply qE|apply qF|apply qG|apply qH);try simp (maxSteps:=1000000)(disch:=(first|omega|(simp only [qI,qJ,qK]<;>omega)|exact qL _)) only [go_sem,↓reduceIte,n0,reduceCtorEq,n1,n2,n3,n4,n5,i0,i1,i2,i3,i4,i5,i6,i7,hxb20,hrc1_2,hrc1_7,hrc1_8,hrc1_9,hrc1_10,hrc1_16,hrc1_15,hrc1_17,hrc1_19,hrc1_22,hra1,hri1,exitRQ_ret,exitRQ_exit,Int.toNat_natCast,Nat.mul_one])
          have hTk : Upd (fun b => b = R2 ∨ b = rb) w15 w20 := ((((hV16.trans hV17).trans hV18).trans hV19).trans hV20)
          have hL' := hL1.step (Rep1_lay _ _ fun _ => RepS_lay true _ _) hlt1 (hnext2 w20 [strV (rdStr false s7).1,.pointer ap19,.map none] rfl hx2_20) (by rw [hrE];exact hxE) (hTk.mono fun b h => h.imp (fun e => ⟨_,_,_,hva2,e⟩) id) (by rw [hrE];exact hq20) (fun h => hoM1 rb h (.inr rfl)) (Nat.le_refl _)
          have hij : IntKind.i32.wrap ((j2 : Int) + 1) = ((j2 + 1 : Nat) : Int) := by rw [i32_wrap (by omega)];omega
          repeat ((first | refine qA rfl ?_|apply qB|refine qC rfl ?_|apply qD|apply qE|apply qF|apply qG|apply qH);try simp (maxSteps:=1000000)(disch:=(first|omega|(simp only [qI,qJ,qK]<;>omega)|exact qL _)) only [go_sem,↓reduceIte,n0,reduceCtorEq,n1,n2,n3,n4,n5,i0,i1,i2,i3,i4,i5,i6,i7,hxb20,hrc1_2,hrc1_7,hrc1_8,hrc1_9,hrc1_10,hrc1_16,hrc1_15,hrc1_17,hrc1_19,hrc1_22,hra1,hri1,exitRQ_ret,exitRQ_exit,Int.toNat_natCast,Nat.mul_one,hij])
          refine ⟨⟨(by simp (maxSteps:=1000000)(disch:=(first|omega|(simp only [qI,qJ,qK]<;>omega)|exact qL _)) only [go_sem,↓reduceIte,n0,reduceCtorEq,n1,n2,n3,n4,n5,i0,i1,i2,i3,i4,i5,i6,i7,Holds_nil,Holds_cons,hrc1_2,hrc1_7,hrc1_8,hrc1_9,hrc1_10,hrc1_16,hrc1_15,hrc1_17,hrc1_19,hrc1_22,hra1,hri1];exact hva2.symm),j2 + 1,(by simp (maxSteps:=1000000)(disch:=(first|omega|(simp only [qI,qJ,qK]<;>omega)|exact qL _)) only [go_sem,↓reduceIte,n0,reduceCtorEq,n1,n2,n3,n4,n5,i0,i1,i2,i3,i4,i5,i6,i7,hrc1_2,hrc1_7,hrc1_8,hrc1_9,hrc1_10,hrc1_16,hrc1_15,hrc1_17,hrc1_19,hrc1_22,hra1,hri1,hij];all_goals rfl),_,_,_,hL'⟩,?_⟩
          try simp (maxSteps:=1000000)(disch:=(first|omega|(simp only [qI,qJ,qK]<;>omega)|exact qL _)) only [go_sem,↓reduceIte,n0,reduceCtorEq,n1,n2,n3,n4,n5,i0,i1,i2,i3,i4,i5,i6,i7,hrc1_2,hrc1_7,hrc1_8,hrc1_9,hrc1_10,hrc1_16,hrc1_15,hrc1_17,hrc1_19,hrc1_22,hra1,hri1]
          simp only [RowKit.intOf]
          omega
        · have hjN : j2 = N1 := by omega
          rw [hjN] at hL1
          repeat ((first | refine qA rfl ?_|apply qB|refine qC rfl ?_|apply qD|apply qE|apply qF|apply qG|apply qH);try simp (maxSteps:=1000000)(disch:=(first|omega|(simp only [qI,qJ,qK]<;>omega)|exact qL _)) only [go_sem,↓reduceIte,n0,reduceCtorEq,n1,n2,n3,n4,n5,i0,i1,i2,i3,i4,i5,i6,i7,hrc1_2,hrc1_7,hrc1_8,hrc1_9,hrc1_10,hrc1_16,hrc1_15,hrc1_17,hrc1_19,hrc1_22,hrc1_21,hri1,exitRQ_ret,exitRQ_exit])
          exact ⟨(by simp (maxSteps:=1000000)(disch:=(first|omega|(simp only [qI,qJ,qK]<;>omega)|exact qL _)) only [go_sem,↓reduceIte,n0,reduceCtorEq,n1,n2,n3,n4,n5,i0,i1,i2,i3,i4,i5,i6,i7,Holds_nil,Holds_cons,hrc1_2,hrc1_7,hrc1_8,hrc1_9,hrc1_10,hrc1_16,hrc1_15,hrc1_17,hrc1_19,hrc1_22,hrc1_21,hri1]),s7,xs1,css1,hL1⟩
      rintro ρ w21 ⟨⟨hrd1_2,hrd1_7,hrd1_8,hrd1_9,hrd1_10,hrd1_16,hrd1_15,hrd1_17,hrd1_19,hrd1_22,hrd1_21,-⟩,s10,xs1,css1,hL1⟩
      have hq21 := hL1.rd
      have hu21 := hL1.upd
      have hx1_21 := hu21.blk_some hx1_13 (by omega)
      have hV21 : Upd (fun b => b = R1 ∨ b = rb) w13 w21 := hu21.mono (fun _ h => .inr h)
      have hU21 : Upd (fun b => b = vb ∨ b = rb) w1 w21 := hU13.trans' hV21 fun i hi h => h.elim (fun h => by omega) .inr
      have hz21 := hV21.size
      have hG21 : Glo ev w21 := hG1.updS hU21 hgM1 hgM2
      obtain ⟨X21,hX21⟩ : ∃ X : Array Value,X = (A1 ++ (([.slice none 0 0,.slice none 0 0,.map none] : List Value) ++ B1)).toArray := ⟨_,rfl⟩
      have hxb21 : blk w21 R1 = some (X21,103,(0,0)) := by rw [hX21];exact hx1_21
      have hXs21 : j1 * 3 + 3 ≤ X21.size := by rw [hX21];simp only [List.size_toArray,List.length_append,List.length_cons,List.length_nil,hA1];omega
      have hrd1 : rdF (rdP (d + 1) ver false) ver false fX2_0 s5 = (.mk 0 [] (nilS fX2_0 ver y1) xs1 [],s10) := by
        have h := rdF_listE (pt := (rdP (d + 1) ver false)) (v := ver) (flex := false) (f := fX2_0) (s := s5) (xs := xs1) (e := s10) rfl (by rw [hy1,← hN1,← hs6];exact hL1.done)
        rw [hy1] at h;exact h
      have hs10 : s10 = (rdF (rdP (d + 1) ver false) ver false fX2_0 s5).2 := by rw [hrd1]
      obtain ⟨aa1,qq1,hvs1⟩ := hL1.row.shape
      subst hvs1
      have hst21_0 : j1 * 3 + 1 ≤ X21.size := by omega
      have hld21_1 : X21[j1 * 3 + 1]? = some (.slice none 0 0) := by rw [hX21];exact el_cell (R := 0) hA1 (Nat.le_of_ble_eq_true rfl)
      repeat ((first | refine qA rfl ?_|apply qB|refine qC rfl ?_|apply qD|apply qE|apply qF|apply qG|apply qH);try simp (maxSteps:=1000000)(disch:=(first|omega|(simp only [qI,qJ,qK]<;>omega)|exact qL _)) only [go_sem,↓reduceIte,n0,reduceCtorEq,n1,n2,n3,n4,n5,i0,i1,i2,i3,i4,i5,i6,i7,hxb21,hrd1_2,hrd1_7,hrd1_8,hrd1_9,hrd1_10,hrd1_16,hrd1_15,hrd1_17,hrd1_19,hrd1_22,hrd1_21,exitRQ_ret,exitRQ_exit,Int.toNat_natCast,Nat.mul_one,hst21_0,hld21_1,Array.getElem?_setIfInBounds_ne])
      generalize hw22 : wr w21 R1 (j1 * 3) [.slice aa1 N1 qq1] = w22
      have hS22 : Upd (fun b => b = R1 ∨ b = rb) w21 w22 := by rw [← hw22];exact (Upd.refl _ _).wr _ _ (.inr (.inl rfl))
      have hx1_22 : blk w22 R1 = some ((A1 ++ (([.slice aa1 N1 qq1,.slice none 0 0,.map none] : List Value) ++ B1)).toArray,103,(0,0)) := by rw [← hw22];exact el_blk0 hx1_21 hA1 (Nat.le_of_ble_eq_true rfl)
      have hV22 := hS22
      have hU22 : Upd (fun b => b = vb ∨ b = rb) w1 w22 := hU21.trans' hV22 fun i hi h => h.elim (fun h => by omega) .inr
      have hz22 := hV22.size
      have hG22 : Glo ev w22 := hG1.updS hU22 hgM1 hgM2
      have hq22 : Rdr RT ok w22 rb s10 ∧ NN w22 rb s10 := by
        have hn : ∀ x,x = w22 → (Rdr RT ok x rb s10 ∧ NN x rb s10) := fun x hx => by
          rw [hx,← hw22]
          exact Rdr.store hq21 (by omega) (fun h => by have := (hok _ h).1;first | omega | exact (hok _ h).2 rfl)
        exact hn _ rfl
      obtain ⟨X22,hX22⟩ : ∃ X : Array Value,X = (A1 ++ (([.slice aa1 N1 qq1,.slice none 0 0,.map none] : List Value) ++ B1)).toArray := ⟨_,rfl⟩
      have hxb22 : blk w22 R1 = some (X22,103,(0,0)) := by rw [hX22];exact hx1_22
      have hXs22 : j1 * 3 + 3 ≤ X22.size := by rw [hX22];simp only [List.size_toArray,List.length_append,List.length_cons,List.length_nil,hA1];omega
      clear hw22
      have hfe0_0 : RepF (RepS true (d + 1)) (szS true (d + 1)) fX2_0 (fun b => (ok b ∨ w1.heap.size ≤ b) ∧ ¬ ownB va0 b) w22 (xe0_0) [.slice aa1 N1 qq1] := by rw [hxe0_0,hrd1];exact RepF.keepS (RepF_row rfl hnc1 hN1 rfl hL1.row hL1.all (fun b hb => ⟨.inr (by omega),fun ho => by have := (hown1 _ ho).2;omega⟩)) (hV22.keeps fun b _ hk e => hoM1 b hk e)
      clear hL1 hnc1
      have hbe0_1 : (rdL (rdP (d + 1) ver false) (dfP (d + 1)) ver false [fX2_1] s10).2 = none → FB := fun h => hbe0_0 (by rw [rdL_st (by decide) hhe0_0,← hs10];exact h)
      have hhe0_1 : hasS fX2_1 ver = true := hasS_t (by show (0 : Int) ≤ ver;omega) (by show (-1 : Int) < 0 ∨ ver ≤ (-1 : Int);omega)
      obtain ⟨xe0_1,hxe0_1⟩ : ∃ x,x = (rdF (rdP (d + 1) ver false) ver false fX2_1 s10).1 := ⟨_,rfl⟩
      have hld22_1 : X22[j1 * 3 + 1]? = some (.slice none 0 0) := by rw [hX22];exact el_cell (R := 0) hA1 (Nat.le_of_ble_eq_true rfl)
      repeat ((first | refine qA rfl ?_|apply qB|refine qC rfl ?_|apply qD|apply qE|apply qF|apply qG|apply qH);try simp (maxSteps:=1000000)(disch:=(first|omega|(simp only [qI,qJ,qK]<;>omega)|exact qL _)) only [go_sem,↓reduceIte,n0,reduceCtorEq,n1,n2,n3,n4,n5,i0,i1,i2,i3,i4,i5,i6,i7,hxb22,hrd1_2,hrd1_7,hrd1_8,hrd1_9,hrd1_10,hrd1_16,hrd1_15,hrd1_17,hrd1_19,hrd1_22,hrd1_21,exitRQ_ret,exitRQ_exit,Int.toNat_natCast,Nat.mul_one,hld22_1])
      refine (RArrayLen_fn w22 hq22.1 hrok hG22.1 hgrb).mono ?_
      rintro _ w23 ⟨rfl,hq23,hu23⟩
      have hx1_23 := hu23.blk_some hx1_22 (by omega)
      have hV23 : Upd (fun b => b = R1 ∨ b = rb) w22 w23 := hu23.mono (fun _ h => .inr h)
      have hU23 : Upd (fun b => b = vb ∨ b = rb) w1 w23 := hU22.trans' hV23 fun i hi h => h.elim (fun h => by omega) .inr
      have hz23 := hV23.size
      have hG23 : Glo ev w23 := hG1.updS hU23 hgM1 hgM2
      obtain ⟨X23,hX23⟩ : ∃ X : Array Value,X = (A1 ++ (([.slice aa1 N1 qq1,.slice none 0 0,.map none] : List Value) ++ B1)).toArray := ⟨_,rfl⟩
      have hxb23 : blk w23 R1 = some (X23,103,(0,0)) := by rw [hX23];exact hx1_23
      have hXs23 : j1 * 3 + 3 ≤ X23.size := by rw [hX23];simp only [List.size_toArray,List.length_append,List.length_cons,List.length_nil,hA1];omega
      obtain ⟨s11,hs11⟩ : ∃ s,s = (rdALen false s10).2 := ⟨_,rfl⟩
      rw [← hs11] at hq23
      have hyr2 := rdALen_rng false s10
      generalize hy2 : (rdALen false s10).1 = y2 at *
      obtain ⟨N2,hN2⟩ : ∃ N,N = y2.toNat := ⟨_,rfl⟩
      have hlb2 : (rdMany (rd1 (rdP (d + 1) ver false) fX2_1.of fX2_1.sub false false) N2 s11).2 = none → FB := fun h => hbe0_1 (by rw [rdL_st (by decide) hhe0_1];exact rdL_bad (rdF_listbad rfl (by rw [hy2,← hN2,← hs11];exact h)))
      repeat ((first | refine W.seqR rfl ?_ | refine W.seq ?_ | refine W.regR rfl ?_ | refine W.block ?_ | refine W.skip ?_ | refine W.ret ?_ | refine W.exit ?_);try simp (maxSteps:=1000000)(disch:=(first|omega|(simp only [qI,qJ,qK]<;>omega)|exact qL _)) only [go_sem,↓reduceIte,n0,reduceCtorEq,n1,n2,n3,n4,n5,i0,i1,i2,i3,i4,i5,i6,i7,hxb23,hrd1_2,hrd1_7,hrd1_8,hrd1_9,hrd1_10,hrd1_16,hrd1_15,hrd1_17,hrd1_19,hrd1_22,hrd1_21,exitRQ_ret,exitRQ_exit,Int.toNat_natCast,Nat.mul_one])
      refine (ROk_fn w23 hq23.1).mono ?_
      rintro _ wz ⟨rfl,hez⟩
      rw [hez]
      clear hez wz
      by_cases hsn2 : s11 = none
      · have hso : s11.isSome = false := by rw [hsn2];rfl
        repeat (first|simp (maxSteps:=1000000)(disch:=(first|omega|(simp only [qI,qJ,qK]<;>omega)|exact qL _)) only [go_sem,↓reduceIte,n0,reduceCtorEq,n1,n2,n3,n4,n5,i0,i1,i2,i3,i4,i5,i6,i7,hxb23,hrd1_2,hrd1_7,hrd1_8,hrd1_9,hrd1_10,hrd1_16,hrd1_15,hrd1_17,hrd1_19,hrd1_22,hrd1_21,exitRQ_ret,exitRQ_exit,Int.toNat_natCast,Nat.mul_one,hso]|refine qA rfl ?_|apply qB|refine qC rfl ?_|apply qD|apply qE|apply qF|apply qG|apply qH)
        refine (RComplete_fn w23 hq23.1 hG23.2).mono ?_
        rintro _ wz ⟨rfl,hez⟩
        rw [hez]
        repeat (first|simp (maxSteps:=1000000)(disch:=(first|omega|(simp only [qI,qJ,qK]<;>omega)|exact qL _)) only [go_sem,↓reduceIte,n0,reduceCtorEq,n1,n2,n3,n4,n5,i0,i1,i2,i3,i4,i5,i6,i7,hxb23,hrd1_2,hrd1_7,hrd1_8,hrd1_9,hrd1_10,hrd1_16,hrd1_15,hrd1_17,hrd1_19,hrd1_22,hrd1_21,exitRQ_ret,exitRQ_exit,Int.toNat_natCast,Nat.mul_one]|refine qA rfl ?_|apply qB|refine qC rfl ?_|apply qD|apply qE|apply qF|apply qG|apply qH)
        rw [errV_none hsn2]
        exact ReadQ.bad (Eq.mp hFB (hlb2 (by rw [hsn2];exact rdMany_none rd1P_none _))) (hbase.trans' hU23 fun i hi h => h.elim id fun h => by omega)
      have hso2 : s11.isSome = true := isSome_some hsn2
      try simp (maxSteps:=1000000)(disch:=(first|omega|(simp only [qI,qJ,qK]<;>omega)|exact qL _)) only [go_sem,↓reduceIte,n0,reduceCtorEq,n1,n2,n3,n4,n5,i0,i1,i2,i3,i4,i5,i6,i7,hxb23,hrd1_2,hrd1_7,hrd1_8,hrd1_9,hrd1_10,hrd1_16,hrd1_15,hrd1_17,hrd1_19,hrd1_22,hrd1_21,exitRQ_ret,exitRQ_exit,Int.toNat_natCast,Nat.mul_one,hso2]
      repeat ((first | refine W.seqR rfl ?_ | refine W.seq ?_ | refine W.regR rfl ?_ | refine W.block ?_ | refine W.skip ?_ | refine W.ret ?_ | refine W.exit ?_);try simp (maxSteps:=1000000)(disch:=(first|omega|(simp only [qI,qJ,qK]<;>omega)|exact qL _)) only [go_sem,↓reduceIte,n0,reduceCtorEq,n1,n2,n3,n4,n5,i0,i1,i2,i3,i4,i5,i6,i7,hxb23,hrd1_2,hrd1_7,hrd1_8,hrd1_9,hrd1_10,hrd1_16,hrd1_15,hrd1_17,hrd1_19,hrd1_22,hrd1_21,exitRQ_ret,exitRQ_exit,Int.toNat_natCast,Nat.mul_one,hso2])
      refine W.condK ?_
      try simp (maxSteps:=1000000)(disch:=(first|omega|(simp only [qI,qJ,qK]<;>omega)|exact qL _)) only [go_sem,↓reduceIte,n0,reduceCtorEq,n1,n2,n3,n4,n5,i0,i1,i2,i3,i4,i5,i6,i7,hxb23,hrd1_2,hrd1_7,hrd1_8,hrd1_9,hrd1_10,hrd1_16,hrd1_15,hrd1_17,hrd1_19,hrd1_22,hrd1_21,exitRQ_ret,exitRQ_exit,Int.toNat_natCast,Nat.mul_one,hso2]
      repeat ((first | refine W.seqR rfl ?_ | refine W.seq ?_ | refine W.regR rfl ?_ | refine W.block ?_ | refine W.skip ?_ | refine W.ret ?_ | refine W.exit ?_);try simp (maxSteps:=1000000)(disch:=(first|omega|(simp only [qI,qJ,qK]<;>omega)|exact qL _)) only [go_sem,↓reduceIte,n0,reduceCtorEq,n1,n2,n3,n4,n5,i0,i1,i2,i3,i4,i5,i6,i7,hxb23,hrd1_2,hrd1_7,hrd1_8,hrd1_9,hrd1_10,hrd1_16,hrd1_15,hrd1_17,hrd1_19,hrd1_22,hrd1_21,exitRQ_ret,exitRQ_exit,Int.toNat_natCast,Nat.mul_one,hso2,slBase_00])
      refine W.normJ (RowQ [(2,.bool false),(7,.pointer (some ⟨rb,0,none⟩)),(8,.int .i16 ver),(9,.bool false),(10,.pointer (some ⟨vb,0,none⟩)),(16,.int .i32 y0),(15,.slice (some ⟨R1,0,none⟩) N0 q1),(17,.int .i32 j1),(19,.pointer (some ⟨R1,j1 * 3,none⟩)),(30,.int .i32 y2)] 29 (fun va w' => LstI RT (rd1 (rdP (d + 1) ver false) fX2_1.of fX2_1.sub false false) (Rep1 (RepS true (d + 1)) fX2_1.of fX2_1.sub) 3 108 [.string ByteArray.empty,.float .f64 0,.map none] w23.heap.size N2 ok (fun b => (ok b ∨ w1.heap.size ≤ b) ∧ ¬ ownB va0 b) rb w23 s11 va 0 s11 [] [] w' ∧ (N2 = 0 → if nilS fX2_1 ver y2 = true then va = .slice none 0 0 else ∃ a,va = .slice (some a) 0 0))) ?_ ?_
      · by_cases hy0 : (0 : Int) < y2
        · have hyv : Value.int .i32 y2 = .int .i32 ((N2 : Nat) : Int) := by rw [show y2 = ((N2 : Nat) : Int) by omega]
          repeat ((first | refine qA rfl ?_|apply qB|refine qC rfl ?_|apply qD|apply qE|apply qF|apply qG|apply qH);try simp (maxSteps:=1000000)(disch:=(first|omega|(simp only [qI,qJ,qK]<;>omega)|exact qL _)) only [go_sem,↓reduceIte,n0,reduceCtorEq,n1,n2,n3,n4,n5,i0,i1,i2,i3,i4,i5,i6,i7,hxb23,hrd1_2,hrd1_7,hrd1_8,hrd1_9,hrd1_10,hrd1_16,hrd1_15,hrd1_17,hrd1_19,hrd1_22,hrd1_21,exitRQ_ret,exitRQ_exit,Int.toNat_natCast,Nat.mul_one])
          refine wp_appendZ (m := N2) utQ_101 utQ_21 inQ_108 (by decide) (by first | rfl | simp (maxSteps:=1000000)(disch:=(first|omega|(simp only [qI,qJ,qK]<;>omega)|exact qL _)) only [go_sem,↓reduceIte,n0,reduceCtorEq,n1,n2,n3,n4,n5,i0,i1,i2,i3,i4,i5,i6,i7,hrd1_2,hrd1_7,hrd1_8,hrd1_9,hrd1_10,hrd1_16,hrd1_15,hrd1_17,hrd1_19,hrd1_22,hrd1_21]) (by first | exact hyv | (simp (maxSteps:=1000000)(disch:=(first|omega|(simp only [qI,qJ,qK]<;>omega)|exact qL _)) only [go_sem,↓reduceIte,n0,reduceCtorEq,n1,n2,n3,n4,n5,i0,i1,i2,i3,i4,i5,i6,i7,hrd1_2,hrd1_7,hrd1_8,hrd1_9,hrd1_10,hrd1_16,hrd1_15,hrd1_17,hrd1_19,hrd1_22,hrd1_21];exact hyv)) (by omega) (by omega) (by decide) ?_
          intro q rest hq1
          have hEw : Ext w23 (w23.drew.alloc (.cells (zs [.string ByteArray.empty,.float .f64 0,.map none] N2 ++ rest).toArray 108)) := (Upd.refl _ _).drew.alloc _
          repeat (first|simp (maxSteps:=1000000)(disch:=(first|omega|(simp only [qI,qJ,qK]<;>omega)|exact qL _)) only [go_sem,↓reduceIte,n0,reduceCtorEq,n1,n2,n3,n4,n5,i0,i1,i2,i3,i4,i5,i6,i7,hxb23,hrd1_2,hrd1_7,hrd1_8,hrd1_9,hrd1_10,hrd1_16,hrd1_15,hrd1_17,hrd1_19,hrd1_22,hrd1_21,exitRQ_ret,exitRQ_exit,Int.toNat_natCast,Nat.mul_one]|refine qA rfl ?_|apply qB|refine qC rfl ?_|apply qD|apply qE|apply qF|apply qG|apply qH)
          exact ⟨(by simp (maxSteps:=1000000)(disch:=(first|omega|(simp only [qI,qJ,qK]<;>omega)|exact qL _)) only [go_sem,↓reduceIte,n0,reduceCtorEq,n1,n2,n3,n4,n5,i0,i1,i2,i3,i4,i5,i6,i7,Holds_nil,Holds_cons,hrd1_2,hrd1_7,hrd1_8,hrd1_9,hrd1_10,hrd1_16,hrd1_15,hrd1_17,hrd1_19,hrd1_22,hrd1_21]),.slice (some ⟨w23.heap.size,0,none⟩) N2 q,(by simp (maxSteps:=1000000)(disch:=(first|omega|(simp only [qI,qJ,qK]<;>omega)|exact qL _)) only [go_sem,↓reduceIte,n0,reduceCtorEq,n1,n2,n3,n4,n5,i0,i1,i2,i3,i4,i5,i6,i7,hrd1_2,hrd1_7,hrd1_8,hrd1_9,hrd1_10,hrd1_16,hrd1_15,hrd1_17,hrd1_19,hrd1_22,hrd1_21]),LstI.start (RowJ.start (by omega) hq1 (by show w23.heap.size ≤ w23.drew.heap.size;rw [size_drew];omega) (blk_alloc_new rfl)) ⟨hq23.1.upd hEw (fun h => h) (fun _ _ _ h => h),hq23.2.upd hEw fun h => h⟩ (hEw.mono fun _ h => h.elim),fun h0 => by omega⟩
        · repeat ((first | refine qA rfl ?_|apply qB|refine qC rfl ?_|apply qD|apply qE|apply qF|apply qG|apply qH);try simp (maxSteps:=1000000)(disch:=(first|omega|(simp only [qI,qJ,qK]<;>omega)|exact qL _)) only [go_sem,↓reduceIte,n0,reduceCtorEq,n1,n2,n3,n4,n5,i0,i1,i2,i3,i4,i5,i6,i7,hxb23,hrd1_2,hrd1_7,hrd1_8,hrd1_9,hrd1_10,hrd1_16,hrd1_15,hrd1_17,hrd1_19,hrd1_22,hrd1_21,exitRQ_ret,exitRQ_exit,Int.toNat_natCast,Nat.mul_one])
          exact ⟨(by simp (maxSteps:=1000000)(disch:=(first|omega|(simp only [qI,qJ,qK]<;>omega)|exact qL _)) only [go_sem,↓reduceIte,n0,reduceCtorEq,n1,n2,n3,n4,n5,i0,i1,i2,i3,i4,i5,i6,i7,Holds_nil,Holds_cons,hrd1_2,hrd1_7,hrd1_8,hrd1_9,hrd1_10,hrd1_16,hrd1_15,hrd1_17,hrd1_19,hrd1_22,hrd1_21]),.slice none 0 0,(by simp (maxSteps:=1000000)(disch:=(first|omega|(simp only [qI,qJ,qK]<;>omega)|exact qL _)) only [go_sem,↓reduceIte,n0,reduceCtorEq,n1,n2,n3,n4,n5,i0,i1,i2,i3,i4,i5,i6,i7,hrd1_2,hrd1_7,hrd1_8,hrd1_9,hrd1_10,hrd1_16,hrd1_15,hrd1_17,hrd1_19,hrd1_22,hrd1_21,slBase_00]),LstI.start (RowJ.zero (by omega) (fun _ h => by cases h)) hq23 (Upd.refl _ _),fun _ => by rw [nilS_plain (by decide) (by omega)];exact rfl⟩
      rintro ρ w24 ⟨⟨hrb2_2,hrb2_7,hrb2_8,hrb2_9,hrb2_10,hrb2_16,hrb2_15,hrb2_17,hrb2_19,hrb2_30,-⟩,va2,hra2,hL2,hnc2⟩
      repeat ((first | refine qA rfl ?_|apply qB|refine qC rfl ?_|apply qD|apply qE|apply qF|apply qG|apply qH);try simp (maxSteps:=1000000)(disch:=(first|omega|(simp only [qI,qJ,qK]<;>omega)|exact qL _)) only [go_sem,↓reduceIte,n0,reduceCtorEq,n1,n2,n3,n4,n5,i0,i1,i2,i3,i4,i5,i6,i7,hxb23,hrb2_2,hrb2_7,hrb2_8,hrb2_9,hrb2_10,hrb2_16,hrb2_15,hrb2_17,hrb2_19,hrb2_30,hra2,exitRQ_ret,exitRQ_exit,Int.toNat_natCast,Nat.mul_one])
      refine W.exitRJ 4 (EndQ [(2,.bool false),(7,.pointer (some ⟨rb,0,none⟩)),(8,.int .i16 ver),(9,.bool false),(10,.pointer (some ⟨vb,0,none⟩)),(16,.int .i32 y0),(15,.slice (some ⟨R1,0,none⟩) N0 q1),(17,.int .i32 j1),(19,.pointer (some ⟨R1,j1 * 3,none⟩)),(30,.int .i32 y2),(29,va2)] (fun w' => ∃ s xs css,LstI RT (rd1 (rdP (d + 1) ver false) fX2_1.of fX2_1.sub false false) (Rep1 (RepS true (d + 1)) fX2_1.of fX2_1.sub) 3 108 [.string ByteArray.empty,.float .f64 0,.map none] w23.heap.size N2 ok (fun b => (ok b ∨ w1.heap.size ≤ b) ∧ ¬ ownB va0 b) rb w23 s11 va2 N2 s xs css w')) (W.loop (LoopQ [(2,.bool false),(7,.pointer (some ⟨rb,0,none⟩)),(8,.int .i16 ver),(9,.bool false),(10,.pointer (some ⟨vb,0,none⟩)),(16,.int .i32 y0),(15,.slice (some ⟨R1,0,none⟩) N0 q1),(17,.int .i32 j1),(19,.pointer (some ⟨R1,j1 * 3,none⟩)),(30,.int .i32 y2),(29,va2)] 31 (fun j w' => ∃ s xs css,LstI RT (rd1 (rdP (d + 1) ver false) fX2_1.of fX2_1.sub false false) (Rep1 (RepS true (d + 1)) fX2_1.of fX2_1.sub) 3 108 [.string ByteArray.empty,.float .f64 0,.map none] w23.heap.size N2 ok (fun b => (ok b ∨ w1.heap.size ≤ b) ∧ ¬ ownB va0 b) rb w23 s11 va2 j s xs css w')) (fun ρ _ => N2 - (RowKit.intOf (ρ 31)).toNat) ?_ ?_) ?_
      · exact ⟨(by simp (maxSteps:=1000000)(disch:=(first|omega|(simp only [qI,qJ,qK]<;>omega)|exact qL _)) only [go_sem,↓reduceIte,n0,reduceCtorEq,n1,n2,n3,n4,n5,i0,i1,i2,i3,i4,i5,i6,i7,Holds_nil,Holds_cons,hrb2_2,hrb2_7,hrb2_8,hrb2_9,hrb2_10,hrb2_16,hrb2_15,hrb2_17,hrb2_19,hrb2_30,hra2]),0,(by simp (maxSteps:=1000000)(disch:=(first|omega|(simp only [qI,qJ,qK]<;>omega)|exact qL _)) only [go_sem,↓reduceIte,n0,reduceCtorEq,n1,n2,n3,n4,n5,i0,i1,i2,i3,i4,i5,i6,i7,hrb2_2,hrb2_7,hrb2_8,hrb2_9,hrb2_10,hrb2_16,hrb2_15,hrb2_17,hrb2_19,hrb2_30,hra2];all_goals rfl),s11,[],[],hL2⟩
      · rintro ρ w25 ⟨⟨hrc2_2,hrc2_7,hrc2_8,hrc2_9,hrc2_10,hrc2_16,hrc2_15,hrc2_17,hrc2_19,hrc2_30,hrc2_29,-⟩,j2,hri2,s12,xs2,css2,hL2⟩
        have hj2 := hL2.le
        have hq25 := hL2.rd
        have hU25 : Upd (fun b => b = vb ∨ b = rb) w1 w25 := hU23.trans' hL2.upd fun i _ h => .inr h
        have hz25 := hL2.upd.size
        have hG25 : Glo ev w25 := hG1.updS hU25 hgM1 hgM2
        by_cases hlt2 : j2 < N2
        · obtain ⟨R2,q2,B2,hva2,hNq2,hLR2,hA2,hx2_25,hnext2⟩ := hL2.row.next hlt2
          have hRl2 := blk_lt hx2_25
          generalize css2.flatten = A2 at hA2 hx2_25 hnext2
          replace hra2 : ρ 29 = .slice (some ⟨R2,0,none⟩) N2 q2 := hrc2_29.trans hva2
          have hown2 : ∀ b,ownB va2 b → w23.heap.size ≤ b ∧ b < w25.heap.size := fun b h => hL2.row.own h
          have hoM2 : ∀ b,(fun b => (fun b => (ok b ∨ w1.heap.size ≤ b) ∧ ¬ ownB va0 b) b ∧ ¬ ownB va2 b) b → ¬ (b = R2 ∨ b = rb) := fun b hk h => h.elim (fun e => hk.2 ⟨_,_,_,hva2,e⟩) (fun e => hoM1 b hk.1 (.inr e))
          obtain ⟨X25,hX25⟩ : ∃ X : Array Value,X = (A2 ++ (([.string ByteArray.empty,.float .f64 0,.map none] : List Value) ++ B2)).toArray := ⟨_,rfl⟩
          have hxb25 : blk w25 R2 = some (X25,108,(0,0)) := by rw [hX25];exact hx2_25
          have hXs25 : j2 * 3 + 3 ≤ X25.size := by rw [hX25];simp only [List.size_toArray,List.length_append,List.length_cons,List.length_nil,hA2];omega
          repeat ((first | refine qA rfl ?_|apply qB|refine qC rfl ?_|apply qD|apply qE|apply qF|apply qG|apply qH);try simp (maxSteps:=1000000)(disch:=(first|omega|(simp only [qI,qJ,qK]<;>omega)|exact qL _)) only [go_sem,↓reduceIte,n0,reduceCtorEq,n1,n2,n3,n4,n5,i0,i1,i2,i3,i4,i5,i6,i7,hxb25,hrc2_2,hrc2_7,hrc2_8,hrc2_9,hrc2_10,hrc2_16,hrc2_15,hrc2_17,hrc2_19,hrc2_30,hra2,hri2,exitRQ_ret,exitRQ_exit,Int.toNat_natCast,Nat.mul_one])
          refine (DefaultEX1_fn w25 hx2_25 hA2).mono ?_
          rintro _ w26 ⟨hx2_26,hu26⟩
          have hq26 := And.intro (hq25.1.upd hu26 (by omega) (fun b _ hk e => by have := (hok b hk).1;omega)) (hq25.2.upd hu26 (by omega))
          have hV26 : Upd (fun b => b = R2 ∨ b = rb) w25 w26 := hu26.mono (fun _ h => .inl h)
          have hU26 : Upd (fun b => b = vb ∨ b = rb) w1 w26 := hU25.trans' hV26 fun i hi h => h.elim (fun h => by omega) .inr
          have hz26 := hV26.size
          have hG26 : Glo ev w26 := hG1.updS hU26 hgM1 hgM2
          obtain ⟨X26,hX26⟩ : ∃ X : Array Value,X = (A2 ++ (([.string ByteArray.empty,.float .f64 0,.map none] : List Value) ++ B2)).toArray := ⟨_,rfl⟩
          have hxb26 : blk w26 R2 = some (X26,108,(0,0)) := by rw [hX26];exact hx2_26
          have hXs26 : j2 * 3 + 3 ≤ X26.size := by rw [hX26];simp only [List.size_toArray,List.length_append,List.length_cons,List.length_nil,hA2];omega
          have hbe0e2_0 : (rdL (rdP d ver false) (dfP d) ver false [fX1_0,fX1_1] s12).2 = none → FB := fun h => hlb2 (hL2.bad hlt2 rd1P_none (by show (rd1 (rdP (d + 1) ver false) 10 fs_X1 false false s12).2 = none;rw [rd1_part];exact rdP_bad h))
          have hhe0e2_0 : hasS fX1_0 ver = true := hasS_t (by show (0 : Int) ≤ ver;omega) (by show (-1 : Int) < 0 ∨ ver ≤ (-1 : Int);omega)
          obtain ⟨xe0e2_0,hxe0e2_0⟩ : ∃ x,x = (rdF (rdP d ver false) ver false fX1_0 s12).1 := ⟨_,rfl⟩
          repeat ((first | refine qA rfl ?_|apply qB|refine qC rfl ?_|apply qD|apply qE|apply qF|apply qG|apply qH);try simp (maxSteps:=1000000)(disch:=(first|omega|(simp only [qI,qJ,qK]<;>omega)|exact qL _)) only [go_sem,↓reduceIte,n0,reduceCtorEq,n1,n2,n3,n4,n5,i0,i1,i2,i3,i4,i5,i6,i7,hxb26,hrc2_2,hrc2_7,hrc2_8,hrc2_9,hrc2_10,hrc2_16,hrc2_15,hrc2_17,hrc2_19,hrc2_30,hra2,hri2,exitRQ_ret,exitRQ_exit,Int.toNat_natCast,Nat.mul_one])
          have hmay : mayS fX1_0 ver = false := mayS_no (by show (-1 : Int) < 0 ∨ ver < (-1 : Int);omega)
          have hrd : rdF (rdP d ver false) ver false fX1_0 s12 = _ := rdF_text rfl hmay
          refine (RString_fn w26 hq26.1 hrok hG26.1 hgrb).mono ?_
          rintro _ w27 ⟨rfl,hq27,hu27⟩
          have hx2_27 := hu27.blk_some hx2_26 (by omega)
          have hV27 : Upd (fun b => b = R2 ∨ b = rb) w26 w27 := hu27.mono (fun _ h => .inr h)
          have hU27 : Upd (fun b => b = vb ∨ b = rb) w1 w27 := hU26.trans' hV27 fun i hi h => h.elim (fun h => by omega) .inr
          have hz27 := hV27.size
          have hG27 : Glo ev w27 := hG1.updS hU27 hgM1 hgM2
          obtain ⟨X27,hX27⟩ : ∃ X : Array Value,X = (A2 ++ (([.string ByteArray.empty,.float .f64 0,.map none] : List Value) ++ B2)).toArray := ⟨_,rfl⟩
          have hxb27 : blk w27 R2 = some (X27,108,(0,0)) := by rw [hX27];exact hx2_27
          have hXs27 : j2 * 3 + 3 ≤ X27.size := by rw [hX27];simp only [List.size_toArray,List.length_append,List.length_cons,List.length_nil,hA2];omega
          have hst : (rdF (rdP d ver false) ver false fX1_0 s12).2 = (rdStr false s12).2 := by first | (rw [hrd];rfl) | rw [hrd]
          obtain ⟨s13,hs13⟩ : ∃ s,s = (rdF (rdP d ver false) ver false fX1_0 s12).2 := ⟨_,rfl⟩
          rw [← hst,← hs13] at hq27
          clear hst
          have hst27_0 : j2 * 3 + 1 ≤ X27.size := by omega
          repeat ((first | refine qA rfl ?_|apply qB|refine qC rfl ?_|apply qD|apply qE|apply qF|apply qG|apply qH);try simp (maxSteps:=1000000)(disch:=(first|omega|(simp only [qI,qJ,qK]<;>omega)|exact qL _)) only [go_sem,↓reduceIte,n0,reduceCtorEq,n1,n2,n3,n4,n5,i0,i1,i2,i3,i4,i5,i6,i7,hxb27,hrc2_2,hrc2_7,hrc2_8,hrc2_9,hrc2_10,hrc2_16,hrc2_15,hrc2_17,hrc2_19,hrc2_30,hra2,hri2,exitRQ_ret,exitRQ_exit,Int.toNat_natCast,Nat.mul_one,hst27_0])
          generalize hw28 : wr w27 R2 (j2 * 3) [strV (rdStr false s12).1] = w28
          have hS28 : Upd (fun b => b = R2 ∨ b = rb) w27 w28 := by rw [← hw28];exact (Upd.refl _ _).wr _ _ (.inr (.inl rfl))
          have hx2_28 : blk w28 R2 = some ((A2 ++ (([strV (rdStr false s12).1,.float .f64 0,.map none] : List Value) ++ B2)).toArray,108,(0,0)) := by rw [← hw28];exact el_blk0 hx2_27 hA2 (Nat.le_of_ble_eq_true rfl)
          have hV28 := hS28
          have hU28 : Upd (fun b => b = vb ∨ b = rb) w1 w28 := hU27.trans' hV28 fun i hi h => h.elim (fun h => by omega) .inr
          have hz28 := hV28.size
          have hG28 : Glo ev w28 := hG1.updS hU28 hgM1 hgM2
          have hq28 : Rdr RT ok w28 rb s13 ∧ NN w28 rb s13 := by
            have hn : ∀ x,x = w28 → (Rdr RT ok x rb s13 ∧ NN x rb s13) := fun x hx => by
              rw [hx,← hw28]
              exact Rdr.store hq27 (by omega) (fun h => by have := (hok _ h).1;first | omega | exact (hok _ h).2 rfl)
            exact hn _ rfl
          obtain ⟨X28,hX28⟩ : ∃ X : Array Value,X = (A2 ++ (([strV (rdStr false s12).1,.float .f64 0,.map none] : List Value) ++ B2)).toArray := ⟨_,rfl⟩
          have hxb28 : blk w28 R2 = some (X28,108,(0,0)) := by rw [hX28];exact hx2_28
          have hXs28 : j2 * 3 + 3 ≤ X28.size := by rw [hX28];simp only [List.size_toArray,List.length_append,List.length_cons,List.length_nil,hA2];omega
          clear hw28
          have hfe0e2_0 : RepF (RepS true d) (szS true d) fX1_0 (fun b => (fun b => (ok b ∨ w1.heap.size ≤ b) ∧ ¬ ownB va0 b) b ∧ ¬ ownB va2 b) w28 (xe0e2_0) [strV (rdStr false s12).1] := (RepF_text rfl (by decide)).2 (by rw [hxe0e2_0,hrd];rfl)
          clear hrd
          have hbe0e2_1 : (rdL (rdP d ver false) (dfP d) ver false [fX1_1] s13).2 = none → FB := fun h => hbe0e2_0 (by rw [rdL_st (by decide) hhe0e2_0,← hs13];exact h)
          have hhe0e2_1 : hasS fX1_1 ver = true := hasS_t (by show (0 : Int) ≤ ver;omega) (by show (-1 : Int) < 0 ∨ ver ≤ (-1 : Int);omega)
          obtain ⟨xe0e2_1,hxe0e2_1⟩ : ∃ x,x = (rdF (rdP d ver false) ver false fX1_1 s13).1 := ⟨_,rfl⟩
          repeat ((first | refine qA rfl ?_|apply qB|refine qC rfl ?_|apply qD|apply qE|apply qF|apply qG|apply qH);try simp (maxSteps:=1000000)(disch:=(first|omega|(simp only [qI,qJ,qK]<;>omega)|exact qL _)) only [go_sem,↓reduceIte,n0,reduceCtorEq,n1,n2,n3,n4,n5,i0,i1,i2,i3,i4,i5,i6,i7,hxb28,hrc2_2,hrc2_7,hrc2_8,hrc2_9,hrc2_10,hrc2_16,hrc2_15,hrc2_17,hrc2_19,hrc2_30,hra2,hri2,exitRQ_ret,exitRQ_exit,Int.toNat_natCast,Nat.mul_one])
          have hrd : rdF (rdP d ver false) ver false fX1_1 s13 = _ := rdF_num 6 rfl (by decide)
          refine (Float64_fn w28 hq28.1 hrok hG28.1 hgrb).mono ?_
          rintro _ w29 ⟨rfl,hq29,hu29⟩
          have hx2_29 := hu29.blk_some hx2_28 (by omega)
          have hV29 : Upd (fun b => b = R2 ∨ b = rb) w28 w29 := hu29.mono (fun _ h => .inr h)
          have hU29 : Upd (fun b => b = vb ∨ b = rb) w1 w29 := hU28.trans' hV29 fun i hi h => h.elim (fun h => by omega) .inr
          have hz29 := hV29.size
          have hG29 : Glo ev w29 := hG1.updS hU29 hgM1 hgM2
          obtain ⟨X29,hX29⟩ : ∃ X : Array Value,X = (A2 ++ (([strV (rdStr false s12).1,.float .f64 0,.map none] : List Value) ++ B2)).toArray := ⟨_,rfl⟩
          have hxb29 : blk w29 R2 = some (X29,108,(0,0)) := by rw [hX29];exact hx2_29
          have hXs29 : j2 * 3 + 3 ≤ X29.size := by rw [hX29];simp only [List.size_toArray,List.length_append,List.length_cons,List.length_nil,hA2];omega
          have hst : (rdF (rdP d ver false) ver false fX1_1 s13).2 = (rdInt .i64 8 s13).2 := by first | (rw [hrd];rfl) | rw [hrd]
          obtain ⟨s14,hs14⟩ : ∃ s,s = (rdF (rdP d ver false) ver false fX1_1 s13).2 := ⟨_,rfl⟩
          rw [← hst,← hs14] at hq29
          clear hst
          have hst29_1 : j2 * 3 + 2 ≤ X29.size := by omega
          repeat ((first | refine qA rfl ?_|apply qB|refine qC rfl ?_|apply qD|apply qE|apply qF|apply qG|apply qH);try simp (maxSteps:=1000000)(disch:=(first|omega|(simp only [qI,qJ,qK]<;>omega)|exact qL _)) only [go_sem,↓reduceIte,n0,reduceCtorEq,n1,n2,n3,n4,n5,i0,i1,i2,i3,i4,i5,i6,i7,hxb29,hrc2_2,hrc2_7,hrc2_8,hrc2_9,hrc2_10,hrc2_16,hrc2_15,hrc2_17,hrc2_19,hrc2_30,hra2,hri2,exitRQ_ret,exitRQ_exit,Int.toNat_natCast,Nat.mul_one,hst29_1])
          generalize hw30 : wr w29 R2 (j2 * 3 + 1) [.float .f64 (rdInt .u64 8 s13).1.toNat] = w30
          have hS30 : Upd (fun b => b = R2 ∨ b = rb) w29 w30 := by rw [← hw30];exact (Upd.refl _ _).wr _ _ (.inr (.inl rfl))
          have hx2_30 : blk w30 R2 = some ((A2 ++ (([strV (rdStr false s12).1,.float .f64 (rdInt .u64 8 s13).1.toNat,.map none] : List Value) ++ B2)).toArray,108,(0,0)) := by rw [← hw30];exact el_blk (o := 1) hx2_29 hA2 (Nat.le_of_ble_eq_true rfl)
          have hV30 := hS30
          have hU30 : Upd (fun b => b = vb ∨ b = rb) w1 w30 := hU29.trans' hV30 fun i hi h => h.elim (fun h => by omega) .inr
          have hz30 := hV30.size
          have hG30 : Glo ev w30 := hG1.updS hU30 hgM1 hgM2
          have hq30 : Rdr RT ok w30 rb s14 ∧ NN w30 rb s14 := by
            have hn : ∀ x,x = w30 → (Rdr RT ok x rb s14 ∧ NN x rb s14) := fun x hx => by
              rw [hx,← hw30]
              exact Rdr.store hq29 (by omega) (fun h => by have := (hok _ h).1;first | omega | exact (hok _ h).2 rfl)
            exact hn _ rfl
          obtain ⟨X30,hX30⟩ : ∃ X : Array Value,X = (A2 ++ (([strV (rdStr false s12).1,.float .f64 (rdInt .u64 8 s13).1.toNat,.map none] : List Value) ++ B2)).toArray := ⟨_,rfl⟩
          have hxb30 : blk w30 R2 = some (X30,108,(0,0)) := by rw [hX30];exact hx2_30
          have hXs30 : j2 * 3 + 3 ≤ X30.size := by rw [hX30];simp only [List.size_toArray,List.length_append,List.length_cons,List.length_nil,hA2];omega
          clear hw30
          have hfe0e2_1 : RepF (RepS true d) (szS true d) fX1_1 (fun b => (fun b => (ok b ∨ w1.heap.size ≤ b) ∧ ¬ ownB va0 b) b ∧ ¬ ownB va2 b) w30 (xe0e2_1) [.float .f64 (rdInt .u64 8 s13).1.toNat] := (RepF_num (by decide)).2 (by rw [hxe0e2_1,hrd];exact congrArg (fun x => [x]) (numC_rdF s13).symm)
          clear hrd
          have hle0e2_2 : rdL (rdP d ver false) (dfP d) ver false [] s14 = ([],s14) := rfl
          have hle0e2_1 : rdL (rdP d ver false) (dfP d) ver false [fX1_1] s13 = ([xe0e2_1],s14) := by rw [rdL_st (by decide) hhe0e2_1,← hxe0e2_1,← hs14,hle0e2_2]
          have hle0e2_0 : rdL (rdP d ver false) (dfP d) ver false [fX1_0,fX1_1] s12 = ([xe0e2_0,xe0e2_1],s14) := by rw [rdL_st (by decide) hhe0e2_0,← hxe0e2_0,← hs13,hle0e2_1]
          have hfine0e2 : rdP (d + 1) ver false fs_X1 s12 = (.mk 0 [] false [xe0e2_0,xe0e2_1] [],s14) := rdP_f hle0e2_0
          have hTge0e2 : TagsM (fun b => (fun b => (ok b ∨ w1.heap.size ≤ b) ∧ ¬ ownB va0 b) b ∧ ¬ ownB va2 b) w30 (.map none) [] := .inl ⟨rfl,rfl⟩
          have hCe0e2_30 : Upd (fun b => b = R2 ∨ b = rb) w30 w30 := Upd.refl _ _
          have hCe0e2_29 : Upd (fun b => b = R2 ∨ b = rb) w29 w30 := hV30.trans hCe0e2_30
          have hCe0e2_28 : Upd (fun b => b = R2 ∨ b = rb) w28 w30 := hV29.trans hCe0e2_29
          have hCe0e2_27 : Upd (fun b => b = R2 ∨ b = rb) w27 w30 := hV28.trans hCe0e2_28
          have hCe0e2_26 : Upd (fun b => b = R2 ∨ b = rb) w26 w30 := hV27.trans hCe0e2_27
          have hCe0e2_25 : Upd (fun b => b = R2 ∨ b = rb) w25 w30 := hV26.trans hCe0e2_26
          have hRe0e2 : RepS true (d + 1) fs_X1 (fun b => (fun b => (ok b ∨ w1.heap.size ≤ b) ∧ ¬ ownB va0 b) b ∧ ¬ ownB va2 b) w30 (.mk 0 [] false [xe0e2_0,xe0e2_1] []) [strV (rdStr false s12).1,.float .f64 (rdInt .u64 8 s13).1.toNat,.map none] := RepS.introT (c := [strV (rdStr false s12).1,.float .f64 (rdInt .u64 8 s13).1.toNat]) (RepL.cons1 (hfe0e2_0.keepS (hCe0e2_28.keeps fun b _ hk e => hoM2 b hk e)) (RepL.cons1 (hfe0e2_1.keepS (hCe0e2_30.keeps fun b _ hk e => hoM2 b hk e)) RepL.nil)) hTge0e2
          have hrE : (rd1 (rdP (d + 1) ver false) fX2_1.of fX2_1.sub false false) s12 = ((.mk 0 [] false [xe0e2_0,xe0e2_1] []),s14) := by rw [show (rd1 (rdP (d + 1) ver false) fX2_1.of fX2_1.sub false false) s12 = _ from rd1_part];exact hfine0e2
          have hxE : (Rep1 (RepS true (d + 1)) fX2_1.of fX2_1.sub) (fun b => (fun b => (ok b ∨ w1.heap.size ≤ b) ∧ ¬ ownB va0 b) b ∧ ¬ ownB va2 b) w30 (.mk 0 [] false [xe0e2_0,xe0e2_1] []) [strV (rdStr false s12).1,.float .f64 (rdInt .u64 8 s13).1.toNat,.map none] := Rep1_part.2 hRe0e2
          repeat ((first | refine qA rfl ?_|apply qB|refine qC rfl ?_|apply qD|apply qE|apply qF|apply qG|apply qH);try simp (maxSteps:=1000000)(disch:=(first|omega|(simp only [qI,qJ,qK]<;>omega)|exact qL _)) only [go_sem,↓reduceIte,n0,reduceCtorEq,n1,n2,n3,n4,n5,i0,i1,i2,i3,i4,i5,i6,i7,hxb30,hrc2_2,hrc2_7,hrc2_8,hrc2_9,hrc2_10,hrc2_16,hrc2_15,hrc2_17,hrc2_19,hrc2_30,hra2,hri2,exitRQ_ret,exitRQ_exit,Int.toNat_natCast,Nat.mul_one])
          have hTk : Upd (fun b => b = R2 ∨ b = rb) w25 w30 := ((((hV26.trans hV27).trans hV28).trans hV29).trans hV30)
          have hL' := hL2.step (Rep1_lay _ _ fun _ => RepS_lay true _ _) hlt2 (hnext2 w30 [strV (rdStr false s12).1,.float .f64 (rdInt .u64 8 s13).1.toNat,.map none] rfl hx2_30) (by rw [hrE];exact hxE) (hTk.mono fun b h => h.imp (fun e => ⟨_,_,_,hva2,e⟩) id) (by rw [hrE];exact hq30) (fun h => hoM1 rb h (.inr rfl)) (Nat.le_refl _)
          have hij : IntKind.i32.wrap ((j2 : Int) + 1) = ((j2 + 1 : Nat) : Int) := by rw [i32_wrap (by omega)];omega
          repeat ((first | refine qA rfl ?_|apply qB|refine qC rfl ?_|apply qD|apply qE|apply qF|apply qG|apply qH);try simp (maxSteps:=1000000)(disch:=(first|omega|(simp only [qI,qJ,qK]<;>omega)|exact qL _)) only [go_sem,↓reduceIte,n0,reduceCtorEq,n1,n2,n3,n4,n5,i0,i1,i2,i3,i4,i5,i6,i7,hxb30,hrc2_2,hrc2_7,hrc2_8,hrc2_9,hrc2_10,hrc2_16,hrc2_15,hrc2_17,hrc2_19,hrc2_30,hra2,hri2,exitRQ_ret,exitRQ_exit,Int.toNat_natCast,Nat.mul_one,hij])
          refine ⟨⟨(by simp (maxSteps:=1000000)(disch:=(first|omega|(simp only [qI,qJ,qK]<;>omega)|exact qL _)) only [go_sem,↓reduceIte,n0,reduceCtorEq,n1,n2,n3,n4,n5,i0,i1,i2,i3,i4,i5,i6,i7,Holds_nil,Holds_cons,hrc2_2,hrc2_7,hrc2_8,hrc2_9,hrc2_10,hrc2_16,hrc2_15,hrc2_17,hrc2_19,hrc2_30,hra2,hri2];exact hva2.symm),j2 + 1,(by simp (maxSteps:=1000000)(disch:=(first|omega|(simp only [qI,qJ,qK]<;>omega)|exact qL _)) only [go_sem,↓reduceIte,n0,reduceCtorEq,n1,n2,n3,n4,n5,i0,i1,i2,i3,i4,i5,i6,i7,hrc2_2,hrc2_7,hrc2_8,hrc2_9,hrc2_10,hrc2_16,hrc2_15,hrc2_17,hrc2_19,hrc2_30,hra2,hri2,hij];all_goals rfl),_,_,_,hL'⟩,?_⟩
          try simp (maxSteps:=1000000)(disch:=(first|omega|(simp only [qI,qJ,qK]<;>omega)|exact qL _)) only [go_sem,↓reduceIte,n0,reduceCtorEq,n1,n2,n3,n4,n5,i0,i1,i2,i3,i4,i5,i6,i7,hrc2_2,hrc2_7,hrc2_8,hrc2_9,hrc2_10,hrc2_16,hrc2_15,hrc2_17,hrc2_19,hrc2_30,hra2,hri2]
          simp only [RowKit.intOf]
          omega
        · have hjN : j2 = N2 := by omega
          rw [hjN] at hL2
          repeat ((first | refine qA rfl ?_|apply qB|refine qC rfl ?_|apply qD|apply qE|apply qF|apply qG|apply qH);try simp (maxSteps:=1000000)(disch:=(first|omega|(simp only [qI,qJ,qK]<;>omega)|exact qL _)) only [go_sem,↓reduceIte,n0,reduceCtorEq,n1,n2,n3,n4,n5,i0,i1,i2,i3,i4,i5,i6,i7,hrc2_2,hrc2_7,hrc2_8,hrc2_9,hrc2_10,hrc2_16,hrc2_15,hrc2_17,hrc2_19,hrc2_30,hrc2_29,hri2,exitRQ_ret,exitRQ_exit])
          exact ⟨(by simp (maxSteps:=1000000)(disch:=(first|omega|(simp only [qI,qJ,qK]<;>omega)|exact qL _)) only [go_sem,↓reduceIte,n0,reduceCtorEq,n1,n2,n3,n4,n5,i0,i1,i2,i3,i4,i5,i6,i7,Holds_nil,Holds_cons,hrc2_2,hrc2_7,hrc2_8,hrc2_9,hrc2_10,hrc2_16,hrc2_15,hrc2_17,hrc2_19,hrc2_30,hrc2_29,hri2]),s12,xs2,css2,hL2⟩
      rintro ρ w31 ⟨⟨hrd2_2,hrd2_7,hrd2_8,hrd2_9,hrd2_10,hrd2_16,hrd2_15,hrd2_17,hrd2_19,hrd2_30,hrd2_29,-⟩,s15,xs2,css2,hL2⟩
      have hq31 := hL2.rd
      have hu31 := hL2.upd
      have hx1_31 := hu31.blk_some hx1_23 (by omega)
      have hV31 : Upd (fun b => b = R1 ∨ b = rb) w23 w31 := hu31.mono (fun _ h => .inr h)
      have hU31 : Upd (fun b => b = vb ∨ b = rb) w1 w31 := hU23.trans' hV31 fun i hi h => h.elim (fun h => by omega) .inr
      have hz31 := hV31.size
      have hG31 : Glo ev w31 := hG1.updS hU31 hgM1 hgM2
      obtain ⟨X31,hX31⟩ : ∃ X : Array Value,X = (A1 ++ (([.slice aa1 N1 qq1,.slice none 0 0,.map none] : List Value) ++ B1)).toArray := ⟨_,rfl⟩
      have hxb31 : blk w31 R1 = some (X31,103,(0,0)) := by rw [hX31];exact hx1_31
      have hXs31 : j1 * 3 + 3 ≤ X31.size := by rw [hX31];simp only [List.size_toArray,List.length_append,List.length_cons,List.length_nil,hA1];omega
      have hrd2 : rdF (rdP (d + 1) ver false) ver false fX2_1 s10 = (.mk 0 [] (nilS fX2_1 ver y2) xs2 [],s15) := by
        have h := rdF_listE (pt := (rdP (d + 1) ver false)) (v := ver) (flex := false) (f := fX2_1) (s := s10) (xs := xs2) (e := s15) rfl (by rw [hy2,← hN2,← hs11];exact hL2.done)
        rw [hy2] at h;exact h
      have hs15 : s15 = (rdF (rdP (d + 1) ver false) ver false fX2_1 s10).2 := by rw [hrd2]
      obtain ⟨aa2,qq2,hvs2⟩ := hL2.row.shape
      subst hvs2
      have hst31_1 : j1 * 3 + 2 ≤ X31.size := by omega
      repeat ((first | refine qA rfl ?_|apply qB|refine qC rfl ?_|apply qD|apply qE|apply qF|apply qG|apply qH);try simp (maxSteps:=1000000)(disch:=(first|omega|(simp only [qI,qJ,qK]<;>omega)|exact qL _)) only [go_sem,↓reduceIte,n0,reduceCtorEq,n1,n2,n3,n4,n5,i0,i1,i2,i3,i4,i5,i6,i7,hxb31,hrd2_2,hrd2_7,hrd2_8,hrd2_9,hrd2_10,hrd2_16,hrd2_15,hrd2_17,hrd2_19,hrd2_30,hrd2_29,exitRQ_ret,exitRQ_exit,Int.toNat_natCast,Nat.mul_one,hst31_1])
      generalize hw32 : wr w31 R1 (j1 * 3 + 1) [.slice aa2 N2 qq2] = w32
      have hS32 : Upd (fun b => b = R1 ∨ b = rb) w31 w32 := by rw [← hw32];exact (Upd.refl _ _).wr _ _ (.inr (.inl rfl))
      have hx1_32 : blk w32 R1 = some ((A1 ++ (([.slice aa1 N1 qq1,.slice aa2 N2 qq2,.map none] : List Value) ++ B1)).toArray,103,(0,0)) := by rw [← hw32];exact el_blk (o := 1) hx1_31 hA1 (Nat.le_of_ble_eq_true rfl)
      have hV32 := hS32
      have hU32 : Upd (fun b => b = vb ∨ b = rb) w1 w32 := hU31.trans' hV32 fun i hi h => h.elim (fun h => by omega) .inr
      have hz32 := hV32.size
      have hG32 : Glo ev w32 := hG1.updS hU32 hgM1 hgM2
      have hq32 : Rdr RT ok w32 rb s15 ∧ NN w32 rb s15 := by
        have hn : ∀ x,x = w32 → (Rdr RT ok x rb s15 ∧ NN x rb s15) := fun x hx => by
          rw [hx,← hw32]
          exact Rdr.store hq31 (by omega) (fun h => by have := (hok _ h).1;first | omega | exact (hok _ h).2 rfl)
        exact hn _ rfl
      obtain ⟨X32,hX32⟩ : ∃ X : Array Value,X = (A1 ++ (([.slice aa1 N1 qq1,.slice aa2 N2 qq2,.map none] : List Value) ++ B1)).toArray := ⟨_,rfl⟩
      have hxb32 : blk w32 R1 = some (X32,103,(0,0)) := by rw [hX32];exact hx1_32
      have hXs32 : j1 * 3 + 3 ≤ X32.size := by rw [hX32];simp only [List.size_toArray,List.length_append,List.length_cons,List.length_nil,hA1];omega
      clear hw32
      have hfe0_1 : RepF (RepS true (d + 1)) (szS true (d + 1)) fX2_1 (fun b => (ok b ∨ w1.heap.size ≤ b) ∧ ¬ ownB va0 b) w32 (xe0_1) [.slice aa2 N2 qq2] := by rw [hxe0_1,hrd2];exact RepF.keepS (RepF_row rfl hnc2 hN2 rfl hL2.row hL2.all (fun b hb => ⟨.inr (by omega),fun ho => by have := (hown1 _ ho).2;omega⟩)) (hV32.keeps fun b _ hk e => hoM1 b hk e)
      clear hL2 hnc2
      have hle0_2 : rdL (rdP (d + 1) ver false) (dfP (d + 1)) ver false [] s15 = ([],s15) := rfl
      have hle0_1 : rdL (rdP (d + 1) ver false) (dfP (d + 1)) ver false [fX2_1] s10 = ([xe0_1],s15) := by rw [rdL_st (by decide) hhe0_1,← hxe0_1,← hs15,hle0_2]
      have hle0_0 : rdL (rdP (d + 1) ver false) (dfP (d + 1)) ver false [fX2_0,fX2_1] s5 = ([xe0_0,xe0_1],s15) := by rw [rdL_st (by decide) hhe0_0,← hxe0_0,← hs10,hle0_1]
      have hfine0 : rdP (d + 2) ver false fs_X2 s5 = (.mk 0 [] false [xe0_0,xe0_1] [],s15) := rdP_f hle0_0
      have hTge0 : TagsM (fun b => (ok b ∨ w1.heap.size ≤ b) ∧ ¬ ownB va0 b) w32 (.map none) [] := .inl ⟨rfl,rfl⟩
      have hCe0_32 : Upd (fun b => b = R1 ∨ b = rb) w32 w32 := Upd.refl _ _
      have hCe0_31 : Upd (fun b => b = R1 ∨ b = rb) w31 w32 := hV32.trans hCe0_32
      have hCe0_23 : Upd (fun b => b = R1 ∨ b = rb) w23 w32 := hV31.trans hCe0_31
      have hCe0_22 : Upd (fun b => b = R1 ∨ b = rb) w22 w32 := hV23.trans hCe0_23
      have hCe0_21 : Upd (fun b => b = R1 ∨ b = rb) w21 w32 := hV22.trans hCe0_22
      have hCe0_13 : Upd (fun b => b = R1 ∨ b = rb) w13 w32 := hV21.trans hCe0_21
      have hCe0_12 : Upd (fun b => b = R1 ∨ b = rb) w12 w32 := hV13.trans hCe0_13
      have hCe0_11 : Upd (fun b => b = R1 ∨ b = rb) w11 w32 := hV12.trans hCe0_12
      have hRe0 : RepS true (d + 2) fs_X2 (fun b => (ok b ∨ w1.heap.size ≤ b) ∧ ¬ ownB va0 b) w32 (.mk 0 [] false [xe0_0,xe0_1] []) [.slice aa1 N1 qq1,.slice aa2 N2 qq2,.map none] := RepS.introT (c := [.slice aa1 N1 qq1,.slice aa2 N2 qq2]) (RepL.cons1 (hfe0_0.keepS (hCe0_22.keeps fun b _ hk e => hoM1 b hk e)) (RepL.cons1 (hfe0_1.keepS (hCe0_32.keeps fun b _ hk e => hoM1 b hk e)) RepL.nil)) hTge0
      have hrE : (rd1 (rdP (d + 2) ver false) fQ_3.of fQ_3.sub false false) s5 = ((.mk 0 [] false [xe0_0,xe0_1] []),s15) := by rw [show (rd1 (rdP (d + 2) ver false) fQ_3.of fQ_3.sub false false) s5 = _ from rd1_part];exact hfine0
      have hxE : (Rep1 (RepS true (d + 2)) fQ_3.of fQ_3.sub) (fun b => (ok b ∨ w1.heap.size ≤ b) ∧ ¬ ownB va0 b) w32 (.mk 0 [] false [xe0_0,xe0_1] []) [.slice aa1 N1 qq1,.slice aa2 N2 qq2,.map none] := Rep1_part.2 hRe0
      repeat ((first | refine qA rfl ?_|apply qB|refine qC rfl ?_|apply qD|apply qE|apply qF|apply qG|apply qH);try simp (maxSteps:=1000000)(disch:=(first|omega|(simp only [qI,qJ,qK]<;>omega)|exact qL _)) only [go_sem,↓reduceIte,n0,reduceCtorEq,n1,n2,n3,n4,n5,i0,i1,i2,i3,i4,i5,i6,i7,hxb32,hrd2_2,hrd2_7,hrd2_8,hrd2_9,hrd2_10,hrd2_16,hrd2_15,hrd2_17,hrd2_19,hrd2_30,hrd2_29,exitRQ_ret,exitRQ_exit,Int.toNat_natCast,Nat.mul_one])
      have hTk : Upd (fun b => b = R1 ∨ b = rb) w11 w32 := ((((((hV12.trans hV13).trans hV21).trans hV22).trans hV23).trans hV31).trans hV32)
      have hL' := hL0.step (Rep1_lay _ _ fun _ => RepS_lay true _ _) hlt0 (hnext1 w32 [.slice aa1 N1 qq1,.slice aa2 N2 qq2,.map none] rfl hx1_32) (by rw [hrE];exact hxE) (hTk.mono fun b h => h.imp (fun e => ⟨_,_,_,hva1,e⟩) id) (by rw [hrE];exact hq32) (fun h => hoM rb h (.inr rfl)) (Nat.le_refl _)
      have hij : IntKind.i32.wrap ((j1 : Int) + 1) = ((j1 + 1 : Nat) : Int) := by rw [i32_wrap (by omega)];omega
      repeat ((first | refine qA rfl ?_|apply qB|refine qC rfl ?_|apply qD|apply qE|apply qF|apply qG|apply qH);try simp (maxSteps:=1000000)(disch:=(first|omega|(simp only [qI,qJ,qK]<;>omega)|exact qL _)) only [go_sem,↓reduceIte,n0,reduceCtorEq,n1,n2,n3,n4,n5,i0,i1,i2,i3,i4,i5,i6,i7,hxb32,hrd2_2,hrd2_7,hrd2_8,hrd2_9,hrd2_10,hrd2_16,hrd2_15,hrd2_17,hrd2_19,hrd2_30,hrd2_29,exitRQ_ret,exitRQ_exit,Int.toNat_natCast,Nat.mul_one,hij])
      refine ⟨⟨(by simp (maxSteps:=1000000)(disch:=(first|omega|(simp only [qI,qJ,qK]<;>omega)|exact qL _)) only [go_sem,↓reduceIte,n0,reduceCtorEq,n1,n2,n3,n4,n5,i0,i1,i2,i3,i4,i5,i6,i7,Holds_nil,Holds_cons,hrd2_2,hrd2_7,hrd2_8,hrd2_9,hrd2_10,hrd2_16,hrd2_15,hrd2_17,hrd2_19,hrd2_30,hrd2_29];exact hva1.symm),j1 + 1,(by simp (maxSteps:=1000000)(disch:=(first|omega|(simp only [qI,qJ,qK]<;>omega)|exact qL _)) only [go_sem,↓reduceIte,n0,reduceCtorEq,n1,n2,n3,n4,n5,i0,i1,i2,i3,i4,i5,i6,i7,hrd2_2,hrd2_7,hrd2_8,hrd2_9,hrd2_10,hrd2_16,hrd2_15,hrd2_17,hrd2_19,hrd2_30,hrd2_29,hij];all_goals rfl),_,_,_,hL'⟩,?_⟩
      try simp (maxSteps:=1000000)(disch:=(first|omega|(simp only [qI,qJ,qK]<;>omega)|exact qL _)) only [go_sem,↓reduceIte,n0,reduceCtorEq,n1,n2,n3,n4,n5,i0,i1,i2,i3,i4,i5,i6,i7,hrd2_2,hrd2_7,hrd2_8,hrd2_9,hrd2_10,hrd2_16,hrd2_15,hrd2_17,hrd2_19,hrd2_30,hrd2_29]
      simp only [RowKit.intOf]
      omega
    · have hjN : j1 = N0 := by omega
      rw [hjN] at hL0
      repeat ((first | refine qA rfl ?_|apply qB|refine qC rfl ?_|apply qD|apply qE|apply qF|apply qG|apply qH);try simp (maxSteps:=1000000)(disch:=(first|omega|(simp only [qI,qJ,qK]<;>omega)|exact qL _)) only [go_sem,↓reduceIte,n0,reduceCtorEq,n1,n2,n3,n4,n5,i0,i1,i2,i3,i4,i5,i6,i7,hrc0_2,hrc0_7,hrc0_8,hrc0_9,hrc0_10,hrc0_16,hrc0_15,hri0,exitRQ_ret,exitRQ_exit])
      exact ⟨(by simp (maxSteps:=1000000)(disch:=(first|omega|(simp only [qI,qJ,qK]<;>omega)|exact qL _)) only [go_sem,↓reduceIte,n0,reduceCtorEq,n1,n2,n3,n4,n5,i0,i1,i2,i3,i4,i5,i6,i7,Holds_nil,Holds_cons,hrc0_2,hrc0_7,hrc0_8,hrc0_9,hrc0_10,hrc0_16,hrc0_15,hri0]),s5,xs0,css0,hL0⟩
  rintro ρ w33 ⟨⟨hrd0_2,hrd0_7,hrd0_8,hrd0_9,hrd0_10,hrd0_16,hrd0_15,-⟩,s16,xs0,css0,hL0⟩
  have hq33 := hL0.rd
  have hu33 := hL0.upd
  have hv_33 := hu33.blk_some hv_8 (by omega)
  have hV33 : Upd (fun b => b = vb ∨ b = rb) w8 w33 := hu33.mono (fun _ h => .inr h)
  have hU33 : Upd (fun b => b = vb ∨ b = rb) w1 w33 := hU8.trans hV33
  have hz33 := hV33.size
  have hG33 : Glo ev w33 := hG1.updS hU33 hgM1 hgM2
  have hrd0 : rdF (rdP (d + 2) ver false) ver false fQ_3 s3 = (.mk 0 [] (nilS fQ_3 ver y0) xs0 [],s16) := by
    have h := rdF_listE (pt := (rdP (d + 2) ver false)) (v := ver) (flex := false) (f := fQ_3) (s := s3) (xs := xs0) (e := s16) rfl (by rw [hy0,← hN0,← hs4];exact hL0.done)
    rw [hy0] at h;exact h
  have hs16 : s16 = (rdF (rdP (d + 2) ver false) ver false fQ_3 s3).2 := by rw [hrd0]
  obtain ⟨aa0,qq0,hvs0⟩ := hL0.row.shape
  subst hvs0
  repeat ((first | refine qA rfl ?_|apply qB|refine qC rfl ?_|apply qD|apply qE|apply qF|apply qG|apply qH);try simp (maxSteps:=1000000)(disch:=(first|omega|(simp only [qI,qJ,qK]<;>omega)|exact qL _)) only [go_sem,↓reduceIte,n0,reduceCtorEq,n1,n2,n3,n4,n5,i0,i1,i2,i3,i4,i5,i6,i7,hv_33,hrd0_2,hrd0_7,hrd0_8,hrd0_9,hrd0_10,hrd0_16,hrd0_15])
  generalize hw34 : wr w33 vb 4 [.slice aa0 N0 qq0] = w34
  have hS34 : Upd (fun b => b = vb ∨ b = rb) w33 w34 := by rw [← hw34];exact (Upd.refl _ _).wr _ _ (.inr (.inl rfl))
  have hv_34 : blk w34 vb = some (#[.int .i16 ver,.int .i32 (rdInt .i32 4 s0).1,.int .i16 (rdInt .i16 2 s1).1,.pointer ap6,.slice aa0 N0 qq0,.map none],95,(0,0)) := by rw [← hw34,blk_wr_eq,hv_33];rfl
  have hV34 := hS34
  have hU34 : Upd (fun b => b = vb ∨ b = rb) w1 w34 := hU33.trans hV34
  have hz34 := hV34.size
  have hG34 : Glo ev w34 := hG1.updS hU34 hgM1 hgM2
  have hq34 : Rdr RT ok w34 rb s16 ∧ NN w34 rb s16 := by
    have hn : ∀ x,x = w34 → (Rdr RT ok x rb s16 ∧ NN x rb s16) := fun x hx => by
      rw [hx,← hw34]
      exact Rdr.store hq33 (by omega) (fun h => by have := (hok _ h).1;first | omega | exact (hok _ h).2 rfl)
    exact hn _ rfl
  clear hw34
  have hf_3 : RepF (RepS true (d + 2)) (szS true (d + 2)) fQ_3 (fun b => ok b ∨ w1.heap.size ≤ b) w34 (x_3) [.slice aa0 N0 qq0] := by rw [hx_3,hrd0];exact RepF.keepS (RepF_row rfl hnc0 hN0 rfl hL0.row hL0.all (fun b hb => .inr (by omega))) (hV34.keeps fun b _ hk e => (hoM b hk) e)
  clear hL0 hnc0
  have hl_4 : rdL (rdP (d + 2) ver false) (dfP (d + 2)) ver false [] s16 = ([],s16) := rfl
  have hl_3 : rdL (rdP (d + 2) ver false) (dfP (d + 2)) ver false [fQ_3] s3 = ([x_3],s16) := by rw [rdL_st (by decide) hh_3,← hx_3,← hs16,hl_4]
  have hl_2 : rdL (rdP (d + 2) ver false) (dfP (d + 2)) ver false [fQ_2,fQ_3] s2 = ([x_2,x_3],s16) := by rw [rdL_st (by decide) hh_2,← hx_2,← hs3,hl_3]
  have hl_1 : rdL (rdP (d + 2) ver false) (dfP (d + 2)) ver false [fQ_1,fQ_2,fQ_3] s1 = ([x_1,x_2,x_3],s16) := by rw [rdL_st (by decide) hh_1,← hx_1,← hs2,hl_2]
  have hl_0 : rdL (rdP (d + 2) ver false) (dfP (d + 2)) ver false [fQ_0,fQ_1,fQ_2,fQ_3] s0 = ([x_0,x_1,x_2,x_3],s16) := by rw [rdL_st (by decide) hh_0,← hx_0,← hs1,hl_1]
  have hfin : rdP (d + 3) ver false fs_Q s0 = (.mk 0 [] false [x_0,x_1,x_2,x_3] [],s16) := rdP_f hl_0
  have hTg : TagsM (fun b => ok b ∨ w1.heap.size ≤ b) w34 (.map none) [] := .inl ⟨rfl,rfl⟩
  have hC_34 : Upd (fun b => b = vb ∨ b = rb) w34 w34 := Upd.refl _ _
  have hC_33 : Upd (fun b => b = vb ∨ b = rb) w33 w34 := hV34.trans hC_34
  have hC_8 : Upd (fun b => b = vb ∨ b = rb) w8 w34 := hV33.trans hC_33
  have hC_7 : Upd (fun b => b = vb ∨ b = rb) w7 w34 := hV8.trans hC_8
  have hC_6 : Upd (fun b => b = vb ∨ b = rb) w6 w34 := hV7.trans hC_7
  have hC_5 : Upd (fun b => b = vb ∨ b = rb) w5 w34 := hV6.trans hC_6
  have hC_4 : Upd (fun b => b = vb ∨ b = rb) w4 w34 := hV5.trans hC_5
  have hC_3 : Upd (fun b => b = vb ∨ b = rb) w3 w34 := hV4.trans hC_4
  have hC_2 : Upd (fun b => b = vb ∨ b = rb) w2 w34 := hV3.trans hC_3
  have hC_1 : Upd (fun b => b = vb ∨ b = rb) w1 w34 := hV2.trans hC_2
  have hR : RepS true (d + 3) fs_Q (fun b => ok b ∨ w1.heap.size ≤ b) w34 (.mk 0 [] false [x_0,x_1,x_2,x_3] []) [.int .i32 (rdInt .i32 4 s0).1,.int .i16 (rdInt .i16 2 s1).1,.pointer ap6,.slice aa0 N0 qq0,.map none] := RepS.introT (c := [.int .i32 (rdInt .i32 4 s0).1,.int .i16 (rdInt .i16 2 s1).1,.pointer ap6,.slice aa0 N0 qq0]) (RepL.cons1 (hf_0.keepS (hC_3.keeps fun b _ hk e => (hoM b hk) e)) (RepL.cons1 (hf_1.keepS (hC_5.keeps fun b _ hk e => (hoM b hk) e)) (RepL.cons1 (hf_2.keepS (hC_7.keeps fun b _ hk e => (hoM b hk) e)) (RepL.cons1 (hf_3.keepS (hC_34.keeps fun b _ hk e => (hoM b hk) e)) RepL.nil)))) hTg
  repeat ((first | refine qA rfl ?_|apply qB|refine qC rfl ?_|apply qD|apply qE|apply qF|apply qG|apply qH);try simp (maxSteps:=1000000)(disch:=(first|omega|(simp only [qI,qJ,qK]<;>omega)|exact qL _)) only [go_sem,↓reduceIte,n0,reduceCtorEq,n1,n2,n3,n4,n5,i0,i1,i2,i3,i4,i5,i6,i7,hv_34,hrd0_2,hrd0_7,hrd0_8,hrd0_9,hrd0_10,hrd0_16,hrd0_15])
  refine (RComplete_fn w34 hq34.1 hG34.2).mono ?_
  rintro _ wz ⟨rfl,hez⟩
  rw [hez]
  repeat ((first | refine qA rfl ?_|apply qB|refine qC rfl ?_|apply qD|apply qE|apply qF|apply qG|apply qH);try simp (maxSteps:=1000000)(disch:=(first|omega|(simp only [qI,qJ,qK]<;>omega)|exact qL _)) only [go_sem,↓reduceIte,n0,reduceCtorEq,n1,n2,n3,n4,n5,i0,i1,i2,i3,i4,i5,i6,i7,hv_34,hrd0_2,hrd0_7,hrd0_8,hrd0_9,hrd0_10,hrd0_16,hrd0_15])
  rw [hfin]
  refine ⟨fun h => ?_,fun h => ⟨?_,[.int .i32 (rdInt .i32 4 s0).1,.int .i16 (rdInt .i16 2 s1).1,.pointer ap6,.slice aa0 N0 qq0,.map none],hv_34,?_⟩,?_⟩
  · have h' : s16 = none := h
    rw [h'];rfl
  · cases hsn : s16 with
    | none => exact absurd hsn h
    | some x => rfl
  · exact (RepS_lay true (d + 3) fs_Q).weaken hR fun b _ hk => hk.imp id fun h => by omega
  · exact hbase.trans' hU34 fun i hi h => h.elim id fun h => by omega
end Ms

