/- A part of the proof: see the last text. -/
import Derived.Test.YtbbhfngjfihndaaGreatDoorAddPartitionsToTxnRequestP0
set_option linter.unusedSimpArgs false
set_option linter.unusedVariables false
namespace Ms
open Go.World renaming size_alloc → qI
open Ms renaming size_wr → qJ,size_drew → qK,not_noB → qL
open W renaming seqR → qA,seq → qB,regR → qC,condK → qD,block → qE,skip → qF,ret → qG,exit → qH
open Nat renaming reduceEqDiff → n0,reduceAdd → n1,reduceMul → n2,reduceSub → n3,reduceLT → n4,reduceLeDiff → n5
open Int renaming reduceEq → i0,reduceLT → i1,reduceLE → i2,reduceNeg → i3,reduceAdd → i4,reduceSub → i5,reduceMul → i6,reduceToNat → i7
set_option maxRecDepth 8000
open Go Go.Proofs Go.Shelf
attribute [local congr] W_congr WPsq_congr WPp_congr optK_congr addrK_congr intK_congr boolK_congr sliceK_congr tupleK_congr funcK_congr Fn_congr rawK_congr takeK_congr stepK_congr convK_congr aggK_congr

set_option maxHeartbeats 4000000 in
theorem readQ_1 {d : Nat} {ok : Blocks} {ver : Int} {ev : Value} (hlo : 3 ≤ ver) (hhi : ver ≤ 3) (w : World) {vb : Nat} (src : Value) (s : List UInt8) (hv : blk w vb = some (#[.int .i16 ver,.string ByteArray.empty,.int .i64 0,.int .i16 0,.slice none 0 0,.slice none 0 0,.map none],69,(0,0))) (hsrc : BytesV ok w src s) (hok0 : ∀ b,ok b → b < w.heap.size ∧ b ≠ vb) (hG : Glo ev w) (hgv : ¬ 0 = vb ∧ ¬ 1 = vb) :
    Fn Tryz.prog 35 #[.pointer (some ⟨vb,0,none⟩),src,.bool false] w (ReadQ 69 ok ver (d + 3) fs_Q vb w (rdP (d + 3) ver true fs_Q (some s)) ev) := by
  have hvl := blk_lt hv
  have hgs := hG.lt
  obtain ⟨sa,sc,rfl,_⟩ := hsrc.shape
  refine fn_of_W Tryz.func35 rfl Tryz.results35 Tryz.ntmps35 rfl ?_
  repeat ((first | refine qA rfl ?_|apply qB|refine qC rfl ?_|apply qD|apply qE|apply qF|apply qG|apply qH);try simp (maxSteps:=1000000)(disch:=(first|omega|(simp only [qI,qJ,qK]<;>omega)|exact qL _)) only [go_sem,↓reduceIte,n0,reduceCtorEq,n1,n2,n3,n4,n5,i0,i1,i2,i3,i4,i5,i6,i7,hv])
  refine (DefaultQ_fn w hv).mono ?_
  rintro _ w0 ⟨hv0,hu0⟩
  have hz0 := hu0.size
  have hsrc0 : BytesV ok w0 (.slice sa s.length sc) s := hsrc.keep (hu0.keeps fun b _ hk e => (hok0 b hk).2 e)
  obtain ⟨rb,hrb⟩ : ∃ r,r = w0.heap.size := ⟨_,rfl⟩
  have hE1 : Ext w0 (wr (w0.alloc (.cells #[.slice none 0 0,.bool false] 94)) w0.heap.size 0 [.slice sa s.length sc,.bool false]) := (Upd.alloc (Upd.refl _ _) _).wr _ _ (.inl (Nat.le_refl _))
  have hz1 : (wr (w0.alloc (.cells #[.slice none 0 0,.bool false] 94)) w0.heap.size 0 [.slice sa s.length sc,.bool false]).heap.size = w0.heap.size + 1 := by rw [size_wr,World.size_alloc]
  have hR1 : Rdr RT ok (wr (w0.alloc (.cells #[.slice none 0 0,.bool false] 94)) w0.heap.size 0 [.slice sa s.length sc,.bool false]) w0.heap.size (some s) := Rdr.good (v := .slice sa s.length sc) (by simp (maxSteps:=1000000)(disch:=(first|omega|(simp only [qI,qJ,qK]<;>omega)|exact qL _)) only [go_sem,↓reduceIte,n0,reduceCtorEq,n1,n2,n3,n4,n5,i0,i1,i2,i3,i4,i5,i6,i7]) (hsrc0.keep (hE1.keeps _))
  have hv_1 := hE1.blk_some hv0 id
  repeat ((first | refine qA rfl ?_|apply qB|refine qC rfl ?_|apply qD|apply qE|apply qF|apply qG|apply qH);try simp (maxSteps:=1000000)(disch:=(first|omega|(simp only [qI,qJ,qK]<;>omega)|exact qL _)) only [go_sem,↓reduceIte,n0,reduceCtorEq,n1,n2,n3,n4,n5,i0,i1,i2,i3,i4,i5,i6,i7,hv0])
  generalize (wr (w0.alloc (.cells #[.slice none 0 0,.bool false] 94)) w0.heap.size 0 [.slice sa s.length sc,.bool false]) = w1 at *
  rw [← hrb] at hR1
  try rw [← hrb]
  have hok : ∀ b,ok b → b < w.heap.size ∧ b ≠ vb := hok0
  have hrok : ¬ ok rb := fun h => by have := (hok rb h).1;omega
  have hbase : Upd (fun b => b = vb) w w1 := hu0.trans (hE1.mono fun _ h => h.elim)
  have hG1 : Glo ev w1 := hG.updS hbase hgv.1 hgv.2
  have hgrb : ¬ 0 = rb := by omega
  have hgM1 : ¬ (0 = vb ∨ 0 = rb) := fun h => h.elim hgv.1 fun h => by omega
  have hgM2 : ¬ (1 = vb ∨ 1 = rb) := fun h => h.elim hgv.2 fun h => by omega
  obtain ⟨s0,hs0⟩ : ∃ s' : St,s' = some s := ⟨_,rfl⟩
  rw [← hs0] at hR1 ⊢
  have hU1 : Upd (fun b => b = vb ∨ b = rb) w1 w1 := Upd.refl _ _
  have hoM : ∀ b,(ok b ∨ w1.heap.size ≤ b) → ¬ (b = vb ∨ b = rb) := fun b hk h => by
    rcases hk with hk | hk
    · have := hok b hk;rcases h with h | h <;> omega
    · rcases h with h | h <;> omega
  have hq1 : Rdr RT ok w1 rb s0 := hR1
  obtain ⟨FB,hFB⟩ : ∃ P : Prop,P = ((rdP (d + 3) ver true fs_Q s0).2 = none) := ⟨_,rfl⟩
  have hb_0 : (rdL (rdP (d + 2) ver true) (dfP (d + 2)) ver true [fQ_0,fQ_1,fQ_2,fQ_3,fQ_4] s0).2 = none → FB := fun h => Eq.mpr hFB (rdP_bad h)
  have hh_0 : hasS fQ_0 ver = true := hasS_t (by show (0 : Int) ≤ ver;omega) (by show (3 : Int) < 0 ∨ ver ≤ (3 : Int);omega)
  obtain ⟨x_0,hx_0⟩ : ∃ x,x = (rdF (rdP (d + 2) ver true) ver true fQ_0 s0).1 := ⟨_,rfl⟩
  repeat ((first | refine qA rfl ?_|apply qB|refine qC rfl ?_|apply qD|apply qE|apply qF|apply qG|apply qH);try simp (maxSteps:=1000000)(disch:=(first|omega|(simp only [qI,qJ,qK]<;>omega)|exact qL _)) only [go_sem,↓reduceIte,n0,reduceCtorEq,n1,n2,n3,n4,n5,i0,i1,i2,i3,i4,i5,i6,i7,hv_1])
  have hmay : mayS fQ_0 ver = false := mayS_no (by show (-1 : Int) < 0 ∨ ver < (-1 : Int);omega)
  have hrd : rdF (rdP (d + 2) ver true) ver true fQ_0 s0 = _ := rdF_text rfl hmay
  refine (RCompactString_fn w1 hq1 hrok hG1.1 hgrb).mono ?_
  rintro _ w2 ⟨rfl,hq2,hu2⟩
  have hv_2 := hu2.blk_some hv_1 (by omega)
  have hV2 : Upd (fun b => b = vb ∨ b = rb) w1 w2 := hu2.mono (fun _ h => .inr h)
  have hU2 : Upd (fun b => b = vb ∨ b = rb) w1 w2 := hU1.trans hV2
  have hz2 := hV2.size
  have hG2 : Glo ev w2 := hG1.updS hU2 hgM1 hgM2
  have hst : (rdF (rdP (d + 2) ver true) ver true fQ_0 s0).2 = (rdStr true s0).2 := by first | (rw [hrd];rfl) | rw [hrd]
  obtain ⟨s1,hs1⟩ : ∃ s,s = (rdF (rdP (d + 2) ver true) ver true fQ_0 s0).2 := ⟨_,rfl⟩
  rw [← hst,← hs1] at hq2
  clear hst
  repeat ((first | refine qA rfl ?_|apply qB|refine qC rfl ?_|apply qD|apply qE|apply qF|apply qG|apply qH);try simp (maxSteps:=1000000)(disch:=(first|omega|(simp only [qI,qJ,qK]<;>omega)|exact qL _)) only [go_sem,↓reduceIte,n0,reduceCtorEq,n1,n2,n3,n4,n5,i0,i1,i2,i3,i4,i5,i6,i7,hv_2])
  generalize hw3 : wr w2 vb 1 [strV (rdStr true s0).1] = w3
  have hS3 : Upd (fun b => b = vb ∨ b = rb) w2 w3 := by rw [← hw3];exact (Upd.refl _ _).wr _ _ (.inr (.inl rfl))
  have hv_3 : blk w3 vb = some (#[.int .i16 ver,strV (rdStr true s0).1,.int .i64 0,.int .i16 0,.slice none 0 0,.slice none 0 0,.map none],69,(0,0)) := by rw [← hw3,blk_wr_eq,hv_2];rfl
  have hV3 := hS3
  have hU3 : Upd (fun b => b = vb ∨ b = rb) w1 w3 := hU2.trans hV3
  have hz3 := hV3.size
  have hG3 : Glo ev w3 := hG1.updS hU3 hgM1 hgM2
  have hq3 : Rdr RT ok w3 rb s1 ∧ NN w3 rb s1 := by
    have hn : ∀ x,x = w3 → (Rdr RT ok x rb s1 ∧ NN x rb s1) := fun x hx => by
      rw [hx,← hw3]
      exact Rdr.store hq2 (by omega) (fun h => by have := (hok _ h).1;first | omega | exact (hok _ h).2 rfl)
    exact hn _ rfl
  clear hw3
  have hf_0 : RepF (RepS true (d + 2)) (szS true (d + 2)) fQ_0 (fun b => ok b ∨ w1.heap.size ≤ b) w3 (x_0) [strV (rdStr true s0).1] := (RepF_text rfl (by decide)).2 (by rw [hx_0,hrd];rfl)
  clear hrd
  have hb_1 : (rdL (rdP (d + 2) ver true) (dfP (d + 2)) ver true [fQ_1,fQ_2,fQ_3,fQ_4] s1).2 = none → FB := fun h => hb_0 (by rw [rdL_st (by decide) hh_0,← hs1];exact h)
  have hh_1 : hasS fQ_1 ver = true := hasS_t (by show (0 : Int) ≤ ver;omega) (by show (3 : Int) < 0 ∨ ver ≤ (3 : Int);omega)
  obtain ⟨x_1,hx_1⟩ : ∃ x,x = (rdF (rdP (d + 2) ver true) ver true fQ_1 s1).1 := ⟨_,rfl⟩
  repeat ((first | refine qA rfl ?_|apply qB|refine qC rfl ?_|apply qD|apply qE|apply qF|apply qG|apply qH);try simp (maxSteps:=1000000)(disch:=(first|omega|(simp only [qI,qJ,qK]<;>omega)|exact qL _)) only [go_sem,↓reduceIte,n0,reduceCtorEq,n1,n2,n3,n4,n5,i0,i1,i2,i3,i4,i5,i6,i7,hv_3])
  have hrd : rdF (rdP (d + 2) ver true) ver true fQ_1 s1 = _ := rdF_num 4 rfl (by decide)
  refine (Int64_fn w3 hq3.1 hrok hG3.1 hgrb).mono ?_
  rintro _ w4 ⟨rfl,hq4,hu4⟩
  have hv_4 := hu4.blk_some hv_3 (by omega)
  have hV4 : Upd (fun b => b = vb ∨ b = rb) w3 w4 := hu4.mono (fun _ h => .inr h)
  have hU4 : Upd (fun b => b = vb ∨ b = rb) w1 w4 := hU3.trans hV4
  have hz4 := hV4.size
  have hG4 : Glo ev w4 := hG1.updS hU4 hgM1 hgM2
  have hst : (rdF (rdP (d + 2) ver true) ver true fQ_1 s1).2 = (rdInt .i64 8 s1).2 := by first | (rw [hrd];rfl) | rw [hrd]
  obtain ⟨s2,hs2⟩ : ∃ s,s = (rdF (rdP (d + 2) ver true) ver true fQ_1 s1).2 := ⟨_,rfl⟩
  rw [← hst,← hs2] at hq4
  clear hst
  repeat ((first | refine qA rfl ?_|apply qB|refine qC rfl ?_|apply qD|apply qE|apply qF|apply qG|apply qH);try simp (maxSteps:=1000000)(disch:=(first|omega|(simp only [qI,qJ,qK]<;>omega)|exact qL _)) only [go_sem,↓reduceIte,n0,reduceCtorEq,n1,n2,n3,n4,n5,i0,i1,i2,i3,i4,i5,i6,i7,hv_4])
  generalize hw5 : wr w4 vb 2 [.int .i64 (rdInt .i64 8 s1).1] = w5
  have hS5 : Upd (fun b => b = vb ∨ b = rb) w4 w5 := by rw [← hw5];exact (Upd.refl _ _).wr _ _ (.inr (.inl rfl))
  have hv_5 : blk w5 vb = some (#[.int .i16 ver,strV (rdStr true s0).1,.int .i64 (rdInt .i64 8 s1).1,.int .i16 0,.slice none 0 0,.slice none 0 0,.map none],69,(0,0)) := by rw [← hw5,blk_wr_eq,hv_4];rfl
  have hV5 := hS5
  have hU5 : Upd (fun b => b = vb ∨ b = rb) w1 w5 := hU4.trans hV5
  have hz5 := hV5.size
  have hG5 : Glo ev w5 := hG1.updS hU5 hgM1 hgM2
  have hq5 : Rdr RT ok w5 rb s2 ∧ NN w5 rb s2 := by
    have hn : ∀ x,x = w5 → (Rdr RT ok x rb s2 ∧ NN x rb s2) := fun x hx => by
      rw [hx,← hw5]
      exact Rdr.store hq4 (by omega) (fun h => by have := (hok _ h).1;first | omega | exact (hok _ h).2 rfl)
    exact hn _ rfl
  clear hw5
  have hf_1 : RepF (RepS true (d + 2)) (szS true (d + 2)) fQ_1 (fun b => ok b ∨ w1.heap.size ≤ b) w5 (x_1) [.int .i64 (rdInt .i64 8 s1).1] := (RepF_num (by decide)).2 (by rw [hx_1,hrd];exact congrArg (fun x => [x]) (numC_rd 4 (by decide) 8 s1).symm)
  clear hrd
  have hb_2 : (rdL (rdP (d + 2) ver true) (dfP (d + 2)) ver true [fQ_2,fQ_3,fQ_4] s2).2 = none → FB := fun h => hb_1 (by rw [rdL_st (by decide) hh_1,← hs2];exact h)
  have hh_2 : hasS fQ_2 ver = true := hasS_t (by show (0 : Int) ≤ ver;omega) (by show (3 : Int) < 0 ∨ ver ≤ (3 : Int);omega)
  obtain ⟨x_2,hx_2⟩ : ∃ x,x = (rdF (rdP (d + 2) ver true) ver true fQ_2 s2).1 := ⟨_,rfl⟩
  repeat ((first | refine qA rfl ?_|apply qB|refine qC rfl ?_|apply qD|apply qE|apply qF|apply qG|apply qH);try simp (maxSteps:=1000000)(disch:=(first|omega|(simp only [qI,qJ,qK]<;>omega)|exact qL _)) only [go_sem,↓reduceIte,n0,reduceCtorEq,n1,n2,n3,n4,n5,i0,i1,i2,i3,i4,i5,i6,i7,hv_5])
  have hrd : rdF (rdP (d + 2) ver true) ver true fQ_2 s2 = _ := rdF_num 2 rfl (by decide)
  refine (Int16_fn w5 hq5.1 hrok hG5.1 hgrb).mono ?_
  rintro _ w6 ⟨rfl,hq6,hu6⟩
  have hv_6 := hu6.blk_some hv_5 (by omega)
  have hV6 : Upd (fun b => b = vb ∨ b = rb) w5 w6 := hu6.mono (fun _ h => .inr h)
  have hU6 : Upd (fun b => b = vb ∨ b = rb) w1 w6 := hU5.trans hV6
  have hz6 := hV6.size
  have hG6 : Glo ev w6 := hG1.updS hU6 hgM1 hgM2
  have hst : (rdF (rdP (d + 2) ver true) ver true fQ_2 s2).2 = (rdInt .i16 2 s2).2 := by first | (rw [hrd];rfl) | rw [hrd]
  obtain ⟨s3,hs3⟩ : ∃ s,s = (rdF (rdP (d + 2) ver true) ver true fQ_2 s2).2 := ⟨_,rfl⟩
  rw [← hst,← hs3] at hq6
  clear hst
  repeat ((first | refine qA rfl ?_|apply qB|refine qC rfl ?_|apply qD|apply qE|apply qF|apply qG|apply qH);try simp (maxSteps:=1000000)(disch:=(first|omega|(simp only [qI,qJ,qK]<;>omega)|exact qL _)) only [go_sem,↓reduceIte,n0,reduceCtorEq,n1,n2,n3,n4,n5,i0,i1,i2,i3,i4,i5,i6,i7,hv_6])
  generalize hw7 : wr w6 vb 3 [.int .i16 (rdInt .i16 2 s2).1] = w7
  have hS7 : Upd (fun b => b = vb ∨ b = rb) w6 w7 := by rw [← hw7];exact (Upd.refl _ _).wr _ _ (.inr (.inl rfl))
  have hv_7 : blk w7 vb = some (#[.int .i16 ver,strV (rdStr true s0).1,.int .i64 (rdInt .i64 8 s1).1,.int .i16 (rdInt .i16 2 s2).1,.slice none 0 0,.slice none 0 0,.map none],69,(0,0)) := by rw [← hw7,blk_wr_eq,hv_6];rfl
  have hV7 := hS7
  have hU7 : Upd (fun b => b = vb ∨ b = rb) w1 w7 := hU6.trans hV7
  have hz7 := hV7.size
  have hG7 : Glo ev w7 := hG1.updS hU7 hgM1 hgM2
  have hq7 : Rdr RT ok w7 rb s3 ∧ NN w7 rb s3 := by
    have hn : ∀ x,x = w7 → (Rdr RT ok x rb s3 ∧ NN x rb s3) := fun x hx => by
      rw [hx,← hw7]
      exact Rdr.store hq6 (by omega) (fun h => by have := (hok _ h).1;first | omega | exact (hok _ h).2 rfl)
    exact hn _ rfl
  clear hw7
  have hf_2 : RepF (RepS true (d + 2)) (szS true (d + 2)) fQ_2 (fun b => ok b ∨ w1.heap.size ≤ b) w7 (x_2) [.int .i16 (rdInt .i16 2 s2).1] := (RepF_num (by decide)).2 (by rw [hx_2,hrd];exact congrArg (fun x => [x]) (numC_rd 2 (by decide) 2 s2).symm)
  clear hrd
  have hb_3 : (rdL (rdP (d + 2) ver true) (dfP (d + 2)) ver true [fQ_3,fQ_4] s3).2 = none → FB := fun h => hb_2 (by rw [rdL_st (by decide) hh_2,← hs3];exact h)
  have hh_3 : hasS fQ_3 ver = true := hasS_t (by show (0 : Int) ≤ ver;omega) (by show (3 : Int) < 0 ∨ ver ≤ (3 : Int);omega)
  obtain ⟨x_3,hx_3⟩ : ∃ x,x = (rdF (rdP (d + 2) ver true) ver true fQ_3 s3).1 := ⟨_,rfl⟩
  repeat ((first | refine qA rfl ?_|apply qB|refine qC rfl ?_|apply qD|apply qE|apply qF|apply qG|apply qH);try simp (maxSteps:=1000000)(disch:=(first|omega|(simp only [qI,qJ,qK]<;>omega)|exact qL _)) only [go_sem,↓reduceIte,n0,reduceCtorEq,n1,n2,n3,n4,n5,i0,i1,i2,i3,i4,i5,i6,i7,hv_7])
  refine (RCompactArrayLen_fn w7 hq7.1 hrok hG7.1 hgrb).mono ?_
  rintro _ w8 ⟨rfl,hq8,hu8⟩
  have hv_8 := hu8.blk_some hv_7 (by omega)
  have hV8 : Upd (fun b => b = vb ∨ b = rb) w7 w8 := hu8.mono (fun _ h => .inr h)
  have hU8 : Upd (fun b => b = vb ∨ b = rb) w1 w8 := hU7.trans hV8
  have hz8 := hV8.size
  have hG8 : Glo ev w8 := hG1.updS hU8 hgM1 hgM2
  obtain ⟨s4,hs4⟩ : ∃ s,s = (rdALen true s3).2 := ⟨_,rfl⟩
  rw [← hs4] at hq8
  have hyr0 := rdALen_rng true s3
  generalize hy0 : (rdALen true s3).1 = y0 at *
  obtain ⟨N0,hN0⟩ : ∃ N,N = y0.toNat := ⟨_,rfl⟩
  have hlb0 : (rdMany (rd1 (rdP (d + 2) ver true) fQ_3.of fQ_3.sub false true) N0 s4).2 = none → FB := fun h => hb_3 (by rw [rdL_st (by decide) hh_3];exact rdL_bad (rdF_listbad rfl (by rw [hy0,← hN0,← hs4];exact h)))
  repeat ((first | refine W.seqR rfl ?_ | refine W.seq ?_ | refine W.regR rfl ?_ | refine W.block ?_ | refine W.skip ?_ | refine W.ret ?_ | refine W.exit ?_);try simp (maxSteps:=1000000)(disch:=(first|omega|(simp only [qI,qJ,qK]<;>omega)|exact qL _)) only [go_sem,↓reduceIte,n0,reduceCtorEq,n1,n2,n3,n4,n5,i0,i1,i2,i3,i4,i5,i6,i7,hv_8])
  refine (ROk_fn w8 hq8.1).mono ?_
  rintro _ wz ⟨rfl,hez⟩
  rw [hez]
  clear hez wz
  by_cases hsn0 : s4 = none
  · have hso : s4.isSome = false := by rw [hsn0];rfl
    repeat (first|simp (maxSteps:=1000000)(disch:=(first|omega|(simp only [qI,qJ,qK]<;>omega)|exact qL _)) only [go_sem,↓reduceIte,n0,reduceCtorEq,n1,n2,n3,n4,n5,i0,i1,i2,i3,i4,i5,i6,i7,hv_8,hso]|refine qA rfl ?_|apply qB|refine qC rfl ?_|apply qD|apply qE|apply qF|apply qG|apply qH)
    refine (RComplete_fn w8 hq8.1 hG8.2).mono ?_
    rintro _ wz ⟨rfl,hez⟩
    rw [hez]
    repeat (first|simp (maxSteps:=1000000)(disch:=(first|omega|(simp only [qI,qJ,qK]<;>omega)|exact qL _)) only [go_sem,↓reduceIte,n0,reduceCtorEq,n1,n2,n3,n4,n5,i0,i1,i2,i3,i4,i5,i6,i7,hv_8]|refine qA rfl ?_|apply qB|refine qC rfl ?_|apply qD|apply qE|apply qF|apply qG|apply qH)
    rw [errV_none hsn0]
    exact ReadQ.bad (Eq.mp hFB (hlb0 (by rw [hsn0];exact rdMany_none rd1P_none _))) (hbase.trans' hU8 fun i hi h => h.elim id fun h => by omega)
  have hso0 : s4.isSome = true := isSome_some hsn0
  try simp (maxSteps:=1000000)(disch:=(first|omega|(simp only [qI,qJ,qK]<;>omega)|exact qL _)) only [go_sem,↓reduceIte,n0,reduceCtorEq,n1,n2,n3,n4,n5,i0,i1,i2,i3,i4,i5,i6,i7,hv_8,hso0]
  repeat ((first | refine W.seqR rfl ?_ | refine W.seq ?_ | refine W.regR rfl ?_ | refine W.block ?_ | refine W.skip ?_ | refine W.ret ?_ | refine W.exit ?_);try simp (maxSteps:=1000000)(disch:=(first|omega|(simp only [qI,qJ,qK]<;>omega)|exact qL _)) only [go_sem,↓reduceIte,n0,reduceCtorEq,n1,n2,n3,n4,n5,i0,i1,i2,i3,i4,i5,i6,i7,hv_8,hso0])
  refine W.condK ?_
  try simp (maxSteps:=1000000)(disch:=(first|omega|(simp only [qI,qJ,qK]<;>omega)|exact qL _)) only [go_sem,↓reduceIte,n0,reduceCtorEq,n1,n2,n3,n4,n5,i0,i1,i2,i3,i4,i5,i6,i7,hv_8,hso0]
  repeat ((first | refine W.seqR rfl ?_ | refine W.seq ?_ | refine W.regR rfl ?_ | refine W.block ?_ | refine W.skip ?_ | refine W.ret ?_ | refine W.exit ?_);try simp (maxSteps:=1000000)(disch:=(first|omega|(simp only [qI,qJ,qK]<;>omega)|exact qL _)) only [go_sem,↓reduceIte,n0,reduceCtorEq,n1,n2,n3,n4,n5,i0,i1,i2,i3,i4,i5,i6,i7,hv_8,hso0,slBase_00])
  refine W.normJ (RowQ [(2,.bool false),(7,.pointer (some ⟨rb,0,none⟩)),(8,.int .i16 ver),(9,.bool true),(10,.pointer (some ⟨vb,0,none⟩)),(16,.int .i32 y0)] 15 (fun va w' => LstI RT (rd1 (rdP (d + 2) ver true) fQ_3.of fQ_3.sub false true) (Rep1 (RepS true (d + 2)) fQ_3.of fQ_3.sub) 3 103 [.string ByteArray.empty,.slice none 0 0,.map none] w8.heap.size N0 ok (fun b => ok b ∨ w1.heap.size ≤ b) rb w8 s4 va 0 s4 [] [] w' ∧ (N0 = 0 → if nilS fQ_3 ver y0 = true then va = .slice none 0 0 else ∃ a,va = .slice (some a) 0 0))) ?_ ?_
  · by_cases hy0 : (0 : Int) < y0
    · have hyv : Value.int .i32 y0 = .int .i32 ((N0 : Nat) : Int) := by rw [show y0 = ((N0 : Nat) : Int) by omega]
      repeat ((first | refine qA rfl ?_|apply qB|refine qC rfl ?_|apply qD|apply qE|apply qF|apply qG|apply qH);try simp (maxSteps:=1000000)(disch:=(first|omega|(simp only [qI,qJ,qK]<;>omega)|exact qL _)) only [go_sem,↓reduceIte,n0,reduceCtorEq,n1,n2,n3,n4,n5,i0,i1,i2,i3,i4,i5,i6,i7,hv_8])
      refine wp_appendZ (m := N0) utQ_63 utQ_21 inQ_103 (by decide) (by first | rfl | simp (maxSteps:=1000000)(disch:=(first|omega|(simp only [qI,qJ,qK]<;>omega)|exact qL _)) only [go_sem,↓reduceIte,n0,reduceCtorEq,n1,n2,n3,n4,n5,i0,i1,i2,i3,i4,i5,i6,i7]) (by first | exact hyv | (simp (maxSteps:=1000000)(disch:=(first|omega|(simp only [qI,qJ,qK]<;>omega)|exact qL _)) only [go_sem,↓reduceIte,n0,reduceCtorEq,n1,n2,n3,n4,n5,i0,i1,i2,i3,i4,i5,i6,i7];exact hyv)) (by omega) (by omega) (by decide) ?_
      intro q rest hq1
      have hEw : Ext w8 (w8.drew.alloc (.cells (zs [.string ByteArray.empty,.slice none 0 0,.map none] N0 ++ rest).toArray 103)) := (Upd.refl _ _).drew.alloc _
      repeat (first|simp (maxSteps:=1000000)(disch:=(first|omega|(simp only [qI,qJ,qK]<;>omega)|exact qL _)) only [go_sem,↓reduceIte,n0,reduceCtorEq,n1,n2,n3,n4,n5,i0,i1,i2,i3,i4,i5,i6,i7,hv_8]|refine qA rfl ?_|apply qB|refine qC rfl ?_|apply qD|apply qE|apply qF|apply qG|apply qH)
      exact ⟨(by simp (maxSteps:=1000000)(disch:=(first|omega|(simp only [qI,qJ,qK]<;>omega)|exact qL _)) only [go_sem,↓reduceIte,n0,reduceCtorEq,n1,n2,n3,n4,n5,i0,i1,i2,i3,i4,i5,i6,i7,Holds_nil,Holds_cons]),.slice (some ⟨w8.heap.size,0,none⟩) N0 q,(by simp (maxSteps:=1000000)(disch:=(first|omega|(simp only [qI,qJ,qK]<;>omega)|exact qL _)) only [go_sem,↓reduceIte,n0,reduceCtorEq,n1,n2,n3,n4,n5,i0,i1,i2,i3,i4,i5,i6,i7]),LstI.start (RowJ.start (by omega) hq1 (by show w8.heap.size ≤ w8.drew.heap.size;rw [size_drew];omega) (blk_alloc_new rfl)) ⟨hq8.1.upd hEw (fun h => h) (fun _ _ _ h => h),hq8.2.upd hEw fun h => h⟩ (hEw.mono fun _ h => h.elim),fun h0 => by omega⟩
    · repeat ((first | refine qA rfl ?_|apply qB|refine qC rfl ?_|apply qD|apply qE|apply qF|apply qG|apply qH);try simp (maxSteps:=1000000)(disch:=(first|omega|(simp only [qI,qJ,qK]<;>omega)|exact qL _)) only [go_sem,↓reduceIte,n0,reduceCtorEq,n1,n2,n3,n4,n5,i0,i1,i2,i3,i4,i5,i6,i7,hv_8])
      exact ⟨(by simp (maxSteps:=1000000)(disch:=(first|omega|(simp only [qI,qJ,qK]<;>omega)|exact qL _)) only [go_sem,↓reduceIte,n0,reduceCtorEq,n1,n2,n3,n4,n5,i0,i1,i2,i3,i4,i5,i6,i7,Holds_nil,Holds_cons]),.slice none 0 0,(by simp (maxSteps:=1000000)(disch:=(first|omega|(simp only [qI,qJ,qK]<;>omega)|exact qL _)) only [go_sem,↓reduceIte,n0,reduceCtorEq,n1,n2,n3,n4,n5,i0,i1,i2,i3,i4,i5,i6,i7,slBase_00]),LstI.start (RowJ.zero (by omega) (fun _ h => by cases h)) hq8 (Upd.refl _ _),fun _ => by rw [nilS_plain (by decide) (by omega)];exact rfl⟩
  rintro ρ w9 ⟨⟨hrb0_2,hrb0_7,hrb0_8,hrb0_9,hrb0_10,hrb0_16,-⟩,va0,hra0,hL0,hnc0⟩
  repeat ((first | refine qA rfl ?_|apply qB|refine qC rfl ?_|apply qD|apply qE|apply qF|apply qG|apply qH);try simp (maxSteps:=1000000)(disch:=(first|omega|(simp only [qI,qJ,qK]<;>omega)|exact qL _)) only [go_sem,↓reduceIte,n0,reduceCtorEq,n1,n2,n3,n4,n5,i0,i1,i2,i3,i4,i5,i6,i7,hv_8,hrb0_2,hrb0_7,hrb0_8,hrb0_9,hrb0_10,hrb0_16,hra0,exitRQ_ret,exitRQ_exit,Int.toNat_natCast,Nat.mul_one])
  refine W.exitRJ 0 (EndQ [(2,.bool false),(7,.pointer (some ⟨rb,0,none⟩)),(8,.int .i16 ver),(9,.bool true),(10,.pointer (some ⟨vb,0,none⟩)),(16,.int .i32 y0),(15,va0)] (fun w' => ∃ s xs css,LstI RT (rd1 (rdP (d + 2) ver true) fQ_3.of fQ_3.sub false true) (Rep1 (RepS true (d + 2)) fQ_3.of fQ_3.sub) 3 103 [.string ByteArray.empty,.slice none 0 0,.map none] w8.heap.size N0 ok (fun b => ok b ∨ w1.heap.size ≤ b) rb w8 s4 va0 N0 s xs css w')) (W.loop (LoopQ [(2,.bool false),(7,.pointer (some ⟨rb,0,none⟩)),(8,.int .i16 ver),(9,.bool true),(10,.pointer (some ⟨vb,0,none⟩)),(16,.int .i32 y0),(15,va0)] 17 (fun j w' => ∃ s xs css,LstI RT (rd1 (rdP (d + 2) ver true) fQ_3.of fQ_3.sub false true) (Rep1 (RepS true (d + 2)) fQ_3.of fQ_3.sub) 3 103 [.string ByteArray.empty,.slice none 0 0,.map none] w8.heap.size N0 ok (fun b => ok b ∨ w1.heap.size ≤ b) rb w8 s4 va0 j s xs css w')) (fun ρ _ => N0 - (RowKit.intOf (ρ 17)).toNat) ?_ ?_) ?_
  · exact ⟨(by simp (maxSteps:=1000000)(disch:=(first|omega|(simp only [qI,qJ,qK]<;>omega)|exact qL _)) only [go_sem,↓reduceIte,n0,reduceCtorEq,n1,n2,n3,n4,n5,i0,i1,i2,i3,i4,i5,i6,i7,Holds_nil,Holds_cons,hrb0_2,hrb0_7,hrb0_8,hrb0_9,hrb0_10,hrb0_16,hra0]),0,(by simp (maxSteps:=1000000)(disch:=(first|omega|(simp only [qI,qJ,qK]<;>omega)|exact qL _)) only [go_sem,↓reduceIte,n0,reduceCtorEq,n1,n2,n3,n4,n5,i0,i1,i2,i3,i4,i5,i6,i7,hrb0_2,hrb0_7,hrb0_8,hrb0_9,hrb0_10,hrb0_16,hra0];all_goals rfl),s4,[],[],hL0⟩
  · rintro ρ w10 ⟨⟨hrc0_2,hrc0_7,hrc0_8,hrc0_9,hrc0_10,hrc0_16,hrc0_15,-⟩,j1,hri0,s5,xs0,css0,hL0⟩
    have hj0 := hL0.le
    have hq10 := hL0.rd
    have hU10 : Upd (fun b => b = vb ∨ b = rb) w1 w10 := hU8.trans' hL0.upd fun i _ h => .inr h
    have hz10 := hL0.upd.size
    have hG10 : Glo ev w10 := hG1.updS hU10 hgM1 hgM2
    by_cases hlt0 : j1 < N0
    · obtain ⟨R1,q1,B1,hva1,hNq1,hLR1,hA1,hx1_10,hnext1⟩ := hL0.row.next hlt0
      have hRl1 := blk_lt hx1_10
      generalize css0.flatten = A1 at hA1 hx1_10 hnext1
      replace hra0 : ρ 15 = .slice (some ⟨R1,0,none⟩) N0 q1 := hrc0_15.trans hva1
      have hown1 : ∀ b,ownB va0 b → w8.heap.size ≤ b ∧ b < w10.heap.size := fun b h => hL0.row.own h
      have hoM1 : ∀ b,(fun b => (ok b ∨ w1.heap.size ≤ b) ∧ ¬ ownB va0 b) b → ¬ (b = R1 ∨ b = rb) := fun b hk h => h.elim (fun e => hk.2 ⟨_,_,_,hva1,e⟩) (fun e => hoM b hk.1 (.inr e))
      obtain ⟨X10,hX10⟩ : ∃ X : Array Value,X = (A1 ++ (([.string ByteArray.empty,.slice none 0 0,.map none] : List Value) ++ B1)).toArray := ⟨_,rfl⟩
      have hxb10 : blk w10 R1 = some (X10,103,(0,0)) := by rw [hX10];exact hx1_10
      have hXs10 : j1 * 3 + 3 ≤ X10.size := by rw [hX10];simp only [List.size_toArray,List.length_append,List.length_cons,List.length_nil,hA1];omega
      repeat ((first | refine qA rfl ?_|apply qB|refine qC rfl ?_|apply qD|apply qE|apply qF|apply qG|apply qH);try simp (maxSteps:=1000000)(disch:=(first|omega|(simp only [qI,qJ,qK]<;>omega)|exact qL _)) only [go_sem,↓reduceIte,n0,reduceCtorEq,n1,n2,n3,n4,n5,i0,i1,i2,i3,i4,i5,i6,i7,hxb10,hrc0_2,hrc0_7,hrc0_8,hrc0_9,hrc0_10,hrc0_16,hra0,hri0,exitRQ_ret,exitRQ_exit,Int.toNat_natCast,Nat.mul_one])
      refine (DefaultEX2_fn w10 hx1_10 hA1).mono ?_
      rintro _ w11 ⟨hx1_11,hu11⟩
      have hq11 := And.intro (hq10.1.upd hu11 (by omega) (fun b _ hk e => by have := (hok b hk).1;omega)) (hq10.2.upd hu11 (by omega))
      have hV11 : Upd (fun b => b = R1 ∨ b = rb) w10 w11 := hu11.mono (fun _ h => .inl h)
      have hU11 : Upd (fun b => b = vb ∨ b = rb) w1 w11 := hU10.trans' hV11 fun i hi h => h.elim (fun h => by omega) .inr
      have hz11 := hV11.size
      have hG11 : Glo ev w11 := hG1.updS hU11 hgM1 hgM2
      obtain ⟨X11,hX11⟩ : ∃ X : Array Value,X = (A1 ++ (([.string ByteArray.empty,.slice none 0 0,.map none] : List Value) ++ B1)).toArray := ⟨_,rfl⟩
      have hxb11 : blk w11 R1 = some (X11,103,(0,0)) := by rw [hX11];exact hx1_11
      have hXs11 : j1 * 3 + 3 ≤ X11.size := by rw [hX11];simp only [List.size_toArray,List.length_append,List.length_cons,List.length_nil,hA1];omega
      have hbe0_0 : (rdL (rdP (d + 1) ver true) (dfP (d + 1)) ver true [fX2_0,fX2_1] s5).2 = none → FB := fun h => hlb0 (hL0.bad hlt0 rd1P_none (by show (rd1 (rdP (d + 2) ver true) 10 fs_X2 false true s5).2 = none;rw [rd1_part];exact rdP_bad h))
      have hhe0_0 : hasS fX2_0 ver = true := hasS_t (by show (0 : Int) ≤ ver;omega) (by show (-1 : Int) < 0 ∨ ver ≤ (-1 : Int);omega)
      obtain ⟨xe0_0,hxe0_0⟩ : ∃ x,x = (rdF (rdP (d + 1) ver true) ver true fX2_0 s5).1 := ⟨_,rfl⟩
      repeat ((first | refine qA rfl ?_|apply qB|refine qC rfl ?_|apply qD|apply qE|apply qF|apply qG|apply qH);try simp (maxSteps:=1000000)(disch:=(first|omega|(simp only [qI,qJ,qK]<;>omega)|exact qL _)) only [go_sem,↓reduceIte,n0,reduceCtorEq,n1,n2,n3,n4,n5,i0,i1,i2,i3,i4,i5,i6,i7,hxb11,hrc0_2,hrc0_7,hrc0_8,hrc0_9,hrc0_10,hrc0_16,hra0,hri0,exitRQ_ret,exitRQ_exit,Int.toNat_natCast,Nat.mul_one])
      have hmay : mayS fX2_0 ver = false := mayS_no (by show (-1 : Int) < 0 ∨ ver < (-1 : Int);omega)
      have hrd : rdF (rdP (d + 1) ver true) ver true fX2_0 s5 = _ := rdF_text rfl hmay
      refine (RCompactString_fn w11 hq11.1 hrok hG11.1 hgrb).mono ?_
      rintro _ w12 ⟨rfl,hq12,hu12⟩
      have hx1_12 := hu12.blk_some hx1_11 (by omega)
      have hV12 : Upd (fun b => b = R1 ∨ b = rb) w11 w12 := hu12.mono (fun _ h => .inr h)
      have hU12 : Upd (fun b => b = vb ∨ b = rb) w1 w12 := hU11.trans' hV12 fun i hi h => h.elim (fun h => by omega) .inr
      have hz12 := hV12.size
      have hG12 : Glo ev w12 := hG1.updS hU12 hgM1 hgM2
      obtain ⟨X12,hX12⟩ : ∃ X : Array Value,X = (A1 ++ (([.string ByteArray.empty,.slice none 0 0,.map none] : List Value) ++ B1)).toArray := ⟨_,rfl⟩
      have hxb12 : blk w12 R1 = some (X12,103,(0,0)) := by rw [hX12];exact hx1_12
      have hXs12 : j1 * 3 + 3 ≤ X12.size := by rw [hX12];simp only [List.size_toArray,List.length_append,List.length_cons,List.length_nil,hA1];omega
      have hst : (rdF (rdP (d + 1) ver true) ver true fX2_0 s5).2 = (rdStr true s5).2 := by first | (rw [hrd];rfl) | rw [hrd]
      obtain ⟨s6,hs6⟩ : ∃ s,s = (rdF (rdP (d + 1) ver true) ver true fX2_0 s5).2 := ⟨_,rfl⟩
      rw [← hst,← hs6] at hq12
      clear hst
      have hst12_0 : j1 * 3 + 1 ≤ X12.size := by omega
      have hld12_1 : X12[j1 * 3 + 1]? = some (.slice none 0 0) := by rw [hX12];exact el_cell (R := 0) hA1 (Nat.le_of_ble_eq_true rfl)
      repeat ((first | refine qA rfl ?_|apply qB|refine qC rfl ?_|apply qD|apply qE|apply qF|apply qG|apply qH);try simp (maxSteps:=1000000)(disch:=(first|omega|(simp only [qI,qJ,qK]<;>omega)|exact qL _)) only [go_sem,↓reduceIte,n0,reduceCtorEq,n1,n2,n3,n4,n5,i0,i1,i2,i3,i4,i5,i6,i7,hxb12,hrc0_2,hrc0_7,hrc0_8,hrc0_9,hrc0_10,hrc0_16,hra0,hri0,exitRQ_ret,exitRQ_exit,Int.toNat_natCast,Nat.mul_one,hst12_0,hld12_1,Array.getElem?_setIfInBounds_ne])
      generalize hw13 : wr w12 R1 (j1 * 3) [strV (rdStr true s5).1] = w13
      have hS13 : Upd (fun b => b = R1 ∨ b = rb) w12 w13 := by rw [← hw13];exact (Upd.refl _ _).wr _ _ (.inr (.inl rfl))
      have hx1_13 : blk w13 R1 = some ((A1 ++ (([strV (rdStr true s5).1,.slice none 0 0,.map none] : List Value) ++ B1)).toArray,103,(0,0)) := by rw [← hw13];exact el_blk0 hx1_12 hA1 (Nat.le_of_ble_eq_true rfl)
      have hV13 := hS13
      have hU13 : Upd (fun b => b = vb ∨ b = rb) w1 w13 := hU12.trans' hV13 fun i hi h => h.elim (fun h => by omega) .inr
      have hz13 := hV13.size
      have hG13 : Glo ev w13 := hG1.updS hU13 hgM1 hgM2
      have hq13 : Rdr RT ok w13 rb s6 ∧ NN w13 rb s6 := by
        have hn : ∀ x,x = w13 → (Rdr RT ok x rb s6 ∧ NN x rb s6) := fun x hx => by
          rw [hx,← hw13]
          exact Rdr.store hq12 (by omega) (fun h => by have := (hok _ h).1;first | omega | exact (hok _ h).2 rfl)
        exact hn _ rfl
      obtain ⟨X13,hX13⟩ : ∃ X : Array Value,X = (A1 ++ (([strV (rdStr true s5).1,.slice none 0 0,.map none] : List Value) ++ B1)).toArray := ⟨_,rfl⟩
      have hxb13 : blk w13 R1 = some (X13,103,(0,0)) := by rw [hX13];exact hx1_13
      have hXs13 : j1 * 3 + 3 ≤ X13.size := by rw [hX13];simp only [List.size_toArray,List.length_append,List.length_cons,List.length_nil,hA1];omega
      clear hw13
      have hfe0_0 : RepF (RepS true (d + 1)) (szS true (d + 1)) fX2_0 (fun b => (ok b ∨ w1.heap.size ≤ b) ∧ ¬ ownB va0 b) w13 (xe0_0) [strV (rdStr true s5).1] := (RepF_text rfl (by decide)).2 (by rw [hxe0_0,hrd];rfl)
      clear hrd
      have hbe0_1 : (rdL (rdP (d + 1) ver true) (dfP (d + 1)) ver true [fX2_1] s6).2 = none → FB := fun h => hbe0_0 (by rw [rdL_st (by decide) hhe0_0,← hs6];exact h)
      have hhe0_1 : hasS fX2_1 ver = true := hasS_t (by show (0 : Int) ≤ ver;omega) (by show (-1 : Int) < 0 ∨ ver ≤ (-1 : Int);omega)
      obtain ⟨xe0_1,hxe0_1⟩ : ∃ x,x = (rdF (rdP (d + 1) ver true) ver true fX2_1 s6).1 := ⟨_,rfl⟩
      have hld13_1 : X13[j1 * 3 + 1]? = some (.slice none 0 0) := by rw [hX13];exact el_cell (R := 0) hA1 (Nat.le_of_ble_eq_true rfl)
      repeat ((first | refine qA rfl ?_|apply qB|refine qC rfl ?_|apply qD|apply qE|apply qF|apply qG|apply qH);try simp (maxSteps:=1000000)(disch:=(first|omega|(simp only [qI,qJ,qK]<;>omega)|exact qL _)) only [go_sem,↓reduceIte,n0,reduceCtorEq,n1,n2,n3,n4,n5,i0,i1,i2,i3,i4,i5,i6,i7,hxb13,hrc0_2,hrc0_7,hrc0_8,hrc0_9,hrc0_10,hrc0_16,hra0,hri0,exitRQ_ret,exitRQ_exit,Int.toNat_natCast,Nat.mul_one,hld13_1])
      refine (RCompactArrayLen_fn w13 hq13.1 hrok hG13.1 hgrb).mono ?_
      rintro _ w14 ⟨rfl,hq14,hu14⟩
      have hx1_14 := hu14.blk_some hx1_13 (by omega)
      have hV14 : Upd (fun b => b = R1 ∨ b = rb) w13 w14 := hu14.mono (fun _ h => .inr h)
      have hU14 : Upd (fun b => b = vb ∨ b = rb) w1 w14 := hU13.trans' hV14 fun i hi h => h.elim (fun h => by omega) .inr
      have hz14 := hV14.size
      have hG14 : Glo ev w14 := hG1.updS hU14 hgM1 hgM2
      obtain ⟨X14,hX14⟩ : ∃ X : Array Value,X = (A1 ++ (([strV (rdStr true s5).1,.slice none 0 0,.map none] : List Value) ++ B1)).toArray := ⟨_,rfl⟩
      have hxb14 : blk w14 R1 = some (X14,103,(0,0)) := by rw [hX14];exact hx1_14
      have hXs14 : j1 * 3 + 3 ≤ X14.size := by rw [hX14];simp only [List.size_toArray,List.length_append,List.length_cons,List.length_nil,hA1];omega
      obtain ⟨s7,hs7⟩ : ∃ s,s = (rdALen true s6).2 := ⟨_,rfl⟩
      rw [← hs7] at hq14
      have hyr1 := rdALen_rng true s6
      generalize hy1 : (rdALen true s6).1 = y1 at *
      obtain ⟨N1,hN1⟩ : ∃ N,N = y1.toNat := ⟨_,rfl⟩
      have hlb1 : (rdMany (rd1 (rdP (d + 1) ver true) fX2_1.of fX2_1.sub false true) N1 s7).2 = none → FB := fun h => hbe0_1 (by rw [rdL_st (by decide) hhe0_1];exact rdL_bad (rdF_listbad rfl (by rw [hy1,← hN1,← hs7];exact h)))
      repeat ((first | refine W.seqR rfl ?_ | refine W.seq ?_ | refine W.regR rfl ?_ | refine W.block ?_ | refine W.skip ?_ | refine W.ret ?_ | refine W.exit ?_);try simp (maxSteps:=1000000)(disch:=(first|omega|(simp only [qI,qJ,qK]<;>omega)|exact qL _)) only [go_sem,↓reduceIte,n0,reduceCtorEq,n1,n2,n3,n4,n5,i0,i1,i2,i3,i4,i5,i6,i7,hxb14,hrc0_2,hrc0_7,hrc0_8,hrc0_9,hrc0_10,hrc0_16,hra0,hri0,exitRQ_ret,exitRQ_exit,Int.toNat_natCast,Nat.mul_one])
      refine (ROk_fn w14 hq14.1).mono ?_
      rintro _ wz ⟨rfl,hez⟩
      rw [hez]
      clear hez wz
      by_cases hsn1 : s7 = none
      · have hso : s7.isSome = false := by rw [hsn1];rfl
        repeat (first|simp (maxSteps:=1000000)(disch:=(first|omega|(simp only [qI,qJ,qK]<;>omega)|exact qL _)) only [go_sem,↓reduceIte,n0,reduceCtorEq,n1,n2,n3,n4,n5,i0,i1,i2,i3,i4,i5,i6,i7,hxb14,hrc0_2,hrc0_7,hrc0_8,hrc0_9,hrc0_10,hrc0_16,hra0,hri0,exitRQ_ret,exitRQ_exit,Int.toNat_natCast,Nat.mul_one,hso]|refine qA rfl ?_|apply qB|refine qC rfl ?_|apply qD|apply qE|apply qF|apply qG|apply qH)
        refine (RComplete_fn w14 hq14.1 hG14.2).mono ?_
        rintro _ wz ⟨rfl,hez⟩
        rw [hez]
        repeat (first|simp (maxSteps:=1000000)(disch:=(first|omega|(simp only [qI,qJ,qK]<;>omega)|exact qL _)) only [go_sem,↓reduceIte,n0,reduceCtorEq,n1,n2,n3,n4,n5,i0,i1,i2,i3,i4,i5,i6,i7,hxb14,hrc0_2,hrc0_7,hrc0_8,hrc0_9,hrc0_10,hrc0_16,hra0,hri0,exitRQ_ret,exitRQ_exit,Int.toNat_natCast,Nat.mul_one]|refine qA rfl ?_|apply qB|refine qC rfl ?_|apply qD|apply qE|apply qF|apply qG|apply qH)
        rw [errV_none hsn1]
        exact ReadQ.bad (Eq.mp hFB (hlb1 (by rw [hsn1];exact rdMany_none rd1P_none _))) (hbase.trans' hU14 fun i hi h => h.elim id fun h => by omega)
      have hso1 : s7.isSome = true := isSome_some hsn1
      try simp (maxSteps:=1000000)(disch:=(first|omega|(simp only [qI,qJ,qK]<;>omega)|exact qL _)) only [go_sem,↓reduceIte,n0,reduceCtorEq,n1,n2,n3,n4,n5,i0,i1,i2,i3,i4,i5,i6,i7,hxb14,hrc0_2,hrc0_7,hrc0_8,hrc0_9,hrc0_10,hrc0_16,hra0,hri0,exitRQ_ret,exitRQ_exit,Int.toNat_natCast,Nat.mul_one,hso1]
      repeat ((first | refine W.seqR rfl ?_ | refine W.seq ?_ | refine W.regR rfl ?_ | refine W.block ?_ | refine W.skip ?_ | refine W.ret ?_ | refine W.exit ?_);try simp (maxSteps:=1000000)(disch:=(first|omega|(simp only [qI,qJ,qK]<;>omega)|exact qL _)) only [go_sem,↓reduceIte,n0,reduceCtorEq,n1,n2,n3,n4,n5,i0,i1,i2,i3,i4,i5,i6,i7,hxb14,hrc0_2,hrc0_7,hrc0_8,hrc0_9,hrc0_10,hrc0_16,hra0,hri0,exitRQ_ret,exitRQ_exit,Int.toNat_natCast,Nat.mul_one,hso1])
      refine W.condK ?_
      try simp (maxSteps:=1000000)(disch:=(first|omega|(simp only [qI,qJ,qK]<;>omega)|exact qL _)) only [go_sem,↓reduceIte,n0,reduceCtorEq,n1,n2,n3,n4,n5,i0,i1,i2,i3,i4,i5,i6,i7,hxb14,hrc0_2,hrc0_7,hrc0_8,hrc0_9,hrc0_10,hrc0_16,hra0,hri0,exitRQ_ret,exitRQ_exit,Int.toNat_natCast,Nat.mul_one,hso1]
      repeat ((first | refine W.seqR rfl ?_ | refine W.seq ?_ | refine W.regR rfl ?_ | refine W.block ?_ | refine W.skip ?_ | refine W.ret ?_ | refine W.exit ?_);try simp (maxSteps:=1000000)(disch:=(first|omega|(simp only [qI,qJ,qK]<;>omega)|exact qL _)) only [go_sem,↓reduceIte,n0,reduceCtorEq,n1,n2,n3,n4,n5,i0,i1,i2,i3,i4,i5,i6,i7,hxb14,hrc0_2,hrc0_7,hrc0_8,hrc0_9,hrc0_10,hrc0_16,hra0,hri0,exitRQ_ret,exitRQ_exit,Int.toNat_natCast,Nat.mul_one,hso1,slBase_00])
      refine W.normJ (RowQ [(2,.bool false),(7,.pointer (some ⟨rb,0,none⟩)),(8,.int .i16 ver),(9,.bool true),(10,.pointer (some ⟨vb,0,none⟩)),(16,.int .i32 y0),(15,.slice (some ⟨R1,0,none⟩) N0 q1),(17,.int .i32 j1),(19,.pointer (some ⟨R1,j1 * 3,none⟩)),(23,.int .i32 y1)] 22 (fun va w' => LstI RT (rd1 (rdP (d + 1) ver true) fX2_1.of fX2_1.sub false true) (Rep1 (RepS true (d + 1)) fX2_1.of fX2_1.sub) 1 21 [.int .i32 0] w14.heap.size N1 ok (fun b => (ok b ∨ w1.heap.size ≤ b) ∧ ¬ ownB va0 b) rb w14 s7 va 0 s7 [] [] w' ∧ (N1 = 0 → if nilS fX2_1 ver y1 = true then va = .slice none 0 0 else ∃ a,va = .slice (some a) 0 0))) ?_ ?_
      · by_cases hy0 : (0 : Int) < y1
        · have hyv : Value.int .i32 y1 = .int .i32 ((N1 : Nat) : Int) := by rw [show y1 = ((N1 : Nat) : Int) by omega]
          repeat ((first | refine qA rfl ?_|apply qB|refine qC rfl ?_|apply qD|apply qE|apply qF|apply qG|apply qH);try simp (maxSteps:=1000000)(disch:=(first|omega|(simp only [qI,qJ,qK]<;>omega)|exact qL _)) only [go_sem,↓reduceIte,n0,reduceCtorEq,n1,n2,n3,n4,n5,i0,i1,i2,i3,i4,i5,i6,i7,hxb14,hrc0_2,hrc0_7,hrc0_8,hrc0_9,hrc0_10,hrc0_16,hra0,hri0,exitRQ_ret,exitRQ_exit,Int.toNat_natCast,Nat.mul_one])
          refine wp_appendZ (m := N1) utQ_101 utQ_21 inQ_21 (by decide) (by first | rfl | simp (maxSteps:=1000000)(disch:=(first|omega|(simp only [qI,qJ,qK]<;>omega)|exact qL _)) only [go_sem,↓reduceIte,n0,reduceCtorEq,n1,n2,n3,n4,n5,i0,i1,i2,i3,i4,i5,i6,i7,hrc0_2,hrc0_7,hrc0_8,hrc0_9,hrc0_10,hrc0_16,hra0,hri0]) (by first | exact hyv | (simp (maxSteps:=1000000)(disch:=(first|omega|(simp only [qI,qJ,qK]<;>omega)|exact qL _)) only [go_sem,↓reduceIte,n0,reduceCtorEq,n1,n2,n3,n4,n5,i0,i1,i2,i3,i4,i5,i6,i7,hrc0_2,hrc0_7,hrc0_8,hrc0_9,hrc0_10,hrc0_16,hra0,hri0];exact hyv)) (by omega) (by omega) (by decide) ?_
          intro q rest hq1
          have hEw : Ext w14 (w14.drew.alloc (.cells (zs [.int .i32 0] N1 ++ rest).toArray 21)) := (Upd.refl _ _).drew.alloc _
          repeat (first|simp (maxSteps:=1000000)(disch:=(first|omega|(simp only [qI,qJ,qK]<;>omega)|exact qL _)) only [go_sem,↓reduceIte,n0,reduceCtorEq,n1,n2,n3,n4,n5,i0,i1,i2,i3,i4,i5,i6,i7,hxb14,hrc0_2,hrc0_7,hrc0_8,hrc0_9,hrc0_10,hrc0_16,hra0,hri0,exitRQ_ret,exitRQ_exit,Int.toNat_natCast,Nat.mul_one]|refine qA rfl ?_|apply qB|refine qC rfl ?_|apply qD|apply qE|apply qF|apply qG|apply qH)
          exact ⟨(by simp (maxSteps:=1000000)(disch:=(first|omega|(simp only [qI,qJ,qK]<;>omega)|exact qL _)) only [go_sem,↓reduceIte,n0,reduceCtorEq,n1,n2,n3,n4,n5,i0,i1,i2,i3,i4,i5,i6,i7,Holds_nil,Holds_cons,hrc0_2,hrc0_7,hrc0_8,hrc0_9,hrc0_10,hrc0_16,hra0,hri0]),.slice (some ⟨w14.heap.size,0,none⟩) N1 q,(by simp (maxSteps:=1000000)(disch:=(first|omega|(simp only [qI,qJ,qK]<;>omega)|exact qL _)) only [go_sem,↓reduceIte,n0,reduceCtorEq,n1,n2,n3,n4,n5,i0,i1,i2,i3,i4,i5,i6,i7,hrc0_2,hrc0_7,hrc0_8,hrc0_9,hrc0_10,hrc0_16,hra0,hri0]),LstI.start (RowJ.start (by omega) hq1 (by show w14.heap.size ≤ w14.drew.heap.size;rw [size_drew];omega) (blk_alloc_new rfl)) ⟨hq14.1.upd hEw (fun h => h) (fun _ _ _ h => h),hq14.2.upd hEw fun h => h⟩ (hEw.mono fun _ h => h.elim),fun h0 => by omega⟩
        · repeat ((first | refine qA rfl ?_|apply qB|refine qC rfl ?_|apply qD|apply qE|apply qF|apply qG|apply qH);try simp (maxSteps:=1000000)(disch:=(first|omega|(simp only [qI,qJ,qK]<;>omega)|exact qL _)) only [go_sem,↓reduceIte,n0,reduceCtorEq,n1,n2,n3,n4,n5,i0,i1,i2,i3,i4,i5,i6,i7,hxb14,hrc0_2,hrc0_7,hrc0_8,hrc0_9,hrc0_10,hrc0_16,hra0,hri0,exitRQ_ret,exitRQ_exit,Int.toNat_natCast,Nat.mul_one])
          exact ⟨(by simp (maxSteps:=1000000)(disch:=(first|omega|(simp only [qI,qJ,qK]<;>omega)|exact qL _)) only [go_sem,↓reduceIte,n0,reduceCtorEq,n1,n2,n3,n4,n5,i0,i1,i2,i3,i4,i5,i6,i7,Holds_nil,Holds_cons,hrc0_2,hrc0_7,hrc0_8,hrc0_9,hrc0_10,hrc0_16,hra0,hri0]),.slice none 0 0,(by simp (maxSteps:=1000000)(disch:=(first|omega|(simp only [qI,qJ,qK]<;>omega)|exact qL _)) only [go_sem,↓reduceIte,n0,reduceCtorEq,n1,n2,n3,n4,n5,i0,i1,i2,i3,i4,i5,i6,i7,hrc0_2,hrc0_7,hrc0_8,hrc0_9,hrc0_10,hrc0_16,hra0,hri0,slBase_00]),LstI.start (RowJ.zero (by omega) (fun _ h => by cases h)) hq14 (Upd.refl _ _),fun _ => by rw [nilS_plain (by decide) (by omega)];exact rfl⟩
      rintro ρ w15 ⟨⟨hrb1_2,hrb1_7,hrb1_8,hrb1_9,hrb1_10,hrb1_16,hrb1_15,hrb1_17,hrb1_19,hrb1_23,-⟩,va1,hra1,hL1,hnc1⟩
      repeat ((first | refine qA rfl ?_|apply qB|refine qC rfl ?_|apply qD|apply qE|apply qF|apply qG|apply qH);try simp (maxSteps:=1000000)(disch:=(first|omega|(simp only [qI,qJ,qK]<;>omega)|exact qL _)) only [go_sem,↓reduceIte,n0,reduceCtorEq,n1,n2,n3,n4,n5,i0,i1,i2,i3,i4,i5,i6,i7,hxb14,hrb1_2,hrb1_7,hrb1_8,hrb1_9,hrb1_10,hrb1_16,hrb1_15,hrb1_17,hrb1_19,hrb1_23,hra1,exitRQ_ret,exitRQ_exit,Int.toNat_natCast,Nat.mul_one])
      refine W.exitRJ 2 (EndQ [(2,.bool false),(7,.pointer (some ⟨rb,0,none⟩)),(8,.int .i16 ver),(9,.bool true),(10,.pointer (some ⟨vb,0,none⟩)),(16,.int .i32 y0),(15,.slice (some ⟨R1,0,none⟩) N0 q1),(17,.int .i32 j1),(19,.pointer (some ⟨R1,j1 * 3,none⟩)),(23,.int .i32 y1),(22,va1)] (fun w' => ∃ s xs css,LstI RT (rd1 (rdP (d + 1) ver true) fX2_1.of fX2_1.sub false true) (Rep1 (RepS true (d + 1)) fX2_1.of fX2_1.sub) 1 21 [.int .i32 0] w14.heap.size N1 ok (fun b => (ok b ∨ w1.heap.size ≤ b) ∧ ¬ ownB va0 b) rb w14 s7 va1 N1 s xs css w')) (W.loop (LoopQ [(2,.bool false),(7,.pointer (some ⟨rb,0,none⟩)),(8,.int .i16 ver),(9,.bool true),(10,.pointer (some ⟨vb,0,none⟩)),(16,.int .i32 y0),(15,.slice (some ⟨R1,0,none⟩) N0 q1),(17,.int .i32 j1),(19,.pointer (some ⟨R1,j1 * 3,none⟩)),(23,.int .i32 y1),(22,va1)] 24 (fun j w' => ∃ s xs css,LstI RT (rd1 (rdP (d + 1) ver true) fX2_1.of fX2_1.sub false true) (Rep1 (RepS true (d + 1)) fX2_1.of fX2_1.sub) 1 21 [.int .i32 0] w14.heap.size N1 ok (fun b => (ok b ∨ w1.heap.size ≤ b) ∧ ¬ ownB va0 b) rb w14 s7 va1 j s xs css w')) (fun ρ _ => N1 - (RowKit.intOf (ρ 24)).toNat) ?_ ?_) ?_
      · exact ⟨(by simp (maxSteps:=1000000)(disch:=(first|omega|(simp only [qI,qJ,qK]<;>omega)|exact qL _)) only [go_sem,↓reduceIte,n0,reduceCtorEq,n1,n2,n3,n4,n5,i0,i1,i2,i3,i4,i5,i6,i7,Holds_nil,Holds_cons,hrb1_2,hrb1_7,hrb1_8,hrb1_9,hrb1_10,hrb1_16,hrb1_15,hrb1_17,hrb1_19,hrb1_23,hra1]),0,(by simp (maxSteps:=1000000)(disch:=(first|omega|(simp only [qI,qJ,qK]<;>omega)|exact qL _)) only [go_sem,↓reduceIte,n0,reduceCtorEq,n1,n2,n3,n4,n5,i0,i1,i2,i3,i4,i5,i6,i7,hrb1_2,hrb1_7,hrb1_8,hrb1_9,hrb1_10,hrb1_16,hrb1_15,hrb1_17,hrb1_19,hrb1_23,hra1];all_goals rfl),s7,[],[],hL1⟩
      · rintro ρ w16 ⟨⟨hrc1_2,hrc1_7,hrc1_8,hrc1_9,hrc1_10,hrc1_16,hrc1_15,hrc1_17,hrc1_19,hrc1_23,hrc1_22,-⟩,j2,hri1,s8,xs1,css1,hL1⟩
        have hj1 := hL1.le
        have hq16 := hL1.rd
        have hU16 : Upd (fun b => b = vb ∨ b = rb) w1 w16 := hU14.trans' hL1.upd fun i _ h => .inr h
        have hz16 := hL1.upd.size
        have hG16 : Glo ev w16 := hG1.updS hU16 hgM1 hgM2
        by_cases hlt1 : j2 < N1
        · obtain ⟨R2,q2,B2,hva2,hNq2,hLR2,hA2,hx2_16,hnext2⟩ := hL1.row.next hlt1
          have hRl2 := blk_lt hx2_16
          generalize css1.flatten = A2 at hA2 hx2_16 hnext2
          rw [Nat.mul_one] at hA2
          replace hra1 : ρ 22 = .slice (some ⟨R2,0,none⟩) N1 q2 := hrc1_22.trans hva2
          have hown2 : ∀ b,ownB va1 b → w14.heap.size ≤ b ∧ b < w16.heap.size := fun b h => hL1.row.own h
          have hoM2 : ∀ b,(fun b => (fun b => (ok b ∨ w1.heap.size ≤ b) ∧ ¬ ownB va0 b) b ∧ ¬ ownB va1 b) b → ¬ (b = R2 ∨ b = rb) := fun b hk h => h.elim (fun e => hk.2 ⟨_,_,_,hva2,e⟩) (fun e => hoM1 b hk.1 (.inr e))
          obtain ⟨X16,hX16⟩ : ∃ X : Array Value,X = (A2 ++ (([.int .i32 0] : List Value) ++ B2)).toArray := ⟨_,rfl⟩
          have hxb16 : blk w16 R2 = some (X16,21,(0,0)) := by rw [hX16];exact hx2_16
          have hXs16 : j2 + 1 ≤ X16.size := by rw [hX16];simp only [List.size_toArray,List.length_append,List.length_cons,List.length_nil,hA2];omega
          repeat ((first | refine qA rfl ?_|apply qB|refine qC rfl ?_|apply qD|apply qE|apply qF|apply qG|apply qH);try simp (maxSteps:=1000000)(disch:=(first|omega|(simp only [qI,qJ,qK]<;>omega)|exact qL _)) only [go_sem,↓reduceIte,n0,reduceCtorEq,n1,n2,n3,n4,n5,i0,i1,i2,i3,i4,i5,i6,i7,hxb16,hrc1_2,hrc1_7,hrc1_8,hrc1_9,hrc1_10,hrc1_16,hrc1_15,hrc1_17,hrc1_19,hrc1_23,hra1,hri1,exitRQ_ret,exitRQ_exit,Int.toNat_natCast,Nat.mul_one])
          refine (Int32_fn w16 hq16.1 hrok hG16.1 hgrb).mono ?_
          rintro _ w17 ⟨rfl,hq17,hu17⟩
          have hx2_17 := hu17.blk_some hx2_16 (by omega)
          have hV17 : Upd (fun b => b = R2 ∨ b = rb) w16 w17 := hu17.mono (fun _ h => .inr h)
          have hU17 : Upd (fun b => b = vb ∨ b = rb) w1 w17 := hU16.trans' hV17 fun i hi h => h.elim (fun h => by omega) .inr
          have hz17 := hV17.size
          have hG17 : Glo ev w17 := hG1.updS hU17 hgM1 hgM2
          obtain ⟨X17,hX17⟩ : ∃ X : Array Value,X = (A2 ++ (([.int .i32 0] : List Value) ++ B2)).toArray := ⟨_,rfl⟩
          have hxb17 : blk w17 R2 = some (X17,21,(0,0)) := by rw [hX17];exact hx2_17
          have hXs17 : j2 + 1 ≤ X17.size := by rw [hX17];simp only [List.size_toArray,List.length_append,List.length_cons,List.length_nil,hA2];omega
          obtain ⟨s9,hs9⟩ : ∃ s,s = (rdInt .i32 4 s8).2 := ⟨_,rfl⟩
          rw [← hs9] at hq17
          have hrE : (rd1 (rdP (d + 1) ver true) fX2_1.of fX2_1.sub false true) s8 = ((.num (rdInt .i32 4 s8).1),s9) := by rw [hs9];exact rd1_num 3 (by decide)
          have hst17_0 : j2 + 1 ≤ X17.size := by omega
          repeat ((first | refine qA rfl ?_|apply qB|refine qC rfl ?_|apply qD|apply qE|apply qF|apply qG|apply qH);try simp (maxSteps:=1000000)(disch:=(first|omega|(simp only [qI,qJ,qK]<;>omega)|exact qL _)) only [go_sem,↓reduceIte,n0,reduceCtorEq,n1,n2,n3,n4,n5,i0,i1,i2,i3,i4,i5,i6,i7,hxb17,hrc1_2,hrc1_7,hrc1_8,hrc1_9,hrc1_10,hrc1_16,hrc1_15,hrc1_17,hrc1_19,hrc1_23,hra1,hri1,exitRQ_ret,exitRQ_exit,Int.toNat_natCast,Nat.mul_one,hst17_0])
          generalize hw18 : wr w17 R2 (j2) [.int .i32 (rdInt .i32 4 s8).1] = w18
          have hS18 : Upd (fun b => b = R2 ∨ b = rb) w17 w18 := by rw [← hw18];exact (Upd.refl _ _).wr _ _ (.inr (.inl rfl))
          have hx2_18 : blk w18 R2 = some ((A2 ++ (([.int .i32 (rdInt .i32 4 s8).1] : List Value) ++ B2)).toArray,21,(0,0)) := by rw [← hw18];exact el_blk0 hx2_17 hA2 (Nat.le_of_ble_eq_true rfl)
          have hV18 := hS18
          have hU18 : Upd (fun b => b = vb ∨ b = rb) w1 w18 := hU17.trans' hV18 fun i hi h => h.elim (fun h => by omega) .inr
          have hz18 := hV18.size
          have hG18 : Glo ev w18 := hG1.updS hU18 hgM1 hgM2
          have hq18 : Rdr RT ok w18 rb s9 ∧ NN w18 rb s9 := by
            have hn : ∀ x,x = w18 → (Rdr RT ok x rb s9 ∧ NN x rb s9) := fun x hx => by
              rw [hx,← hw18]
              exact Rdr.store hq17 (by omega) (fun h => by have := (hok _ h).1;first | omega | exact (hok _ h).2 rfl)
            exact hn _ rfl
          obtain ⟨X18,hX18⟩ : ∃ X : Array Value,X = (A2 ++ (([.int .i32 (rdInt .i32 4 s8).1] : List Value) ++ B2)).toArray := ⟨_,rfl⟩
          have hxb18 : blk w18 R2 = some (X18,21,(0,0)) := by rw [hX18];exact hx2_18
          have hXs18 : j2 + 1 ≤ X18.size := by rw [hX18];simp only [List.size_toArray,List.length_append,List.length_cons,List.length_nil,hA2];omega
          clear hw18
          have hxE : (Rep1 (RepS true (d + 1)) fX2_1.of fX2_1.sub) (fun b => (fun b => (ok b ∨ w1.heap.size ≤ b) ∧ ¬ ownB va0 b) b ∧ ¬ ownB va1 b) w18 (.num (rdInt .i32 4 s8).1) [.int .i32 (rdInt .i32 4 s8).1] := (Rep1_num (by decide)).2 (congrArg (fun x => [x]) (numC_rd 3 (by decide) 4 s8).symm)
          repeat ((first | refine qA rfl ?_|apply qB|refine qC rfl ?_|apply qD|apply qE|apply qF|apply qG|apply qH);try simp (maxSteps:=1000000)(disch:=(first|omega|(simp only [qI,qJ,qK]<;>omega)|exact qL _)) only [go_sem,↓reduceIte,n0,reduceCtorEq,n1,n2,n3,n4,n5,i0,i1,i2,i3,i4,i5,i6,i7,hxb18,hrc1_2,hrc1_7,hrc1_8,hrc1_9,hrc1_10,hrc1_16,hrc1_15,hrc1_17,hrc1_19,hrc1_23,hra1,hri1,exitRQ_ret,exitRQ_exit,Int.toNat_natCast,Nat.mul_one])
          have hTk : Upd (fun b => b = R2 ∨ b = rb) w16 w18 := (hV17.trans hV18)
          have hL' := hL1.step (Rep1_lay _ _ fun _ => RepS_lay true _ _) hlt1 (hnext2 w18 [.int .i32 (rdInt .i32 4 s8).1] rfl hx2_18) (by rw [hrE];exact hxE) (hTk.mono fun b h => h.imp (fun e => ⟨_,_,_,hva2,e⟩) id) (by rw [hrE];exact hq18) (fun h => hoM1 rb h (.inr rfl)) (Nat.le_refl _)
          have hij : IntKind.i32.wrap ((j2 : Int) + 1) = ((j2 + 1 : Nat) : Int) := by rw [i32_wrap (by omega)];omega
          repeat ((first | refine qA rfl ?_|apply qB|refine qC rfl ?_|apply qD|apply qE|apply qF|apply qG|apply qH);try simp (maxSteps:=1000000)(disch:=(first|omega|(simp only [qI,qJ,qK]<;>omega)|exact qL _)) only [go_sem,↓reduceIte,n0,reduceCtorEq,n1,n2,n3,n4,n5,i0,i1,i2,i3,i4,i5,i6,i7,hxb18,hrc1_2,hrc1_7,hrc1_8,hrc1_9,hrc1_10,hrc1_16,hrc1_15,hrc1_17,hrc1_19,hrc1_23,hra1,hri1,exitRQ_ret,exitRQ_exit,Int.toNat_natCast,Nat.mul_one,hij])
          refine ⟨⟨(by simp (maxSteps:=1000000)(disch:=(first|omega|(simp only [qI,qJ,qK]<;>omega)|exact qL _)) only [go_sem,↓reduceIte,n0,reduceCtorEq,n1,n2,n3,n4,n5,i0,i1,i2,i3,i4,i5,i6,i7,Holds_nil,Holds_cons,hrc1_2,hrc1_7,hrc1_8,hrc1_9,hrc1_10,hrc1_16,hrc1_15,hrc1_17,hrc1_19,hrc1_23,hra1,hri1];exact hva2.symm),j2 + 1,(by simp (maxSteps:=1000000)(disch:=(first|omega|(simp only [qI,qJ,qK]<;>omega)|exact qL _)) only [go_sem,↓reduceIte,n0,reduceCtorEq,n1,n2,n3,n4,n5,i0,i1,i2,i3,i4,i5,i6,i7,hrc1_2,hrc1_7,hrc1_8,hrc1_9,hrc1_10,hrc1_16,hrc1_15,hrc1_17,hrc1_19,hrc1_23,hra1,hri1,hij];all_goals rfl),_,_,_,hL'⟩,?_⟩
          try simp (maxSteps:=1000000)(disch:=(first|omega|(simp only [qI,qJ,qK]<;>omega)|exact qL _)) only [go_sem,↓reduceIte,n0,reduceCtorEq,n1,n2,n3,n4,n5,i0,i1,i2,i3,i4,i5,i6,i7,hrc1_2,hrc1_7,hrc1_8,hrc1_9,hrc1_10,hrc1_16,hrc1_15,hrc1_17,hrc1_19,hrc1_23,hra1,hri1]
          simp only [RowKit.intOf]
          omega
        · have hjN : j2 = N1 := by omega
          rw [hjN] at hL1
          repeat ((first | refine qA rfl ?_|apply qB|refine qC rfl ?_|apply qD|apply qE|apply qF|apply qG|apply qH);try simp (maxSteps:=1000000)(disch:=(first|omega|(simp only [qI,qJ,qK]<;>omega)|exact qL _)) only [go_sem,↓reduceIte,n0,reduceCtorEq,n1,n2,n3,n4,n5,i0,i1,i2,i3,i4,i5,i6,i7,hrc1_2,hrc1_7,hrc1_8,hrc1_9,hrc1_10,hrc1_16,hrc1_15,hrc1_17,hrc1_19,hrc1_23,hrc1_22,hri1,exitRQ_ret,exitRQ_exit])
          exact ⟨(by simp (maxSteps:=1000000)(disch:=(first|omega|(simp only [qI,qJ,qK]<;>omega)|exact qL _)) only [go_sem,↓reduceIte,n0,reduceCtorEq,n1,n2,n3,n4,n5,i0,i1,i2,i3,i4,i5,i6,i7,Holds_nil,Holds_cons,hrc1_2,hrc1_7,hrc1_8,hrc1_9,hrc1_10,hrc1_16,hrc1_15,hrc1_17,hrc1_19,hrc1_23,hrc1_22,hri1]),s8,xs1,css1,hL1⟩
      rintro ρ w19 ⟨⟨hrd1_2,hrd1_7,hrd1_8,hrd1_9,hrd1_10,hrd1_16,hrd1_15,hrd1_17,hrd1_19,hrd1_23,hrd1_22,-⟩,s10,xs1,css1,hL1⟩
      have hq19 := hL1.rd
      have hu19 := hL1.upd
      have hx1_19 := hu19.blk_some hx1_14 (by omega)
      have hV19 : Upd (fun b => b = R1 ∨ b = rb) w14 w19 := hu19.mono (fun _ h => .inr h)
      have hU19 : Upd (fun b => b = vb ∨ b = rb) w1 w19 := hU14.trans' hV19 fun i hi h => h.elim (fun h => by omega) .inr
      have hz19 := hV19.size
      have hG19 : Glo ev w19 := hG1.updS hU19 hgM1 hgM2
      obtain ⟨X19,hX19⟩ : ∃ X : Array Value,X = (A1 ++ (([strV (rdStr true s5).1,.slice none 0 0,.map none] : List Value) ++ B1)).toArray := ⟨_,rfl⟩
      have hxb19 : blk w19 R1 = some (X19,103,(0,0)) := by rw [hX19];exact hx1_19
      have hXs19 : j1 * 3 + 3 ≤ X19.size := by rw [hX19];simp only [List.size_toArray,List.length_append,List.length_cons,List.length_nil,hA1];omega
      have hrd1 : rdF (rdP (d + 1) ver true) ver true fX2_1 s6 = (.mk 0 [] (nilS fX2_1 ver y1) xs1 [],s10) := by
        have h := rdF_listE (pt := (rdP (d + 1) ver true)) (v := ver) (flex := true) (f := fX2_1) (s := s6) (xs := xs1) (e := s10) rfl (by rw [hy1,← hN1,← hs7];exact hL1.done)
        rw [hy1] at h;exact h
      have hs10 : s10 = (rdF (rdP (d + 1) ver true) ver true fX2_1 s6).2 := by rw [hrd1]
      obtain ⟨aa1,qq1,hvs1⟩ := hL1.row.shape
      subst hvs1
      have hst19_1 : j1 * 3 + 2 ≤ X19.size := by omega
      repeat ((first | refine qA rfl ?_|apply qB|refine qC rfl ?_|apply qD|apply qE|apply qF|apply qG|apply qH);try simp (maxSteps:=1000000)(disch:=(first|omega|(simp only [qI,qJ,qK]<;>omega)|exact qL _)) only [go_sem,↓reduceIte,n0,reduceCtorEq,n1,n2,n3,n4,n5,i0,i1,i2,i3,i4,i5,i6,i7,hxb19,hrd1_2,hrd1_7,hrd1_8,hrd1_9,hrd1_10,hrd1_16,hrd1_15,hrd1_17,hrd1_19,hrd1_23,hrd1_22,exitRQ_ret,exitRQ_exit,Int.toNat_natCast,Nat.mul_one,hst19_1])
      generalize hw20 : wr w19 R1 (j1 * 3 + 1) [.slice aa1 N1 qq1] = w20
      have hS20 : Upd (fun b => b = R1 ∨ b = rb) w19 w20 := by rw [← hw20];exact (Upd.refl _ _).wr _ _ (.inr (.inl rfl))
      have hx1_20 : blk w20 R1 = some ((A1 ++ (([strV (rdStr true s5).1,.slice aa1 N1 qq1,.map none] : List Value) ++ B1)).toArray,103,(0,0)) := by rw [← hw20];exact el_blk (o := 1) hx1_19 hA1 (Nat.le_of_ble_eq_true rfl)
      have hV20 := hS20
      have hU20 : Upd (fun b => b = vb ∨ b = rb) w1 w20 := hU19.trans' hV20 fun i hi h => h.elim (fun h => by omega) .inr
      have hz20 := hV20.size
      have hG20 : Glo ev w20 := hG1.updS hU20 hgM1 hgM2
      have hq20 : Rdr RT ok w20 rb s10 ∧ NN w20 rb s10 := by
        have hn : ∀ x,x = w20 → (Rdr RT ok x rb s10 ∧ NN x rb s10) := fun x hx => by
          rw [hx,← hw20]
          exact Rdr.store hq19 (by omega) (fun h => by have := (hok _ h).1;first | omega | exact (hok _ h).2 rfl)
        exact hn _ rfl
      obtain ⟨X20,hX20⟩ : ∃ X : Array Value,X = (A1 ++ (([strV (rdStr true s5).1,.slice aa1 N1 qq1,.map none] : List Value) ++ B1)).toArray := ⟨_,rfl⟩
      have hxb20 : blk w20 R1 = some (X20,103,(0,0)) := by rw [hX20];exact hx1_20
      have hXs20 : j1 * 3 + 3 ≤ X20.size := by rw [hX20];simp only [List.size_toArray,List.length_append,List.length_cons,List.length_nil,hA1];omega
      clear hw20
      have hfe0_1 : RepF (RepS true (d + 1)) (szS true (d + 1)) fX2_1 (fun b => (ok b ∨ w1.heap.size ≤ b) ∧ ¬ ownB va0 b) w20 (xe0_1) [.slice aa1 N1 qq1] := by rw [hxe0_1,hrd1];exact RepF.keepS (RepF_row rfl hnc1 hN1 rfl hL1.row hL1.all (fun b hb => ⟨.inr (by omega),fun ho => by have := (hown1 _ ho).2;omega⟩)) (hV20.keeps fun b _ hk e => hoM1 b hk e)
      clear hL1 hnc1
      have hle0_2 : rdL (rdP (d + 1) ver true) (dfP (d + 1)) ver true [] s10 = ([],s10) := rfl
      have hle0_1 : rdL (rdP (d + 1) ver true) (dfP (d + 1)) ver true [fX2_1] s6 = ([xe0_1],s10) := by rw [rdL_st (by decide) hhe0_1,← hxe0_1,← hs10,hle0_2]
      have hle0_0 : rdL (rdP (d + 1) ver true) (dfP (d + 1)) ver true [fX2_0,fX2_1] s5 = ([xe0_0,xe0_1],s10) := by rw [rdL_st (by decide) hhe0_0,← hxe0_0,← hs6,hle0_1]
      have hfine0 : rdP (d + 2) ver true fs_X2 s5 = (.mk 0 [] false [xe0_0,xe0_1] (rdTags s10).1,(rdTags s10).2) := rdP_t hle0_0
      repeat ((first | refine qA rfl ?_|apply qB|refine qC rfl ?_|apply qD|apply qE|apply qF|apply qG|apply qH);try simp (maxSteps:=1000000)(disch:=(first|omega|(simp only [qI,qJ,qK]<;>omega)|exact qL _)) only [go_sem,↓reduceIte,n0,reduceCtorEq,n1,n2,n3,n4,n5,i0,i1,i2,i3,i4,i5,i6,i7,hxb20,hrd1_2,hrd1_7,hrd1_8,hrd1_9,hrd1_10,hrd1_16,hrd1_15,hrd1_17,hrd1_19,hrd1_23,hrd1_22,exitRQ_ret,exitRQ_exit,Int.toNat_natCast,Nat.mul_one])
      refine (ReadTags_fn w20 hq20.1 hrok).mono ?_
      rintro _ w21 ⟨qme0,rfl,hT21,hTn,hq21,hu21⟩
      have hx1_21 := hu21.blk_some hx1_20 (by omega)
      have hV21 : Upd (fun b => b = R1 ∨ b = rb) w20 w21 := hu21.mono (fun _ h => .inr h)
      have hU21 : Upd (fun b => b = vb ∨ b = rb) w1 w21 := hU20.trans' hV21 fun i hi h => h.elim (fun h => by omega) .inr
      have hz21 := hV21.size
      have hG21 : Glo ev w21 := hG1.updS hU21 hgM1 hgM2
      obtain ⟨X21,hX21⟩ : ∃ X : Array Value,X = (A1 ++ (([strV (rdStr true s5).1,.slice aa1 N1 qq1,.map none] : List Value) ++ B1)).toArray := ⟨_,rfl⟩
      have hxb21 : blk w21 R1 = some (X21,103,(0,0)) := by rw [hX21];exact hx1_21
      have hXs21 : j1 * 3 + 3 ≤ X21.size := by rw [hX21];simp only [List.size_toArray,List.length_append,List.length_cons,List.length_nil,hA1];omega
      obtain ⟨s11,hs11⟩ : ∃ s,s = (rdTags s10).2 := ⟨_,rfl⟩
      rw [← hs11] at hq21 hfine0
      have hst21_2 : j1 * 3 + 3 ≤ X21.size := by omega
      repeat (first|simp (maxSteps:=1000000)(disch:=(first|omega|(simp only [qI,qJ,qK]<;>omega)|exact qL _)) only [go_sem,↓reduceIte,n0,reduceCtorEq,n1,n2,n3,n4,n5,i0,i1,i2,i3,i4,i5,i6,i7,hxb21,hrd1_2,hrd1_7,hrd1_8,hrd1_9,hrd1_10,hrd1_16,hrd1_15,hrd1_17,hrd1_19,hrd1_23,hrd1_22,exitRQ_ret,exitRQ_exit,Int.toNat_natCast,Nat.mul_one,hst21_2]|refine qA rfl ?_|apply qB|refine qC rfl ?_|apply qD|apply qE|apply qF|apply qG|apply qH)
      generalize hw22 : wr w21 R1 (j1 * 3 + 2) [.map qme0] = w22
      have hS22 : Upd (fun b => b = R1 ∨ b = rb) w21 w22 := by rw [← hw22];exact (Upd.refl _ _).wr _ _ (.inr (.inl rfl))
      have hx1_22 : blk w22 R1 = some ((A1 ++ (([strV (rdStr true s5).1,.slice aa1 N1 qq1,.map qme0] : List Value) ++ B1)).toArray,103,(0,0)) := by rw [← hw22];exact el_blk (o := 2) hx1_21 hA1 (Nat.le_of_ble_eq_true rfl)
      have hV22 := hS22
      have hU22 : Upd (fun b => b = vb ∨ b = rb) w1 w22 := hU21.trans' hV22 fun i hi h => h.elim (fun h => by omega) .inr
      have hz22 := hV22.size
      have hG22 : Glo ev w22 := hG1.updS hU22 hgM1 hgM2
      have hq22 : Rdr RT ok w22 rb s11 ∧ NN w22 rb s11 := by
        have hn : ∀ x,x = w22 → (Rdr RT ok x rb s11 ∧ NN x rb s11) := fun x hx => by
          rw [hx,← hw22]
          exact Rdr.store hq21 (by omega) (fun h => by have := (hok _ h).1;first | omega | exact (hok _ h).2 rfl)
        exact hn _ rfl
      obtain ⟨X22,hX22⟩ : ∃ X : Array Value,X = (A1 ++ (([strV (rdStr true s5).1,.slice aa1 N1 qq1,.map qme0] : List Value) ++ B1)).toArray := ⟨_,rfl⟩
      have hxb22 : blk w22 R1 = some (X22,103,(0,0)) := by rw [hX22];exact hx1_22
      have hXs22 : j1 * 3 + 3 ≤ X22.size := by rw [hX22];simp only [List.size_toArray,List.length_append,List.length_cons,List.length_nil,hA1];omega
      clear hw22
      have hTge0 : TagsM (fun b => (ok b ∨ w1.heap.size ≤ b) ∧ ¬ ownB va0 b) w22 (.map qme0) (rdTags s10).1 := (hT21.weaken fun b _ hk => hk.elim (fun hk => ⟨.inl hk,fun ho => by have := (hown1 b ho).1;have := (hok b hk).1;omega⟩) (fun h => by have h' : w20.heap.size ≤ b := h;exact ⟨.inr (by omega),fun ho => by have := (hown1 _ ho).2;omega⟩)).keep (hV22.keeps fun b _ hk e => hoM1 b hk e)
      have hCe0_22 : Upd (fun b => b = R1 ∨ b = rb) w22 w22 := Upd.refl _ _
      have hCe0_21 : Upd (fun b => b = R1 ∨ b = rb) w21 w22 := hV22.trans hCe0_22
      have hCe0_20 : Upd (fun b => b = R1 ∨ b = rb) w20 w22 := hV21.trans hCe0_21
      have hCe0_19 : Upd (fun b => b = R1 ∨ b = rb) w19 w22 := hV20.trans hCe0_20
      have hCe0_14 : Upd (fun b => b = R1 ∨ b = rb) w14 w22 := hV19.trans hCe0_19
      have hCe0_13 : Upd (fun b => b = R1 ∨ b = rb) w13 w22 := hV14.trans hCe0_14
      have hCe0_12 : Upd (fun b => b = R1 ∨ b = rb) w12 w22 := hV13.trans hCe0_13
      have hCe0_11 : Upd (fun b => b = R1 ∨ b = rb) w11 w22 := hV12.trans hCe0_12
      have hCe0_10 : Upd (fun b => b = R1 ∨ b = rb) w10 w22 := hV11.trans hCe0_11
      have hRe0 : RepS true (d + 2) fs_X2 (fun b => (ok b ∨ w1.heap.size ≤ b) ∧ ¬ ownB va0 b) w22 (.mk 0 [] false [xe0_0,xe0_1] (rdTags s10).1) [strV (rdStr true s5).1,.slice aa1 N1 qq1,.map qme0] := RepS.introT (c := [strV (rdStr true s5).1,.slice aa1 N1 qq1]) (RepL.cons1 (hfe0_0.keepS (hCe0_13.keeps fun b _ hk e => hoM1 b hk e)) (RepL.cons1 (hfe0_1.keepS (hCe0_20.keeps fun b _ hk e => hoM1 b hk e)) RepL.nil)) hTge0
      have hrE : (rd1 (rdP (d + 2) ver true) fQ_3.of fQ_3.sub false true) s5 = ((.mk 0 [] false [xe0_0,xe0_1] (rdTags s10).1),s11) := by rw [show (rd1 (rdP (d + 2) ver true) fQ_3.of fQ_3.sub false true) s5 = _ from rd1_part];exact hfine0
      have hxE : (Rep1 (RepS true (d + 2)) fQ_3.of fQ_3.sub) (fun b => (ok b ∨ w1.heap.size ≤ b) ∧ ¬ ownB va0 b) w22 (.mk 0 [] false [xe0_0,xe0_1] (rdTags s10).1) [strV (rdStr true s5).1,.slice aa1 N1 qq1,.map qme0] := Rep1_part.2 hRe0
      repeat ((first | refine qA rfl ?_|apply qB|refine qC rfl ?_|apply qD|apply qE|apply qF|apply qG|apply qH);try simp (maxSteps:=1000000)(disch:=(first|omega|(simp only [qI,qJ,qK]<;>omega)|exact qL _)) only [go_sem,↓reduceIte,n0,reduceCtorEq,n1,n2,n3,n4,n5,i0,i1,i2,i3,i4,i5,i6,i7,hxb22,hrd1_2,hrd1_7,hrd1_8,hrd1_9,hrd1_10,hrd1_16,hrd1_15,hrd1_17,hrd1_19,hrd1_23,hrd1_22,exitRQ_ret,exitRQ_exit,Int.toNat_natCast,Nat.mul_one])
      have hTk : Upd (fun b => b = R1 ∨ b = rb) w10 w22 := (((((((hV11.trans hV12).trans hV13).trans hV14).trans hV19).trans hV20).trans hV21).trans hV22)
      have hL' := hL0.step (Rep1_lay _ _ fun _ => RepS_lay true _ _) hlt0 (hnext1 w22 [strV (rdStr true s5).1,.slice aa1 N1 qq1,.map qme0] rfl hx1_22) (by rw [hrE];exact hxE) (hTk.mono fun b h => h.imp (fun e => ⟨_,_,_,hva1,e⟩) id) (by rw [hrE];exact hq22) (fun h => hoM rb h (.inr rfl)) (Nat.le_refl _)
      have hij : IntKind.i32.wrap ((j1 : Int) + 1) = ((j1 + 1 : Nat) : Int) := by rw [i32_wrap (by omega)];omega
      repeat ((first | refine qA rfl ?_|apply qB|refine qC rfl ?_|apply qD|apply qE|apply qF|apply qG|apply qH);try simp (maxSteps:=1000000)(disch:=(first|omega|(simp only [qI,qJ,qK]<;>omega)|exact qL _)) only [go_sem,↓reduceIte,n0,reduceCtorEq,n1,n2,n3,n4,n5,i0,i1,i2,i3,i4,i5,i6,i7,hxb22,hrd1_2,hrd1_7,hrd1_8,hrd1_9,hrd1_10,hrd1_16,hrd1_15,hrd1_17,hrd1_19,hrd1_23,hrd1_22,exitRQ_ret,exitRQ_exit,Int.toNat_natCast,Nat.mul_one,hij])
      refine ⟨⟨(by simp (maxSteps:=1000000)(disch:=(first|omega|(simp only [qI,qJ,qK]<;>omega)|exact qL _)) only [go_sem,↓reduceIte,n0,reduceCtorEq,n1,n2,n3,n4,n5,i0,i1,i2,i3,i4,i5,i6,i7,Holds_nil,Holds_cons,hrd1_2,hrd1_7,hrd1_8,hrd1_9,hrd1_10,hrd1_16,hrd1_15,hrd1_17,hrd1_19,hrd1_23,hrd1_22];exact hva1.symm),j1 + 1,(by simp (maxSteps:=1000000)(disch:=(first|omega|(simp only [qI,qJ,qK]<;>omega)|exact qL _)) only [go_sem,↓reduceIte,n0,reduceCtorEq,n1,n2,n3,n4,n5,i0,i1,i2,i3,i4,i5,i6,i7,hrd1_2,hrd1_7,hrd1_8,hrd1_9,hrd1_10,hrd1_16,hrd1_15,hrd1_17,hrd1_19,hrd1_23,hrd1_22,hij];all_goals rfl),_,_,_,hL'⟩,?_⟩
      try simp (maxSteps:=1000000)(disch:=(first|omega|(simp only [qI,qJ,qK]<;>omega)|exact qL _)) only [go_sem,↓reduceIte,n0,reduceCtorEq,n1,n2,n3,n4,n5,i0,i1,i2,i3,i4,i5,i6,i7,hrd1_2,hrd1_7,hrd1_8,hrd1_9,hrd1_10,hrd1_16,hrd1_15,hrd1_17,hrd1_19,hrd1_23,hrd1_22]
      simp only [RowKit.intOf]
      omega
    · have hjN : j1 = N0 := by omega
      rw [hjN] at hL0
      repeat ((first | refine qA rfl ?_|apply qB|refine qC rfl ?_|apply qD|apply qE|apply qF|apply qG|apply qH);try simp (maxSteps:=1000000)(disch:=(first|omega|(simp only [qI,qJ,qK]<;>omega)|exact qL _)) only [go_sem,↓reduceIte,n0,reduceCtorEq,n1,n2,n3,n4,n5,i0,i1,i2,i3,i4,i5,i6,i7,hrc0_2,hrc0_7,hrc0_8,hrc0_9,hrc0_10,hrc0_16,hrc0_15,hri0,exitRQ_ret,exitRQ_exit])
      exact ⟨(by simp (maxSteps:=1000000)(disch:=(first|omega|(simp only [qI,qJ,qK]<;>omega)|exact qL _)) only [go_sem,↓reduceIte,n0,reduceCtorEq,n1,n2,n3,n4,n5,i0,i1,i2,i3,i4,i5,i6,i7,Holds_nil,Holds_cons,hrc0_2,hrc0_7,hrc0_8,hrc0_9,hrc0_10,hrc0_16,hrc0_15,hri0]),s5,xs0,css0,hL0⟩
  rintro ρ w23 ⟨⟨hrd0_2,hrd0_7,hrd0_8,hrd0_9,hrd0_10,hrd0_16,hrd0_15,-⟩,s12,xs0,css0,hL0⟩
  have hq23 := hL0.rd
  have hu23 := hL0.upd
  have hv_23 := hu23.blk_some hv_8 (by omega)
  have hV23 : Upd (fun b => b = vb ∨ b = rb) w8 w23 := hu23.mono (fun _ h => .inr h)
  have hU23 : Upd (fun b => b = vb ∨ b = rb) w1 w23 := hU8.trans hV23
  have hz23 := hV23.size
  have hG23 : Glo ev w23 := hG1.updS hU23 hgM1 hgM2
  have hrd0 : rdF (rdP (d + 2) ver true) ver true fQ_3 s3 = (.mk 0 [] (nilS fQ_3 ver y0) xs0 [],s12) := by
    have h := rdF_listE (pt := (rdP (d + 2) ver true)) (v := ver) (flex := true) (f := fQ_3) (s := s3) (xs := xs0) (e := s12) rfl (by rw [hy0,← hN0,← hs4];exact hL0.done)
    rw [hy0] at h;exact h
  have hs12 : s12 = (rdF (rdP (d + 2) ver true) ver true fQ_3 s3).2 := by rw [hrd0]
  obtain ⟨aa0,qq0,hvs0⟩ := hL0.row.shape
  subst hvs0
  repeat ((first | refine qA rfl ?_|apply qB|refine qC rfl ?_|apply qD|apply qE|apply qF|apply qG|apply qH);try simp (maxSteps:=1000000)(disch:=(first|omega|(simp only [qI,qJ,qK]<;>omega)|exact qL _)) only [go_sem,↓reduceIte,n0,reduceCtorEq,n1,n2,n3,n4,n5,i0,i1,i2,i3,i4,i5,i6,i7,hv_23,hrd0_2,hrd0_7,hrd0_8,hrd0_9,hrd0_10,hrd0_16,hrd0_15])
  generalize hw24 : wr w23 vb 4 [.slice aa0 N0 qq0] = w24
  have hS24 : Upd (fun b => b = vb ∨ b = rb) w23 w24 := by rw [← hw24];exact (Upd.refl _ _).wr _ _ (.inr (.inl rfl))
  have hv_24 : blk w24 vb = some (#[.int .i16 ver,strV (rdStr true s0).1,.int .i64 (rdInt .i64 8 s1).1,.int .i16 (rdInt .i16 2 s2).1,.slice aa0 N0 qq0,.slice none 0 0,.map none],69,(0,0)) := by rw [← hw24,blk_wr_eq,hv_23];rfl
  have hV24 := hS24
  have hU24 : Upd (fun b => b = vb ∨ b = rb) w1 w24 := hU23.trans hV24
  have hz24 := hV24.size
  have hG24 : Glo ev w24 := hG1.updS hU24 hgM1 hgM2
  have hq24 : Rdr RT ok w24 rb s12 ∧ NN w24 rb s12 := by
    have hn : ∀ x,x = w24 → (Rdr RT ok x rb s12 ∧ NN x rb s12) := fun x hx => by
      rw [hx,← hw24]
      exact Rdr.store hq23 (by omega) (fun h => by have := (hok _ h).1;first | omega | exact (hok _ h).2 rfl)
    exact hn _ rfl
  clear hw24
  have hf_3 : RepF (RepS true (d + 2)) (szS true (d + 2)) fQ_3 (fun b => ok b ∨ w1.heap.size ≤ b) w24 (x_3) [.slice aa0 N0 qq0] := by rw [hx_3,hrd0];exact RepF.keepS (RepF_row rfl hnc0 hN0 rfl hL0.row hL0.all (fun b hb => .inr (by omega))) (hV24.keeps fun b _ hk e => (hoM b hk) e)
  clear hL0 hnc0
  have hb_4 : (rdL (rdP (d + 2) ver true) (dfP (d + 2)) ver true [fQ_4] s12).2 = none → FB := fun h => hb_3 (by rw [rdL_st (by decide) hh_3,← hs12];exact h)
  obtain ⟨x_4,hx_4⟩ : ∃ x,x = dfF (dfP (d + 2)) fQ_4 := ⟨_,rfl⟩
  have hf_4 : RepF (RepS true (d + 2)) (szS true (d + 2)) fQ_4 (fun b => ok b ∨ w1.heap.size ≤ b) w24 (x_4) [.slice none 0 0] := by rw [hx_4];exact RepF_nil rfl
  have hh_4 : hasS fQ_4 ver = false := hasS_f (by show ver < 4 ∨ (0 ≤ (-1 : Int) ∧ (-1 : Int) < ver);omega)
  have hl_5 : rdL (rdP (d + 2) ver true) (dfP (d + 2)) ver true [] s12 = ([],s12) := rfl
  have hl_4 : rdL (rdP (d + 2) ver true) (dfP (d + 2)) ver true [fQ_4] s12 = ([x_4],s12) := by rw [rdL_no hh_4,← hx_4,hl_5]
  have hl_3 : rdL (rdP (d + 2) ver true) (dfP (d + 2)) ver true [fQ_3,fQ_4] s3 = ([x_3,x_4],s12) := by rw [rdL_st (by decide) hh_3,← hx_3,← hs12,hl_4]
  have hl_2 : rdL (rdP (d + 2) ver true) (dfP (d + 2)) ver true [fQ_2,fQ_3,fQ_4] s2 = ([x_2,x_3,x_4],s12) := by rw [rdL_st (by decide) hh_2,← hx_2,← hs3,hl_3]
  have hl_1 : rdL (rdP (d + 2) ver true) (dfP (d + 2)) ver true [fQ_1,fQ_2,fQ_3,fQ_4] s1 = ([x_1,x_2,x_3,x_4],s12) := by rw [rdL_st (by decide) hh_1,← hx_1,← hs2,hl_2]
  have hl_0 : rdL (rdP (d + 2) ver true) (dfP (d + 2)) ver true [fQ_0,fQ_1,fQ_2,fQ_3,fQ_4] s0 = ([x_0,x_1,x_2,x_3,x_4],s12) := by rw [rdL_st (by decide) hh_0,← hx_0,← hs1,hl_1]
  have hfin : rdP (d + 3) ver true fs_Q s0 = (.mk 0 [] false [x_0,x_1,x_2,x_3,x_4] (rdTags s12).1,(rdTags s12).2) := rdP_t hl_0
  repeat ((first | refine qA rfl ?_|apply qB|refine qC rfl ?_|apply qD|apply qE|apply qF|apply qG|apply qH);try simp (maxSteps:=1000000)(disch:=(first|omega|(simp only [qI,qJ,qK]<;>omega)|exact qL _)) only [go_sem,↓reduceIte,n0,reduceCtorEq,n1,n2,n3,n4,n5,i0,i1,i2,i3,i4,i5,i6,i7,hv_24,hrd0_2,hrd0_7,hrd0_8,hrd0_9,hrd0_10,hrd0_16,hrd0_15])
  refine (ReadTags_fn w24 hq24.1 hrok).mono ?_
  rintro _ w25 ⟨qm,rfl,hT25,hTn,hq25,hu25⟩
  have hv_25 := hu25.blk_some hv_24 (by omega)
  have hV25 : Upd (fun b => b = vb ∨ b = rb) w24 w25 := hu25.mono (fun _ h => .inr h)
  have hU25 : Upd (fun b => b = vb ∨ b = rb) w1 w25 := hU24.trans hV25
  have hz25 := hV25.size
  have hG25 : Glo ev w25 := hG1.updS hU25 hgM1 hgM2
  obtain ⟨s13,hs13⟩ : ∃ s,s = (rdTags s12).2 := ⟨_,rfl⟩
  rw [← hs13] at hq25 hfin
  repeat (first|simp (maxSteps:=1000000)(disch:=(first|omega|(simp only [qI,qJ,qK]<;>omega)|exact qL _)) only [go_sem,↓reduceIte,n0,reduceCtorEq,n1,n2,n3,n4,n5,i0,i1,i2,i3,i4,i5,i6,i7,hv_25,hrd0_2,hrd0_7,hrd0_8,hrd0_9,hrd0_10,hrd0_16,hrd0_15]|refine qA rfl ?_|apply qB|refine qC rfl ?_|apply qD|apply qE|apply qF|apply qG|apply qH)
  generalize hw26 : wr w25 vb 6 [.map qm] = w26
  have hS26 : Upd (fun b => b = vb ∨ b = rb) w25 w26 := by rw [← hw26];exact (Upd.refl _ _).wr _ _ (.inr (.inl rfl))
  have hv_26 : blk w26 vb = some (#[.int .i16 ver,strV (rdStr true s0).1,.int .i64 (rdInt .i64 8 s1).1,.int .i16 (rdInt .i16 2 s2).1,.slice aa0 N0 qq0,.slice none 0 0,.map qm],69,(0,0)) := by rw [← hw26,blk_wr_eq,hv_25];rfl
  have hV26 := hS26
  have hU26 : Upd (fun b => b = vb ∨ b = rb) w1 w26 := hU25.trans hV26
  have hz26 := hV26.size
  have hG26 : Glo ev w26 := hG1.updS hU26 hgM1 hgM2
  have hq26 : Rdr RT ok w26 rb s13 ∧ NN w26 rb s13 := by
    have hn : ∀ x,x = w26 → (Rdr RT ok x rb s13 ∧ NN x rb s13) := fun x hx => by
      rw [hx,← hw26]
      exact Rdr.store hq25 (by omega) (fun h => by have := (hok _ h).1;first | omega | exact (hok _ h).2 rfl)
    exact hn _ rfl
  clear hw26
  have hTg : TagsM (fun b => ok b ∨ w1.heap.size ≤ b) w26 (.map qm) (rdTags s12).1 := (hT25.weaken fun b _ hk => hk.elim (fun hk => .inl hk) (fun h => by have h' : w24.heap.size ≤ b := h;exact .inr (by omega))).keep (hV26.keeps fun b _ hk e => (hoM b hk) e)
  have hC_26 : Upd (fun b => b = vb ∨ b = rb) w26 w26 := Upd.refl _ _
  have hC_25 : Upd (fun b => b = vb ∨ b = rb) w25 w26 := hV26.trans hC_26
  have hC_24 : Upd (fun b => b = vb ∨ b = rb) w24 w26 := hV25.trans hC_25
  have hC_23 : Upd (fun b => b = vb ∨ b = rb) w23 w26 := hV24.trans hC_24
  have hC_8 : Upd (fun b => b = vb ∨ b = rb) w8 w26 := hV23.trans hC_23
  have hC_7 : Upd (fun b => b = vb ∨ b = rb) w7 w26 := hV8.trans hC_8
  have hC_6 : Upd (fun b => b = vb ∨ b = rb) w6 w26 := hV7.trans hC_7
  have hC_5 : Upd (fun b => b = vb ∨ b = rb) w5 w26 := hV6.trans hC_6
  have hC_4 : Upd (fun b => b = vb ∨ b = rb) w4 w26 := hV5.trans hC_5
  have hC_3 : Upd (fun b => b = vb ∨ b = rb) w3 w26 := hV4.trans hC_4
  have hC_2 : Upd (fun b => b = vb ∨ b = rb) w2 w26 := hV3.trans hC_3
  have hC_1 : Upd (fun b => b = vb ∨ b = rb) w1 w26 := hV2.trans hC_2
  have hR : RepS true (d + 3) fs_Q (fun b => ok b ∨ w1.heap.size ≤ b) w26 (.mk 0 [] false [x_0,x_1,x_2,x_3,x_4] (rdTags s12).1) [strV (rdStr true s0).1,.int .i64 (rdInt .i64 8 s1).1,.int .i16 (rdInt .i16 2 s2).1,.slice aa0 N0 qq0,.slice none 0 0,.map qm] := RepS.introT (c := [strV (rdStr true s0).1,.int .i64 (rdInt .i64 8 s1).1,.int .i16 (rdInt .i16 2 s2).1,.slice aa0 N0 qq0,.slice none 0 0]) (RepL.cons1 (hf_0.keepS (hC_3.keeps fun b _ hk e => (hoM b hk) e)) (RepL.cons1 (hf_1.keepS (hC_5.keeps fun b _ hk e => (hoM b hk) e)) (RepL.cons1 (hf_2.keepS (hC_7.keeps fun b _ hk e => (hoM b hk) e)) (RepL.cons1 (hf_3.keepS (hC_24.keeps fun b _ hk e => (hoM b hk) e)) (RepL.cons1 (hf_4.keepS (hC_24.keeps fun b _ hk e => (hoM b hk) e)) RepL.nil))))) hTg
  repeat ((first | refine qA rfl ?_|apply qB|refine qC rfl ?_|apply qD|apply qE|apply qF|apply qG|apply qH);try simp (maxSteps:=1000000)(disch:=(first|omega|(simp only [qI,qJ,qK]<;>omega)|exact qL _)) only [go_sem,↓reduceIte,n0,reduceCtorEq,n1,n2,n3,n4,n5,i0,i1,i2,i3,i4,i5,i6,i7,hv_26,hrd0_2,hrd0_7,hrd0_8,hrd0_9,hrd0_10,hrd0_16,hrd0_15])
  refine (RComplete_fn w26 hq26.1 hG26.2).mono ?_
  rintro _ wz ⟨rfl,hez⟩
  rw [hez]
  repeat ((first | refine qA rfl ?_|apply qB|refine qC rfl ?_|apply qD|apply qE|apply qF|apply qG|apply qH);try simp (maxSteps:=1000000)(disch:=(first|omega|(simp only [qI,qJ,qK]<;>omega)|exact qL _)) only [go_sem,↓reduceIte,n0,reduceCtorEq,n1,n2,n3,n4,n5,i0,i1,i2,i3,i4,i5,i6,i7,hv_26,hrd0_2,hrd0_7,hrd0_8,hrd0_9,hrd0_10,hrd0_16,hrd0_15])
  rw [hfin]
  refine ⟨fun h => ?_,fun h => ⟨?_,[strV (rdStr true s0).1,.int .i64 (rdInt .i64 8 s1).1,.int .i16 (rdInt .i16 2 s2).1,.slice aa0 N0 qq0,.slice none 0 0,.map qm],hv_26,?_⟩,?_⟩
  · have h' : s13 = none := h
    rw [h'];rfl
  · cases hsn : s13 with
    | none => exact absurd hsn h
    | some x => rfl
  · exact (RepS_lay true (d + 3) fs_Q).weaken hR fun b _ hk => hk.imp id fun h => by omega
  · exact hbase.trans' hU26 fun i hi h => h.elim id fun h => by omega
end Ms

