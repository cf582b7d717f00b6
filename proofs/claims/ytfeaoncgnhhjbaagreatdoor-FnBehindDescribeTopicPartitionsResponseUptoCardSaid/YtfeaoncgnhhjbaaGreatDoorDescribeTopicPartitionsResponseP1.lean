/- A part of the proof: see the last text. -/
import Derived.Test.YtfeaoncgnhhjbaaGreatDoorDescribeTopicPartitionsResponseP0
set_option linter.unusedSimpArgs false
set_option linter.unusedVariables false
namespace Ms
open Go.World renaming size_alloc → qI
open Ms renaming size_wr → qJ,size_drew → qK,not_noB → qL
open W renaming seqR → qA,seq → qB,regR → qC,condK → qD,block → qE,skip → qF,ret → qG,exit → qH
open Nat renaming reduceEqDiff → n0,reduceAdd → n1,reduceMul → n2,reduceSub → n3,reduceLT → n4,reduceLeDiff → n5
open Int renaming reduceEq → i0,reduceLT → i1,reduceLE → i2,reduceNeg → i3,reduceAdd → i4,reduceSub → i5,reduceMul → i6,reduceToNat → i7
set_option maxRecDepth 8000
open Go Go.Proofs Go.Shelf
attribute [local congr] W_congr WPsq_congr WPp_congr optK_congr addrK_congr intK_congr boolK_congr sliceK_congr tupleK_congr funcK_congr Fn_congr rawK_congr takeK_congr stepK_congr convK_congr aggK_congr

set_option maxHeartbeats 24000000 in
theorem readQ_0 {d : Nat} {ok : Blocks} {ver : Int} {ev : Value} (hlo : 0 ≤ ver) (hhi : ver ≤ 0) (w : World) {vb : Nat} (src : Value) (s : List UInt8) (hv : blk w vb = some (#[.int .i16 ver,.int .i32 0,.slice none 0 0,.pointer none,.map none],63,(0,0))) (hsrc : BytesV ok w src s) (hok0 : ∀ b,ok b → b < w.heap.size ∧ b ≠ vb) (hG : Glo ev w) (hgv : ¬ 0 = vb ∧ ¬ 1 = vb) :
    Fn Tryz.prog 31 #[.pointer (some ⟨vb,0,none⟩),src,.bool false] w (ReadQ 63 ok ver (d + 3) fsr_Q vb w (rdP (d + 3) ver true fsr_Q (some s)) ev) := by
  have hvl := blk_lt hv
  have hgs := hG.lt
  obtain ⟨sa,sc,rfl,_⟩ := hsrc.shape
  refine fn_of_W Tryz.func31 rfl Tryz.results31 Tryz.ntmps31 rfl ?_
  repeat ((first | refine qA rfl ?_|apply qB|refine qC rfl ?_|apply qD|apply qE|apply qF|apply qG|apply qH);try simp (maxSteps:=1000000)(disch:=(first|omega|(simp only [qI,qJ,qK]<;>omega)|exact qL _)) only [go_sem,↓reduceIte,n0,reduceCtorEq,n1,n2,n3,n4,n5,i0,i1,i2,i3,i4,i5,i6,i7,hv])
  refine (DefaultQ_fn w hv).mono ?_
  rintro _ w0 ⟨hv0,hu0⟩
  have hz0 := hu0.size
  have hsrc0 : BytesV ok w0 (.slice sa s.length sc) s := hsrc.keep (hu0.keeps fun b _ hk e => (hok0 b hk).2 e)
  obtain ⟨rb,hrb⟩ : ∃ r,r = w0.heap.size := ⟨_,rfl⟩
  have hE1 : Ext w0 (wr (w0.alloc (.cells #[.slice none 0 0,.bool false] 103)) w0.heap.size 0 [.slice sa s.length sc,.bool false]) := (Upd.alloc (Upd.refl _ _) _).wr _ _ (.inl (Nat.le_refl _))
  have hz1 : (wr (w0.alloc (.cells #[.slice none 0 0,.bool false] 103)) w0.heap.size 0 [.slice sa s.length sc,.bool false]).heap.size = w0.heap.size + 1 := by rw [size_wr,World.size_alloc]
  have hR1 : Rdr RT ok (wr (w0.alloc (.cells #[.slice none 0 0,.bool false] 103)) w0.heap.size 0 [.slice sa s.length sc,.bool false]) w0.heap.size (some s) := Rdr.good (v := .slice sa s.length sc) (by simp (maxSteps:=1000000)(disch:=(first|omega|(simp only [qI,qJ,qK]<;>omega)|exact qL _)) only [go_sem,↓reduceIte,n0,reduceCtorEq,n1,n2,n3,n4,n5,i0,i1,i2,i3,i4,i5,i6,i7]) (hsrc0.keep (hE1.keeps _))
  have hv_1 := hE1.blk_some hv0 id
  repeat ((first | refine qA rfl ?_|apply qB|refine qC rfl ?_|apply qD|apply qE|apply qF|apply qG|apply qH);try simp (maxSteps:=1000000)(disch:=(first|omega|(simp only [qI,qJ,qK]<;>omega)|exact qL _)) only [go_sem,↓reduceIte,n0,reduceCtorEq,n1,n2,n3,n4,n5,i0,i1,i2,i3,i4,i5,i6,i7,hv0])
  generalize (wr (w0.alloc (.cells #[.slice none 0 0,.bool false] 103)) w0.heap.size 0 [.slice sa s.length sc,.bool false]) = w1 at *
  rw [← hrb] at hR1
  try rw [← hrb]
  have hok : ∀ b,ok b → b < w.heap.size ∧ b ≠ vb := hok0
  have hrok : ¬ ok rb := fun h => by have := (hok rb h).1;omega
  have hbase : Upd (fun b => b = vb) w w1 := hu0.trans (hE1.mono fun _ h => h.elim)
  have hG1 : Glo ev w1 := hG.updS hbase hgv.1 hgv.2
  have hgrb : ¬ 0 = rb := by omega
  have hgM1 : ¬ (0 = vb ∨ 0 = rb) := fun h => h.elim hgv.1 fun h => by omega
  have hgM2 : ¬ (1 = vb ∨ 1 = rb) := fun h => h.elim hgv.2 fun h => by omega
  obtain ⟨s0,hs0⟩ : ∃ s' : St,s' = some s := ⟨_,rfl⟩
  rw [← hs0] at hR1 ⊢
  have hU1 : Upd (fun b => b = vb ∨ b = rb) w1 w1 := Upd.refl _ _
  have hoM : ∀ b,(ok b ∨ w1.heap.size ≤ b) → ¬ (b = vb ∨ b = rb) := fun b hk h => by
    rcases hk with hk | hk
    · have := hok b hk;rcases h with h | h <;> omega
    · rcases h with h | h <;> omega
  have hq1 : Rdr RT ok w1 rb s0 := hR1
  obtain ⟨FB,hFB⟩ : ∃ P : Prop,P = ((rdP (d + 3) ver true fsr_Q s0).2 = none) := ⟨_,rfl⟩
  have hb_0 : (rdL (rdP (d + 2) ver true) (dfP (d + 2)) ver true [fQ_0,frQ_1,fQ_2] s0).2 = none → FB := fun h => Eq.mpr hFB (rdP_bad h)
  have hh_0 : hasS fQ_0 ver = true := hasS_t (by show (0 : Int) ≤ ver;omega) (by show (-1 : Int) < 0 ∨ ver ≤ (-1 : Int);omega)
  obtain ⟨x_0,hx_0⟩ : ∃ x,x = (rdF (rdP (d + 2) ver true) ver true fQ_0 s0).1 := ⟨_,rfl⟩
  repeat ((first | refine qA rfl ?_|apply qB|refine qC rfl ?_|apply qD|apply qE|apply qF|apply qG|apply qH);try simp (maxSteps:=1000000)(disch:=(first|omega|(simp only [qI,qJ,qK]<;>omega)|exact qL _)) only [go_sem,↓reduceIte,n0,reduceCtorEq,n1,n2,n3,n4,n5,i0,i1,i2,i3,i4,i5,i6,i7,hv_1])
  have hrd : rdF (rdP (d + 2) ver true) ver true fQ_0 s0 = _ := rdF_num 3 rfl (by decide)
  refine (Int32_fn w1 hq1 hrok hG1.1 hgrb).mono ?_
  rintro _ w2 ⟨rfl,hq2,hu2⟩
  have hv_2 := hu2.blk_some hv_1 (by omega)
  have hV2 : Upd (fun b => b = vb ∨ b = rb) w1 w2 := hu2.mono (fun _ h => .inr h)
  have hU2 : Upd (fun b => b = vb ∨ b = rb) w1 w2 := hU1.trans hV2
  have hz2 := hV2.size
  have hG2 : Glo ev w2 := hG1.updS hU2 hgM1 hgM2
  have hst : (rdF (rdP (d + 2) ver true) ver true fQ_0 s0).2 = (rdInt .i32 4 s0).2 := by first | (rw [hrd];rfl) | rw [hrd]
  obtain ⟨s1,hs1⟩ : ∃ s,s = (rdF (rdP (d + 2) ver true) ver true fQ_0 s0).2 := ⟨_,rfl⟩
  rw [← hst,← hs1] at hq2
  clear hst
  repeat ((first | refine qA rfl ?_|apply qB|refine qC rfl ?_|apply qD|apply qE|apply qF|apply qG|apply qH);try simp (maxSteps:=1000000)(disch:=(first|omega|(simp only [qI,qJ,qK]<;>omega)|exact qL _)) only [go_sem,↓reduceIte,n0,reduceCtorEq,n1,n2,n3,n4,n5,i0,i1,i2,i3,i4,i5,i6,i7,hv_2])
  generalize hw3 : wr w2 vb 1 [.int .i32 (rdInt .i32 4 s0).1] = w3
  have hS3 : Upd (fun b => b = vb ∨ b = rb) w2 w3 := by rw [← hw3];exact (Upd.refl _ _).wr _ _ (.inr (.inl rfl))
  have hv_3 : blk w3 vb = some (#[.int .i16 ver,.int .i32 (rdInt .i32 4 s0).1,.slice none 0 0,.pointer none,.map none],63,(0,0)) := by rw [← hw3,blk_wr_eq,hv_2];rfl
  have hV3 := hS3
  have hU3 : Upd (fun b => b = vb ∨ b = rb) w1 w3 := hU2.trans hV3
  have hz3 := hV3.size
  have hG3 : Glo ev w3 := hG1.updS hU3 hgM1 hgM2
  have hq3 := Rdr.stored hw3 hq2 (by omega) fun h => by have := (hok _ h).1;first | omega | exact (hok _ h).2 rfl
  clear hw3
  have hf_0 : RepF (RepS true (d + 2)) (szS true (d + 2)) fQ_0 (fun b => ok b ∨ w1.heap.size ≤ b) w3 (x_0) [.int .i32 (rdInt .i32 4 s0).1] := (RepF_num (by decide)).2 (by rw [hx_0,hrd];exact congrArg (fun x => [x]) (numC_rd 3 (by decide) 4 s0).symm)
  clear hrd
  have hb_1 : (rdL (rdP (d + 2) ver true) (dfP (d + 2)) ver true [frQ_1,fQ_2] s1).2 = none → FB := fun h => hb_0 (by rw [rdL_st (by decide) hh_0,← hs1];exact h)
  have hh_1 : hasS frQ_1 ver = true := hasS_t (by show (0 : Int) ≤ ver;omega) (by show (-1 : Int) < 0 ∨ ver ≤ (-1 : Int);omega)
  obtain ⟨x_1,hx_1⟩ : ∃ x,x = (rdF (rdP (d + 2) ver true) ver true frQ_1 s1).1 := ⟨_,rfl⟩
  repeat ((first | refine qA rfl ?_|apply qB|refine qC rfl ?_|apply qD|apply qE|apply qF|apply qG|apply qH);try simp (maxSteps:=1000000)(disch:=(first|omega|(simp only [qI,qJ,qK]<;>omega)|exact qL _)) only [go_sem,↓reduceIte,n0,reduceCtorEq,n1,n2,n3,n4,n5,i0,i1,i2,i3,i4,i5,i6,i7,hv_3])
  refine (RCompactArrayLen_fn w3 hq3.1 hrok hG3.1 hgrb).mono ?_
  rintro _ w4 ⟨rfl,hq4,hu4⟩
  have hv_4 := hu4.blk_some hv_3 (by omega)
  have hV4 : Upd (fun b => b = vb ∨ b = rb) w3 w4 := hu4.mono (fun _ h => .inr h)
  have hU4 : Upd (fun b => b = vb ∨ b = rb) w1 w4 := hU3.trans hV4
  have hz4 := hV4.size
  have hG4 : Glo ev w4 := hG1.updS hU4 hgM1 hgM2
  obtain ⟨s2,hs2⟩ : ∃ s,s = (rdALen true s1).2 := ⟨_,rfl⟩
  rw [← hs2] at hq4
  have hyr0 := rdALen_rng true s1
  generalize hy0 : (rdALen true s1).1 = y0 at *
  obtain ⟨N0,hN0⟩ : ∃ N,N = y0.toNat := ⟨_,rfl⟩
  have hlb0 : (rdMany (rd1 (rdP (d + 2) ver true) frQ_1.of frQ_1.sub false true) N0 s2).2 = none → FB := fun h => hb_1 (by rw [rdL_st (by decide) hh_1];exact rdL_bad (rdF_listbad rfl (by rw [hy0,← hN0,← hs2];exact h)))
  repeat ((first | refine W.seqR rfl ?_ | refine W.seq ?_ | refine W.regR rfl ?_ | refine W.block ?_ | refine W.skip ?_ | refine W.ret ?_ | refine W.exit ?_);try simp (maxSteps:=1000000)(disch:=(first|omega|(simp only [qI,qJ,qK]<;>omega)|exact qL _)) only [go_sem,↓reduceIte,n0,reduceCtorEq,n1,n2,n3,n4,n5,i0,i1,i2,i3,i4,i5,i6,i7,hv_4])
  refine (ROk_fn w4 hq4.1).mono ?_
  rintro _ wz ⟨rfl,hez⟩
  rw [hez]
  clear hez wz
  by_cases hsn0 : s2 = none
  · have hso : s2.isSome = false := by rw [hsn0];rfl
    repeat (first|simp (maxSteps:=1000000)(disch:=(first|omega|(simp only [qI,qJ,qK]<;>omega)|exact qL _)) only [go_sem,↓reduceIte,n0,reduceCtorEq,n1,n2,n3,n4,n5,i0,i1,i2,i3,i4,i5,i6,i7,hv_4,hso]|refine qA rfl ?_|apply qB|refine qC rfl ?_|apply qD|apply qE|apply qF|apply qG|apply qH)
    refine (RComplete_fn w4 hq4.1 hG4.2).mono ?_
    rintro _ wz ⟨rfl,hez⟩
    rw [hez]
    repeat (first|simp (maxSteps:=1000000)(disch:=(first|omega|(simp only [qI,qJ,qK]<;>omega)|exact qL _)) only [go_sem,↓reduceIte,n0,reduceCtorEq,n1,n2,n3,n4,n5,i0,i1,i2,i3,i4,i5,i6,i7,hv_4]|refine qA rfl ?_|apply qB|refine qC rfl ?_|apply qD|apply qE|apply qF|apply qG|apply qH)
    rw [errV_none hsn0]
    exact ReadQ.bad (Eq.mp hFB (hlb0 (by rw [hsn0];exact rdMany_none rd1P_none _))) (hbase.trans' hU4 fun i hi h => h.elim id fun h => by omega)
  have hso0 : s2.isSome = true := isSome_some hsn0
  try simp (maxSteps:=1000000)(disch:=(first|omega|(simp only [qI,qJ,qK]<;>omega)|exact qL _)) only [go_sem,↓reduceIte,n0,reduceCtorEq,n1,n2,n3,n4,n5,i0,i1,i2,i3,i4,i5,i6,i7,hv_4,hso0]
  repeat ((first | refine W.seqR rfl ?_ | refine W.seq ?_ | refine W.regR rfl ?_ | refine W.block ?_ | refine W.skip ?_ | refine W.ret ?_ | refine W.exit ?_);try simp (maxSteps:=1000000)(disch:=(first|omega|(simp only [qI,qJ,qK]<;>omega)|exact qL _)) only [go_sem,↓reduceIte,n0,reduceCtorEq,n1,n2,n3,n4,n5,i0,i1,i2,i3,i4,i5,i6,i7,hv_4,hso0])
  refine W.condK ?_
  try simp (maxSteps:=1000000)(disch:=(first|omega|(simp only [qI,qJ,qK]<;>omega)|exact qL _)) only [go_sem,↓reduceIte,n0,reduceCtorEq,n1,n2,n3,n4,n5,i0,i1,i2,i3,i4,i5,i6,i7,hv_4,hso0]
  repeat ((first | refine W.seqR rfl ?_ | refine W.seq ?_ | refine W.regR rfl ?_ | refine W.block ?_ | refine W.skip ?_ | refine W.ret ?_ | refine W.exit ?_);try simp (maxSteps:=1000000)(disch:=(first|omega|(simp only [qI,qJ,qK]<;>omega)|exact qL _)) only [go_sem,↓reduceIte,n0,reduceCtorEq,n1,n2,n3,n4,n5,i0,i1,i2,i3,i4,i5,i6,i7,hv_4,hso0,slBase_00])
  refine W.normJ (RowQ [(2,.bool false),(7,.pointer (some ⟨rb,0,none⟩)),(8,.int .i16 ver),(9,.bool true),(10,.pointer (some ⟨vb,0,none⟩)),(14,.int .i32 y0)] 13 (fun va w' => LstI RT (rd1 (rdP (d + 2) ver true) frQ_1.of frQ_1.sub false true) (Rep1 (RepS true (d + 2)) frQ_1.of frQ_1.sub) 22 80 [.int .i16 0,.pointer none,.int .u8 0,.int .u8 0,.int .u8 0,.int .u8 0,.int .u8 0,.int .u8 0,.int .u8 0,.int .u8 0,.int .u8 0,.int .u8 0,.int .u8 0,.int .u8 0,.int .u8 0,.int .u8 0,.int .u8 0,.int .u8 0,.bool false,.slice none 0 0,.int .i32 0,.map none] w4.heap.size N0 ok (fun b => ok b ∨ w1.heap.size ≤ b) rb w4 s2 va 0 s2 [] [] w' ∧ (N0 = 0 → if nilS frQ_1 ver y0 = true then va = .slice none 0 0 else ∃ a,va = .slice (some a) 0 0))) ?_ ?_
  · by_cases hy0 : (0 : Int) < y0
    · have hyv : Value.int .i32 y0 = .int .i32 ((N0 : Nat) : Int) := by rw [show y0 = ((N0 : Nat) : Int) by omega]
      repeat ((first | refine qA rfl ?_|apply qB|refine qC rfl ?_|apply qD|apply qE|apply qF|apply qG|apply qH);try simp (maxSteps:=1000000)(disch:=(first|omega|(simp only [qI,qJ,qK]<;>omega)|exact qL _)) only [go_sem,↓reduceIte,n0,reduceCtorEq,n1,n2,n3,n4,n5,i0,i1,i2,i3,i4,i5,i6,i7,hv_4])
      refine wp_appendZ (m := N0) utQ_57 utQ_21 inQ_80 (by decide) (by first | rfl | simp (maxSteps:=1000000)(disch:=(first|omega|(simp only [qI,qJ,qK]<;>omega)|exact qL _)) only [go_sem,↓reduceIte,n0,reduceCtorEq,n1,n2,n3,n4,n5,i0,i1,i2,i3,i4,i5,i6,i7]) (by first | exact hyv | (simp (maxSteps:=1000000)(disch:=(first|omega|(simp only [qI,qJ,qK]<;>omega)|exact qL _)) only [go_sem,↓reduceIte,n0,reduceCtorEq,n1,n2,n3,n4,n5,i0,i1,i2,i3,i4,i5,i6,i7];exact hyv)) (by omega) (by omega) (by decide) ?_
      intro q rest hq1
      have hEw : Ext w4 (w4.drew.alloc (.cells (zs [.int .i16 0,.pointer none,.int .u8 0,.int .u8 0,.int .u8 0,.int .u8 0,.int .u8 0,.int .u8 0,.int .u8 0,.int .u8 0,.int .u8 0,.int .u8 0,.int .u8 0,.int .u8 0,.int .u8 0,.int .u8 0,.int .u8 0,.int .u8 0,.bool false,.slice none 0 0,.int .i32 0,.map none] N0 ++ rest).toArray 80)) := (Upd.refl _ _).drew.alloc _
      repeat (first|simp (maxSteps:=1000000)(disch:=(first|omega|(simp only [qI,qJ,qK]<;>omega)|exact qL _)) only [go_sem,↓reduceIte,n0,reduceCtorEq,n1,n2,n3,n4,n5,i0,i1,i2,i3,i4,i5,i6,i7,hv_4]|refine qA rfl ?_|apply qB|refine qC rfl ?_|apply qD|apply qE|apply qF|apply qG|apply qH)
      exact ⟨(by simp (maxSteps:=1000000)(disch:=(first|omega|(simp only [qI,qJ,qK]<;>omega)|exact qL _)) only [go_sem,↓reduceIte,n0,reduceCtorEq,n1,n2,n3,n4,n5,i0,i1,i2,i3,i4,i5,i6,i7,Holds_nil,Holds_cons]),.slice (some ⟨w4.heap.size,0,none⟩) N0 q,(by simp (maxSteps:=1000000)(disch:=(first|omega|(simp only [qI,qJ,qK]<;>omega)|exact qL _)) only [go_sem,↓reduceIte,n0,reduceCtorEq,n1,n2,n3,n4,n5,i0,i1,i2,i3,i4,i5,i6,i7]),LstI.start (RowJ.start (by omega) hq1 (by show w4.heap.size ≤ w4.drew.heap.size;rw [size_drew];omega) (blk_alloc_new rfl)) ⟨hq4.1.upd hEw (fun h => h) (fun _ _ _ h => h),hq4.2.upd hEw fun h => h⟩ (hEw.mono fun _ h => h.elim),fun h0 => by omega⟩
    · repeat ((first | refine qA rfl ?_|apply qB|refine qC rfl ?_|apply qD|apply qE|apply qF|apply qG|apply qH);try simp (maxSteps:=1000000)(disch:=(first|omega|(simp only [qI,qJ,qK]<;>omega)|exact qL _)) only [go_sem,↓reduceIte,n0,reduceCtorEq,n1,n2,n3,n4,n5,i0,i1,i2,i3,i4,i5,i6,i7,hv_4])
      exact ⟨(by simp (maxSteps:=1000000)(disch:=(first|omega|(simp only [qI,qJ,qK]<;>omega)|exact qL _)) only [go_sem,↓reduceIte,n0,reduceCtorEq,n1,n2,n3,n4,n5,i0,i1,i2,i3,i4,i5,i6,i7,Holds_nil,Holds_cons]),.slice none 0 0,(by simp (maxSteps:=1000000)(disch:=(first|omega|(simp only [qI,qJ,qK]<;>omega)|exact qL _)) only [go_sem,↓reduceIte,n0,reduceCtorEq,n1,n2,n3,n4,n5,i0,i1,i2,i3,i4,i5,i6,i7,slBase_00]),LstI.start (RowJ.zero (by omega) (fun _ h => by cases h)) hq4 (Upd.refl _ _),fun _ => by rw [nilS_plain (by decide) (by omega)];exact rfl⟩
  rintro ρ w5 ⟨⟨hrb0_2,hrb0_7,hrb0_8,hrb0_9,hrb0_10,hrb0_14,-⟩,va0,hra0,hL0,hnc0⟩
  repeat ((first | refine qA rfl ?_|apply qB|refine qC rfl ?_|apply qD|apply qE|apply qF|apply qG|apply qH);try simp (maxSteps:=1000000)(disch:=(first|omega|(simp only [qI,qJ,qK]<;>omega)|exact qL _)) only [go_sem,↓reduceIte,n0,reduceCtorEq,n1,n2,n3,n4,n5,i0,i1,i2,i3,i4,i5,i6,i7,hv_4,hrb0_2,hrb0_7,hrb0_8,hrb0_9,hrb0_10,hrb0_14,hra0,exitRQ_ret,exitRQ_exit,Int.toNat_natCast,Nat.mul_one])
  refine W.exitRJ 0 (EndQ [(2,.bool false),(7,.pointer (some ⟨rb,0,none⟩)),(8,.int .i16 ver),(9,.bool true),(10,.pointer (some ⟨vb,0,none⟩)),(14,.int .i32 y0),(13,va0)] (fun w' => ∃ s xs css,LstI RT (rd1 (rdP (d + 2) ver true) frQ_1.of frQ_1.sub false true) (Rep1 (RepS true (d + 2)) frQ_1.of frQ_1.sub) 22 80 [.int .i16 0,.pointer none,.int .u8 0,.int .u8 0,.int .u8 0,.int .u8 0,.int .u8 0,.int .u8 0,.int .u8 0,.int .u8 0,.int .u8 0,.int .u8 0,.int .u8 0,.int .u8 0,.int .u8 0,.int .u8 0,.int .u8 0,.int .u8 0,.bool false,.slice none 0 0,.int .i32 0,.map none] w4.heap.size N0 ok (fun b => ok b ∨ w1.heap.size ≤ b) rb w4 s2 va0 N0 s xs css w')) (W.loop (LoopQ [(2,.bool false),(7,.pointer (some ⟨rb,0,none⟩)),(8,.int .i16 ver),(9,.bool true),(10,.pointer (some ⟨vb,0,none⟩)),(14,.int .i32 y0),(13,va0)] 15 (fun j w' => ∃ s xs css,LstI RT (rd1 (rdP (d + 2) ver true) frQ_1.of frQ_1.sub false true) (Rep1 (RepS true (d + 2)) frQ_1.of frQ_1.sub) 22 80 [.int .i16 0,.pointer none,.int .u8 0,.int .u8 0,.int .u8 0,.int .u8 0,.int .u8 0,.int .u8 0,.int .u8 0,.int .u8 0,.int .u8 0,.int .u8 0,.int .u8 0,.int .u8 0,.int .u8 0,.int .u8 0,.int .u8 0,.int .u8 0,.bool false,.slice none 0 0,.int .i32 0,.map none] w4.heap.size N0 ok (fun b => ok b ∨ w1.heap.size ≤ b) rb w4 s2 va0 j s xs css w')) (fun ρ _ => N0 - (RowKit.intOf (ρ 15)).toNat) ?_ ?_) ?_
  · exact ⟨(by simp (maxSteps:=1000000)(disch:=(first|omega|(simp only [qI,qJ,qK]<;>omega)|exact qL _)) only [go_sem,↓reduceIte,n0,reduceCtorEq,n1,n2,n3,n4,n5,i0,i1,i2,i3,i4,i5,i6,i7,Holds_nil,Holds_cons,hrb0_2,hrb0_7,hrb0_8,hrb0_9,hrb0_10,hrb0_14,hra0]),0,(by simp (maxSteps:=1000000)(disch:=(first|omega|(simp only [qI,qJ,qK]<;>omega)|exact qL _)) only [go_sem,↓reduceIte,n0,reduceCtorEq,n1,n2,n3,n4,n5,i0,i1,i2,i3,i4,i5,i6,i7,hrb0_2,hrb0_7,hrb0_8,hrb0_9,hrb0_10,hrb0_14,hra0];all_goals rfl),s2,[],[],hL0⟩
  · rintro ρ w6 ⟨⟨hrc0_2,hrc0_7,hrc0_8,hrc0_9,hrc0_10,hrc0_14,hrc0_13,-⟩,j1,hri0,s3,xs0,css0,hL0⟩
    have hj0 := hL0.le
    have hq6 := hL0.rd
    have hU6 : Upd (fun b => b = vb ∨ b = rb) w1 w6 := hU4.trans' hL0.upd fun i _ h => .inr h
    have hz6 := hL0.upd.size
    have hG6 : Glo ev w6 := hG1.updS hU6 hgM1 hgM2
    by_cases hlt0 : j1 < N0
    · obtain ⟨R1,q1,B1,hva1,hNq1,hLR1,hA1,hx1_6,hnext1⟩ := hL0.row.next hlt0
      have hRl1 := blk_lt hx1_6
      generalize css0.flatten = A1 at hA1 hx1_6 hnext1
      replace hra0 : ρ 13 = .slice (some ⟨R1,0,none⟩) N0 q1 := hrc0_13.trans hva1
      have hown1 : ∀ b,ownB va0 b → w4.heap.size ≤ b ∧ b < w6.heap.size := fun b h => hL0.row.own h
      have hoM1 : ∀ b,(fun b => (ok b ∨ w1.heap.size ≤ b) ∧ ¬ ownB va0 b) b → ¬ (b = R1 ∨ b = rb) := fun b hk h => h.elim (fun e => hk.2 ⟨_,_,_,hva1,e⟩) (fun e => hoM b hk.1 (.inr e))
      obtain ⟨X6,hX6,hxb6,hXs6⟩ := el_open (n := 22) hx1_6 hA1 rfl
      repeat ((first | refine qA rfl ?_|apply qB|refine qC rfl ?_|apply qD|apply qE|apply qF|apply qG|apply qH);try simp (maxSteps:=1000000)(disch:=(first|omega|(simp only [qI,qJ,qK]<;>omega)|exact qL _)) only [go_sem,↓reduceIte,n0,reduceCtorEq,n1,n2,n3,n4,n5,i0,i1,i2,i3,i4,i5,i6,i7,hxb6,hrc0_2,hrc0_7,hrc0_8,hrc0_9,hrc0_10,hrc0_14,hra0,hri0,exitRQ_ret,exitRQ_exit,Int.toNat_natCast,Nat.mul_one])
      refine (DefaultEX2_fn w6 hx1_6 hA1).mono ?_
      rintro _ w7 ⟨hx1_7,hu7⟩
      have hq7 := And.intro (hq6.1.upd hu7 (by omega) (fun b _ hk e => by have := (hok b hk).1;omega)) (hq6.2.upd hu7 (by omega))
      have hV7 : Upd (fun b => b = R1 ∨ b = rb) w6 w7 := hu7.mono (fun _ h => .inl h)
      have hU7 : Upd (fun b => b = vb ∨ b = rb) w1 w7 := hU6.trans' hV7 fun i hi h => h.elim (fun h => by omega) .inr
      have hz7 := hV7.size
      have hG7 : Glo ev w7 := hG1.updS hU7 hgM1 hgM2
      obtain ⟨X7,hX7,hxb7,hXs7⟩ := el_open (n := 22) hx1_7 hA1 rfl
      have hbe0_0 : (rdL (rdP (d + 1) ver true) (dfP (d + 1)) ver true [fX2_0,fX2_1,fX2_2,fX2_3,frX2_4,fX2_5] s3).2 = none → FB := fun h => hlb0 (hL0.bad hlt0 rd1P_none (by show (rd1 (rdP (d + 2) ver true) 10 fsr_X2 false true s3).2 = none;rw [rd1_part];exact rdP_bad h))
      have hhe0_0 : hasS fX2_0 ver = true := hasS_t (by show (0 : Int) ≤ ver;omega) (by show (-1 : Int) < 0 ∨ ver ≤ (-1 : Int);omega)
      obtain ⟨xe0_0,hxe0_0⟩ : ∃ x,x = (rdF (rdP (d + 1) ver true) ver true fX2_0 s3).1 := ⟨_,rfl⟩
      repeat ((first | refine qA rfl ?_|apply qB|refine qC rfl ?_|apply qD|apply qE|apply qF|apply qG|apply qH);try simp (maxSteps:=1000000)(disch:=(first|omega|(simp only [qI,qJ,qK]<;>omega)|exact qL _)) only [go_sem,↓reduceIte,n0,reduceCtorEq,n1,n2,n3,n4,n5,i0,i1,i2,i3,i4,i5,i6,i7,hxb7,hrc0_2,hrc0_7,hrc0_8,hrc0_9,hrc0_10,hrc0_14,hra0,hri0,exitRQ_ret,exitRQ_exit,Int.toNat_natCast,Nat.mul_one])
      have hrd : rdF (rdP (d + 1) ver true) ver true fX2_0 s3 = _ := rdF_num 2 rfl (by decide)
      refine (Int16_fn w7 hq7.1 hrok hG7.1 hgrb).mono ?_
      rintro _ w8 ⟨rfl,hq8,hu8⟩
      have hx1_8 := hu8.blk_some hx1_7 (by omega)
      have hV8 : Upd (fun b => b = R1 ∨ b = rb) w7 w8 := hu8.mono (fun _ h => .inr h)
      have hU8 : Upd (fun b => b = vb ∨ b = rb) w1 w8 := hU7.trans' hV8 fun i hi h => h.elim (fun h => by omega) .inr
      have hz8 := hV8.size
      have hG8 : Glo ev w8 := hG1.updS hU8 hgM1 hgM2
      obtain ⟨X8,hX8,hxb8,hXs8⟩ := el_open (n := 22) hx1_8 hA1 rfl
      have hst : (rdF (rdP (d + 1) ver true) ver true fX2_0 s3).2 = (rdInt .i16 2 s3).2 := by first | (rw [hrd];rfl) | rw [hrd]
      obtain ⟨s4,hs4⟩ : ∃ s,s = (rdF (rdP (d + 1) ver true) ver true fX2_0 s3).2 := ⟨_,rfl⟩
      rw [← hst,← hs4] at hq8
      clear hst
      have hst8_0 : j1 * 22 + 1 ≤ X8.size := by omega
      have hld8_19 : X8[j1 * 22 + 19]? = some (.slice none 0 0) := by rw [hX8];exact el_cell (R := 0) hA1 (Nat.le_of_ble_eq_true rfl)
      repeat ((first | refine qA rfl ?_|apply qB|refine qC rfl ?_|apply qD|apply qE|apply qF|apply qG|apply qH);try simp (maxSteps:=1000000)(disch:=(first|omega|(simp only [qI,qJ,qK]<;>omega)|exact qL _)) only [go_sem,↓reduceIte,n0,reduceCtorEq,n1,n2,n3,n4,n5,i0,i1,i2,i3,i4,i5,i6,i7,hxb8,hrc0_2,hrc0_7,hrc0_8,hrc0_9,hrc0_10,hrc0_14,hra0,hri0,exitRQ_ret,exitRQ_exit,Int.toNat_natCast,Nat.mul_one,hst8_0,hld8_19,Array.getElem?_setIfInBounds_ne])
      generalize hw9 : wr w8 R1 (j1 * 22) [.int .i16 (rdInt .i16 2 s3).1] = w9
      have hS9 : Upd (fun b => b = R1 ∨ b = rb) w8 w9 := by rw [← hw9];exact (Upd.refl _ _).wr _ _ (.inr (.inl rfl))
      have hx1_9 : blk w9 R1 = some ((A1 ++ (([.int .i16 (rdInt .i16 2 s3).1,.pointer none,.int .u8 0,.int .u8 0,.int .u8 0,.int .u8 0,.int .u8 0,.int .u8 0,.int .u8 0,.int .u8 0,.int .u8 0,.int .u8 0,.int .u8 0,.int .u8 0,.int .u8 0,.int .u8 0,.int .u8 0,.int .u8 0,.bool false,.slice none 0 0,.int .i32 (-2147483648),.map none] : List Value) ++ B1)).toArray,80,(0,0)) := by rw [← hw9];exact el_blk0 hx1_8 hA1 (Nat.le_of_ble_eq_true rfl)
      have hV9 := hS9
      have hU9 : Upd (fun b => b = vb ∨ b = rb) w1 w9 := hU8.trans' hV9 fun i hi h => h.elim (fun h => by omega) .inr
      have hz9 := hV9.size
      have hG9 : Glo ev w9 := hG1.updS hU9 hgM1 hgM2
      have hq9 := Rdr.stored hw9 hq8 (by omega) fun h => by have := (hok _ h).1;first | omega | exact (hok _ h).2 rfl
      obtain ⟨X9,hX9,hxb9,hXs9⟩ := el_open (n := 22) hx1_9 hA1 rfl
      clear hw9
      have hfe0_0 : RepF (RepS true (d + 1)) (szS true (d + 1)) fX2_0 (fun b => (ok b ∨ w1.heap.size ≤ b) ∧ ¬ ownB va0 b) w9 (xe0_0) [.int .i16 (rdInt .i16 2 s3).1] := (RepF_num (by decide)).2 (by rw [hxe0_0,hrd];exact congrArg (fun x => [x]) (numC_rd 2 (by decide) 2 s3).symm)
      clear hrd
      have hbe0_1 : (rdL (rdP (d + 1) ver true) (dfP (d + 1)) ver true [fX2_1,fX2_2,fX2_3,frX2_4,fX2_5] s4).2 = none → FB := fun h => hbe0_0 (by rw [rdL_st (by decide) hhe0_0,← hs4];exact h)
      have hhe0_1 : hasS fX2_1 ver = true := hasS_t (by show (0 : Int) ≤ ver;omega) (by show (-1 : Int) < 0 ∨ ver ≤ (-1 : Int);omega)
      obtain ⟨xe0_1,hxe0_1⟩ : ∃ x,x = (rdF (rdP (d + 1) ver true) ver true fX2_1 s4).1 := ⟨_,rfl⟩
      repeat ((first | refine qA rfl ?_|apply qB|refine qC rfl ?_|apply qD|apply qE|apply qF|apply qG|apply qH);try simp (maxSteps:=1000000)(disch:=(first|omega|(simp only [qI,qJ,qK]<;>omega)|exact qL _)) only [go_sem,↓reduceIte,n0,reduceCtorEq,n1,n2,n3,n4,n5,i0,i1,i2,i3,i4,i5,i6,i7,hxb9,hrc0_2,hrc0_7,hrc0_8,hrc0_9,hrc0_10,hrc0_14,hra0,hri0,exitRQ_ret,exitRQ_exit,Int.toNat_natCast,Nat.mul_one])
      have hmay : mayS fX2_1 ver = true := mayS_yes (by decide) (by show (0 : Int) ≤ ver;omega)
      have hrd : rdF (rdP (d + 1) ver true) ver true fX2_1 s4 = _ := rdF_ptr rfl hmay
      refine (RCompactNullableString_fn w9 hq9.1 hrok hG9.1 hgrb).mono ?_
      rintro r10 w10 ⟨hp10,hq10,hu10⟩
      obtain ⟨ap10,rfl⟩ := hp10.shape
      have hx1_10 := hu10.blk_some hx1_9 (by omega)
      have hV10 : Upd (fun b => b = R1 ∨ b = rb) w9 w10 := hu10.mono (fun _ h => .inr h)
      have hU10 : Upd (fun b => b = vb ∨ b = rb) w1 w10 := hU9.trans' hV10 fun i hi h => h.elim (fun h => by omega) .inr
      have hz10 := hV10.size
      have hG10 : Glo ev w10 := hG1.updS hU10 hgM1 hgM2
      obtain ⟨X10,hX10,hxb10,hXs10⟩ := el_open (n := 22) hx1_10 hA1 rfl
      have hst : (rdF (rdP (d + 1) ver true) ver true fX2_1 s4).2 = (rdNStr true s4).2 := by first | (rw [hrd];rfl) | rw [hrd]
      obtain ⟨s5,hs5⟩ : ∃ s,s = (rdF (rdP (d + 1) ver true) ver true fX2_1 s4).2 := ⟨_,rfl⟩
      rw [← hst,← hs5] at hq10
      clear hst
      have hst10_1 : j1 * 22 + 2 ≤ X10.size := by omega
      have hld10_19 : X10[j1 * 22 + 19]? = some (.slice none 0 0) := by rw [hX10];exact el_cell (R := 0) hA1 (Nat.le_of_ble_eq_true rfl)
      repeat ((first | refine qA rfl ?_|apply qB|refine qC rfl ?_|apply qD|apply qE|apply qF|apply qG|apply qH);try simp (maxSteps:=1000000)(disch:=(first|omega|(simp only [qI,qJ,qK]<;>omega)|exact qL _)) only [go_sem,↓reduceIte,n0,reduceCtorEq,n1,n2,n3,n4,n5,i0,i1,i2,i3,i4,i5,i6,i7,hxb10,hrc0_2,hrc0_7,hrc0_8,hrc0_9,hrc0_10,hrc0_14,hra0,hri0,exitRQ_ret,exitRQ_exit,Int.toNat_natCast,Nat.mul_one,hst10_1,hld10_19,Array.getElem?_setIfInBounds_ne])
      generalize hw11 : wr w10 R1 (j1 * 22 + 1) [.pointer ap10] = w11
      have hS11 : Upd (fun b => b = R1 ∨ b = rb) w10 w11 := by rw [← hw11];exact (Upd.refl _ _).wr _ _ (.inr (.inl rfl))
      have hx1_11 : blk w11 R1 = some ((A1 ++ (([.int .i16 (rdInt .i16 2 s3).1,.pointer ap10,.int .u8 0,.int .u8 0,.int .u8 0,.int .u8 0,.int .u8 0,.int .u8 0,.int .u8 0,.int .u8 0,.int .u8 0,.int .u8 0,.int .u8 0,.int .u8 0,.int .u8 0,.int .u8 0,.int .u8 0,.int .u8 0,.bool false,.slice none 0 0,.int .i32 (-2147483648),.map none] : List Value) ++ B1)).toArray,80,(0,0)) := by rw [← hw11];exact el_blk (o := 1) hx1_10 hA1 (Nat.le_of_ble_eq_true rfl)
      have hV11 := hS11
      have hU11 : Upd (fun b => b = vb ∨ b = rb) w1 w11 := hU10.trans' hV11 fun i hi h => h.elim (fun h => by omega) .inr
      have hz11 := hV11.size
      have hG11 : Glo ev w11 := hG1.updS hU11 hgM1 hgM2
      have hq11 := Rdr.stored hw11 hq10 (by omega) fun h => by have := (hok _ h).1;first | omega | exact (hok _ h).2 rfl
      obtain ⟨X11,hX11,hxb11,hXs11⟩ := el_open (n := 22) hx1_11 hA1 rfl
      clear hw11
      have hfe0_1 : RepF (RepS true (d + 1)) (szS true (d + 1)) fX2_1 (fun b => (ok b ∨ w1.heap.size ≤ b) ∧ ¬ ownB va0 b) w11 (xe0_1) [.pointer ap10] := (RepF_ptr rfl (by decide)).2 ⟨_,rfl,by rw [hxe0_1,hrd];exact (hp10.weaken fun b _ hk => by have hk' : w9.heap.size ≤ b := hk;exact ⟨.inr (by omega),fun ho => by have := (hown1 _ ho).2;omega⟩).keep (hV11.keeps fun b _ hk e => hoM1 b hk e)⟩
      clear hrd
      have hbe0_2 : (rdL (rdP (d + 1) ver true) (dfP (d + 1)) ver true [fX2_2,fX2_3,frX2_4,fX2_5] s5).2 = none → FB := fun h => hbe0_1 (by rw [rdL_st (by decide) hhe0_1,← hs5];exact h)
      have hhe0_2 : hasS fX2_2 ver = true := hasS_t (by show (0 : Int) ≤ ver;omega) (by show (-1 : Int) < 0 ∨ ver ≤ (-1 : Int);omega)
      obtain ⟨xe0_2,hxe0_2⟩ : ∃ x,x = (rdF (rdP (d + 1) ver true) ver true fX2_2 s5).1 := ⟨_,rfl⟩
      repeat ((first | refine qA rfl ?_|apply qB|refine qC rfl ?_|apply qD|apply qE|apply qF|apply qG|apply qH);try simp (maxSteps:=1000000)(disch:=(first|omega|(simp only [qI,qJ,qK]<;>omega)|exact qL _)) only [go_sem,↓reduceIte,n0,reduceCtorEq,n1,n2,n3,n4,n5,i0,i1,i2,i3,i4,i5,i6,i7,hxb11,hrc0_2,hrc0_7,hrc0_8,hrc0_9,hrc0_10,hrc0_14,hra0,hri0,exitRQ_ret,exitRQ_exit,Int.toNat_natCast,Nat.mul_one])
      have hrd : rdF (rdP (d + 1) ver true) ver true fX2_2 s5 = _ := rdF_uuid rfl
      refine (RUuid_fn w11 hq11.1 hrok).mono ?_
      rintro _ w12 ⟨rfl,hq12,hu12⟩
      have hx1_12 := hu12.blk_some hx1_11 (by omega)
      have hV12 : Upd (fun b => b = R1 ∨ b = rb) w11 w12 := hu12.mono (fun _ h => .inr h)
      have hU12 : Upd (fun b => b = vb ∨ b = rb) w1 w12 := hU11.trans' hV12 fun i hi h => h.elim (fun h => by omega) .inr
      have hz12 := hV12.size
      have hG12 : Glo ev w12 := hG1.updS hU12 hgM1 hgM2
      obtain ⟨X12,hX12,hxb12,hXs12⟩ := el_open (n := 22) hx1_12 hA1 rfl
      have hst : (rdF (rdP (d + 1) ver true) ver true fX2_2 s5).2 = (rdSpan 16 s5).2 := by first | (rw [hrd];rfl) | rw [hrd]
      obtain ⟨s6,hs6⟩ : ∃ s,s = (rdF (rdP (d + 1) ver true) ver true fX2_2 s5).2 := ⟨_,rfl⟩
      rw [← hst,← hs6] at hq12
      clear hst
      have hl16 : ((uuidS (rdSpan 16 s5).1).map byteV).length = 16 := by rw [List.length_map,uuidS_len]
      have hx16 := flat_bytes (uuidS (rdSpan 16 s5).1)
      have hxe : xe0_2 = .oct false (uuidS (rdSpan 16 s5).1) := by rw [hxe0_2,hrd]
      have hxc : (uuidS (xe0_2).s).map byteV = (uuidS (rdSpan 16 s5).1).map byteV := by rw [hxe];show (uuidS (uuidS _)).map byteV = _;rw [uuidS_idem]
      generalize (uuidS (rdSpan 16 s5).1).map byteV = Xu at *
      obtain ⟨ue02_0,ue02_1,ue02_2,ue02_3,ue02_4,ue02_5,ue02_6,ue02_7,ue02_8,ue02_9,ue02_10,ue02_11,ue02_12,ue02_13,ue02_14,ue02_15,rfl⟩ := list16 hl16
      simp only [List.all_cons,List.all_nil,Bool.and_true,Bool.and_eq_true] at hx16
      obtain ⟨fue02_0,fue02_1,fue02_2,fue02_3,fue02_4,fue02_5,fue02_6,fue02_7,fue02_8,fue02_9,fue02_10,fue02_11,fue02_12,fue02_13,fue02_14,fue02_15⟩ := hx16
      have hcz : cellsAt #[ue02_0,ue02_1,ue02_2,ue02_3,ue02_4,ue02_5,ue02_6,ue02_7,ue02_8,ue02_9,ue02_10,ue02_11,ue02_12,ue02_13,ue02_14,ue02_15] 0 16 = some (.agg #[ue02_0,ue02_1,ue02_2,ue02_3,ue02_4,ue02_5,ue02_6,ue02_7,ue02_8,ue02_9,ue02_10,ue02_11,ue02_12,ue02_13,ue02_14,ue02_15]) := cellsAt_full rfl
      have hst12_2 : j1 * 22 + 18 ≤ X12.size := by omega
      have hld12_19 : X12[j1 * 22 + 19]? = some (.slice none 0 0) := by rw [hX12];exact el_cell (R := 0) hA1 (Nat.le_of_ble_eq_true rfl)
      repeat (first|simp (maxSteps:=1000000)(disch:=(first|omega|(simp only [qI,qJ,qK]<;>omega)|exact qL _)) only [go_sem,↓reduceIte,n0,reduceCtorEq,n1,n2,n3,n4,n5,i0,i1,i2,i3,i4,i5,i6,i7,hxb12,hrc0_2,hrc0_7,hrc0_8,hrc0_9,hrc0_10,hrc0_14,hra0,hri0,exitRQ_ret,exitRQ_exit,Int.toNat_natCast,Nat.mul_one,hcz,fue02_0,fue02_1,fue02_2,fue02_3,fue02_4,fue02_5,fue02_6,fue02_7,fue02_8,fue02_9,fue02_10,fue02_11,fue02_12,fue02_13,fue02_14,fue02_15,hst12_2,hld12_19,Array.getElem?_setIfInBounds_ne]|refine qA rfl ?_|apply qB|refine qC rfl ?_|apply qD|apply qE|apply qF|apply qG|apply qH)
      have hEu : Ext w12 (wr (w12.alloc (.cells #[.int .u8 0,.int .u8 0,.int .u8 0,.int .u8 0,.int .u8 0,.int .u8 0,.int .u8 0,.int .u8 0,.int .u8 0,.int .u8 0,.int .u8 0,.int .u8 0,.int .u8 0,.int .u8 0,.int .u8 0,.int .u8 0] 77)) w12.heap.size 0 [ue02_0,ue02_1,ue02_2,ue02_3,ue02_4,ue02_5,ue02_6,ue02_7,ue02_8,ue02_9,ue02_10,ue02_11,ue02_12,ue02_13,ue02_14,ue02_15]) := (Upd.alloc (Upd.refl _ _) _).wr _ _ (.inl (Nat.le_refl _))
      have hq13 := And.intro (hq12.1.upd hEu (fun h => h) (fun _ _ _ h => h)) (hq12.2.upd hEu fun h => h)
      have hu13 : Upd (fun b => b = rb) w12 (wr (w12.alloc (.cells #[.int .u8 0,.int .u8 0,.int .u8 0,.int .u8 0,.int .u8 0,.int .u8 0,.int .u8 0,.int .u8 0,.int .u8 0,.int .u8 0,.int .u8 0,.int .u8 0,.int .u8 0,.int .u8 0,.int .u8 0,.int .u8 0] 77)) w12.heap.size 0 [ue02_0,ue02_1,ue02_2,ue02_3,ue02_4,ue02_5,ue02_6,ue02_7,ue02_8,ue02_9,ue02_10,ue02_11,ue02_12,ue02_13,ue02_14,ue02_15]) := hEu.mono fun _ h => h.elim
      clear hEu
      generalize (wr (w12.alloc (.cells #[.int .u8 0,.int .u8 0,.int .u8 0,.int .u8 0,.int .u8 0,.int .u8 0,.int .u8 0,.int .u8 0,.int .u8 0,.int .u8 0,.int .u8 0,.int .u8 0,.int .u8 0,.int .u8 0,.int .u8 0,.int .u8 0] 77)) w12.heap.size 0 [ue02_0,ue02_1,ue02_2,ue02_3,ue02_4,ue02_5,ue02_6,ue02_7,ue02_8,ue02_9,ue02_10,ue02_11,ue02_12,ue02_13,ue02_14,ue02_15]) = w13 at *
      have hx1_13 := hu13.blk_some hx1_12 (by omega)
      have hV13 : Upd (fun b => b = R1 ∨ b = rb) w12 w13 := hu13.mono (fun _ h => .inr h)
      have hU13 : Upd (fun b => b = vb ∨ b = rb) w1 w13 := hU12.trans' hV13 fun i hi h => h.elim (fun h => by omega) .inr
      have hz13 := hV13.size
      have hG13 : Glo ev w13 := hG1.updS hU13 hgM1 hgM2
      obtain ⟨X13,hX13,hxb13,hXs13⟩ := el_open (n := 22) hx1_13 hA1 rfl
      generalize hw14 : wr w13 R1 (j1 * 22 + 2) [ue02_0,ue02_1,ue02_2,ue02_3,ue02_4,ue02_5,ue02_6,ue02_7,ue02_8,ue02_9,ue02_10,ue02_11,ue02_12,ue02_13,ue02_14,ue02_15] = w14
      have hS14 : Upd (fun b => b = R1 ∨ b = rb) w13 w14 := by rw [← hw14];exact (Upd.refl _ _).wr _ _ (.inr (.inl rfl))
      have hx1_14 : blk w14 R1 = some ((A1 ++ (([.int .i16 (rdInt .i16 2 s3).1,.pointer ap10,ue02_0,ue02_1,ue02_2,ue02_3,ue02_4,ue02_5,ue02_6,ue02_7,ue02_8,ue02_9,ue02_10,ue02_11,ue02_12,ue02_13,ue02_14,ue02_15,.bool false,.slice none 0 0,.int .i32 (-2147483648),.map none] : List Value) ++ B1)).toArray,80,(0,0)) := by rw [← hw14];exact el_blk (o := 2) hx1_13 hA1 (Nat.le_of_ble_eq_true rfl)
      have hV14 := hS14
      have hU14 : Upd (fun b => b = vb ∨ b = rb) w1 w14 := hU13.trans' hV14 fun i hi h => h.elim (fun h => by omega) .inr
      have hz14 := hV14.size
      have hG14 : Glo ev w14 := hG1.updS hU14 hgM1 hgM2
      have hq14 := Rdr.stored hw14 hq13 (by omega) fun h => by have := (hok _ h).1;first | omega | exact (hok _ h).2 rfl
      obtain ⟨X14,hX14,hxb14,hXs14⟩ := el_open (n := 22) hx1_14 hA1 rfl
      clear hw14
      have hfe0_2 : RepF (RepS true (d + 1)) (szS true (d + 1)) fX2_2 (fun b => (ok b ∨ w1.heap.size ≤ b) ∧ ¬ ownB va0 b) w14 (xe0_2) [ue02_0,ue02_1,ue02_2,ue02_3,ue02_4,ue02_5,ue02_6,ue02_7,ue02_8,ue02_9,ue02_10,ue02_11,ue02_12,ue02_13,ue02_14,ue02_15] := (RepF_uuid rfl).2 hxc.symm
      clear hrd
      have hbe0_3 : (rdL (rdP (d + 1) ver true) (dfP (d + 1)) ver true [fX2_3,frX2_4,fX2_5] s6).2 = none → FB := fun h => hbe0_2 (by rw [rdL_st (by decide) hhe0_2,← hs6];exact h)
      have hhe0_3 : hasS fX2_3 ver = true := hasS_t (by show (0 : Int) ≤ ver;omega) (by show (-1 : Int) < 0 ∨ ver ≤ (-1 : Int);omega)
      obtain ⟨xe0_3,hxe0_3⟩ : ∃ x,x = (rdF (rdP (d + 1) ver true) ver true fX2_3 s6).1 := ⟨_,rfl⟩
      repeat ((first | refine qA rfl ?_|apply qB|refine qC rfl ?_|apply qD|apply qE|apply qF|apply qG|apply qH);try simp (maxSteps:=1000000)(disch:=(first|omega|(simp only [qI,qJ,qK]<;>omega)|exact qL _)) only [go_sem,↓reduceIte,n0,reduceCtorEq,n1,n2,n3,n4,n5,i0,i1,i2,i3,i4,i5,i6,i7,hxb14,hrc0_2,hrc0_7,hrc0_8,hrc0_9,hrc0_10,hrc0_14,hra0,hri0,exitRQ_ret,exitRQ_exit,Int.toNat_natCast,Nat.mul_one])
      have hrd : rdF (rdP (d + 1) ver true) ver true fX2_3 s6 = _ := rdF_bool rfl
      refine (Bool_fn w14 hq14.1 hrok).mono ?_
      rintro _ w15 ⟨rfl,hq15,hu15⟩
      have hx1_15 := hu15.blk_some hx1_14 (by omega)
      have hV15 : Upd (fun b => b = R1 ∨ b = rb) w14 w15 := hu15.mono (fun _ h => .inr h)
      have hU15 : Upd (fun b => b = vb ∨ b = rb) w1 w15 := hU14.trans' hV15 fun i hi h => h.elim (fun h => by omega) .inr
      have hz15 := hV15.size
      have hG15 : Glo ev w15 := hG1.updS hU15 hgM1 hgM2
      obtain ⟨X15,hX15,hxb15,hXs15⟩ := el_open (n := 22) hx1_15 hA1 rfl
      have hst : (rdF (rdP (d + 1) ver true) ver true fX2_3 s6).2 = (rdN 1 s6).2 := by first | (rw [hrd];rfl) | rw [hrd]
      obtain ⟨s7,hs7⟩ : ∃ s,s = (rdF (rdP (d + 1) ver true) ver true fX2_3 s6).2 := ⟨_,rfl⟩
      rw [← hst,← hs7] at hq15
      clear hst
      have hst15_18 : j1 * 22 + 19 ≤ X15.size := by omega
      have hld15_19 : X15[j1 * 22 + 19]? = some (.slice none 0 0) := by rw [hX15];exact el_cell (R := 0) hA1 (Nat.le_of_ble_eq_true rfl)
      repeat ((first | refine qA rfl ?_|apply qB|refine qC rfl ?_|apply qD|apply qE|apply qF|apply qG|apply qH);try simp (maxSteps:=1000000)(disch:=(first|omega|(simp only [qI,qJ,qK]<;>omega)|exact qL _)) only [go_sem,↓reduceIte,n0,reduceCtorEq,n1,n2,n3,n4,n5,i0,i1,i2,i3,i4,i5,i6,i7,hxb15,hrc0_2,hrc0_7,hrc0_8,hrc0_9,hrc0_10,hrc0_14,hra0,hri0,exitRQ_ret,exitRQ_exit,Int.toNat_natCast,Nat.mul_one,hst15_18,hld15_19,Array.getElem?_setIfInBounds_ne])
      generalize hw16 : wr w15 R1 (j1 * 22 + 18) [.bool (!decide (beN (rdN 1 s6).1 = 0))] = w16
      have hS16 : Upd (fun b => b = R1 ∨ b = rb) w15 w16 := by rw [← hw16];exact (Upd.refl _ _).wr _ _ (.inr (.inl rfl))
      have hx1_16 : blk w16 R1 = some ((A1 ++ (([.int .i16 (rdInt .i16 2 s3).1,.pointer ap10,ue02_0,ue02_1,ue02_2,ue02_3,ue02_4,ue02_5,ue02_6,ue02_7,ue02_8,ue02_9,ue02_10,ue02_11,ue02_12,ue02_13,ue02_14,ue02_15,.bool (!decide (beN (rdN 1 s6).1 = 0)),.slice none 0 0,.int .i32 (-2147483648),.map none] : List Value) ++ B1)).toArray,80,(0,0)) := by rw [← hw16];exact el_blk (o := 18) hx1_15 hA1 (Nat.le_of_ble_eq_true rfl)
      have hV16 := hS16
      have hU16 : Upd (fun b => b = vb ∨ b = rb) w1 w16 := hU15.trans' hV16 fun i hi h => h.elim (fun h => by omega) .inr
      have hz16 := hV16.size
      have hG16 : Glo ev w16 := hG1.updS hU16 hgM1 hgM2
      have hq16 := Rdr.stored hw16 hq15 (by omega) fun h => by have := (hok _ h).1;first | omega | exact (hok _ h).2 rfl
      obtain ⟨X16,hX16,hxb16,hXs16⟩ := el_open (n := 22) hx1_16 hA1 rfl
      clear hw16
      have hfe0_3 : RepF (RepS true (d + 1)) (szS true (d + 1)) fX2_3 (fun b => (ok b ∨ w1.heap.size ≤ b) ∧ ¬ ownB va0 b) w16 (xe0_3) [.bool (!decide (beN (rdN 1 s6).1 = 0))] := (RepF_num (by decide)).2 (by rw [hxe0_3,hrd];exact congrArg (fun x => [x]) (numC_bool _).symm)
      clear hrd
      have hbe0_4 : (rdL (rdP (d + 1) ver true) (dfP (d + 1)) ver true [frX2_4,fX2_5] s7).2 = none → FB := fun h => hbe0_3 (by rw [rdL_st (by decide) hhe0_3,← hs7];exact h)
      have hhe0_4 : hasS frX2_4 ver = true := hasS_t (by show (0 : Int) ≤ ver;omega) (by show (-1 : Int) < 0 ∨ ver ≤ (-1 : Int);omega)
      obtain ⟨xe0_4,hxe0_4⟩ : ∃ x,x = (rdF (rdP (d + 1) ver true) ver true frX2_4 s7).1 := ⟨_,rfl⟩
      have hld16_19 : X16[j1 * 22 + 19]? = some (.slice none 0 0) := by rw [hX16];exact el_cell (R := 0) hA1 (Nat.le_of_ble_eq_true rfl)
      repeat ((first | refine qA rfl ?_|apply qB|refine qC rfl ?_|apply qD|apply qE|apply qF|apply qG|apply qH);try simp (maxSteps:=1000000)(disch:=(first|omega|(simp only [qI,qJ,qK]<;>omega)|exact qL _)) only [go_sem,↓reduceIte,n0,reduceCtorEq,n1,n2,n3,n4,n5,i0,i1,i2,i3,i4,i5,i6,i7,hxb16,hrc0_2,hrc0_7,hrc0_8,hrc0_9,hrc0_10,hrc0_14,hra0,hri0,exitRQ_ret,exitRQ_exit,Int.toNat_natCast,Nat.mul_one,hld16_19])
      refine (RCompactArrayLen_fn w16 hq16.1 hrok hG16.1 hgrb).mono ?_
      rintro _ w17 ⟨rfl,hq17,hu17⟩
      have hx1_17 := hu17.blk_some hx1_16 (by omega)
      have hV17 : Upd (fun b => b = R1 ∨ b = rb) w16 w17 := hu17.mono (fun _ h => .inr h)
      have hU17 : Upd (fun b => b = vb ∨ b = rb) w1 w17 := hU16.trans' hV17 fun i hi h => h.elim (fun h => by omega) .inr
      have hz17 := hV17.size
      have hG17 : Glo ev w17 := hG1.updS hU17 hgM1 hgM2
      obtain ⟨X17,hX17,hxb17,hXs17⟩ := el_open (n := 22) hx1_17 hA1 rfl
      obtain ⟨s8,hs8⟩ : ∃ s,s = (rdALen true s7).2 := ⟨_,rfl⟩
      rw [← hs8] at hq17
      have hyr1 := rdALen_rng true s7
      generalize hy1 : (rdALen true s7).1 = y1 at *
      obtain ⟨N1,hN1⟩ : ∃ N,N = y1.toNat := ⟨_,rfl⟩
      have hlb1 : (rdMany (rd1 (rdP (d + 1) ver true) frX2_4.of frX2_4.sub false true) N1 s8).2 = none → FB := fun h => hbe0_4 (by rw [rdL_st (by decide) hhe0_4];exact rdL_bad (rdF_listbad rfl (by rw [hy1,← hN1,← hs8];exact h)))
      repeat ((first | refine W.seqR rfl ?_ | refine W.seq ?_ | refine W.regR rfl ?_ | refine W.block ?_ | refine W.skip ?_ | refine W.ret ?_ | refine W.exit ?_);try simp (maxSteps:=1000000)(disch:=(first|omega|(simp only [qI,qJ,qK]<;>omega)|exact qL _)) only [go_sem,↓reduceIte,n0,reduceCtorEq,n1,n2,n3,n4,n5,i0,i1,i2,i3,i4,i5,i6,i7,hxb17,hrc0_2,hrc0_7,hrc0_8,hrc0_9,hrc0_10,hrc0_14,hra0,hri0,exitRQ_ret,exitRQ_exit,Int.toNat_natCast,Nat.mul_one])
      refine (ROk_fn w17 hq17.1).mono ?_
      rintro _ wz ⟨rfl,hez⟩
      rw [hez]
      clear hez wz
      by_cases hsn1 : s8 = none
      · have hso : s8.isSome = false := by rw [hsn1];rfl
        repeat (first|simp (maxSteps:=1000000)(disch:=(first|omega|(simp only [qI,qJ,qK]<;>omega)|exact qL _)) only [go_sem,↓reduceIte,n0,reduceCtorEq,n1,n2,n3,n4,n5,i0,i1,i2,i3,i4,i5,i6,i7,hxb17,hrc0_2,hrc0_7,hrc0_8,hrc0_9,hrc0_10,hrc0_14,hra0,hri0,exitRQ_ret,exitRQ_exit,Int.toNat_natCast,Nat.mul_one,hso]|refine qA rfl ?_|apply qB|refine qC rfl ?_|apply qD|apply qE|apply qF|apply qG|apply qH)
        refine (RComplete_fn w17 hq17.1 hG17.2).mono ?_
        rintro _ wz ⟨rfl,hez⟩
        rw [hez]
        repeat (first|simp (maxSteps:=1000000)(disch:=(first|omega|(simp only [qI,qJ,qK]<;>omega)|exact qL _)) only [go_sem,↓reduceIte,n0,reduceCtorEq,n1,n2,n3,n4,n5,i0,i1,i2,i3,i4,i5,i6,i7,hxb17,hrc0_2,hrc0_7,hrc0_8,hrc0_9,hrc0_10,hrc0_14,hra0,hri0,exitRQ_ret,exitRQ_exit,Int.toNat_natCast,Nat.mul_one]|refine qA rfl ?_|apply qB|refine qC rfl ?_|apply qD|apply qE|apply qF|apply qG|apply qH)
        rw [errV_none hsn1]
        exact ReadQ.bad (Eq.mp hFB (hlb1 (by rw [hsn1];exact rdMany_none rd1P_none _))) (hbase.trans' hU17 fun i hi h => h.elim id fun h => by omega)
      have hso1 : s8.isSome = true := isSome_some hsn1
      try simp (maxSteps:=1000000)(disch:=(first|omega|(simp only [qI,qJ,qK]<;>omega)|exact qL _)) only [go_sem,↓reduceIte,n0,reduceCtorEq,n1,n2,n3,n4,n5,i0,i1,i2,i3,i4,i5,i6,i7,hxb17,hrc0_2,hrc0_7,hrc0_8,hrc0_9,hrc0_10,hrc0_14,hra0,hri0,exitRQ_ret,exitRQ_exit,Int.toNat_natCast,Nat.mul_one,hso1]
      repeat ((first | refine W.seqR rfl ?_ | refine W.seq ?_ | refine W.regR rfl ?_ | refine W.block ?_ | refine W.skip ?_ | refine W.ret ?_ | refine W.exit ?_);try simp (maxSteps:=1000000)(disch:=(first|omega|(simp only [qI,qJ,qK]<;>omega)|exact qL _)) only [go_sem,↓reduceIte,n0,reduceCtorEq,n1,n2,n3,n4,n5,i0,i1,i2,i3,i4,i5,i6,i7,hxb17,hrc0_2,hrc0_7,hrc0_8,hrc0_9,hrc0_10,hrc0_14,hra0,hri0,exitRQ_ret,exitRQ_exit,Int.toNat_natCast,Nat.mul_one,hso1])
      refine W.condK ?_
      try simp (maxSteps:=1000000)(disch:=(first|omega|(simp only [qI,qJ,qK]<;>omega)|exact qL _)) only [go_sem,↓reduceIte,n0,reduceCtorEq,n1,n2,n3,n4,n5,i0,i1,i2,i3,i4,i5,i6,i7,hxb17,hrc0_2,hrc0_7,hrc0_8,hrc0_9,hrc0_10,hrc0_14,hra0,hri0,exitRQ_ret,exitRQ_exit,Int.toNat_natCast,Nat.mul_one,hso1]
      repeat ((first | refine W.seqR rfl ?_ | refine W.seq ?_ | refine W.regR rfl ?_ | refine W.block ?_ | refine W.skip ?_ | refine W.ret ?_ | refine W.exit ?_);try simp (maxSteps:=1000000)(disch:=(first|omega|(simp only [qI,qJ,qK]<;>omega)|exact qL _)) only [go_sem,↓reduceIte,n0,reduceCtorEq,n1,n2,n3,n4,n5,i0,i1,i2,i3,i4,i5,i6,i7,hxb17,hrc0_2,hrc0_7,hrc0_8,hrc0_9,hrc0_10,hrc0_14,hra0,hri0,exitRQ_ret,exitRQ_exit,Int.toNat_natCast,Nat.mul_one,hso1,slBase_00])
      refine W.normJ (RowQ [(2,.bool false),(7,.pointer (some ⟨rb,0,none⟩)),(8,.int .i16 ver),(9,.bool true),(10,.pointer (some ⟨vb,0,none⟩)),(14,.int .i32 y0),(13,.slice (some ⟨R1,0,none⟩) N0 q1),(15,.int .i32 j1),(17,.pointer (some ⟨R1,j1 * 22,none⟩)),(24,.int .i32 y1)] 23 (fun va w' => LstI RT (rd1 (rdP (d + 1) ver true) frX2_4.of frX2_4.sub false true) (Rep1 (RepS true (d + 1)) frX2_4.of frX2_4.sub) 10 88 [.int .i16 0,.int .i32 0,.int .i32 0,.int .i32 0,.slice none 0 0,.slice none 0 0,.slice none 0 0,.slice none 0 0,.slice none 0 0,.map none] w17.heap.size N1 ok (fun b => (ok b ∨ w1.heap.size ≤ b) ∧ ¬ ownB va0 b) rb w17 s8 va 0 s8 [] [] w' ∧ (N1 = 0 → if nilS frX2_4 ver y1 = true then va = .slice none 0 0 else ∃ a,va = .slice (some a) 0 0))) ?_ ?_
      · by_cases hy0 : (0 : Int) < y1
        · have hyv : Value.int .i32 y1 = .int .i32 ((N1 : Nat) : Int) := by rw [show y1 = ((N1 : Nat) : Int) by omega]
          repeat ((first | refine qA rfl ?_|apply qB|refine qC rfl ?_|apply qD|apply qE|apply qF|apply qG|apply qH);try simp (maxSteps:=1000000)(disch:=(first|omega|(simp only [qI,qJ,qK]<;>omega)|exact qL _)) only [go_sem,↓reduceIte,n0,reduceCtorEq,n1,n2,n3,n4,n5,i0,i1,i2,i3,i4,i5,i6,i7,hxb17,hrc0_2,hrc0_7,hrc0_8,hrc0_9,hrc0_10,hrc0_14,hra0,hri0,exitRQ_ret,exitRQ_exit,Int.toNat_natCast,Nat.mul_one])
          refine wp_appendZ (m := N1) utQ_78 utQ_21 inQ_88 (by decide) (by first | rfl | simp (maxSteps:=1000000)(disch:=(first|omega|(simp only [qI,qJ,qK]<;>omega)|exact qL _)) only [go_sem,↓reduceIte,n0,reduceCtorEq,n1,n2,n3,n4,n5,i0,i1,i2,i3,i4,i5,i6,i7,hrc0_2,hrc0_7,hrc0_8,hrc0_9,hrc0_10,hrc0_14,hra0,hri0]) (by first | exact hyv | (simp (maxSteps:=1000000)(disch:=(first|omega|(simp only [qI,qJ,qK]<;>omega)|exact qL _)) only [go_sem,↓reduceIte,n0,reduceCtorEq,n1,n2,n3,n4,n5,i0,i1,i2,i3,i4,i5,i6,i7,hrc0_2,hrc0_7,hrc0_8,hrc0_9,hrc0_10,hrc0_14,hra0,hri0];exact hyv)) (by omega) (by omega) (by decide) ?_
          intro q rest hq1
          have hEw : Ext w17 (w17.drew.alloc (.cells (zs [.int .i16 0,.int .i32 0,.int .i32 0,.int .i32 0,.slice none 0 0,.slice none 0 0,.slice none 0 0,.slice none 0 0,.slice none 0 0,.map none] N1 ++ rest).toArray 88)) := (Upd.refl _ _).drew.alloc _
          repeat (first|simp (maxSteps:=1000000)(disch:=(first|omega|(simp only [qI,qJ,qK]<;>omega)|exact qL _)) only [go_sem,↓reduceIte,n0,reduceCtorEq,n1,n2,n3,n4,n5,i0,i1,i2,i3,i4,i5,i6,i7,hxb17,hrc0_2,hrc0_7,hrc0_8,hrc0_9,hrc0_10,hrc0_14,hra0,hri0,exitRQ_ret,exitRQ_exit,Int.toNat_natCast,Nat.mul_one]|refine qA rfl ?_|apply qB|refine qC rfl ?_|apply qD|apply qE|apply qF|apply qG|apply qH)
          exact ⟨(by simp (maxSteps:=1000000)(disch:=(first|omega|(simp only [qI,qJ,qK]<;>omega)|exact qL _)) only [go_sem,↓reduceIte,n0,reduceCtorEq,n1,n2,n3,n4,n5,i0,i1,i2,i3,i4,i5,i6,i7,Holds_nil,Holds_cons,hrc0_2,hrc0_7,hrc0_8,hrc0_9,hrc0_10,hrc0_14,hra0,hri0]),.slice (some ⟨w17.heap.size,0,none⟩) N1 q,(by simp (maxSteps:=1000000)(disch:=(first|omega|(simp only [qI,qJ,qK]<;>omega)|exact qL _)) only [go_sem,↓reduceIte,n0,reduceCtorEq,n1,n2,n3,n4,n5,i0,i1,i2,i3,i4,i5,i6,i7,hrc0_2,hrc0_7,hrc0_8,hrc0_9,hrc0_10,hrc0_14,hra0,hri0]),LstI.start (RowJ.start (by omega) hq1 (by show w17.heap.size ≤ w17.drew.heap.size;rw [size_drew];omega) (blk_alloc_new rfl)) ⟨hq17.1.upd hEw (fun h => h) (fun _ _ _ h => h),hq17.2.upd hEw fun h => h⟩ (hEw.mono fun _ h => h.elim),fun h0 => by omega⟩
        · repeat ((first | refine qA rfl ?_|apply qB|refine qC rfl ?_|apply qD|apply qE|apply qF|apply qG|apply qH);try simp (maxSteps:=1000000)(disch:=(first|omega|(simp only [qI,qJ,qK]<;>omega)|exact qL _)) only [go_sem,↓reduceIte,n0,reduceCtorEq,n1,n2,n3,n4,n5,i0,i1,i2,i3,i4,i5,i6,i7,hxb17,hrc0_2,hrc0_7,hrc0_8,hrc0_9,hrc0_10,hrc0_14,hra0,hri0,exitRQ_ret,exitRQ_exit,Int.toNat_natCast,Nat.mul_one])
          exact ⟨(by simp (maxSteps:=1000000)(disch:=(first|omega|(simp only [qI,qJ,qK]<;>omega)|exact qL _)) only [go_sem,↓reduceIte,n0,reduceCtorEq,n1,n2,n3,n4,n5,i0,i1,i2,i3,i4,i5,i6,i7,Holds_nil,Holds_cons,hrc0_2,hrc0_7,hrc0_8,hrc0_9,hrc0_10,hrc0_14,hra0,hri0]),.slice none 0 0,(by simp (maxSteps:=1000000)(disch:=(first|omega|(simp only [qI,qJ,qK]<;>omega)|exact qL _)) only [go_sem,↓reduceIte,n0,reduceCtorEq,n1,n2,n3,n4,n5,i0,i1,i2,i3,i4,i5,i6,i7,hrc0_2,hrc0_7,hrc0_8,hrc0_9,hrc0_10,hrc0_14,hra0,hri0,slBase_00]),LstI.start (RowJ.zero (by omega) (fun _ h => by cases h)) hq17 (Upd.refl _ _),fun _ => by rw [nilS_plain (by decide) (by omega)];exact rfl⟩
      rintro ρ w18 ⟨⟨hrb1_2,hrb1_7,hrb1_8,hrb1_9,hrb1_10,hrb1_14,hrb1_13,hrb1_15,hrb1_17,hrb1_24,-⟩,va1,hra1,hL1,hnc1⟩
      repeat ((first | refine qA rfl ?_|apply qB|refine qC rfl ?_|apply qD|apply qE|apply qF|apply qG|apply qH);try simp (maxSteps:=1000000)(disch:=(first|omega|(simp only [qI,qJ,qK]<;>omega)|exact qL _)) only [go_sem,↓reduceIte,n0,reduceCtorEq,n1,n2,n3,n4,n5,i0,i1,i2,i3,i4,i5,i6,i7,hxb17,hrb1_2,hrb1_7,hrb1_8,hrb1_9,hrb1_10,hrb1_14,hrb1_13,hrb1_15,hrb1_17,hrb1_24,hra1,exitRQ_ret,exitRQ_exit,Int.toNat_natCast,Nat.mul_one])
      refine W.exitRJ 2 (EndQ [(2,.bool false),(7,.pointer (some ⟨rb,0,none⟩)),(8,.int .i16 ver),(9,.bool true),(10,.pointer (some ⟨vb,0,none⟩)),(14,.int .i32 y0),(13,.slice (some ⟨R1,0,none⟩) N0 q1),(15,.int .i32 j1),(17,.pointer (some ⟨R1,j1 * 22,none⟩)),(24,.int .i32 y1),(23,va1)] (fun w' => ∃ s xs css,LstI RT (rd1 (rdP (d + 1) ver true) frX2_4.of frX2_4.sub false true) (Rep1 (RepS true (d + 1)) frX2_4.of frX2_4.sub) 10 88 [.int .i16 0,.int .i32 0,.int .i32 0,.int .i32 0,.slice none 0 0,.slice none 0 0,.slice none 0 0,.slice none 0 0,.slice none 0 0,.map none] w17.heap.size N1 ok (fun b => (ok b ∨ w1.heap.size ≤ b) ∧ ¬ ownB va0 b) rb w17 s8 va1 N1 s xs css w')) (W.loop (LoopQ [(2,.bool false),(7,.pointer (some ⟨rb,0,none⟩)),(8,.int .i16 ver),(9,.bool true),(10,.pointer (some ⟨vb,0,none⟩)),(14,.int .i32 y0),(13,.slice (some ⟨R1,0,none⟩) N0 q1),(15,.int .i32 j1),(17,.pointer (some ⟨R1,j1 * 22,none⟩)),(24,.int .i32 y1),(23,va1)] 25 (fun j w' => ∃ s xs css,LstI RT (rd1 (rdP (d + 1) ver true) frX2_4.of frX2_4.sub false true) (Rep1 (RepS true (d + 1)) frX2_4.of frX2_4.sub) 10 88 [.int .i16 0,.int .i32 0,.int .i32 0,.int .i32 0,.slice none 0 0,.slice none 0 0,.slice none 0 0,.slice none 0 0,.slice none 0 0,.map none] w17.heap.size N1 ok (fun b => (ok b ∨ w1.heap.size ≤ b) ∧ ¬ ownB va0 b) rb w17 s8 va1 j s xs css w')) (fun ρ _ => N1 - (RowKit.intOf (ρ 25)).toNat) ?_ ?_) ?_
      · exact ⟨(by simp (maxSteps:=1000000)(disch:=(first|omega|(simp only [qI,qJ,qK]<;>omega)|exact qL _)) only [go_sem,↓reduceIte,n0,reduceCtorEq,n1,n2,n3,n4,n5,i0,i1,i2,i3,i4,i5,i6,i7,Holds_nil,Holds_cons,hrb1_2,hrb1_7,hrb1_8,hrb1_9,hrb1_10,hrb1_14,hrb1_13,hrb1_15,hrb1_17,hrb1_24,hra1]),0,(by simp (maxSteps:=1000000)(disch:=(first|omega|(simp only [qI,qJ,qK]<;>omega)|exact qL _)) only [go_sem,↓reduceIte,n0,reduceCtorEq,n1,n2,n3,n4,n5,i0,i1,i2,i3,i4,i5,i6,i7,hrb1_2,hrb1_7,hrb1_8,hrb1_9,hrb1_10,hrb1_14,hrb1_13,hrb1_15,hrb1_17,hrb1_24,hra1];all_goals rfl),s8,[],[],hL1⟩
      · rintro ρ w19 ⟨⟨hrc1_2,hrc1_7,hrc1_8,hrc1_9,hrc1_10,hrc1_14,hrc1_13,hrc1_15,hrc1_17,hrc1_24,hrc1_23,-⟩,j2,hri1,s9,xs1,css1,hL1⟩
        have hj1 := hL1.le
        have hq19 := hL1.rd
        have hU19 : Upd (fun b => b = vb ∨ b = rb) w1 w19 := hU17.trans' hL1.upd fun i _ h => .inr h
        have hz19 := hL1.upd.size
        have hG19 : Glo ev w19 := hG1.updS hU19 hgM1 hgM2
        by_cases hlt1 : j2 < N1
        · obtain ⟨R2,q2,B2,hva2,hNq2,hLR2,hA2,hx2_19,hnext2⟩ := hL1.row.next hlt1
          have hRl2 := blk_lt hx2_19
          generalize css1.flatten = A2 at hA2 hx2_19 hnext2
          replace hra1 : ρ 23 = .slice (some ⟨R2,0,none⟩) N1 q2 := hrc1_23.trans hva2
          have hown2 : ∀ b,ownB va1 b → w17.heap.size ≤ b ∧ b < w19.heap.size := fun b h => hL1.row.own h
          have hoM2 : ∀ b,(fun b => (fun b => (ok b ∨ w1.heap.size ≤ b) ∧ ¬ ownB va0 b) b ∧ ¬ ownB va1 b) b → ¬ (b = R2 ∨ b = rb) := fun b hk h => h.elim (fun e => hk.2 ⟨_,_,_,hva2,e⟩) (fun e => hoM1 b hk.1 (.inr e))
          obtain ⟨X19,hX19,hxb19,hXs19⟩ := el_open (n := 10) hx2_19 hA2 rfl
          repeat ((first | refine qA rfl ?_|apply qB|refine qC rfl ?_|apply qD|apply qE|apply qF|apply qG|apply qH);try simp (maxSteps:=1000000)(disch:=(first|omega|(simp only [qI,qJ,qK]<;>omega)|exact qL _)) only [go_sem,↓reduceIte,n0,reduceCtorEq,n1,n2,n3,n4,n5,i0,i1,i2,i3,i4,i5,i6,i7,hxb19,hrc1_2,hrc1_7,hrc1_8,hrc1_9,hrc1_10,hrc1_14,hrc1_13,hrc1_15,hrc1_17,hrc1_24,hra1,hri1,exitRQ_ret,exitRQ_exit,Int.toNat_natCast,Nat.mul_one])
          refine (DefaultEX0_fn w19 hx2_19 hA2).mono ?_
          rintro _ w20 ⟨hx2_20,hu20⟩
          have hq20 := And.intro (hq19.1.upd hu20 (by omega) (fun b _ hk e => by have := (hok b hk).1;omega)) (hq19.2.upd hu20 (by omega))
          have hV20 : Upd (fun b => b = R2 ∨ b = rb) w19 w20 := hu20.mono (fun _ h => .inl h)
          have hU20 : Upd (fun b => b = vb ∨ b = rb) w1 w20 := hU19.trans' hV20 fun i hi h => h.elim (fun h => by omega) .inr
          have hz20 := hV20.size
          have hG20 : Glo ev w20 := hG1.updS hU20 hgM1 hgM2
          obtain ⟨X20,hX20,hxb20,hXs20⟩ := el_open (n := 10) hx2_20 hA2 rfl
          have hbe0e1_0 : (rdL (rdP d ver true) (dfP d) ver true [fX0_0,fX0_1,fX0_2,fX0_3,fX0_4,fX0_5,frX0_6,frX0_7,fX0_8] s9).2 = none → FB := fun h => hlb1 (hL1.bad hlt1 rd1P_none (by show (rd1 (rdP (d + 1) ver true) 10 fsr_X0 false true s9).2 = none;rw [rd1_part];exact rdP_bad h))
          have hhe0e1_0 : hasS fX0_0 ver = true := hasS_t (by show (0 : Int) ≤ ver;omega) (by show (-1 : Int) < 0 ∨ ver ≤ (-1 : Int);omega)
          obtain ⟨xe0e1_0,hxe0e1_0⟩ : ∃ x,x = (rdF (rdP d ver true) ver true fX0_0 s9).1 := ⟨_,rfl⟩
          repeat ((first | refine qA rfl ?_|apply qB|refine qC rfl ?_|apply qD|apply qE|apply qF|apply qG|apply qH);try simp (maxSteps:=1000000)(disch:=(first|omega|(simp only [qI,qJ,qK]<;>omega)|exact qL _)) only [go_sem,↓reduceIte,n0,reduceCtorEq,n1,n2,n3,n4,n5,i0,i1,i2,i3,i4,i5,i6,i7,hxb20,hrc1_2,hrc1_7,hrc1_8,hrc1_9,hrc1_10,hrc1_14,hrc1_13,hrc1_15,hrc1_17,hrc1_24,hra1,hri1,exitRQ_ret,exitRQ_exit,Int.toNat_natCast,Nat.mul_one])
          have hrd : rdF (rdP d ver true) ver true fX0_0 s9 = _ := rdF_num 2 rfl (by decide)
          refine (Int16_fn w20 hq20.1 hrok hG20.1 hgrb).mono ?_
          rintro _ w21 ⟨rfl,hq21,hu21⟩
          have hx2_21 := hu21.blk_some hx2_20 (by omega)
          have hV21 : Upd (fun b => b = R2 ∨ b = rb) w20 w21 := hu21.mono (fun _ h => .inr h)
          have hU21 : Upd (fun b => b = vb ∨ b = rb) w1 w21 := hU20.trans' hV21 fun i hi h => h.elim (fun h => by omega) .inr
          have hz21 := hV21.size
          have hG21 : Glo ev w21 := hG1.updS hU21 hgM1 hgM2
          obtain ⟨X21,hX21,hxb21,hXs21⟩ := el_open (n := 10) hx2_21 hA2 rfl
          have hst : (rdF (rdP d ver true) ver true fX0_0 s9).2 = (rdInt .i16 2 s9).2 := by first | (rw [hrd];rfl) | rw [hrd]
          obtain ⟨s10,hs10⟩ : ∃ s,s = (rdF (rdP d ver true) ver true fX0_0 s9).2 := ⟨_,rfl⟩
          rw [← hst,← hs10] at hq21
          clear hst
          have hst21_0 : j2 * 10 + 1 ≤ X21.size := by omega
          have hld21_4 : X21[j2 * 10 + 4]? = some (.slice none 0 0) := by rw [hX21];exact el_cell (R := 0) hA2 (Nat.le_of_ble_eq_true rfl)
          have hld21_5 : X21[j2 * 10 + 5]? = some (.slice none 0 0) := by rw [hX21];exact el_cell (R := 0) hA2 (Nat.le_of_ble_eq_true rfl)
          have hld21_6 : X21[j2 * 10 + 6]? = some (.slice none 0 0) := by rw [hX21];exact el_cell (R := 0) hA2 (Nat.le_of_ble_eq_true rfl)
          have hld21_7 : X21[j2 * 10 + 7]? = some (.slice none 0 0) := by rw [hX21];exact el_cell (R := 0) hA2 (Nat.le_of_ble_eq_true rfl)
          have hld21_8 : X21[j2 * 10 + 8]? = some (.slice none 0 0) := by rw [hX21];exact el_cell (R := 0) hA2 (Nat.le_of_ble_eq_true rfl)
          repeat ((first | refine qA rfl ?_|apply qB|refine qC rfl ?_|apply qD|apply qE|apply qF|apply qG|apply qH);try simp (maxSteps:=1000000)(disch:=(first|omega|(simp only [qI,qJ,qK]<;>omega)|exact qL _)) only [go_sem,↓reduceIte,n0,reduceCtorEq,n1,n2,n3,n4,n5,i0,i1,i2,i3,i4,i5,i6,i7,hxb21,hrc1_2,hrc1_7,hrc1_8,hrc1_9,hrc1_10,hrc1_14,hrc1_13,hrc1_15,hrc1_17,hrc1_24,hra1,hri1,exitRQ_ret,exitRQ_exit,Int.toNat_natCast,Nat.mul_one,hst21_0,hld21_4,hld21_5,hld21_6,hld21_7,hld21_8,Array.getElem?_setIfInBounds_ne])
          generalize hw22 : wr w21 R2 (j2 * 10) [.int .i16 (rdInt .i16 2 s9).1] = w22
          have hS22 : Upd (fun b => b = R2 ∨ b = rb) w21 w22 := by rw [← hw22];exact (Upd.refl _ _).wr _ _ (.inr (.inl rfl))
          have hx2_22 : blk w22 R2 = some ((A2 ++ (([.int .i16 (rdInt .i16 2 s9).1,.int .i32 0,.int .i32 0,.int .i32 (-1),.slice none 0 0,.slice none 0 0,.slice none 0 0,.slice none 0 0,.slice none 0 0,.map none] : List Value) ++ B2)).toArray,88,(0,0)) := by rw [← hw22];exact el_blk0 hx2_21 hA2 (Nat.le_of_ble_eq_true rfl)
          have hV22 := hS22
          have hU22 : Upd (fun b => b = vb ∨ b = rb) w1 w22 := hU21.trans' hV22 fun i hi h => h.elim (fun h => by omega) .inr
          have hz22 := hV22.size
          have hG22 : Glo ev w22 := hG1.updS hU22 hgM1 hgM2
          have hq22 := Rdr.stored hw22 hq21 (by omega) fun h => by have := (hok _ h).1;first | omega | exact (hok _ h).2 rfl
          obtain ⟨X22,hX22,hxb22,hXs22⟩ := el_open (n := 10) hx2_22 hA2 rfl
          clear hw22
          have hfe0e1_0 : RepF (RepS true d) (szS true d) fX0_0 (fun b => (fun b => (ok b ∨ w1.heap.size ≤ b) ∧ ¬ ownB va0 b) b ∧ ¬ ownB va1 b) w22 (xe0e1_0) [.int .i16 (rdInt .i16 2 s9).1] := (RepF_num (by decide)).2 (by rw [hxe0e1_0,hrd];exact congrArg (fun x => [x]) (numC_rd 2 (by decide) 2 s9).symm)
          clear hrd
          have hbe0e1_1 : (rdL (rdP d ver true) (dfP d) ver true [fX0_1,fX0_2,fX0_3,fX0_4,fX0_5,frX0_6,frX0_7,fX0_8] s10).2 = none → FB := fun h => hbe0e1_0 (by rw [rdL_st (by decide) hhe0e1_0,← hs10];exact h)
          have hhe0e1_1 : hasS fX0_1 ver = true := hasS_t (by show (0 : Int) ≤ ver;omega) (by show (-1 : Int) < 0 ∨ ver ≤ (-1 : Int);omega)
          obtain ⟨xe0e1_1,hxe0e1_1⟩ : ∃ x,x = (rdF (rdP d ver true) ver true fX0_1 s10).1 := ⟨_,rfl⟩
          repeat ((first | refine qA rfl ?_|apply qB|refine qC rfl ?_|apply qD|apply qE|apply qF|apply qG|apply qH);try simp (maxSteps:=1000000)(disch:=(first|omega|(simp only [qI,qJ,qK]<;>omega)|exact qL _)) only [go_sem,↓reduceIte,n0,reduceCtorEq,n1,n2,n3,n4,n5,i0,i1,i2,i3,i4,i5,i6,i7,hxb22,hrc1_2,hrc1_7,hrc1_8,hrc1_9,hrc1_10,hrc1_14,hrc1_13,hrc1_15,hrc1_17,hrc1_24,hra1,hri1,exitRQ_ret,exitRQ_exit,Int.toNat_natCast,Nat.mul_one])
          have hrd : rdF (rdP d ver true) ver true fX0_1 s10 = _ := rdF_num 3 rfl (by decide)
          refine (Int32_fn w22 hq22.1 hrok hG22.1 hgrb).mono ?_
          rintro _ w23 ⟨rfl,hq23,hu23⟩
          have hx2_23 := hu23.blk_some hx2_22 (by omega)
          have hV23 : Upd (fun b => b = R2 ∨ b = rb) w22 w23 := hu23.mono (fun _ h => .inr h)
          have hU23 : Upd (fun b => b = vb ∨ b = rb) w1 w23 := hU22.trans' hV23 fun i hi h => h.elim (fun h => by omega) .inr
          have hz23 := hV23.size
          have hG23 : Glo ev w23 := hG1.updS hU23 hgM1 hgM2
          obtain ⟨X23,hX23,hxb23,hXs23⟩ := el_open (n := 10) hx2_23 hA2 rfl
          have hst : (rdF (rdP d ver true) ver true fX0_1 s10).2 = (rdInt .i32 4 s10).2 := by first | (rw [hrd];rfl) | rw [hrd]
          obtain ⟨s11,hs11⟩ : ∃ s,s = (rdF (rdP d ver true) ver true fX0_1 s10).2 := ⟨_,rfl⟩
          rw [← hst,← hs11] at hq23
          clear hst
          have hst23_1 : j2 * 10 + 2 ≤ X23.size := by omega
          have hld23_4 : X23[j2 * 10 + 4]? = some (.slice none 0 0) := by rw [hX23];exact el_cell (R := 0) hA2 (Nat.le_of_ble_eq_true rfl)
          have hld23_5 : X23[j2 * 10 + 5]? = some (.slice none 0 0) := by rw [hX23];exact el_cell (R := 0) hA2 (Nat.le_of_ble_eq_true rfl)
          have hld23_6 : X23[j2 * 10 + 6]? = some (.slice none 0 0) := by rw [hX23];exact el_cell (R := 0) hA2 (Nat.le_of_ble_eq_true rfl)
          have hld23_7 : X23[j2 * 10 + 7]? = some (.slice none 0 0) := by rw [hX23];exact el_cell (R := 0) hA2 (Nat.le_of_ble_eq_true rfl)
          have hld23_8 : X23[j2 * 10 + 8]? = some (.slice none 0 0) := by rw [hX23];exact el_cell (R := 0) hA2 (Nat.le_of_ble_eq_true rfl)
          repeat ((first | refine qA rfl ?_|apply qB|refine qC rfl ?_|apply qD|apply qE|apply qF|apply qG|apply qH);try simp (maxSteps:=1000000)(disch:=(first|omega|(simp only [qI,qJ,qK]<;>omega)|exact qL _)) only [go_sem,↓reduceIte,n0,reduceCtorEq,n1,n2,n3,n4,n5,i0,i1,i2,i3,i4,i5,i6,i7,hxb23,hrc1_2,hrc1_7,hrc1_8,hrc1_9,hrc1_10,hrc1_14,hrc1_13,hrc1_15,hrc1_17,hrc1_24,hra1,hri1,exitRQ_ret,exitRQ_exit,Int.toNat_natCast,Nat.mul_one,hst23_1,hld23_4,hld23_5,hld23_6,hld23_7,hld23_8,Array.getElem?_setIfInBounds_ne])
          generalize hw24 : wr w23 R2 (j2 * 10 + 1) [.int .i32 (rdInt .i32 4 s10).1] = w24
          have hS24 : Upd (fun b => b = R2 ∨ b = rb) w23 w24 := by rw [← hw24];exact (Upd.refl _ _).wr _ _ (.inr (.inl rfl))
          have hx2_24 : blk w24 R2 = some ((A2 ++ (([.int .i16 (rdInt .i16 2 s9).1,.int .i32 (rdInt .i32 4 s10).1,.int .i32 0,.int .i32 (-1),.slice none 0 0,.slice none 0 0,.slice none 0 0,.slice none 0 0,.slice none 0 0,.map none] : List Value) ++ B2)).toArray,88,(0,0)) := by rw [← hw24];exact el_blk (o := 1) hx2_23 hA2 (Nat.le_of_ble_eq_true rfl)
          have hV24 := hS24
          have hU24 : Upd (fun b => b = vb ∨ b = rb) w1 w24 := hU23.trans' hV24 fun i hi h => h.elim (fun h => by omega) .inr
          have hz24 := hV24.size
          have hG24 : Glo ev w24 := hG1.updS hU24 hgM1 hgM2
          have hq24 := Rdr.stored hw24 hq23 (by omega) fun h => by have := (hok _ h).1;first | omega | exact (hok _ h).2 rfl
          obtain ⟨X24,hX24,hxb24,hXs24⟩ := el_open (n := 10) hx2_24 hA2 rfl
          clear hw24
          have hfe0e1_1 : RepF (RepS true d) (szS true d) fX0_1 (fun b => (fun b => (ok b ∨ w1.heap.size ≤ b) ∧ ¬ ownB va0 b) b ∧ ¬ ownB va1 b) w24 (xe0e1_1) [.int .i32 (rdInt .i32 4 s10).1] := (RepF_num (by decide)).2 (by rw [hxe0e1_1,hrd];exact congrArg (fun x => [x]) (numC_rd 3 (by decide) 4 s10).symm)
          clear hrd
          have hbe0e1_2 : (rdL (rdP d ver true) (dfP d) ver true [fX0_2,fX0_3,fX0_4,fX0_5,frX0_6,frX0_7,fX0_8] s11).2 = none → FB := fun h => hbe0e1_1 (by rw [rdL_st (by decide) hhe0e1_1,← hs11];exact h)
          have hhe0e1_2 : hasS fX0_2 ver = true := hasS_t (by show (0 : Int) ≤ ver;omega) (by show (-1 : Int) < 0 ∨ ver ≤ (-1 : Int);omega)
          obtain ⟨xe0e1_2,hxe0e1_2⟩ : ∃ x,x = (rdF (rdP d ver true) ver true fX0_2 s11).1 := ⟨_,rfl⟩
          repeat ((first | refine qA rfl ?_|apply qB|refine qC rfl ?_|apply qD|apply qE|apply qF|apply qG|apply qH);try simp (maxSteps:=1000000)(disch:=(first|omega|(simp only [qI,qJ,qK]<;>omega)|exact qL _)) only [go_sem,↓reduceIte,n0,reduceCtorEq,n1,n2,n3,n4,n5,i0,i1,i2,i3,i4,i5,i6,i7,hxb24,hrc1_2,hrc1_7,hrc1_8,hrc1_9,hrc1_10,hrc1_14,hrc1_13,hrc1_15,hrc1_17,hrc1_24,hra1,hri1,exitRQ_ret,exitRQ_exit,Int.toNat_natCast,Nat.mul_one])
          have hrd : rdF (rdP d ver true) ver true fX0_2 s11 = _ := rdF_num 3 rfl (by decide)
          refine (Int32_fn w24 hq24.1 hrok hG24.1 hgrb).mono ?_
          rintro _ w25 ⟨rfl,hq25,hu25⟩
          have hx2_25 := hu25.blk_some hx2_24 (by omega)
          have hV25 : Upd (fun b => b = R2 ∨ b = rb) w24 w25 := hu25.mono (fun _ h => .inr h)
          have hU25 : Upd (fun b => b = vb ∨ b = rb) w1 w25 := hU24.trans' hV25 fun i hi h => h.elim (fun h => by omega) .inr
          have hz25 := hV25.size
          have hG25 : Glo ev w25 := hG1.updS hU25 hgM1 hgM2
          obtain ⟨X25,hX25,hxb25,hXs25⟩ := el_open (n := 10) hx2_25 hA2 rfl
          have hst : (rdF (rdP d ver true) ver true fX0_2 s11).2 = (rdInt .i32 4 s11).2 := by first | (rw [hrd];rfl) | rw [hrd]
          obtain ⟨s12,hs12⟩ : ∃ s,s = (rdF (rdP d ver true) ver true fX0_2 s11).2 := ⟨_,rfl⟩
          rw [← hst,← hs12] at hq25
          clear hst
          have hst25_2 : j2 * 10 + 3 ≤ X25.size := by omega
          have hld25_4 : X25[j2 * 10 + 4]? = some (.slice none 0 0) := by rw [hX25];exact el_cell (R := 0) hA2 (Nat.le_of_ble_eq_true rfl)
          have hld25_5 : X25[j2 * 10 + 5]? = some (.slice none 0 0) := by rw [hX25];exact el_cell (R := 0) hA2 (Nat.le_of_ble_eq_true rfl)
          have hld25_6 : X25[j2 * 10 + 6]? = some (.slice none 0 0) := by rw [hX25];exact el_cell (R := 0) hA2 (Nat.le_of_ble_eq_true rfl)
          have hld25_7 : X25[j2 * 10 + 7]? = some (.slice none 0 0) := by rw [hX25];exact el_cell (R := 0) hA2 (Nat.le_of_ble_eq_true rfl)
          have hld25_8 : X25[j2 * 10 + 8]? = some (.slice none 0 0) := by rw [hX25];exact el_cell (R := 0) hA2 (Nat.le_of_ble_eq_true rfl)
          repeat ((first | refine qA rfl ?_|apply qB|refine qC rfl ?_|apply qD|apply qE|apply qF|apply qG|apply qH);try simp (maxSteps:=1000000)(disch:=(first|omega|(simp only [qI,qJ,qK]<;>omega)|exact qL _)) only [go_sem,↓reduceIte,n0,reduceCtorEq,n1,n2,n3,n4,n5,i0,i1,i2,i3,i4,i5,i6,i7,hxb25,hrc1_2,hrc1_7,hrc1_8,hrc1_9,hrc1_10,hrc1_14,hrc1_13,hrc1_15,hrc1_17,hrc1_24,hra1,hri1,exitRQ_ret,exitRQ_exit,Int.toNat_natCast,Nat.mul_one,hst25_2,hld25_4,hld25_5,hld25_6,hld25_7,hld25_8,Array.getElem?_setIfInBounds_ne])
          generalize hw26 : wr w25 R2 (j2 * 10 + 2) [.int .i32 (rdInt .i32 4 s11).1] = w26
          have hS26 : Upd (fun b => b = R2 ∨ b = rb) w25 w26 := by rw [← hw26];exact (Upd.refl _ _).wr _ _ (.inr (.inl rfl))
          have hx2_26 : blk w26 R2 = some ((A2 ++ (([.int .i16 (rdInt .i16 2 s9).1,.int .i32 (rdInt .i32 4 s10).1,.int .i32 (rdInt .i32 4 s11).1,.int .i32 (-1),.slice none 0 0,.slice none 0 0,.slice none 0 0,.slice none 0 0,.slice none 0 0,.map none] : List Value) ++ B2)).toArray,88,(0,0)) := by rw [← hw26];exact el_blk (o := 2) hx2_25 hA2 (Nat.le_of_ble_eq_true rfl)
          have hV26 := hS26
          have hU26 : Upd (fun b => b = vb ∨ b = rb) w1 w26 := hU25.trans' hV26 fun i hi h => h.elim (fun h => by omega) .inr
          have hz26 := hV26.size
          have hG26 : Glo ev w26 := hG1.updS hU26 hgM1 hgM2
          have hq26 := Rdr.stored hw26 hq25 (by omega) fun h => by have := (hok _ h).1;first | omega | exact (hok _ h).2 rfl
          obtain ⟨X26,hX26,hxb26,hXs26⟩ := el_open (n := 10) hx2_26 hA2 rfl
          clear hw26
          have hfe0e1_2 : RepF (RepS true d) (szS true d) fX0_2 (fun b => (fun b => (ok b ∨ w1.heap.size ≤ b) ∧ ¬ ownB va0 b) b ∧ ¬ ownB va1 b) w26 (xe0e1_2) [.int .i32 (rdInt .i32 4 s11).1] := (RepF_num (by decide)).2 (by rw [hxe0e1_2,hrd];exact congrArg (fun x => [x]) (numC_rd 3 (by decide) 4 s11).symm)
          clear hrd
          have hbe0e1_3 : (rdL (rdP d ver true) (dfP d) ver true [fX0_3,fX0_4,fX0_5,frX0_6,frX0_7,fX0_8] s12).2 = none → FB := fun h => hbe0e1_2 (by rw [rdL_st (by decide) hhe0e1_2,← hs12];exact h)
          have hhe0e1_3 : hasS fX0_3 ver = true := hasS_t (by show (0 : Int) ≤ ver;omega) (by show (-1 : Int) < 0 ∨ ver ≤ (-1 : Int);omega)
          obtain ⟨xe0e1_3,hxe0e1_3⟩ : ∃ x,x = (rdF (rdP d ver true) ver true fX0_3 s12).1 := ⟨_,rfl⟩
          repeat ((first | refine qA rfl ?_|apply qB|refine qC rfl ?_|apply qD|apply qE|apply qF|apply qG|apply qH);try simp (maxSteps:=1000000)(disch:=(first|omega|(simp only [qI,qJ,qK]<;>omega)|exact qL _)) only [go_sem,↓reduceIte,n0,reduceCtorEq,n1,n2,n3,n4,n5,i0,i1,i2,i3,i4,i5,i6,i7,hxb26,hrc1_2,hrc1_7,hrc1_8,hrc1_9,hrc1_10,hrc1_14,hrc1_13,hrc1_15,hrc1_17,hrc1_24,hra1,hri1,exitRQ_ret,exitRQ_exit,Int.toNat_natCast,Nat.mul_one])
          have hrd : rdF (rdP d ver true) ver true fX0_3 s12 = _ := rdF_num 3 rfl (by decide)
          refine (Int32_fn w26 hq26.1 hrok hG26.1 hgrb).mono ?_
          rintro _ w27 ⟨rfl,hq27,hu27⟩
          have hx2_27 := hu27.blk_some hx2_26 (by omega)
          have hV27 : Upd (fun b => b = R2 ∨ b = rb) w26 w27 := hu27.mono (fun _ h => .inr h)
          have hU27 : Upd (fun b => b = vb ∨ b = rb) w1 w27 := hU26.trans' hV27 fun i hi h => h.elim (fun h => by omega) .inr
          have hz27 := hV27.size
          have hG27 : Glo ev w27 := hG1.updS hU27 hgM1 hgM2
          obtain ⟨X27,hX27,hxb27,hXs27⟩ := el_open (n := 10) hx2_27 hA2 rfl
          have hst : (rdF (rdP d ver true) ver true fX0_3 s12).2 = (rdInt .i32 4 s12).2 := by first | (rw [hrd];rfl) | rw [hrd]
          obtain ⟨s13,hs13⟩ : ∃ s,s = (rdF (rdP d ver true) ver true fX0_3 s12).2 := ⟨_,rfl⟩
          rw [← hst,← hs13] at hq27
          clear hst
          have hst27_3 : j2 * 10 + 4 ≤ X27.size := by omega
          have hld27_4 : X27[j2 * 10 + 4]? = some (.slice none 0 0) := by rw [hX27];exact el_cell (R := 0) hA2 (Nat.le_of_ble_eq_true rfl)
          have hld27_5 : X27[j2 * 10 + 5]? = some (.slice none 0 0) := by rw [hX27];exact el_cell (R := 0) hA2 (Nat.le_of_ble_eq_true rfl)
          have hld27_6 : X27[j2 * 10 + 6]? = some (.slice none 0 0) := by rw [hX27];exact el_cell (R := 0) hA2 (Nat.le_of_ble_eq_true rfl)
          have hld27_7 : X27[j2 * 10 + 7]? = some (.slice none 0 0) := by rw [hX27];exact el_cell (R := 0) hA2 (Nat.le_of_ble_eq_true rfl)
          have hld27_8 : X27[j2 * 10 + 8]? = some (.slice none 0 0) := by rw [hX27];exact el_cell (R := 0) hA2 (Nat.le_of_ble_eq_true rfl)
          repeat ((first | refine qA rfl ?_|apply qB|refine qC rfl ?_|apply qD|apply qE|apply qF|apply qG|apply qH);try simp (maxSteps:=1000000)(disch:=(first|omega|(simp only [qI,qJ,qK]<;>omega)|exact qL _)) only [go_sem,↓reduceIte,n0,reduceCtorEq,n1,n2,n3,n4,n5,i0,i1,i2,i3,i4,i5,i6,i7,hxb27,hrc1_2,hrc1_7,hrc1_8,hrc1_9,hrc1_10,hrc1_14,hrc1_13,hrc1_15,hrc1_17,hrc1_24,hra1,hri1,exitRQ_ret,exitRQ_exit,Int.toNat_natCast,Nat.mul_one,hst27_3,hld27_4,hld27_5,hld27_6,hld27_7,hld27_8,Array.getElem?_setIfInBounds_ne])
          generalize hw28 : wr w27 R2 (j2 * 10 + 3) [.int .i32 (rdInt .i32 4 s12).1] = w28
          have hS28 : Upd (fun b => b = R2 ∨ b = rb) w27 w28 := by rw [← hw28];exact (Upd.refl _ _).wr _ _ (.inr (.inl rfl))
          have hx2_28 : blk w28 R2 = some ((A2 ++ (([.int .i16 (rdInt .i16 2 s9).1,.int .i32 (rdInt .i32 4 s10).1,.int .i32 (rdInt .i32 4 s11).1,.int .i32 (rdInt .i32 4 s12).1,.slice none 0 0,.slice none 0 0,.slice none 0 0,.slice none 0 0,.slice none 0 0,.map none] : List Value) ++ B2)).toArray,88,(0,0)) := by rw [← hw28];exact el_blk (o := 3) hx2_27 hA2 (Nat.le_of_ble_eq_true rfl)
          have hV28 := hS28
          have hU28 : Upd (fun b => b = vb ∨ b = rb) w1 w28 := hU27.trans' hV28 fun i hi h => h.elim (fun h => by omega) .inr
          have hz28 := hV28.size
          have hG28 : Glo ev w28 := hG1.updS hU28 hgM1 hgM2
          have hq28 := Rdr.stored hw28 hq27 (by omega) fun h => by have := (hok _ h).1;first | omega | exact (hok _ h).2 rfl
          obtain ⟨X28,hX28,hxb28,hXs28⟩ := el_open (n := 10) hx2_28 hA2 rfl
          clear hw28
          have hfe0e1_3 : RepF (RepS true d) (szS true d) fX0_3 (fun b => (fun b => (ok b ∨ w1.heap.size ≤ b) ∧ ¬ ownB va0 b) b ∧ ¬ ownB va1 b) w28 (xe0e1_3) [.int .i32 (rdInt .i32 4 s12).1] := (RepF_num (by decide)).2 (by rw [hxe0e1_3,hrd];exact congrArg (fun x => [x]) (numC_rd 3 (by decide) 4 s12).symm)
          clear hrd
          have hbe0e1_4 : (rdL (rdP d ver true) (dfP d) ver true [fX0_4,fX0_5,frX0_6,frX0_7,fX0_8] s13).2 = none → FB := fun h => hbe0e1_3 (by rw [rdL_st (by decide) hhe0e1_3,← hs13];exact h)
          have hhe0e1_4 : hasS fX0_4 ver = true := hasS_t (by show (0 : Int) ≤ ver;omega) (by show (-1 : Int) < 0 ∨ ver ≤ (-1 : Int);omega)
          obtain ⟨xe0e1_4,hxe0e1_4⟩ : ∃ x,x = (rdF (rdP d ver true) ver true fX0_4 s13).1 := ⟨_,rfl⟩
          have hld28_4 : X28[j2 * 10 + 4]? = some (.slice none 0 0) := by rw [hX28];exact el_cell (R := 0) hA2 (Nat.le_of_ble_eq_true rfl)
          repeat ((first | refine qA rfl ?_|apply qB|refine qC rfl ?_|apply qD|apply qE|apply qF|apply qG|apply qH);try simp (maxSteps:=1000000)(disch:=(first|omega|(simp only [qI,qJ,qK]<;>omega)|exact qL _)) only [go_sem,↓reduceIte,n0,reduceCtorEq,n1,n2,n3,n4,n5,i0,i1,i2,i3,i4,i5,i6,i7,hxb28,hrc1_2,hrc1_7,hrc1_8,hrc1_9,hrc1_10,hrc1_14,hrc1_13,hrc1_15,hrc1_17,hrc1_24,hra1,hri1,exitRQ_ret,exitRQ_exit,Int.toNat_natCast,Nat.mul_one,hld28_4])
          refine (RCompactArrayLen_fn w28 hq28.1 hrok hG28.1 hgrb).mono ?_
          rintro _ w29 ⟨rfl,hq29,hu29⟩
          have hx2_29 := hu29.blk_some hx2_28 (by omega)
          have hV29 : Upd (fun b => b = R2 ∨ b = rb) w28 w29 := hu29.mono (fun _ h => .inr h)
          have hU29 : Upd (fun b => b = vb ∨ b = rb) w1 w29 := hU28.trans' hV29 fun i hi h => h.elim (fun h => by omega) .inr
          have hz29 := hV29.size
          have hG29 : Glo ev w29 := hG1.updS hU29 hgM1 hgM2
          obtain ⟨X29,hX29,hxb29,hXs29⟩ := el_open (n := 10) hx2_29 hA2 rfl
          obtain ⟨s14,hs14⟩ : ∃ s,s = (rdALen true s13).2 := ⟨_,rfl⟩
          rw [← hs14] at hq29
          have hyr2 := rdALen_rng true s13
          generalize hy2 : (rdALen true s13).1 = y2 at *
          obtain ⟨N2,hN2⟩ : ∃ N,N = y2.toNat := ⟨_,rfl⟩
          have hlb2 : (rdMany (rd1 (rdP d ver true) fX0_4.of fX0_4.sub false true) N2 s14).2 = none → FB := fun h => hbe0e1_4 (by rw [rdL_st (by decide) hhe0e1_4];exact rdL_bad (rdF_listbad rfl (by rw [hy2,← hN2,← hs14];exact h)))
          repeat ((first | refine W.seqR rfl ?_ | refine W.seq ?_ | refine W.regR rfl ?_ | refine W.block ?_ | refine W.skip ?_ | refine W.ret ?_ | refine W.exit ?_);try simp (maxSteps:=1000000)(disch:=(first|omega|(simp only [qI,qJ,qK]<;>omega)|exact qL _)) only [go_sem,↓reduceIte,n0,reduceCtorEq,n1,n2,n3,n4,n5,i0,i1,i2,i3,i4,i5,i6,i7,hxb29,hrc1_2,hrc1_7,hrc1_8,hrc1_9,hrc1_10,hrc1_14,hrc1_13,hrc1_15,hrc1_17,hrc1_24,hra1,hri1,exitRQ_ret,exitRQ_exit,Int.toNat_natCast,Nat.mul_one])
          refine (ROk_fn w29 hq29.1).mono ?_
          rintro _ wz ⟨rfl,hez⟩
          rw [hez]
          clear hez wz
          by_cases hsn2 : s14 = none
          · have hso : s14.isSome = false := by rw [hsn2];rfl
            repeat (first|simp (maxSteps:=1000000)(disch:=(first|omega|(simp only [qI,qJ,qK]<;>omega)|exact qL _)) only [go_sem,↓reduceIte,n0,reduceCtorEq,n1,n2,n3,n4,n5,i0,i1,i2,i3,i4,i5,i6,i7,hxb29,hrc1_2,hrc1_7,hrc1_8,hrc1_9,hrc1_10,hrc1_14,hrc1_13,hrc1_15,hrc1_17,hrc1_24,hra1,hri1,exitRQ_ret,exitRQ_exit,Int.toNat_natCast,Nat.mul_one,hso]|refine qA rfl ?_|apply qB|refine qC rfl ?_|apply qD|apply qE|apply qF|apply qG|apply qH)
            refine (RComplete_fn w29 hq29.1 hG29.2).mono ?_
            rintro _ wz ⟨rfl,hez⟩
            rw [hez]
            repeat (first|simp (maxSteps:=1000000)(disch:=(first|omega|(simp only [qI,qJ,qK]<;>omega)|exact qL _)) only [go_sem,↓reduceIte,n0,reduceCtorEq,n1,n2,n3,n4,n5,i0,i1,i2,i3,i4,i5,i6,i7,hxb29,hrc1_2,hrc1_7,hrc1_8,hrc1_9,hrc1_10,hrc1_14,hrc1_13,hrc1_15,hrc1_17,hrc1_24,hra1,hri1,exitRQ_ret,exitRQ_exit,Int.toNat_natCast,Nat.mul_one]|refine qA rfl ?_|apply qB|refine qC rfl ?_|apply qD|apply qE|apply qF|apply qG|apply qH)
            rw [errV_none hsn2]
            exact ReadQ.bad (Eq.mp hFB (hlb2 (by rw [hsn2];exact rdMany_none rd1P_none _))) (hbase.trans' hU29 fun i hi h => h.elim id fun h => by omega)
          have hso2 : s14.isSome = true := isSome_some hsn2
          try simp (maxSteps:=1000000)(disch:=(first|omega|(simp only [qI,qJ,qK]<;>omega)|exact qL _)) only [go_sem,↓reduceIte,n0,reduceCtorEq,n1,n2,n3,n4,n5,i0,i1,i2,i3,i4,i5,i6,i7,hxb29,hrc1_2,hrc1_7,hrc1_8,hrc1_9,hrc1_10,hrc1_14,hrc1_13,hrc1_15,hrc1_17,hrc1_24,hra1,hri1,exitRQ_ret,exitRQ_exit,Int.toNat_natCast,Nat.mul_one,hso2]
          repeat ((first | refine W.seqR rfl ?_ | refine W.seq ?_ | refine W.regR rfl ?_ | refine W.block ?_ | refine W.skip ?_ | refine W.ret ?_ | refine W.exit ?_);try simp (maxSteps:=1000000)(disch:=(first|omega|(simp only [qI,qJ,qK]<;>omega)|exact qL _)) only [go_sem,↓reduceIte,n0,reduceCtorEq,n1,n2,n3,n4,n5,i0,i1,i2,i3,i4,i5,i6,i7,hxb29,hrc1_2,hrc1_7,hrc1_8,hrc1_9,hrc1_10,hrc1_14,hrc1_13,hrc1_15,hrc1_17,hrc1_24,hra1,hri1,exitRQ_ret,exitRQ_exit,Int.toNat_natCast,Nat.mul_one,hso2])
          refine W.condK ?_
          try simp (maxSteps:=1000000)(disch:=(first|omega|(simp only [qI,qJ,qK]<;>omega)|exact qL _)) only [go_sem,↓reduceIte,n0,reduceCtorEq,n1,n2,n3,n4,n5,i0,i1,i2,i3,i4,i5,i6,i7,hxb29,hrc1_2,hrc1_7,hrc1_8,hrc1_9,hrc1_10,hrc1_14,hrc1_13,hrc1_15,hrc1_17,hrc1_24,hra1,hri1,exitRQ_ret,exitRQ_exit,Int.toNat_natCast,Nat.mul_one,hso2]
          repeat ((first | refine W.seqR rfl ?_ | refine W.seq ?_ | refine W.regR rfl ?_ | refine W.block ?_ | refine W.skip ?_ | refine W.ret ?_ | refine W.exit ?_);try simp (maxSteps:=1000000)(disch:=(first|omega|(simp only [qI,qJ,qK]<;>omega)|exact qL _)) only [go_sem,↓reduceIte,n0,reduceCtorEq,n1,n2,n3,n4,n5,i0,i1,i2,i3,i4,i5,i6,i7,hxb29,hrc1_2,hrc1_7,hrc1_8,hrc1_9,hrc1_10,hrc1_14,hrc1_13,hrc1_15,hrc1_17,hrc1_24,hra1,hri1,exitRQ_ret,exitRQ_exit,Int.toNat_natCast,Nat.mul_one,hso2,slBase_00])
          refine W.normJ (RowQ [(2,.bool false),(7,.pointer (some ⟨rb,0,none⟩)),(8,.int .i16 ver),(9,.bool true),(10,.pointer (some ⟨vb,0,none⟩)),(14,.int .i32 y0),(13,.slice (some ⟨R1,0,none⟩) N0 q1),(15,.int .i32 j1),(17,.pointer (some ⟨R1,j1 * 22,none⟩)),(24,.int .i32 y1),(23,.slice (some ⟨R2,0,none⟩) N1 q2),(25,.int .i32 j2),(27,.pointer (some ⟨R2,j2 * 10,none⟩)),(34,.int .i32 y2)] 33 (fun va w' => LstI RT (rd1 (rdP d ver true) fX0_4.of fX0_4.sub false true) (Rep1 (RepS true d) fX0_4.of fX0_4.sub) 1 21 [.int .i32 0] w29.heap.size N2 ok (fun b => (fun b => (ok b ∨ w1.heap.size ≤ b) ∧ ¬ ownB va0 b) b ∧ ¬ ownB va1 b) rb w29 s14 va 0 s14 [] [] w' ∧ (N2 = 0 → if nilS fX0_4 ver y2 = true then va = .slice none 0 0 else ∃ a,va = .slice (some a) 0 0))) ?_ ?_
          · by_cases hy0 : (0 : Int) < y2
            · have hyv : Value.int .i32 y2 = .int .i32 ((N2 : Nat) : Int) := by rw [show y2 = ((N2 : Nat) : Int) by omega]
              repeat ((first | refine qA rfl ?_|apply qB|refine qC rfl ?_|apply qD|apply qE|apply qF|apply qG|apply qH);try simp (maxSteps:=1000000)(disch:=(first|omega|(simp only [qI,qJ,qK]<;>omega)|exact qL _)) only [go_sem,↓reduceIte,n0,reduceCtorEq,n1,n2,n3,n4,n5,i0,i1,i2,i3,i4,i5,i6,i7,hxb29,hrc1_2,hrc1_7,hrc1_8,hrc1_9,hrc1_10,hrc1_14,hrc1_13,hrc1_15,hrc1_17,hrc1_24,hra1,hri1,exitRQ_ret,exitRQ_exit,Int.toNat_natCast,Nat.mul_one])
              refine wp_appendZ (m := N2) utQ_86 utQ_21 inQ_21 (by decide) (by first | rfl | simp (maxSteps:=1000000)(disch:=(first|omega|(simp only [qI,qJ,qK]<;>omega)|exact qL _)) only [go_sem,↓reduceIte,n0,reduceCtorEq,n1,n2,n3,n4,n5,i0,i1,i2,i3,i4,i5,i6,i7,hrc1_2,hrc1_7,hrc1_8,hrc1_9,hrc1_10,hrc1_14,hrc1_13,hrc1_15,hrc1_17,hrc1_24,hra1,hri1]) (by first | exact hyv | (simp (maxSteps:=1000000)(disch:=(first|omega|(simp only [qI,qJ,qK]<;>omega)|exact qL _)) only [go_sem,↓reduceIte,n0,reduceCtorEq,n1,n2,n3,n4,n5,i0,i1,i2,i3,i4,i5,i6,i7,hrc1_2,hrc1_7,hrc1_8,hrc1_9,hrc1_10,hrc1_14,hrc1_13,hrc1_15,hrc1_17,hrc1_24,hra1,hri1];exact hyv)) (by omega) (by omega) (by decide) ?_
              intro q rest hq1
              have hEw : Ext w29 (w29.drew.alloc (.cells (zs [.int .i32 0] N2 ++ rest).toArray 21)) := (Upd.refl _ _).drew.alloc _
              repeat (first|simp (maxSteps:=1000000)(disch:=(first|omega|(simp only [qI,qJ,qK]<;>omega)|exact qL _)) only [go_sem,↓reduceIte,n0,reduceCtorEq,n1,n2,n3,n4,n5,i0,i1,i2,i3,i4,i5,i6,i7,hxb29,hrc1_2,hrc1_7,hrc1_8,hrc1_9,hrc1_10,hrc1_14,hrc1_13,hrc1_15,hrc1_17,hrc1_24,hra1,hri1,exitRQ_ret,exitRQ_exit,Int.toNat_natCast,Nat.mul_one]|refine qA rfl ?_|apply qB|refine qC rfl ?_|apply qD|apply qE|apply qF|apply qG|apply qH)
              exact ⟨(by simp (maxSteps:=1000000)(disch:=(first|omega|(simp only [qI,qJ,qK]<;>omega)|exact qL _)) only [go_sem,↓reduceIte,n0,reduceCtorEq,n1,n2,n3,n4,n5,i0,i1,i2,i3,i4,i5,i6,i7,Holds_nil,Holds_cons,hrc1_2,hrc1_7,hrc1_8,hrc1_9,hrc1_10,hrc1_14,hrc1_13,hrc1_15,hrc1_17,hrc1_24,hra1,hri1]),.slice (some ⟨w29.heap.size,0,none⟩) N2 q,(by simp (maxSteps:=1000000)(disch:=(first|omega|(simp only [qI,qJ,qK]<;>omega)|exact qL _)) only [go_sem,↓reduceIte,n0,reduceCtorEq,n1,n2,n3,n4,n5,i0,i1,i2,i3,i4,i5,i6,i7,hrc1_2,hrc1_7,hrc1_8,hrc1_9,hrc1_10,hrc1_14,hrc1_13,hrc1_15,hrc1_17,hrc1_24,hra1,hri1]),LstI.start (RowJ.start (by omega) hq1 (by show w29.heap.size ≤ w29.drew.heap.size;rw [size_drew];omega) (blk_alloc_new rfl)) ⟨hq29.1.upd hEw (fun h => h) (fun _ _ _ h => h),hq29.2.upd hEw fun h => h⟩ (hEw.mono fun _ h => h.elim),fun h0 => by omega⟩
            · repeat ((first | refine qA rfl ?_|apply qB|refine qC rfl ?_|apply qD|apply qE|apply qF|apply qG|apply qH);try simp (maxSteps:=1000000)(disch:=(first|omega|(simp only [qI,qJ,qK]<;>omega)|exact qL _)) only [go_sem,↓reduceIte,n0,reduceCtorEq,n1,n2,n3,n4,n5,i0,i1,i2,i3,i4,i5,i6,i7,hxb29,hrc1_2,hrc1_7,hrc1_8,hrc1_9,hrc1_10,hrc1_14,hrc1_13,hrc1_15,hrc1_17,hrc1_24,hra1,hri1,exitRQ_ret,exitRQ_exit,Int.toNat_natCast,Nat.mul_one])
              exact ⟨(by simp (maxSteps:=1000000)(disch:=(first|omega|(simp only [qI,qJ,qK]<;>omega)|exact qL _)) only [go_sem,↓reduceIte,n0,reduceCtorEq,n1,n2,n3,n4,n5,i0,i1,i2,i3,i4,i5,i6,i7,Holds_nil,Holds_cons,hrc1_2,hrc1_7,hrc1_8,hrc1_9,hrc1_10,hrc1_14,hrc1_13,hrc1_15,hrc1_17,hrc1_24,hra1,hri1]),.slice none 0 0,(by simp (maxSteps:=1000000)(disch:=(first|omega|(simp only [qI,qJ,qK]<;>omega)|exact qL _)) only [go_sem,↓reduceIte,n0,reduceCtorEq,n1,n2,n3,n4,n5,i0,i1,i2,i3,i4,i5,i6,i7,hrc1_2,hrc1_7,hrc1_8,hrc1_9,hrc1_10,hrc1_14,hrc1_13,hrc1_15,hrc1_17,hrc1_24,hra1,hri1,slBase_00]),LstI.start (RowJ.zero (by omega) (fun _ h => by cases h)) hq29 (Upd.refl _ _),fun _ => by rw [nilS_plain (by decide) (by omega)];exact rfl⟩
          rintro ρ w30 ⟨⟨hrb2_2,hrb2_7,hrb2_8,hrb2_9,hrb2_10,hrb2_14,hrb2_13,hrb2_15,hrb2_17,hrb2_24,hrb2_23,hrb2_25,hrb2_27,hrb2_34,-⟩,va2,hra2,hL2,hnc2⟩
          repeat ((first | refine qA rfl ?_|apply qB|refine qC rfl ?_|apply qD|apply qE|apply qF|apply qG|apply qH);try simp (maxSteps:=1000000)(disch:=(first|omega|(simp only [qI,qJ,qK]<;>omega)|exact qL _)) only [go_sem,↓reduceIte,n0,reduceCtorEq,n1,n2,n3,n4,n5,i0,i1,i2,i3,i4,i5,i6,i7,hxb29,hrb2_2,hrb2_7,hrb2_8,hrb2_9,hrb2_10,hrb2_14,hrb2_13,hrb2_15,hrb2_17,hrb2_24,hrb2_23,hrb2_25,hrb2_27,hrb2_34,hra2,exitRQ_ret,exitRQ_exit,Int.toNat_natCast,Nat.mul_one])
          refine W.exitRJ 4 (EndQ [(2,.bool false),(7,.pointer (some ⟨rb,0,none⟩)),(8,.int .i16 ver),(9,.bool true),(10,.pointer (some ⟨vb,0,none⟩)),(14,.int .i32 y0),(13,.slice (some ⟨R1,0,none⟩) N0 q1),(15,.int .i32 j1),(17,.pointer (some ⟨R1,j1 * 22,none⟩)),(24,.int .i32 y1),(23,.slice (some ⟨R2,0,none⟩) N1 q2),(25,.int .i32 j2),(27,.pointer (some ⟨R2,j2 * 10,none⟩)),(34,.int .i32 y2),(33,va2)] (fun w' => ∃ s xs css,LstI RT (rd1 (rdP d ver true) fX0_4.of fX0_4.sub false true) (Rep1 (RepS true d) fX0_4.of fX0_4.sub) 1 21 [.int .i32 0] w29.heap.size N2 ok (fun b => (fun b => (ok b ∨ w1.heap.size ≤ b) ∧ ¬ ownB va0 b) b ∧ ¬ ownB va1 b) rb w29 s14 va2 N2 s xs css w')) (W.loop (LoopQ [(2,.bool false),(7,.pointer (some ⟨rb,0,none⟩)),(8,.int .i16 ver),(9,.bool true),(10,.pointer (some ⟨vb,0,none⟩)),(14,.int .i32 y0),(13,.slice (some ⟨R1,0,none⟩) N0 q1),(15,.int .i32 j1),(17,.pointer (some ⟨R1,j1 * 22,none⟩)),(24,.int .i32 y1),(23,.slice (some ⟨R2,0,none⟩) N1 q2),(25,.int .i32 j2),(27,.pointer (some ⟨R2,j2 * 10,none⟩)),(34,.int .i32 y2),(33,va2)] 35 (fun j w' => ∃ s xs css,LstI RT (rd1 (rdP d ver true) fX0_4.of fX0_4.sub false true) (Rep1 (RepS true d) fX0_4.of fX0_4.sub) 1 21 [.int .i32 0] w29.heap.size N2 ok (fun b => (fun b => (ok b ∨ w1.heap.size ≤ b) ∧ ¬ ownB va0 b) b ∧ ¬ ownB va1 b) rb w29 s14 va2 j s xs css w')) (fun ρ _ => N2 - (RowKit.intOf (ρ 35)).toNat) ?_ ?_) ?_
          · exact ⟨(by simp (maxSteps:=1000000)(disch:=(first|omega|(simp only [qI,qJ,qK]<;>omega)|exact qL _)) only [go_sem,↓reduceIte,n0,reduceCtorEq,n1,n2,n3,n4,n5,i0,i1,i2,i3,i4,i5,i6,i7,Holds_nil,Holds_cons,hrb2_2,hrb2_7,hrb2_8,hrb2_9,hrb2_10,hrb2_14,hrb2_13,hrb2_15,hrb2_17,hrb2_24,hrb2_23,hrb2_25,hrb2_27,hrb2_34,hra2]),0,(by simp (maxSteps:=1000000)(disch:=(first|omega|(simp only [qI,qJ,qK]<;>omega)|exact qL _)) only [go_sem,↓reduceIte,n0,reduceCtorEq,n1,n2,n3,n4,n5,i0,i1,i2,i3,i4,i5,i6,i7,hrb2_2,hrb2_7,hrb2_8,hrb2_9,hrb2_10,hrb2_14,hrb2_13,hrb2_15,hrb2_17,hrb2_24,hrb2_23,hrb2_25,hrb2_27,hrb2_34,hra2];all_goals rfl),s14,[],[],hL2⟩
          · rintro ρ w31 ⟨⟨hrc2_2,hrc2_7,hrc2_8,hrc2_9,hrc2_10,hrc2_14,hrc2_13,hrc2_15,hrc2_17,hrc2_24,hrc2_23,hrc2_25,hrc2_27,hrc2_34,hrc2_33,-⟩,j3,hri2,s15,xs2,css2,hL2⟩
            have hj2 := hL2.le
            have hq31 := hL2.rd
            have hU31 : Upd (fun b => b = vb ∨ b = rb) w1 w31 := hU29.trans' hL2.upd fun i _ h => .inr h
            have hz31 := hL2.upd.size
            have hG31 : Glo ev w31 := hG1.updS hU31 hgM1 hgM2
            by_cases hlt2 : j3 < N2
            · obtain ⟨R3,q3,B3,hva3,hNq3,hLR3,hA3,hx3_31,hnext3⟩ := hL2.row.next hlt2
              have hRl3 := blk_lt hx3_31
              generalize css2.flatten = A3 at hA3 hx3_31 hnext3
              rw [Nat.mul_one] at hA3
              replace hra2 : ρ 33 = .slice (some ⟨R3,0,none⟩) N2 q3 := hrc2_33.trans hva3
              have hown3 : ∀ b,ownB va2 b → w29.heap.size ≤ b ∧ b < w31.heap.size := fun b h => hL2.row.own h
              have hoM3 : ∀ b,(fun b => (fun b => (fun b => (ok b ∨ w1.heap.size ≤ b) ∧ ¬ ownB va0 b) b ∧ ¬ ownB va1 b) b ∧ ¬ ownB va2 b) b → ¬ (b = R3 ∨ b = rb) := fun b hk h => h.elim (fun e => hk.2 ⟨_,_,_,hva3,e⟩) (fun e => hoM2 b hk.1 (.inr e))
              obtain ⟨X31,hX31,hxb31,hXs31⟩ := el_open (n := 1) hx3_31 hA3 rfl
              repeat ((first | refine qA rfl ?_|apply qB|refine qC rfl ?_|apply qD|apply qE|apply qF|apply qG|apply qH);try simp (maxSteps:=1000000)(disch:=(first|omega|(simp only [qI,qJ,qK]<;>omega)|exact qL _)) only [go_sem,↓reduceIte,n0,reduceCtorEq,n1,n2,n3,n4,n5,i0,i1,i2,i3,i4,i5,i6,i7,hxb31,hrc2_2,hrc2_7,hrc2_8,hrc2_9,hrc2_10,hrc2_14,hrc2_13,hrc2_15,hrc2_17,hrc2_24,hrc2_23,hrc2_25,hrc2_27,hrc2_34,hra2,hri2,exitRQ_ret,exitRQ_exit,Int.toNat_natCast,Nat.mul_one])
              refine (Int32_fn w31 hq31.1 hrok hG31.1 hgrb).mono ?_
              rintro _ w32 ⟨rfl,hq32,hu32⟩
              have hx3_32 := hu32.blk_some hx3_31 (by omega)
              have hV32 : Upd (fun b => b = R3 ∨ b = rb) w31 w32 := hu32.mono (fun _ h => .inr h)
              have hU32 : Upd (fun b => b = vb ∨ b = rb) w1 w32 := hU31.trans' hV32 fun i hi h => h.elim (fun h => by omega) .inr
              have hz32 := hV32.size
              have hG32 : Glo ev w32 := hG1.updS hU32 hgM1 hgM2
              obtain ⟨X32,hX32,hxb32,hXs32⟩ := el_open (n := 1) hx3_32 hA3 rfl
              obtain ⟨s16,hs16⟩ : ∃ s,s = (rdInt .i32 4 s15).2 := ⟨_,rfl⟩
              rw [← hs16] at hq32
              have hrE : (rd1 (rdP d ver true) fX0_4.of fX0_4.sub false true) s15 = ((.num (rdInt .i32 4 s15).1),s16) := by rw [hs16];exact rd1_num 3 (by decide)
              have hst32_0 : j3 + 1 ≤ X32.size := by omega
              repeat ((first | refine qA rfl ?_|apply qB|refine qC rfl ?_|apply qD|apply qE|apply qF|apply qG|apply qH);try simp (maxSteps:=1000000)(disch:=(first|omega|(simp only [qI,qJ,qK]<;>omega)|exact qL _)) only [go_sem,↓reduceIte,n0,reduceCtorEq,n1,n2,n3,n4,n5,i0,i1,i2,i3,i4,i5,i6,i7,hxb32,hrc2_2,hrc2_7,hrc2_8,hrc2_9,hrc2_10,hrc2_14,hrc2_13,hrc2_15,hrc2_17,hrc2_24,hrc2_23,hrc2_25,hrc2_27,hrc2_34,hra2,hri2,exitRQ_ret,exitRQ_exit,Int.toNat_natCast,Nat.mul_one,hst32_0])
              generalize hw33 : wr w32 R3 (j3) [.int .i32 (rdInt .i32 4 s15).1] = w33
              have hS33 : Upd (fun b => b = R3 ∨ b = rb) w32 w33 := by rw [← hw33];exact (Upd.refl _ _).wr _ _ (.inr (.inl rfl))
              have hx3_33 : blk w33 R3 = some ((A3 ++ (([.int .i32 (rdInt .i32 4 s15).1] : List Value) ++ B3)).toArray,21,(0,0)) := by rw [← hw33];exact el_blk0 hx3_32 hA3 (Nat.le_of_ble_eq_true rfl)
              have hV33 := hS33
              have hU33 : Upd (fun b => b = vb ∨ b = rb) w1 w33 := hU32.trans' hV33 fun i hi h => h.elim (fun h => by omega) .inr
              have hz33 := hV33.size
              have hG33 : Glo ev w33 := hG1.updS hU33 hgM1 hgM2
              have hq33 := Rdr.stored hw33 hq32 (by omega) fun h => by have := (hok _ h).1;first | omega | exact (hok _ h).2 rfl
              obtain ⟨X33,hX33,hxb33,hXs33⟩ := el_open (n := 1) hx3_33 hA3 rfl
              clear hw33
              have hxE : (Rep1 (RepS true d) fX0_4.of fX0_4.sub) (fun b => (fun b => (fun b => (ok b ∨ w1.heap.size ≤ b) ∧ ¬ ownB va0 b) b ∧ ¬ ownB va1 b) b ∧ ¬ ownB va2 b) w33 (.num (rdInt .i32 4 s15).1) [.int .i32 (rdInt .i32 4 s15).1] := (Rep1_num (by decide)).2 (congrArg (fun x => [x]) (numC_rd 3 (by decide) 4 s15).symm)
              repeat ((first | refine qA rfl ?_|apply qB|refine qC rfl ?_|apply qD|apply qE|apply qF|apply qG|apply qH);try simp (maxSteps:=1000000)(disch:=(first|omega|(simp only [qI,qJ,qK]<;>omega)|exact qL _)) only [go_sem,↓reduceIte,n0,reduceCtorEq,n1,n2,n3,n4,n5,i0,i1,i2,i3,i4,i5,i6,i7,hxb33,hrc2_2,hrc2_7,hrc2_8,hrc2_9,hrc2_10,hrc2_14,hrc2_13,hrc2_15,hrc2_17,hrc2_24,hrc2_23,hrc2_25,hrc2_27,hrc2_34,hra2,hri2,exitRQ_ret,exitRQ_exit,Int.toNat_natCast,Nat.mul_one])
              have hTk : Upd (fun b => b = R3 ∨ b = rb) w31 w33 := (hV32.trans hV33)
              have hL' := hL2.step (Rep1_lay _ _ fun _ => RepS_lay true _ _) hlt2 (hnext3 w33 [.int .i32 (rdInt .i32 4 s15).1] rfl hx3_33) (by rw [hrE];exact hxE) (hTk.mono fun b h => h.imp (fun e => ⟨_,_,_,hva3,e⟩) id) (by rw [hrE];exact hq33) (fun h => hoM2 rb h (.inr rfl)) (Nat.le_refl _)
              have hij : IntKind.i32.wrap ((j3 : Int) + 1) = ((j3 + 1 : Nat) : Int) := by rw [i32_wrap (by omega)];omega
              repeat ((first | refine qA rfl ?_|apply qB|refine qC rfl ?_|apply qD|apply qE|apply qF|apply qG|apply qH);try simp (maxSteps:=1000000)(disch:=(first|omega|(simp only [qI,qJ,qK]<;>omega)|exact qL _)) only [go_sem,↓reduceIte,n0,reduceCtorEq,n1,n2,n3,n4,n5,i0,i1,i2,i3,i4,i5,i6,i7,hxb33,hrc2_2,hrc2_7,hrc2_8,hrc2_9,hrc2_10,hrc2_14,hrc2_13,hrc2_15,hrc2_17,hrc2_24,hrc2_23,hrc2_25,hrc2_27,hrc2_34,hra2,hri2,exitRQ_ret,exitRQ_exit,Int.toNat_natCast,Nat.mul_one,hij])
              refine ⟨⟨(by simp (maxSteps:=1000000)(disch:=(first|omega|(simp only [qI,qJ,qK]<;>omega)|exact qL _)) only [go_sem,↓reduceIte,n0,reduceCtorEq,n1,n2,n3,n4,n5,i0,i1,i2,i3,i4,i5,i6,i7,Holds_nil,Holds_cons,hrc2_2,hrc2_7,hrc2_8,hrc2_9,hrc2_10,hrc2_14,hrc2_13,hrc2_15,hrc2_17,hrc2_24,hrc2_23,hrc2_25,hrc2_27,hrc2_34,hra2,hri2];exact hva3.symm),j3 + 1,(by simp (maxSteps:=1000000)(disch:=(first|omega|(simp only [qI,qJ,qK]<;>omega)|exact qL _)) only [go_sem,↓reduceIte,n0,reduceCtorEq,n1,n2,n3,n4,n5,i0,i1,i2,i3,i4,i5,i6,i7,hrc2_2,hrc2_7,hrc2_8,hrc2_9,hrc2_10,hrc2_14,hrc2_13,hrc2_15,hrc2_17,hrc2_24,hrc2_23,hrc2_25,hrc2_27,hrc2_34,hra2,hri2,hij];all_goals rfl),_,_,_,hL'⟩,?_⟩
              try simp (maxSteps:=1000000)(disch:=(first|omega|(simp only [qI,qJ,qK]<;>omega)|exact qL _)) only [go_sem,↓reduceIte,n0,reduceCtorEq,n1,n2,n3,n4,n5,i0,i1,i2,i3,i4,i5,i6,i7,hrc2_2,hrc2_7,hrc2_8,hrc2_9,hrc2_10,hrc2_14,hrc2_13,hrc2_15,hrc2_17,hrc2_24,hrc2_23,hrc2_25,hrc2_27,hrc2_34,hra2,hri2]
              simp only [RowKit.intOf]
              omega
            · have hjN : j3 = N2 := by omega
              rw [hjN] at hL2
              repeat ((first | refine qA rfl ?_|apply qB|refine qC rfl ?_|apply qD|apply qE|apply qF|apply qG|apply qH);try simp (maxSteps:=1000000)(disch:=(first|omega|(simp only [qI,qJ,qK]<;>omega)|exact qL _)) only [go_sem,↓reduceIte,n0,reduceCtorEq,n1,n2,n3,n4,n5,i0,i1,i2,i3,i4,i5,i6,i7,hrc2_2,hrc2_7,hrc2_8,hrc2_9,hrc2_10,hrc2_14,hrc2_13,hrc2_15,hrc2_17,hrc2_24,hrc2_23,hrc2_25,hrc2_27,hrc2_34,hrc2_33,hri2,exitRQ_ret,exitRQ_exit])
              exact ⟨(by simp (maxSteps:=1000000)(disch:=(first|omega|(simp only [qI,qJ,qK]<;>omega)|exact qL _)) only [go_sem,↓reduceIte,n0,reduceCtorEq,n1,n2,n3,n4,n5,i0,i1,i2,i3,i4,i5,i6,i7,Holds_nil,Holds_cons,hrc2_2,hrc2_7,hrc2_8,hrc2_9,hrc2_10,hrc2_14,hrc2_13,hrc2_15,hrc2_17,hrc2_24,hrc2_23,hrc2_25,hrc2_27,hrc2_34,hrc2_33,hri2]),s15,xs2,css2,hL2⟩
          rintro ρ w34 ⟨⟨hrd2_2,hrd2_7,hrd2_8,hrd2_9,hrd2_10,hrd2_14,hrd2_13,hrd2_15,hrd2_17,hrd2_24,hrd2_23,hrd2_25,hrd2_27,hrd2_34,hrd2_33,-⟩,s17,xs2,css2,hL2⟩
          have hq34 := hL2.rd
          have hu34 := hL2.upd
          have hx2_34 := hu34.blk_some hx2_29 (by omega)
          have hV34 : Upd (fun b => b = R2 ∨ b = rb) w29 w34 := hu34.mono (fun _ h => .inr h)
          have hU34 : Upd (fun b => b = vb ∨ b = rb) w1 w34 := hU29.trans' hV34 fun i hi h => h.elim (fun h => by omega) .inr
          have hz34 := hV34.size
          have hG34 : Glo ev w34 := hG1.updS hU34 hgM1 hgM2
          obtain ⟨X34,hX34,hxb34,hXs34⟩ := el_open (n := 10) hx2_34 hA2 rfl
          have hrd2 : rdF (rdP d ver true) ver true fX0_4 s13 = (.mk 0 [] (nilS fX0_4 ver y2) xs2 [],s17) := by
            have h := rdF_listE (pt := (rdP d ver true)) (v := ver) (flex := true) (f := fX0_4) (s := s13) (xs := xs2) (e := s17) rfl (by rw [hy2,← hN2,← hs14];exact hL2.done)
            rw [hy2] at h;exact h
          have hs17 : s17 = (rdF (rdP d ver true) ver true fX0_4 s13).2 := by rw [hrd2]
          obtain ⟨aa2,qq2,hvs2⟩ := hL2.row.shape
          subst hvs2
          have hst34_4 : j2 * 10 + 5 ≤ X34.size := by omega
          have hld34_5 : X34[j2 * 10 + 5]? = some (.slice none 0 0) := by rw [hX34];exact el_cell (R := 0) hA2 (Nat.le_of_ble_eq_true rfl)
          have hld34_6 : X34[j2 * 10 + 6]? = some (.slice none 0 0) := by rw [hX34];exact el_cell (R := 0) hA2 (Nat.le_of_ble_eq_true rfl)
          have hld34_7 : X34[j2 * 10 + 7]? = some (.slice none 0 0) := by rw [hX34];exact el_cell (R := 0) hA2 (Nat.le_of_ble_eq_true rfl)
          have hld34_8 : X34[j2 * 10 + 8]? = some (.slice none 0 0) := by rw [hX34];exact el_cell (R := 0) hA2 (Nat.le_of_ble_eq_true rfl)
          repeat ((first | refine qA rfl ?_|apply qB|refine qC rfl ?_|apply qD|apply qE|apply qF|apply qG|apply qH);try simp (maxSteps:=1000000)(disch:=(first|omega|(simp only [qI,qJ,qK]<;>omega)|exact qL _)) only [go_sem,↓reduceIte,n0,reduceCtorEq,n1,n2,n3,n4,n5,i0,i1,i2,i3,i4,i5,i6,i7,hxb34,hrd2_2,hrd2_7,hrd2_8,hrd2_9,hrd2_10,hrd2_14,hrd2_13,hrd2_15,hrd2_17,hrd2_24,hrd2_23,hrd2_25,hrd2_27,hrd2_34,hrd2_33,exitRQ_ret,exitRQ_exit,Int.toNat_natCast,Nat.mul_one,hst34_4,hld34_5,hld34_6,hld34_7,hld34_8,Array.getElem?_setIfInBounds_ne])
          generalize hw35 : wr w34 R2 (j2 * 10 + 4) [.slice aa2 N2 qq2] = w35
          have hS35 : Upd (fun b => b = R2 ∨ b = rb) w34 w35 := by rw [← hw35];exact (Upd.refl _ _).wr _ _ (.inr (.inl rfl))
          have hx2_35 : blk w35 R2 = some ((A2 ++ (([.int .i16 (rdInt .i16 2 s9).1,.int .i32 (rdInt .i32 4 s10).1,.int .i32 (rdInt .i32 4 s11).1,.int .i32 (rdInt .i32 4 s12).1,.slice aa2 N2 qq2,.slice none 0 0,.slice none 0 0,.slice none 0 0,.slice none 0 0,.map none] : List Value) ++ B2)).toArray,88,(0,0)) := by rw [← hw35];exact el_blk (o := 4) hx2_34 hA2 (Nat.le_of_ble_eq_true rfl)
          have hV35 := hS35
          have hU35 : Upd (fun b => b = vb ∨ b = rb) w1 w35 := hU34.trans' hV35 fun i hi h => h.elim (fun h => by omega) .inr
          have hz35 := hV35.size
          have hG35 : Glo ev w35 := hG1.updS hU35 hgM1 hgM2
          have hq35 := Rdr.stored hw35 hq34 (by omega) fun h => by have := (hok _ h).1;first | omega | exact (hok _ h).2 rfl
          obtain ⟨X35,hX35,hxb35,hXs35⟩ := el_open (n := 10) hx2_35 hA2 rfl
          clear hw35
          have hfe0e1_4 : RepF (RepS true d) (szS true d) fX0_4 (fun b => (fun b => (ok b ∨ w1.heap.size ≤ b) ∧ ¬ ownB va0 b) b ∧ ¬ ownB va1 b) w35 (xe0e1_4) [.slice aa2 N2 qq2] := by rw [hxe0e1_4,hrd2];exact RepF.keepS (RepF_row rfl hnc2 hN2 rfl hL2.row hL2.all (fun b hb => ⟨⟨.inr (by omega),fun ho => by have := (hown1 _ ho).2;omega⟩,fun ho => by have := (hown2 _ ho).2;omega⟩)) (hV35.keeps fun b _ hk e => hoM2 b hk e)
          clear hL2 hnc2
          have hbe0e1_5 : (rdL (rdP d ver true) (dfP d) ver true [fX0_5,frX0_6,frX0_7,fX0_8] s17).2 = none → FB := fun h => hbe0e1_4 (by rw [rdL_st (by decide) hhe0e1_4,← hs17];exact h)
          have hhe0e1_5 : hasS fX0_5 ver = true := hasS_t (by show (0 : Int) ≤ ver;omega) (by show (-1 : Int) < 0 ∨ ver ≤ (-1 : Int);omega)
          obtain ⟨xe0e1_5,hxe0e1_5⟩ : ∃ x,x = (rdF (rdP d ver true) ver true fX0_5 s17).1 := ⟨_,rfl⟩
          have hld35_5 : X35[j2 * 10 + 5]? = some (.slice none 0 0) := by rw [hX35];exact el_cell (R := 0) hA2 (Nat.le_of_ble_eq_true rfl)
          repeat ((first | refine qA rfl ?_|apply qB|refine qC rfl ?_|apply qD|apply qE|apply qF|apply qG|apply qH);try simp (maxSteps:=1000000)(disch:=(first|omega|(simp only [qI,qJ,qK]<;>omega)|exact qL _)) only [go_sem,↓reduceIte,n0,reduceCtorEq,n1,n2,n3,n4,n5,i0,i1,i2,i3,i4,i5,i6,i7,hxb35,hrd2_2,hrd2_7,hrd2_8,hrd2_9,hrd2_10,hrd2_14,hrd2_13,hrd2_15,hrd2_17,hrd2_24,hrd2_23,hrd2_25,hrd2_27,hrd2_34,hrd2_33,exitRQ_ret,exitRQ_exit,Int.toNat_natCast,Nat.mul_one,hld35_5])
          refine (RCompactArrayLen_fn w35 hq35.1 hrok hG35.1 hgrb).mono ?_
          rintro _ w36 ⟨rfl,hq36,hu36⟩
          have hx2_36 := hu36.blk_some hx2_35 (by omega)
          have hV36 : Upd (fun b => b = R2 ∨ b = rb) w35 w36 := hu36.mono (fun _ h => .inr h)
          have hU36 : Upd (fun b => b = vb ∨ b = rb) w1 w36 := hU35.trans' hV36 fun i hi h => h.elim (fun h => by omega) .inr
          have hz36 := hV36.size
          have hG36 : Glo ev w36 := hG1.updS hU36 hgM1 hgM2
          obtain ⟨X36,hX36,hxb36,hXs36⟩ := el_open (n := 10) hx2_36 hA2 rfl
          obtain ⟨s18,hs18⟩ : ∃ s,s = (rdALen true s17).2 := ⟨_,rfl⟩
          rw [← hs18] at hq36
          have hyr3 := rdALen_rng true s17
          generalize hy3 : (rdALen true s17).1 = y3 at *
          obtain ⟨N3,hN3⟩ : ∃ N,N = y3.toNat := ⟨_,rfl⟩
          have hlb3 : (rdMany (rd1 (rdP d ver true) fX0_5.of fX0_5.sub false true) N3 s18).2 = none → FB := fun h => hbe0e1_5 (by rw [rdL_st (by decide) hhe0e1_5];exact rdL_bad (rdF_listbad rfl (by rw [hy3,← hN3,← hs18];exact h)))
          repeat ((first | refine W.seqR rfl ?_ | refine W.seq ?_ | refine W.regR rfl ?_ | refine W.block ?_ | refine W.skip ?_ | refine W.ret ?_ | refine W.exit ?_);try simp (maxSteps:=1000000)(disch:=(first|omega|(simp only [qI,qJ,qK]<;>omega)|exact qL _)) only [go_sem,↓reduceIte,n0,reduceCtorEq,n1,n2,n3,n4,n5,i0,i1,i2,i3,i4,i5,i6,i7,hxb36,hrd2_2,hrd2_7,hrd2_8,hrd2_9,hrd2_10,hrd2_14,hrd2_13,hrd2_15,hrd2_17,hrd2_24,hrd2_23,hrd2_25,hrd2_27,hrd2_34,hrd2_33,exitRQ_ret,exitRQ_exit,Int.toNat_natCast,Nat.mul_one])
          refine (ROk_fn w36 hq36.1).mono ?_
          rintro _ wz ⟨rfl,hez⟩
          rw [hez]
          clear hez wz
          by_cases hsn3 : s18 = none
          · have hso : s18.isSome = false := by rw [hsn3];rfl
            repeat (first|simp (maxSteps:=1000000)(disch:=(first|omega|(simp only [qI,qJ,qK]<;>omega)|exact qL _)) only [go_sem,↓reduceIte,n0,reduceCtorEq,n1,n2,n3,n4,n5,i0,i1,i2,i3,i4,i5,i6,i7,hxb36,hrd2_2,hrd2_7,hrd2_8,hrd2_9,hrd2_10,hrd2_14,hrd2_13,hrd2_15,hrd2_17,hrd2_24,hrd2_23,hrd2_25,hrd2_27,hrd2_34,hrd2_33,exitRQ_ret,exitRQ_exit,Int.toNat_natCast,Nat.mul_one,hso]|refine qA rfl ?_|apply qB|refine qC rfl ?_|apply qD|apply qE|apply qF|apply qG|apply qH)
            refine (RComplete_fn w36 hq36.1 hG36.2).mono ?_
            rintro _ wz ⟨rfl,hez⟩
            rw [hez]
            repeat (first|simp (maxSteps:=1000000)(disch:=(first|omega|(simp only [qI,qJ,qK]<;>omega)|exact qL _)) only [go_sem,↓reduceIte,n0,reduceCtorEq,n1,n2,n3,n4,n5,i0,i1,i2,i3,i4,i5,i6,i7,hxb36,hrd2_2,hrd2_7,hrd2_8,hrd2_9,hrd2_10,hrd2_14,hrd2_13,hrd2_15,hrd2_17,hrd2_24,hrd2_23,hrd2_25,hrd2_27,hrd2_34,hrd2_33,exitRQ_ret,exitRQ_exit,Int.toNat_natCast,Nat.mul_one]|refine qA rfl ?_|apply qB|refine qC rfl ?_|apply qD|apply qE|apply qF|apply qG|apply qH)
            rw [errV_none hsn3]
            exact ReadQ.bad (Eq.mp hFB (hlb3 (by rw [hsn3];exact rdMany_none rd1P_none _))) (hbase.trans' hU36 fun i hi h => h.elim id fun h => by omega)
          have hso3 : s18.isSome = true := isSome_some hsn3
          try simp (maxSteps:=1000000)(disch:=(first|omega|(simp only [qI,qJ,qK]<;>omega)|exact qL _)) only [go_sem,↓reduceIte,n0,reduceCtorEq,n1,n2,n3,n4,n5,i0,i1,i2,i3,i4,i5,i6,i7,hxb36,hrd2_2,hrd2_7,hrd2_8,hrd2_9,hrd2_10,hrd2_14,hrd2_13,hrd2_15,hrd2_17,hrd2_24,hrd2_23,hrd2_25,hrd2_27,hrd2_34,hrd2_33,exitRQ_ret,exitRQ_exit,Int.toNat_natCast,Nat.mul_one,hso3]
          repeat ((first | refine W.seqR rfl ?_ | refine W.seq ?_ | refine W.regR rfl ?_ | refine W.block ?_ | refine W.skip ?_ | refine W.ret ?_ | refine W.exit ?_);try simp (maxSteps:=1000000)(disch:=(first|omega|(simp only [qI,qJ,qK]<;>omega)|exact qL _)) only [go_sem,↓reduceIte,n0,reduceCtorEq,n1,n2,n3,n4,n5,i0,i1,i2,i3,i4,i5,i6,i7,hxb36,hrd2_2,hrd2_7,hrd2_8,hrd2_9,hrd2_10,hrd2_14,hrd2_13,hrd2_15,hrd2_17,hrd2_24,hrd2_23,hrd2_25,hrd2_27,hrd2_34,hrd2_33,exitRQ_ret,exitRQ_exit,Int.toNat_natCast,Nat.mul_one,hso3])
          refine W.condK ?_
          try simp (maxSteps:=1000000)(disch:=(first|omega|(simp only [qI,qJ,qK]<;>omega)|exact qL _)) only [go_sem,↓reduceIte,n0,reduceCtorEq,n1,n2,n3,n4,n5,i0,i1,i2,i3,i4,i5,i6,i7,hxb36,hrd2_2,hrd2_7,hrd2_8,hrd2_9,hrd2_10,hrd2_14,hrd2_13,hrd2_15,hrd2_17,hrd2_24,hrd2_23,hrd2_25,hrd2_27,hrd2_34,hrd2_33,exitRQ_ret,exitRQ_exit,Int.toNat_natCast,Nat.mul_one,hso3]
          repeat ((first | refine W.seqR rfl ?_ | refine W.seq ?_ | refine W.regR rfl ?_ | refine W.block ?_ | refine W.skip ?_ | refine W.ret ?_ | refine W.exit ?_);try simp (maxSteps:=1000000)(disch:=(first|omega|(simp only [qI,qJ,qK]<;>omega)|exact qL _)) only [go_sem,↓reduceIte,n0,reduceCtorEq,n1,n2,n3,n4,n5,i0,i1,i2,i3,i4,i5,i6,i7,hxb36,hrd2_2,hrd2_7,hrd2_8,hrd2_9,hrd2_10,hrd2_14,hrd2_13,hrd2_15,hrd2_17,hrd2_24,hrd2_23,hrd2_25,hrd2_27,hrd2_34,hrd2_33,exitRQ_ret,exitRQ_exit,Int.toNat_natCast,Nat.mul_one,hso3,slBase_00])
          refine W.normJ (RowQ [(2,.bool false),(7,.pointer (some ⟨rb,0,none⟩)),(8,.int .i16 ver),(9,.bool true),(10,.pointer (some ⟨vb,0,none⟩)),(14,.int .i32 y0),(13,.slice (some ⟨R1,0,none⟩) N0 q1),(15,.int .i32 j1),(17,.pointer (some ⟨R1,j1 * 22,none⟩)),(24,.int .i32 y1),(23,.slice (some ⟨R2,0,none⟩) N1 q2),(25,.int .i32 j2),(27,.pointer (some ⟨R2,j2 * 10,none⟩)),(39,.int .i32 y3)] 38 (fun va w' => LstI RT (rd1 (rdP d ver true) fX0_5.of fX0_5.sub false true) (Rep1 (RepS true d) fX0_5.of fX0_5.sub) 1 21 [.int .i32 0] w36.heap.size N3 ok (fun b => (fun b => (ok b ∨ w1.heap.size ≤ b) ∧ ¬ ownB va0 b) b ∧ ¬ ownB va1 b) rb w36 s18 va 0 s18 [] [] w' ∧ (N3 = 0 → if nilS fX0_5 ver y3 = true then va = .slice none 0 0 else ∃ a,va = .slice (some a) 0 0))) ?_ ?_
          · by_cases hy0 : (0 : Int) < y3
            · have hyv : Value.int .i32 y3 = .int .i32 ((N3 : Nat) : Int) := by rw [show y3 = ((N3 : Nat) : Int) by omega]
              repeat ((first | refine qA rfl ?_|apply qB|refine qC rfl ?_|apply qD|apply qE|apply qF|apply qG|apply qH);try simp (maxSteps:=1000000)(disch:=(first|omega|(simp only [qI,qJ,qK]<;>omega)|exact qL _)) only [go_sem,↓reduceIte,n0,reduceCtorEq,n1,n2,n3,n4,n5,i0,i1,i2,i3,i4,i5,i6,i7,hxb36,hrd2_2,hrd2_7,hrd2_8,hrd2_9,hrd2_10,hrd2_14,hrd2_13,hrd2_15,hrd2_17,hrd2_24,hrd2_23,hrd2_25,hrd2_27,hrd2_34,hrd2_33,exitRQ_ret,exitRQ_exit,Int.toNat_natCast,Nat.mul_one])
              refine wp_appendZ (m := N3) utQ_86 utQ_21 inQ_21 (by decide) (by first | rfl | simp (maxSteps:=1000000)(disch:=(first|omega|(simp only [qI,qJ,qK]<;>omega)|exact qL _)) only [go_sem,↓reduceIte,n0,reduceCtorEq,n1,n2,n3,n4,n5,i0,i1,i2,i3,i4,i5,i6,i7,hrd2_2,hrd2_7,hrd2_8,hrd2_9,hrd2_10,hrd2_14,hrd2_13,hrd2_15,hrd2_17,hrd2_24,hrd2_23,hrd2_25,hrd2_27,hrd2_34,hrd2_33]) (by first | exact hyv | (simp (maxSteps:=1000000)(disch:=(first|omega|(simp only [qI,qJ,qK]<;>omega)|exact qL _)) only [go_sem,↓reduceIte,n0,reduceCtorEq,n1,n2,n3,n4,n5,i0,i1,i2,i3,i4,i5,i6,i7,hrd2_2,hrd2_7,hrd2_8,hrd2_9,hrd2_10,hrd2_14,hrd2_13,hrd2_15,hrd2_17,hrd2_24,hrd2_23,hrd2_25,hrd2_27,hrd2_34,hrd2_33];exact hyv)) (by omega) (by omega) (by decide) ?_
              intro q rest hq1
              have hEw : Ext w36 (w36.drew.alloc (.cells (zs [.int .i32 0] N3 ++ rest).toArray 21)) := (Upd.refl _ _).drew.alloc _
              repeat (first|simp (maxSteps:=1000000)(disch:=(first|omega|(simp only [qI,qJ,qK]<;>omega)|exact qL _)) only [go_sem,↓reduceIte,n0,reduceCtorEq,n1,n2,n3,n4,n5,i0,i1,i2,i3,i4,i5,i6,i7,hxb36,hrd2_2,hrd2_7,hrd2_8,hrd2_9,hrd2_10,hrd2_14,hrd2_13,hrd2_15,hrd2_17,hrd2_24,hrd2_23,hrd2_25,hrd2_27,hrd2_34,hrd2_33,exitRQ_ret,exitRQ_exit,Int.toNat_natCast,Nat.mul_one]|refine qA rfl ?_|apply qB|refine qC rfl ?_|apply qD|apply qE|apply qF|apply qG|apply qH)
              exact ⟨(by simp (maxSteps:=1000000)(disch:=(first|omega|(simp only [qI,qJ,qK]<;>omega)|exact qL _)) only [go_sem,↓reduceIte,n0,reduceCtorEq,n1,n2,n3,n4,n5,i0,i1,i2,i3,i4,i5,i6,i7,Holds_nil,Holds_cons,hrd2_2,hrd2_7,hrd2_8,hrd2_9,hrd2_10,hrd2_14,hrd2_13,hrd2_15,hrd2_17,hrd2_24,hrd2_23,hrd2_25,hrd2_27,hrd2_34,hrd2_33]),.slice (some ⟨w36.heap.size,0,none⟩) N3 q,(by simp (maxSteps:=1000000)(disch:=(first|omega|(simp only [qI,qJ,qK]<;>omega)|exact qL _)) only [go_sem,↓reduceIte,n0,reduceCtorEq,n1,n2,n3,n4,n5,i0,i1,i2,i3,i4,i5,i6,i7,hrd2_2,hrd2_7,hrd2_8,hrd2_9,hrd2_10,hrd2_14,hrd2_13,hrd2_15,hrd2_17,hrd2_24,hrd2_23,hrd2_25,hrd2_27,hrd2_34,hrd2_33]),LstI.start (RowJ.start (by omega) hq1 (by show w36.heap.size ≤ w36.drew.heap.size;rw [size_drew];omega) (blk_alloc_new rfl)) ⟨hq36.1.upd hEw (fun h => h) (fun _ _ _ h => h),hq36.2.upd hEw fun h => h⟩ (hEw.mono fun _ h => h.elim),fun h0 => by omega⟩
            · repeat ((first | refine qA rfl ?_|apply qB|refine qC rfl ?_|apply qD|apply qE|apply qF|apply qG|apply qH);try simp (maxSteps:=1000000)(disch:=(first|omega|(simp only [qI,qJ,qK]<;>omega)|exact qL _)) only [go_sem,↓reduceIte,n0,reduceCtorEq,n1,n2,n3,n4,n5,i0,i1,i2,i3,i4,i5,i6,i7,hxb36,hrd2_2,hrd2_7,hrd2_8,hrd2_9,hrd2_10,hrd2_14,hrd2_13,hrd2_15,hrd2_17,hrd2_24,hrd2_23,hrd2_25,hrd2_27,hrd2_34,hrd2_33,exitRQ_ret,exitRQ_exit,Int.toNat_natCast,Nat.mul_one])
              exact ⟨(by simp (maxSteps:=1000000)(disch:=(first|omega|(simp only [qI,qJ,qK]<;>omega)|exact qL _)) only [go_sem,↓reduceIte,n0,reduceCtorEq,n1,n2,n3,n4,n5,i0,i1,i2,i3,i4,i5,i6,i7,Holds_nil,Holds_cons,hrd2_2,hrd2_7,hrd2_8,hrd2_9,hrd2_10,hrd2_14,hrd2_13,hrd2_15,hrd2_17,hrd2_24,hrd2_23,hrd2_25,hrd2_27,hrd2_34,hrd2_33]),.slice none 0 0,(by simp (maxSteps:=1000000)(disch:=(first|omega|(simp only [qI,qJ,qK]<;>omega)|exact qL _)) only [go_sem,↓reduceIte,n0,reduceCtorEq,n1,n2,n3,n4,n5,i0,i1,i2,i3,i4,i5,i6,i7,hrd2_2,hrd2_7,hrd2_8,hrd2_9,hrd2_10,hrd2_14,hrd2_13,hrd2_15,hrd2_17,hrd2_24,hrd2_23,hrd2_25,hrd2_27,hrd2_34,hrd2_33,slBase_00]),LstI.start (RowJ.zero (by omega) (fun _ h => by cases h)) hq36 (Upd.refl _ _),fun _ => by rw [nilS_plain (by decide) (by omega)];exact rfl⟩
          rintro ρ w37 ⟨⟨hrb3_2,hrb3_7,hrb3_8,hrb3_9,hrb3_10,hrb3_14,hrb3_13,hrb3_15,hrb3_17,hrb3_24,hrb3_23,hrb3_25,hrb3_27,hrb3_39,-⟩,va3,hra3,hL3,hnc3⟩
          repeat ((first | refine qA rfl ?_|apply qB|refine qC rfl ?_|apply qD|apply qE|apply qF|apply qG|apply qH);try simp (maxSteps:=1000000)(disch:=(first|omega|(simp only [qI,qJ,qK]<;>omega)|exact qL _)) only [go_sem,↓reduceIte,n0,reduceCtorEq,n1,n2,n3,n4,n5,i0,i1,i2,i3,i4,i5,i6,i7,hxb36,hrb3_2,hrb3_7,hrb3_8,hrb3_9,hrb3_10,hrb3_14,hrb3_13,hrb3_15,hrb3_17,hrb3_24,hrb3_23,hrb3_25,hrb3_27,hrb3_39,hra3,exitRQ_ret,exitRQ_exit,Int.toNat_natCast,Nat.mul_one])
          refine W.exitRJ 6 (EndQ [(2,.bool false),(7,.pointer (some ⟨rb,0,none⟩)),(8,.int .i16 ver),(9,.bool true),(10,.pointer (some ⟨vb,0,none⟩)),(14,.int .i32 y0),(13,.slice (some ⟨R1,0,none⟩) N0 q1),(15,.int .i32 j1),(17,.pointer (some ⟨R1,j1 * 22,none⟩)),(24,.int .i32 y1),(23,.slice (some ⟨R2,0,none⟩) N1 q2),(25,.int .i32 j2),(27,.pointer (some ⟨R2,j2 * 10,none⟩)),(39,.int .i32 y3),(38,va3)] (fun w' => ∃ s xs css,LstI RT (rd1 (rdP d ver true) fX0_5.of fX0_5.sub false true) (Rep1 (RepS true d) fX0_5.of fX0_5.sub) 1 21 [.int .i32 0] w36.heap.size N3 ok (fun b => (fun b => (ok b ∨ w1.heap.size ≤ b) ∧ ¬ ownB va0 b) b ∧ ¬ ownB va1 b) rb w36 s18 va3 N3 s xs css w')) (W.loop (LoopQ [(2,.bool false),(7,.pointer (some ⟨rb,0,none⟩)),(8,.int .i16 ver),(9,.bool true),(10,.pointer (some ⟨vb,0,none⟩)),(14,.int .i32 y0),(13,.slice (some ⟨R1,0,none⟩) N0 q1),(15,.int .i32 j1),(17,.pointer (some ⟨R1,j1 * 22,none⟩)),(24,.int .i32 y1),(23,.slice (some ⟨R2,0,none⟩) N1 q2),(25,.int .i32 j2),(27,.pointer (some ⟨R2,j2 * 10,none⟩)),(39,.int .i32 y3),(38,va3)] 40 (fun j w' => ∃ s xs css,LstI RT (rd1 (rdP d ver true) fX0_5.of fX0_5.sub false true) (Rep1 (RepS true d) fX0_5.of fX0_5.sub) 1 21 [.int .i32 0] w36.heap.size N3 ok (fun b => (fun b => (ok b ∨ w1.heap.size ≤ b) ∧ ¬ ownB va0 b) b ∧ ¬ ownB va1 b) rb w36 s18 va3 j s xs css w')) (fun ρ _ => N3 - (RowKit.intOf (ρ 40)).toNat) ?_ ?_) ?_
          · exact ⟨(by simp (maxSteps:=1000000)(disch:=(first|omega|(simp only [qI,qJ,qK]<;>omega)|exact qL _)) only [go_sem,↓reduceIte,n0,reduceCtorEq,n1,n2,n3,n4,n5,i0,i1,i2,i3,i4,i5,i6,i7,Holds_nil,Holds_cons,hrb3_2,hrb3_7,hrb3_8,hrb3_9,hrb3_10,hrb3_14,hrb3_13,hrb3_15,hrb3_17,hrb3_24,hrb3_23,hrb3_25,hrb3_27,hrb3_39,hra3]),0,(by simp (maxSteps:=1000000)(disch:=(first|omega|(simp only [qI,qJ,qK]<;>omega)|exact qL _)) only [go_sem,↓reduceIte,n0,reduceCtorEq,n1,n2,n3,n4,n5,i0,i1,i2,i3,i4,i5,i6,i7,hrb3_2,hrb3_7,hrb3_8,hrb3_9,hrb3_10,hrb3_14,hrb3_13,hrb3_15,hrb3_17,hrb3_24,hrb3_23,hrb3_25,hrb3_27,hrb3_39,hra3];all_goals rfl),s18,[],[],hL3⟩
          · rintro ρ w38 ⟨⟨hrc3_2,hrc3_7,hrc3_8,hrc3_9,hrc3_10,hrc3_14,hrc3_13,hrc3_15,hrc3_17,hrc3_24,hrc3_23,hrc3_25,hrc3_27,hrc3_39,hrc3_38,-⟩,j3,hri3,s19,xs3,css3,hL3⟩
            have hj3 := hL3.le
            have hq38 := hL3.rd
            have hU38 : Upd (fun b => b = vb ∨ b = rb) w1 w38 := hU36.trans' hL3.upd fun i _ h => .inr h
            have hz38 := hL3.upd.size
            have hG38 : Glo ev w38 := hG1.updS hU38 hgM1 hgM2
            by_cases hlt3 : j3 < N3
            · obtain ⟨R3,q3,B3,hva3,hNq3,hLR3,hA3,hx3_38,hnext3⟩ := hL3.row.next hlt3
              have hRl3 := blk_lt hx3_38
              generalize css3.flatten = A3 at hA3 hx3_38 hnext3
              rw [Nat.mul_one] at hA3
              replace hra3 : ρ 38 = .slice (some ⟨R3,0,none⟩) N3 q3 := hrc3_38.trans hva3
              have hown3 : ∀ b,ownB va3 b → w36.heap.size ≤ b ∧ b < w38.heap.size := fun b h => hL3.row.own h
              have hoM3 : ∀ b,(fun b => (fun b => (fun b => (ok b ∨ w1.heap.size ≤ b) ∧ ¬ ownB va0 b) b ∧ ¬ ownB va1 b) b ∧ ¬ ownB va3 b) b → ¬ (b = R3 ∨ b = rb) := fun b hk h => h.elim (fun e => hk.2 ⟨_,_,_,hva3,e⟩) (fun e => hoM2 b hk.1 (.inr e))
              obtain ⟨X38,hX38,hxb38,hXs38⟩ := el_open (n := 1) hx3_38 hA3 rfl
              repeat ((first | refine qA rfl ?_|apply qB|refine qC rfl ?_|apply qD|apply qE|apply qF|apply qG|apply qH);try simp (maxSteps:=1000000)(disch:=(first|omega|(simp only [qI,qJ,qK]<;>omega)|exact qL _)) only [go_sem,↓reduceIte,n0,reduceCtorEq,n1,n2,n3,n4,n5,i0,i1,i2,i3,i4,i5,i6,i7,hxb38,hrc3_2,hrc3_7,hrc3_8,hrc3_9,hrc3_10,hrc3_14,hrc3_13,hrc3_15,hrc3_17,hrc3_24,hrc3_23,hrc3_25,hrc3_27,hrc3_39,hra3,hri3,exitRQ_ret,exitRQ_exit,Int.toNat_natCast,Nat.mul_one])
              refine (Int32_fn w38 hq38.1 hrok hG38.1 hgrb).mono ?_
              rintro _ w39 ⟨rfl,hq39,hu39⟩
              have hx3_39 := hu39.blk_some hx3_38 (by omega)
              have hV39 : Upd (fun b => b = R3 ∨ b = rb) w38 w39 := hu39.mono (fun _ h => .inr h)
              have hU39 : Upd (fun b => b = vb ∨ b = rb) w1 w39 := hU38.trans' hV39 fun i hi h => h.elim (fun h => by omega) .inr
              have hz39 := hV39.size
              have hG39 : Glo ev w39 := hG1.updS hU39 hgM1 hgM2
              obtain ⟨X39,hX39,hxb39,hXs39⟩ := el_open (n := 1) hx3_39 hA3 rfl
              obtain ⟨s20,hs20⟩ : ∃ s,s = (rdInt .i32 4 s19).2 := ⟨_,rfl⟩
              rw [← hs20] at hq39
              have hrE : (rd1 (rdP d ver true) fX0_5.of fX0_5.sub false true) s19 = ((.num (rdInt .i32 4 s19).1),s20) := by rw [hs20];exact rd1_num 3 (by decide)
              have hst39_0 : j3 + 1 ≤ X39.size := by omega
              repeat ((first | refine qA rfl ?_|apply qB|refine qC rfl ?_|apply qD|apply qE|apply qF|apply qG|apply qH);try simp (maxSteps:=1000000)(disch:=(first|omega|(simp only [qI,qJ,qK]<;>omega)|exact qL _)) only [go_sem,↓reduceIte,n0,reduceCtorEq,n1,n2,n3,n4,n5,i0,i1,i2,i3,i4,i5,i6,i7,hxb39,hrc3_2,hrc3_7,hrc3_8,hrc3_9,hrc3_10,hrc3_14,hrc3_13,hrc3_15,hrc3_17,hrc3_24,hrc3_23,hrc3_25,hrc3_27,hrc3_39,hra3,hri3,exitRQ_ret,exitRQ_exit,Int.toNat_natCast,Nat.mul_one,hst39_0])
              generalize hw40 : wr w39 R3 (j3) [.int .i32 (rdInt .i32 4 s19).1] = w40
              have hS40 : Upd (fun b => b = R3 ∨ b = rb) w39 w40 := by rw [← hw40];exact (Upd.refl _ _).wr _ _ (.inr (.inl rfl))
              have hx3_40 : blk w40 R3 = some ((A3 ++ (([.int .i32 (rdInt .i32 4 s19).1] : List Value) ++ B3)).toArray,21,(0,0)) := by rw [← hw40];exact el_blk0 hx3_39 hA3 (Nat.le_of_ble_eq_true rfl)
              have hV40 := hS40
              have hU40 : Upd (fun b => b = vb ∨ b = rb) w1 w40 := hU39.trans' hV40 fun i hi h => h.elim (fun h => by omega) .inr
              have hz40 := hV40.size
              have hG40 : Glo ev w40 := hG1.updS hU40 hgM1 hgM2
              have hq40 := Rdr.stored hw40 hq39 (by omega) fun h => by have := (hok _ h).1;first | omega | exact (hok _ h).2 rfl
              obtain ⟨X40,hX40,hxb40,hXs40⟩ := el_open (n := 1) hx3_40 hA3 rfl
              clear hw40
              have hxE : (Rep1 (RepS true d) fX0_5.of fX0_5.sub) (fun b => (fun b => (fun b => (ok b ∨ w1.heap.size ≤ b) ∧ ¬ ownB va0 b) b ∧ ¬ ownB va1 b) b ∧ ¬ ownB va3 b) w40 (.num (rdInt .i32 4 s19).1) [.int .i32 (rdInt .i32 4 s19).1] := (Rep1_num (by decide)).2 (congrArg (fun x => [x]) (numC_rd 3 (by decide) 4 s19).symm)
              repeat ((first | refine qA rfl ?_|apply qB|refine qC rfl ?_|apply qD|apply qE|apply qF|apply qG|apply qH);try simp (maxSteps:=1000000)(disch:=(first|omega|(simp only [qI,qJ,qK]<;>omega)|exact qL _)) only [go_sem,↓reduceIte,n0,reduceCtorEq,n1,n2,n3,n4,n5,i0,i1,i2,i3,i4,i5,i6,i7,hxb40,hrc3_2,hrc3_7,hrc3_8,hrc3_9,hrc3_10,hrc3_14,hrc3_13,hrc3_15,hrc3_17,hrc3_24,hrc3_23,hrc3_25,hrc3_27,hrc3_39,hra3,hri3,exitRQ_ret,exitRQ_exit,Int.toNat_natCast,Nat.mul_one])
              have hTk : Upd (fun b => b = R3 ∨ b = rb) w38 w40 := (hV39.trans hV40)
              have hL' := hL3.step (Rep1_lay _ _ fun _ => RepS_lay true _ _) hlt3 (hnext3 w40 [.int .i32 (rdInt .i32 4 s19).1] rfl hx3_40) (by rw [hrE];exact hxE) (hTk.mono fun b h => h.imp (fun e => ⟨_,_,_,hva3,e⟩) id) (by rw [hrE];exact hq40) (fun h => hoM2 rb h (.inr rfl)) (Nat.le_refl _)
              have hij : IntKind.i32.wrap ((j3 : Int) + 1) = ((j3 + 1 : Nat) : Int) := by rw [i32_wrap (by omega)];omega
              repeat ((first | refine qA rfl ?_|apply qB|refine qC rfl ?_|apply qD|apply qE|apply qF|apply qG|apply qH);try simp (maxSteps:=1000000)(disch:=(first|omega|(simp only [qI,qJ,qK]<;>omega)|exact qL _)) only [go_sem,↓reduceIte,n0,reduceCtorEq,n1,n2,n3,n4,n5,i0,i1,i2,i3,i4,i5,i6,i7,hxb40,hrc3_2,hrc3_7,hrc3_8,hrc3_9,hrc3_10,hrc3_14,hrc3_13,hrc3_15,hrc3_17,hrc3_24,hrc3_23,hrc3_25,hrc3_27,hrc3_39,hra3,hri3,exitRQ_ret,exitRQ_exit,Int.toNat_natCast,Nat.mul_one,hij])
              refine ⟨⟨(by simp (maxSteps:=1000000)(disch:=(first|omega|(simp only [qI,qJ,qK]<;>omega)|exact qL _)) only [go_sem,↓reduceIte,n0,reduceCtorEq,n1,n2,n3,n4,n5,i0,i1,i2,i3,i4,i5,i6,i7,Holds_nil,Holds_cons,hrc3_2,hrc3_7,hrc3_8,hrc3_9,hrc3_10,hrc3_14,hrc3_13,hrc3_15,hrc3_17,hrc3_24,hrc3_23,hrc3_25,hrc3_27,hrc3_39,hra3,hri3];exact hva3.symm),j3 + 1,(by simp (maxSteps:=1000000)(disch:=(first|omega|(simp only [qI,qJ,qK]<;>omega)|exact qL _)) only [go_sem,↓reduceIte,n0,reduceCtorEq,n1,n2,n3,n4,n5,i0,i1,i2,i3,i4,i5,i6,i7,hrc3_2,hrc3_7,hrc3_8,hrc3_9,hrc3_10,hrc3_14,hrc3_13,hrc3_15,hrc3_17,hrc3_24,hrc3_23,hrc3_25,hrc3_27,hrc3_39,hra3,hri3,hij];all_goals rfl),_,_,_,hL'⟩,?_⟩
              try simp (maxSteps:=1000000)(disch:=(first|omega|(simp only [qI,qJ,qK]<;>omega)|exact qL _)) only [go_sem,↓reduceIte,n0,reduceCtorEq,n1,n2,n3,n4,n5,i0,i1,i2,i3,i4,i5,i6,i7,hrc3_2,hrc3_7,hrc3_8,hrc3_9,hrc3_10,hrc3_14,hrc3_13,hrc3_15,hrc3_17,hrc3_24,hrc3_23,hrc3_25,hrc3_27,hrc3_39,hra3,hri3]
              simp only [RowKit.intOf]
              omega
            · have hjN : j3 = N3 := by omega
              rw [hjN] at hL3
              repeat ((first | refine qA rfl ?_|apply qB|refine qC rfl ?_|apply qD|apply qE|apply qF|apply qG|apply qH);try simp (maxSteps:=1000000)(disch:=(first|omega|(simp only [qI,qJ,qK]<;>omega)|exact qL _)) only [go_sem,↓reduceIte,n0,reduceCtorEq,n1,n2,n3,n4,n5,i0,i1,i2,i3,i4,i5,i6,i7,hrc3_2,hrc3_7,hrc3_8,hrc3_9,hrc3_10,hrc3_14,hrc3_13,hrc3_15,hrc3_17,hrc3_24,hrc3_23,hrc3_25,hrc3_27,hrc3_39,hrc3_38,hri3,exitRQ_ret,exitRQ_exit])
              exact ⟨(by simp (maxSteps:=1000000)(disch:=(first|omega|(simp only [qI,qJ,qK]<;>omega)|exact qL _)) only [go_sem,↓reduceIte,n0,reduceCtorEq,n1,n2,n3,n4,n5,i0,i1,i2,i3,i4,i5,i6,i7,Holds_nil,Holds_cons,hrc3_2,hrc3_7,hrc3_8,hrc3_9,hrc3_10,hrc3_14,hrc3_13,hrc3_15,hrc3_17,hrc3_24,hrc3_23,hrc3_25,hrc3_27,hrc3_39,hrc3_38,hri3]),s19,xs3,css3,hL3⟩
          rintro ρ w41 ⟨⟨hrd3_2,hrd3_7,hrd3_8,hrd3_9,hrd3_10,hrd3_14,hrd3_13,hrd3_15,hrd3_17,hrd3_24,hrd3_23,hrd3_25,hrd3_27,hrd3_39,hrd3_38,-⟩,s21,xs3,css3,hL3⟩
          have hq41 := hL3.rd
          have hu41 := hL3.upd
          have hx2_41 := hu41.blk_some hx2_36 (by omega)
          have hV41 : Upd (fun b => b = R2 ∨ b = rb) w36 w41 := hu41.mono (fun _ h => .inr h)
          have hU41 : Upd (fun b => b = vb ∨ b = rb) w1 w41 := hU36.trans' hV41 fun i hi h => h.elim (fun h => by omega) .inr
          have hz41 := hV41.size
          have hG41 : Glo ev w41 := hG1.updS hU41 hgM1 hgM2
          obtain ⟨X41,hX41,hxb41,hXs41⟩ := el_open (n := 10) hx2_41 hA2 rfl
          have hrd3 : rdF (rdP d ver true) ver true fX0_5 s17 = (.mk 0 [] (nilS fX0_5 ver y3) xs3 [],s21) := by
            have h := rdF_listE (pt := (rdP d ver true)) (v := ver) (flex := true) (f := fX0_5) (s := s17) (xs := xs3) (e := s21) rfl (by rw [hy3,← hN3,← hs18];exact hL3.done)
            rw [hy3] at h;exact h
          have hs21 : s21 = (rdF (rdP d ver true) ver true fX0_5 s17).2 := by rw [hrd3]
          obtain ⟨aa3,qq3,hvs3⟩ := hL3.row.shape
          subst hvs3
          have hst41_5 : j2 * 10 + 6 ≤ X41.size := by omega
          have hld41_6 : X41[j2 * 10 + 6]? = some (.slice none 0 0) := by rw [hX41];exact el_cell (R := 0) hA2 (Nat.le_of_ble_eq_true rfl)
          have hld41_7 : X41[j2 * 10 + 7]? = some (.slice none 0 0) := by rw [hX41];exact el_cell (R := 0) hA2 (Nat.le_of_ble_eq_true rfl)
          have hld41_8 : X41[j2 * 10 + 8]? = some (.slice none 0 0) := by rw [hX41];exact el_cell (R := 0) hA2 (Nat.le_of_ble_eq_true rfl)
          repeat ((first | refine qA rfl ?_|apply qB|refine qC rfl ?_|apply qD|apply qE|apply qF|apply qG|apply qH);try simp (maxSteps:=1000000)(disch:=(first|omega|(simp only [qI,qJ,qK]<;>omega)|exact qL _)) only [go_sem,↓reduceIte,n0,reduceCtorEq,n1,n2,n3,n4,n5,i0,i1,i2,i3,i4,i5,i6,i7,hxb41,hrd3_2,hrd3_7,hrd3_8,hrd3_9,hrd3_10,hrd3_14,hrd3_13,hrd3_15,hrd3_17,hrd3_24,hrd3_23,hrd3_25,hrd3_27,hrd3_39,hrd3_38,exitRQ_ret,exitRQ_exit,Int.toNat_natCast,Nat.mul_one,hst41_5,hld41_6,hld41_7,hld41_8,Array.getElem?_setIfInBounds_ne])
          generalize hw42 : wr w41 R2 (j2 * 10 + 5) [.slice aa3 N3 qq3] = w42
          have hS42 : Upd (fun b => b = R2 ∨ b = rb) w41 w42 := by rw [← hw42];exact (Upd.refl _ _).wr _ _ (.inr (.inl rfl))
          have hx2_42 : blk w42 R2 = some ((A2 ++ (([.int .i16 (rdInt .i16 2 s9).1,.int .i32 (rdInt .i32 4 s10).1,.int .i32 (rdInt .i32 4 s11).1,.int .i32 (rdInt .i32 4 s12).1,.slice aa2 N2 qq2,.slice aa3 N3 qq3,.slice none 0 0,.slice none 0 0,.slice none 0 0,.map none] : List Value) ++ B2)).toArray,88,(0,0)) := by rw [← hw42];exact el_blk (o := 5) hx2_41 hA2 (Nat.le_of_ble_eq_true rfl)
          have hV42 := hS42
          have hU42 : Upd (fun b => b = vb ∨ b = rb) w1 w42 := hU41.trans' hV42 fun i hi h => h.elim (fun h => by omega) .inr
          have hz42 := hV42.size
          have hG42 : Glo ev w42 := hG1.updS hU42 hgM1 hgM2
          have hq42 := Rdr.stored hw42 hq41 (by omega) fun h => by have := (hok _ h).1;first | omega | exact (hok _ h).2 rfl
          obtain ⟨X42,hX42,hxb42,hXs42⟩ := el_open (n := 10) hx2_42 hA2 rfl
          clear hw42
          have hfe0e1_5 : RepF (RepS true d) (szS true d) fX0_5 (fun b => (fun b => (ok b ∨ w1.heap.size ≤ b) ∧ ¬ ownB va0 b) b ∧ ¬ ownB va1 b) w42 (xe0e1_5) [.slice aa3 N3 qq3] := by rw [hxe0e1_5,hrd3];exact RepF.keepS (RepF_row rfl hnc3 hN3 rfl hL3.row hL3.all (fun b hb => ⟨⟨.inr (by omega),fun ho => by have := (hown1 _ ho).2;omega⟩,fun ho => by have := (hown2 _ ho).2;omega⟩)) (hV42.keeps fun b _ hk e => hoM2 b hk e)
          clear hL3 hnc3
          have hbe0e1_6 : (rdL (rdP d ver true) (dfP d) ver true [frX0_6,frX0_7,fX0_8] s21).2 = none → FB := fun h => hbe0e1_5 (by rw [rdL_st (by decide) hhe0e1_5,← hs21];exact h)
          have hhe0e1_6 : hasS frX0_6 ver = true := hasS_t (by show (0 : Int) ≤ ver;omega) (by show (-1 : Int) < 0 ∨ ver ≤ (-1 : Int);omega)
          obtain ⟨xe0e1_6,hxe0e1_6⟩ : ∃ x,x = (rdF (rdP d ver true) ver true frX0_6 s21).1 := ⟨_,rfl⟩
          have hld42_6 : X42[j2 * 10 + 6]? = some (.slice none 0 0) := by rw [hX42];exact el_cell (R := 0) hA2 (Nat.le_of_ble_eq_true rfl)
          repeat ((first | refine qA rfl ?_|apply qB|refine qC rfl ?_|apply qD|apply qE|apply qF|apply qG|apply qH);try simp (maxSteps:=1000000)(disch:=(first|omega|(simp only [qI,qJ,qK]<;>omega)|exact qL _)) only [go_sem,↓reduceIte,n0,reduceCtorEq,n1,n2,n3,n4,n5,i0,i1,i2,i3,i4,i5,i6,i7,hxb42,hrd3_2,hrd3_7,hrd3_8,hrd3_9,hrd3_10,hrd3_14,hrd3_13,hrd3_15,hrd3_17,hrd3_24,hrd3_23,hrd3_25,hrd3_27,hrd3_39,hrd3_38,exitRQ_ret,exitRQ_exit,Int.toNat_natCast,Nat.mul_one,hld42_6])
          refine (RCompactArrayLen_fn w42 hq42.1 hrok hG42.1 hgrb).mono ?_
          rintro _ w43 ⟨rfl,hq43,hu43⟩
          have hx2_43 := hu43.blk_some hx2_42 (by omega)
          have hV43 : Upd (fun b => b = R2 ∨ b = rb) w42 w43 := hu43.mono (fun _ h => .inr h)
          have hU43 : Upd (fun b => b = vb ∨ b = rb) w1 w43 := hU42.trans' hV43 fun i hi h => h.elim (fun h => by omega) .inr
          have hz43 := hV43.size
          have hG43 : Glo ev w43 := hG1.updS hU43 hgM1 hgM2
          obtain ⟨X43,hX43,hxb43,hXs43⟩ := el_open (n := 10) hx2_43 hA2 rfl
          obtain ⟨s22,hs22⟩ : ∃ s,s = (rdALen true s21).2 := ⟨_,rfl⟩
          rw [← hs22] at hq43
          have hyr4 := rdALen_rng true s21
          generalize hy4 : (rdALen true s21).1 = y4 at *
          obtain ⟨N4,hN4⟩ : ∃ N,N = y4.toNat := ⟨_,rfl⟩
          have hlb4 : (rdMany (rd1 (rdP d ver true) frX0_6.of frX0_6.sub false true) N4 s22).2 = none → FB := fun h => hbe0e1_6 (by rw [rdL_st (by decide) hhe0e1_6];exact rdL_bad (rdF_listbad rfl (by rw [hy4,← hN4,← hs22];exact h)))
          repeat ((first | refine W.seqR rfl ?_ | refine W.seq ?_ | refine W.regR rfl ?_ | refine W.block ?_ | refine W.skip ?_ | refine W.ret ?_ | refine W.exit ?_);try simp (maxSteps:=1000000)(disch:=(first|omega|(simp only [qI,qJ,qK]<;>omega)|exact qL _)) only [go_sem,↓reduceIte,n0,reduceCtorEq,n1,n2,n3,n4,n5,i0,i1,i2,i3,i4,i5,i6,i7,hxb43,hrd3_2,hrd3_7,hrd3_8,hrd3_9,hrd3_10,hrd3_14,hrd3_13,hrd3_15,hrd3_17,hrd3_24,hrd3_23,hrd3_25,hrd3_27,hrd3_39,hrd3_38,exitRQ_ret,exitRQ_exit,Int.toNat_natCast,Nat.mul_one])
          refine W.normJ (RowQ [(2,.bool false),(7,.pointer (some ⟨rb,0,none⟩)),(8,.int .i16 ver),(9,.bool true),(10,.pointer (some ⟨vb,0,none⟩)),(14,.int .i32 y0),(13,.slice (some ⟨R1,0,none⟩) N0 q1),(15,.int .i32 j1),(17,.pointer (some ⟨R1,j1 * 22,none⟩)),(24,.int .i32 y1),(23,.slice (some ⟨R2,0,none⟩) N1 q2),(25,.int .i32 j2),(27,.pointer (some ⟨R2,j2 * 10,none⟩)),(44,.int .i32 y4)] 43 (fun va w' => ∃ a0,va = .slice a0 0 0 ∧ Ext w43 w' ∧ (∀ x,a0 = some x → w43.heap.size ≤ x.block ∧ x.block < w'.heap.size) ∧ (N4 = 0 → if nilS frX0_6 ver y4 = true then va = .slice none 0 0 else ∃ a,va = .slice (some a) 0 0))) ?_ ?_
          · by_cases hye : y4 = 0
            · repeat ((first | refine qA rfl ?_|apply qB|refine qC rfl ?_|apply qD|apply qE|apply qF|apply qG|apply qH);try simp (maxSteps:=1000000)(disch:=(first|omega|(simp only [qI,qJ,qK]<;>omega)|exact qL _)) only [go_sem,↓reduceIte,n0,reduceCtorEq,n1,n2,n3,n4,n5,i0,i1,i2,i3,i4,i5,i6,i7,hxb43,hrd3_2,hrd3_7,hrd3_8,hrd3_9,hrd3_10,hrd3_14,hrd3_13,hrd3_15,hrd3_17,hrd3_24,hrd3_23,hrd3_25,hrd3_27,hrd3_39,hrd3_38,exitRQ_ret,exitRQ_exit,Int.toNat_natCast,Nat.mul_one,hye])
              exact ⟨(by simp (maxSteps:=1000000)(disch:=(first|omega|(simp only [qI,qJ,qK]<;>omega)|exact qL _)) only [go_sem,↓reduceIte,n0,reduceCtorEq,n1,n2,n3,n4,n5,i0,i1,i2,i3,i4,i5,i6,i7,Holds_nil,Holds_cons,hrd3_2,hrd3_7,hrd3_8,hrd3_9,hrd3_10,hrd3_14,hrd3_13,hrd3_15,hrd3_17,hrd3_24,hrd3_23,hrd3_25,hrd3_27,hrd3_39,hrd3_38,hye]),.slice (some ⟨w43.heap.size,0,none⟩) 0 0,(by simp (maxSteps:=1000000)(disch:=(first|omega|(simp only [qI,qJ,qK]<;>omega)|exact qL _)) only [go_sem,↓reduceIte,n0,reduceCtorEq,n1,n2,n3,n4,n5,i0,i1,i2,i3,i4,i5,i6,i7,hrd3_2,hrd3_7,hrd3_8,hrd3_9,hrd3_10,hrd3_14,hrd3_13,hrd3_15,hrd3_17,hrd3_24,hrd3_23,hrd3_25,hrd3_27,hrd3_39,hrd3_38]),some ⟨w43.heap.size,0,none⟩,rfl,(Upd.alloc (Upd.refl _ _) _ : Ext _ _),(fun x hx => by cases hx;exact ⟨Nat.le_refl _,by simp only [World.size_alloc];omega⟩),(fun _ => by rw [nilS_may (by decide) (by show (0 : Int) ≤ ver;omega),decide_eq_false (by omega)];exact ⟨_,rfl⟩)⟩
            · repeat ((first | refine qA rfl ?_|apply qB|refine qC rfl ?_|apply qD|apply qE|apply qF|apply qG|apply qH);try simp (maxSteps:=1000000)(disch:=(first|omega|(simp only [qI,qJ,qK]<;>omega)|exact qL _)) only [go_sem,↓reduceIte,n0,reduceCtorEq,n1,n2,n3,n4,n5,i0,i1,i2,i3,i4,i5,i6,i7,hxb43,hrd3_2,hrd3_7,hrd3_8,hrd3_9,hrd3_10,hrd3_14,hrd3_13,hrd3_15,hrd3_17,hrd3_24,hrd3_23,hrd3_25,hrd3_27,hrd3_39,hrd3_38,exitRQ_ret,exitRQ_exit,Int.toNat_natCast,Nat.mul_one,hye])
              exact ⟨(by simp (maxSteps:=1000000)(disch:=(first|omega|(simp only [qI,qJ,qK]<;>omega)|exact qL _)) only [go_sem,↓reduceIte,n0,reduceCtorEq,n1,n2,n3,n4,n5,i0,i1,i2,i3,i4,i5,i6,i7,Holds_nil,Holds_cons,hrd3_2,hrd3_7,hrd3_8,hrd3_9,hrd3_10,hrd3_14,hrd3_13,hrd3_15,hrd3_17,hrd3_24,hrd3_23,hrd3_25,hrd3_27,hrd3_39,hrd3_38,hye]),.slice none 0 0,(by simp (maxSteps:=1000000)(disch:=(first|omega|(simp only [qI,qJ,qK]<;>omega)|exact qL _)) only [go_sem,↓reduceIte,n0,reduceCtorEq,n1,n2,n3,n4,n5,i0,i1,i2,i3,i4,i5,i6,i7,hrd3_2,hrd3_7,hrd3_8,hrd3_9,hrd3_10,hrd3_14,hrd3_13,hrd3_15,hrd3_17,hrd3_24,hrd3_23,hrd3_25,hrd3_27,hrd3_39,hrd3_38]),none,rfl,Upd.refl _ _,(fun x hx => by cases hx),(fun _ => by rw [nilS_may (by decide) (by show (0 : Int) ≤ ver;omega),decide_eq_true (by omega)];exact rfl)⟩
          rintro ρ w44 ⟨⟨hrn4_2,hrn4_7,hrn4_8,hrn4_9,hrn4_10,hrn4_14,hrn4_13,hrn4_15,hrn4_17,hrn4_24,hrn4_23,hrn4_25,hrn4_27,hrn4_44,-⟩,va,hra4,a0,rfl,hEn4,hab4,hnl4⟩
          have hun44 : Upd (fun b => b = rb) w43 w44 := hEn4.mono fun _ h => h.elim
          have hq44 := And.intro (hq43.1.upd hEn4 (fun h => h) (fun _ _ _ h => h)) (hq43.2.upd hEn4 fun h => h)
          have hx2_44 := hun44.blk_some hx2_43 (by omega)
          have hV44 : Upd (fun b => b = R2 ∨ b = rb) w43 w44 := hun44.mono (fun _ h => .inr h)
          have hU44 : Upd (fun b => b = vb ∨ b = rb) w1 w44 := hU43.trans' hV44 fun i hi h => h.elim (fun h => by omega) .inr
          have hz44 := hV44.size
          have hG44 : Glo ev w44 := hG1.updS hU44 hgM1 hgM2
          obtain ⟨X44,hX44,hxb44,hXs44⟩ := el_open (n := 10) hx2_44 hA2 rfl
          repeat ((first | refine W.seqR rfl ?_ | refine W.seq ?_ | refine W.regR rfl ?_ | refine W.block ?_ | refine W.skip ?_ | refine W.ret ?_ | refine W.exit ?_);try simp (maxSteps:=1000000)(disch:=(first|omega|(simp only [qI,qJ,qK]<;>omega)|exact qL _)) only [go_sem,↓reduceIte,n0,reduceCtorEq,n1,n2,n3,n4,n5,i0,i1,i2,i3,i4,i5,i6,i7,hxb44,hrn4_2,hrn4_7,hrn4_8,hrn4_9,hrn4_10,hrn4_14,hrn4_13,hrn4_15,hrn4_17,hrn4_24,hrn4_23,hrn4_25,hrn4_27,hrn4_44,hra4,exitRQ_ret,exitRQ_exit,Int.toNat_natCast,Nat.mul_one])
          refine (ROk_fn w44 hq44.1).mono ?_
          rintro _ wz ⟨rfl,hez⟩
          rw [hez]
          clear hez wz
          by_cases hsn4 : s22 = none
          · have hso : s22.isSome = false := by rw [hsn4];rfl
            repeat (first|simp (maxSteps:=1000000)(disch:=(first|omega|(simp only [qI,qJ,qK]<;>omega)|exact qL _)) only [go_sem,↓reduceIte,n0,reduceCtorEq,n1,n2,n3,n4,n5,i0,i1,i2,i3,i4,i5,i6,i7,hxb44,hrn4_2,hrn4_7,hrn4_8,hrn4_9,hrn4_10,hrn4_14,hrn4_13,hrn4_15,hrn4_17,hrn4_24,hrn4_23,hrn4_25,hrn4_27,hrn4_44,hra4,exitRQ_ret,exitRQ_exit,Int.toNat_natCast,Nat.mul_one,hso]|refine qA rfl ?_|apply qB|refine qC rfl ?_|apply qD|apply qE|apply qF|apply qG|apply qH)
            refine (RComplete_fn w44 hq44.1 hG44.2).mono ?_
            rintro _ wz ⟨rfl,hez⟩
            rw [hez]
            repeat (first|simp (maxSteps:=1000000)(disch:=(first|omega|(simp only [qI,qJ,qK]<;>omega)|exact qL _)) only [go_sem,↓reduceIte,n0,reduceCtorEq,n1,n2,n3,n4,n5,i0,i1,i2,i3,i4,i5,i6,i7,hxb44,hrn4_2,hrn4_7,hrn4_8,hrn4_9,hrn4_10,hrn4_14,hrn4_13,hrn4_15,hrn4_17,hrn4_24,hrn4_23,hrn4_25,hrn4_27,hrn4_44,hra4,exitRQ_ret,exitRQ_exit,Int.toNat_natCast,Nat.mul_one]|refine qA rfl ?_|apply qB|refine qC rfl ?_|apply qD|apply qE|apply qF|apply qG|apply qH)
            rw [errV_none hsn4]
            exact ReadQ.bad (Eq.mp hFB (hlb4 (by rw [hsn4];exact rdMany_none rd1P_none _))) (hbase.trans' hU44 fun i hi h => h.elim id fun h => by omega)
          have hso4 : s22.isSome = true := isSome_some hsn4
          try simp (maxSteps:=1000000)(disch:=(first|omega|(simp only [qI,qJ,qK]<;>omega)|exact qL _)) only [go_sem,↓reduceIte,n0,reduceCtorEq,n1,n2,n3,n4,n5,i0,i1,i2,i3,i4,i5,i6,i7,hxb44,hrn4_2,hrn4_7,hrn4_8,hrn4_9,hrn4_10,hrn4_14,hrn4_13,hrn4_15,hrn4_17,hrn4_24,hrn4_23,hrn4_25,hrn4_27,hrn4_44,hra4,exitRQ_ret,exitRQ_exit,Int.toNat_natCast,Nat.mul_one,hso4]
          repeat ((first | refine W.seqR rfl ?_ | refine W.seq ?_ | refine W.regR rfl ?_ | refine W.block ?_ | refine W.skip ?_ | refine W.ret ?_ | refine W.exit ?_);try simp (maxSteps:=1000000)(disch:=(first|omega|(simp only [qI,qJ,qK]<;>omega)|exact qL _)) only [go_sem,↓reduceIte,n0,reduceCtorEq,n1,n2,n3,n4,n5,i0,i1,i2,i3,i4,i5,i6,i7,hxb44,hrn4_2,hrn4_7,hrn4_8,hrn4_9,hrn4_10,hrn4_14,hrn4_13,hrn4_15,hrn4_17,hrn4_24,hrn4_23,hrn4_25,hrn4_27,hrn4_44,hra4,exitRQ_ret,exitRQ_exit,Int.toNat_natCast,Nat.mul_one,hso4])
          refine W.condK ?_
          try simp (maxSteps:=1000000)(disch:=(first|omega|(simp only [qI,qJ,qK]<;>omega)|exact qL _)) only [go_sem,↓reduceIte,n0,reduceCtorEq,n1,n2,n3,n4,n5,i0,i1,i2,i3,i4,i5,i6,i7,hxb44,hrn4_2,hrn4_7,hrn4_8,hrn4_9,hrn4_10,hrn4_14,hrn4_13,hrn4_15,hrn4_17,hrn4_24,hrn4_23,hrn4_25,hrn4_27,hrn4_44,hra4,exitRQ_ret,exitRQ_exit,Int.toNat_natCast,Nat.mul_one,hso4]
          repeat ((first | refine W.seqR rfl ?_ | refine W.seq ?_ | refine W.regR rfl ?_ | refine W.block ?_ | refine W.skip ?_ | refine W.ret ?_ | refine W.exit ?_);try simp (maxSteps:=1000000)(disch:=(first|omega|(simp only [qI,qJ,qK]<;>omega)|exact qL _)) only [go_sem,↓reduceIte,n0,reduceCtorEq,n1,n2,n3,n4,n5,i0,i1,i2,i3,i4,i5,i6,i7,hxb44,hrn4_2,hrn4_7,hrn4_8,hrn4_9,hrn4_10,hrn4_14,hrn4_13,hrn4_15,hrn4_17,hrn4_24,hrn4_23,hrn4_25,hrn4_27,hrn4_44,hra4,exitRQ_ret,exitRQ_exit,Int.toNat_natCast,Nat.mul_one,hso4,slBase_00])
          refine W.normJ (RowQ [(2,.bool false),(7,.pointer (some ⟨rb,0,none⟩)),(8,.int .i16 ver),(9,.bool true),(10,.pointer (some ⟨vb,0,none⟩)),(14,.int .i32 y0),(13,.slice (some ⟨R1,0,none⟩) N0 q1),(15,.int .i32 j1),(17,.pointer (some ⟨R1,j1 * 22,none⟩)),(24,.int .i32 y1),(23,.slice (some ⟨R2,0,none⟩) N1 q2),(25,.int .i32 j2),(27,.pointer (some ⟨R2,j2 * 10,none⟩)),(44,.int .i32 y4)] 43 (fun va w' => LstI RT (rd1 (rdP d ver true) frX0_6.of frX0_6.sub false true) (Rep1 (RepS true d) frX0_6.of frX0_6.sub) 1 21 [.int .i32 0] w43.heap.size N4 ok (fun b => (fun b => (ok b ∨ w1.heap.size ≤ b) ∧ ¬ ownB va0 b) b ∧ ¬ ownB va1 b) rb w43 s22 va 0 s22 [] [] w' ∧ (N4 = 0 → if nilS frX0_6 ver y4 = true then va = .slice none 0 0 else ∃ a,va = .slice (some a) 0 0))) ?_ ?_
          · by_cases hy0 : (0 : Int) < y4
            · have hyv : Value.int .i32 y4 = .int .i32 ((N4 : Nat) : Int) := by rw [show y4 = ((N4 : Nat) : Int) by omega]
              repeat ((first | refine qA rfl ?_|apply qB|refine qC rfl ?_|apply qD|apply qE|apply qF|apply qG|apply qH);try simp (maxSteps:=1000000)(disch:=(first|omega|(simp only [qI,qJ,qK]<;>omega)|exact qL _)) only [go_sem,↓reduceIte,n0,reduceCtorEq,n1,n2,n3,n4,n5,i0,i1,i2,i3,i4,i5,i6,i7,hxb44,hrn4_2,hrn4_7,hrn4_8,hrn4_9,hrn4_10,hrn4_14,hrn4_13,hrn4_15,hrn4_17,hrn4_24,hrn4_23,hrn4_25,hrn4_27,hrn4_44,hra4,exitRQ_ret,exitRQ_exit,Int.toNat_natCast,Nat.mul_one])
              refine wp_appendZ (m := N4) utQ_86 utQ_21 inQ_21 (by decide) (by first | rfl | simp (maxSteps:=1000000)(disch:=(first|omega|(simp only [qI,qJ,qK]<;>omega)|exact qL _)) only [go_sem,↓reduceIte,n0,reduceCtorEq,n1,n2,n3,n4,n5,i0,i1,i2,i3,i4,i5,i6,i7,hrn4_2,hrn4_7,hrn4_8,hrn4_9,hrn4_10,hrn4_14,hrn4_13,hrn4_15,hrn4_17,hrn4_24,hrn4_23,hrn4_25,hrn4_27,hrn4_44,hra4]) (by first | exact hyv | (simp (maxSteps:=1000000)(disch:=(first|omega|(simp only [qI,qJ,qK]<;>omega)|exact qL _)) only [go_sem,↓reduceIte,n0,reduceCtorEq,n1,n2,n3,n4,n5,i0,i1,i2,i3,i4,i5,i6,i7,hrn4_2,hrn4_7,hrn4_8,hrn4_9,hrn4_10,hrn4_14,hrn4_13,hrn4_15,hrn4_17,hrn4_24,hrn4_23,hrn4_25,hrn4_27,hrn4_44,hra4];exact hyv)) (by omega) (by omega) (by decide) ?_
              intro q rest hq1
              have hEw : Ext w44 (w44.drew.alloc (.cells (zs [.int .i32 0] N4 ++ rest).toArray 21)) := (Upd.refl _ _).drew.alloc _
              repeat (first|simp (maxSteps:=1000000)(disch:=(first|omega|(simp only [qI,qJ,qK]<;>omega)|exact qL _)) only [go_sem,↓reduceIte,n0,reduceCtorEq,n1,n2,n3,n4,n5,i0,i1,i2,i3,i4,i5,i6,i7,hxb44,hrn4_2,hrn4_7,hrn4_8,hrn4_9,hrn4_10,hrn4_14,hrn4_13,hrn4_15,hrn4_17,hrn4_24,hrn4_23,hrn4_25,hrn4_27,hrn4_44,hra4,exitRQ_ret,exitRQ_exit,Int.toNat_natCast,Nat.mul_one]|refine qA rfl ?_|apply qB|refine qC rfl ?_|apply qD|apply qE|apply qF|apply qG|apply qH)
              exact ⟨(by simp (maxSteps:=1000000)(disch:=(first|omega|(simp only [qI,qJ,qK]<;>omega)|exact qL _)) only [go_sem,↓reduceIte,n0,reduceCtorEq,n1,n2,n3,n4,n5,i0,i1,i2,i3,i4,i5,i6,i7,Holds_nil,Holds_cons,hrn4_2,hrn4_7,hrn4_8,hrn4_9,hrn4_10,hrn4_14,hrn4_13,hrn4_15,hrn4_17,hrn4_24,hrn4_23,hrn4_25,hrn4_27,hrn4_44,hra4]),.slice (some ⟨w44.heap.size,0,none⟩) N4 q,(by simp (maxSteps:=1000000)(disch:=(first|omega|(simp only [qI,qJ,qK]<;>omega)|exact qL _)) only [go_sem,↓reduceIte,n0,reduceCtorEq,n1,n2,n3,n4,n5,i0,i1,i2,i3,i4,i5,i6,i7,hrn4_2,hrn4_7,hrn4_8,hrn4_9,hrn4_10,hrn4_14,hrn4_13,hrn4_15,hrn4_17,hrn4_24,hrn4_23,hrn4_25,hrn4_27,hrn4_44,hra4]),LstI.start (RowJ.start (by omega) hq1 (by show w43.heap.size ≤ w44.drew.heap.size;rw [size_drew];omega) (blk_alloc_new rfl)) ⟨hq44.1.upd hEw (fun h => h) (fun _ _ _ h => h),hq44.2.upd hEw fun h => h⟩ (hun44.trans (hEw.mono fun _ h => h.elim)),fun h0 => by omega⟩
            · repeat ((first | refine qA rfl ?_|apply qB|refine qC rfl ?_|apply qD|apply qE|apply qF|apply qG|apply qH);try simp (maxSteps:=1000000)(disch:=(first|omega|(simp only [qI,qJ,qK]<;>omega)|exact qL _)) only [go_sem,↓reduceIte,n0,reduceCtorEq,n1,n2,n3,n4,n5,i0,i1,i2,i3,i4,i5,i6,i7,hxb44,hrn4_2,hrn4_7,hrn4_8,hrn4_9,hrn4_10,hrn4_14,hrn4_13,hrn4_15,hrn4_17,hrn4_24,hrn4_23,hrn4_25,hrn4_27,hrn4_44,hra4,exitRQ_ret,exitRQ_exit,Int.toNat_natCast,Nat.mul_one])
              exact ⟨(by simp (maxSteps:=1000000)(disch:=(first|omega|(simp only [qI,qJ,qK]<;>omega)|exact qL _)) only [go_sem,↓reduceIte,n0,reduceCtorEq,n1,n2,n3,n4,n5,i0,i1,i2,i3,i4,i5,i6,i7,Holds_nil,Holds_cons,hrn4_2,hrn4_7,hrn4_8,hrn4_9,hrn4_10,hrn4_14,hrn4_13,hrn4_15,hrn4_17,hrn4_24,hrn4_23,hrn4_25,hrn4_27,hrn4_44,hra4]),.slice a0 0 0,(by simp (maxSteps:=1000000)(disch:=(first|omega|(simp only [qI,qJ,qK]<;>omega)|exact qL _)) only [go_sem,↓reduceIte,n0,reduceCtorEq,n1,n2,n3,n4,n5,i0,i1,i2,i3,i4,i5,i6,i7,hrn4_2,hrn4_7,hrn4_8,hrn4_9,hrn4_10,hrn4_14,hrn4_13,hrn4_15,hrn4_17,hrn4_24,hrn4_23,hrn4_25,hrn4_27,hrn4_44,hra4,slBase_00]),LstI.start (RowJ.zero (by omega) hab4) hq44 (hun44),hnl4⟩
          rintro ρ w45 ⟨⟨hrb4_2,hrb4_7,hrb4_8,hrb4_9,hrb4_10,hrb4_14,hrb4_13,hrb4_15,hrb4_17,hrb4_24,hrb4_23,hrb4_25,hrb4_27,hrb4_44,-⟩,va4,hra4,hL4,hnc4⟩
          repeat ((first | refine qA rfl ?_|apply qB|refine qC rfl ?_|apply qD|apply qE|apply qF|apply qG|apply qH);try simp (maxSteps:=1000000)(disch:=(first|omega|(simp only [qI,qJ,qK]<;>omega)|exact qL _)) only [go_sem,↓reduceIte,n0,reduceCtorEq,n1,n2,n3,n4,n5,i0,i1,i2,i3,i4,i5,i6,i7,hxb44,hrb4_2,hrb4_7,hrb4_8,hrb4_9,hrb4_10,hrb4_14,hrb4_13,hrb4_15,hrb4_17,hrb4_24,hrb4_23,hrb4_25,hrb4_27,hrb4_44,hra4,exitRQ_ret,exitRQ_exit,Int.toNat_natCast,Nat.mul_one])
          refine W.exitRJ 8 (EndQ [(2,.bool false),(7,.pointer (some ⟨rb,0,none⟩)),(8,.int .i16 ver),(9,.bool true),(10,.pointer (some ⟨vb,0,none⟩)),(14,.int .i32 y0),(13,.slice (some ⟨R1,0,none⟩) N0 q1),(15,.int .i32 j1),(17,.pointer (some ⟨R1,j1 * 22,none⟩)),(24,.int .i32 y1),(23,.slice (some ⟨R2,0,none⟩) N1 q2),(25,.int .i32 j2),(27,.pointer (some ⟨R2,j2 * 10,none⟩)),(44,.int .i32 y4),(43,va4)] (fun w' => ∃ s xs css,LstI RT (rd1 (rdP d ver true) frX0_6.of frX0_6.sub false true) (Rep1 (RepS true d) frX0_6.of frX0_6.sub) 1 21 [.int .i32 0] w43.heap.size N4 ok (fun b => (fun b => (ok b ∨ w1.heap.size ≤ b) ∧ ¬ ownB va0 b) b ∧ ¬ ownB va1 b) rb w43 s22 va4 N4 s xs css w')) (W.loop (LoopQ [(2,.bool false),(7,.pointer (some ⟨rb,0,none⟩)),(8,.int .i16 ver),(9,.bool true),(10,.pointer (some ⟨vb,0,none⟩)),(14,.int .i32 y0),(13,.slice (some ⟨R1,0,none⟩) N0 q1),(15,.int .i32 j1),(17,.pointer (some ⟨R1,j1 * 22,none⟩)),(24,.int .i32 y1),(23,.slice (some ⟨R2,0,none⟩) N1 q2),(25,.int .i32 j2),(27,.pointer (some ⟨R2,j2 * 10,none⟩)),(44,.int .i32 y4),(43,va4)] 45 (fun j w' => ∃ s xs css,LstI RT (rd1 (rdP d ver true) frX0_6.of frX0_6.sub false true) (Rep1 (RepS true d) frX0_6.of frX0_6.sub) 1 21 [.int .i32 0] w43.heap.size N4 ok (fun b => (fun b => (ok b ∨ w1.heap.size ≤ b) ∧ ¬ ownB va0 b) b ∧ ¬ ownB va1 b) rb w43 s22 va4 j s xs css w')) (fun ρ _ => N4 - (RowKit.intOf (ρ 45)).toNat) ?_ ?_) ?_
          · exact ⟨(by simp (maxSteps:=1000000)(disch:=(first|omega|(simp only [qI,qJ,qK]<;>omega)|exact qL _)) only [go_sem,↓reduceIte,n0,reduceCtorEq,n1,n2,n3,n4,n5,i0,i1,i2,i3,i4,i5,i6,i7,Holds_nil,Holds_cons,hrb4_2,hrb4_7,hrb4_8,hrb4_9,hrb4_10,hrb4_14,hrb4_13,hrb4_15,hrb4_17,hrb4_24,hrb4_23,hrb4_25,hrb4_27,hrb4_44,hra4]),0,(by simp (maxSteps:=1000000)(disch:=(first|omega|(simp only [qI,qJ,qK]<;>omega)|exact qL _)) only [go_sem,↓reduceIte,n0,reduceCtorEq,n1,n2,n3,n4,n5,i0,i1,i2,i3,i4,i5,i6,i7,hrb4_2,hrb4_7,hrb4_8,hrb4_9,hrb4_10,hrb4_14,hrb4_13,hrb4_15,hrb4_17,hrb4_24,hrb4_23,hrb4_25,hrb4_27,hrb4_44,hra4];all_goals rfl),s22,[],[],hL4⟩
          · rintro ρ w46 ⟨⟨hrc4_2,hrc4_7,hrc4_8,hrc4_9,hrc4_10,hrc4_14,hrc4_13,hrc4_15,hrc4_17,hrc4_24,hrc4_23,hrc4_25,hrc4_27,hrc4_44,hrc4_43,-⟩,j3,hri4,s23,xs4,css4,hL4⟩
            have hj4 := hL4.le
            have hq46 := hL4.rd
            have hU46 : Upd (fun b => b = vb ∨ b = rb) w1 w46 := hU43.trans' hL4.upd fun i _ h => .inr h
            have hz46 := hL4.upd.size
            have hG46 : Glo ev w46 := hG1.updS hU46 hgM1 hgM2
            by_cases hlt4 : j3 < N4
            · obtain ⟨R3,q3,B3,hva3,hNq3,hLR3,hA3,hx3_46,hnext3⟩ := hL4.row.next hlt4
              have hRl3 := blk_lt hx3_46
              generalize css4.flatten = A3 at hA3 hx3_46 hnext3
              rw [Nat.mul_one] at hA3
              replace hra4 : ρ 43 = .slice (some ⟨R3,0,none⟩) N4 q3 := hrc4_43.trans hva3
              have hown3 : ∀ b,ownB va4 b → w43.heap.size ≤ b ∧ b < w46.heap.size := fun b h => hL4.row.own h
              have hoM3 : ∀ b,(fun b => (fun b => (fun b => (ok b ∨ w1.heap.size ≤ b) ∧ ¬ ownB va0 b) b ∧ ¬ ownB va1 b) b ∧ ¬ ownB va4 b) b → ¬ (b = R3 ∨ b = rb) := fun b hk h => h.elim (fun e => hk.2 ⟨_,_,_,hva3,e⟩) (fun e => hoM2 b hk.1 (.inr e))
              obtain ⟨X46,hX46,hxb46,hXs46⟩ := el_open (n := 1) hx3_46 hA3 rfl
              repeat ((first | refine qA rfl ?_|apply qB|refine qC rfl ?_|apply qD|apply qE|apply qF|apply qG|apply qH);try simp (maxSteps:=1000000)(disch:=(first|omega|(simp only [qI,qJ,qK]<;>omega)|exact qL _)) only [go_sem,↓reduceIte,n0,reduceCtorEq,n1,n2,n3,n4,n5,i0,i1,i2,i3,i4,i5,i6,i7,hxb46,hrc4_2,hrc4_7,hrc4_8,hrc4_9,hrc4_10,hrc4_14,hrc4_13,hrc4_15,hrc4_17,hrc4_24,hrc4_23,hrc4_25,hrc4_27,hrc4_44,hra4,hri4,exitRQ_ret,exitRQ_exit,Int.toNat_natCast,Nat.mul_one])
              refine (Int32_fn w46 hq46.1 hrok hG46.1 hgrb).mono ?_
              rintro _ w47 ⟨rfl,hq47,hu47⟩
              have hx3_47 := hu47.blk_some hx3_46 (by omega)
              have hV47 : Upd (fun b => b = R3 ∨ b = rb) w46 w47 := hu47.mono (fun _ h => .inr h)
              have hU47 : Upd (fun b => b = vb ∨ b = rb) w1 w47 := hU46.trans' hV47 fun i hi h => h.elim (fun h => by omega) .inr
              have hz47 := hV47.size
              have hG47 : Glo ev w47 := hG1.updS hU47 hgM1 hgM2
              obtain ⟨X47,hX47,hxb47,hXs47⟩ := el_open (n := 1) hx3_47 hA3 rfl
              obtain ⟨s24,hs24⟩ : ∃ s,s = (rdInt .i32 4 s23).2 := ⟨_,rfl⟩
              rw [← hs24] at hq47
              have hrE : (rd1 (rdP d ver true) frX0_6.of frX0_6.sub false true) s23 = ((.num (rdInt .i32 4 s23).1),s24) := by rw [hs24];exact rd1_num 3 (by decide)
              have hst47_0 : j3 + 1 ≤ X47.size := by omega
              repeat ((first | refine qA rfl ?_|apply qB|refine qC rfl ?_|apply qD|apply qE|apply qF|apply qG|apply qH);try simp (maxSteps:=1000000)(disch:=(first|omega|(simp only [qI,qJ,qK]<;>omega)|exact qL _)) only [go_sem,↓reduceIte,n0,reduceCtorEq,n1,n2,n3,n4,n5,i0,i1,i2,i3,i4,i5,i6,i7,hxb47,hrc4_2,hrc4_7,hrc4_8,hrc4_9,hrc4_10,hrc4_14,hrc4_13,hrc4_15,hrc4_17,hrc4_24,hrc4_23,hrc4_25,hrc4_27,hrc4_44,hra4,hri4,exitRQ_ret,exitRQ_exit,Int.toNat_natCast,Nat.mul_one,hst47_0])
              generalize hw48 : wr w47 R3 (j3) [.int .i32 (rdInt .i32 4 s23).1] = w48
              have hS48 : Upd (fun b => b = R3 ∨ b = rb) w47 w48 := by rw [← hw48];exact (Upd.refl _ _).wr _ _ (.inr (.inl rfl))
              have hx3_48 : blk w48 R3 = some ((A3 ++ (([.int .i32 (rdInt .i32 4 s23).1] : List Value) ++ B3)).toArray,21,(0,0)) := by rw [← hw48];exact el_blk0 hx3_47 hA3 (Nat.le_of_ble_eq_true rfl)
              have hV48 := hS48
              have hU48 : Upd (fun b => b = vb ∨ b = rb) w1 w48 := hU47.trans' hV48 fun i hi h => h.elim (fun h => by omega) .inr
              have hz48 := hV48.size
              have hG48 : Glo ev w48 := hG1.updS hU48 hgM1 hgM2
              have hq48 := Rdr.stored hw48 hq47 (by omega) fun h => by have := (hok _ h).1;first | omega | exact (hok _ h).2 rfl
              obtain ⟨X48,hX48,hxb48,hXs48⟩ := el_open (n := 1) hx3_48 hA3 rfl
              clear hw48
              have hxE : (Rep1 (RepS true d) frX0_6.of frX0_6.sub) (fun b => (fun b => (fun b => (ok b ∨ w1.heap.size ≤ b) ∧ ¬ ownB va0 b) b ∧ ¬ ownB va1 b) b ∧ ¬ ownB va4 b) w48 (.num (rdInt .i32 4 s23).1) [.int .i32 (rdInt .i32 4 s23).1] := (Rep1_num (by decide)).2 (congrArg (fun x => [x]) (numC_rd 3 (by decide) 4 s23).symm)
              repeat ((first | refine qA rfl ?_|apply qB|refine qC rfl ?_|apply qD|apply qE|apply qF|apply qG|apply qH);try simp (maxSteps:=1000000)(disch:=(first|omega|(simp only [qI,qJ,qK]<;>omega)|exact qL _)) only [go_sem,↓reduceIte,n0,reduceCtorEq,n1,n2,n3,n4,n5,i0,i1,i2,i3,i4,i5,i6,i7,hxb48,hrc4_2,hrc4_7,hrc4_8,hrc4_9,hrc4_10,hrc4_14,hrc4_13,hrc4_15,hrc4_17,hrc4_24,hrc4_23,hrc4_25,hrc4_27,hrc4_44,hra4,hri4,exitRQ_ret,exitRQ_exit,Int.toNat_natCast,Nat.mul_one])
              have hTk : Upd (fun b => b = R3 ∨ b = rb) w46 w48 := (hV47.trans hV48)
              have hL' := hL4.step (Rep1_lay _ _ fun _ => RepS_lay true _ _) hlt4 (hnext3 w48 [.int .i32 (rdInt .i32 4 s23).1] rfl hx3_48) (by rw [hrE];exact hxE) (hTk.mono fun b h => h.imp (fun e => ⟨_,_,_,hva3,e⟩) id) (by rw [hrE];exact hq48) (fun h => hoM2 rb h (.inr rfl)) (Nat.le_refl _)
              have hij : IntKind.i32.wrap ((j3 : Int) + 1) = ((j3 + 1 : Nat) : Int) := by rw [i32_wrap (by omega)];omega
              repeat ((first | refine qA rfl ?_|apply qB|refine qC rfl ?_|apply qD|apply qE|apply qF|apply qG|apply qH);try simp (maxSteps:=1000000)(disch:=(first|omega|(simp only [qI,qJ,qK]<;>omega)|exact qL _)) only [go_sem,↓reduceIte,n0,reduceCtorEq,n1,n2,n3,n4,n5,i0,i1,i2,i3,i4,i5,i6,i7,hxb48,hrc4_2,hrc4_7,hrc4_8,hrc4_9,hrc4_10,hrc4_14,hrc4_13,hrc4_15,hrc4_17,hrc4_24,hrc4_23,hrc4_25,hrc4_27,hrc4_44,hra4,hri4,exitRQ_ret,exitRQ_exit,Int.toNat_natCast,Nat.mul_one,hij])
              refine ⟨⟨(by simp (maxSteps:=1000000)(disch:=(first|omega|(simp only [qI,qJ,qK]<;>omega)|exact qL _)) only [go_sem,↓reduceIte,n0,reduceCtorEq,n1,n2,n3,n4,n5,i0,i1,i2,i3,i4,i5,i6,i7,Holds_nil,Holds_cons,hrc4_2,hrc4_7,hrc4_8,hrc4_9,hrc4_10,hrc4_14,hrc4_13,hrc4_15,hrc4_17,hrc4_24,hrc4_23,hrc4_25,hrc4_27,hrc4_44,hra4,hri4];exact hva3.symm),j3 + 1,(by simp (maxSteps:=1000000)(disch:=(first|omega|(simp only [qI,qJ,qK]<;>omega)|exact qL _)) only [go_sem,↓reduceIte,n0,reduceCtorEq,n1,n2,n3,n4,n5,i0,i1,i2,i3,i4,i5,i6,i7,hrc4_2,hrc4_7,hrc4_8,hrc4_9,hrc4_10,hrc4_14,hrc4_13,hrc4_15,hrc4_17,hrc4_24,hrc4_23,hrc4_25,hrc4_27,hrc4_44,hra4,hri4,hij];all_goals rfl),_,_,_,hL'⟩,?_⟩
              try simp (maxSteps:=1000000)(disch:=(first|omega|(simp only [qI,qJ,qK]<;>omega)|exact qL _)) only [go_sem,↓reduceIte,n0,reduceCtorEq,n1,n2,n3,n4,n5,i0,i1,i2,i3,i4,i5,i6,i7,hrc4_2,hrc4_7,hrc4_8,hrc4_9,hrc4_10,hrc4_14,hrc4_13,hrc4_15,hrc4_17,hrc4_24,hrc4_23,hrc4_25,hrc4_27,hrc4_44,hra4,hri4]
              simp only [RowKit.intOf]
              omega
            · have hjN : j3 = N4 := by omega
              rw [hjN] at hL4
              repeat ((first | refine qA rfl ?_|apply qB|refine qC rfl ?_|apply qD|apply qE|apply qF|apply qG|apply qH);try simp (maxSteps:=1000000)(disch:=(first|omega|(simp only [qI,qJ,qK]<;>omega)|exact qL _)) only [go_sem,↓reduceIte,n0,reduceCtorEq,n1,n2,n3,n4,n5,i0,i1,i2,i3,i4,i5,i6,i7,hrc4_2,hrc4_7,hrc4_8,hrc4_9,hrc4_10,hrc4_14,hrc4_13,hrc4_15,hrc4_17,hrc4_24,hrc4_23,hrc4_25,hrc4_27,hrc4_44,hrc4_43,hri4,exitRQ_ret,exitRQ_exit])
              exact ⟨(by simp (maxSteps:=1000000)(disch:=(first|omega|(simp only [qI,qJ,qK]<;>omega)|exact qL _)) only [go_sem,↓reduceIte,n0,reduceCtorEq,n1,n2,n3,n4,n5,i0,i1,i2,i3,i4,i5,i6,i7,Holds_nil,Holds_cons,hrc4_2,hrc4_7,hrc4_8,hrc4_9,hrc4_10,hrc4_14,hrc4_13,hrc4_15,hrc4_17,hrc4_24,hrc4_23,hrc4_25,hrc4_27,hrc4_44,hrc4_43,hri4]),s23,xs4,css4,hL4⟩
          rintro ρ w49 ⟨⟨hrd4_2,hrd4_7,hrd4_8,hrd4_9,hrd4_10,hrd4_14,hrd4_13,hrd4_15,hrd4_17,hrd4_24,hrd4_23,hrd4_25,hrd4_27,hrd4_44,hrd4_43,-⟩,s25,xs4,css4,hL4⟩
          have hq49 := hL4.rd
          have hu49 := hL4.upd
          have hx2_49 := hu49.blk_some hx2_43 (by omega)
          have hV49 : Upd (fun b => b = R2 ∨ b = rb) w43 w49 := hu49.mono (fun _ h => .inr h)
          have hU49 : Upd (fun b => b = vb ∨ b = rb) w1 w49 := hU43.trans' hV49 fun i hi h => h.elim (fun h => by omega) .inr
          have hz49 := hV49.size
          have hG49 : Glo ev w49 := hG1.updS hU49 hgM1 hgM2
          obtain ⟨X49,hX49,hxb49,hXs49⟩ := el_open (n := 10) hx2_49 hA2 rfl
          have hrd4 : rdF (rdP d ver true) ver true frX0_6 s21 = (.mk 0 [] (nilS frX0_6 ver y4) xs4 [],s25) := by
            have h := rdF_listE (pt := (rdP d ver true)) (v := ver) (flex := true) (f := frX0_6) (s := s21) (xs := xs4) (e := s25) rfl (by rw [hy4,← hN4,← hs22];exact hL4.done)
            rw [hy4] at h;exact h
          have hs25 : s25 = (rdF (rdP d ver true) ver true frX0_6 s21).2 := by rw [hrd4]
          obtain ⟨aa4,qq4,hvs4⟩ := hL4.row.shape
          subst hvs4
          have hst49_6 : j2 * 10 + 7 ≤ X49.size := by omega
          have hld49_7 : X49[j2 * 10 + 7]? = some (.slice none 0 0) := by rw [hX49];exact el_cell (R := 0) hA2 (Nat.le_of_ble_eq_true rfl)
          have hld49_8 : X49[j2 * 10 + 8]? = some (.slice none 0 0) := by rw [hX49];exact el_cell (R := 0) hA2 (Nat.le_of_ble_eq_true rfl)
          repeat ((first | refine qA rfl ?_|apply qB|refine qC rfl ?_|apply qD|apply qE|apply qF|apply qG|apply qH);try simp (maxSteps:=1000000)(disch:=(first|omega|(simp only [qI,qJ,qK]<;>omega)|exact qL _)) only [go_sem,↓reduceIte,n0,reduceCtorEq,n1,n2,n3,n4,n5,i0,i1,i2,i3,i4,i5,i6,i7,hxb49,hrd4_2,hrd4_7,hrd4_8,hrd4_9,hrd4_10,hrd4_14,hrd4_13,hrd4_15,hrd4_17,hrd4_24,hrd4_23,hrd4_25,hrd4_27,hrd4_44,hrd4_43,exitRQ_ret,exitRQ_exit,Int.toNat_natCast,Nat.mul_one,hst49_6,hld49_7,hld49_8,Array.getElem?_setIfInBounds_ne])
          generalize hw50 : wr w49 R2 (j2 * 10 + 6) [.slice aa4 N4 qq4] = w50
          have hS50 : Upd (fun b => b = R2 ∨ b = rb) w49 w50 := by rw [← hw50];exact (Upd.refl _ _).wr _ _ (.inr (.inl rfl))
          have hx2_50 : blk w50 R2 = some ((A2 ++ (([.int .i16 (rdInt .i16 2 s9).1,.int .i32 (rdInt .i32 4 s10).1,.int .i32 (rdInt .i32 4 s11).1,.int .i32 (rdInt .i32 4 s12).1,.slice aa2 N2 qq2,.slice aa3 N3 qq3,.slice aa4 N4 qq4,.slice none 0 0,.slice none 0 0,.map none] : List Value) ++ B2)).toArray,88,(0,0)) := by rw [← hw50];exact el_blk (o := 6) hx2_49 hA2 (Nat.le_of_ble_eq_true rfl)
          have hV50 := hS50
          have hU50 : Upd (fun b => b = vb ∨ b = rb) w1 w50 := hU49.trans' hV50 fun i hi h => h.elim (fun h => by omega) .inr
          have hz50 := hV50.size
          have hG50 : Glo ev w50 := hG1.updS hU50 hgM1 hgM2
          have hq50 := Rdr.stored hw50 hq49 (by omega) fun h => by have := (hok _ h).1;first | omega | exact (hok _ h).2 rfl
          obtain ⟨X50,hX50,hxb50,hXs50⟩ := el_open (n := 10) hx2_50 hA2 rfl
          clear hw50
          have hfe0e1_6 : RepF (RepS true d) (szS true d) frX0_6 (fun b => (fun b => (ok b ∨ w1.heap.size ≤ b) ∧ ¬ ownB va0 b) b ∧ ¬ ownB va1 b) w50 (xe0e1_6) [.slice aa4 N4 qq4] := by rw [hxe0e1_6,hrd4];exact RepF.keepS (RepF_row rfl hnc4 hN4 rfl hL4.row hL4.all (fun b hb => ⟨⟨.inr (by omega),fun ho => by have := (hown1 _ ho).2;omega⟩,fun ho => by have := (hown2 _ ho).2;omega⟩)) (hV50.keeps fun b _ hk e => hoM2 b hk e)
          clear hL4 hnc4
          have hbe0e1_7 : (rdL (rdP d ver true) (dfP d) ver true [frX0_7,fX0_8] s25).2 = none → FB := fun h => hbe0e1_6 (by rw [rdL_st (by decide) hhe0e1_6,← hs25];exact h)
          have hhe0e1_7 : hasS frX0_7 ver = true := hasS_t (by show (0 : Int) ≤ ver;omega) (by show (-1 : Int) < 0 ∨ ver ≤ (-1 : Int);omega)
          obtain ⟨xe0e1_7,hxe0e1_7⟩ : ∃ x,x = (rdF (rdP d ver true) ver true frX0_7 s25).1 := ⟨_,rfl⟩
          have hld50_7 : X50[j2 * 10 + 7]? = some (.slice none 0 0) := by rw [hX50];exact el_cell (R := 0) hA2 (Nat.le_of_ble_eq_true rfl)
          repeat ((first | refine qA rfl ?_|apply qB|refine qC rfl ?_|apply qD|apply qE|apply qF|apply qG|apply qH);try simp (maxSteps:=1000000)(disch:=(first|omega|(simp only [qI,qJ,qK]<;>omega)|exact qL _)) only [go_sem,↓reduceIte,n0,reduceCtorEq,n1,n2,n3,n4,n5,i0,i1,i2,i3,i4,i5,i6,i7,hxb50,hrd4_2,hrd4_7,hrd4_8,hrd4_9,hrd4_10,hrd4_14,hrd4_13,hrd4_15,hrd4_17,hrd4_24,hrd4_23,hrd4_25,hrd4_27,hrd4_44,hrd4_43,exitRQ_ret,exitRQ_exit,Int.toNat_natCast,Nat.mul_one,hld50_7])
          refine (RCompactArrayLen_fn w50 hq50.1 hrok hG50.1 hgrb).mono ?_
          rintro _ w51 ⟨rfl,hq51,hu51⟩
          have hx2_51 := hu51.blk_some hx2_50 (by omega)
          have hV51 : Upd (fun b => b = R2 ∨ b = rb) w50 w51 := hu51.mono (fun _ h => .inr h)
          have hU51 : Upd (fun b => b = vb ∨ b = rb) w1 w51 := hU50.trans' hV51 fun i hi h => h.elim (fun h => by omega) .inr
          have hz51 := hV51.size
          have hG51 : Glo ev w51 := hG1.updS hU51 hgM1 hgM2
          obtain ⟨X51,hX51,hxb51,hXs51⟩ := el_open (n := 10) hx2_51 hA2 rfl
          obtain ⟨s26,hs26⟩ : ∃ s,s = (rdALen true s25).2 := ⟨_,rfl⟩
          rw [← hs26] at hq51
          have hyr5 := rdALen_rng true s25
          generalize hy5 : (rdALen true s25).1 = y5 at *
          obtain ⟨N5,hN5⟩ : ∃ N,N = y5.toNat := ⟨_,rfl⟩
          have hlb5 : (rdMany (rd1 (rdP d ver true) frX0_7.of frX0_7.sub false true) N5 s26).2 = none → FB := fun h => hbe0e1_7 (by rw [rdL_st (by decide) hhe0e1_7];exact rdL_bad (rdF_listbad rfl (by rw [hy5,← hN5,← hs26];exact h)))
          repeat ((first | refine W.seqR rfl ?_ | refine W.seq ?_ | refine W.regR rfl ?_ | refine W.block ?_ | refine W.skip ?_ | refine W.ret ?_ | refine W.exit ?_);try simp (maxSteps:=1000000)(disch:=(first|omega|(simp only [qI,qJ,qK]<;>omega)|exact qL _)) only [go_sem,↓reduceIte,n0,reduceCtorEq,n1,n2,n3,n4,n5,i0,i1,i2,i3,i4,i5,i6,i7,hxb51,hrd4_2,hrd4_7,hrd4_8,hrd4_9,hrd4_10,hrd4_14,hrd4_13,hrd4_15,hrd4_17,hrd4_24,hrd4_23,hrd4_25,hrd4_27,hrd4_44,hrd4_43,exitRQ_ret,exitRQ_exit,Int.toNat_natCast,Nat.mul_one])
          refine W.normJ (RowQ [(2,.bool false),(7,.pointer (some ⟨rb,0,none⟩)),(8,.int .i16 ver),(9,.bool true),(10,.pointer (some ⟨vb,0,none⟩)),(14,.int .i32 y0),(13,.slice (some ⟨R1,0,none⟩) N0 q1),(15,.int .i32 j1),(17,.pointer (some ⟨R1,j1 * 22,none⟩)),(24,.int .i32 y1),(23,.slice (some ⟨R2,0,none⟩) N1 q2),(25,.int .i32 j2),(27,.pointer (some ⟨R2,j2 * 10,none⟩)),(49,.int .i32 y5)] 48 (fun va w' => ∃ a0,va = .slice a0 0 0 ∧ Ext w51 w' ∧ (∀ x,a0 = some x → w51.heap.size ≤ x.block ∧ x.block < w'.heap.size) ∧ (N5 = 0 → if nilS frX0_7 ver y5 = true then va = .slice none 0 0 else ∃ a,va = .slice (some a) 0 0))) ?_ ?_
          · by_cases hye : y5 = 0
            · repeat ((first | refine qA rfl ?_|apply qB|refine qC rfl ?_|apply qD|apply qE|apply qF|apply qG|apply qH);try simp (maxSteps:=1000000)(disch:=(first|omega|(simp only [qI,qJ,qK]<;>omega)|exact qL _)) only [go_sem,↓reduceIte,n0,reduceCtorEq,n1,n2,n3,n4,n5,i0,i1,i2,i3,i4,i5,i6,i7,hxb51,hrd4_2,hrd4_7,hrd4_8,hrd4_9,hrd4_10,hrd4_14,hrd4_13,hrd4_15,hrd4_17,hrd4_24,hrd4_23,hrd4_25,hrd4_27,hrd4_44,hrd4_43,exitRQ_ret,exitRQ_exit,Int.toNat_natCast,Nat.mul_one,hye])
              exact ⟨(by simp (maxSteps:=1000000)(disch:=(first|omega|(simp only [qI,qJ,qK]<;>omega)|exact qL _)) only [go_sem,↓reduceIte,n0,reduceCtorEq,n1,n2,n3,n4,n5,i0,i1,i2,i3,i4,i5,i6,i7,Holds_nil,Holds_cons,hrd4_2,hrd4_7,hrd4_8,hrd4_9,hrd4_10,hrd4_14,hrd4_13,hrd4_15,hrd4_17,hrd4_24,hrd4_23,hrd4_25,hrd4_27,hrd4_44,hrd4_43,hye]),.slice (some ⟨w51.heap.size,0,none⟩) 0 0,(by simp (maxSteps:=1000000)(disch:=(first|omega|(simp only [qI,qJ,qK]<;>omega)|exact qL _)) only [go_sem,↓reduceIte,n0,reduceCtorEq,n1,n2,n3,n4,n5,i0,i1,i2,i3,i4,i5,i6,i7,hrd4_2,hrd4_7,hrd4_8,hrd4_9,hrd4_10,hrd4_14,hrd4_13,hrd4_15,hrd4_17,hrd4_24,hrd4_23,hrd4_25,hrd4_27,hrd4_44,hrd4_43]),some ⟨w51.heap.size,0,none⟩,rfl,(Upd.alloc (Upd.refl _ _) _ : Ext _ _),(fun x hx => by cases hx;exact ⟨Nat.le_refl _,by simp only [World.size_alloc];omega⟩),(fun _ => by rw [nilS_may (by decide) (by show (0 : Int) ≤ ver;omega),decide_eq_false (by omega)];exact ⟨_,rfl⟩)⟩
            · repeat ((first | refine qA rfl ?_|apply qB|refine qC rfl ?_|apply qD|apply qE|apply qF|apply qG|apply qH);try simp (maxSteps:=1000000)(disch:=(first|omega|(simp only [qI,qJ,qK]<;>omega)|exact qL _)) only [go_sem,↓reduceIte,n0,reduceCtorEq,n1,n2,n3,n4,n5,i0,i1,i2,i3,i4,i5,i6,i7,hxb51,hrd4_2,hrd4_7,hrd4_8,hrd4_9,hrd4_10,hrd4_14,hrd4_13,hrd4_15,hrd4_17,hrd4_24,hrd4_23,hrd4_25,hrd4_27,hrd4_44,hrd4_43,exitRQ_ret,exitRQ_exit,Int.toNat_natCast,Nat.mul_one,hye])
              exact ⟨(by simp (maxSteps:=1000000)(disch:=(first|omega|(simp only [qI,qJ,qK]<;>omega)|exact qL _)) only [go_sem,↓reduceIte,n0,reduceCtorEq,n1,n2,n3,n4,n5,i0,i1,i2,i3,i4,i5,i6,i7,Holds_nil,Holds_cons,hrd4_2,hrd4_7,hrd4_8,hrd4_9,hrd4_10,hrd4_14,hrd4_13,hrd4_15,hrd4_17,hrd4_24,hrd4_23,hrd4_25,hrd4_27,hrd4_44,hrd4_43,hye]),.slice none 0 0,(by simp (maxSteps:=1000000)(disch:=(first|omega|(simp only [qI,qJ,qK]<;>omega)|exact qL _)) only [go_sem,↓reduceIte,n0,reduceCtorEq,n1,n2,n3,n4,n5,i0,i1,i2,i3,i4,i5,i6,i7,hrd4_2,hrd4_7,hrd4_8,hrd4_9,hrd4_10,hrd4_14,hrd4_13,hrd4_15,hrd4_17,hrd4_24,hrd4_23,hrd4_25,hrd4_27,hrd4_44,hrd4_43]),none,rfl,Upd.refl _ _,(fun x hx => by cases hx),(fun _ => by rw [nilS_may (by decide) (by show (0 : Int) ≤ ver;omega),decide_eq_true (by omega)];exact rfl)⟩
          rintro ρ w52 ⟨⟨hrn5_2,hrn5_7,hrn5_8,hrn5_9,hrn5_10,hrn5_14,hrn5_13,hrn5_15,hrn5_17,hrn5_24,hrn5_23,hrn5_25,hrn5_27,hrn5_49,-⟩,va,hra5,a0,rfl,hEn5,hab5,hnl5⟩
          have hun52 : Upd (fun b => b = rb) w51 w52 := hEn5.mono fun _ h => h.elim
          have hq52 := And.intro (hq51.1.upd hEn5 (fun h => h) (fun _ _ _ h => h)) (hq51.2.upd hEn5 fun h => h)
          have hx2_52 := hun52.blk_some hx2_51 (by omega)
          have hV52 : Upd (fun b => b = R2 ∨ b = rb) w51 w52 := hun52.mono (fun _ h => .inr h)
          have hU52 : Upd (fun b => b = vb ∨ b = rb) w1 w52 := hU51.trans' hV52 fun i hi h => h.elim (fun h => by omega) .inr
          have hz52 := hV52.size
          have hG52 : Glo ev w52 := hG1.updS hU52 hgM1 hgM2
          obtain ⟨X52,hX52,hxb52,hXs52⟩ := el_open (n := 10) hx2_52 hA2 rfl
          repeat ((first | refine W.seqR rfl ?_ | refine W.seq ?_ | refine W.regR rfl ?_ | refine W.block ?_ | refine W.skip ?_ | refine W.ret ?_ | refine W.exit ?_);try simp (maxSteps:=1000000)(disch:=(first|omega|(simp only [qI,qJ,qK]<;>omega)|exact qL _)) only [go_sem,↓reduceIte,n0,reduceCtorEq,n1,n2,n3,n4,n5,i0,i1,i2,i3,i4,i5,i6,i7,hxb52,hrn5_2,hrn5_7,hrn5_8,hrn5_9,hrn5_10,hrn5_14,hrn5_13,hrn5_15,hrn5_17,hrn5_24,hrn5_23,hrn5_25,hrn5_27,hrn5_49,hra5,exitRQ_ret,exitRQ_exit,Int.toNat_natCast,Nat.mul_one])
          refine (ROk_fn w52 hq52.1).mono ?_
          rintro _ wz ⟨rfl,hez⟩
          rw [hez]
          clear hez wz
          by_cases hsn5 : s26 = none
          · have hso : s26.isSome = false := by rw [hsn5];rfl
            repeat (first|simp (maxSteps:=1000000)(disch:=(first|omega|(simp only [qI,qJ,qK]<;>omega)|exact qL _)) only [go_sem,↓reduceIte,n0,reduceCtorEq,n1,n2,n3,n4,n5,i0,i1,i2,i3,i4,i5,i6,i7,hxb52,hrn5_2,hrn5_7,hrn5_8,hrn5_9,hrn5_10,hrn5_14,hrn5_13,hrn5_15,hrn5_17,hrn5_24,hrn5_23,hrn5_25,hrn5_27,hrn5_49,hra5,exitRQ_ret,exitRQ_exit,Int.toNat_natCast,Nat.mul_one,hso]|refine qA rfl ?_|apply qB|refine qC rfl ?_|apply qD|apply qE|apply qF|apply qG|apply qH)
            refine (RComplete_fn w52 hq52.1 hG52.2).mono ?_
            rintro _ wz ⟨rfl,hez⟩
            rw [hez]
            repeat (first|simp (maxSteps:=1000000)(disch:=(first|omega|(simp only [qI,qJ,qK]<;>omega)|exact qL _)) only [go_sem,↓reduceIte,n0,reduceCtorEq,n1,n2,n3,n4,n5,i0,i1,i2,i3,i4,i5,i6,i7,hxb52,hrn5_2,hrn5_7,hrn5_8,hrn5_9,hrn5_10,hrn5_14,hrn5_13,hrn5_15,hrn5_17,hrn5_24,hrn5_23,hrn5_25,hrn5_27,hrn5_49,hra5,exitRQ_ret,exitRQ_exit,Int.toNat_natCast,Nat.mul_one]|refine qA rfl ?_|apply qB|refine qC rfl ?_|apply qD|apply qE|apply qF|apply qG|apply qH)
            rw [errV_none hsn5]
            exact ReadQ.bad (Eq.mp hFB (hlb5 (by rw [hsn5];exact rdMany_none rd1P_none _))) (hbase.trans' hU52 fun i hi h => h.elim id fun h => by omega)
          have hso5 : s26.isSome = true := isSome_some hsn5
          try simp (maxSteps:=1000000)(disch:=(first|omega|(simp only [qI,qJ,qK]<;>omega)|exact qL _)) only [go_sem,↓reduceIte,n0,reduceCtorEq,n1,n2,n3,n4,n5,i0,i1,i2,i3,i4,i5,i6,i7,hxb52,hrn5_2,hrn5_7,hrn5_8,hrn5_9,hrn5_10,hrn5_14,hrn5_13,hrn5_15,hrn5_17,hrn5_24,hrn5_23,hrn5_25,hrn5_27,hrn5_49,hra5,exitRQ_ret,exitRQ_exit,Int.toNat_natCast,Nat.mul_one,hso5]
          repeat ((first | refine W.seqR rfl ?_ | refine W.seq ?_ | refine W.regR rfl ?_ | refine W.block ?_ | refine W.skip ?_ | refine W.ret ?_ | refine W.exit ?_);try simp (maxSteps:=1000000)(disch:=(first|omega|(simp only [qI,qJ,qK]<;>omega)|exact qL _)) only [go_sem,↓reduceIte,n0,reduceCtorEq,n1,n2,n3,n4,n5,i0,i1,i2,i3,i4,i5,i6,i7,hxb52,hrn5_2,hrn5_7,hrn5_8,hrn5_9,hrn5_10,hrn5_14,hrn5_13,hrn5_15,hrn5_17,hrn5_24,hrn5_23,hrn5_25,hrn5_27,hrn5_49,hra5,exitRQ_ret,exitRQ_exit,Int.toNat_natCast,Nat.mul_one,hso5])
          refine W.condK ?_
          try simp (maxSteps:=1000000)(disch:=(first|omega|(simp only [qI,qJ,qK]<;>omega)|exact qL _)) only [go_sem,↓reduceIte,n0,reduceCtorEq,n1,n2,n3,n4,n5,i0,i1,i2,i3,i4,i5,i6,i7,hxb52,hrn5_2,hrn5_7,hrn5_8,hrn5_9,hrn5_10,hrn5_14,hrn5_13,hrn5_15,hrn5_17,hrn5_24,hrn5_23,hrn5_25,hrn5_27,hrn5_49,hra5,exitRQ_ret,exitRQ_exit,Int.toNat_natCast,Nat.mul_one,hso5]
          repeat ((first | refine W.seqR rfl ?_ | refine W.seq ?_ | refine W.regR rfl ?_ | refine W.block ?_ | refine W.skip ?_ | refine W.ret ?_ | refine W.exit ?_);try simp (maxSteps:=1000000)(disch:=(first|omega|(simp only [qI,qJ,qK]<;>omega)|exact qL _)) only [go_sem,↓reduceIte,n0,reduceCtorEq,n1,n2,n3,n4,n5,i0,i1,i2,i3,i4,i5,i6,i7,hxb52,hrn5_2,hrn5_7,hrn5_8,hrn5_9,hrn5_10,hrn5_14,hrn5_13,hrn5_15,hrn5_17,hrn5_24,hrn5_23,hrn5_25,hrn5_27,hrn5_49,hra5,exitRQ_ret,exitRQ_exit,Int.toNat_natCast,Nat.mul_one,hso5,slBase_00])
          refine W.normJ (RowQ [(2,.bool false),(7,.pointer (some ⟨rb,0,none⟩)),(8,.int .i16 ver),(9,.bool true),(10,.pointer (some ⟨vb,0,none⟩)),(14,.int .i32 y0),(13,.slice (some ⟨R1,0,none⟩) N0 q1),(15,.int .i32 j1),(17,.pointer (some ⟨R1,j1 * 22,none⟩)),(24,.int .i32 y1),(23,.slice (some ⟨R2,0,none⟩) N1 q2),(25,.int .i32 j2),(27,.pointer (some ⟨R2,j2 * 10,none⟩)),(49,.int .i32 y5)] 48 (fun va w' => LstI RT (rd1 (rdP d ver true) frX0_7.of frX0_7.sub false true) (Rep1 (RepS true d) frX0_7.of frX0_7.sub) 1 21 [.int .i32 0] w51.heap.size N5 ok (fun b => (fun b => (ok b ∨ w1.heap.size ≤ b) ∧ ¬ ownB va0 b) b ∧ ¬ ownB va1 b) rb w51 s26 va 0 s26 [] [] w' ∧ (N5 = 0 → if nilS frX0_7 ver y5 = true then va = .slice none 0 0 else ∃ a,va = .slice (some a) 0 0))) ?_ ?_
          · by_cases hy0 : (0 : Int) < y5
            · have hyv : Value.int .i32 y5 = .int .i32 ((N5 : Nat) : Int) := by rw [show y5 = ((N5 : Nat) : Int) by omega]
              repeat ((first | refine qA rfl ?_|apply qB|refine qC rfl ?_|apply qD|apply qE|apply qF|apply qG|apply qH);try simp (maxSteps:=1000000)(disch:=(first|omega|(simp only [qI,qJ,qK]<;>omega)|exact qL _)) only [go_sem,↓reduceIte,n0,reduceCtorEq,n1,n2,n3,n4,n5,i0,i1,i2,i3,i4,i5,i6,i7,hxb52,hrn5_2,hrn5_7,hrn5_8,hrn5_9,hrn5_10,hrn5_14,hrn5_13,hrn5_15,hrn5_17,hrn5_24,hrn5_23,hrn5_25,hrn5_27,hrn5_49,hra5,exitRQ_ret,exitRQ_exit,Int.toNat_natCast,Nat.mul_one])
              refine wp_appendZ (m := N5) utQ_86 utQ_21 inQ_21 (by decide) (by first | rfl | simp (maxSteps:=1000000)(disch:=(first|omega|(simp only [qI,qJ,qK]<;>omega)|exact qL _)) only [go_sem,↓reduceIte,n0,reduceCtorEq,n1,n2,n3,n4,n5,i0,i1,i2,i3,i4,i5,i6,i7,hrn5_2,hrn5_7,hrn5_8,hrn5_9,hrn5_10,hrn5_14,hrn5_13,hrn5_15,hrn5_17,hrn5_24,hrn5_23,hrn5_25,hrn5_27,hrn5_49,hra5]) (by first | exact hyv | (simp (maxSteps:=1000000)(disch:=(first|omega|(simp only [qI,qJ,qK]<;>omega)|exact qL _)) only [go_sem,↓reduceIte,n0,reduceCtorEq,n1,n2,n3,n4,n5,i0,i1,i2,i3,i4,i5,i6,i7,hrn5_2,hrn5_7,hrn5_8,hrn5_9,hrn5_10,hrn5_14,hrn5_13,hrn5_15,hrn5_17,hrn5_24,hrn5_23,hrn5_25,hrn5_27,hrn5_49,hra5];exact hyv)) (by omega) (by omega) (by decide) ?_
              intro q rest hq1
              have hEw : Ext w52 (w52.drew.alloc (.cells (zs [.int .i32 0] N5 ++ rest).toArray 21)) := (Upd.refl _ _).drew.alloc _
              repeat (first|simp (maxSteps:=1000000)(disch:=(first|omega|(simp only [qI,qJ,qK]<;>omega)|exact qL _)) only [go_sem,↓reduceIte,n0,reduceCtorEq,n1,n2,n3,n4,n5,i0,i1,i2,i3,i4,i5,i6,i7,hxb52,hrn5_2,hrn5_7,hrn5_8,hrn5_9,hrn5_10,hrn5_14,hrn5_13,hrn5_15,hrn5_17,hrn5_24,hrn5_23,hrn5_25,hrn5_27,hrn5_49,hra5,exitRQ_ret,exitRQ_exit,Int.toNat_natCast,Nat.mul_one]|refine qA rfl ?_|apply qB|refine qC rfl ?_|apply qD|apply qE|apply qF|apply qG|apply qH)
              exact ⟨(by simp (maxSteps:=1000000)(disch:=(first|omega|(simp only [qI,qJ,qK]<;>omega)|exact qL _)) only [go_sem,↓reduceIte,n0,reduceCtorEq,n1,n2,n3,n4,n5,i0,i1,i2,i3,i4,i5,i6,i7,Holds_nil,Holds_cons,hrn5_2,hrn5_7,hrn5_8,hrn5_9,hrn5_10,hrn5_14,hrn5_13,hrn5_15,hrn5_17,hrn5_24,hrn5_23,hrn5_25,hrn5_27,hrn5_49,hra5]),.slice (some ⟨w52.heap.size,0,none⟩) N5 q,(by simp (maxSteps:=1000000)(disch:=(first|omega|(simp only [qI,qJ,qK]<;>omega)|exact qL _)) only [go_sem,↓reduceIte,n0,reduceCtorEq,n1,n2,n3,n4,n5,i0,i1,i2,i3,i4,i5,i6,i7,hrn5_2,hrn5_7,hrn5_8,hrn5_9,hrn5_10,hrn5_14,hrn5_13,hrn5_15,hrn5_17,hrn5_24,hrn5_23,hrn5_25,hrn5_27,hrn5_49,hra5]),LstI.start (RowJ.start (by omega) hq1 (by show w51.heap.size ≤ w52.drew.heap.size;rw [size_drew];omega) (blk_alloc_new rfl)) ⟨hq52.1.upd hEw (fun h => h) (fun _ _ _ h => h),hq52.2.upd hEw fun h => h⟩ (hun52.trans (hEw.mono fun _ h => h.elim)),fun h0 => by omega⟩
            · repeat ((first | refine qA rfl ?_|apply qB|refine qC rfl ?_|apply qD|apply qE|apply qF|apply qG|apply qH);try simp (maxSteps:=1000000)(disch:=(first|omega|(simp only [qI,qJ,qK]<;>omega)|exact qL _)) only [go_sem,↓reduceIte,n0,reduceCtorEq,n1,n2,n3,n4,n5,i0,i1,i2,i3,i4,i5,i6,i7,hxb52,hrn5_2,hrn5_7,hrn5_8,hrn5_9,hrn5_10,hrn5_14,hrn5_13,hrn5_15,hrn5_17,hrn5_24,hrn5_23,hrn5_25,hrn5_27,hrn5_49,hra5,exitRQ_ret,exitRQ_exit,Int.toNat_natCast,Nat.mul_one])
              exact ⟨(by simp (maxSteps:=1000000)(disch:=(first|omega|(simp only [qI,qJ,qK]<;>omega)|exact qL _)) only [go_sem,↓reduceIte,n0,reduceCtorEq,n1,n2,n3,n4,n5,i0,i1,i2,i3,i4,i5,i6,i7,Holds_nil,Holds_cons,hrn5_2,hrn5_7,hrn5_8,hrn5_9,hrn5_10,hrn5_14,hrn5_13,hrn5_15,hrn5_17,hrn5_24,hrn5_23,hrn5_25,hrn5_27,hrn5_49,hra5]),.slice a0 0 0,(by simp (maxSteps:=1000000)(disch:=(first|omega|(simp only [qI,qJ,qK]<;>omega)|exact qL _)) only [go_sem,↓reduceIte,n0,reduceCtorEq,n1,n2,n3,n4,n5,i0,i1,i2,i3,i4,i5,i6,i7,hrn5_2,hrn5_7,hrn5_8,hrn5_9,hrn5_10,hrn5_14,hrn5_13,hrn5_15,hrn5_17,hrn5_24,hrn5_23,hrn5_25,hrn5_27,hrn5_49,hra5,slBase_00]),LstI.start (RowJ.zero (by omega) hab5) hq52 (hun52),hnl5⟩
          rintro ρ w53 ⟨⟨hrb5_2,hrb5_7,hrb5_8,hrb5_9,hrb5_10,hrb5_14,hrb5_13,hrb5_15,hrb5_17,hrb5_24,hrb5_23,hrb5_25,hrb5_27,hrb5_49,-⟩,va5,hra5,hL5,hnc5⟩
          repeat ((first | refine qA rfl ?_|apply qB|refine qC rfl ?_|apply qD|apply qE|apply qF|apply qG|apply qH);try simp (maxSteps:=1000000)(disch:=(first|omega|(simp only [qI,qJ,qK]<;>omega)|exact qL _)) only [go_sem,↓reduceIte,n0,reduceCtorEq,n1,n2,n3,n4,n5,i0,i1,i2,i3,i4,i5,i6,i7,hxb52,hrb5_2,hrb5_7,hrb5_8,hrb5_9,hrb5_10,hrb5_14,hrb5_13,hrb5_15,hrb5_17,hrb5_24,hrb5_23,hrb5_25,hrb5_27,hrb5_49,hra5,exitRQ_ret,exitRQ_exit,Int.toNat_natCast,Nat.mul_one])
          refine W.exitRJ 10 (EndQ [(2,.bool false),(7,.pointer (some ⟨rb,0,none⟩)),(8,.int .i16 ver),(9,.bool true),(10,.pointer (some ⟨vb,0,none⟩)),(14,.int .i32 y0),(13,.slice (some ⟨R1,0,none⟩) N0 q1),(15,.int .i32 j1),(17,.pointer (some ⟨R1,j1 * 22,none⟩)),(24,.int .i32 y1),(23,.slice (some ⟨R2,0,none⟩) N1 q2),(25,.int .i32 j2),(27,.pointer (some ⟨R2,j2 * 10,none⟩)),(49,.int .i32 y5),(48,va5)] (fun w' => ∃ s xs css,LstI RT (rd1 (rdP d ver true) frX0_7.of frX0_7.sub false true) (Rep1 (RepS true d) frX0_7.of frX0_7.sub) 1 21 [.int .i32 0] w51.heap.size N5 ok (fun b => (fun b => (ok b ∨ w1.heap.size ≤ b) ∧ ¬ ownB va0 b) b ∧ ¬ ownB va1 b) rb w51 s26 va5 N5 s xs css w')) (W.loop (LoopQ [(2,.bool false),(7,.pointer (some ⟨rb,0,none⟩)),(8,.int .i16 ver),(9,.bool true),(10,.pointer (some ⟨vb,0,none⟩)),(14,.int .i32 y0),(13,.slice (some ⟨R1,0,none⟩) N0 q1),(15,.int .i32 j1),(17,.pointer (some ⟨R1,j1 * 22,none⟩)),(24,.int .i32 y1),(23,.slice (some ⟨R2,0,none⟩) N1 q2),(25,.int .i32 j2),(27,.pointer (some ⟨R2,j2 * 10,none⟩)),(49,.int .i32 y5),(48,va5)] 50 (fun j w' => ∃ s xs css,LstI RT (rd1 (rdP d ver true) frX0_7.of frX0_7.sub false true) (Rep1 (RepS true d) frX0_7.of frX0_7.sub) 1 21 [.int .i32 0] w51.heap.size N5 ok (fun b => (fun b => (ok b ∨ w1.heap.size ≤ b) ∧ ¬ ownB va0 b) b ∧ ¬ ownB va1 b) rb w51 s26 va5 j s xs css w')) (fun ρ _ => N5 - (RowKit.intOf (ρ 50)).toNat) ?_ ?_) ?_
          · exact ⟨(by simp (maxSteps:=1000000)(disch:=(first|omega|(simp only [qI,qJ,qK]<;>omega)|exact qL _)) only [go_sem,↓reduceIte,n0,reduceCtorEq,n1,n2,n3,n4,n5,i0,i1,i2,i3,i4,i5,i6,i7,Holds_nil,Holds_cons,hrb5_2,hrb5_7,hrb5_8,hrb5_9,hrb5_10,hrb5_14,hrb5_13,hrb5_15,hrb5_17,hrb5_24,hrb5_23,hrb5_25,hrb5_27,hrb5_49,hra5]),0,(by simp (maxSteps:=1000000)(disch:=(first|omega|(simp only [qI,qJ,qK]<;>omega)|exact qL _)) only [go_sem,↓reduceIte,n0,reduceCtorEq,n1,n2,n3,n4,n5,i0,i1,i2,i3,i4,i5,i6,i7,hrb5_2,hrb5_7,hrb5_8,hrb5_9,hrb5_10,hrb5_14,hrb5_13,hrb5_15,hrb5_17,hrb5_24,hrb5_23,hrb5_25,hrb5_27,hrb5_49,hra5];all_goals rfl),s26,[],[],hL5⟩
          · rintro ρ w54 ⟨⟨hrc5_2,hrc5_7,hrc5_8,hrc5_9,hrc5_10,hrc5_14,hrc5_13,hrc5_15,hrc5_17,hrc5_24,hrc5_23,hrc5_25,hrc5_27,hrc5_49,hrc5_48,-⟩,j3,hri5,s27,xs5,css5,hL5⟩
            have hj5 := hL5.le
            have hq54 := hL5.rd
            have hU54 : Upd (fun b => b = vb ∨ b = rb) w1 w54 := hU51.trans' hL5.upd fun i _ h => .inr h
            have hz54 := hL5.upd.size
            have hG54 : Glo ev w54 := hG1.updS hU54 hgM1 hgM2
            by_cases hlt5 : j3 < N5
            · obtain ⟨R3,q3,B3,hva3,hNq3,hLR3,hA3,hx3_54,hnext3⟩ := hL5.row.next hlt5
              have hRl3 := blk_lt hx3_54
              generalize css5.flatten = A3 at hA3 hx3_54 hnext3
              rw [Nat.mul_one] at hA3
              replace hra5 : ρ 48 = .slice (some ⟨R3,0,none⟩) N5 q3 := hrc5_48.trans hva3
              have hown3 : ∀ b,ownB va5 b → w51.heap.size ≤ b ∧ b < w54.heap.size := fun b h => hL5.row.own h
              have hoM3 : ∀ b,(fun b => (fun b => (fun b => (ok b ∨ w1.heap.size ≤ b) ∧ ¬ ownB va0 b) b ∧ ¬ ownB va1 b) b ∧ ¬ ownB va5 b) b → ¬ (b = R3 ∨ b = rb) := fun b hk h => h.elim (fun e => hk.2 ⟨_,_,_,hva3,e⟩) (fun e => hoM2 b hk.1 (.inr e))
              obtain ⟨X54,hX54,hxb54,hXs54⟩ := el_open (n := 1) hx3_54 hA3 rfl
              repeat ((first | refine qA rfl ?_|apply qB|refine qC rfl ?_|apply qD|apply qE|apply qF|apply qG|apply qH);try simp (maxSteps:=1000000)(disch:=(first|omega|(simp only [qI,qJ,qK]<;>omega)|exact qL _)) only [go_sem,↓reduceIte,n0,reduceCtorEq,n1,n2,n3,n4,n5,i0,i1,i2,i3,i4,i5,i6,i7,hxb54,hrc5_2,hrc5_7,hrc5_8,hrc5_9,hrc5_10,hrc5_14,hrc5_13,hrc5_15,hrc5_17,hrc5_24,hrc5_23,hrc5_25,hrc5_27,hrc5_49,hra5,hri5,exitRQ_ret,exitRQ_exit,Int.toNat_natCast,Nat.mul_one])
              refine (Int32_fn w54 hq54.1 hrok hG54.1 hgrb).mono ?_
              rintro _ w55 ⟨rfl,hq55,hu55⟩
              have hx3_55 := hu55.blk_some hx3_54 (by omega)
              have hV55 : Upd (fun b => b = R3 ∨ b = rb) w54 w55 := hu55.mono (fun _ h => .inr h)
              have hU55 : Upd (fun b => b = vb ∨ b = rb) w1 w55 := hU54.trans' hV55 fun i hi h => h.elim (fun h => by omega) .inr
              have hz55 := hV55.size
              have hG55 : Glo ev w55 := hG1.updS hU55 hgM1 hgM2
              obtain ⟨X55,hX55,hxb55,hXs55⟩ := el_open (n := 1) hx3_55 hA3 rfl
              obtain ⟨s28,hs28⟩ : ∃ s,s = (rdInt .i32 4 s27).2 := ⟨_,rfl⟩
              rw [← hs28] at hq55
              have hrE : (rd1 (rdP d ver true) frX0_7.of frX0_7.sub false true) s27 = ((.num (rdInt .i32 4 s27).1),s28) := by rw [hs28];exact rd1_num 3 (by decide)
              have hst55_0 : j3 + 1 ≤ X55.size := by omega
              repeat ((first | refine qA rfl ?_|apply qB|refine qC rfl ?_|apply qD|apply qE|apply qF|apply qG|apply qH);try simp (maxSteps:=1000000)(disch:=(first|omega|(simp only [qI,qJ,qK]<;>omega)|exact qL _)) only [go_sem,↓reduceIte,n0,reduceCtorEq,n1,n2,n3,n4,n5,i0,i1,i2,i3,i4,i5,i6,i7,hxb55,hrc5_2,hrc5_7,hrc5_8,hrc5_9,hrc5_10,hrc5_14,hrc5_13,hrc5_15,hrc5_17,hrc5_24,hrc5_23,hrc5_25,hrc5_27,hrc5_49,hra5,hri5,exitRQ_ret,exitRQ_exit,Int.toNat_natCast,Nat.mul_one,hst55_0])
              generalize hw56 : wr w55 R3 (j3) [.int .i32 (rdInt .i32 4 s27).1] = w56
              have hS56 : Upd (fun b => b = R3 ∨ b = rb) w55 w56 := by rw [← hw56];exact (Upd.refl _ _).wr _ _ (.inr (.inl rfl))
              have hx3_56 : blk w56 R3 = some ((A3 ++ (([.int .i32 (rdInt .i32 4 s27).1] : List Value) ++ B3)).toArray,21,(0,0)) := by rw [← hw56];exact el_blk0 hx3_55 hA3 (Nat.le_of_ble_eq_true rfl)
              have hV56 := hS56
              have hU56 : Upd (fun b => b = vb ∨ b = rb) w1 w56 := hU55.trans' hV56 fun i hi h => h.elim (fun h => by omega) .inr
              have hz56 := hV56.size
              have hG56 : Glo ev w56 := hG1.updS hU56 hgM1 hgM2
              have hq56 := Rdr.stored hw56 hq55 (by omega) fun h => by have := (hok _ h).1;first | omega | exact (hok _ h).2 rfl
              obtain ⟨X56,hX56,hxb56,hXs56⟩ := el_open (n := 1) hx3_56 hA3 rfl
              clear hw56
              have hxE : (Rep1 (RepS true d) frX0_7.of frX0_7.sub) (fun b => (fun b => (fun b => (ok b ∨ w1.heap.size ≤ b) ∧ ¬ ownB va0 b) b ∧ ¬ ownB va1 b) b ∧ ¬ ownB va5 b) w56 (.num (rdInt .i32 4 s27).1) [.int .i32 (rdInt .i32 4 s27).1] := (Rep1_num (by decide)).2 (congrArg (fun x => [x]) (numC_rd 3 (by decide) 4 s27).symm)
              repeat ((first | refine qA rfl ?_|apply qB|refine qC rfl ?_|apply qD|apply qE|apply qF|apply qG|apply qH);try simp (maxSteps:=1000000)(disch:=(first|omega|(simp only [qI,qJ,qK]<;>omega)|exact qL _)) only [go_sem,↓reduceIte,n0,reduceCtorEq,n1,n2,n3,n4,n5,i0,i1,i2,i3,i4,i5,i6,i7,hxb56,hrc5_2,hrc5_7,hrc5_8,hrc5_9,hrc5_10,hrc5_14,hrc5_13,hrc5_15,hrc5_17,hrc5_24,hrc5_23,hrc5_25,hrc5_27,hrc5_49,hra5,hri5,exitRQ_ret,exitRQ_exit,Int.toNat_natCast,Nat.mul_one])
              have hTk : Upd (fun b => b = R3 ∨ b = rb) w54 w56 := (hV55.trans hV56)
              have hL' := hL5.step (Rep1_lay _ _ fun _ => RepS_lay true _ _) hlt5 (hnext3 w56 [.int .i32 (rdInt .i32 4 s27).1] rfl hx3_56) (by rw [hrE];exact hxE) (hTk.mono fun b h => h.imp (fun e => ⟨_,_,_,hva3,e⟩) id) (by rw [hrE];exact hq56) (fun h => hoM2 rb h (.inr rfl)) (Nat.le_refl _)
              have hij : IntKind.i32.wrap ((j3 : Int) + 1) = ((j3 + 1 : Nat) : Int) := by rw [i32_wrap (by omega)];omega
              repeat ((first | refine qA rfl ?_|apply qB|refine qC rfl ?_|apply qD|apply qE|apply qF|apply qG|apply qH);try simp (maxSteps:=1000000)(disch:=(first|omega|(simp only [qI,qJ,qK]<;>omega)|exact qL _)) only [go_sem,↓reduceIte,n0,reduceCtorEq,n1,n2,n3,n4,n5,i0,i1,i2,i3,i4,i5,i6,i7,hxb56,hrc5_2,hrc5_7,hrc5_8,hrc5_9,hrc5_10,hrc5_14,hrc5_13,hrc5_15,hrc5_17,hrc5_24,hrc5_23,hrc5_25,hrc5_27,hrc5_49,hra5,hri5,exitRQ_ret,exitRQ_exit,Int.toNat_natCast,Nat.mul_one,hij])
              refine ⟨⟨(by simp (maxSteps:=1000000)(disch:=(first|omega|(simp only [qI,qJ,qK]<;>omega)|exact qL _)) only [go_sem,↓reduceIte,n0,reduceCtorEq,n1,n2,n3,n4,n5,i0,i1,i2,i3,i4,i5,i6,i7,Holds_nil,Holds_cons,hrc5_2,hrc5_7,hrc5_8,hrc5_9,hrc5_10,hrc5_14,hrc5_13,hrc5_15,hrc5_17,hrc5_24,hrc5_23,hrc5_25,hrc5_27,hrc5_49,hra5,hri5];exact hva3.symm),j3 + 1,(by simp (maxSteps:=1000000)(disch:=(first|omega|(simp only [qI,qJ,qK]<;>omega)|exact qL _)) only [go_sem,↓reduceIte,n0,reduceCtorEq,n1,n2,n3,n4,n5,i0,i1,i2,i3,i4,i5,i6,i7,hrc5_2,hrc5_7,hrc5_8,hrc5_9,hrc5_10,hrc5_14,hrc5_13,hrc5_15,hrc5_17,hrc5_24,hrc5_23,hrc5_25,hrc5_27,hrc5_49,hra5,hri5,hij];all_goals rfl),_,_,_,hL'⟩,?_⟩
              try simp (maxSteps:=1000000)(disch:=(first|omega|(simp only [qI,qJ,qK]<;>omega)|exact qL _)) only [go_sem,↓reduceIte,n0,reduceCtorEq,n1,n2,n3,n4,n5,i0,i1,i2,i3,i4,i5,i6,i7,hrc5_2,hrc5_7,hrc5_8,hrc5_9,hrc5_10,hrc5_14,hrc5_13,hrc5_15,hrc5_17,hrc5_24,hrc5_23,hrc5_25,hrc5_27,hrc5_49,hra5,hri5]
              simp only [RowKit.intOf]
              omega
            · have hjN : j3 = N5 := by omega
              rw [hjN] at hL5
              repeat ((first | refine qA rfl ?_|apply qB|refine qC rfl ?_|apply qD|apply qE|apply qF|apply qG|apply qH);try simp (maxSteps:=1000000)(disch:=(first|omega|(simp only [qI,qJ,qK]<;>omega)|exact qL _)) only [go_sem,↓reduceIte,n0,reduceCtorEq,n1,n2,n3,n4,n5,i0,i1,i2,i3,i4,i5,i6,i7,hrc5_2,hrc5_7,hrc5_8,hrc5_9,hrc5_10,hrc5_14,hrc5_13,hrc5_15,hrc5_17,hrc5_24,hrc5_23,hrc5_25,hrc5_27,hrc5_49,hrc5_48,hri5,exitRQ_ret,exitRQ_exit])
              exact ⟨(by simp (maxSteps:=1000000)(disch:=(first|omega|(simp only [qI,qJ,qK]<;>omega)|exact qL _)) only [go_sem,↓reduceIte,n0,reduceCtorEq,n1,n2,n3,n4,n5,i0,i1,i2,i3,i4,i5,i6,i7,Holds_nil,Holds_cons,hrc5_2,hrc5_7,hrc5_8,hrc5_9,hrc5_10,hrc5_14,hrc5_13,hrc5_15,hrc5_17,hrc5_24,hrc5_23,hrc5_25,hrc5_27,hrc5_49,hrc5_48,hri5]),s27,xs5,css5,hL5⟩
          rintro ρ w57 ⟨⟨hrd5_2,hrd5_7,hrd5_8,hrd5_9,hrd5_10,hrd5_14,hrd5_13,hrd5_15,hrd5_17,hrd5_24,hrd5_23,hrd5_25,hrd5_27,hrd5_49,hrd5_48,-⟩,s29,xs5,css5,hL5⟩
          have hq57 := hL5.rd
          have hu57 := hL5.upd
          have hx2_57 := hu57.blk_some hx2_51 (by omega)
          have hV57 : Upd (fun b => b = R2 ∨ b = rb) w51 w57 := hu57.mono (fun _ h => .inr h)
          have hU57 : Upd (fun b => b = vb ∨ b = rb) w1 w57 := hU51.trans' hV57 fun i hi h => h.elim (fun h => by omega) .inr
          have hz57 := hV57.size
          have hG57 : Glo ev w57 := hG1.updS hU57 hgM1 hgM2
          obtain ⟨X57,hX57,hxb57,hXs57⟩ := el_open (n := 10) hx2_57 hA2 rfl
          have hrd5 : rdF (rdP d ver true) ver true frX0_7 s25 = (.mk 0 [] (nilS frX0_7 ver y5) xs5 [],s29) := by
            have h := rdF_listE (pt := (rdP d ver true)) (v := ver) (flex := true) (f := frX0_7) (s := s25) (xs := xs5) (e := s29) rfl (by rw [hy5,← hN5,← hs26];exact hL5.done)
            rw [hy5] at h;exact h
          have hs29 : s29 = (rdF (rdP d ver true) ver true frX0_7 s25).2 := by rw [hrd5]
          obtain ⟨aa5,qq5,hvs5⟩ := hL5.row.shape
          subst hvs5
          have hst57_7 : j2 * 10 + 8 ≤ X57.size := by omega
          have hld57_8 : X57[j2 * 10 + 8]? = some (.slice none 0 0) := by rw [hX57];exact el_cell (R := 0) hA2 (Nat.le_of_ble_eq_true rfl)
          repeat ((first | refine qA rfl ?_|apply qB|refine qC rfl ?_|apply qD|apply qE|apply qF|apply qG|apply qH);try simp (maxSteps:=1000000)(disch:=(first|omega|(simp only [qI,qJ,qK]<;>omega)|exact qL _)) only [go_sem,↓reduceIte,n0,reduceCtorEq,n1,n2,n3,n4,n5,i0,i1,i2,i3,i4,i5,i6,i7,hxb57,hrd5_2,hrd5_7,hrd5_8,hrd5_9,hrd5_10,hrd5_14,hrd5_13,hrd5_15,hrd5_17,hrd5_24,hrd5_23,hrd5_25,hrd5_27,hrd5_49,hrd5_48,exitRQ_ret,exitRQ_exit,Int.toNat_natCast,Nat.mul_one,hst57_7,hld57_8,Array.getElem?_setIfInBounds_ne])
          generalize hw58 : wr w57 R2 (j2 * 10 + 7) [.slice aa5 N5 qq5] = w58
          have hS58 : Upd (fun b => b = R2 ∨ b = rb) w57 w58 := by rw [← hw58];exact (Upd.refl _ _).wr _ _ (.inr (.inl rfl))
          have hx2_58 : blk w58 R2 = some ((A2 ++ (([.int .i16 (rdInt .i16 2 s9).1,.int .i32 (rdInt .i32 4 s10).1,.int .i32 (rdInt .i32 4 s11).1,.int .i32 (rdInt .i32 4 s12).1,.slice aa2 N2 qq2,.slice aa3 N3 qq3,.slice aa4 N4 qq4,.slice aa5 N5 qq5,.slice none 0 0,.map none] : List Value) ++ B2)).toArray,88,(0,0)) := by rw [← hw58];exact el_blk (o := 7) hx2_57 hA2 (Nat.le_of_ble_eq_true rfl)
          have hV58 := hS58
          have hU58 : Upd (fun b => b = vb ∨ b = rb) w1 w58 := hU57.trans' hV58 fun i hi h => h.elim (fun h => by omega) .inr
          have hz58 := hV58.size
          have hG58 : Glo ev w58 := hG1.updS hU58 hgM1 hgM2
          have hq58 := Rdr.stored hw58 hq57 (by omega) fun h => by have := (hok _ h).1;first | omega | exact (hok _ h).2 rfl
          obtain ⟨X58,hX58,hxb58,hXs58⟩ := el_open (n := 10) hx2_58 hA2 rfl
          clear hw58
          have hfe0e1_7 : RepF (RepS true d) (szS true d) frX0_7 (fun b => (fun b => (ok b ∨ w1.heap.size ≤ b) ∧ ¬ ownB va0 b) b ∧ ¬ ownB va1 b) w58 (xe0e1_7) [.slice aa5 N5 qq5] := by rw [hxe0e1_7,hrd5];exact RepF.keepS (RepF_row rfl hnc5 hN5 rfl hL5.row hL5.all (fun b hb => ⟨⟨.inr (by omega),fun ho => by have := (hown1 _ ho).2;omega⟩,fun ho => by have := (hown2 _ ho).2;omega⟩)) (hV58.keeps fun b _ hk e => hoM2 b hk e)
          clear hL5 hnc5
          have hbe0e1_8 : (rdL (rdP d ver true) (dfP d) ver true [fX0_8] s29).2 = none → FB := fun h => hbe0e1_7 (by rw [rdL_st (by decide) hhe0e1_7,← hs29];exact h)
          have hhe0e1_8 : hasS fX0_8 ver = true := hasS_t (by show (0 : Int) ≤ ver;omega) (by show (-1 : Int) < 0 ∨ ver ≤ (-1 : Int);omega)
          obtain ⟨xe0e1_8,hxe0e1_8⟩ : ∃ x,x = (rdF (rdP d ver true) ver true fX0_8 s29).1 := ⟨_,rfl⟩
          have hld58_8 : X58[j2 * 10 + 8]? = some (.slice none 0 0) := by rw [hX58];exact el_cell (R := 0) hA2 (Nat.le_of_ble_eq_true rfl)
          repeat ((first | refine qA rfl ?_|apply qB|refine qC rfl ?_|apply qD|apply qE|apply qF|apply qG|apply qH);try simp (maxSteps:=1000000)(disch:=(first|omega|(simp only [qI,qJ,qK]<;>omega)|exact qL _)) only [go_sem,↓reduceIte,n0,reduceCtorEq,n1,n2,n3,n4,n5,i0,i1,i2,i3,i4,i5,i6,i7,hxb58,hrd5_2,hrd5_7,hrd5_8,hrd5_9,hrd5_10,hrd5_14,hrd5_13,hrd5_15,hrd5_17,hrd5_24,hrd5_23,hrd5_25,hrd5_27,hrd5_49,hrd5_48,exitRQ_ret,exitRQ_exit,Int.toNat_natCast,Nat.mul_one,hld58_8])
          refine (RCompactArrayLen_fn w58 hq58.1 hrok hG58.1 hgrb).mono ?_
          rintro _ w59 ⟨rfl,hq59,hu59⟩
          have hx2_59 := hu59.blk_some hx2_58 (by omega)
          have hV59 : Upd (fun b => b = R2 ∨ b = rb) w58 w59 := hu59.mono (fun _ h => .inr h)
          have hU59 : Upd (fun b => b = vb ∨ b = rb) w1 w59 := hU58.trans' hV59 fun i hi h => h.elim (fun h => by omega) .inr
          have hz59 := hV59.size
          have hG59 : Glo ev w59 := hG1.updS hU59 hgM1 hgM2
          obtain ⟨X59,hX59,hxb59,hXs59⟩ := el_open (n := 10) hx2_59 hA2 rfl
          obtain ⟨s30,hs30⟩ : ∃ s,s = (rdALen true s29).2 := ⟨_,rfl⟩
          rw [← hs30] at hq59
          have hyr6 := rdALen_rng true s29
          generalize hy6 : (rdALen true s29).1 = y6 at *
          obtain ⟨N6,hN6⟩ : ∃ N,N = y6.toNat := ⟨_,rfl⟩
          have hlb6 : (rdMany (rd1 (rdP d ver true) fX0_8.of fX0_8.sub false true) N6 s30).2 = none → FB := fun h => hbe0e1_8 (by rw [rdL_st (by decide) hhe0e1_8];exact rdL_bad (rdF_listbad rfl (by rw [hy6,← hN6,← hs30];exact h)))
          repeat ((first | refine W.seqR rfl ?_ | refine W.seq ?_ | refine W.regR rfl ?_ | refine W.block ?_ | refine W.skip ?_ | refine W.ret ?_ | refine W.exit ?_);try simp (maxSteps:=1000000)(disch:=(first|omega|(simp only [qI,qJ,qK]<;>omega)|exact qL _)) only [go_sem,↓reduceIte,n0,reduceCtorEq,n1,n2,n3,n4,n5,i0,i1,i2,i3,i4,i5,i6,i7,hxb59,hrd5_2,hrd5_7,hrd5_8,hrd5_9,hrd5_10,hrd5_14,hrd5_13,hrd5_15,hrd5_17,hrd5_24,hrd5_23,hrd5_25,hrd5_27,hrd5_49,hrd5_48,exitRQ_ret,exitRQ_exit,Int.toNat_natCast,Nat.mul_one])
          refine (ROk_fn w59 hq59.1).mono ?_
          rintro _ wz ⟨rfl,hez⟩
          rw [hez]
          clear hez wz
          by_cases hsn6 : s30 = none
          · have hso : s30.isSome = false := by rw [hsn6];rfl
            repeat (first|simp (maxSteps:=1000000)(disch:=(first|omega|(simp only [qI,qJ,qK]<;>omega)|exact qL _)) only [go_sem,↓reduceIte,n0,reduceCtorEq,n1,n2,n3,n4,n5,i0,i1,i2,i3,i4,i5,i6,i7,hxb59,hrd5_2,hrd5_7,hrd5_8,hrd5_9,hrd5_10,hrd5_14,hrd5_13,hrd5_15,hrd5_17,hrd5_24,hrd5_23,hrd5_25,hrd5_27,hrd5_49,hrd5_48,exitRQ_ret,exitRQ_exit,Int.toNat_natCast,Nat.mul_one,hso]|refine qA rfl ?_|apply qB|refine qC rfl ?_|apply qD|apply qE|apply qF|apply qG|apply qH)
            refine (RComplete_fn w59 hq59.1 hG59.2).mono ?_
            rintro _ wz ⟨rfl,hez⟩
            rw [hez]
            repeat (first|simp (maxSteps:=1000000)(disch:=(first|omega|(simp only [qI,qJ,qK]<;>omega)|exact qL _)) only [go_sem,↓reduceIte,n0,reduceCtorEq,n1,n2,n3,n4,n5,i0,i1,i2,i3,i4,i5,i6,i7,hxb59,hrd5_2,hrd5_7,hrd5_8,hrd5_9,hrd5_10,hrd5_14,hrd5_13,hrd5_15,hrd5_17,hrd5_24,hrd5_23,hrd5_25,hrd5_27,hrd5_49,hrd5_48,exitRQ_ret,exitRQ_exit,Int.toNat_natCast,Nat.mul_one]|refine qA rfl ?_|apply qB|refine qC rfl ?_|apply qD|apply qE|apply qF|apply qG|apply qH)
            rw [errV_none hsn6]
            exact ReadQ.bad (Eq.mp hFB (hlb6 (by rw [hsn6];exact rdMany_none rd1P_none _))) (hbase.trans' hU59 fun i hi h => h.elim id fun h => by omega)
          have hso6 : s30.isSome = true := isSome_some hsn6
          try simp (maxSteps:=1000000)(disch:=(first|omega|(simp only [qI,qJ,qK]<;>omega)|exact qL _)) only [go_sem,↓reduceIte,n0,reduceCtorEq,n1,n2,n3,n4,n5,i0,i1,i2,i3,i4,i5,i6,i7,hxb59,hrd5_2,hrd5_7,hrd5_8,hrd5_9,hrd5_10,hrd5_14,hrd5_13,hrd5_15,hrd5_17,hrd5_24,hrd5_23,hrd5_25,hrd5_27,hrd5_49,hrd5_48,exitRQ_ret,exitRQ_exit,Int.toNat_natCast,Nat.mul_one,hso6]
          repeat ((first | refine W.seqR rfl ?_ | refine W.seq ?_ | refine W.regR rfl ?_ | refine W.block ?_ | refine W.skip ?_ | refine W.ret ?_ | refine W.exit ?_);try simp (maxSteps:=1000000)(disch:=(first|omega|(simp only [qI,qJ,qK]<;>omega)|exact qL _)) only [go_sem,↓reduceIte,n0,reduceCtorEq,n1,n2,n3,n4,n5,i0,i1,i2,i3,i4,i5,i6,i7,hxb59,hrd5_2,hrd5_7,hrd5_8,hrd5_9,hrd5_10,hrd5_14,hrd5_13,hrd5_15,hrd5_17,hrd5_24,hrd5_23,hrd5_25,hrd5_27,hrd5_49,hrd5_48,exitRQ_ret,exitRQ_exit,Int.toNat_natCast,Nat.mul_one,hso6])
          refine W.condK ?_
          try simp (maxSteps:=1000000)(disch:=(first|omega|(simp only [qI,qJ,qK]<;>omega)|exact qL _)) only [go_sem,↓reduceIte,n0,reduceCtorEq,n1,n2,n3,n4,n5,i0,i1,i2,i3,i4,i5,i6,i7,hxb59,hrd5_2,hrd5_7,hrd5_8,hrd5_9,hrd5_10,hrd5_14,hrd5_13,hrd5_15,hrd5_17,hrd5_24,hrd5_23,hrd5_25,hrd5_27,hrd5_49,hrd5_48,exitRQ_ret,exitRQ_exit,Int.toNat_natCast,Nat.mul_one,hso6]
          repeat ((first | refine W.seqR rfl ?_ | refine W.seq ?_ | refine W.regR rfl ?_ | refine W.block ?_ | refine W.skip ?_ | refine W.ret ?_ | refine W.exit ?_);try simp (maxSteps:=1000000)(disch:=(first|omega|(simp only [qI,qJ,qK]<;>omega)|exact qL _)) only [go_sem,↓reduceIte,n0,reduceCtorEq,n1,n2,n3,n4,n5,i0,i1,i2,i3,i4,i5,i6,i7,hxb59,hrd5_2,hrd5_7,hrd5_8,hrd5_9,hrd5_10,hrd5_14,hrd5_13,hrd5_15,hrd5_17,hrd5_24,hrd5_23,hrd5_25,hrd5_27,hrd5_49,hrd5_48,exitRQ_ret,exitRQ_exit,Int.toNat_natCast,Nat.mul_one,hso6,slBase_00])
          refine W.normJ (RowQ [(2,.bool false),(7,.pointer (some ⟨rb,0,none⟩)),(8,.int .i16 ver),(9,.bool true),(10,.pointer (some ⟨vb,0,none⟩)),(14,.int .i32 y0),(13,.slice (some ⟨R1,0,none⟩) N0 q1),(15,.int .i32 j1),(17,.pointer (some ⟨R1,j1 * 22,none⟩)),(24,.int .i32 y1),(23,.slice (some ⟨R2,0,none⟩) N1 q2),(25,.int .i32 j2),(27,.pointer (some ⟨R2,j2 * 10,none⟩)),(54,.int .i32 y6)] 53 (fun va w' => LstI RT (rd1 (rdP d ver true) fX0_8.of fX0_8.sub false true) (Rep1 (RepS true d) fX0_8.of fX0_8.sub) 1 21 [.int .i32 0] w59.heap.size N6 ok (fun b => (fun b => (ok b ∨ w1.heap.size ≤ b) ∧ ¬ ownB va0 b) b ∧ ¬ ownB va1 b) rb w59 s30 va 0 s30 [] [] w' ∧ (N6 = 0 → if nilS fX0_8 ver y6 = true then va = .slice none 0 0 else ∃ a,va = .slice (some a) 0 0))) ?_ ?_
          · by_cases hy0 : (0 : Int) < y6
            · have hyv : Value.int .i32 y6 = .int .i32 ((N6 : Nat) : Int) := by rw [show y6 = ((N6 : Nat) : Int) by omega]
              repeat ((first | refine qA rfl ?_|apply qB|refine qC rfl ?_|apply qD|apply qE|apply qF|apply qG|apply qH);try simp (maxSteps:=1000000)(disch:=(first|omega|(simp only [qI,qJ,qK]<;>omega)|exact qL _)) only [go_sem,↓reduceIte,n0,reduceCtorEq,n1,n2,n3,n4,n5,i0,i1,i2,i3,i4,i5,i6,i7,hxb59,hrd5_2,hrd5_7,hrd5_8,hrd5_9,hrd5_10,hrd5_14,hrd5_13,hrd5_15,hrd5_17,hrd5_24,hrd5_23,hrd5_25,hrd5_27,hrd5_49,hrd5_48,exitRQ_ret,exitRQ_exit,Int.toNat_natCast,Nat.mul_one])
              refine wp_appendZ (m := N6) utQ_86 utQ_21 inQ_21 (by decide) (by first | rfl | simp (maxSteps:=1000000)(disch:=(first|omega|(simp only [qI,qJ,qK]<;>omega)|exact qL _)) only [go_sem,↓reduceIte,n0,reduceCtorEq,n1,n2,n3,n4,n5,i0,i1,i2,i3,i4,i5,i6,i7,hrd5_2,hrd5_7,hrd5_8,hrd5_9,hrd5_10,hrd5_14,hrd5_13,hrd5_15,hrd5_17,hrd5_24,hrd5_23,hrd5_25,hrd5_27,hrd5_49,hrd5_48]) (by first | exact hyv | (simp (maxSteps:=1000000)(disch:=(first|omega|(simp only [qI,qJ,qK]<;>omega)|exact qL _)) only [go_sem,↓reduceIte,n0,reduceCtorEq,n1,n2,n3,n4,n5,i0,i1,i2,i3,i4,i5,i6,i7,hrd5_2,hrd5_7,hrd5_8,hrd5_9,hrd5_10,hrd5_14,hrd5_13,hrd5_15,hrd5_17,hrd5_24,hrd5_23,hrd5_25,hrd5_27,hrd5_49,hrd5_48];exact hyv)) (by omega) (by omega) (by decide) ?_
              intro q rest hq1
              have hEw : Ext w59 (w59.drew.alloc (.cells (zs [.int .i32 0] N6 ++ rest).toArray 21)) := (Upd.refl _ _).drew.alloc _
              repeat (first|simp (maxSteps:=1000000)(disch:=(first|omega|(simp only [qI,qJ,qK]<;>omega)|exact qL _)) only [go_sem,↓reduceIte,n0,reduceCtorEq,n1,n2,n3,n4,n5,i0,i1,i2,i3,i4,i5,i6,i7,hxb59,hrd5_2,hrd5_7,hrd5_8,hrd5_9,hrd5_10,hrd5_14,hrd5_13,hrd5_15,hrd5_17,hrd5_24,hrd5_23,hrd5_25,hrd5_27,hrd5_49,hrd5_48,exitRQ_ret,exitRQ_exit,Int.toNat_natCast,Nat.mul_one]|refine qA rfl ?_|apply qB|refine qC rfl ?_|apply qD|apply qE|apply qF|apply qG|apply qH)
              exact ⟨(by simp (maxSteps:=1000000)(disch:=(first|omega|(simp only [qI,qJ,qK]<;>omega)|exact qL _)) only [go_sem,↓reduceIte,n0,reduceCtorEq,n1,n2,n3,n4,n5,i0,i1,i2,i3,i4,i5,i6,i7,Holds_nil,Holds_cons,hrd5_2,hrd5_7,hrd5_8,hrd5_9,hrd5_10,hrd5_14,hrd5_13,hrd5_15,hrd5_17,hrd5_24,hrd5_23,hrd5_25,hrd5_27,hrd5_49,hrd5_48]),.slice (some ⟨w59.heap.size,0,none⟩) N6 q,(by simp (maxSteps:=1000000)(disch:=(first|omega|(simp only [qI,qJ,qK]<;>omega)|exact qL _)) only [go_sem,↓reduceIte,n0,reduceCtorEq,n1,n2,n3,n4,n5,i0,i1,i2,i3,i4,i5,i6,i7,hrd5_2,hrd5_7,hrd5_8,hrd5_9,hrd5_10,hrd5_14,hrd5_13,hrd5_15,hrd5_17,hrd5_24,hrd5_23,hrd5_25,hrd5_27,hrd5_49,hrd5_48]),LstI.start (RowJ.start (by omega) hq1 (by show w59.heap.size ≤ w59.drew.heap.size;rw [size_drew];omega) (blk_alloc_new rfl)) ⟨hq59.1.upd hEw (fun h => h) (fun _ _ _ h => h),hq59.2.upd hEw fun h => h⟩ (hEw.mono fun _ h => h.elim),fun h0 => by omega⟩
            · repeat ((first | refine qA rfl ?_|apply qB|refine qC rfl ?_|apply qD|apply qE|apply qF|apply qG|apply qH);try simp (maxSteps:=1000000)(disch:=(first|omega|(simp only [qI,qJ,qK]<;>omega)|exact qL _)) only [go_sem,↓reduceIte,n0,reduceCtorEq,n1,n2,n3,n4,n5,i0,i1,i2,i3,i4,i5,i6,i7,hxb59,hrd5_2,hrd5_7,hrd5_8,hrd5_9,hrd5_10,hrd5_14,hrd5_13,hrd5_15,hrd5_17,hrd5_24,hrd5_23,hrd5_25,hrd5_27,hrd5_49,hrd5_48,exitRQ_ret,exitRQ_exit,Int.toNat_natCast,Nat.mul_one])
              exact ⟨(by simp (maxSteps:=1000000)(disch:=(first|omega|(simp only [qI,qJ,qK]<;>omega)|exact qL _)) only [go_sem,↓reduceIte,n0,reduceCtorEq,n1,n2,n3,n4,n5,i0,i1,i2,i3,i4,i5,i6,i7,Holds_nil,Holds_cons,hrd5_2,hrd5_7,hrd5_8,hrd5_9,hrd5_10,hrd5_14,hrd5_13,hrd5_15,hrd5_17,hrd5_24,hrd5_23,hrd5_25,hrd5_27,hrd5_49,hrd5_48]),.slice none 0 0,(by simp (maxSteps:=1000000)(disch:=(first|omega|(simp only [qI,qJ,qK]<;>omega)|exact qL _)) only [go_sem,↓reduceIte,n0,reduceCtorEq,n1,n2,n3,n4,n5,i0,i1,i2,i3,i4,i5,i6,i7,hrd5_2,hrd5_7,hrd5_8,hrd5_9,hrd5_10,hrd5_14,hrd5_13,hrd5_15,hrd5_17,hrd5_24,hrd5_23,hrd5_25,hrd5_27,hrd5_49,hrd5_48,slBase_00]),LstI.start (RowJ.zero (by omega) (fun _ h => by cases h)) hq59 (Upd.refl _ _),fun _ => by rw [nilS_plain (by decide) (by omega)];exact rfl⟩
          rintro ρ w60 ⟨⟨hrb6_2,hrb6_7,hrb6_8,hrb6_9,hrb6_10,hrb6_14,hrb6_13,hrb6_15,hrb6_17,hrb6_24,hrb6_23,hrb6_25,hrb6_27,hrb6_54,-⟩,va6,hra6,hL6,hnc6⟩
          repeat ((first | refine qA rfl ?_|apply qB|refine qC rfl ?_|apply qD|apply qE|apply qF|apply qG|apply qH);try simp (maxSteps:=1000000)(disch:=(first|omega|(simp only [qI,qJ,qK]<;>omega)|exact qL _)) only [go_sem,↓reduceIte,n0,reduceCtorEq,n1,n2,n3,n4,n5,i0,i1,i2,i3,i4,i5,i6,i7,hxb59,hrb6_2,hrb6_7,hrb6_8,hrb6_9,hrb6_10,hrb6_14,hrb6_13,hrb6_15,hrb6_17,hrb6_24,hrb6_23,hrb6_25,hrb6_27,hrb6_54,hra6,exitRQ_ret,exitRQ_exit,Int.toNat_natCast,Nat.mul_one])
          refine W.exitRJ 12 (EndQ [(2,.bool false),(7,.pointer (some ⟨rb,0,none⟩)),(8,.int .i16 ver),(9,.bool true),(10,.pointer (some ⟨vb,0,none⟩)),(14,.int .i32 y0),(13,.slice (some ⟨R1,0,none⟩) N0 q1),(15,.int .i32 j1),(17,.pointer (some ⟨R1,j1 * 22,none⟩)),(24,.int .i32 y1),(23,.slice (some ⟨R2,0,none⟩) N1 q2),(25,.int .i32 j2),(27,.pointer (some ⟨R2,j2 * 10,none⟩)),(54,.int .i32 y6),(53,va6)] (fun w' => ∃ s xs css,LstI RT (rd1 (rdP d ver true) fX0_8.of fX0_8.sub false true) (Rep1 (RepS true d) fX0_8.of fX0_8.sub) 1 21 [.int .i32 0] w59.heap.size N6 ok (fun b => (fun b => (ok b ∨ w1.heap.size ≤ b) ∧ ¬ ownB va0 b) b ∧ ¬ ownB va1 b) rb w59 s30 va6 N6 s xs css w')) (W.loop (LoopQ [(2,.bool false),(7,.pointer (some ⟨rb,0,none⟩)),(8,.int .i16 ver),(9,.bool true),(10,.pointer (some ⟨vb,0,none⟩)),(14,.int .i32 y0),(13,.slice (some ⟨R1,0,none⟩) N0 q1),(15,.int .i32 j1),(17,.pointer (some ⟨R1,j1 * 22,none⟩)),(24,.int .i32 y1),(23,.slice (some ⟨R2,0,none⟩) N1 q2),(25,.int .i32 j2),(27,.pointer (some ⟨R2,j2 * 10,none⟩)),(54,.int .i32 y6),(53,va6)] 55 (fun j w' => ∃ s xs css,LstI RT (rd1 (rdP d ver true) fX0_8.of fX0_8.sub false true) (Rep1 (RepS true d) fX0_8.of fX0_8.sub) 1 21 [.int .i32 0] w59.heap.size N6 ok (fun b => (fun b => (ok b ∨ w1.heap.size ≤ b) ∧ ¬ ownB va0 b) b ∧ ¬ ownB va1 b) rb w59 s30 va6 j s xs css w')) (fun ρ _ => N6 - (RowKit.intOf (ρ 55)).toNat) ?_ ?_) ?_
          · exact ⟨(by simp (maxSteps:=1000000)(disch:=(first|omega|(simp only [qI,qJ,qK]<;>omega)|exact qL _)) only [go_sem,↓reduceIte,n0,reduceCtorEq,n1,n2,n3,n4,n5,i0,i1,i2,i3,i4,i5,i6,i7,Holds_nil,Holds_cons,hrb6_2,hrb6_7,hrb6_8,hrb6_9,hrb6_10,hrb6_14,hrb6_13,hrb6_15,hrb6_17,hrb6_24,hrb6_23,hrb6_25,hrb6_27,hrb6_54,hra6]),0,(by simp (maxSteps:=1000000)(disch:=(first|omega|(simp only [qI,qJ,qK]<;>omega)|exact qL _)) only [go_sem,↓reduceIte,n0,reduceCtorEq,n1,n2,n3,n4,n5,i0,i1,i2,i3,i4,i5,i6,i7,hrb6_2,hrb6_7,hrb6_8,hrb6_9,hrb6_10,hrb6_14,hrb6_13,hrb6_15,hrb6_17,hrb6_24,hrb6_23,hrb6_25,hrb6_27,hrb6_54,hra6];all_goals rfl),s30,[],[],hL6⟩
          · rintro ρ w61 ⟨⟨hrc6_2,hrc6_7,hrc6_8,hrc6_9,hrc6_10,hrc6_14,hrc6_13,hrc6_15,hrc6_17,hrc6_24,hrc6_23,hrc6_25,hrc6_27,hrc6_54,hrc6_53,-⟩,j3,hri6,s31,xs6,css6,hL6⟩
            have hj6 := hL6.le
            have hq61 := hL6.rd
            have hU61 : Upd (fun b => b = vb ∨ b = rb) w1 w61 := hU59.trans' hL6.upd fun i _ h => .inr h
            have hz61 := hL6.upd.size
            have hG61 : Glo ev w61 := hG1.updS hU61 hgM1 hgM2
            by_cases hlt6 : j3 < N6
            · obtain ⟨R3,q3,B3,hva3,hNq3,hLR3,hA3,hx3_61,hnext3⟩ := hL6.row.next hlt6
              have hRl3 := blk_lt hx3_61
              generalize css6.flatten = A3 at hA3 hx3_61 hnext3
              rw [Nat.mul_one] at hA3
              replace hra6 : ρ 53 = .slice (some ⟨R3,0,none⟩) N6 q3 := hrc6_53.trans hva3
              have hown3 : ∀ b,ownB va6 b → w59.heap.size ≤ b ∧ b < w61.heap.size := fun b h => hL6.row.own h
              have hoM3 : ∀ b,(fun b => (fun b => (fun b => (ok b ∨ w1.heap.size ≤ b) ∧ ¬ ownB va0 b) b ∧ ¬ ownB va1 b) b ∧ ¬ ownB va6 b) b → ¬ (b = R3 ∨ b = rb) := fun b hk h => h.elim (fun e => hk.2 ⟨_,_,_,hva3,e⟩) (fun e => hoM2 b hk.1 (.inr e))
              obtain ⟨X61,hX61,hxb61,hXs61⟩ := el_open (n := 1) hx3_61 hA3 rfl
              repeat ((first | refine qA rfl ?_|apply qB|refine qC rfl ?_|apply qD|apply qE|apply qF|apply qG|apply qH);try simp (maxSteps:=1000000)(disch:=(first|omega|(simp only [qI,qJ,qK]<;>omega)|exact qL _)) only [go_sem,↓reduceIte,n0,reduceCtorEq,n1,n2,n3,n4,n5,i0,i1,i2,i3,i4,i5,i6,i7,hxb61,hrc6_2,hrc6_7,hrc6_8,hrc6_9,hrc6_10,hrc6_14,hrc6_13,hrc6_15,hrc6_17,hrc6_24,hrc6_23,hrc6_25,hrc6_27,hrc6_54,hra6,hri6,exitRQ_ret,exitRQ_exit,Int.toNat_natCast,Nat.mul_one])
              refine (Int32_fn w61 hq61.1 hrok hG61.1 hgrb).mono ?_
              rintro _ w62 ⟨rfl,hq62,hu62⟩
              have hx3_62 := hu62.blk_some hx3_61 (by omega)
              have hV62 : Upd (fun b => b = R3 ∨ b = rb) w61 w62 := hu62.mono (fun _ h => .inr h)
              have hU62 : Upd (fun b => b = vb ∨ b = rb) w1 w62 := hU61.trans' hV62 fun i hi h => h.elim (fun h => by omega) .inr
              have hz62 := hV62.size
              have hG62 : Glo ev w62 := hG1.updS hU62 hgM1 hgM2
              obtain ⟨X62,hX62,hxb62,hXs62⟩ := el_open (n := 1) hx3_62 hA3 rfl
              obtain ⟨s32,hs32⟩ : ∃ s,s = (rdInt .i32 4 s31).2 := ⟨_,rfl⟩
              rw [← hs32] at hq62
              have hrE : (rd1 (rdP d ver true) fX0_8.of fX0_8.sub false true) s31 = ((.num (rdInt .i32 4 s31).1),s32) := by rw [hs32];exact rd1_num 3 (by decide)
              have hst62_0 : j3 + 1 ≤ X62.size := by omega
              repeat ((first | refine qA rfl ?_|apply qB|refine qC rfl ?_|apply qD|apply qE|apply qF|apply qG|apply qH);try simp (maxSteps:=1000000)(disch:=(first|omega|(simp only [qI,qJ,qK]<;>omega)|exact qL _)) only [go_sem,↓reduceIte,n0,reduceCtorEq,n1,n2,n3,n4,n5,i0,i1,i2,i3,i4,i5,i6,i7,hxb62,hrc6_2,hrc6_7,hrc6_8,hrc6_9,hrc6_10,hrc6_14,hrc6_13,hrc6_15,hrc6_17,hrc6_24,hrc6_23,hrc6_25,hrc6_27,hrc6_54,hra6,hri6,exitRQ_ret,exitRQ_exit,Int.toNat_natCast,Nat.mul_one,hst62_0])
              generalize hw63 : wr w62 R3 (j3) [.int .i32 (rdInt .i32 4 s31).1] = w63
              have hS63 : Upd (fun b => b = R3 ∨ b = rb) w62 w63 := by rw [← hw63];exact (Upd.refl _ _).wr _ _ (.inr (.inl rfl))
              have hx3_63 : blk w63 R3 = some ((A3 ++ (([.int .i32 (rdInt .i32 4 s31).1] : List Value) ++ B3)).toArray,21,(0,0)) := by rw [← hw63];exact el_blk0 hx3_62 hA3 (Nat.le_of_ble_eq_true rfl)
              have hV63 := hS63
              have hU63 : Upd (fun b => b = vb ∨ b = rb) w1 w63 := hU62.trans' hV63 fun i hi h => h.elim (fun h => by omega) .inr
              have hz63 := hV63.size
              have hG63 : Glo ev w63 := hG1.updS hU63 hgM1 hgM2
              have hq63 := Rdr.stored hw63 hq62 (by omega) fun h => by have := (hok _ h).1;first | omega | exact (hok _ h).2 rfl
              obtain ⟨X63,hX63,hxb63,hXs63⟩ := el_open (n := 1) hx3_63 hA3 rfl
              clear hw63
              have hxE : (Rep1 (RepS true d) fX0_8.of fX0_8.sub) (fun b => (fun b => (fun b => (ok b ∨ w1.heap.size ≤ b) ∧ ¬ ownB va0 b) b ∧ ¬ ownB va1 b) b ∧ ¬ ownB va6 b) w63 (.num (rdInt .i32 4 s31).1) [.int .i32 (rdInt .i32 4 s31).1] := (Rep1_num (by decide)).2 (congrArg (fun x => [x]) (numC_rd 3 (by decide) 4 s31).symm)
              repeat ((first | refine qA rfl ?_|apply qB|refine qC rfl ?_|apply qD|apply qE|apply qF|apply qG|apply qH);try simp (maxSteps:=1000000)(disch:=(first|omega|(simp only [qI,qJ,qK]<;>omega)|exact qL _)) only [go_sem,↓reduceIte,n0,reduceCtorEq,n1,n2,n3,n4,n5,i0,i1,i2,i3,i4,i5,i6,i7,hxb63,hrc6_2,hrc6_7,hrc6_8,hrc6_9,hrc6_10,hrc6_14,hrc6_13,hrc6_15,hrc6_17,hrc6_24,hrc6_23,hrc6_25,hrc6_27,hrc6_54,hra6,hri6,exitRQ_ret,exitRQ_exit,Int.toNat_natCast,Nat.mul_one])
              have hTk : Upd (fun b => b = R3 ∨ b = rb) w61 w63 := (hV62.trans hV63)
              have hL' := hL6.step (Rep1_lay _ _ fun _ => RepS_lay true _ _) hlt6 (hnext3 w63 [.int .i32 (rdInt .i32 4 s31).1] rfl hx3_63) (by rw [hrE];exact hxE) (hTk.mono fun b h => h.imp (fun e => ⟨_,_,_,hva3,e⟩) id) (by rw [hrE];exact hq63) (fun h => hoM2 rb h (.inr rfl)) (Nat.le_refl _)
              have hij : IntKind.i32.wrap ((j3 : Int) + 1) = ((j3 + 1 : Nat) : Int) := by rw [i32_wrap (by omega)];omega
              repeat ((first | refine qA rfl ?_|apply qB|refine qC rfl ?_|apply qD|apply qE|apply qF|apply qG|apply qH);try simp (maxSteps:=1000000)(disch:=(first|omega|(simp only [qI,qJ,qK]<;>omega)|exact qL _)) only [go_sem,↓reduceIte,n0,reduceCtorEq,n1,n2,n3,n4,n5,i0,i1,i2,i3,i4,i5,i6,i7,hxb63,hrc6_2,hrc6_7,hrc6_8,hrc6_9,hrc6_10,hrc6_14,hrc6_13,hrc6_15,hrc6_17,hrc6_24,hrc6_23,hrc6_25,hrc6_27,hrc6_54,hra6,hri6,exitRQ_ret,exitRQ_exit,Int.toNat_natCast,Nat.mul_one,hij])
              refine ⟨⟨(by simp (maxSteps:=1000000)(disch:=(first|omega|(simp only [qI,qJ,qK]<;>omega)|exact qL _)) only [go_sem,↓reduceIte,n0,reduceCtorEq,n1,n2,n3,n4,n5,i0,i1,i2,i3,i4,i5,i6,i7,Holds_nil,Holds_cons,hrc6_2,hrc6_7,hrc6_8,hrc6_9,hrc6_10,hrc6_14,hrc6_13,hrc6_15,hrc6_17,hrc6_24,hrc6_23,hrc6_25,hrc6_27,hrc6_54,hra6,hri6];exact hva3.symm),j3 + 1,(by simp (maxSteps:=1000000)(disch:=(first|omega|(simp only [qI,qJ,qK]<;>omega)|exact qL _)) only [go_sem,↓reduceIte,n0,reduceCtorEq,n1,n2,n3,n4,n5,i0,i1,i2,i3,i4,i5,i6,i7,hrc6_2,hrc6_7,hrc6_8,hrc6_9,hrc6_10,hrc6_14,hrc6_13,hrc6_15,hrc6_17,hrc6_24,hrc6_23,hrc6_25,hrc6_27,hrc6_54,hra6,hri6,hij];all_goals rfl),_,_,_,hL'⟩,?_⟩
              try simp (maxSteps:=1000000)(disch:=(first|omega|(simp only [qI,qJ,qK]<;>omega)|exact qL _)) only [go_sem,↓reduceIte,n0,reduceCtorEq,n1,n2,n3,n4,n5,i0,i1,i2,i3,i4,i5,i6,i7,hrc6_2,hrc6_7,hrc6_8,hrc6_9,hrc6_10,hrc6_14,hrc6_13,hrc6_15,hrc6_17,hrc6_24,hrc6_23,hrc6_25,hrc6_27,hrc6_54,hra6,hri6]
              simp only [RowKit.intOf]
              omega
            · have hjN : j3 = N6 := by omega
              rw [hjN] at hL6
              repeat ((first | refine qA rfl ?_|apply qB|refine qC rfl ?_|apply qD|apply qE|apply qF|apply qG|apply qH);try simp (maxSteps:=1000000)(disch:=(first|omega|(simp only [qI,qJ,qK]<;>omega)|exact qL _)) only [go_sem,↓reduceIte,n0,reduceCtorEq,n1,n2,n3,n4,n5,i0,i1,i2,i3,i4,i5,i6,i7,hrc6_2,hrc6_7,hrc6_8,hrc6_9,hrc6_10,hrc6_14,hrc6_13,hrc6_15,hrc6_17,hrc6_24,hrc6_23,hrc6_25,hrc6_27,hrc6_54,hrc6_53,hri6,exitRQ_ret,exitRQ_exit])
              exact ⟨(by simp (maxSteps:=1000000)(disch:=(first|omega|(simp only [qI,qJ,qK]<;>omega)|exact qL _)) only [go_sem,↓reduceIte,n0,reduceCtorEq,n1,n2,n3,n4,n5,i0,i1,i2,i3,i4,i5,i6,i7,Holds_nil,Holds_cons,hrc6_2,hrc6_7,hrc6_8,hrc6_9,hrc6_10,hrc6_14,hrc6_13,hrc6_15,hrc6_17,hrc6_24,hrc6_23,hrc6_25,hrc6_27,hrc6_54,hrc6_53,hri6]),s31,xs6,css6,hL6⟩
          rintro ρ w64 ⟨⟨hrd6_2,hrd6_7,hrd6_8,hrd6_9,hrd6_10,hrd6_14,hrd6_13,hrd6_15,hrd6_17,hrd6_24,hrd6_23,hrd6_25,hrd6_27,hrd6_54,hrd6_53,-⟩,s33,xs6,css6,hL6⟩
          have hq64 := hL6.rd
          have hu64 := hL6.upd
          have hx2_64 := hu64.blk_some hx2_59 (by omega)
          have hV64 : Upd (fun b => b = R2 ∨ b = rb) w59 w64 := hu64.mono (fun _ h => .inr h)
          have hU64 : Upd (fun b => b = vb ∨ b = rb) w1 w64 := hU59.trans' hV64 fun i hi h => h.elim (fun h => by omega) .inr
          have hz64 := hV64.size
          have hG64 : Glo ev w64 := hG1.updS hU64 hgM1 hgM2
          obtain ⟨X64,hX64,hxb64,hXs64⟩ := el_open (n := 10) hx2_64 hA2 rfl
          have hrd6 : rdF (rdP d ver true) ver true fX0_8 s29 = (.mk 0 [] (nilS fX0_8 ver y6) xs6 [],s33) := by
            have h := rdF_listE (pt := (rdP d ver true)) (v := ver) (flex := true) (f := fX0_8) (s := s29) (xs := xs6) (e := s33) rfl (by rw [hy6,← hN6,← hs30];exact hL6.done)
            rw [hy6] at h;exact h
          have hs33 : s33 = (rdF (rdP d ver true) ver true fX0_8 s29).2 := by rw [hrd6]
          obtain ⟨aa6,qq6,hvs6⟩ := hL6.row.shape
          subst hvs6
          have hst64_8 : j2 * 10 + 9 ≤ X64.size := by omega
          repeat ((first | refine qA rfl ?_|apply qB|refine qC rfl ?_|apply qD|apply qE|apply qF|apply qG|apply qH);try simp (maxSteps:=1000000)(disch:=(first|omega|(simp only [qI,qJ,qK]<;>omega)|exact qL _)) only [go_sem,↓reduceIte,n0,reduceCtorEq,n1,n2,n3,n4,n5,i0,i1,i2,i3,i4,i5,i6,i7,hxb64,hrd6_2,hrd6_7,hrd6_8,hrd6_9,hrd6_10,hrd6_14,hrd6_13,hrd6_15,hrd6_17,hrd6_24,hrd6_23,hrd6_25,hrd6_27,hrd6_54,hrd6_53,exitRQ_ret,exitRQ_exit,Int.toNat_natCast,Nat.mul_one,hst64_8])
          generalize hw65 : wr w64 R2 (j2 * 10 + 8) [.slice aa6 N6 qq6] = w65
          have hS65 : Upd (fun b => b = R2 ∨ b = rb) w64 w65 := by rw [← hw65];exact (Upd.refl _ _).wr _ _ (.inr (.inl rfl))
          have hx2_65 : blk w65 R2 = some ((A2 ++ (([.int .i16 (rdInt .i16 2 s9).1,.int .i32 (rdInt .i32 4 s10).1,.int .i32 (rdInt .i32 4 s11).1,.int .i32 (rdInt .i32 4 s12).1,.slice aa2 N2 qq2,.slice aa3 N3 qq3,.slice aa4 N4 qq4,.slice aa5 N5 qq5,.slice aa6 N6 qq6,.map none] : List Value) ++ B2)).toArray,88,(0,0)) := by rw [← hw65];exact el_blk (o := 8) hx2_64 hA2 (Nat.le_of_ble_eq_true rfl)
          have hV65 := hS65
          have hU65 : Upd (fun b => b = vb ∨ b = rb) w1 w65 := hU64.trans' hV65 fun i hi h => h.elim (fun h => by omega) .inr
          have hz65 := hV65.size
          have hG65 : Glo ev w65 := hG1.updS hU65 hgM1 hgM2
          have hq65 := Rdr.stored hw65 hq64 (by omega) fun h => by have := (hok _ h).1;first | omega | exact (hok _ h).2 rfl
          obtain ⟨X65,hX65,hxb65,hXs65⟩ := el_open (n := 10) hx2_65 hA2 rfl
          clear hw65
          have hfe0e1_8 : RepF (RepS true d) (szS true d) fX0_8 (fun b => (fun b => (ok b ∨ w1.heap.size ≤ b) ∧ ¬ ownB va0 b) b ∧ ¬ ownB va1 b) w65 (xe0e1_8) [.slice aa6 N6 qq6] := by rw [hxe0e1_8,hrd6];exact RepF.keepS (RepF_row rfl hnc6 hN6 rfl hL6.row hL6.all (fun b hb => ⟨⟨.inr (by omega),fun ho => by have := (hown1 _ ho).2;omega⟩,fun ho => by have := (hown2 _ ho).2;omega⟩)) (hV65.keeps fun b _ hk e => hoM2 b hk e)
          clear hL6 hnc6
          have hle0e1_9 : rdL (rdP d ver true) (dfP d) ver true [] s33 = ([],s33) := rfl
          have hle0e1_8 : rdL (rdP d ver true) (dfP d) ver true [fX0_8] s29 = ([xe0e1_8],s33) := by rw [rdL_st (by decide) hhe0e1_8,← hxe0e1_8,← hs33,hle0e1_9]
          have hle0e1_7 : rdL (rdP d ver true) (dfP d) ver true [frX0_7,fX0_8] s25 = ([xe0e1_7,xe0e1_8],s33) := by rw [rdL_st (by decide) hhe0e1_7,← hxe0e1_7,← hs29,hle0e1_8]
          have hle0e1_6 : rdL (rdP d ver true) (dfP d) ver true [frX0_6,frX0_7,fX0_8] s21 = ([xe0e1_6,xe0e1_7,xe0e1_8],s33) := by rw [rdL_st (by decide) hhe0e1_6,← hxe0e1_6,← hs25,hle0e1_7]
          have hle0e1_5 : rdL (rdP d ver true) (dfP d) ver true [fX0_5,frX0_6,frX0_7,fX0_8] s17 = ([xe0e1_5,xe0e1_6,xe0e1_7,xe0e1_8],s33) := by rw [rdL_st (by decide) hhe0e1_5,← hxe0e1_5,← hs21,hle0e1_6]
          have hle0e1_4 : rdL (rdP d ver true) (dfP d) ver true [fX0_4,fX0_5,frX0_6,frX0_7,fX0_8] s13 = ([xe0e1_4,xe0e1_5,xe0e1_6,xe0e1_7,xe0e1_8],s33) := by rw [rdL_st (by decide) hhe0e1_4,← hxe0e1_4,← hs17,hle0e1_5]
          have hle0e1_3 : rdL (rdP d ver true) (dfP d) ver true [fX0_3,fX0_4,fX0_5,frX0_6,frX0_7,fX0_8] s12 = ([xe0e1_3,xe0e1_4,xe0e1_5,xe0e1_6,xe0e1_7,xe0e1_8],s33) := by rw [rdL_st (by decide) hhe0e1_3,← hxe0e1_3,← hs13,hle0e1_4]
          have hle0e1_2 : rdL (rdP d ver true) (dfP d) ver true [fX0_2,fX0_3,fX0_4,fX0_5,frX0_6,frX0_7,fX0_8] s11 = ([xe0e1_2,xe0e1_3,xe0e1_4,xe0e1_5,xe0e1_6,xe0e1_7,xe0e1_8],s33) := by rw [rdL_st (by decide) hhe0e1_2,← hxe0e1_2,← hs12,hle0e1_3]
          have hle0e1_1 : rdL (rdP d ver true) (dfP d) ver true [fX0_1,fX0_2,fX0_3,fX0_4,fX0_5,frX0_6,frX0_7,fX0_8] s10 = ([xe0e1_1,xe0e1_2,xe0e1_3,xe0e1_4,xe0e1_5,xe0e1_6,xe0e1_7,xe0e1_8],s33) := by rw [rdL_st (by decide) hhe0e1_1,← hxe0e1_1,← hs11,hle0e1_2]
          have hle0e1_0 : rdL (rdP d ver true) (dfP d) ver true [fX0_0,fX0_1,fX0_2,fX0_3,fX0_4,fX0_5,frX0_6,frX0_7,fX0_8] s9 = ([xe0e1_0,xe0e1_1,xe0e1_2,xe0e1_3,xe0e1_4,xe0e1_5,xe0e1_6,xe0e1_7,xe0e1_8],s33) := by rw [rdL_st (by decide) hhe0e1_0,← hxe0e1_0,← hs10,hle0e1_1]
          have hfine0e1 : rdP (d + 1) ver true fsr_X0 s9 = (.mk 0 [] false [xe0e1_0,xe0e1_1,xe0e1_2,xe0e1_3,xe0e1_4,xe0e1_5,xe0e1_6,xe0e1_7,xe0e1_8] (rdTags s33).1,(rdTags s33).2) := rdP_t hle0e1_0
          repeat ((first | refine qA rfl ?_|apply qB|refine qC rfl ?_|apply qD|apply qE|apply qF|apply qG|apply qH);try simp (maxSteps:=1000000)(disch:=(first|omega|(simp only [qI,qJ,qK]<;>omega)|exact qL _)) only [go_sem,↓reduceIte,n0,reduceCtorEq,n1,n2,n3,n4,n5,i0,i1,i2,i3,i4,i5,i6,i7,hxb65,hrd6_2,hrd6_7,hrd6_8,hrd6_9,hrd6_10,hrd6_14,hrd6_13,hrd6_15,hrd6_17,hrd6_24,hrd6_23,hrd6_25,hrd6_27,hrd6_54,hrd6_53,exitRQ_ret,exitRQ_exit,Int.toNat_natCast,Nat.mul_one])
          refine (ReadTags_fn w65 hq65.1 hrok).mono ?_
          rintro _ w66 ⟨qme0e1,rfl,hT66,hTn,hq66,hu66⟩
          have hx2_66 := hu66.blk_some hx2_65 (by omega)
          have hV66 : Upd (fun b => b = R2 ∨ b = rb) w65 w66 := hu66.mono (fun _ h => .inr h)
          have hU66 : Upd (fun b => b = vb ∨ b = rb) w1 w66 := hU65.trans' hV66 fun i hi h => h.elim (fun h => by omega) .inr
          have hz66 := hV66.size
          have hG66 : Glo ev w66 := hG1.updS hU66 hgM1 hgM2
          obtain ⟨X66,hX66,hxb66,hXs66⟩ := el_open (n := 10) hx2_66 hA2 rfl
          obtain ⟨s34,hs34⟩ : ∃ s,s = (rdTags s33).2 := ⟨_,rfl⟩
          rw [← hs34] at hq66 hfine0e1
          have hst66_9 : j2 * 10 + 10 ≤ X66.size := by omega
          repeat (first|simp (maxSteps:=1000000)(disch:=(first|omega|(simp only [qI,qJ,qK]<;>omega)|exact qL _)) only [go_sem,↓reduceIte,n0,reduceCtorEq,n1,n2,n3,n4,n5,i0,i1,i2,i3,i4,i5,i6,i7,hxb66,hrd6_2,hrd6_7,hrd6_8,hrd6_9,hrd6_10,hrd6_14,hrd6_13,hrd6_15,hrd6_17,hrd6_24,hrd6_23,hrd6_25,hrd6_27,hrd6_54,hrd6_53,exitRQ_ret,exitRQ_exit,Int.toNat_natCast,Nat.mul_one,hst66_9]|refine qA rfl ?_|apply qB|refine qC rfl ?_|apply qD|apply qE|apply qF|apply qG|apply qH)
          generalize hw67 : wr w66 R2 (j2 * 10 + 9) [.map qme0e1] = w67
          have hS67 : Upd (fun b => b = R2 ∨ b = rb) w66 w67 := by rw [← hw67];exact (Upd.refl _ _).wr _ _ (.inr (.inl rfl))
          have hx2_67 : blk w67 R2 = some ((A2 ++ (([.int .i16 (rdInt .i16 2 s9).1,.int .i32 (rdInt .i32 4 s10).1,.int .i32 (rdInt .i32 4 s11).1,.int .i32 (rdInt .i32 4 s12).1,.slice aa2 N2 qq2,.slice aa3 N3 qq3,.slice aa4 N4 qq4,.slice aa5 N5 qq5,.slice aa6 N6 qq6,.map qme0e1] : List Value) ++ B2)).toArray,88,(0,0)) := by rw [← hw67];exact el_blk (o := 9) hx2_66 hA2 (Nat.le_of_ble_eq_true rfl)
          have hV67 := hS67
          have hU67 : Upd (fun b => b = vb ∨ b = rb) w1 w67 := hU66.trans' hV67 fun i hi h => h.elim (fun h => by omega) .inr
          have hz67 := hV67.size
          have hG67 : Glo ev w67 := hG1.updS hU67 hgM1 hgM2
          have hq67 := Rdr.stored hw67 hq66 (by omega) fun h => by have := (hok _ h).1;first | omega | exact (hok _ h).2 rfl
          obtain ⟨X67,hX67,hxb67,hXs67⟩ := el_open (n := 10) hx2_67 hA2 rfl
          clear hw67
          have hTge0e1 : TagsM (fun b => (fun b => (ok b ∨ w1.heap.size ≤ b) ∧ ¬ ownB va0 b) b ∧ ¬ ownB va1 b) w67 (.map qme0e1) (rdTags s33).1 := (hT66.weaken fun b _ hk => hk.elim (fun hk => ⟨⟨.inl hk,fun ho => by have := (hown1 b ho).1;have := (hok b hk).1;omega⟩,fun ho => by have := (hown2 b ho).1;have := (hok b hk).1;omega⟩) (fun h => by have h' : w65.heap.size ≤ b := h;exact ⟨⟨.inr (by omega),fun ho => by have := (hown1 _ ho).2;omega⟩,fun ho => by have := (hown2 _ ho).2;omega⟩)).keep (hV67.keeps fun b _ hk e => hoM2 b hk e)
          have hCe0e1_67 : Upd (fun b => b = R2 ∨ b = rb) w67 w67 := Upd.refl _ _
          have hCe0e1_66 : Upd (fun b => b = R2 ∨ b = rb) w66 w67 := hV67.trans hCe0e1_67
          have hCe0e1_65 : Upd (fun b => b = R2 ∨ b = rb) w65 w67 := hV66.trans hCe0e1_66
          have hCe0e1_64 : Upd (fun b => b = R2 ∨ b = rb) w64 w67 := hV65.trans hCe0e1_65
          have hCe0e1_59 : Upd (fun b => b = R2 ∨ b = rb) w59 w67 := hV64.trans hCe0e1_64
          have hCe0e1_58 : Upd (fun b => b = R2 ∨ b = rb) w58 w67 := hV59.trans hCe0e1_59
          have hCe0e1_57 : Upd (fun b => b = R2 ∨ b = rb) w57 w67 := hV58.trans hCe0e1_58
          have hCe0e1_51 : Upd (fun b => b = R2 ∨ b = rb) w51 w67 := hV57.trans hCe0e1_57
          have hCe0e1_50 : Upd (fun b => b = R2 ∨ b = rb) w50 w67 := hV51.trans hCe0e1_51
          have hCe0e1_49 : Upd (fun b => b = R2 ∨ b = rb) w49 w67 := hV50.trans hCe0e1_50
          have hCe0e1_43 : Upd (fun b => b = R2 ∨ b = rb) w43 w67 := hV49.trans hCe0e1_49
          have hCe0e1_42 : Upd (fun b => b = R2 ∨ b = rb) w42 w67 := hV43.trans hCe0e1_43
          have hCe0e1_41 : Upd (fun b => b = R2 ∨ b = rb) w41 w67 := hV42.trans hCe0e1_42
          have hCe0e1_36 : Upd (fun b => b = R2 ∨ b = rb) w36 w67 := hV41.trans hCe0e1_41
          have hCe0e1_35 : Upd (fun b => b = R2 ∨ b = rb) w35 w67 := hV36.trans hCe0e1_36
          have hCe0e1_34 : Upd (fun b => b = R2 ∨ b = rb) w34 w67 := hV35.trans hCe0e1_35
          have hCe0e1_29 : Upd (fun b => b = R2 ∨ b = rb) w29 w67 := hV34.trans hCe0e1_34
          have hCe0e1_28 : Upd (fun b => b = R2 ∨ b = rb) w28 w67 := hV29.trans hCe0e1_29
          have hCe0e1_27 : Upd (fun b => b = R2 ∨ b = rb) w27 w67 := hV28.trans hCe0e1_28
          have hCe0e1_26 : Upd (fun b => b = R2 ∨ b = rb) w26 w67 := hV27.trans hCe0e1_27
          have hCe0e1_25 : Upd (fun b => b = R2 ∨ b = rb) w25 w67 := hV26.trans hCe0e1_26
          have hCe0e1_24 : Upd (fun b => b = R2 ∨ b = rb) w24 w67 := hV25.trans hCe0e1_25
          have hCe0e1_23 : Upd (fun b => b = R2 ∨ b = rb) w23 w67 := hV24.trans hCe0e1_24
          have hCe0e1_22 : Upd (fun b => b = R2 ∨ b = rb) w22 w67 := hV23.trans hCe0e1_23
          have hCe0e1_21 : Upd (fun b => b = R2 ∨ b = rb) w21 w67 := hV22.trans hCe0e1_22
          have hCe0e1_20 : Upd (fun b => b = R2 ∨ b = rb) w20 w67 := hV21.trans hCe0e1_21
          have hCe0e1_19 : Upd (fun b => b = R2 ∨ b = rb) w19 w67 := hV20.trans hCe0e1_20
          have hRe0e1 : RepS true (d + 1) fsr_X0 (fun b => (fun b => (ok b ∨ w1.heap.size ≤ b) ∧ ¬ ownB va0 b) b ∧ ¬ ownB va1 b) w67 (.mk 0 [] false [xe0e1_0,xe0e1_1,xe0e1_2,xe0e1_3,xe0e1_4,xe0e1_5,xe0e1_6,xe0e1_7,xe0e1_8] (rdTags s33).1) [.int .i16 (rdInt .i16 2 s9).1,.int .i32 (rdInt .i32 4 s10).1,.int .i32 (rdInt .i32 4 s11).1,.int .i32 (rdInt .i32 4 s12).1,.slice aa2 N2 qq2,.slice aa3 N3 qq3,.slice aa4 N4 qq4,.slice aa5 N5 qq5,.slice aa6 N6 qq6,.map qme0e1] := RepS.introT (c := [.int .i16 (rdInt .i16 2 s9).1,.int .i32 (rdInt .i32 4 s10).1,.int .i32 (rdInt .i32 4 s11).1,.int .i32 (rdInt .i32 4 s12).1,.slice aa2 N2 qq2,.slice aa3 N3 qq3,.slice aa4 N4 qq4,.slice aa5 N5 qq5,.slice aa6 N6 qq6]) (RepL.cons1 (hfe0e1_0.keepS (hCe0e1_22.keeps fun b _ hk e => hoM2 b hk e)) (RepL.cons1 (hfe0e1_1.keepS (hCe0e1_24.keeps fun b _ hk e => hoM2 b hk e)) (RepL.cons1 (hfe0e1_2.keepS (hCe0e1_26.keeps fun b _ hk e => hoM2 b hk e)) (RepL.cons1 (hfe0e1_3.keepS (hCe0e1_28.keeps fun b _ hk e => hoM2 b hk e)) (RepL.cons1 (hfe0e1_4.keepS (hCe0e1_35.keeps fun b _ hk e => hoM2 b hk e)) (RepL.cons1 (hfe0e1_5.keepS (hCe0e1_42.keeps fun b _ hk e => hoM2 b hk e)) (RepL.cons1 (hfe0e1_6.keepS (hCe0e1_50.keeps fun b _ hk e => hoM2 b hk e)) (RepL.cons1 (hfe0e1_7.keepS (hCe0e1_58.keeps fun b _ hk e => hoM2 b hk e)) (RepL.cons1 (hfe0e1_8.keepS (hCe0e1_65.keeps fun b _ hk e => hoM2 b hk e)) RepL.nil))))))))) hTge0e1
          have hrE : (rd1 (rdP (d + 1) ver true) frX2_4.of frX2_4.sub false true) s9 = ((.mk 0 [] false [xe0e1_0,xe0e1_1,xe0e1_2,xe0e1_3,xe0e1_4,xe0e1_5,xe0e1_6,xe0e1_7,xe0e1_8] (rdTags s33).1),s34) := by rw [show (rd1 (rdP (d + 1) ver true) frX2_4.of frX2_4.sub false true) s9 = _ from rd1_part];exact hfine0e1
          have hxE : (Rep1 (RepS true (d + 1)) frX2_4.of frX2_4.sub) (fun b => (fun b => (ok b ∨ w1.heap.size ≤ b) ∧ ¬ ownB va0 b) b ∧ ¬ ownB va1 b) w67 (.mk 0 [] false [xe0e1_0,xe0e1_1,xe0e1_2,xe0e1_3,xe0e1_4,xe0e1_5,xe0e1_6,xe0e1_7,xe0e1_8] (rdTags s33).1) [.int .i16 (rdInt .i16 2 s9).1,.int .i32 (rdInt .i32 4 s10).1,.int .i32 (rdInt .i32 4 s11).1,.int .i32 (rdInt .i32 4 s12).1,.slice aa2 N2 qq2,.slice aa3 N3 qq3,.slice aa4 N4 qq4,.slice aa5 N5 qq5,.slice aa6 N6 qq6,.map qme0e1] := Rep1_part.2 hRe0e1
          repeat ((first | refine qA rfl ?_|apply qB|refine qC rfl ?_|apply qD|apply qE|apply qF|apply qG|apply qH);try simp (maxSteps:=1000000)(disch:=(first|omega|(simp only [qI,qJ,qK]<;>omega)|exact qL _)) only [go_sem,↓reduceIte,n0,reduceCtorEq,n1,n2,n3,n4,n5,i0,i1,i2,i3,i4,i5,i6,i7,hxb67,hrd6_2,hrd6_7,hrd6_8,hrd6_9,hrd6_10,hrd6_14,hrd6_13,hrd6_15,hrd6_17,hrd6_24,hrd6_23,hrd6_25,hrd6_27,hrd6_54,hrd6_53,exitRQ_ret,exitRQ_exit,Int.toNat_natCast,Nat.mul_one])
          have hTk : Upd (fun b => b = R2 ∨ b = rb) w19 w67 := (((((((((((((((((((((((((hV20.trans hV21).trans hV22).trans hV23).trans hV24).trans hV25).trans hV26).trans hV27).trans hV28).trans hV29).trans hV34).trans hV35).trans hV36).trans hV41).trans hV42).trans hV43).trans hV49).trans hV50).trans hV51).trans hV57).trans hV58).trans hV59).trans hV64).trans hV65).trans hV66).trans hV67)
          have hL' := hL1.step (Rep1_lay _ _ fun _ => RepS_lay true _ _) hlt1 (hnext2 w67 [.int .i16 (rdInt .i16 2 s9).1,.int .i32 (rdInt .i32 4 s10).1,.int .i32 (rdInt .i32 4 s11).1,.int .i32 (rdInt .i32 4 s12).1,.slice aa2 N2 qq2,.slice aa3 N3 qq3,.slice aa4 N4 qq4,.slice aa5 N5 qq5,.slice aa6 N6 qq6,.map qme0e1] rfl hx2_67) (by rw [hrE];exact hxE) (hTk.mono fun b h => h.imp (fun e => ⟨_,_,_,hva2,e⟩) id) (by rw [hrE];exact hq67) (fun h => hoM1 rb h (.inr rfl)) (Nat.le_refl _)
          have hij : IntKind.i32.wrap ((j2 : Int) + 1) = ((j2 + 1 : Nat) : Int) := by rw [i32_wrap (by omega)];omega
          repeat ((first | refine qA rfl ?_|apply qB|refine qC rfl ?_|apply qD|apply qE|apply qF|apply qG|apply qH);try simp (maxSteps:=1000000)(disch:=(first|omega|(simp only [qI,qJ,qK]<;>omega)|exact qL _)) only [go_sem,↓reduceIte,n0,reduceCtorEq,n1,n2,n3,n4,n5,i0,i1,i2,i3,i4,i5,i6,i7,hxb67,hrd6_2,hrd6_7,hrd6_8,hrd6_9,hrd6_10,hrd6_14,hrd6_13,hrd6_15,hrd6_17,hrd6_24,hrd6_23,hrd6_25,hrd6_27,hrd6_54,hrd6_53,exitRQ_ret,exitRQ_exit,Int.toNat_natCast,Nat.mul_one,hij])
          refine ⟨⟨(by simp (maxSteps:=1000000)(disch:=(first|omega|(simp only [qI,qJ,qK]<;>omega)|exact qL _)) only [go_sem,↓reduceIte,n0,reduceCtorEq,n1,n2,n3,n4,n5,i0,i1,i2,i3,i4,i5,i6,i7,Holds_nil,Holds_cons,hrd6_2,hrd6_7,hrd6_8,hrd6_9,hrd6_10,hrd6_14,hrd6_13,hrd6_15,hrd6_17,hrd6_24,hrd6_23,hrd6_25,hrd6_27,hrd6_54,hrd6_53];exact hva2.symm),j2 + 1,(by simp (maxSteps:=1000000)(disch:=(first|omega|(simp only [qI,qJ,qK]<;>omega)|exact qL _)) only [go_sem,↓reduceIte,n0,reduceCtorEq,n1,n2,n3,n4,n5,i0,i1,i2,i3,i4,i5,i6,i7,hrd6_2,hrd6_7,hrd6_8,hrd6_9,hrd6_10,hrd6_14,hrd6_13,hrd6_15,hrd6_17,hrd6_24,hrd6_23,hrd6_25,hrd6_27,hrd6_54,hrd6_53,hij];all_goals rfl),_,_,_,hL'⟩,?_⟩
          try simp (maxSteps:=1000000)(disch:=(first|omega|(simp only [qI,qJ,qK]<;>omega)|exact qL _)) only [go_sem,↓reduceIte,n0,reduceCtorEq,n1,n2,n3,n4,n5,i0,i1,i2,i3,i4,i5,i6,i7,hrd6_2,hrd6_7,hrd6_8,hrd6_9,hrd6_10,hrd6_14,hrd6_13,hrd6_15,hrd6_17,hrd6_24,hrd6_23,hrd6_25,hrd6_27,hrd6_54,hrd6_53]
          simp only [RowKit.intOf]
          omega
        · have hjN : j2 = N1 := by omega
          rw [hjN] at hL1
          repeat ((first | refine qA rfl ?_|apply qB|refine qC rfl ?_|apply qD|apply qE|apply qF|apply qG|apply qH);try simp (maxSteps:=1000000)(disch:=(first|omega|(simp only [qI,qJ,qK]<;>omega)|exact qL _)) only [go_sem,↓reduceIte,n0,reduceCtorEq,n1,n2,n3,n4,n5,i0,i1,i2,i3,i4,i5,i6,i7,hrc1_2,hrc1_7,hrc1_8,hrc1_9,hrc1_10,hrc1_14,hrc1_13,hrc1_15,hrc1_17,hrc1_24,hrc1_23,hri1,exitRQ_ret,exitRQ_exit])
          exact ⟨(by simp (maxSteps:=1000000)(disch:=(first|omega|(simp only [qI,qJ,qK]<;>omega)|exact qL _)) only [go_sem,↓reduceIte,n0,reduceCtorEq,n1,n2,n3,n4,n5,i0,i1,i2,i3,i4,i5,i6,i7,Holds_nil,Holds_cons,hrc1_2,hrc1_7,hrc1_8,hrc1_9,hrc1_10,hrc1_14,hrc1_13,hrc1_15,hrc1_17,hrc1_24,hrc1_23,hri1]),s9,xs1,css1,hL1⟩
      rintro ρ w68 ⟨⟨hrd1_2,hrd1_7,hrd1_8,hrd1_9,hrd1_10,hrd1_14,hrd1_13,hrd1_15,hrd1_17,hrd1_24,hrd1_23,-⟩,s35,xs1,css1,hL1⟩
      have hq68 := hL1.rd
      have hu68 := hL1.upd
      have hx1_68 := hu68.blk_some hx1_17 (by omega)
      have hV68 : Upd (fun b => b = R1 ∨ b = rb) w17 w68 := hu68.mono (fun _ h => .inr h)
      have hU68 : Upd (fun b => b = vb ∨ b = rb) w1 w68 := hU17.trans' hV68 fun i hi h => h.elim (fun h => by omega) .inr
      have hz68 := hV68.size
      have hG68 : Glo ev w68 := hG1.updS hU68 hgM1 hgM2
      obtain ⟨X68,hX68,hxb68,hXs68⟩ := el_open (n := 22) hx1_68 hA1 rfl
      have hrd1 : rdF (rdP (d + 1) ver true) ver true frX2_4 s7 = (.mk 0 [] (nilS frX2_4 ver y1) xs1 [],s35) := by
        have h := rdF_listE (pt := (rdP (d + 1) ver true)) (v := ver) (flex := true) (f := frX2_4) (s := s7) (xs := xs1) (e := s35) rfl (by rw [hy1,← hN1,← hs8];exact hL1.done)
        rw [hy1] at h;exact h
      have hs35 : s35 = (rdF (rdP (d + 1) ver true) ver true frX2_4 s7).2 := by rw [hrd1]
      obtain ⟨aa1,qq1,hvs1⟩ := hL1.row.shape
      subst hvs1
      have hst68_19 : j1 * 22 + 20 ≤ X68.size := by omega
      repeat ((first | refine qA rfl ?_|apply qB|refine qC rfl ?_|apply qD|apply qE|apply qF|apply qG|apply qH);try simp (maxSteps:=1000000)(disch:=(first|omega|(simp only [qI,qJ,qK]<;>omega)|exact qL _)) only [go_sem,↓reduceIte,n0,reduceCtorEq,n1,n2,n3,n4,n5,i0,i1,i2,i3,i4,i5,i6,i7,hxb68,hrd1_2,hrd1_7,hrd1_8,hrd1_9,hrd1_10,hrd1_14,hrd1_13,hrd1_15,hrd1_17,hrd1_24,hrd1_23,exitRQ_ret,exitRQ_exit,Int.toNat_natCast,Nat.mul_one,hst68_19])
      generalize hw69 : wr w68 R1 (j1 * 22 + 19) [.slice aa1 N1 qq1] = w69
      have hS69 : Upd (fun b => b = R1 ∨ b = rb) w68 w69 := by rw [← hw69];exact (Upd.refl _ _).wr _ _ (.inr (.inl rfl))
      have hx1_69 : blk w69 R1 = some ((A1 ++ (([.int .i16 (rdInt .i16 2 s3).1,.pointer ap10,ue02_0,ue02_1,ue02_2,ue02_3,ue02_4,ue02_5,ue02_6,ue02_7,ue02_8,ue02_9,ue02_10,ue02_11,ue02_12,ue02_13,ue02_14,ue02_15,.bool (!decide (beN (rdN 1 s6).1 = 0)),.slice aa1 N1 qq1,.int .i32 (-2147483648),.map none] : List Value) ++ B1)).toArray,80,(0,0)) := by rw [← hw69];exact el_blk (o := 19) hx1_68 hA1 (Nat.le_of_ble_eq_true rfl)
      have hV69 := hS69
      have hU69 : Upd (fun b => b = vb ∨ b = rb) w1 w69 := hU68.trans' hV69 fun i hi h => h.elim (fun h => by omega) .inr
      have hz69 := hV69.size
      have hG69 : Glo ev w69 := hG1.updS hU69 hgM1 hgM2
      have hq69 := Rdr.stored hw69 hq68 (by omega) fun h => by have := (hok _ h).1;first | omega | exact (hok _ h).2 rfl
      obtain ⟨X69,hX69,hxb69,hXs69⟩ := el_open (n := 22) hx1_69 hA1 rfl
      clear hw69
      have hfe0_4 : RepF (RepS true (d + 1)) (szS true (d + 1)) frX2_4 (fun b => (ok b ∨ w1.heap.size ≤ b) ∧ ¬ ownB va0 b) w69 (xe0_4) [.slice aa1 N1 qq1] := by rw [hxe0_4,hrd1];exact RepF.keepS (RepF_row rfl hnc1 hN1 rfl hL1.row hL1.all (fun b hb => ⟨.inr (by omega),fun ho => by have := (hown1 _ ho).2;omega⟩)) (hV69.keeps fun b _ hk e => hoM1 b hk e)
      clear hL1 hnc1
      have hbe0_5 : (rdL (rdP (d + 1) ver true) (dfP (d + 1)) ver true [fX2_5] s35).2 = none → FB := fun h => hbe0_4 (by rw [rdL_st (by decide) hhe0_4,← hs35];exact h)
      have hhe0_5 : hasS fX2_5 ver = true := hasS_t (by show (0 : Int) ≤ ver;omega) (by show (-1 : Int) < 0 ∨ ver ≤ (-1 : Int);omega)
      obtain ⟨xe0_5,hxe0_5⟩ : ∃ x,x = (rdF (rdP (d + 1) ver true) ver true fX2_5 s35).1 := ⟨_,rfl⟩
      repeat ((first | refine qA rfl ?_|apply qB|refine qC rfl ?_|apply qD|apply qE|apply qF|apply qG|apply qH);try simp (maxSteps:=1000000)(disch:=(first|omega|(simp only [qI,qJ,qK]<;>omega)|exact qL _)) only [go_sem,↓reduceIte,n0,reduceCtorEq,n1,n2,n3,n4,n5,i0,i1,i2,i3,i4,i5,i6,i7,hxb69,hrd1_2,hrd1_7,hrd1_8,hrd1_9,hrd1_10,hrd1_14,hrd1_13,hrd1_15,hrd1_17,hrd1_24,hrd1_23,exitRQ_ret,exitRQ_exit,Int.toNat_natCast,Nat.mul_one])
      have hrd : rdF (rdP (d + 1) ver true) ver true fX2_5 s35 = _ := rdF_num 3 rfl (by decide)
      refine (Int32_fn w69 hq69.1 hrok hG69.1 hgrb).mono ?_
      rintro _ w70 ⟨rfl,hq70,hu70⟩
      have hx1_70 := hu70.blk_some hx1_69 (by omega)
      have hV70 : Upd (fun b => b = R1 ∨ b = rb) w69 w70 := hu70.mono (fun _ h => .inr h)
      have hU70 : Upd (fun b => b = vb ∨ b = rb) w1 w70 := hU69.trans' hV70 fun i hi h => h.elim (fun h => by omega) .inr
      have hz70 := hV70.size
      have hG70 : Glo ev w70 := hG1.updS hU70 hgM1 hgM2
      obtain ⟨X70,hX70,hxb70,hXs70⟩ := el_open (n := 22) hx1_70 hA1 rfl
      have hst : (rdF (rdP (d + 1) ver true) ver true fX2_5 s35).2 = (rdInt .i32 4 s35).2 := by first | (rw [hrd];rfl) | rw [hrd]
      obtain ⟨s36,hs36⟩ : ∃ s,s = (rdF (rdP (d + 1) ver true) ver true fX2_5 s35).2 := ⟨_,rfl⟩
      rw [← hst,← hs36] at hq70
      clear hst
      have hst70_20 : j1 * 22 + 21 ≤ X70.size := by omega
      repeat ((first | refine qA rfl ?_|apply qB|refine qC rfl ?_|apply qD|apply qE|apply qF|apply qG|apply qH);try simp (maxSteps:=1000000)(disch:=(first|omega|(simp only [qI,qJ,qK]<;>omega)|exact qL _)) only [go_sem,↓reduceIte,n0,reduceCtorEq,n1,n2,n3,n4,n5,i0,i1,i2,i3,i4,i5,i6,i7,hxb70,hrd1_2,hrd1_7,hrd1_8,hrd1_9,hrd1_10,hrd1_14,hrd1_13,hrd1_15,hrd1_17,hrd1_24,hrd1_23,exitRQ_ret,exitRQ_exit,Int.toNat_natCast,Nat.mul_one,hst70_20])
      generalize hw71 : wr w70 R1 (j1 * 22 + 20) [.int .i32 (rdInt .i32 4 s35).1] = w71
      have hS71 : Upd (fun b => b = R1 ∨ b = rb) w70 w71 := by rw [← hw71];exact (Upd.refl _ _).wr _ _ (.inr (.inl rfl))
      have hx1_71 : blk w71 R1 = some ((A1 ++ (([.int .i16 (rdInt .i16 2 s3).1,.pointer ap10,ue02_0,ue02_1,ue02_2,ue02_3,ue02_4,ue02_5,ue02_6,ue02_7,ue02_8,ue02_9,ue02_10,ue02_11,ue02_12,ue02_13,ue02_14,ue02_15,.bool (!decide (beN (rdN 1 s6).1 = 0)),.slice aa1 N1 qq1,.int .i32 (rdInt .i32 4 s35).1,.map none] : List Value) ++ B1)).toArray,80,(0,0)) := by rw [← hw71];exact el_blk (o := 20) hx1_70 hA1 (Nat.le_of_ble_eq_true rfl)
      have hV71 := hS71
      have hU71 : Upd (fun b => b = vb ∨ b = rb) w1 w71 := hU70.trans' hV71 fun i hi h => h.elim (fun h => by omega) .inr
      have hz71 := hV71.size
      have hG71 : Glo ev w71 := hG1.updS hU71 hgM1 hgM2
      have hq71 := Rdr.stored hw71 hq70 (by omega) fun h => by have := (hok _ h).1;first | omega | exact (hok _ h).2 rfl
      obtain ⟨X71,hX71,hxb71,hXs71⟩ := el_open (n := 22) hx1_71 hA1 rfl
      clear hw71
      have hfe0_5 : RepF (RepS true (d + 1)) (szS true (d + 1)) fX2_5 (fun b => (ok b ∨ w1.heap.size ≤ b) ∧ ¬ ownB va0 b) w71 (xe0_5) [.int .i32 (rdInt .i32 4 s35).1] := (RepF_num (by decide)).2 (by rw [hxe0_5,hrd];exact congrArg (fun x => [x]) (numC_rd 3 (by decide) 4 s35).symm)
      clear hrd
      have hle0_6 : rdL (rdP (d + 1) ver true) (dfP (d + 1)) ver true [] s36 = ([],s36) := rfl
      have hle0_5 : rdL (rdP (d + 1) ver true) (dfP (d + 1)) ver true [fX2_5] s35 = ([xe0_5],s36) := by rw [rdL_st (by decide) hhe0_5,← hxe0_5,← hs36,hle0_6]
      have hle0_4 : rdL (rdP (d + 1) ver true) (dfP (d + 1)) ver true [frX2_4,fX2_5] s7 = ([xe0_4,xe0_5],s36) := by rw [rdL_st (by decide) hhe0_4,← hxe0_4,← hs35,hle0_5]
      have hle0_3 : rdL (rdP (d + 1) ver true) (dfP (d + 1)) ver true [fX2_3,frX2_4,fX2_5] s6 = ([xe0_3,xe0_4,xe0_5],s36) := by rw [rdL_st (by decide) hhe0_3,← hxe0_3,← hs7,hle0_4]
      have hle0_2 : rdL (rdP (d + 1) ver true) (dfP (d + 1)) ver true [fX2_2,fX2_3,frX2_4,fX2_5] s5 = ([xe0_2,xe0_3,xe0_4,xe0_5],s36) := by rw [rdL_st (by decide) hhe0_2,← hxe0_2,← hs6,hle0_3]
      have hle0_1 : rdL (rdP (d + 1) ver true) (dfP (d + 1)) ver true [fX2_1,fX2_2,fX2_3,frX2_4,fX2_5] s4 = ([xe0_1,xe0_2,xe0_3,xe0_4,xe0_5],s36) := by rw [rdL_st (by decide) hhe0_1,← hxe0_1,← hs5,hle0_2]
      have hle0_0 : rdL (rdP (d + 1) ver true) (dfP (d + 1)) ver true [fX2_0,fX2_1,fX2_2,fX2_3,frX2_4,fX2_5] s3 = ([xe0_0,xe0_1,xe0_2,xe0_3,xe0_4,xe0_5],s36) := by rw [rdL_st (by decide) hhe0_0,← hxe0_0,← hs4,hle0_1]
      have hfine0 : rdP (d + 2) ver true fsr_X2 s3 = (.mk 0 [] false [xe0_0,xe0_1,xe0_2,xe0_3,xe0_4,xe0_5] (rdTags s36).1,(rdTags s36).2) := rdP_t hle0_0
      repeat ((first | refine qA rfl ?_|apply qB|refine qC rfl ?_|apply qD|apply qE|apply qF|apply qG|apply qH);try simp (maxSteps:=1000000)(disch:=(first|omega|(simp only [qI,qJ,qK]<;>omega)|exact qL _)) only [go_sem,↓reduceIte,n0,reduceCtorEq,n1,n2,n3,n4,n5,i0,i1,i2,i3,i4,i5,i6,i7,hxb71,hrd1_2,hrd1_7,hrd1_8,hrd1_9,hrd1_10,hrd1_14,hrd1_13,hrd1_15,hrd1_17,hrd1_24,hrd1_23,exitRQ_ret,exitRQ_exit,Int.toNat_natCast,Nat.mul_one])
      refine (ReadTags_fn w71 hq71.1 hrok).mono ?_
      rintro _ w72 ⟨qme0,rfl,hT72,hTn,hq72,hu72⟩
      have hx1_72 := hu72.blk_some hx1_71 (by omega)
      have hV72 : Upd (fun b => b = R1 ∨ b = rb) w71 w72 := hu72.mono (fun _ h => .inr h)
      have hU72 : Upd (fun b => b = vb ∨ b = rb) w1 w72 := hU71.trans' hV72 fun i hi h => h.elim (fun h => by omega) .inr
      have hz72 := hV72.size
      have hG72 : Glo ev w72 := hG1.updS hU72 hgM1 hgM2
      obtain ⟨X72,hX72,hxb72,hXs72⟩ := el_open (n := 22) hx1_72 hA1 rfl
      obtain ⟨s37,hs37⟩ : ∃ s,s = (rdTags s36).2 := ⟨_,rfl⟩
      rw [← hs37] at hq72 hfine0
      have hst72_21 : j1 * 22 + 22 ≤ X72.size := by omega
      repeat (first|simp (maxSteps:=1000000)(disch:=(first|omega|(simp only [qI,qJ,qK]<;>omega)|exact qL _)) only [go_sem,↓reduceIte,n0,reduceCtorEq,n1,n2,n3,n4,n5,i0,i1,i2,i3,i4,i5,i6,i7,hxb72,hrd1_2,hrd1_7,hrd1_8,hrd1_9,hrd1_10,hrd1_14,hrd1_13,hrd1_15,hrd1_17,hrd1_24,hrd1_23,exitRQ_ret,exitRQ_exit,Int.toNat_natCast,Nat.mul_one,hst72_21]|refine qA rfl ?_|apply qB|refine qC rfl ?_|apply qD|apply qE|apply qF|apply qG|apply qH)
      generalize hw73 : wr w72 R1 (j1 * 22 + 21) [.map qme0] = w73
      have hS73 : Upd (fun b => b = R1 ∨ b = rb) w72 w73 := by rw [← hw73];exact (Upd.refl _ _).wr _ _ (.inr (.inl rfl))
      have hx1_73 : blk w73 R1 = some ((A1 ++ (([.int .i16 (rdInt .i16 2 s3).1,.pointer ap10,ue02_0,ue02_1,ue02_2,ue02_3,ue02_4,ue02_5,ue02_6,ue02_7,ue02_8,ue02_9,ue02_10,ue02_11,ue02_12,ue02_13,ue02_14,ue02_15,.bool (!decide (beN (rdN 1 s6).1 = 0)),.slice aa1 N1 qq1,.int .i32 (rdInt .i32 4 s35).1,.map qme0] : List Value) ++ B1)).toArray,80,(0,0)) := by rw [← hw73];exact el_blk (o := 21) hx1_72 hA1 (Nat.le_of_ble_eq_true rfl)
      have hV73 := hS73
      have hU73 : Upd (fun b => b = vb ∨ b = rb) w1 w73 := hU72.trans' hV73 fun i hi h => h.elim (fun h => by omega) .inr
      have hz73 := hV73.size
      have hG73 : Glo ev w73 := hG1.updS hU73 hgM1 hgM2
      have hq73 := Rdr.stored hw73 hq72 (by omega) fun h => by have := (hok _ h).1;first | omega | exact (hok _ h).2 rfl
      obtain ⟨X73,hX73,hxb73,hXs73⟩ := el_open (n := 22) hx1_73 hA1 rfl
      clear hw73
      have hTge0 : TagsM (fun b => (ok b ∨ w1.heap.size ≤ b) ∧ ¬ ownB va0 b) w73 (.map qme0) (rdTags s36).1 := (hT72.weaken fun b _ hk => hk.elim (fun hk => ⟨.inl hk,fun ho => by have := (hown1 b ho).1;have := (hok b hk).1;omega⟩) (fun h => by have h' : w71.heap.size ≤ b := h;exact ⟨.inr (by omega),fun ho => by have := (hown1 _ ho).2;omega⟩)).keep (hV73.keeps fun b _ hk e => hoM1 b hk e)
      have hCe0_73 : Upd (fun b => b = R1 ∨ b = rb) w73 w73 := Upd.refl _ _
      have hCe0_72 : Upd (fun b => b = R1 ∨ b = rb) w72 w73 := hV73.trans hCe0_73
      have hCe0_71 : Upd (fun b => b = R1 ∨ b = rb) w71 w73 := hV72.trans hCe0_72
      have hCe0_70 : Upd (fun b => b = R1 ∨ b = rb) w70 w73 := hV71.trans hCe0_71
      have hCe0_69 : Upd (fun b => b = R1 ∨ b = rb) w69 w73 := hV70.trans hCe0_70
      have hCe0_68 : Upd (fun b => b = R1 ∨ b = rb) w68 w73 := hV69.trans hCe0_69
      have hCe0_17 : Upd (fun b => b = R1 ∨ b = rb) w17 w73 := hV68.trans hCe0_68
      have hCe0_16 : Upd (fun b => b = R1 ∨ b = rb) w16 w73 := hV17.trans hCe0_17
      have hCe0_15 : Upd (fun b => b = R1 ∨ b = rb) w15 w73 := hV16.trans hCe0_16
      have hCe0_14 : Upd (fun b => b = R1 ∨ b = rb) w14 w73 := hV15.trans hCe0_15
      have hCe0_13 : Upd (fun b => b = R1 ∨ b = rb) w13 w73 := hV14.trans hCe0_14
      have hCe0_12 : Upd (fun b => b = R1 ∨ b = rb) w12 w73 := hV13.trans hCe0_13
      have hCe0_11 : Upd (fun b => b = R1 ∨ b = rb) w11 w73 := hV12.trans hCe0_12
      have hCe0_10 : Upd (fun b => b = R1 ∨ b = rb) w10 w73 := hV11.trans hCe0_11
      have hCe0_9 : Upd (fun b => b = R1 ∨ b = rb) w9 w73 := hV10.trans hCe0_10
      have hCe0_8 : Upd (fun b => b = R1 ∨ b = rb) w8 w73 := hV9.trans hCe0_9
      have hCe0_7 : Upd (fun b => b = R1 ∨ b = rb) w7 w73 := hV8.trans hCe0_8
      have hCe0_6 : Upd (fun b => b = R1 ∨ b = rb) w6 w73 := hV7.trans hCe0_7
      have hRe0 : RepS true (d + 2) fsr_X2 (fun b => (ok b ∨ w1.heap.size ≤ b) ∧ ¬ ownB va0 b) w73 (.mk 0 [] false [xe0_0,xe0_1,xe0_2,xe0_3,xe0_4,xe0_5] (rdTags s36).1) [.int .i16 (rdInt .i16 2 s3).1,.pointer ap10,ue02_0,ue02_1,ue02_2,ue02_3,ue02_4,ue02_5,ue02_6,ue02_7,ue02_8,ue02_9,ue02_10,ue02_11,ue02_12,ue02_13,ue02_14,ue02_15,.bool (!decide (beN (rdN 1 s6).1 = 0)),.slice aa1 N1 qq1,.int .i32 (rdInt .i32 4 s35).1,.map qme0] := RepS.introT (c := [.int .i16 (rdInt .i16 2 s3).1,.pointer ap10,ue02_0,ue02_1,ue02_2,ue02_3,ue02_4,ue02_5,ue02_6,ue02_7,ue02_8,ue02_9,ue02_10,ue02_11,ue02_12,ue02_13,ue02_14,ue02_15,.bool (!decide (beN (rdN 1 s6).1 = 0)),.slice aa1 N1 qq1,.int .i32 (rdInt .i32 4 s35).1]) (RepL.cons1 (hfe0_0.keepS (hCe0_9.keeps fun b _ hk e => hoM1 b hk e)) (RepL.cons1 (hfe0_1.keepS (hCe0_11.keeps fun b _ hk e => hoM1 b hk e)) (RepL.cons16 (hfe0_2.keepS (hCe0_14.keeps fun b _ hk e => hoM1 b hk e)) (RepL.cons1 (hfe0_3.keepS (hCe0_16.keeps fun b _ hk e => hoM1 b hk e)) (RepL.cons1 (hfe0_4.keepS (hCe0_69.keeps fun b _ hk e => hoM1 b hk e)) (RepL.cons1 (hfe0_5.keepS (hCe0_71.keeps fun b _ hk e => hoM1 b hk e)) RepL.nil)))))) hTge0
      have hrE : (rd1 (rdP (d + 2) ver true) frQ_1.of frQ_1.sub false true) s3 = ((.mk 0 [] false [xe0_0,xe0_1,xe0_2,xe0_3,xe0_4,xe0_5] (rdTags s36).1),s37) := by rw [show (rd1 (rdP (d + 2) ver true) frQ_1.of frQ_1.sub false true) s3 = _ from rd1_part];exact hfine0
      have hxE : (Rep1 (RepS true (d + 2)) frQ_1.of frQ_1.sub) (fun b => (ok b ∨ w1.heap.size ≤ b) ∧ ¬ ownB va0 b) w73 (.mk 0 [] false [xe0_0,xe0_1,xe0_2,xe0_3,xe0_4,xe0_5] (rdTags s36).1) [.int .i16 (rdInt .i16 2 s3).1,.pointer ap10,ue02_0,ue02_1,ue02_2,ue02_3,ue02_4,ue02_5,ue02_6,ue02_7,ue02_8,ue02_9,ue02_10,ue02_11,ue02_12,ue02_13,ue02_14,ue02_15,.bool (!decide (beN (rdN 1 s6).1 = 0)),.slice aa1 N1 qq1,.int .i32 (rdInt .i32 4 s35).1,.map qme0] := Rep1_part.2 hRe0
      repeat ((first | refine qA rfl ?_|apply qB|refine qC rfl ?_|apply qD|apply qE|apply qF|apply qG|apply qH);try simp (maxSteps:=1000000)(disch:=(first|omega|(simp only [qI,qJ,qK]<;>omega)|exact qL _)) only [go_sem,↓reduceIte,n0,reduceCtorEq,n1,n2,n3,n4,n5,i0,i1,i2,i3,i4,i5,i6,i7,hxb73,hrd1_2,hrd1_7,hrd1_8,hrd1_9,hrd1_10,hrd1_14,hrd1_13,hrd1_15,hrd1_17,hrd1_24,hrd1_23,exitRQ_ret,exitRQ_exit,Int.toNat_natCast,Nat.mul_one])
      have hTk : Upd (fun b => b = R1 ∨ b = rb) w6 w73 := ((((((((((((((((hV7.trans hV8).trans hV9).trans hV10).trans hV11).trans hV12).trans hV13).trans hV14).trans hV15).trans hV16).trans hV17).trans hV68).trans hV69).trans hV70).trans hV71).trans hV72).trans hV73)
      have hL' := hL0.step (Rep1_lay _ _ fun _ => RepS_lay true _ _) hlt0 (hnext1 w73 [.int .i16 (rdInt .i16 2 s3).1,.pointer ap10,ue02_0,ue02_1,ue02_2,ue02_3,ue02_4,ue02_5,ue02_6,ue02_7,ue02_8,ue02_9,ue02_10,ue02_11,ue02_12,ue02_13,ue02_14,ue02_15,.bool (!decide (beN (rdN 1 s6).1 = 0)),.slice aa1 N1 qq1,.int .i32 (rdInt .i32 4 s35).1,.map qme0] rfl hx1_73) (by rw [hrE];exact hxE) (hTk.mono fun b h => h.imp (fun e => ⟨_,_,_,hva1,e⟩) id) (by rw [hrE];exact hq73) (fun h => hoM rb h (.inr rfl)) (Nat.le_refl _)
      have hij : IntKind.i32.wrap ((j1 : Int) + 1) = ((j1 + 1 : Nat) : Int) := by rw [i32_wrap (by omega)];omega
      repeat ((first | refine qA rfl ?_|apply qB|refine qC rfl ?_|apply qD|apply qE|apply qF|apply qG|apply qH);try simp (maxSteps:=1000000)(disch:=(first|omega|(simp only [qI,qJ,qK]<;>omega)|exact qL _)) only [go_sem,↓reduceIte,n0,reduceCtorEq,n1,n2,n3,n4,n5,i0,i1,i2,i3,i4,i5,i6,i7,hxb73,hrd1_2,hrd1_7,hrd1_8,hrd1_9,hrd1_10,hrd1_14,hrd1_13,hrd1_15,hrd1_17,hrd1_24,hrd1_23,exitRQ_ret,exitRQ_exit,Int.toNat_natCast,Nat.mul_one,hij])
      refine ⟨⟨(by simp (maxSteps:=1000000)(disch:=(first|omega|(simp only [qI,qJ,qK]<;>omega)|exact qL _)) only [go_sem,↓reduceIte,n0,reduceCtorEq,n1,n2,n3,n4,n5,i0,i1,i2,i3,i4,i5,i6,i7,Holds_nil,Holds_cons,hrd1_2,hrd1_7,hrd1_8,hrd1_9,hrd1_10,hrd1_14,hrd1_13,hrd1_15,hrd1_17,hrd1_24,hrd1_23];exact hva1.symm),j1 + 1,(by simp (maxSteps:=1000000)(disch:=(first|omega|(simp only [qI,qJ,qK]<;>omega)|exact qL _)) only [go_sem,↓reduceIte,n0,reduceCtorEq,n1,n2,n3,n4,n5,i0,i1,i2,i3,i4,i5,i6,i7,hrd1_2,hrd1_7,hrd1_8,hrd1_9,hrd1_10,hrd1_14,hrd1_13,hrd1_15,hrd1_17,hrd1_24,hrd1_23,hij];all_goals rfl),_,_,_,hL'⟩,?_⟩
      try simp (maxSteps:=1000000)(disch:=(first|omega|(simp only [qI,qJ,qK]<;>omega)|exact qL _)) only [go_sem,↓reduceIte,n0,reduceCtorEq,n1,n2,n3,n4,n5,i0,i1,i2,i3,i4,i5,i6,i7,hrd1_2,hrd1_7,hrd1_8,hrd1_9,hrd1_10,hrd1_14,hrd1_13,hrd1_15,hrd1_17,hrd1_24,hrd1_23]
      simp only [RowKit.intOf]
      omega
    · have hjN : j1 = N0 := by omega
      rw [hjN] at hL0
      repeat ((first | refine qA rfl ?_|apply qB|refine qC rfl ?_|apply qD|apply qE|apply qF|apply qG|apply qH);try simp (maxSteps:=1000000)(disch:=(first|omega|(simp only [qI,qJ,qK]<;>omega)|exact qL _)) only [go_sem,↓reduceIte,n0,reduceCtorEq,n1,n2,n3,n4,n5,i0,i1,i2,i3,i4,i5,i6,i7,hrc0_2,hrc0_7,hrc0_8,hrc0_9,hrc0_10,hrc0_14,hrc0_13,hri0,exitRQ_ret,exitRQ_exit])
      exact ⟨(by simp (maxSteps:=1000000)(disch:=(first|omega|(simp only [qI,qJ,qK]<;>omega)|exact qL _)) only [go_sem,↓reduceIte,n0,reduceCtorEq,n1,n2,n3,n4,n5,i0,i1,i2,i3,i4,i5,i6,i7,Holds_nil,Holds_cons,hrc0_2,hrc0_7,hrc0_8,hrc0_9,hrc0_10,hrc0_14,hrc0_13,hri0]),s3,xs0,css0,hL0⟩
  rintro ρ w74 ⟨⟨hrd0_2,hrd0_7,hrd0_8,hrd0_9,hrd0_10,hrd0_14,hrd0_13,-⟩,s38,xs0,css0,hL0⟩
  have hq74 := hL0.rd
  have hu74 := hL0.upd
  have hv_74 := hu74.blk_some hv_4 (by omega)
  have hV74 : Upd (fun b => b = vb ∨ b = rb) w4 w74 := hu74.mono (fun _ h => .inr h)
  have hU74 : Upd (fun b => b = vb ∨ b = rb) w1 w74 := hU4.trans hV74
  have hz74 := hV74.size
  have hG74 : Glo ev w74 := hG1.updS hU74 hgM1 hgM2
  have hrd0 : rdF (rdP (d + 2) ver true) ver true frQ_1 s1 = (.mk 0 [] (nilS frQ_1 ver y0) xs0 [],s38) := by
    have h := rdF_listE (pt := (rdP (d + 2) ver true)) (v := ver) (flex := true) (f := frQ_1) (s := s1) (xs := xs0) (e := s38) rfl (by rw [hy0,← hN0,← hs2];exact hL0.done)
    rw [hy0] at h;exact h
  have hs38 : s38 = (rdF (rdP (d + 2) ver true) ver true frQ_1 s1).2 := by rw [hrd0]
  obtain ⟨aa0,qq0,hvs0⟩ := hL0.row.shape
  subst hvs0
  repeat ((first | refine qA rfl ?_|apply qB|refine qC rfl ?_|apply qD|apply qE|apply qF|apply qG|apply qH);try simp (maxSteps:=1000000)(disch:=(first|omega|(simp only [qI,qJ,qK]<;>omega)|exact qL _)) only [go_sem,↓reduceIte,n0,reduceCtorEq,n1,n2,n3,n4,n5,i0,i1,i2,i3,i4,i5,i6,i7,hv_74,hrd0_2,hrd0_7,hrd0_8,hrd0_9,hrd0_10,hrd0_14,hrd0_13])
  generalize hw75 : wr w74 vb 2 [.slice aa0 N0 qq0] = w75
  have hS75 : Upd (fun b => b = vb ∨ b = rb) w74 w75 := by rw [← hw75];exact (Upd.refl _ _).wr _ _ (.inr (.inl rfl))
  have hv_75 : blk w75 vb = some (#[.int .i16 ver,.int .i32 (rdInt .i32 4 s0).1,.slice aa0 N0 qq0,.pointer none,.map none],63,(0,0)) := by rw [← hw75,blk_wr_eq,hv_74];rfl
  have hV75 := hS75
  have hU75 : Upd (fun b => b = vb ∨ b = rb) w1 w75 := hU74.trans hV75
  have hz75 := hV75.size
  have hG75 : Glo ev w75 := hG1.updS hU75 hgM1 hgM2
  have hq75 := Rdr.stored hw75 hq74 (by omega) fun h => by have := (hok _ h).1;first | omega | exact (hok _ h).2 rfl
  clear hw75
  have hf_1 : RepF (RepS true (d + 2)) (szS true (d + 2)) frQ_1 (fun b => ok b ∨ w1.heap.size ≤ b) w75 (x_1) [.slice aa0 N0 qq0] := by rw [hx_1,hrd0];exact RepF.keepS (RepF_row rfl hnc0 hN0 rfl hL0.row hL0.all (fun b hb => .inr (by omega))) (hV75.keeps fun b _ hk e => (hoM b hk) e)
  clear hL0 hnc0
  have hb_2 : (rdL (rdP (d + 2) ver true) (dfP (d + 2)) ver true [fQ_2] s38).2 = none → FB := fun h => hb_1 (by rw [rdL_st (by decide) hh_1,← hs38];exact h)
  have hh_2 : hasS fQ_2 ver = true := hasS_t (by show (0 : Int) ≤ ver;omega) (by show (-1 : Int) < 0 ∨ ver ≤ (-1 : Int);omega)
  obtain ⟨x_2,hx_2⟩ : ∃ x,x = (rdF (rdP (d + 2) ver true) ver true fQ_2 s38).1 := ⟨_,rfl⟩
  repeat ((first | refine qA rfl ?_|apply qB|refine qC rfl ?_|apply qD|apply qE|apply qF|apply qG|apply qH);try simp (maxSteps:=1000000)(disch:=(first|omega|(simp only [qI,qJ,qK]<;>omega)|exact qL _)) only [go_sem,↓reduceIte,n0,reduceCtorEq,n1,n2,n3,n4,n5,i0,i1,i2,i3,i4,i5,i6,i7,hv_75,hrd0_2,hrd0_7,hrd0_8,hrd0_9,hrd0_10,hrd0_14,hrd0_13])
  refine (Int8_fn w75 hq75.1 hrok).mono ?_
  rintro _ w76 ⟨rfl,hq76,hu76⟩
  have hv_76 := hu76.blk_some hv_75 (by omega)
  have hV76 : Upd (fun b => b = vb ∨ b = rb) w75 w76 := hu76.mono (fun _ h => .inr h)
  have hU76 : Upd (fun b => b = vb ∨ b = rb) w1 w76 := hU75.trans hV76
  have hz76 := hV76.size
  have hG76 : Glo ev w76 := hG1.updS hU76 hgM1 hgM2
  obtain ⟨s39,hs39⟩ : ∃ s,s = (rdInt .i8 1 s38).2 := ⟨_,rfl⟩
  obtain ⟨yo,hyo⟩ : ∃ y,y = (rdInt .i8 1 s38).1 := ⟨_,rfl⟩
  rw [← hs39] at hq76
  try rw [← hyo]
  have hro : rdF (rdP (d + 2) ver true) ver true fQ_2 s38 = rdOpt ((rdP (d + 2) ver true) fQ_2.sub) s38 := rdF_opt rfl (by decide)
  by_cases hy1 : yo = -1
  · subst hy1
    repeat (first|simp (maxSteps:=1000000)(disch:=(first|omega|(simp only [qI,qJ,qK]<;>omega)|exact qL _)) only [go_sem,↓reduceIte,n0,reduceCtorEq,n1,n2,n3,n4,n5,i0,i1,i2,i3,i4,i5,i6,i7,hv_76,hrd0_2,hrd0_7,hrd0_8,hrd0_9,hrd0_10,hrd0_14,hrd0_13]|refine qA rfl ?_|apply qB|refine qC rfl ?_|apply qD|apply qE|apply qF|apply qG|apply qH)
    have hno : rdF (rdP (d + 2) ver true) ver true fQ_2 s38 = (.mk 0 [] true [] [],s39) := by rw [hro,rdOpt_no (.inl hyo.symm),← hs39]
    have hso_1 : s39 = (rdF (rdP (d + 2) ver true) ver true fQ_2 s38).2 := by rw [hno]
    have hf_2 : RepF (RepS true (d + 2)) (szS true (d + 2)) fQ_2 (fun b => ok b ∨ w1.heap.size ≤ b) w76 (x_2) [.pointer none] := by rw [hx_2,hno];exact (RepF_opt rfl (by decide)).2 ⟨_,rfl,PtrPart_none rfl⟩
    have hl_3 : rdL (rdP (d + 2) ver true) (dfP (d + 2)) ver true [] s39 = ([],s39) := rfl
    have hl_2 : rdL (rdP (d + 2) ver true) (dfP (d + 2)) ver true [fQ_2] s38 = ([x_2],s39) := by rw [rdL_st (by decide) hh_2,← hx_2,← hso_1,hl_3]
    have hl_1 : rdL (rdP (d + 2) ver true) (dfP (d + 2)) ver true [frQ_1,fQ_2] s1 = ([x_1,x_2],s39) := by rw [rdL_st (by decide) hh_1,← hx_1,← hs38,hl_2]
    have hl_0 : rdL (rdP (d + 2) ver true) (dfP (d + 2)) ver true [fQ_0,frQ_1,fQ_2] s0 = ([x_0,x_1,x_2],s39) := by rw [rdL_st (by decide) hh_0,← hx_0,← hs1,hl_1]
    have hfin : rdP (d + 3) ver true fsr_Q s0 = (.mk 0 [] false [x_0,x_1,x_2] (rdTags s39).1,(rdTags s39).2) := rdP_t hl_0
    repeat ((first | refine qA rfl ?_|apply qB|refine qC rfl ?_|apply qD|apply qE|apply qF|apply qG|apply qH);try simp (maxSteps:=1000000)(disch:=(first|omega|(simp only [qI,qJ,qK]<;>omega)|exact qL _)) only [go_sem,↓reduceIte,n0,reduceCtorEq,n1,n2,n3,n4,n5,i0,i1,i2,i3,i4,i5,i6,i7,hv_76,hrd0_2,hrd0_7,hrd0_8,hrd0_9,hrd0_10,hrd0_14,hrd0_13])
    refine (ReadTags_fn w76 hq76.1 hrok).mono ?_
    rintro _ w77 ⟨qm,rfl,hT77,hTn,hq77,hu77⟩
    have hv_77 := hu77.blk_some hv_76 (by omega)
    have hV77 : Upd (fun b => b = vb ∨ b = rb) w76 w77 := hu77.mono (fun _ h => .inr h)
    have hU77 : Upd (fun b => b = vb ∨ b = rb) w1 w77 := hU76.trans hV77
    have hz77 := hV77.size
    have hG77 : Glo ev w77 := hG1.updS hU77 hgM1 hgM2
    obtain ⟨s40,hs40⟩ : ∃ s,s = (rdTags s39).2 := ⟨_,rfl⟩
    rw [← hs40] at hq77 hfin
    repeat (first|simp (maxSteps:=1000000)(disch:=(first|omega|(simp only [qI,qJ,qK]<;>omega)|exact qL _)) only [go_sem,↓reduceIte,n0,reduceCtorEq,n1,n2,n3,n4,n5,i0,i1,i2,i3,i4,i5,i6,i7,hv_77,hrd0_2,hrd0_7,hrd0_8,hrd0_9,hrd0_10,hrd0_14,hrd0_13]|refine qA rfl ?_|apply qB|refine qC rfl ?_|apply qD|apply qE|apply qF|apply qG|apply qH)
    generalize hw78 : wr w77 vb 4 [.map qm] = w78
    have hS78 : Upd (fun b => b = vb ∨ b = rb) w77 w78 := by rw [← hw78];exact (Upd.refl _ _).wr _ _ (.inr (.inl rfl))
    have hv_78 : blk w78 vb = some (#[.int .i16 ver,.int .i32 (rdInt .i32 4 s0).1,.slice aa0 N0 qq0,.pointer none,.map qm],63,(0,0)) := by rw [← hw78,blk_wr_eq,hv_77];rfl
    have hV78 := hS78
    have hU78 : Upd (fun b => b = vb ∨ b = rb) w1 w78 := hU77.trans hV78
    have hz78 := hV78.size
    have hG78 : Glo ev w78 := hG1.updS hU78 hgM1 hgM2
    have hq78 := Rdr.stored hw78 hq77 (by omega) fun h => by have := (hok _ h).1;first | omega | exact (hok _ h).2 rfl
    clear hw78
    have hTg : TagsM (fun b => ok b ∨ w1.heap.size ≤ b) w78 (.map qm) (rdTags s39).1 := (hT77.weaken fun b _ hk => hk.elim (fun hk => .inl hk) (fun h => by have h' : w76.heap.size ≤ b := h;exact .inr (by omega))).keep (hV78.keeps fun b _ hk e => (hoM b hk) e)
    have hC_78 : Upd (fun b => b = vb ∨ b = rb) w78 w78 := Upd.refl _ _
    have hC_77 : Upd (fun b => b = vb ∨ b = rb) w77 w78 := hV78.trans hC_78
    have hC_76 : Upd (fun b => b = vb ∨ b = rb) w76 w78 := hV77.trans hC_77
    have hC_75 : Upd (fun b => b = vb ∨ b = rb) w75 w78 := hV76.trans hC_76
    have hC_74 : Upd (fun b => b = vb ∨ b = rb) w74 w78 := hV75.trans hC_75
    have hC_4 : Upd (fun b => b = vb ∨ b = rb) w4 w78 := hV74.trans hC_74
    have hC_3 : Upd (fun b => b = vb ∨ b = rb) w3 w78 := hV4.trans hC_4
    have hC_2 : Upd (fun b => b = vb ∨ b = rb) w2 w78 := hV3.trans hC_3
    have hC_1 : Upd (fun b => b = vb ∨ b = rb) w1 w78 := hV2.trans hC_2
    have hR : RepS true (d + 3) fsr_Q (fun b => ok b ∨ w1.heap.size ≤ b) w78 (.mk 0 [] false [x_0,x_1,x_2] (rdTags s39).1) [.int .i32 (rdInt .i32 4 s0).1,.slice aa0 N0 qq0,.pointer none,.map qm] := RepS.introT (c := [.int .i32 (rdInt .i32 4 s0).1,.slice aa0 N0 qq0,.pointer none]) (RepL.cons1 (hf_0.keepS (hC_3.keeps fun b _ hk e => (hoM b hk) e)) (RepL.cons1 (hf_1.keepS (hC_75.keeps fun b _ hk e => (hoM b hk) e)) (RepL.cons (c := [.pointer none]) (hf_2.keepS (hC_76.keeps fun b _ hk e => (hoM b hk) e)) RepL.nil))) hTg
    repeat ((first | refine qA rfl ?_|apply qB|refine qC rfl ?_|apply qD|apply qE|apply qF|apply qG|apply qH);try simp (maxSteps:=1000000)(disch:=(first|omega|(simp only [qI,qJ,qK]<;>omega)|exact qL _)) only [go_sem,↓reduceIte,n0,reduceCtorEq,n1,n2,n3,n4,n5,i0,i1,i2,i3,i4,i5,i6,i7,hv_78,hrd0_2,hrd0_7,hrd0_8,hrd0_9,hrd0_10,hrd0_14,hrd0_13])
    refine (RComplete_fn w78 hq78.1 hG78.2).mono ?_
    rintro _ wz ⟨rfl,hez⟩
    rw [hez]
    repeat ((first | refine qA rfl ?_|apply qB|refine qC rfl ?_|apply qD|apply qE|apply qF|apply qG|apply qH);try simp (maxSteps:=1000000)(disch:=(first|omega|(simp only [qI,qJ,qK]<;>omega)|exact qL _)) only [go_sem,↓reduceIte,n0,reduceCtorEq,n1,n2,n3,n4,n5,i0,i1,i2,i3,i4,i5,i6,i7,hv_78,hrd0_2,hrd0_7,hrd0_8,hrd0_9,hrd0_10,hrd0_14,hrd0_13])
    rw [hfin]
    refine ⟨fun h => ?_,fun h => ⟨?_,[.int .i32 (rdInt .i32 4 s0).1,.slice aa0 N0 qq0,.pointer none,.map qm],hv_78,?_⟩,?_⟩
    · have h' : s40 = none := h
      rw [h'];rfl
    · cases hsn : s40 with
      | none => exact absurd hsn h
      | some x => rfl
    · exact (RepS_lay true (d + 3) fsr_Q).weaken hR fun b _ hk => hk.imp id fun h => by omega
    · exact hbase.trans' hU78 fun i hi h => h.elim id fun h => by omega
  · have hyw : ¬ yo = -1 := hy1
    repeat (first|simp (maxSteps:=1000000)(disch:=(first|omega|(simp only [qI,qJ,qK]<;>omega)|exact qL _)) only [go_sem,↓reduceIte,n0,reduceCtorEq,n1,n2,n3,n4,n5,i0,i1,i2,i3,i4,i5,i6,i7,hv_76,hrd0_2,hrd0_7,hrd0_8,hrd0_9,hrd0_10,hrd0_14,hrd0_13,hyw]|refine qA rfl ?_|apply qB|refine qC rfl ?_|apply qD|apply qE|apply qF|apply qG|apply qH)
    refine (ROk_fn w76 hq76.1).mono ?_
    rintro _ wz ⟨rfl,hez⟩
    rw [hez]
    clear hez wz
    by_cases hsn : s39 = none
    · have hso : s39.isSome = false := by rw [hsn];rfl
      repeat (first|simp (maxSteps:=1000000)(disch:=(first|omega|(simp only [qI,qJ,qK]<;>omega)|exact qL _)) only [go_sem,↓reduceIte,n0,reduceCtorEq,n1,n2,n3,n4,n5,i0,i1,i2,i3,i4,i5,i6,i7,hv_76,hrd0_2,hrd0_7,hrd0_8,hrd0_9,hrd0_10,hrd0_14,hrd0_13,hso,hyw]|refine qA rfl ?_|apply qB|refine qC rfl ?_|apply qD|apply qE|apply qF|apply qG|apply qH)
      have hno : rdF (rdP (d + 2) ver true) ver true fQ_2 s38 = (.mk 0 [] true [] [],s39) := by rw [hro,rdOpt_no (.inr (hs39.symm.trans hsn)),← hs39]
      have hso_2 : s39 = (rdF (rdP (d + 2) ver true) ver true fQ_2 s38).2 := by rw [hno]
      have hf_2 : RepF (RepS true (d + 2)) (szS true (d + 2)) fQ_2 (fun b => ok b ∨ w1.heap.size ≤ b) w76 (x_2) [.pointer none] := by rw [hx_2,hno];exact (RepF_opt rfl (by decide)).2 ⟨_,rfl,PtrPart_none rfl⟩
      have hl_3 : rdL (rdP (d + 2) ver true) (dfP (d + 2)) ver true [] s39 = ([],s39) := rfl
      have hl_2 : rdL (rdP (d + 2) ver true) (dfP (d + 2)) ver true [fQ_2] s38 = ([x_2],s39) := by rw [rdL_st (by decide) hh_2,← hx_2,← hso_2,hl_3]
      have hl_1 : rdL (rdP (d + 2) ver true) (dfP (d + 2)) ver true [frQ_1,fQ_2] s1 = ([x_1,x_2],s39) := by rw [rdL_st (by decide) hh_1,← hx_1,← hs38,hl_2]
      have hl_0 : rdL (rdP (d + 2) ver true) (dfP (d + 2)) ver true [fQ_0,frQ_1,fQ_2] s0 = ([x_0,x_1,x_2],s39) := by rw [rdL_st (by decide) hh_0,← hx_0,← hs1,hl_1]
      have hfin : rdP (d + 3) ver true fsr_Q s0 = (.mk 0 [] false [x_0,x_1,x_2] (rdTags s39).1,(rdTags s39).2) := rdP_t hl_0
      repeat ((first | refine qA rfl ?_|apply qB|refine qC rfl ?_|apply qD|apply qE|apply qF|apply qG|apply qH);try simp (maxSteps:=1000000)(disch:=(first|omega|(simp only [qI,qJ,qK]<;>omega)|exact qL _)) only [go_sem,↓reduceIte,n0,reduceCtorEq,n1,n2,n3,n4,n5,i0,i1,i2,i3,i4,i5,i6,i7,hv_76,hrd0_2,hrd0_7,hrd0_8,hrd0_9,hrd0_10,hrd0_14,hrd0_13])
      refine (ReadTags_fn w76 hq76.1 hrok).mono ?_
      rintro _ w77 ⟨qm,rfl,hT77,hTn,hq77,hu77⟩
      have hv_77 := hu77.blk_some hv_76 (by omega)
      have hV77 : Upd (fun b => b = vb ∨ b = rb) w76 w77 := hu77.mono (fun _ h => .inr h)
      have hU77 : Upd (fun b => b = vb ∨ b = rb) w1 w77 := hU76.trans hV77
      have hz77 := hV77.size
      have hG77 : Glo ev w77 := hG1.updS hU77 hgM1 hgM2
      obtain ⟨s41,hs41⟩ : ∃ s,s = (rdTags s39).2 := ⟨_,rfl⟩
      rw [← hs41] at hq77 hfin
      repeat (first|simp (maxSteps:=1000000)(disch:=(first|omega|(simp only [qI,qJ,qK]<;>omega)|exact qL _)) only [go_sem,↓reduceIte,n0,reduceCtorEq,n1,n2,n3,n4,n5,i0,i1,i2,i3,i4,i5,i6,i7,hv_77,hrd0_2,hrd0_7,hrd0_8,hrd0_9,hrd0_10,hrd0_14,hrd0_13]|refine qA rfl ?_|apply qB|refine qC rfl ?_|apply qD|apply qE|apply qF|apply qG|apply qH)
      generalize hw78 : wr w77 vb 4 [.map qm] = w78
      have hS78 : Upd (fun b => b = vb ∨ b = rb) w77 w78 := by rw [← hw78];exact (Upd.refl _ _).wr _ _ (.inr (.inl rfl))
      have hv_78 : blk w78 vb = some (#[.int .i16 ver,.int .i32 (rdInt .i32 4 s0).1,.slice aa0 N0 qq0,.pointer none,.map qm],63,(0,0)) := by rw [← hw78,blk_wr_eq,hv_77];rfl
      have hV78 := hS78
      have hU78 : Upd (fun b => b = vb ∨ b = rb) w1 w78 := hU77.trans hV78
      have hz78 := hV78.size
      have hG78 : Glo ev w78 := hG1.updS hU78 hgM1 hgM2
      have hq78 := Rdr.stored hw78 hq77 (by omega) fun h => by have := (hok _ h).1;first | omega | exact (hok _ h).2 rfl
      clear hw78
      have hTg : TagsM (fun b => ok b ∨ w1.heap.size ≤ b) w78 (.map qm) (rdTags s39).1 := (hT77.weaken fun b _ hk => hk.elim (fun hk => .inl hk) (fun h => by have h' : w76.heap.size ≤ b := h;exact .inr (by omega))).keep (hV78.keeps fun b _ hk e => (hoM b hk) e)
      have hC_78 : Upd (fun b => b = vb ∨ b = rb) w78 w78 := Upd.refl _ _
      have hC_77 : Upd (fun b => b = vb ∨ b = rb) w77 w78 := hV78.trans hC_78
      have hC_76 : Upd (fun b => b = vb ∨ b = rb) w76 w78 := hV77.trans hC_77
      have hC_75 : Upd (fun b => b = vb ∨ b = rb) w75 w78 := hV76.trans hC_76
      have hC_74 : Upd (fun b => b = vb ∨ b = rb) w74 w78 := hV75.trans hC_75
      have hC_4 : Upd (fun b => b = vb ∨ b = rb) w4 w78 := hV74.trans hC_74
      have hC_3 : Upd (fun b => b = vb ∨ b = rb) w3 w78 := hV4.trans hC_4
      have hC_2 : Upd (fun b => b = vb ∨ b = rb) w2 w78 := hV3.trans hC_3
      have hC_1 : Upd (fun b => b = vb ∨ b = rb) w1 w78 := hV2.trans hC_2
      have hR : RepS true (d + 3) fsr_Q (fun b => ok b ∨ w1.heap.size ≤ b) w78 (.mk 0 [] false [x_0,x_1,x_2] (rdTags s39).1) [.int .i32 (rdInt .i32 4 s0).1,.slice aa0 N0 qq0,.pointer none,.map qm] := RepS.introT (c := [.int .i32 (rdInt .i32 4 s0).1,.slice aa0 N0 qq0,.pointer none]) (RepL.cons1 (hf_0.keepS (hC_3.keeps fun b _ hk e => (hoM b hk) e)) (RepL.cons1 (hf_1.keepS (hC_75.keeps fun b _ hk e => (hoM b hk) e)) (RepL.cons (c := [.pointer none]) (hf_2.keepS (hC_76.keeps fun b _ hk e => (hoM b hk) e)) RepL.nil))) hTg
      repeat ((first | refine qA rfl ?_|apply qB|refine qC rfl ?_|apply qD|apply qE|apply qF|apply qG|apply qH);try simp (maxSteps:=1000000)(disch:=(first|omega|(simp only [qI,qJ,qK]<;>omega)|exact qL _)) only [go_sem,↓reduceIte,n0,reduceCtorEq,n1,n2,n3,n4,n5,i0,i1,i2,i3,i4,i5,i6,i7,hv_78,hrd0_2,hrd0_7,hrd0_8,hrd0_9,hrd0_10,hrd0_14,hrd0_13])
      refine (RComplete_fn w78 hq78.1 hG78.2).mono ?_
      rintro _ wz ⟨rfl,hez⟩
      rw [hez]
      repeat ((first | refine qA rfl ?_|apply qB|refine qC rfl ?_|apply qD|apply qE|apply qF|apply qG|apply qH);try simp (maxSteps:=1000000)(disch:=(first|omega|(simp only [qI,qJ,qK]<;>omega)|exact qL _)) only [go_sem,↓reduceIte,n0,reduceCtorEq,n1,n2,n3,n4,n5,i0,i1,i2,i3,i4,i5,i6,i7,hv_78,hrd0_2,hrd0_7,hrd0_8,hrd0_9,hrd0_10,hrd0_14,hrd0_13])
      rw [hfin]
      refine ⟨fun h => ?_,fun h => ⟨?_,[.int .i32 (rdInt .i32 4 s0).1,.slice aa0 N0 qq0,.pointer none,.map qm],hv_78,?_⟩,?_⟩
      · have h' : s41 = none := h
        rw [h'];rfl
      · cases hsn : s41 with
        | none => exact absurd hsn h
        | some x => rfl
      · exact (RepS_lay true (d + 3) fsr_Q).weaken hR fun b _ hk => hk.imp id fun h => by omega
      · exact hbase.trans' hU78 fun i hi h => h.elim id fun h => by omega
    have hso : s39.isSome = true := isSome_some hsn
    repeat (first|simp (maxSteps:=1000000)(disch:=(first|omega|(simp only [qI,qJ,qK]<;>omega)|exact qL _)) only [go_sem,↓reduceIte,n0,reduceCtorEq,n1,n2,n3,n4,n5,i0,i1,i2,i3,i4,i5,i6,i7,hv_76,hrd0_2,hrd0_7,hrd0_8,hrd0_9,hrd0_10,hrd0_14,hrd0_13,hso,hyw]|refine qA rfl ?_|apply qB|refine qC rfl ?_|apply qD|apply qE|apply qF|apply qG|apply qH)
    have hEa : Ext w76 (w76.alloc (.cells #[.string ByteArray.empty,.int .i32 0,.map none] 92)) := Upd.alloc (Upd.refl _ _) _
    have hva := hEa.blk_some hv_76 id
    have hza : (w76.alloc (.cells #[.string ByteArray.empty,.int .i32 0,.map none] 92)).heap.size = w76.heap.size + 1 := World.size_alloc _ _
    have hSp : Upd (fun b => b = vb) w76 (wr (w76.alloc (.cells #[.string ByteArray.empty,.int .i32 0,.map none] 92)) vb 3 [.pointer (some ⟨w76.heap.size,0,none⟩)]) := (hEa.mono fun _ h => h.elim).wr _ _ (.inr rfl)
    have hv_77 : blk (wr (w76.alloc (.cells #[.string ByteArray.empty,.int .i32 0,.map none] 92)) vb 3 [.pointer (some ⟨w76.heap.size,0,none⟩)]) vb = some (#[.int .i16 ver,.int .i32 (rdInt .i32 4 s0).1,.slice aa0 N0 qq0,.pointer (some ⟨w76.heap.size,0,none⟩),.map none],63,(0,0)) := by rw [blk_wr_eq,hva];rfl
    have hp_77 : blk (wr (w76.alloc (.cells #[.string ByteArray.empty,.int .i32 0,.map none] 92)) vb 3 [.pointer (some ⟨w76.heap.size,0,none⟩)]) w76.heap.size = some (#[.string ByteArray.empty,.int .i32 0,.map none],92,(0,0)) := by rw [blk_wr_ne (by omega)];exact blk_alloc_new rfl
    have hzk : (wr (w76.alloc (.cells #[.string ByteArray.empty,.int .i32 0,.map none] 92)) vb 3 [.pointer (some ⟨w76.heap.size,0,none⟩)]).heap.size = w76.heap.size + 1 := by rw [size_wr,hza]
    have hq77 : Rdr RT ok (wr (w76.alloc (.cells #[.string ByteArray.empty,.int .i32 0,.map none] 92)) vb 3 [.pointer (some ⟨w76.heap.size,0,none⟩)]) rb s39 ∧ NN (wr (w76.alloc (.cells #[.string ByteArray.empty,.int .i32 0,.map none] 92)) vb 3 [.pointer (some ⟨w76.heap.size,0,none⟩)]) rb s39 := ⟨hq76.1.upd hSp (by omega) (fun b _ hk e => (hok b hk).2 e),hq76.2.upd hSp (by omega)⟩
    obtain ⟨R1,hR1e⟩ : ∃ x,x = w76.heap.size := ⟨_,rfl⟩
    generalize hwk : (wr (w76.alloc (.cells #[.string ByteArray.empty,.int .i32 0,.map none] 92)) vb 3 [.pointer (some ⟨w76.heap.size,0,none⟩)]) = w77 at *
    try simp (maxSteps:=1000000)(disch:=(first|omega|(simp only [qI,qJ,qK]<;>omega)|exact qL _)) only [go_sem,↓reduceIte,n0,reduceCtorEq,n1,n2,n3,n4,n5,i0,i1,i2,i3,i4,i5,i6,i7,hwk]
    rw [← hR1e] at hv_77 hp_77 hzk hwk
    try rw [← hR1e]
    repeat ((first | refine qA rfl ?_|apply qB|refine qC rfl ?_|apply qD|apply qE|apply qF|apply qG|apply qH);try simp (maxSteps:=1000000)(disch:=(first|omega|(simp only [qI,qJ,qK]<;>omega)|exact qL _)) only [go_sem,↓reduceIte,n0,reduceCtorEq,n1,n2,n3,n4,n5,i0,i1,i2,i3,i4,i5,i6,i7,hv_77,hp_77,hrd0_2,hrd0_7,hrd0_8,hrd0_9,hrd0_10,hrd0_14,hrd0_13,hwk])
    clear hwk
    have hV77 : Upd (fun b => b = vb ∨ b = rb) w76 w77 := hSp.mono fun _ h => .inl h
    have hU77 : Upd (fun b => b = vb ∨ b = rb) w1 w77 := hU76.trans hV77
    have hz77 := hV77.size
    have hG77 : Glo ev w77 := hG1.updS hU77 hgM1 hgM2
    have hzR : w1.heap.size ≤ R1 := by rw [hR1e];exact hU76.size
    repeat ((first | refine qA rfl ?_|apply qB|refine qC rfl ?_|apply qD|apply qE|apply qF|apply qG|apply qH);try simp (maxSteps:=1000000)(disch:=(first|omega|(simp only [qI,qJ,qK]<;>omega)|exact qL _)) only [go_sem,↓reduceIte,n0,reduceCtorEq,n1,n2,n3,n4,n5,i0,i1,i2,i3,i4,i5,i6,i7,hv_77,hp_77,hrd0_2,hrd0_7,hrd0_8,hrd0_9,hrd0_10,hrd0_14,hrd0_13])
    refine (DefaultPX1_fn w77 hp_77).mono ?_
    rintro _ wz ⟨-,hez⟩
    rw [hez]
    clear hez wz
    obtain ⟨A1,hA1e⟩ : ∃ A : List Value,A = [] := ⟨_,rfl⟩
    obtain ⟨B1,hB1e⟩ : ∃ B : List Value,B = [] := ⟨_,rfl⟩
    have hA1 : A1.length = 0 := by rw [hA1e];rfl
    have hx1_77 : blk w77 R1 = some ((A1 ++ (([.string ByteArray.empty,.int .i32 0,.map none] : List Value) ++ B1)).toArray,92,(0,0)) := by rw [hA1e,hB1e];exact hp_77
    have hown1 : ∀ b,ownB (Value.slice (some ⟨R1,0,none⟩) 1 1) b → w76.heap.size ≤ b ∧ b < w77.heap.size := fun b h => by have := ownB_row h;omega
    have hoM1 : ∀ b,(fun b => (ok b ∨ w1.heap.size ≤ b) ∧ ¬ ownB (Value.slice (some ⟨R1,0,none⟩) 1 1) b) b → ¬ (b = R1 ∨ b = rb) := fun b hk h => h.elim (fun e => hk.2 ⟨_,_,_,rfl,e⟩) (fun e => hoM b hk.1 (.inr e))
    obtain ⟨X77,hX77,hxb77,hXs77⟩ := el_open (n := 3) hx1_77 hA1 rfl
    have hbo_0 : (rdL (rdP (d + 1) ver true) (dfP (d + 1)) ver true [fX1_0,fX1_1] s39).2 = none → FB := fun h => hb_2 (by rw [rdL_st (by decide) hh_2];exact rdL_bad (by rw [hro,rdOpt_yes (fun h => hyw (hyo.trans h)) (fun h => hsn (hs39.trans h)),← hs39];exact rdP_bad h))
    have hho_0 : hasS fX1_0 ver = true := hasS_t (by show (0 : Int) ≤ ver;omega) (by show (-1 : Int) < 0 ∨ ver ≤ (-1 : Int);omega)
    obtain ⟨xo_0,hxo_0⟩ : ∃ x,x = (rdF (rdP (d + 1) ver true) ver true fX1_0 s39).1 := ⟨_,rfl⟩
    repeat ((first | refine qA rfl ?_|apply qB|refine qC rfl ?_|apply qD|apply qE|apply qF|apply qG|apply qH);try simp (maxSteps:=1000000)(disch:=(first|omega|(simp only [qI,qJ,qK]<;>omega)|exact qL _)) only [go_sem,↓reduceIte,n0,reduceCtorEq,n1,n2,n3,n4,n5,i0,i1,i2,i3,i4,i5,i6,i7,hxb77,hrd0_2,hrd0_7,hrd0_8,hrd0_9,hrd0_10,hrd0_14,hrd0_13])
    have hmay : mayS fX1_0 ver = false := mayS_no (by show (-1 : Int) < 0 ∨ ver < (-1 : Int);omega)
    have hrd : rdF (rdP (d + 1) ver true) ver true fX1_0 s39 = _ := rdF_text rfl hmay
    refine (RCompactString_fn w77 hq77.1 hrok hG77.1 hgrb).mono ?_
    rintro _ w78 ⟨rfl,hq78,hu78⟩
    have hx1_78 := hu78.blk_some hx1_77 (by omega)
    have hV78 : Upd (fun b => b = R1 ∨ b = rb) w77 w78 := hu78.mono (fun _ h => .inr h)
    have hU78 : Upd (fun b => b = vb ∨ b = rb) w1 w78 := hU77.trans' hV78 fun i hi h => h.elim (fun h => by omega) .inr
    have hz78 := hV78.size
    have hG78 : Glo ev w78 := hG1.updS hU78 hgM1 hgM2
    obtain ⟨X78,hX78,hxb78,hXs78⟩ := el_open (n := 3) hx1_78 hA1 rfl
    have hst : (rdF (rdP (d + 1) ver true) ver true fX1_0 s39).2 = (rdStr true s39).2 := by first | (rw [hrd];rfl) | rw [hrd]
    obtain ⟨s42,hs42⟩ : ∃ s,s = (rdF (rdP (d + 1) ver true) ver true fX1_0 s39).2 := ⟨_,rfl⟩
    rw [← hst,← hs42] at hq78
    clear hst
    have hst78_0 : 1 ≤ X78.size := by omega
    repeat ((first | refine qA rfl ?_|apply qB|refine qC rfl ?_|apply qD|apply qE|apply qF|apply qG|apply qH);try simp (maxSteps:=1000000)(disch:=(first|omega|(simp only [qI,qJ,qK]<;>omega)|exact qL _)) only [go_sem,↓reduceIte,n0,reduceCtorEq,n1,n2,n3,n4,n5,i0,i1,i2,i3,i4,i5,i6,i7,hxb78,hrd0_2,hrd0_7,hrd0_8,hrd0_9,hrd0_10,hrd0_14,hrd0_13,hst78_0])
    generalize hw79 : wr w78 R1 (0) [strV (rdStr true s39).1] = w79
    have hS79 : Upd (fun b => b = R1 ∨ b = rb) w78 w79 := by rw [← hw79];exact (Upd.refl _ _).wr _ _ (.inr (.inl rfl))
    have hx1_79 : blk w79 R1 = some ((A1 ++ (([strV (rdStr true s39).1,.int .i32 0,.map none] : List Value) ++ B1)).toArray,92,(0,0)) := by rw [← hw79];exact el_blk0 hx1_78 hA1 (Nat.le_of_ble_eq_true rfl)
    have hV79 := hS79
    have hU79 : Upd (fun b => b = vb ∨ b = rb) w1 w79 := hU78.trans' hV79 fun i hi h => h.elim (fun h => by omega) .inr
    have hz79 := hV79.size
    have hG79 : Glo ev w79 := hG1.updS hU79 hgM1 hgM2
    have hq79 := Rdr.stored hw79 hq78 (by omega) fun h => by have := (hok _ h).1;first | omega | exact (hok _ h).2 rfl
    obtain ⟨X79,hX79,hxb79,hXs79⟩ := el_open (n := 3) hx1_79 hA1 rfl
    clear hw79
    have hfo_0 : RepF (RepS true (d + 1)) (szS true (d + 1)) fX1_0 (fun b => (ok b ∨ w1.heap.size ≤ b) ∧ ¬ ownB (Value.slice (some ⟨R1,0,none⟩) 1 1) b) w79 (xo_0) [strV (rdStr true s39).1] := (RepF_text rfl (by decide)).2 (by rw [hxo_0,hrd];rfl)
    clear hrd
    have hbo_1 : (rdL (rdP (d + 1) ver true) (dfP (d + 1)) ver true [fX1_1] s42).2 = none → FB := fun h => hbo_0 (by rw [rdL_st (by decide) hho_0,← hs42];exact h)
    have hho_1 : hasS fX1_1 ver = true := hasS_t (by show (0 : Int) ≤ ver;omega) (by show (-1 : Int) < 0 ∨ ver ≤ (-1 : Int);omega)
    obtain ⟨xo_1,hxo_1⟩ : ∃ x,x = (rdF (rdP (d + 1) ver true) ver true fX1_1 s42).1 := ⟨_,rfl⟩
    repeat ((first | refine qA rfl ?_|apply qB|refine qC rfl ?_|apply qD|apply qE|apply qF|apply qG|apply qH);try simp (maxSteps:=1000000)(disch:=(first|omega|(simp only [qI,qJ,qK]<;>omega)|exact qL _)) only [go_sem,↓reduceIte,n0,reduceCtorEq,n1,n2,n3,n4,n5,i0,i1,i2,i3,i4,i5,i6,i7,hxb79,hrd0_2,hrd0_7,hrd0_8,hrd0_9,hrd0_10,hrd0_14,hrd0_13])
    have hrd : rdF (rdP (d + 1) ver true) ver true fX1_1 s42 = _ := rdF_num 3 rfl (by decide)
    refine (Int32_fn w79 hq79.1 hrok hG79.1 hgrb).mono ?_
    rintro _ w80 ⟨rfl,hq80,hu80⟩
    have hx1_80 := hu80.blk_some hx1_79 (by omega)
    have hV80 : Upd (fun b => b = R1 ∨ b = rb) w79 w80 := hu80.mono (fun _ h => .inr h)
    have hU80 : Upd (fun b => b = vb ∨ b = rb) w1 w80 := hU79.trans' hV80 fun i hi h => h.elim (fun h => by omega) .inr
    have hz80 := hV80.size
    have hG80 : Glo ev w80 := hG1.updS hU80 hgM1 hgM2
    obtain ⟨X80,hX80,hxb80,hXs80⟩ := el_open (n := 3) hx1_80 hA1 rfl
    have hst : (rdF (rdP (d + 1) ver true) ver true fX1_1 s42).2 = (rdInt .i32 4 s42).2 := by first | (rw [hrd];rfl) | rw [hrd]
    obtain ⟨s43,hs43⟩ : ∃ s,s = (rdF (rdP (d + 1) ver true) ver true fX1_1 s42).2 := ⟨_,rfl⟩
    rw [← hst,← hs43] at hq80
    clear hst
    have hst80_1 : 2 ≤ X80.size := by omega
    repeat ((first | refine qA rfl ?_|apply qB|refine qC rfl ?_|apply qD|apply qE|apply qF|apply qG|apply qH);try simp (maxSteps:=1000000)(disch:=(first|omega|(simp only [qI,qJ,qK]<;>omega)|exact qL _)) only [go_sem,↓reduceIte,n0,reduceCtorEq,n1,n2,n3,n4,n5,i0,i1,i2,i3,i4,i5,i6,i7,hxb80,hrd0_2,hrd0_7,hrd0_8,hrd0_9,hrd0_10,hrd0_14,hrd0_13,hst80_1])
    generalize hw81 : wr w80 R1 (1) [.int .i32 (rdInt .i32 4 s42).1] = w81
    have hS81 : Upd (fun b => b = R1 ∨ b = rb) w80 w81 := by rw [← hw81];exact (Upd.refl _ _).wr _ _ (.inr (.inl rfl))
    have hx1_81 : blk w81 R1 = some ((A1 ++ (([strV (rdStr true s39).1,.int .i32 (rdInt .i32 4 s42).1,.map none] : List Value) ++ B1)).toArray,92,(0,0)) := by rw [← hw81];exact el_blk (o := 1) hx1_80 hA1 (Nat.le_of_ble_eq_true rfl)
    have hV81 := hS81
    have hU81 : Upd (fun b => b = vb ∨ b = rb) w1 w81 := hU80.trans' hV81 fun i hi h => h.elim (fun h => by omega) .inr
    have hz81 := hV81.size
    have hG81 : Glo ev w81 := hG1.updS hU81 hgM1 hgM2
    have hq81 := Rdr.stored hw81 hq80 (by omega) fun h => by have := (hok _ h).1;first | omega | exact (hok _ h).2 rfl
    obtain ⟨X81,hX81,hxb81,hXs81⟩ := el_open (n := 3) hx1_81 hA1 rfl
    clear hw81
    have hfo_1 : RepF (RepS true (d + 1)) (szS true (d + 1)) fX1_1 (fun b => (ok b ∨ w1.heap.size ≤ b) ∧ ¬ ownB (Value.slice (some ⟨R1,0,none⟩) 1 1) b) w81 (xo_1) [.int .i32 (rdInt .i32 4 s42).1] := (RepF_num (by decide)).2 (by rw [hxo_1,hrd];exact congrArg (fun x => [x]) (numC_rd 3 (by decide) 4 s42).symm)
    clear hrd
    have hlo_2 : rdL (rdP (d + 1) ver true) (dfP (d + 1)) ver true [] s43 = ([],s43) := rfl
    have hlo_1 : rdL (rdP (d + 1) ver true) (dfP (d + 1)) ver true [fX1_1] s42 = ([xo_1],s43) := by rw [rdL_st (by decide) hho_1,← hxo_1,← hs43,hlo_2]
    have hlo_0 : rdL (rdP (d + 1) ver true) (dfP (d + 1)) ver true [fX1_0,fX1_1] s39 = ([xo_0,xo_1],s43) := by rw [rdL_st (by decide) hho_0,← hxo_0,← hs42,hlo_1]
    have hfino : rdP (d + 2) ver true fs_X1 s39 = (.mk 0 [] false [xo_0,xo_1] (rdTags s43).1,(rdTags s43).2) := rdP_t hlo_0
    repeat ((first | refine qA rfl ?_|apply qB|refine qC rfl ?_|apply qD|apply qE|apply qF|apply qG|apply qH);try simp (maxSteps:=1000000)(disch:=(first|omega|(simp only [qI,qJ,qK]<;>omega)|exact qL _)) only [go_sem,↓reduceIte,n0,reduceCtorEq,n1,n2,n3,n4,n5,i0,i1,i2,i3,i4,i5,i6,i7,hxb81,hrd0_2,hrd0_7,hrd0_8,hrd0_9,hrd0_10,hrd0_14,hrd0_13])
    refine (ReadTags_fn w81 hq81.1 hrok).mono ?_
    rintro _ w82 ⟨qmo,rfl,hT82,hTn,hq82,hu82⟩
    have hx1_82 := hu82.blk_some hx1_81 (by omega)
    have hV82 : Upd (fun b => b = R1 ∨ b = rb) w81 w82 := hu82.mono (fun _ h => .inr h)
    have hU82 : Upd (fun b => b = vb ∨ b = rb) w1 w82 := hU81.trans' hV82 fun i hi h => h.elim (fun h => by omega) .inr
    have hz82 := hV82.size
    have hG82 : Glo ev w82 := hG1.updS hU82 hgM1 hgM2
    obtain ⟨X82,hX82,hxb82,hXs82⟩ := el_open (n := 3) hx1_82 hA1 rfl
    obtain ⟨s44,hs44⟩ : ∃ s,s = (rdTags s43).2 := ⟨_,rfl⟩
    rw [← hs44] at hq82 hfino
    have hst82_2 : 3 ≤ X82.size := by omega
    repeat (first|simp (maxSteps:=1000000)(disch:=(first|omega|(simp only [qI,qJ,qK]<;>omega)|exact qL _)) only [go_sem,↓reduceIte,n0,reduceCtorEq,n1,n2,n3,n4,n5,i0,i1,i2,i3,i4,i5,i6,i7,hxb82,hrd0_2,hrd0_7,hrd0_8,hrd0_9,hrd0_10,hrd0_14,hrd0_13,hst82_2]|refine qA rfl ?_|apply qB|refine qC rfl ?_|apply qD|apply qE|apply qF|apply qG|apply qH)
    generalize hw83 : wr w82 R1 (2) [.map qmo] = w83
    have hS83 : Upd (fun b => b = R1 ∨ b = rb) w82 w83 := by rw [← hw83];exact (Upd.refl _ _).wr _ _ (.inr (.inl rfl))
    have hx1_83 : blk w83 R1 = some ((A1 ++ (([strV (rdStr true s39).1,.int .i32 (rdInt .i32 4 s42).1,.map qmo] : List Value) ++ B1)).toArray,92,(0,0)) := by rw [← hw83];exact el_blk (o := 2) hx1_82 hA1 (Nat.le_of_ble_eq_true rfl)
    have hV83 := hS83
    have hU83 : Upd (fun b => b = vb ∨ b = rb) w1 w83 := hU82.trans' hV83 fun i hi h => h.elim (fun h => by omega) .inr
    have hz83 := hV83.size
    have hG83 : Glo ev w83 := hG1.updS hU83 hgM1 hgM2
    have hq83 := Rdr.stored hw83 hq82 (by omega) fun h => by have := (hok _ h).1;first | omega | exact (hok _ h).2 rfl
    obtain ⟨X83,hX83,hxb83,hXs83⟩ := el_open (n := 3) hx1_83 hA1 rfl
    clear hw83
    have hTgo : TagsM (fun b => (ok b ∨ w1.heap.size ≤ b) ∧ ¬ ownB (Value.slice (some ⟨R1,0,none⟩) 1 1) b) w83 (.map qmo) (rdTags s43).1 := (hT82.weaken fun b _ hk => hk.elim (fun hk => ⟨.inl hk,fun ho => by have := (hown1 b ho).1;have := (hok b hk).1;omega⟩) (fun h => by have h' : w81.heap.size ≤ b := h;exact ⟨.inr (by omega),fun ho => by have := (hown1 _ ho).2;omega⟩)).keep (hV83.keeps fun b _ hk e => hoM1 b hk e)
    have hCo_83 : Upd (fun b => b = R1 ∨ b = rb) w83 w83 := Upd.refl _ _
    have hCo_82 : Upd (fun b => b = R1 ∨ b = rb) w82 w83 := hV83.trans hCo_83
    have hCo_81 : Upd (fun b => b = R1 ∨ b = rb) w81 w83 := hV82.trans hCo_82
    have hCo_80 : Upd (fun b => b = R1 ∨ b = rb) w80 w83 := hV81.trans hCo_81
    have hCo_79 : Upd (fun b => b = R1 ∨ b = rb) w79 w83 := hV80.trans hCo_80
    have hCo_78 : Upd (fun b => b = R1 ∨ b = rb) w78 w83 := hV79.trans hCo_79
    have hCo_77 : Upd (fun b => b = R1 ∨ b = rb) w77 w83 := hV78.trans hCo_78
    have hRo : RepS true (d + 2) fs_X1 (fun b => (ok b ∨ w1.heap.size ≤ b) ∧ ¬ ownB (Value.slice (some ⟨R1,0,none⟩) 1 1) b) w83 (.mk 0 [] false [xo_0,xo_1] (rdTags s43).1) [strV (rdStr true s39).1,.int .i32 (rdInt .i32 4 s42).1,.map qmo] := RepS.introT (c := [strV (rdStr true s39).1,.int .i32 (rdInt .i32 4 s42).1]) (RepL.cons1 (hfo_0.keepS (hCo_79.keeps fun b _ hk e => hoM1 b hk e)) (RepL.cons1 (hfo_1.keepS (hCo_81.keeps fun b _ hk e => hoM1 b hk e)) RepL.nil)) hTgo
    have hTk : Upd (fun b => b = R1 ∨ b = rb) w77 w83 := (((((hV78.trans hV79).trans hV80).trans hV81).trans hV82).trans hV83)
    have hfo : rdF (rdP (d + 2) ver true) ver true fQ_2 s38 = ((.mk 0 [] false [xo_0,xo_1] (rdTags s43).1),s44) := by rw [hro,rdOpt_yes (fun h => hyw (hyo.trans h)) (fun h => hsn (hs39.trans h)),← hs39];exact hfino
    have hso_3 : s44 = (rdF (rdP (d + 2) ver true) ver true fQ_2 s38).2 := by rw [hfo]
    have hbo : blk w83 R1 = some (([strV (rdStr true s39).1,.int .i32 (rdInt .i32 4 s42).1,.map qmo] : List Value).toArray,92,(0,0)) := by
      have h := hx1_83
      rw [hA1e,hB1e] at h
      simpa only [List.nil_append,List.append_nil] using h
    have hv_83 := hTk.blk_some hv_77 (by rintro (h | h) <;> omega)
    have hVo : Upd (fun b => b = vb ∨ b = rb) w76 w83 := hV77.trans' hTk fun i hi h => h.elim (fun h => by omega) .inr
    have hV83 : Upd (fun b => b = vb ∨ b = rb) w76 w83 := hVo
    have hf_2 : RepF (RepS true (d + 2)) (szS true (d + 2)) fQ_2 (fun b => ok b ∨ w1.heap.size ≤ b) w83 (x_2) [.pointer (some ⟨R1,0,none⟩)] := by rw [hx_2,hfo];exact (RepF_opt rfl (by decide)).2 ⟨_,rfl,PtrPart_some rfl (.inr hzR) hbo ((RepS_lay true (d + 2) fs_X1).weaken hRo fun b _ hk => hk.1)⟩
    have hl_3 : rdL (rdP (d + 2) ver true) (dfP (d + 2)) ver true [] s44 = ([],s44) := rfl
    have hl_2 : rdL (rdP (d + 2) ver true) (dfP (d + 2)) ver true [fQ_2] s38 = ([x_2],s44) := by rw [rdL_st (by decide) hh_2,← hx_2,← hso_3,hl_3]
    have hl_1 : rdL (rdP (d + 2) ver true) (dfP (d + 2)) ver true [frQ_1,fQ_2] s1 = ([x_1,x_2],s44) := by rw [rdL_st (by decide) hh_1,← hx_1,← hs38,hl_2]
    have hl_0 : rdL (rdP (d + 2) ver true) (dfP (d + 2)) ver true [fQ_0,frQ_1,fQ_2] s0 = ([x_0,x_1,x_2],s44) := by rw [rdL_st (by decide) hh_0,← hx_0,← hs1,hl_1]
    have hfin : rdP (d + 3) ver true fsr_Q s0 = (.mk 0 [] false [x_0,x_1,x_2] (rdTags s44).1,(rdTags s44).2) := rdP_t hl_0
    repeat ((first | refine qA rfl ?_|apply qB|refine qC rfl ?_|apply qD|apply qE|apply qF|apply qG|apply qH);try simp (maxSteps:=1000000)(disch:=(first|omega|(simp only [qI,qJ,qK]<;>omega)|exact qL _)) only [go_sem,↓reduceIte,n0,reduceCtorEq,n1,n2,n3,n4,n5,i0,i1,i2,i3,i4,i5,i6,i7,hv_83,hrd0_2,hrd0_7,hrd0_8,hrd0_9,hrd0_10,hrd0_14,hrd0_13])
    refine (ReadTags_fn w83 hq83.1 hrok).mono ?_
    rintro _ w84 ⟨qm,rfl,hT84,hTn,hq84,hu84⟩
    have hv_84 := hu84.blk_some hv_83 (by omega)
    have hV84 : Upd (fun b => b = vb ∨ b = rb) w83 w84 := hu84.mono (fun _ h => .inr h)
    have hU84 : Upd (fun b => b = vb ∨ b = rb) w1 w84 := hU83.trans hV84
    have hz84 := hV84.size
    have hG84 : Glo ev w84 := hG1.updS hU84 hgM1 hgM2
    obtain ⟨s45,hs45⟩ : ∃ s,s = (rdTags s44).2 := ⟨_,rfl⟩
    rw [← hs45] at hq84 hfin
    repeat (first|simp (maxSteps:=1000000)(disch:=(first|omega|(simp only [qI,qJ,qK]<;>omega)|exact qL _)) only [go_sem,↓reduceIte,n0,reduceCtorEq,n1,n2,n3,n4,n5,i0,i1,i2,i3,i4,i5,i6,i7,hv_84,hrd0_2,hrd0_7,hrd0_8,hrd0_9,hrd0_10,hrd0_14,hrd0_13]|refine qA rfl ?_|apply qB|refine qC rfl ?_|apply qD|apply qE|apply qF|apply qG|apply qH)
    generalize hw85 : wr w84 vb 4 [.map qm] = w85
    have hS85 : Upd (fun b => b = vb ∨ b = rb) w84 w85 := by rw [← hw85];exact (Upd.refl _ _).wr _ _ (.inr (.inl rfl))
    have hv_85 : blk w85 vb = some (#[.int .i16 ver,.int .i32 (rdInt .i32 4 s0).1,.slice aa0 N0 qq0,.pointer (some ⟨R1,0,none⟩),.map qm],63,(0,0)) := by rw [← hw85,blk_wr_eq,hv_84];rfl
    have hV85 := hS85
    have hU85 : Upd (fun b => b = vb ∨ b = rb) w1 w85 := hU84.trans hV85
    have hz85 := hV85.size
    have hG85 : Glo ev w85 := hG1.updS hU85 hgM1 hgM2
    have hq85 := Rdr.stored hw85 hq84 (by omega) fun h => by have := (hok _ h).1;first | omega | exact (hok _ h).2 rfl
    clear hw85
    have hTg : TagsM (fun b => ok b ∨ w1.heap.size ≤ b) w85 (.map qm) (rdTags s44).1 := (hT84.weaken fun b _ hk => hk.elim (fun hk => .inl hk) (fun h => by have h' : w83.heap.size ≤ b := h;exact .inr (by omega))).keep (hV85.keeps fun b _ hk e => (hoM b hk) e)
    have hC_85 : Upd (fun b => b = vb ∨ b = rb) w85 w85 := Upd.refl _ _
    have hC_84 : Upd (fun b => b = vb ∨ b = rb) w84 w85 := hV85.trans hC_85
    have hC_83 : Upd (fun b => b = vb ∨ b = rb) w83 w85 := hV84.trans hC_84
    have hC_76 : Upd (fun b => b = vb ∨ b = rb) w76 w85 := hV83.trans hC_83
    have hC_75 : Upd (fun b => b = vb ∨ b = rb) w75 w85 := hV76.trans hC_76
    have hC_74 : Upd (fun b => b = vb ∨ b = rb) w74 w85 := hV75.trans hC_75
    have hC_4 : Upd (fun b => b = vb ∨ b = rb) w4 w85 := hV74.trans hC_74
    have hC_3 : Upd (fun b => b = vb ∨ b = rb) w3 w85 := hV4.trans hC_4
    have hC_2 : Upd (fun b => b = vb ∨ b = rb) w2 w85 := hV3.trans hC_3
    have hC_1 : Upd (fun b => b = vb ∨ b = rb) w1 w85 := hV2.trans hC_2
    have hR : RepS true (d + 3) fsr_Q (fun b => ok b ∨ w1.heap.size ≤ b) w85 (.mk 0 [] false [x_0,x_1,x_2] (rdTags s44).1) [.int .i32 (rdInt .i32 4 s0).1,.slice aa0 N0 qq0,.pointer (some ⟨R1,0,none⟩),.map qm] := RepS.introT (c := [.int .i32 (rdInt .i32 4 s0).1,.slice aa0 N0 qq0,.pointer (some ⟨R1,0,none⟩)]) (RepL.cons1 (hf_0.keepS (hC_3.keeps fun b _ hk e => (hoM b hk) e)) (RepL.cons1 (hf_1.keepS (hC_75.keeps fun b _ hk e => (hoM b hk) e)) (RepL.cons (c := [.pointer (some ⟨R1,0,none⟩)]) (hf_2.keepS (hC_83.keeps fun b _ hk e => (hoM b hk) e)) RepL.nil))) hTg
    repeat ((first | refine qA rfl ?_|apply qB|refine qC rfl ?_|apply qD|apply qE|apply qF|apply qG|apply qH);try simp (maxSteps:=1000000)(disch:=(first|omega|(simp only [qI,qJ,qK]<;>omega)|exact qL _)) only [go_sem,↓reduceIte,n0,reduceCtorEq,n1,n2,n3,n4,n5,i0,i1,i2,i3,i4,i5,i6,i7,hv_85,hrd0_2,hrd0_7,hrd0_8,hrd0_9,hrd0_10,hrd0_14,hrd0_13])
    refine (RComplete_fn w85 hq85.1 hG85.2).mono ?_
    rintro _ wz ⟨rfl,hez⟩
    rw [hez]
    repeat ((first | refine qA rfl ?_|apply qB|refine qC rfl ?_|apply qD|apply qE|apply qF|apply qG|apply qH);try simp (maxSteps:=1000000)(disch:=(first|omega|(simp only [qI,qJ,qK]<;>omega)|exact qL _)) only [go_sem,↓reduceIte,n0,reduceCtorEq,n1,n2,n3,n4,n5,i0,i1,i2,i3,i4,i5,i6,i7,hv_85,hrd0_2,hrd0_7,hrd0_8,hrd0_9,hrd0_10,hrd0_14,hrd0_13])
    rw [hfin]
    refine ⟨fun h => ?_,fun h => ⟨?_,[.int .i32 (rdInt .i32 4 s0).1,.slice aa0 N0 qq0,.pointer (some ⟨R1,0,none⟩),.map qm],hv_85,?_⟩,?_⟩
    · have h' : s45 = none := h
      rw [h'];rfl
    · cases hsn : s45 with
      | none => exact absurd hsn h
      | some x => rfl
    · exact (RepS_lay true (d + 3) fsr_Q).weaken hR fun b _ hk => hk.imp id fun h => by omega
    · exact hbase.trans' hU85 fun i hi h => h.elim id fun h => by omega
end Ms

