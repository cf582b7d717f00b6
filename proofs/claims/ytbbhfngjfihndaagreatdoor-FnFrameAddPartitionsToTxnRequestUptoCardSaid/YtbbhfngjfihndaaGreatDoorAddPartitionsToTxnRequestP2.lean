/- A part of the proof: see the last text. -/
import Derived.Test.YtbbhfngjfihndaaGreatDoorAddPartitionsToTxnRequestP0
set_option linter.unusedSimpArgs false
set_option linter.unusedVariables false
namespace Ms
open Go.World renaming size_alloc → qI
open Ms renaming size_wr → qJ,size_drew → qK,not_noB → qL
open W renaming seqR → qA,seq → qB,regR → qC,condK → qD,block → qE,skip → qF,ret → qG,exit → qH
open Nat renaming reduceEqDiff → n0,reduceAdd → n1,reduceMul → n2,reduceSub → n3,reduceLT → n4,reduceLeDiff → n5
open Int renaming reduceEq → i0,reduceLT → i1,reduceLE → i2,reduceNeg → i3,reduceAdd → i4,reduceSub → i5,reduceMul → i6,reduceToNat → i7
set_option maxRecDepth 8000
open Go Go.Proofs Go.Shelf
attribute [local congr] W_congr WPsq_congr WPp_congr optK_congr addrK_congr intK_congr boolK_congr sliceK_congr tupleK_congr funcK_congr Fn_congr rawK_congr takeK_congr stepK_congr convK_congr aggK_congr

set_option maxHeartbeats 4000000 in
theorem readQ_2 {d : Nat} {ok : Blocks} {ver : Int} {ev : Value} (hlo : 4 ≤ ver) (hhi : ver ≤ 5) (w : World) {vb : Nat} (src : Value) (s : List UInt8) (hv : blk w vb = some (#[.int .i16 ver,.string ByteArray.empty,.int .i64 0,.int .i16 0,.slice none 0 0,.slice none 0 0,.map none],69,(0,0))) (hsrc : BytesV ok w src s) (hok0 : ∀ b,ok b → b < w.heap.size ∧ b ≠ vb) (hG : Glo ev w) (hgv : ¬ 0 = vb ∧ ¬ 1 = vb) :
    Fn Tryz.prog 35 #[.pointer (some ⟨vb,0,none⟩),src,.bool false] w (ReadQ 69 ok ver (d + 3) fs_Q vb w (rdP (d + 3) ver true fs_Q (some s)) ev) := by
  have hvl := blk_lt hv
  have hgs := hG.lt
  obtain ⟨sa,sc,rfl,_⟩ := hsrc.shape
  refine fn_of_W Tryz.func35 rfl Tryz.results35 Tryz.ntmps35 rfl ?_
  repeat ((first | refine qA rfl ?_|apply qB|refine qC rfl ?_|apply qD|apply qE|apply qF|apply qG|apply qH);try simp (maxSteps:=1000000)(disch:=(first|omega|(simp only [qI,qJ,qK]<;>omega)|exact qL _)) only [go_sem,↓reduceIte,n0,reduceCtorEq,n1,n2,n3,n4,n5,i0,i1,i2,i3,i4,i5,i6,i7,hv])
  refine (DefaultQ_fn w hv).mono ?_
  rintro _ w0 ⟨hv0,hu0⟩
  have hz0 := hu0.size
  have hsrc0 : BytesV ok w0 (.slice sa s.length sc) s := hsrc.keep (hu0.keeps fun b _ hk e => (hok0 b hk).2 e)
  obtain ⟨rb,hrb⟩ : ∃ r,r = w0.heap.size := ⟨_,rfl⟩
  have hE1 : Ext w0 (wr (w0.alloc (.cells #[.slice none 0 0,.bool false] 94)) w0.heap.size 0 [.slice sa s.length sc,.bool false]) := (Upd.alloc (Upd.refl _ _) _).wr _ _ (.inl (Nat.le_refl _))
  have hz1 : (wr (w0.alloc (.cells #[.slice none 0 0,.bool false] 94)) w0.heap.size 0 [.slice sa s.length sc,.bool false]).heap.size = w0.heap.size + 1 := by rw [size_wr,World.size_alloc]
  have hR1 : Rdr RT ok (wr (w0.alloc (.cells #[.slice none 0 0,.bool false] 94)) w0.heap.size 0 [.slice sa s.length sc,.bool false]) w0.heap.size (some s) := Rdr.good (v := .slice sa s.length sc) (by simp (maxSteps:=1000000)(disch:=(first|omega|(simp only [qI,qJ,qK]<;>omega)|exact qL _)) only [go_sem,↓reduceIte,n0,reduceCtorEq,n1,n2,n3,n4,n5,i0,i1,i2,i3,i4,i5,i6,i7]) (hsrc0.keep (hE1.keeps _))
  have hv_1 := hE1.blk_some hv0 id
  repeat ((first | refine qA rfl ?_|apply qB|refine qC rfl ?_|apply qD|apply qE|apply qF|apply qG|apply qH);try simp (maxSteps:=1000000)(disch:=(first|omega|(simp only [qI,qJ,qK]<;>omega)|exact qL _)) only [go_sem,↓reduceIte,n0,reduceCtorEq,n1,n2,n3,n4,n5,i0,i1,i2,i3,i4,i5,i6,i7,hv0])
  generalize (wr (w0.alloc (.cells #[.slice none 0 0,.bool false] 94)) w0.heap.size 0 [.slice sa s.length sc,.bool false]) = w1 at *
  rw [← hrb] at hR1
  try rw [← hrb]
  have hok : ∀ b,ok b → b < w.heap.size ∧ b ≠ vb := hok0
  have hrok : ¬ ok rb := fun h => by have := (hok rb h).1;omega
  have hbase : Upd (fun b => b = vb) w w1 := hu0.trans (hE1.mono fun _ h => h.elim)
  have hG1 : Glo ev w1 := hG.updS hbase hgv.1 hgv.2
  have hgrb : ¬ 0 = rb := by omega
  have hgM1 : ¬ (0 = vb ∨ 0 = rb) := fun h => h.elim hgv.1 fun h => by omega
  have hgM2 : ¬ (1 = vb ∨ 1 = rb) := fun h => h.elim hgv.2 fun h => by omega
  obtain ⟨s0,hs0⟩ : ∃ s' : St,s' = some s := ⟨_,rfl⟩
  rw [← hs0] at hR1 ⊢
  have hU1 : Upd (fun b => b = vb ∨ b = rb) w1 w1 := Upd.refl _ _
  have hoM : ∀ b,(ok b ∨ w1.heap.size ≤ b) → ¬ (b = vb ∨ b = rb) := fun b hk h => by
    rcases hk with hk | hk
    · have := hok b hk;rcases h with h | h <;> omega
    · rcases h with h | h <;> omega
  have hq1 : Rdr RT ok w1 rb s0 := hR1
  obtain ⟨FB,hFB⟩ : ∃ P : Prop,P = ((rdP (d + 3) ver true fs_Q s0).2 = none) := ⟨_,rfl⟩
  have hb_0 : (rdL (rdP (d + 2) ver true) (dfP (d + 2)) ver true [fQ_0,fQ_1,fQ_2,fQ_3,fQ_4] s0).2 = none → FB := fun h => Eq.mpr hFB (rdP_bad h)
  obtain ⟨x_0,hx_0⟩ : ∃ x,x = dfF (dfP (d + 2)) fQ_0 := ⟨_,rfl⟩
  have hf_0 : RepF (RepS true (d + 2)) (szS true (d + 2)) fQ_0 (fun b => ok b ∨ w1.heap.size ≤ b) w1 (x_0) [.string ByteArray.empty] := by rw [hx_0];exact (RepF_text rfl (by decide)).2 rfl
  have hh_0 : hasS fQ_0 ver = false := hasS_f (by show ver < 0 ∨ (0 ≤ (3 : Int) ∧ (3 : Int) < ver);omega)
  have hb_1 : (rdL (rdP (d + 2) ver true) (dfP (d + 2)) ver true [fQ_1,fQ_2,fQ_3,fQ_4] s0).2 = none → FB := fun h => hb_0 (by rw [rdL_no hh_0];exact h)
  obtain ⟨x_1,hx_1⟩ : ∃ x,x = dfF (dfP (d + 2)) fQ_1 := ⟨_,rfl⟩
  have hf_1 : RepF (RepS true (d + 2)) (szS true (d + 2)) fQ_1 (fun b => ok b ∨ w1.heap.size ≤ b) w1 (x_1) [.int .i64 0] := by rw [hx_1];exact (RepF_num (by decide)).2 rfl
  have hh_1 : hasS fQ_1 ver = false := hasS_f (by show ver < 0 ∨ (0 ≤ (3 : Int) ∧ (3 : Int) < ver);omega)
  have hb_2 : (rdL (rdP (d + 2) ver true) (dfP (d + 2)) ver true [fQ_2,fQ_3,fQ_4] s0).2 = none → FB := fun h => hb_1 (by rw [rdL_no hh_1];exact h)
  obtain ⟨x_2,hx_2⟩ : ∃ x,x = dfF (dfP (d + 2)) fQ_2 := ⟨_,rfl⟩
  have hf_2 : RepF (RepS true (d + 2)) (szS true (d + 2)) fQ_2 (fun b => ok b ∨ w1.heap.size ≤ b) w1 (x_2) [.int .i16 0] := by rw [hx_2];exact (RepF_num (by decide)).2 rfl
  have hh_2 : hasS fQ_2 ver = false := hasS_f (by show ver < 0 ∨ (0 ≤ (3 : Int) ∧ (3 : Int) < ver);omega)
  have hb_3 : (rdL (rdP (d + 2) ver true) (dfP (d + 2)) ver true [fQ_3,fQ_4] s0).2 = none → FB := fun h => hb_2 (by rw [rdL_no hh_2];exact h)
  obtain ⟨x_3,hx_3⟩ : ∃ x,x = dfF (dfP (d + 2)) fQ_3 := ⟨_,rfl⟩
  have hf_3 : RepF (RepS true (d + 2)) (szS true (d + 2)) fQ_3 (fun b => ok b ∨ w1.heap.size ≤ b) w1 (x_3) [.slice none 0 0] := by rw [hx_3];exact RepF_nil rfl
  have hh_3 : hasS fQ_3 ver = false := hasS_f (by show ver < 0 ∨ (0 ≤ (3 : Int) ∧ (3 : Int) < ver);omega)
  have hb_4 : (rdL (rdP (d + 2) ver true) (dfP (d + 2)) ver true [fQ_4] s0).2 = none → FB := fun h => hb_3 (by rw [rdL_no hh_3];exact h)
  have hh_4 : hasS fQ_4 ver = true := hasS_t (by show (4 : Int) ≤ ver;omega) (by show (-1 : Int) < 0 ∨ ver ≤ (-1 : Int);omega)
  obtain ⟨x_4,hx_4⟩ : ∃ x,x = (rdF (rdP (d + 2) ver true) ver true fQ_4 s0).1 := ⟨_,rfl⟩
  repeat ((first | refine qA rfl ?_|apply qB|refine qC rfl ?_|apply qD|apply qE|apply qF|apply qG|apply qH);try simp (maxSteps:=1000000)(disch:=(first|omega|(simp only [qI,qJ,qK]<;>omega)|exact qL _)) only [go_sem,↓reduceIte,n0,reduceCtorEq,n1,n2,n3,n4,n5,i0,i1,i2,i3,i4,i5,i6,i7,hv_1])
  refine (RCompactArrayLen_fn w1 hq1 hrok hG1.1 hgrb).mono ?_
  rintro _ w2 ⟨rfl,hq2,hu2⟩
  have hv_2 := hu2.blk_some hv_1 (by omega)
  have hV2 : Upd (fun b => b = vb ∨ b = rb) w1 w2 := hu2.mono (fun _ h => .inr h)
  have hU2 : Upd (fun b => b = vb ∨ b = rb) w1 w2 := hU1.trans hV2
  have hz2 := hV2.size
  have hG2 : Glo ev w2 := hG1.updS hU2 hgM1 hgM2
  obtain ⟨s1,hs1⟩ : ∃ s,s = (rdALen true s0).2 := ⟨_,rfl⟩
  rw [← hs1] at hq2
  have hyr2 := rdALen_rng true s0
  generalize hy2 : (rdALen true s0).1 = y2 at *
  obtain ⟨N2,hN2⟩ : ∃ N,N = y2.toNat := ⟨_,rfl⟩
  have hlb2 : (rdMany (rd1 (rdP (d + 2) ver true) fQ_4.of fQ_4.sub false true) N2 s1).2 = none → FB := fun h => hb_4 (by rw [rdL_st (by decide) hh_4];exact rdL_bad (rdF_listbad rfl (by rw [hy2,← hN2,← hs1];exact h)))
  repeat ((first | refine W.seqR rfl ?_ | refine W.seq ?_ | refine W.regR rfl ?_ | refine W.block ?_ | refine W.skip ?_ | refine W.ret ?_ | refine W.exit ?_);try simp (maxSteps:=1000000)(disch:=(first|omega|(simp only [qI,qJ,qK]<;>omega)|exact qL _)) only [go_sem,↓reduceIte,n0,reduceCtorEq,n1,n2,n3,n4,n5,i0,i1,i2,i3,i4,i5,i6,i7,hv_2])
  refine (ROk_fn w2 hq2.1).mono ?_
  rintro _ wz ⟨rfl,hez⟩
  rw [hez]
  clear hez wz
  by_cases hsn2 : s1 = none
  · have hso : s1.isSome = false := by rw [hsn2];rfl
    repeat (first|simp (maxSteps:=1000000)(disch:=(first|omega|(simp only [qI,qJ,qK]<;>omega)|exact qL _)) only [go_sem,↓reduceIte,n0,reduceCtorEq,n1,n2,n3,n4,n5,i0,i1,i2,i3,i4,i5,i6,i7,hv_2,hso]|refine qA rfl ?_|apply qB|refine qC rfl ?_|apply qD|apply qE|apply qF|apply qG|apply qH)
    refine (RComplete_fn w2 hq2.1 hG2.2).mono ?_
    rintro _ wz ⟨rfl,hez⟩
    rw [hez]
    repeat (first|simp (maxSteps:=1000000)(disch:=(first|omega|(simp only [qI,qJ,qK]<;>omega)|exact qL _)) only [go_sem,↓reduceIte,n0,reduceCtorEq,n1,n2,n3,n4,n5,i0,i1,i2,i3,i4,i5,i6,i7,hv_2]|refine qA rfl ?_|apply qB|refine qC rfl ?_|apply qD|apply qE|apply qF|apply qG|apply qH)
    rw [errV_none hsn2]
    exact ReadQ.bad (Eq.mp hFB (hlb2 (by rw [hsn2];exact rdMany_none rd1P_none _))) (hbase.trans' hU2 fun i hi h => h.elim id fun h => by omega)
  have hso2 : s1.isSome = true := isSome_some hsn2
  try simp (maxSteps:=1000000)(disch:=(first|omega|(simp only [qI,qJ,qK]<;>omega)|exact qL _)) only [go_sem,↓reduceIte,n0,reduceCtorEq,n1,n2,n3,n4,n5,i0,i1,i2,i3,i4,i5,i6,i7,hv_2,hso2]
  repeat ((first | refine W.seqR rfl ?_ | refine W.seq ?_ | refine W.regR rfl ?_ | refine W.block ?_ | refine W.skip ?_ | refine W.ret ?_ | refine W.exit ?_);try simp (maxSteps:=1000000)(disch:=(first|omega|(simp only [qI,qJ,qK]<;>omega)|exact qL _)) only [go_sem,↓reduceIte,n0,reduceCtorEq,n1,n2,n3,n4,n5,i0,i1,i2,i3,i4,i5,i6,i7,hv_2,hso2])
  refine W.condK ?_
  try simp (maxSteps:=1000000)(disch:=(first|omega|(simp only [qI,qJ,qK]<;>omega)|exact qL _)) only [go_sem,↓reduceIte,n0,reduceCtorEq,n1,n2,n3,n4,n5,i0,i1,i2,i3,i4,i5,i6,i7,hv_2,hso2]
  repeat ((first | refine W.seqR rfl ?_ | refine W.seq ?_ | refine W.regR rfl ?_ | refine W.block ?_ | refine W.skip ?_ | refine W.ret ?_ | refine W.exit ?_);try simp (maxSteps:=1000000)(disch:=(first|omega|(simp only [qI,qJ,qK]<;>omega)|exact qL _)) only [go_sem,↓reduceIte,n0,reduceCtorEq,n1,n2,n3,n4,n5,i0,i1,i2,i3,i4,i5,i6,i7,hv_2,hso2,slBase_00])
  refine W.normJ (RowQ [(2,.bool false),(7,.pointer (some ⟨rb,0,none⟩)),(8,.int .i16 ver),(9,.bool true),(10,.pointer (some ⟨vb,0,none⟩)),(28,.int .i32 y2)] 27 (fun va w' => LstI RT (rd1 (rdP (d + 2) ver true) fQ_4.of fQ_4.sub false true) (Rep1 (RepS true (d + 2)) fQ_4.of fQ_4.sub) 6 109 [.string ByteArray.empty,.int .i64 0,.int .i16 0,.bool false,.slice none 0 0,.map none] w2.heap.size N2 ok (fun b => ok b ∨ w1.heap.size ≤ b) rb w2 s1 va 0 s1 [] [] w' ∧ (N2 = 0 → if nilS fQ_4 ver y2 = true then va = .slice none 0 0 else ∃ a,va = .slice (some a) 0 0))) ?_ ?_
  · by_cases hy0 : (0 : Int) < y2
    · have hyv : Value.int .i32 y2 = .int .i32 ((N2 : Nat) : Int) := by rw [show y2 = ((N2 : Nat) : Int) by omega]
      repeat ((first | refine qA rfl ?_|apply qB|refine qC rfl ?_|apply qD|apply qE|apply qF|apply qG|apply qH);try simp (maxSteps:=1000000)(disch:=(first|omega|(simp only [qI,qJ,qK]<;>omega)|exact qL _)) only [go_sem,↓reduceIte,n0,reduceCtorEq,n1,n2,n3,n4,n5,i0,i1,i2,i3,i4,i5,i6,i7,hv_2])
      refine wp_appendZ (m := N2) utQ_64 utQ_21 inQ_109 (by decide) (by first | rfl | simp (maxSteps:=1000000)(disch:=(first|omega|(simp only [qI,qJ,qK]<;>omega)|exact qL _)) only [go_sem,↓reduceIte,n0,reduceCtorEq,n1,n2,n3,n4,n5,i0,i1,i2,i3,i4,i5,i6,i7]) (by first | exact hyv | (simp (maxSteps:=1000000)(disch:=(first|omega|(simp only [qI,qJ,qK]<;>omega)|exact qL _)) only [go_sem,↓reduceIte,n0,reduceCtorEq,n1,n2,n3,n4,n5,i0,i1,i2,i3,i4,i5,i6,i7];exact hyv)) (by omega) (by omega) (by decide) ?_
      intro q rest hq1
      have hEw : Ext w2 (w2.drew.alloc (.cells (zs [.string ByteArray.empty,.int .i64 0,.int .i16 0,.bool false,.slice none 0 0,.map none] N2 ++ rest).toArray 109)) := (Upd.refl _ _).drew.alloc _
      repeat (first|simp (maxSteps:=1000000)(disch:=(first|omega|(simp only [qI,qJ,qK]<;>omega)|exact qL _)) only [go_sem,↓reduceIte,n0,reduceCtorEq,n1,n2,n3,n4,n5,i0,i1,i2,i3,i4,i5,i6,i7,hv_2]|refine qA rfl ?_|apply qB|refine qC rfl ?_|apply qD|apply qE|apply qF|apply qG|apply qH)
      exact ⟨(by simp (maxSteps:=1000000)(disch:=(first|omega|(simp only [qI,qJ,qK]<;>omega)|exact qL _)) only [go_sem,↓reduceIte,n0,reduceCtorEq,n1,n2,n3,n4,n5,i0,i1,i2,i3,i4,i5,i6,i7,Holds_nil,Holds_cons]),.slice (some ⟨w2.heap.size,0,none⟩) N2 q,(by simp (maxSteps:=1000000)(disch:=(first|omega|(simp only [qI,qJ,qK]<;>omega)|exact qL _)) only [go_sem,↓reduceIte,n0,reduceCtorEq,n1,n2,n3,n4,n5,i0,i1,i2,i3,i4,i5,i6,i7]),LstI.start (RowJ.start (by omega) hq1 (by show w2.heap.size ≤ w2.drew.heap.size;rw [size_drew];omega) (blk_alloc_new rfl)) ⟨hq2.1.upd hEw (fun h => h) (fun _ _ _ h => h),hq2.2.upd hEw fun h => h⟩ (hEw.mono fun _ h => h.elim),fun h0 => by omega⟩
    · repeat ((first | refine qA rfl ?_|apply qB|refine qC rfl ?_|apply qD|apply qE|apply qF|apply qG|apply qH);try simp (maxSteps:=1000000)(disch:=(first|omega|(simp only [qI,qJ,qK]<;>omega)|exact qL _)) only [go_sem,↓reduceIte,n0,reduceCtorEq,n1,n2,n3,n4,n5,i0,i1,i2,i3,i4,i5,i6,i7,hv_2])
      exact ⟨(by simp (maxSteps:=1000000)(disch:=(first|omega|(simp only [qI,qJ,qK]<;>omega)|exact qL _)) only [go_sem,↓reduceIte,n0,reduceCtorEq,n1,n2,n3,n4,n5,i0,i1,i2,i3,i4,i5,i6,i7,Holds_nil,Holds_cons]),.slice none 0 0,(by simp (maxSteps:=1000000)(disch:=(first|omega|(simp only [qI,qJ,qK]<;>omega)|exact qL _)) only [go_sem,↓reduceIte,n0,reduceCtorEq,n1,n2,n3,n4,n5,i0,i1,i2,i3,i4,i5,i6,i7,slBase_00]),LstI.start (RowJ.zero (by omega) (fun _ h => by cases h)) hq2 (Upd.refl _ _),fun _ => by rw [nilS_plain (by decide) (by omega)];exact rfl⟩
  rintro ρ w3 ⟨⟨hrb2_2,hrb2_7,hrb2_8,hrb2_9,hrb2_10,hrb2_28,-⟩,va2,hra2,hL2,hnc2⟩
  repeat ((first | refine qA rfl ?_|apply qB|refine qC rfl ?_|apply qD|apply qE|apply qF|apply qG|apply qH);try simp (maxSteps:=1000000)(disch:=(first|omega|(simp only [qI,qJ,qK]<;>omega)|exact qL _)) only [go_sem,↓reduceIte,n0,reduceCtorEq,n1,n2,n3,n4,n5,i0,i1,i2,i3,i4,i5,i6,i7,hv_2,hrb2_2,hrb2_7,hrb2_8,hrb2_9,hrb2_10,hrb2_28,hra2,exitRQ_ret,exitRQ_exit,Int.toNat_natCast,Nat.mul_one])
  refine W.exitRJ 4 (EndQ [(2,.bool false),(7,.pointer (some ⟨rb,0,none⟩)),(8,.int .i16 ver),(9,.bool true),(10,.pointer (some ⟨vb,0,none⟩)),(28,.int .i32 y2),(27,va2)] (fun w' => ∃ s xs css,LstI RT (rd1 (rdP (d + 2) ver true) fQ_4.of fQ_4.sub false true) (Rep1 (RepS true (d + 2)) fQ_4.of fQ_4.sub) 6 109 [.string ByteArray.empty,.int .i64 0,.int .i16 0,.bool false,.slice none 0 0,.map none] w2.heap.size N2 ok (fun b => ok b ∨ w1.heap.size ≤ b) rb w2 s1 va2 N2 s xs css w')) (W.loop (LoopQ [(2,.bool false),(7,.pointer (some ⟨rb,0,none⟩)),(8,.int .i16 ver),(9,.bool true),(10,.pointer (some ⟨vb,0,none⟩)),(28,.int .i32 y2),(27,va2)] 29 (fun j w' => ∃ s xs css,LstI RT (rd1 (rdP (d + 2) ver true) fQ_4.of fQ_4.sub false true) (Rep1 (RepS true (d + 2)) fQ_4.of fQ_4.sub) 6 109 [.string ByteArray.empty,.int .i64 0,.int .i16 0,.bool false,.slice none 0 0,.map none] w2.heap.size N2 ok (fun b => ok b ∨ w1.heap.size ≤ b) rb w2 s1 va2 j s xs css w')) (fun ρ _ => N2 - (RowKit.intOf (ρ 29)).toNat) ?_ ?_) ?_
  · exact ⟨(by simp (maxSteps:=1000000)(disch:=(first|omega|(simp only [qI,qJ,qK]<;>omega)|exact qL _)) only [go_sem,↓reduceIte,n0,reduceCtorEq,n1,n2,n3,n4,n5,i0,i1,i2,i3,i4,i5,i6,i7,Holds_nil,Holds_cons,hrb2_2,hrb2_7,hrb2_8,hrb2_9,hrb2_10,hrb2_28,hra2]),0,(by simp (maxSteps:=1000000)(disch:=(first|omega|(simp only [qI,qJ,qK]<;>omega)|exact qL _)) only [go_sem,↓reduceIte,n0,reduceCtorEq,n1,n2,n3,n4,n5,i0,i1,i2,i3,i4,i5,i6,i7,hrb2_2,hrb2_7,hrb2_8,hrb2_9,hrb2_10,hrb2_28,hra2];all_goals rfl),s1,[],[],hL2⟩
  · rintro ρ w4 ⟨⟨hrc2_2,hrc2_7,hrc2_8,hrc2_9,hrc2_10,hrc2_28,hrc2_27,-⟩,j1,hri2,s2,xs2,css2,hL2⟩
    have hj2 := hL2.le
    have hq4 := hL2.rd
    have hU4 : Upd (fun b => b = vb ∨ b = rb) w1 w4 := hU2.trans' hL2.upd fun i _ h => .inr h
    have hz4 := hL2.upd.size
    have hG4 : Glo ev w4 := hG1.updS hU4 hgM1 hgM2
    by_cases hlt2 : j1 < N2
    · obtain ⟨R1,q1,B1,hva1,hNq1,hLR1,hA1,hx1_4,hnext1⟩ := hL2.row.next hlt2
      have hRl1 := blk_lt hx1_4
      generalize css2.flatten = A1 at hA1 hx1_4 hnext1
      replace hra2 : ρ 27 = .slice (some ⟨R1,0,none⟩) N2 q1 := hrc2_27.trans hva1
      have hown1 : ∀ b,ownB va2 b → w2.heap.size ≤ b ∧ b < w4.heap.size := fun b h => hL2.row.own h
      have hoM1 : ∀ b,(fun b => (ok b ∨ w1.heap.size ≤ b) ∧ ¬ ownB va2 b) b → ¬ (b = R1 ∨ b = rb) := fun b hk h => h.elim (fun e => hk.2 ⟨_,_,_,hva1,e⟩) (fun e => hoM b hk.1 (.inr e))
      obtain ⟨X4,hX4⟩ : ∃ X : Array Value,X = (A1 ++ (([.string ByteArray.empty,.int .i64 0,.int .i16 0,.bool false,.slice none 0 0,.map none] : List Value) ++ B1)).toArray := ⟨_,rfl⟩
      have hxb4 : blk w4 R1 = some (X4,109,(0,0)) := by rw [hX4];exact hx1_4
      have hXs4 : j1 * 6 + 6 ≤ X4.size := by rw [hX4];simp only [List.size_toArray,List.length_append,List.length_cons,List.length_nil,hA1];omega
      repeat ((first | refine qA rfl ?_|apply qB|refine qC rfl ?_|apply qD|apply qE|apply qF|apply qG|apply qH);try simp (maxSteps:=1000000)(disch:=(first|omega|(simp only [qI,qJ,qK]<;>omega)|exact qL _)) only [go_sem,↓reduceIte,n0,reduceCtorEq,n1,n2,n3,n4,n5,i0,i1,i2,i3,i4,i5,i6,i7,hxb4,hrc2_2,hrc2_7,hrc2_8,hrc2_9,hrc2_10,hrc2_28,hra2,hri2,exitRQ_ret,exitRQ_exit,Int.toNat_natCast,Nat.mul_one])
      refine (DefaultEX1_fn w4 hx1_4 hA1).mono ?_
      rintro _ w5 ⟨hx1_5,hu5⟩
      have hq5 := And.intro (hq4.1.upd hu5 (by omega) (fun b _ hk e => by have := (hok b hk).1;omega)) (hq4.2.upd hu5 (by omega))
      have hV5 : Upd (fun b => b = R1 ∨ b = rb) w4 w5 := hu5.mono (fun _ h => .inl h)
      have hU5 : Upd (fun b => b = vb ∨ b = rb) w1 w5 := hU4.trans' hV5 fun i hi h => h.elim (fun h => by omega) .inr
      have hz5 := hV5.size
      have hG5 : Glo ev w5 := hG1.updS hU5 hgM1 hgM2
      obtain ⟨X5,hX5⟩ : ∃ X : Array Value,X = (A1 ++ (([.string ByteArray.empty,.int .i64 0,.int .i16 0,.bool false,.slice none 0 0,.map none] : List Value) ++ B1)).toArray := ⟨_,rfl⟩
      have hxb5 : blk w5 R1 = some (X5,109,(0,0)) := by rw [hX5];exact hx1_5
      have hXs5 : j1 * 6 + 6 ≤ X5.size := by rw [hX5];simp only [List.size_toArray,List.length_append,List.length_cons,List.length_nil,hA1];omega
      have hbe2_0 : (rdL (rdP (d + 1) ver true) (dfP (d + 1)) ver true [fX1_0,fX1_1,fX1_2,fX1_3,fX1_4] s2).2 = none → FB := fun h => hlb2 (hL2.bad hlt2 rd1P_none (by show (rd1 (rdP (d + 2) ver true) 10 fs_X1 false true s2).2 = none;rw [rd1_part];exact rdP_bad h))
      have hhe2_0 : hasS fX1_0 ver = true := hasS_t (by show (0 : Int) ≤ ver;omega) (by show (-1 : Int) < 0 ∨ ver ≤ (-1 : Int);omega)
      obtain ⟨xe2_0,hxe2_0⟩ : ∃ x,x = (rdF (rdP (d + 1) ver true) ver true fX1_0 s2).1 := ⟨_,rfl⟩
      repeat ((first | refine qA rfl ?_|apply qB|refine qC rfl ?_|apply qD|apply qE|apply qF|apply qG|apply qH);try simp (maxSteps:=1000000)(disch:=(first|omega|(simp only [qI,qJ,qK]<;>omega)|exact qL _)) only [go_sem,↓reduceIte,n0,reduceCtorEq,n1,n2,n3,n4,n5,i0,i1,i2,i3,i4,i5,i6,i7,hxb5,hrc2_2,hrc2_7,hrc2_8,hrc2_9,hrc2_10,hrc2_28,hra2,hri2,exitRQ_ret,exitRQ_exit,Int.toNat_natCast,Nat.mul_one])
      have hmay : mayS fX1_0 ver = false := mayS_no (by show (-1 : Int) < 0 ∨ ver < (-1 : Int);omega)
      have hrd : rdF (rdP (d + 1) ver true) ver true fX1_0 s2 = _ := rdF_text rfl hmay
      refine (RCompactString_fn w5 hq5.1 hrok hG5.1 hgrb).mono ?_
      rintro _ w6 ⟨rfl,hq6,hu6⟩
      have hx1_6 := hu6.blk_some hx1_5 (by omega)
      have hV6 : Upd (fun b => b = R1 ∨ b = rb) w5 w6 := hu6.mono (fun _ h => .inr h)
      have hU6 : Upd (fun b => b = vb ∨ b = rb) w1 w6 := hU5.trans' hV6 fun i hi h => h.elim (fun h => by omega) .inr
      have hz6 := hV6.size
      have hG6 : Glo ev w6 := hG1.updS hU6 hgM1 hgM2
      obtain ⟨X6,hX6⟩ : ∃ X : Array Value,X = (A1 ++ (([.string ByteArray.empty,.int .i64 0,.int .i16 0,.bool false,.slice none 0 0,.map none] : List Value) ++ B1)).toArray := ⟨_,rfl⟩
      have hxb6 : blk w6 R1 = some (X6,109,(0,0)) := by rw [hX6];exact hx1_6
      have hXs6 : j1 * 6 + 6 ≤ X6.size := by rw [hX6];simp only [List.size_toArray,List.length_append,List.length_cons,List.length_nil,hA1];omega
      have hst : (rdF (rdP (d + 1) ver true) ver true fX1_0 s2).2 = (rdStr true s2).2 := by first | (rw [hrd];rfl) | rw [hrd]
      obtain ⟨s3,hs3⟩ : ∃ s,s = (rdF (rdP (d + 1) ver true) ver true fX1_0 s2).2 := ⟨_,rfl⟩
      rw [← hst,← hs3] at hq6
      clear hst
      have hst6_0 : j1 * 6 + 1 ≤ X6.size := by omega
      have hld6_4 : X6[j1 * 6 + 4]? = some (.slice none 0 0) := by rw [hX6];exact el_cell (R := 0) hA1 (Nat.le_of_ble_eq_true rfl)
      repeat ((first | refine qA rfl ?_|apply qB|refine qC rfl ?_|apply qD|apply qE|apply qF|apply qG|apply qH);try simp (maxSteps:=1000000)(disch:=(first|omega|(simp only [qI,qJ,qK]<;>omega)|exact qL _)) only [go_sem,↓reduceIte,n0,reduceCtorEq,n1,n2,n3,n4,n5,i0,i1,i2,i3,i4,i5,i6,i7,hxb6,hrc2_2,hrc2_7,hrc2_8,hrc2_9,hrc2_10,hrc2_28,hra2,hri2,exitRQ_ret,exitRQ_exit,Int.toNat_natCast,Nat.mul_one,hst6_0,hld6_4,Array.getElem?_setIfInBounds_ne])
      generalize hw7 : wr w6 R1 (j1 * 6) [strV (rdStr true s2).1] = w7
      have hS7 : Upd (fun b => b = R1 ∨ b = rb) w6 w7 := by rw [← hw7];exact (Upd.refl _ _).wr _ _ (.inr (.inl rfl))
      have hx1_7 : blk w7 R1 = some ((A1 ++ (([strV (rdStr true s2).1,.int .i64 0,.int .i16 0,.bool false,.slice none 0 0,.map none] : List Value) ++ B1)).toArray,109,(0,0)) := by rw [← hw7];exact el_blk0 hx1_6 hA1 (Nat.le_of_ble_eq_true rfl)
      have hV7 := hS7
      have hU7 : Upd (fun b => b = vb ∨ b = rb) w1 w7 := hU6.trans' hV7 fun i hi h => h.elim (fun h => by omega) .inr
      have hz7 := hV7.size
      have hG7 : Glo ev w7 := hG1.updS hU7 hgM1 hgM2
      have hq7 : Rdr RT ok w7 rb s3 ∧ NN w7 rb s3 := by
        have hn : ∀ x,x = w7 → (Rdr RT ok x rb s3 ∧ NN x rb s3) := fun x hx => by
          rw [hx,← hw7]
          exact Rdr.store hq6 (by omega) (fun h => by have := (hok _ h).1;first | omega | exact (hok _ h).2 rfl)
        exact hn _ rfl
      obtain ⟨X7,hX7⟩ : ∃ X : Array Value,X = (A1 ++ (([strV (rdStr true s2).1,.int .i64 0,.int .i16 0,.bool false,.slice none 0 0,.map none] : List Value) ++ B1)).toArray := ⟨_,rfl⟩
      have hxb7 : blk w7 R1 = some (X7,109,(0,0)) := by rw [hX7];exact hx1_7
      have hXs7 : j1 * 6 + 6 ≤ X7.size := by rw [hX7];simp only [List.size_toArray,List.length_append,List.length_cons,List.length_nil,hA1];omega
      clear hw7
      have hfe2_0 : RepF (RepS true (d + 1)) (szS true (d + 1)) fX1_0 (fun b => (ok b ∨ w1.heap.size ≤ b) ∧ ¬ ownB va2 b) w7 (xe2_0) [strV (rdStr true s2).1] := (RepF_text rfl (by decide)).2 (by rw [hxe2_0,hrd];rfl)
      clear hrd
      have hbe2_1 : (rdL (rdP (d + 1) ver true) (dfP (d + 1)) ver true [fX1_1,fX1_2,fX1_3,fX1_4] s3).2 = none → FB := fun h => hbe2_0 (by rw [rdL_st (by decide) hhe2_0,← hs3];exact h)
      have hhe2_1 : hasS fX1_1 ver = true := hasS_t (by show (0 : Int) ≤ ver;omega) (by show (-1 : Int) < 0 ∨ ver ≤ (-1 : Int);omega)
      obtain ⟨xe2_1,hxe2_1⟩ : ∃ x,x = (rdF (rdP (d + 1) ver true) ver true fX1_1 s3).1 := ⟨_,rfl⟩
      repeat ((first | refine qA rfl ?_|apply qB|refine qC rfl ?_|apply qD|apply qE|apply qF|apply qG|apply qH);try simp (maxSteps:=1000000)(disch:=(first|omega|(simp only [qI,qJ,qK]<;>omega)|exact qL _)) only [go_sem,↓reduceIte,n0,reduceCtorEq,n1,n2,n3,n4,n5,i0,i1,i2,i3,i4,i5,i6,i7,hxb7,hrc2_2,hrc2_7,hrc2_8,hrc2_9,hrc2_10,hrc2_28,hra2,hri2,exitRQ_ret,exitRQ_exit,Int.toNat_natCast,Nat.mul_one])
      have hrd : rdF (rdP (d + 1) ver true) ver true fX1_1 s3 = _ := rdF_num 4 rfl (by decide)
      refine (Int64_fn w7 hq7.1 hrok hG7.1 hgrb).mono ?_
      rintro _ w8 ⟨rfl,hq8,hu8⟩
      have hx1_8 := hu8.blk_some hx1_7 (by omega)
      have hV8 : Upd (fun b => b = R1 ∨ b = rb) w7 w8 := hu8.mono (fun _ h => .inr h)
      have hU8 : Upd (fun b => b = vb ∨ b = rb) w1 w8 := hU7.trans' hV8 fun i hi h => h.elim (fun h => by omega) .inr
      have hz8 := hV8.size
      have hG8 : Glo ev w8 := hG1.updS hU8 hgM1 hgM2
      obtain ⟨X8,hX8⟩ : ∃ X : Array Value,X = (A1 ++ (([strV (rdStr true s2).1,.int .i64 0,.int .i16 0,.bool false,.slice none 0 0,.map none] : List Value) ++ B1)).toArray := ⟨_,rfl⟩
      have hxb8 : blk w8 R1 = some (X8,109,(0,0)) := by rw [hX8];exact hx1_8
      have hXs8 : j1 * 6 + 6 ≤ X8.size := by rw [hX8];simp only [List.size_toArray,List.length_append,List.length_cons,List.length_nil,hA1];omega
      have hst : (rdF (rdP (d + 1) ver true) ver true fX1_1 s3).2 = (rdInt .i64 8 s3).2 := by first | (rw [hrd];rfl) | rw [hrd]
      obtain ⟨s4,hs4⟩ : ∃ s,s = (rdF (rdP (d + 1) ver true) ver true fX1_1 s3).2 := ⟨_,rfl⟩
      rw [← hst,← hs4] at hq8
      clear hst
      have hst8_1 : j1 * 6 + 2 ≤ X8.size := by omega
      have hld8_4 : X8[j1 * 6 + 4]? = some (.slice none 0 0) := by rw [hX8];exact el_cell (R := 0) hA1 (Nat.le_of_ble_eq_true rfl)
      repeat ((first | refine qA rfl ?_|apply qB|refine qC rfl ?_|apply qD|apply qE|apply qF|apply qG|apply qH);try simp (maxSteps:=1000000)(disch:=(first|omega|(simp only [qI,qJ,qK]<;>omega)|exact qL _)) only [go_sem,↓reduceIte,n0,reduceCtorEq,n1,n2,n3,n4,n5,i0,i1,i2,i3,i4,i5,i6,i7,hxb8,hrc2_2,hrc2_7,hrc2_8,hrc2_9,hrc2_10,hrc2_28,hra2,hri2,exitRQ_ret,exitRQ_exit,Int.toNat_natCast,Nat.mul_one,hst8_1,hld8_4,Array.getElem?_setIfInBounds_ne])
      generalize hw9 : wr w8 R1 (j1 * 6 + 1) [.int .i64 (rdInt .i64 8 s3).1] = w9
      have hS9 : Upd (fun b => b = R1 ∨ b = rb) w8 w9 := by rw [← hw9];exact (Upd.refl _ _).wr _ _ (.inr (.inl rfl))
      have hx1_9 : blk w9 R1 = some ((A1 ++ (([strV (rdStr true s2).1,.int .i64 (rdInt .i64 8 s3).1,.int .i16 0,.bool false,.slice none 0 0,.map none] : List Value) ++ B1)).toArray,109,(0,0)) := by rw [← hw9];exact el_blk (o := 1) hx1_8 hA1 (Nat.le_of_ble_eq_true rfl)
      have hV9 := hS9
      have hU9 : Upd (fun b => b = vb ∨ b = rb) w1 w9 := hU8.trans' hV9 fun i hi h => h.elim (fun h => by omega) .inr
      have hz9 := hV9.size
      have hG9 : Glo ev w9 := hG1.updS hU9 hgM1 hgM2
      have hq9 : Rdr RT ok w9 rb s4 ∧ NN w9 rb s4 := by
        have hn : ∀ x,x = w9 → (Rdr RT ok x rb s4 ∧ NN x rb s4) := fun x hx => by
          rw [hx,← hw9]
          exact Rdr.store hq8 (by omega) (fun h => by have := (hok _ h).1;first | omega | exact (hok _ h).2 rfl)
        exact hn _ rfl
      obtain ⟨X9,hX9⟩ : ∃ X : Array Value,X = (A1 ++ (([strV (rdStr true s2).1,.int .i64 (rdInt .i64 8 s3).1,.int .i16 0,.bool false,.slice none 0 0,.map none] : List Value) ++ B1)).toArray := ⟨_,rfl⟩
      have hxb9 : blk w9 R1 = some (X9,109,(0,0)) := by rw [hX9];exact hx1_9
      have hXs9 : j1 * 6 + 6 ≤ X9.size := by rw [hX9];simp only [List.size_toArray,List.length_append,List.length_cons,List.length_nil,hA1];omega
      clear hw9
      have hfe2_1 : RepF (RepS true (d + 1)) (szS true (d + 1)) fX1_1 (fun b => (ok b ∨ w1.heap.size ≤ b) ∧ ¬ ownB va2 b) w9 (xe2_1) [.int .i64 (rdInt .i64 8 s3).1] := (RepF_num (by decide)).2 (by rw [hxe2_1,hrd];exact congrArg (fun x => [x]) (numC_rd 4 (by decide) 8 s3).symm)
      clear hrd
      have hbe2_2 : (rdL (rdP (d + 1) ver true) (dfP (d + 1)) ver true [fX1_2,fX1_3,fX1_4] s4).2 = none → FB := fun h => hbe2_1 (by rw [rdL_st (by decide) hhe2_1,← hs4];exact h)
      have hhe2_2 : hasS fX1_2 ver = true := hasS_t (by show (0 : Int) ≤ ver;omega) (by show (-1 : Int) < 0 ∨ ver ≤ (-1 : Int);omega)
      obtain ⟨xe2_2,hxe2_2⟩ : ∃ x,x = (rdF (rdP (d + 1) ver true) ver true fX1_2 s4).1 := ⟨_,rfl⟩
      repeat ((first | refine qA rfl ?_|apply qB|refine qC rfl ?_|apply qD|apply qE|apply qF|apply qG|apply qH);try simp (maxSteps:=1000000)(disch:=(first|omega|(simp only [qI,qJ,qK]<;>omega)|exact qL _)) only [go_sem,↓reduceIte,n0,reduceCtorEq,n1,n2,n3,n4,n5,i0,i1,i2,i3,i4,i5,i6,i7,hxb9,hrc2_2,hrc2_7,hrc2_8,hrc2_9,hrc2_10,hrc2_28,hra2,hri2,exitRQ_ret,exitRQ_exit,Int.toNat_natCast,Nat.mul_one])
      have hrd : rdF (rdP (d + 1) ver true) ver true fX1_2 s4 = _ := rdF_num 2 rfl (by decide)
      refine (Int16_fn w9 hq9.1 hrok hG9.1 hgrb).mono ?_
      rintro _ w10 ⟨rfl,hq10,hu10⟩
      have hx1_10 := hu10.blk_some hx1_9 (by omega)
      have hV10 : Upd (fun b => b = R1 ∨ b = rb) w9 w10 := hu10.mono (fun _ h => .inr h)
      have hU10 : Upd (fun b => b = vb ∨ b = rb) w1 w10 := hU9.trans' hV10 fun i hi h => h.elim (fun h => by omega) .inr
      have hz10 := hV10.size
      have hG10 : Glo ev w10 := hG1.updS hU10 hgM1 hgM2
      obtain ⟨X10,hX10⟩ : ∃ X : Array Value,X = (A1 ++ (([strV (rdStr true s2).1,.int .i64 (rdInt .i64 8 s3).1,.int .i16 0,.bool false,.slice none 0 0,.map none] : List Value) ++ B1)).toArray := ⟨_,rfl⟩
      have hxb10 : blk w10 R1 = some (X10,109,(0,0)) := by rw [hX10];exact hx1_10
      have hXs10 : j1 * 6 + 6 ≤ X10.size := by rw [hX10];simp only [List.size_toArray,List.length_append,List.length_cons,List.length_nil,hA1];omega
      have hst : (rdF (rdP (d + 1) ver true) ver true fX1_2 s4).2 = (rdInt .i16 2 s4).2 := by first | (rw [hrd];rfl) | rw [hrd]
      obtain ⟨s5,hs5⟩ : ∃ s,s = (rdF (rdP (d + 1) ver true) ver true fX1_2 s4).2 := ⟨_,rfl⟩
      rw [← hst,← hs5] at hq10
      clear hst
      have hst10_2 : j1 * 6 + 3 ≤ X10.size := by omega
      have hld10_4 : X10[j1 * 6 + 4]? = some (.slice none 0 0) := by rw [hX10];exact el_cell (R := 0) hA1 (Nat.le_of_ble_eq_true rfl)
      repeat ((first | refine qA rfl ?_|apply qB|refine qC rfl ?_|apply qD|apply qE|apply qF|apply qG|apply qH);try simp (maxSteps:=1000000)(disch:=(first|omega|(simp only [qI,qJ,qK]<;>omega)|exact qL _)) only [go_sem,↓reduceIte,n0,reduceCtorEq,n1,n2,n3,n4,n5,i0,i1,i2,i3,i4,i5,i6,i7,hxb10,hrc2_2,hrc2_7,hrc2_8,hrc2_9,hrc2_10,hrc2_28,hra2,hri2,exitRQ_ret,exitRQ_exit,Int.toNat_natCast,Nat.mul_one,hst10_2,hld10_4,Array.getElem?_setIfInBounds_ne])
      generalize hw11 : wr w10 R1 (j1 * 6 + 2) [.int .i16 (rdInt .i16 2 s4).1] = w11
      have hS11 : Upd (fun b => b = R1 ∨ b = rb) w10 w11 := by rw [← hw11];exact (Upd.refl _ _).wr _ _ (.inr (.inl rfl))
      have hx1_11 : blk w11 R1 = some ((A1 ++ (([strV (rdStr true s2).1,.int .i64 (rdInt .i64 8 s3).1,.int .i16 (rdInt .i16 2 s4).1,.bool false,.slice none 0 0,.map none] : List Value) ++ B1)).toArray,109,(0,0)) := by rw [← hw11];exact el_blk (o := 2) hx1_10 hA1 (Nat.le_of_ble_eq_true rfl)
      have hV11 := hS11
      have hU11 : Upd (fun b => b = vb ∨ b = rb) w1 w11 := hU10.trans' hV11 fun i hi h => h.elim (fun h => by omega) .inr
      have hz11 := hV11.size
      have hG11 : Glo ev w11 := hG1.updS hU11 hgM1 hgM2
      have hq11 : Rdr RT ok w11 rb s5 ∧ NN w11 rb s5 := by
        have hn : ∀ x,x = w11 → (Rdr RT ok x rb s5 ∧ NN x rb s5) := fun x hx => by
          rw [hx,← hw11]
          exact Rdr.store hq10 (by omega) (fun h => by have := (hok _ h).1;first | omega | exact (hok _ h).2 rfl)
        exact hn _ rfl
      obtain ⟨X11,hX11⟩ : ∃ X : Array Value,X = (A1 ++ (([strV (rdStr true s2).1,.int .i64 (rdInt .i64 8 s3).1,.int .i16 (rdInt .i16 2 s4).1,.bool false,.slice none 0 0,.map none] : List Value) ++ B1)).toArray := ⟨_,rfl⟩
      have hxb11 : blk w11 R1 = some (X11,109,(0,0)) := by rw [hX11];exact hx1_11
      have hXs11 : j1 * 6 + 6 ≤ X11.size := by rw [hX11];simp only [List.size_toArray,List.length_append,List.length_cons,List.length_nil,hA1];omega
      clear hw11
      have hfe2_2 : RepF (RepS true (d + 1)) (szS true (d + 1)) fX1_2 (fun b => (ok b ∨ w1.heap.size ≤ b) ∧ ¬ ownB va2 b) w11 (xe2_2) [.int .i16 (rdInt .i16 2 s4).1] := (RepF_num (by decide)).2 (by rw [hxe2_2,hrd];exact congrArg (fun x => [x]) (numC_rd 2 (by decide) 2 s4).symm)
      clear hrd
      have hbe2_3 : (rdL (rdP (d + 1) ver true) (dfP (d + 1)) ver true [fX1_3,fX1_4] s5).2 = none → FB := fun h => hbe2_2 (by rw [rdL_st (by decide) hhe2_2,← hs5];exact h)
      have hhe2_3 : hasS fX1_3 ver = true := hasS_t (by show (0 : Int) ≤ ver;omega) (by show (-1 : Int) < 0 ∨ ver ≤ (-1 : Int);omega)
      obtain ⟨xe2_3,hxe2_3⟩ : ∃ x,x = (rdF (rdP (d + 1) ver true) ver true fX1_3 s5).1 := ⟨_,rfl⟩
      repeat ((first | refine qA rfl ?_|apply qB|refine qC rfl ?_|apply qD|apply qE|apply qF|apply qG|apply qH);try simp (maxSteps:=1000000)(disch:=(first|omega|(simp only [qI,qJ,qK]<;>omega)|exact qL _)) only [go_sem,↓reduceIte,n0,reduceCtorEq,n1,n2,n3,n4,n5,i0,i1,i2,i3,i4,i5,i6,i7,hxb11,hrc2_2,hrc2_7,hrc2_8,hrc2_9,hrc2_10,hrc2_28,hra2,hri2,exitRQ_ret,exitRQ_exit,Int.toNat_natCast,Nat.mul_one])
      have hrd : rdF (rdP (d + 1) ver true) ver true fX1_3 s5 = _ := rdF_bool rfl
      refine (Bool_fn w11 hq11.1 hrok).mono ?_
      rintro _ w12 ⟨rfl,hq12,hu12⟩
      have hx1_12 := hu12.blk_some hx1_11 (by omega)
      have hV12 : Upd (fun b => b = R1 ∨ b = rb) w11 w12 := hu12.mono (fun _ h => .inr h)
      have hU12 : Upd (fun b => b = vb ∨ b = rb) w1 w12 := hU11.trans' hV12 fun i hi h => h.elim (fun h => by omega) .inr
      have hz12 := hV12.size
      have hG12 : Glo ev w12 := hG1.updS hU12 hgM1 hgM2
      obtain ⟨X12,hX12⟩ : ∃ X : Array Value,X = (A1 ++ (([strV (rdStr true s2).1,.int .i64 (rdInt .i64 8 s3).1,.int .i16 (rdInt .i16 2 s4).1,.bool false,.slice none 0 0,.map none] : List Value) ++ B1)).toArray := ⟨_,rfl⟩
      have hxb12 : blk w12 R1 = some (X12,109,(0,0)) := by rw [hX12];exact hx1_12
      have hXs12 : j1 * 6 + 6 ≤ X12.size := by rw [hX12];simp only [List.size_toArray,List.length_append,List.length_cons,List.length_nil,hA1];omega
      have hst : (rdF (rdP (d + 1) ver true) ver true fX1_3 s5).2 = (rdN 1 s5).2 := by first | (rw [hrd];rfl) | rw [hrd]
      obtain ⟨s6,hs6⟩ : ∃ s,s = (rdF (rdP (d + 1) ver true) ver true fX1_3 s5).2 := ⟨_,rfl⟩
      rw [← hst,← hs6] at hq12
      clear hst
      have hst12_3 : j1 * 6 + 4 ≤ X12.size := by omega
      have hld12_4 : X12[j1 * 6 + 4]? = some (.slice none 0 0) := by rw [hX12];exact el_cell (R := 0) hA1 (Nat.le_of_ble_eq_true rfl)
      repeat ((first | refine qA rfl ?_|apply qB|refine qC rfl ?_|apply qD|apply qE|apply qF|apply qG|apply qH);try simp (maxSteps:=1000000)(disch:=(first|omega|(simp only [qI,qJ,qK]<;>omega)|exact qL _)) only [go_sem,↓reduceIte,n0,reduceCtorEq,n1,n2,n3,n4,n5,i0,i1,i2,i3,i4,i5,i6,i7,hxb12,hrc2_2,hrc2_7,hrc2_8,hrc2_9,hrc2_10,hrc2_28,hra2,hri2,exitRQ_ret,exitRQ_exit,Int.toNat_natCast,Nat.mul_one,hst12_3,hld12_4,Array.getElem?_setIfInBounds_ne])
      generalize hw13 : wr w12 R1 (j1 * 6 + 3) [.bool (!decide (beN (rdN 1 s5).1 = 0))] = w13
      have hS13 : Upd (fun b => b = R1 ∨ b = rb) w12 w13 := by rw [← hw13];exact (Upd.refl _ _).wr _ _ (.inr (.inl rfl))
      have hx1_13 : blk w13 R1 = some ((A1 ++ (([strV (rdStr true s2).1,.int .i64 (rdInt .i64 8 s3).1,.int .i16 (rdInt .i16 2 s4).1,.bool (!decide (beN (rdN 1 s5).1 = 0)),.slice none 0 0,.map none] : List Value) ++ B1)).toArray,109,(0,0)) := by rw [← hw13];exact el_blk (o := 3) hx1_12 hA1 (Nat.le_of_ble_eq_true rfl)
      have hV13 := hS13
      have hU13 : Upd (fun b => b = vb ∨ b = rb) w1 w13 := hU12.trans' hV13 fun i hi h => h.elim (fun h => by omega) .inr
      have hz13 := hV13.size
      have hG13 : Glo ev w13 := hG1.updS hU13 hgM1 hgM2
      have hq13 : Rdr RT ok w13 rb s6 ∧ NN w13 rb s6 := by
        have hn : ∀ x,x = w13 → (Rdr RT ok x rb s6 ∧ NN x rb s6) := fun x hx => by
          rw [hx,← hw13]
          exact Rdr.store hq12 (by omega) (fun h => by have := (hok _ h).1;first | omega | exact (hok _ h).2 rfl)
        exact hn _ rfl
      obtain ⟨X13,hX13⟩ : ∃ X : Array Value,X = (A1 ++ (([strV (rdStr true s2).1,.int .i64 (rdInt .i64 8 s3).1,.int .i16 (rdInt .i16 2 s4).1,.bool (!decide (beN (rdN 1 s5).1 = 0)),.slice none 0 0,.map none] : List Value) ++ B1)).toArray := ⟨_,rfl⟩
      have hxb13 : blk w13 R1 = some (X13,109,(0,0)) := by rw [hX13];exact hx1_13
      have hXs13 : j1 * 6 + 6 ≤ X13.size := by rw [hX13];simp only [List.size_toArray,List.length_append,List.length_cons,List.length_nil,hA1];omega
      clear hw13
      have hfe2_3 : RepF (RepS true (d + 1)) (szS true (d + 1)) fX1_3 (fun b => (ok b ∨ w1.heap.size ≤ b) ∧ ¬ ownB va2 b) w13 (xe2_3) [.bool (!decide (beN (rdN 1 s5).1 = 0))] := (RepF_num (by decide)).2 (by rw [hxe2_3,hrd];exact congrArg (fun x => [x]) (numC_bool _).symm)
      clear hrd
      have hbe2_4 : (rdL (rdP (d + 1) ver true) (dfP (d + 1)) ver true [fX1_4] s6).2 = none → FB := fun h => hbe2_3 (by rw [rdL_st (by decide) hhe2_3,← hs6];exact h)
      have hhe2_4 : hasS fX1_4 ver = true := hasS_t (by show (0 : Int) ≤ ver;omega) (by show (-1 : Int) < 0 ∨ ver ≤ (-1 : Int);omega)
      obtain ⟨xe2_4,hxe2_4⟩ : ∃ x,x = (rdF (rdP (d + 1) ver true) ver true fX1_4 s6).1 := ⟨_,rfl⟩
      have hld13_4 : X13[j1 * 6 + 4]? = some (.slice none 0 0) := by rw [hX13];exact el_cell (R := 0) hA1 (Nat.le_of_ble_eq_true rfl)
      repeat ((first | refine qA rfl ?_|apply qB|refine qC rfl ?_|apply qD|apply qE|apply qF|apply qG|apply qH);try simp (maxSteps:=1000000)(disch:=(first|omega|(simp only [qI,qJ,qK]<;>omega)|exact qL _)) only [go_sem,↓reduceIte,n0,reduceCtorEq,n1,n2,n3,n4,n5,i0,i1,i2,i3,i4,i5,i6,i7,hxb13,hrc2_2,hrc2_7,hrc2_8,hrc2_9,hrc2_10,hrc2_28,hra2,hri2,exitRQ_ret,exitRQ_exit,Int.toNat_natCast,Nat.mul_one,hld13_4])
      refine (RCompactArrayLen_fn w13 hq13.1 hrok hG13.1 hgrb).mono ?_
      rintro _ w14 ⟨rfl,hq14,hu14⟩
      have hx1_14 := hu14.blk_some hx1_13 (by omega)
      have hV14 : Upd (fun b => b = R1 ∨ b = rb) w13 w14 := hu14.mono (fun _ h => .inr h)
      have hU14 : Upd (fun b => b = vb ∨ b = rb) w1 w14 := hU13.trans' hV14 fun i hi h => h.elim (fun h => by omega) .inr
      have hz14 := hV14.size
      have hG14 : Glo ev w14 := hG1.updS hU14 hgM1 hgM2
      obtain ⟨X14,hX14⟩ : ∃ X : Array Value,X = (A1 ++ (([strV (rdStr true s2).1,.int .i64 (rdInt .i64 8 s3).1,.int .i16 (rdInt .i16 2 s4).1,.bool (!decide (beN (rdN 1 s5).1 = 0)),.slice none 0 0,.map none] : List Value) ++ B1)).toArray := ⟨_,rfl⟩
      have hxb14 : blk w14 R1 = some (X14,109,(0,0)) := by rw [hX14];exact hx1_14
      have hXs14 : j1 * 6 + 6 ≤ X14.size := by rw [hX14];simp only [List.size_toArray,List.length_append,List.length_cons,List.length_nil,hA1];omega
      obtain ⟨s7,hs7⟩ : ∃ s,s = (rdALen true s6).2 := ⟨_,rfl⟩
      rw [← hs7] at hq14
      have hyr3 := rdALen_rng true s6
      generalize hy3 : (rdALen true s6).1 = y3 at *
      obtain ⟨N3,hN3⟩ : ∃ N,N = y3.toNat := ⟨_,rfl⟩
      have hlb3 : (rdMany (rd1 (rdP (d + 1) ver true) fX1_4.of fX1_4.sub false true) N3 s7).2 = none → FB := fun h => hbe2_4 (by rw [rdL_st (by decide) hhe2_4];exact rdL_bad (rdF_listbad rfl (by rw [hy3,← hN3,← hs7];exact h)))
      repeat ((first | refine W.seqR rfl ?_ | refine W.seq ?_ | refine W.regR rfl ?_ | refine W.block ?_ | refine W.skip ?_ | refine W.ret ?_ | refine W.exit ?_);try simp (maxSteps:=1000000)(disch:=(first|omega|(simp only [qI,qJ,qK]<;>omega)|exact qL _)) only [go_sem,↓reduceIte,n0,reduceCtorEq,n1,n2,n3,n4,n5,i0,i1,i2,i3,i4,i5,i6,i7,hxb14,hrc2_2,hrc2_7,hrc2_8,hrc2_9,hrc2_10,hrc2_28,hra2,hri2,exitRQ_ret,exitRQ_exit,Int.toNat_natCast,Nat.mul_one])
      refine (ROk_fn w14 hq14.1).mono ?_
      rintro _ wz ⟨rfl,hez⟩
      rw [hez]
      clear hez wz
      by_cases hsn3 : s7 = none
      · have hso : s7.isSome = false := by rw [hsn3];rfl
        repeat (first|simp (maxSteps:=1000000)(disch:=(first|omega|(simp only [qI,qJ,qK]<;>omega)|exact qL _)) only [go_sem,↓reduceIte,n0,reduceCtorEq,n1,n2,n3,n4,n5,i0,i1,i2,i3,i4,i5,i6,i7,hxb14,hrc2_2,hrc2_7,hrc2_8,hrc2_9,hrc2_10,hrc2_28,hra2,hri2,exitRQ_ret,exitRQ_exit,Int.toNat_natCast,Nat.mul_one,hso]|refine qA rfl ?_|apply qB|refine qC rfl ?_|apply qD|apply qE|apply qF|apply qG|apply qH)
        refine (RComplete_fn w14 hq14.1 hG14.2).mono ?_
        rintro _ wz ⟨rfl,hez⟩
        rw [hez]
        repeat (first|simp (maxSteps:=1000000)(disch:=(first|omega|(simp only [qI,qJ,qK]<;>omega)|exact qL _)) only [go_sem,↓reduceIte,n0,reduceCtorEq,n1,n2,n3,n4,n5,i0,i1,i2,i3,i4,i5,i6,i7,hxb14,hrc2_2,hrc2_7,hrc2_8,hrc2_9,hrc2_10,hrc2_28,hra2,hri2,exitRQ_ret,exitRQ_exit,Int.toNat_natCast,Nat.mul_one]|refine qA rfl ?_|apply qB|refine qC rfl ?_|apply qD|apply qE|apply qF|apply qG|apply qH)
        rw [errV_none hsn3]
        exact ReadQ.bad (Eq.mp hFB (hlb3 (by rw [hsn3];exact rdMany_none rd1P_none _))) (hbase.trans' hU14 fun i hi h => h.elim id fun h => by omega)
      have hso3 : s7.isSome = true := isSome_some hsn3
      try simp (maxSteps:=1000000)(disch:=(first|omega|(simp only [qI,qJ,qK]<;>omega)|exact qL _)) only [go_sem,↓reduceIte,n0,reduceCtorEq,n1,n2,n3,n4,n5,i0,i1,i2,i3,i4,i5,i6,i7,hxb14,hrc2_2,hrc2_7,hrc2_8,hrc2_9,hrc2_10,hrc2_28,hra2,hri2,exitRQ_ret,exitRQ_exit,Int.toNat_natCast,Nat.mul_one,hso3]
      repeat ((first | refine W.seqR rfl ?_ | refine W.seq ?_ | refine W.regR rfl ?_ | refine W.block ?_ | refine W.skip ?_ | refine W.ret ?_ | refine W.exit ?_);try simp (maxSteps:=1000000)(disch:=(first|omega|(simp only [qI,qJ,qK]<;>omega)|exact qL _)) only [go_sem,↓reduceIte,n0,reduceCtorEq,n1,n2,n3,n4,n5,i0,i1,i2,i3,i4,i5,i6,i7,hxb14,hrc2_2,hrc2_7,hrc2_8,hrc2_9,hrc2_10,hrc2_28,hra2,hri2,exitRQ_ret,exitRQ_exit,Int.toNat_natCast,Nat.mul_one,hso3])
      refine W.condK ?_
      try simp (maxSteps:=1000000)(disch:=(first|omega|(simp only [qI,qJ,qK]<;>omega)|exact qL _)) only [go_sem,↓reduceIte,n0,reduceCtorEq,n1,n2,n3,n4,n5,i0,i1,i2,i3,i4,i5,i6,i7,hxb14,hrc2_2,hrc2_7,hrc2_8,hrc2_9,hrc2_10,hrc2_28,hra2,hri2,exitRQ_ret,exitRQ_exit,Int.toNat_natCast,Nat.mul_one,hso3]
      repeat ((first | refine W.seqR rfl ?_ | refine W.seq ?_ | refine W.regR rfl ?_ | refine W.block ?_ | refine W.skip ?_ | refine W.ret ?_ | refine W.exit ?_);try simp (maxSteps:=1000000)(disch:=(first|omega|(simp only [qI,qJ,qK]<;>omega)|exact qL _)) only [go_sem,↓reduceIte,n0,reduceCtorEq,n1,n2,n3,n4,n5,i0,i1,i2,i3,i4,i5,i6,i7,hxb14,hrc2_2,hrc2_7,hrc2_8,hrc2_9,hrc2_10,hrc2_28,hra2,hri2,exitRQ_ret,exitRQ_exit,Int.toNat_natCast,Nat.mul_one,hso3,slBase_00])
      refine W.normJ (RowQ [(2,.bool false),(7,.pointer (some ⟨rb,0,none⟩)),(8,.int .i16 ver),(9,.bool true),(10,.pointer (some ⟨vb,0,none⟩)),(28,.int .i32 y2),(27,.slice (some ⟨R1,0,none⟩) N2 q1),(29,.int .i32 j1),(31,.pointer (some ⟨R1,j1 * 6,none⟩)),(38,.int .i32 y3)] 37 (fun va w' => LstI RT (rd1 (rdP (d + 1) ver true) fX1_4.of fX1_4.sub false true) (Rep1 (RepS true (d + 1)) fX1_4.of fX1_4.sub) 3 111 [.string ByteArray.empty,.slice none 0 0,.map none] w14.heap.size N3 ok (fun b => (ok b ∨ w1.heap.size ≤ b) ∧ ¬ ownB va2 b) rb w14 s7 va 0 s7 [] [] w' ∧ (N3 = 0 → if nilS fX1_4 ver y3 = true then va = .slice none 0 0 else ∃ a,va = .slice (some a) 0 0))) ?_ ?_
      · by_cases hy0 : (0 : Int) < y3
        · have hyv : Value.int .i32 y3 = .int .i32 ((N3 : Nat) : Int) := by rw [show y3 = ((N3 : Nat) : Int) by omega]
          repeat ((first | refine qA rfl ?_|apply qB|refine qC rfl ?_|apply qD|apply qE|apply qF|apply qG|apply qH);try simp (maxSteps:=1000000)(disch:=(first|omega|(simp only [qI,qJ,qK]<;>omega)|exact qL _)) only [go_sem,↓reduceIte,n0,reduceCtorEq,n1,n2,n3,n4,n5,i0,i1,i2,i3,i4,i5,i6,i7,hxb14,hrc2_2,hrc2_7,hrc2_8,hrc2_9,hrc2_10,hrc2_28,hra2,hri2,exitRQ_ret,exitRQ_exit,Int.toNat_natCast,Nat.mul_one])
          refine wp_appendZ (m := N3) utQ_107 utQ_21 inQ_111 (by decide) (by first | rfl | simp (maxSteps:=1000000)(disch:=(first|omega|(simp only [qI,qJ,qK]<;>omega)|exact qL _)) only [go_sem,↓reduceIte,n0,reduceCtorEq,n1,n2,n3,n4,n5,i0,i1,i2,i3,i4,i5,i6,i7,hrc2_2,hrc2_7,hrc2_8,hrc2_9,hrc2_10,hrc2_28,hra2,hri2]) (by first | exact hyv | (simp (maxSteps:=1000000)(disch:=(first|omega|(simp only [qI,qJ,qK]<;>omega)|exact qL _)) only [go_sem,↓reduceIte,n0,reduceCtorEq,n1,n2,n3,n4,n5,i0,i1,i2,i3,i4,i5,i6,i7,hrc2_2,hrc2_7,hrc2_8,hrc2_9,hrc2_10,hrc2_28,hra2,hri2];exact hyv)) (by omega) (by omega) (by decide) ?_
          intro q rest hq1
          have hEw : Ext w14 (w14.drew.alloc (.cells (zs [.string ByteArray.empty,.slice none 0 0,.map none] N3 ++ rest).toArray 111)) := (Upd.refl _ _).drew.alloc _
          repeat (first|simp (maxSteps:=1000000)(disch:=(first|omega|(simp only [qI,qJ,qK]<;>omega)|exact qL _)) only [go_sem,↓reduceIte,n0,reduceCtorEq,n1,n2,n3,n4,n5,i0,i1,i2,i3,i4,i5,i6,i7,hxb14,hrc2_2,hrc2_7,hrc2_8,hrc2_9,hrc2_10,hrc2_28,hra2,hri2,exitRQ_ret,exitRQ_exit,Int.toNat_natCast,Nat.mul_one]|refine qA rfl ?_|apply qB|refine qC rfl ?_|apply qD|apply qE|apply qF|apply qG|apply qH)
          exact ⟨(by simp (maxSteps:=1000000)(disch:=(first|omega|(simp only [qI,qJ,qK]<;>omega)|exact qL _)) only [go_sem,↓reduceIte,n0,reduceCtorEq,n1,n2,n3,n4,n5,i0,i1,i2,i3,i4,i5,i6,i7,Holds_nil,Holds_cons,hrc2_2,hrc2_7,hrc2_8,hrc2_9,hrc2_10,hrc2_28,hra2,hri2]),.slice (some ⟨w14.heap.size,0,none⟩) N3 q,(by simp (maxSteps:=1000000)(disch:=(first|omega|(simp only [qI,qJ,qK]<;>omega)|exact qL _)) only [go_sem,↓reduceIte,n0,reduceCtorEq,n1,n2,n3,n4,n5,i0,i1,i2,i3,i4,i5,i6,i7,hrc2_2,hrc2_7,hrc2_8,hrc2_9,hrc2_10,hrc2_28,hra2,hri2]),LstI.start (RowJ.start (by omega) hq1 (by show w14.heap.size ≤ w14.drew.heap.size;rw [size_drew];omega) (blk_alloc_new rfl)) ⟨hq14.1.upd hEw (fun h => h) (fun _ _ _ h => h),hq14.2.upd hEw fun h => h⟩ (hEw.mono fun _ h => h.elim),fun h0 => by omega⟩
        · repeat ((first | refine qA rfl ?_|apply qB|refine qC rfl ?_|apply qD|apply qE|apply qF|apply qG|apply qH);try simp (maxSteps:=1000000)(disch:=(first|omega|(simp only [qI,qJ,qK]<;>omega)|exact qL _)) only [go_sem,↓reduceIte,n0,reduceCtorEq,n1,n2,n3,n4,n5,i0,i1,i2,i3,i4,i5,i6,i7,hxb14,hrc2_2,hrc2_7,hrc2_8,hrc2_9,hrc2_10,hrc2_28,hra2,hri2,exitRQ_ret,exitRQ_exit,Int.toNat_natCast,Nat.mul_one])
          exact ⟨(by simp (maxSteps:=1000000)(disch:=(first|omega|(simp only [qI,qJ,qK]<;>omega)|exact qL _)) only [go_sem,↓reduceIte,n0,reduceCtorEq,n1,n2,n3,n4,n5,i0,i1,i2,i3,i4,i5,i6,i7,Holds_nil,Holds_cons,hrc2_2,hrc2_7,hrc2_8,hrc2_9,hrc2_10,hrc2_28,hra2,hri2]),.slice none 0 0,(by simp (maxSteps:=1000000)(disch:=(first|omega|(simp only [qI,qJ,qK]<;>omega)|exact qL _)) only [go_sem,↓reduceIte,n0,reduceCtorEq,n1,n2,n3,n4,n5,i0,i1,i2,i3,i4,i5,i6,i7,hrc2_2,hrc2_7,hrc2_8,hrc2_9,hrc2_10,hrc2_28,hra2,hri2,slBase_00]),LstI.start (RowJ.zero (by omega) (fun _ h => by cases h)) hq14 (Upd.refl _ _),fun _ => by rw [nilS_plain (by decide) (by omega)];exact rfl⟩
      rintro ρ w15 ⟨⟨hrb3_2,hrb3_7,hrb3_8,hrb3_9,hrb3_10,hrb3_28,hrb3_27,hrb3_29,hrb3_31,hrb3_38,-⟩,va3,hra3,hL3,hnc3⟩
      repeat ((first | refine qA rfl ?_|apply qB|refine qC rfl ?_|apply qD|apply qE|apply qF|apply qG|apply qH);try simp (maxSteps:=1000000)(disch:=(first|omega|(simp only [qI,qJ,qK]<;>omega)|exact qL _)) only [go_sem,↓reduceIte,n0,reduceCtorEq,n1,n2,n3,n4,n5,i0,i1,i2,i3,i4,i5,i6,i7,hxb14,hrb3_2,hrb3_7,hrb3_8,hrb3_9,hrb3_10,hrb3_28,hrb3_27,hrb3_29,hrb3_31,hrb3_38,hra3,exitRQ_ret,exitRQ_exit,Int.toNat_natCast,Nat.mul_one])
      refine W.exitRJ 6 (EndQ [(2,.bool false),(7,.pointer (some ⟨rb,0,none⟩)),(8,.int .i16 ver),(9,.bool true),(10,.pointer (some ⟨vb,0,none⟩)),(28,.int .i32 y2),(27,.slice (some ⟨R1,0,none⟩) N2 q1),(29,.int .i32 j1),(31,.pointer (some ⟨R1,j1 * 6,none⟩)),(38,.int .i32 y3),(37,va3)] (fun w' => ∃ s xs css,LstI RT (rd1 (rdP (d + 1) ver true) fX1_4.of fX1_4.sub false true) (Rep1 (RepS true (d + 1)) fX1_4.of fX1_4.sub) 3 111 [.string ByteArray.empty,.slice none 0 0,.map none] w14.heap.size N3 ok (fun b => (ok b ∨ w1.heap.size ≤ b) ∧ ¬ ownB va2 b) rb w14 s7 va3 N3 s xs css w')) (W.loop (LoopQ [(2,.bool false),(7,.pointer (some ⟨rb,0,none⟩)),(8,.int .i16 ver),(9,.bool true),(10,.pointer (some ⟨vb,0,none⟩)),(28,.int .i32 y2),(27,.slice (some ⟨R1,0,none⟩) N2 q1),(29,.int .i32 j1),(31,.pointer (some ⟨R1,j1 * 6,none⟩)),(38,.int .i32 y3),(37,va3)] 39 (fun j w' => ∃ s xs css,LstI RT (rd1 (rdP (d + 1) ver true) fX1_4.of fX1_4.sub false true) (Rep1 (RepS true (d + 1)) fX1_4.of fX1_4.sub) 3 111 [.string ByteArray.empty,.slice none 0 0,.map none] w14.heap.size N3 ok (fun b => (ok b ∨ w1.heap.size ≤ b) ∧ ¬ ownB va2 b) rb w14 s7 va3 j s xs css w')) (fun ρ _ => N3 - (RowKit.intOf (ρ 39)).toNat) ?_ ?_) ?_
      · exact ⟨(by simp (maxSteps:=1000000)(disch:=(first|omega|(simp only [qI,qJ,qK]<;>omega)|exact qL _)) only [go_sem,↓reduceIte,n0,reduceCtorEq,n1,n2,n3,n4,n5,i0,i1,i2,i3,i4,i5,i6,i7,Holds_nil,Holds_cons,hrb3_2,hrb3_7,hrb3_8,hrb3_9,hrb3_10,hrb3_28,hrb3_27,hrb3_29,hrb3_31,hrb3_38,hra3]),0,(by simp (maxSteps:=1000000)(disch:=(first|omega|(simp only [qI,qJ,qK]<;>omega)|exact qL _)) only [go_sem,↓reduceIte,n0,reduceCtorEq,n1,n2,n3,n4,n5,i0,i1,i2,i3,i4,i5,i6,i7,hrb3_2,hrb3_7,hrb3_8,hrb3_9,hrb3_10,hrb3_28,hrb3_27,hrb3_29,hrb3_31,hrb3_38,hra3];all_goals rfl),s7,[],[],hL3⟩
      · rintro ρ w16 ⟨⟨hrc3_2,hrc3_7,hrc3_8,hrc3_9,hrc3_10,hrc3_28,hrc3_27,hrc3_29,hrc3_31,hrc3_38,hrc3_37,-⟩,j2,hri3,s8,xs3,css3,hL3⟩
        have hj3 := hL3.le
        have hq16 := hL3.rd
        have hU16 : Upd (fun b => b = vb ∨ b = rb) w1 w16 := hU14.trans' hL3.upd fun i _ h => .inr h
        have hz16 := hL3.upd.size
        have hG16 : Glo ev w16 := hG1.updS hU16 hgM1 hgM2
        by_cases hlt3 : j2 < N3
        · obtain ⟨R2,q2,B2,hva2,hNq2,hLR2,hA2,hx2_16,hnext2⟩ := hL3.row.next hlt3
          have hRl2 := blk_lt hx2_16
          generalize css3.flatten = A2 at hA2 hx2_16 hnext2
          replace hra3 : ρ 37 = .slice (some ⟨R2,0,none⟩) N3 q2 := hrc3_37.trans hva2
          have hown2 : ∀ b,ownB va3 b → w14.heap.size ≤ b ∧ b < w16.heap.size := fun b h => hL3.row.own h
          have hoM2 : ∀ b,(fun b => (fun b => (ok b ∨ w1.heap.size ≤ b) ∧ ¬ ownB va2 b) b ∧ ¬ ownB va3 b) b → ¬ (b = R2 ∨ b = rb) := fun b hk h => h.elim (fun e => hk.2 ⟨_,_,_,hva2,e⟩) (fun e => hoM1 b hk.1 (.inr e))
          obtain ⟨X16,hX16⟩ : ∃ X : Array Value,X = (A2 ++ (([.string ByteArray.empty,.slice none 0 0,.map none] : List Value) ++ B2)).toArray := ⟨_,rfl⟩
          have hxb16 : blk w16 R2 = some (X16,111,(0,0)) := by rw [hX16];exact hx2_16
          have hXs16 : j2 * 3 + 3 ≤ X16.size := by rw [hX16];simp only [List.size_toArray,List.length_append,List.length_cons,List.length_nil,hA2];omega
          repeat ((first | refine qA rfl ?_|apply qB|refine qC rfl ?_|apply qD|apply qE|apply qF|apply qG|apply qH);try simp (maxSteps:=1000000)(disch:=(first|omega|(simp only [qI,qJ,qK]<;>omega)|exact qL _)) only [go_sem,↓reduceIte,n0,reduceCtorEq,n1,n2,n3,n4,n5,i0,i1,i2,i3,i4,i5,i6,i7,hxb16,hrc3_2,hrc3_7,hrc3_8,hrc3_9,hrc3_10,hrc3_28,hrc3_27,hrc3_29,hrc3_31,hrc3_38,hra3,hri3,exitRQ_ret,exitRQ_exit,Int.toNat_natCast,Nat.mul_one])
          refine (DefaultEX0_fn w16 hx2_16 hA2).mono ?_
          rintro _ w17 ⟨hx2_17,hu17⟩
          have hq17 := And.intro (hq16.1.upd hu17 (by omega) (fun b _ hk e => by have := (hok b hk).1;omega)) (hq16.2.upd hu17 (by omega))
          have hV17 : Upd (fun b => b = R2 ∨ b = rb) w16 w17 := hu17.mono (fun _ h => .inl h)
          have hU17 : Upd (fun b => b = vb ∨ b = rb) w1 w17 := hU16.trans' hV17 fun i hi h => h.elim (fun h => by omega) .inr
          have hz17 := hV17.size
          have hG17 : Glo ev w17 := hG1.updS hU17 hgM1 hgM2
          obtain ⟨X17,hX17⟩ : ∃ X : Array Value,X = (A2 ++ (([.string ByteArray.empty,.slice none 0 0,.map none] : List Value) ++ B2)).toArray := ⟨_,rfl⟩
          have hxb17 : blk w17 R2 = some (X17,111,(0,0)) := by rw [hX17];exact hx2_17
          have hXs17 : j2 * 3 + 3 ≤ X17.size := by rw [hX17];simp only [List.size_toArray,List.length_append,List.length_cons,List.length_nil,hA2];omega
          have hbe2e3_0 : (rdL (rdP d ver true) (dfP d) ver true [fX0_0,fX0_1] s8).2 = none → FB := fun h => hlb3 (hL3.bad hlt3 rd1P_none (by show (rd1 (rdP (d + 1) ver true) 10 fs_X0 false true s8).2 = none;rw [rd1_part];exact rdP_bad h))
          have hhe2e3_0 : hasS fX0_0 ver = true := hasS_t (by show (0 : Int) ≤ ver;omega) (by show (-1 : Int) < 0 ∨ ver ≤ (-1 : Int);omega)
          obtain ⟨xe2e3_0,hxe2e3_0⟩ : ∃ x,x = (rdF (rdP d ver true) ver true fX0_0 s8).1 := ⟨_,rfl⟩
          repeat ((first | refine qA rfl ?_|apply qB|refine qC rfl ?_|apply qD|apply qE|apply qF|apply qG|apply qH);try simp (maxSteps:=1000000)(disch:=(first|omega|(simp only [qI,qJ,qK]<;>omega)|exact qL _)) only [go_sem,↓reduceIte,n0,reduceCtorEq,n1,n2,n3,n4,n5,i0,i1,i2,i3,i4,i5,i6,i7,hxb17,hrc3_2,hrc3_7,hrc3_8,hrc3_9,hrc3_10,hrc3_28,hrc3_27,hrc3_29,hrc3_31,hrc3_38,hra3,hri3,exitRQ_ret,exitRQ_exit,Int.toNat_natCast,Nat.mul_one])
          have hmay : mayS fX0_0 ver = false := mayS_no (by show (-1 : Int) < 0 ∨ ver < (-1 : Int);omega)
          have hrd : rdF (rdP d ver true) ver true fX0_0 s8 = _ := rdF_text rfl hmay
          refine (RCompactString_fn w17 hq17.1 hrok hG17.1 hgrb).mono ?_
          rintro _ w18 ⟨rfl,hq18,hu18⟩
          have hx2_18 := hu18.blk_some hx2_17 (by omega)
          have hV18 : Upd (fun b => b = R2 ∨ b = rb) w17 w18 := hu18.mono (fun _ h => .inr h)
          have hU18 : Upd (fun b => b = vb ∨ b = rb) w1 w18 := hU17.trans' hV18 fun i hi h => h.elim (fun h => by omega) .inr
          have hz18 := hV18.size
          have hG18 : Glo ev w18 := hG1.updS hU18 hgM1 hgM2
          obtain ⟨X18,hX18⟩ : ∃ X : Array Value,X = (A2 ++ (([.string ByteArray.empty,.slice none 0 0,.map none] : List Value) ++ B2)).toArray := ⟨_,rfl⟩
          have hxb18 : blk w18 R2 = some (X18,111,(0,0)) := by rw [hX18];exact hx2_18
          have hXs18 : j2 * 3 + 3 ≤ X18.size := by rw [hX18];simp only [List.size_toArray,List.length_append,List.length_cons,List.length_nil,hA2];omega
          have hst : (rdF (rdP d ver true) ver true fX0_0 s8).2 = (rdStr true s8).2 := by first | (rw [hrd];rfl) | rw [hrd]
          obtain ⟨s9,hs9⟩ : ∃ s,s = (rdF (rdP d ver true) ver true fX0_0 s8).2 := ⟨_,rfl⟩
          rw [← hst,← hs9] at hq18
          clear hst
          have hst18_0 : j2 * 3 + 1 ≤ X18.size := by omega
          have hld18_1 : X18[j2 * 3 + 1]? = some (.slice none 0 0) := by rw [hX18];exact el_cell (R := 0) hA2 (Nat.le_of_ble_eq_true rfl)
          repeat ((first | refine qA rfl ?_|apply qB|refine qC rfl ?_|apply qD|apply qE|apply qF|apply qG|apply qH);try simp (maxSteps:=1000000)(disch:=(first|omega|(simp only [qI,qJ,qK]<;>omega)|exact qL _)) only [go_sem,↓reduceIte,n0,reduceCtorEq,n1,n2,n3,n4,n5,i0,i1,i2,i3,i4,i5,i6,i7,hxb18,hrc3_2,hrc3_7,hrc3_8,hrc3_9,hrc3_10,hrc3_28,hrc3_27,hrc3_29,hrc3_31,hrc3_38,hra3,hri3,exitRQ_ret,exitRQ_exit,Int.toNat_natCast,Nat.mul_one,hst18_0,hld18_1,Array.getElem?_setIfInBounds_ne])
          generalize hw19 : wr w18 R2 (j2 * 3) [strV (rdStr true s8).1] = w19
          have hS19 : Upd (fun b => b = R2 ∨ b = rb) w18 w19 := by rw [← hw19];exact (Upd.refl _ _).wr _ _ (.inr (.inl rfl))
          have hx2_19 : blk w19 R2 = some ((A2 ++ (([strV (rdStr true s8).1,.slice none 0 0,.map none] : List Value) ++ B2)).toArray,111,(0,0)) := by rw [← hw19];exact el_blk0 hx2_18 hA2 (Nat.le_of_ble_eq_true rfl)
          have hV19 := hS19
          have hU19 : Upd (fun b => b = vb ∨ b = rb) w1 w19 := hU18.trans' hV19 fun i hi h => h.elim (fun h => by omega) .inr
          have hz19 := hV19.size
          have hG19 : Glo ev w19 := hG1.updS hU19 hgM1 hgM2
          have hq19 : Rdr RT ok w19 rb s9 ∧ NN w19 rb s9 := by
            have hn : ∀ x,x = w19 → (Rdr RT ok x rb s9 ∧ NN x rb s9) := fun x hx => by
              rw [hx,← hw19]
              exact Rdr.store hq18 (by omega) (fun h => by have := (hok _ h).1;first | omega | exact (hok _ h).2 rfl)
            exact hn _ rfl
          obtain ⟨X19,hX19⟩ : ∃ X : Array Value,X = (A2 ++ (([strV (rdStr true s8).1,.slice none 0 0,.map none] : List Value) ++ B2)).toArray := ⟨_,rfl⟩
          have hxb19 : blk w19 R2 = some (X19,111,(0,0)) := by rw [hX19];exact hx2_19
          have hXs19 : j2 * 3 + 3 ≤ X19.size := by rw [hX19];simp only [List.size_toArray,List.length_append,List.length_cons,List.length_nil,hA2];omega
          clear hw19
          have hfe2e3_0 : RepF (RepS true d) (szS true d) fX0_0 (fun b => (fun b => (ok b ∨ w1.heap.size ≤ b) ∧ ¬ ownB va2 b) b ∧ ¬ ownB va3 b) w19 (xe2e3_0) [strV (rdStr true s8).1] := (RepF_text rfl (by decide)).2 (by rw [hxe2e3_0,hrd];rfl)
          clear hrd
          have hbe2e3_1 : (rdL (rdP d ver true) (dfP d) ver true [fX0_1] s9).2 = none → FB := fun h => hbe2e3_0 (by rw [rdL_st (by decide) hhe2e3_0,← hs9];exact h)
          have hhe2e3_1 : hasS fX0_1 ver = true := hasS_t (by show (0 : Int) ≤ ver;omega) (by show (-1 : Int) < 0 ∨ ver ≤ (-1 : Int);omega)
          obtain ⟨xe2e3_1,hxe2e3_1⟩ : ∃ x,x = (rdF (rdP d ver true) ver true fX0_1 s9).1 := ⟨_,rfl⟩
          have hld19_1 : X19[j2 * 3 + 1]? = some (.slice none 0 0) := by rw [hX19];exact el_cell (R := 0) hA2 (Nat.le_of_ble_eq_true rfl)
          repeat ((first | refine qA rfl ?_|apply qB|refine qC rfl ?_|apply qD|apply qE|apply qF|apply qG|apply qH);try simp (maxSteps:=1000000)(disch:=(first|omega|(simp only [qI,qJ,qK]<;>omega)|exact qL _)) only [go_sem,↓reduceIte,n0,reduceCtorEq,n1,n2,n3,n4,n5,i0,i1,i2,i3,i4,i5,i6,i7,hxb19,hrc3_2,hrc3_7,hrc3_8,hrc3_9,hrc3_10,hrc3_28,hrc3_27,hrc3_29,hrc3_31,hrc3_38,hra3,hri3,exitRQ_ret,exitRQ_exit,Int.toNat_natCast,Nat.mul_one,hld19_1])
          refine (RCompactArrayLen_fn w19 hq19.1 hrok hG19.1 hgrb).mono ?_
          rintro _ w20 ⟨rfl,hq20,hu20⟩
          have hx2_20 := hu20.blk_some hx2_19 (by omega)
          have hV20 : Upd (fun b => b = R2 ∨ b = rb) w19 w20 := hu20.mono (fun _ h => .inr h)
          have hU20 : Upd (fun b => b = vb ∨ b = rb) w1 w20 := hU19.trans' hV20 fun i hi h => h.elim (fun h => by omega) .inr
          have hz20 := hV20.size
          have hG20 : Glo ev w20 := hG1.updS hU20 hgM1 hgM2
          obtain ⟨X20,hX20⟩ : ∃ X : Array Value,X = (A2 ++ (([strV (rdStr true s8).1,.slice none 0 0,.map none] : List Value) ++ B2)).toArray := ⟨_,rfl⟩
          have hxb20 : blk w20 R2 = some (X20,111,(0,0)) := by rw [hX20];exact hx2_20
          have hXs20 : j2 * 3 + 3 ≤ X20.size := by rw [hX20];simp only [List.size_toArray,List.length_append,List.length_cons,List.length_nil,hA2];omega
          obtain ⟨s10,hs10⟩ : ∃ s,s = (rdALen true s9).2 := ⟨_,rfl⟩
          rw [← hs10] at hq20
          have hyr4 := rdALen_rng true s9
          generalize hy4 : (rdALen true s9).1 = y4 at *
          obtain ⟨N4,hN4⟩ : ∃ N,N = y4.toNat := ⟨_,rfl⟩
          have hlb4 : (rdMany (rd1 (rdP d ver true) fX0_1.of fX0_1.sub false true) N4 s10).2 = none → FB := fun h => hbe2e3_1 (by rw [rdL_st (by decide) hhe2e3_1];exact rdL_bad (rdF_listbad rfl (by rw [hy4,← hN4,← hs10];exact h)))
          repeat ((first | refine W.seqR rfl ?_ | refine W.seq ?_ | refine W.regR rfl ?_ | refine W.block ?_ | refine W.skip ?_ | refine W.ret ?_ | refine W.exit ?_);try simp (maxSteps:=1000000)(disch:=(first|omega|(simp only [qI,qJ,qK]<;>omega)|exact qL _)) only [go_sem,↓reduceIte,n0,reduceCtorEq,n1,n2,n3,n4,n5,i0,i1,i2,i3,i4,i5,i6,i7,hxb20,hrc3_2,hrc3_7,hrc3_8,hrc3_9,hrc3_10,hrc3_28,hrc3_27,hrc3_29,hrc3_31,hrc3_38,hra3,hri3,exitRQ_ret,exitRQ_exit,Int.toNat_natCast,Nat.mul_one])
          refine (ROk_fn w20 hq20.1).mono ?_
          rintro _ wz ⟨rfl,hez⟩
          rw [hez]
          clear hez wz
          by_cases hsn4 : s10 = none
          · have hso : s10.isSome = false := by rw [hsn4];rfl
            repeat (first|simp (maxSteps:=1000000)(disch:=(first|omega|(simp only [qI,qJ,qK]<;>omega)|exact qL _)) only [go_sem,↓reduceIte,n0,reduceCtorEq,n1,n2,n3,n4,n5,i0,i1,i2,i3,i4,i5,i6,i7,hxb20,hrc3_2,hrc3_7,hrc3_8,hrc3_9,hrc3_10,hrc3_28,hrc3_27,hrc3_29,hrc3_31,hrc3_38,hra3,hri3,exitRQ_ret,exitRQ_exit,Int.toNat_natCast,Nat.mul_one,hso]|refine qA rfl ?_|apply qB|refine qC rfl ?_|apply qD|apply qE|apply qF|apply qG|apply qH)
            refine (RComplete_fn w20 hq20.1 hG20.2).mono ?_
            rintro _ wz ⟨rfl,hez⟩
            rw [hez]
            repeat (first|simp (maxSteps:=1000000)(disch:=(first|omega|(simp only [qI,qJ,qK]<;>omega)|exact qL _)) only [go_sem,↓reduceIte,n0,reduceCtorEq,n1,n2,n3,n4,n5,i0,i1,i2,i3,i4,i5,i6,i7,hxb20,hrc3_2,hrc3_7,hrc3_8,hrc3_9,hrc3_10,hrc3_28,hrc3_27,hrc3_29,hrc3_31,hrc3_38,hra3,hri3,exitRQ_ret,exitRQ_exit,Int.toNat_natCast,Nat.mul_one]|refine qA rfl ?_|apply qB|refine qC rfl ?_|apply qD|apply qE|apply qF|apply qG|apply qH)
            rw [errV_none hsn4]
            exact ReadQ.bad (Eq.mp hFB (hlb4 (by rw [hsn4];exact rdMany_none rd1P_none _))) (hbase.trans' hU20 fun i hi h => h.elim id fun h => by omega)
          have hso4 : s10.isSome = true := isSome_some hsn4
          try simp (maxSteps:=1000000)(disch:=(first|omega|(simp only [qI,qJ,qK]<;>omega)|exact qL _)) only [go_sem,↓reduceIte,n0,reduceCtorEq,n1,n2,n3,n4,n5,i0,i1,i2,i3,i4,i5,i6,i7,hxb20,hrc3_2,hrc3_7,hrc3_8,hrc3_9,hrc3_10,hrc3_28,hrc3_27,hrc3_29,hrc3_31,hrc3_38,hra3,hri3,exitRQ_ret,exitRQ_exit,Int.toNat_natCast,Nat.mul_one,hso4]
          repeat ((first | refine W.seqR rfl ?_ | refine W.seq ?_ | refine W.regR rfl ?_ | refine W.block ?_ | refine W.skip ?_ | refine W.ret ?_ | refine W.exit ?_);try simp (maxSteps:=1000000)(disch:=(first|omega|(simp only [qI,qJ,qK]<;>omega)|exact qL _)) only [go_sem,↓reduceIte,n0,reduceCtorEq,n1,n2,n3,n4,n5,i0,i1,i2,i3,i4,i5,i6,i7,hxb20,hrc3_2,hrc3_7,hrc3_8,hrc3_9,hrc3_10,hrc3_28,hrc3_27,hrc3_29,hrc3_31,hrc3_38,hra3,hri3,exitRQ_ret,exitRQ_exit,Int.toNat_natCast,Nat.mul_one,hso4])
          refine W.condK ?_
          try simp (maxSteps:=1000000)(disch:=(first|omega|(simp only [qI,qJ,qK]<;>omega)|exact qL _)) only [go_sem,↓reduceIte,n0,reduceCtorEq,n1,n2,n3,n4,n5,i0,i1,i2,i3,i4,i5,i6,i7,hxb20,hrc3_2,hrc3_7,hrc3_8,hrc3_9,hrc3_10,hrc3_28,hrc3_27,hrc3_29,hrc3_31,hrc3_38,hra3,hri3,exitRQ_ret,exitRQ_exit,Int.toNat_natCast,Nat.mul_one,hso4]
          repeat ((first | refine W.seqR rfl ?_ | refine W.seq ?_ | refine W.regR rfl ?_ | refine W.block ?_ | refine W.skip ?_ | refine W.ret ?_ | refine W.exit ?_);try simp (maxSteps:=1000000)(disch:=(first|omega|(simp only [qI,qJ,qK]<;>omega)|exact qL _)) only [go_sem,↓reduceIte,n0,reduceCtorEq,n1,n2,n3,n4,n5,i0,i1,i2,i3,i4,i5,i6,i7,hxb20,hrc3_2,hrc3_7,hrc3_8,hrc3_9,hrc3_10,hrc3_28,hrc3_27,hrc3_29,hrc3_31,hrc3_38,hra3,hri3,exitRQ_ret,exitRQ_exit,Int.toNat_natCast,Nat.mul_one,hso4,slBase_00])
          refine W.normJ (RowQ [(2,.bool false),(7,.pointer (some ⟨rb,0,none⟩)),(8,.int .i16 ver),(9,.bool true),(10,.pointer (some ⟨vb,0,none⟩)),(28,.int .i32 y2),(27,.slice (some ⟨R1,0,none⟩) N2 q1),(29,.int .i32 j1),(31,.pointer (some ⟨R1,j1 * 6,none⟩)),(38,.int .i32 y3),(37,.slice (some ⟨R2,0,none⟩) N3 q2),(39,.int .i32 j2),(41,.pointer (some ⟨R2,j2 * 3,none⟩)),(45,.int .i32 y4)] 44 (fun va w' => LstI RT (rd1 (rdP d ver true) fX0_1.of fX0_1.sub false true) (Rep1 (RepS true d) fX0_1.of fX0_1.sub) 1 21 [.int .i32 0] w20.heap.size N4 ok (fun b => (fun b => (ok b ∨ w1.heap.size ≤ b) ∧ ¬ ownB va2 b) b ∧ ¬ ownB va3 b) rb w20 s10 va 0 s10 [] [] w' ∧ (N4 = 0 → if nilS fX0_1 ver y4 = true then va = .slice none 0 0 else ∃ a,va = .slice (some a) 0 0))) ?_ ?_
          · by_cases hy0 : (0 : Int) < y4
            · have hyv : Value.int .i32 y4 = .int .i32 ((N4 : Nat) : Int) := by rw [show y4 = ((N4 : Nat) : Int) by omega]
              repeat ((first | refine qA rfl ?_|apply qB|refine qC rfl ?_|apply qD|apply qE|apply qF|apply qG|apply qH);try simp (maxSteps:=1000000)(disch:=(first|omega|(simp only [qI,qJ,qK]<;>omega)|exact qL _)) only [go_sem,↓reduceIte,n0,reduceCtorEq,n1,n2,n3,n4,n5,i0,i1,i2,i3,i4,i5,i6,i7,hxb20,hrc3_2,hrc3_7,hrc3_8,hrc3_9,hrc3_10,hrc3_28,hrc3_27,hrc3_29,hrc3_31,hrc3_38,hra3,hri3,exitRQ_ret,exitRQ_exit,Int.toNat_natCast,Nat.mul_one])
              refine wp_appendZ (m := N4) utQ_101 utQ_21 inQ_21 (by decide) (by first | rfl | simp (maxSteps:=1000000)(disch:=(first|omega|(simp only [qI,qJ,qK]<;>omega)|exact qL _)) only [go_sem,↓reduceIte,n0,reduceCtorEq,n1,n2,n3,n4,n5,i0,i1,i2,i3,i4,i5,i6,i7,hrc3_2,hrc3_7,hrc3_8,hrc3_9,hrc3_10,hrc3_28,hrc3_27,hrc3_29,hrc3_31,hrc3_38,hra3,hri3]) (by first | exact hyv | (simp (maxSteps:=1000000)(disch:=(first|omega|(simp only [qI,qJ,qK]<;>omega)|exact qL _)) only [go_sem,↓reduceIte,n0,reduceCtorEq,n1,n2,n3,n4,n5,i0,i1,i2,i3,i4,i5,i6,i7,hrc3_2,hrc3_7,hrc3_8,hrc3_9,hrc3_10,hrc3_28,hrc3_27,hrc3_29,hrc3_31,hrc3_38,hra3,hri3];exact hyv)) (by omega) (by omega) (by decide) ?_
              intro q rest hq1
              have hEw : Ext w20 (w20.drew.alloc (.cells (zs [.int .i32 0] N4 ++ rest).toArray 21)) := (Upd.refl _ _).drew.alloc _
              repeat (first|simp (maxSteps:=1000000)(disch:=(first|omega|(simp only [qI,qJ,qK]<;>omega)|exact qL _)) only [go_sem,↓reduceIte,n0,reduceCtorEq,n1,n2,n3,n4,n5,i0,i1,i2,i3,i4,i5,i6,i7,hxb20,hrc3_2,hrc3_7,hrc3_8,hrc3_9,hrc3_10,hrc3_28,hrc3_27,hrc3_29,hrc3_31,hrc3_38,hra3,hri3,exitRQ_ret,exitRQ_exit,Int.toNat_natCast,Nat.mul_one]|refine qA rfl ?_|apply qB|refine qC rfl ?_|apply qD|apply qE|apply qF|apply qG|apply qH)
              exact ⟨(by simp (maxSteps:=1000000)(disch:=(first|omega|(simp only [qI,qJ,qK]<;>omega)|exact qL _)) only [go_sem,↓reduceIte,n0,reduceCtorEq,n1,n2,n3,n4,n5,i0,i1,i2,i3,i4,i5,i6,i7,Holds_nil,Holds_cons,hrc3_2,hrc3_7,hrc3_8,hrc3_9,hrc3_10,hrc3_28,hrc3_27,hrc3_29,hrc3_31,hrc3_38,hra3,hri3]),.slice (some ⟨w20.heap.size,0,none⟩) N4 q,(by simp (maxSteps:=1000000)(disch:=(first|omega|(simp only [qI,qJ,qK]<;>omega)|exact qL _)) only [go_sem,↓reduceIte,n0,reduceCtorEq,n1,n2,n3,n4,n5,i0,i1,i2,i3,i4,i5,i6,i7,hrc3_2,hrc3_7,hrc3_8,hrc3_9,hrc3_10,hrc3_28,hrc3_27,hrc3_29,hrc3_31,hrc3_38,hra3,hri3]),LstI.start (RowJ.start (by omega) hq1 (by show w20.heap.size ≤ w20.drew.heap.size;rw [size_drew];omega) (blk_alloc_new rfl)) ⟨hq20.1.upd hEw (fun h => h) (fun _ _ _ h => h),hq20.2.upd hEw fun h => h⟩ (hEw.mono fun _ h => h.elim),fun h0 => by omega⟩
            · repeat ((first | refine qA rfl ?_|apply qB|refine qC rfl ?_|apply qD|apply qE|apply qF|apply qG|apply qH);try simp (maxSteps:=1000000)(disch:=(first|omega|(simp only [qI,qJ,qK]<;>omega)|exact qL _)) only [go_sem,↓reduceIte,n0,reduceCtorEq,n1,n2,n3,n4,n5,i0,i1,i2,i3,i4,i5,i6,i7,hxb20,hrc3_2,hrc3_7,hrc3_8,hrc3_9,hrc3_10,hrc3_28,hrc3_27,hrc3_29,hrc3_31,hrc3_38,hra3,hri3,exitRQ_ret,exitRQ_exit,Int.toNat_natCast,Nat.mul_one])
              exact ⟨(by simp (maxSteps:=1000000)(disch:=(first|omega|(simp only [qI,qJ,qK]<;>omega)|exact qL _)) only [go_sem,↓reduceIte,n0,reduceCtorEq,n1,n2,n3,n4,n5,i0,i1,i2,i3,i4,i5,i6,i7,Holds_nil,Holds_cons,hrc3_2,hrc3_7,hrc3_8,hrc3_9,hrc3_10,hrc3_28,hrc3_27,hrc3_29,hrc3_31,hrc3_38,hra3,hri3]),.slice none 0 0,(by simp (maxSteps:=1000000)(disch:=(first|omega|(simp only [qI,qJ,qK]<;>omega)|exact qL _)) only [go_sem,↓reduceIte,n0,reduceCtorEq,n1,n2,n3,n4,n5,i0,i1,i2,i3,i4,i5,i6,i7,hrc3_2,hrc3_7,hrc3_8,hrc3_9,hrc3_10,hrc3_28,hrc3_27,hrc3_29,hrc3_31,hrc3_38,hra3,hri3,slBase_00]),LstI.start (RowJ.zero (by omega) (fun _ h => by cases h)) hq20 (Upd.refl _ _),fun _ => by rw [nilS_plain (by decide) (by omega)];exact rfl⟩
          rintro ρ w21 ⟨⟨hrb4_2,hrb4_7,hrb4_8,hrb4_9,hrb4_10,hrb4_28,hrb4_27,hrb4_29,hrb4_31,hrb4_38,hrb4_37,hrb4_39,hrb4_41,hrb4_45,-⟩,va4,hra4,hL4,hnc4⟩
          repeat ((first | refine qA rfl ?_|apply qB|refine qC rfl ?_|apply qD|apply qE|apply qF|apply qG|apply qH);try simp (maxSteps:=1000000)(disch:=(first|omega|(simp only [qI,qJ,qK]<;>omega)|exact qL _)) only [go_sem,↓reduceIte,n0,reduceCtorEq,n1,n2,n3,n4,n5,i0,i1,i2,i3,i4,i5,i6,i7,hxb20,hrb4_2,hrb4_7,hrb4_8,hrb4_9,hrb4_10,hrb4_28,hrb4_27,hrb4_29,hrb4_31,hrb4_38,hrb4_37,hrb4_39,hrb4_41,hrb4_45,hra4,exitRQ_ret,exitRQ_exit,Int.toNat_natCast,Nat.mul_one])
          refine W.exitRJ 8 (EndQ [(2,.bool false),(7,.pointer (some ⟨rb,0,none⟩)),(8,.int .i16 ver),(9,.bool true),(10,.pointer (some ⟨vb,0,none⟩)),(28,.int .i32 y2),(27,.slice (some ⟨R1,0,none⟩) N2 q1),(29,.int .i32 j1),(31,.pointer (some ⟨R1,j1 * 6,none⟩)),(38,.int .i32 y3),(37,.slice (some ⟨R2,0,none⟩) N3 q2),(39,.int .i32 j2),(41,.pointer (some ⟨R2,j2 * 3,none⟩)),(45,.int .i32 y4),(44,va4)] (fun w' => ∃ s xs css,LstI RT (rd1 (rdP d ver true) fX0_1.of fX0_1.sub false true) (Rep1 (RepS true d) fX0_1.of fX0_1.sub) 1 21 [.int .i32 0] w20.heap.size N4 ok (fun b => (fun b => (ok b ∨ w1.heap.size ≤ b) ∧ ¬ ownB va2 b) b ∧ ¬ ownB va3 b) rb w20 s10 va4 N4 s xs css w')) (W.loop (LoopQ [(2,.bool false),(7,.pointer (some ⟨rb,0,none⟩)),(8,.int .i16 ver),(9,.bool true),(10,.pointer (some ⟨vb,0,none⟩)),(28,.int .i32 y2),(27,.slice (some ⟨R1,0,none⟩) N2 q1),(29,.int .i32 j1),(31,.pointer (some ⟨R1,j1 * 6,none⟩)),(38,.int .i32 y3),(37,.slice (some ⟨R2,0,none⟩) N3 q2),(39,.int .i32 j2),(41,.pointer (some ⟨R2,j2 * 3,none⟩)),(45,.int .i32 y4),(44,va4)] 46 (fun j w' => ∃ s xs css,LstI RT (rd1 (rdP d ver true) fX0_1.of fX0_1.sub false true) (Rep1 (RepS true d) fX0_1.of fX0_1.sub) 1 21 [.int .i32 0] w20.heap.size N4 ok (fun b => (fun b => (ok b ∨ w1.heap.size ≤ b) ∧ ¬ ownB va2 b) b ∧ ¬ ownB va3 b) rb w20 s10 va4 j s xs css w')) (fun ρ _ => N4 - (RowKit.intOf (ρ 46)).toNat) ?_ ?_) ?_
          · exact ⟨(by simp (maxSteps:=1000000)(disch:=(first|omega|(simp only [qI,qJ,qK]<;>omega)|exact qL _)) only [go_sem,↓reduceIte,n0,reduceCtorEq,n1,n2,n3,n4,n5,i0,i1,i2,i3,i4,i5,i6,i7,Holds_nil,Holds_cons,hrb4_2,hrb4_7,hrb4_8,hrb4_9,hrb4_10,hrb4_28,hrb4_27,hrb4_29,hrb4_31,hrb4_38,hrb4_37,hrb4_39,hrb4_41,hrb4_45,hra4]),0,(by simp (maxSteps:=1000000)(disch:=(first|omega|(simp only [qI,qJ,qK]<;>omega)|exact qL _)) only [go_sem,↓reduceIte,n0,reduceCtorEq,n1,n2,n3,n4,n5,i0,i1,i2,i3,i4,i5,i6,i7,hrb4_2,hrb4_7,hrb4_8,hrb4_9,hrb4_10,hrb4_28,hrb4_27,hrb4_29,hrb4_31,hrb4_38,hrb4_37,hrb4_39,hrb4_41,hrb4_45,hra4];all_goals rfl),s10,[],[],hL4⟩
          · rintro ρ w22 ⟨⟨hrc4_2,hrc4_7,hrc4_8,hrc4_9,hrc4_10,hrc4_28,hrc4_27,hrc4_29,hrc4_31,hrc4_38,hrc4_37,hrc4_39,hrc4_41,hrc4_45,hrc4_44,-⟩,j3,hri4,s11,xs4,css4,hL4⟩
            have hj4 := hL4.le
            have hq22 := hL4.rd
            have hU22 : Upd (fun b => b = vb ∨ b = rb) w1 w22 := hU20.trans' hL4.upd fun i _ h => .inr h
            have hz22 := hL4.upd.size
            have hG22 : Glo ev w22 := hG1.updS hU22 hgM1 hgM2
            by_cases hlt4 : j3 < N4
            · obtain ⟨R3,q3,B3,hva3,hNq3,hLR3,hA3,hx3_22,hnext3⟩ := hL4.row.next hlt4
              have hRl3 := blk_lt hx3_22
              generalize css4.flatten = A3 at hA3 hx3_22 hnext3
              rw [Nat.mul_one] at hA3
              replace hra4 : ρ 44 = .slice (some ⟨R3,0,none⟩) N4 q3 := hrc4_44.trans hva3
              have hown3 : ∀ b,ownB va4 b → w20.heap.size ≤ b ∧ b < w22.heap.size := fun b h => hL4.row.own h
              have hoM3 : ∀ b,(fun b => (fun b => (fun b => (ok b ∨ w1.heap.size ≤ b) ∧ ¬ ownB va2 b) b ∧ ¬ ownB va3 b) b ∧ ¬ ownB va4 b) b → ¬ (b = R3 ∨ b = rb) := fun b hk h => h.elim (fun e => hk.2 ⟨_,_,_,hva3,e⟩) (fun e => hoM2 b hk.1 (.inr e))
              obtain ⟨X22,hX22⟩ : ∃ X : Array Value,X = (A3 ++ (([.int .i32 0] : List Value) ++ B3)).toArray := ⟨_,rfl⟩
              have hxb22 : blk w22 R3 = some (X22,21,(0,0)) := by rw [hX22];exact hx3_22
              have hXs22 : j3 + 1 ≤ X22.size := by rw [hX22];simp only [List.size_toArray,List.length_append,List.length_cons,List.length_nil,hA3];omega
              repeat ((first | refine qA rfl ?_|apply qB|refine qC rfl ?_|apply qD|apply qE|apply qF|apply qG|apply qH);try simp (maxSteps:=1000000)(disch:=(first|omega|(simp only [qI,qJ,qK]<;>omega)|exact qL _)) only [go_sem,↓reduceIte,n0,reduceCtorEq,n1,n2,n3,n4,n5,i0,i1,i2,i3,i4,i5,i6,i7,hxb22,hrc4_2,hrc4_7,hrc4_8,hrc4_9,hrc4_10,hrc4_28,hrc4_27,hrc4_29,hrc4_31,hrc4_38,hrc4_37,hrc4_39,hrc4_41,hrc4_45,hra4,hri4,exitRQ_ret,exitRQ_exit,Int.toNat_natCast,Nat.mul_one])
              refine (Int32_fn w22 hq22.1 hrok hG22.1 hgrb).mono ?_
              rintro _ w23 ⟨rfl,hq23,hu23⟩
              have hx3_23 := hu23.blk_some hx3_22 (by omega)
              have hV23 : Upd (fun b => b = R3 ∨ b = rb) w22 w23 := hu23.mono (fun _ h => .inr h)
              have hU23 : Upd (fun b => b = vb ∨ b = rb) w1 w23 := hU22.trans' hV23 fun i hi h => h.elim (fun h => by omega) .inr
              have hz23 := hV23.size
              have hG23 : Glo ev w23 := hG1.updS hU23 hgM1 hgM2
              obtain ⟨X23,hX23⟩ : ∃ X : Array Value,X = (A3 ++ (([.int .i32 0] : List Value) ++ B3)).toArray := ⟨_,rfl⟩
              have hxb23 : blk w23 R3 = some (X23,21,(0,0)) := by rw [hX23];exact hx3_23
              have hXs23 : j3 + 1 ≤ X23.size := by rw [hX23];simp only [List.size_toArray,List.length_append,List.length_cons,List.length_nil,hA3];omega
              obtain ⟨s12,hs12⟩ : ∃ s,s = (rdInt .i32 4 s11).2 := ⟨_,rfl⟩
              rw [← hs12] at hq23
              have hrE : (rd1 (rdP d ver true) fX0_1.of fX0_1.sub false true) s11 = ((.num (rdInt .i32 4 s11).1),s12) := by rw [hs12];exact rd1_num 3 (by decide)
              have hst23_0 : j3 + 1 ≤ X23.size := by omega
              repeat ((first | refine qA rfl ?_|apply qB|refine qC rfl ?_|apply qD|apply qE|apply qF|apply qG|apply qH);try simp (maxSteps:=1000000)(disch:=(first|omega|(simp only [qI,qJ,qK]<;>omega)|exact qL _)) only [go_sem,↓reduceIte,n0,reduceCtorEq,n1,n2,n3,n4,n5,i0,i1,i2,i3,i4,i5,i6,i7,hxb23,hrc4_2,hrc4_7,hrc4_8,hrc4_9,hrc4_10,hrc4_28,hrc4_27,hrc4_29,hrc4_31,hrc4_38,hrc4_37,hrc4_39,hrc4_41,hrc4_45,hra4,hri4,exitRQ_ret,exitRQ_exit,Int.toNat_natCast,Nat.mul_one,hst23_0])
              generalize hw24 : wr w23 R3 (j3) [.int .i32 (rdInt .i32 4 s11).1] = w24
              have hS24 : Upd (fun b => b = R3 ∨ b = rb) w23 w24 := by rw [← hw24];exact (Upd.refl _ _).wr _ _ (.inr (.inl rfl))
              have hx3_24 : blk w24 R3 = some ((A3 ++ (([.int .i32 (rdInt .i32 4 s11).1] : List Value) ++ B3)).toArray,21,(0,0)) := by rw [← hw24];exact el_blk0 hx3_23 hA3 (Nat.le_of_ble_eq_true rfl)
              have hV24 := hS24
              have hU24 : Upd (fun b => b = vb ∨ b = rb) w1 w24 := hU23.trans' hV24 fun i hi h => h.elim (fun h => by omega) .inr
              have hz24 := hV24.size
              have hG24 : Glo ev w24 := hG1.updS hU24 hgM1 hgM2
              have hq24 : Rdr RT ok w24 rb s12 ∧ NN w24 rb s12 := by
                have hn : ∀ x,x = w24 → (Rdr RT ok x rb s12 ∧ NN x rb s12) := fun x hx => by
                  rw [hx,← hw24]
                  exact Rdr.store hq23 (by omega) (fun h => by have := (hok _ h).1;first | omega | exact (hok _ h).2 rfl)
                exact hn _ rfl
              obtain ⟨X24,hX24⟩ : ∃ X : Array Value,X = (A3 ++ (([.int .i32 (rdInt .i32 4 s11).1] : List Value) ++ B3)).toArray := ⟨_,rfl⟩
              have hxb24 : blk w24 R3 = some (X24,21,(0,0)) := by rw [hX24];exact hx3_24
              have hXs24 : j3 + 1 ≤ X24.size := by rw [hX24];simp only [List.size_toArray,List.length_append,List.length_cons,List.length_nil,hA3];omega
              clear hw24
              have hxE : (Rep1 (RepS true d) fX0_1.of fX0_1.sub) (fun b => (fun b => (fun b => (ok b ∨ w1.heap.size ≤ b) ∧ ¬ ownB va2 b) b ∧ ¬ ownB va3 b) b ∧ ¬ ownB va4 b) w24 (.num (rdInt .i32 4 s11).1) [.int .i32 (rdInt .i32 4 s11).1] := (Rep1_num (by decide)).2 (congrArg (fun x => [x]) (numC_rd 3 (by decide) 4 s11).symm)
              repeat ((first | refine qA rfl ?_|apply qB|refine qC rfl ?_|apply qD|apply qE|apply qF|apply qG|apply qH);try simp (maxSteps:=1000000)(disch:=(first|omega|(simp only [qI,qJ,qK]<;>omega)|exact qL _)) only [go_sem,↓reduceIte,n0,reduceCtorEq,n1,n2,n3,n4,n5,i0,i1,i2,i3,i4,i5,i6,i7,hxb24,hrc4_2,hrc4_7,hrc4_8,hrc4_9,hrc4_10,hrc4_28,hrc4_27,hrc4_29,hrc4_31,hrc4_38,hrc4_37,hrc4_39,hrc4_41,hrc4_45,hra4,hri4,exitRQ_ret,exitRQ_exit,Int.toNat_natCast,Nat.mul_one])
              have hTk : Upd (fun b => b = R3 ∨ b = rb) w22 w24 := (hV23.trans hV24)
              have hL' := hL4.step (Rep1_lay _ _ fun _ => RepS_lay true _ _) hlt4 (hnext3 w24 [.int .i32 (rdInt .i32 4 s11).1] rfl hx3_24) (by rw [hrE];exact hxE) (hTk.mono fun b h => h.imp (fun e => ⟨_,_,_,hva3,e⟩) id) (by rw [hrE];exact hq24) (fun h => hoM2 rb h (.inr rfl)) (Nat.le_refl _)
              have hij : IntKind.i32.wrap ((j3 : Int) + 1) = ((j3 + 1 : Nat) : Int) := by rw [i32_wrap (by omega)];omega
              repeat ((first | refine qA rfl ?_|apply qB|refine qC rfl ?_|apply qD|apply qE|apply qF|apply qG|apply qH);try simp (maxSteps:=1000000)(disch:=(first|omega|(simp only [qI,qJ,qK]<;>omega)|exact qL _)) only [go_sem,↓reduceIte,n0,reduceCtorEq,n1,n2,n3,n4,n5,i0,i1,i2,i3,i4,i5,i6,i7,hxb24,hrc4_2,hrc4_7,hrc4_8,hrc4_9,hrc4_10,hrc4_28,hrc4_27,hrc4_29,hrc4_31,hrc4_38,hrc4_37,hrc4_39,hrc4_41,hrc4_45,hra4,hri4,exitRQ_ret,exitRQ_exit,Int.toNat_natCast,Nat.mul_one,hij])
              refine ⟨⟨(by simp (maxSteps:=1000000)(disch:=(first|omega|(simp only [qI,qJ,qK]<;>omega)|exact qL _)) only [go_sem,↓reduceIte,n0,reduceCtorEq,n1,n2,n3,n4,n5,i0,i1,i2,i3,i4,i5,i6,i7,Holds_nil,Holds_cons,hrc4_2,hrc4_7,hrc4_8,hrc4_9,hrc4_10,hrc4_28,hrc4_27,hrc4_29,hrc4_31,hrc4_38,hrc4_37,hrc4_39,hrc4_41,hrc4_45,hra4,hri4];exact hva3.symm),j3 + 1,(by simp (maxSteps:=1000000)(disch:=(first|omega|(simp only [qI,qJ,qK]<;>omega)|exact qL _)) only [go_sem,↓reduceIte,n0,reduceCtorEq,n1,n2,n3,n4,n5,i0,i1,i2,i3,i4,i5,i6,i7,hrc4_2,hrc4_7,hrc4_8,hrc4_9,hrc4_10,hrc4_28,hrc4_27,hrc4_29,hrc4_31,hrc4_38,hrc4_37,hrc4_39,hrc4_41,hrc4_45,hra4,hri4,hij];all_goals rfl),_,_,_,hL'⟩,?_⟩
              try simp (maxSteps:=1000000)(disch:=(first|omega|(simp only [qI,qJ,qK]<;>omega)|exact qL _)) only [go_sem,↓reduceIte,n0,reduceCtorEq,n1,n2,n3,n4,n5,i0,i1,i2,i3,i4,i5,i6,i7,hrc4_2,hrc4_7,hrc4_8,hrc4_9,hrc4_10,hrc4_28,hrc4_27,hrc4_29,hrc4_31,hrc4_38,hrc4_37,hrc4_39,hrc4_41,hrc4_45,hra4,hri4]
              simp only [RowKit.intOf]
              omega
            · have hjN : j3 = N4 := by omega
              rw [hjN] at hL4
              repeat ((first | refine qA rfl ?_|apply qB|refine qC rfl ?_|apply qD|apply qE|apply qF|apply qG|apply qH);try simp (maxSteps:=1000000)(disch:=(first|omega|(simp only [qI,qJ,qK]<;>omega)|exact qL _)) only [go_sem,↓reduceIte,n0,reduceCtorEq,n1,n2,n3,n4,n5,i0,i1,i2,i3,i4,i5,i6,i7,hrc4_2,hrc4_7,hrc4_8,hrc4_9,hrc4_10,hrc4_28,hrc4_27,hrc4_29,hrc4_31,hrc4_38,hrc4_37,hrc4_39,hrc4_41,hrc4_45,hrc4_44,hri4,exitRQ_ret,exitRQ_exit])
              exact ⟨(by simp (maxSteps:=1000000)(disch:=(first|omega|(simp only [qI,qJ,qK]<;>omega)|exact qL _)) only [go_sem,↓reduceIte,n0,reduceCtorEq,n1,n2,n3,n4,n5,i0,i1,i2,i3,i4,i5,i6,i7,Holds_nil,Holds_cons,hrc4_2,hrc4_7,hrc4_8,hrc4_9,hrc4_10,hrc4_28,hrc4_27,hrc4_29,hrc4_31,hrc4_38,hrc4_37,hrc4_39,hrc4_41,hrc4_45,hrc4_44,hri4]),s11,xs4,css4,hL4⟩
          rintro ρ w25 ⟨⟨hrd4_2,hrd4_7,hrd4_8,hrd4_9,hrd4_10,hrd4_28,hrd4_27,hrd4_29,hrd4_31,hrd4_38,hrd4_37,hrd4_39,hrd4_41,hrd4_45,hrd4_44,-⟩,s13,xs4,css4,hL4⟩
          have hq25 := hL4.rd
          have hu25 := hL4.upd
          have hx2_25 := hu25.blk_some hx2_20 (by omega)
          have hV25 : Upd (fun b => b = R2 ∨ b = rb) w20 w25 := hu25.mono (fun _ h => .inr h)
          have hU25 : Upd (fun b => b = vb ∨ b = rb) w1 w25 := hU20.trans' hV25 fun i hi h => h.elim (fun h => by omega) .inr
          have hz25 := hV25.size
          have hG25 : Glo ev w25 := hG1.updS hU25 hgM1 hgM2
          obtain ⟨X25,hX25⟩ : ∃ X : Array Value,X = (A2 ++ (([strV (rdStr true s8).1,.slice none 0 0,.map none] : List Value) ++ B2)).toArray := ⟨_,rfl⟩
          have hxb25 : blk w25 R2 = some (X25,111,(0,0)) := by rw [hX25];exact hx2_25
          have hXs25 : j2 * 3 + 3 ≤ X25.size := by rw [hX25];simp only [List.size_toArray,List.length_append,List.length_cons,List.length_nil,hA2];omega
          have hrd4 : rdF (rdP d ver true) ver true fX0_1 s9 = (.mk 0 [] (nilS fX0_1 ver y4) xs4 [],s13) := by
            have h := rdF_listE (pt := (rdP d ver true)) (v := ver) (flex := true) (f := fX0_1) (s := s9) (xs := xs4) (e := s13) rfl (by rw [hy4,← hN4,← hs10];exact hL4.done)
            rw [hy4] at h;exact h
          have hs13 : s13 = (rdF (rdP d ver true) ver true fX0_1 s9).2 := by rw [hrd4]
          obtain ⟨aa4,qq4,hvs4⟩ := hL4.row.shape
          subst hvs4
          have hst25_1 : j2 * 3 + 2 ≤ X25.size := by omega
          repeat ((first | refine qA rfl ?_|apply qB|refine qC rfl ?_|apply qD|apply qE|apply qF|apply qG|apply qH);try simp (maxSteps:=1000000)(disch:=(first|omega|(simp only [qI,qJ,qK]<;>omega)|exact qL _)) only [go_sem,↓reduceIte,n0,reduceCtorEq,n1,n2,n3,n4,n5,i0,i1,i2,i3,i4,i5,i6,i7,hxb25,hrd4_2,hrd4_7,hrd4_8,hrd4_9,hrd4_10,hrd4_28,hrd4_27,hrd4_29,hrd4_31,hrd4_38,hrd4_37,hrd4_39,hrd4_41,hrd4_45,hrd4_44,exitRQ_ret,exitRQ_exit,Int.toNat_natCast,Nat.mul_one,hst25_1])
          generalize hw26 : wr w25 R2 (j2 * 3 + 1) [.slice aa4 N4 qq4] = w26
          have hS26 : Upd (fun b => b = R2 ∨ b = rb) w25 w26 := by rw [← hw26];exact (Upd.refl _ _).wr _ _ (.inr (.inl rfl))
          have hx2_26 : blk w26 R2 = some ((A2 ++ (([strV (rdStr true s8).1,.slice aa4 N4 qq4,.map none] : List Value) ++ B2)).toArray,111,(0,0)) := by rw [← hw26];exact el_blk (o := 1) hx2_25 hA2 (Nat.le_of_ble_eq_true rfl)
          have hV26 := hS26
          have hU26 : Upd (fun b => b = vb ∨ b = rb) w1 w26 := hU25.trans' hV26 fun i hi h => h.elim (fun h => by omega) .inr
          have hz26 := hV26.size
          have hG26 : Glo ev w26 := hG1.updS hU26 hgM1 hgM2
          have hq26 : Rdr RT ok w26 rb s13 ∧ NN w26 rb s13 := by
            have hn : ∀ x,x = w26 → (Rdr RT ok x rb s13 ∧ NN x rb s13) := fun x hx => by
              rw [hx,← hw26]
              exact Rdr.store hq25 (by omega) (fun h => by have := (hok _ h).1;first | omega | exact (hok _ h).2 rfl)
            exact hn _ rfl
          obtain ⟨X26,hX26⟩ : ∃ X : Array Value,X = (A2 ++ (([strV (rdStr true s8).1,.slice aa4 N4 qq4,.map none] : List Value) ++ B2)).toArray := ⟨_,rfl⟩
          have hxb26 : blk w26 R2 = some (X26,111,(0,0)) := by rw [hX26];exact hx2_26
          have hXs26 : j2 * 3 + 3 ≤ X26.size := by rw [hX26];simp only [List.size_toArray,List.length_append,List.length_cons,List.length_nil,hA2];omega
          clear hw26
          have hfe2e3_1 : RepF (RepS true d) (szS true d) fX0_1 (fun b => (fun b => (ok b ∨ w1.heap.size ≤ b) ∧ ¬ ownB va2 b) b ∧ ¬ ownB va3 b) w26 (xe2e3_1) [.slice aa4 N4 qq4] := by rw [hxe2e3_1,hrd4];exact RepF.keepS (RepF_row rfl hnc4 hN4 rfl hL4.row hL4.all (fun b hb => ⟨⟨.inr (by omega),fun ho => by have := (hown1 _ ho).2;omega⟩,fun ho => by have := (hown2 _ ho).2;omega⟩)) (hV26.keeps fun b _ hk e => hoM2 b hk e)
          clear hL4 hnc4
          have hle2e3_2 : rdL (rdP d ver true) (dfP d) ver true [] s13 = ([],s13) := rfl
          have hle2e3_1 : rdL (rdP d ver true) (dfP d) ver true [fX0_1] s9 = ([xe2e3_1],s13) := by rw [rdL_st (by decide) hhe2e3_1,← hxe2e3_1,← hs13,hle2e3_2]
          have hle2e3_0 : rdL (rdP d ver true) (dfP d) ver true [fX0_0,fX0_1] s8 = ([xe2e3_0,xe2e3_1],s13) := by rw [rdL_st (by decide) hhe2e3_0,← hxe2e3_0,← hs9,hle2e3_1]
          have hfine2e3 : rdP (d + 1) ver true fs_X0 s8 = (.mk 0 [] false [xe2e3_0,xe2e3_1] (rdTags s13).1,(rdTags s13).2) := rdP_t hle2e3_0
          repeat ((first | refine qA rfl ?_|apply qB|refine qC rfl ?_|apply qD|apply qE|apply qF|apply qG|apply qH);try simp (maxSteps:=1000000)(disch:=(first|omega|(simp only [qI,qJ,qK]<;>omega)|exact qL _)) only [go_sem,↓reduceIte,n0,reduceCtorEq,n1,n2,n3,n4,n5,i0,i1,i2,i3,i4,i5,i6,i7,hxb26,hrd4_2,hrd4_7,hrd4_8,hrd4_9,hrd4_10,hrd4_28,hrd4_27,hrd4_29,hrd4_31,hrd4_38,hrd4_37,hrd4_39,hrd4_41,hrd4_45,hrd4_44,exitRQ_ret,exitRQ_exit,Int.toNat_natCast,Nat.mul_one])
          refine (ReadTags_fn w26 hq26.1 hrok).mono ?_
          rintro _ w27 ⟨qme2e3,rfl,hT27,hTn,hq27,hu27⟩
          have hx2_27 := hu27.blk_some hx2_26 (by omega)
          have hV27 : Upd (fun b => b = R2 ∨ b = rb) w26 w27 := hu27.mono (fun _ h => .inr h)
          have hU27 : Upd (fun b => b = vb ∨ b = rb) w1 w27 := hU26.trans' hV27 fun i hi h => h.elim (fun h => by omega) .inr
          have hz27 := hV27.size
          have hG27 : Glo ev w27 := hG1.updS hU27 hgM1 hgM2
          obtain ⟨X27,hX27⟩ : ∃ X : Array Value,X = (A2 ++ (([strV (rdStr true s8).1,.slice aa4 N4 qq4,.map none] : List Value) ++ B2)).toArray := ⟨_,rfl⟩
          have hxb27 : blk w27 R2 = some (X27,111,(0,0)) := by rw [hX27];exact hx2_27
          have hXs27 : j2 * 3 + 3 ≤ X27.size := by rw [hX27];simp only [List.size_toArray,List.length_append,List.length_cons,List.length_nil,hA2];omega
          obtain ⟨s14,hs14⟩ : ∃ s,s = (rdTags s13).2 := ⟨_,rfl⟩
          rw [← hs14] at hq27 hfine2e3
          have hst27_2 : j2 * 3 + 3 ≤ X27.size := by omega
          repeat (first|simp (maxSteps:=1000000)(disch:=(first|omega|(simp only [qI,qJ,qK]<;>omega)|exact qL _)) only [go_sem,↓reduceIte,n0,reduceCtorEq,n1,n2,n3,n4,n5,i0,i1,i2,i3,i4,i5,i6,i7,hxb27,hrd4_2,hrd4_7,hrd4_8,hrd4_9,hrd4_10,hrd4_28,hrd4_27,hrd4_29,hrd4_31,hrd4_38,hrd4_37,hrd4_39,hrd4_41,hrd4_45,hrd4_44,exitRQ_ret,exitRQ_exit,Int.toNat_natCast,Nat.mul_one,hst27_2]|refine qA rfl ?_|apply qB|refine qC rfl ?_|apply qD|apply qE|apply qF|apply qG|apply qH)
          generalize hw28 : wr w27 R2 (j2 * 3 + 2) [.map qme2e3] = w28
          have hS28 : Upd (fun b => b = R2 ∨ b = rb) w27 w28 := by rw [← hw28];exact (Upd.refl _ _).wr _ _ (.inr (.inl rfl))
          have hx2_28 : blk w28 R2 = some ((A2 ++ (([strV (rdStr true s8).1,.slice aa4 N4 qq4,.map qme2e3] : List Value) ++ B2)).toArray,111,(0,0)) := by rw [← hw28];exact el_blk (o := 2) hx2_27 hA2 (Nat.le_of_ble_eq_true rfl)
          have hV28 := hS28
          have hU28 : Upd (fun b => b = vb ∨ b = rb) w1 w28 := hU27.trans' hV28 fun i hi h => h.elim (fun h => by omega) .inr
          have hz28 := hV28.size
          have hG28 : Glo ev w28 := hG1.updS hU28 hgM1 hgM2
          have hq28 : Rdr RT ok w28 rb s14 ∧ NN w28 rb s14 := by
            have hn : ∀ x,x = w28 → (Rdr RT ok x rb s14 ∧ NN x rb s14) := fun x hx => by
              rw [hx,← hw28]
              exact Rdr.store hq27 (by omega) (fun h => by have := (hok _ h).1;first | omega | exact (hok _ h).2 rfl)
            exact hn _ rfl
          obtain ⟨X28,hX28⟩ : ∃ X : Array Value,X = (A2 ++ (([strV (rdStr true s8).1,.slice aa4 N4 qq4,.map qme2e3] : List Value) ++ B2)).toArray := ⟨_,rfl⟩
          have hxb28 : blk w28 R2 = some (X28,111,(0,0)) := by rw [hX28];exact hx2_28
          have hXs28 : j2 * 3 + 3 ≤ X28.size := by rw [hX28];simp only [List.size_toArray,List.length_append,List.length_cons,List.length_nil,hA2];omega
          clear hw28
          have hTge2e3 : TagsM (fun b => (fun b => (ok b ∨ w1.heap.size ≤ b) ∧ ¬ ownB va2 b) b ∧ ¬ ownB va3 b) w28 (.map qme2e3) (rdTags s13).1 := (hT27.weaken fun b _ hk => hk.elim (fun hk => ⟨⟨.inl hk,fun ho => by have := (hown1 b ho).1;have := (hok b hk).1;omega⟩,fun ho => by have := (hown2 b ho).1;have := (hok b hk).1;omega⟩) (fun h => by have h' : w26.heap.size ≤ b := h;exact ⟨⟨.inr (by omega),fun ho => by have := (hown1 _ ho).2;omega⟩,fun ho => by have := (hown2 _ ho).2;omega⟩)).keep (hV28.keeps fun b _ hk e => hoM2 b hk e)
          have hCe2e3_28 : Upd (fun b => b = R2 ∨ b = rb) w28 w28 := Upd.refl _ _
          have hCe2e3_27 : Upd (fun b => b = R2 ∨ b = rb) w27 w28 := hV28.trans hCe2e3_28
          have hCe2e3_26 : Upd (fun b => b = R2 ∨ b = rb) w26 w28 := hV27.trans hCe2e3_27
          have hCe2e3_25 : Upd (fun b => b = R2 ∨ b = rb) w25 w28 := hV26.trans hCe2e3_26
          have hCe2e3_20 : Upd (fun b => b = R2 ∨ b = rb) w20 w28 := hV25.trans hCe2e3_25
          have hCe2e3_19 : Upd (fun b => b = R2 ∨ b = rb) w19 w28 := hV20.trans hCe2e3_20
          have hCe2e3_18 : Upd (fun b => b = R2 ∨ b = rb) w18 w28 := hV19.trans hCe2e3_19
          have hCe2e3_17 : Upd (fun b => b = R2 ∨ b = rb) w17 w28 := hV18.trans hCe2e3_18
          have hCe2e3_16 : Upd (fun b => b = R2 ∨ b = rb) w16 w28 := hV17.trans hCe2e3_17
          have hRe2e3 : RepS true (d + 1) fs_X0 (fun b => (fun b => (ok b ∨ w1.heap.size ≤ b) ∧ ¬ ownB va2 b) b ∧ ¬ ownB va3 b) w28 (.mk 0 [] false [xe2e3_0,xe2e3_1] (rdTags s13).1) [strV (rdStr true s8).1,.slice aa4 N4 qq4,.map qme2e3] := RepS.introT (c := [strV (rdStr true s8).1,.slice aa4 N4 qq4]) (RepL.cons1 (hfe2e3_0.keepS (hCe2e3_19.keeps fun b _ hk e => hoM2 b hk e)) (RepL.cons1 (hfe2e3_1.keepS (hCe2e3_26.keeps fun b _ hk e => hoM2 b hk e)) RepL.nil)) hTge2e3
          have hrE : (rd1 (rdP (d + 1) ver true) fX1_4.of fX1_4.sub false true) s8 = ((.mk 0 [] false [xe2e3_0,xe2e3_1] (rdTags s13).1),s14) := by rw [show (rd1 (rdP (d + 1) ver true) fX1_4.of fX1_4.sub false true) s8 = _ from rd1_part];exact hfine2e3
          have hxE : (Rep1 (RepS true (d + 1)) fX1_4.of fX1_4.sub) (fun b => (fun b => (ok b ∨ w1.heap.size ≤ b) ∧ ¬ ownB va2 b) b ∧ ¬ ownB va3 b) w28 (.mk 0 [] false [xe2e3_0,xe2e3_1] (rdTags s13).1) [strV (rdStr true s8).1,.slice aa4 N4 qq4,.map qme2e3] := Rep1_part.2 hRe2e3
          repeat ((first | refine qA rfl ?_|apply qB|refine qC rfl ?_|apply qD|apply qE|apply qF|apply qG|apply qH);try simp (maxSteps:=1000000)(disch:=(first|omega|(simp only [qI,qJ,qK]<;>omega)|exact qL _)) only [go_sem,↓reduceIte,n0,reduceCtorEq,n1,n2,n3,n4,n5,i0,i1,i2,i3,i4,i5,i6,i7,hxb28,hrd4_2,hrd4_7,hrd4_8,hrd4_9,hrd4_10,hrd4_28,hrd4_27,hrd4_29,hrd4_31,hrd4_38,hrd4_37,hrd4_39,hrd4_41,hrd4_45,hrd4_44,exitRQ_ret,exitRQ_exit,Int.toNat_natCast,Nat.mul_one])
          have hTk : Upd (fun b => b = R2 ∨ b = rb) w16 w28 := (((((((hV17.trans hV18).trans hV19).trans hV20).trans hV25).trans hV26).trans hV27).trans hV28)
          have hL' := hL3.step (Rep1_lay _ _ fun _ => RepS_lay true _ _) hlt3 (hnext2 w28 [strV (rdStr true s8).1,.slice aa4 N4 qq4,.map qme2e3] rfl hx2_28) (by rw [hrE];exact hxE) (hTk.mono fun b h => h.imp (fun e => ⟨_,_,_,hva2,e⟩) id) (by rw [hrE];exact hq28) (fun h => hoM1 rb h (.inr rfl)) (Nat.le_refl _)
          have hij : IntKind.i32.wrap ((j2 : Int) + 1) = ((j2 + 1 : Nat) : Int) := by rw [i32_wrap (by omega)];omega
          repeat ((first | refine qA rfl ?_|apply qB|refine qC rfl ?_|apply qD|apply qE|apply qF|apply qG|apply qH);try simp (maxSteps:=1000000)(disch:=(first|omega|(simp only [qI,qJ,qK]<;>omega)|exact qL _)) only [go_sem,↓reduceIte,n0,reduceCtorEq,n1,n2,n3,n4,n5,i0,i1,i2,i3,i4,i5,i6,i7,hxb28,hrd4_2,hrd4_7,hrd4_8,hrd4_9,hrd4_10,hrd4_28,hrd4_27,hrd4_29,hrd4_31,hrd4_38,hrd4_37,hrd4_39,hrd4_41,hrd4_45,hrd4_44,exitRQ_ret,exitRQ_exit,Int.toNat_natCast,Nat.mul_one,hij])
          refine ⟨⟨(by simp (maxSteps:=1000000)(disch:=(first|omega|(simp only [qI,qJ,qK]<;>omega)|exact qL _)) only [go_sem,↓reduceIte,n0,reduceCtorEq,n1,n2,n3,n4,n5,i0,i1,i2,i3,i4,i5,i6,i7,Holds_nil,Holds_cons,hrd4_2,hrd4_7,hrd4_8,hrd4_9,hrd4_10,hrd4_28,hrd4_27,hrd4_29,hrd4_31,hrd4_38,hrd4_37,hrd4_39,hrd4_41,hrd4_45,hrd4_44];exact hva2.symm),j2 + 1,(by simp (maxSteps:=1000000)(disch:=(first|omega|(simp only [qI,qJ,qK]<;>omega)|exact qL _)) only [go_sem,↓reduceIte,n0,reduceCtorEq,n1,n2,n3,n4,n5,i0,i1,i2,i3,i4,i5,i6,i7,hrd4_2,hrd4_7,hrd4_8,hrd4_9,hrd4_10,hrd4_28,hrd4_27,hrd4_29,hrd4_31,hrd4_38,hrd4_37,hrd4_39,hrd4_41,hrd4_45,hrd4_44,hij];all_goals rfl),_,_,_,hL'⟩,?_⟩
          try simp (maxSteps:=1000000)(disch:=(first|omega|(simp only [qI,qJ,qK]<;>omega)|exact qL _)) only [go_sem,↓reduceIte,n0,reduceCtorEq,n1,n2,n3,n4,n5,i0,i1,i2,i3,i4,i5,i6,i7,hrd4_2,hrd4_7,hrd4_8,hrd4_9,hrd4_10,hrd4_28,hrd4_27,hrd4_29,hrd4_31,hrd4_38,hrd4_37,hrd4_39,hrd4_41,hrd4_45,hrd4_44]
          simp only [RowKit.intOf]
          omega
        · have hjN : j2 = N3 := by omega
          rw [hjN] at hL3
          repeat ((first | refine qA rfl ?_|apply qB|refine qC rfl ?_|apply qD|apply qE|apply qF|apply qG|apply qH);try simp (maxSteps:=1000000)(disch:=(first|omega|(simp only [qI,qJ,qK]<;>omega)|exact qL _)) only [go_sem,↓reduceIte,n0,reduceCtorEq,n1,n2,n3,n4,n5,i0,i1,i2,i3,i4,i5,i6,i7,hrc3_2,hrc3_7,hrc3_8,hrc3_9,hrc3_10,hrc3_28,hrc3_27,hrc3_29,hrc3_31,hrc3_38,hrc3_37,hri3,exitRQ_ret,exitRQ_exit])
          exact ⟨(by simp (maxSteps:=1000000)(disch:=(first|omega|(simp only [qI,qJ,qK]<;>omega)|exact qL _)) only [go_sem,↓reduceIte,n0,reduceCtorEq,n1,n2,n3,n4,n5,i0,i1,i2,i3,i4,i5,i6,i7,Holds_nil,Holds_cons,hrc3_2,hrc3_7,hrc3_8,hrc3_9,hrc3_10,hrc3_28,hrc3_27,hrc3_29,hrc3_31,hrc3_38,hrc3_37,hri3]),s8,xs3,css3,hL3⟩
      rintro ρ w29 ⟨⟨hrd3_2,hrd3_7,hrd3_8,hrd3_9,hrd3_10,hrd3_28,hrd3_27,hrd3_29,hrd3_31,hrd3_38,hrd3_37,-⟩,s15,xs3,css3,hL3⟩
      have hq29 := hL3.rd
      have hu29 := hL3.upd
      have hx1_29 := hu29.blk_some hx1_14 (by omega)
      have hV29 : Upd (fun b => b = R1 ∨ b = rb) w14 w29 := hu29.mono (fun _ h => .inr h)
      have hU29 : Upd (fun b => b = vb ∨ b = rb) w1 w29 := hU14.trans' hV29 fun i hi h => h.elim (fun h => by omega) .inr
      have hz29 := hV29.size
      have hG29 : Glo ev w29 := hG1.updS hU29 hgM1 hgM2
      obtain ⟨X29,hX29⟩ : ∃ X : Array Value,X = (A1 ++ (([strV (rdStr true s2).1,.int .i64 (rdInt .i64 8 s3).1,.int .i16 (rdInt .i16 2 s4).1,.bool (!decide (beN (rdN 1 s5).1 = 0)),.slice none 0 0,.map none] : List Value) ++ B1)).toArray := ⟨_,rfl⟩
      have hxb29 : blk w29 R1 = some (X29,109,(0,0)) := by rw [hX29];exact hx1_29
      have hXs29 : j1 * 6 + 6 ≤ X29.size := by rw [hX29];simp only [List.size_toArray,List.length_append,List.length_cons,List.length_nil,hA1];omega
      have hrd3 : rdF (rdP (d + 1) ver true) ver true fX1_4 s6 = (.mk 0 [] (nilS fX1_4 ver y3) xs3 [],s15) := by
        have h := rdF_listE (pt := (rdP (d + 1) ver true)) (v := ver) (flex := true) (f := fX1_4) (s := s6) (xs := xs3) (e := s15) rfl (by rw [hy3,← hN3,← hs7];exact hL3.done)
        rw [hy3] at h;exact h
      have hs15 : s15 = (rdF (rdP (d + 1) ver true) ver true fX1_4 s6).2 := by rw [hrd3]
      obtain ⟨aa3,qq3,hvs3⟩ := hL3.row.shape
      subst hvs3
      have hst29_4 : j1 * 6 + 5 ≤ X29.size := by omega
      repeat ((first | refine qA rfl ?_|apply qB|refine qC rfl ?_|apply qD|apply qE|apply qF|apply qG|apply qH);try simp (maxSteps:=1000000)(disch:=(first|omega|(simp only [qI,qJ,qK]<;>omega)|exact qL _)) only [go_sem,↓reduceIte,n0,reduceCtorEq,n1,n2,n3,n4,n5,i0,i1,i2,i3,i4,i5,i6,i7,hxb29,hrd3_2,hrd3_7,hrd3_8,hrd3_9,hrd3_10,hrd3_28,hrd3_27,hrd3_29,hrd3_31,hrd3_38,hrd3_37,exitRQ_ret,exitRQ_exit,Int.toNat_natCast,Nat.mul_one,hst29_4])
      generalize hw30 : wr w29 R1 (j1 * 6 + 4) [.slice aa3 N3 qq3] = w30
      have hS30 : Upd (fun b => b = R1 ∨ b = rb) w29 w30 := by rw [← hw30];exact (Upd.refl _ _).wr _ _ (.inr (.inl rfl))
      have hx1_30 : blk w30 R1 = some ((A1 ++ (([strV (rdStr true s2).1,.int .i64 (rdInt .i64 8 s3).1,.int .i16 (rdInt .i16 2 s4).1,.bool (!decide (beN (rdN 1 s5).1 = 0)),.slice aa3 N3 qq3,.map none] : List Value) ++ B1)).toArray,109,(0,0)) := by rw [← hw30];exact el_blk (o := 4) hx1_29 hA1 (Nat.le_of_ble_eq_true rfl)
      have hV30 := hS30
      have hU30 : Upd (fun b => b = vb ∨ b = rb) w1 w30 := hU29.trans' hV30 fun i hi h => h.elim (fun h => by omega) .inr
      have hz30 := hV30.size
      have hG30 : Glo ev w30 := hG1.updS hU30 hgM1 hgM2
      have hq30 : Rdr RT ok w30 rb s15 ∧ NN w30 rb s15 := by
        have hn : ∀ x,x = w30 → (Rdr RT ok x rb s15 ∧ NN x rb s15) := fun x hx => by
          rw [hx,← hw30]
          exact Rdr.store hq29 (by omega) (fun h => by have := (hok _ h).1;first | omega | exact (hok _ h).2 rfl)
        exact hn _ rfl
      obtain ⟨X30,hX30⟩ : ∃ X : Array Value,X = (A1 ++ (([strV (rdStr true s2).1,.int .i64 (rdInt .i64 8 s3).1,.int .i16 (rdInt .i16 2 s4).1,.bool (!decide (beN (rdN 1 s5).1 = 0)),.slice aa3 N3 qq3,.map none] : List Value) ++ B1)).toArray := ⟨_,rfl⟩
      have hxb30 : blk w30 R1 = some (X30,109,(0,0)) := by rw [hX30];exact hx1_30
      have hXs30 : j1 * 6 + 6 ≤ X30.size := by rw [hX30];simp only [List.size_toArray,List.length_append,List.length_cons,List.length_nil,hA1];omega
      clear hw30
      have hfe2_4 : RepF (RepS true (d + 1)) (szS true (d + 1)) fX1_4 (fun b => (ok b ∨ w1.heap.size ≤ b) ∧ ¬ ownB va2 b) w30 (xe2_4) [.slice aa3 N3 qq3] := by rw [hxe2_4,hrd3];exact RepF.keepS (RepF_row rfl hnc3 hN3 rfl hL3.row hL3.all (fun b hb => ⟨.inr (by omega),fun ho => by have := (hown1 _ ho).2;omega⟩)) (hV30.keeps fun b _ hk e => hoM1 b hk e)
      clear hL3 hnc3
      have hle2_5 : rdL (rdP (d + 1) ver true) (dfP (d + 1)) ver true [] s15 = ([],s15) := rfl
      have hle2_4 : rdL (rdP (d + 1) ver true) (dfP (d + 1)) ver true [fX1_4] s6 = ([xe2_4],s15) := by rw [rdL_st (by decide) hhe2_4,← hxe2_4,← hs15,hle2_5]
      have hle2_3 : rdL (rdP (d + 1) ver true) (dfP (d + 1)) ver true [fX1_3,fX1_4] s5 = ([xe2_3,xe2_4],s15) := by rw [rdL_st (by decide) hhe2_3,← hxe2_3,← hs6,hle2_4]
      have hle2_2 : rdL (rdP (d + 1) ver true) (dfP (d + 1)) ver true [fX1_2,fX1_3,fX1_4] s4 = ([xe2_2,xe2_3,xe2_4],s15) := by rw [rdL_st (by decide) hhe2_2,← hxe2_2,← hs5,hle2_3]
      have hle2_1 : rdL (rdP (d + 1) ver true) (dfP (d + 1)) ver true [fX1_1,fX1_2,fX1_3,fX1_4] s3 = ([xe2_1,xe2_2,xe2_3,xe2_4],s15) := by rw [rdL_st (by decide) hhe2_1,← hxe2_1,← hs4,hle2_2]
      have hle2_0 : rdL (rdP (d + 1) ver true) (dfP (d + 1)) ver true [fX1_0,fX1_1,fX1_2,fX1_3,fX1_4] s2 = ([xe2_0,xe2_1,xe2_2,xe2_3,xe2_4],s15) := by rw [rdL_st (by decide) hhe2_0,← hxe2_0,← hs3,hle2_1]
      have hfine2 : rdP (d + 2) ver true fs_X1 s2 = (.mk 0 [] false [xe2_0,xe2_1,xe2_2,xe2_3,xe2_4] (rdTags s15).1,(rdTags s15).2) := rdP_t hle2_0
      repeat ((first | refine qA rfl ?_|apply qB|refine qC rfl ?_|apply qD|apply qE|apply qF|apply qG|apply qH);try simp (maxSteps:=1000000)(disch:=(first|omega|(simp only [qI,qJ,qK]<;>omega)|exact qL _)) only [go_sem,↓reduceIte,n0,reduceCtorEq,n1,n2,n3,n4,n5,i0,i1,i2,i3,i4,i5,i6,i7,hxb30,hrd3_2,hrd3_7,hrd3_8,hrd3_9,hrd3_10,hrd3_28,hrd3_27,hrd3_29,hrd3_31,hrd3_38,hrd3_37,exitRQ_ret,exitRQ_exit,Int.toNat_natCast,Nat.mul_one])
      refine (ReadTags_fn w30 hq30.1 hrok).mono ?_
      rintro _ w31 ⟨qme2,rfl,hT31,hTn,hq31,hu31⟩
      have hx1_31 := hu31.blk_some hx1_30 (by omega)
      have hV31 : Upd (fun b => b = R1 ∨ b = rb) w30 w31 := hu31.mono (fun _ h => .inr h)
      have hU31 : Upd (fun b => b = vb ∨ b = rb) w1 w31 := hU30.trans' hV31 fun i hi h => h.elim (fun h => by omega) .inr
      have hz31 := hV31.size
      have hG31 : Glo ev w31 := hG1.updS hU31 hgM1 hgM2
      obtain ⟨X31,hX31⟩ : ∃ X : Array Value,X = (A1 ++ (([strV (rdStr true s2).1,.int .i64 (rdInt .i64 8 s3).1,.int .i16 (rdInt .i16 2 s4).1,.bool (!decide (beN (rdN 1 s5).1 = 0)),.slice aa3 N3 qq3,.map none] : List Value) ++ B1)).toArray := ⟨_,rfl⟩
      have hxb31 : blk w31 R1 = some (X31,109,(0,0)) := by rw [hX31];exact hx1_31
      have hXs31 : j1 * 6 + 6 ≤ X31.size := by rw [hX31];simp only [List.size_toArray,List.length_append,List.length_cons,List.length_nil,hA1];omega
      obtain ⟨s16,hs16⟩ : ∃ s,s = (rdTags s15).2 := ⟨_,rfl⟩
      rw [← hs16] at hq31 hfine2
      have hst31_5 : j1 * 6 + 6 ≤ X31.size := by omega
      repeat (first|simp (maxSteps:=1000000)(disch:=(first|omega|(simp only [qI,qJ,qK]<;>omega)|exact qL _)) only [go_sem,↓reduceIte,n0,reduceCtorEq,n1,n2,n3,n4,n5,i0,i1,i2,i3,i4,i5,i6,i7,hxb31,hrd3_2,hrd3_7,hrd3_8,hrd3_9,hrd3_10,hrd3_28,hrd3_27,hrd3_29,hrd3_31,hrd3_38,hrd3_37,exitRQ_ret,exitRQ_exit,Int.toNat_natCast,Nat.mul_one,hst31_5]|refine qA rfl ?_|apply qB|refine qC rfl ?_|apply qD|apply qE|apply qF|apply qG|apply qH)
      generalize hw32 : wr w31 R1 (j1 * 6 + 5) [.map qme2] = w32
      have hS32 : Upd (fun b => b = R1 ∨ b = rb) w31 w32 := by rw [← hw32];exact (Upd.refl _ _).wr _ _ (.inr (.inl rfl))
      have hx1_32 : blk w32 R1 = some ((A1 ++ (([strV (rdStr true s2).1,.int .i64 (rdInt .i64 8 s3).1,.int .i16 (rdInt .i16 2 s4).1,.bool (!decide (beN (rdN 1 s5).1 = 0)),.slice aa3 N3 qq3,.map qme2] : List Value) ++ B1)).toArray,109,(0,0)) := by rw [← hw32];exact el_blk (o := 5) hx1_31 hA1 (Nat.le_of_ble_eq_true rfl)
      have hV32 := hS32
      have hU32 : Upd (fun b => b = vb ∨ b = rb) w1 w32 := hU31.trans' hV32 fun i hi h => h.elim (fun h => by omega) .inr
      have hz32 := hV32.size
      have hG32 : Glo ev w32 := hG1.updS hU32 hgM1 hgM2
      have hq32 : Rdr RT ok w32 rb s16 ∧ NN w32 rb s16 := by
        have hn : ∀ x,x = w32 → (Rdr RT ok x rb s16 ∧ NN x rb s16) := fun x hx => by
          rw [hx,← hw32]
          exact Rdr.store hq31 (by omega) (fun h => by have := (hok _ h).1;first | omega | exact (hok _ h).2 rfl)
        exact hn _ rfl
      obtain ⟨X32,hX32⟩ : ∃ X : Array Value,X = (A1 ++ (([strV (rdStr true s2).1,.int .i64 (rdInt .i64 8 s3).1,.int .i16 (rdInt .i16 2 s4).1,.bool (!decide (beN (rdN 1 s5).1 = 0)),.slice aa3 N3 qq3,.map qme2] : List Value) ++ B1)).toArray := ⟨_,rfl⟩
      have hxb32 : blk w32 R1 = some (X32,109,(0,0)) := by rw [hX32];exact hx1_32
      have hXs32 : j1 * 6 + 6 ≤ X32.size := by rw [hX32];simp only [List.size_toArray,List.length_append,List.length_cons,List.length_nil,hA1];omega
      clear hw32
      have hTge2 : TagsM (fun b => (ok b ∨ w1.heap.size ≤ b) ∧ ¬ ownB va2 b) w32 (.map qme2) (rdTags s15).1 := (hT31.weaken fun b _ hk => hk.elim (fun hk => ⟨.inl hk,fun ho => by have := (hown1 b ho).1;have := (hok b hk).1;omega⟩) (fun h => by have h' : w30.heap.size ≤ b := h;exact ⟨.inr (by omega),fun ho => by have := (hown1 _ ho).2;omega⟩)).keep (hV32.keeps fun b _ hk e => hoM1 b hk e)
      have hCe2_32 : Upd (fun b => b = R1 ∨ b = rb) w32 w32 := Upd.refl _ _
      have hCe2_31 : Upd (fun b => b = R1 ∨ b = rb) w31 w32 := hV32.trans hCe2_32
      have hCe2_30 : Upd (fun b => b = R1 ∨ b = rb) w30 w32 := hV31.trans hCe2_31
      have hCe2_29 : Upd (fun b => b = R1 ∨ b = rb) w29 w32 := hV30.trans hCe2_30
      have hCe2_14 : Upd (fun b => b = R1 ∨ b = rb) w14 w32 := hV29.trans hCe2_29
      have hCe2_13 : Upd (fun b => b = R1 ∨ b = rb) w13 w32 := hV14.trans hCe2_14
      have hCe2_12 : Upd (fun b => b = R1 ∨ b = rb) w12 w32 := hV13.trans hCe2_13
      have hCe2_11 : Upd (fun b => b = R1 ∨ b = rb) w11 w32 := hV12.trans hCe2_12
      have hCe2_10 : Upd (fun b => b = R1 ∨ b = rb) w10 w32 := hV11.trans hCe2_11
      have hCe2_9 : Upd (fun b => b = R1 ∨ b = rb) w9 w32 := hV10.trans hCe2_10
      have hCe2_8 : Upd (fun b => b = R1 ∨ b = rb) w8 w32 := hV9.trans hCe2_9
      have hCe2_7 : Upd (fun b => b = R1 ∨ b = rb) w7 w32 := hV8.trans hCe2_8
      have hCe2_6 : Upd (fun b => b = R1 ∨ b = rb) w6 w32 := hV7.trans hCe2_7
      have hCe2_5 : Upd (fun b => b = R1 ∨ b = rb) w5 w32 := hV6.trans hCe2_6
      have hCe2_4 : Upd (fun b => b = R1 ∨ b = rb) w4 w32 := hV5.trans hCe2_5
      have hRe2 : RepS true (d + 2) fs_X1 (fun b => (ok b ∨ w1.heap.size ≤ b) ∧ ¬ ownB va2 b) w32 (.mk 0 [] false [xe2_0,xe2_1,xe2_2,xe2_3,xe2_4] (rdTags s15).1) [strV (rdStr true s2).1,.int .i64 (rdInt .i64 8 s3).1,.int .i16 (rdInt .i16 2 s4).1,.bool (!decide (beN (rdN 1 s5).1 = 0)),.slice aa3 N3 qq3,.map qme2] := RepS.introT (c := [strV (rdStr true s2).1,.int .i64 (rdInt .i64 8 s3).1,.int .i16 (rdInt .i16 2 s4).1,.bool (!decide (beN (rdN 1 s5).1 = 0)),.slice aa3 N3 qq3]) (RepL.cons1 (hfe2_0.keepS (hCe2_7.keeps fun b _ hk e => hoM1 b hk e)) (RepL.cons1 (hfe2_1.keepS (hCe2_9.keeps fun b _ hk e => hoM1 b hk e)) (RepL.cons1 (hfe2_2.keepS (hCe2_11.keeps fun b _ hk e => hoM1 b hk e)) (RepL.cons1 (hfe2_3.keepS (hCe2_13.keeps fun b _ hk e => hoM1 b hk e)) (RepL.cons1 (hfe2_4.keepS (hCe2_30.keeps fun b _ hk e => hoM1 b hk e)) RepL.nil))))) hTge2
      have hrE : (rd1 (rdP (d + 2) ver true) fQ_4.of fQ_4.sub false true) s2 = ((.mk 0 [] false [xe2_0,xe2_1,xe2_2,xe2_3,xe2_4] (rdTags s15).1),s16) := by rw [show (rd1 (rdP (d + 2) ver true) fQ_4.of fQ_4.sub false true) s2 = _ from rd1_part];exact hfine2
      have hxE : (Rep1 (RepS true (d + 2)) fQ_4.of fQ_4.sub) (fun b => (ok b ∨ w1.heap.size ≤ b) ∧ ¬ ownB va2 b) w32 (.mk 0 [] false [xe2_0,xe2_1,xe2_2,xe2_3,xe2_4] (rdTags s15).1) [strV (rdStr true s2).1,.int .i64 (rdInt .i64 8 s3).1,.int .i16 (rdInt .i16 2 s4).1,.bool (!decide (beN (rdN 1 s5).1 = 0)),.slice aa3 N3 qq3,.map qme2] := Rep1_part.2 hRe2
      repeat ((first | refine qA rfl ?_|apply qB|refine qC rfl ?_|apply qD|apply qE|apply qF|apply qG|apply qH);try simp (maxSteps:=1000000)(disch:=(first|omega|(simp only [qI,qJ,qK]<;>omega)|exact qL _)) only [go_sem,↓reduceIte,n0,reduceCtorEq,n1,n2,n3,n4,n5,i0,i1,i2,i3,i4,i5,i6,i7,hxb32,hrd3_2,hrd3_7,hrd3_8,hrd3_9,hrd3_10,hrd3_28,hrd3_27,hrd3_29,hrd3_31,hrd3_38,hrd3_37,exitRQ_ret,exitRQ_exit,Int.toNat_natCast,Nat.mul_one])
      have hTk : Upd (fun b => b = R1 ∨ b = rb) w4 w32 := (((((((((((((hV5.trans hV6).trans hV7).trans hV8).trans hV9).trans hV10).trans hV11).trans hV12).trans hV13).trans hV14).trans hV29).trans hV30).trans hV31).trans hV32)
      have hL' := hL2.step (Rep1_lay _ _ fun _ => RepS_lay true _ _) hlt2 (hnext1 w32 [strV (rdStr true s2).1,.int .i64 (rdInt .i64 8 s3).1,.int .i16 (rdInt .i16 2 s4).1,.bool (!decide (beN (rdN 1 s5).1 = 0)),.slice aa3 N3 qq3,.map qme2] rfl hx1_32) (by rw [hrE];exact hxE) (hTk.mono fun b h => h.imp (fun e => ⟨_,_,_,hva1,e⟩) id) (by rw [hrE];exact hq32) (fun h => hoM rb h (.inr rfl)) (Nat.le_refl _)
      have hij : IntKind.i32.wrap ((j1 : Int) + 1) = ((j1 + 1 : Nat) : Int) := by rw [i32_wrap (by omega)];omega
      repeat ((first | refine qA rfl ?_|apply qB|refine qC rfl ?_|apply qD|apply qE|apply qF|apply qG|apply qH);try simp (maxSteps:=1000000)(disch:=(first|omega|(simp only [qI,qJ,qK]<;>omega)|exact qL _)) only [go_sem,↓reduceIte,n0,reduceCtorEq,n1,n2,n3,n4,n5,i0,i1,i2,i3,i4,i5,i6,i7,hxb32,hrd3_2,hrd3_7,hrd3_8,hrd3_9,hrd3_10,hrd3_28,hrd3_27,hrd3_29,hrd3_31,hrd3_38,hrd3_37,exitRQ_ret,exitRQ_exit,Int.toNat_natCast,Nat.mul_one,hij])
      refine ⟨⟨(by simp (maxSteps:=1000000)(disch:=(first|omega|(simp only [qI,qJ,qK]<;>omega)|exact qL _)) only [go_sem,↓reduceIte,n0,reduceCtorEq,n1,n2,n3,n4,n5,i0,i1,i2,i3,i4,i5,i6,i7,Holds_nil,Holds_cons,hrd3_2,hrd3_7,hrd3_8,hrd3_9,hrd3_10,hrd3_28,hrd3_27,hrd3_29,hrd3_31,hrd3_38,hrd3_37];exact hva1.symm),j1 + 1,(by simp (maxSteps:=1000000)(disch:=(first|omega|(simp only [qI,qJ,qK]<;>omega)|exact qL _)) only [go_sem,↓reduceIte,n0,reduceCtorEq,n1,n2,n3,n4,n5,i0,i1,i2,i3,i4,i5,i6,i7,hrd3_2,hrd3_7,hrd3_8,hrd3_9,hrd3_10,hrd3_28,hrd3_27,hrd3_29,hrd3_31,hrd3_38,hrd3_37,hij];all_goals rfl),_,_,_,hL'⟩,?_⟩
      try simp (maxSteps:=1000000)(disch:=(first|omega|(simp only [qI,qJ,qK]<;>omega)|exact qL _)) only [go_sem,↓reduceIte,n0,reduceCtorEq,n1,n2,n3,n4,n5,i0,i1,i2,i3,i4,i5,i6,i7,hrd3_2,hrd3_7,hrd3_8,hrd3_9,hrd3_10,hrd3_28,hrd3_27,hrd3_29,hrd3_31,hrd3_38,hrd3_37]
      simp only [RowKit.intOf]
      omega
    · have hjN : j1 = N2 := by omega
      rw [hjN] at hL2
      repeat ((first | refine qA rfl ?_|apply qB|refine qC rfl ?_|apply qD|apply qE|apply qF|apply qG|apply qH);try simp (maxSteps:=1000000)(disch:=(first|omega|(simp only [qI,qJ,qK]<;>omega)|exact qL _)) only [go_sem,↓reduceIte,n0,reduceCtorEq,n1,n2,n3,n4,n5,i0,i1,i2,i3,i4,i5,i6,i7,hrc2_2,hrc2_7,hrc2_8,hrc2_9,hrc2_10,hrc2_28,hrc2_27,hri2,exitRQ_ret,exitRQ_exit])
      exact ⟨(by simp (maxSteps:=1000000)(disch:=(first|omega|(simp only [qI,qJ,qK]<;>omega)|exact qL _)) only [go_sem,↓reduceIte,n0,reduceCtorEq,n1,n2,n3,n4,n5,i0,i1,i2,i3,i4,i5,i6,i7,Holds_nil,Holds_cons,hrc2_2,hrc2_7,hrc2_8,hrc2_9,hrc2_10,hrc2_28,hrc2_27,hri2]),s2,xs2,css2,hL2⟩
  rintro ρ w33 ⟨⟨hrd2_2,hrd2_7,hrd2_8,hrd2_9,hrd2_10,hrd2_28,hrd2_27,-⟩,s17,xs2,css2,hL2⟩
  have hq33 := hL2.rd
  have hu33 := hL2.upd
  have hv_33 := hu33.blk_some hv_2 (by omega)
  have hV33 : Upd (fun b => b = vb ∨ b = rb) w2 w33 := hu33.mono (fun _ h => .inr h)
  have hU33 : Upd (fun b => b = vb ∨ b = rb) w1 w33 := hU2.trans hV33
  have hz33 := hV33.size
  have hG33 : Glo ev w33 := hG1.updS hU33 hgM1 hgM2
  have hrd2 : rdF (rdP (d + 2) ver true) ver true fQ_4 s0 = (.mk 0 [] (nilS fQ_4 ver y2) xs2 [],s17) := by
    have h := rdF_listE (pt := (rdP (d + 2) ver true)) (v := ver) (flex := true) (f := fQ_4) (s := s0) (xs := xs2) (e := s17) rfl (by rw [hy2,← hN2,← hs1];exact hL2.done)
    rw [hy2] at h;exact h
  have hs17 : s17 = (rdF (rdP (d + 2) ver true) ver true fQ_4 s0).2 := by rw [hrd2]
  obtain ⟨aa2,qq2,hvs2⟩ := hL2.row.shape
  subst hvs2
  repeat ((first | refine qA rfl ?_|apply qB|refine qC rfl ?_|apply qD|apply qE|apply qF|apply qG|apply qH);try simp (maxSteps:=1000000)(disch:=(first|omega|(simp only [qI,qJ,qK]<;>omega)|exact qL _)) only [go_sem,↓reduceIte,n0,reduceCtorEq,n1,n2,n3,n4,n5,i0,i1,i2,i3,i4,i5,i6,i7,hv_33,hrd2_2,hrd2_7,hrd2_8,hrd2_9,hrd2_10,hrd2_28,hrd2_27])
  generalize hw34 : wr w33 vb 5 [.slice aa2 N2 qq2] = w34
  have hS34 : Upd (fun b => b = vb ∨ b = rb) w33 w34 := by rw [← hw34];exact (Upd.refl _ _).wr _ _ (.inr (.inl rfl))
  have hv_34 : blk w34 vb = some (#[.int .i16 ver,.string ByteArray.empty,.int .i64 0,.int .i16 0,.slice none 0 0,.slice aa2 N2 qq2,.map none],69,(0,0)) := by rw [← hw34,blk_wr_eq,hv_33];rfl
  have hV34 := hS34
  have hU34 : Upd (fun b => b = vb ∨ b = rb) w1 w34 := hU33.trans hV34
  have hz34 := hV34.size
  have hG34 : Glo ev w34 := hG1.updS hU34 hgM1 hgM2
  have hq34 : Rdr RT ok w34 rb s17 ∧ NN w34 rb s17 := by
    have hn : ∀ x,x = w34 → (Rdr RT ok x rb s17 ∧ NN x rb s17) := fun x hx => by
      rw [hx,← hw34]
      exact Rdr.store hq33 (by omega) (fun h => by have := (hok _ h).1;first | omega | exact (hok _ h).2 rfl)
    exact hn _ rfl
  clear hw34
  have hf_4 : RepF (RepS true (d + 2)) (szS true (d + 2)) fQ_4 (fun b => ok b ∨ w1.heap.size ≤ b) w34 (x_4) [.slice aa2 N2 qq2] := by rw [hx_4,hrd2];exact RepF.keepS (RepF_row rfl hnc2 hN2 rfl hL2.row hL2.all (fun b hb => .inr (by omega))) (hV34.keeps fun b _ hk e => (hoM b hk) e)
  clear hL2 hnc2
  have hl_5 : rdL (rdP (d + 2) ver true) (dfP (d + 2)) ver true [] s17 = ([],s17) := rfl
  have hl_4 : rdL (rdP (d + 2) ver true) (dfP (d + 2)) ver true [fQ_4] s0 = ([x_4],s17) := by rw [rdL_st (by decide) hh_4,← hx_4,← hs17,hl_5]
  have hl_3 : rdL (rdP (d + 2) ver true) (dfP (d + 2)) ver true [fQ_3,fQ_4] s0 = ([x_3,x_4],s17) := by rw [rdL_no hh_3,← hx_3,hl_4]
  have hl_2 : rdL (rdP (d + 2) ver true) (dfP (d + 2)) ver true [fQ_2,fQ_3,fQ_4] s0 = ([x_2,x_3,x_4],s17) := by rw [rdL_no hh_2,← hx_2,hl_3]
  have hl_1 : rdL (rdP (d + 2) ver true) (dfP (d + 2)) ver true [fQ_1,fQ_2,fQ_3,fQ_4] s0 = ([x_1,x_2,x_3,x_4],s17) := by rw [rdL_no hh_1,← hx_1,hl_2]
  have hl_0 : rdL (rdP (d + 2) ver true) (dfP (d + 2)) ver true [fQ_0,fQ_1,fQ_2,fQ_3,fQ_4] s0 = ([x_0,x_1,x_2,x_3,x_4],s17) := by rw [rdL_no hh_0,← hx_0,hl_1]
  have hfin : rdP (d + 3) ver true fs_Q s0 = (.mk 0 [] false [x_0,x_1,x_2,x_3,x_4] (rdTags s17).1,(rdTags s17).2) := rdP_t hl_0
  repeat ((first | refine qA rfl ?_|apply qB|refine qC rfl ?_|apply qD|apply qE|apply qF|apply qG|apply qH);try simp (maxSteps:=1000000)(disch:=(first|omega|(simp only [qI,qJ,qK]<;>omega)|exact qL _)) only [go_sem,↓reduceIte,n0,reduceCtorEq,n1,n2,n3,n4,n5,i0,i1,i2,i3,i4,i5,i6,i7,hv_34,hrd2_2,hrd2_7,hrd2_8,hrd2_9,hrd2_10,hrd2_28,hrd2_27])
  refine (ReadTags_fn w34 hq34.1 hrok).mono ?_
  rintro _ w35 ⟨qm,rfl,hT35,hTn,hq35,hu35⟩
  have hv_35 := hu35.blk_some hv_34 (by omega)
  have hV35 : Upd (fun b => b = vb ∨ b = rb) w34 w35 := hu35.mono (fun _ h => .inr h)
  have hU35 : Upd (fun b => b = vb ∨ b = rb) w1 w35 := hU34.trans hV35
  have hz35 := hV35.size
  have hG35 : Glo ev w35 := hG1.updS hU35 hgM1 hgM2
  obtain ⟨s18,hs18⟩ : ∃ s,s = (rdTags s17).2 := ⟨_,rfl⟩
  rw [← hs18] at hq35 hfin
  repeat (first|simp (maxSteps:=1000000)(disch:=(first|omega|(simp only [qI,qJ,qK]<;>omega)|exact qL _)) only [go_sem,↓reduceIte,n0,reduceCtorEq,n1,n2,n3,n4,n5,i0,i1,i2,i3,i4,i5,i6,i7,hv_35,hrd2_2,hrd2_7,hrd2_8,hrd2_9,hrd2_10,hrd2_28,hrd2_27]|refine qA rfl ?_|apply qB|refine qC rfl ?_|apply qD|apply qE|apply qF|apply qG|apply qH)
  generalize hw36 : wr w35 vb 6 [.map qm] = w36
  have hS36 : Upd (fun b => b = vb ∨ b = rb) w35 w36 := by rw [← hw36];exact (Upd.refl _ _).wr _ _ (.inr (.inl rfl))
  have hv_36 : blk w36 vb = some (#[.int .i16 ver,.string ByteArray.empty,.int .i64 0,.int .i16 0,.slice none 0 0,.slice aa2 N2 qq2,.map qm],69,(0,0)) := by rw [← hw36,blk_wr_eq,hv_35];rfl
  have hV36 := hS36
  have hU36 : Upd (fun b => b = vb ∨ b = rb) w1 w36 := hU35.trans hV36
  have hz36 := hV36.size
  have hG36 : Glo ev w36 := hG1.updS hU36 hgM1 hgM2
  have hq36 : Rdr RT ok w36 rb s18 ∧ NN w36 rb s18 := by
    have hn : ∀ x,x = w36 → (Rdr RT ok x rb s18 ∧ NN x rb s18) := fun x hx => by
      rw [hx,← hw36]
      exact Rdr.store hq35 (by omega) (fun h => by have := (hok _ h).1;first | omega | exact (hok _ h).2 rfl)
    exact hn _ rfl
  clear hw36
  have hTg : TagsM (fun b => ok b ∨ w1.heap.size ≤ b) w36 (.map qm) (rdTags s17).1 := (hT35.weaken fun b _ hk => hk.elim (fun hk => .inl hk) (fun h => by have h' : w34.heap.size ≤ b := h;exact .inr (by omega))).keep (hV36.keeps fun b _ hk e => (hoM b hk) e)
  have hC_36 : Upd (fun b => b = vb ∨ b = rb) w36 w36 := Upd.refl _ _
  have hC_35 : Upd (fun b => b = vb ∨ b = rb) w35 w36 := hV36.trans hC_36
  have hC_34 : Upd (fun b => b = vb ∨ b = rb) w34 w36 := hV35.trans hC_35
  have hC_33 : Upd (fun b => b = vb ∨ b = rb) w33 w36 := hV34.trans hC_34
  have hC_2 : Upd (fun b => b = vb ∨ b = rb) w2 w36 := hV33.trans hC_33
  have hC_1 : Upd (fun b => b = vb ∨ b = rb) w1 w36 := hV2.trans hC_2
  have hR : RepS true (d + 3) fs_Q (fun b => ok b ∨ w1.heap.size ≤ b) w36 (.mk 0 [] false [x_0,x_1,x_2,x_3,x_4] (rdTags s17).1) [.string ByteArray.empty,.int .i64 0,.int .i16 0,.slice none 0 0,.slice aa2 N2 qq2,.map qm] := RepS.introT (c := [.string ByteArray.empty,.int .i64 0,.int .i16 0,.slice none 0 0,.slice aa2 N2 qq2]) (RepL.cons1 (hf_0.keepS (hC_1.keeps fun b _ hk e => (hoM b hk) e)) (RepL.cons1 (hf_1.keepS (hC_1.keeps fun b _ hk e => (hoM b hk) e)) (RepL.cons1 (hf_2.keepS (hC_1.keeps fun b _ hk e => (hoM b hk) e)) (RepL.cons1 (hf_3.keepS (hC_1.keeps fun b _ hk e => (hoM b hk) e)) (RepL.cons1 (hf_4.keepS (hC_34.keeps fun b _ hk e => (hoM b hk) e)) RepL.nil))))) hTg
  repeat ((first | refine qA rfl ?_|apply qB|refine qC rfl ?_|apply qD|apply qE|apply qF|apply qG|apply qH);try simp (maxSteps:=1000000)(disch:=(first|omega|(simp only [qI,qJ,qK]<;>omega)|exact qL _)) only [go_sem,↓reduceIte,n0,reduceCtorEq,n1,n2,n3,n4,n5,i0,i1,i2,i3,i4,i5,i6,i7,hv_36,hrd2_2,hrd2_7,hrd2_8,hrd2_9,hrd2_10,hrd2_28,hrd2_27])
  refine (RComplete_fn w36 hq36.1 hG36.2).mono ?_
  rintro _ wz ⟨rfl,hez⟩
  rw [hez]
  repeat ((first | refine qA rfl ?_|apply qB|refine qC rfl ?_|apply qD|apply qE|apply qF|apply qG|apply qH);try simp (maxSteps:=1000000)(disch:=(first|omega|(simp only [qI,qJ,qK]<;>omega)|exact qL _)) only [go_sem,↓reduceIte,n0,reduceCtorEq,n1,n2,n3,n4,n5,i0,i1,i2,i3,i4,i5,i6,i7,hv_36,hrd2_2,hrd2_7,hrd2_8,hrd2_9,hrd2_10,hrd2_28,hrd2_27])
  rw [hfin]
  refine ⟨fun h => ?_,fun h => ⟨?_,[.string ByteArray.empty,.int .i64 0,.int .i16 0,.slice none 0 0,.slice aa2 N2 qq2,.map qm],hv_36,?_⟩,?_⟩
  · have h' : s18 = none := h
    rw [h'];rfl
  · cases hsn : s18 with
    | none => exact absurd hsn h
    | some x => rfl
  · exact (RepS_lay true (d + 3) fs_Q).weaken hR fun b _ hk => hk.imp id fun h => by omega
  · exact hbase.trans' hU36 fun i hi h => h.elim id fun h => by omega
end Ms

