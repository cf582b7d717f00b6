/- A part of the proof: see the last text. -/
import Derived.Test.YtdpckciobjkobaaGreatDoorDescribeShareGroupOffsetsRequestP0
set_option linter.unusedSimpArgs false
set_option linter.unusedVariables false
namespace Ms
open Go.World renaming size_alloc → qI
open Ms renaming size_wr → qJ,size_drew → qK,not_noB → qL
open W renaming seqR → qA,seq → qB,regR → qC,condK → qD,block → qE,skip → qF,ret → qG,exit → qH
open Nat renaming reduceEqDiff → n0,reduceAdd → n1,reduceMul → n2,reduceSub → n3,reduceLT → n4,reduceLeDiff → n5
open Int renaming reduceEq → i0,reduceLT → i1,reduceLE → i2,reduceNeg → i3,reduceAdd → i4,reduceSub → i5,reduceMul → i6,reduceToNat → i7
set_option maxRecDepth 8000
open Go Go.Proofs Go.Shelf
attribute [local congr] W_congr WPsq_congr WPp_congr optK_congr addrK_congr intK_congr boolK_congr sliceK_congr tupleK_congr funcK_congr Fn_congr rawK_congr takeK_congr stepK_congr convK_congr aggK_congr

set_option maxHeartbeats 4000000 in
theorem readDescribeShareGroupOffsetsRequest_0 {d : Nat} {ok : Blocks} {ver : Int} {ev : Value} (hlo : 0 ≤ ver) (hhi : ver ≤ 1) (w : World) {vb : Nat} (src : Value) (s : List UInt8) (hv : blk w vb = some (#[.int .i16 ver,.slice none 0 0,.map none],123,(0,0))) (hsrc : BytesV ok w src s) (hok0 : ∀ b,ok b → b < w.heap.size ∧ b ≠ vb) (hG : Glo ev w) (hgv : ¬ 1 = vb ∧ ¬ 0 = vb) :
    Fn Tryz.prog 123 #[.pointer (some ⟨vb,0,none⟩),src,.bool false] w (ReadQ 123 ok ver (d + 3) fs_DescribeShareGroupOffsetsRequest vb w (rdP (d + 3) ver true fs_DescribeShareGroupOffsetsRequest (some s)) ev) := by
  have hvl := blk_lt hv
  have hgs := hG.lt
  obtain ⟨sa,sc,rfl,_⟩ := hsrc.shape
  refine fn_of_W Tryz.func123 rfl Tryz.results123 Tryz.ntmps123 rfl ?_
  repeat ((first | refine qA rfl ?_|refine qB ?_|refine qC rfl ?_|refine qD ?_|refine qE ?_|refine qF ?_|refine qG ?_|refine qH ?_);try simp (maxSteps:=1000000)(disch:=(first|omega|(simp only [qI,qJ,qK]<;>omega)|exact qL _)) only [go_sem,↓reduceIte,n0,reduceCtorEq,n1,n2,n3,n4,n5,i0,i1,i2,i3,i4,i5,i6,i7,hv])
  refine (DefaultDescribeShareGroupOffsetsRequest_fn w hv).mono ?_
  rintro _ w0 ⟨hv0,hu0⟩
  have hz0 := hu0.size
  have hsrc0 : BytesV ok w0 (.slice sa s.length sc) s := hsrc.keep (hu0.keeps fun b _ hk e => (hok0 b hk).2 e)
  obtain ⟨rb,hrb⟩ : ∃ r,r = w0.heap.size := ⟨_,rfl⟩
  have hE1 : Ext w0 (wr (w0.alloc (.cells #[.slice none 0 0,.bool false] 131)) w0.heap.size 0 [.slice sa s.length sc,.bool false]) := (Upd.alloc (Upd.refl _ _) _).wr _ _ (.inl (Nat.le_refl _))
  have hz1 : (wr (w0.alloc (.cells #[.slice none 0 0,.bool false] 131)) w0.heap.size 0 [.slice sa s.length sc,.bool false]).heap.size = w0.heap.size + 1 := by rw [size_wr,World.size_alloc]
  have hR1 : Rdr RT ok (wr (w0.alloc (.cells #[.slice none 0 0,.bool false] 131)) w0.heap.size 0 [.slice sa s.length sc,.bool false]) w0.heap.size (some s) := Rdr.good (v := .slice sa s.length sc) (by simp (maxSteps:=1000000)(disch:=(first|omega|(simp only [qI,qJ,qK]<;>omega)|exact qL _)) only [go_sem,↓reduceIte,n0,reduceCtorEq,n1,n2,n3,n4,n5,i0,i1,i2,i3,i4,i5,i6,i7]) (hsrc0.keep (hE1.keeps _))
  have hv_1 := hE1.blk_some hv0 id
  repeat ((first | refine qA rfl ?_|refine qB ?_|refine qC rfl ?_|refine qD ?_|refine qE ?_|refine qF ?_|refine qG ?_|refine qH ?_);try simp (maxSteps:=1000000)(disch:=(first|omega|(simp only [qI,qJ,qK]<;>omega)|exact qL _)) only [go_sem,↓reduceIte,n0,reduceCtorEq,n1,n2,n3,n4,n5,i0,i1,i2,i3,i4,i5,i6,i7,hv0])
  generalize (wr (w0.alloc (.cells #[.slice none 0 0,.bool false] 131)) w0.heap.size 0 [.slice sa s.length sc,.bool false]) = w1 at *
  rw [← hrb] at hR1
  try rw [← hrb]
  have hok : ∀ b,ok b → b < w.heap.size ∧ b ≠ vb := hok0
  have hrok : ¬ ok rb := fun h => by have := (hok rb h).1;omega
  have hbase : Upd (fun b => b = vb) w w1 := hu0.trans (hE1.mono fun _ h => h.elim)
  have hG1 : Glo ev w1 := hG.updS hbase hgv.1 hgv.2
  have hgrb : ¬ 1 = rb := by omega
  have hgM1 : ¬ (1 = vb ∨ 1 = rb) := fun h => h.elim hgv.1 fun h => by omega
  have hgM2 : ¬ (0 = vb ∨ 0 = rb) := fun h => h.elim hgv.2 fun h => by omega
  obtain ⟨s0,hs0⟩ : ∃ s' : St,s' = some s := ⟨_,rfl⟩
  rw [← hs0] at hR1 ⊢
  have hU1 : Upd (fun b => b = vb ∨ b = rb) w1 w1 := Upd.refl _ _
  have hoM : ∀ b,(ok b ∨ w1.heap.size ≤ b) → ¬ (b = vb ∨ b = rb) := fun b hk h => by
    rcases hk with hk | hk
    · have := hok b hk;rcases h with h | h <;> omega
    · rcases h with h | h <;> omega
  have hq1 : Rdr RT ok w1 rb s0 := hR1
  obtain ⟨FB,hFB⟩ : ∃ P : Prop,P = ((rdP (d + 3) ver true fs_DescribeShareGroupOffsetsRequest s0).2 = none) := ⟨_,rfl⟩
  have hb_0 : (rdL (rdP (d + 2) ver true) (dfP (d + 2)) ver true [fDescribeShareGroupOffsetsRequest_0] s0).2 = none → FB := fun h => Eq.mpr hFB (rdP_bad h)
  have hh_0 : hasS fDescribeShareGroupOffsetsRequest_0 ver = true := hasS_t (by show (0 : Int) ≤ ver;omega) (by show (-1 : Int) < 0 ∨ ver ≤ (-1 : Int);omega)
  obtain ⟨x_0,hx_0⟩ : ∃ x,x = (rdF (rdP (d + 2) ver true) ver true fDescribeShareGroupOffsetsRequest_0 s0).1 := ⟨_,rfl⟩
  repeat ((first | refine qA rfl ?_|refine qB ?_|refine qC rfl ?_|refine qD ?_|refine qE ?_|refine qF ?_|refine qG ?_|refine qH ?_);try simp (maxSteps:=1000000)(disch:=(first|omega|(simp only [qI,qJ,qK]<;>omega)|exact qL _)) only [go_sem,↓reduceIte,n0,reduceCtorEq,n1,n2,n3,n4,n5,i0,i1,i2,i3,i4,i5,i6,i7,hv_1])
  refine (RCompactArrayLen_fn w1 hq1 hrok hG1.1 hgrb).mono ?_
  rintro _ w2 ⟨rfl,hq2,hu2⟩
  have hv_2 := hu2.blk_some hv_1 (by omega)
  have hV2 : Upd (fun b => b = vb ∨ b = rb) w1 w2 := hu2.mono (fun _ h => .inr h)
  have hU2 : Upd (fun b => b = vb ∨ b = rb) w1 w2 := hU1.trans hV2
  have hz2 := hV2.size
  have hG2 : Glo ev w2 := hG1.updS hU2 hgM1 hgM2
  obtain ⟨s1,hs1⟩ : ∃ s,s = (rdALen true s0).2 := ⟨_,rfl⟩
  rw [← hs1] at hq2
  have hyr0 := rdALen_rng true s0
  generalize hy0 : (rdALen true s0).1 = y0 at *
  obtain ⟨N0,hN0⟩ : ∃ N,N = y0.toNat := ⟨_,rfl⟩
  have hlb0 : (rdMany (rd1 (rdP (d + 2) ver true) fDescribeShareGroupOffsetsRequest_0.of fDescribeShareGroupOffsetsRequest_0.sub false true) N0 s1).2 = none → FB := fun h => hb_0 (by rw [rdL_st (by decide) hh_0];exact rdL_bad (rdF_listbad rfl (by rw [hy0,← hN0,← hs1];exact h)))
  repeat ((first | refine W.seqR rfl ?_ | refine W.seq ?_ | refine W.regR rfl ?_ | refine W.block ?_ | refine W.skip ?_ | refine W.ret ?_ | refine W.exit ?_);try simp (maxSteps:=1000000)(disch:=(first|omega|(simp only [qI,qJ,qK]<;>omega)|exact qL _)) only [go_sem,↓reduceIte,n0,reduceCtorEq,n1,n2,n3,n4,n5,i0,i1,i2,i3,i4,i5,i6,i7,hv_2])
  refine (ROk_fn w2 hq2.1).mono ?_
  rintro _ wz ⟨rfl,hez⟩
  rw [hez]
  clear hez wz
  by_cases hsn0 : s1 = none
  · have hso : s1.isSome = false := by rw [hsn0];rfl
    try simp (maxSteps:=1000000)(disch:=(first|omega|(simp only [qI,qJ,qK]<;>omega)|exact qL _)) only [go_sem,↓reduceIte,n0,reduceCtorEq,n1,n2,n3,n4,n5,i0,i1,i2,i3,i4,i5,i6,i7,hv_2,hso]
    repeat ((first | refine qA rfl ?_|refine qB ?_|refine qC rfl ?_|refine qD ?_|refine qE ?_|refine qF ?_|refine qG ?_|refine qH ?_);try simp (maxSteps:=1000000)(disch:=(first|omega|(simp only [qI,qJ,qK]<;>omega)|exact qL _)) only [go_sem,↓reduceIte,n0,reduceCtorEq,n1,n2,n3,n4,n5,i0,i1,i2,i3,i4,i5,i6,i7,hv_2,hso])
    refine (RComplete_fn w2 hq2.1 hG2.2).mono ?_
    rintro _ wz ⟨rfl,hez⟩
    rw [hez]
    try simp (maxSteps:=1000000)(disch:=(first|omega|(simp only [qI,qJ,qK]<;>omega)|exact qL _)) only [go_sem,↓reduceIte,n0,reduceCtorEq,n1,n2,n3,n4,n5,i0,i1,i2,i3,i4,i5,i6,i7,hv_2]
    repeat ((first | refine qA rfl ?_|refine qB ?_|refine qC rfl ?_|refine qD ?_|refine qE ?_|refine qF ?_|refine qG ?_|refine qH ?_);try simp (maxSteps:=1000000)(disch:=(first|omega|(simp only [qI,qJ,qK]<;>omega)|exact qL _)) only [go_sem,↓reduceIte,n0,reduceCtorEq,n1,n2,n3,n4,n5,i0,i1,i2,i3,i4,i5,i6,i7,hv_2])
    rw [errV_none hsn0]
    exact ReadQ.bad (Eq.mp hFB (hlb0 (by rw [hsn0];exact rdMany_none rd1P_none _))) (hbase.trans' hU2 fun i hi h => h.elim id fun h => by omega)
  have hso0 : s1.isSome = true := isSome_some hsn0
  try simp (maxSteps:=1000000)(disch:=(first|omega|(simp only [qI,qJ,qK]<;>omega)|exact qL _)) only [go_sem,↓reduceIte,n0,reduceCtorEq,n1,n2,n3,n4,n5,i0,i1,i2,i3,i4,i5,i6,i7,hv_2,hso0]
  repeat ((first | refine W.seqR rfl ?_ | refine W.seq ?_ | refine W.regR rfl ?_ | refine W.block ?_ | refine W.skip ?_ | refine W.ret ?_ | refine W.exit ?_);try simp (maxSteps:=1000000)(disch:=(first|omega|(simp only [qI,qJ,qK]<;>omega)|exact qL _)) only [go_sem,↓reduceIte,n0,reduceCtorEq,n1,n2,n3,n4,n5,i0,i1,i2,i3,i4,i5,i6,i7,hv_2,hso0])
  refine W.condK ?_
  try simp (maxSteps:=1000000)(disch:=(first|omega|(simp only [qI,qJ,qK]<;>omega)|exact qL _)) only [go_sem,↓reduceIte,n0,reduceCtorEq,n1,n2,n3,n4,n5,i0,i1,i2,i3,i4,i5,i6,i7,hv_2,hso0]
  repeat ((first | refine W.seqR rfl ?_ | refine W.seq ?_ | refine W.regR rfl ?_ | refine W.block ?_ | refine W.skip ?_ | refine W.ret ?_ | refine W.exit ?_);try simp (maxSteps:=1000000)(disch:=(first|omega|(simp only [qI,qJ,qK]<;>omega)|exact qL _)) only [go_sem,↓reduceIte,n0,reduceCtorEq,n1,n2,n3,n4,n5,i0,i1,i2,i3,i4,i5,i6,i7,hv_2,hso0,slBase_00])
  refine W.normJ (RowQ [(2,.bool false),(7,.pointer (some ⟨rb,0,none⟩)),(8,.int .i16 ver),(9,.bool true),(10,.pointer (some ⟨vb,0,none⟩)),(13,.int .i32 y0)] 12 (fun va w' => LstI RT (rd1 (rdP (d + 2) ver true) fDescribeShareGroupOffsetsRequest_0.of fDescribeShareGroupOffsetsRequest_0.sub false true) (Rep1 (RepS true (d + 2)) fDescribeShareGroupOffsetsRequest_0.of fDescribeShareGroupOffsetsRequest_0.sub) 3 178 [.string ByteArray.empty,.slice none 0 0,.map none] w2.heap.size N0 ok (fun b => ok b ∨ w1.heap.size ≤ b) rb w2 s1 va 0 s1 [] [] w' ∧ (N0 = 0 → if nilS fDescribeShareGroupOffsetsRequest_0 ver y0 = true then va = .slice none 0 0 else ∃ a,va = .slice (some a) 0 0))) ?_ ?_
  · by_cases hy0 : (0 : Int) < y0
    · have hyv : Value.int .i32 y0 = .int .i32 ((N0 : Nat) : Int) := by rw [show y0 = ((N0 : Nat) : Int) by omega]
      repeat ((first | refine qA rfl ?_|refine qB ?_|refine qC rfl ?_|refine qD ?_|refine qE ?_|refine qF ?_|refine qG ?_|refine qH ?_);try simp (maxSteps:=1000000)(disch:=(first|omega|(simp only [qI,qJ,qK]<;>omega)|exact qL _)) only [go_sem,↓reduceIte,n0,reduceCtorEq,n1,n2,n3,n4,n5,i0,i1,i2,i3,i4,i5,i6,i7,hv_2])
      refine wp_appendZ (m := N0) utDescribeShareGroupOffsetsRequest_121 utDescribeShareGroupOffsetsRequest_21 inDescribeShareGroupOffsetsRequest_178 (by decide) (by first | rfl | simp (maxSteps:=1000000)(disch:=(first|omega|(simp only [qI,qJ,qK]<;>omega)|exact qL _)) only [go_sem,↓reduceIte,n0,reduceCtorEq,n1,n2,n3,n4,n5,i0,i1,i2,i3,i4,i5,i6,i7]) (by first | exact hyv | (simp (maxSteps:=1000000)(disch:=(first|omega|(simp only [qI,qJ,qK]<;>omega)|exact qL _)) only [go_sem,↓reduceIte,n0,reduceCtorEq,n1,n2,n3,n4,n5,i0,i1,i2,i3,i4,i5,i6,i7];exact hyv)) (by omega) (by omega) (by decide) ?_
      intro q rest hq1
      have hEw : Ext w2 (w2.drew.alloc (.cells (zs [.string ByteArray.empty,.slice none 0 0,.map none] N0 ++ rest).toArray 178)) := (Upd.refl _ _).drew.alloc _
      try simp (maxSteps:=1000000)(disch:=(first|omega|(simp only [qI,qJ,qK]<;>omega)|exact qL _)) only [go_sem,↓reduceIte,n0,reduceCtorEq,n1,n2,n3,n4,n5,i0,i1,i2,i3,i4,i5,i6,i7,hv_2]
      repeat ((first | refine qA rfl ?_|refine qB ?_|refine qC rfl ?_|refine qD ?_|refine qE ?_|refine qF ?_|refine qG ?_|refine qH ?_);try simp (maxSteps:=1000000)(disch:=(first|omega|(simp only [qI,qJ,qK]<;>omega)|exact qL _)) only [go_sem,↓reduceIte,n0,reduceCtorEq,n1,n2,n3,n4,n5,i0,i1,i2,i3,i4,i5,i6,i7,hv_2])
      exact ⟨(by simp (maxSteps:=1000000)(disch:=(first|omega|(simp only [qI,qJ,qK]<;>omega)|exact qL _)) only [go_sem,↓reduceIte,n0,reduceCtorEq,n1,n2,n3,n4,n5,i0,i1,i2,i3,i4,i5,i6,i7,Holds_nil,Holds_cons]),.slice (some ⟨w2.heap.size,0,none⟩) N0 q,(by simp (maxSteps:=1000000)(disch:=(first|omega|(simp only [qI,qJ,qK]<;>omega)|exact qL _)) only [go_sem,↓reduceIte,n0,reduceCtorEq,n1,n2,n3,n4,n5,i0,i1,i2,i3,i4,i5,i6,i7]),LstI.start (RowJ.start (by omega) hq1 (by show w2.heap.size ≤ w2.drew.heap.size;rw [size_drew];omega) (blk_alloc_new rfl)) ⟨hq2.1.upd hEw (fun h => h) (fun _ _ _ h => h),hq2.2.upd hEw fun h => h⟩ (hEw.mono fun _ h => h.elim),fun h0 => by omega⟩
    · repeat ((first | refine qA rfl ?_|refine qB ?_|refine qC rfl ?_|refine qD ?_|refine qE ?_|refine qF ?_|refine qG ?_|refine qH ?_);try simp (maxSteps:=1000000)(disch:=(first|omega|(simp only [qI,qJ,qK]<;>omega)|exact qL _)) only [go_sem,↓reduceIte,n0,reduceCtorEq,n1,n2,n3,n4,n5,i0,i1,i2,i3,i4,i5,i6,i7,hv_2])
      exact ⟨(by simp (maxSteps:=1000000)(disch:=(first|omega|(simp only [qI,qJ,qK]<;>omega)|exact qL _)) only [go_sem,↓reduceIte,n0,reduceCtorEq,n1,n2,n3,n4,n5,i0,i1,i2,i3,i4,i5,i6,i7,Holds_nil,Holds_cons]),.slice none 0 0,(by simp (maxSteps:=1000000)(disch:=(first|omega|(simp only [qI,qJ,qK]<;>omega)|exact qL _)) only [go_sem,↓reduceIte,n0,reduceCtorEq,n1,n2,n3,n4,n5,i0,i1,i2,i3,i4,i5,i6,i7,slBase_00]),LstI.start (RowJ.zero (by omega) (fun _ h => by cases h)) hq2 (Upd.refl _ _),fun _ => by rw [nilS_plain (by decide) (by omega)];exact rfl⟩
  rintro ρ w3 ⟨⟨hrb0_2,hrb0_7,hrb0_8,hrb0_9,hrb0_10,hrb0_13,-⟩,va0,hra0,hL0,hnc0⟩
  repeat ((first | refine qA rfl ?_|refine qB ?_|refine qC rfl ?_|refine qD ?_|refine qE ?_|refine qF ?_|refine qG ?_|refine qH ?_);try simp (maxSteps:=1000000)(disch:=(first|omega|(simp only [qI,qJ,qK]<;>omega)|exact qL _)) only [go_sem,↓reduceIte,n0,reduceCtorEq,n1,n2,n3,n4,n5,i0,i1,i2,i3,i4,i5,i6,i7,hv_2,hrb0_2,hrb0_7,hrb0_8,hrb0_9,hrb0_10,hrb0_13,hra0,exitRQ_ret,exitRQ_exit,Int.toNat_natCast,Nat.mul_one])
  refine W.exitRJ 0 (EndQ [(2,.bool false),(7,.pointer (some ⟨rb,0,none⟩)),(8,.int .i16 ver),(9,.bool true),(10,.pointer (some ⟨vb,0,none⟩)),(13,.int .i32 y0),(12,va0)] (fun w' => ∃ s xs css,LstI RT (rd1 (rdP (d + 2) ver true) fDescribeShareGroupOffsetsRequest_0.of fDescribeShareGroupOffsetsRequest_0.sub false true) (Rep1 (RepS true (d + 2)) fDescribeShareGroupOffsetsRequest_0.of fDescribeShareGroupOffsetsRequest_0.sub) 3 178 [.string ByteArray.empty,.slice none 0 0,.map none] w2.heap.size N0 ok (fun b => ok b ∨ w1.heap.size ≤ b) rb w2 s1 va0 N0 s xs css w')) (W.loop (LoopQ [(2,.bool false),(7,.pointer (some ⟨rb,0,none⟩)),(8,.int .i16 ver),(9,.bool true),(10,.pointer (some ⟨vb,0,none⟩)),(13,.int .i32 y0),(12,va0)] 14 (fun j w' => ∃ s xs css,LstI RT (rd1 (rdP (d + 2) ver true) fDescribeShareGroupOffsetsRequest_0.of fDescribeShareGroupOffsetsRequest_0.sub false true) (Rep1 (RepS true (d + 2)) fDescribeShareGroupOffsetsRequest_0.of fDescribeShareGroupOffsetsRequest_0.sub) 3 178 [.string ByteArray.empty,.slice none 0 0,.map none] w2.heap.size N0 ok (fun b => ok b ∨ w1.heap.size ≤ b) rb w2 s1 va0 j s xs css w')) (fun ρ _ => N0 - (RowKit.intOf (ρ 14)).toNat) ?_ ?_) ?_
  · exact ⟨(by simp (maxSteps:=1000000)(disch:=(first|omega|(simp only [qI,qJ,qK]<;>omega)|exact qL _)) only [go_sem,↓reduceIte,n0,reduceCtorEq,n1,n2,n3,n4,n5,i0,i1,i2,i3,i4,i5,i6,i7,Holds_nil,Holds_cons,hrb0_2,hrb0_7,hrb0_8,hrb0_9,hrb0_10,hrb0_13,hra0]),0,(by simp (maxSteps:=1000000)(disch:=(first|omega|(simp only [qI,qJ,qK]<;>omega)|exact qL _)) only [go_sem,↓reduceIte,n0,reduceCtorEq,n1,n2,n3,n4,n5,i0,i1,i2,i3,i4,i5,i6,i7,hrb0_2,hrb0_7,hrb0_8,hrb0_9,hrb0_10,hrb0_13,hra0];all_goals rfl),s1,[],[],hL0⟩
  · rintro ρ w4 ⟨⟨hrc0_2,hrc0_7,hrc0_8,hrc0_9,hrc0_10,hrc0_13,hrc0_12,-⟩,j1,hri0,s2,xs0,css0,hL0⟩
    have hj0 := hL0.le
    have hq4 := hL0.rd
    have hU4 : Upd (fun b => b = vb ∨ b = rb) w1 w4 := hU2.trans' hL0.upd fun i _ h => .inr h
    have hz4 := hL0.upd.size
    have hG4 : Glo ev w4 := hG1.updS hU4 hgM1 hgM2
    by_cases hlt0 : j1 < N0
    · obtain ⟨R1,q1,B1,hva1,hNq1,hLR1,hA1,hx1_4,hnext1⟩ := hL0.row.next hlt0
      have hRl1 := blk_lt hx1_4
      generalize css0.flatten = A1 at hA1 hx1_4 hnext1
      replace hra0 : ρ 12 = .slice (some ⟨R1,0,none⟩) N0 q1 := hrc0_12.trans hva1
      have hown1 : ∀ b,ownB va0 b → w2.heap.size ≤ b ∧ b < w4.heap.size := fun b h => hL0.row.own h
      have hoM1 : ∀ b,(fun b => (ok b ∨ w1.heap.size ≤ b) ∧ ¬ ownB va0 b) b → ¬ (b = R1 ∨ b = rb) := fun b hk h => h.elim (fun e => hk.2 ⟨_,_,_,hva1,e⟩) (fun e => hoM b hk.1 (.inr e))
      obtain ⟨X4,hX4⟩ : ∃ X : Array Value,X = (A1 ++ (([.string ByteArray.empty,.slice none 0 0,.map none] : List Value) ++ B1)).toArray := ⟨_,rfl⟩
      have hxb4 : blk w4 R1 = some (X4,178,(0,0)) := by rw [hX4];exact hx1_4
      have hXs4 : j1 * 3 + 3 ≤ X4.size := by rw [hX4];simp only [List.size_toArray,List.length_append,List.length_cons,List.length_nil,hA1];omega
      repeat ((first | refine qA rfl ?_|refine qB ?_|refine qC rfl ?_|refine qD ?_|refine qE ?_|refine qF ?_|refine qG ?_|refine qH ?_);try simp (maxSteps:=1000000)(disch:=(first|omega|(simp only [qI,qJ,qK]<;>omega)|exact qL _)) only [go_sem,↓reduceIte,n0,reduceCtorEq,n1,n2,n3,n4,n5,i0,i1,i2,i3,i4,i5,i6,i7,hxb4,hrc0_2,hrc0_7,hrc0_8,hrc0_9,hrc0_10,hrc0_13,hra0,hri0,exitRQ_ret,exitRQ_exit,Int.toNat_natCast,Nat.mul_one])
      refine (DefaultEX1_fn w4 hx1_4 hA1).mono ?_
      rintro _ w5 ⟨hx1_5,hu5⟩
      have hq5 := And.intro (hq4.1.upd hu5 (by omega) (fun b _ hk e => by have := (hok b hk).1;omega)) (hq4.2.upd hu5 (by omega))
      have hV5 : Upd (fun b => b = R1 ∨ b = rb) w4 w5 := hu5.mono (fun _ h => .inl h)
      have hU5 : Upd (fun b => b = vb ∨ b = rb) w1 w5 := hU4.trans' hV5 fun i hi h => h.elim (fun h => by omega) .inr
      have hz5 := hV5.size
      have hG5 : Glo ev w5 := hG1.updS hU5 hgM1 hgM2
      obtain ⟨X5,hX5⟩ : ∃ X : Array Value,X = (A1 ++ (([.string ByteArray.empty,.slice none 0 0,.map none] : List Value) ++ B1)).toArray := ⟨_,rfl⟩
      have hxb5 : blk w5 R1 = some (X5,178,(0,0)) := by rw [hX5];exact hx1_5
      have hXs5 : j1 * 3 + 3 ≤ X5.size := by rw [hX5];simp only [List.size_toArray,List.length_append,List.length_cons,List.length_nil,hA1];omega
      have hbe0_0 : (rdL (rdP (d + 1) ver true) (dfP (d + 1)) ver true [fX1_0,fX1_1] s2).2 = none → FB := fun h => hlb0 (hL0.bad hlt0 rd1P_none (by show (rd1 (rdP (d + 2) ver true) 10 fs_X1 false true s2).2 = none;rw [rd1_part];exact rdP_bad h))
      have hhe0_0 : hasS fX1_0 ver = true := hasS_t (by show (0 : Int) ≤ ver;omega) (by show (-1 : Int) < 0 ∨ ver ≤ (-1 : Int);omega)
      obtain ⟨xe0_0,hxe0_0⟩ : ∃ x,x = (rdF (rdP (d + 1) ver true) ver true fX1_0 s2).1 := ⟨_,rfl⟩
      repeat ((first | refine qA rfl ?_|refine qB ?_|refine qC rfl ?_|refine qD ?_|refine qE ?_|refine qF ?_|refine qG ?_|refine qH ?_);try simp (maxSteps:=1000000)(disch:=(first|omega|(simp only [qI,qJ,qK]<;>omega)|exact qL _)) only [go_sem,↓reduceIte,n0,reduceCtorEq,n1,n2,n3,n4,n5,i0,i1,i2,i3,i4,i5,i6,i7,hxb5,hrc0_2,hrc0_7,hrc0_8,hrc0_9,hrc0_10,hrc0_13,hra0,hri0,exitRQ_ret,exitRQ_exit,Int.toNat_natCast,Nat.mul_one])
      have hmay : mayS fX1_0 ver = false := mayS_no (by show (-1 : Int) < 0 ∨ ver < (-1 : Int);omega)
      have hrd : rdF (rdP (d + 1) ver true) ver true fX1_0 s2 = _ := rdF_text rfl hmay
      refine (RCompactString_fn w5 hq5.1 hrok hG5.1 hgrb).mono ?_
      rintro _ w6 ⟨rfl,hq6,hu6⟩
      have hx1_6 := hu6.blk_some hx1_5 (by omega)
      have hV6 : Upd (fun b => b = R1 ∨ b = rb) w5 w6 := hu6.mono (fun _ h => .inr h)
      have hU6 : Upd (fun b => b = vb ∨ b = rb) w1 w6 := hU5.trans' hV6 fun i hi h => h.elim (fun h => by omega) .inr
      have hz6 := hV6.size
      have hG6 : Glo ev w6 := hG1.updS hU6 hgM1 hgM2
      obtain ⟨X6,hX6⟩ : ∃ X : Array Value,X = (A1 ++ (([.string ByteArray.empty,.slice none 0 0,.map none] : List Value) ++ B1)).toArray := ⟨_,rfl⟩
      have hxb6 : blk w6 R1 = some (X6,178,(0,0)) := by rw [hX6];exact hx1_6
      have hXs6 : j1 * 3 + 3 ≤ X6.size := by rw [hX6];simp only [List.size_toArray,List.length_append,List.length_cons,List.length_nil,hA1];omega
      have hst : (rdF (rdP (d + 1) ver true) ver true fX1_0 s2).2 = (rdStr true s2).2 := by first | (rw [hrd];rfl) | rw [hrd]
      obtain ⟨s3,hs3⟩ : ∃ s,s = (rdF (rdP (d + 1) ver true) ver true fX1_0 s2).2 := ⟨_,rfl⟩
      rw [← hst,← hs3] at hq6
      clear hst
      have hst6_0 : j1 * 3 + 1 ≤ X6.size := by omega
      have hld6_1 : X6[j1 * 3 + 1]? = some (.slice none 0 0) := by rw [hX6];exact el_cell (R := 0) hA1 (Nat.le_of_ble_eq_true rfl)
      repeat ((first | refine qA rfl ?_|refine qB ?_|refine qC rfl ?_|refine qD ?_|refine qE ?_|refine qF ?_|refine qG ?_|refine qH ?_);try simp (maxSteps:=1000000)(disch:=(first|omega|(simp only [qI,qJ,qK]<;>omega)|exact qL _)) only [go_sem,↓reduceIte,n0,reduceCtorEq,n1,n2,n3,n4,n5,i0,i1,i2,i3,i4,i5,i6,i7,hxb6,hrc0_2,hrc0_7,hrc0_8,hrc0_9,hrc0_10,hrc0_13,hra0,hri0,exitRQ_ret,exitRQ_exit,Int.toNat_natCast,Nat.mul_one,hst6_0,hld6_1,Array.getElem?_setIfInBounds_ne])
      generalize hw7 : wr w6 R1 (j1 * 3) [strV (rdStr true s2).1] = w7
      have hS7 : Upd (fun b => b = R1 ∨ b = rb) w6 w7 := by rw [← hw7];exact (Upd.refl _ _).wr _ _ (.inr (.inl rfl))
      have hx1_7 : blk w7 R1 = some ((A1 ++ (([strV (rdStr true s2).1,.slice none 0 0,.map none] : List Value) ++ B1)).toArray,178,(0,0)) := by rw [← hw7];exact el_blk0 hx1_6 hA1 (Nat.le_of_ble_eq_true rfl)
      have hV7 := hS7
      have hU7 : Upd (fun b => b = vb ∨ b = rb) w1 w7 := hU6.trans' hV7 fun i hi h => h.elim (fun h => by omega) .inr
      have hz7 := hV7.size
      have hG7 : Glo ev w7 := hG1.updS hU7 hgM1 hgM2
      have hq7 : Rdr RT ok w7 rb s3 ∧ NN w7 rb s3 := by
        have hn : ∀ x,x = w7 → (Rdr RT ok x rb s3 ∧ NN x rb s3) := fun x hx => by
          rw [hx,← hw7]
          exact Rdr.store hq6 (by omega) (fun h => by have := (hok _ h).1;first | omega | exact (hok _ h).2 rfl)
        exact hn _ rfl
      obtain ⟨X7,hX7⟩ : ∃ X : Array Value,X = (A1 ++ (([strV (rdStr true s2).1,.slice none 0 0,.map none] : List Value) ++ B1)).toArray := ⟨_,rfl⟩
      have hxb7 : blk w7 R1 = some (X7,178,(0,0)) := by rw [hX7];exact hx1_7
      have hXs7 : j1 * 3 + 3 ≤ X7.size := by rw [hX7];simp only [List.size_toArray,List.length_append,List.length_cons,List.length_nil,hA1];omega
      clear hw7
      have hfe0_0 : RepF (RepS true (d + 1)) (szS true (d + 1)) fX1_0 (fun b => (ok b ∨ w1.heap.size ≤ b) ∧ ¬ ownB va0 b) w7 (xe0_0) [strV (rdStr true s2).1] := (RepF_text rfl (by decide)).2 (by rw [hxe0_0,hrd];rfl)
      clear hrd
      have hbe0_1 : (rdL (rdP (d + 1) ver true) (dfP (d + 1)) ver true [fX1_1] s3).2 = none → FB := fun h => hbe0_0 (by rw [rdL_st (by decide) hhe0_0,← hs3];exact h)
      have hhe0_1 : hasS fX1_1 ver = true := hasS_t (by show (0 : Int) ≤ ver;omega) (by show (-1 : Int) < 0 ∨ ver ≤ (-1 : Int);omega)
      obtain ⟨xe0_1,hxe0_1⟩ : ∃ x,x = (rdF (rdP (d + 1) ver true) ver true fX1_1 s3).1 := ⟨_,rfl⟩
      have hld7_1 : X7[j1 * 3 + 1]? = some (.slice none 0 0) := by rw [hX7];exact el_cell (R := 0) hA1 (Nat.le_of_ble_eq_true rfl)
      repeat ((first | refine qA rfl ?_|refine qB ?_|refine qC rfl ?_|refine qD ?_|refine qE ?_|refine qF ?_|refine qG ?_|refine qH ?_);try simp (maxSteps:=1000000)(disch:=(first|omega|(simp only [qI,qJ,qK]<;>omega)|exact qL _)) only [go_sem,↓reduceIte,n0,reduceCtorEq,n1,n2,n3,n4,n5,i0,i1,i2,i3,i4,i5,i6,i7,hxb7,hrc0_2,hrc0_7,hrc0_8,hrc0_9,hrc0_10,hrc0_13,hra0,hri0,exitRQ_ret,exitRQ_exit,Int.toNat_natCast,Nat.mul_one,hld7_1])
      refine (RCompactArrayLen_fn w7 hq7.1 hrok hG7.1 hgrb).mono ?_
      rintro _ w8 ⟨rfl,hq8,hu8⟩
      have hx1_8 := hu8.blk_some hx1_7 (by omega)
      have hV8 : Upd (fun b => b = R1 ∨ b = rb) w7 w8 := hu8.mono (fun _ h => .inr h)
      have hU8 : Upd (fun b => b = vb ∨ b = rb) w1 w8 := hU7.trans' hV8 fun i hi h => h.elim (fun h => by omega) .inr
      have hz8 := hV8.size
      have hG8 : Glo ev w8 := hG1.updS hU8 hgM1 hgM2
      obtain ⟨X8,hX8⟩ : ∃ X : Array Value,X = (A1 ++ (([strV (rdStr true s2).1,.slice none 0 0,.map none] : List Value) ++ B1)).toArray := ⟨_,rfl⟩
      have hxb8 : blk w8 R1 = some (X8,178,(0,0)) := by rw [hX8];exact hx1_8
      have hXs8 : j1 * 3 + 3 ≤ X8.size := by rw [hX8];simp only [List.size_toArray,List.length_append,List.length_cons,List.length_nil,hA1];omega
      obtain ⟨s4,hs4⟩ : ∃ s,s = (rdALen true s3).2 := ⟨_,rfl⟩
      rw [← hs4] at hq8
      have hyr1 := rdALen_rng true s3
      generalize hy1 : (rdALen true s3).1 = y1 at *
      obtain ⟨N1,hN1⟩ : ∃ N,N = y1.toNat := ⟨_,rfl⟩
      have hlb1 : (rdMany (rd1 (rdP (d + 1) ver true) fX1_1.of fX1_1.sub false true) N1 s4).2 = none → FB := fun h => hbe0_1 (by rw [rdL_st (by decide) hhe0_1];exact rdL_bad (rdF_listbad rfl (by rw [hy1,← hN1,← hs4];exact h)))
      repeat ((first | refine W.seqR rfl ?_ | refine W.seq ?_ | refine W.regR rfl ?_ | refine W.block ?_ | refine W.skip ?_ | refine W.ret ?_ | refine W.exit ?_);try simp (maxSteps:=1000000)(disch:=(first|omega|(simp only [qI,qJ,qK]<;>omega)|exact qL _)) only [go_sem,↓reduceIte,n0,reduceCtorEq,n1,n2,n3,n4,n5,i0,i1,i2,i3,i4,i5,i6,i7,hxb8,hrc0_2,hrc0_7,hrc0_8,hrc0_9,hrc0_10,hrc0_13,hra0,hri0,exitRQ_ret,exitRQ_exit,Int.toNat_natCast,Nat.mul_one])
      refine W.normJ (RowQ [(2,.bool false),(7,.pointer (some ⟨rb,0,none⟩)),(8,.int .i16 ver),(9,.bool true),(10,.pointer (some ⟨vb,0,none⟩)),(13,.int .i32 y0),(12,.slice (some ⟨R1,0,none⟩) N0 q1),(14,.int .i32 j1),(16,.pointer (some ⟨R1,j1 * 3,none⟩)),(20,.int .i32 y1)] 19 (fun va w' => ∃ a0,va = .slice a0 0 0 ∧ Ext w8 w' ∧ (∀ x,a0 = some x → w8.heap.size ≤ x.block ∧ x.block < w'.heap.size) ∧ (N1 = 0 → if nilS fX1_1 ver y1 = true then va = .slice none 0 0 else ∃ a,va = .slice (some a) 0 0))) ?_ ?_
      · by_cases hye : y1 = 0
        · repeat ((first | refine qA rfl ?_|refine qB ?_|refine qC rfl ?_|refine qD ?_|refine qE ?_|refine qF ?_|refine qG ?_|refine qH ?_);try simp (maxSteps:=1000000)(disch:=(first|omega|(simp only [qI,qJ,qK]<;>omega)|exact qL _)) only [go_sem,↓reduceIte,n0,reduceCtorEq,n1,n2,n3,n4,n5,i0,i1,i2,i3,i4,i5,i6,i7,hxb8,hrc0_2,hrc0_7,hrc0_8,hrc0_9,hrc0_10,hrc0_13,hra0,hri0,exitRQ_ret,exitRQ_exit,Int.toNat_natCast,Nat.mul_one,hye])
          exact ⟨(by simp (maxSteps:=1000000)(disch:=(first|omega|(simp only [qI,qJ,qK]<;>omega)|exact qL _)) only [go_sem,↓reduceIte,n0,reduceCtorEq,n1,n2,n3,n4,n5,i0,i1,i2,i3,i4,i5,i6,i7,Holds_nil,Holds_cons,hrc0_2,hrc0_7,hrc0_8,hrc0_9,hrc0_10,hrc0_13,hra0,hri0,hye]),.slice (some ⟨w8.heap.size,0,none⟩) 0 0,(by simp (maxSteps:=1000000)(disch:=(first|omega|(simp only [qI,qJ,qK]<;>omega)|exact qL _)) only [go_sem,↓reduceIte,n0,reduceCtorEq,n1,n2,n3,n4,n5,i0,i1,i2,i3,i4,i5,i6,i7,hrc0_2,hrc0_7,hrc0_8,hrc0_9,hrc0_10,hrc0_13,hra0,hri0]),some ⟨w8.heap.size,0,none⟩,rfl,(Upd.alloc (Upd.refl _ _) _ : Ext _ _),(fun x hx => by cases hx;exact ⟨Nat.le_refl _,by simp only [World.size_alloc];omega⟩),(fun _ => by rw [nilS_may (by decide) (by show (0 : Int) ≤ ver;omega),decide_eq_false (by omega)];exact ⟨_,rfl⟩)⟩
        · repeat ((first | refine qA rfl ?_|refine qB ?_|refine qC rfl ?_|refine qD ?_|refine qE ?_|refine qF ?_|refine qG ?_|refine qH ?_);try simp (maxSteps:=1000000)(disch:=(first|omega|(simp only [qI,qJ,qK]<;>omega)|exact qL _)) only [go_sem,↓reduceIte,n0,reduceCtorEq,n1,n2,n3,n4,n5,i0,i1,i2,i3,i4,i5,i6,i7,hxb8,hrc0_2,hrc0_7,hrc0_8,hrc0_9,hrc0_10,hrc0_13,hra0,hri0,exitRQ_ret,exitRQ_exit,Int.toNat_natCast,Nat.mul_one,hye])
          exact ⟨(by simp (maxSteps:=1000000)(disch:=(first|omega|(simp only [qI,qJ,qK]<;>omega)|exact qL _)) only [go_sem,↓reduceIte,n0,reduceCtorEq,n1,n2,n3,n4,n5,i0,i1,i2,i3,i4,i5,i6,i7,Holds_nil,Holds_cons,hrc0_2,hrc0_7,hrc0_8,hrc0_9,hrc0_10,hrc0_13,hra0,hri0,hye]),.slice none 0 0,(by simp (maxSteps:=1000000)(disch:=(first|omega|(simp only [qI,qJ,qK]<;>omega)|exact qL _)) only [go_sem,↓reduceIte,n0,reduceCtorEq,n1,n2,n3,n4,n5,i0,i1,i2,i3,i4,i5,i6,i7,hrc0_2,hrc0_7,hrc0_8,hrc0_9,hrc0_10,hrc0_13,hra0,hri0]),none,rfl,Upd.refl _ _,(fun x hx => by cases hx),(fun _ => by rw [nilS_may (by decide) (by show (0 : Int) ≤ ver;omega),decide_eq_true (by omega)];exact rfl)⟩
      rintro ρ w9 ⟨⟨hrn1_2,hrn1_7,hrn1_8,hrn1_9,hrn1_10,hrn1_13,hrn1_12,hrn1_14,hrn1_16,hrn1_20,-⟩,va,hra1,a0,rfl,hEn1,hab1,hnl1⟩
      have hun9 : Upd (fun b => b = rb) w8 w9 := hEn1.mono fun _ h => h.elim
      have hq9 := And.intro (hq8.1.upd hEn1 (fun h => h) (fun _ _ _ h => h)) (hq8.2.upd hEn1 fun h => h)
      have hx1_9 := hun9.blk_some hx1_8 (by omega)
      have hV9 : Upd (fun b => b = R1 ∨ b = rb) w8 w9 := hun9.mono (fun _ h => .inr h)
      have hU9 : Upd (fun b => b = vb ∨ b = rb) w1 w9 := hU8.trans' hV9 fun i hi h => h.elim (fun h => by omega) .inr
      have hz9 := hV9.size
      have hG9 : Glo ev w9 := hG1.updS hU9 hgM1 hgM2
      obtain ⟨X9,hX9⟩ : ∃ X : Array Value,X = (A1 ++ (([strV (rdStr true s2).1,.slice none 0 0,.map none] : List Value) ++ B1)).toArray := ⟨_,rfl⟩
      have hxb9 : blk w9 R1 = some (X9,178,(0,0)) := by rw [hX9];exact hx1_9
      have hXs9 : j1 * 3 + 3 ≤ X9.size := by rw [hX9];simp only [List.size_toArray,List.length_append,List.length_cons,List.length_nil,hA1];omega
      repeat ((first | refine W.seqR rfl ?_ | refine W.seq ?_ | refine W.regR rfl ?_ | refine W.block ?_ | refine W.skip ?_ | refine W.ret ?_ | refine W.exit ?_);try simp (maxSteps:=1000000)(disch:=(first|omega|(simp only [qI,qJ,qK]<;>omega)|exact qL _)) only [go_sem,↓reduceIte,n0,reduceCtorEq,n1,n2,n3,n4,n5,i0,i1,i2,i3,i4,i5,i6,i7,hxb9,hrn1_2,hrn1_7,hrn1_8,hrn1_9,hrn1_10,hrn1_13,hrn1_12,hrn1_14,hrn1_16,hrn1_20,hra1,exitRQ_ret,exitRQ_exit,Int.toNat_natCast,Nat.mul_one])
      refine (ROk_fn w9 hq9.1).mono ?_
      rintro _ wz ⟨rfl,hez⟩
      rw [hez]
      clear hez wz
      by_cases hsn1 : s4 = none
      · have hso : s4.isSome = false := by rw [hsn1];rfl
        try simp (maxSteps:=1000000)(disch:=(first|omega|(simp only [qI,qJ,qK]<;>omega)|exact qL _)) only [go_sem,↓reduceIte,n0,reduceCtorEq,n1,n2,n3,n4,n5,i0,i1,i2,i3,i4,i5,i6,i7,hxb9,hrn1_2,hrn1_7,hrn1_8,hrn1_9,hrn1_10,hrn1_13,hrn1_12,hrn1_14,hrn1_16,hrn1_20,hra1,exitRQ_ret,exitRQ_exit,Int.toNat_natCast,Nat.mul_one,hso]
        repeat ((first | refine qA rfl ?_|refine qB ?_|refine qC rfl ?_|refine qD ?_|refine qE ?_|refine qF ?_|refine qG ?_|refine qH ?_);try simp (maxSteps:=1000000)(disch:=(first|omega|(simp only [qI,qJ,qK]<;>omega)|exact qL _)) only [go_sem,↓reduceIte,n0,reduceCtorEq,n1,n2,n3,n4,n5,i0,i1,i2,i3,i4,i5,i6,i7,hxb9,hrn1_2,hrn1_7,hrn1_8,hrn1_9,hrn1_10,hrn1_13,hrn1_12,hrn1_14,hrn1_16,hrn1_20,hra1,exitRQ_ret,exitRQ_exit,Int.toNat_natCast,Nat.mul_one,hso])
        refine (RComplete_fn w9 hq9.1 hG9.2).mono ?_
        rintro _ wz ⟨rfl,hez⟩
        rw [hez]
        try simp (maxSteps:=1000000)(disch:=(first|omega|(simp only [qI,qJ,qK]<;>omega)|exact qL _)) only [go_sem,↓reduceIte,n0,reduceCtorEq,n1,n2,n3,n4,n5,i0,i1,i2,i3,i4,i5,i6,i7,hxb9,hrn1_2,hrn1_7,hrn1_8,hrn1_9,hrn1_10,hrn1_13,hrn1_12,hrn1_14,hrn1_16,hrn1_20,hra1,exitRQ_ret,exitRQ_exit,Int.toNat_natCast,Nat.mul_one]
        repeat ((first | refine qA rfl ?_|refine qB ?_|refine qC rfl ?_|refine qD ?_|refine qE ?_|refine qF ?_|refine qG ?_|refine qH ?_);try simp (maxSteps:=1000000)(disch:=(first|omega|(simp only [qI,qJ,qK]<;>omega)|exact qL _)) only [go_sem,↓reduceIte,n0,reduceCtorEq,n1,n2,n3,n4,n5,i0,i1,i2,i3,i4,i5,i6,i7,hxb9,hrn1_2,hrn1_7,hrn1_8,hrn1_9,hrn1_10,hrn1_13,hrn1_12,hrn1_14,hrn1_16,hrn1_20,hra1,exitRQ_ret,exitRQ_exit,Int.toNat_natCast,Nat.mul_one])
        rw [errV_none hsn1]
        exact ReadQ.bad (Eq.mp hFB (hlb1 (by rw [hsn1];exact rdMany_none rd1P_none _))) (hbase.trans' hU9 fun i hi h => h.elim id fun h => by omega)
      have hso1 : s4.isSome = true := isSome_some hsn1
      try simp (maxSteps:=1000000)(disch:=(first|omega|(simp only [qI,qJ,qK]<;>omega)|exact qL _)) only [go_sem,↓reduceIte,n0,reduceCtorEq,n1,n2,n3,n4,n5,i0,i1,i2,i3,i4,i5,i6,i7,hxb9,hrn1_2,hrn1_7,hrn1_8,hrn1_9,hrn1_10,hrn1_13,hrn1_12,hrn1_14,hrn1_16,hrn1_20,hra1,exitRQ_ret,exitRQ_exit,Int.toNat_natCast,Nat.mul_one,hso1]
      repeat ((first | refine W.seqR rfl ?_ | refine W.seq ?_ | refine W.regR rfl ?_ | refine W.block ?_ | refine W.skip ?_ | refine W.ret ?_ | refine W.exit ?_);try simp (maxSteps:=1000000)(disch:=(first|omega|(simp only [qI,qJ,qK]<;>omega)|exact qL _)) only [go_sem,↓reduceIte,n0,reduceCtorEq,n1,n2,n3,n4,n5,i0,i1,i2,i3,i4,i5,i6,i7,hxb9,hrn1_2,hrn1_7,hrn1_8,hrn1_9,hrn1_10,hrn1_13,hrn1_12,hrn1_14,hrn1_16,hrn1_20,hra1,exitRQ_ret,exitRQ_exit,Int.toNat_natCast,Nat.mul_one,hso1])
      refine W.condK ?_
      try simp (maxSteps:=1000000)(disch:=(first|omega|(simp only [qI,qJ,qK]<;>omega)|exact qL _)) only [go_sem,↓reduceIte,n0,reduceCtorEq,n1,n2,n3,n4,n5,i0,i1,i2,i3,i4,i5,i6,i7,hxb9,hrn1_2,hrn1_7,hrn1_8,hrn1_9,hrn1_10,hrn1_13,hrn1_12,hrn1_14,hrn1_16,hrn1_20,hra1,exitRQ_ret,exitRQ_exit,Int.toNat_natCast,Nat.mul_one,hso1]
      repeat ((first | refine W.seqR rfl ?_ | refine W.seq ?_ | refine W.regR rfl ?_ | refine W.block ?_ | refine W.skip ?_ | refine W.ret ?_ | refine W.exit ?_);try simp (maxSteps:=1000000)(disch:=(first|omega|(simp only [qI,qJ,qK]<;>omega)|exact qL _)) only [go_sem,↓reduceIte,n0,reduceCtorEq,n1,n2,n3,n4,n5,i0,i1,i2,i3,i4,i5,i6,i7,hxb9,hrn1_2,hrn1_7,hrn1_8,hrn1_9,hrn1_10,hrn1_13,hrn1_12,hrn1_14,hrn1_16,hrn1_20,hra1,exitRQ_ret,exitRQ_exit,Int.toNat_natCast,Nat.mul_one,hso1,slBase_00])
      refine W.normJ (RowQ [(2,.bool false),(7,.pointer (some ⟨rb,0,none⟩)),(8,.int .i16 ver),(9,.bool true),(10,.pointer (some ⟨vb,0,none⟩)),(13,.int .i32 y0),(12,.slice (some ⟨R1,0,none⟩) N0 q1),(14,.int .i32 j1),(16,.pointer (some ⟨R1,j1 * 3,none⟩)),(20,.int .i32 y1)] 19 (fun va w' => LstI RT (rd1 (rdP (d + 1) ver true) fX1_1.of fX1_1.sub false true) (Rep1 (RepS true (d + 1)) fX1_1.of fX1_1.sub) 3 180 [.string ByteArray.empty,.slice none 0 0,.map none] w8.heap.size N1 ok (fun b => (ok b ∨ w1.heap.size ≤ b) ∧ ¬ ownB va0 b) rb w8 s4 va 0 s4 [] [] w' ∧ (N1 = 0 → if nilS fX1_1 ver y1 = true then va = .slice none 0 0 else ∃ a,va = .slice (some a) 0 0))) ?_ ?_
      · by_cases hy0 : (0 : Int) < y1
        · have hyv : Value.int .i32 y1 = .int .i32 ((N1 : Nat) : Int) := by rw [show y1 = ((N1 : Nat) : Int) by omega]
          repeat ((first | refine qA rfl ?_|refine qB ?_|refine qC rfl ?_|refine qD ?_|refine qE ?_|refine qF ?_|refine qG ?_|refine qH ?_);try simp (maxSteps:=1000000)(disch:=(first|omega|(simp only [qI,qJ,qK]<;>omega)|exact qL _)) only [go_sem,↓reduceIte,n0,reduceCtorEq,n1,n2,n3,n4,n5,i0,i1,i2,i3,i4,i5,i6,i7,hxb9,hrn1_2,hrn1_7,hrn1_8,hrn1_9,hrn1_10,hrn1_13,hrn1_12,hrn1_14,hrn1_16,hrn1_20,hra1,exitRQ_ret,exitRQ_exit,Int.toNat_natCast,Nat.mul_one])
          refine wp_appendZ (m := N1) utDescribeShareGroupOffsetsRequest_176 utDescribeShareGroupOffsetsRequest_21 inDescribeShareGroupOffsetsRequest_180 (by decide) (by first | rfl | simp (maxSteps:=1000000)(disch:=(first|omega|(simp only [qI,qJ,qK]<;>omega)|exact qL _)) only [go_sem,↓reduceIte,n0,reduceCtorEq,n1,n2,n3,n4,n5,i0,i1,i2,i3,i4,i5,i6,i7,hrn1_2,hrn1_7,hrn1_8,hrn1_9,hrn1_10,hrn1_13,hrn1_12,hrn1_14,hrn1_16,hrn1_20,hra1]) (by first | exact hyv | (simp (maxSteps:=1000000)(disch:=(first|omega|(simp only [qI,qJ,qK]<;>omega)|exact qL _)) only [go_sem,↓reduceIte,n0,reduceCtorEq,n1,n2,n3,n4,n5,i0,i1,i2,i3,i4,i5,i6,i7,hrn1_2,hrn1_7,hrn1_8,hrn1_9,hrn1_10,hrn1_13,hrn1_12,hrn1_14,hrn1_16,hrn1_20,hra1];exact hyv)) (by omega) (by omega) (by decide) ?_
          intro q rest hq1
          have hEw : Ext w9 (w9.drew.alloc (.cells (zs [.string ByteArray.empty,.slice none 0 0,.map none] N1 ++ rest).toArray 180)) := (Upd.refl _ _).drew.alloc _
          try simp (maxSteps:=1000000)(disch:=(first|omega|(simp only [qI,qJ,qK]<;>omega)|exact qL _)) only [go_sem,↓reduceIte,n0,reduceCtorEq,n1,n2,n3,n4,n5,i0,i1,i2,i3,i4,i5,i6,i7,hxb9,hrn1_2,hrn1_7,hrn1_8,hrn1_9,hrn1_10,hrn1_13,hrn1_12,hrn1_14,hrn1_16,hrn1_20,hra1,exitRQ_ret,exitRQ_exit,Int.toNat_natCast,Nat.mul_one]
          repeat ((first | refine qA rfl ?_|refine qB ?_|refine qC rfl ?_|refine qD ?_|refine qE ?_|refine qF ?_|refine qG ?_|refine qH ?_);try simp (maxSteps:=1000000)(disch:=(first|omega|(simp only [qI,qJ,qK]<;>omega)|exact qL _)) only [go_sem,↓reduceIte,n0,reduceCtorEq,n1,n2,n3,n4,n5,i0,i1,i2,i3,i4,i5,i6,i7,hxb9,hrn1_2,hrn1_7,hrn1_8,hrn1_9,hrn1_10,hrn1_13,hrn1_12,hrn1_14,hrn1_16,hrn1_20,hra1,exitRQ_ret,exitRQ_exit,Int.toNat_natCast,Nat.mul_one])
          exact ⟨(by simp (maxSteps:=1000000)(disch:=(first|omega|(simp only [qI,qJ,qK]<;>omega)|exact qL _)) only [go_sem,↓reduceIte,n0,reduceCtorEq,n1,n2,n3,n4,n5,i0,i1,i2,i3,i4,i5,i6,i7,Holds_nil,Holds_cons,hrn1_2,hrn1_7,hrn1_8,hrn1_9,hrn1_10,hrn1_13,hrn1_12,hrn1_14,hrn1_16,hrn1_20,hra1]),.slice (some ⟨w9.heap.size,0,none⟩) N1 q,(by simp (maxSteps:=1000000)(disch:=(first|omega|(simp only [qI,qJ,qK]<;>omega)|exact qL _)) only [go_sem,↓reduceIte,n0,reduceCtorEq,n1,n2,n3,n4,n5,i0,i1,i2,i3,i4,i5,i6,i7,hrn1_2,hrn1_7,hrn1_8,hrn1_9,hrn1_10,hrn1_13,hrn1_12,hrn1_14,hrn1_16,hrn1_20,hra1]),LstI.start (RowJ.start (by omega) hq1 (by show w8.heap.size ≤ w9.drew.heap.size;rw [size_drew];omega) (blk_alloc_new rfl)) ⟨hq9.1.upd hEw (fun h => h) (fun _ _ _ h => h),hq9.2.upd hEw fun h => h⟩ (hun9.trans (hEw.mono fun _ h => h.elim)),fun h0 => by omega⟩
        · repeat ((first | refine qA rfl ?_|refine qB ?_|refine qC rfl ?_|refine qD ?_|refine qE ?_|refine qF ?_|refine qG ?_|refine qH ?_);try simp (maxSteps:=1000000)(disch:=(first|omega|(simp only [qI,qJ,qK]<;>omega)|exact qL _)) only [go_sem,↓reduceIte,n0,reduceCtorEq,n1,n2,n3,n4,n5,i0,i1,i2,i3,i4,i5,i6,i7,hxb9,hrn1_2,hrn1_7,hrn1_8,hrn1_9,hrn1_10,hrn1_13,hrn1_12,hrn1_14,hrn1_16,hrn1_20,hra1,exitRQ_ret,exitRQ_exit,Int.toNat_natCast,Nat.mul_one])
          exact ⟨(by simp (maxSteps:=1000000)(disch:=(first|omega|(simp only [qI,qJ,qK]<;>omega)|exact qL _)) only [go_sem,↓reduceIte,n0,reduceCtorEq,n1,n2,n3,n4,n5,i0,i1,i2,i3,i4,i5,i6,i7,Holds_nil,Holds_cons,hrn1_2,hrn1_7,hrn1_8,hrn1_9,hrn1_10,hrn1_13,hrn1_12,hrn1_14,hrn1_16,hrn1_20,hra1]),.slice a0 0 0,(by simp (maxSteps:=1000000)(disch:=(first|omega|(simp only [qI,qJ,qK]<;>omega)|exact qL _)) only [go_sem,↓reduceIte,n0,reduceCtorEq,n1,n2,n3,n4,n5,i0,i1,i2,i3,i4,i5,i6,i7,hrn1_2,hrn1_7,hrn1_8,hrn1_9,hrn1_10,hrn1_13,hrn1_12,hrn1_14,hrn1_16,hrn1_20,hra1,slBase_00]),LstI.start (RowJ.zero (by omega) hab1) hq9 (hun9),hnl1⟩
      rintro ρ w10 ⟨⟨hrb1_2,hrb1_7,hrb1_8,hrb1_9,hrb1_10,hrb1_13,hrb1_12,hrb1_14,hrb1_16,hrb1_20,-⟩,va1,hra1,hL1,hnc1⟩
      repeat ((first | refine qA rfl ?_|refine qB ?_|refine qC rfl ?_|refine qD ?_|refine qE ?_|refine qF ?_|refine qG ?_|refine qH ?_);try simp (maxSteps:=1000000)(disch:=(first|omega|(simp only [qI,qJ,qK]<;>omega)|exact qL _)) only [go_sem,↓reduceIte,n0,reduceCtorEq,n1,n2,n3,n4,n5,i0,i1,i2,i3,i4,i5,i6,i7,hxb9,hrb1_2,hrb1_7,hrb1_8,hrb1_9,hrb1_10,hrb1_13,hrb1_12,hrb1_14,hrb1_16,hrb1_20,hra1,exitRQ_ret,exitRQ_exit,Int.toNat_natCast,Nat.mul_one])
      refine W.exitRJ 2 (EndQ [(2,.bool false),(7,.pointer (some ⟨rb,0,none⟩)),(8,.int .i16 ver),(9,.bool true),(10,.pointer (some ⟨vb,0,none⟩)),(13,.int .i32 y0),(12,.slice (some ⟨R1,0,none⟩) N0 q1),(14,.int .i32 j1),(16,.pointer (some ⟨R1,j1 * 3,none⟩)),(20,.int .i32 y1),(19,va1)] (fun w' => ∃ s xs css,LstI RT (rd1 (rdP (d + 1) ver true) fX1_1.of fX1_1.sub false true) (Rep1 (RepS true (d + 1)) fX1_1.of fX1_1.sub) 3 180 [.string ByteArray.empty,.slice none 0 0,.map none] w8.heap.size N1 ok (fun b => (ok b ∨ w1.heap.size ≤ b) ∧ ¬ ownB va0 b) rb w8 s4 va1 N1 s xs css w')) (W.loop (LoopQ [(2,.bool false),(7,.pointer (some ⟨rb,0,none⟩)),(8,.int .i16 ver),(9,.bool true),(10,.pointer (some ⟨vb,0,none⟩)),(13,.int .i32 y0),(12,.slice (some ⟨R1,0,none⟩) N0 q1),(14,.int .i32 j1),(16,.pointer (some ⟨R1,j1 * 3,none⟩)),(20,.int .i32 y1),(19,va1)] 21 (fun j w' => ∃ s xs css,LstI RT (rd1 (rdP (d + 1) ver true) fX1_1.of fX1_1.sub false true) (Rep1 (RepS true (d + 1)) fX1_1.of fX1_1.sub) 3 180 [.string ByteArray.empty,.slice none 0 0,.map none] w8.heap.size N1 ok (fun b => (ok b ∨ w1.heap.size ≤ b) ∧ ¬ ownB va0 b) rb w8 s4 va1 j s xs css w')) (fun ρ _ => N1 - (RowKit.intOf (ρ 21)).toNat) ?_ ?_) ?_
      · exact ⟨(by simp (maxSteps:=1000000)(disch:=(first|omega|(simp only [qI,qJ,qK]<;>omega)|exact qL _)) only [go_sem,↓reduceIte,n0,reduceCtorEq,n1,n2,n3,n4,n5,i0,i1,i2,i3,i4,i5,i6,i7,Holds_nil,Holds_cons,hrb1_2,hrb1_7,hrb1_8,hrb1_9,hrb1_10,hrb1_13,hrb1_12,hrb1_14,hrb1_16,hrb1_20,hra1]),0,(by simp (maxSteps:=1000000)(disch:=(first|omega|(simp only [qI,qJ,qK]<;>omega)|exact qL _)) only [go_sem,↓reduceIte,n0,reduceCtorEq,n1,n2,n3,n4,n5,i0,i1,i2,i3,i4,i5,i6,i7,hrb1_2,hrb1_7,hrb1_8,hrb1_9,hrb1_10,hrb1_13,hrb1_12,hrb1_14,hrb1_16,hrb1_20,hra1];all_goals rfl),s4,[],[],hL1⟩
      · rintro ρ w11 ⟨⟨hrc1_2,hrc1_7,hrc1_8,hrc1_9,hrc1_10,hrc1_13,hrc1_12,hrc1_14,hrc1_16,hrc1_20,hrc1_19,-⟩,j2,hri1,s5,xs1,css1,hL1⟩
        have hj1 := hL1.le
        have hq11 := hL1.rd
        have hU11 : Upd (fun b => b = vb ∨ b = rb) w1 w11 := hU8.trans' hL1.upd fun i _ h => .inr h
        have hz11 := hL1.upd.size
        have hG11 : Glo ev w11 := hG1.updS hU11 hgM1 hgM2
        by_cases hlt1 : j2 < N1
        · obtain ⟨R2,q2,B2,hva2,hNq2,hLR2,hA2,hx2_11,hnext2⟩ := hL1.row.next hlt1
          have hRl2 := blk_lt hx2_11
          generalize css1.flatten = A2 at hA2 hx2_11 hnext2
          replace hra1 : ρ 19 = .slice (some ⟨R2,0,none⟩) N1 q2 := hrc1_19.trans hva2
          have hown2 : ∀ b,ownB va1 b → w8.heap.size ≤ b ∧ b < w11.heap.size := fun b h => hL1.row.own h
          have hoM2 : ∀ b,(fun b => (fun b => (ok b ∨ w1.heap.size ≤ b) ∧ ¬ ownB va0 b) b ∧ ¬ ownB va1 b) b → ¬ (b = R2 ∨ b = rb) := fun b hk h => h.elim (fun e => hk.2 ⟨_,_,_,hva2,e⟩) (fun e => hoM1 b hk.1 (.inr e))
          obtain ⟨X11,hX11⟩ : ∃ X : Array Value,X = (A2 ++ (([.string ByteArray.empty,.slice none 0 0,.map none] : List Value) ++ B2)).toArray := ⟨_,rfl⟩
          have hxb11 : blk w11 R2 = some (X11,180,(0,0)) := by rw [hX11];exact hx2_11
          have hXs11 : j2 * 3 + 3 ≤ X11.size := by rw [hX11];simp only [List.size_toArray,List.length_append,List.length_cons,List.length_nil,hA2];omega
          repeat ((first | refine qA rfl ?_|refine qB ?_|refine qC rfl ?_|refine qD ?_|refine qE ?_|refine qF ?_|refine qG ?_|refine qH ?_);try simp (maxSteps:=1000000)(disch:=(first|omega|(simp only [qI,qJ,qK]<;>omega)|exact qL _)) only [go_sem,↓reduceIte,n0,reduceCtorEq,n1,n2,n3,n4,n5,i0,i1,i2,i3,i4,i5,i6,i7,hxb11,hrc1_2,hrc1_7,hrc1_8,hrc1_9,hrc1_10,hrc1_13,hrc1_12,hrc1_14,hrc1_16,hrc1_20,hra1,hri1,exitRQ_ret,exitRQ_exit,Int.toNat_natCast,Nat.mul_one])
          refine (DefaultEX0_fn w11 hx2_11 hA2).mono ?_
          rintro _ w12 ⟨hx2_12,hu12⟩
          have hq12 := And.intro (hq11.1.upd hu12 (by omega) (fun b _ hk e => by have := (hok b hk).1;omega)) (hq11.2.upd hu12 (by omega))
          have hV12 : Upd (fun b => b = R2 ∨ b = rb) w11 w12 := hu12.mono (fun _ h => .inl h)
          have hU12 : Upd (fun b => b = vb ∨ b = rb) w1 w12 := hU11.trans' hV12 fun i hi h => h.elim (fun h => by omega) .inr
          have hz12 := hV12.size
          have hG12 : Glo ev w12 := hG1.updS hU12 hgM1 hgM2
          obtain ⟨X12,hX12⟩ : ∃ X : Array Value,X = (A2 ++ (([.string ByteArray.empty,.slice none 0 0,.map none] : List Value) ++ B2)).toArray := ⟨_,rfl⟩
          have hxb12 : blk w12 R2 = some (X12,180,(0,0)) := by rw [hX12];exact hx2_12
          have hXs12 : j2 * 3 + 3 ≤ X12.size := by rw [hX12];simp only [List.size_toArray,List.length_append,List.length_cons,List.length_nil,hA2];omega
          have hbe0e1_0 : (rdL (rdP d ver true) (dfP d) ver true [fX0_0,fX0_1] s5).2 = none → FB := fun h => hlb1 (hL1.bad hlt1 rd1P_none (by show (rd1 (rdP (d + 1) ver true) 10 fs_X0 false true s5).2 = none;rw [rd1_part];exact rdP_bad h))
          have hhe0e1_0 : hasS fX0_0 ver = true := hasS_t (by show (0 : Int) ≤ ver;omega) (by show (-1 : Int) < 0 ∨ ver ≤ (-1 : Int);omega)
          obtain ⟨xe0e1_0,hxe0e1_0⟩ : ∃ x,x = (rdF (rdP d ver true) ver true fX0_0 s5).1 := ⟨_,rfl⟩
          repeat ((first | refine qA rfl ?_|refine qB ?_|refine qC rfl ?_|refine qD ?_|refine qE ?_|refine qF ?_|refine qG ?_|refine qH ?_);try simp (maxSteps:=1000000)(disch:=(first|omega|(simp only [qI,qJ,qK]<;>omega)|exact qL _)) only [go_sem,↓reduceIte,n0,reduceCtorEq,n1,n2,n3,n4,n5,i0,i1,i2,i3,i4,i5,i6,i7,hxb12,hrc1_2,hrc1_7,hrc1_8,hrc1_9,hrc1_10,hrc1_13,hrc1_12,hrc1_14,hrc1_16,hrc1_20,hra1,hri1,exitRQ_ret,exitRQ_exit,Int.toNat_natCast,Nat.mul_one])
          have hmay : mayS fX0_0 ver = false := mayS_no (by show (-1 : Int) < 0 ∨ ver < (-1 : Int);omega)
          have hrd : rdF (rdP d ver true) ver true fX0_0 s5 = _ := rdF_text rfl hmay
          refine (RCompactString_fn w12 hq12.1 hrok hG12.1 hgrb).mono ?_
          rintro _ w13 ⟨rfl,hq13,hu13⟩
          have hx2_13 := hu13.blk_some hx2_12 (by omega)
          have hV13 : Upd (fun b => b = R2 ∨ b = rb) w12 w13 := hu13.mono (fun _ h => .inr h)
          have hU13 : Upd (fun b => b = vb ∨ b = rb) w1 w13 := hU12.trans' hV13 fun i hi h => h.elim (fun h => by omega) .inr
          have hz13 := hV13.size
          have hG13 : Glo ev w13 := hG1.updS hU13 hgM1 hgM2
          obtain ⟨X13,hX13⟩ : ∃ X : Array Value,X = (A2 ++ (([.string ByteArray.empty,.slice none 0 0,.map none] : List Value) ++ B2)).toArray := ⟨_,rfl⟩
          have hxb13 : blk w13 R2 = some (X13,180,(0,0)) := by rw [hX13];exact hx2_13
          have hXs13 : j2 * 3 + 3 ≤ X13.size := by rw [hX13];simp only [List.size_toArray,List.length_append,List.length_cons,List.length_nil,hA2];omega
          have hst : (rdF (rdP d ver true) ver true fX0_0 s5).2 = (rdStr true s5).2 := by first | (rw [hrd];rfl) | rw [hrd]
          obtain ⟨s6,hs6⟩ : ∃ s,s = (rdF (rdP d ver true) ver true fX0_0 s5).2 := ⟨_,rfl⟩
          rw [← hst,← hs6] at hq13
          clear hst
          have hst13_0 : j2 * 3 + 1 ≤ X13.size := by omega
          have hld13_1 : X13[j2 * 3 + 1]? = some (.slice none 0 0) := by rw [hX13];exact el_cell (R := 0) hA2 (Nat.le_of_ble_eq_true rfl)
          repeat ((first | refine qA rfl ?_|refine qB ?_|refine qC rfl ?_|refine qD ?_|refine qE ?_|refine qF ?_|refine qG ?_|refine qH ?_);try simp (maxSteps:=1000000)(disch:=(first|omega|(simp only [qI,qJ,qK]<;>omega)|exact qL _)) only [go_sem,↓reduceIte,n0,reduceCtorEq,n1,n2,n3,n4,n5,i0,i1,i2,i3,i4,i5,i6,i7,hxb13,hrc1_2,hrc1_7,hrc1_8,hrc1_9,hrc1_10,hrc1_13,hrc1_12,hrc1_14,hrc1_16,hrc1_20,hra1,hri1,exitRQ_ret,exitRQ_exit,Int.toNat_natCast,Nat.mul_one,hst13_0,hld13_1,Array.getElem?_setIfInBounds_ne])
          generalize hw14 : wr w13 R2 (j2 * 3) [strV (rdStr true s5).1] = w14
          have hS14 : Upd (fun b => b = R2 ∨ b = rb) w13 w14 := by rw [← hw14];exact (Upd.refl _ _).wr _ _ (.inr (.inl rfl))
          have hx2_14 : blk w14 R2 = some ((A2 ++ (([strV (rdStr true s5).1,.slice none 0 0,.map none] : List Value) ++ B2)).toArray,180,(0,0)) := by rw [← hw14];exact el_blk0 hx2_13 hA2 (Nat.le_of_ble_eq_true rfl)
          have hV14 := hS14
          have hU14 : Upd (fun b => b = vb ∨ b = rb) w1 w14 := hU13.trans' hV14 fun i hi h => h.elim (fun h => by omega) .inr
          have hz14 := hV14.size
          have hG14 : Glo ev w14 := hG1.updS hU14 hgM1 hgM2
          have hq14 : Rdr RT ok w14 rb s6 ∧ NN w14 rb s6 := by
            have hn : ∀ x,x = w14 → (Rdr RT ok x rb s6 ∧ NN x rb s6) := fun x hx => by
              rw [hx,← hw14]
              exact Rdr.store hq13 (by omega) (fun h => by have := (hok _ h).1;first | omega | exact (hok _ h).2 rfl)
            exact hn _ rfl
          obtain ⟨X14,hX14⟩ : ∃ X : Array Value,X = (A2 ++ (([strV (rdStr true s5).1,.slice none 0 0,.map none] : List Value) ++ B2)).toArray := ⟨_,rfl⟩
          have hxb14 : blk w14 R2 = some (X14,180,(0,0)) := by rw [hX14];exact hx2_14
          have hXs14 : j2 * 3 + 3 ≤ X14.size := by rw [hX14];simp only [List.size_toArray,List.length_append,List.length_cons,List.length_nil,hA2];omega
          clear hw14
          have hfe0e1_0 : RepF (RepS true d) (szS true d) fX0_0 (fun b => (fun b => (ok b ∨ w1.heap.size ≤ b) ∧ ¬ ownB va0 b) b ∧ ¬ ownB va1 b) w14 (xe0e1_0) [strV (rdStr true s5).1] := (RepF_text rfl (by decide)).2 (by rw [hxe0e1_0,hrd];rfl)
          clear hrd
          have hbe0e1_1 : (rdL (rdP d ver true) (dfP d) ver true [fX0_1] s6).2 = none → FB := fun h => hbe0e1_0 (by rw [rdL_st (by decide) hhe0e1_0,← hs6];exact h)
          have hhe0e1_1 : hasS fX0_1 ver = true := hasS_t (by show (0 : Int) ≤ ver;omega) (by show (-1 : Int) < 0 ∨ ver ≤ (-1 : Int);omega)
          obtain ⟨xe0e1_1,hxe0e1_1⟩ : ∃ x,x = (rdF (rdP d ver true) ver true fX0_1 s6).1 := ⟨_,rfl⟩
          have hld14_1 : X14[j2 * 3 + 1]? = some (.slice none 0 0) := by rw [hX14];exact el_cell (R := 0) hA2 (Nat.le_of_ble_eq_true rfl)
          repeat ((first | refine qA rfl ?_|refine qB ?_|refine qC rfl ?_|refine qD ?_|refine qE ?_|refine qF ?_|refine qG ?_|refine qH ?_);try simp (maxSteps:=1000000)(disch:=(first|omega|(simp only [qI,qJ,qK]<;>omega)|exact qL _)) only [go_sem,↓reduceIte,n0,reduceCtorEq,n1,n2,n3,n4,n5,i0,i1,i2,i3,i4,i5,i6,i7,hxb14,hrc1_2,hrc1_7,hrc1_8,hrc1_9,hrc1_10,hrc1_13,hrc1_12,hrc1_14,hrc1_16,hrc1_20,hra1,hri1,exitRQ_ret,exitRQ_exit,Int.toNat_natCast,Nat.mul_one,hld14_1])
          refine (RCompactArrayLen_fn w14 hq14.1 hrok hG14.1 hgrb).mono ?_
          rintro _ w15 ⟨rfl,hq15,hu15⟩
          have hx2_15 := hu15.blk_some hx2_14 (by omega)
          have hV15 : Upd (fun b => b = R2 ∨ b = rb) w14 w15 := hu15.mono (fun _ h => .inr h)
          have hU15 : Upd (fun b => b = vb ∨ b = rb) w1 w15 := hU14.trans' hV15 fun i hi h => h.elim (fun h => by omega) .inr
          have hz15 := hV15.size
          have hG15 : Glo ev w15 := hG1.updS hU15 hgM1 hgM2
          obtain ⟨X15,hX15⟩ : ∃ X : Array Value,X = (A2 ++ (([strV (rdStr true s5).1,.slice none 0 0,.map none] : List Value) ++ B2)).toArray := ⟨_,rfl⟩
          have hxb15 : blk w15 R2 = some (X15,180,(0,0)) := by rw [hX15];exact hx2_15
          have hXs15 : j2 * 3 + 3 ≤ X15.size := by rw [hX15];simp only [List.size_toArray,List.length_append,List.length_cons,List.length_nil,hA2];omega
          obtain ⟨s7,hs7⟩ : ∃ s,s = (rdALen true s6).2 := ⟨_,rfl⟩
          rw [← hs7] at hq15
          have hyr2 := rdALen_rng true s6
          generalize hy2 : (rdALen true s6).1 = y2 at *
          obtain ⟨N2,hN2⟩ : ∃ N,N = y2.toNat := ⟨_,rfl⟩
          have hlb2 : (rdMany (rd1 (rdP d ver true) fX0_1.of fX0_1.sub false true) N2 s7).2 = none → FB := fun h => hbe0e1_1 (by rw [rdL_st (by decide) hhe0e1_1];exact rdL_bad (rdF_listbad rfl (by rw [hy2,← hN2,← hs7];exact h)))
          repeat ((first | refine W.seqR rfl ?_ | refine W.seq ?_ | refine W.regR rfl ?_ | refine W.block ?_ | refine W.skip ?_ | refine W.ret ?_ | refine W.exit ?_);try simp (maxSteps:=1000000)(disch:=(first|omega|(simp only [qI,qJ,qK]<;>omega)|exact qL _)) only [go_sem,↓reduceIte,n0,reduceCtorEq,n1,n2,n3,n4,n5,i0,i1,i2,i3,i4,i5,i6,i7,hxb15,hrc1_2,hrc1_7,hrc1_8,hrc1_9,hrc1_10,hrc1_13,hrc1_12,hrc1_14,hrc1_16,hrc1_20,hra1,hri1,exitRQ_ret,exitRQ_exit,Int.toNat_natCast,Nat.mul_one])
          refine (ROk_fn w15 hq15.1).mono ?_
          rintro _ wz ⟨rfl,hez⟩
          rw [hez]
          clear hez wz
          by_cases hsn2 : s7 = none
          · have hso : s7.isSome = false := by rw [hsn2];rfl
            try simp (maxSteps:=1000000)(disch:=(first|omega|(simp only [qI,qJ,qK]<;>omega)|exact qL _)) only [go_sem,↓reduceIte,n0,reduceCtorEq,n1,n2,n3,n4,n5,i0,i1,i2,i3,i4,i5,i6,i7,hxb15,hrc1_2,hrc1_7,hrc1_8,hrc1_9,hrc1_10,hrc1_13,hrc1_12,hrc1_14,hrc1_16,hrc1_20,hra1,hri1,exitRQ_ret,exitRQ_exit,Int.toNat_natCast,Nat.mul_one,hso]
            repeat ((first | refine qA rfl ?_|refine qB ?_|refine qC rfl ?_|refine qD ?_|refine qE ?_|refine qF ?_|refine qG ?_|refine qH ?_);try simp (maxSteps:=1000000)(disch:=(first|omega|(simp only [qI,qJ,qK]<;>omega)|exact qL _)) only [go_sem,↓reduceIte,n0,reduceCtorEq,n1,n2,n3,n4,n5,i0,i1,i2,i3,i4,i5,i6,i7,hxb15,hrc1_2,hrc1_7,hrc1_8,hrc1_9,hrc1_10,hrc1_13,hrc1_12,hrc1_14,hrc1_16,hrc1_20,hra1,hri1,exitRQ_ret,exitRQ_exit,Int.toNat_natCast,Nat.mul_one,hso])
            refine (RComplete_fn w15 hq15.1 hG15.2).mono ?_
            rintro _ wz ⟨rfl,hez⟩
            rw [hez]
            try simp (maxSteps:=1000000)(disch:=(first|omega|(simp only [qI,qJ,qK]<;>omega)|exact qL _)) only [go_sem,↓reduceIte,n0,reduceCtorEq,n1,n2,n3,n4,n5,i0,i1,i2,i3,i4,i5,i6,i7,hxb15,hrc1_2,hrc1_7,hrc1_8,hrc1_9,hrc1_10,hrc1_13,hrc1_12,hrc1_14,hrc1_16,hrc1_20,hra1,hri1,exitRQ_ret,exitRQ_exit,Int.toNat_natCast,Nat.mul_one]
            repeat ((first | refine qA rfl ?_|refine qB ?_|refine qC rfl ?_|refine qD ?_|refine qE ?_|refine qF ?_|refine qG ?_|refine qH ?_);try simp (maxSteps:=1000000)(disch:=(first|omega|(simp only [qI,qJ,qK]<;>omega)|exact qL _)) only [go_sem,↓reduceIte,n0,reduceCtorEq,n1,n2,n3,n4,n5,i0,i1,i2,i3,i4,i5,i6,i7,hxb15,hrc1_2,hrc1_7,hrc1_8,hrc1_9,hrc1_10,hrc1_13,hrc1_12,hrc1_14,hrc1_16,hrc1_20,hra1,hri1,exitRQ_ret,exitRQ_exit,Int.toNat_natCast,Nat.mul_one])
            rw [errV_none hsn2]
            exact ReadQ.bad (Eq.mp hFB (hlb2 (by rw [hsn2];exact rdMany_none rd1P_none _))) (hbase.trans' hU15 fun i hi h => h.elim id fun h => by omega)
          have hso2 : s7.isSome = true := isSome_some hsn2
          try simp (maxSteps:=1000000)(disch:=(first|omega|(simp only [qI,qJ,qK]<;>omega)|exact qL _)) only [go_sem,↓reduceIte,n0,reduceCtorEq,n1,n2,n3,n4,n5,i0,i1,i2,i3,i4,i5,i6,i7,hxb15,hrc1_2,hrc1_7,hrc1_8,hrc1_9,hrc1_10,hrc1_13,hrc1_12,hrc1_14,hrc1_16,hrc1_20,hra1,hri1,exitRQ_ret,exitRQ_exit,Int.toNat_natCast,Nat.mul_one,hso2]
          repeat ((first | refine W.seqR rfl ?_ | refine W.seq ?_ | refine W.regR rfl ?_ | refine W.block ?_ | refine W.skip ?_ | refine W.ret ?_ | refine W.exit ?_);try simp (maxSteps:=1000000)(disch:=(first|omega|(simp only [qI,qJ,qK]<;>omega)|exact qL _)) only [go_sem,↓reduceIte,n0,reduceCtorEq,n1,n2,n3,n4,n5,i0,i1,i2,i3,i4,i5,i6,i7,hxb15,hrc1_2,hrc1_7,hrc1_8,hrc1_9,hrc1_10,hrc1_13,hrc1_12,hrc1_14,hrc1_16,hrc1_20,hra1,hri1,exitRQ_ret,exitRQ_exit,Int.toNat_natCast,Nat.mul_one,hso2])
          refine W.condK ?_
          try simp (maxSteps:=1000000)(disch:=(first|omega|(simp only [qI,qJ,qK]<;>omega)|exact qL _)) only [go_sem,↓reduceIte,n0,reduceCtorEq,n1,n2,n3,n4,n5,i0,i1,i2,i3,i4,i5,i6,i7,hxb15,hrc1_2,hrc1_7,hrc1_8,hrc1_9,hrc1_10,hrc1_13,hrc1_12,hrc1_14,hrc1_16,hrc1_20,hra1,hri1,exitRQ_ret,exitRQ_exit,Int.toNat_natCast,Nat.mul_one,hso2]
          repeat ((first | refine W.seqR rfl ?_ | refine W.seq ?_ | refine W.regR rfl ?_ | refine W.block ?_ | refine W.skip ?_ | refine W.ret ?_ | refine W.exit ?_);try simp (maxSteps:=1000000)(disch:=(first|omega|(simp only [qI,qJ,qK]<;>omega)|exact qL _)) only [go_sem,↓reduceIte,n0,reduceCtorEq,n1,n2,n3,n4,n5,i0,i1,i2,i3,i4,i5,i6,i7,hxb15,hrc1_2,hrc1_7,hrc1_8,hrc1_9,hrc1_10,hrc1_13,hrc1_12,hrc1_14,hrc1_16,hrc1_20,hra1,hri1,exitRQ_ret,exitRQ_exit,Int.toNat_natCast,Nat.mul_one,hso2,slBase_00])
          refine W.normJ (RowQ [(2,.bool false),(7,.pointer (some ⟨rb,0,none⟩)),(8,.int .i16 ver),(9,.bool true),(10,.pointer (some ⟨vb,0,none⟩)),(13,.int .i32 y0),(12,.slice (some ⟨R1,0,none⟩) N0 q1),(14,.int .i32 j1),(16,.pointer (some ⟨R1,j1 * 3,none⟩)),(20,.int .i32 y1),(19,.slice (some ⟨R2,0,none⟩) N1 q2),(21,.int .i32 j2),(23,.pointer (some ⟨R2,j2 * 3,none⟩)),(27,.int .i32 y2)] 26 (fun va w' => LstI RT (rd1 (rdP d ver true) fX0_1.of fX0_1.sub false true) (Rep1 (RepS true d) fX0_1.of fX0_1.sub) 1 21 [.int .i32 0] w15.heap.size N2 ok (fun b => (fun b => (ok b ∨ w1.heap.size ≤ b) ∧ ¬ ownB va0 b) b ∧ ¬ ownB va1 b) rb w15 s7 va 0 s7 [] [] w' ∧ (N2 = 0 → if nilS fX0_1 ver y2 = true then va = .slice none 0 0 else ∃ a,va = .slice (some a) 0 0))) ?_ ?_
          · by_cases hy0 : (0 : Int) < y2
            · have hyv : Value.int .i32 y2 = .int .i32 ((N2 : Nat) : Int) := by rw [show y2 = ((N2 : Nat) : Int) by omega]
              repeat ((first | refine qA rfl ?_|refine qB ?_|refine qC rfl ?_|refine qD ?_|refine qE ?_|refine qF ?_|refine qG ?_|refine qH ?_);try simp (maxSteps:=1000000)(disch:=(first|omega|(simp only [qI,qJ,qK]<;>omega)|exact qL _)) only [go_sem,↓reduceIte,n0,reduceCtorEq,n1,n2,n3,n4,n5,i0,i1,i2,i3,i4,i5,i6,i7,hxb15,hrc1_2,hrc1_7,hrc1_8,hrc1_9,hrc1_10,hrc1_13,hrc1_12,hrc1_14,hrc1_16,hrc1_20,hra1,hri1,exitRQ_ret,exitRQ_exit,Int.toNat_natCast,Nat.mul_one])
              refine wp_appendZ (m := N2) utDescribeShareGroupOffsetsRequest_160 utDescribeShareGroupOffsetsRequest_21 inDescribeShareGroupOffsetsRequest_21 (by decide) (by first | rfl | simp (maxSteps:=1000000)(disch:=(first|omega|(simp only [qI,qJ,qK]<;>omega)|exact qL _)) only [go_sem,↓reduceIte,n0,reduceCtorEq,n1,n2,n3,n4,n5,i0,i1,i2,i3,i4,i5,i6,i7,hrc1_2,hrc1_7,hrc1_8,hrc1_9,hrc1_10,hrc1_13,hrc1_12,hrc1_14,hrc1_16,hrc1_20,hra1,hri1]) (by first | exact hyv | (simp (maxSteps:=1000000)(disch:=(first|omega|(simp only [qI,qJ,qK]<;>omega)|exact qL _)) only [go_sem,↓reduceIte,n0,reduceCtorEq,n1,n2,n3,n4,n5,i0,i1,i2,i3,i4,i5,i6,i7,hrc1_2,hrc1_7,hrc1_8,hrc1_9,hrc1_10,hrc1_13,hrc1_12,hrc1_14,hrc1_16,hrc1_20,hra1,hri1];exact hyv)) (by omega) (by omega) (by decide) ?_
              intro q rest hq1
              have hEw : Ext w15 (w15.drew.alloc (.cells (zs [.int .i32 0] N2 ++ rest).toArray 21)) := (Upd.refl _ _).drew.alloc _
              try simp (maxSteps:=1000000)(disch:=(first|omega|(simp only [qI,qJ,qK]<;>omega)|exact qL _)) only [go_sem,↓reduceIte,n0,reduceCtorEq,n1,n2,n3,n4,n5,i0,i1,i2,i3,i4,i5,i6,i7,hxb15,hrc1_2,hrc1_7,hrc1_8,hrc1_9,hrc1_10,hrc1_13,hrc1_12,hrc1_14,hrc1_16,hrc1_20,hra1,hri1,exitRQ_ret,exitRQ_exit,Int.toNat_natCast,Nat.mul_one]
              repeat ((first | refine qA rfl ?_|refine qB ?_|refine qC rfl ?_|refine qD ?_|refine qE ?_|refine qF ?_|refine qG ?_|refine qH ?_);try simp (maxSteps:=1000000)(disch:=(first|omega|(simp only [qI,qJ,qK]<;>omega)|exact qL _)) only [go_sem,↓reduceIte,n0,reduceCtorEq,n1,n2,n3,n4,n5,i0,i1,i2,i3,i4,i5,i6,i7,hxb15,hrc1_2,hrc1_7,hrc1_8,hrc1_9,hrc1_10,hrc1_13,hrc1_12,hrc1_14,hrc1_16,hrc1_20,hra1,hri1,exitRQ_ret,exitRQ_exit,Int.toNat_natCast,Nat.mul_one])
              exact ⟨(by simp (maxSteps:=1000000)(disch:=(first|omega|(simp only [qI,qJ,qK]<;>omega)|exact qL _)) only [go_sem,↓reduceIte,n0,reduceCtorEq,n1,n2,n3,n4,n5,i0,i1,i2,i3,i4,i5,i6,i7,Holds_nil,Holds_cons,hrc1_2,hrc1_7,hrc1_8,hrc1_9,hrc1_10,hrc1_13,hrc1_12,hrc1_14,hrc1_16,hrc1_20,hra1,hri1]),.slice (some ⟨w15.heap.size,0,none⟩) N2 q,(by simp (maxSteps:=1000000)(disch:=(first|omega|(simp only [qI,qJ,qK]<;>omega)|exact qL _)) only [go_sem,↓reduceIte,n0,reduceCtorEq,n1,n2,n3,n4,n5,i0,i1,i2,i3,i4,i5,i6,i7,hrc1_2,hrc1_7,hrc1_8,hrc1_9,hrc1_10,hrc1_13,hrc1_12,hrc1_14,hrc1_16,hrc1_20,hra1,hri1]),LstI.start (RowJ.start (by omega) hq1 (by show w15.heap.size ≤ w15.drew.heap.size;rw [size_drew];omega) (blk_alloc_new rfl)) ⟨hq15.1.upd hEw (fun h => h) (fun _ _ _ h => h),hq15.2.upd hEw fun h => h⟩ (hEw.mono fun _ h => h.elim),fun h0 => by omega⟩
            · repeat ((first | refine qA rfl ?_|refine qB ?_|refine qC rfl ?_|refine qD ?_|refine qE ?_|refine qF ?_|refine qG ?_|refine qH ?_);try simp (maxSteps:=1000000)(disch:=(first|omega|(simp only [qI,qJ,qK]<;>omega)|exact qL _)) only [go_sem,↓reduceIte,n0,reduceCtorEq,n1,n2,n3,n4,n5,i0,i1,i2,i3,i4,i5,i6,i7,hxb15,hrc1_2,hrc1_7,hrc1_8,hrc1_9,hrc1_10,hrc1_13,hrc1_12,hrc1_14,hrc1_16,hrc1_20,hra1,hri1,exitRQ_ret,exitRQ_exit,Int.toNat_natCast,Nat.mul_one])
              exact ⟨(by simp (maxSteps:=1000000)(disch:=(first|omega|(simp only [qI,qJ,qK]<;>omega)|exact qL _)) only [go_sem,↓reduceIte,n0,reduceCtorEq,n1,n2,n3,n4,n5,i0,i1,i2,i3,i4,i5,i6,i7,Holds_nil,Holds_cons,hrc1_2,hrc1_7,hrc1_8,hrc1_9,hrc1_10,hrc1_13,hrc1_12,hrc1_14,hrc1_16,hrc1_20,hra1,hri1]),.slice none 0 0,(by simp (maxSteps:=1000000)(disch:=(first|omega|(simp only [qI,qJ,qK]<;>omega)|exact qL _)) only [go_sem,↓reduceIte,n0,reduceCtorEq,n1,n2,n3,n4,n5,i0,i1,i2,i3,i4,i5,i6,i7,hrc1_2,hrc1_7,hrc1_8,hrc1_9,hrc1_10,hrc1_13,hrc1_12,hrc1_14,hrc1_16,hrc1_20,hra1,hri1,slBase_00]),LstI.start (RowJ.zero (by omega) (fun _ h => by cases h)) hq15 (Upd.refl _ _),fun _ => by rw [nilS_plain (by decide) (by omega)];exact rfl⟩
          rintro ρ w16 ⟨⟨hrb2_2,hrb2_7,hrb2_8,hrb2_9,hrb2_10,hrb2_13,hrb2_12,hrb2_14,hrb2_16,hrb2_20,hrb2_19,hrb2_21,hrb2_23,hrb2_27,-⟩,va2,hra2,hL2,hnc2⟩
          repeat ((first | refine qA rfl ?_|refine qB ?_|refine qC rfl ?_|refine qD ?_|refine qE ?_|refine qF ?_|refine qG ?_|refine qH ?_);try simp (maxSteps:=1000000)(disch:=(first|omega|(simp only [qI,qJ,qK]<;>omega)|exact qL _)) only [go_sem,↓reduceIte,n0,reduceCtorEq,n1,n2,n3,n4,n5,i0,i1,i2,i3,i4,i5,i6,i7,hxb15,hrb2_2,hrb2_7,hrb2_8,hrb2_9,hrb2_10,hrb2_13,hrb2_12,hrb2_14,hrb2_16,hrb2_20,hrb2_19,hrb2_21,hrb2_23,hrb2_27,hra2,exitRQ_ret,exitRQ_exit,Int.toNat_natCast,Nat.mul_one])
          refine W.exitRJ 4 (EndQ [(2,.bool false),(7,.pointer (some ⟨rb,0,none⟩)),(8,.int .i16 ver),(9,.bool true),(10,.pointer (some ⟨vb,0,none⟩)),(13,.int .i32 y0),(12,.slice (some ⟨R1,0,none⟩) N0 q1),(14,.int .i32 j1),(16,.pointer (some ⟨R1,j1 * 3,none⟩)),(20,.int .i32 y1),(19,.slice (some ⟨R2,0,none⟩) N1 q2),(21,.int .i32 j2),(23,.pointer (some ⟨R2,j2 * 3,none⟩)),(27,.int .i32 y2),(26,va2)] (fun w' => ∃ s xs css,LstI RT (rd1 (rdP d ver true) fX0_1.of fX0_1.sub false true) (Rep1 (RepS true d) fX0_1.of fX0_1.sub) 1 21 [.int .i32 0] w15.heap.size N2 ok (fun b => (fun b => (ok b ∨ w1.heap.size ≤ b) ∧ ¬ ownB va0 b) b ∧ ¬ ownB va1 b) rb w15 s7 va2 N2 s xs css w')) (W.loop (LoopQ [(2,.bool false),(7,.pointer (some ⟨rb,0,none⟩)),(8,.int .i16 ver),(9,.bool true),(10,.pointer (some ⟨vb,0,none⟩)),(13,.int .i32 y0),(12,.slice (some ⟨R1,0,none⟩) N0 q1),(14,.int .i32 j1),(16,.pointer (some ⟨R1,j1 * 3,none⟩)),(20,.int .i32 y1),(19,.slice (some ⟨R2,0,none⟩) N1 q2),(21,.int .i32 j2),(23,.pointer (some ⟨R2,j2 * 3,none⟩)),(27,.int .i32 y2),(26,va2)] 28 (fun j w' => ∃ s xs css,LstI RT (rd1 (rdP d ver true) fX0_1.of fX0_1.sub false true) (Rep1 (RepS true d) fX0_1.of fX0_1.sub) 1 21 [.int .i32 0] w15.heap.size N2 ok (fun b => (fun b => (ok b ∨ w1.heap.size ≤ b) ∧ ¬ ownB va0 b) b ∧ ¬ ownB va1 b) rb w15 s7 va2 j s xs css w')) (fun ρ _ => N2 - (RowKit.intOf (ρ 28)).toNat) ?_ ?_) ?_
          · exact ⟨(by simp (maxSteps:=1000000)(disch:=(first|omega|(simp only [qI,qJ,qK]<;>omega)|exact qL _)) only [go_sem,↓reduceIte,n0,reduceCtorEq,n1,n2,n3,n4,n5,i0,i1,i2,i3,i4,i5,i6,i7,Holds_nil,Holds_cons,hrb2_2,hrb2_7,hrb2_8,hrb2_9,hrb2_10,hrb2_13,hrb2_12,hrb2_14,hrb2_16,hrb2_20,hrb2_19,hrb2_21,hrb2_23,hrb2_27,hra2]),0,(by simp (maxSteps:=1000000)(disch:=(first|omega|(simp only [qI,qJ,qK]<;>omega)|exact qL _)) only [go_sem,↓reduceIte,n0,reduceCtorEq,n1,n2,n3,n4,n5,i0,i1,i2,i3,i4,i5,i6,i7,hrb2_2,hrb2_7,hrb2_8,hrb2_9,hrb2_10,hrb2_13,hrb2_12,hrb2_14,hrb2_16,hrb2_20,hrb2_19,hrb2_21,hrb2_23,hrb2_27,hra2];all_goals rfl),s7,[],[],hL2⟩
          · rintro ρ w17 ⟨⟨hrc2_2,hrc2_7,hrc2_8,hrc2_9,hrc2_10,hrc2_13,hrc2_12,hrc2_14,hrc2_16,hrc2_20,hrc2_19,hrc2_21,hrc2_23,hrc2_27,hrc2_26,-⟩,j3,hri2,s8,xs2,css2,hL2⟩
            have hj2 := hL2.le
            have hq17 := hL2.rd
            have hU17 : Upd (fun b => b = vb ∨ b = rb) w1 w17 := hU15.trans' hL2.upd fun i _ h => .inr h
            have hz17 := hL2.upd.size
            have hG17 : Glo ev w17 := hG1.updS hU17 hgM1 hgM2
            by_cases hlt2 : j3 < N2
            · obtain ⟨R3,q3,B3,hva3,hNq3,hLR3,hA3,hx3_17,hnext3⟩ := hL2.row.next hlt2
              have hRl3 := blk_lt hx3_17
              generalize css2.flatten = A3 at hA3 hx3_17 hnext3
              rw [Nat.mul_one] at hA3
              replace hra2 : ρ 26 = .slice (some ⟨R3,0,none⟩) N2 q3 := hrc2_26.trans hva3
              have hown3 : ∀ b,ownB va2 b → w15.heap.size ≤ b ∧ b < w17.heap.size := fun b h => hL2.row.own h
              have hoM3 : ∀ b,(fun b => (fun b => (fun b => (ok b ∨ w1.heap.size ≤ b) ∧ ¬ ownB va0 b) b ∧ ¬ ownB va1 b) b ∧ ¬ ownB va2 b) b → ¬ (b = R3 ∨ b = rb) := fun b hk h => h.elim (fun e => hk.2 ⟨_,_,_,hva3,e⟩) (fun e => hoM2 b hk.1 (.inr e))
              obtain ⟨X17,hX17⟩ : ∃ X : Array Value,X = (A3 ++ (([.int .i32 0] : List Value) ++ B3)).toArray := ⟨_,rfl⟩
              have hxb17 : blk w17 R3 = some (X17,21,(0,0)) := by rw [hX17];exact hx3_17
              have hXs17 : j3 + 1 ≤ X17.size := by rw [hX17];simp only [List.size_toArray,List.length_append,List.length_cons,List.length_nil,hA3];omega
              repeat ((first | refine qA rfl ?_|refine qB ?_|refine qC rfl ?_|refine qD ?_|refine qE ?_|refine qF ?_|refine qG ?_|refine qH ?_);try simp (maxSteps:=1000000)(disch:=(first|omega|(simp only [qI,qJ,qK]<;>omega)|exact qL _)) only [go_sem,↓reduceIte,n0,reduceCtorEq,n1,n2,n3,n4,n5,i0,i1,i2,i3,i4,i5,i6,i7,hxb17,hrc2_2,hrc2_7,hrc2_8,hrc2_9,hrc2_10,hrc2_13,hrc2_12,hrc2_14,hrc2_16,hrc2_20,hrc2_19,hrc2_21,hrc2_23,hrc2_27,hra2,hri2,exitRQ_ret,exitRQ_exit,Int.toNat_natCast,Nat.mul_one])
              refine (Int32_fn w17 hq17.1 hrok hG17.1 hgrb).mono ?_
              rintro _ w18 ⟨rfl,hq18,hu18⟩
              have hx3_18 := hu18.blk_some hx3_17 (by omega)
              have hV18 : Upd (fun b => b = R3 ∨ b = rb) w17 w18 := hu18.mono (fun _ h => .inr h)
              have hU18 : Upd (fun b => b = vb ∨ b = rb) w1 w18 := hU17.trans' hV18 fun i hi h => h.elim (fun h => by omega) .inr
              have hz18 := hV18.size
              have hG18 : Glo ev w18 := hG1.updS hU18 hgM1 hgM2
              obtain ⟨X18,hX18⟩ : ∃ X : Array Value,X = (A3 ++ (([.int .i32 0] : List Value) ++ B3)).toArray := ⟨_,rfl⟩
              have hxb18 : blk w18 R3 = some (X18,21,(0,0)) := by rw [hX18];exact hx3_18
              have hXs18 : j3 + 1 ≤ X18.size := by rw [hX18];simp only [List.size_toArray,List.length_append,List.length_cons,List.length_nil,hA3];omega
              obtain ⟨s9,hs9⟩ : ∃ s,s = (rdInt .i32 4 s8).2 := ⟨_,rfl⟩
              rw [← hs9] at hq18
              have hrE : (rd1 (rdP d ver true) fX0_1.of fX0_1.sub false true) s8 = ((.num (rdInt .i32 4 s8).1),s9) := by rw [hs9];exact rd1_num 3 (by decide)
              have hst18_0 : j3 + 1 ≤ X18.size := by omega
              repeat ((first | refine qA rfl ?_|refine qB ?_|refine qC rfl ?_|refine qD ?_|refine qE ?_|refine qF ?_|refine qG ?_|refine qH ?_);try simp (maxSteps:=1000000)(disch:=(first|omega|(simp only [qI,qJ,qK]<;>omega)|exact qL _)) only [go_sem,↓reduceIte,n0,reduceCtorEq,n1,n2,n3,n4,n5,i0,i1,i2,i3,i4,i5,i6,i7,hxb18,hrc2_2,hrc2_7,hrc2_8,hrc2_9,hrc2_10,hrc2_13,hrc2_12,hrc2_14,hrc2_16,hrc2_20,hrc2_19,hrc2_21,hrc2_23,hrc2_27,hra2,hri2,exitRQ_ret,exitRQ_exit,Int.toNat_natCast,Nat.mul_one,hst18_0])
              generalize hw19 : wr w18 R3 (j3) [.int .i32 (rdInt .i32 4 s8).1] = w19
              have hS19 : Upd (fun b => b = R3 ∨ b = rb) w18 w19 := by rw [← hw19];exact (Upd.refl _ _).wr _ _ (.inr (.inl rfl))
              have hx3_19 : blk w19 R3 = some ((A3 ++ (([.int .i32 (rdInt .i32 4 s8).1] : List Value) ++ B3)).toArray,21,(0,0)) := by rw [← hw19];exact el_blk0 hx3_18 hA3 (Nat.le_of_ble_eq_true rfl)
              have hV19 := hS19
              have hU19 : Upd (fun b => b = vb ∨ b = rb) w1 w19 := hU18.trans' hV19 fun i hi h => h.elim (fun h => by omega) .inr
              have hz19 := hV19.size
              have hG19 : Glo ev w19 := hG1.updS hU19 hgM1 hgM2
              have hq19 : Rdr RT ok w19 rb s9 ∧ NN w19 rb s9 := by
                have hn : ∀ x,x = w19 → (Rdr RT ok x rb s9 ∧ NN x rb s9) := fun x hx => by
                  rw [hx,← hw19]
                  exact Rdr.store hq18 (by omega) (fun h => by have := (hok _ h).1;first | omega | exact (hok _ h).2 rfl)
                exact hn _ rfl
              obtain ⟨X19,hX19⟩ : ∃ X : Array Value,X = (A3 ++ (([.int .i32 (rdInt .i32 4 s8).1] : List Value) ++ B3)).toArray := ⟨_,rfl⟩
              have hxb19 : blk w19 R3 = some (X19,21,(0,0)) := by rw [hX19];exact hx3_19
              have hXs19 : j3 + 1 ≤ X19.size := by rw [hX19];simp only [List.size_toArray,List.length_append,List.length_cons,List.length_nil,hA3];omega
              clear hw19
              have hxE : (Rep1 (RepS true d) fX0_1.of fX0_1.sub) (fun b => (fun b => (fun b => (ok b ∨ w1.heap.size ≤ b) ∧ ¬ ownB va0 b) b ∧ ¬ ownB va1 b) b ∧ ¬ ownB va2 b) w19 (.num (rdInt .i32 4 s8).1) [.int .i32 (rdInt .i32 4 s8).1] := (Rep1_num (by decide)).2 (congrArg (fun x => [x]) (numC_rd 3 (by decide) 4 s8).symm)
              repeat ((first | refine qA rfl ?_|refine qB ?_|refine qC rfl ?_|refine qD ?_|refine qE ?_|refine qF ?_|refine qG ?_|refine qH ?_);try simp (maxSteps:=1000000)(disch:=(first|omega|(simp only [qI,qJ,qK]<;>omega)|exact qL _)) only [go_sem,↓reduceIte,n0,reduceCtorEq,n1,n2,n3,n4,n5,i0,i1,i2,i3,i4,i5,i6,i7,hxb19,hrc2_2,hrc2_7,hrc2_8,hrc2_9,hrc2_10,hrc2_13,hrc2_12,hrc2_14,hrc2_16,hrc2_20,hrc2_19,hrc2_21,hrc2_23,hrc2_27,hra2,hri2,exitRQ_ret,exitRQ_exit,Int.toNat_natCast,Nat.mul_one])
              have hTk : Upd (fun b => b = R3 ∨ b = rb) w17 w19 := (hV18.trans hV19)
              have hL' := hL2.step (Rep1_lay _ _ fun _ => RepS_lay true _ _) hlt2 (hnext3 w19 [.int .i32 (rdInt .i32 4 s8).1] rfl hx3_19) (by rw [hrE];exact hxE) (hTk.mono fun b h => h.imp (fun e => ⟨_,_,_,hva3,e⟩) id) (by rw [hrE];exact hq19) (fun h => hoM2 rb h (.inr rfl)) (Nat.le_refl _)
              have hij : IntKind.i32.wrap ((j3 : Int) + 1) = ((j3 + 1 : Nat) : Int) := by rw [i32_wrap (by omega)];omega
              repeat ((first | refine qA rfl ?_|refine qB ?_|refine qC rfl ?_|refine qD ?_|refine qE ?_|refine qF ?_|refine qG ?_|refine qH ?_);try simp (maxSteps:=1000000)(disch:=(first|omega|(simp only [qI,qJ,qK]<;>omega)|exact qL _)) only [go_sem,↓reduceIte,n0,reduceCtorEq,n1,n2,n3,n4,n5,i0,i1,i2,i3,i4,i5,i6,i7,hxb19,hrc2_2,hrc2_7,hrc2_8,hrc2_9,hrc2_10,hrc2_13,hrc2_12,hrc2_14,hrc2_16,hrc2_20,hrc2_19,hrc2_21,hrc2_23,hrc2_27,hra2,hri2,exitRQ_ret,exitRQ_exit,Int.toNat_natCast,Nat.mul_one,hij])
              refine ⟨⟨(by simp (maxSteps:=1000000)(disch:=(first|omega|(simp only [qI,qJ,qK]<;>omega)|exact qL _)) only [go_sem,↓reduceIte,n0,reduceCtorEq,n1,n2,n3,n4,n5,i0,i1,i2,i3,i4,i5,i6,i7,Holds_nil,Holds_cons,hrc2_2,hrc2_7,hrc2_8,hrc2_9,hrc2_10,hrc2_13,hrc2_12,hrc2_14,hrc2_16,hrc2_20,hrc2_19,hrc2_21,hrc2_23,hrc2_27,hra2,hri2];exact hva3.symm),j3 + 1,(by simp (maxSteps:=1000000)(disch:=(first|omega|(simp only [qI,qJ,qK]<;>omega)|exact qL _)) only [go_sem,↓reduceIte,n0,reduceCtorEq,n1,n2,n3,n4,n5,i0,i1,i2,i3,i4,i5,i6,i7,hrc2_2,hrc2_7,hrc2_8,hrc2_9,hrc2_10,hrc2_13,hrc2_12,hrc2_14,hrc2_16,hrc2_20,hrc2_19,hrc2_21,hrc2_23,hrc2_27,hra2,hri2,hij];all_goals rfl),_,_,_,hL'⟩,?_⟩
              try simp (maxSteps:=1000000)(disch:=(first|omega|(simp only [qI,qJ,qK]<;>omega)|exact qL _)) only [go_sem,↓reduceIte,n0,reduceCtorEq,n1,n2,n3,n4,n5,i0,i1,i2,i3,i4,i5,i6,i7,hrc2_2,hrc2_7,hrc2_8,hrc2_9,hrc2_10,hrc2_13,hrc2_12,hrc2_14,hrc2_16,hrc2_20,hrc2_19,hrc2_21,hrc2_23,hrc2_27,hra2,hri2]
              simp only [RowKit.intOf]
              omega
            · have hjN : j3 = N2 := by omega
              rw [hjN] at hL2
              repeat ((first | refine qA rfl ?_|refine qB ?_|refine qC rfl ?_|refine qD ?_|refine qE ?_|refine qF ?_|refine qG ?_|refine qH ?_);try simp (maxSteps:=1000000)(disch:=(first|omega|(simp only [qI,qJ,qK]<;>omega)|exact qL _)) only [go_sem,↓reduceIte,n0,reduceCtorEq,n1,n2,n3,n4,n5,i0,i1,i2,i3,i4,i5,i6,i7,hrc2_2,hrc2_7,hrc2_8,hrc2_9,hrc2_10,hrc2_13,hrc2_12,hrc2_14,hrc2_16,hrc2_20,hrc2_19,hrc2_21,hrc2_23,hrc2_27,hrc2_26,hri2,exitRQ_ret,exitRQ_exit])
              exact ⟨(by simp (maxSteps:=1000000)(disch:=(first|omega|(simp only [qI,qJ,qK]<;>omega)|exact qL _)) only [go_sem,↓reduceIte,n0,reduceCtorEq,n1,n2,n3,n4,n5,i0,i1,i2,i3,i4,i5,i6,i7,Holds_nil,Holds_cons,hrc2_2,hrc2_7,hrc2_8,hrc2_9,hrc2_10,hrc2_13,hrc2_12,hrc2_14,hrc2_16,hrc2_20,hrc2_19,hrc2_21,hrc2_23,hrc2_27,hrc2_26,hri2]),s8,xs2,css2,hL2⟩
          rintro ρ w20 ⟨⟨hrd2_2,hrd2_7,hrd2_8,hrd2_9,hrd2_10,hrd2_13,hrd2_12,hrd2_14,hrd2_16,hrd2_20,hrd2_19,hrd2_21,hrd2_23,hrd2_27,hrd2_26,-⟩,s10,xs2,css2,hL2⟩
          have hq20 := hL2.rd
          have hu20 := hL2.upd
          have hx2_20 := hu20.blk_some hx2_15 (by omega)
          have hV20 : Upd (fun b => b = R2 ∨ b = rb) w15 w20 := hu20.mono (fun _ h => .inr h)
          have hU20 : Upd (fun b => b = vb ∨ b = rb) w1 w20 := hU15.trans' hV20 fun i hi h => h.elim (fun h => by omega) .inr
          have hz20 := hV20.size
          have hG20 : Glo ev w20 := hG1.updS hU20 hgM1 hgM2
          obtain ⟨X20,hX20⟩ : ∃ X : Array Value,X = (A2 ++ (([strV (rdStr true s5).1,.slice none 0 0,.map none] : List Value) ++ B2)).toArray := ⟨_,rfl⟩
          have hxb20 : blk w20 R2 = some (X20,180,(0,0)) := by rw [hX20];exact hx2_20
          have hXs20 : j2 * 3 + 3 ≤ X20.size := by rw [hX20];simp only [List.size_toArray,List.length_append,List.length_cons,List.length_nil,hA2];omega
          have hrd2 : rdF (rdP d ver true) ver true fX0_1 s6 = (.mk 0 [] (nilS fX0_1 ver y2) xs2 [],s10) := by
            have h := rdF_listE (pt := (rdP d ver true)) (v := ver) (flex := true) (f := fX0_1) (s := s6) (xs := xs2) (e := s10) rfl (by rw [hy2,← hN2,← hs7];exact hL2.done)
            rw [hy2] at h;exact h
          have hs10 : s10 = (rdF (rdP d ver true) ver true fX0_1 s6).2 := by rw [hrd2]
          obtain ⟨aa2,qq2,hvs2⟩ := hL2.row.shape
          subst hvs2
          have hst20_1 : j2 * 3 + 2 ≤ X20.size := by omega
          repeat ((first | refine qA rfl ?_|refine qB ?_|refine qC rfl ?_|refine qD ?_|refine qE ?_|refine qF ?_|refine qG ?_|refine qH ?_);try simp (maxSteps:=1000000)(disch:=(first|omega|(simp only [qI,qJ,qK]<;>omega)|exact qL _)) only [go_sem,↓reduceIte,n0,reduceCtorEq,n1,n2,n3,n4,n5,i0,i1,i2,i3,i4,i5,i6,i7,hxb20,hrd2_2,hrd2_7,hrd2_8,hrd2_9,hrd2_10,hrd2_13,hrd2_12,hrd2_14,hrd2_16,hrd2_20,hrd2_19,hrd2_21,hrd2_23,hrd2_27,hrd2_26,exitRQ_ret,exitRQ_exit,Int.toNat_natCast,Nat.mul_one,hst20_1])
          generalize hw21 : wr w20 R2 (j2 * 3 + 1) [.slice aa2 N2 qq2] = w21
          have hS21 : Upd (fun b => b = R2 ∨ b = rb) w20 w21 := by rw [← hw21];exact (Upd.refl _ _).wr _ _ (.inr (.inl rfl))
          have hx2_21 : blk w21 R2 = some ((A2 ++ (([strV (rdStr true s5).1,.slice aa2 N2 qq2,.map none] : List Value) ++ B2)).toArray,180,(0,0)) := by rw [← hw21];exact el_blk (o := 1) hx2_20 hA2 (Nat.le_of_ble_eq_true rfl)
          have hV21 := hS21
          have hU21 : Upd (fun b => b = vb ∨ b = rb) w1 w21 := hU20.trans' hV21 fun i hi h => h.elim (fun h => by omega) .inr
          have hz21 := hV21.size
          have hG21 : Glo ev w21 := hG1.updS hU21 hgM1 hgM2
          have hq21 : Rdr RT ok w21 rb s10 ∧ NN w21 rb s10 := by
            have hn : ∀ x,x = w21 → (Rdr RT ok x rb s10 ∧ NN x rb s10) := fun x hx => by
              rw [hx,← hw21]
              exact Rdr.store hq20 (by omega) (fun h => by have := (hok _ h).1;first | omega | exact (hok _ h).2 rfl)
            exact hn _ rfl
          obtain ⟨X21,hX21⟩ : ∃ X : Array Value,X = (A2 ++ (([strV (rdStr true s5).1,.slice aa2 N2 qq2,.map none] : List Value) ++ B2)).toArray := ⟨_,rfl⟩
          have hxb21 : blk w21 R2 = some (X21,180,(0,0)) := by rw [hX21];exact hx2_21
          have hXs21 : j2 * 3 + 3 ≤ X21.size := by rw [hX21];simp only [List.size_toArray,List.length_append,List.length_cons,List.length_nil,hA2];omega
          clear hw21
          have hfe0e1_1 : RepF (RepS true d) (szS true d) fX0_1 (fun b => (fun b => (ok b ∨ w1.heap.size ≤ b) ∧ ¬ ownB va0 b) b ∧ ¬ ownB va1 b) w21 (xe0e1_1) [.slice aa2 N2 qq2] := by rw [hxe0e1_1,hrd2];exact RepF.keepS (RepF_row rfl hnc2 hN2 rfl hL2.row hL2.all (fun b hb => ⟨⟨.inr (by omega),fun ho => by have := (hown1 _ ho).2;omega⟩,fun ho => by have := (hown2 _ ho).2;omega⟩)) (hV21.keeps fun b _ hk e => hoM2 b hk e)
          clear hL2 hnc2
          have hle0e1_2 : rdL (rdP d ver true) (dfP d) ver true [] s10 = ([],s10) := rfl
          have hle0e1_1 : rdL (rdP d ver true) (dfP d) ver true [fX0_1] s6 = ([xe0e1_1],s10) := by rw [rdL_st (by decide) hhe0e1_1,← hxe0e1_1,← hs10,hle0e1_2]
          have hle0e1_0 : rdL (rdP d ver true) (dfP d) ver true [fX0_0,fX0_1] s5 = ([xe0e1_0,xe0e1_1],s10) := by rw [rdL_st (by decide) hhe0e1_0,← hxe0e1_0,← hs6,hle0e1_1]
          have hfine0e1 : rdP (d + 1) ver true fs_X0 s5 = (.mk 0 [] false [xe0e1_0,xe0e1_1] (rdTags s10).1,(rdTags s10).2) := rdP_t hle0e1_0
          repeat ((first | refine qA rfl ?_|refine qB ?_|refine qC rfl ?_|refine qD ?_|refine qE ?_|refine qF ?_|refine qG ?_|refine qH ?_);try simp (maxSteps:=1000000)(disch:=(first|omega|(simp only [qI,qJ,qK]<;>omega)|exact qL _)) only [go_sem,↓reduceIte,n0,reduceCtorEq,n1,n2,n3,n4,n5,i0,i1,i2,i3,i4,i5,i6,i7,hxb21,hrd2_2,hrd2_7,hrd2_8,hrd2_9,hrd2_10,hrd2_13,hrd2_12,hrd2_14,hrd2_16,hrd2_20,hrd2_19,hrd2_21,hrd2_23,hrd2_27,hrd2_26,exitRQ_ret,exitRQ_exit,Int.toNat_natCast,Nat.mul_one])
          refine (ReadTags_fn w21 hq21.1 hrok).mono ?_
          rintro _ w22 ⟨qme0e1,rfl,hT22,hTn,hq22,hu22⟩
          have hx2_22 := hu22.blk_some hx2_21 (by omega)
          have hV22 : Upd (fun b => b = R2 ∨ b = rb) w21 w22 := hu22.mono (fun _ h => .inr h)
          have hU22 : Upd (fun b => b = vb ∨ b = rb) w1 w22 := hU21.trans' hV22 fun i hi h => h.elim (fun h => by omega) .inr
          have hz22 := hV22.size
          have hG22 : Glo ev w22 := hG1.updS hU22 hgM1 hgM2
          obtain ⟨X22,hX22⟩ : ∃ X : Array Value,X = (A2 ++ (([strV (rdStr true s5).1,.slice aa2 N2 qq2,.map none] : List Value) ++ B2)).toArray := ⟨_,rfl⟩
          have hxb22 : blk w22 R2 = some (X22,180,(0,0)) := by rw [hX22];exact hx2_22
          have hXs22 : j2 * 3 + 3 ≤ X22.size := by rw [hX22];simp only [List.size_toArray,List.length_append,List.length_cons,List.length_nil,hA2];omega
          obtain ⟨s11,hs11⟩ : ∃ s,s = (rdTags s10).2 := ⟨_,rfl⟩
          rw [← hs11] at hq22 hfine0e1
          have hst22_2 : j2 * 3 + 3 ≤ X22.size := by omega
          try simp (maxSteps:=1000000)(disch:=(first|omega|(simp only [qI,qJ,qK]<;>omega)|exact qL _)) only [go_sem,↓reduceIte,n0,reduceCtorEq,n1,n2,n3,n4,n5,i0,i1,i2,i3,i4,i5,i6,i7,hxb22,hrd2_2,hrd2_7,hrd2_8,hrd2_9,hrd2_10,hrd2_13,hrd2_12,hrd2_14,hrd2_16,hrd2_20,hrd2_19,hrd2_21,hrd2_23,hrd2_27,hrd2_26,exitRQ_ret,exitRQ_exit,Int.toNat_natCast,Nat.mul_one,hst22_2]
          repeat ((first | refine qA rfl ?_|refine qB ?_|refine qC rfl ?_|refine qD ?_|refine qE ?_|refine qF ?_|refine qG ?_|refine qH ?_);try simp (maxSteps:=1000000)(disch:=(first|omega|(simp only [qI,qJ,qK]<;>omega)|exact qL _)) only [go_sem,↓reduceIte,n0,reduceCtorEq,n1,n2,n3,n4,n5,i0,i1,i2,i3,i4,i5,i6,i7,hxb22,hrd2_2,hrd2_7,hrd2_8,hrd2_9,hrd2_10,hrd2_13,hrd2_12,hrd2_14,hrd2_16,hrd2_20,hrd2_19,hrd2_21,hrd2_23,hrd2_27,hrd2_26,exitRQ_ret,exitRQ_exit,Int.toNat_natCast,Nat.mul_one,hst22_2])
          generalize hw23 : wr w22 R2 (j2 * 3 + 2) [.map qme0e1] = w23
          have hS23 : Upd (fun b => b = R2 ∨ b = rb) w22 w23 := by rw [← hw23];exact (Upd.refl _ _).wr _ _ (.inr (.inl rfl))
          have hx2_23 : blk w23 R2 = some ((A2 ++ (([strV (rdStr true s5).1,.slice aa2 N2 qq2,.map qme0e1] : List Value) ++ B2)).toArray,180,(0,0)) := by rw [← hw23];exact el_blk (o := 2) hx2_22 hA2 (Nat.le_of_ble_eq_true rfl)
          have hV23 := hS23
          have hU23 : Upd (fun b => b = vb ∨ b = rb) w1 w23 := hU22.trans' hV23 fun i hi h => h.elim (fun h => by omega) .inr
          have hz23 := hV23.size
          have hG23 : Glo ev w23 := hG1.updS hU23 hgM1 hgM2
          have hq23 : Rdr RT ok w23 rb s11 ∧ NN w23 rb s11 := by
            have hn : ∀ x,x = w23 → (Rdr RT ok x rb s11 ∧ NN x rb s11) := fun x hx => by
              rw [hx,← hw23]
              exact Rdr.store hq22 (by omega) (fun h => by have := (hok _ h).1;first | omega | exact (hok _ h).2 rfl)
            exact hn _ rfl
          obtain ⟨X23,hX23⟩ : ∃ X : Array Value,X = (A2 ++ (([strV (rdStr true s5).1,.slice aa2 N2 qq2,.map qme0e1] : List Value) ++ B2)).toArray := ⟨_,rfl⟩
          have hxb23 : blk w23 R2 = some (X23,180,(0,0)) := by rw [hX23];exact hx2_23
          have hXs23 : j2 * 3 + 3 ≤ X23.size := by rw [hX23];simp only [List.size_toArray,List.length_append,List.length_cons,List.length_nil,hA2];omega
          clear hw23
          have hTge0e1 : TagsM (fun b => (fun b => (ok b ∨ w1.heap.size ≤ b) ∧ ¬ ownB va0 b) b ∧ ¬ ownB va1 b) w23 (.map qme0e1) (rdTags s10).1 := (hT22.weaken fun b _ hk => hk.elim (fun hk => ⟨⟨.inl hk,fun ho => by have := (hown1 b ho).1;have := (hok b hk).1;omega⟩,fun ho => by have := (hown2 b ho).1;have := (hok b hk).1;omega⟩) (fun h => by have h' : w21.heap.size ≤ b := h;exact ⟨⟨.inr (by omega),fun ho => by have := (hown1 _ ho).2;omega⟩,fun ho => by have := (hown2 _ ho).2;omega⟩)).keep (hV23.keeps fun b _ hk e => hoM2 b hk e)
          have hCe0e1_23 : Upd (fun b => b = R2 ∨ b = rb) w23 w23 := Upd.refl _ _
          have hCe0e1_22 : Upd (fun b => b = R2 ∨ b = rb) w22 w23 := hV23.trans hCe0e1_23
          have hCe0e1_21 : Upd (fun b => b = R2 ∨ b = rb) w21 w23 := hV22.trans hCe0e1_22
          have hCe0e1_20 : Upd (fun b => b = R2 ∨ b = rb) w20 w23 := hV21.trans hCe0e1_21
          have hCe0e1_15 : Upd (fun b => b = R2 ∨ b = rb) w15 w23 := hV20.trans hCe0e1_20
          have hCe0e1_14 : Upd (fun b => b = R2 ∨ b = rb) w14 w23 := hV15.trans hCe0e1_15
          have hCe0e1_13 : Upd (fun b => b = R2 ∨ b = rb) w13 w23 := hV14.trans hCe0e1_14
          have hCe0e1_12 : Upd (fun b => b = R2 ∨ b = rb) w12 w23 := hV13.trans hCe0e1_13
          have hCe0e1_11 : Upd (fun b => b = R2 ∨ b = rb) w11 w23 := hV12.trans hCe0e1_12
          have hRe0e1 : RepS true (d + 1) fs_X0 (fun b => (fun b => (ok b ∨ w1.heap.size ≤ b) ∧ ¬ ownB va0 b) b ∧ ¬ ownB va1 b) w23 (.mk 0 [] false [xe0e1_0,xe0e1_1] (rdTags s10).1) [strV (rdStr true s5).1,.slice aa2 N2 qq2,.map qme0e1] := RepS.introT (c := [strV (rdStr true s5).1,.slice aa2 N2 qq2]) (RepL.cons1 (hfe0e1_0.keepS (hCe0e1_14.keeps fun b _ hk e => hoM2 b hk e)) (RepL.cons1 (hfe0e1_1.keepS (hCe0e1_21.keeps fun b _ hk e => hoM2 b hk e)) RepL.nil)) hTge0e1
          have hrE : (rd1 (rdP (d + 1) ver true) fX1_1.of fX1_1.sub false true) s5 = ((.mk 0 [] false [xe0e1_0,xe0e1_1] (rdTags s10).1),s11) := by rw [show (rd1 (rdP (d + 1) ver true) fX1_1.of fX1_1.sub false true) s5 = _ from rd1_part];exact hfine0e1
          have hxE : (Rep1 (RepS true (d + 1)) fX1_1.of fX1_1.sub) (fun b => (fun b => (ok b ∨ w1.heap.size ≤ b) ∧ ¬ ownB va0 b) b ∧ ¬ ownB va1 b) w23 (.mk 0 [] false [xe0e1_0,xe0e1_1] (rdTags s10).1) [strV (rdStr true s5).1,.slice aa2 N2 qq2,.map qme0e1] := Rep1_part.2 hRe0e1
          repeat ((first | refine qA rfl ?_|refine qB ?_|refine qC rfl ?_|refine qD ?_|refine qE ?_|refine qF ?_|refine qG ?_|refine qH ?_);try simp (maxSteps:=1000000)(disch:=(first|omega|(simp only [qI,qJ,qK]<;>omega)|exact qL _)) only [go_sem,↓reduceIte,n0,reduceCtorEq,n1,n2,n3,n4,n5,i0,i1,i2,i3,i4,i5,i6,i7,hxb23,hrd2_2,hrd2_7,hrd2_8,hrd2_9,hrd2_10,hrd2_13,hrd2_12,hrd2_14,hrd2_16,hrd2_20,hrd2_19,hrd2_21,hrd2_23,hrd2_27,hrd2_26,exitRQ_ret,exitRQ_exit,Int.toNat_natCast,Nat.mul_one])
          have hTk : Upd (fun b => b = R2 ∨ b = rb) w11 w23 := (((((((hV12.trans hV13).trans hV14).trans hV15).trans hV20).trans hV21).trans hV22).trans hV23)
          have hL' := hL1.step (Rep1_lay _ _ fun _ => RepS_lay true _ _) hlt1 (hnext2 w23 [strV (rdStr true s5).1,.slice aa2 N2 qq2,.map qme0e1] rfl hx2_23) (by rw [hrE];exact hxE) (hTk.mono fun b h => h.imp (fun e => ⟨_,_,_,hva2,e⟩) id) (by rw [hrE];exact hq23) (fun h => hoM1 rb h (.inr rfl)) (Nat.le_refl _)
          have hij : IntKind.i32.wrap ((j2 : Int) + 1) = ((j2 + 1 : Nat) : Int) := by rw [i32_wrap (by omega)];omega
          repeat ((first | refine qA rfl ?_|refine qB ?_|refine qC rfl ?_|refine qD ?_|refine qE ?_|refine qF ?_|refine qG ?_|refine qH ?_);try simp (maxSteps:=1000000)(disch:=(first|omega|(simp only [qI,qJ,qK]<;>omega)|exact qL _)) only [go_sem,↓reduceIte,n0,reduceCtorEq,n1,n2,n3,n4,n5,i0,i1,i2,i3,i4,i5,i6,i7,hxb23,hrd2_2,hrd2_7,hrd2_8,hrd2_9,hrd2_10,hrd2_13,hrd2_12,hrd2_14,hrd2_16,hrd2_20,hrd2_19,hrd2_21,hrd2_23,hrd2_27,hrd2_26,exitRQ_ret,exitRQ_exit,Int.toNat_natCast,Nat.mul_one,hij])
          refine ⟨⟨(by simp (maxSteps:=1000000)(disch:=(first|omega|(simp only [qI,qJ,qK]<;>omega)|exact qL _)) only [go_sem,↓reduceIte,n0,reduceCtorEq,n1,n2,n3,n4,n5,i0,i1,i2,i3,i4,i5,i6,i7,Holds_nil,Holds_cons,hrd2_2,hrd2_7,hrd2_8,hrd2_9,hrd2_10,hrd2_13,hrd2_12,hrd2_14,hrd2_16,hrd2_20,hrd2_19,hrd2_21,hrd2_23,hrd2_27,hrd2_26];exact hva2.symm),j2 + 1,(by simp (maxSteps:=1000000)(disch:=(first|omega|(simp only [qI,qJ,qK]<;>omega)|exact qL _)) only [go_sem,↓reduceIte,n0,reduceCtorEq,n1,n2,n3,n4,n5,i0,i1,i2,i3,i4,i5,i6,i7,hrd2_2,hrd2_7,hrd2_8,hrd2_9,hrd2_10,hrd2_13,hrd2_12,hrd2_14,hrd2_16,hrd2_20,hrd2_19,hrd2_21,hrd2_23,hrd2_27,hrd2_26,hij];all_goals rfl),_,_,_,hL'⟩,?_⟩
          try simp (maxSteps:=1000000)(disch:=(first|omega|(simp only [qI,qJ,qK]<;>omega)|exact qL _)) only [go_sem,↓reduceIte,n0,reduceCtorEq,n1,n2,n3,n4,n5,i0,i1,i2,i3,i4,i5,i6,i7,hrd2_2,hrd2_7,hrd2_8,hrd2_9,hrd2_10,hrd2_13,hrd2_12,hrd2_14,hrd2_16,hrd2_20,hrd2_19,hrd2_21,hrd2_23,hrd2_27,hrd2_26]
          simp only [RowKit.intOf]
          omega
        · have hjN : j2 = N1 := by omega
          rw [hjN] at hL1
          repeat ((first | refine qA rfl ?_|refine qB ?_|refine qC rfl ?_|refine qD ?_|refine qE ?_|refine qF ?_|refine qG ?_|refine qH ?_);try simp (maxSteps:=1000000)(disch:=(first|omega|(simp only [qI,qJ,qK]<;>omega)|exact qL _)) only [go_sem,↓reduceIte,n0,reduceCtorEq,n1,n2,n3,n4,n5,i0,i1,i2,i3,i4,i5,i6,i7,hrc1_2,hrc1_7,hrc1_8,hrc1_9,hrc1_10,hrc1_13,hrc1_12,hrc1_14,hrc1_16,hrc1_20,hrc1_19,hri1,exitRQ_ret,exitRQ_exit])
          exact ⟨(by simp (maxSteps:=1000000)(disch:=(first|omega|(simp only [qI,qJ,qK]<;>omega)|exact qL _)) only [go_sem,↓reduceIte,n0,reduceCtorEq,n1,n2,n3,n4,n5,i0,i1,i2,i3,i4,i5,i6,i7,Holds_nil,Holds_cons,hrc1_2,hrc1_7,hrc1_8,hrc1_9,hrc1_10,hrc1_13,hrc1_12,hrc1_14,hrc1_16,hrc1_20,hrc1_19,hri1]),s5,xs1,css1,hL1⟩
      rintro ρ w24 ⟨⟨hrd1_2,hrd1_7,hrd1_8,hrd1_9,hrd1_10,hrd1_13,hrd1_12,hrd1_14,hrd1_16,hrd1_20,hrd1_19,-⟩,s12,xs1,css1,hL1⟩
      have hq24 := hL1.rd
      have hu24 := hL1.upd
      have hx1_24 := hu24.blk_some hx1_8 (by omega)
      have hV24 : Upd (fun b => b = R1 ∨ b = rb) w8 w24 := hu24.mono (fun _ h => .inr h)
      have hU24 : Upd (fun b => b = vb ∨ b = rb) w1 w24 := hU8.trans' hV24 fun i hi h => h.elim (fun h => by omega) .inr
      have hz24 := hV24.size
      have hG24 : Glo ev w24 := hG1.updS hU24 hgM1 hgM2
      obtain ⟨X24,hX24⟩ : ∃ X : Array Value,X = (A1 ++ (([strV (rdStr true s2).1,.slice none 0 0,.map none] : List Value) ++ B1)).toArray := ⟨_,rfl⟩
      have hxb24 : blk w24 R1 = some (X24,178,(0,0)) := by rw [hX24];exact hx1_24
      have hXs24 : j1 * 3 + 3 ≤ X24.size := by rw [hX24];simp only [List.size_toArray,List.length_append,List.length_cons,List.length_nil,hA1];omega
      have hrd1 : rdF (rdP (d + 1) ver true) ver true fX1_1 s3 = (.mk 0 [] (nilS fX1_1 ver y1) xs1 [],s12) := by
        have h := rdF_listE (pt := (rdP (d + 1) ver true)) (v := ver) (flex := true) (f := fX1_1) (s := s3) (xs := xs1) (e := s12) rfl (by rw [hy1,← hN1,← hs4];exact hL1.done)
        rw [hy1] at h;exact h
      have hs12 : s12 = (rdF (rdP (d + 1) ver true) ver true fX1_1 s3).2 := by rw [hrd1]
      obtain ⟨aa1,qq1,hvs1⟩ := hL1.row.shape
      subst hvs1
      have hst24_1 : j1 * 3 + 2 ≤ X24.size := by omega
      repeat ((first | refine qA rfl ?_|refine qB ?_|refine qC rfl ?_|refine qD ?_|refine qE ?_|refine qF ?_|refine qG ?_|refine qH ?_);try simp (maxSteps:=1000000)(disch:=(first|omega|(simp only [qI,qJ,qK]<;>omega)|exact qL _)) only [go_sem,↓reduceIte,n0,reduceCtorEq,n1,n2,n3,n4,n5,i0,i1,i2,i3,i4,i5,i6,i7,hxb24,hrd1_2,hrd1_7,hrd1_8,hrd1_9,hrd1_10,hrd1_13,hrd1_12,hrd1_14,hrd1_16,hrd1_20,hrd1_19,exitRQ_ret,exitRQ_exit,Int.toNat_natCast,Nat.mul_one,hst24_1])
      generalize hw25 : wr w24 R1 (j1 * 3 + 1) [.slice aa1 N1 qq1] = w25
      have hS25 : Upd (fun b => b = R1 ∨ b = rb) w24 w25 := by rw [← hw25];exact (Upd.refl _ _).wr _ _ (.inr (.inl rfl))
      have hx1_25 : blk w25 R1 = some ((A1 ++ (([strV (rdStr true s2).1,.slice aa1 N1 qq1,.map none] : List Value) ++ B1)).toArray,178,(0,0)) := by rw [← hw25];exact el_blk (o := 1) hx1_24 hA1 (Nat.le_of_ble_eq_true rfl)
      have hV25 := hS25
      have hU25 : Upd (fun b => b = vb ∨ b = rb) w1 w25 := hU24.trans' hV25 fun i hi h => h.elim (fun h => by omega) .inr
      have hz25 := hV25.size
      have hG25 : Glo ev w25 := hG1.updS hU25 hgM1 hgM2
      have hq25 : Rdr RT ok w25 rb s12 ∧ NN w25 rb s12 := by
        have hn : ∀ x,x = w25 → (Rdr RT ok x rb s12 ∧ NN x rb s12) := fun x hx => by
          rw [hx,← hw25]
          exact Rdr.store hq24 (by omega) (fun h => by have := (hok _ h).1;first | omega | exact (hok _ h).2 rfl)
        exact hn _ rfl
      obtain ⟨X25,hX25⟩ : ∃ X : Array Value,X = (A1 ++ (([strV (rdStr true s2).1,.slice aa1 N1 qq1,.map none] : List Value) ++ B1)).toArray := ⟨_,rfl⟩
      have hxb25 : blk w25 R1 = some (X25,178,(0,0)) := by rw [hX25];exact hx1_25
      have hXs25 : j1 * 3 + 3 ≤ X25.size := by rw [hX25];simp only [List.size_toArray,List.length_append,List.length_cons,List.length_nil,hA1];omega
      clear hw25
      have hfe0_1 : RepF (RepS true (d + 1)) (szS true (d + 1)) fX1_1 (fun b => (ok b ∨ w1.heap.size ≤ b) ∧ ¬ ownB va0 b) w25 (xe0_1) [.slice aa1 N1 qq1] := by rw [hxe0_1,hrd1];exact RepF.keepS (RepF_row rfl hnc1 hN1 rfl hL1.row hL1.all (fun b hb => ⟨.inr (by omega),fun ho => by have := (hown1 _ ho).2;omega⟩)) (hV25.keeps fun b _ hk e => hoM1 b hk e)
      clear hL1 hnc1
      have hle0_2 : rdL (rdP (d + 1) ver true) (dfP (d + 1)) ver true [] s12 = ([],s12) := rfl
      have hle0_1 : rdL (rdP (d + 1) ver true) (dfP (d + 1)) ver true [fX1_1] s3 = ([xe0_1],s12) := by rw [rdL_st (by decide) hhe0_1,← hxe0_1,← hs12,hle0_2]
      have hle0_0 : rdL (rdP (d + 1) ver true) (dfP (d + 1)) ver true [fX1_0,fX1_1] s2 = ([xe0_0,xe0_1],s12) := by rw [rdL_st (by decide) hhe0_0,← hxe0_0,← hs3,hle0_1]
      have hfine0 : rdP (d + 2) ver true fs_X1 s2 = (.mk 0 [] false [xe0_0,xe0_1] (rdTags s12).1,(rdTags s12).2) := rdP_t hle0_0
      repeat ((first | refine qA rfl ?_|refine qB ?_|refine qC rfl ?_|refine qD ?_|refine qE ?_|refine qF ?_|refine qG ?_|refine qH ?_);try simp (maxSteps:=1000000)(disch:=(first|omega|(simp only [qI,qJ,qK]<;>omega)|exact qL _)) only [go_sem,↓reduceIte,n0,reduceCtorEq,n1,n2,n3,n4,n5,i0,i1,i2,i3,i4,i5,i6,i7,hxb25,hrd1_2,hrd1_7,hrd1_8,hrd1_9,hrd1_10,hrd1_13,hrd1_12,hrd1_14,hrd1_16,hrd1_20,hrd1_19,exitRQ_ret,exitRQ_exit,Int.toNat_natCast,Nat.mul_one])
      refine (ReadTags_fn w25 hq25.1 hrok).mono ?_
      rintro _ w26 ⟨qme0,rfl,hT26,hTn,hq26,hu26⟩
      have hx1_26 := hu26.blk_some hx1_25 (by omega)
      have hV26 : Upd (fun b => b = R1 ∨ b = rb) w25 w26 := hu26.mono (fun _ h => .inr h)
      have hU26 : Upd (fun b => b = vb ∨ b = rb) w1 w26 := hU25.trans' hV26 fun i hi h => h.elim (fun h => by omega) .inr
      have hz26 := hV26.size
      have hG26 : Glo ev w26 := hG1.updS hU26 hgM1 hgM2
      obtain ⟨X26,hX26⟩ : ∃ X : Array Value,X = (A1 ++ (([strV (rdStr true s2).1,.slice aa1 N1 qq1,.map none] : List Value) ++ B1)).toArray := ⟨_,rfl⟩
      have hxb26 : blk w26 R1 = some (X26,178,(0,0)) := by rw [hX26];exact hx1_26
      have hXs26 : j1 * 3 + 3 ≤ X26.size := by rw [hX26];simp only [List.size_toArray,List.length_append,List.length_cons,List.length_nil,hA1];omega
      obtain ⟨s13,hs13⟩ : ∃ s,s = (rdTags s12).2 := ⟨_,rfl⟩
      rw [← hs13] at hq26 hfine0
      have hst26_2 : j1 * 3 + 3 ≤ X26.size := by omega
      try simp (maxSteps:=1000000)(disch:=(first|omega|(simp only [qI,qJ,qK]<;>omega)|exact qL _)) only [go_sem,↓reduceIte,n0,reduceCtorEq,n1,n2,n3,n4,n5,i0,i1,i2,i3,i4,i5,i6,i7,hxb26,hrd1_2,hrd1_7,hrd1_8,hrd1_9,hrd1_10,hrd1_13,hrd1_12,hrd1_14,hrd1_16,hrd1_20,hrd1_19,exitRQ_ret,exitRQ_exit,Int.toNat_natCast,Nat.mul_one,hst26_2]
      repeat ((first | refine qA rfl ?_|refine qB ?_|refine qC rfl ?_|refine qD ?_|refine qE ?_|refine qF ?_|refine qG ?_|refine qH ?_);try simp (maxSteps:=1000000)(disch:=(first|omega|(simp only [qI,qJ,qK]<;>omega)|exact qL _)) only [go_sem,↓reduceIte,n0,reduceCtorEq,n1,n2,n3,n4,n5,i0,i1,i2,i3,i4,i5,i6,i7,hxb26,hrd1_2,hrd1_7,hrd1_8,hrd1_9,hrd1_10,hrd1_13,hrd1_12,hrd1_14,hrd1_16,hrd1_20,hrd1_19,exitRQ_ret,exitRQ_exit,Int.toNat_natCast,Nat.mul_one,hst26_2])
      generalize hw27 : wr w26 R1 (j1 * 3 + 2) [.map qme0] = w27
      have hS27 : Upd (fun b => b = R1 ∨ b = rb) w26 w27 := by rw [← hw27];exact (Upd.refl _ _).wr _ _ (.inr (.inl rfl))
      have hx1_27 : blk w27 R1 = some ((A1 ++ (([strV (rdStr true s2).1,.slice aa1 N1 qq1,.map qme0] : List Value) ++ B1)).toArray,178,(0,0)) := by rw [← hw27];exact el_blk (o := 2) hx1_26 hA1 (Nat.le_of_ble_eq_true rfl)
      have hV27 := hS27
      have hU27 : Upd (fun b => b = vb ∨ b = rb) w1 w27 := hU26.trans' hV27 fun i hi h => h.elim (fun h => by omega) .inr
      have hz27 := hV27.size
      have hG27 : Glo ev w27 := hG1.updS hU27 hgM1 hgM2
      have hq27 : Rdr RT ok w27 rb s13 ∧ NN w27 rb s13 := by
        have hn : ∀ x,x = w27 → (Rdr RT ok x rb s13 ∧ NN x rb s13) := fun x hx => by
          rw [hx,← hw27]
          exact Rdr.store hq26 (by omega) (fun h => by have := (hok _ h).1;first | omega | exact (hok _ h).2 rfl)
        exact hn _ rfl
      obtain ⟨X27,hX27⟩ : ∃ X : Array Value,X = (A1 ++ (([strV (rdStr true s2).1,.slice aa1 N1 qq1,.map qme0] : List Value) ++ B1)).toArray := ⟨_,rfl⟩
      have hxb27 : blk w27 R1 = some (X27,178,(0,0)) := by rw [hX27];exact hx1_27
      have hXs27 : j1 * 3 + 3 ≤ X27.size := by rw [hX27];simp only [List.size_toArray,List.length_append,List.length_cons,List.length_nil,hA1];omega
      clear hw27
      have hTge0 : TagsM (fun b => (ok b ∨ w1.heap.size ≤ b) ∧ ¬ ownB va0 b) w27 (.map qme0) (rdTags s12).1 := (hT26.weaken fun b _ hk => hk.elim (fun hk => ⟨.inl hk,fun ho => by have := (hown1 b ho).1;have := (hok b hk).1;omega⟩) (fun h => by have h' : w25.heap.size ≤ b := h;exact ⟨.inr (by omega),fun ho => by have := (hown1 _ ho).2;omega⟩)).keep (hV27.keeps fun b _ hk e => hoM1 b hk e)
      have hCe0_27 : Upd (fun b => b = R1 ∨ b = rb) w27 w27 := Upd.refl _ _
      have hCe0_26 : Upd (fun b => b = R1 ∨ b = rb) w26 w27 := hV27.trans hCe0_27
      have hCe0_25 : Upd (fun b => b = R1 ∨ b = rb) w25 w27 := hV26.trans hCe0_26
      have hCe0_24 : Upd (fun b => b = R1 ∨ b = rb) w24 w27 := hV25.trans hCe0_25
      have hCe0_8 : Upd (fun b => b = R1 ∨ b = rb) w8 w27 := hV24.trans hCe0_24
      have hCe0_7 : Upd (fun b => b = R1 ∨ b = rb) w7 w27 := hV8.trans hCe0_8
      have hCe0_6 : Upd (fun b => b = R1 ∨ b = rb) w6 w27 := hV7.trans hCe0_7
      have hCe0_5 : Upd (fun b => b = R1 ∨ b = rb) w5 w27 := hV6.trans hCe0_6
      have hCe0_4 : Upd (fun b => b = R1 ∨ b = rb) w4 w27 := hV5.trans hCe0_5
      have hRe0 : RepS true (d + 2) fs_X1 (fun b => (ok b ∨ w1.heap.size ≤ b) ∧ ¬ ownB va0 b) w27 (.mk 0 [] false [xe0_0,xe0_1] (rdTags s12).1) [strV (rdStr true s2).1,.slice aa1 N1 qq1,.map qme0] := RepS.introT (c := [strV (rdStr true s2).1,.slice aa1 N1 qq1]) (RepL.cons1 (hfe0_0.keepS (hCe0_7.keeps fun b _ hk e => hoM1 b hk e)) (RepL.cons1 (hfe0_1.keepS (hCe0_25.keeps fun b _ hk e => hoM1 b hk e)) RepL.nil)) hTge0
      have hrE : (rd1 (rdP (d + 2) ver true) fDescribeShareGroupOffsetsRequest_0.of fDescribeShareGroupOffsetsRequest_0.sub false true) s2 = ((.mk 0 [] false [xe0_0,xe0_1] (rdTags s12).1),s13) := by rw [show (rd1 (rdP (d + 2) ver true) fDescribeShareGroupOffsetsRequest_0.of fDescribeShareGroupOffsetsRequest_0.sub false true) s2 = _ from rd1_part];exact hfine0
      have hxE : (Rep1 (RepS true (d + 2)) fDescribeShareGroupOffsetsRequest_0.of fDescribeShareGroupOffsetsRequest_0.sub) (fun b => (ok b ∨ w1.heap.size ≤ b) ∧ ¬ ownB va0 b) w27 (.mk 0 [] false [xe0_0,xe0_1] (rdTags s12).1) [strV (rdStr true s2).1,.slice aa1 N1 qq1,.map qme0] := Rep1_part.2 hRe0
      repeat ((first | refine qA rfl ?_|refine qB ?_|refine qC rfl ?_|refine qD ?_|refine qE ?_|refine qF ?_|refine qG ?_|refine qH ?_);try simp (maxSteps:=1000000)(disch:=(first|omega|(simp only [qI,qJ,qK]<;>omega)|exact qL _)) only [go_sem,↓reduceIte,n0,reduceCtorEq,n1,n2,n3,n4,n5,i0,i1,i2,i3,i4,i5,i6,i7,hxb27,hrd1_2,hrd1_7,hrd1_8,hrd1_9,hrd1_10,hrd1_13,hrd1_12,hrd1_14,hrd1_16,hrd1_20,hrd1_19,exitRQ_ret,exitRQ_exit,Int.toNat_natCast,Nat.mul_one])
      have hTk : Upd (fun b => b = R1 ∨ b = rb) w4 w27 := (((((((hV5.trans hV6).trans hV7).trans hV8).trans hV24).trans hV25).trans hV26).trans hV27)
      have hL' := hL0.step (Rep1_lay _ _ fun _ => RepS_lay true _ _) hlt0 (hnext1 w27 [strV (rdStr true s2).1,.slice aa1 N1 qq1,.map qme0] rfl hx1_27) (by rw [hrE];exact hxE) (hTk.mono fun b h => h.imp (fun e => ⟨_,_,_,hva1,e⟩) id) (by rw [hrE];exact hq27) (fun h => hoM rb h (.inr rfl)) (Nat.le_refl _)
      have hij : IntKind.i32.wrap ((j1 : Int) + 1) = ((j1 + 1 : Nat) : Int) := by rw [i32_wrap (by omega)];omega
      repeat ((first | refine qA rfl ?_|refine qB ?_|refine qC rfl ?_|refine qD ?_|refine qE ?_|refine qF ?_|refine qG ?_|refine qH ?_);try simp (maxSteps:=1000000)(disch:=(first|omega|(simp only [qI,qJ,qK]<;>omega)|exact qL _)) only [go_sem,↓reduceIte,n0,reduceCtorEq,n1,n2,n3,n4,n5,i0,i1,i2,i3,i4,i5,i6,i7,hxb27,hrd1_2,hrd1_7,hrd1_8,hrd1_9,hrd1_10,hrd1_13,hrd1_12,hrd1_14,hrd1_16,hrd1_20,hrd1_19,exitRQ_ret,exitRQ_exit,Int.toNat_natCast,Nat.mul_one,hij])
      refine ⟨⟨(by simp (maxSteps:=1000000)(disch:=(first|omega|(simp only [qI,qJ,qK]<;>omega)|exact qL _)) only [go_sem,↓reduceIte,n0,reduceCtorEq,n1,n2,n3,n4,n5,i0,i1,i2,i3,i4,i5,i6,i7,Holds_nil,Holds_cons,hrd1_2,hrd1_7,hrd1_8,hrd1_9,hrd1_10,hrd1_13,hrd1_12,hrd1_14,hrd1_16,hrd1_20,hrd1_19];exact hva1.symm),j1 + 1,(by simp (maxSteps:=1000000)(disch:=(first|omega|(simp only [qI,qJ,qK]<;>omega)|exact qL _)) only [go_sem,↓reduceIte,n0,reduceCtorEq,n1,n2,n3,n4,n5,i0,i1,i2,i3,i4,i5,i6,i7,hrd1_2,hrd1_7,hrd1_8,hrd1_9,hrd1_10,hrd1_13,hrd1_12,hrd1_14,hrd1_16,hrd1_20,hrd1_19,hij];all_goals rfl),_,_,_,hL'⟩,?_⟩
      try simp (maxSteps:=1000000)(disch:=(first|omega|(simp only [qI,qJ,qK]<;>omega)|exact qL _)) only [go_sem,↓reduceIte,n0,reduceCtorEq,n1,n2,n3,n4,n5,i0,i1,i2,i3,i4,i5,i6,i7,hrd1_2,hrd1_7,hrd1_8,hrd1_9,hrd1_10,hrd1_13,hrd1_12,hrd1_14,hrd1_16,hrd1_20,hrd1_19]
      simp only [RowKit.intOf]
      omega
    · have hjN : j1 = N0 := by omega
      rw [hjN] at hL0
      repeat ((first | refine qA rfl ?_|refine qB ?_|refine qC rfl ?_|refine qD ?_|refine qE ?_|refine qF ?_|refine qG ?_|refine qH ?_);try simp (maxSteps:=1000000)(disch:=(first|omega|(simp only [qI,qJ,qK]<;>omega)|exact qL _)) only [go_sem,↓reduceIte,n0,reduceCtorEq,n1,n2,n3,n4,n5,i0,i1,i2,i3,i4,i5,i6,i7,hrc0_2,hrc0_7,hrc0_8,hrc0_9,hrc0_10,hrc0_13,hrc0_12,hri0,exitRQ_ret,exitRQ_exit])
      exact ⟨(by simp (maxSteps:=1000000)(disch:=(first|omega|(simp only [qI,qJ,qK]<;>omega)|exact qL _)) only [go_sem,↓reduceIte,n0,reduceCtorEq,n1,n2,n3,n4,n5,i0,i1,i2,i3,i4,i5,i6,i7,Holds_nil,Holds_cons,hrc0_2,hrc0_7,hrc0_8,hrc0_9,hrc0_10,hrc0_13,hrc0_12,hri0]),s2,xs0,css0,hL0⟩
  rintro ρ w28 ⟨⟨hrd0_2,hrd0_7,hrd0_8,hrd0_9,hrd0_10,hrd0_13,hrd0_12,-⟩,s14,xs0,css0,hL0⟩
  have hq28 := hL0.rd
  have hu28 := hL0.upd
  have hv_28 := hu28.blk_some hv_2 (by omega)
  have hV28 : Upd (fun b => b = vb ∨ b = rb) w2 w28 := hu28.mono (fun _ h => .inr h)
  have hU28 : Upd (fun b => b = vb ∨ b = rb) w1 w28 := hU2.trans hV28
  have hz28 := hV28.size
  have hG28 : Glo ev w28 := hG1.updS hU28 hgM1 hgM2
  have hrd0 : rdF (rdP (d + 2) ver true) ver true fDescribeShareGroupOffsetsRequest_0 s0 = (.mk 0 [] (nilS fDescribeShareGroupOffsetsRequest_0 ver y0) xs0 [],s14) := by
    have h := rdF_listE (pt := (rdP (d + 2) ver true)) (v := ver) (flex := true) (f := fDescribeShareGroupOffsetsRequest_0) (s := s0) (xs := xs0) (e := s14) rfl (by rw [hy0,← hN0,← hs1];exact hL0.done)
    rw [hy0] at h;exact h
  have hs14 : s14 = (rdF (rdP (d + 2) ver true) ver true fDescribeShareGroupOffsetsRequest_0 s0).2 := by rw [hrd0]
  obtain ⟨aa0,qq0,hvs0⟩ := hL0.row.shape
  subst hvs0
  repeat ((first | refine qA rfl ?_|refine qB ?_|refine qC rfl ?_|refine qD ?_|refine qE ?_|refine qF ?_|refine qG ?_|refine qH ?_);try simp (maxSteps:=1000000)(disch:=(first|omega|(simp only [qI,qJ,qK]<;>omega)|exact qL _)) only [go_sem,↓reduceIte,n0,reduceCtorEq,n1,n2,n3,n4,n5,i0,i1,i2,i3,i4,i5,i6,i7,hv_28,hrd0_2,hrd0_7,hrd0_8,hrd0_9,hrd0_10,hrd0_13,hrd0_12])
  generalize hw29 : wr w28 vb 1 [.slice aa0 N0 qq0] = w29
  have hS29 : Upd (fun b => b = vb ∨ b = rb) w28 w29 := by rw [← hw29];exact (Upd.refl _ _).wr _ _ (.inr (.inl rfl))
  have hv_29 : blk w29 vb = some (#[.int .i16 ver,.slice aa0 N0 qq0,.map none],123,(0,0)) := by rw [← hw29,blk_wr_eq,hv_28];rfl
  have hV29 := hS29
  have hU29 : Upd (fun b => b = vb ∨ b = rb) w1 w29 := hU28.trans hV29
  have hz29 := hV29.size
  have hG29 : Glo ev w29 := hG1.updS hU29 hgM1 hgM2
  have hq29 : Rdr RT ok w29 rb s14 ∧ NN w29 rb s14 := by
    have hn : ∀ x,x = w29 → (Rdr RT ok x rb s14 ∧ NN x rb s14) := fun x hx => by
      rw [hx,← hw29]
      exact Rdr.store hq28 (by omega) (fun h => by have := (hok _ h).1;first | omega | exact (hok _ h).2 rfl)
    exact hn _ rfl
  clear hw29
  have hf_0 : RepF (RepS true (d + 2)) (szS true (d + 2)) fDescribeShareGroupOffsetsRequest_0 (fun b => ok b ∨ w1.heap.size ≤ b) w29 (x_0) [.slice aa0 N0 qq0] := by rw [hx_0,hrd0];exact RepF.keepS (RepF_row rfl hnc0 hN0 rfl hL0.row hL0.all (fun b hb => .inr (by omega))) (hV29.keeps fun b _ hk e => (hoM b hk) e)
  clear hL0 hnc0
  have hl_1 : rdL (rdP (d + 2) ver true) (dfP (d + 2)) ver true [] s14 = ([],s14) := rfl
  have hl_0 : rdL (rdP (d + 2) ver true) (dfP (d + 2)) ver true [fDescribeShareGroupOffsetsRequest_0] s0 = ([x_0],s14) := by rw [rdL_st (by decide) hh_0,← hx_0,← hs14,hl_1]
  have hfin : rdP (d + 3) ver true fs_DescribeShareGroupOffsetsRequest s0 = (.mk 0 [] false [x_0] (rdTags s14).1,(rdTags s14).2) := rdP_t hl_0
  repeat ((first | refine qA rfl ?_|refine qB ?_|refine qC rfl ?_|refine qD ?_|refine qE ?_|refine qF ?_|refine qG ?_|refine qH ?_);try simp (maxSteps:=1000000)(disch:=(first|omega|(simp only [qI,qJ,qK]<;>omega)|exact qL _)) only [go_sem,↓reduceIte,n0,reduceCtorEq,n1,n2,n3,n4,n5,i0,i1,i2,i3,i4,i5,i6,i7,hv_29,hrd0_2,hrd0_7,hrd0_8,hrd0_9,hrd0_10,hrd0_13,hrd0_12])
  refine (ReadTags_fn w29 hq29.1 hrok).mono ?_
  rintro _ w30 ⟨qm,rfl,hT30,hTn,hq30,hu30⟩
  have hv_30 := hu30.blk_some hv_29 (by omega)
  have hV30 : Upd (fun b => b = vb ∨ b = rb) w29 w30 := hu30.mono (fun _ h => .inr h)
  have hU30 : Upd (fun b => b = vb ∨ b = rb) w1 w30 := hU29.trans hV30
  have hz30 := hV30.size
  have hG30 : Glo ev w30 := hG1.updS hU30 hgM1 hgM2
  obtain ⟨s15,hs15⟩ : ∃ s,s = (rdTags s14).2 := ⟨_,rfl⟩
  rw [← hs15] at hq30 hfin
  try simp (maxSteps:=1000000)(disch:=(first|omega|(simp only [qI,qJ,qK]<;>omega)|exact qL _)) only [go_sem,↓reduceIte,n0,reduceCtorEq,n1,n2,n3,n4,n5,i0,i1,i2,i3,i4,i5,i6,i7,hv_30,hrd0_2,hrd0_7,hrd0_8,hrd0_9,hrd0_10,hrd0_13,hrd0_12]
  repeat ((first | refine qA rfl ?_|refine qB ?_|refine qC rfl ?_|refine qD ?_|refine qE ?_|refine qF ?_|refine qG ?_|refine qH ?_);try simp (maxSteps:=1000000)(disch:=(first|omega|(simp only [qI,qJ,qK]<;>omega)|exact qL _)) only [go_sem,↓reduceIte,n0,reduceCtorEq,n1,n2,n3,n4,n5,i0,i1,i2,i3,i4,i5,i6,i7,hv_30,hrd0_2,hrd0_7,hrd0_8,hrd0_9,hrd0_10,hrd0_13,hrd0_12])
  generalize hw31 : wr w30 vb 2 [.map qm] = w31
  have hS31 : Upd (fun b => b = vb ∨ b = rb) w30 w31 := by rw [← hw31];exact (Upd.refl _ _).wr _ _ (.inr (.inl rfl))
  have hv_31 : blk w31 vb = some (#[.int .i16 ver,.slice aa0 N0 qq0,.map qm],123,(0,0)) := by rw [← hw31,blk_wr_eq,hv_30];rfl
  have hV31 := hS31
  have hU31 : Upd (fun b => b = vb ∨ b = rb) w1 w31 := hU30.trans hV31
  have hz31 := hV31.size
  have hG31 : Glo ev w31 := hG1.updS hU31 hgM1 hgM2
  have hq31 : Rdr RT ok w31 rb s15 ∧ NN w31 rb s15 := by
    have hn : ∀ x,x = w31 → (Rdr RT ok x rb s15 ∧ NN x rb s15) := fun x hx => by
      rw [hx,← hw31]
      exact Rdr.store hq30 (by omega) (fun h => by have := (hok _ h).1;first | omega | exact (hok _ h).2 rfl)
    exact hn _ rfl
  clear hw31
  have hTg : TagsM (fun b => ok b ∨ w1.heap.size ≤ b) w31 (.map qm) (rdTags s14).1 := (hT30.weaken fun b _ hk => hk.elim (fun hk => .inl hk) (fun h => by have h' : w29.heap.size ≤ b := h;exact .inr (by omega))).keep (hV31.keeps fun b _ hk e => (hoM b hk) e)
  have hC_31 : Upd (fun b => b = vb ∨ b = rb) w31 w31 := Upd.refl _ _
  have hC_30 : Upd (fun b => b = vb ∨ b = rb) w30 w31 := hV31.trans hC_31
  have hC_29 : Upd (fun b => b = vb ∨ b = rb) w29 w31 := hV30.trans hC_30
  have hC_28 : Upd (fun b => b = vb ∨ b = rb) w28 w31 := hV29.trans hC_29
  have hC_2 : Upd (fun b => b = vb ∨ b = rb) w2 w31 := hV28.trans hC_28
  have hC_1 : Upd (fun b => b = vb ∨ b = rb) w1 w31 := hV2.trans hC_2
  have hR : RepS true (d + 3) fs_DescribeShareGroupOffsetsRequest (fun b => ok b ∨ w1.heap.size ≤ b) w31 (.mk 0 [] false [x_0] (rdTags s14).1) [.slice aa0 N0 qq0,.map qm] := RepS.introT (c := [.slice aa0 N0 qq0]) (RepL.cons1 (hf_0.keepS (hC_29.keeps fun b _ hk e => (hoM b hk) e)) RepL.nil) hTg
  repeat ((first | refine qA rfl ?_|refine qB ?_|refine qC rfl ?_|refine qD ?_|refine qE ?_|refine qF ?_|refine qG ?_|refine qH ?_);try simp (maxSteps:=1000000)(disch:=(first|omega|(simp only [qI,qJ,qK]<;>omega)|exact qL _)) only [go_sem,↓reduceIte,n0,reduceCtorEq,n1,n2,n3,n4,n5,i0,i1,i2,i3,i4,i5,i6,i7,hv_31,hrd0_2,hrd0_7,hrd0_8,hrd0_9,hrd0_10,hrd0_13,hrd0_12])
  refine (RComplete_fn w31 hq31.1 hG31.2).mono ?_
  rintro _ wz ⟨rfl,hez⟩
  rw [hez]
  repeat ((first | refine qA rfl ?_|refine qB ?_|refine qC rfl ?_|refine qD ?_|refine qE ?_|refine qF ?_|refine qG ?_|refine qH ?_);try simp (maxSteps:=1000000)(disch:=(first|omega|(simp only [qI,qJ,qK]<;>omega)|exact qL _)) only [go_sem,↓reduceIte,n0,reduceCtorEq,n1,n2,n3,n4,n5,i0,i1,i2,i3,i4,i5,i6,i7,hv_31,hrd0_2,hrd0_7,hrd0_8,hrd0_9,hrd0_10,hrd0_13,hrd0_12])
  rw [hfin]
  refine ⟨fun h => ?_,fun h => ⟨?_,[.slice aa0 N0 qq0,.map qm],hv_31,?_⟩,?_⟩
  · have h' : s15 = none := h
    rw [h'];rfl
  · cases hsn : s15 with
    | none => exact absurd hsn h
    | some x => rfl
  · exact (RepS_lay true (d + 3) fs_DescribeShareGroupOffsetsRequest).weaken hR fun b _ hk => hk.imp id fun h => by omega
  · exact hbase.trans' hU31 fun i hi h => h.elim id fun h => by omega
end Ms

