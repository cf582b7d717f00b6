/- A part of the proof: see the last text. -/
import Derived.Test.YtmlpaobpdmgcgaaDoorC05
import Derived.Test.YtmlpaobpdmgcgaaDoorListGroupsRequestP0
set_option linter.unusedSimpArgs false
set_option linter.unusedVariables false
namespace Ms
open Go.World renaming size_alloc → qI
open Ms renaming size_wr → qJ,size_drew → qK,not_noB → qL
open W renaming seqR → qA,seq → qB,regR → qC,condK → qD,block → qE,skip → qF,ret → qG,exit → qH
open Nat renaming reduceEqDiff → n0,reduceAdd → n1,reduceMul → n2,reduceSub → n3,reduceLT → n4,reduceLeDiff → n5
open Int renaming reduceEq → i0,reduceLT → i1,reduceLE → i2,reduceNeg → i3,reduceAdd → i4,reduceSub → i5,reduceMul → i6,reduceToNat → i7
set_option maxRecDepth 8000
open Go Go.Proofs Go.Shelf
attribute [local congr] W_congr WPsq_congr WPp_congr optK_congr addrK_congr intK_congr boolK_congr sliceK_congr tupleK_congr funcK_congr Fn_congr rawK_congr takeK_congr stepK_congr convK_congr aggK_congr

set_option maxHeartbeats 4000000 in
theorem readListGroupsRequest_3 {d : Nat} {ok : Blocks} {ver : Int} {ev : Value} (hlo : 5 ≤ ver) (hhi : ver ≤ 5) (w : World) {vb : Nat} (src : Value) (s : List UInt8) (hv : blk w vb = some (#[.int .i16 ver,.slice none 0 0,.slice none 0 0,.map none],105,(0,0))) (hsrc : BytesV ok w src s) (hok0 : ∀ b,ok b → b < w.heap.size ∧ b ≠ vb) (hG : Glo ev w) (hgv : ¬ 0 = vb ∧ ¬ 1 = vb) :
    Fn Tryd.prog 76 #[.pointer (some ⟨vb,0,none⟩),src,.bool false] w (ReadQ 105 ok ver (d + 1) fs_ListGroupsRequest vb w (rdP (d + 1) ver true fs_ListGroupsRequest (some s)) ev) := by
  have hvl := blk_lt hv
  have hgs := hG.lt
  obtain ⟨sa,sc,rfl,_⟩ := hsrc.shape
  refine fn_of_W Tryd.func76 rfl Tryd.results76 Tryd.ntmps76 rfl ?_
  repeat ((first | refine qA rfl ?_|refine qB ?_|refine qC rfl ?_|refine qD ?_|refine qE ?_|refine qF ?_|refine qG ?_|refine qH ?_);try simp (maxSteps:=1000000)(disch:=(first|omega|(simp only [qI,qJ,qK]<;>omega)|exact qL _)) only [go_sem,↓reduceIte,n0,reduceCtorEq,n1,n2,n3,n4,n5,i0,i1,i2,i3,i4,i5,i6,i7,hv])
  refine (DefaultListGroupsRequest_fn w hv).mono ?_
  rintro _ w0 ⟨hv0,hu0⟩
  have hz0 := hu0.size
  have hsrc0 : BytesV ok w0 (.slice sa s.length sc) s := hsrc.keep (hu0.keeps fun b _ hk e => (hok0 b hk).2 e)
  obtain ⟨rb,hrb⟩ : ∃ r,r = w0.heap.size := ⟨_,rfl⟩
  have hE1 : Ext w0 (wr (w0.alloc (.cells #[.slice none 0 0,.bool false] 113)) w0.heap.size 0 [.slice sa s.length sc,.bool false]) := (Upd.alloc (Upd.refl _ _) _).wr _ _ (.inl (Nat.le_refl _))
  have hz1 : (wr (w0.alloc (.cells #[.slice none 0 0,.bool false] 113)) w0.heap.size 0 [.slice sa s.length sc,.bool false]).heap.size = w0.heap.size + 1 := by rw [size_wr,World.size_alloc]
  have hR1 : Rdr RT ok (wr (w0.alloc (.cells #[.slice none 0 0,.bool false] 113)) w0.heap.size 0 [.slice sa s.length sc,.bool false]) w0.heap.size (some s) := Rdr.good (v := .slice sa s.length sc) (by simp (maxSteps:=1000000)(disch:=(first|omega|(simp only [qI,qJ,qK]<;>omega)|exact qL _)) only [go_sem,↓reduceIte,n0,reduceCtorEq,n1,n2,n3,n4,n5,i0,i1,i2,i3,i4,i5,i6,i7]) (hsrc0.keep (hE1.keeps _))
  have hv_1 := hE1.blk_some hv0 id
  repeat ((first | refine qA rfl ?_|refine qB ?_|refine qC rfl ?_|refine qD ?_|refine qE ?_|refine qF ?_|refine qG ?_|refine qH ?_);try simp (maxSteps:=1000000)(disch:=(first|omega|(simp only [qI,qJ,qK]<;>omega)|exact qL _)) only [go_sem,↓reduceIte,n0,reduceCtorEq,n1,n2,n3,n4,n5,i0,i1,i2,i3,i4,i5,i6,i7,hv0])
  generalize (wr (w0.alloc (.cells #[.slice none 0 0,.bool false] 113)) w0.heap.size 0 [.slice sa s.length sc,.bool false]) = w1 at *
  rw [← hrb] at hR1
  try rw [← hrb]
  have hok : ∀ b,ok b → b < w.heap.size ∧ b ≠ vb := hok0
  have hrok : ¬ ok rb := fun h => by have := (hok rb h).1;omega
  have hbase : Upd (fun b => b = vb) w w1 := hu0.trans (hE1.mono fun _ h => h.elim)
  have hG1 : Glo ev w1 := hG.updS hbase hgv.1 hgv.2
  have hgrb : ¬ 0 = rb := by omega
  have hgM1 : ¬ (0 = vb ∨ 0 = rb) := fun h => h.elim hgv.1 fun h => by omega
  have hgM2 : ¬ (1 = vb ∨ 1 = rb) := fun h => h.elim hgv.2 fun h => by omega
  obtain ⟨s0,hs0⟩ : ∃ s' : St,s' = some s := ⟨_,rfl⟩
  rw [← hs0] at hR1 ⊢
  have hU1 : Upd (fun b => b = vb ∨ b = rb) w1 w1 := Upd.refl _ _
  have hoM : ∀ b,(ok b ∨ w1.heap.size ≤ b) → ¬ (b = vb ∨ b = rb) := fun b hk h => by
    rcases hk with hk | hk
    · have := hok b hk;rcases h with h | h <;> omega
    · rcases h with h | h <;> omega
  have hq1 : Rdr RT ok w1 rb s0 := hR1
  obtain ⟨FB,hFB⟩ : ∃ P : Prop,P = ((rdP (d + 1) ver true fs_ListGroupsRequest s0).2 = none) := ⟨_,rfl⟩
  have hb_0 : (rdL (rdP d ver true) (dfP d) ver true [fListGroupsRequest_0,fListGroupsRequest_1] s0).2 = none → FB := fun h => Eq.mpr hFB (rdP_bad h)
  have hh_0 : hasS fListGroupsRequest_0 ver = true := hasS_t (by show (4 : Int) ≤ ver;omega) (by show (-1 : Int) < 0 ∨ ver ≤ (-1 : Int);omega)
  obtain ⟨x_0,hx_0⟩ : ∃ x,x = (rdF (rdP d ver true) ver true fListGroupsRequest_0 s0).1 := ⟨_,rfl⟩
  repeat ((first | refine qA rfl ?_|refine qB ?_|refine qC rfl ?_|refine qD ?_|refine qE ?_|refine qF ?_|refine qG ?_|refine qH ?_);try simp (maxSteps:=1000000)(disch:=(first|omega|(simp only [qI,qJ,qK]<;>omega)|exact qL _)) only [go_sem,↓reduceIte,n0,reduceCtorEq,n1,n2,n3,n4,n5,i0,i1,i2,i3,i4,i5,i6,i7,hv_1])
  refine (RCompactArrayLen_fn w1 hq1 hrok hG1.1 hgrb).mono ?_
  rintro _ w2 ⟨rfl,hq2,hu2⟩
  have hv_2 := hu2.blk_some hv_1 (by omega)
  have hV2 : Upd (fun b => b = vb ∨ b = rb) w1 w2 := hu2.mono (fun _ h => .inr h)
  have hU2 : Upd (fun b => b = vb ∨ b = rb) w1 w2 := hU1.trans hV2
  have hz2 := hV2.size
  have hG2 : Glo ev w2 := hG1.updS hU2 hgM1 hgM2
  obtain ⟨s1,hs1⟩ : ∃ s,s = (rdALen true s0).2 := ⟨_,rfl⟩
  rw [← hs1] at hq2
  have hyr0 := rdALen_rng true s0
  generalize hy0 : (rdALen true s0).1 = y0 at *
  obtain ⟨N0,hN0⟩ : ∃ N,N = y0.toNat := ⟨_,rfl⟩
  have hlb0 : (rdMany (rd1 (rdP d ver true) fListGroupsRequest_0.of fListGroupsRequest_0.sub false true) N0 s1).2 = none → FB := fun h => hb_0 (by rw [rdL_st (by decide) hh_0];exact rdL_bad (rdF_listbad rfl (by rw [hy0,← hN0,← hs1];exact h)))
  repeat ((first | refine W.seqR rfl ?_ | refine W.seq ?_ | refine W.regR rfl ?_ | refine W.block ?_ | refine W.skip ?_ | refine W.ret ?_ | refine W.exit ?_);try simp (maxSteps:=1000000)(disch:=(first|omega|(simp only [qI,qJ,qK]<;>omega)|exact qL _)) only [go_sem,↓reduceIte,n0,reduceCtorEq,n1,n2,n3,n4,n5,i0,i1,i2,i3,i4,i5,i6,i7,hv_2])
  refine (ROk_fn w2 hq2.1).mono ?_
  rintro _ wz ⟨rfl,hez⟩
  rw [hez]
  clear hez wz
  by_cases hsn0 : s1 = none
  · have hso : s1.isSome = false := by rw [hsn0];rfl
    try simp (maxSteps:=1000000)(disch:=(first|omega|(simp only [qI,qJ,qK]<;>omega)|exact qL _)) only [go_sem,↓reduceIte,n0,reduceCtorEq,n1,n2,n3,n4,n5,i0,i1,i2,i3,i4,i5,i6,i7,hv_2,hso]
    repeat ((first | refine qA rfl ?_|refine qB ?_|refine qC rfl ?_|refine qD ?_|refine qE ?_|refine qF ?_|refine qG ?_|refine qH ?_);try simp (maxSteps:=1000000)(disch:=(first|omega|(simp only [qI,qJ,qK]<;>omega)|exact qL _)) only [go_sem,↓reduceIte,n0,reduceCtorEq,n1,n2,n3,n4,n5,i0,i1,i2,i3,i4,i5,i6,i7,hv_2,hso])
    refine (RComplete_fn w2 hq2.1 hG2.2).mono ?_
    rintro _ wz ⟨rfl,hez⟩
    rw [hez]
    try simp (maxSteps:=1000000)(disch:=(first|omega|(simp only [qI,qJ,qK]<;>omega)|exact qL _)) only [go_sem,↓reduceIte,n0,reduceCtorEq,n1,n2,n3,n4,n5,i0,i1,i2,i3,i4,i5,i6,i7,hv_2]
    repeat ((first | refine qA rfl ?_|refine qB ?_|refine qC rfl ?_|refine qD ?_|refine qE ?_|refine qF ?_|refine qG ?_|refine qH ?_);try simp (maxSteps:=1000000)(disch:=(first|omega|(simp only [qI,qJ,qK]<;>omega)|exact qL _)) only [go_sem,↓reduceIte,n0,reduceCtorEq,n1,n2,n3,n4,n5,i0,i1,i2,i3,i4,i5,i6,i7,hv_2])
    rw [errV_none hsn0]
    exact ReadQ.bad (Eq.mp hFB (hlb0 (by rw [hsn0];exact rdMany_none rd1P_none _))) (hbase.trans' hU2 fun i hi h => h.elim id fun h => by omega)
  have hso0 : s1.isSome = true := isSome_some hsn0
  try simp (maxSteps:=1000000)(disch:=(first|omega|(simp only [qI,qJ,qK]<;>omega)|exact qL _)) only [go_sem,↓reduceIte,n0,reduceCtorEq,n1,n2,n3,n4,n5,i0,i1,i2,i3,i4,i5,i6,i7,hv_2,hso0]
  repeat ((first | refine W.seqR rfl ?_ | refine W.seq ?_ | refine W.regR rfl ?_ | refine W.block ?_ | refine W.skip ?_ | refine W.ret ?_ | refine W.exit ?_);try simp (maxSteps:=1000000)(disch:=(first|omega|(simp only [qI,qJ,qK]<;>omega)|exact qL _)) only [go_sem,↓reduceIte,n0,reduceCtorEq,n1,n2,n3,n4,n5,i0,i1,i2,i3,i4,i5,i6,i7,hv_2,hso0])
  refine W.condK ?_
  try simp (maxSteps:=1000000)(disch:=(first|omega|(simp only [qI,qJ,qK]<;>omega)|exact qL _)) only [go_sem,↓reduceIte,n0,reduceCtorEq,n1,n2,n3,n4,n5,i0,i1,i2,i3,i4,i5,i6,i7,hv_2,hso0]
  repeat ((first | refine W.seqR rfl ?_ | refine W.seq ?_ | refine W.regR rfl ?_ | refine W.block ?_ | refine W.skip ?_ | refine W.ret ?_ | refine W.exit ?_);try simp (maxSteps:=1000000)(disch:=(first|omega|(simp only [qI,qJ,qK]<;>omega)|exact qL _)) only [go_sem,↓reduceIte,n0,reduceCtorEq,n1,n2,n3,n4,n5,i0,i1,i2,i3,i4,i5,i6,i7,hv_2,hso0,slBase_00])
  refine W.normJ (RowQ [(2,.bool false),(7,.pointer (some ⟨rb,0,none⟩)),(8,.int .i16 ver),(9,.bool true),(10,.pointer (some ⟨vb,0,none⟩)),(13,.int .i32 y0)] 12 (fun va w' => LstI RT (rd1 (rdP d ver true) fListGroupsRequest_0.of fListGroupsRequest_0.sub false true) (Rep1 (RepS true d) fListGroupsRequest_0.of fListGroupsRequest_0.sub) 1 9 [.string ByteArray.empty] w2.heap.size N0 ok (fun b => ok b ∨ w1.heap.size ≤ b) rb w2 s1 va 0 s1 [] [] w' ∧ (N0 = 0 → if nilS fListGroupsRequest_0 ver y0 = true then va = .slice none 0 0 else ∃ a,va = .slice (some a) 0 0))) ?_ ?_
  · by_cases hy0 : (0 : Int) < y0
    · have hyv : Value.int .i32 y0 = .int .i32 ((N0 : Nat) : Int) := by rw [show y0 = ((N0 : Nat) : Int) by omega]
      repeat ((first | refine qA rfl ?_|refine qB ?_|refine qC rfl ?_|refine qD ?_|refine qE ?_|refine qF ?_|refine qG ?_|refine qH ?_);try simp (maxSteps:=1000000)(disch:=(first|omega|(simp only [qI,qJ,qK]<;>omega)|exact qL _)) only [go_sem,↓reduceIte,n0,reduceCtorEq,n1,n2,n3,n4,n5,i0,i1,i2,i3,i4,i5,i6,i7,hv_2])
      refine wp_appendZ (m := N0) utListGroupsRequest_103 utListGroupsRequest_21 inListGroupsRequest_9 (by decide) (by first | rfl | simp (maxSteps:=1000000)(disch:=(first|omega|(simp only [qI,qJ,qK]<;>omega)|exact qL _)) only [go_sem,↓reduceIte,n0,reduceCtorEq,n1,n2,n3,n4,n5,i0,i1,i2,i3,i4,i5,i6,i7]) (by first | exact hyv | (simp (maxSteps:=1000000)(disch:=(first|omega|(simp only [qI,qJ,qK]<;>omega)|exact qL _)) only [go_sem,↓reduceIte,n0,reduceCtorEq,n1,n2,n3,n4,n5,i0,i1,i2,i3,i4,i5,i6,i7];exact hyv)) (by omega) (by omega) (by decide) ?_
      intro q rest hq1
      have hEw : Ext w2 (w2.drew.alloc (.cells (zs [.string ByteArray.empty] N0 ++ rest).toArray 9)) := (Upd.refl _ _).drew.alloc _
      try simp (maxSteps:=1000000)(disch:=(first|omega|(simp only [qI,qJ,qK]<;>omega)|exact qL _)) only [go_sem,↓reduceIte,n0,reduceCtorEq,n1,n2,n3,n4,n5,i0,i1,i2,i3,i4,i5,i6,i7,hv_2]
      repeat ((first | refine qA rfl ?_|refine qB ?_|refine qC rfl ?_|refine qD ?_|refine qE ?_|refine qF ?_|refine qG ?_|refine qH ?_);try simp (maxSteps:=1000000)(disch:=(first|omega|(simp only [qI,qJ,qK]<;>omega)|exact qL _)) only [go_sem,↓reduceIte,n0,reduceCtorEq,n1,n2,n3,n4,n5,i0,i1,i2,i3,i4,i5,i6,i7,hv_2])
      exact ⟨(by simp (maxSteps:=1000000)(disch:=(first|omega|(simp only [qI,qJ,qK]<;>omega)|exact qL _)) only [go_sem,↓reduceIte,n0,reduceCtorEq,n1,n2,n3,n4,n5,i0,i1,i2,i3,i4,i5,i6,i7,Holds_nil,Holds_cons]),.slice (some ⟨w2.heap.size,0,none⟩) N0 q,(by simp (maxSteps:=1000000)(disch:=(first|omega|(simp only [qI,qJ,qK]<;>omega)|exact qL _)) only [go_sem,↓reduceIte,n0,reduceCtorEq,n1,n2,n3,n4,n5,i0,i1,i2,i3,i4,i5,i6,i7]),LstI.start (RowJ.start (by omega) hq1 (by show w2.heap.size ≤ w2.drew.heap.size;rw [size_drew];omega) (blk_alloc_new rfl)) ⟨hq2.1.upd hEw (fun h => h) (fun _ _ _ h => h),hq2.2.upd hEw fun h => h⟩ (hEw.mono fun _ h => h.elim),fun h0 => by omega⟩
    · repeat ((first | refine qA rfl ?_|refine qB ?_|refine qC rfl ?_|refine qD ?_|refine qE ?_|refine qF ?_|refine qG ?_|refine qH ?_);try simp (maxSteps:=1000000)(disch:=(first|omega|(simp only [qI,qJ,qK]<;>omega)|exact qL _)) only [go_sem,↓reduceIte,n0,reduceCtorEq,n1,n2,n3,n4,n5,i0,i1,i2,i3,i4,i5,i6,i7,hv_2])
      exact ⟨(by simp (maxSteps:=1000000)(disch:=(first|omega|(simp only [qI,qJ,qK]<;>omega)|exact qL _)) only [go_sem,↓reduceIte,n0,reduceCtorEq,n1,n2,n3,n4,n5,i0,i1,i2,i3,i4,i5,i6,i7,Holds_nil,Holds_cons]),.slice none 0 0,(by simp (maxSteps:=1000000)(disch:=(first|omega|(simp only [qI,qJ,qK]<;>omega)|exact qL _)) only [go_sem,↓reduceIte,n0,reduceCtorEq,n1,n2,n3,n4,n5,i0,i1,i2,i3,i4,i5,i6,i7,slBase_00]),LstI.start (RowJ.zero (by omega) (fun _ h => by cases h)) hq2 (Upd.refl _ _),fun _ => by rw [nilS_plain (by decide) (by omega)];exact rfl⟩
  rintro ρ w3 ⟨⟨hrb0_2,hrb0_7,hrb0_8,hrb0_9,hrb0_10,hrb0_13,-⟩,va0,hra0,hL0,hnc0⟩
  repeat ((first | refine qA rfl ?_|refine qB ?_|refine qC rfl ?_|refine qD ?_|refine qE ?_|refine qF ?_|refine qG ?_|refine qH ?_);try simp (maxSteps:=1000000)(disch:=(first|omega|(simp only [qI,qJ,qK]<;>omega)|exact qL _)) only [go_sem,↓reduceIte,n0,reduceCtorEq,n1,n2,n3,n4,n5,i0,i1,i2,i3,i4,i5,i6,i7,hv_2,hrb0_2,hrb0_7,hrb0_8,hrb0_9,hrb0_10,hrb0_13,hra0,exitRQ_ret,exitRQ_exit,Int.toNat_natCast,Nat.mul_one])
  refine W.exitRJ 0 (EndQ [(2,.bool false),(7,.pointer (some ⟨rb,0,none⟩)),(8,.int .i16 ver),(9,.bool true),(10,.pointer (some ⟨vb,0,none⟩)),(13,.int .i32 y0),(12,va0)] (fun w' => ∃ s xs css,LstI RT (rd1 (rdP d ver true) fListGroupsRequest_0.of fListGroupsRequest_0.sub false true) (Rep1 (RepS true d) fListGroupsRequest_0.of fListGroupsRequest_0.sub) 1 9 [.string ByteArray.empty] w2.heap.size N0 ok (fun b => ok b ∨ w1.heap.size ≤ b) rb w2 s1 va0 N0 s xs css w')) (W.loop (LoopQ [(2,.bool false),(7,.pointer (some ⟨rb,0,none⟩)),(8,.int .i16 ver),(9,.bool true),(10,.pointer (some ⟨vb,0,none⟩)),(13,.int .i32 y0),(12,va0)] 14 (fun j w' => ∃ s xs css,LstI RT (rd1 (rdP d ver true) fListGroupsRequest_0.of fListGroupsRequest_0.sub false true) (Rep1 (RepS true d) fListGroupsRequest_0.of fListGroupsRequest_0.sub) 1 9 [.string ByteArray.empty] w2.heap.size N0 ok (fun b => ok b ∨ w1.heap.size ≤ b) rb w2 s1 va0 j s xs css w')) (fun ρ _ => N0 - (RowKit.intOf (ρ 14)).toNat) ?_ ?_) ?_
  · exact ⟨(by simp (maxSteps:=1000000)(disch:=(first|omega|(simp only [qI,qJ,qK]<;>omega)|exact qL _)) only [go_sem,↓reduceIte,n0,reduceCtorEq,n1,n2,n3,n4,n5,i0,i1,i2,i3,i4,i5,i6,i7,Holds_nil,Holds_cons,hrb0_2,hrb0_7,hrb0_8,hrb0_9,hrb0_10,hrb0_13,hra0]),0,(by simp (maxSteps:=1000000)(disch:=(first|omega|(simp only [qI,qJ,qK]<;>omega)|exact qL _)) only [go_sem,↓reduceIte,n0,reduceCtorEq,n1,n2,n3,n4,n5,i0,i1,i2,i3,i4,i5,i6,i7,hrb0_2,hrb0_7,hrb0_8,hrb0_9,hrb0_10,hrb0_13,hra0];all_goals rfl),s1,[],[],hL0⟩
  · rintro ρ w4 ⟨⟨hrc0_2,hrc0_7,hrc0_8,hrc0_9,hrc0_10,hrc0_13,hrc0_12,-⟩,j1,hri0,s2,xs0,css0,hL0⟩
    have hj0 := hL0.le
    have hq4 := hL0.rd
    have hU4 : Upd (fun b => b = vb ∨ b = rb) w1 w4 := hU2.trans' hL0.upd fun i _ h => .inr h
    have hz4 := hL0.upd.size
    have hG4 : Glo ev w4 := hG1.updS hU4 hgM1 hgM2
    by_cases hlt0 : j1 < N0
    · obtain ⟨R1,q1,B1,hva1,hNq1,hLR1,hA1,hx1_4,hnext1⟩ := hL0.row.next hlt0
      have hRl1 := blk_lt hx1_4
      generalize css0.flatten = A1 at hA1 hx1_4 hnext1
      rw [Nat.mul_one] at hA1
      replace hra0 : ρ 12 = .slice (some ⟨R1,0,none⟩) N0 q1 := hrc0_12.trans hva1
      have hown1 : ∀ b,ownB va0 b → w2.heap.size ≤ b ∧ b < w4.heap.size := fun b h => hL0.row.own h
      have hoM1 : ∀ b,(fun b => (ok b ∨ w1.heap.size ≤ b) ∧ ¬ ownB va0 b) b → ¬ (b = R1 ∨ b = rb) := fun b hk h => h.elim (fun e => hk.2 ⟨_,_,_,hva1,e⟩) (fun e => hoM b hk.1 (.inr e))
      obtain ⟨X4,hX4⟩ : ∃ X : Array Value,X = (A1 ++ (([.string ByteArray.empty] : List Value) ++ B1)).toArray := ⟨_,rfl⟩
      have hxb4 : blk w4 R1 = some (X4,9,(0,0)) := by rw [hX4];exact hx1_4
      have hXs4 : j1 + 1 ≤ X4.size := by rw [hX4];simp only [List.size_toArray,List.length_append,List.length_cons,List.length_nil,hA1];omega
      repeat ((first | refine qA rfl ?_|refine qB ?_|refine qC rfl ?_|refine qD ?_|refine qE ?_|refine qF ?_|refine qG ?_|refine qH ?_);try simp (maxSteps:=1000000)(disch:=(first|omega|(simp only [qI,qJ,qK]<;>omega)|exact qL _)) only [go_sem,↓reduceIte,n0,reduceCtorEq,n1,n2,n3,n4,n5,i0,i1,i2,i3,i4,i5,i6,i7,hxb4,hrc0_2,hrc0_7,hrc0_8,hrc0_9,hrc0_10,hrc0_13,hra0,hri0,exitRQ_ret,exitRQ_exit,Int.toNat_natCast,Nat.mul_one])
      refine (RCompactString_fn w4 hq4.1 hrok hG4.1 hgrb).mono ?_
      rintro _ w5 ⟨rfl,hq5,hu5⟩
      have hx1_5 := hu5.blk_some hx1_4 (by omega)
      have hV5 : Upd (fun b => b = R1 ∨ b = rb) w4 w5 := hu5.mono (fun _ h => .inr h)
      have hU5 : Upd (fun b => b = vb ∨ b = rb) w1 w5 := hU4.trans' hV5 fun i hi h => h.elim (fun h => by omega) .inr
      have hz5 := hV5.size
      have hG5 : Glo ev w5 := hG1.updS hU5 hgM1 hgM2
      obtain ⟨X5,hX5⟩ : ∃ X : Array Value,X = (A1 ++ (([.string ByteArray.empty] : List Value) ++ B1)).toArray := ⟨_,rfl⟩
      have hxb5 : blk w5 R1 = some (X5,9,(0,0)) := by rw [hX5];exact hx1_5
      have hXs5 : j1 + 1 ≤ X5.size := by rw [hX5];simp only [List.size_toArray,List.length_append,List.length_cons,List.length_nil,hA1];omega
      obtain ⟨s3,hs3⟩ : ∃ s,s = (rdStr true s2).2 := ⟨_,rfl⟩
      rw [← hs3] at hq5
      have hrE : (rd1 (rdP d ver true) fListGroupsRequest_0.of fListGroupsRequest_0.sub false true) s2 = ((.oct false (rdStr true s2).1),s3) := by rw [hs3];exact rd1_text
      have hst5_0 : j1 + 1 ≤ X5.size := by omega
      repeat ((first | refine qA rfl ?_|refine qB ?_|refine qC rfl ?_|refine qD ?_|refine qE ?_|refine qF ?_|refine qG ?_|refine qH ?_);try simp (maxSteps:=1000000)(disch:=(first|omega|(simp only [qI,qJ,qK]<;>omega)|exact qL _)) only [go_sem,↓reduceIte,n0,reduceCtorEq,n1,n2,n3,n4,n5,i0,i1,i2,i3,i4,i5,i6,i7,hxb5,hrc0_2,hrc0_7,hrc0_8,hrc0_9,hrc0_10,hrc0_13,hra0,hri0,exitRQ_ret,exitRQ_exit,Int.toNat_natCast,Nat.mul_one,hst5_0])
      generalize hw6 : wr w5 R1 (j1) [strV (rdStr true s2).1] = w6
      have hS6 : Upd (fun b => b = R1 ∨ b = rb) w5 w6 := by rw [← hw6];exact (Upd.refl _ _).wr _ _ (.inr (.inl rfl))
      have hx1_6 : blk w6 R1 = some ((A1 ++ (([strV (rdStr true s2).1] : List Value) ++ B1)).toArray,9,(0,0)) := by rw [← hw6];exact el_blk0 hx1_5 hA1 (Nat.le_of_ble_eq_true rfl)
      have hV6 := hS6
      have hU6 : Upd (fun b => b = vb ∨ b = rb) w1 w6 := hU5.trans' hV6 fun i hi h => h.elim (fun h => by omega) .inr
      have hz6 := hV6.size
      have hG6 : Glo ev w6 := hG1.updS hU6 hgM1 hgM2
      have hq6 : Rdr RT ok w6 rb s3 ∧ NN w6 rb s3 := by
        have hn : ∀ x,x = w6 → (Rdr RT ok x rb s3 ∧ NN x rb s3) := fun x hx => by
          rw [hx,← hw6]
          exact Rdr.store hq5 (by omega) (fun h => by have := (hok _ h).1;first | omega | exact (hok _ h).2 rfl)
        exact hn _ rfl
      obtain ⟨X6,hX6⟩ : ∃ X : Array Value,X = (A1 ++ (([strV (rdStr true s2).1] : List Value) ++ B1)).toArray := ⟨_,rfl⟩
      have hxb6 : blk w6 R1 = some (X6,9,(0,0)) := by rw [hX6];exact hx1_6
      have hXs6 : j1 + 1 ≤ X6.size := by rw [hX6];simp only [List.size_toArray,List.length_append,List.length_cons,List.length_nil,hA1];omega
      clear hw6
      have hxE : (Rep1 (RepS true d) fListGroupsRequest_0.of fListGroupsRequest_0.sub) (fun b => (ok b ∨ w1.heap.size ≤ b) ∧ ¬ ownB va0 b) w6 (.oct false (rdStr true s2).1) [strV (rdStr true s2).1] := Rep1_text.2 rfl
      repeat ((first | refine qA rfl ?_|refine qB ?_|refine qC rfl ?_|refine qD ?_|refine qE ?_|refine qF ?_|refine qG ?_|refine qH ?_);try simp (maxSteps:=1000000)(disch:=(first|omega|(simp only [qI,qJ,qK]<;>omega)|exact qL _)) only [go_sem,↓reduceIte,n0,reduceCtorEq,n1,n2,n3,n4,n5,i0,i1,i2,i3,i4,i5,i6,i7,hxb6,hrc0_2,hrc0_7,hrc0_8,hrc0_9,hrc0_10,hrc0_13,hra0,hri0,exitRQ_ret,exitRQ_exit,Int.toNat_natCast,Nat.mul_one])
      have hTk : Upd (fun b => b = R1 ∨ b = rb) w4 w6 := (hV5.trans hV6)
      have hL' := hL0.step (Rep1_lay _ _ fun _ => RepS_lay true _ _) hlt0 (hnext1 w6 [strV (rdStr true s2).1] rfl hx1_6) (by rw [hrE];exact hxE) (hTk.mono fun b h => h.imp (fun e => ⟨_,_,_,hva1,e⟩) id) (by rw [hrE];exact hq6) (fun h => hoM rb h (.inr rfl)) (Nat.le_refl _)
      have hij : IntKind.i32.wrap ((j1 : Int) + 1) = ((j1 + 1 : Nat) : Int) := by rw [i32_wrap (by omega)];omega
      repeat ((first | refine qA rfl ?_|refine qB ?_|refine qC rfl ?_|refine qD ?_|refine qE ?_|refine qF ?_|refine qG ?_|refine qH ?_);try simp (maxSteps:=1000000)(disch:=(first|omega|(simp only [qI,qJ,qK]<;>omega)|exact qL _)) only [go_sem,↓reduceIte,n0,reduceCtorEq,n1,n2,n3,n4,n5,i0,i1,i2,i3,i4,i5,i6,i7,hxb6,hrc0_2,hrc0_7,hrc0_8,hrc0_9,hrc0_10,hrc0_13,hra0,hri0,exitRQ_ret,exitRQ_exit,Int.toNat_natCast,Nat.mul_one,hij])
      refine ⟨⟨(by simp (maxSteps:=1000000)(disch:=(first|omega|(simp only [qI,qJ,qK]<;>omega)|exact qL _)) only [go_sem,↓reduceIte,n0,reduceCtorEq,n1,n2,n3,n4,n5,i0,i1,i2,i3,i4,i5,i6,i7,Holds_nil,Holds_cons,hrc0_2,hrc0_7,hrc0_8,hrc0_9,hrc0_10,hrc0_13,hra0,hri0];exact hva1.symm),j1 + 1,(by simp (maxSteps:=1000000)(disch:=(first|omega|(simp only [qI,qJ,qK]<;>omega)|exact qL _)) only [go_sem,↓reduceIte,n0,reduceCtorEq,n1,n2,n3,n4,n5,i0,i1,i2,i3,i4,i5,i6,i7,hrc0_2,hrc0_7,hrc0_8,hrc0_9,hrc0_10,hrc0_13,hra0,hri0,hij];all_goals rfl),_,_,_,hL'⟩,?_⟩
      try simp (maxSteps:=1000000)(disch:=(first|omega|(simp only [qI,qJ,qK]<;>omega)|exact qL _)) only [go_sem,↓reduceIte,n0,reduceCtorEq,n1,n2,n3,n4,n5,i0,i1,i2,i3,i4,i5,i6,i7,hrc0_2,hrc0_7,hrc0_8,hrc0_9,hrc0_10,hrc0_13,hra0,hri0]
      simp only [RowKit.intOf]
      omega
    · have hjN : j1 = N0 := by omega
      rw [hjN] at hL0
      repeat ((first | refine qA rfl ?_|refine qB ?_|refine qC rfl ?_|refine qD ?_|refine qE ?_|refine qF ?_|refine qG ?_|refine qH ?_);try simp (maxSteps:=1000000)(disch:=(first|omega|(simp only [qI,qJ,qK]<;>omega)|exact qL _)) only [go_sem,↓reduceIte,n0,reduceCtorEq,n1,n2,n3,n4,n5,i0,i1,i2,i3,i4,i5,i6,i7,hrc0_2,hrc0_7,hrc0_8,hrc0_9,hrc0_10,hrc0_13,hrc0_12,hri0,exitRQ_ret,exitRQ_exit])
      exact ⟨(by simp (maxSteps:=1000000)(disch:=(first|omega|(simp only [qI,qJ,qK]<;>omega)|exact qL _)) only [go_sem,↓reduceIte,n0,reduceCtorEq,n1,n2,n3,n4,n5,i0,i1,i2,i3,i4,i5,i6,i7,Holds_nil,Holds_cons,hrc0_2,hrc0_7,hrc0_8,hrc0_9,hrc0_10,hrc0_13,hrc0_12,hri0]),s2,xs0,css0,hL0⟩
  rintro ρ w7 ⟨⟨hrd0_2,hrd0_7,hrd0_8,hrd0_9,hrd0_10,hrd0_13,hrd0_12,-⟩,s4,xs0,css0,hL0⟩
  have hq7 := hL0.rd
  have hu7 := hL0.upd
  have hv_7 := hu7.blk_some hv_2 (by omega)
  have hV7 : Upd (fun b => b = vb ∨ b = rb) w2 w7 := hu7.mono (fun _ h => .inr h)
  have hU7 : Upd (fun b => b = vb ∨ b = rb) w1 w7 := hU2.trans hV7
  have hz7 := hV7.size
  have hG7 : Glo ev w7 := hG1.updS hU7 hgM1 hgM2
  have hrd0 : rdF (rdP d ver true) ver true fListGroupsRequest_0 s0 = (.mk 0 [] (nilS fListGroupsRequest_0 ver y0) xs0 [],s4) := by
    have h := rdF_listE (pt := (rdP d ver true)) (v := ver) (flex := true) (f := fListGroupsRequest_0) (s := s0) (xs := xs0) (e := s4) rfl (by rw [hy0,← hN0,← hs1];exact hL0.done)
    rw [hy0] at h;exact h
  have hs4 : s4 = (rdF (rdP d ver true) ver true fListGroupsRequest_0 s0).2 := by rw [hrd0]
  obtain ⟨aa0,qq0,hvs0⟩ := hL0.row.shape
  subst hvs0
  repeat ((first | refine qA rfl ?_|refine qB ?_|refine qC rfl ?_|refine qD ?_|refine qE ?_|refine qF ?_|refine qG ?_|refine qH ?_);try simp (maxSteps:=1000000)(disch:=(first|omega|(simp only [qI,qJ,qK]<;>omega)|exact qL _)) only [go_sem,↓reduceIte,n0,reduceCtorEq,n1,n2,n3,n4,n5,i0,i1,i2,i3,i4,i5,i6,i7,hv_7,hrd0_2,hrd0_7,hrd0_8,hrd0_9,hrd0_10,hrd0_13,hrd0_12])
  generalize hw8 : wr w7 vb 1 [.slice aa0 N0 qq0] = w8
  have hS8 : Upd (fun b => b = vb ∨ b = rb) w7 w8 := by rw [← hw8];exact (Upd.refl _ _).wr _ _ (.inr (.inl rfl))
  have hv_8 : blk w8 vb = some (#[.int .i16 ver,.slice aa0 N0 qq0,.slice none 0 0,.map none],105,(0,0)) := by rw [← hw8,blk_wr_eq,hv_7];rfl
  have hV8 := hS8
  have hU8 : Upd (fun b => b = vb ∨ b = rb) w1 w8 := hU7.trans hV8
  have hz8 := hV8.size
  have hG8 : Glo ev w8 := hG1.updS hU8 hgM1 hgM2
  have hq8 : Rdr RT ok w8 rb s4 ∧ NN w8 rb s4 := by
    have hn : ∀ x,x = w8 → (Rdr RT ok x rb s4 ∧ NN x rb s4) := fun x hx => by
      rw [hx,← hw8]
      exact Rdr.store hq7 (by omega) (fun h => by have := (hok _ h).1;first | omega | exact (hok _ h).2 rfl)
    exact hn _ rfl
  clear hw8
  have hf_0 : RepF (RepS true d) (szS true d) fListGroupsRequest_0 (fun b => ok b ∨ w1.heap.size ≤ b) w8 (x_0) [.slice aa0 N0 qq0] := by rw [hx_0,hrd0];exact RepF.keepS (RepF_row rfl hnc0 hN0 rfl hL0.row hL0.all (fun b hb => .inr (by omega))) (hV8.keeps fun b _ hk e => (hoM b hk) e)
  clear hL0 hnc0
  have hb_1 : (rdL (rdP d ver true) (dfP d) ver true [fListGroupsRequest_1] s4).2 = none → FB := fun h => hb_0 (by rw [rdL_st (by decide) hh_0,← hs4];exact h)
  have hh_1 : hasS fListGroupsRequest_1 ver = true := hasS_t (by show (5 : Int) ≤ ver;omega) (by show (-1 : Int) < 0 ∨ ver ≤ (-1 : Int);omega)
  obtain ⟨x_1,hx_1⟩ : ∃ x,x = (rdF (rdP d ver true) ver true fListGroupsRequest_1 s4).1 := ⟨_,rfl⟩
  repeat ((first | refine qA rfl ?_|refine qB ?_|refine qC rfl ?_|refine qD ?_|refine qE ?_|refine qF ?_|refine qG ?_|refine qH ?_);try simp (maxSteps:=1000000)(disch:=(first|omega|(simp only [qI,qJ,qK]<;>omega)|exact qL _)) only [go_sem,↓reduceIte,n0,reduceCtorEq,n1,n2,n3,n4,n5,i0,i1,i2,i3,i4,i5,i6,i7,hv_8,hrd0_2,hrd0_7,hrd0_8,hrd0_9,hrd0_10,hrd0_13,hrd0_12])
  refine (RCompactArrayLen_fn w8 hq8.1 hrok hG8.1 hgrb).mono ?_
  rintro _ w9 ⟨rfl,hq9,hu9⟩
  have hv_9 := hu9.blk_some hv_8 (by omega)
  have hV9 : Upd (fun b => b = vb ∨ b = rb) w8 w9 := hu9.mono (fun _ h => .inr h)
  have hU9 : Upd (fun b => b = vb ∨ b = rb) w1 w9 := hU8.trans hV9
  have hz9 := hV9.size
  have hG9 : Glo ev w9 := hG1.updS hU9 hgM1 hgM2
  obtain ⟨s5,hs5⟩ : ∃ s,s = (rdALen true s4).2 := ⟨_,rfl⟩
  rw [← hs5] at hq9
  have hyr1 := rdALen_rng true s4
  generalize hy1 : (rdALen true s4).1 = y1 at *
  obtain ⟨N1,hN1⟩ : ∃ N,N = y1.toNat := ⟨_,rfl⟩
  have hlb1 : (rdMany (rd1 (rdP d ver true) fListGroupsRequest_1.of fListGroupsRequest_1.sub false true) N1 s5).2 = none → FB := fun h => hb_1 (by rw [rdL_st (by decide) hh_1];exact rdL_bad (rdF_listbad rfl (by rw [hy1,← hN1,← hs5];exact h)))
  repeat ((first | refine W.seqR rfl ?_ | refine W.seq ?_ | refine W.regR rfl ?_ | refine W.block ?_ | refine W.skip ?_ | refine W.ret ?_ | refine W.exit ?_);try simp (maxSteps:=1000000)(disch:=(first|omega|(simp only [qI,qJ,qK]<;>omega)|exact qL _)) only [go_sem,↓reduceIte,n0,reduceCtorEq,n1,n2,n3,n4,n5,i0,i1,i2,i3,i4,i5,i6,i7,hv_9,hrd0_2,hrd0_7,hrd0_8,hrd0_9,hrd0_10,hrd0_13,hrd0_12])
  refine (ROk_fn w9 hq9.1).mono ?_
  rintro _ wz ⟨rfl,hez⟩
  rw [hez]
  clear hez wz
  by_cases hsn1 : s5 = none
  · have hso : s5.isSome = false := by rw [hsn1];rfl
    try simp (maxSteps:=1000000)(disch:=(first|omega|(simp only [qI,qJ,qK]<;>omega)|exact qL _)) only [go_sem,↓reduceIte,n0,reduceCtorEq,n1,n2,n3,n4,n5,i0,i1,i2,i3,i4,i5,i6,i7,hv_9,hrd0_2,hrd0_7,hrd0_8,hrd0_9,hrd0_10,hrd0_13,hrd0_12,hso]
    repeat ((first | refine qA rfl ?_|refine qB ?_|refine qC rfl ?_|refine qD ?_|refine qE ?_|refine qF ?_|refine qG ?_|refine qH ?_);try simp (maxSteps:=1000000)(disch:=(first|omega|(simp only [qI,qJ,qK]<;>omega)|exact qL _)) only [go_sem,↓reduceIte,n0,reduceCtorEq,n1,n2,n3,n4,n5,i0,i1,i2,i3,i4,i5,i6,i7,hv_9,hrd0_2,hrd0_7,hrd0_8,hrd0_9,hrd0_10,hrd0_13,hrd0_12,hso])
    refine (RComplete_fn w9 hq9.1 hG9.2).mono ?_
    rintro _ wz ⟨rfl,hez⟩
    rw [hez]
    try simp (maxSteps:=1000000)(disch:=(first|omega|(simp only [qI,qJ,qK]<;>omega)|exact qL _)) only [go_sem,↓reduceIte,n0,reduceCtorEq,n1,n2,n3,n4,n5,i0,i1,i2,i3,i4,i5,i6,i7,hv_9,hrd0_2,hrd0_7,hrd0_8,hrd0_9,hrd0_10,hrd0_13,hrd0_12]
    repeat ((first | refine qA rfl ?_|refine qB ?_|refine qC rfl ?_|refine qD ?_|refine qE ?_|refine qF ?_|refine qG ?_|refine qH ?_);try simp (maxSteps:=1000000)(disch:=(first|omega|(simp only [qI,qJ,qK]<;>omega)|exact qL _)) only [go_sem,↓reduceIte,n0,reduceCtorEq,n1,n2,n3,n4,n5,i0,i1,i2,i3,i4,i5,i6,i7,hv_9,hrd0_2,hrd0_7,hrd0_8,hrd0_9,hrd0_10,hrd0_13,hrd0_12])
    rw [errV_none hsn1]
    exact ReadQ.bad (Eq.mp hFB (hlb1 (by rw [hsn1];exact rdMany_none rd1P_none _))) (hbase.trans' hU9 fun i hi h => h.elim id fun h => by omega)
  have hso1 : s5.isSome = true := isSome_some hsn1
  try simp (maxSteps:=1000000)(disch:=(first|omega|(simp only [qI,qJ,qK]<;>omega)|exact qL _)) only [go_sem,↓reduceIte,n0,reduceCtorEq,n1,n2,n3,n4,n5,i0,i1,i2,i3,i4,i5,i6,i7,hv_9,hrd0_2,hrd0_7,hrd0_8,hrd0_9,hrd0_10,hrd0_13,hrd0_12,hso1]
  repeat ((first | refine W.seqR rfl ?_ | refine W.seq ?_ | refine W.regR rfl ?_ | refine W.block ?_ | refine W.skip ?_ | refine W.ret ?_ | refine W.exit ?_);try simp (maxSteps:=1000000)(disch:=(first|omega|(simp only [qI,qJ,qK]<;>omega)|exact qL _)) only [go_sem,↓reduceIte,n0,reduceCtorEq,n1,n2,n3,n4,n5,i0,i1,i2,i3,i4,i5,i6,i7,hv_9,hrd0_2,hrd0_7,hrd0_8,hrd0_9,hrd0_10,hrd0_13,hrd0_12,hso1])
  refine W.condK ?_
  try simp (maxSteps:=1000000)(disch:=(first|omega|(simp only [qI,qJ,qK]<;>omega)|exact qL _)) only [go_sem,↓reduceIte,n0,reduceCtorEq,n1,n2,n3,n4,n5,i0,i1,i2,i3,i4,i5,i6,i7,hv_9,hrd0_2,hrd0_7,hrd0_8,hrd0_9,hrd0_10,hrd0_13,hrd0_12,hso1]
  repeat ((first | refine W.seqR rfl ?_ | refine W.seq ?_ | refine W.regR rfl ?_ | refine W.block ?_ | refine W.skip ?_ | refine W.ret ?_ | refine W.exit ?_);try simp (maxSteps:=1000000)(disch:=(first|omega|(simp only [qI,qJ,qK]<;>omega)|exact qL _)) only [go_sem,↓reduceIte,n0,reduceCtorEq,n1,n2,n3,n4,n5,i0,i1,i2,i3,i4,i5,i6,i7,hv_9,hrd0_2,hrd0_7,hrd0_8,hrd0_9,hrd0_10,hrd0_13,hrd0_12,hso1,slBase_00])
  refine W.normJ (RowQ [(2,.bool false),(7,.pointer (some ⟨rb,0,none⟩)),(8,.int .i16 ver),(9,.bool true),(10,.pointer (some ⟨vb,0,none⟩)),(18,.int .i32 y1)] 17 (fun va w' => LstI RT (rd1 (rdP d ver true) fListGroupsRequest_1.of fListGroupsRequest_1.sub false true) (Rep1 (RepS true d) fListGroupsRequest_1.of fListGroupsRequest_1.sub) 1 9 [.string ByteArray.empty] w9.heap.size N1 ok (fun b => ok b ∨ w1.heap.size ≤ b) rb w9 s5 va 0 s5 [] [] w' ∧ (N1 = 0 → if nilS fListGroupsRequest_1 ver y1 = true then va = .slice none 0 0 else ∃ a,va = .slice (some a) 0 0))) ?_ ?_
  · by_cases hy0 : (0 : Int) < y1
    · have hyv : Value.int .i32 y1 = .int .i32 ((N1 : Nat) : Int) := by rw [show y1 = ((N1 : Nat) : Int) by omega]
      repeat ((first | refine qA rfl ?_|refine qB ?_|refine qC rfl ?_|refine qD ?_|refine qE ?_|refine qF ?_|refine qG ?_|refine qH ?_);try simp (maxSteps:=1000000)(disch:=(first|omega|(simp only [qI,qJ,qK]<;>omega)|exact qL _)) only [go_sem,↓reduceIte,n0,reduceCtorEq,n1,n2,n3,n4,n5,i0,i1,i2,i3,i4,i5,i6,i7,hv_9,hrd0_2,hrd0_7,hrd0_8,hrd0_9,hrd0_10,hrd0_13,hrd0_12])
      refine wp_appendZ (m := N1) utListGroupsRequest_103 utListGroupsRequest_21 inListGroupsRequest_9 (by decide) (by first | rfl | simp (maxSteps:=1000000)(disch:=(first|omega|(simp only [qI,qJ,qK]<;>omega)|exact qL _)) only [go_sem,↓reduceIte,n0,reduceCtorEq,n1,n2,n3,n4,n5,i0,i1,i2,i3,i4,i5,i6,i7,hrd0_2,hrd0_7,hrd0_8,hrd0_9,hrd0_10,hrd0_13,hrd0_12]) (by first | exact hyv | (simp (maxSteps:=1000000)(disch:=(first|omega|(simp only [qI,qJ,qK]<;>omega)|exact qL _)) only [go_sem,↓reduceIte,n0,reduceCtorEq,n1,n2,n3,n4,n5,i0,i1,i2,i3,i4,i5,i6,i7,hrd0_2,hrd0_7,hrd0_8,hrd0_9,hrd0_10,hrd0_13,hrd0_12];exact hyv)) (by omega) (by omega) (by decide) ?_
      intro q rest hq1
      have hEw : Ext w9 (w9.drew.alloc (.cells (zs [.string ByteArray.empty] N1 ++ rest).toArray 9)) := (Upd.refl _ _).drew.alloc _
      try simp (maxSteps:=1000000)(disch:=(first|omega|(simp only [qI,qJ,qK]<;>omega)|exact qL _)) only [go_sem,↓reduceIte,n0,reduceCtorEq,n1,n2,n3,n4,n5,i0,i1,i2,i3,i4,i5,i6,i7,hv_9,hrd0_2,hrd0_7,hrd0_8,hrd0_9,hrd0_10,hrd0_13,hrd0_12]
      repeat ((first | refine qA rfl ?_|refine qB ?_|refine qC rfl ?_|refine qD ?_|refine qE ?_|refine qF ?_|refine qG ?_|refine qH ?_);try simp (maxSteps:=1000000)(disch:=(first|omega|(simp only [qI,qJ,qK]<;>omega)|exact qL _)) only [go_sem,↓reduceIte,n0,reduceCtorEq,n1,n2,n3,n4,n5,i0,i1,i2,i3,i4,i5,i6,i7,hv_9,hrd0_2,hrd0_7,hrd0_8,hrd0_9,hrd0_10,hrd0_13,hrd0_12])
      exact ⟨(by simp (maxSteps:=1000000)(disch:=(first|omega|(simp only [qI,qJ,qK]<;>omega)|exact qL _)) only [go_sem,↓reduceIte,n0,reduceCtorEq,n1,n2,n3,n4,n5,i0,i1,i2,i3,i4,i5,i6,i7,Holds_nil,Holds_cons,hrd0_2,hrd0_7,hrd0_8,hrd0_9,hrd0_10,hrd0_13,hrd0_12]),.slice (some ⟨w9.heap.size,0,none⟩) N1 q,(by simp (maxSteps:=1000000)(disch:=(first|omega|(simp only [qI,qJ,qK]<;>omega)|exact qL _)) only [go_sem,↓reduceIte,n0,reduceCtorEq,n1,n2,n3,n4,n5,i0,i1,i2,i3,i4,i5,i6,i7,hrd0_2,hrd0_7,hrd0_8,hrd0_9,hrd0_10,hrd0_13,hrd0_12]),LstI.start (RowJ.start (by omega) hq1 (by show w9.heap.size ≤ w9.drew.heap.size;rw [size_drew];omega) (blk_alloc_new rfl)) ⟨hq9.1.upd hEw (fun h => h) (fun _ _ _ h => h),hq9.2.upd hEw fun h => h⟩ (hEw.mono fun _ h => h.elim),fun h0 => by omega⟩
    · repeat ((first | refine qA rfl ?_|refine qB ?_|refine qC rfl ?_|refine qD ?_|refine qE ?_|refine qF ?_|refine qG ?_|refine qH ?_);try simp (maxSteps:=1000000)(disch:=(first|omega|(simp only [qI,qJ,qK]<;>omega)|exact qL _)) only [go_sem,↓reduceIte,n0,reduceCtorEq,n1,n2,n3,n4,n5,i0,i1,i2,i3,i4,i5,i6,i7,hv_9,hrd0_2,hrd0_7,hrd0_8,hrd0_9,hrd0_10,hrd0_13,hrd0_12])
      exact ⟨(by simp (maxSteps:=1000000)(disch:=(first|omega|(simp only [qI,qJ,qK]<;>omega)|exact qL _)) only [go_sem,↓reduceIte,n0,reduceCtorEq,n1,n2,n3,n4,n5,i0,i1,i2,i3,i4,i5,i6,i7,Holds_nil,Holds_cons,hrd0_2,hrd0_7,hrd0_8,hrd0_9,hrd0_10,hrd0_13,hrd0_12]),.slice none 0 0,(by simp (maxSteps:=1000000)(disch:=(first|omega|(simp only [qI,qJ,qK]<;>omega)|exact qL _)) only [go_sem,↓reduceIte,n0,reduceCtorEq,n1,n2,n3,n4,n5,i0,i1,i2,i3,i4,i5,i6,i7,hrd0_2,hrd0_7,hrd0_8,hrd0_9,hrd0_10,hrd0_13,hrd0_12,slBase_00]),LstI.start (RowJ.zero (by omega) (fun _ h => by cases h)) hq9 (Upd.refl _ _),fun _ => by rw [nilS_plain (by decide) (by omega)];exact rfl⟩
  rintro ρ w10 ⟨⟨hrb1_2,hrb1_7,hrb1_8,hrb1_9,hrb1_10,hrb1_18,-⟩,va1,hra1,hL1,hnc1⟩
  repeat ((first | refine qA rfl ?_|refine qB ?_|refine qC rfl ?_|refine qD ?_|refine qE ?_|refine qF ?_|refine qG ?_|refine qH ?_);try simp (maxSteps:=1000000)(disch:=(first|omega|(simp only [qI,qJ,qK]<;>omega)|exact qL _)) only [go_sem,↓reduceIte,n0,reduceCtorEq,n1,n2,n3,n4,n5,i0,i1,i2,i3,i4,i5,i6,i7,hv_9,hrb1_2,hrb1_7,hrb1_8,hrb1_9,hrb1_10,hrb1_18,hra1,exitRQ_ret,exitRQ_exit,Int.toNat_natCast,Nat.mul_one])
  refine W.exitRJ 2 (EndQ [(2,.bool false),(7,.pointer (some ⟨rb,0,none⟩)),(8,.int .i16 ver),(9,.bool true),(10,.pointer (some ⟨vb,0,none⟩)),(18,.int .i32 y1),(17,va1)] (fun w' => ∃ s xs css,LstI RT (rd1 (rdP d ver true) fListGroupsRequest_1.of fListGroupsRequest_1.sub false true) (Rep1 (RepS true d) fListGroupsRequest_1.of fListGroupsRequest_1.sub) 1 9 [.string ByteArray.empty] w9.heap.size N1 ok (fun b => ok b ∨ w1.heap.size ≤ b) rb w9 s5 va1 N1 s xs css w')) (W.loop (LoopQ [(2,.bool false),(7,.pointer (some ⟨rb,0,none⟩)),(8,.int .i16 ver),(9,.bool true),(10,.pointer (some ⟨vb,0,none⟩)),(18,.int .i32 y1),(17,va1)] 19 (fun j w' => ∃ s xs css,LstI RT (rd1 (rdP d ver true) fListGroupsRequest_1.of fListGroupsRequest_1.sub false true) (Rep1 (RepS true d) fListGroupsRequest_1.of fListGroupsRequest_1.sub) 1 9 [.string ByteArray.empty] w9.heap.size N1 ok (fun b => ok b ∨ w1.heap.size ≤ b) rb w9 s5 va1 j s xs css w')) (fun ρ _ => N1 - (RowKit.intOf (ρ 19)).toNat) ?_ ?_) ?_
  · exact ⟨(by simp (maxSteps:=1000000)(disch:=(first|omega|(simp only [qI,qJ,qK]<;>omega)|exact qL _)) only [go_sem,↓reduceIte,n0,reduceCtorEq,n1,n2,n3,n4,n5,i0,i1,i2,i3,i4,i5,i6,i7,Holds_nil,Holds_cons,hrb1_2,hrb1_7,hrb1_8,hrb1_9,hrb1_10,hrb1_18,hra1]),0,(by simp (maxSteps:=1000000)(disch:=(first|omega|(simp only [qI,qJ,qK]<;>omega)|exact qL _)) only [go_sem,↓reduceIte,n0,reduceCtorEq,n1,n2,n3,n4,n5,i0,i1,i2,i3,i4,i5,i6,i7,hrb1_2,hrb1_7,hrb1_8,hrb1_9,hrb1_10,hrb1_18,hra1];all_goals rfl),s5,[],[],hL1⟩
  · rintro ρ w11 ⟨⟨hrc1_2,hrc1_7,hrc1_8,hrc1_9,hrc1_10,hrc1_18,hrc1_17,-⟩,j1,hri1,s6,xs1,css1,hL1⟩
    have hj1 := hL1.le
    have hq11 := hL1.rd
    have hU11 : Upd (fun b => b = vb ∨ b = rb) w1 w11 := hU9.trans' hL1.upd fun i _ h => .inr h
    have hz11 := hL1.upd.size
    have hG11 : Glo ev w11 := hG1.updS hU11 hgM1 hgM2
    by_cases hlt1 : j1 < N1
    · obtain ⟨R1,q1,B1,hva1,hNq1,hLR1,hA1,hx1_11,hnext1⟩ := hL1.row.next hlt1
      have hRl1 := blk_lt hx1_11
      generalize css1.flatten = A1 at hA1 hx1_11 hnext1
      rw [Nat.mul_one] at hA1
      replace hra1 : ρ 17 = .slice (some ⟨R1,0,none⟩) N1 q1 := hrc1_17.trans hva1
      have hown1 : ∀ b,ownB va1 b → w9.heap.size ≤ b ∧ b < w11.heap.size := fun b h => hL1.row.own h
      have hoM1 : ∀ b,(fun b => (ok b ∨ w1.heap.size ≤ b) ∧ ¬ ownB va1 b) b → ¬ (b = R1 ∨ b = rb) := fun b hk h => h.elim (fun e => hk.2 ⟨_,_,_,hva1,e⟩) (fun e => hoM b hk.1 (.inr e))
      obtain ⟨X11,hX11⟩ : ∃ X : Array Value,X = (A1 ++ (([.string ByteArray.empty] : List Value) ++ B1)).toArray := ⟨_,rfl⟩
      have hxb11 : blk w11 R1 = some (X11,9,(0,0)) := by rw [hX11];exact hx1_11
      have hXs11 : j1 + 1 ≤ X11.size := by rw [hX11];simp only [List.size_toArray,List.length_append,List.length_cons,List.length_nil,hA1];omega
      repeat ((first | refine qA rfl ?_|refine qB ?_|refine qC rfl ?_|refine qD ?_|refine qE ?_|refine qF ?_|refine qG ?_|refine qH ?_);try simp (maxSteps:=1000000)(disch:=(first|omega|(simp only [qI,qJ,qK]<;>omega)|exact qL _)) only [go_sem,↓reduceIte,n0,reduceCtorEq,n1,n2,n3,n4,n5,i0,i1,i2,i3,i4,i5,i6,i7,hxb11,hrc1_2,hrc1_7,hrc1_8,hrc1_9,hrc1_10,hrc1_18,hra1,hri1,exitRQ_ret,exitRQ_exit,Int.toNat_natCast,Nat.mul_one])
      refine (RCompactString_fn w11 hq11.1 hrok hG11.1 hgrb).mono ?_
      rintro _ w12 ⟨rfl,hq12,hu12⟩
      have hx1_12 := hu12.blk_some hx1_11 (by omega)
      have hV12 : Upd (fun b => b = R1 ∨ b = rb) w11 w12 := hu12.mono (fun _ h => .inr h)
      have hU12 : Upd (fun b => b = vb ∨ b = rb) w1 w12 := hU11.trans' hV12 fun i hi h => h.elim (fun h => by omega) .inr
      have hz12 := hV12.size
      have hG12 : Glo ev w12 := hG1.updS hU12 hgM1 hgM2
      obtain ⟨X12,hX12⟩ : ∃ X : Array Value,X = (A1 ++ (([.string ByteArray.empty] : List Value) ++ B1)).toArray := ⟨_,rfl⟩
      have hxb12 : blk w12 R1 = some (X12,9,(0,0)) := by rw [hX12];exact hx1_12
      have hXs12 : j1 + 1 ≤ X12.size := by rw [hX12];simp only [List.size_toArray,List.length_append,List.length_cons,List.length_nil,hA1];omega
      obtain ⟨s7,hs7⟩ : ∃ s,s = (rdStr true s6).2 := ⟨_,rfl⟩
      rw [← hs7] at hq12
      have hrE : (rd1 (rdP d ver true) fListGroupsRequest_1.of fListGroupsRequest_1.sub false true) s6 = ((.oct false (rdStr true s6).1),s7) := by rw [hs7];exact rd1_text
      have hst12_0 : j1 + 1 ≤ X12.size := by omega
      repeat ((first | refine qA rfl ?_|refine qB ?_|refine qC rfl ?_|refine qD ?_|refine qE ?_|refine qF ?_|refine qG ?_|refine qH ?_);try simp (maxSteps:=1000000)(disch:=(first|omega|(simp only [qI,qJ,qK]<;>omega)|exact qL _)) only [go_sem,↓reduceIte,n0,reduceCtorEq,n1,n2,n3,n4,n5,i0,i1,i2,i3,i4,i5,i6,i7,hxb12,hrc1_2,hrc1_7,hrc1_8,hrc1_9,hrc1_10,hrc1_18,hra1,hri1,exitRQ_ret,exitRQ_exit,Int.toNat_natCast,Nat.mul_one,hst12_0])
      generalize hw13 : wr w12 R1 (j1) [strV (rdStr true s6).1] = w13
      have hS13 : Upd (fun b => b = R1 ∨ b = rb) w12 w13 := by rw [← hw13];exact (Upd.refl _ _).wr _ _ (.inr (.inl rfl))
      have hx1_13 : blk w13 R1 = some ((A1 ++ (([strV (rdStr true s6).1] : List Value) ++ B1)).toArray,9,(0,0)) := by rw [← hw13];exact el_blk0 hx1_12 hA1 (Nat.le_of_ble_eq_true rfl)
      have hV13 := hS13
      have hU13 : Upd (fun b => b = vb ∨ b = rb) w1 w13 := hU12.trans' hV13 fun i hi h => h.elim (fun h => by omega) .inr
      have hz13 := hV13.size
      have hG13 : Glo ev w13 := hG1.updS hU13 hgM1 hgM2
      have hq13 : Rdr RT ok w13 rb s7 ∧ NN w13 rb s7 := by
        have hn : ∀ x,x = w13 → (Rdr RT ok x rb s7 ∧ NN x rb s7) := fun x hx => by
          rw [hx,← hw13]
          exact Rdr.store hq12 (by omega) (fun h => by have := (hok _ h).1;first | omega | exact (hok _ h).2 rfl)
        exact hn _ rfl
      obtain ⟨X13,hX13⟩ : ∃ X : Array Value,X = (A1 ++ (([strV (rdStr true s6).1] : List Value) ++ B1)).toArray := ⟨_,rfl⟩
      have hxb13 : blk w13 R1 = some (X13,9,(0,0)) := by rw [hX13];exact hx1_13
      have hXs13 : j1 + 1 ≤ X13.size := by rw [hX13];simp only [List.size_toArray,List.length_append,List.length_cons,List.length_nil,hA1];omega
      clear hw13
      have hxE : (Rep1 (RepS true d) fListGroupsRequest_1.of fListGroupsRequest_1.sub) (fun b => (ok b ∨ w1.heap.size ≤ b) ∧ ¬ ownB va1 b) w13 (.oct false (rdStr true s6).1) [strV (rdStr true s6).1] := Rep1_text.2 rfl
      repeat ((first | refine qA rfl ?_|refine qB ?_|refine qC rfl ?_|refine qD ?_|refine qE ?_|refine qF ?_|refine qG ?_|refine qH ?_);try simp (maxSteps:=1000000)(disch:=(first|omega|(simp only [qI,qJ,qK]<;>omega)|exact qL _)) only [go_sem,↓reduceIte,n0,reduceCtorEq,n1,n2,n3,n4,n5,i0,i1,i2,i3,i4,i5,i6,i7,hxb13,hrc1_2,hrc1_7,hrc1_8,hrc1_9,hrc1_10,hrc1_18,hra1,hri1,exitRQ_ret,exitRQ_exit,Int.toNat_natCast,Nat.mul_one])
      have hTk : Upd (fun b => b = R1 ∨ b = rb) w11 w13 := (hV12.trans hV13)
      have hL' := hL1.step (Rep1_lay _ _ fun _ => RepS_lay true _ _) hlt1 (hnext1 w13 [strV (rdStr true s6).1] rfl hx1_13) (by rw [hrE];exact hxE) (hTk.mono fun b h => h.imp (fun e => ⟨_,_,_,hva1,e⟩) id) (by rw [hrE];exact hq13) (fun h => hoM rb h (.inr rfl)) (Nat.le_refl _)
      have hij : IntKind.i32.wrap ((j1 : Int) + 1) = ((j1 + 1 : Nat) : Int) := by rw [i32_wrap (by omega)];omega
      repeat ((first | refine qA rfl ?_|refine qB ?_|refine qC rfl ?_|refine qD ?_|refine qE ?_|refine qF ?_|refine qG ?_|refine qH ?_);try simp (maxSteps:=1000000)(disch:=(first|omega|(simp only [qI,qJ,qK]<;>omega)|exact qL _)) only [go_sem,↓reduceIte,n0,reduceCtorEq,n1,n2,n3,n4,n5,i0,i1,i2,i3,i4,i5,i6,i7,hxb13,hrc1_2,hrc1_7,hrc1_8,hrc1_9,hrc1_10,hrc1_18,hra1,hri1,exitRQ_ret,exitRQ_exit,Int.toNat_natCast,Nat.mul_one,hij])
      refine ⟨⟨(by simp (maxSteps:=1000000)(disch:=(first|omega|(simp only [qI,qJ,qK]<;>omega)|exact qL _)) only [go_sem,↓reduceIte,n0,reduceCtorEq,n1,n2,n3,n4,n5,i0,i1,i2,i3,i4,i5,i6,i7,Holds_nil,Holds_cons,hrc1_2,hrc1_7,hrc1_8,hrc1_9,hrc1_10,hrc1_18,hra1,hri1];exact hva1.symm),j1 + 1,(by simp (maxSteps:=1000000)(disch:=(first|omega|(simp only [qI,qJ,qK]<;>omega)|exact qL _)) only [go_sem,↓reduceIte,n0,reduceCtorEq,n1,n2,n3,n4,n5,i0,i1,i2,i3,i4,i5,i6,i7,hrc1_2,hrc1_7,hrc1_8,hrc1_9,hrc1_10,hrc1_18,hra1,hri1,hij];all_goals rfl),_,_,_,hL'⟩,?_⟩
      try simp (maxSteps:=1000000)(disch:=(first|omega|(simp only [qI,qJ,qK]<;>omega)|exact qL _)) only [go_sem,↓reduceIte,n0,reduceCtorEq,n1,n2,n3,n4,n5,i0,i1,i2,i3,i4,i5,i6,i7,hrc1_2,hrc1_7,hrc1_8,hrc1_9,hrc1_10,hrc1_18,hra1,hri1]
      simp only [RowKit.intOf]
      omega
    · have hjN : j1 = N1 := by omega
      rw [hjN] at hL1
      repeat ((first | refine qA rfl ?_|refine qB ?_|refine qC rfl ?_|refine qD ?_|refine qE ?_|refine qF ?_|refine qG ?_|refine qH ?_);try simp (maxSteps:=1000000)(disch:=(first|omega|(simp only [qI,qJ,qK]<;>omega)|exact qL _)) only [go_sem,↓reduceIte,n0,reduceCtorEq,n1,n2,n3,n4,n5,i0,i1,i2,i3,i4,i5,i6,i7,hrc1_2,hrc1_7,hrc1_8,hrc1_9,hrc1_10,hrc1_18,hrc1_17,hri1,exitRQ_ret,exitRQ_exit])
      exact ⟨(by simp (maxSteps:=1000000)(disch:=(first|omega|(simp only [qI,qJ,qK]<;>omega)|exact qL _)) only [go_sem,↓reduceIte,n0,reduceCtorEq,n1,n2,n3,n4,n5,i0,i1,i2,i3,i4,i5,i6,i7,Holds_nil,Holds_cons,hrc1_2,hrc1_7,hrc1_8,hrc1_9,hrc1_10,hrc1_18,hrc1_17,hri1]),s6,xs1,css1,hL1⟩
  rintro ρ w14 ⟨⟨hrd1_2,hrd1_7,hrd1_8,hrd1_9,hrd1_10,hrd1_18,hrd1_17,-⟩,s8,xs1,css1,hL1⟩
  have hq14 := hL1.rd
  have hu14 := hL1.upd
  have hv_14 := hu14.blk_some hv_9 (by omega)
  have hV14 : Upd (fun b => b = vb ∨ b = rb) w9 w14 := hu14.mono (fun _ h => .inr h)
  have hU14 : Upd (fun b => b = vb ∨ b = rb) w1 w14 := hU9.trans hV14
  have hz14 := hV14.size
  have hG14 : Glo ev w14 := hG1.updS hU14 hgM1 hgM2
  have hrd1 : rdF (rdP d ver true) ver true fListGroupsRequest_1 s4 = (.mk 0 [] (nilS fListGroupsRequest_1 ver y1) xs1 [],s8) := by
    have h := rdF_listE (pt := (rdP d ver true)) (v := ver) (flex := true) (f := fListGroupsRequest_1) (s := s4) (xs := xs1) (e := s8) rfl (by rw [hy1,← hN1,← hs5];exact hL1.done)
    rw [hy1] at h;exact h
  have hs8 : s8 = (rdF (rdP d ver true) ver true fListGroupsRequest_1 s4).2 := by rw [hrd1]
  obtain ⟨aa1,qq1,hvs1⟩ := hL1.row.shape
  subst hvs1
  repeat ((first | refine qA rfl ?_|refine qB ?_|refine qC rfl ?_|refine qD ?_|refine qE ?_|refine qF ?_|refine qG ?_|refine qH ?_);try simp (maxSteps:=1000000)(disch:=(first|omega|(simp only [qI,qJ,qK]<;>omega)|exact qL _)) only [go_sem,↓reduceIte,n0,reduceCtorEq,n1,n2,n3,n4,n5,i0,i1,i2,i3,i4,i5,i6,i7,hv_14,hrd1_2,hrd1_7,hrd1_8,hrd1_9,hrd1_10,hrd1_18,hrd1_17])
  generalize hw15 : wr w14 vb 2 [.slice aa1 N1 qq1] = w15
  have hS15 : Upd (fun b => b = vb ∨ b = rb) w14 w15 := by rw [← hw15];exact (Upd.refl _ _).wr _ _ (.inr (.inl rfl))
  have hv_15 : blk w15 vb = some (#[.int .i16 ver,.slice aa0 N0 qq0,.slice aa1 N1 qq1,.map none],105,(0,0)) := by rw [← hw15,blk_wr_eq,hv_14];rfl
  have hV15 := hS15
  have hU15 : Upd (fun b => b = vb ∨ b = rb) w1 w15 := hU14.trans hV15
  have hz15 := hV15.size
  have hG15 : Glo ev w15 := hG1.updS hU15 hgM1 hgM2
  have hq15 : Rdr RT ok w15 rb s8 ∧ NN w15 rb s8 := by
    have hn : ∀ x,x = w15 → (Rdr RT ok x rb s8 ∧ NN x rb s8) := fun x hx => by
      rw [hx,← hw15]
      exact Rdr.store hq14 (by omega) (fun h => by have := (hok _ h).1;first | omega | exact (hok _ h).2 rfl)
    exact hn _ rfl
  clear hw15
  have hf_1 : RepF (RepS true d) (szS true d) fListGroupsRequest_1 (fun b => ok b ∨ w1.heap.size ≤ b) w15 (x_1) [.slice aa1 N1 qq1] := by rw [hx_1,hrd1];exact RepF.keepS (RepF_row rfl hnc1 hN1 rfl hL1.row hL1.all (fun b hb => .inr (by omega))) (hV15.keeps fun b _ hk e => (hoM b hk) e)
  clear hL1 hnc1
  have hl_2 : rdL (rdP d ver true) (dfP d) ver true [] s8 = ([],s8) := rfl
  have hl_1 : rdL (rdP d ver true) (dfP d) ver true [fListGroupsRequest_1] s4 = ([x_1],s8) := by rw [rdL_st (by decide) hh_1,← hx_1,← hs8,hl_2]
  have hl_0 : rdL (rdP d ver true) (dfP d) ver true [fListGroupsRequest_0,fListGroupsRequest_1] s0 = ([x_0,x_1],s8) := by rw [rdL_st (by decide) hh_0,← hx_0,← hs4,hl_1]
  have hfin : rdP (d + 1) ver true fs_ListGroupsRequest s0 = (.mk 0 [] false [x_0,x_1] (rdTags s8).1,(rdTags s8).2) := rdP_t hl_0
  repeat ((first | refine qA rfl ?_|refine qB ?_|refine qC rfl ?_|refine qD ?_|refine qE ?_|refine qF ?_|refine qG ?_|refine qH ?_);try simp (maxSteps:=1000000)(disch:=(first|omega|(simp only [qI,qJ,qK]<;>omega)|exact qL _)) only [go_sem,↓reduceIte,n0,reduceCtorEq,n1,n2,n3,n4,n5,i0,i1,i2,i3,i4,i5,i6,i7,hv_15,hrd1_2,hrd1_7,hrd1_8,hrd1_9,hrd1_10,hrd1_18,hrd1_17])
  refine (ReadTags_fn w15 hq15.1 hrok).mono ?_
  rintro _ w16 ⟨qm,rfl,hT16,hTn,hq16,hu16⟩
  have hv_16 := hu16.blk_some hv_15 (by omega)
  have hV16 : Upd (fun b => b = vb ∨ b = rb) w15 w16 := hu16.mono (fun _ h => .inr h)
  have hU16 : Upd (fun b => b = vb ∨ b = rb) w1 w16 := hU15.trans hV16
  have hz16 := hV16.size
  have hG16 : Glo ev w16 := hG1.updS hU16 hgM1 hgM2
  obtain ⟨s9,hs9⟩ : ∃ s,s = (rdTags s8).2 := ⟨_,rfl⟩
  rw [← hs9] at hq16 hfin
  try simp (maxSteps:=1000000)(disch:=(first|omega|(simp only [qI,qJ,qK]<;>omega)|exact qL _)) only [go_sem,↓reduceIte,n0,reduceCtorEq,n1,n2,n3,n4,n5,i0,i1,i2,i3,i4,i5,i6,i7,hv_16,hrd1_2,hrd1_7,hrd1_8,hrd1_9,hrd1_10,hrd1_18,hrd1_17]
  repeat ((first | refine qA rfl ?_|refine qB ?_|refine qC rfl ?_|refine qD ?_|refine qE ?_|refine qF ?_|refine qG ?_|refine qH ?_);try simp (maxSteps:=1000000)(disch:=(first|omega|(simp only [qI,qJ,qK]<;>omega)|exact qL _)) only [go_sem,↓reduceIte,n0,reduceCtorEq,n1,n2,n3,n4,n5,i0,i1,i2,i3,i4,i5,i6,i7,hv_16,hrd1_2,hrd1_7,hrd1_8,hrd1_9,hrd1_10,hrd1_18,hrd1_17])
  generalize hw17 : wr w16 vb 3 [.map qm] = w17
  have hS17 : Upd (fun b => b = vb ∨ b = rb) w16 w17 := by rw [← hw17];exact (Upd.refl _ _).wr _ _ (.inr (.inl rfl))
  have hv_17 : blk w17 vb = some (#[.int .i16 ver,.slice aa0 N0 qq0,.slice aa1 N1 qq1,.map qm],105,(0,0)) := by rw [← hw17,blk_wr_eq,hv_16];rfl
  have hV17 := hS17
  have hU17 : Upd (fun b => b = vb ∨ b = rb) w1 w17 := hU16.trans hV17
  have hz17 := hV17.size
  have hG17 : Glo ev w17 := hG1.updS hU17 hgM1 hgM2
  have hq17 : Rdr RT ok w17 rb s9 ∧ NN w17 rb s9 := by
    have hn : ∀ x,x = w17 → (Rdr RT ok x rb s9 ∧ NN x rb s9) := fun x hx => by
      rw [hx,← hw17]
      exact Rdr.store hq16 (by omega) (fun h => by have := (hok _ h).1;first | omega | exact (hok _ h).2 rfl)
    exact hn _ rfl
  clear hw17
  have hTg : TagsM (fun b => ok b ∨ w1.heap.size ≤ b) w17 (.map qm) (rdTags s8).1 := (hT16.weaken fun b _ hk => hk.elim (fun hk => .inl hk) (fun h => by have h' : w15.heap.size ≤ b := h;exact .inr (by omega))).keep (hV17.keeps fun b _ hk e => (hoM b hk) e)
  have hC_17 : Upd (fun b => b = vb ∨ b = rb) w17 w17 := Upd.refl _ _
  have hC_16 : Upd (fun b => b = vb ∨ b = rb) w16 w17 := hV17.trans hC_17
  have hC_15 : Upd (fun b => b = vb ∨ b = rb) w15 w17 := hV16.trans hC_16
  have hC_14 : Upd (fun b => b = vb ∨ b = rb) w14 w17 := hV15.trans hC_15
  have hC_9 : Upd (fun b => b = vb ∨ b = rb) w9 w17 := hV14.trans hC_14
  have hC_8 : Upd (fun b => b = vb ∨ b = rb) w8 w17 := hV9.trans hC_9
  have hC_7 : Upd (fun b => b = vb ∨ b = rb) w7 w17 := hV8.trans hC_8
  have hC_2 : Upd (fun b => b = vb ∨ b = rb) w2 w17 := hV7.trans hC_7
  have hC_1 : Upd (fun b => b = vb ∨ b = rb) w1 w17 := hV2.trans hC_2
  have hR : RepS true (d + 1) fs_ListGroupsRequest (fun b => ok b ∨ w1.heap.size ≤ b) w17 (.mk 0 [] false [x_0,x_1] (rdTags s8).1) [.slice aa0 N0 qq0,.slice aa1 N1 qq1,.map qm] := RepS.introT (c := [.slice aa0 N0 qq0,.slice aa1 N1 qq1]) (RepL.cons1 (hf_0.keepS (hC_8.keeps fun b _ hk e => (hoM b hk) e)) (RepL.cons1 (hf_1.keepS (hC_15.keeps fun b _ hk e => (hoM b hk) e)) RepL.nil)) hTg
  repeat ((first | refine qA rfl ?_|refine qB ?_|refine qC rfl ?_|refine qD ?_|refine qE ?_|refine qF ?_|refine qG ?_|refine qH ?_);try simp (maxSteps:=1000000)(disch:=(first|omega|(simp only [qI,qJ,qK]<;>omega)|exact qL _)) only [go_sem,↓reduceIte,n0,reduceCtorEq,n1,n2,n3,n4,n5,i0,i1,i2,i3,i4,i5,i6,i7,hv_17,hrd1_2,hrd1_7,hrd1_8,hrd1_9,hrd1_10,hrd1_18,hrd1_17])
  refine (RComplete_fn w17 hq17.1 hG17.2).mono ?_
  rintro _ wz ⟨rfl,hez⟩
  rw [hez]
  repeat ((first | refine qA rfl ?_|refine qB ?_|refine qC rfl ?_|refine qD ?_|refine qE ?_|refine qF ?_|refine qG ?_|refine qH ?_);try simp (maxSteps:=1000000)(disch:=(first|omega|(simp only [qI,qJ,qK]<;>omega)|exact qL _)) only [go_sem,↓reduceIte,n0,reduceCtorEq,n1,n2,n3,n4,n5,i0,i1,i2,i3,i4,i5,i6,i7,hv_17,hrd1_2,hrd1_7,hrd1_8,hrd1_9,hrd1_10,hrd1_18,hrd1_17])
  rw [hfin]
  refine ⟨fun h => ?_,fun h => ⟨?_,[.slice aa0 N0 qq0,.slice aa1 N1 qq1,.map qm],hv_17,?_⟩,?_⟩
  · have h' : s9 = none := h
    rw [h'];rfl
  · cases hsn : s9 with
    | none => exact absurd hsn h
    | some x => rfl
  · exact (RepS_lay true (d + 1) fs_ListGroupsRequest).weaken hR fun b _ hk => hk.imp id fun h => by omega
  · exact hbase.trans' hU17 fun i hi h => h.elim id fun h => by omega
end Ms

namespace Ms
open Go.World renaming size_alloc → qI
open Ms renaming size_wr → qJ,size_drew → qK,not_noB → qL
open W renaming seqR → qA,seq → qB,regR → qC,condK → qD,block → qE,skip → qF,ret → qG,exit → qH
open Nat renaming reduceEqDiff → n0,reduceAdd → n1,reduceMul → n2,reduceSub → n3,reduceLT → n4,reduceLeDiff → n5
open Int renaming reduceEq → i0,reduceLT → i1,reduceLE → i2,reduceNeg → i3,reduceAdd → i4,reduceSub → i5,reduceMul → i6,reduceToNat → i7
set_option maxRecDepth 8000
open Go Go.Proofs Go.Shelf
attribute [local congr] W_congr WPsq_congr WPp_congr optK_congr addrK_congr intK_congr boolK_congr sliceK_congr tupleK_congr funcK_congr Fn_congr rawK_congr takeK_congr stepK_congr convK_congr aggK_congr

theorem ReadFromListGroupsRequest_fn {d : Nat} {ok : Blocks} {ver : Int} {ev : Value} (hlo : 0 ≤ ver) (hhi : ver ≤ 5) (w : World) {vb : Nat} (src : Value) (s : List UInt8) (hv : blk w vb = some (#[.int .i16 ver,.slice none 0 0,.slice none 0 0,.map none],105,(0,0))) (hsrc : BytesV ok w src s) (hok0 : ∀ b,ok b → b < w.heap.size ∧ b ≠ vb) (hG : Glo ev w) (hgv : ¬ 0 = vb ∧ ¬ 1 = vb) :
    Fn Tryd.prog 51 #[.pointer (some ⟨vb,0,none⟩),src] w (ReadQ 105 ok ver (d + 1) fs_ListGroupsRequest vb w (rdP (d + 1) ver (flexB 3 ver) fs_ListGroupsRequest (some s)) ev) := by
  obtain ⟨sa,sc,rfl,_⟩ := hsrc.shape
  refine fn_of_W Tryd.func51 rfl Tryd.results51 Tryd.ntmps51 rfl ?_
  repeat ((first | refine qA rfl ?_|refine qB ?_|refine qC rfl ?_|refine qD ?_|refine qE ?_|refine qF ?_|refine qG ?_|refine qH ?_);try simp (maxSteps:=1000000)(disch:=(first|omega|(simp only [qI,qJ,qK]<;>omega)|exact qL _)) only [go_sem,↓reduceIte,n0,reduceCtorEq,n1,n2,n3,n4,n5,i0,i1,i2,i3,i4,i5,i6,i7])
  have hcl : (0 ≤ ver ∧ ver ≤ 2) ∨ (3 ≤ ver ∧ ver ≤ 3) ∨ (4 ≤ ver ∧ ver ≤ 4) ∨ (5 ≤ ver ∧ ver ≤ 5) := by omega
  rcases hcl with ⟨h1,h2⟩ | ⟨h1,h2⟩ | ⟨h1,h2⟩ | ⟨h1,h2⟩
  · have hfl : flexB 3 ver = false := by simp only [flexB,Bool.and_eq_false_iff,decide_eq_false_iff_not];omega
    rw [hfl]
    refine (readListGroupsRequest_0 (d := d) h1 h2 w _ s hv hsrc hok0 hG hgv).mono ?_
    rintro r5 w5 h5
    repeat ((first | refine qA rfl ?_|refine qB ?_|refine qC rfl ?_|refine qD ?_|refine qE ?_|refine qF ?_|refine qG ?_|refine qH ?_);try simp (maxSteps:=1000000)(disch:=(first|omega|(simp only [qI,qJ,qK]<;>omega)|exact qL _)) only [go_sem,↓reduceIte,n0,reduceCtorEq,n1,n2,n3,n4,n5,i0,i1,i2,i3,i4,i5,i6,i7])
    all_goals exact h5
  · have hfl : flexB 3 ver = true := by simp only [flexB,Bool.and_eq_true,decide_eq_true_eq];omega
    rw [hfl]
    refine (readListGroupsRequest_1 (d := d) h1 h2 w _ s hv hsrc hok0 hG hgv).mono ?_
    rintro r5 w5 h5
    repeat ((first | refine qA rfl ?_|refine qB ?_|refine qC rfl ?_|refine qD ?_|refine qE ?_|refine qF ?_|refine qG ?_|refine qH ?_);try simp (maxSteps:=1000000)(disch:=(first|omega|(simp only [qI,qJ,qK]<;>omega)|exact qL _)) only [go_sem,↓reduceIte,n0,reduceCtorEq,n1,n2,n3,n4,n5,i0,i1,i2,i3,i4,i5,i6,i7])
    all_goals exact h5
  · have hfl : flexB 3 ver = true := by simp only [flexB,Bool.and_eq_true,decide_eq_true_eq];omega
    rw [hfl]
    refine (readListGroupsRequest_2 (d := d) h1 h2 w _ s hv hsrc hok0 hG hgv).mono ?_
    rintro r5 w5 h5
    repeat ((first | refine qA rfl ?_|refine qB ?_|refine qC rfl ?_|refine qD ?_|refine qE ?_|refine qF ?_|refine qG ?_|refine qH ?_);try simp (maxSteps:=1000000)(disch:=(first|omega|(simp only [qI,qJ,qK]<;>omega)|exact qL _)) only [go_sem,↓reduceIte,n0,reduceCtorEq,n1,n2,n3,n4,n5,i0,i1,i2,i3,i4,i5,i6,i7])
    all_goals exact h5
  · have hfl : flexB 3 ver = true := by simp only [flexB,Bool.and_eq_true,decide_eq_true_eq];omega
    rw [hfl]
    refine (readListGroupsRequest_3 (d := d) h1 h2 w _ s hv hsrc hok0 hG hgv).mono ?_
    rintro r5 w5 h5
    repeat ((first | refine qA rfl ?_|refine qB ?_|refine qC rfl ?_|refine qD ?_|refine qE ?_|refine qF ?_|refine qG ?_|refine qH ?_);try simp (maxSteps:=1000000)(disch:=(first|omega|(simp only [qI,qJ,qK]<;>omega)|exact qL _)) only [go_sem,↓reduceIte,n0,reduceCtorEq,n1,n2,n3,n4,n5,i0,i1,i2,i3,i4,i5,i6,i7])
    all_goals exact h5

end Ms

