/- A part of the proof: see the last text. -/
import Derived.Test.YthekgkekchicgaaDoorWriteTxnMarkersRequestP0
set_option linter.unusedSimpArgs false
set_option linter.unusedVariables false
namespace Ms
open Go.World renaming size_alloc → qI
open Ms renaming size_wr → qJ,size_drew → qK,not_noB → qL
open W renaming seqR → qA,seq → qB,regR → qC,condK → qD,block → qE,skip → qF,ret → qG,exit → qH
open Nat renaming reduceEqDiff → n0,reduceAdd → n1,reduceMul → n2,reduceSub → n3,reduceLT → n4,reduceLeDiff → n5
open Int renaming reduceEq → i0,reduceLT → i1,reduceLE → i2,reduceNeg → i3,reduceAdd → i4,reduceSub → i5,reduceMul → i6,reduceToNat → i7
set_option maxRecDepth 8000
open Go Go.Proofs Go.Shelf
attribute [local congr] W_congr WPsq_congr WPp_congr optK_congr addrK_congr intK_congr boolK_congr sliceK_congr tupleK_congr funcK_congr Fn_congr rawK_congr takeK_congr stepK_congr convK_congr aggK_congr

set_option maxHeartbeats 24000000 in
theorem readWriteTxnMarkersRequest_1b {un : Bool} {d : Nat} {ok : Blocks} {ver : Int} {ev : Value} (hlo : 1 ≤ ver) (hhi : ver ≤ 1) (w : World) {vb : Nat} (src : Value) (s : List UInt8) (hv : blk w vb = some (#[.int .i16 ver,.slice none 0 0,.map none],166,(0,0))) (hsrc : BytesV ok w src s) (hok0 : ∀ b,ok b → b < w.heap.size ∧ b ≠ vb) (hG : Glo ev w) (hgv : ¬ 0 = vb ∧ ¬ 1 = vb) :
    Fn Tryd.prog 171 #[.pointer (some ⟨vb,0,none⟩),src,.bool un] w (ReadQ 166 ok ver (d + 3) fs_WriteTxnMarkersRequest vb w (rdP (d + 3) ver true fs_WriteTxnMarkersRequest (some s)) ev) := by
  have hcs : ((un = true) = True ∧ (un = false) = False) ∨ ((un = true) = False ∧ (un = false) = True) := by cases un <;> simp
  rcases hcs with ⟨hun,hun'⟩ | ⟨hun,hun'⟩
  all_goals
    have hvl := blk_lt hv
    have hgs := hG.lt
    obtain ⟨sa,sc,rfl,_⟩ := hsrc.shape
    refine fn_of_W Tryd.func171 rfl Tryd.results171 Tryd.ntmps171 rfl ?_
    repeat ((first | refine qA rfl ?_|refine qB ?_|refine qC rfl ?_|refine qD ?_|refine qE ?_|refine qF ?_|refine qG ?_|refine qH ?_);try simp (maxSteps:=1000000)(disch:=(first|omega|(simp only [qI,qJ,qK]<;>omega)|exact qL _)) only [go_sem,↓reduceIte,n0,reduceCtorEq,n1,n2,n3,n4,n5,i0,i1,i2,i3,i4,i5,i6,i7,hv])
    refine (DefaultWriteTxnMarkersRequest_fn w hv).mono ?_
    rintro _ w0 ⟨hv0,hu0⟩
    have hz0 := hu0.size
    have hsrc0 : BytesV ok w0 (.slice sa s.length sc) s := hsrc.keep (hu0.keeps fun b _ hk e => (hok0 b hk).2 e)
    obtain ⟨rb,hrb⟩ : ∃ r,r = w0.heap.size := ⟨_,rfl⟩
    have hE1 : Ext w0 (wr (w0.alloc (.cells #[.slice none 0 0,.bool false] 224)) w0.heap.size 0 [.slice sa s.length sc,.bool false]) := (Upd.alloc (Upd.refl _ _) _).wr _ _ (.inl (Nat.le_refl _))
    have hz1 : (wr (w0.alloc (.cells #[.slice none 0 0,.bool false] 224)) w0.heap.size 0 [.slice sa s.length sc,.bool false]).heap.size = w0.heap.size + 1 := by rw [size_wr,World.size_alloc]
    have hR1 : Rdr RT ok (wr (w0.alloc (.cells #[.slice none 0 0,.bool false] 224)) w0.heap.size 0 [.slice sa s.length sc,.bool false]) w0.heap.size (some s) := Rdr.good (v := .slice sa s.length sc) (by simp (maxSteps:=1000000)(disch:=(first|omega|(simp only [qI,qJ,qK]<;>omega)|exact qL _)) only [go_sem,↓reduceIte,n0,reduceCtorEq,n1,n2,n3,n4,n5,i0,i1,i2,i3,i4,i5,i6,i7]) (hsrc0.keep (hE1.keeps _))
    have hv_1 := hE1.blk_some hv0 id
    repeat ((first | refine qA rfl ?_|refine qB ?_|refine qC rfl ?_|refine qD ?_|refine qE ?_|refine qF ?_|refine qG ?_|refine qH ?_);try simp (maxSteps:=1000000)(disch:=(first|omega|(simp only [qI,qJ,qK]<;>omega)|exact qL _)) only [go_sem,↓reduceIte,n0,reduceCtorEq,n1,n2,n3,n4,n5,i0,i1,i2,i3,i4,i5,i6,i7,hv0])
    generalize (wr (w0.alloc (.cells #[.slice none 0 0,.bool false] 224)) w0.heap.size 0 [.slice sa s.length sc,.bool false]) = w1 at *
    rw [← hrb] at hR1
    try rw [← hrb]
    have hok : ∀ b,ok b → b < w.heap.size ∧ b ≠ vb := hok0
    have hrok : ¬ ok rb := fun h => by have := (hok rb h).1;omega
    have hbase : Upd (fun b => b = vb) w w1 := hu0.trans (hE1.mono fun _ h => h.elim)
    have hG1 : Glo ev w1 := hG.updS hbase hgv.1 hgv.2
    have hgrb : ¬ 0 = rb := by omega
    have hgM1 : ¬ (0 = vb ∨ 0 = rb) := fun h => h.elim hgv.1 fun h => by omega
    have hgM2 : ¬ (1 = vb ∨ 1 = rb) := fun h => h.elim hgv.2 fun h => by omega
    obtain ⟨s0,hs0⟩ : ∃ s' : St,s' = some s := ⟨_,rfl⟩
    rw [← hs0] at hR1 ⊢
    have hU1 : Upd (fun b => b = vb ∨ b = rb) w1 w1 := Upd.refl _ _
    have hoM : ∀ b,(ok b ∨ w1.heap.size ≤ b) → ¬ (b = vb ∨ b = rb) := fun b hk h => by
      rcases hk with hk | hk
      · have := hok b hk;rcases h with h | h <;> omega
      · rcases h with h | h <;> omega
    have hq1 : Rdr RT ok w1 rb s0 := hR1
    obtain ⟨FB,hFB⟩ : ∃ P : Prop,P = ((rdP (d + 3) ver true fs_WriteTxnMarkersRequest s0).2 = none) := ⟨_,rfl⟩
    have hb_0 : (rdL (rdP (d + 2) ver true) (dfP (d + 2)) ver true [fWriteTxnMarkersRequest_0] s0).2 = none → FB := fun h => Eq.mpr hFB (rdP_bad h)
    have hh_0 : hasS fWriteTxnMarkersRequest_0 ver = true := hasS_t (by show (0 : Int) ≤ ver;omega) (by show (-1 : Int) < 0 ∨ ver ≤ (-1 : Int);omega)
    obtain ⟨x_0,hx_0⟩ : ∃ x,x = (rdF (rdP (d + 2) ver true) ver true fWriteTxnMarkersRequest_0 s0).1 := ⟨_,rfl⟩
    repeat ((first | refine qA rfl ?_|refine qB ?_|refine qC rfl ?_|refine qD ?_|refine qE ?_|refine qF ?_|refine qG ?_|refine qH ?_);try simp (maxSteps:=1000000)(disch:=(first|omega|(simp only [qI,qJ,qK]<;>omega)|exact qL _)) only [go_sem,↓reduceIte,n0,reduceCtorEq,n1,n2,n3,n4,n5,i0,i1,i2,i3,i4,i5,i6,i7,hv_1,hun,hun'])
    refine (RCompactArrayLen_fn w1 hq1 hrok hG1.1 hgrb).mono ?_
    rintro _ w2 ⟨rfl,hq2,hu2⟩
    have hv_2 := hu2.blk_some hv_1 (by omega)
    have hV2 : Upd (fun b => b = vb ∨ b = rb) w1 w2 := hu2.mono (fun _ h => .inr h)
    have hU2 : Upd (fun b => b = vb ∨ b = rb) w1 w2 := hU1.trans hV2
    have hz2 := hV2.size
    have hG2 : Glo ev w2 := hG1.updS hU2 hgM1 hgM2
    obtain ⟨s1,hs1⟩ : ∃ s,s = (rdALen true s0).2 := ⟨_,rfl⟩
    rw [← hs1] at hq2
    have hyr0 := rdALen_rng true s0
    generalize hy0 : (rdALen true s0).1 = y0 at *
    obtain ⟨N0,hN0⟩ : ∃ N,N = y0.toNat := ⟨_,rfl⟩
    have hlb0 : (rdMany (rd1 (rdP (d + 2) ver true) fWriteTxnMarkersRequest_0.of fWriteTxnMarkersRequest_0.sub false true) N0 s1).2 = none → FB := fun h => hb_0 (by rw [rdL_st (by decide) hh_0];exact rdL_bad (rdF_listbad rfl (by rw [hy0,← hN0,← hs1];exact h)))
    repeat ((first | refine W.seqR rfl ?_ | refine W.seq ?_ | refine W.regR rfl ?_ | refine W.block ?_ | refine W.skip ?_ | refine W.ret ?_ | refine W.exit ?_);try simp (maxSteps:=1000000)(disch:=(first|omega|(simp only [qI,qJ,qK]<;>omega)|exact qL _)) only [go_sem,↓reduceIte,n0,reduceCtorEq,n1,n2,n3,n4,n5,i0,i1,i2,i3,i4,i5,i6,i7,hv_2,hun,hun'])
    refine (ROk_fn w2 hq2.1).mono ?_
    rintro _ wz ⟨rfl,hez⟩
    rw [hez]
    clear hez wz
    by_cases hsn0 : s1 = none
    · have hso : s1.isSome = false := by rw [hsn0];rfl
      try simp (maxSteps:=1000000)(disch:=(first|omega|(simp only [qI,qJ,qK]<;>omega)|exact qL _)) only [go_sem,↓reduceIte,n0,reduceCtorEq,n1,n2,n3,n4,n5,i0,i1,i2,i3,i4,i5,i6,i7,hv_2,hun,hun',hso]
      repeat ((first | refine qA rfl ?_|refine qB ?_|refine qC rfl ?_|refine qD ?_|refine qE ?_|refine qF ?_|refine qG ?_|refine qH ?_);try simp (maxSteps:=1000000)(disch:=(first|omega|(simp only [qI,qJ,qK]<;>omega)|exact qL _)) only [go_sem,↓reduceIte,n0,reduceCtorEq,n1,n2,n3,n4,n5,i0,i1,i2,i3,i4,i5,i6,i7,hv_2,hun,hun',hso])
      refine (RComplete_fn w2 hq2.1 hG2.2).mono ?_
      rintro _ wz ⟨rfl,hez⟩
      rw [hez]
      try simp (maxSteps:=1000000)(disch:=(first|omega|(simp only [qI,qJ,qK]<;>omega)|exact qL _)) only [go_sem,↓reduceIte,n0,reduceCtorEq,n1,n2,n3,n4,n5,i0,i1,i2,i3,i4,i5,i6,i7,hv_2,hun,hun']
      repeat ((first | refine qA rfl ?_|refine qB ?_|refine qC rfl ?_|refine qD ?_|refine qE ?_|refine qF ?_|refine qG ?_|refine qH ?_);try simp (maxSteps:=1000000)(disch:=(first|omega|(simp only [qI,qJ,qK]<;>omega)|exact qL _)) only [go_sem,↓reduceIte,n0,reduceCtorEq,n1,n2,n3,n4,n5,i0,i1,i2,i3,i4,i5,i6,i7,hv_2,hun,hun'])
      rw [errV_none hsn0]
      exact ReadQ.bad (Eq.mp hFB (hlb0 (by rw [hsn0];exact rdMany_none rd1P_none _))) (hbase.trans' hU2 fun i hi h => h.elim id fun h => by omega)
    have hso0 : s1.isSome = true := isSome_some hsn0
    try simp (maxSteps:=1000000)(disch:=(first|omega|(simp only [qI,qJ,qK]<;>omega)|exact qL _)) only [go_sem,↓reduceIte,n0,reduceCtorEq,n1,n2,n3,n4,n5,i0,i1,i2,i3,i4,i5,i6,i7,hv_2,hun,hun',hso0]
    repeat ((first | refine W.seqR rfl ?_ | refine W.seq ?_ | refine W.regR rfl ?_ | refine W.block ?_ | refine W.skip ?_ | refine W.ret ?_ | refine W.exit ?_);try simp (maxSteps:=1000000)(disch:=(first|omega|(simp only [qI,qJ,qK]<;>omega)|exact qL _)) only [go_sem,↓reduceIte,n0,reduceCtorEq,n1,n2,n3,n4,n5,i0,i1,i2,i3,i4,i5,i6,i7,hv_2,hun,hun',hso0])
    refine W.condK ?_
    try simp (maxSteps:=1000000)(disch:=(first|omega|(simp only [qI,qJ,qK]<;>omega)|exact qL _)) only [go_sem,↓reduceIte,n0,reduceCtorEq,n1,n2,n3,n4,n5,i0,i1,i2,i3,i4,i5,i6,i7,hv_2,hun,hun',hso0]
    repeat ((first | refine W.seqR rfl ?_ | refine W.seq ?_ | refine W.regR rfl ?_ | refine W.block ?_ | refine W.skip ?_ | refine W.ret ?_ | refine W.exit ?_);try simp (maxSteps:=1000000)(disch:=(first|omega|(simp only [qI,qJ,qK]<;>omega)|exact qL _)) only [go_sem,↓reduceIte,n0,reduceCtorEq,n1,n2,n3,n4,n5,i0,i1,i2,i3,i4,i5,i6,i7,hv_2,hun,hun',hso0,slBase_00])
    refine W.normJ (RowQ [(2,.bool un),(7,.pointer (some ⟨rb,0,none⟩)),(8,.int .i16 ver),(9,.bool true),(10,.pointer (some ⟨vb,0,none⟩)),(13,.int .i32 y0)] 12 (fun va w' => LstI RT (rd1 (rdP (d + 2) ver true) fWriteTxnMarkersRequest_0.of fWriteTxnMarkersRequest_0.sub false true) (Rep1 (RepS true (d + 2)) fWriteTxnMarkersRequest_0.of fWriteTxnMarkersRequest_0.sub) 7 171 [.int .i64 0,.int .i16 0,.bool false,.slice none 0 0,.int .i32 0,.int .i8 0,.map none] w2.heap.size N0 ok (fun b => ok b ∨ w1.heap.size ≤ b) rb w2 s1 va 0 s1 [] [] w' ∧ (N0 = 0 → if nilS fWriteTxnMarkersRequest_0 ver y0 = true then va = .slice none 0 0 else ∃ a,va = .slice (some a) 0 0))) ?_ ?_
    · by_cases hy0 : (0 : Int) < y0
      · have hyv : Value.int .i32 y0 = .int .i32 ((N0 : Nat) : Int) := by rw [show y0 = ((N0 : Nat) : Int) by omega]
        repeat ((first | refine qA rfl ?_|refine qB ?_|refine qC rfl ?_|refine qD ?_|refine qE ?_|refine qF ?_|refine qG ?_|refine qH ?_);try simp (maxSteps:=1000000)(disch:=(first|omega|(simp only [qI,qJ,qK]<;>omega)|exact qL _)) only [go_sem,↓reduceIte,n0,reduceCtorEq,n1,n2,n3,n4,n5,i0,i1,i2,i3,i4,i5,i6,i7,hv_2,hun,hun'])
        refine wp_appendZ (m := N0) utWriteTxnMarkersRequest_164 utWriteTxnMarkersRequest_21 inWriteTxnMarkersRequest_171 (by decide) (by first | rfl | simp (maxSteps:=1000000)(disch:=(first|omega|(simp only [qI,qJ,qK]<;>omega)|exact qL _)) only [go_sem,↓reduceIte,n0,reduceCtorEq,n1,n2,n3,n4,n5,i0,i1,i2,i3,i4,i5,i6,i7]) (by first | exact hyv | (simp (maxSteps:=1000000)(disch:=(first|omega|(simp only [qI,qJ,qK]<;>omega)|exact qL _)) only [go_sem,↓reduceIte,n0,reduceCtorEq,n1,n2,n3,n4,n5,i0,i1,i2,i3,i4,i5,i6,i7];exact hyv)) (by omega) (by omega) (by decide) ?_
        intro q rest hq1
        have hEw : Ext w2 (w2.drew.alloc (.cells (zs [.int .i64 0,.int .i16 0,.bool false,.slice none 0 0,.int .i32 0,.int .i8 0,.map none] N0 ++ rest).toArray 171)) := (Upd.refl _ _).drew.alloc _
        try simp (maxSteps:=1000000)(disch:=(first|omega|(simp only [qI,qJ,qK]<;>omega)|exact qL _)) only [go_sem,↓reduceIte,n0,reduceCtorEq,n1,n2,n3,n4,n5,i0,i1,i2,i3,i4,i5,i6,i7,hv_2,hun,hun']
        repeat ((first | refine qA rfl ?_|refine qB ?_|refine qC rfl ?_|refine qD ?_|refine qE ?_|refine qF ?_|refine qG ?_|refine qH ?_);try simp (maxSteps:=1000000)(disch:=(first|omega|(simp only [qI,qJ,qK]<;>omega)|exact qL _)) only [go_sem,↓reduceIte,n0,reduceCtorEq,n1,n2,n3,n4,n5,i0,i1,i2,i3,i4,i5,i6,i7,hv_2,hun,hun'])
        exact ⟨(by simp (maxSteps:=1000000)(disch:=(first|omega|(simp only [qI,qJ,qK]<;>omega)|exact qL _)) only [go_sem,↓reduceIte,n0,reduceCtorEq,n1,n2,n3,n4,n5,i0,i1,i2,i3,i4,i5,i6,i7,Holds_nil,Holds_cons]),.slice (some ⟨w2.heap.size,0,none⟩) N0 q,(by simp (maxSteps:=1000000)(disch:=(first|omega|(simp only [qI,qJ,qK]<;>omega)|exact qL _)) only [go_sem,↓reduceIte,n0,reduceCtorEq,n1,n2,n3,n4,n5,i0,i1,i2,i3,i4,i5,i6,i7]),LstI.start (RowJ.start (by omega) hq1 (by show w2.heap.size ≤ w2.drew.heap.size;rw [size_drew];omega) (blk_alloc_new rfl)) ⟨hq2.1.upd hEw (fun h => h) (fun _ _ _ h => h),hq2.2.upd hEw fun h => h⟩ (hEw.mono fun _ h => h.elim),fun h0 => by omega⟩
      · repeat ((first | refine qA rfl ?_|refine qB ?_|refine qC rfl ?_|refine qD ?_|refine qE ?_|refine qF ?_|refine qG ?_|refine qH ?_);try simp (maxSteps:=1000000)(disch:=(first|omega|(simp only [qI,qJ,qK]<;>omega)|exact qL _)) only [go_sem,↓reduceIte,n0,reduceCtorEq,n1,n2,n3,n4,n5,i0,i1,i2,i3,i4,i5,i6,i7,hv_2,hun,hun'])
        exact ⟨(by simp (maxSteps:=1000000)(disch:=(first|omega|(simp only [qI,qJ,qK]<;>omega)|exact qL _)) only [go_sem,↓reduceIte,n0,reduceCtorEq,n1,n2,n3,n4,n5,i0,i1,i2,i3,i4,i5,i6,i7,Holds_nil,Holds_cons]),.slice none 0 0,(by simp (maxSteps:=1000000)(disch:=(first|omega|(simp only [qI,qJ,qK]<;>omega)|exact qL _)) only [go_sem,↓reduceIte,n0,reduceCtorEq,n1,n2,n3,n4,n5,i0,i1,i2,i3,i4,i5,i6,i7,slBase_00]),LstI.start (RowJ.zero (by omega) (fun _ h => by cases h)) hq2 (Upd.refl _ _),fun _ => by rw [nilS_plain (by decide) (by omega)];exact rfl⟩
    rintro ρ w3 ⟨⟨hrb0_2,hrb0_7,hrb0_8,hrb0_9,hrb0_10,hrb0_13,-⟩,va0,hra0,hL0,hnc0⟩
    repeat ((first | refine qA rfl ?_|refine qB ?_|refine qC rfl ?_|refine qD ?_|refine qE ?_|refine qF ?_|refine qG ?_|refine qH ?_);try simp (maxSteps:=1000000)(disch:=(first|omega|(simp only [qI,qJ,qK]<;>omega)|exact qL _)) only [go_sem,↓reduceIte,n0,reduceCtorEq,n1,n2,n3,n4,n5,i0,i1,i2,i3,i4,i5,i6,i7,hv_2,hrb0_2,hrb0_7,hrb0_8,hrb0_9,hrb0_10,hrb0_13,hra0,exitRQ_ret,exitRQ_exit,Int.toNat_natCast,Nat.mul_one,hun,hun'])
    refine W.exitRJ 0 (EndQ [(2,.bool un),(7,.pointer (some ⟨rb,0,none⟩)),(8,.int .i16 ver),(9,.bool true),(10,.pointer (some ⟨vb,0,none⟩)),(13,.int .i32 y0),(12,va0)] (fun w' => ∃ s xs css,LstI RT (rd1 (rdP (d + 2) ver true) fWriteTxnMarkersRequest_0.of fWriteTxnMarkersRequest_0.sub false true) (Rep1 (RepS true (d + 2)) fWriteTxnMarkersRequest_0.of fWriteTxnMarkersRequest_0.sub) 7 171 [.int .i64 0,.int .i16 0,.bool false,.slice none 0 0,.int .i32 0,.int .i8 0,.map none] w2.heap.size N0 ok (fun b => ok b ∨ w1.heap.size ≤ b) rb w2 s1 va0 N0 s xs css w')) (W.loop (LoopQ [(2,.bool un),(7,.pointer (some ⟨rb,0,none⟩)),(8,.int .i16 ver),(9,.bool true),(10,.pointer (some ⟨vb,0,none⟩)),(13,.int .i32 y0),(12,va0)] 14 (fun j w' => ∃ s xs css,LstI RT (rd1 (rdP (d + 2) ver true) fWriteTxnMarkersRequest_0.of fWriteTxnMarkersRequest_0.sub false true) (Rep1 (RepS true (d + 2)) fWriteTxnMarkersRequest_0.of fWriteTxnMarkersRequest_0.sub) 7 171 [.int .i64 0,.int .i16 0,.bool false,.slice none 0 0,.int .i32 0,.int .i8 0,.map none] w2.heap.size N0 ok (fun b => ok b ∨ w1.heap.size ≤ b) rb w2 s1 va0 j s xs css w')) (fun ρ _ => N0 - (RowKit.intOf (ρ 14)).toNat) ?_ ?_) ?_
    · exact ⟨(by simp (maxSteps:=1000000)(disch:=(first|omega|(simp only [qI,qJ,qK]<;>omega)|exact qL _)) only [go_sem,↓reduceIte,n0,reduceCtorEq,n1,n2,n3,n4,n5,i0,i1,i2,i3,i4,i5,i6,i7,Holds_nil,Holds_cons,hrb0_2,hrb0_7,hrb0_8,hrb0_9,hrb0_10,hrb0_13,hra0]),0,(by simp (maxSteps:=1000000)(disch:=(first|omega|(simp only [qI,qJ,qK]<;>omega)|exact qL _)) only [go_sem,↓reduceIte,n0,reduceCtorEq,n1,n2,n3,n4,n5,i0,i1,i2,i3,i4,i5,i6,i7,hrb0_2,hrb0_7,hrb0_8,hrb0_9,hrb0_10,hrb0_13,hra0];all_goals rfl),s1,[],[],hL0⟩
    · rintro ρ w4 ⟨⟨hrc0_2,hrc0_7,hrc0_8,hrc0_9,hrc0_10,hrc0_13,hrc0_12,-⟩,j1,hri0,s2,xs0,css0,hL0⟩
      have hj0 := hL0.le
      have hq4 := hL0.rd
      have hU4 : Upd (fun b => b = vb ∨ b = rb) w1 w4 := hU2.trans' hL0.upd fun i _ h => .inr h
      have hz4 := hL0.upd.size
      have hG4 : Glo ev w4 := hG1.updS hU4 hgM1 hgM2
      by_cases hlt0 : j1 < N0
      · obtain ⟨R1,q1,B1,hva1,hNq1,hLR1,hA1,hx1_4,hnext1⟩ := hL0.row.next hlt0
        have hRl1 := blk_lt hx1_4
        generalize css0.flatten = A1 at hA1 hx1_4 hnext1
        replace hra0 : ρ 12 = .slice (some ⟨R1,0,none⟩) N0 q1 := hrc0_12.trans hva1
        have hown1 : ∀ b,ownB va0 b → w2.heap.size ≤ b ∧ b < w4.heap.size := fun b h => hL0.row.own h
        have hoM1 : ∀ b,(fun b => (ok b ∨ w1.heap.size ≤ b) ∧ ¬ ownB va0 b) b → ¬ (b = R1 ∨ b = rb) := fun b hk h => h.elim (fun e => hk.2 ⟨_,_,_,hva1,e⟩) (fun e => hoM b hk.1 (.inr e))
        obtain ⟨X4,hX4⟩ : ∃ X : Array Value,X = (A1 ++ (([.int .i64 0,.int .i16 0,.bool false,.slice none 0 0,.int .i32 0,.int .i8 0,.map none] : List Value) ++ B1)).toArray := ⟨_,rfl⟩
        have hxb4 : blk w4 R1 = some (X4,171,(0,0)) := by rw [hX4];exact hx1_4
        have hXs4 : j1 * 7 + 7 ≤ X4.size := by rw [hX4];simp only [List.size_toArray,List.length_append,List.length_cons,List.length_nil,hA1];omega
        repeat ((first | refine qA rfl ?_|refine qB ?_|refine qC rfl ?_|refine qD ?_|refine qE ?_|refine qF ?_|refine qG ?_|refine qH ?_);try simp (maxSteps:=1000000)(disch:=(first|omega|(simp only [qI,qJ,qK]<;>omega)|exact qL _)) only [go_sem,↓reduceIte,n0,reduceCtorEq,n1,n2,n3,n4,n5,i0,i1,i2,i3,i4,i5,i6,i7,hxb4,hrc0_2,hrc0_7,hrc0_8,hrc0_9,hrc0_10,hrc0_13,hra0,hri0,exitRQ_ret,exitRQ_exit,Int.toNat_natCast,Nat.mul_one,hun,hun'])
        refine (DefaultEX1_fn w4 hx1_4 hA1).mono ?_
        rintro _ w5 ⟨hx1_5,hu5⟩
        have hq5 := And.intro (hq4.1.upd hu5 (by omega) (fun b _ hk e => by have := (hok b hk).1;omega)) (hq4.2.upd hu5 (by omega))
        have hV5 : Upd (fun b => b = R1 ∨ b = rb) w4 w5 := hu5.mono (fun _ h => .inl h)
        have hU5 : Upd (fun b => b = vb ∨ b = rb) w1 w5 := hU4.trans' hV5 fun i hi h => h.elim (fun h => by omega) .inr
        have hz5 := hV5.size
        have hG5 : Glo ev w5 := hG1.updS hU5 hgM1 hgM2
        obtain ⟨X5,hX5⟩ : ∃ X : Array Value,X = (A1 ++ (([.int .i64 0,.int .i16 0,.bool false,.slice none 0 0,.int .i32 0,.int .i8 0,.map none] : List Value) ++ B1)).toArray := ⟨_,rfl⟩
        have hxb5 : blk w5 R1 = some (X5,171,(0,0)) := by rw [hX5];exact hx1_5
        have hXs5 : j1 * 7 + 7 ≤ X5.size := by rw [hX5];simp only [List.size_toArray,List.length_append,List.length_cons,List.length_nil,hA1];omega
        have hbe0_0 : (rdL (rdP (d + 1) ver true) (dfP (d + 1)) ver true [fX1_0,fX1_1,fX1_2,fX1_3,fX1_4,fX1_5] s2).2 = none → FB := fun h => hlb0 (hL0.bad hlt0 rd1P_none (by show (rd1 (rdP (d + 2) ver true) 10 fs_X1 false true s2).2 = none;rw [rd1_part];exact rdP_bad h))
        have hhe0_0 : hasS fX1_0 ver = true := hasS_t (by show (0 : Int) ≤ ver;omega) (by show (-1 : Int) < 0 ∨ ver ≤ (-1 : Int);omega)
        obtain ⟨xe0_0,hxe0_0⟩ : ∃ x,x = (rdF (rdP (d + 1) ver true) ver true fX1_0 s2).1 := ⟨_,rfl⟩
        repeat ((first | refine qA rfl ?_|refine qB ?_|refine qC rfl ?_|refine qD ?_|refine qE ?_|refine qF ?_|refine qG ?_|refine qH ?_);try simp (maxSteps:=1000000)(disch:=(first|omega|(simp only [qI,qJ,qK]<;>omega)|exact qL _)) only [go_sem,↓reduceIte,n0,reduceCtorEq,n1,n2,n3,n4,n5,i0,i1,i2,i3,i4,i5,i6,i7,hxb5,hrc0_2,hrc0_7,hrc0_8,hrc0_9,hrc0_10,hrc0_13,hra0,hri0,exitRQ_ret,exitRQ_exit,Int.toNat_natCast,Nat.mul_one,hun,hun'])
        have hrd : rdF (rdP (d + 1) ver true) ver true fX1_0 s2 = _ := rdF_num 4 rfl (by decide)
        refine (Int64_fn w5 hq5.1 hrok hG5.1 hgrb).mono ?_
        rintro _ w6 ⟨rfl,hq6,hu6⟩
        have hx1_6 := hu6.blk_some hx1_5 (by omega)
        have hV6 : Upd (fun b => b = R1 ∨ b = rb) w5 w6 := hu6.mono (fun _ h => .inr h)
        have hU6 : Upd (fun b => b = vb ∨ b = rb) w1 w6 := hU5.trans' hV6 fun i hi h => h.elim (fun h => by omega) .inr
        have hz6 := hV6.size
        have hG6 : Glo ev w6 := hG1.updS hU6 hgM1 hgM2
        obtain ⟨X6,hX6⟩ : ∃ X : Array Value,X = (A1 ++ (([.int .i64 0,.int .i16 0,.bool false,.slice none 0 0,.int .i32 0,.int .i8 0,.map none] : List Value) ++ B1)).toArray := ⟨_,rfl⟩
        have hxb6 : blk w6 R1 = some (X6,171,(0,0)) := by rw [hX6];exact hx1_6
        have hXs6 : j1 * 7 + 7 ≤ X6.size := by rw [hX6];simp only [List.size_toArray,List.length_append,List.length_cons,List.length_nil,hA1];omega
        have hst : (rdF (rdP (d + 1) ver true) ver true fX1_0 s2).2 = (rdInt .i64 8 s2).2 := by first | (rw [hrd];rfl) | rw [hrd]
        obtain ⟨s3,hs3⟩ : ∃ s,s = (rdF (rdP (d + 1) ver true) ver true fX1_0 s2).2 := ⟨_,rfl⟩
        rw [← hst,← hs3] at hq6
        clear hst
        have hst6_0 : j1 * 7 + 1 ≤ X6.size := by omega
        have hld6_3 : X6[j1 * 7 + 3]? = some (.slice none 0 0) := by rw [hX6];exact el_cell (R := 0) hA1 (Nat.le_of_ble_eq_true rfl)
        repeat ((first | refine qA rfl ?_|refine qB ?_|refine qC rfl ?_|refine qD ?_|refine qE ?_|refine qF ?_|refine qG ?_|refine qH ?_);try simp (maxSteps:=1000000)(disch:=(first|omega|(simp only [qI,qJ,qK]<;>omega)|exact qL _)) only [go_sem,↓reduceIte,n0,reduceCtorEq,n1,n2,n3,n4,n5,i0,i1,i2,i3,i4,i5,i6,i7,hxb6,hrc0_2,hrc0_7,hrc0_8,hrc0_9,hrc0_10,hrc0_13,hra0,hri0,exitRQ_ret,exitRQ_exit,Int.toNat_natCast,Nat.mul_one,hun,hun',hst6_0,hld6_3,Array.getElem?_setIfInBounds_ne])
        generalize hw7 : wr w6 R1 (j1 * 7) [.int .i64 (rdInt .i64 8 s2).1] = w7
        have hS7 : Upd (fun b => b = R1 ∨ b = rb) w6 w7 := by rw [← hw7];exact (Upd.refl _ _).wr _ _ (.inr (.inl rfl))
        have hx1_7 : blk w7 R1 = some ((A1 ++ (([.int .i64 (rdInt .i64 8 s2).1,.int .i16 0,.bool false,.slice none 0 0,.int .i32 0,.int .i8 0,.map none] : List Value) ++ B1)).toArray,171,(0,0)) := by rw [← hw7];exact el_blk0 hx1_6 hA1 (Nat.le_of_ble_eq_true rfl)
        have hV7 := hS7
        have hU7 : Upd (fun b => b = vb ∨ b = rb) w1 w7 := hU6.trans' hV7 fun i hi h => h.elim (fun h => by omega) .inr
        have hz7 := hV7.size
        have hG7 : Glo ev w7 := hG1.updS hU7 hgM1 hgM2
        have hq7 : Rdr RT ok w7 rb s3 ∧ NN w7 rb s3 := by
          have hn : ∀ x,x = w7 → (Rdr RT ok x rb s3 ∧ NN x rb s3) := fun x hx => by
            rw [hx,← hw7]
            exact Rdr.store hq6 (by omega) (fun h => by have := (hok _ h).1;first | omega | exact (hok _ h).2 rfl)
          exact hn _ rfl
        obtain ⟨X7,hX7⟩ : ∃ X : Array Value,X = (A1 ++ (([.int .i64 (rdInt .i64 8 s2).1,.int .i16 0,.bool false,.slice none 0 0,.int .i32 0,.int .i8 0,.map none] : List Value) ++ B1)).toArray := ⟨_,rfl⟩
        have hxb7 : blk w7 R1 = some (X7,171,(0,0)) := by rw [hX7];exact hx1_7
        have hXs7 : j1 * 7 + 7 ≤ X7.size := by rw [hX7];simp only [List.size_toArray,List.length_append,List.length_cons,List.length_nil,hA1];omega
        clear hw7
        have hfe0_0 : RepF (RepS true (d + 1)) (szS true (d + 1)) fX1_0 (fun b => (ok b ∨ w1.heap.size ≤ b) ∧ ¬ ownB va0 b) w7 (xe0_0) [.int .i64 (rdInt .i64 8 s2).1] := (RepF_num (by decide)).2 (by rw [hxe0_0,hrd];exact congrArg (fun x => [x]) (numC_rd 4 (by decide) 8 s2).symm)
        clear hrd
        have hbe0_1 : (rdL (rdP (d + 1) ver true) (dfP (d + 1)) ver true [fX1_1,fX1_2,fX1_3,fX1_4,fX1_5] s3).2 = none → FB := fun h => hbe0_0 (by rw [rdL_st (by decide) hhe0_0,← hs3];exact h)
        have hhe0_1 : hasS fX1_1 ver = true := hasS_t (by show (0 : Int) ≤ ver;omega) (by show (-1 : Int) < 0 ∨ ver ≤ (-1 : Int);omega)
        obtain ⟨xe0_1,hxe0_1⟩ : ∃ x,x = (rdF (rdP (d + 1) ver true) ver true fX1_1 s3).1 := ⟨_,rfl⟩
        repeat ((first | refine qA rfl ?_|refine qB ?_|refine qC rfl ?_|refine qD ?_|refine qE ?_|refine qF ?_|refine qG ?_|refine qH ?_);try simp (maxSteps:=1000000)(disch:=(first|omega|(simp only [qI,qJ,qK]<;>omega)|exact qL _)) only [go_sem,↓reduceIte,n0,reduceCtorEq,n1,n2,n3,n4,n5,i0,i1,i2,i3,i4,i5,i6,i7,hxb7,hrc0_2,hrc0_7,hrc0_8,hrc0_9,hrc0_10,hrc0_13,hra0,hri0,exitRQ_ret,exitRQ_exit,Int.toNat_natCast,Nat.mul_one,hun,hun'])
        have hrd : rdF (rdP (d + 1) ver true) ver true fX1_1 s3 = _ := rdF_num 2 rfl (by decide)
        refine (Int16_fn w7 hq7.1 hrok hG7.1 hgrb).mono ?_
        rintro _ w8 ⟨rfl,hq8,hu8⟩
        have hx1_8 := hu8.blk_some hx1_7 (by omega)
        have hV8 : Upd (fun b => b = R1 ∨ b = rb) w7 w8 := hu8.mono (fun _ h => .inr h)
        have hU8 : Upd (fun b => b = vb ∨ b = rb) w1 w8 := hU7.trans' hV8 fun i hi h => h.elim (fun h => by omega) .inr
        have hz8 := hV8.size
        have hG8 : Glo ev w8 := hG1.updS hU8 hgM1 hgM2
        obtain ⟨X8,hX8⟩ : ∃ X : Array Value,X = (A1 ++ (([.int .i64 (rdInt .i64 8 s2).1,.int .i16 0,.bool false,.slice none 0 0,.int .i32 0,.int .i8 0,.map none] : List Value) ++ B1)).toArray := ⟨_,rfl⟩
        have hxb8 : blk w8 R1 = some (X8,171,(0,0)) := by rw [hX8];exact hx1_8
        have hXs8 : j1 * 7 + 7 ≤ X8.size := by rw [hX8];simp only [List.size_toArray,List.length_append,List.length_cons,List.length_nil,hA1];omega
        have hst : (rdF (rdP (d + 1) ver true) ver true fX1_1 s3).2 = (rdInt .i16 2 s3).2 := by first | (rw [hrd];rfl) | rw [hrd]
        obtain ⟨s4,hs4⟩ : ∃ s,s = (rdF (rdP (d + 1) ver true) ver true fX1_1 s3).2 := ⟨_,rfl⟩
        rw [← hst,← hs4] at hq8
        clear hst
        have hst8_1 : j1 * 7 + 2 ≤ X8.size := by omega
        have hld8_3 : X8[j1 * 7 + 3]? = some (.slice none 0 0) := by rw [hX8];exact el_cell (R := 0) hA1 (Nat.le_of_ble_eq_true rfl)
        repeat ((first | refine qA rfl ?_|refine qB ?_|refine qC rfl ?_|refine qD ?_|refine qE ?_|refine qF ?_|refine qG ?_|refine qH ?_);try simp (maxSteps:=1000000)(disch:=(first|omega|(simp only [qI,qJ,qK]<;>omega)|exact qL _)) only [go_sem,↓reduceIte,n0,reduceCtorEq,n1,n2,n3,n4,n5,i0,i1,i2,i3,i4,i5,i6,i7,hxb8,hrc0_2,hrc0_7,hrc0_8,hrc0_9,hrc0_10,hrc0_13,hra0,hri0,exitRQ_ret,exitRQ_exit,Int.toNat_natCast,Nat.mul_one,hun,hun',hst8_1,hld8_3,Array.getElem?_setIfInBounds_ne])
        generalize hw9 : wr w8 R1 (j1 * 7 + 1) [.int .i16 (rdInt .i16 2 s3).1] = w9
        have hS9 : Upd (fun b => b = R1 ∨ b = rb) w8 w9 := by rw [← hw9];exact (Upd.refl _ _).wr _ _ (.inr (.inl rfl))
        have hx1_9 : blk w9 R1 = some ((A1 ++ (([.int .i64 (rdInt .i64 8 s2).1,.int .i16 (rdInt .i16 2 s3).1,.bool false,.slice none 0 0,.int .i32 0,.int .i8 0,.map none] : List Value) ++ B1)).toArray,171,(0,0)) := by rw [← hw9];exact el_blk (o := 1) hx1_8 hA1 (Nat.le_of_ble_eq_true rfl)
        have hV9 := hS9
        have hU9 : Upd (fun b => b = vb ∨ b = rb) w1 w9 := hU8.trans' hV9 fun i hi h => h.elim (fun h => by omega) .inr
        have hz9 := hV9.size
        have hG9 : Glo ev w9 := hG1.updS hU9 hgM1 hgM2
        have hq9 : Rdr RT ok w9 rb s4 ∧ NN w9 rb s4 := by
          have hn : ∀ x,x = w9 → (Rdr RT ok x rb s4 ∧ NN x rb s4) := fun x hx => by
            rw [hx,← hw9]
            exact Rdr.store hq8 (by omega) (fun h => by have := (hok _ h).1;first | omega | exact (hok _ h).2 rfl)
          exact hn _ rfl
        obtain ⟨X9,hX9⟩ : ∃ X : Array Value,X = (A1 ++ (([.int .i64 (rdInt .i64 8 s2).1,.int .i16 (rdInt .i16 2 s3).1,.bool false,.slice none 0 0,.int .i32 0,.int .i8 0,.map none] : List Value) ++ B1)).toArray := ⟨_,rfl⟩
        have hxb9 : blk w9 R1 = some (X9,171,(0,0)) := by rw [hX9];exact hx1_9
        have hXs9 : j1 * 7 + 7 ≤ X9.size := by rw [hX9];simp only [List.size_toArray,List.length_append,List.length_cons,List.length_nil,hA1];omega
        clear hw9
        have hfe0_1 : RepF (RepS true (d + 1)) (szS true (d + 1)) fX1_1 (fun b => (ok b ∨ w1.heap.size ≤ b) ∧ ¬ ownB va0 b) w9 (xe0_1) [.int .i16 (rdInt .i16 2 s3).1] := (RepF_num (by decide)).2 (by rw [hxe0_1,hrd];exact congrArg (fun x => [x]) (numC_rd 2 (by decide) 2 s3).symm)
        clear hrd
        have hbe0_2 : (rdL (rdP (d + 1) ver true) (dfP (d + 1)) ver true [fX1_2,fX1_3,fX1_4,fX1_5] s4).2 = none → FB := fun h => hbe0_1 (by rw [rdL_st (by decide) hhe0_1,← hs4];exact h)
        have hhe0_2 : hasS fX1_2 ver = true := hasS_t (by show (0 : Int) ≤ ver;omega) (by show (-1 : Int) < 0 ∨ ver ≤ (-1 : Int);omega)
        obtain ⟨xe0_2,hxe0_2⟩ : ∃ x,x = (rdF (rdP (d + 1) ver true) ver true fX1_2 s4).1 := ⟨_,rfl⟩
        repeat ((first | refine qA rfl ?_|refine qB ?_|refine qC rfl ?_|refine qD ?_|refine qE ?_|refine qF ?_|refine qG ?_|refine qH ?_);try simp (maxSteps:=1000000)(disch:=(first|omega|(simp only [qI,qJ,qK]<;>omega)|exact qL _)) only [go_sem,↓reduceIte,n0,reduceCtorEq,n1,n2,n3,n4,n5,i0,i1,i2,i3,i4,i5,i6,i7,hxb9,hrc0_2,hrc0_7,hrc0_8,hrc0_9,hrc0_10,hrc0_13,hra0,hri0,exitRQ_ret,exitRQ_exit,Int.toNat_natCast,Nat.mul_one,hun,hun'])
        have hrd : rdF (rdP (d + 1) ver true) ver true fX1_2 s4 = _ := rdF_bool rfl
        refine (Bool_fn w9 hq9.1 hrok).mono ?_
        rintro _ w10 ⟨rfl,hq10,hu10⟩
        have hx1_10 := hu10.blk_some hx1_9 (by omega)
        have hV10 : Upd (fun b => b = R1 ∨ b = rb) w9 w10 := hu10.mono (fun _ h => .inr h)
        have hU10 : Upd (fun b => b = vb ∨ b = rb) w1 w10 := hU9.trans' hV10 fun i hi h => h.elim (fun h => by omega) .inr
        have hz10 := hV10.size
        have hG10 : Glo ev w10 := hG1.updS hU10 hgM1 hgM2
        obtain ⟨X10,hX10⟩ : ∃ X : Array Value,X = (A1 ++ (([.int .i64 (rdInt .i64 8 s2).1,.int .i16 (rdInt .i16 2 s3).1,.bool false,.slice none 0 0,.int .i32 0,.int .i8 0,.map none] : List Value) ++ B1)).toArray := ⟨_,rfl⟩
        have hxb10 : blk w10 R1 = some (X10,171,(0,0)) := by rw [hX10];exact hx1_10
        have hXs10 : j1 * 7 + 7 ≤ X10.size := by rw [hX10];simp only [List.size_toArray,List.length_append,List.length_cons,List.length_nil,hA1];omega
        have hst : (rdF (rdP (d + 1) ver true) ver true fX1_2 s4).2 = (rdN 1 s4).2 := by first | (rw [hrd];rfl) | rw [hrd]
        obtain ⟨s5,hs5⟩ : ∃ s,s = (rdF (rdP (d + 1) ver true) ver true fX1_2 s4).2 := ⟨_,rfl⟩
        rw [← hst,← hs5] at hq10
        clear hst
        have hst10_2 : j1 * 7 + 3 ≤ X10.size := by omega
        have hld10_3 : X10[j1 * 7 + 3]? = some (.slice none 0 0) := by rw [hX10];exact el_cell (R := 0) hA1 (Nat.le_of_ble_eq_true rfl)
        repeat ((first | refine qA rfl ?_|refine qB ?_|refine qC rfl ?_|refine qD ?_|refine qE ?_|refine qF ?_|refine qG ?_|refine qH ?_);try simp (maxSteps:=1000000)(disch:=(first|omega|(simp only [qI,qJ,qK]<;>omega)|exact qL _)) only [go_sem,↓reduceIte,n0,reduceCtorEq,n1,n2,n3,n4,n5,i0,i1,i2,i3,i4,i5,i6,i7,hxb10,hrc0_2,hrc0_7,hrc0_8,hrc0_9,hrc0_10,hrc0_13,hra0,hri0,exitRQ_ret,exitRQ_exit,Int.toNat_natCast,Nat.mul_one,hun,hun',hst10_2,hld10_3,Array.getElem?_setIfInBounds_ne])
        generalize hw11 : wr w10 R1 (j1 * 7 + 2) [.bool (!decide (beN (rdN 1 s4).1 = 0))] = w11
        have hS11 : Upd (fun b => b = R1 ∨ b = rb) w10 w11 := by rw [← hw11];exact (Upd.refl _ _).wr _ _ (.inr (.inl rfl))
        have hx1_11 : blk w11 R1 = some ((A1 ++ (([.int .i64 (rdInt .i64 8 s2).1,.int .i16 (rdInt .i16 2 s3).1,.bool (!decide (beN (rdN 1 s4).1 = 0)),.slice none 0 0,.int .i32 0,.int .i8 0,.map none] : List Value) ++ B1)).toArray,171,(0,0)) := by rw [← hw11];exact el_blk (o := 2) hx1_10 hA1 (Nat.le_of_ble_eq_true rfl)
        have hV11 := hS11
        have hU11 : Upd (fun b => b = vb ∨ b = rb) w1 w11 := hU10.trans' hV11 fun i hi h => h.elim (fun h => by omega) .inr
        have hz11 := hV11.size
        have hG11 : Glo ev w11 := hG1.updS hU11 hgM1 hgM2
        have hq11 : Rdr RT ok w11 rb s5 ∧ NN w11 rb s5 := by
          have hn : ∀ x,x = w11 → (Rdr RT ok x rb s5 ∧ NN x rb s5) := fun x hx => by
            rw [hx,← hw11]
            exact Rdr.store hq10 (by omega) (fun h => by have := (hok _ h).1;first | omega | exact (hok _ h).2 rfl)
          exact hn _ rfl
        obtain ⟨X11,hX11⟩ : ∃ X : Array Value,X = (A1 ++ (([.int .i64 (rdInt .i64 8 s2).1,.int .i16 (rdInt .i16 2 s3).1,.bool (!decide (beN (rdN 1 s4).1 = 0)),.slice none 0 0,.int .i32 0,.int .i8 0,.map none] : List Value) ++ B1)).toArray := ⟨_,rfl⟩
        have hxb11 : blk w11 R1 = some (X11,171,(0,0)) := by rw [hX11];exact hx1_11
        have hXs11 : j1 * 7 + 7 ≤ X11.size := by rw [hX11];simp only [List.size_toArray,List.length_append,List.length_cons,List.length_nil,hA1];omega
        clear hw11
        have hfe0_2 : RepF (RepS true (d + 1)) (szS true (d + 1)) fX1_2 (fun b => (ok b ∨ w1.heap.size ≤ b) ∧ ¬ ownB va0 b) w11 (xe0_2) [.bool (!decide (beN (rdN 1 s4).1 = 0))] := (RepF_num (by decide)).2 (by rw [hxe0_2,hrd];exact congrArg (fun x => [x]) (numC_bool _).symm)
        clear hrd
        have hbe0_3 : (rdL (rdP (d + 1) ver true) (dfP (d + 1)) ver true [fX1_3,fX1_4,fX1_5] s5).2 = none → FB := fun h => hbe0_2 (by rw [rdL_st (by decide) hhe0_2,← hs5];exact h)
        have hhe0_3 : hasS fX1_3 ver = true := hasS_t (by show (0 : Int) ≤ ver;omega) (by show (-1 : Int) < 0 ∨ ver ≤ (-1 : Int);omega)
        obtain ⟨xe0_3,hxe0_3⟩ : ∃ x,x = (rdF (rdP (d + 1) ver true) ver true fX1_3 s5).1 := ⟨_,rfl⟩
        have hld11_3 : X11[j1 * 7 + 3]? = some (.slice none 0 0) := by rw [hX11];exact el_cell (R := 0) hA1 (Nat.le_of_ble_eq_true rfl)
        repeat ((first | refine qA rfl ?_|refine qB ?_|refine qC rfl ?_|refine qD ?_|refine qE ?_|refine qF ?_|refine qG ?_|refine qH ?_);try simp (maxSteps:=1000000)(disch:=(first|omega|(simp only [qI,qJ,qK]<;>omega)|exact qL _)) only [go_sem,↓reduceIte,n0,reduceCtorEq,n1,n2,n3,n4,n5,i0,i1,i2,i3,i4,i5,i6,i7,hxb11,hrc0_2,hrc0_7,hrc0_8,hrc0_9,hrc0_10,hrc0_13,hra0,hri0,exitRQ_ret,exitRQ_exit,Int.toNat_natCast,Nat.mul_one,hun,hun',hld11_3])
        refine (RCompactArrayLen_fn w11 hq11.1 hrok hG11.1 hgrb).mono ?_
        rintro _ w12 ⟨rfl,hq12,hu12⟩
        have hx1_12 := hu12.blk_some hx1_11 (by omega)
        have hV12 : Upd (fun b => b = R1 ∨ b = rb) w11 w12 := hu12.mono (fun _ h => .inr h)
        have hU12 : Upd (fun b => b = vb ∨ b = rb) w1 w12 := hU11.trans' hV12 fun i hi h => h.elim (fun h => by omega) .inr
        have hz12 := hV12.size
        have hG12 : Glo ev w12 := hG1.updS hU12 hgM1 hgM2
        obtain ⟨X12,hX12⟩ : ∃ X : Array Value,X = (A1 ++ (([.int .i64 (rdInt .i64 8 s2).1,.int .i16 (rdInt .i16 2 s3).1,.bool (!decide (beN (rdN 1 s4).1 = 0)),.slice none 0 0,.int .i32 0,.int .i8 0,.map none] : List Value) ++ B1)).toArray := ⟨_,rfl⟩
        have hxb12 : blk w12 R1 = some (X12,171,(0,0)) := by rw [hX12];exact hx1_12
        have hXs12 : j1 * 7 + 7 ≤ X12.size := by rw [hX12];simp only [List.size_toArray,List.length_append,List.length_cons,List.length_nil,hA1];omega
        obtain ⟨s6,hs6⟩ : ∃ s,s = (rdALen true s5).2 := ⟨_,rfl⟩
        rw [← hs6] at hq12
        have hyr1 := rdALen_rng true s5
        generalize hy1 : (rdALen true s5).1 = y1 at *
        obtain ⟨N1,hN1⟩ : ∃ N,N = y1.toNat := ⟨_,rfl⟩
        have hlb1 : (rdMany (rd1 (rdP (d + 1) ver true) fX1_3.of fX1_3.sub false true) N1 s6).2 = none → FB := fun h => hbe0_3 (by rw [rdL_st (by decide) hhe0_3];exact rdL_bad (rdF_listbad rfl (by rw [hy1,← hN1,← hs6];exact h)))
        repeat ((first | refine W.seqR rfl ?_ | refine W.seq ?_ | refine W.regR rfl ?_ | refine W.block ?_ | refine W.skip ?_ | refine W.ret ?_ | refine W.exit ?_);try simp (maxSteps:=1000000)(disch:=(first|omega|(simp only [qI,qJ,qK]<;>omega)|exact qL _)) only [go_sem,↓reduceIte,n0,reduceCtorEq,n1,n2,n3,n4,n5,i0,i1,i2,i3,i4,i5,i6,i7,hxb12,hrc0_2,hrc0_7,hrc0_8,hrc0_9,hrc0_10,hrc0_13,hra0,hri0,exitRQ_ret,exitRQ_exit,Int.toNat_natCast,Nat.mul_one,hun,hun'])
        refine (ROk_fn w12 hq12.1).mono ?_
        rintro _ wz ⟨rfl,hez⟩
        rw [hez]
        clear hez wz
        by_cases hsn1 : s6 = none
        · have hso : s6.isSome = false := by rw [hsn1];rfl
          try simp (maxSteps:=1000000)(disch:=(first|omega|(simp only [qI,qJ,qK]<;>omega)|exact qL _)) only [go_sem,↓reduceIte,n0,reduceCtorEq,n1,n2,n3,n4,n5,i0,i1,i2,i3,i4,i5,i6,i7,hxb12,hrc0_2,hrc0_7,hrc0_8,hrc0_9,hrc0_10,hrc0_13,hra0,hri0,exitRQ_ret,exitRQ_exit,Int.toNat_natCast,Nat.mul_one,hun,hun',hso]
          repeat ((first | refine qA rfl ?_|refine qB ?_|refine qC rfl ?_|refine qD ?_|refine qE ?_|refine qF ?_|refine qG ?_|refine qH ?_);try simp (maxSteps:=1000000)(disch:=(first|omega|(simp only [qI,qJ,qK]<;>omega)|exact qL _)) only [go_sem,↓reduceIte,n0,reduceCtorEq,n1,n2,n3,n4,n5,i0,i1,i2,i3,i4,i5,i6,i7,hxb12,hrc0_2,hrc0_7,hrc0_8,hrc0_9,hrc0_10,hrc0_13,hra0,hri0,exitRQ_ret,exitRQ_exit,Int.toNat_natCast,Nat.mul_one,hun,hun',hso])
          refine (RComplete_fn w12 hq12.1 hG12.2).mono ?_
          rintro _ wz ⟨rfl,hez⟩
          rw [hez]
          try simp (maxSteps:=1000000)(disch:=(first|omega|(simp only [qI,qJ,qK]<;>omega)|exact qL _)) only [go_sem,↓reduceIte,n0,reduceCtorEq,n1,n2,n3,n4,n5,i0,i1,i2,i3,i4,i5,i6,i7,hxb12,hrc0_2,hrc0_7,hrc0_8,hrc0_9,hrc0_10,hrc0_13,hra0,hri0,exitRQ_ret,exitRQ_exit,Int.toNat_natCast,Nat.mul_one,hun,hun']
          repeat ((first | refine qA rfl ?_|refine qB ?_|refine qC rfl ?_|refine qD ?_|refine qE ?_|refine qF ?_|refine qG ?_|refine qH ?_);try simp (maxSteps:=1000000)(disch:=(first|omega|(simp only [qI,qJ,qK]<;>omega)|exact qL _)) only [go_sem,↓reduceIte,n0,reduceCtorEq,n1,n2,n3,n4,n5,i0,i1,i2,i3,i4,i5,i6,i7,hxb12,hrc0_2,hrc0_7,hrc0_8,hrc0_9,hrc0_10,hrc0_13,hra0,hri0,exitRQ_ret,exitRQ_exit,Int.toNat_natCast,Nat.mul_one,hun,hun'])
          rw [errV_none hsn1]
          exact ReadQ.bad (Eq.mp hFB (hlb1 (by rw [hsn1];exact rdMany_none rd1P_none _))) (hbase.trans' hU12 fun i hi h => h.elim id fun h => by omega)
        have hso1 : s6.isSome = true := isSome_some hsn1
        try simp (maxSteps:=1000000)(disch:=(first|omega|(simp only [qI,qJ,qK]<;>omega)|exact qL _)) only [go_sem,↓reduceIte,n0,reduceCtorEq,n1,n2,n3,n4,n5,i0,i1,i2,i3,i4,i5,i6,i7,hxb12,hrc0_2,hrc0_7,hrc0_8,hrc0_9,hrc0_10,hrc0_13,hra0,hri0,exitRQ_ret,exitRQ_exit,Int.toNat_natCast,Nat.mul_one,hun,hun',hso1]
        repeat ((first | refine W.seqR rfl ?_ | refine W.seq ?_ | refine W.regR rfl ?_ | refine W.block ?_ | refine W.skip ?_ | refine W.ret ?_ | refine W.exit ?_);try simp (maxSteps:=1000000)(disch:=(first|omega|(simp only [qI,qJ,qK]<;>omega)|exact qL _)) only [go_sem,↓reduceIte,n0,reduceCtorEq,n1,n2,n3,n4,n5,i0,i1,i2,i3,i4,i5,i6,i7,hxb12,hrc0_2,hrc0_7,hrc0_8,hrc0_9,hrc0_10,hrc0_13,hra0,hri0,exitRQ_ret,exitRQ_exit,Int.toNat_natCast,Nat.mul_one,hun,hun',hso1])
        refine W.condK ?_
        try simp (maxSteps:=1000000)(disch:=(first|omega|(simp only [qI,qJ,qK]<;>omega)|exact qL _)) only [go_sem,↓reduceIte,n0,reduceCtorEq,n1,n2,n3,n4,n5,i0,i1,i2,i3,i4,i5,i6,i7,hxb12,hrc0_2,hrc0_7,hrc0_8,hrc0_9,hrc0_10,hrc0_13,hra0,hri0,exitRQ_ret,exitRQ_exit,Int.toNat_natCast,Nat.mul_one,hun,hun',hso1]
        repeat ((first | refine W.seqR rfl ?_ | refine W.seq ?_ | refine W.regR rfl ?_ | refine W.block ?_ | refine W.skip ?_ | refine W.ret ?_ | refine W.exit ?_);try simp (maxSteps:=1000000)(disch:=(first|omega|(simp only [qI,qJ,qK]<;>omega)|exact qL _)) only [go_sem,↓reduceIte,n0,reduceCtorEq,n1,n2,n3,n4,n5,i0,i1,i2,i3,i4,i5,i6,i7,hxb12,hrc0_2,hrc0_7,hrc0_8,hrc0_9,hrc0_10,hrc0_13,hra0,hri0,exitRQ_ret,exitRQ_exit,Int.toNat_natCast,Nat.mul_one,hun,hun',hso1,slBase_00])
        refine W.normJ (RowQ [(2,.bool un),(7,.pointer (some ⟨rb,0,none⟩)),(8,.int .i16 ver),(9,.bool true),(10,.pointer (some ⟨vb,0,none⟩)),(13,.int .i32 y0),(12,.slice (some ⟨R1,0,none⟩) N0 q1),(14,.int .i32 j1),(16,.pointer (some ⟨R1,j1 * 7,none⟩)),(22,.int .i32 y1)] 21 (fun va w' => LstI RT (rd1 (rdP (d + 1) ver true) fX1_3.of fX1_3.sub false true) (Rep1 (RepS true (d + 1)) fX1_3.of fX1_3.sub) 3 270 [.string ByteArray.empty,.slice none 0 0,.map none] w12.heap.size N1 ok (fun b => (ok b ∨ w1.heap.size ≤ b) ∧ ¬ ownB va0 b) rb w12 s6 va 0 s6 [] [] w' ∧ (N1 = 0 → if nilS fX1_3 ver y1 = true then va = .slice none 0 0 else ∃ a,va = .slice (some a) 0 0))) ?_ ?_
        · by_cases hy0 : (0 : Int) < y1
          · have hyv : Value.int .i32 y1 = .int .i32 ((N1 : Nat) : Int) := by rw [show y1 = ((N1 : Nat) : Int) by omega]
            repeat ((first | refine qA rfl ?_|refine qB ?_|refine qC rfl ?_|refine qD ?_|refine qE ?_|refine qF ?_|refine qG ?_|refine qH ?_);try simp (maxSteps:=1000000)(disch:=(first|omega|(simp only [qI,qJ,qK]<;>omega)|exact qL _)) only [go_sem,↓reduceIte,n0,reduceCtorEq,n1,n2,n3,n4,n5,i0,i1,i2,i3,i4,i5,i6,i7,hxb12,hrc0_2,hrc0_7,hrc0_8,hrc0_9,hrc0_10,hrc0_13,hra0,hri0,exitRQ_ret,exitRQ_exit,Int.toNat_natCast,Nat.mul_one,hun,hun'])
            refine wp_appendZ (m := N1) utWriteTxnMarkersRequest_169 utWriteTxnMarkersRequest_21 inWriteTxnMarkersRequest_270 (by decide) (by first | rfl | simp (maxSteps:=1000000)(disch:=(first|omega|(simp only [qI,qJ,qK]<;>omega)|exact qL _)) only [go_sem,↓reduceIte,n0,reduceCtorEq,n1,n2,n3,n4,n5,i0,i1,i2,i3,i4,i5,i6,i7,hrc0_2,hrc0_7,hrc0_8,hrc0_9,hrc0_10,hrc0_13,hra0,hri0]) (by first | exact hyv | (simp (maxSteps:=1000000)(disch:=(first|omega|(simp only [qI,qJ,qK]<;>omega)|exact qL _)) only [go_sem,↓reduceIte,n0,reduceCtorEq,n1,n2,n3,n4,n5,i0,i1,i2,i3,i4,i5,i6,i7,hrc0_2,hrc0_7,hrc0_8,hrc0_9,hrc0_10,hrc0_13,hra0,hri0];exact hyv)) (by omega) (by omega) (by decide) ?_
            intro q rest hq1
            have hEw : Ext w12 (w12.drew.alloc (.cells (zs [.string ByteArray.empty,.slice none 0 0,.map none] N1 ++ rest).toArray 270)) := (Upd.refl _ _).drew.alloc _
            try simp (maxSteps:=1000000)(disch:=(first|omega|(simp only [qI,qJ,qK]<;>omega)|exact qL _)) only [go_sem,↓reduceIte,n0,reduceCtorEq,n1,n2,n3,n4,n5,i0,i1,i2,i3,i4,i5,i6,i7,hxb12,hrc0_2,hrc0_7,hrc0_8,hrc0_9,hrc0_10,hrc0_13,hra0,hri0,exitRQ_ret,exitRQ_exit,Int.toNat_natCast,Nat.mul_one,hun,hun']
            repeat ((first | refine qA rfl ?_|refine qB ?_|refine qC rfl ?_|refine qD ?_|refine qE ?_|refine qF ?_|refine qG ?_|refine qH ?_);try simp (maxSteps:=1000000)(disch:=(first|omega|(simp only [qI,qJ,qK]<;>omega)|exact qL _)) only [go_sem,↓reduceIte,n0,reduceCtorEq,n1,n2,n3,n4,n5,i0,i1,i2,i3,i4,i5,i6,i7,hxb12,hrc0_2,hrc0_7,hrc0_8,hrc0_9,hrc0_10,hrc0_13,hra0,hri0,exitRQ_ret,exitRQ_exit,Int.toNat_natCast,Nat.mul_one,hun,hun'])
            exact ⟨(by simp (maxSteps:=1000000)(disch:=(first|omega|(simp only [qI,qJ,qK]<;>omega)|exact qL _)) only [go_sem,↓reduceIte,n0,reduceCtorEq,n1,n2,n3,n4,n5,i0,i1,i2,i3,i4,i5,i6,i7,Holds_nil,Holds_cons,hrc0_2,hrc0_7,hrc0_8,hrc0_9,hrc0_10,hrc0_13,hra0,hri0]),.slice (some ⟨w12.heap.size,0,none⟩) N1 q,(by simp (maxSteps:=1000000)(disch:=(first|omega|(simp only [qI,qJ,qK]<;>omega)|exact qL _)) only [go_sem,↓reduceIte,n0,reduceCtorEq,n1,n2,n3,n4,n5,i0,i1,i2,i3,i4,i5,i6,i7,hrc0_2,hrc0_7,hrc0_8,hrc0_9,hrc0_10,hrc0_13,hra0,hri0]),LstI.start (RowJ.start (by omega) hq1 (by show w12.heap.size ≤ w12.drew.heap.size;rw [size_drew];omega) (blk_alloc_new rfl)) ⟨hq12.1.upd hEw (fun h => h) (fun _ _ _ h => h),hq12.2.upd hEw fun h => h⟩ (hEw.mono fun _ h => h.elim),fun h0 => by omega⟩
          · repeat ((first | refine qA rfl ?_|refine qB ?_|refine qC rfl ?_|refine qD ?_|refine qE ?_|refine qF ?_|refine qG ?_|refine qH ?_);try simp (maxSteps:=1000000)(disch:=(first|omega|(simp only [qI,qJ,qK]<;>omega)|exact qL _)) only [go_sem,↓reduceIte,n0,reduceCtorEq,n1,n2,n3,n4,n5,i0,i1,i2,i3,i4,i5,i6,i7,hxb12,hrc0_2,hrc0_7,hrc0_8,hrc0_9,hrc0_10,hrc0_13,hra0,hri0,exitRQ_ret,exitRQ_exit,Int.toNat_natCast,Nat.mul_one,hun,hun'])
            exact ⟨(by simp (maxSteps:=1000000)(disch:=(first|omega|(simp only [qI,qJ,qK]<;>omega)|exact qL _)) only [go_sem,↓reduceIte,n0,reduceCtorEq,n1,n2,n3,n4,n5,i0,i1,i2,i3,i4,i5,i6,i7,Holds_nil,Holds_cons,hrc0_2,hrc0_7,hrc0_8,hrc0_9,hrc0_10,hrc0_13,hra0,hri0]),.slice none 0 0,(by simp (maxSteps:=1000000)(disch:=(first|omega|(simp only [qI,qJ,qK]<;>omega)|exact qL _)) only [go_sem,↓reduceIte,n0,reduceCtorEq,n1,n2,n3,n4,n5,i0,i1,i2,i3,i4,i5,i6,i7,hrc0_2,hrc0_7,hrc0_8,hrc0_9,hrc0_10,hrc0_13,hra0,hri0,slBase_00]),LstI.start (RowJ.zero (by omega) (fun _ h => by cases h)) hq12 (Upd.refl _ _),fun _ => by rw [nilS_plain (by decide) (by omega)];exact rfl⟩
        rintro ρ w13 ⟨⟨hrb1_2,hrb1_7,hrb1_8,hrb1_9,hrb1_10,hrb1_13,hrb1_12,hrb1_14,hrb1_16,hrb1_22,-⟩,va1,hra1,hL1,hnc1⟩
        repeat ((first | refine qA rfl ?_|refine qB ?_|refine qC rfl ?_|refine qD ?_|refine qE ?_|refine qF ?_|refine qG ?_|refine qH ?_);try simp (maxSteps:=1000000)(disch:=(first|omega|(simp only [qI,qJ,qK]<;>omega)|exact qL _)) only [go_sem,↓reduceIte,n0,reduceCtorEq,n1,n2,n3,n4,n5,i0,i1,i2,i3,i4,i5,i6,i7,hxb12,hrb1_2,hrb1_7,hrb1_8,hrb1_9,hrb1_10,hrb1_13,hrb1_12,hrb1_14,hrb1_16,hrb1_22,hra1,exitRQ_ret,exitRQ_exit,Int.toNat_natCast,Nat.mul_one,hun,hun'])
        refine W.exitRJ 2 (EndQ [(2,.bool un),(7,.pointer (some ⟨rb,0,none⟩)),(8,.int .i16 ver),(9,.bool true),(10,.pointer (some ⟨vb,0,none⟩)),(13,.int .i32 y0),(12,.slice (some ⟨R1,0,none⟩) N0 q1),(14,.int .i32 j1),(16,.pointer (some ⟨R1,j1 * 7,none⟩)),(22,.int .i32 y1),(21,va1)] (fun w' => ∃ s xs css,LstI RT (rd1 (rdP (d + 1) ver true) fX1_3.of fX1_3.sub false true) (Rep1 (RepS true (d + 1)) fX1_3.of fX1_3.sub) 3 270 [.string ByteArray.empty,.slice none 0 0,.map none] w12.heap.size N1 ok (fun b => (ok b ∨ w1.heap.size ≤ b) ∧ ¬ ownB va0 b) rb w12 s6 va1 N1 s xs css w')) (W.loop (LoopQ [(2,.bool un),(7,.pointer (some ⟨rb,0,none⟩)),(8,.int .i16 ver),(9,.bool true),(10,.pointer (some ⟨vb,0,none⟩)),(13,.int .i32 y0),(12,.slice (some ⟨R1,0,none⟩) N0 q1),(14,.int .i32 j1),(16,.pointer (some ⟨R1,j1 * 7,none⟩)),(22,.int .i32 y1),(21,va1)] 23 (fun j w' => ∃ s xs css,LstI RT (rd1 (rdP (d + 1) ver true) fX1_3.of fX1_3.sub false true) (Rep1 (RepS true (d + 1)) fX1_3.of fX1_3.sub) 3 270 [.string ByteArray.empty,.slice none 0 0,.map none] w12.heap.size N1 ok (fun b => (ok b ∨ w1.heap.size ≤ b) ∧ ¬ ownB va0 b) rb w12 s6 va1 j s xs css w')) (fun ρ _ => N1 - (RowKit.intOf (ρ 23)).toNat) ?_ ?_) ?_
        · exact ⟨(by simp (maxSteps:=1000000)(disch:=(first|omega|(simp only [qI,qJ,qK]<;>omega)|exact qL _)) only [go_sem,↓reduceIte,n0,reduceCtorEq,n1,n2,n3,n4,n5,i0,i1,i2,i3,i4,i5,i6,i7,Holds_nil,Holds_cons,hrb1_2,hrb1_7,hrb1_8,hrb1_9,hrb1_10,hrb1_13,hrb1_12,hrb1_14,hrb1_16,hrb1_22,hra1]),0,(by simp (maxSteps:=1000000)(disch:=(first|omega|(simp only [qI,qJ,qK]<;>omega)|exact qL _)) only [go_sem,↓reduceIte,n0,reduceCtorEq,n1,n2,n3,n4,n5,i0,i1,i2,i3,i4,i5,i6,i7,hrb1_2,hrb1_7,hrb1_8,hrb1_9,hrb1_10,hrb1_13,hrb1_12,hrb1_14,hrb1_16,hrb1_22,hra1];all_goals rfl),s6,[],[],hL1⟩
        · rintro ρ w14 ⟨⟨hrc1_2,hrc1_7,hrc1_8,hrc1_9,hrc1_10,hrc1_13,hrc1_12,hrc1_14,hrc1_16,hrc1_22,hrc1_21,-⟩,j2,hri1,s7,xs1,css1,hL1⟩
          have hj1 := hL1.le
          have hq14 := hL1.rd
          have hU14 : Upd (fun b => b = vb ∨ b = rb) w1 w14 := hU12.trans' hL1.upd fun i _ h => .inr h
          have hz14 := hL1.upd.size
          have hG14 : Glo ev w14 := hG1.updS hU14 hgM1 hgM2
          by_cases hlt1 : j2 < N1
          · obtain ⟨R2,q2,B2,hva2,hNq2,hLR2,hA2,hx2_14,hnext2⟩ := hL1.row.next hlt1
            have hRl2 := blk_lt hx2_14
            generalize css1.flatten = A2 at hA2 hx2_14 hnext2
            replace hra1 : ρ 21 = .slice (some ⟨R2,0,none⟩) N1 q2 := hrc1_21.trans hva2
            have hown2 : ∀ b,ownB va1 b → w12.heap.size ≤ b ∧ b < w14.heap.size := fun b h => hL1.row.own h
            have hoM2 : ∀ b,(fun b => (fun b => (ok b ∨ w1.heap.size ≤ b) ∧ ¬ ownB va0 b) b ∧ ¬ ownB va1 b) b → ¬ (b = R2 ∨ b = rb) := fun b hk h => h.elim (fun e => hk.2 ⟨_,_,_,hva2,e⟩) (fun e => hoM1 b hk.1 (.inr e))
            obtain ⟨X14,hX14⟩ : ∃ X : Array Value,X = (A2 ++ (([.string ByteArray.empty,.slice none 0 0,.map none] : List Value) ++ B2)).toArray := ⟨_,rfl⟩
            have hxb14 : blk w14 R2 = some (X14,270,(0,0)) := by rw [hX14];exact hx2_14
            have hXs14 : j2 * 3 + 3 ≤ X14.size := by rw [hX14];simp only [List.size_toArray,List.length_append,List.length_cons,List.length_nil,hA2];omega
            repeat ((first | refine qA rfl ?_|refine qB ?_|refine qC rfl ?_|refine qD ?_|refine qE ?_|refine qF ?_|refine qG ?_|refine qH ?_);try simp (maxSteps:=1000000)(disch:=(first|omega|(simp only [qI,qJ,qK]<;>omega)|exact qL _)) only [go_sem,↓reduceIte,n0,reduceCtorEq,n1,n2,n3,n4,n5,i0,i1,i2,i3,i4,i5,i6,i7,hxb14,hrc1_2,hrc1_7,hrc1_8,hrc1_9,hrc1_10,hrc1_13,hrc1_12,hrc1_14,hrc1_16,hrc1_22,hra1,hri1,exitRQ_ret,exitRQ_exit,Int.toNat_natCast,Nat.mul_one,hun,hun'])
            refine (DefaultEX0_fn w14 hx2_14 hA2).mono ?_
            rintro _ w15 ⟨hx2_15,hu15⟩
            have hq15 := And.intro (hq14.1.upd hu15 (by omega) (fun b _ hk e => by have := (hok b hk).1;omega)) (hq14.2.upd hu15 (by omega))
            have hV15 : Upd (fun b => b = R2 ∨ b = rb) w14 w15 := hu15.mono (fun _ h => .inl h)
            have hU15 : Upd (fun b => b = vb ∨ b = rb) w1 w15 := hU14.trans' hV15 fun i hi h => h.elim (fun h => by omega) .inr
            have hz15 := hV15.size
            have hG15 : Glo ev w15 := hG1.updS hU15 hgM1 hgM2
            obtain ⟨X15,hX15⟩ : ∃ X : Array Value,X = (A2 ++ (([.string ByteArray.empty,.slice none 0 0,.map none] : List Value) ++ B2)).toArray := ⟨_,rfl⟩
            have hxb15 : blk w15 R2 = some (X15,270,(0,0)) := by rw [hX15];exact hx2_15
            have hXs15 : j2 * 3 + 3 ≤ X15.size := by rw [hX15];simp only [List.size_toArray,List.length_append,List.length_cons,List.length_nil,hA2];omega
            have hbe0e1_0 : (rdL (rdP d ver true) (dfP d) ver true [fX0_0,fX0_1] s7).2 = none → FB := fun h => hlb1 (hL1.bad hlt1 rd1P_none (by show (rd1 (rdP (d + 1) ver true) 10 fs_X0 false true s7).2 = none;rw [rd1_part];exact rdP_bad h))
            have hhe0e1_0 : hasS fX0_0 ver = true := hasS_t (by show (0 : Int) ≤ ver;omega) (by show (-1 : Int) < 0 ∨ ver ≤ (-1 : Int);omega)
            obtain ⟨xe0e1_0,hxe0e1_0⟩ : ∃ x,x = (rdF (rdP d ver true) ver true fX0_0 s7).1 := ⟨_,rfl⟩
            repeat ((first | refine qA rfl ?_|refine qB ?_|refine qC rfl ?_|refine qD ?_|refine qE ?_|refine qF ?_|refine qG ?_|refine qH ?_);try simp (maxSteps:=1000000)(disch:=(first|omega|(simp only [qI,qJ,qK]<;>omega)|exact qL _)) only [go_sem,↓reduceIte,n0,reduceCtorEq,n1,n2,n3,n4,n5,i0,i1,i2,i3,i4,i5,i6,i7,hxb15,hrc1_2,hrc1_7,hrc1_8,hrc1_9,hrc1_10,hrc1_13,hrc1_12,hrc1_14,hrc1_16,hrc1_22,hra1,hri1,exitRQ_ret,exitRQ_exit,Int.toNat_natCast,Nat.mul_one,hun,hun'])
            have hmay : mayS fX0_0 ver = false := mayS_no (by show (-1 : Int) < 0 ∨ ver < (-1 : Int);omega)
            have hrd : rdF (rdP d ver true) ver true fX0_0 s7 = _ := rdF_text rfl hmay
            first | refine (RUnsafeCompactString_fn w15 hq15.1 hrok hG15.1 hgrb).mono ?_ | refine (RCompactString_fn w15 hq15.1 hrok hG15.1 hgrb).mono ?_
            rintro _ w16 ⟨rfl,hq16,hu16⟩
            have hx2_16 := hu16.blk_some hx2_15 (by omega)
            have hV16 : Upd (fun b => b = R2 ∨ b = rb) w15 w16 := hu16.mono (fun _ h => .inr h)
            have hU16 : Upd (fun b => b = vb ∨ b = rb) w1 w16 := hU15.trans' hV16 fun i hi h => h.elim (fun h => by omega) .inr
            have hz16 := hV16.size
            have hG16 : Glo ev w16 := hG1.updS hU16 hgM1 hgM2
            obtain ⟨X16,hX16⟩ : ∃ X : Array Value,X = (A2 ++ (([.string ByteArray.empty,.slice none 0 0,.map none] : List Value) ++ B2)).toArray := ⟨_,rfl⟩
            have hxb16 : blk w16 R2 = some (X16,270,(0,0)) := by rw [hX16];exact hx2_16
            have hXs16 : j2 * 3 + 3 ≤ X16.size := by rw [hX16];simp only [List.size_toArray,List.length_append,List.length_cons,List.length_nil,hA2];omega
            have hst : (rdF (rdP d ver true) ver true fX0_0 s7).2 = (rdStr true s7).2 := by first | (rw [hrd];rfl) | rw [hrd]
            obtain ⟨s8,hs8⟩ : ∃ s,s = (rdF (rdP d ver true) ver true fX0_0 s7).2 := ⟨_,rfl⟩
            rw [← hst,← hs8] at hq16
            clear hst
            have hst16_0 : j2 * 3 + 1 ≤ X16.size := by omega
            have hld16_1 : X16[j2 * 3 + 1]? = some (.slice none 0 0) := by rw [hX16];exact el_cell (R := 0) hA2 (Nat.le_of_ble_eq_true rfl)
            repeat ((first | refine qA rfl ?_|refine qB ?_|refine qC rfl ?_|refine qD ?_|refine qE ?_|refine qF ?_|refine qG ?_|refine qH ?_);try simp (maxSteps:=1000000)(disch:=(first|omega|(simp only [qI,qJ,qK]<;>omega)|exact qL _)) only [go_sem,↓reduceIte,n0,reduceCtorEq,n1,n2,n3,n4,n5,i0,i1,i2,i3,i4,i5,i6,i7,hxb16,hrc1_2,hrc1_7,hrc1_8,hrc1_9,hrc1_10,hrc1_13,hrc1_12,hrc1_14,hrc1_16,hrc1_22,hra1,hri1,exitRQ_ret,exitRQ_exit,Int.toNat_natCast,Nat.mul_one,hun,hun',hst16_0,hld16_1,Array.getElem?_setIfInBounds_ne])
            generalize hw17 : wr w16 R2 (j2 * 3) [strV (rdStr true s7).1] = w17
            have hS17 : Upd (fun b => b = R2 ∨ b = rb) w16 w17 := by rw [← hw17];exact (Upd.refl _ _).wr _ _ (.inr (.inl rfl))
            have hx2_17 : blk w17 R2 = some ((A2 ++ (([strV (rdStr true s7).1,.slice none 0 0,.map none] : List Value) ++ B2)).toArray,270,(0,0)) := by rw [← hw17];exact el_blk0 hx2_16 hA2 (Nat.le_of_ble_eq_true rfl)
            have hV17 := hS17
            have hU17 : Upd (fun b => b = vb ∨ b = rb) w1 w17 := hU16.trans' hV17 fun i hi h => h.elim (fun h => by omega) .inr
            have hz17 := hV17.size
            have hG17 : Glo ev w17 := hG1.updS hU17 hgM1 hgM2
            have hq17 : Rdr RT ok w17 rb s8 ∧ NN w17 rb s8 := by
              have hn : ∀ x,x = w17 → (Rdr RT ok x rb s8 ∧ NN x rb s8) := fun x hx => by
                rw [hx,← hw17]
                exact Rdr.store hq16 (by omega) (fun h => by have := (hok _ h).1;first | omega | exact (hok _ h).2 rfl)
              exact hn _ rfl
            obtain ⟨X17,hX17⟩ : ∃ X : Array Value,X = (A2 ++ (([strV (rdStr true s7).1,.slice none 0 0,.map none] : List Value) ++ B2)).toArray := ⟨_,rfl⟩
            have hxb17 : blk w17 R2 = some (X17,270,(0,0)) := by rw [hX17];exact hx2_17
            have hXs17 : j2 * 3 + 3 ≤ X17.size := by rw [hX17];simp only [List.size_toArray,List.length_append,List.length_cons,List.length_nil,hA2];omega
            clear hw17
            have hfe0e1_0 : RepF (RepS true d) (szS true d) fX0_0 (fun b => (fun b => (ok b ∨ w1.heap.size ≤ b) ∧ ¬ ownB va0 b) b ∧ ¬ ownB va1 b) w17 (xe0e1_0) [strV (rdStr true s7).1] := (RepF_text rfl (by decide)).2 (by rw [hxe0e1_0,hrd];rfl)
            clear hrd
            have hbe0e1_1 : (rdL (rdP d ver true) (dfP d) ver true [fX0_1] s8).2 = none → FB := fun h => hbe0e1_0 (by rw [rdL_st (by decide) hhe0e1_0,← hs8];exact h)
            have hhe0e1_1 : hasS fX0_1 ver = true := hasS_t (by show (0 : Int) ≤ ver;omega) (by show (-1 : Int) < 0 ∨ ver ≤ (-1 : Int);omega)
            obtain ⟨xe0e1_1,hxe0e1_1⟩ : ∃ x,x = (rdF (rdP d ver true) ver true fX0_1 s8).1 := ⟨_,rfl⟩
            have hld17_1 : X17[j2 * 3 + 1]? = some (.slice none 0 0) := by rw [hX17];exact el_cell (R := 0) hA2 (Nat.le_of_ble_eq_true rfl)
            repeat ((first | refine qA rfl ?_|refine qB ?_|refine qC rfl ?_|refine qD ?_|refine qE ?_|refine qF ?_|refine qG ?_|refine qH ?_);try simp (maxSteps:=1000000)(disch:=(first|omega|(simp only [qI,qJ,qK]<;>omega)|exact qL _)) only [go_sem,↓reduceIte,n0,reduceCtorEq,n1,n2,n3,n4,n5,i0,i1,i2,i3,i4,i5,i6,i7,hxb17,hrc1_2,hrc1_7,hrc1_8,hrc1_9,hrc1_10,hrc1_13,hrc1_12,hrc1_14,hrc1_16,hrc1_22,hra1,hri1,exitRQ_ret,exitRQ_exit,Int.toNat_natCast,Nat.mul_one,hun,hun',hld17_1])
            refine (RCompactArrayLen_fn w17 hq17.1 hrok hG17.1 hgrb).mono ?_
            rintro _ w18 ⟨rfl,hq18,hu18⟩
            have hx2_18 := hu18.blk_some hx2_17 (by omega)
            have hV18 : Upd (fun b => b = R2 ∨ b = rb) w17 w18 := hu18.mono (fun _ h => .inr h)
            have hU18 : Upd (fun b => b = vb ∨ b = rb) w1 w18 := hU17.trans' hV18 fun i hi h => h.elim (fun h => by omega) .inr
            have hz18 := hV18.size
            have hG18 : Glo ev w18 := hG1.updS hU18 hgM1 hgM2
            obtain ⟨X18,hX18⟩ : ∃ X : Array Value,X = (A2 ++ (([strV (rdStr true s7).1,.slice none 0 0,.map none] : List Value) ++ B2)).toArray := ⟨_,rfl⟩
            have hxb18 : blk w18 R2 = some (X18,270,(0,0)) := by rw [hX18];exact hx2_18
            have hXs18 : j2 * 3 + 3 ≤ X18.size := by rw [hX18];simp only [List.size_toArray,List.length_append,List.length_cons,List.length_nil,hA2];omega
            obtain ⟨s9,hs9⟩ : ∃ s,s = (rdALen true s8).2 := ⟨_,rfl⟩
            rw [← hs9] at hq18
            have hyr2 := rdALen_rng true s8
            generalize hy2 : (rdALen true s8).1 = y2 at *
            obtain ⟨N2,hN2⟩ : ∃ N,N = y2.toNat := ⟨_,rfl⟩
            have hlb2 : (rdMany (rd1 (rdP d ver true) fX0_1.of fX0_1.sub false true) N2 s9).2 = none → FB := fun h => hbe0e1_1 (by rw [rdL_st (by decide) hhe0e1_1];exact rdL_bad (rdF_listbad rfl (by rw [hy2,← hN2,← hs9];exact h)))
            repeat ((first | refine W.seqR rfl ?_ | refine W.seq ?_ | refine W.regR rfl ?_ | refine W.block ?_ | refine W.skip ?_ | refine W.ret ?_ | refine W.exit ?_);try simp (maxSteps:=1000000)(disch:=(first|omega|(simp only [qI,qJ,qK]<;>omega)|exact qL _)) only [go_sem,↓reduceIte,n0,reduceCtorEq,n1,n2,n3,n4,n5,i0,i1,i2,i3,i4,i5,i6,i7,hxb18,hrc1_2,hrc1_7,hrc1_8,hrc1_9,hrc1_10,hrc1_13,hrc1_12,hrc1_14,hrc1_16,hrc1_22,hra1,hri1,exitRQ_ret,exitRQ_exit,Int.toNat_natCast,Nat.mul_one,hun,hun'])
            refine (ROk_fn w18 hq18.1).mono ?_
            rintro _ wz ⟨rfl,hez⟩
            rw [hez]
            clear hez wz
            by_cases hsn2 : s9 = none
            · have hso : s9.isSome = false := by rw [hsn2];rfl
              try simp (maxSteps:=1000000)(disch:=(first|omega|(simp only [qI,qJ,qK]<;>omega)|exact qL _)) only [go_sem,↓reduceIte,n0,reduceCtorEq,n1,n2,n3,n4,n5,i0,i1,i2,i3,i4,i5,i6,i7,hxb18,hrc1_2,hrc1_7,hrc1_8,hrc1_9,hrc1_10,hrc1_13,hrc1_12,hrc1_14,hrc1_16,hrc1_22,hra1,hri1,exitRQ_ret,exitRQ_exit,Int.toNat_natCast,Nat.mul_one,hun,hun',hso]
              repeat ((first | refine qA rfl ?_|refine qB ?_|refine qC rfl ?_|refine qD ?_|refine qE ?_|refine qF ?_|refine qG ?_|refine qH ?_);try simp (maxSteps:=1000000)(disch:=(first|omega|(simp only [qI,qJ,qK]<;>omega)|exact qL _)) only [go_sem,↓reduceIte,n0,reduceCtorEq,n1,n2,n3,n4,n5,i0,i1,i2,i3,i4,i5,i6,i7,hxb18,hrc1_2,hrc1_7,hrc1_8,hrc1_9,hrc1_10,hrc1_13,hrc1_12,hrc1_14,hrc1_16,hrc1_22,hra1,hri1,exitRQ_ret,exitRQ_exit,Int.toNat_natCast,Nat.mul_one,hun,hun',hso])
              refine (RComplete_fn w18 hq18.1 hG18.2).mono ?_
              rintro _ wz ⟨rfl,hez⟩
              rw [hez]
              try simp (maxSteps:=1000000)(disch:=(first|omega|(simp only [qI,qJ,qK]<;>omega)|exact qL _)) only [go_sem,↓reduceIte,n0,reduceCtorEq,n1,n2,n3,n4,n5,i0,i1,i2,i3,i4,i5,i6,i7,hxb18,hrc1_2,hrc1_7,hrc1_8,hrc1_9,hrc1_10,hrc1_13,hrc1_12,hrc1_14,hrc1_16,hrc1_22,hra1,hri1,exitRQ_ret,exitRQ_exit,Int.toNat_natCast,Nat.mul_one,hun,hun']
              repeat ((first | refine qA rfl ?_|refine qB ?_|refine qC rfl ?_|refine qD ?_|refine qE ?_|refine qF ?_|refine qG ?_|refine qH ?_);try simp (maxSteps:=1000000)(disch:=(first|omega|(simp only [qI,qJ,qK]<;>omega)|exact qL _)) only [go_sem,↓reduceIte,n0,reduceCtorEq,n1,n2,n3,n4,n5,i0,i1,i2,i3,i4,i5,i6,i7,hxb18,hrc1_2,hrc1_7,hrc1_8,hrc1_9,hrc1_10,hrc1_13,hrc1_12,hrc1_14,hrc1_16,hrc1_22,hra1,hri1,exitRQ_ret,exitRQ_exit,Int.toNat_natCast,Nat.mul_one,hun,hun'])
              rw [errV_none hsn2]
              exact ReadQ.bad (Eq.mp hFB (hlb2 (by rw [hsn2];exact rdMany_none rd1P_none _))) (hbase.trans' hU18 fun i hi h => h.elim id fun h => by omega)
            have hso2 : s9.isSome = true := isSome_some hsn2
            try simp (maxSteps:=1000000)(disch:=(first|omega|(simp only [qI,qJ,qK]<;>omega)|exact qL _)) only [go_sem,↓reduceIte,n0,reduceCtorEq,n1,n2,n3,n4,n5,i0,i1,i2,i3,i4,i5,i6,i7,hxb18,hrc1_2,hrc1_7,hrc1_8,hrc1_9,hrc1_10,hrc1_13,hrc1_12,hrc1_14,hrc1_16,hrc1_22,hra1,hri1,exitRQ_ret,exitRQ_exit,Int.toNat_natCast,Nat.mul_one,hun,hun',hso2]
            repeat ((first | refine W.seqR rfl ?_ | refine W.seq ?_ | refine W.regR rfl ?_ | refine W.block ?_ | refine W.skip ?_ | refine W.ret ?_ | refine W.exit ?_);try simp (maxSteps:=1000000)(disch:=(first|omega|(simp only [qI,qJ,qK]<;>omega)|exact qL _)) only [go_sem,↓reduceIte,n0,reduceCtorEq,n1,n2,n3,n4,n5,i0,i1,i2,i3,i4,i5,i6,i7,hxb18,hrc1_2,hrc1_7,hrc1_8,hrc1_9,hrc1_10,hrc1_13,hrc1_12,hrc1_14,hrc1_16,hrc1_22,hra1,hri1,exitRQ_ret,exitRQ_exit,Int.toNat_natCast,Nat.mul_one,hun,hun',hso2])
            refine W.condK ?_
            try simp (maxSteps:=1000000)(disch:=(first|omega|(simp only [qI,qJ,qK]<;>omega)|exact qL _)) only [go_sem,↓reduceIte,n0,reduceCtorEq,n1,n2,n3,n4,n5,i0,i1,i2,i3,i4,i5,i6,i7,hxb18,hrc1_2,hrc1_7,hrc1_8,hrc1_9,hrc1_10,hrc1_13,hrc1_12,hrc1_14,hrc1_16,hrc1_22,hra1,hri1,exitRQ_ret,exitRQ_exit,Int.toNat_natCast,Nat.mul_one,hun,hun',hso2]
            repeat ((first | refine W.seqR rfl ?_ | refine W.seq ?_ | refine W.regR rfl ?_ | refine W.block ?_ | refine W.skip ?_ | refine W.ret ?_ | refine W.exit ?_);try simp (maxSteps:=1000000)(disch:=(first|omega|(simp only [qI,qJ,qK]<;>omega)|exact qL _)) only [go_sem,↓reduceIte,n0,reduceCtorEq,n1,n2,n3,n4,n5,i0,i1,i2,i3,i4,i5,i6,i7,hxb18,hrc1_2,hrc1_7,hrc1_8,hrc1_9,hrc1_10,hrc1_13,hrc1_12,hrc1_14,hrc1_16,hrc1_22,hra1,hri1,exitRQ_ret,exitRQ_exit,Int.toNat_natCast,Nat.mul_one,hun,hun',hso2,slBase_00])
            refine W.normJ (RowQ [(2,.bool un),(7,.pointer (some ⟨rb,0,none⟩)),(8,.int .i16 ver),(9,.bool true),(10,.pointer (some ⟨vb,0,none⟩)),(13,.int .i32 y0),(12,.slice (some ⟨R1,0,none⟩) N0 q1),(14,.int .i32 j1),(16,.pointer (some ⟨R1,j1 * 7,none⟩)),(22,.int .i32 y1),(21,.slice (some ⟨R2,0,none⟩) N1 q2),(23,.int .i32 j2),(25,.pointer (some ⟨R2,j2 * 3,none⟩)),(29,.int .i32 y2)] 28 (fun va w' => LstI RT (rd1 (rdP d ver true) fX0_1.of fX0_1.sub false true) (Rep1 (RepS true d) fX0_1.of fX0_1.sub) 1 21 [.int .i32 0] w18.heap.size N2 ok (fun b => (fun b => (ok b ∨ w1.heap.size ≤ b) ∧ ¬ ownB va0 b) b ∧ ¬ ownB va1 b) rb w18 s9 va 0 s9 [] [] w' ∧ (N2 = 0 → if nilS fX0_1 ver y2 = true then va = .slice none 0 0 else ∃ a,va = .slice (some a) 0 0))) ?_ ?_
            · by_cases hy0 : (0 : Int) < y2
              · have hyv : Value.int .i32 y2 = .int .i32 ((N2 : Nat) : Int) := by rw [show y2 = ((N2 : Nat) : Int) by omega]
                repeat ((first | refine qA rfl ?_|refine qB ?_|refine qC rfl ?_|refine qD ?_|refine qE ?_|refine qF ?_|refine qG ?_|refine qH ?_);try simp (maxSteps:=1000000)(disch:=(first|omega|(simp only [qI,qJ,qK]<;>omega)|exact qL _)) only [go_sem,↓reduceIte,n0,reduceCtorEq,n1,n2,n3,n4,n5,i0,i1,i2,i3,i4,i5,i6,i7,hxb18,hrc1_2,hrc1_7,hrc1_8,hrc1_9,hrc1_10,hrc1_13,hrc1_12,hrc1_14,hrc1_16,hrc1_22,hra1,hri1,exitRQ_ret,exitRQ_exit,Int.toNat_natCast,Nat.mul_one,hun,hun'])
                refine wp_appendZ (m := N2) utWriteTxnMarkersRequest_268 utWriteTxnMarkersRequest_21 inWriteTxnMarkersRequest_21 (by decide) (by first | rfl | simp (maxSteps:=1000000)(disch:=(first|omega|(simp only [qI,qJ,qK]<;>omega)|exact qL _)) only [go_sem,↓reduceIte,n0,reduceCtorEq,n1,n2,n3,n4,n5,i0,i1,i2,i3,i4,i5,i6,i7,hrc1_2,hrc1_7,hrc1_8,hrc1_9,hrc1_10,hrc1_13,hrc1_12,hrc1_14,hrc1_16,hrc1_22,hra1,hri1]) (by first | exact hyv | (simp (maxSteps:=1000000)(disch:=(first|omega|(simp only [qI,qJ,qK]<;>omega)|exact qL _)) only [go_sem,↓reduceIte,n0,reduceCtorEq,n1,n2,n3,n4,n5,i0,i1,i2,i3,i4,i5,i6,i7,hrc1_2,hrc1_7,hrc1_8,hrc1_9,hrc1_10,hrc1_13,hrc1_12,hrc1_14,hrc1_16,hrc1_22,hra1,hri1];exact hyv)) (by omega) (by omega) (by decide) ?_
                intro q rest hq1
                have hEw : Ext w18 (w18.drew.alloc (.cells (zs [.int .i32 0] N2 ++ rest).toArray 21)) := (Upd.refl _ _).drew.alloc _
                try simp (maxSteps:=1000000)(disch:=(first|omega|(simp only [qI,qJ,qK]<;>omega)|exact qL _)) only [go_sem,↓reduceIte,n0,reduceCtorEq,n1,n2,n3,n4,n5,i0,i1,i2,i3,i4,i5,i6,i7,hxb18,hrc1_2,hrc1_7,hrc1_8,hrc1_9,hrc1_10,hrc1_13,hrc1_12,hrc1_14,hrc1_16,hrc1_22,hra1,hri1,exitRQ_ret,exitRQ_exit,Int.toNat_natCast,Nat.mul_one,hun,hun']
                repeat ((first | refine qA rfl ?_|refine qB ?_|refine qC rfl ?_|refine qD ?_|refine qE ?_|refine qF ?_|refine qG ?_|refine qH ?_);try simp (maxSteps:=1000000)(disch:=(first|omega|(simp only [qI,qJ,qK]<;>omega)|exact qL _)) only [go_sem,↓reduceIte,n0,reduceCtorEq,n1,n2,n3,n4,n5,i0,i1,i2,i3,i4,i5,i6,i7,hxb18,hrc1_2,hrc1_7,hrc1_8,hrc1_9,hrc1_10,hrc1_13,hrc1_12,hrc1_14,hrc1_16,hrc1_22,hra1,hri1,exitRQ_ret,exitRQ_exit,Int.toNat_natCast,Nat.mul_one,hun,hun'])
                exact ⟨(by simp (maxSteps:=1000000)(disch:=(first|omega|(simp only [qI,qJ,qK]<;>omega)|exact qL _)) only [go_sem,↓reduceIte,n0,reduceCtorEq,n1,n2,n3,n4,n5,i0,i1,i2,i3,i4,i5,i6,i7,Holds_nil,Holds_cons,hrc1_2,hrc1_7,hrc1_8,hrc1_9,hrc1_10,hrc1_13,hrc1_12,hrc1_14,hrc1_16,hrc1_22,hra1,hri1]),.slice (some ⟨w18.heap.size,0,none⟩) N2 q,(by simp (maxSteps:=1000000)(disch:=(first|omega|(simp only [qI,qJ,qK]<;>omega)|exact qL _)) only [go_sem,↓reduceIte,n0,reduceCtorEq,n1,n2,n3,n4,n5,i0,i1,i2,i3,i4,i5,i6,i7,hrc1_2,hrc1_7,hrc1_8,hrc1_9,hrc1_10,hrc1_13,hrc1_12,hrc1_14,hrc1_16,hrc1_22,hra1,hri1]),LstI.start (RowJ.start (by omega) hq1 (by show w18.heap.size ≤ w18.drew.heap.size;rw [size_drew];omega) (blk_alloc_new rfl)) ⟨hq18.1.upd hEw (fun h => h) (fun _ _ _ h => h),hq18.2.upd hEw fun h => h⟩ (hEw.mono fun _ h => h.elim),fun h0 => by omega⟩
              · repeat ((first | refine qA rfl ?_|refine qB ?_|refine qC rfl ?_|refine qD ?_|refine qE ?_|refine qF ?_|refine qG ?_|refine qH ?_);try simp (maxSteps:=1000000)(disch:=(first|omega|(simp only [qI,qJ,qK]<;>omega)|exact qL _)) only [go_sem,↓reduceIte,n0,reduceCtorEq,n1,n2,n3,n4,n5,i0,i1,i2,i3,i4,i5,i6,i7,hxb18,hrc1_2,hrc1_7,hrc1_8,hrc1_9,hrc1_10,hrc1_13,hrc1_12,hrc1_14,hrc1_16,hrc1_22,hra1,hri1,exitRQ_ret,exitRQ_exit,Int.toNat_natCast,Nat.mul_one,hun,hun'])
                exact ⟨(by simp (maxSteps:=1000000)(disch:=(first|omega|(simp only [qI,qJ,qK]<;>omega)|exact qL _)) only [go_sem,↓reduceIte,n0,reduceCtorEq,n1,n2,n3,n4,n5,i0,i1,i2,i3,i4,i5,i6,i7,Holds_nil,Holds_cons,hrc1_2,hrc1_7,hrc1_8,hrc1_9,hrc1_10,hrc1_13,hrc1_12,hrc1_14,hrc1_16,hrc1_22,hra1,hri1]),.slice none 0 0,(by simp (maxSteps:=1000000)(disch:=(first|omega|(simp only [qI,qJ,qK]<;>omega)|exact qL _)) only [go_sem,↓reduceIte,n0,reduceCtorEq,n1,n2,n3,n4,n5,i0,i1,i2,i3,i4,i5,i6,i7,hrc1_2,hrc1_7,hrc1_8,hrc1_9,hrc1_10,hrc1_13,hrc1_12,hrc1_14,hrc1_16,hrc1_22,hra1,hri1,slBase_00]),LstI.start (RowJ.zero (by omega) (fun _ h => by cases h)) hq18 (Upd.refl _ _),fun _ => by rw [nilS_plain (by decide) (by omega)];exact rfl⟩
            rintro ρ w19 ⟨⟨hrb2_2,hrb2_7,hrb2_8,hrb2_9,hrb2_10,hrb2_13,hrb2_12,hrb2_14,hrb2_16,hrb2_22,hrb2_21,hrb2_23,hrb2_25,hrb2_29,-⟩,va2,hra2,hL2,hnc2⟩
            repeat ((first | refine qA rfl ?_|refine qB ?_|refine qC rfl ?_|refine qD ?_|refine qE ?_|refine qF ?_|refine qG ?_|refine qH ?_);try simp (maxSteps:=1000000)(disch:=(first|omega|(simp only [qI,qJ,qK]<;>omega)|exact qL _)) only [go_sem,↓reduceIte,n0,reduceCtorEq,n1,n2,n3,n4,n5,i0,i1,i2,i3,i4,i5,i6,i7,hxb18,hrb2_2,hrb2_7,hrb2_8,hrb2_9,hrb2_10,hrb2_13,hrb2_12,hrb2_14,hrb2_16,hrb2_22,hrb2_21,hrb2_23,hrb2_25,hrb2_29,hra2,exitRQ_ret,exitRQ_exit,Int.toNat_natCast,Nat.mul_one,hun,hun'])
            refine W.exitRJ 4 (EndQ [(2,.bool un),(7,.pointer (some ⟨rb,0,none⟩)),(8,.int .i16 ver),(9,.bool true),(10,.pointer (some ⟨vb,0,none⟩)),(13,.int .i32 y0),(12,.slice (some ⟨R1,0,none⟩) N0 q1),(14,.int .i32 j1),(16,.pointer (some ⟨R1,j1 * 7,none⟩)),(22,.int .i32 y1),(21,.slice (some ⟨R2,0,none⟩) N1 q2),(23,.int .i32 j2),(25,.pointer (some ⟨R2,j2 * 3,none⟩)),(29,.int .i32 y2),(28,va2)] (fun w' => ∃ s xs css,LstI RT (rd1 (rdP d ver true) fX0_1.of fX0_1.sub false true) (Rep1 (RepS true d) fX0_1.of fX0_1.sub) 1 21 [.int .i32 0] w18.heap.size N2 ok (fun b => (fun b => (ok b ∨ w1.heap.size ≤ b) ∧ ¬ ownB va0 b) b ∧ ¬ ownB va1 b) rb w18 s9 va2 N2 s xs css w')) (W.loop (LoopQ [(2,.bool un),(7,.pointer (some ⟨rb,0,none⟩)),(8,.int .i16 ver),(9,.bool true),(10,.pointer (some ⟨vb,0,none⟩)),(13,.int .i32 y0),(12,.slice (some ⟨R1,0,none⟩) N0 q1),(14,.int .i32 j1),(16,.pointer (some ⟨R1,j1 * 7,none⟩)),(22,.int .i32 y1),(21,.slice (some ⟨R2,0,none⟩) N1 q2),(23,.int .i32 j2),(25,.pointer (some ⟨R2,j2 * 3,none⟩)),(29,.int .i32 y2),(28,va2)] 30 (fun j w' => ∃ s xs css,LstI RT (rd1 (rdP d ver true) fX0_1.of fX0_1.sub false true) (Rep1 (RepS true d) fX0_1.of fX0_1.sub) 1 21 [.int .i32 0] w18.heap.size N2 ok (fun b => (fun b => (ok b ∨ w1.heap.size ≤ b) ∧ ¬ ownB va0 b) b ∧ ¬ ownB va1 b) rb w18 s9 va2 j s xs css w')) (fun ρ _ => N2 - (RowKit.intOf (ρ 30)).toNat) ?_ ?_) ?_
            · exact ⟨(by simp (maxSteps:=1000000)(disch:=(first|omega|(simp only [qI,qJ,qK]<;>omega)|exact qL _)) only [go_sem,↓reduceIte,n0,reduceCtorEq,n1,n2,n3,n4,n5,i0,i1,i2,i3,i4,i5,i6,i7,Holds_nil,Holds_cons,hrb2_2,hrb2_7,hrb2_8,hrb2_9,hrb2_10,hrb2_13,hrb2_12,hrb2_14,hrb2_16,hrb2_22,hrb2_21,hrb2_23,hrb2_25,hrb2_29,hra2]),0,(by simp (maxSteps:=1000000)(disch:=(first|omega|(simp only [qI,qJ,qK]<;>omega)|exact qL _)) only [go_sem,↓reduceIte,n0,reduceCtorEq,n1,n2,n3,n4,n5,i0,i1,i2,i3,i4,i5,i6,i7,hrb2_2,hrb2_7,hrb2_8,hrb2_9,hrb2_10,hrb2_13,hrb2_12,hrb2_14,hrb2_16,hrb2_22,hrb2_21,hrb2_23,hrb2_25,hrb2_29,hra2];all_goals rfl),s9,[],[],hL2⟩
            · rintro ρ w20 ⟨⟨hrc2_2,hrc2_7,hrc2_8,hrc2_9,hrc2_10,hrc2_13,hrc2_12,hrc2_14,hrc2_16,hrc2_22,hrc2_21,hrc2_23,hrc2_25,hrc2_29,hrc2_28,-⟩,j3,hri2,s10,xs2,css2,hL2⟩
              have hj2 := hL2.le
              have hq20 := hL2.rd
              have hU20 : Upd (fun b => b = vb ∨ b = rb) w1 w20 := hU18.trans' hL2.upd fun i _ h => .inr h
              have hz20 := hL2.upd.size
              have hG20 : Glo ev w20 := hG1.updS hU20 hgM1 hgM2
              by_cases hlt2 : j3 < N2
              · obtain ⟨R3,q3,B3,hva3,hNq3,hLR3,hA3,hx3_20,hnext3⟩ := hL2.row.next hlt2
                have hRl3 := blk_lt hx3_20
                generalize css2.flatten = A3 at hA3 hx3_20 hnext3
                rw [Nat.mul_one] at hA3
                replace hra2 : ρ 28 = .slice (some ⟨R3,0,none⟩) N2 q3 := hrc2_28.trans hva3
                have hown3 : ∀ b,ownB va2 b → w18.heap.size ≤ b ∧ b < w20.heap.size := fun b h => hL2.row.own h
                have hoM3 : ∀ b,(fun b => (fun b => (fun b => (ok b ∨ w1.heap.size ≤ b) ∧ ¬ ownB va0 b) b ∧ ¬ ownB va1 b) b ∧ ¬ ownB va2 b) b → ¬ (b = R3 ∨ b = rb) := fun b hk h => h.elim (fun e => hk.2 ⟨_,_,_,hva3,e⟩) (fun e => hoM2 b hk.1 (.inr e))
                obtain ⟨X20,hX20⟩ : ∃ X : Array Value,X = (A3 ++ (([.int .i32 0] : List Value) ++ B3)).toArray := ⟨_,rfl⟩
                have hxb20 : blk w20 R3 = some (X20,21,(0,0)) := by rw [hX20];exact hx3_20
                have hXs20 : j3 + 1 ≤ X20.size := by rw [hX20];simp only [List.size_toArray,List.length_append,List.length_cons,List.length_nil,hA3];omega
                repeat ((first | refine qA rfl ?_|refine qB ?_|refine qC rfl ?_|refine qD ?_|refine qE ?_|refine qF ?_|refine qG ?_|refine qH ?_);try simp (maxSteps:=1000000)(disch:=(first|omega|(simp only [qI,qJ,qK]<;>omega)|exact qL _)) only [go_sem,↓reduceIte,n0,reduceCtorEq,n1,n2,n3,n4,n5,i0,i1,i2,i3,i4,i5,i6,i7,hxb20,hrc2_2,hrc2_7,hrc2_8,hrc2_9,hrc2_10,hrc2_13,hrc2_12,hrc2_14,hrc2_16,hrc2_22,hrc2_21,hrc2_23,hrc2_25,hrc2_29,hra2,hri2,exitRQ_ret,exitRQ_exit,Int.toNat_natCast,Nat.mul_one,hun,hun'])
                refine (Int32_fn w20 hq20.1 hrok hG20.1 hgrb).mono ?_
                rintro _ w21 ⟨rfl,hq21,hu21⟩
                have hx3_21 := hu21.blk_some hx3_20 (by omega)
                have hV21 : Upd (fun b => b = R3 ∨ b = rb) w20 w21 := hu21.mono (fun _ h => .inr h)
                have hU21 : Upd (fun b => b = vb ∨ b = rb) w1 w21 := hU20.trans' hV21 fun i hi h => h.elim (fun h => by omega) .inr
                have hz21 := hV21.size
                have hG21 : Glo ev w21 := hG1.updS hU21 hgM1 hgM2
                obtain ⟨X21,hX21⟩ : ∃ X : Array Value,X = (A3 ++ (([.int .i32 0] : List Value) ++ B3)).toArray := ⟨_,rfl⟩
                have hxb21 : blk w21 R3 = some (X21,21,(0,0)) := by rw [hX21];exact hx3_21
                have hXs21 : j3 + 1 ≤ X21.size := by rw [hX21];simp only [List.size_toArray,List.length_append,List.length_cons,List.length_nil,hA3];omega
                obtain ⟨s11,hs11⟩ : ∃ s,s = (rdInt .i32 4 s10).2 := ⟨_,rfl⟩
                rw [← hs11] at hq21
                have hrE : (rd1 (rdP d ver true) fX0_1.of fX0_1.sub false true) s10 = ((.num (rdInt .i32 4 s10).1),s11) := by rw [hs11];exact rd1_num 3 (by decide)
                have hst21_0 : j3 + 1 ≤ X21.size := by omega
                repeat ((first | refine qA rfl ?_|refine qB ?_|refine qC rfl ?_|refine qD ?_|refine qE ?_|refine qF ?_|refine qG ?_|refine qH ?_);try simp (maxSteps:=1000000)(disch:=(first|omega|(simp only [qI,qJ,qK]<;>omega)|exact qL _)) only [go_sem,↓reduceIte,n0,reduceCtorEq,n1,n2,n3,n4,n5,i0,i1,i2,i3,i4,i5,i6,i7,hxb21,hrc2_2,hrc2_7,hrc2_8,hrc2_9,hrc2_10,hrc2_13,hrc2_12,hrc2_14,hrc2_16,hrc2_22,hrc2_21,hrc2_23,hrc2_25,hrc2_29,hra2,hri2,exitRQ_ret,exitRQ_exit,Int.toNat_natCast,Nat.mul_one,hun,hun',hst21_0])
                generalize hw22 : wr w21 R3 (j3) [.int .i32 (rdInt .i32 4 s10).1] = w22
                have hS22 : Upd (fun b => b = R3 ∨ b = rb) w21 w22 := by rw [← hw22];exact (Upd.refl _ _).wr _ _ (.inr (.inl rfl))
                have hx3_22 : blk w22 R3 = some ((A3 ++ (([.int .i32 (rdInt .i32 4 s10).1] : List Value) ++ B3)).toArray,21,(0,0)) := by rw [← hw22];exact el_blk0 hx3_21 hA3 (Nat.le_of_ble_eq_true rfl)
                have hV22 := hS22
                have hU22 : Upd (fun b => b = vb ∨ b = rb) w1 w22 := hU21.trans' hV22 fun i hi h => h.elim (fun h => by omega) .inr
                have hz22 := hV22.size
                have hG22 : Glo ev w22 := hG1.updS hU22 hgM1 hgM2
                have hq22 : Rdr RT ok w22 rb s11 ∧ NN w22 rb s11 := by
                  have hn : ∀ x,x = w22 → (Rdr RT ok x rb s11 ∧ NN x rb s11) := fun x hx => by
                    rw [hx,← hw22]
                    exact Rdr.store hq21 (by omega) (fun h => by have := (hok _ h).1;first | omega | exact (hok _ h).2 rfl)
                  exact hn _ rfl
                obtain ⟨X22,hX22⟩ : ∃ X : Array Value,X = (A3 ++ (([.int .i32 (rdInt .i32 4 s10).1] : List Value) ++ B3)).toArray := ⟨_,rfl⟩
                have hxb22 : blk w22 R3 = some (X22,21,(0,0)) := by rw [hX22];exact hx3_22
                have hXs22 : j3 + 1 ≤ X22.size := by rw [hX22];simp only [List.size_toArray,List.length_append,List.length_cons,List.length_nil,hA3];omega
                clear hw22
                have hxE : (Rep1 (RepS true d) fX0_1.of fX0_1.sub) (fun b => (fun b => (fun b => (ok b ∨ w1.heap.size ≤ b) ∧ ¬ ownB va0 b) b ∧ ¬ ownB va1 b) b ∧ ¬ ownB va2 b) w22 (.num (rdInt .i32 4 s10).1) [.int .i32 (rdInt .i32 4 s10).1] := (Rep1_num (by decide)).2 (congrArg (fun x => [x]) (numC_rd 3 (by decide) 4 s10).symm)
                repeat ((first | refine qA rfl ?_|refine qB ?_|refine qC rfl ?_|refine qD ?_|refine qE ?_|refine qF ?_|refine qG ?_|refine qH ?_);try simp (maxSteps:=1000000)(disch:=(first|omega|(simp only [qI,qJ,qK]<;>omega)|exact qL _)) only [go_sem,↓reduceIte,n0,reduceCtorEq,n1,n2,n3,n4,n5,i0,i1,i2,i3,i4,i5,i6,i7,hxb22,hrc2_2,hrc2_7,hrc2_8,hrc2_9,hrc2_10,hrc2_13,hrc2_12,hrc2_14,hrc2_16,hrc2_22,hrc2_21,hrc2_23,hrc2_25,hrc2_29,hra2,hri2,exitRQ_ret,exitRQ_exit,Int.toNat_natCast,Nat.mul_one,hun,hun'])
                have hTk : Upd (fun b => b = R3 ∨ b = rb) w20 w22 := (hV21.trans hV22)
                have hL' := hL2.step (Rep1_lay _ _ fun _ => RepS_lay true _ _) hlt2 (hnext3 w22 [.int .i32 (rdInt .i32 4 s10).1] rfl hx3_22) (by rw [hrE];exact hxE) (hTk.mono fun b h => h.imp (fun e => ⟨_,_,_,hva3,e⟩) id) (by rw [hrE];exact hq22) (fun h => hoM2 rb h (.inr rfl)) (Nat.le_refl _)
                have hij : IntKind.i32.wrap ((j3 : Int) + 1) = ((j3 + 1 : Nat) : Int) := by rw [i32_wrap (by omega)];omega
                repeat ((first | refine qA rfl ?_|refine qB ?_|refine qC rfl ?_|refine qD ?_|refine qE ?_|refine qF ?_|refine qG ?_|refine qH ?_);try simp (maxSteps:=1000000)(disch:=(first|omega|(simp only [qI,qJ,qK]<;>omega)|exact qL _)) only [go_sem,↓reduceIte,n0,reduceCtorEq,n1,n2,n3,n4,n5,i0,i1,i2,i3,i4,i5,i6,i7,hxb22,hrc2_2,hrc2_7,hrc2_8,hrc2_9,hrc2_10,hrc2_13,hrc2_12,hrc2_14,hrc2_16,hrc2_22,hrc2_21,hrc2_23,hrc2_25,hrc2_29,hra2,hri2,exitRQ_ret,exitRQ_exit,Int.toNat_natCast,Nat.mul_one,hun,hun',hij])
                refine ⟨⟨(by simp (maxSteps:=1000000)(disch:=(first|omega|(simp only [qI,qJ,qK]<;>omega)|exact qL _)) only [go_sem,↓reduceIte,n0,reduceCtorEq,n1,n2,n3,n4,n5,i0,i1,i2,i3,i4,i5,i6,i7,Holds_nil,Holds_cons,hrc2_2,hrc2_7,hrc2_8,hrc2_9,hrc2_10,hrc2_13,hrc2_12,hrc2_14,hrc2_16,hrc2_22,hrc2_21,hrc2_23,hrc2_25,hrc2_29,hra2,hri2];exact hva3.symm),j3 + 1,(by simp (maxSteps:=1000000)(disch:=(first|omega|(simp only [qI,qJ,qK]<;>omega)|exact qL _)) only [go_sem,↓reduceIte,n0,reduceCtorEq,n1,n2,n3,n4,n5,i0,i1,i2,i3,i4,i5,i6,i7,hrc2_2,hrc2_7,hrc2_8,hrc2_9,hrc2_10,hrc2_13,hrc2_12,hrc2_14,hrc2_16,hrc2_22,hrc2_21,hrc2_23,hrc2_25,hrc2_29,hra2,hri2,hij];all_goals rfl),_,_,_,hL'⟩,?_⟩
                try simp (maxSteps:=1000000)(disch:=(first|omega|(simp only [qI,qJ,qK]<;>omega)|exact qL _)) only [go_sem,↓reduceIte,n0,reduceCtorEq,n1,n2,n3,n4,n5,i0,i1,i2,i3,i4,i5,i6,i7,hrc2_2,hrc2_7,hrc2_8,hrc2_9,hrc2_10,hrc2_13,hrc2_12,hrc2_14,hrc2_16,hrc2_22,hrc2_21,hrc2_23,hrc2_25,hrc2_29,hra2,hri2]
                simp only [RowKit.intOf]
                omega
              · have hjN : j3 = N2 := by omega
                rw [hjN] at hL2
                repeat ((first | refine qA rfl ?_|refine qB ?_|refine qC rfl ?_|refine qD ?_|refine qE ?_|refine qF ?_|refine qG ?_|refine qH ?_);try simp (maxSteps:=1000000)(disch:=(first|omega|(simp only [qI,qJ,qK]<;>omega)|exact qL _)) only [go_sem,↓reduceIte,n0,reduceCtorEq,n1,n2,n3,n4,n5,i0,i1,i2,i3,i4,i5,i6,i7,hrc2_2,hrc2_7,hrc2_8,hrc2_9,hrc2_10,hrc2_13,hrc2_12,hrc2_14,hrc2_16,hrc2_22,hrc2_21,hrc2_23,hrc2_25,hrc2_29,hrc2_28,hri2,exitRQ_ret,exitRQ_exit])
                exact ⟨(by simp (maxSteps:=1000000)(disch:=(first|omega|(simp only [qI,qJ,qK]<;>omega)|exact qL _)) only [go_sem,↓reduceIte,n0,reduceCtorEq,n1,n2,n3,n4,n5,i0,i1,i2,i3,i4,i5,i6,i7,Holds_nil,Holds_cons,hrc2_2,hrc2_7,hrc2_8,hrc2_9,hrc2_10,hrc2_13,hrc2_12,hrc2_14,hrc2_16,hrc2_22,hrc2_21,hrc2_23,hrc2_25,hrc2_29,hrc2_28,hri2]),s10,xs2,css2,hL2⟩
            rintro ρ w23 ⟨⟨hrd2_2,hrd2_7,hrd2_8,hrd2_9,hrd2_10,hrd2_13,hrd2_12,hrd2_14,hrd2_16,hrd2_22,hrd2_21,hrd2_23,hrd2_25,hrd2_29,hrd2_28,-⟩,s12,xs2,css2,hL2⟩
            have hq23 := hL2.rd
            have hu23 := hL2.upd
            have hx2_23 := hu23.blk_some hx2_18 (by omega)
            have hV23 : Upd (fun b => b = R2 ∨ b = rb) w18 w23 := hu23.mono (fun _ h => .inr h)
            have hU23 : Upd (fun b => b = vb ∨ b = rb) w1 w23 := hU18.trans' hV23 fun i hi h => h.elim (fun h => by omega) .inr
            have hz23 := hV23.size
            have hG23 : Glo ev w23 := hG1.updS hU23 hgM1 hgM2
            obtain ⟨X23,hX23⟩ : ∃ X : Array Value,X = (A2 ++ (([strV (rdStr true s7).1,.slice none 0 0,.map none] : List Value) ++ B2)).toArray := ⟨_,rfl⟩
            have hxb23 : blk w23 R2 = some (X23,270,(0,0)) := by rw [hX23];exact hx2_23
            have hXs23 : j2 * 3 + 3 ≤ X23.size := by rw [hX23];simp only [List.size_toArray,List.length_append,List.length_cons,List.length_nil,hA2];omega
            have hrd2 : rdF (rdP d ver true) ver true fX0_1 s8 = (.mk 0 [] (nilS fX0_1 ver y2) xs2 [],s12) := by
              have h := rdF_listE (pt := (rdP d ver true)) (v := ver) (flex := true) (f := fX0_1) (s := s8) (xs := xs2) (e := s12) rfl (by rw [hy2,← hN2,← hs9];exact hL2.done)
              rw [hy2] at h;exact h
            have hs12 : s12 = (rdF (rdP d ver true) ver true fX0_1 s8).2 := by rw [hrd2]
            obtain ⟨aa2,qq2,hvs2⟩ := hL2.row.shape
            subst hvs2
            have hst23_1 : j2 * 3 + 2 ≤ X23.size := by omega
            repeat ((first | refine qA rfl ?_|refine qB ?_|refine qC rfl ?_|refine qD ?_|refine qE ?_|refine qF ?_|refine qG ?_|refine qH ?_);try simp (maxSteps:=1000000)(disch:=(first|omega|(simp only [qI,qJ,qK]<;>omega)|exact qL _)) only [go_sem,↓reduceIte,n0,reduceCtorEq,n1,n2,n3,n4,n5,i0,i1,i2,i3,i4,i5,i6,i7,hxb23,hrd2_2,hrd2_7,hrd2_8,hrd2_9,hrd2_10,hrd2_13,hrd2_12,hrd2_14,hrd2_16,hrd2_22,hrd2_21,hrd2_23,hrd2_25,hrd2_29,hrd2_28,exitRQ_ret,exitRQ_exit,Int.toNat_natCast,Nat.mul_one,hun,hun',hst23_1])
            generalize hw24 : wr w23 R2 (j2 * 3 + 1) [.slice aa2 N2 qq2] = w24
            have hS24 : Upd (fun b => b = R2 ∨ b = rb) w23 w24 := by rw [← hw24];exact (Upd.refl _ _).wr _ _ (.inr (.inl rfl))
            have hx2_24 : blk w24 R2 = some ((A2 ++ (([strV (rdStr true s7).1,.slice aa2 N2 qq2,.map none] : List Value) ++ B2)).toArray,270,(0,0)) := by rw [← hw24];exact el_blk (o := 1) hx2_23 hA2 (Nat.le_of_ble_eq_true rfl)
            have hV24 := hS24
            have hU24 : Upd (fun b => b = vb ∨ b = rb) w1 w24 := hU23.trans' hV24 fun i hi h => h.elim (fun h => by omega) .inr
            have hz24 := hV24.size
            have hG24 : Glo ev w24 := hG1.updS hU24 hgM1 hgM2
            have hq24 : Rdr RT ok w24 rb s12 ∧ NN w24 rb s12 := by
              have hn : ∀ x,x = w24 → (Rdr RT ok x rb s12 ∧ NN x rb s12) := fun x hx => by
                rw [hx,← hw24]
                exact Rdr.store hq23 (by omega) (fun h => by have := (hok _ h).1;first | omega | exact (hok _ h).2 rfl)
              exact hn _ rfl
            obtain ⟨X24,hX24⟩ : ∃ X : Array Value,X = (A2 ++ (([strV (rdStr true s7).1,.slice aa2 N2 qq2,.map none] : List Value) ++ B2)).toArray := ⟨_,rfl⟩
            have hxb24 : blk w24 R2 = some (X24,270,(0,0)) := by rw [hX24];exact hx2_24
            have hXs24 : j2 * 3 + 3 ≤ X24.size := by rw [hX24];simp only [List.size_toArray,List.length_append,List.length_cons,List.length_nil,hA2];omega
            clear hw24
            have hfe0e1_1 : RepF (RepS true d) (szS true d) fX0_1 (fun b => (fun b => (ok b ∨ w1.heap.size ≤ b) ∧ ¬ ownB va0 b) b ∧ ¬ ownB va1 b) w24 (xe0e1_1) [.slice aa2 N2 qq2] := by rw [hxe0e1_1,hrd2];exact RepF.keepS (RepF_row rfl hnc2 hN2 rfl hL2.row hL2.all (fun b hb => ⟨⟨.inr (by omega),fun ho => by have := (hown1 _ ho).2;omega⟩,fun ho => by have := (hown2 _ ho).2;omega⟩)) (hV24.keeps fun b _ hk e => hoM2 b hk e)
            clear hL2 hnc2
            have hle0e1_2 : rdL (rdP d ver true) (dfP d) ver true [] s12 = ([],s12) := rfl
            have hle0e1_1 : rdL (rdP d ver true) (dfP d) ver true [fX0_1] s8 = ([xe0e1_1],s12) := by rw [rdL_st (by decide) hhe0e1_1,← hxe0e1_1,← hs12,hle0e1_2]
            have hle0e1_0 : rdL (rdP d ver true) (dfP d) ver true [fX0_0,fX0_1] s7 = ([xe0e1_0,xe0e1_1],s12) := by rw [rdL_st (by decide) hhe0e1_0,← hxe0e1_0,← hs8,hle0e1_1]
            have hfine0e1 : rdP (d + 1) ver true fs_X0 s7 = (.mk 0 [] false [xe0e1_0,xe0e1_1] (rdTags s12).1,(rdTags s12).2) := rdP_t hle0e1_0
            repeat ((first | refine qA rfl ?_|refine qB ?_|refine qC rfl ?_|refine qD ?_|refine qE ?_|refine qF ?_|refine qG ?_|refine qH ?_);try simp (maxSteps:=1000000)(disch:=(first|omega|(simp only [qI,qJ,qK]<;>omega)|exact qL _)) only [go_sem,↓reduceIte,n0,reduceCtorEq,n1,n2,n3,n4,n5,i0,i1,i2,i3,i4,i5,i6,i7,hxb24,hrd2_2,hrd2_7,hrd2_8,hrd2_9,hrd2_10,hrd2_13,hrd2_12,hrd2_14,hrd2_16,hrd2_22,hrd2_21,hrd2_23,hrd2_25,hrd2_29,hrd2_28,exitRQ_ret,exitRQ_exit,Int.toNat_natCast,Nat.mul_one,hun,hun'])
            refine (ReadTags_fn w24 hq24.1 hrok).mono ?_
            rintro _ w25 ⟨qme0e1,rfl,hT25,hTn,hq25,hu25⟩
            have hx2_25 := hu25.blk_some hx2_24 (by omega)
            have hV25 : Upd (fun b => b = R2 ∨ b = rb) w24 w25 := hu25.mono (fun _ h => .inr h)
            have hU25 : Upd (fun b => b = vb ∨ b = rb) w1 w25 := hU24.trans' hV25 fun i hi h => h.elim (fun h => by omega) .inr
            have hz25 := hV25.size
            have hG25 : Glo ev w25 := hG1.updS hU25 hgM1 hgM2
            obtain ⟨X25,hX25⟩ : ∃ X : Array Value,X = (A2 ++ (([strV (rdStr true s7).1,.slice aa2 N2 qq2,.map none] : List Value) ++ B2)).toArray := ⟨_,rfl⟩
            have hxb25 : blk w25 R2 = some (X25,270,(0,0)) := by rw [hX25];exact hx2_25
            have hXs25 : j2 * 3 + 3 ≤ X25.size := by rw [hX25];simp only [List.size_toArray,List.length_append,List.length_cons,List.length_nil,hA2];omega
            obtain ⟨s13,hs13⟩ : ∃ s,s = (rdTags s12).2 := ⟨_,rfl⟩
            rw [← hs13] at hq25 hfine0e1
            have hst25_2 : j2 * 3 + 3 ≤ X25.size := by omega
            try simp (maxSteps:=1000000)(disch:=(first|omega|(simp only [qI,qJ,qK]<;>omega)|exact qL _)) only [go_sem,↓reduceIte,n0,reduceCtorEq,n1,n2,n3,n4,n5,i0,i1,i2,i3,i4,i5,i6,i7,hxb25,hrd2_2,hrd2_7,hrd2_8,hrd2_9,hrd2_10,hrd2_13,hrd2_12,hrd2_14,hrd2_16,hrd2_22,hrd2_21,hrd2_23,hrd2_25,hrd2_29,hrd2_28,exitRQ_ret,exitRQ_exit,Int.toNat_natCast,Nat.mul_one,hun,hun',hst25_2]
            repeat ((first | refine qA rfl ?_|refine qB ?_|refine qC rfl ?_|refine qD ?_|refine qE ?_|refine qF ?_|refine qG ?_|refine qH ?_);try simp (maxSteps:=1000000)(disch:=(first|omega|(simp only [qI,qJ,qK]<;>omega)|exact qL _)) only [go_sem,↓reduceIte,n0,reduceCtorEq,n1,n2,n3,n4,n5,i0,i1,i2,i3,i4,i5,i6,i7,hxb25,hrd2_2,hrd2_7,hrd2_8,hrd2_9,hrd2_10,hrd2_13,hrd2_12,hrd2_14,hrd2_16,hrd2_22,hrd2_21,hrd2_23,hrd2_25,hrd2_29,hrd2_28,exitRQ_ret,exitRQ_exit,Int.toNat_natCast,Nat.mul_one,hun,hun',hst25_2])
            generalize hw26 : wr w25 R2 (j2 * 3 + 2) [.map qme0e1] = w26
            have hS26 : Upd (fun b => b = R2 ∨ b = rb) w25 w26 := by rw [← hw26];exact (Upd.refl _ _).wr _ _ (.inr (.inl rfl))
            have hx2_26 : blk w26 R2 = some ((A2 ++ (([strV (rdStr true s7).1,.slice aa2 N2 qq2,.map qme0e1] : List Value) ++ B2)).toArray,270,(0,0)) := by rw [← hw26];exact el_blk (o := 2) hx2_25 hA2 (Nat.le_of_ble_eq_true rfl)
            have hV26 := hS26
            have hU26 : Upd (fun b => b = vb ∨ b = rb) w1 w26 := hU25.trans' hV26 fun i hi h => h.elim (fun h => by omega) .inr
            have hz26 := hV26.size
            have hG26 : Glo ev w26 := hG1.updS hU26 hgM1 hgM2
            have hq26 : Rdr RT ok w26 rb s13 ∧ NN w26 rb s13 := by
              have hn : ∀ x,x = w26 → (Rdr RT ok x rb s13 ∧ NN x rb s13) := fun x hx => by
                rw [hx,← hw26]
                exact Rdr.store hq25 (by omega) (fun h => by have := (hok _ h).1;first | omega | exact (hok _ h).2 rfl)
              exact hn _ rfl
            obtain ⟨X26,hX26⟩ : ∃ X : Array Value,X = (A2 ++ (([strV (rdStr true s7).1,.slice aa2 N2 qq2,.map qme0e1] : List Value) ++ B2)).toArray := ⟨_,rfl⟩
            have hxb26 : blk w26 R2 = some (X26,270,(0,0)) := by rw [hX26];exact hx2_26
            have hXs26 : j2 * 3 + 3 ≤ X26.size := by rw [hX26];simp only [List.size_toArray,List.length_append,List.length_cons,List.length_nil,hA2];omega
            clear hw26
            have hTge0e1 : TagsM (fun b => (fun b => (ok b ∨ w1.heap.size ≤ b) ∧ ¬ ownB va0 b) b ∧ ¬ ownB va1 b) w26 (.map qme0e1) (rdTags s12).1 := (hT25.weaken fun b _ hk => hk.elim (fun hk => ⟨⟨.inl hk,fun ho => by have := (hown1 b ho).1;have := (hok b hk).1;omega⟩,fun ho => by have := (hown2 b ho).1;have := (hok b hk).1;omega⟩) (fun h => by have h' : w24.heap.size ≤ b := h;exact ⟨⟨.inr (by omega),fun ho => by have := (hown1 _ ho).2;omega⟩,fun ho => by have := (hown2 _ ho).2;omega⟩)).keep (hV26.keeps fun b _ hk e => hoM2 b hk e)
            have hCe0e1_26 : Upd (fun b => b = R2 ∨ b = rb) w26 w26 := Upd.refl _ _
            have hCe0e1_25 : Upd (fun b => b = R2 ∨ b = rb) w25 w26 := hV26.trans hCe0e1_26
            have hCe0e1_24 : Upd (fun b => b = R2 ∨ b = rb) w24 w26 := hV25.trans hCe0e1_25
            have hCe0e1_23 : Upd (fun b => b = R2 ∨ b = rb) w23 w26 := hV24.trans hCe0e1_24
            have hCe0e1_18 : Upd (fun b => b = R2 ∨ b = rb) w18 w26 := hV23.trans hCe0e1_23
            have hCe0e1_17 : Upd (fun b => b = R2 ∨ b = rb) w17 w26 := hV18.trans hCe0e1_18
            have hCe0e1_16 : Upd (fun b => b = R2 ∨ b = rb) w16 w26 := hV17.trans hCe0e1_17
            have hCe0e1_15 : Upd (fun b => b = R2 ∨ b = rb) w15 w26 := hV16.trans hCe0e1_16
            have hCe0e1_14 : Upd (fun b => b = R2 ∨ b = rb) w14 w26 := hV15.trans hCe0e1_15
            have hRe0e1 : RepS true (d + 1) fs_X0 (fun b => (fun b => (ok b ∨ w1.heap.size ≤ b) ∧ ¬ ownB va0 b) b ∧ ¬ ownB va1 b) w26 (.mk 0 [] false [xe0e1_0,xe0e1_1] (rdTags s12).1) [strV (rdStr true s7).1,.slice aa2 N2 qq2,.map qme0e1] := RepS.introT (c := [strV (rdStr true s7).1,.slice aa2 N2 qq2]) (RepL.cons1 (hfe0e1_0.keepS (hCe0e1_17.keeps fun b _ hk e => hoM2 b hk e)) (RepL.cons1 (hfe0e1_1.keepS (hCe0e1_24.keeps fun b _ hk e => hoM2 b hk e)) RepL.nil)) hTge0e1
            have hrE : (rd1 (rdP (d + 1) ver true) fX1_3.of fX1_3.sub false true) s7 = ((.mk 0 [] false [xe0e1_0,xe0e1_1] (rdTags s12).1),s13) := by rw [show (rd1 (rdP (d + 1) ver true) fX1_3.of fX1_3.sub false true) s7 = _ from rd1_part];exact hfine0e1
            have hxE : (Rep1 (RepS true (d + 1)) fX1_3.of fX1_3.sub) (fun b => (fun b => (ok b ∨ w1.heap.size ≤ b) ∧ ¬ ownB va0 b) b ∧ ¬ ownB va1 b) w26 (.mk 0 [] false [xe0e1_0,xe0e1_1] (rdTags s12).1) [strV (rdStr true s7).1,.slice aa2 N2 qq2,.map qme0e1] := Rep1_part.2 hRe0e1
            repeat ((first | refine qA rfl ?_|refine qB ?_|refine qC rfl ?_|refine qD ?_|refine qE ?_|refine qF ?_|refine qG ?_|refine qH ?_);try simp (maxSteps:=1000000)(disch:=(first|omega|(simp only [qI,qJ,qK]<;>omega)|exact qL _)) only [go_sem,↓reduceIte,n0,reduceCtorEq,n1,n2,n3,n4,n5,i0,i1,i2,i3,i4,i5,i6,i7,hxb26,hrd2_2,hrd2_7,hrd2_8,hrd2_9,hrd2_10,hrd2_13,hrd2_12,hrd2_14,hrd2_16,hrd2_22,hrd2_21,hrd2_23,hrd2_25,hrd2_29,hrd2_28,exitRQ_ret,exitRQ_exit,Int.toNat_natCast,Nat.mul_one,hun,hun'])
            have hTk : Upd (fun b => b = R2 ∨ b = rb) w14 w26 := (((((((hV15.trans hV16).trans hV17).trans hV18).trans hV23).trans hV24).trans hV25).trans hV26)
            have hL' := hL1.step (Rep1_lay _ _ fun _ => RepS_lay true _ _) hlt1 (hnext2 w26 [strV (rdStr true s7).1,.slice aa2 N2 qq2,.map qme0e1] rfl hx2_26) (by rw [hrE];exact hxE) (hTk.mono fun b h => h.imp (fun e => ⟨_,_,_,hva2,e⟩) id) (by rw [hrE];exact hq26) (fun h => hoM1 rb h (.inr rfl)) (Nat.le_refl _)
            have hij : IntKind.i32.wrap ((j2 : Int) + 1) = ((j2 + 1 : Nat) : Int) := by rw [i32_wrap (by omega)];omega
            repeat ((first | refine qA rfl ?_|refine qB ?_|refine qC rfl ?_|refine qD ?_|refine qE ?_|refine qF ?_|refine qG ?_|refine qH ?_);try simp (maxSteps:=1000000)(disch:=(first|omega|(simp only [qI,qJ,qK]<;>omega)|exact qL _)) only [go_sem,↓reduceIte,n0,reduceCtorEq,n1,n2,n3,n4,n5,i0,i1,i2,i3,i4,i5,i6,i7,hxb26,hrd2_2,hrd2_7,hrd2_8,hrd2_9,hrd2_10,hrd2_13,hrd2_12,hrd2_14,hrd2_16,hrd2_22,hrd2_21,hrd2_23,hrd2_25,hrd2_29,hrd2_28,exitRQ_ret,exitRQ_exit,Int.toNat_natCast,Nat.mul_one,hun,hun',hij])
            refine ⟨⟨(by simp (maxSteps:=1000000)(disch:=(first|omega|(simp only [qI,qJ,qK]<;>omega)|exact qL _)) only [go_sem,↓reduceIte,n0,reduceCtorEq,n1,n2,n3,n4,n5,i0,i1,i2,i3,i4,i5,i6,i7,Holds_nil,Holds_cons,hrd2_2,hrd2_7,hrd2_8,hrd2_9,hrd2_10,hrd2_13,hrd2_12,hrd2_14,hrd2_16,hrd2_22,hrd2_21,hrd2_23,hrd2_25,hrd2_29,hrd2_28];exact hva2.symm),j2 + 1,(by simp (maxSteps:=1000000)(disch:=(first|omega|(simp only [qI,qJ,qK]<;>omega)|exact qL _)) only [go_sem,↓reduceIte,n0,reduceCtorEq,n1,n2,n3,n4,n5,i0,i1,i2,i3,i4,i5,i6,i7,hrd2_2,hrd2_7,hrd2_8,hrd2_9,hrd2_10,hrd2_13,hrd2_12,hrd2_14,hrd2_16,hrd2_22,hrd2_21,hrd2_23,hrd2_25,hrd2_29,hrd2_28,hij];all_goals rfl),_,_,_,hL'⟩,?_⟩
            try simp (maxSteps:=1000000)(disch:=(first|omega|(simp only [qI,qJ,qK]<;>omega)|exact qL _)) only [go_sem,↓reduceIte,n0,reduceCtorEq,n1,n2,n3,n4,n5,i0,i1,i2,i3,i4,i5,i6,i7,hrd2_2,hrd2_7,hrd2_8,hrd2_9,hrd2_10,hrd2_13,hrd2_12,hrd2_14,hrd2_16,hrd2_22,hrd2_21,hrd2_23,hrd2_25,hrd2_29,hrd2_28]
            simp only [RowKit.intOf]
            omega
          · have hjN : j2 = N1 := by omega
            rw [hjN] at hL1
            repeat ((first | refine qA rfl ?_|refine qB ?_|refine qC rfl ?_|refine qD ?_|refine qE ?_|refine qF ?_|refine qG ?_|refine qH ?_);try simp (maxSteps:=1000000)(disch:=(first|omega|(simp only [qI,qJ,qK]<;>omega)|exact qL _)) only [go_sem,↓reduceIte,n0,reduceCtorEq,n1,n2,n3,n4,n5,i0,i1,i2,i3,i4,i5,i6,i7,hrc1_2,hrc1_7,hrc1_8,hrc1_9,hrc1_10,hrc1_13,hrc1_12,hrc1_14,hrc1_16,hrc1_22,hrc1_21,hri1,exitRQ_ret,exitRQ_exit])
            exact ⟨(by simp (maxSteps:=1000000)(disch:=(first|omega|(simp only [qI,qJ,qK]<;>omega)|exact qL _)) only [go_sem,↓reduceIte,n0,reduceCtorEq,n1,n2,n3,n4,n5,i0,i1,i2,i3,i4,i5,i6,i7,Holds_nil,Holds_cons,hrc1_2,hrc1_7,hrc1_8,hrc1_9,hrc1_10,hrc1_13,hrc1_12,hrc1_14,hrc1_16,hrc1_22,hrc1_21,hri1]),s7,xs1,css1,hL1⟩
        rintro ρ w27 ⟨⟨hrd1_2,hrd1_7,hrd1_8,hrd1_9,hrd1_10,hrd1_13,hrd1_12,hrd1_14,hrd1_16,hrd1_22,hrd1_21,-⟩,s14,xs1,css1,hL1⟩
        have hq27 := hL1.rd
        have hu27 := hL1.upd
        have hx1_27 := hu27.blk_some hx1_12 (by omega)
        have hV27 : Upd (fun b => b = R1 ∨ b = rb) w12 w27 := hu27.mono (fun _ h => .inr h)
        have hU27 : Upd (fun b => b = vb ∨ b = rb) w1 w27 := hU12.trans' hV27 fun i hi h => h.elim (fun h => by omega) .inr
        have hz27 := hV27.size
        have hG27 : Glo ev w27 := hG1.updS hU27 hgM1 hgM2
        obtain ⟨X27,hX27⟩ : ∃ X : Array Value,X = (A1 ++ (([.int .i64 (rdInt .i64 8 s2).1,.int .i16 (rdInt .i16 2 s3).1,.bool (!decide (beN (rdN 1 s4).1 = 0)),.slice none 0 0,.int .i32 0,.int .i8 0,.map none] : List Value) ++ B1)).toArray := ⟨_,rfl⟩
        have hxb27 : blk w27 R1 = some (X27,171,(0,0)) := by rw [hX27];exact hx1_27
        have hXs27 : j1 * 7 + 7 ≤ X27.size := by rw [hX27];simp only [List.size_toArray,List.length_append,List.length_cons,List.length_nil,hA1];omega
        have hrd1 : rdF (rdP (d + 1) ver true) ver true fX1_3 s5 = (.mk 0 [] (nilS fX1_3 ver y1) xs1 [],s14) := by
          have h := rdF_listE (pt := (rdP (d + 1) ver true)) (v := ver) (flex := true) (f := fX1_3) (s := s5) (xs := xs1) (e := s14) rfl (by rw [hy1,← hN1,← hs6];exact hL1.done)
          rw [hy1] at h;exact h
        have hs14 : s14 = (rdF (rdP (d + 1) ver true) ver true fX1_3 s5).2 := by rw [hrd1]
        obtain ⟨aa1,qq1,hvs1⟩ := hL1.row.shape
        subst hvs1
        have hst27_3 : j1 * 7 + 4 ≤ X27.size := by omega
        repeat ((first | refine qA rfl ?_|refine qB ?_|refine qC rfl ?_|refine qD ?_|refine qE ?_|refine qF ?_|refine qG ?_|refine qH ?_);try simp (maxSteps:=1000000)(disch:=(first|omega|(simp only [qI,qJ,qK]<;>omega)|exact qL _)) only [go_sem,↓reduceIte,n0,reduceCtorEq,n1,n2,n3,n4,n5,i0,i1,i2,i3,i4,i5,i6,i7,hxb27,hrd1_2,hrd1_7,hrd1_8,hrd1_9,hrd1_10,hrd1_13,hrd1_12,hrd1_14,hrd1_16,hrd1_22,hrd1_21,exitRQ_ret,exitRQ_exit,Int.toNat_natCast,Nat.mul_one,hun,hun',hst27_3])
        generalize hw28 : wr w27 R1 (j1 * 7 + 3) [.slice aa1 N1 qq1] = w28
        have hS28 : Upd (fun b => b = R1 ∨ b = rb) w27 w28 := by rw [← hw28];exact (Upd.refl _ _).wr _ _ (.inr (.inl rfl))
        have hx1_28 : blk w28 R1 = some ((A1 ++ (([.int .i64 (rdInt .i64 8 s2).1,.int .i16 (rdInt .i16 2 s3).1,.bool (!decide (beN (rdN 1 s4).1 = 0)),.slice aa1 N1 qq1,.int .i32 0,.int .i8 0,.map none] : List Value) ++ B1)).toArray,171,(0,0)) := by rw [← hw28];exact el_blk (o := 3) hx1_27 hA1 (Nat.le_of_ble_eq_true rfl)
        have hV28 := hS28
        have hU28 : Upd (fun b => b = vb ∨ b = rb) w1 w28 := hU27.trans' hV28 fun i hi h => h.elim (fun h => by omega) .inr
        have hz28 := hV28.size
        have hG28 : Glo ev w28 := hG1.updS hU28 hgM1 hgM2
        have hq28 : Rdr RT ok w28 rb s14 ∧ NN w28 rb s14 := by
          have hn : ∀ x,x = w28 → (Rdr RT ok x rb s14 ∧ NN x rb s14) := fun x hx => by
            rw [hx,← hw28]
            exact Rdr.store hq27 (by omega) (fun h => by have := (hok _ h).1;first | omega | exact (hok _ h).2 rfl)
          exact hn _ rfl
        obtain ⟨X28,hX28⟩ : ∃ X : Array Value,X = (A1 ++ (([.int .i64 (rdInt .i64 8 s2).1,.int .i16 (rdInt .i16 2 s3).1,.bool (!decide (beN (rdN 1 s4).1 = 0)),.slice aa1 N1 qq1,.int .i32 0,.int .i8 0,.map none] : List Value) ++ B1)).toArray := ⟨_,rfl⟩
        have hxb28 : blk w28 R1 = some (X28,171,(0,0)) := by rw [hX28];exact hx1_28
        have hXs28 : j1 * 7 + 7 ≤ X28.size := by rw [hX28];simp only [List.size_toArray,List.length_append,List.length_cons,List.length_nil,hA1];omega
        clear hw28
        have hfe0_3 : RepF (RepS true (d + 1)) (szS true (d + 1)) fX1_3 (fun b => (ok b ∨ w1.heap.size ≤ b) ∧ ¬ ownB va0 b) w28 (xe0_3) [.slice aa1 N1 qq1] := by rw [hxe0_3,hrd1];exact RepF.keepS (RepF_row rfl hnc1 hN1 rfl hL1.row hL1.all (fun b hb => ⟨.inr (by omega),fun ho => by have := (hown1 _ ho).2;omega⟩)) (hV28.keeps fun b _ hk e => hoM1 b hk e)
        clear hL1 hnc1
        have hbe0_4 : (rdL (rdP (d + 1) ver true) (dfP (d + 1)) ver true [fX1_4,fX1_5] s14).2 = none → FB := fun h => hbe0_3 (by rw [rdL_st (by decide) hhe0_3,← hs14];exact h)
        have hhe0_4 : hasS fX1_4 ver = true := hasS_t (by show (0 : Int) ≤ ver;omega) (by show (-1 : Int) < 0 ∨ ver ≤ (-1 : Int);omega)
        obtain ⟨xe0_4,hxe0_4⟩ : ∃ x,x = (rdF (rdP (d + 1) ver true) ver true fX1_4 s14).1 := ⟨_,rfl⟩
        repeat ((first | refine qA rfl ?_|refine qB ?_|refine qC rfl ?_|refine qD ?_|refine qE ?_|refine qF ?_|refine qG ?_|refine qH ?_);try simp (maxSteps:=1000000)(disch:=(first|omega|(simp only [qI,qJ,qK]<;>omega)|exact qL _)) only [go_sem,↓reduceIte,n0,reduceCtorEq,n1,n2,n3,n4,n5,i0,i1,i2,i3,i4,i5,i6,i7,hxb28,hrd1_2,hrd1_7,hrd1_8,hrd1_9,hrd1_10,hrd1_13,hrd1_12,hrd1_14,hrd1_16,hrd1_22,hrd1_21,exitRQ_ret,exitRQ_exit,Int.toNat_natCast,Nat.mul_one,hun,hun'])
        have hrd : rdF (rdP (d + 1) ver true) ver true fX1_4 s14 = _ := rdF_num 3 rfl (by decide)
        refine (Int32_fn w28 hq28.1 hrok hG28.1 hgrb).mono ?_
        rintro _ w29 ⟨rfl,hq29,hu29⟩
        have hx1_29 := hu29.blk_some hx1_28 (by omega)
        have hV29 : Upd (fun b => b = R1 ∨ b = rb) w28 w29 := hu29.mono (fun _ h => .inr h)
        have hU29 : Upd (fun b => b = vb ∨ b = rb) w1 w29 := hU28.trans' hV29 fun i hi h => h.elim (fun h => by omega) .inr
        have hz29 := hV29.size
        have hG29 : Glo ev w29 := hG1.updS hU29 hgM1 hgM2
        obtain ⟨X29,hX29⟩ : ∃ X : Array Value,X = (A1 ++ (([.int .i64 (rdInt .i64 8 s2).1,.int .i16 (rdInt .i16 2 s3).1,.bool (!decide (beN (rdN 1 s4).1 = 0)),.slice aa1 N1 qq1,.int .i32 0,.int .i8 0,.map none] : List Value) ++ B1)).toArray := ⟨_,rfl⟩
        have hxb29 : blk w29 R1 = some (X29,171,(0,0)) := by rw [hX29];exact hx1_29
        have hXs29 : j1 * 7 + 7 ≤ X29.size := by rw [hX29];simp only [List.size_toArray,List.length_append,List.length_cons,List.length_nil,hA1];omega
        have hst : (rdF (rdP (d + 1) ver true) ver true fX1_4 s14).2 = (rdInt .i32 4 s14).2 := by first | (rw [hrd];rfl) | rw [hrd]
        obtain ⟨s15,hs15⟩ : ∃ s,s = (rdF (rdP (d + 1) ver true) ver true fX1_4 s14).2 := ⟨_,rfl⟩
        rw [← hst,← hs15] at hq29
        clear hst
        have hst29_4 : j1 * 7 + 5 ≤ X29.size := by omega
        repeat ((first | refine qA rfl ?_|refine qB ?_|refine qC rfl ?_|refine qD ?_|refine qE ?_|refine qF ?_|refine qG ?_|refine qH ?_);try simp (maxSteps:=1000000)(disch:=(first|omega|(simp only [qI,qJ,qK]<;>omega)|exact qL _)) only [go_sem,↓reduceIte,n0,reduceCtorEq,n1,n2,n3,n4,n5,i0,i1,i2,i3,i4,i5,i6,i7,hxb29,hrd1_2,hrd1_7,hrd1_8,hrd1_9,hrd1_10,hrd1_13,hrd1_12,hrd1_14,hrd1_16,hrd1_22,hrd1_21,exitRQ_ret,exitRQ_exit,Int.toNat_natCast,Nat.mul_one,hun,hun',hst29_4])
        generalize hw30 : wr w29 R1 (j1 * 7 + 4) [.int .i32 (rdInt .i32 4 s14).1] = w30
        have hS30 : Upd (fun b => b = R1 ∨ b = rb) w29 w30 := by rw [← hw30];exact (Upd.refl _ _).wr _ _ (.inr (.inl rfl))
        have hx1_30 : blk w30 R1 = some ((A1 ++ (([.int .i64 (rdInt .i64 8 s2).1,.int .i16 (rdInt .i16 2 s3).1,.bool (!decide (beN (rdN 1 s4).1 = 0)),.slice aa1 N1 qq1,.int .i32 (rdInt .i32 4 s14).1,.int .i8 0,.map none] : List Value) ++ B1)).toArray,171,(0,0)) := by rw [← hw30];exact el_blk (o := 4) hx1_29 hA1 (Nat.le_of_ble_eq_true rfl)
        have hV30 := hS30
        have hU30 : Upd (fun b => b = vb ∨ b = rb) w1 w30 := hU29.trans' hV30 fun i hi h => h.elim (fun h => by omega) .inr
        have hz30 := hV30.size
        have hG30 : Glo ev w30 := hG1.updS hU30 hgM1 hgM2
        have hq30 : Rdr RT ok w30 rb s15 ∧ NN w30 rb s15 := by
          have hn : ∀ x,x = w30 → (Rdr RT ok x rb s15 ∧ NN x rb s15) := fun x hx => by
            rw [hx,← hw30]
            exact Rdr.store hq29 (by omega) (fun h => by have := (hok _ h).1;first | omega | exact (hok _ h).2 rfl)
          exact hn _ rfl
        obtain ⟨X30,hX30⟩ : ∃ X : Array Value,X = (A1 ++ (([.int .i64 (rdInt .i64 8 s2).1,.int .i16 (rdInt .i16 2 s3).1,.bool (!decide (beN (rdN 1 s4).1 = 0)),.slice aa1 N1 qq1,.int .i32 (rdInt .i32 4 s14).1,.int .i8 0,.map none] : List Value) ++ B1)).toArray := ⟨_,rfl⟩
        have hxb30 : blk w30 R1 = some (X30,171,(0,0)) := by rw [hX30];exact hx1_30
        have hXs30 : j1 * 7 + 7 ≤ X30.size := by rw [hX30];simp only [List.size_toArray,List.length_append,List.length_cons,List.length_nil,hA1];omega
        clear hw30
        have hfe0_4 : RepF (RepS true (d + 1)) (szS true (d + 1)) fX1_4 (fun b => (ok b ∨ w1.heap.size ≤ b) ∧ ¬ ownB va0 b) w30 (xe0_4) [.int .i32 (rdInt .i32 4 s14).1] := (RepF_num (by decide)).2 (by rw [hxe0_4,hrd];exact congrArg (fun x => [x]) (numC_rd 3 (by decide) 4 s14).symm)
        clear hrd
        have hbe0_5 : (rdL (rdP (d + 1) ver true) (dfP (d + 1)) ver true [fX1_5] s15).2 = none → FB := fun h => hbe0_4 (by rw [rdL_st (by decide) hhe0_4,← hs15];exact h)
        obtain ⟨xe0_5,hxe0_5⟩ : ∃ x,x = dfF (dfP (d + 1)) fX1_5 := ⟨_,rfl⟩
        have hfe0_5 : RepF (RepS true (d + 1)) (szS true (d + 1)) fX1_5 (fun b => (ok b ∨ w1.heap.size ≤ b) ∧ ¬ ownB va0 b) w30 (xe0_5) [.int .i8 0] := by rw [hxe0_5];exact (RepF_num (by decide)).2 rfl
        have hhe0_5 : hasS fX1_5 ver = false := hasS_f (by show ver < 2 ∨ (0 ≤ (-1 : Int) ∧ (-1 : Int) < ver);omega)
        have hle0_6 : rdL (rdP (d + 1) ver true) (dfP (d + 1)) ver true [] s15 = ([],s15) := rfl
        have hle0_5 : rdL (rdP (d + 1) ver true) (dfP (d + 1)) ver true [fX1_5] s15 = ([xe0_5],s15) := by rw [rdL_no hhe0_5,← hxe0_5,hle0_6]
        have hle0_4 : rdL (rdP (d + 1) ver true) (dfP (d + 1)) ver true [fX1_4,fX1_5] s14 = ([xe0_4,xe0_5],s15) := by rw [rdL_st (by decide) hhe0_4,← hxe0_4,← hs15,hle0_5]
        have hle0_3 : rdL (rdP (d + 1) ver true) (dfP (d + 1)) ver true [fX1_3,fX1_4,fX1_5] s5 = ([xe0_3,xe0_4,xe0_5],s15) := by rw [rdL_st (by decide) hhe0_3,← hxe0_3,← hs14,hle0_4]
        have hle0_2 : rdL (rdP (d + 1) ver true) (dfP (d + 1)) ver true [fX1_2,fX1_3,fX1_4,fX1_5] s4 = ([xe0_2,xe0_3,xe0_4,xe0_5],s15) := by rw [rdL_st (by decide) hhe0_2,← hxe0_2,← hs5,hle0_3]
        have hle0_1 : rdL (rdP (d + 1) ver true) (dfP (d + 1)) ver true [fX1_1,fX1_2,fX1_3,fX1_4,fX1_5] s3 = ([xe0_1,xe0_2,xe0_3,xe0_4,xe0_5],s15) := by rw [rdL_st (by decide) hhe0_1,← hxe0_1,← hs4,hle0_2]
        have hle0_0 : rdL (rdP (d + 1) ver true) (dfP (d + 1)) ver true [fX1_0,fX1_1,fX1_2,fX1_3,fX1_4,fX1_5] s2 = ([xe0_0,xe0_1,xe0_2,xe0_3,xe0_4,xe0_5],s15) := by rw [rdL_st (by decide) hhe0_0,← hxe0_0,← hs3,hle0_1]
        have hfine0 : rdP (d + 2) ver true fs_X1 s2 = (.mk 0 [] false [xe0_0,xe0_1,xe0_2,xe0_3,xe0_4,xe0_5] (rdTags s15).1,(rdTags s15).2) := rdP_t hle0_0
        repeat ((first | refine qA rfl ?_|refine qB ?_|refine qC rfl ?_|refine qD ?_|refine qE ?_|refine qF ?_|refine qG ?_|refine qH ?_);try simp (maxSteps:=1000000)(disch:=(first|omega|(simp only [qI,qJ,qK]<;>omega)|exact qL _)) only [go_sem,↓reduceIte,n0,reduceCtorEq,n1,n2,n3,n4,n5,i0,i1,i2,i3,i4,i5,i6,i7,hxb30,hrd1_2,hrd1_7,hrd1_8,hrd1_9,hrd1_10,hrd1_13,hrd1_12,hrd1_14,hrd1_16,hrd1_22,hrd1_21,exitRQ_ret,exitRQ_exit,Int.toNat_natCast,Nat.mul_one,hun,hun'])
        refine (ReadTags_fn w30 hq30.1 hrok).mono ?_
        rintro _ w31 ⟨qme0,rfl,hT31,hTn,hq31,hu31⟩
        have hx1_31 := hu31.blk_some hx1_30 (by omega)
        have hV31 : Upd (fun b => b = R1 ∨ b = rb) w30 w31 := hu31.mono (fun _ h => .inr h)
        have hU31 : Upd (fun b => b = vb ∨ b = rb) w1 w31 := hU30.trans' hV31 fun i hi h => h.elim (fun h => by omega) .inr
        have hz31 := hV31.size
        have hG31 : Glo ev w31 := hG1.updS hU31 hgM1 hgM2
        obtain ⟨X31,hX31⟩ : ∃ X : Array Value,X = (A1 ++ (([.int .i64 (rdInt .i64 8 s2).1,.int .i16 (rdInt .i16 2 s3).1,.bool (!decide (beN (rdN 1 s4).1 = 0)),.slice aa1 N1 qq1,.int .i32 (rdInt .i32 4 s14).1,.int .i8 0,.map none] : List Value) ++ B1)).toArray := ⟨_,rfl⟩
        have hxb31 : blk w31 R1 = some (X31,171,(0,0)) := by rw [hX31];exact hx1_31
        have hXs31 : j1 * 7 + 7 ≤ X31.size := by rw [hX31];simp only [List.size_toArray,List.length_append,List.length_cons,List.length_nil,hA1];omega
        obtain ⟨s16,hs16⟩ : ∃ s,s = (rdTags s15).2 := ⟨_,rfl⟩
        rw [← hs16] at hq31 hfine0
        have hst31_6 : j1 * 7 + 7 ≤ X31.size := by omega
        try simp (maxSteps:=1000000)(disch:=(first|omega|(simp only [qI,qJ,qK]<;>omega)|exact qL _)) only [go_sem,↓reduceIte,n0,reduceCtorEq,n1,n2,n3,n4,n5,i0,i1,i2,i3,i4,i5,i6,i7,hxb31,hrd1_2,hrd1_7,hrd1_8,hrd1_9,hrd1_10,hrd1_13,hrd1_12,hrd1_14,hrd1_16,hrd1_22,hrd1_21,exitRQ_ret,exitRQ_exit,Int.toNat_natCast,Nat.mul_one,hun,hun',hst31_6]
        repeat ((first | refine qA rfl ?_|refine qB ?_|refine qC rfl ?_|refine qD ?_|refine qE ?_|refine qF ?_|refine qG ?_|refine qH ?_);try simp (maxSteps:=1000000)(disch:=(first|omega|(simp only [qI,qJ,qK]<;>omega)|exact qL _)) only [go_sem,↓reduceIte,n0,reduceCtorEq,n1,n2,n3,n4,n5,i0,i1,i2,i3,i4,i5,i6,i7,hxb31,hrd1_2,hrd1_7,hrd1_8,hrd1_9,hrd1_10,hrd1_13,hrd1_12,hrd1_14,hrd1_16,hrd1_22,hrd1_21,exitRQ_ret,exitRQ_exit,Int.toNat_natCast,Nat.mul_one,hun,hun',hst31_6])
        generalize hw32 : wr w31 R1 (j1 * 7 + 6) [.map qme0] = w32
        have hS32 : Upd (fun b => b = R1 ∨ b = rb) w31 w32 := by rw [← hw32];exact (Upd.refl _ _).wr _ _ (.inr (.inl rfl))
        have hx1_32 : blk w32 R1 = some ((A1 ++ (([.int .i64 (rdInt .i64 8 s2).1,.int .i16 (rdInt .i16 2 s3).1,.bool (!decide (beN (rdN 1 s4).1 = 0)),.slice aa1 N1 qq1,.int .i32 (rdInt .i32 4 s14).1,.int .i8 0,.map qme0] : List Value) ++ B1)).toArray,171,(0,0)) := by rw [← hw32];exact el_blk (o := 6) hx1_31 hA1 (Nat.le_of_ble_eq_true rfl)
        have hV32 := hS32
        have hU32 : Upd (fun b => b = vb ∨ b = rb) w1 w32 := hU31.trans' hV32 fun i hi h => h.elim (fun h => by omega) .inr
        have hz32 := hV32.size
        have hG32 : Glo ev w32 := hG1.updS hU32 hgM1 hgM2
        have hq32 : Rdr RT ok w32 rb s16 ∧ NN w32 rb s16 := by
          have hn : ∀ x,x = w32 → (Rdr RT ok x rb s16 ∧ NN x rb s16) := fun x hx => by
            rw [hx,← hw32]
            exact Rdr.store hq31 (by omega) (fun h => by have := (hok _ h).1;first | omega | exact (hok _ h).2 rfl)
          exact hn _ rfl
        obtain ⟨X32,hX32⟩ : ∃ X : Array Value,X = (A1 ++ (([.int .i64 (rdInt .i64 8 s2).1,.int .i16 (rdInt .i16 2 s3).1,.bool (!decide (beN (rdN 1 s4).1 = 0)),.slice aa1 N1 qq1,.int .i32 (rdInt .i32 4 s14).1,.int .i8 0,.map qme0] : List Value) ++ B1)).toArray := ⟨_,rfl⟩
        have hxb32 : blk w32 R1 = some (X32,171,(0,0)) := by rw [hX32];exact hx1_32
        have hXs32 : j1 * 7 + 7 ≤ X32.size := by rw [hX32];simp only [List.size_toArray,List.length_append,List.length_cons,List.length_nil,hA1];omega
        clear hw32
        have hTge0 : TagsM (fun b => (ok b ∨ w1.heap.size ≤ b) ∧ ¬ ownB va0 b) w32 (.map qme0) (rdTags s15).1 := (hT31.weaken fun b _ hk => hk.elim (fun hk => ⟨.inl hk,fun ho => by have := (hown1 b ho).1;have := (hok b hk).1;omega⟩) (fun h => by have h' : w30.heap.size ≤ b := h;exact ⟨.inr (by omega),fun ho => by have := (hown1 _ ho).2;omega⟩)).keep (hV32.keeps fun b _ hk e => hoM1 b hk e)
        have hCe0_32 : Upd (fun b => b = R1 ∨ b = rb) w32 w32 := Upd.refl _ _
        have hCe0_31 : Upd (fun b => b = R1 ∨ b = rb) w31 w32 := hV32.trans hCe0_32
        have hCe0_30 : Upd (fun b => b = R1 ∨ b = rb) w30 w32 := hV31.trans hCe0_31
        have hCe0_29 : Upd (fun b => b = R1 ∨ b = rb) w29 w32 := hV30.trans hCe0_30
        have hCe0_28 : Upd (fun b => b = R1 ∨ b = rb) w28 w32 := hV29.trans hCe0_29
        have hCe0_27 : Upd (fun b => b = R1 ∨ b = rb) w27 w32 := hV28.trans hCe0_28
        have hCe0_12 : Upd (fun b => b = R1 ∨ b = rb) w12 w32 := hV27.trans hCe0_27
        have hCe0_11 : Upd (fun b => b = R1 ∨ b = rb) w11 w32 := hV12.trans hCe0_12
        have hCe0_10 : Upd (fun b => b = R1 ∨ b = rb) w10 w32 := hV11.trans hCe0_11
        have hCe0_9 : Upd (fun b => b = R1 ∨ b = rb) w9 w32 := hV10.trans hCe0_10
        have hCe0_8 : Upd (fun b => b = R1 ∨ b = rb) w8 w32 := hV9.trans hCe0_9
        have hCe0_7 : Upd (fun b => b = R1 ∨ b = rb) w7 w32 := hV8.trans hCe0_8
        have hCe0_6 : Upd (fun b => b = R1 ∨ b = rb) w6 w32 := hV7.trans hCe0_7
        have hCe0_5 : Upd (fun b => b = R1 ∨ b = rb) w5 w32 := hV6.trans hCe0_6
        have hCe0_4 : Upd (fun b => b = R1 ∨ b = rb) w4 w32 := hV5.trans hCe0_5
        have hRe0 : RepS true (d + 2) fs_X1 (fun b => (ok b ∨ w1.heap.size ≤ b) ∧ ¬ ownB va0 b) w32 (.mk 0 [] false [xe0_0,xe0_1,xe0_2,xe0_3,xe0_4,xe0_5] (rdTags s15).1) [.int .i64 (rdInt .i64 8 s2).1,.int .i16 (rdInt .i16 2 s3).1,.bool (!decide (beN (rdN 1 s4).1 = 0)),.slice aa1 N1 qq1,.int .i32 (rdInt .i32 4 s14).1,.int .i8 0,.map qme0] := RepS.introT (c := [.int .i64 (rdInt .i64 8 s2).1,.int .i16 (rdInt .i16 2 s3).1,.bool (!decide (beN (rdN 1 s4).1 = 0)),.slice aa1 N1 qq1,.int .i32 (rdInt .i32 4 s14).1,.int .i8 0]) (RepL.cons1 (hfe0_0.keepS (hCe0_7.keeps fun b _ hk e => hoM1 b hk e)) (RepL.cons1 (hfe0_1.keepS (hCe0_9.keeps fun b _ hk e => hoM1 b hk e)) (RepL.cons1 (hfe0_2.keepS (hCe0_11.keeps fun b _ hk e => hoM1 b hk e)) (RepL.cons1 (hfe0_3.keepS (hCe0_28.keeps fun b _ hk e => hoM1 b hk e)) (RepL.cons1 (hfe0_4.keepS (hCe0_30.keeps fun b _ hk e => hoM1 b hk e)) (RepL.cons1 (hfe0_5.keepS (hCe0_30.keeps fun b _ hk e => hoM1 b hk e)) RepL.nil)))))) hTge0
        have hrE : (rd1 (rdP (d + 2) ver true) fWriteTxnMarkersRequest_0.of fWriteTxnMarkersRequest_0.sub false true) s2 = ((.mk 0 [] false [xe0_0,xe0_1,xe0_2,xe0_3,xe0_4,xe0_5] (rdTags s15).1),s16) := by rw [show (rd1 (rdP (d + 2) ver true) fWriteTxnMarkersRequest_0.of fWriteTxnMarkersRequest_0.sub false true) s2 = _ from rd1_part];exact hfine0
        have hxE : (Rep1 (RepS true (d + 2)) fWriteTxnMarkersRequest_0.of fWriteTxnMarkersRequest_0.sub) (fun b => (ok b ∨ w1.heap.size ≤ b) ∧ ¬ ownB va0 b) w32 (.mk 0 [] false [xe0_0,xe0_1,xe0_2,xe0_3,xe0_4,xe0_5] (rdTags s15).1) [.int .i64 (rdInt .i64 8 s2).1,.int .i16 (rdInt .i16 2 s3).1,.bool (!decide (beN (rdN 1 s4).1 = 0)),.slice aa1 N1 qq1,.int .i32 (rdInt .i32 4 s14).1,.int .i8 0,.map qme0] := Rep1_part.2 hRe0
        repeat ((first | refine qA rfl ?_|refine qB ?_|refine qC rfl ?_|refine qD ?_|refine qE ?_|refine qF ?_|refine qG ?_|refine qH ?_);try simp (maxSteps:=1000000)(disch:=(first|omega|(simp only [qI,qJ,qK]<;>omega)|exact qL _)) only [go_sem,↓reduceIte,n0,reduceCtorEq,n1,n2,n3,n4,n5,i0,i1,i2,i3,i4,i5,i6,i7,hxb32,hrd1_2,hrd1_7,hrd1_8,hrd1_9,hrd1_10,hrd1_13,hrd1_12,hrd1_14,hrd1_16,hrd1_22,hrd1_21,exitRQ_ret,exitRQ_exit,Int.toNat_natCast,Nat.mul_one,hun,hun'])
        have hTk : Upd (fun b => b = R1 ∨ b = rb) w4 w32 := (((((((((((((hV5.trans hV6).trans hV7).trans hV8).trans hV9).trans hV10).trans hV11).trans hV12).trans hV27).trans hV28).trans hV29).trans hV30).trans hV31).trans hV32)
        have hL' := hL0.step (Rep1_lay _ _ fun _ => RepS_lay true _ _) hlt0 (hnext1 w32 [.int .i64 (rdInt .i64 8 s2).1,.int .i16 (rdInt .i16 2 s3).1,.bool (!decide (beN (rdN 1 s4).1 = 0)),.slice aa1 N1 qq1,.int .i32 (rdInt .i32 4 s14).1,.int .i8 0,.map qme0] rfl hx1_32) (by rw [hrE];exact hxE) (hTk.mono fun b h => h.imp (fun e => ⟨_,_,_,hva1,e⟩) id) (by rw [hrE];exact hq32) (fun h => hoM rb h (.inr rfl)) (Nat.le_refl _)
        have hij : IntKind.i32.wrap ((j1 : Int) + 1) = ((j1 + 1 : Nat) : Int) := by rw [i32_wrap (by omega)];omega
        repeat ((first | refine qA rfl ?_|refine qB ?_|refine qC rfl ?_|refine qD ?_|refine qE ?_|refine qF ?_|refine qG ?_|refine qH ?_);try simp (maxSteps:=1000000)(disch:=(first|omega|(simp only [qI,qJ,qK]<;>omega)|exact qL _)) only [go_sem,↓reduceIte,n0,reduceCtorEq,n1,n2,n3,n4,n5,i0,i1,i2,i3,i4,i5,i6,i7,hxb32,hrd1_2,hrd1_7,hrd1_8,hrd1_9,hrd1_10,hrd1_13,hrd1_12,hrd1_14,hrd1_16,hrd1_22,hrd1_21,exitRQ_ret,exitRQ_exit,Int.toNat_natCast,Nat.mul_one,hun,hun',hij])
        refine ⟨⟨(by simp (maxSteps:=1000000)(disch:=(first|omega|(simp only [qI,qJ,qK]<;>omega)|exact qL _)) only [go_sem,↓reduceIte,n0,reduceCtorEq,n1,n2,n3,n4,n5,i0,i1,i2,i3,i4,i5,i6,i7,Holds_nil,Holds_cons,hrd1_2,hrd1_7,hrd1_8,hrd1_9,hrd1_10,hrd1_13,hrd1_12,hrd1_14,hrd1_16,hrd1_22,hrd1_21];exact hva1.symm),j1 + 1,(by simp (maxSteps:=1000000)(disch:=(first|omega|(simp only [qI,qJ,qK]<;>omega)|exact qL _)) only [go_sem,↓reduceIte,n0,reduceCtorEq,n1,n2,n3,n4,n5,i0,i1,i2,i3,i4,i5,i6,i7,hrd1_2,hrd1_7,hrd1_8,hrd1_9,hrd1_10,hrd1_13,hrd1_12,hrd1_14,hrd1_16,hrd1_22,hrd1_21,hij];all_goals rfl),_,_,_,hL'⟩,?_⟩
        try simp (maxSteps:=1000000)(disch:=(first|omega|(simp only [qI,qJ,qK]<;>omega)|exact qL _)) only [go_sem,↓reduceIte,n0,reduceCtorEq,n1,n2,n3,n4,n5,i0,i1,i2,i3,i4,i5,i6,i7,hrd1_2,hrd1_7,hrd1_8,hrd1_9,hrd1_10,hrd1_13,hrd1_12,hrd1_14,hrd1_16,hrd1_22,hrd1_21]
        simp only [RowKit.intOf]
        omega
      · have hjN : j1 = N0 := by omega
        rw [hjN] at hL0
        repeat ((first | refine qA rfl ?_|refine qB ?_|refine qC rfl ?_|refine qD ?_|refine qE ?_|refine qF ?_|refine qG ?_|refine qH ?_);try simp (maxSteps:=1000000)(disch:=(first|omega|(simp only [qI,qJ,qK]<;>omega)|exact qL _)) only [go_sem,↓reduceIte,n0,reduceCtorEq,n1,n2,n3,n4,n5,i0,i1,i2,i3,i4,i5,i6,i7,hrc0_2,hrc0_7,hrc0_8,hrc0_9,hrc0_10,hrc0_13,hrc0_12,hri0,exitRQ_ret,exitRQ_exit])
        exact ⟨(by simp (maxSteps:=1000000)(disch:=(first|omega|(simp only [qI,qJ,qK]<;>omega)|exact qL _)) only [go_sem,↓reduceIte,n0,reduceCtorEq,n1,n2,n3,n4,n5,i0,i1,i2,i3,i4,i5,i6,i7,Holds_nil,Holds_cons,hrc0_2,hrc0_7,hrc0_8,hrc0_9,hrc0_10,hrc0_13,hrc0_12,hri0]),s2,xs0,css0,hL0⟩
    rintro ρ w33 ⟨⟨hrd0_2,hrd0_7,hrd0_8,hrd0_9,hrd0_10,hrd0_13,hrd0_12,-⟩,s17,xs0,css0,hL0⟩
    have hq33 := hL0.rd
    have hu33 := hL0.upd
    have hv_33 := hu33.blk_some hv_2 (by omega)
    have hV33 : Upd (fun b => b = vb ∨ b = rb) w2 w33 := hu33.mono (fun _ h => .inr h)
    have hU33 : Upd (fun b => b = vb ∨ b = rb) w1 w33 := hU2.trans hV33
    have hz33 := hV33.size
    have hG33 : Glo ev w33 := hG1.updS hU33 hgM1 hgM2
    have hrd0 : rdF (rdP (d + 2) ver true) ver true fWriteTxnMarkersRequest_0 s0 = (.mk 0 [] (nilS fWriteTxnMarkersRequest_0 ver y0) xs0 [],s17) := by
      have h := rdF_listE (pt := (rdP (d + 2) ver true)) (v := ver) (flex := true) (f := fWriteTxnMarkersRequest_0) (s := s0) (xs := xs0) (e := s17) rfl (by rw [hy0,← hN0,← hs1];exact hL0.done)
      rw [hy0] at h;exact h
    have hs17 : s17 = (rdF (rdP (d + 2) ver true) ver true fWriteTxnMarkersRequest_0 s0).2 := by rw [hrd0]
    obtain ⟨aa0,qq0,hvs0⟩ := hL0.row.shape
    subst hvs0
    repeat ((first | refine qA rfl ?_|refine qB ?_|refine qC rfl ?_|refine qD ?_|refine qE ?_|refine qF ?_|refine qG ?_|refine qH ?_);try simp (maxSteps:=1000000)(disch:=(first|omega|(simp only [qI,qJ,qK]<;>omega)|exact qL _)) only [go_sem,↓reduceIte,n0,reduceCtorEq,n1,n2,n3,n4,n5,i0,i1,i2,i3,i4,i5,i6,i7,hv_33,hrd0_2,hrd0_7,hrd0_8,hrd0_9,hrd0_10,hrd0_13,hrd0_12,hun,hun'])
    generalize hw34 : wr w33 vb 1 [.slice aa0 N0 qq0] = w34
    have hS34 : Upd (fun b => b = vb ∨ b = rb) w33 w34 := by rw [← hw34];exact (Upd.refl _ _).wr _ _ (.inr (.inl rfl))
    have hv_34 : blk w34 vb = some (#[.int .i16 ver,.slice aa0 N0 qq0,.map none],166,(0,0)) := by rw [← hw34,blk_wr_eq,hv_33];rfl
    have hV34 := hS34
    have hU34 : Upd (fun b => b = vb ∨ b = rb) w1 w34 := hU33.trans hV34
    have hz34 := hV34.size
    have hG34 : Glo ev w34 := hG1.updS hU34 hgM1 hgM2
    have hq34 : Rdr RT ok w34 rb s17 ∧ NN w34 rb s17 := by
      have hn : ∀ x,x = w34 → (Rdr RT ok x rb s17 ∧ NN x rb s17) := fun x hx => by
        rw [hx,← hw34]
        exact Rdr.store hq33 (by omega) (fun h => by have := (hok _ h).1;first | omega | exact (hok _ h).2 rfl)
      exact hn _ rfl
    clear hw34
    have hf_0 : RepF (RepS true (d + 2)) (szS true (d + 2)) fWriteTxnMarkersRequest_0 (fun b => ok b ∨ w1.heap.size ≤ b) w34 (x_0) [.slice aa0 N0 qq0] := by rw [hx_0,hrd0];exact RepF.keepS (RepF_row rfl hnc0 hN0 rfl hL0.row hL0.all (fun b hb => .inr (by omega))) (hV34.keeps fun b _ hk e => (hoM b hk) e)
    clear hL0 hnc0
    have hl_1 : rdL (rdP (d + 2) ver true) (dfP (d + 2)) ver true [] s17 = ([],s17) := rfl
    have hl_0 : rdL (rdP (d + 2) ver true) (dfP (d + 2)) ver true [fWriteTxnMarkersRequest_0] s0 = ([x_0],s17) := by rw [rdL_st (by decide) hh_0,← hx_0,← hs17,hl_1]
    have hfin : rdP (d + 3) ver true fs_WriteTxnMarkersRequest s0 = (.mk 0 [] false [x_0] (rdTags s17).1,(rdTags s17).2) := rdP_t hl_0
    repeat ((first | refine qA rfl ?_|refine qB ?_|refine qC rfl ?_|refine qD ?_|refine qE ?_|refine qF ?_|refine qG ?_|refine qH ?_);try simp (maxSteps:=1000000)(disch:=(first|omega|(simp only [qI,qJ,qK]<;>omega)|exact qL _)) only [go_sem,↓reduceIte,n0,reduceCtorEq,n1,n2,n3,n4,n5,i0,i1,i2,i3,i4,i5,i6,i7,hv_34,hrd0_2,hrd0_7,hrd0_8,hrd0_9,hrd0_10,hrd0_13,hrd0_12,hun,hun'])
    refine (ReadTags_fn w34 hq34.1 hrok).mono ?_
    rintro _ w35 ⟨qm,rfl,hT35,hTn,hq35,hu35⟩
    have hv_35 := hu35.blk_some hv_34 (by omega)
    have hV35 : Upd (fun b => b = vb ∨ b = rb) w34 w35 := hu35.mono (fun _ h => .inr h)
    have hU35 : Upd (fun b => b = vb ∨ b = rb) w1 w35 := hU34.trans hV35
    have hz35 := hV35.size
    have hG35 : Glo ev w35 := hG1.updS hU35 hgM1 hgM2
    obtain ⟨s18,hs18⟩ : ∃ s,s = (rdTags s17).2 := ⟨_,rfl⟩
    rw [← hs18] at hq35 hfin
    try simp (maxSteps:=1000000)(disch:=(first|omega|(simp only [qI,qJ,qK]<;>omega)|exact qL _)) only [go_sem,↓reduceIte,n0,reduceCtorEq,n1,n2,n3,n4,n5,i0,i1,i2,i3,i4,i5,i6,i7,hv_35,hrd0_2,hrd0_7,hrd0_8,hrd0_9,hrd0_10,hrd0_13,hrd0_12,hun,hun']
    repeat ((first | refine qA rfl ?_|refine qB ?_|refine qC rfl ?_|refine qD ?_|refine qE ?_|refine qF ?_|refine qG ?_|refine qH ?_);try simp (maxSteps:=1000000)(disch:=(first|omega|(simp only [qI,qJ,qK]<;>omega)|exact qL _)) only [go_sem,↓reduceIte,n0,reduceCtorEq,n1,n2,n3,n4,n5,i0,i1,i2,i3,i4,i5,i6,i7,hv_35,hrd0_2,hrd0_7,hrd0_8,hrd0_9,hrd0_10,hrd0_13,hrd0_12,hun,hun'])
    generalize hw36 : wr w35 vb 2 [.map qm] = w36
    have hS36 : Upd (fun b => b = vb ∨ b = rb) w35 w36 := by rw [← hw36];exact (Upd.refl _ _).wr _ _ (.inr (.inl rfl))
    have hv_36 : blk w36 vb = some (#[.int .i16 ver,.slice aa0 N0 qq0,.map qm],166,(0,0)) := by rw [← hw36,blk_wr_eq,hv_35];rfl
    have hV36 := hS36
    have hU36 : Upd (fun b => b = vb ∨ b = rb) w1 w36 := hU35.trans hV36
    have hz36 := hV36.size
    have hG36 : Glo ev w36 := hG1.updS hU36 hgM1 hgM2
    have hq36 : Rdr RT ok w36 rb s18 ∧ NN w36 rb s18 := by
      have hn : ∀ x,x = w36 → (Rdr RT ok x rb s18 ∧ NN x rb s18) := fun x hx => by
        rw [hx,← hw36]
        exact Rdr.store hq35 (by omega) (fun h => by have := (hok _ h).1;first | omega | exact (hok _ h).2 rfl)
      exact hn _ rfl
    clear hw36
    have hTg : TagsM (fun b => ok b ∨ w1.heap.size ≤ b) w36 (.map qm) (rdTags s17).1 := (hT35.weaken fun b _ hk => hk.elim (fun hk => .inl hk) (fun h => by have h' : w34.heap.size ≤ b := h;exact .inr (by omega))).keep (hV36.keeps fun b _ hk e => (hoM b hk) e)
    have hC_36 : Upd (fun b => b = vb ∨ b = rb) w36 w36 := Upd.refl _ _
    have hC_35 : Upd (fun b => b = vb ∨ b = rb) w35 w36 := hV36.trans hC_36
    have hC_34 : Upd (fun b => b = vb ∨ b = rb) w34 w36 := hV35.trans hC_35
    have hC_33 : Upd (fun b => b = vb ∨ b = rb) w33 w36 := hV34.trans hC_34
    have hC_2 : Upd (fun b => b = vb ∨ b = rb) w2 w36 := hV33.trans hC_33
    have hC_1 : Upd (fun b => b = vb ∨ b = rb) w1 w36 := hV2.trans hC_2
    have hR : RepS true (d + 3) fs_WriteTxnMarkersRequest (fun b => ok b ∨ w1.heap.size ≤ b) w36 (.mk 0 [] false [x_0] (rdTags s17).1) [.slice aa0 N0 qq0,.map qm] := RepS.introT (c := [.slice aa0 N0 qq0]) (RepL.cons1 (hf_0.keepS (hC_34.keeps fun b _ hk e => (hoM b hk) e)) RepL.nil) hTg
    repeat ((first | refine qA rfl ?_|refine qB ?_|refine qC rfl ?_|refine qD ?_|refine qE ?_|refine qF ?_|refine qG ?_|refine qH ?_);try simp (maxSteps:=1000000)(disch:=(first|omega|(simp only [qI,qJ,qK]<;>omega)|exact qL _)) only [go_sem,↓reduceIte,n0,reduceCtorEq,n1,n2,n3,n4,n5,i0,i1,i2,i3,i4,i5,i6,i7,hv_36,hrd0_2,hrd0_7,hrd0_8,hrd0_9,hrd0_10,hrd0_13,hrd0_12,hun,hun'])
    refine (RComplete_fn w36 hq36.1 hG36.2).mono ?_
    rintro _ wz ⟨rfl,hez⟩
    rw [hez]
    repeat ((first | refine qA rfl ?_|refine qB ?_|refine qC rfl ?_|refine qD ?_|refine qE ?_|refine qF ?_|refine qG ?_|refine qH ?_);try simp (maxSteps:=1000000)(disch:=(first|omega|(simp only [qI,qJ,qK]<;>omega)|exact qL _)) only [go_sem,↓reduceIte,n0,reduceCtorEq,n1,n2,n3,n4,n5,i0,i1,i2,i3,i4,i5,i6,i7,hv_36,hrd0_2,hrd0_7,hrd0_8,hrd0_9,hrd0_10,hrd0_13,hrd0_12,hun,hun'])
    rw [hfin]
    refine ⟨fun h => ?_,fun h => ⟨?_,[.slice aa0 N0 qq0,.map qm],hv_36,?_⟩,?_⟩
    · have h' : s18 = none := h
      rw [h'];rfl
    · cases hsn : s18 with
      | none => exact absurd hsn h
      | some x => rfl
    · exact (RepS_lay true (d + 3) fs_WriteTxnMarkersRequest).weaken hR fun b _ hk => hk.imp id fun h => by omega
    · exact hbase.trans' hU36 fun i hi h => h.elim id fun h => by omega
end Ms

