/- A part of the proof: see the last text. -/
import Derived.Test.YthekgkekchicgaaDoorReadShareGroupStateResponseP0
set_option linter.unusedSimpArgs false
set_option linter.unusedVariables false
namespace Ms
open Go.World renaming size_alloc → qI
open Ms renaming size_wr → qJ,size_drew → qK,not_noB → qL
open W renaming seqR → qA,seq → qB,regR → qC,condK → qD,block → qE,skip → qF,ret → qG,exit → qH
open Nat renaming reduceEqDiff → n0,reduceAdd → n1,reduceMul → n2,reduceSub → n3,reduceLT → n4,reduceLeDiff → n5
open Int renaming reduceEq → i0,reduceLT → i1,reduceLE → i2,reduceNeg → i3,reduceAdd → i4,reduceSub → i5,reduceMul → i6,reduceToNat → i7
set_option maxRecDepth 8000
open Go Go.Proofs Go.Shelf
attribute [local congr] W_congr WPsq_congr WPp_congr optK_congr addrK_congr intK_congr boolK_congr sliceK_congr tupleK_congr funcK_congr Fn_congr rawK_congr takeK_congr stepK_congr convK_congr aggK_congr

set_option maxHeartbeats 24000000 in
theorem readReadShareGroupStateResponse_0b {un : Bool} {d : Nat} {ok : Blocks} {ver : Int} {ev : Value} (hlo : 0 ≤ ver) (hhi : ver ≤ 0) (w : World) {vb : Nat} (src : Value) (s : List UInt8) (hv : blk w vb = some (#[.int .i16 ver,.slice none 0 0,.map none],188,(0,0))) (hsrc : BytesV ok w src s) (hok0 : ∀ b,ok b → b < w.heap.size ∧ b ≠ vb) (hG : Glo ev w) (hgv : ¬ 0 = vb ∧ ¬ 1 = vb) :
    Fn Tryd.prog 181 #[.pointer (some ⟨vb,0,none⟩),src,.bool un] w (ReadQ 188 ok ver (d + 4) fs_ReadShareGroupStateResponse vb w (rdP (d + 4) ver true fs_ReadShareGroupStateResponse (some s)) ev) := by
  have hcs : ((un = true) = True ∧ (un = false) = False) ∨ ((un = true) = False ∧ (un = false) = True) := by cases un <;> simp
  rcases hcs with ⟨hun,hun'⟩ | ⟨hun,hun'⟩
  all_goals
    have hvl := blk_lt hv
    have hgs := hG.lt
    obtain ⟨sa,sc,rfl,_⟩ := hsrc.shape
    refine fn_of_W Tryd.func181 rfl Tryd.results181 Tryd.ntmps181 rfl ?_
    repeat ((first | refine qA rfl ?_|refine qB ?_|refine qC rfl ?_|refine qD ?_|refine qE ?_|refine qF ?_|refine qG ?_|refine qH ?_);try simp (maxSteps:=1000000)(disch:=(first|omega|(simp only [qI,qJ,qK]<;>omega)|exact qL _)) only [go_sem,↓reduceIte,n0,reduceCtorEq,n1,n2,n3,n4,n5,i0,i1,i2,i3,i4,i5,i6,i7,hv])
    refine (DefaultReadShareGroupStateResponse_fn w hv).mono ?_
    rintro _ w0 ⟨hv0,hu0⟩
    have hz0 := hu0.size
    have hsrc0 : BytesV ok w0 (.slice sa s.length sc) s := hsrc.keep (hu0.keeps fun b _ hk e => (hok0 b hk).2 e)
    obtain ⟨rb,hrb⟩ : ∃ r,r = w0.heap.size := ⟨_,rfl⟩
    have hE1 : Ext w0 (wr (w0.alloc (.cells #[.slice none 0 0,.bool false] 224)) w0.heap.size 0 [.slice sa s.length sc,.bool false]) := (Upd.alloc (Upd.refl _ _) _).wr _ _ (.inl (Nat.le_refl _))
    have hz1 : (wr (w0.alloc (.cells #[.slice none 0 0,.bool false] 224)) w0.heap.size 0 [.slice sa s.length sc,.bool false]).heap.size = w0.heap.size + 1 := by rw [size_wr,World.size_alloc]
    have hR1 : Rdr RT ok (wr (w0.alloc (.cells #[.slice none 0 0,.bool false] 224)) w0.heap.size 0 [.slice sa s.length sc,.bool false]) w0.heap.size (some s) := Rdr.good (v := .slice sa s.length sc) (by simp (maxSteps:=1000000)(disch:=(first|omega|(simp only [qI,qJ,qK]<;>omega)|exact qL _)) only [go_sem,↓reduceIte,n0,reduceCtorEq,n1,n2,n3,n4,n5,i0,i1,i2,i3,i4,i5,i6,i7]) (hsrc0.keep (hE1.keeps _))
    have hv_1 := hE1.blk_some hv0 id
    repeat ((first | refine qA rfl ?_|refine qB ?_|refine qC rfl ?_|refine qD ?_|refine qE ?_|refine qF ?_|refine qG ?_|refine qH ?_);try simp (maxSteps:=1000000)(disch:=(first|omega|(simp only [qI,qJ,qK]<;>omega)|exact qL _)) only [go_sem,↓reduceIte,n0,reduceCtorEq,n1,n2,n3,n4,n5,i0,i1,i2,i3,i4,i5,i6,i7,hv0])
    generalize (wr (w0.alloc (.cells #[.slice none 0 0,.bool false] 224)) w0.heap.size 0 [.slice sa s.length sc,.bool false]) = w1 at *
    rw [← hrb] at hR1
    try rw [← hrb]
    have hok : ∀ b,ok b → b < w.heap.size ∧ b ≠ vb := hok0
    have hrok : ¬ ok rb := fun h => by have := (hok rb h).1;omega
    have hbase : Upd (fun b => b = vb) w w1 := hu0.trans (hE1.mono fun _ h => h.elim)
    have hG1 : Glo ev w1 := hG.updS hbase hgv.1 hgv.2
    have hgrb : ¬ 0 = rb := by omega
    have hgM1 : ¬ (0 = vb ∨ 0 = rb) := fun h => h.elim hgv.1 fun h => by omega
    have hgM2 : ¬ (1 = vb ∨ 1 = rb) := fun h => h.elim hgv.2 fun h => by omega
    obtain ⟨s0,hs0⟩ : ∃ s' : St,s' = some s := ⟨_,rfl⟩
    rw [← hs0] at hR1 ⊢
    have hU1 : Upd (fun b => b = vb ∨ b = rb) w1 w1 := Upd.refl _ _
    have hoM : ∀ b,(ok b ∨ w1.heap.size ≤ b) → ¬ (b = vb ∨ b = rb) := fun b hk h => by
      rcases hk with hk | hk
      · have := hok b hk;rcases h with h | h <;> omega
      · rcases h with h | h <;> omega
    have hq1 : Rdr RT ok w1 rb s0 := hR1
    obtain ⟨FB,hFB⟩ : ∃ P : Prop,P = ((rdP (d + 4) ver true fs_ReadShareGroupStateResponse s0).2 = none) := ⟨_,rfl⟩
    have hb_0 : (rdL (rdP (d + 3) ver true) (dfP (d + 3)) ver true [fReadShareGroupStateResponse_0] s0).2 = none → FB := fun h => Eq.mpr hFB (rdP_bad h)
    have hh_0 : hasS fReadShareGroupStateResponse_0 ver = true := hasS_t (by show (0 : Int) ≤ ver;omega) (by show (-1 : Int) < 0 ∨ ver ≤ (-1 : Int);omega)
    obtain ⟨x_0,hx_0⟩ : ∃ x,x = (rdF (rdP (d + 3) ver true) ver true fReadShareGroupStateResponse_0 s0).1 := ⟨_,rfl⟩
    repeat ((first | refine qA rfl ?_|refine qB ?_|refine qC rfl ?_|refine qD ?_|refine qE ?_|refine qF ?_|refine qG ?_|refine qH ?_);try simp (maxSteps:=1000000)(disch:=(first|omega|(simp only [qI,qJ,qK]<;>omega)|exact qL _)) only [go_sem,↓reduceIte,n0,reduceCtorEq,n1,n2,n3,n4,n5,i0,i1,i2,i3,i4,i5,i6,i7,hv_1,hun,hun'])
    refine (RCompactArrayLen_fn w1 hq1 hrok hG1.1 hgrb).mono ?_
    rintro _ w2 ⟨rfl,hq2,hu2⟩
    have hv_2 := hu2.blk_some hv_1 (by omega)
    have hV2 : Upd (fun b => b = vb ∨ b = rb) w1 w2 := hu2.mono (fun _ h => .inr h)
    have hU2 : Upd (fun b => b = vb ∨ b = rb) w1 w2 := hU1.trans hV2
    have hz2 := hV2.size
    have hG2 : Glo ev w2 := hG1.updS hU2 hgM1 hgM2
    obtain ⟨s1,hs1⟩ : ∃ s,s = (rdALen true s0).2 := ⟨_,rfl⟩
    rw [← hs1] at hq2
    have hyr0 := rdALen_rng true s0
    generalize hy0 : (rdALen true s0).1 = y0 at *
    obtain ⟨N0,hN0⟩ : ∃ N,N = y0.toNat := ⟨_,rfl⟩
    have hlb0 : (rdMany (rd1 (rdP (d + 3) ver true) fReadShareGroupStateResponse_0.of fReadShareGroupStateResponse_0.sub false true) N0 s1).2 = none → FB := fun h => hb_0 (by rw [rdL_st (by decide) hh_0];exact rdL_bad (rdF_listbad rfl (by rw [hy0,← hN0,← hs1];exact h)))
    repeat ((first | refine W.seqR rfl ?_ | refine W.seq ?_ | refine W.regR rfl ?_ | refine W.block ?_ | refine W.skip ?_ | refine W.ret ?_ | refine W.exit ?_);try simp (maxSteps:=1000000)(disch:=(first|omega|(simp only [qI,qJ,qK]<;>omega)|exact qL _)) only [go_sem,↓reduceIte,n0,reduceCtorEq,n1,n2,n3,n4,n5,i0,i1,i2,i3,i4,i5,i6,i7,hv_2,hun,hun'])
    refine (ROk_fn w2 hq2.1).mono ?_
    rintro _ wz ⟨rfl,hez⟩
    rw [hez]
    clear hez wz
    by_cases hsn0 : s1 = none
    · have hso : s1.isSome = false := by rw [hsn0];rfl
      try simp (maxSteps:=1000000)(disch:=(first|omega|(simp only [qI,qJ,qK]<;>omega)|exact qL _)) only [go_sem,↓reduceIte,n0,reduceCtorEq,n1,n2,n3,n4,n5,i0,i1,i2,i3,i4,i5,i6,i7,hv_2,hun,hun',hso]
      repeat ((first | refine qA rfl ?_|refine qB ?_|refine qC rfl ?_|refine qD ?_|refine qE ?_|refine qF ?_|refine qG ?_|refine qH ?_);try simp (maxSteps:=1000000)(disch:=(first|omega|(simp only [qI,qJ,qK]<;>omega)|exact qL _)) only [go_sem,↓reduceIte,n0,reduceCtorEq,n1,n2,n3,n4,n5,i0,i1,i2,i3,i4,i5,i6,i7,hv_2,hun,hun',hso])
      refine (RComplete_fn w2 hq2.1 hG2.2).mono ?_
      rintro _ wz ⟨rfl,hez⟩
      rw [hez]
      try simp (maxSteps:=1000000)(disch:=(first|omega|(simp only [qI,qJ,qK]<;>omega)|exact qL _)) only [go_sem,↓reduceIte,n0,reduceCtorEq,n1,n2,n3,n4,n5,i0,i1,i2,i3,i4,i5,i6,i7,hv_2,hun,hun']
      repeat ((first | refine qA rfl ?_|refine qB ?_|refine qC rfl ?_|refine qD ?_|refine qE ?_|refine qF ?_|refine qG ?_|refine qH ?_);try simp (maxSteps:=1000000)(disch:=(first|omega|(simp only [qI,qJ,qK]<;>omega)|exact qL _)) only [go_sem,↓reduceIte,n0,reduceCtorEq,n1,n2,n3,n4,n5,i0,i1,i2,i3,i4,i5,i6,i7,hv_2,hun,hun'])
      rw [errV_none hsn0]
      exact ReadQ.bad (Eq.mp hFB (hlb0 (by rw [hsn0];exact rdMany_none rd1P_none _))) (hbase.trans' hU2 fun i hi h => h.elim id fun h => by omega)
    have hso0 : s1.isSome = true := isSome_some hsn0
    try simp (maxSteps:=1000000)(disch:=(first|omega|(simp only [qI,qJ,qK]<;>omega)|exact qL _)) only [go_sem,↓reduceIte,n0,reduceCtorEq,n1,n2,n3,n4,n5,i0,i1,i2,i3,i4,i5,i6,i7,hv_2,hun,hun',hso0]
    repeat ((first | refine W.seqR rfl ?_ | refine W.seq ?_ | refine W.regR rfl ?_ | refine W.block ?_ | refine W.skip ?_ | refine W.ret ?_ | refine W.exit ?_);try simp (maxSteps:=1000000)(disch:=(first|omega|(simp only [qI,qJ,qK]<;>omega)|exact qL _)) only [go_sem,↓reduceIte,n0,reduceCtorEq,n1,n2,n3,n4,n5,i0,i1,i2,i3,i4,i5,i6,i7,hv_2,hun,hun',hso0])
    refine W.condK ?_
    try simp (maxSteps:=1000000)(disch:=(first|omega|(simp only [qI,qJ,qK]<;>omega)|exact qL _)) only [go_sem,↓reduceIte,n0,reduceCtorEq,n1,n2,n3,n4,n5,i0,i1,i2,i3,i4,i5,i6,i7,hv_2,hun,hun',hso0]
    repeat ((first | refine W.seqR rfl ?_ | refine W.seq ?_ | refine W.regR rfl ?_ | refine W.block ?_ | refine W.skip ?_ | refine W.ret ?_ | refine W.exit ?_);try simp (maxSteps:=1000000)(disch:=(first|omega|(simp only [qI,qJ,qK]<;>omega)|exact qL _)) only [go_sem,↓reduceIte,n0,reduceCtorEq,n1,n2,n3,n4,n5,i0,i1,i2,i3,i4,i5,i6,i7,hv_2,hun,hun',hso0,slBase_00])
    refine W.normJ (RowQ [(2,.bool un),(7,.pointer (some ⟨rb,0,none⟩)),(8,.int .i16 ver),(9,.bool true),(10,.pointer (some ⟨vb,0,none⟩)),(13,.int .i32 y0)] 12 (fun va w' => LstI RT (rd1 (rdP (d + 3) ver true) fReadShareGroupStateResponse_0.of fReadShareGroupStateResponse_0.sub false true) (Rep1 (RepS true (d + 3)) fReadShareGroupStateResponse_0.of fReadShareGroupStateResponse_0.sub) 18 193 [.int .u8 0,.int .u8 0,.int .u8 0,.int .u8 0,.int .u8 0,.int .u8 0,.int .u8 0,.int .u8 0,.int .u8 0,.int .u8 0,.int .u8 0,.int .u8 0,.int .u8 0,.int .u8 0,.int .u8 0,.int .u8 0,.slice none 0 0,.map none] w2.heap.size N0 ok (fun b => ok b ∨ w1.heap.size ≤ b) rb w2 s1 va 0 s1 [] [] w' ∧ (N0 = 0 → if nilS fReadShareGroupStateResponse_0 ver y0 = true then va = .slice none 0 0 else ∃ a,va = .slice (some a) 0 0))) ?_ ?_
    · by_cases hy0 : (0 : Int) < y0
      · have hyv : Value.int .i32 y0 = .int .i32 ((N0 : Nat) : Int) := by rw [show y0 = ((N0 : Nat) : Int) by omega]
        repeat ((first | refine qA rfl ?_|refine qB ?_|refine qC rfl ?_|refine qD ?_|refine qE ?_|refine qF ?_|refine qG ?_|refine qH ?_);try simp (maxSteps:=1000000)(disch:=(first|omega|(simp only [qI,qJ,qK]<;>omega)|exact qL _)) only [go_sem,↓reduceIte,n0,reduceCtorEq,n1,n2,n3,n4,n5,i0,i1,i2,i3,i4,i5,i6,i7,hv_2,hun,hun'])
        refine wp_appendZ (m := N0) utReadShareGroupStateResponse_186 utReadShareGroupStateResponse_21 inReadShareGroupStateResponse_193 (by decide) (by first | rfl | simp (maxSteps:=1000000)(disch:=(first|omega|(simp only [qI,qJ,qK]<;>omega)|exact qL _)) only [go_sem,↓reduceIte,n0,reduceCtorEq,n1,n2,n3,n4,n5,i0,i1,i2,i3,i4,i5,i6,i7]) (by first | exact hyv | (simp (maxSteps:=1000000)(disch:=(first|omega|(simp only [qI,qJ,qK]<;>omega)|exact qL _)) only [go_sem,↓reduceIte,n0,reduceCtorEq,n1,n2,n3,n4,n5,i0,i1,i2,i3,i4,i5,i6,i7];exact hyv)) (by omega) (by omega) (by decide) ?_
        intro q rest hq1
        have hEw : Ext w2 (w2.drew.alloc (.cells (zs [.int .u8 0,.int .u8 0,.int .u8 0,.int .u8 0,.int .u8 0,.int .u8 0,.int .u8 0,.int .u8 0,.int .u8 0,.int .u8 0,.int .u8 0,.int .u8 0,.int .u8 0,.int .u8 0,.int .u8 0,.int .u8 0,.slice none 0 0,.map none] N0 ++ rest).toArray 193)) := (Upd.refl _ _).drew.alloc _
        try simp (maxSteps:=1000000)(disch:=(first|omega|(simp only [qI,qJ,qK]<;>omega)|exact qL _)) only [go_sem,↓reduceIte,n0,reduceCtorEq,n1,n2,n3,n4,n5,i0,i1,i2,i3,i4,i5,i6,i7,hv_2,hun,hun']
        repeat ((first | refine qA rfl ?_|refine qB ?_|refine qC rfl ?_|refine qD ?_|refine qE ?_|refine qF ?_|refine qG ?_|refine qH ?_);try simp (maxSteps:=1000000)(disch:=(first|omega|(simp only [qI,qJ,qK]<;>omega)|exact qL _)) only [go_sem,↓reduceIte,n0,reduceCtorEq,n1,n2,n3,n4,n5,i0,i1,i2,i3,i4,i5,i6,i7,hv_2,hun,hun'])
        exact ⟨(by simp (maxSteps:=1000000)(disch:=(first|omega|(simp only [qI,qJ,qK]<;>omega)|exact qL _)) only [go_sem,↓reduceIte,n0,reduceCtorEq,n1,n2,n3,n4,n5,i0,i1,i2,i3,i4,i5,i6,i7,Holds_nil,Holds_cons]),.slice (some ⟨w2.heap.size,0,none⟩) N0 q,(by simp (maxSteps:=1000000)(disch:=(first|omega|(simp only [qI,qJ,qK]<;>omega)|exact qL _)) only [go_sem,↓reduceIte,n0,reduceCtorEq,n1,n2,n3,n4,n5,i0,i1,i2,i3,i4,i5,i6,i7]),LstI.start (RowJ.start (by omega) hq1 (by show w2.heap.size ≤ w2.drew.heap.size;rw [size_drew];omega) (blk_alloc_new rfl)) ⟨hq2.1.upd hEw (fun h => h) (fun _ _ _ h => h),hq2.2.upd hEw fun h => h⟩ (hEw.mono fun _ h => h.elim),fun h0 => by omega⟩
      · repeat ((first | refine qA rfl ?_|refine qB ?_|refine qC rfl ?_|refine qD ?_|refine qE ?_|refine qF ?_|refine qG ?_|refine qH ?_);try simp (maxSteps:=1000000)(disch:=(first|omega|(simp only [qI,qJ,qK]<;>omega)|exact qL _)) only [go_sem,↓reduceIte,n0,reduceCtorEq,n1,n2,n3,n4,n5,i0,i1,i2,i3,i4,i5,i6,i7,hv_2,hun,hun'])
        exact ⟨(by simp (maxSteps:=1000000)(disch:=(first|omega|(simp only [qI,qJ,qK]<;>omega)|exact qL _)) only [go_sem,↓reduceIte,n0,reduceCtorEq,n1,n2,n3,n4,n5,i0,i1,i2,i3,i4,i5,i6,i7,Holds_nil,Holds_cons]),.slice none 0 0,(by simp (maxSteps:=1000000)(disch:=(first|omega|(simp only [qI,qJ,qK]<;>omega)|exact qL _)) only [go_sem,↓reduceIte,n0,reduceCtorEq,n1,n2,n3,n4,n5,i0,i1,i2,i3,i4,i5,i6,i7,slBase_00]),LstI.start (RowJ.zero (by omega) (fun _ h => by cases h)) hq2 (Upd.refl _ _),fun _ => by rw [nilS_plain (by decide) (by omega)];exact rfl⟩
    rintro ρ w3 ⟨⟨hrb0_2,hrb0_7,hrb0_8,hrb0_9,hrb0_10,hrb0_13,-⟩,va0,hra0,hL0,hnc0⟩
    repeat ((first | refine qA rfl ?_|refine qB ?_|refine qC rfl ?_|refine qD ?_|refine qE ?_|refine qF ?_|refine qG ?_|refine qH ?_);try simp (maxSteps:=1000000)(disch:=(first|omega|(simp only [qI,qJ,qK]<;>omega)|exact qL _)) only [go_sem,↓reduceIte,n0,reduceCtorEq,n1,n2,n3,n4,n5,i0,i1,i2,i3,i4,i5,i6,i7,hv_2,hrb0_2,hrb0_7,hrb0_8,hrb0_9,hrb0_10,hrb0_13,hra0,exitRQ_ret,exitRQ_exit,Int.toNat_natCast,Nat.mul_one,hun,hun'])
    refine W.exitRJ 0 (EndQ [(2,.bool un),(7,.pointer (some ⟨rb,0,none⟩)),(8,.int .i16 ver),(9,.bool true),(10,.pointer (some ⟨vb,0,none⟩)),(13,.int .i32 y0),(12,va0)] (fun w' => ∃ s xs css,LstI RT (rd1 (rdP (d + 3) ver true) fReadShareGroupStateResponse_0.of fReadShareGroupStateResponse_0.sub false true) (Rep1 (RepS true (d + 3)) fReadShareGroupStateResponse_0.of fReadShareGroupStateResponse_0.sub) 18 193 [.int .u8 0,.int .u8 0,.int .u8 0,.int .u8 0,.int .u8 0,.int .u8 0,.int .u8 0,.int .u8 0,.int .u8 0,.int .u8 0,.int .u8 0,.int .u8 0,.int .u8 0,.int .u8 0,.int .u8 0,.int .u8 0,.slice none 0 0,.map none] w2.heap.size N0 ok (fun b => ok b ∨ w1.heap.size ≤ b) rb w2 s1 va0 N0 s xs css w')) (W.loop (LoopQ [(2,.bool un),(7,.pointer (some ⟨rb,0,none⟩)),(8,.int .i16 ver),(9,.bool true),(10,.pointer (some ⟨vb,0,none⟩)),(13,.int .i32 y0),(12,va0)] 14 (fun j w' => ∃ s xs css,LstI RT (rd1 (rdP (d + 3) ver true) fReadShareGroupStateResponse_0.of fReadShareGroupStateResponse_0.sub false true) (Rep1 (RepS true (d + 3)) fReadShareGroupStateResponse_0.of fReadShareGroupStateResponse_0.sub) 18 193 [.int .u8 0,.int .u8 0,.int .u8 0,.int .u8 0,.int .u8 0,.int .u8 0,.int .u8 0,.int .u8 0,.int .u8 0,.int .u8 0,.int .u8 0,.int .u8 0,.int .u8 0,.int .u8 0,.int .u8 0,.int .u8 0,.slice none 0 0,.map none] w2.heap.size N0 ok (fun b => ok b ∨ w1.heap.size ≤ b) rb w2 s1 va0 j s xs css w')) (fun ρ _ => N0 - (RowKit.intOf (ρ 14)).toNat) ?_ ?_) ?_
    · exact ⟨(by simp (maxSteps:=1000000)(disch:=(first|omega|(simp only [qI,qJ,qK]<;>omega)|exact qL _)) only [go_sem,↓reduceIte,n0,reduceCtorEq,n1,n2,n3,n4,n5,i0,i1,i2,i3,i4,i5,i6,i7,Holds_nil,Holds_cons,hrb0_2,hrb0_7,hrb0_8,hrb0_9,hrb0_10,hrb0_13,hra0]),0,(by simp (maxSteps:=1000000)(disch:=(first|omega|(simp only [qI,qJ,qK]<;>omega)|exact qL _)) only [go_sem,↓reduceIte,n0,reduceCtorEq,n1,n2,n3,n4,n5,i0,i1,i2,i3,i4,i5,i6,i7,hrb0_2,hrb0_7,hrb0_8,hrb0_9,hrb0_10,hrb0_13,hra0];all_goals rfl),s1,[],[],hL0⟩
    · rintro ρ w4 ⟨⟨hrc0_2,hrc0_7,hrc0_8,hrc0_9,hrc0_10,hrc0_13,hrc0_12,-⟩,j1,hri0,s2,xs0,css0,hL0⟩
      have hj0 := hL0.le
      have hq4 := hL0.rd
      have hU4 : Upd (fun b => b = vb ∨ b = rb) w1 w4 := hU2.trans' hL0.upd fun i _ h => .inr h
      have hz4 := hL0.upd.size
      have hG4 : Glo ev w4 := hG1.updS hU4 hgM1 hgM2
      by_cases hlt0 : j1 < N0
      · obtain ⟨R1,q1,B1,hva1,hNq1,hLR1,hA1,hx1_4,hnext1⟩ := hL0.row.next hlt0
        have hRl1 := blk_lt hx1_4
        generalize css0.flatten = A1 at hA1 hx1_4 hnext1
        replace hra0 : ρ 12 = .slice (some ⟨R1,0,none⟩) N0 q1 := hrc0_12.trans hva1
        have hown1 : ∀ b,ownB va0 b → w2.heap.size ≤ b ∧ b < w4.heap.size := fun b h => hL0.row.own h
        have hoM1 : ∀ b,(fun b => (ok b ∨ w1.heap.size ≤ b) ∧ ¬ ownB va0 b) b → ¬ (b = R1 ∨ b = rb) := fun b hk h => h.elim (fun e => hk.2 ⟨_,_,_,hva1,e⟩) (fun e => hoM b hk.1 (.inr e))
        obtain ⟨X4,hX4⟩ : ∃ X : Array Value,X = (A1 ++ (([.int .u8 0,.int .u8 0,.int .u8 0,.int .u8 0,.int .u8 0,.int .u8 0,.int .u8 0,.int .u8 0,.int .u8 0,.int .u8 0,.int .u8 0,.int .u8 0,.int .u8 0,.int .u8 0,.int .u8 0,.int .u8 0,.slice none 0 0,.map none] : List Value) ++ B1)).toArray := ⟨_,rfl⟩
        have hxb4 : blk w4 R1 = some (X4,193,(0,0)) := by rw [hX4];exact hx1_4
        have hXs4 : j1 * 18 + 18 ≤ X4.size := by rw [hX4];simp only [List.size_toArray,List.length_append,List.length_cons,List.length_nil,hA1];omega
        repeat ((first | refine qA rfl ?_|refine qB ?_|refine qC rfl ?_|refine qD ?_|refine qE ?_|refine qF ?_|refine qG ?_|refine qH ?_);try simp (maxSteps:=1000000)(disch:=(first|omega|(simp only [qI,qJ,qK]<;>omega)|exact qL _)) only [go_sem,↓reduceIte,n0,reduceCtorEq,n1,n2,n3,n4,n5,i0,i1,i2,i3,i4,i5,i6,i7,hxb4,hrc0_2,hrc0_7,hrc0_8,hrc0_9,hrc0_10,hrc0_13,hra0,hri0,exitRQ_ret,exitRQ_exit,Int.toNat_natCast,Nat.mul_one,hun,hun'])
        refine (DefaultEX2_fn w4 hx1_4 hA1).mono ?_
        rintro _ w5 ⟨hx1_5,hu5⟩
        have hq5 := And.intro (hq4.1.upd hu5 (by omega) (fun b _ hk e => by have := (hok b hk).1;omega)) (hq4.2.upd hu5 (by omega))
        have hV5 : Upd (fun b => b = R1 ∨ b = rb) w4 w5 := hu5.mono (fun _ h => .inl h)
        have hU5 : Upd (fun b => b = vb ∨ b = rb) w1 w5 := hU4.trans' hV5 fun i hi h => h.elim (fun h => by omega) .inr
        have hz5 := hV5.size
        have hG5 : Glo ev w5 := hG1.updS hU5 hgM1 hgM2
        obtain ⟨X5,hX5⟩ : ∃ X : Array Value,X = (A1 ++ (([.int .u8 0,.int .u8 0,.int .u8 0,.int .u8 0,.int .u8 0,.int .u8 0,.int .u8 0,.int .u8 0,.int .u8 0,.int .u8 0,.int .u8 0,.int .u8 0,.int .u8 0,.int .u8 0,.int .u8 0,.int .u8 0,.slice none 0 0,.map none] : List Value) ++ B1)).toArray := ⟨_,rfl⟩
        have hxb5 : blk w5 R1 = some (X5,193,(0,0)) := by rw [hX5];exact hx1_5
        have hXs5 : j1 * 18 + 18 ≤ X5.size := by rw [hX5];simp only [List.size_toArray,List.length_append,List.length_cons,List.length_nil,hA1];omega
        have hbe0_0 : (rdL (rdP (d + 2) ver true) (dfP (d + 2)) ver true [fX2_0,fX2_1] s2).2 = none → FB := fun h => hlb0 (hL0.bad hlt0 rd1P_none (by show (rd1 (rdP (d + 3) ver true) 10 fs_X2 false true s2).2 = none;rw [rd1_part];exact rdP_bad h))
        have hhe0_0 : hasS fX2_0 ver = true := hasS_t (by show (0 : Int) ≤ ver;omega) (by show (-1 : Int) < 0 ∨ ver ≤ (-1 : Int);omega)
        obtain ⟨xe0_0,hxe0_0⟩ : ∃ x,x = (rdF (rdP (d + 2) ver true) ver true fX2_0 s2).1 := ⟨_,rfl⟩
        repeat ((first | refine qA rfl ?_|refine qB ?_|refine qC rfl ?_|refine qD ?_|refine qE ?_|refine qF ?_|refine qG ?_|refine qH ?_);try simp (maxSteps:=1000000)(disch:=(first|omega|(simp only [qI,qJ,qK]<;>omega)|exact qL _)) only [go_sem,↓reduceIte,n0,reduceCtorEq,n1,n2,n3,n4,n5,i0,i1,i2,i3,i4,i5,i6,i7,hxb5,hrc0_2,hrc0_7,hrc0_8,hrc0_9,hrc0_10,hrc0_13,hra0,hri0,exitRQ_ret,exitRQ_exit,Int.toNat_natCast,Nat.mul_one,hun,hun'])
        have hrd : rdF (rdP (d + 2) ver true) ver true fX2_0 s2 = _ := rdF_uuid rfl
        refine (RUuid_fn w5 hq5.1 hrok).mono ?_
        rintro _ w6 ⟨rfl,hq6,hu6⟩
        have hx1_6 := hu6.blk_some hx1_5 (by omega)
        have hV6 : Upd (fun b => b = R1 ∨ b = rb) w5 w6 := hu6.mono (fun _ h => .inr h)
        have hU6 : Upd (fun b => b = vb ∨ b = rb) w1 w6 := hU5.trans' hV6 fun i hi h => h.elim (fun h => by omega) .inr
        have hz6 := hV6.size
        have hG6 : Glo ev w6 := hG1.updS hU6 hgM1 hgM2
        obtain ⟨X6,hX6⟩ : ∃ X : Array Value,X = (A1 ++ (([.int .u8 0,.int .u8 0,.int .u8 0,.int .u8 0,.int .u8 0,.int .u8 0,.int .u8 0,.int .u8 0,.int .u8 0,.int .u8 0,.int .u8 0,.int .u8 0,.int .u8 0,.int .u8 0,.int .u8 0,.int .u8 0,.slice none 0 0,.map none] : List Value) ++ B1)).toArray := ⟨_,rfl⟩
        have hxb6 : blk w6 R1 = some (X6,193,(0,0)) := by rw [hX6];exact hx1_6
        have hXs6 : j1 * 18 + 18 ≤ X6.size := by rw [hX6];simp only [List.size_toArray,List.length_append,List.length_cons,List.length_nil,hA1];omega
        have hst : (rdF (rdP (d + 2) ver true) ver true fX2_0 s2).2 = (rdSpan 16 s2).2 := by first | (rw [hrd];rfl) | rw [hrd]
        obtain ⟨s3,hs3⟩ : ∃ s,s = (rdF (rdP (d + 2) ver true) ver true fX2_0 s2).2 := ⟨_,rfl⟩
        rw [← hst,← hs3] at hq6
        clear hst
        have hl16 : ((uuidS (rdSpan 16 s2).1).map byteV).length = 16 := by rw [List.length_map,uuidS_len]
        have hx16 := flat_bytes (uuidS (rdSpan 16 s2).1)
        have hxe : xe0_0 = .oct false (uuidS (rdSpan 16 s2).1) := by rw [hxe0_0,hrd]
        have hxc : (uuidS (xe0_0).s).map byteV = (uuidS (rdSpan 16 s2).1).map byteV := by rw [hxe];show (uuidS (uuidS _)).map byteV = _;rw [uuidS_idem]
        generalize (uuidS (rdSpan 16 s2).1).map byteV = Xu at *
        obtain ⟨ue00_0,ue00_1,ue00_2,ue00_3,ue00_4,ue00_5,ue00_6,ue00_7,ue00_8,ue00_9,ue00_10,ue00_11,ue00_12,ue00_13,ue00_14,ue00_15,rfl⟩ := list16 hl16
        simp only [List.all_cons,List.all_nil,Bool.and_true,Bool.and_eq_true] at hx16
        obtain ⟨fue00_0,fue00_1,fue00_2,fue00_3,fue00_4,fue00_5,fue00_6,fue00_7,fue00_8,fue00_9,fue00_10,fue00_11,fue00_12,fue00_13,fue00_14,fue00_15⟩ := hx16
        have hcz : cellsAt #[ue00_0,ue00_1,ue00_2,ue00_3,ue00_4,ue00_5,ue00_6,ue00_7,ue00_8,ue00_9,ue00_10,ue00_11,ue00_12,ue00_13,ue00_14,ue00_15] 0 16 = some (.agg #[ue00_0,ue00_1,ue00_2,ue00_3,ue00_4,ue00_5,ue00_6,ue00_7,ue00_8,ue00_9,ue00_10,ue00_11,ue00_12,ue00_13,ue00_14,ue00_15]) := cellsAt_full rfl
        have hst6_0 : j1 * 18 + 16 ≤ X6.size := by omega
        have hld6_16 : X6[j1 * 18 + 16]? = some (.slice none 0 0) := by rw [hX6];exact el_cell (R := 0) hA1 (Nat.le_of_ble_eq_true rfl)
        try simp (maxSteps:=1000000)(disch:=(first|omega|(simp only [qI,qJ,qK]<;>omega)|exact qL _)) only [go_sem,↓reduceIte,n0,reduceCtorEq,n1,n2,n3,n4,n5,i0,i1,i2,i3,i4,i5,i6,i7,hxb6,hrc0_2,hrc0_7,hrc0_8,hrc0_9,hrc0_10,hrc0_13,hra0,hri0,exitRQ_ret,exitRQ_exit,Int.toNat_natCast,Nat.mul_one,hun,hun',hcz,fue00_0,fue00_1,fue00_2,fue00_3,fue00_4,fue00_5,fue00_6,fue00_7,fue00_8,fue00_9,fue00_10,fue00_11,fue00_12,fue00_13,fue00_14,fue00_15,hst6_0,hld6_16,Array.getElem?_setIfInBounds_ne]
        repeat ((first | refine qA rfl ?_|refine qB ?_|refine qC rfl ?_|refine qD ?_|refine qE ?_|refine qF ?_|refine qG ?_|refine qH ?_);try simp (maxSteps:=1000000)(disch:=(first|omega|(simp only [qI,qJ,qK]<;>omega)|exact qL _)) only [go_sem,↓reduceIte,n0,reduceCtorEq,n1,n2,n3,n4,n5,i0,i1,i2,i3,i4,i5,i6,i7,hxb6,hrc0_2,hrc0_7,hrc0_8,hrc0_9,hrc0_10,hrc0_13,hra0,hri0,exitRQ_ret,exitRQ_exit,Int.toNat_natCast,Nat.mul_one,hun,hun',hcz,fue00_0,fue00_1,fue00_2,fue00_3,fue00_4,fue00_5,fue00_6,fue00_7,fue00_8,fue00_9,fue00_10,fue00_11,fue00_12,fue00_13,fue00_14,fue00_15,hst6_0,hld6_16,Array.getElem?_setIfInBounds_ne])
        have hEu : Ext w6 (wr (w6.alloc (.cells #[.int .u8 0,.int .u8 0,.int .u8 0,.int .u8 0,.int .u8 0,.int .u8 0,.int .u8 0,.int .u8 0,.int .u8 0,.int .u8 0,.int .u8 0,.int .u8 0,.int .u8 0,.int .u8 0,.int .u8 0,.int .u8 0] 46)) w6.heap.size 0 [ue00_0,ue00_1,ue00_2,ue00_3,ue00_4,ue00_5,ue00_6,ue00_7,ue00_8,ue00_9,ue00_10,ue00_11,ue00_12,ue00_13,ue00_14,ue00_15]) := (Upd.alloc (Upd.refl _ _) _).wr _ _ (.inl (Nat.le_refl _))
        have hq7 := And.intro (hq6.1.upd hEu (fun h => h) (fun _ _ _ h => h)) (hq6.2.upd hEu fun h => h)
        have hu7 : Upd (fun b => b = rb) w6 (wr (w6.alloc (.cells #[.int .u8 0,.int .u8 0,.int .u8 0,.int .u8 0,.int .u8 0,.int .u8 0,.int .u8 0,.int .u8 0,.int .u8 0,.int .u8 0,.int .u8 0,.int .u8 0,.int .u8 0,.int .u8 0,.int .u8 0,.int .u8 0] 46)) w6.heap.size 0 [ue00_0,ue00_1,ue00_2,ue00_3,ue00_4,ue00_5,ue00_6,ue00_7,ue00_8,ue00_9,ue00_10,ue00_11,ue00_12,ue00_13,ue00_14,ue00_15]) := hEu.mono fun _ h => h.elim
        clear hEu
        generalize (wr (w6.alloc (.cells #[.int .u8 0,.int .u8 0,.int .u8 0,.int .u8 0,.int .u8 0,.int .u8 0,.int .u8 0,.int .u8 0,.int .u8 0,.int .u8 0,.int .u8 0,.int .u8 0,.int .u8 0,.int .u8 0,.int .u8 0,.int .u8 0] 46)) w6.heap.size 0 [ue00_0,ue00_1,ue00_2,ue00_3,ue00_4,ue00_5,ue00_6,ue00_7,ue00_8,ue00_9,ue00_10,ue00_11,ue00_12,ue00_13,ue00_14,ue00_15]) = w7 at *
        have hx1_7 := hu7.blk_some hx1_6 (by omega)
        have hV7 : Upd (fun b => b = R1 ∨ b = rb) w6 w7 := hu7.mono (fun _ h => .inr h)
        have hU7 : Upd (fun b => b = vb ∨ b = rb) w1 w7 := hU6.trans' hV7 fun i hi h => h.elim (fun h => by omega) .inr
        have hz7 := hV7.size
        have hG7 : Glo ev w7 := hG1.updS hU7 hgM1 hgM2
        obtain ⟨X7,hX7⟩ : ∃ X : Array Value,X = (A1 ++ (([.int .u8 0,.int .u8 0,.int .u8 0,.int .u8 0,.int .u8 0,.int .u8 0,.int .u8 0,.int .u8 0,.int .u8 0,.int .u8 0,.int .u8 0,.int .u8 0,.int .u8 0,.int .u8 0,.int .u8 0,.int .u8 0,.slice none 0 0,.map none] : List Value) ++ B1)).toArray := ⟨_,rfl⟩
        have hxb7 : blk w7 R1 = some (X7,193,(0,0)) := by rw [hX7];exact hx1_7
        have hXs7 : j1 * 18 + 18 ≤ X7.size := by rw [hX7];simp only [List.size_toArray,List.length_append,List.length_cons,List.length_nil,hA1];omega
        generalize hw8 : wr w7 R1 (j1 * 18) [ue00_0,ue00_1,ue00_2,ue00_3,ue00_4,ue00_5,ue00_6,ue00_7,ue00_8,ue00_9,ue00_10,ue00_11,ue00_12,ue00_13,ue00_14,ue00_15] = w8
        have hS8 : Upd (fun b => b = R1 ∨ b = rb) w7 w8 := by rw [← hw8];exact (Upd.refl _ _).wr _ _ (.inr (.inl rfl))
        have hx1_8 : blk w8 R1 = some ((A1 ++ (([ue00_0,ue00_1,ue00_2,ue00_3,ue00_4,ue00_5,ue00_6,ue00_7,ue00_8,ue00_9,ue00_10,ue00_11,ue00_12,ue00_13,ue00_14,ue00_15,.slice none 0 0,.map none] : List Value) ++ B1)).toArray,193,(0,0)) := by rw [← hw8];exact el_blk0 hx1_7 hA1 (Nat.le_of_ble_eq_true rfl)
        have hV8 := hS8
        have hU8 : Upd (fun b => b = vb ∨ b = rb) w1 w8 := hU7.trans' hV8 fun i hi h => h.elim (fun h => by omega) .inr
        have hz8 := hV8.size
        have hG8 : Glo ev w8 := hG1.updS hU8 hgM1 hgM2
        have hq8 : Rdr RT ok w8 rb s3 ∧ NN w8 rb s3 := by
          have hn : ∀ x,x = w8 → (Rdr RT ok x rb s3 ∧ NN x rb s3) := fun x hx => by
            rw [hx,← hw8]
            exact Rdr.store hq7 (by omega) (fun h => by have := (hok _ h).1;first | omega | exact (hok _ h).2 rfl)
          exact hn _ rfl
        obtain ⟨X8,hX8⟩ : ∃ X : Array Value,X = (A1 ++ (([ue00_0,ue00_1,ue00_2,ue00_3,ue00_4,ue00_5,ue00_6,ue00_7,ue00_8,ue00_9,ue00_10,ue00_11,ue00_12,ue00_13,ue00_14,ue00_15,.slice none 0 0,.map none] : List Value) ++ B1)).toArray := ⟨_,rfl⟩
        have hxb8 : blk w8 R1 = some (X8,193,(0,0)) := by rw [hX8];exact hx1_8
        have hXs8 : j1 * 18 + 18 ≤ X8.size := by rw [hX8];simp only [List.size_toArray,List.length_append,List.length_cons,List.length_nil,hA1];omega
        clear hw8
        have hfe0_0 : RepF (RepS true (d + 2)) (szS true (d + 2)) fX2_0 (fun b => (ok b ∨ w1.heap.size ≤ b) ∧ ¬ ownB va0 b) w8 (xe0_0) [ue00_0,ue00_1,ue00_2,ue00_3,ue00_4,ue00_5,ue00_6,ue00_7,ue00_8,ue00_9,ue00_10,ue00_11,ue00_12,ue00_13,ue00_14,ue00_15] := (RepF_uuid rfl).2 hxc.symm
        clear hrd
        have hbe0_1 : (rdL (rdP (d + 2) ver true) (dfP (d + 2)) ver true [fX2_1] s3).2 = none → FB := fun h => hbe0_0 (by rw [rdL_st (by decide) hhe0_0,← hs3];exact h)
        have hhe0_1 : hasS fX2_1 ver = true := hasS_t (by show (0 : Int) ≤ ver;omega) (by show (-1 : Int) < 0 ∨ ver ≤ (-1 : Int);omega)
        obtain ⟨xe0_1,hxe0_1⟩ : ∃ x,x = (rdF (rdP (d + 2) ver true) ver true fX2_1 s3).1 := ⟨_,rfl⟩
        have hld8_16 : X8[j1 * 18 + 16]? = some (.slice none 0 0) := by rw [hX8];exact el_cell (R := 0) hA1 (Nat.le_of_ble_eq_true rfl)
        repeat ((first | refine qA rfl ?_|refine qB ?_|refine qC rfl ?_|refine qD ?_|refine qE ?_|refine qF ?_|refine qG ?_|refine qH ?_);try simp (maxSteps:=1000000)(disch:=(first|omega|(simp only [qI,qJ,qK]<;>omega)|exact qL _)) only [go_sem,↓reduceIte,n0,reduceCtorEq,n1,n2,n3,n4,n5,i0,i1,i2,i3,i4,i5,i6,i7,hxb8,hrc0_2,hrc0_7,hrc0_8,hrc0_9,hrc0_10,hrc0_13,hra0,hri0,exitRQ_ret,exitRQ_exit,Int.toNat_natCast,Nat.mul_one,hun,hun',hld8_16])
        refine (RCompactArrayLen_fn w8 hq8.1 hrok hG8.1 hgrb).mono ?_
        rintro _ w9 ⟨rfl,hq9,hu9⟩
        have hx1_9 := hu9.blk_some hx1_8 (by omega)
        have hV9 : Upd (fun b => b = R1 ∨ b = rb) w8 w9 := hu9.mono (fun _ h => .inr h)
        have hU9 : Upd (fun b => b = vb ∨ b = rb) w1 w9 := hU8.trans' hV9 fun i hi h => h.elim (fun h => by omega) .inr
        have hz9 := hV9.size
        have hG9 : Glo ev w9 := hG1.updS hU9 hgM1 hgM2
        obtain ⟨X9,hX9⟩ : ∃ X : Array Value,X = (A1 ++ (([ue00_0,ue00_1,ue00_2,ue00_3,ue00_4,ue00_5,ue00_6,ue00_7,ue00_8,ue00_9,ue00_10,ue00_11,ue00_12,ue00_13,ue00_14,ue00_15,.slice none 0 0,.map none] : List Value) ++ B1)).toArray := ⟨_,rfl⟩
        have hxb9 : blk w9 R1 = some (X9,193,(0,0)) := by rw [hX9];exact hx1_9
        have hXs9 : j1 * 18 + 18 ≤ X9.size := by rw [hX9];simp only [List.size_toArray,List.length_append,List.length_cons,List.length_nil,hA1];omega
        obtain ⟨s4,hs4⟩ : ∃ s,s = (rdALen true s3).2 := ⟨_,rfl⟩
        rw [← hs4] at hq9
        have hyr1 := rdALen_rng true s3
        generalize hy1 : (rdALen true s3).1 = y1 at *
        obtain ⟨N1,hN1⟩ : ∃ N,N = y1.toNat := ⟨_,rfl⟩
        have hlb1 : (rdMany (rd1 (rdP (d + 2) ver true) fX2_1.of fX2_1.sub false true) N1 s4).2 = none → FB := fun h => hbe0_1 (by rw [rdL_st (by decide) hhe0_1];exact rdL_bad (rdF_listbad rfl (by rw [hy1,← hN1,← hs4];exact h)))
        repeat ((first | refine W.seqR rfl ?_ | refine W.seq ?_ | refine W.regR rfl ?_ | refine W.block ?_ | refine W.skip ?_ | refine W.ret ?_ | refine W.exit ?_);try simp (maxSteps:=1000000)(disch:=(first|omega|(simp only [qI,qJ,qK]<;>omega)|exact qL _)) only [go_sem,↓reduceIte,n0,reduceCtorEq,n1,n2,n3,n4,n5,i0,i1,i2,i3,i4,i5,i6,i7,hxb9,hrc0_2,hrc0_7,hrc0_8,hrc0_9,hrc0_10,hrc0_13,hra0,hri0,exitRQ_ret,exitRQ_exit,Int.toNat_natCast,Nat.mul_one,hun,hun'])
        refine (ROk_fn w9 hq9.1).mono ?_
        rintro _ wz ⟨rfl,hez⟩
        rw [hez]
        clear hez wz
        by_cases hsn1 : s4 = none
        · have hso : s4.isSome = false := by rw [hsn1];rfl
          try simp (maxSteps:=1000000)(disch:=(first|omega|(simp only [qI,qJ,qK]<;>omega)|exact qL _)) only [go_sem,↓reduceIte,n0,reduceCtorEq,n1,n2,n3,n4,n5,i0,i1,i2,i3,i4,i5,i6,i7,hxb9,hrc0_2,hrc0_7,hrc0_8,hrc0_9,hrc0_10,hrc0_13,hra0,hri0,exitRQ_ret,exitRQ_exit,Int.toNat_natCast,Nat.mul_one,hun,hun',hso]
          repeat ((first | refine qA rfl ?_|refine qB ?_|refine qC rfl ?_|refine qD ?_|refine qE ?_|refine qF ?_|refine qG ?_|refine qH ?_);try simp (maxSteps:=1000000)(disch:=(first|omega|(simp only [qI,qJ,qK]<;>omega)|exact qL _)) only [go_sem,↓reduceIte,n0,reduceCtorEq,n1,n2,n3,n4,n5,i0,i1,i2,i3,i4,i5,i6,i7,hxb9,hrc0_2,hrc0_7,hrc0_8,hrc0_9,hrc0_10,hrc0_13,hra0,hri0,exitRQ_ret,exitRQ_exit,Int.toNat_natCast,Nat.mul_one,hun,hun',hso])
          refine (RComplete_fn w9 hq9.1 hG9.2).mono ?_
          rintro _ wz ⟨rfl,hez⟩
          rw [hez]
          try simp (maxSteps:=1000000)(disch:=(first|omega|(simp only [qI,qJ,qK]<;>omega)|exact qL _)) only [go_sem,↓reduceIte,n0,reduceCtorEq,n1,n2,n3,n4,n5,i0,i1,i2,i3,i4,i5,i6,i7,hxb9,hrc0_2,hrc0_7,hrc0_8,hrc0_9,hrc0_10,hrc0_13,hra0,hri0,exitRQ_ret,exitRQ_exit,Int.toNat_natCast,Nat.mul_one,hun,hun']
          repeat ((first | refine qA rfl ?_|refine qB ?_|refine qC rfl ?_|refine qD ?_|refine qE ?_|refine qF ?_|refine qG ?_|refine qH ?_);try simp (maxSteps:=1000000)(disch:=(first|omega|(simp only [qI,qJ,qK]<;>omega)|exact qL _)) only [go_sem,↓reduceIte,n0,reduceCtorEq,n1,n2,n3,n4,n5,i0,i1,i2,i3,i4,i5,i6,i7,hxb9,hrc0_2,hrc0_7,hrc0_8,hrc0_9,hrc0_10,hrc0_13,hra0,hri0,exitRQ_ret,exitRQ_exit,Int.toNat_natCast,Nat.mul_one,hun,hun'])
          rw [errV_none hsn1]
          exact ReadQ.bad (Eq.mp hFB (hlb1 (by rw [hsn1];exact rdMany_none rd1P_none _))) (hbase.trans' hU9 fun i hi h => h.elim id fun h => by omega)
        have hso1 : s4.isSome = true := isSome_some hsn1
        try simp (maxSteps:=1000000)(disch:=(first|omega|(simp only [qI,qJ,qK]<;>omega)|exact qL _)) only [go_sem,↓reduceIte,n0,reduceCtorEq,n1,n2,n3,n4,n5,i0,i1,i2,i3,i4,i5,i6,i7,hxb9,hrc0_2,hrc0_7,hrc0_8,hrc0_9,hrc0_10,hrc0_13,hra0,hri0,exitRQ_ret,exitRQ_exit,Int.toNat_natCast,Nat.mul_one,hun,hun',hso1]
        repeat ((first | refine W.seqR rfl ?_ | refine W.seq ?_ | refine W.regR rfl ?_ | refine W.block ?_ | refine W.skip ?_ | refine W.ret ?_ | refine W.exit ?_);try simp (maxSteps:=1000000)(disch:=(first|omega|(simp only [qI,qJ,qK]<;>omega)|exact qL _)) only [go_sem,↓reduceIte,n0,reduceCtorEq,n1,n2,n3,n4,n5,i0,i1,i2,i3,i4,i5,i6,i7,hxb9,hrc0_2,hrc0_7,hrc0_8,hrc0_9,hrc0_10,hrc0_13,hra0,hri0,exitRQ_ret,exitRQ_exit,Int.toNat_natCast,Nat.mul_one,hun,hun',hso1])
        refine W.condK ?_
        try simp (maxSteps:=1000000)(disch:=(first|omega|(simp only [qI,qJ,qK]<;>omega)|exact qL _)) only [go_sem,↓reduceIte,n0,reduceCtorEq,n1,n2,n3,n4,n5,i0,i1,i2,i3,i4,i5,i6,i7,hxb9,hrc0_2,hrc0_7,hrc0_8,hrc0_9,hrc0_10,hrc0_13,hra0,hri0,exitRQ_ret,exitRQ_exit,Int.toNat_natCast,Nat.mul_one,hun,hun',hso1]
        repeat ((first | refine W.seqR rfl ?_ | refine W.seq ?_ | refine W.regR rfl ?_ | refine W.block ?_ | refine W.skip ?_ | refine W.ret ?_ | refine W.exit ?_);try simp (maxSteps:=1000000)(disch:=(first|omega|(simp only [qI,qJ,qK]<;>omega)|exact qL _)) only [go_sem,↓reduceIte,n0,reduceCtorEq,n1,n2,n3,n4,n5,i0,i1,i2,i3,i4,i5,i6,i7,hxb9,hrc0_2,hrc0_7,hrc0_8,hrc0_9,hrc0_10,hrc0_13,hra0,hri0,exitRQ_ret,exitRQ_exit,Int.toNat_natCast,Nat.mul_one,hun,hun',hso1,slBase_00])
        refine W.normJ (RowQ [(2,.bool un),(7,.pointer (some ⟨rb,0,none⟩)),(8,.int .i16 ver),(9,.bool true),(10,.pointer (some ⟨vb,0,none⟩)),(13,.int .i32 y0),(12,.slice (some ⟨R1,0,none⟩) N0 q1),(14,.int .i32 j1),(16,.pointer (some ⟨R1,j1 * 18,none⟩)),(20,.int .i32 y1)] 19 (fun va w' => LstI RT (rd1 (rdP (d + 2) ver true) fX2_1.of fX2_1.sub false true) (Rep1 (RepS true (d + 2)) fX2_1.of fX2_1.sub) 7 276 [.int .i32 0,.int .i16 0,.pointer none,.int .i32 0,.int .i64 0,.slice none 0 0,.map none] w9.heap.size N1 ok (fun b => (ok b ∨ w1.heap.size ≤ b) ∧ ¬ ownB va0 b) rb w9 s4 va 0 s4 [] [] w' ∧ (N1 = 0 → if nilS fX2_1 ver y1 = true then va = .slice none 0 0 else ∃ a,va = .slice (some a) 0 0))) ?_ ?_
        · by_cases hy0 : (0 : Int) < y1
          · have hyv : Value.int .i32 y1 = .int .i32 ((N1 : Nat) : Int) := by rw [show y1 = ((N1 : Nat) : Int) by omega]
            repeat ((first | refine qA rfl ?_|refine qB ?_|refine qC rfl ?_|refine qD ?_|refine qE ?_|refine qF ?_|refine qG ?_|refine qH ?_);try simp (maxSteps:=1000000)(disch:=(first|omega|(simp only [qI,qJ,qK]<;>omega)|exact qL _)) only [go_sem,↓reduceIte,n0,reduceCtorEq,n1,n2,n3,n4,n5,i0,i1,i2,i3,i4,i5,i6,i7,hxb9,hrc0_2,hrc0_7,hrc0_8,hrc0_9,hrc0_10,hrc0_13,hra0,hri0,exitRQ_ret,exitRQ_exit,Int.toNat_natCast,Nat.mul_one,hun,hun'])
            refine wp_appendZ (m := N1) utReadShareGroupStateResponse_191 utReadShareGroupStateResponse_21 inReadShareGroupStateResponse_276 (by decide) (by first | rfl | simp (maxSteps:=1000000)(disch:=(first|omega|(simp only [qI,qJ,qK]<;>omega)|exact qL _)) only [go_sem,↓reduceIte,n0,reduceCtorEq,n1,n2,n3,n4,n5,i0,i1,i2,i3,i4,i5,i6,i7,hrc0_2,hrc0_7,hrc0_8,hrc0_9,hrc0_10,hrc0_13,hra0,hri0]) (by first | exact hyv | (simp (maxSteps:=1000000)(disch:=(first|omega|(simp only [qI,qJ,qK]<;>omega)|exact qL _)) only [go_sem,↓reduceIte,n0,reduceCtorEq,n1,n2,n3,n4,n5,i0,i1,i2,i3,i4,i5,i6,i7,hrc0_2,hrc0_7,hrc0_8,hrc0_9,hrc0_10,hrc0_13,hra0,hri0];exact hyv)) (by omega) (by omega) (by decide) ?_
            intro q rest hq1
            have hEw : Ext w9 (w9.drew.alloc (.cells (zs [.int .i32 0,.int .i16 0,.pointer none,.int .i32 0,.int .i64 0,.slice none 0 0,.map none] N1 ++ rest).toArray 276)) := (Upd.refl _ _).drew.alloc _
            try simp (maxSteps:=1000000)(disch:=(first|omega|(simp only [qI,qJ,qK]<;>omega)|exact qL _)) only [go_sem,↓reduceIte,n0,reduceCtorEq,n1,n2,n3,n4,n5,i0,i1,i2,i3,i4,i5,i6,i7,hxb9,hrc0_2,hrc0_7,hrc0_8,hrc0_9,hrc0_10,hrc0_13,hra0,hri0,exitRQ_ret,exitRQ_exit,Int.toNat_natCast,Nat.mul_one,hun,hun']
            repeat ((first | refine qA rfl ?_|refine qB ?_|refine qC rfl ?_|refine qD ?_|refine qE ?_|refine qF ?_|refine qG ?_|refine qH ?_);try simp (maxSteps:=1000000)(disch:=(first|omega|(simp only [qI,qJ,qK]<;>omega)|exact qL _)) only [go_sem,↓reduceIte,n0,reduceCtorEq,n1,n2,n3,n4,n5,i0,i1,i2,i3,i4,i5,i6,i7,hxb9,hrc0_2,hrc0_7,hrc0_8,hrc0_9,hrc0_10,hrc0_13,hra0,hri0,exitRQ_ret,exitRQ_exit,Int.toNat_natCast,Nat.mul_one,hun,hun'])
            exact ⟨(by simp (maxSteps:=1000000)(disch:=(first|omega|(simp only [qI,qJ,qK]<;>omega)|exact qL _)) only [go_sem,↓reduceIte,n0,reduceCtorEq,n1,n2,n3,n4,n5,i0,i1,i2,i3,i4,i5,i6,i7,Holds_nil,Holds_cons,hrc0_2,hrc0_7,hrc0_8,hrc0_9,hrc0_10,hrc0_13,hra0,hri0]),.slice (some ⟨w9.heap.size,0,none⟩) N1 q,(by simp (maxSteps:=1000000)(disch:=(first|omega|(simp only [qI,qJ,qK]<;>omega)|exact qL _)) only [go_sem,↓reduceIte,n0,reduceCtorEq,n1,n2,n3,n4,n5,i0,i1,i2,i3,i4,i5,i6,i7,hrc0_2,hrc0_7,hrc0_8,hrc0_9,hrc0_10,hrc0_13,hra0,hri0]),LstI.start (RowJ.start (by omega) hq1 (by show w9.heap.size ≤ w9.drew.heap.size;rw [size_drew];omega) (blk_alloc_new rfl)) ⟨hq9.1.upd hEw (fun h => h) (fun _ _ _ h => h),hq9.2.upd hEw fun h => h⟩ (hEw.mono fun _ h => h.elim),fun h0 => by omega⟩
          · repeat ((first | refine qA rfl ?_|refine qB ?_|refine qC rfl ?_|refine qD ?_|refine qE ?_|refine qF ?_|refine qG ?_|refine qH ?_);try simp (maxSteps:=1000000)(disch:=(first|omega|(simp only [qI,qJ,qK]<;>omega)|exact qL _)) only [go_sem,↓reduceIte,n0,reduceCtorEq,n1,n2,n3,n4,n5,i0,i1,i2,i3,i4,i5,i6,i7,hxb9,hrc0_2,hrc0_7,hrc0_8,hrc0_9,hrc0_10,hrc0_13,hra0,hri0,exitRQ_ret,exitRQ_exit,Int.toNat_natCast,Nat.mul_one,hun,hun'])
            exact ⟨(by simp (maxSteps:=1000000)(disch:=(first|omega|(simp only [qI,qJ,qK]<;>omega)|exact qL _)) only [go_sem,↓reduceIte,n0,reduceCtorEq,n1,n2,n3,n4,n5,i0,i1,i2,i3,i4,i5,i6,i7,Holds_nil,Holds_cons,hrc0_2,hrc0_7,hrc0_8,hrc0_9,hrc0_10,hrc0_13,hra0,hri0]),.slice none 0 0,(by simp (maxSteps:=1000000)(disch:=(first|omega|(simp only [qI,qJ,qK]<;>omega)|exact qL _)) only [go_sem,↓reduceIte,n0,reduceCtorEq,n1,n2,n3,n4,n5,i0,i1,i2,i3,i4,i5,i6,i7,hrc0_2,hrc0_7,hrc0_8,hrc0_9,hrc0_10,hrc0_13,hra0,hri0,slBase_00]),LstI.start (RowJ.zero (by omega) (fun _ h => by cases h)) hq9 (Upd.refl _ _),fun _ => by rw [nilS_plain (by decide) (by omega)];exact rfl⟩
        rintro ρ w10 ⟨⟨hrb1_2,hrb1_7,hrb1_8,hrb1_9,hrb1_10,hrb1_13,hrb1_12,hrb1_14,hrb1_16,hrb1_20,-⟩,va1,hra1,hL1,hnc1⟩
        repeat ((first | refine qA rfl ?_|refine qB ?_|refine qC rfl ?_|refine qD ?_|refine qE ?_|refine qF ?_|refine qG ?_|refine qH ?_);try simp (maxSteps:=1000000)(disch:=(first|omega|(simp only [qI,qJ,qK]<;>omega)|exact qL _)) only [go_sem,↓reduceIte,n0,reduceCtorEq,n1,n2,n3,n4,n5,i0,i1,i2,i3,i4,i5,i6,i7,hxb9,hrb1_2,hrb1_7,hrb1_8,hrb1_9,hrb1_10,hrb1_13,hrb1_12,hrb1_14,hrb1_16,hrb1_20,hra1,exitRQ_ret,exitRQ_exit,Int.toNat_natCast,Nat.mul_one,hun,hun'])
        refine W.exitRJ 2 (EndQ [(2,.bool un),(7,.pointer (some ⟨rb,0,none⟩)),(8,.int .i16 ver),(9,.bool true),(10,.pointer (some ⟨vb,0,none⟩)),(13,.int .i32 y0),(12,.slice (some ⟨R1,0,none⟩) N0 q1),(14,.int .i32 j1),(16,.pointer (some ⟨R1,j1 * 18,none⟩)),(20,.int .i32 y1),(19,va1)] (fun w' => ∃ s xs css,LstI RT (rd1 (rdP (d + 2) ver true) fX2_1.of fX2_1.sub false true) (Rep1 (RepS true (d + 2)) fX2_1.of fX2_1.sub) 7 276 [.int .i32 0,.int .i16 0,.pointer none,.int .i32 0,.int .i64 0,.slice none 0 0,.map none] w9.heap.size N1 ok (fun b => (ok b ∨ w1.heap.size ≤ b) ∧ ¬ ownB va0 b) rb w9 s4 va1 N1 s xs css w')) (W.loop (LoopQ [(2,.bool un),(7,.pointer (some ⟨rb,0,none⟩)),(8,.int .i16 ver),(9,.bool true),(10,.pointer (some ⟨vb,0,none⟩)),(13,.int .i32 y0),(12,.slice (some ⟨R1,0,none⟩) N0 q1),(14,.int .i32 j1),(16,.pointer (some ⟨R1,j1 * 18,none⟩)),(20,.int .i32 y1),(19,va1)] 21 (fun j w' => ∃ s xs css,LstI RT (rd1 (rdP (d + 2) ver true) fX2_1.of fX2_1.sub false true) (Rep1 (RepS true (d + 2)) fX2_1.of fX2_1.sub) 7 276 [.int .i32 0,.int .i16 0,.pointer none,.int .i32 0,.int .i64 0,.slice none 0 0,.map none] w9.heap.size N1 ok (fun b => (ok b ∨ w1.heap.size ≤ b) ∧ ¬ ownB va0 b) rb w9 s4 va1 j s xs css w')) (fun ρ _ => N1 - (RowKit.intOf (ρ 21)).toNat) ?_ ?_) ?_
        · exact ⟨(by simp (maxSteps:=1000000)(disch:=(first|omega|(simp only [qI,qJ,qK]<;>omega)|exact qL _)) only [go_sem,↓reduceIte,n0,reduceCtorEq,n1,n2,n3,n4,n5,i0,i1,i2,i3,i4,i5,i6,i7,Holds_nil,Holds_cons,hrb1_2,hrb1_7,hrb1_8,hrb1_9,hrb1_10,hrb1_13,hrb1_12,hrb1_14,hrb1_16,hrb1_20,hra1]),0,(by simp (maxSteps:=1000000)(disch:=(first|omega|(simp only [qI,qJ,qK]<;>omega)|exact qL _)) only [go_sem,↓reduceIte,n0,reduceCtorEq,n1,n2,n3,n4,n5,i0,i1,i2,i3,i4,i5,i6,i7,hrb1_2,hrb1_7,hrb1_8,hrb1_9,hrb1_10,hrb1_13,hrb1_12,hrb1_14,hrb1_16,hrb1_20,hra1];all_goals rfl),s4,[],[],hL1⟩
        · rintro ρ w11 ⟨⟨hrc1_2,hrc1_7,hrc1_8,hrc1_9,hrc1_10,hrc1_13,hrc1_12,hrc1_14,hrc1_16,hrc1_20,hrc1_19,-⟩,j2,hri1,s5,xs1,css1,hL1⟩
          have hj1 := hL1.le
          have hq11 := hL1.rd
          have hU11 : Upd (fun b => b = vb ∨ b = rb) w1 w11 := hU9.trans' hL1.upd fun i _ h => .inr h
          have hz11 := hL1.upd.size
          have hG11 : Glo ev w11 := hG1.updS hU11 hgM1 hgM2
          by_cases hlt1 : j2 < N1
          · obtain ⟨R2,q2,B2,hva2,hNq2,hLR2,hA2,hx2_11,hnext2⟩ := hL1.row.next hlt1
            have hRl2 := blk_lt hx2_11
            generalize css1.flatten = A2 at hA2 hx2_11 hnext2
            replace hra1 : ρ 19 = .slice (some ⟨R2,0,none⟩) N1 q2 := hrc1_19.trans hva2
            have hown2 : ∀ b,ownB va1 b → w9.heap.size ≤ b ∧ b < w11.heap.size := fun b h => hL1.row.own h
            have hoM2 : ∀ b,(fun b => (fun b => (ok b ∨ w1.heap.size ≤ b) ∧ ¬ ownB va0 b) b ∧ ¬ ownB va1 b) b → ¬ (b = R2 ∨ b = rb) := fun b hk h => h.elim (fun e => hk.2 ⟨_,_,_,hva2,e⟩) (fun e => hoM1 b hk.1 (.inr e))
            obtain ⟨X11,hX11⟩ : ∃ X : Array Value,X = (A2 ++ (([.int .i32 0,.int .i16 0,.pointer none,.int .i32 0,.int .i64 0,.slice none 0 0,.map none] : List Value) ++ B2)).toArray := ⟨_,rfl⟩
            have hxb11 : blk w11 R2 = some (X11,276,(0,0)) := by rw [hX11];exact hx2_11
            have hXs11 : j2 * 7 + 7 ≤ X11.size := by rw [hX11];simp only [List.size_toArray,List.length_append,List.length_cons,List.length_nil,hA2];omega
            repeat ((first | refine qA rfl ?_|refine qB ?_|refine qC rfl ?_|refine qD ?_|refine qE ?_|refine qF ?_|refine qG ?_|refine qH ?_);try simp (maxSteps:=1000000)(disch:=(first|omega|(simp only [qI,qJ,qK]<;>omega)|exact qL _)) only [go_sem,↓reduceIte,n0,reduceCtorEq,n1,n2,n3,n4,n5,i0,i1,i2,i3,i4,i5,i6,i7,hxb11,hrc1_2,hrc1_7,hrc1_8,hrc1_9,hrc1_10,hrc1_13,hrc1_12,hrc1_14,hrc1_16,hrc1_20,hra1,hri1,exitRQ_ret,exitRQ_exit,Int.toNat_natCast,Nat.mul_one,hun,hun'])
            refine (DefaultEX1_fn w11 hx2_11 hA2).mono ?_
            rintro _ w12 ⟨hx2_12,hu12⟩
            have hq12 := And.intro (hq11.1.upd hu12 (by omega) (fun b _ hk e => by have := (hok b hk).1;omega)) (hq11.2.upd hu12 (by omega))
            have hV12 : Upd (fun b => b = R2 ∨ b = rb) w11 w12 := hu12.mono (fun _ h => .inl h)
            have hU12 : Upd (fun b => b = vb ∨ b = rb) w1 w12 := hU11.trans' hV12 fun i hi h => h.elim (fun h => by omega) .inr
            have hz12 := hV12.size
            have hG12 : Glo ev w12 := hG1.updS hU12 hgM1 hgM2
            obtain ⟨X12,hX12⟩ : ∃ X : Array Value,X = (A2 ++ (([.int .i32 0,.int .i16 0,.pointer none,.int .i32 0,.int .i64 0,.slice none 0 0,.map none] : List Value) ++ B2)).toArray := ⟨_,rfl⟩
            have hxb12 : blk w12 R2 = some (X12,276,(0,0)) := by rw [hX12];exact hx2_12
            have hXs12 : j2 * 7 + 7 ≤ X12.size := by rw [hX12];simp only [List.size_toArray,List.length_append,List.length_cons,List.length_nil,hA2];omega
            have hbe0e1_0 : (rdL (rdP (d + 1) ver true) (dfP (d + 1)) ver true [fX1_0,fX1_1,fX1_2,fX1_3,fX1_4,fX1_5] s5).2 = none → FB := fun h => hlb1 (hL1.bad hlt1 rd1P_none (by show (rd1 (rdP (d + 2) ver true) 10 fs_X1 false true s5).2 = none;rw [rd1_part];exact rdP_bad h))
            have hhe0e1_0 : hasS fX1_0 ver = true := hasS_t (by show (0 : Int) ≤ ver;omega) (by show (-1 : Int) < 0 ∨ ver ≤ (-1 : Int);omega)
            obtain ⟨xe0e1_0,hxe0e1_0⟩ : ∃ x,x = (rdF (rdP (d + 1) ver true) ver true fX1_0 s5).1 := ⟨_,rfl⟩
            repeat ((first | refine qA rfl ?_|refine qB ?_|refine qC rfl ?_|refine qD ?_|refine qE ?_|refine qF ?_|refine qG ?_|refine qH ?_);try simp (maxSteps:=1000000)(disch:=(first|omega|(simp only [qI,qJ,qK]<;>omega)|exact qL _)) only [go_sem,↓reduceIte,n0,reduceCtorEq,n1,n2,n3,n4,n5,i0,i1,i2,i3,i4,i5,i6,i7,hxb12,hrc1_2,hrc1_7,hrc1_8,hrc1_9,hrc1_10,hrc1_13,hrc1_12,hrc1_14,hrc1_16,hrc1_20,hra1,hri1,exitRQ_ret,exitRQ_exit,Int.toNat_natCast,Nat.mul_one,hun,hun'])
            have hrd : rdF (rdP (d + 1) ver true) ver true fX1_0 s5 = _ := rdF_num 3 rfl (by decide)
            refine (Int32_fn w12 hq12.1 hrok hG12.1 hgrb).mono ?_
            rintro _ w13 ⟨rfl,hq13,hu13⟩
            have hx2_13 := hu13.blk_some hx2_12 (by omega)
            have hV13 : Upd (fun b => b = R2 ∨ b = rb) w12 w13 := hu13.mono (fun _ h => .inr h)
            have hU13 : Upd (fun b => b = vb ∨ b = rb) w1 w13 := hU12.trans' hV13 fun i hi h => h.elim (fun h => by omega) .inr
            have hz13 := hV13.size
            have hG13 : Glo ev w13 := hG1.updS hU13 hgM1 hgM2
            obtain ⟨X13,hX13⟩ : ∃ X : Array Value,X = (A2 ++ (([.int .i32 0,.int .i16 0,.pointer none,.int .i32 0,.int .i64 0,.slice none 0 0,.map none] : List Value) ++ B2)).toArray := ⟨_,rfl⟩
            have hxb13 : blk w13 R2 = some (X13,276,(0,0)) := by rw [hX13];exact hx2_13
            have hXs13 : j2 * 7 + 7 ≤ X13.size := by rw [hX13];simp only [List.size_toArray,List.length_append,List.length_cons,List.length_nil,hA2];omega
            have hst : (rdF (rdP (d + 1) ver true) ver true fX1_0 s5).2 = (rdInt .i32 4 s5).2 := by first | (rw [hrd];rfl) | rw [hrd]
            obtain ⟨s6,hs6⟩ : ∃ s,s = (rdF (rdP (d + 1) ver true) ver true fX1_0 s5).2 := ⟨_,rfl⟩
            rw [← hst,← hs6] at hq13
            clear hst
            have hst13_0 : j2 * 7 + 1 ≤ X13.size := by omega
            have hld13_5 : X13[j2 * 7 + 5]? = some (.slice none 0 0) := by rw [hX13];exact el_cell (R := 0) hA2 (Nat.le_of_ble_eq_true rfl)
            repeat ((first | refine qA rfl ?_|refine qB ?_|refine qC rfl ?_|refine qD ?_|refine qE ?_|refine qF ?_|refine qG ?_|refine qH ?_);try simp (maxSteps:=1000000)(disch:=(first|omega|(simp only [qI,qJ,qK]<;>omega)|exact qL _)) only [go_sem,↓reduceIte,n0,reduceCtorEq,n1,n2,n3,n4,n5,i0,i1,i2,i3,i4,i5,i6,i7,hxb13,hrc1_2,hrc1_7,hrc1_8,hrc1_9,hrc1_10,hrc1_13,hrc1_12,hrc1_14,hrc1_16,hrc1_20,hra1,hri1,exitRQ_ret,exitRQ_exit,Int.toNat_natCast,Nat.mul_one,hun,hun',hst13_0,hld13_5,Array.getElem?_setIfInBounds_ne])
            generalize hw14 : wr w13 R2 (j2 * 7) [.int .i32 (rdInt .i32 4 s5).1] = w14
            have hS14 : Upd (fun b => b = R2 ∨ b = rb) w13 w14 := by rw [← hw14];exact (Upd.refl _ _).wr _ _ (.inr (.inl rfl))
            have hx2_14 : blk w14 R2 = some ((A2 ++ (([.int .i32 (rdInt .i32 4 s5).1,.int .i16 0,.pointer none,.int .i32 0,.int .i64 0,.slice none 0 0,.map none] : List Value) ++ B2)).toArray,276,(0,0)) := by rw [← hw14];exact el_blk0 hx2_13 hA2 (Nat.le_of_ble_eq_true rfl)
            have hV14 := hS14
            have hU14 : Upd (fun b => b = vb ∨ b = rb) w1 w14 := hU13.trans' hV14 fun i hi h => h.elim (fun h => by omega) .inr
            have hz14 := hV14.size
            have hG14 : Glo ev w14 := hG1.updS hU14 hgM1 hgM2
            have hq14 : Rdr RT ok w14 rb s6 ∧ NN w14 rb s6 := by
              have hn : ∀ x,x = w14 → (Rdr RT ok x rb s6 ∧ NN x rb s6) := fun x hx => by
                rw [hx,← hw14]
                exact Rdr.store hq13 (by omega) (fun h => by have := (hok _ h).1;first | omega | exact (hok _ h).2 rfl)
              exact hn _ rfl
            obtain ⟨X14,hX14⟩ : ∃ X : Array Value,X = (A2 ++ (([.int .i32 (rdInt .i32 4 s5).1,.int .i16 0,.pointer none,.int .i32 0,.int .i64 0,.slice none 0 0,.map none] : List Value) ++ B2)).toArray := ⟨_,rfl⟩
            have hxb14 : blk w14 R2 = some (X14,276,(0,0)) := by rw [hX14];exact hx2_14
            have hXs14 : j2 * 7 + 7 ≤ X14.size := by rw [hX14];simp only [List.size_toArray,List.length_append,List.length_cons,List.length_nil,hA2];omega
            clear hw14
            have hfe0e1_0 : RepF (RepS true (d + 1)) (szS true (d + 1)) fX1_0 (fun b => (fun b => (ok b ∨ w1.heap.size ≤ b) ∧ ¬ ownB va0 b) b ∧ ¬ ownB va1 b) w14 (xe0e1_0) [.int .i32 (rdInt .i32 4 s5).1] := (RepF_num (by decide)).2 (by rw [hxe0e1_0,hrd];exact congrArg (fun x => [x]) (numC_rd 3 (by decide) 4 s5).symm)
            clear hrd
            have hbe0e1_1 : (rdL (rdP (d + 1) ver true) (dfP (d + 1)) ver true [fX1_1,fX1_2,fX1_3,fX1_4,fX1_5] s6).2 = none → FB := fun h => hbe0e1_0 (by rw [rdL_st (by decide) hhe0e1_0,← hs6];exact h)
            have hhe0e1_1 : hasS fX1_1 ver = true := hasS_t (by show (0 : Int) ≤ ver;omega) (by show (-1 : Int) < 0 ∨ ver ≤ (-1 : Int);omega)
            obtain ⟨xe0e1_1,hxe0e1_1⟩ : ∃ x,x = (rdF (rdP (d + 1) ver true) ver true fX1_1 s6).1 := ⟨_,rfl⟩
            repeat ((first | refine qA rfl ?_|refine qB ?_|refine qC rfl ?_|refine qD ?_|refine qE ?_|refine qF ?_|refine qG ?_|refine qH ?_);try simp (maxSteps:=1000000)(disch:=(first|omega|(simp only [qI,qJ,qK]<;>omega)|exact qL _)) only [go_sem,↓reduceIte,n0,reduceCtorEq,n1,n2,n3,n4,n5,i0,i1,i2,i3,i4,i5,i6,i7,hxb14,hrc1_2,hrc1_7,hrc1_8,hrc1_9,hrc1_10,hrc1_13,hrc1_12,hrc1_14,hrc1_16,hrc1_20,hra1,hri1,exitRQ_ret,exitRQ_exit,Int.toNat_natCast,Nat.mul_one,hun,hun'])
            have hrd : rdF (rdP (d + 1) ver true) ver true fX1_1 s6 = _ := rdF_num 2 rfl (by decide)
            refine (Int16_fn w14 hq14.1 hrok hG14.1 hgrb).mono ?_
            rintro _ w15 ⟨rfl,hq15,hu15⟩
            have hx2_15 := hu15.blk_some hx2_14 (by omega)
            have hV15 : Upd (fun b => b = R2 ∨ b = rb) w14 w15 := hu15.mono (fun _ h => .inr h)
            have hU15 : Upd (fun b => b = vb ∨ b = rb) w1 w15 := hU14.trans' hV15 fun i hi h => h.elim (fun h => by omega) .inr
            have hz15 := hV15.size
            have hG15 : Glo ev w15 := hG1.updS hU15 hgM1 hgM2
            obtain ⟨X15,hX15⟩ : ∃ X : Array Value,X = (A2 ++ (([.int .i32 (rdInt .i32 4 s5).1,.int .i16 0,.pointer none,.int .i32 0,.int .i64 0,.slice none 0 0,.map none] : List Value) ++ B2)).toArray := ⟨_,rfl⟩
            have hxb15 : blk w15 R2 = some (X15,276,(0,0)) := by rw [hX15];exact hx2_15
            have hXs15 : j2 * 7 + 7 ≤ X15.size := by rw [hX15];simp only [List.size_toArray,List.length_append,List.length_cons,List.length_nil,hA2];omega
            have hst : (rdF (rdP (d + 1) ver true) ver true fX1_1 s6).2 = (rdInt .i16 2 s6).2 := by first | (rw [hrd];rfl) | rw [hrd]
            obtain ⟨s7,hs7⟩ : ∃ s,s = (rdF (rdP (d + 1) ver true) ver true fX1_1 s6).2 := ⟨_,rfl⟩
            rw [← hst,← hs7] at hq15
            clear hst
            have hst15_1 : j2 * 7 + 2 ≤ X15.size := by omega
            have hld15_5 : X15[j2 * 7 + 5]? = some (.slice none 0 0) := by rw [hX15];exact el_cell (R := 0) hA2 (Nat.le_of_ble_eq_true rfl)
            repeat ((first | refine qA rfl ?_|refine qB ?_|refine qC rfl ?_|refine qD ?_|refine qE ?_|refine qF ?_|refine qG ?_|refine qH ?_);try simp (maxSteps:=1000000)(disch:=(first|omega|(simp only [qI,qJ,qK]<;>omega)|exact qL _)) only [go_sem,↓reduceIte,n0,reduceCtorEq,n1,n2,n3,n4,n5,i0,i1,i2,i3,i4,i5,i6,i7,hxb15,hrc1_2,hrc1_7,hrc1_8,hrc1_9,hrc1_10,hrc1_13,hrc1_12,hrc1_14,hrc1_16,hrc1_20,hra1,hri1,exitRQ_ret,exitRQ_exit,Int.toNat_natCast,Nat.mul_one,hun,hun',hst15_1,hld15_5,Array.getElem?_setIfInBounds_ne])
            generalize hw16 : wr w15 R2 (j2 * 7 + 1) [.int .i16 (rdInt .i16 2 s6).1] = w16
            have hS16 : Upd (fun b => b = R2 ∨ b = rb) w15 w16 := by rw [← hw16];exact (Upd.refl _ _).wr _ _ (.inr (.inl rfl))
            have hx2_16 : blk w16 R2 = some ((A2 ++ (([.int .i32 (rdInt .i32 4 s5).1,.int .i16 (rdInt .i16 2 s6).1,.pointer none,.int .i32 0,.int .i64 0,.slice none 0 0,.map none] : List Value) ++ B2)).toArray,276,(0,0)) := by rw [← hw16];exact el_blk (o := 1) hx2_15 hA2 (Nat.le_of_ble_eq_true rfl)
            have hV16 := hS16
            have hU16 : Upd (fun b => b = vb ∨ b = rb) w1 w16 := hU15.trans' hV16 fun i hi h => h.elim (fun h => by omega) .inr
            have hz16 := hV16.size
            have hG16 : Glo ev w16 := hG1.updS hU16 hgM1 hgM2
            have hq16 : Rdr RT ok w16 rb s7 ∧ NN w16 rb s7 := by
              have hn : ∀ x,x = w16 → (Rdr RT ok x rb s7 ∧ NN x rb s7) := fun x hx => by
                rw [hx,← hw16]
                exact Rdr.store hq15 (by omega) (fun h => by have := (hok _ h).1;first | omega | exact (hok _ h).2 rfl)
              exact hn _ rfl
            obtain ⟨X16,hX16⟩ : ∃ X : Array Value,X = (A2 ++ (([.int .i32 (rdInt .i32 4 s5).1,.int .i16 (rdInt .i16 2 s6).1,.pointer none,.int .i32 0,.int .i64 0,.slice none 0 0,.map none] : List Value) ++ B2)).toArray := ⟨_,rfl⟩
            have hxb16 : blk w16 R2 = some (X16,276,(0,0)) := by rw [hX16];exact hx2_16
            have hXs16 : j2 * 7 + 7 ≤ X16.size := by rw [hX16];simp only [List.size_toArray,List.length_append,List.length_cons,List.length_nil,hA2];omega
            clear hw16
            have hfe0e1_1 : RepF (RepS true (d + 1)) (szS true (d + 1)) fX1_1 (fun b => (fun b => (ok b ∨ w1.heap.size ≤ b) ∧ ¬ ownB va0 b) b ∧ ¬ ownB va1 b) w16 (xe0e1_1) [.int .i16 (rdInt .i16 2 s6).1] := (RepF_num (by decide)).2 (by rw [hxe0e1_1,hrd];exact congrArg (fun x => [x]) (numC_rd 2 (by decide) 2 s6).symm)
            clear hrd
            have hbe0e1_2 : (rdL (rdP (d + 1) ver true) (dfP (d + 1)) ver true [fX1_2,fX1_3,fX1_4,fX1_5] s7).2 = none → FB := fun h => hbe0e1_1 (by rw [rdL_st (by decide) hhe0e1_1,← hs7];exact h)
            have hhe0e1_2 : hasS fX1_2 ver = true := hasS_t (by show (0 : Int) ≤ ver;omega) (by show (-1 : Int) < 0 ∨ ver ≤ (-1 : Int);omega)
            obtain ⟨xe0e1_2,hxe0e1_2⟩ : ∃ x,x = (rdF (rdP (d + 1) ver true) ver true fX1_2 s7).1 := ⟨_,rfl⟩
            repeat ((first | refine qA rfl ?_|refine qB ?_|refine qC rfl ?_|refine qD ?_|refine qE ?_|refine qF ?_|refine qG ?_|refine qH ?_);try simp (maxSteps:=1000000)(disch:=(first|omega|(simp only [qI,qJ,qK]<;>omega)|exact qL _)) only [go_sem,↓reduceIte,n0,reduceCtorEq,n1,n2,n3,n4,n5,i0,i1,i2,i3,i4,i5,i6,i7,hxb16,hrc1_2,hrc1_7,hrc1_8,hrc1_9,hrc1_10,hrc1_13,hrc1_12,hrc1_14,hrc1_16,hrc1_20,hra1,hri1,exitRQ_ret,exitRQ_exit,Int.toNat_natCast,Nat.mul_one,hun,hun'])
            have hmay : mayS fX1_2 ver = true := mayS_yes (by decide) (by show (0 : Int) ≤ ver;omega)
            have hrd : rdF (rdP (d + 1) ver true) ver true fX1_2 s7 = _ := rdF_ptr rfl hmay
            first | refine (RUnsafeCompactNullableString_fn w16 hq16.1 hrok hG16.1 hgrb).mono ?_ | refine (RCompactNullableString_fn w16 hq16.1 hrok hG16.1 hgrb).mono ?_
            rintro r17 w17 ⟨hp17,hq17,hu17⟩
            obtain ⟨ap17,rfl⟩ := hp17.shape
            have hx2_17 := hu17.blk_some hx2_16 (by omega)
            have hV17 : Upd (fun b => b = R2 ∨ b = rb) w16 w17 := hu17.mono (fun _ h => .inr h)
            have hU17 : Upd (fun b => b = vb ∨ b = rb) w1 w17 := hU16.trans' hV17 fun i hi h => h.elim (fun h => by omega) .inr
            have hz17 := hV17.size
            have hG17 : Glo ev w17 := hG1.updS hU17 hgM1 hgM2
            obtain ⟨X17,hX17⟩ : ∃ X : Array Value,X = (A2 ++ (([.int .i32 (rdInt .i32 4 s5).1,.int .i16 (rdInt .i16 2 s6).1,.pointer none,.int .i32 0,.int .i64 0,.slice none 0 0,.map none] : List Value) ++ B2)).toArray := ⟨_,rfl⟩
            have hxb17 : blk w17 R2 = some (X17,276,(0,0)) := by rw [hX17];exact hx2_17
            have hXs17 : j2 * 7 + 7 ≤ X17.size := by rw [hX17];simp only [List.size_toArray,List.length_append,List.length_cons,List.length_nil,hA2];omega
            have hst : (rdF (rdP (d + 1) ver true) ver true fX1_2 s7).2 = (rdNStr true s7).2 := by first | (rw [hrd];rfl) | rw [hrd]
            obtain ⟨s8,hs8⟩ : ∃ s,s = (rdF (rdP (d + 1) ver true) ver true fX1_2 s7).2 := ⟨_,rfl⟩
            rw [← hst,← hs8] at hq17
            clear hst
            have hst17_2 : j2 * 7 + 3 ≤ X17.size := by omega
            have hld17_5 : X17[j2 * 7 + 5]? = some (.slice none 0 0) := by rw [hX17];exact el_cell (R := 0) hA2 (Nat.le_of_ble_eq_true rfl)
            repeat ((first | refine qA rfl ?_|refine qB ?_|refine qC rfl ?_|refine qD ?_|refine qE ?_|refine qF ?_|refine qG ?_|refine qH ?_);try simp (maxSteps:=1000000)(disch:=(first|omega|(simp only [qI,qJ,qK]<;>omega)|exact qL _)) only [go_sem,↓reduceIte,n0,reduceCtorEq,n1,n2,n3,n4,n5,i0,i1,i2,i3,i4,i5,i6,i7,hxb17,hrc1_2,hrc1_7,hrc1_8,hrc1_9,hrc1_10,hrc1_13,hrc1_12,hrc1_14,hrc1_16,hrc1_20,hra1,hri1,exitRQ_ret,exitRQ_exit,Int.toNat_natCast,Nat.mul_one,hun,hun',hst17_2,hld17_5,Array.getElem?_setIfInBounds_ne])
            generalize hw18 : wr w17 R2 (j2 * 7 + 2) [.pointer ap17] = w18
            have hS18 : Upd (fun b => b = R2 ∨ b = rb) w17 w18 := by rw [← hw18];exact (Upd.refl _ _).wr _ _ (.inr (.inl rfl))
            have hx2_18 : blk w18 R2 = some ((A2 ++ (([.int .i32 (rdInt .i32 4 s5).1,.int .i16 (rdInt .i16 2 s6).1,.pointer ap17,.int .i32 0,.int .i64 0,.slice none 0 0,.map none] : List Value) ++ B2)).toArray,276,(0,0)) := by rw [← hw18];exact el_blk (o := 2) hx2_17 hA2 (Nat.le_of_ble_eq_true rfl)
            have hV18 := hS18
            have hU18 : Upd (fun b => b = vb ∨ b = rb) w1 w18 := hU17.trans' hV18 fun i hi h => h.elim (fun h => by omega) .inr
            have hz18 := hV18.size
            have hG18 : Glo ev w18 := hG1.updS hU18 hgM1 hgM2
            have hq18 : Rdr RT ok w18 rb s8 ∧ NN w18 rb s8 := by
              have hn : ∀ x,x = w18 → (Rdr RT ok x rb s8 ∧ NN x rb s8) := fun x hx => by
                rw [hx,← hw18]
                exact Rdr.store hq17 (by omega) (fun h => by have := (hok _ h).1;first | omega | exact (hok _ h).2 rfl)
              exact hn _ rfl
            obtain ⟨X18,hX18⟩ : ∃ X : Array Value,X = (A2 ++ (([.int .i32 (rdInt .i32 4 s5).1,.int .i16 (rdInt .i16 2 s6).1,.pointer ap17,.int .i32 0,.int .i64 0,.slice none 0 0,.map none] : List Value) ++ B2)).toArray := ⟨_,rfl⟩
            have hxb18 : blk w18 R2 = some (X18,276,(0,0)) := by rw [hX18];exact hx2_18
            have hXs18 : j2 * 7 + 7 ≤ X18.size := by rw [hX18];simp only [List.size_toArray,List.length_append,List.length_cons,List.length_nil,hA2];omega
            clear hw18
            have hfe0e1_2 : RepF (RepS true (d + 1)) (szS true (d + 1)) fX1_2 (fun b => (fun b => (ok b ∨ w1.heap.size ≤ b) ∧ ¬ ownB va0 b) b ∧ ¬ ownB va1 b) w18 (xe0e1_2) [.pointer ap17] := (RepF_ptr rfl (by decide)).2 ⟨_,rfl,by rw [hxe0e1_2,hrd];exact (hp17.weaken fun b _ hk => by have hk' : w16.heap.size ≤ b := hk;exact ⟨⟨.inr (by omega),fun ho => by have := (hown1 _ ho).2;omega⟩,fun ho => by have := (hown2 _ ho).2;omega⟩).keep (hV18.keeps fun b _ hk e => hoM2 b hk e)⟩
            clear hrd
            have hbe0e1_3 : (rdL (rdP (d + 1) ver true) (dfP (d + 1)) ver true [fX1_3,fX1_4,fX1_5] s8).2 = none → FB := fun h => hbe0e1_2 (by rw [rdL_st (by decide) hhe0e1_2,← hs8];exact h)
            have hhe0e1_3 : hasS fX1_3 ver = true := hasS_t (by show (0 : Int) ≤ ver;omega) (by show (-1 : Int) < 0 ∨ ver ≤ (-1 : Int);omega)
            obtain ⟨xe0e1_3,hxe0e1_3⟩ : ∃ x,x = (rdF (rdP (d + 1) ver true) ver true fX1_3 s8).1 := ⟨_,rfl⟩
            repeat ((first | refine qA rfl ?_|refine qB ?_|refine qC rfl ?_|refine qD ?_|refine qE ?_|refine qF ?_|refine qG ?_|refine qH ?_);try simp (maxSteps:=1000000)(disch:=(first|omega|(simp only [qI,qJ,qK]<;>omega)|exact qL _)) only [go_sem,↓reduceIte,n0,reduceCtorEq,n1,n2,n3,n4,n5,i0,i1,i2,i3,i4,i5,i6,i7,hxb18,hrc1_2,hrc1_7,hrc1_8,hrc1_9,hrc1_10,hrc1_13,hrc1_12,hrc1_14,hrc1_16,hrc1_20,hra1,hri1,exitRQ_ret,exitRQ_exit,Int.toNat_natCast,Nat.mul_one,hun,hun'])
            have hrd : rdF (rdP (d + 1) ver true) ver true fX1_3 s8 = _ := rdF_num 3 rfl (by decide)
            refine (Int32_fn w18 hq18.1 hrok hG18.1 hgrb).mono ?_
            rintro _ w19 ⟨rfl,hq19,hu19⟩
            have hx2_19 := hu19.blk_some hx2_18 (by omega)
            have hV19 : Upd (fun b => b = R2 ∨ b = rb) w18 w19 := hu19.mono (fun _ h => .inr h)
            have hU19 : Upd (fun b => b = vb ∨ b = rb) w1 w19 := hU18.trans' hV19 fun i hi h => h.elim (fun h => by omega) .inr
            have hz19 := hV19.size
            have hG19 : Glo ev w19 := hG1.updS hU19 hgM1 hgM2
            obtain ⟨X19,hX19⟩ : ∃ X : Array Value,X = (A2 ++ (([.int .i32 (rdInt .i32 4 s5).1,.int .i16 (rdInt .i16 2 s6).1,.pointer ap17,.int .i32 0,.int .i64 0,.slice none 0 0,.map none] : List Value) ++ B2)).toArray := ⟨_,rfl⟩
            have hxb19 : blk w19 R2 = some (X19,276,(0,0)) := by rw [hX19];exact hx2_19
            have hXs19 : j2 * 7 + 7 ≤ X19.size := by rw [hX19];simp only [List.size_toArray,List.length_append,List.length_cons,List.length_nil,hA2];omega
            have hst : (rdF (rdP (d + 1) ver true) ver true fX1_3 s8).2 = (rdInt .i32 4 s8).2 := by first | (rw [hrd];rfl) | rw [hrd]
            obtain ⟨s9,hs9⟩ : ∃ s,s = (rdF (rdP (d + 1) ver true) ver true fX1_3 s8).2 := ⟨_,rfl⟩
            rw [← hst,← hs9] at hq19
            clear hst
            have hst19_3 : j2 * 7 + 4 ≤ X19.size := by omega
            have hld19_5 : X19[j2 * 7 + 5]? = some (.slice none 0 0) := by rw [hX19];exact el_cell (R := 0) hA2 (Nat.le_of_ble_eq_true rfl)
            repeat ((first | refine qA rfl ?_|refine qB ?_|refine qC rfl ?_|refine qD ?_|refine qE ?_|refine qF ?_|refine qG ?_|refine qH ?_);try simp (maxSteps:=1000000)(disch:=(first|omega|(simp only [qI,qJ,qK]<;>omega)|exact qL _)) only [go_sem,↓reduceIte,n0,reduceCtorEq,n1,n2,n3,n4,n5,i0,i1,i2,i3,i4,i5,i6,i7,hxb19,hrc1_2,hrc1_7,hrc1_8,hrc1_9,hrc1_10,hrc1_13,hrc1_12,hrc1_14,hrc1_16,hrc1_20,hra1,hri1,exitRQ_ret,exitRQ_exit,Int.toNat_natCast,Nat.mul_one,hun,hun',hst19_3,hld19_5,Array.getElem?_setIfInBounds_ne])
            generalize hw20 : wr w19 R2 (j2 * 7 + 3) [.int .i32 (rdInt .i32 4 s8).1] = w20
            have hS20 : Upd (fun b => b = R2 ∨ b = rb) w19 w20 := by rw [← hw20];exact (Upd.refl _ _).wr _ _ (.inr (.inl rfl))
            have hx2_20 : blk w20 R2 = some ((A2 ++ (([.int .i32 (rdInt .i32 4 s5).1,.int .i16 (rdInt .i16 2 s6).1,.pointer ap17,.int .i32 (rdInt .i32 4 s8).1,.int .i64 0,.slice none 0 0,.map none] : List Value) ++ B2)).toArray,276,(0,0)) := by rw [← hw20];exact el_blk (o := 3) hx2_19 hA2 (Nat.le_of_ble_eq_true rfl)
            have hV20 := hS20
            have hU20 : Upd (fun b => b = vb ∨ b = rb) w1 w20 := hU19.trans' hV20 fun i hi h => h.elim (fun h => by omega) .inr
            have hz20 := hV20.size
            have hG20 : Glo ev w20 := hG1.updS hU20 hgM1 hgM2
            have hq20 : Rdr RT ok w20 rb s9 ∧ NN w20 rb s9 := by
              have hn : ∀ x,x = w20 → (Rdr RT ok x rb s9 ∧ NN x rb s9) := fun x hx => by
                rw [hx,← hw20]
                exact Rdr.store hq19 (by omega) (fun h => by have := (hok _ h).1;first | omega | exact (hok _ h).2 rfl)
              exact hn _ rfl
            obtain ⟨X20,hX20⟩ : ∃ X : Array Value,X = (A2 ++ (([.int .i32 (rdInt .i32 4 s5).1,.int .i16 (rdInt .i16 2 s6).1,.pointer ap17,.int .i32 (rdInt .i32 4 s8).1,.int .i64 0,.slice none 0 0,.map none] : List Value) ++ B2)).toArray := ⟨_,rfl⟩
            have hxb20 : blk w20 R2 = some (X20,276,(0,0)) := by rw [hX20];exact hx2_20
            have hXs20 : j2 * 7 + 7 ≤ X20.size := by rw [hX20];simp only [List.size_toArray,List.length_append,List.length_cons,List.length_nil,hA2];omega
            clear hw20
            have hfe0e1_3 : RepF (RepS true (d + 1)) (szS true (d + 1)) fX1_3 (fun b => (fun b => (ok b ∨ w1.heap.size ≤ b) ∧ ¬ ownB va0 b) b ∧ ¬ ownB va1 b) w20 (xe0e1_3) [.int .i32 (rdInt .i32 4 s8).1] := (RepF_num (by decide)).2 (by rw [hxe0e1_3,hrd];exact congrArg (fun x => [x]) (numC_rd 3 (by decide) 4 s8).symm)
            clear hrd
            have hbe0e1_4 : (rdL (rdP (d + 1) ver true) (dfP (d + 1)) ver true [fX1_4,fX1_5] s9).2 = none → FB := fun h => hbe0e1_3 (by rw [rdL_st (by decide) hhe0e1_3,← hs9];exact h)
            have hhe0e1_4 : hasS fX1_4 ver = true := hasS_t (by show (0 : Int) ≤ ver;omega) (by show (-1 : Int) < 0 ∨ ver ≤ (-1 : Int);omega)
            obtain ⟨xe0e1_4,hxe0e1_4⟩ : ∃ x,x = (rdF (rdP (d + 1) ver true) ver true fX1_4 s9).1 := ⟨_,rfl⟩
            repeat ((first | refine qA rfl ?_|refine qB ?_|refine qC rfl ?_|refine qD ?_|refine qE ?_|refine qF ?_|refine qG ?_|refine qH ?_);try simp (maxSteps:=1000000)(disch:=(first|omega|(simp only [qI,qJ,qK]<;>omega)|exact qL _)) only [go_sem,↓reduceIte,n0,reduceCtorEq,n1,n2,n3,n4,n5,i0,i1,i2,i3,i4,i5,i6,i7,hxb20,hrc1_2,hrc1_7,hrc1_8,hrc1_9,hrc1_10,hrc1_13,hrc1_12,hrc1_14,hrc1_16,hrc1_20,hra1,hri1,exitRQ_ret,exitRQ_exit,Int.toNat_natCast,Nat.mul_one,hun,hun'])
            have hrd : rdF (rdP (d + 1) ver true) ver true fX1_4 s9 = _ := rdF_num 4 rfl (by decide)
            refine (Int64_fn w20 hq20.1 hrok hG20.1 hgrb).mono ?_
            rintro _ w21 ⟨rfl,hq21,hu21⟩
            have hx2_21 := hu21.blk_some hx2_20 (by omega)
            have hV21 : Upd (fun b => b = R2 ∨ b = rb) w20 w21 := hu21.mono (fun _ h => .inr h)
            have hU21 : Upd (fun b => b = vb ∨ b = rb) w1 w21 := hU20.trans' hV21 fun i hi h => h.elim (fun h => by omega) .inr
            have hz21 := hV21.size
            have hG21 : Glo ev w21 := hG1.updS hU21 hgM1 hgM2
            obtain ⟨X21,hX21⟩ : ∃ X : Array Value,X = (A2 ++ (([.int .i32 (rdInt .i32 4 s5).1,.int .i16 (rdInt .i16 2 s6).1,.pointer ap17,.int .i32 (rdInt .i32 4 s8).1,.int .i64 0,.slice none 0 0,.map none] : List Value) ++ B2)).toArray := ⟨_,rfl⟩
            have hxb21 : blk w21 R2 = some (X21,276,(0,0)) := by rw [hX21];exact hx2_21
            have hXs21 : j2 * 7 + 7 ≤ X21.size := by rw [hX21];simp only [List.size_toArray,List.length_append,List.length_cons,List.length_nil,hA2];omega
            have hst : (rdF (rdP (d + 1) ver true) ver true fX1_4 s9).2 = (rdInt .i64 8 s9).2 := by first | (rw [hrd];rfl) | rw [hrd]
            obtain ⟨s10,hs10⟩ : ∃ s,s = (rdF (rdP (d + 1) ver true) ver true fX1_4 s9).2 := ⟨_,rfl⟩
            rw [← hst,← hs10] at hq21
            clear hst
            have hst21_4 : j2 * 7 + 5 ≤ X21.size := by omega
            have hld21_5 : X21[j2 * 7 + 5]? = some (.slice none 0 0) := by rw [hX21];exact el_cell (R := 0) hA2 (Nat.le_of_ble_eq_true rfl)
            repeat ((first | refine qA rfl ?_|refine qB ?_|refine qC rfl ?_|refine qD ?_|refine qE ?_|refine qF ?_|refine qG ?_|refine qH ?_);try simp (maxSteps:=1000000)(disch:=(first|omega|(simp only [qI,qJ,qK]<;>omega)|exact qL _)) only [go_sem,↓reduceIte,n0,reduceCtorEq,n1,n2,n3,n4,n5,i0,i1,i2,i3,i4,i5,i6,i7,hxb21,hrc1_2,hrc1_7,hrc1_8,hrc1_9,hrc1_10,hrc1_13,hrc1_12,hrc1_14,hrc1_16,hrc1_20,hra1,hri1,exitRQ_ret,exitRQ_exit,Int.toNat_natCast,Nat.mul_one,hun,hun',hst21_4,hld21_5,Array.getElem?_setIfInBounds_ne])
            generalize hw22 : wr w21 R2 (j2 * 7 + 4) [.int .i64 (rdInt .i64 8 s9).1] = w22
            have hS22 : Upd (fun b => b = R2 ∨ b = rb) w21 w22 := by rw [← hw22];exact (Upd.refl _ _).wr _ _ (.inr (.inl rfl))
            have hx2_22 : blk w22 R2 = some ((A2 ++ (([.int .i32 (rdInt .i32 4 s5).1,.int .i16 (rdInt .i16 2 s6).1,.pointer ap17,.int .i32 (rdInt .i32 4 s8).1,.int .i64 (rdInt .i64 8 s9).1,.slice none 0 0,.map none] : List Value) ++ B2)).toArray,276,(0,0)) := by rw [← hw22];exact el_blk (o := 4) hx2_21 hA2 (Nat.le_of_ble_eq_true rfl)
            have hV22 := hS22
            have hU22 : Upd (fun b => b = vb ∨ b = rb) w1 w22 := hU21.trans' hV22 fun i hi h => h.elim (fun h => by omega) .inr
            have hz22 := hV22.size
            have hG22 : Glo ev w22 := hG1.updS hU22 hgM1 hgM2
            have hq22 : Rdr RT ok w22 rb s10 ∧ NN w22 rb s10 := by
              have hn : ∀ x,x = w22 → (Rdr RT ok x rb s10 ∧ NN x rb s10) := fun x hx => by
                rw [hx,← hw22]
                exact Rdr.store hq21 (by omega) (fun h => by have := (hok _ h).1;first | omega | exact (hok _ h).2 rfl)
              exact hn _ rfl
            obtain ⟨X22,hX22⟩ : ∃ X : Array Value,X = (A2 ++ (([.int .i32 (rdInt .i32 4 s5).1,.int .i16 (rdInt .i16 2 s6).1,.pointer ap17,.int .i32 (rdInt .i32 4 s8).1,.int .i64 (rdInt .i64 8 s9).1,.slice none 0 0,.map none] : List Value) ++ B2)).toArray := ⟨_,rfl⟩
            have hxb22 : blk w22 R2 = some (X22,276,(0,0)) := by rw [hX22];exact hx2_22
            have hXs22 : j2 * 7 + 7 ≤ X22.size := by rw [hX22];simp only [List.size_toArray,List.length_append,List.length_cons,List.length_nil,hA2];omega
            clear hw22
            have hfe0e1_4 : RepF (RepS true (d + 1)) (szS true (d + 1)) fX1_4 (fun b => (fun b => (ok b ∨ w1.heap.size ≤ b) ∧ ¬ ownB va0 b) b ∧ ¬ ownB va1 b) w22 (xe0e1_4) [.int .i64 (rdInt .i64 8 s9).1] := (RepF_num (by decide)).2 (by rw [hxe0e1_4,hrd];exact congrArg (fun x => [x]) (numC_rd 4 (by decide) 8 s9).symm)
            clear hrd
            have hbe0e1_5 : (rdL (rdP (d + 1) ver true) (dfP (d + 1)) ver true [fX1_5] s10).2 = none → FB := fun h => hbe0e1_4 (by rw [rdL_st (by decide) hhe0e1_4,← hs10];exact h)
            have hhe0e1_5 : hasS fX1_5 ver = true := hasS_t (by show (0 : Int) ≤ ver;omega) (by show (-1 : Int) < 0 ∨ ver ≤ (-1 : Int);omega)
            obtain ⟨xe0e1_5,hxe0e1_5⟩ : ∃ x,x = (rdF (rdP (d + 1) ver true) ver true fX1_5 s10).1 := ⟨_,rfl⟩
            have hld22_5 : X22[j2 * 7 + 5]? = some (.slice none 0 0) := by rw [hX22];exact el_cell (R := 0) hA2 (Nat.le_of_ble_eq_true rfl)
            repeat ((first | refine qA rfl ?_|refine qB ?_|refine qC rfl ?_|refine qD ?_|refine qE ?_|refine qF ?_|refine qG ?_|refine qH ?_);try simp (maxSteps:=1000000)(disch:=(first|omega|(simp only [qI,qJ,qK]<;>omega)|exact qL _)) only [go_sem,↓reduceIte,n0,reduceCtorEq,n1,n2,n3,n4,n5,i0,i1,i2,i3,i4,i5,i6,i7,hxb22,hrc1_2,hrc1_7,hrc1_8,hrc1_9,hrc1_10,hrc1_13,hrc1_12,hrc1_14,hrc1_16,hrc1_20,hra1,hri1,exitRQ_ret,exitRQ_exit,Int.toNat_natCast,Nat.mul_one,hun,hun',hld22_5])
            refine (RCompactArrayLen_fn w22 hq22.1 hrok hG22.1 hgrb).mono ?_
            rintro _ w23 ⟨rfl,hq23,hu23⟩
            have hx2_23 := hu23.blk_some hx2_22 (by omega)
            have hV23 : Upd (fun b => b = R2 ∨ b = rb) w22 w23 := hu23.mono (fun _ h => .inr h)
            have hU23 : Upd (fun b => b = vb ∨ b = rb) w1 w23 := hU22.trans' hV23 fun i hi h => h.elim (fun h => by omega) .inr
            have hz23 := hV23.size
            have hG23 : Glo ev w23 := hG1.updS hU23 hgM1 hgM2
            obtain ⟨X23,hX23⟩ : ∃ X : Array Value,X = (A2 ++ (([.int .i32 (rdInt .i32 4 s5).1,.int .i16 (rdInt .i16 2 s6).1,.pointer ap17,.int .i32 (rdInt .i32 4 s8).1,.int .i64 (rdInt .i64 8 s9).1,.slice none 0 0,.map none] : List Value) ++ B2)).toArray := ⟨_,rfl⟩
            have hxb23 : blk w23 R2 = some (X23,276,(0,0)) := by rw [hX23];exact hx2_23
            have hXs23 : j2 * 7 + 7 ≤ X23.size := by rw [hX23];simp only [List.size_toArray,List.length_append,List.length_cons,List.length_nil,hA2];omega
            obtain ⟨s11,hs11⟩ : ∃ s,s = (rdALen true s10).2 := ⟨_,rfl⟩
            rw [← hs11] at hq23
            have hyr2 := rdALen_rng true s10
            generalize hy2 : (rdALen true s10).1 = y2 at *
            obtain ⟨N2,hN2⟩ : ∃ N,N = y2.toNat := ⟨_,rfl⟩
            have hlb2 : (rdMany (rd1 (rdP (d + 1) ver true) fX1_5.of fX1_5.sub false true) N2 s11).2 = none → FB := fun h => hbe0e1_5 (by rw [rdL_st (by decide) hhe0e1_5];exact rdL_bad (rdF_listbad rfl (by rw [hy2,← hN2,← hs11];exact h)))
            repeat ((first | refine W.seqR rfl ?_ | refine W.seq ?_ | refine W.regR rfl ?_ | refine W.block ?_ | refine W.skip ?_ | refine W.ret ?_ | refine W.exit ?_);try simp (maxSteps:=1000000)(disch:=(first|omega|(simp only [qI,qJ,qK]<;>omega)|exact qL _)) only [go_sem,↓reduceIte,n0,reduceCtorEq,n1,n2,n3,n4,n5,i0,i1,i2,i3,i4,i5,i6,i7,hxb23,hrc1_2,hrc1_7,hrc1_8,hrc1_9,hrc1_10,hrc1_13,hrc1_12,hrc1_14,hrc1_16,hrc1_20,hra1,hri1,exitRQ_ret,exitRQ_exit,Int.toNat_natCast,Nat.mul_one,hun,hun'])
            refine (ROk_fn w23 hq23.1).mono ?_
            rintro _ wz ⟨rfl,hez⟩
            rw [hez]
            clear hez wz
            by_cases hsn2 : s11 = none
            · have hso : s11.isSome = false := by rw [hsn2];rfl
              try simp (maxSteps:=1000000)(disch:=(first|omega|(simp only [qI,qJ,qK]<;>omega)|exact qL _)) only [go_sem,↓reduceIte,n0,reduceCtorEq,n1,n2,n3,n4,n5,i0,i1,i2,i3,i4,i5,i6,i7,hxb23,hrc1_2,hrc1_7,hrc1_8,hrc1_9,hrc1_10,hrc1_13,hrc1_12,hrc1_14,hrc1_16,hrc1_20,hra1,hri1,exitRQ_ret,exitRQ_exit,Int.toNat_natCast,Nat.mul_one,hun,hun',hso]
              repeat ((first | refine qA rfl ?_|refine qB ?_|refine qC rfl ?_|refine qD ?_|refine qE ?_|refine qF ?_|refine qG ?_|refine qH ?_);try simp (maxSteps:=1000000)(disch:=(first|omega|(simp only [qI,qJ,qK]<;>omega)|exact qL _)) only [go_sem,↓reduceIte,n0,reduceCtorEq,n1,n2,n3,n4,n5,i0,i1,i2,i3,i4,i5,i6,i7,hxb23,hrc1_2,hrc1_7,hrc1_8,hrc1_9,hrc1_10,hrc1_13,hrc1_12,hrc1_14,hrc1_16,hrc1_20,hra1,hri1,exitRQ_ret,exitRQ_exit,Int.toNat_natCast,Nat.mul_one,hun,hun',hso])
              refine (RComplete_fn w23 hq23.1 hG23.2).mono ?_
              rintro _ wz ⟨rfl,hez⟩
              rw [hez]
              try simp (maxSteps:=1000000)(disch:=(first|omega|(simp only [qI,qJ,qK]<;>omega)|exact qL _)) only [go_sem,↓reduceIte,n0,reduceCtorEq,n1,n2,n3,n4,n5,i0,i1,i2,i3,i4,i5,i6,i7,hxb23,hrc1_2,hrc1_7,hrc1_8,hrc1_9,hrc1_10,hrc1_13,hrc1_12,hrc1_14,hrc1_16,hrc1_20,hra1,hri1,exitRQ_ret,exitRQ_exit,Int.toNat_natCast,Nat.mul_one,hun,hun']
              repeat ((first | refine qA rfl ?_|refine qB ?_|refine qC rfl ?_|refine qD ?_|refine qE ?_|refine qF ?_|refine qG ?_|refine qH ?_);try simp (maxSteps:=1000000)(disch:=(first|omega|(simp only [qI,qJ,qK]<;>omega)|exact qL _)) only [go_sem,↓reduceIte,n0,reduceCtorEq,n1,n2,n3,n4,n5,i0,i1,i2,i3,i4,i5,i6,i7,hxb23,hrc1_2,hrc1_7,hrc1_8,hrc1_9,hrc1_10,hrc1_13,hrc1_12,hrc1_14,hrc1_16,hrc1_20,hra1,hri1,exitRQ_ret,exitRQ_exit,Int.toNat_natCast,Nat.mul_one,hun,hun'])
              rw [errV_none hsn2]
              exact ReadQ.bad (Eq.mp hFB (hlb2 (by rw [hsn2];exact rdMany_none rd1P_none _))) (hbase.trans' hU23 fun i hi h => h.elim id fun h => by omega)
            have hso2 : s11.isSome = true := isSome_some hsn2
            try simp (maxSteps:=1000000)(disch:=(first|omega|(simp only [qI,qJ,qK]<;>omega)|exact qL _)) only [go_sem,↓reduceIte,n0,reduceCtorEq,n1,n2,n3,n4,n5,i0,i1,i2,i3,i4,i5,i6,i7,hxb23,hrc1_2,hrc1_7,hrc1_8,hrc1_9,hrc1_10,hrc1_13,hrc1_12,hrc1_14,hrc1_16,hrc1_20,hra1,hri1,exitRQ_ret,exitRQ_exit,Int.toNat_natCast,Nat.mul_one,hun,hun',hso2]
            repeat ((first | refine W.seqR rfl ?_ | refine W.seq ?_ | refine W.regR rfl ?_ | refine W.block ?_ | refine W.skip ?_ | refine W.ret ?_ | refine W.exit ?_);try simp (maxSteps:=1000000)(disch:=(first|omega|(simp only [qI,qJ,qK]<;>omega)|exact qL _)) only [go_sem,↓reduceIte,n0,reduceCtorEq,n1,n2,n3,n4,n5,i0,i1,i2,i3,i4,i5,i6,i7,hxb23,hrc1_2,hrc1_7,hrc1_8,hrc1_9,hrc1_10,hrc1_13,hrc1_12,hrc1_14,hrc1_16,hrc1_20,hra1,hri1,exitRQ_ret,exitRQ_exit,Int.toNat_natCast,Nat.mul_one,hun,hun',hso2])
            refine W.condK ?_
            try simp (maxSteps:=1000000)(disch:=(first|omega|(simp only [qI,qJ,qK]<;>omega)|exact qL _)) only [go_sem,↓reduceIte,n0,reduceCtorEq,n1,n2,n3,n4,n5,i0,i1,i2,i3,i4,i5,i6,i7,hxb23,hrc1_2,hrc1_7,hrc1_8,hrc1_9,hrc1_10,hrc1_13,hrc1_12,hrc1_14,hrc1_16,hrc1_20,hra1,hri1,exitRQ_ret,exitRQ_exit,Int.toNat_natCast,Nat.mul_one,hun,hun',hso2]
            repeat ((first | refine W.seqR rfl ?_ | refine W.seq ?_ | refine W.regR rfl ?_ | refine W.block ?_ | refine W.skip ?_ | refine W.ret ?_ | refine W.exit ?_);try simp (maxSteps:=1000000)(disch:=(first|omega|(simp only [qI,qJ,qK]<;>omega)|exact qL _)) only [go_sem,↓reduceIte,n0,reduceCtorEq,n1,n2,n3,n4,n5,i0,i1,i2,i3,i4,i5,i6,i7,hxb23,hrc1_2,hrc1_7,hrc1_8,hrc1_9,hrc1_10,hrc1_13,hrc1_12,hrc1_14,hrc1_16,hrc1_20,hra1,hri1,exitRQ_ret,exitRQ_exit,Int.toNat_natCast,Nat.mul_one,hun,hun',hso2,slBase_00])
            refine W.normJ (RowQ [(2,.bool un),(7,.pointer (some ⟨rb,0,none⟩)),(8,.int .i16 ver),(9,.bool true),(10,.pointer (some ⟨vb,0,none⟩)),(13,.int .i32 y0),(12,.slice (some ⟨R1,0,none⟩) N0 q1),(14,.int .i32 j1),(16,.pointer (some ⟨R1,j1 * 18,none⟩)),(20,.int .i32 y1),(19,.slice (some ⟨R2,0,none⟩) N1 q2),(21,.int .i32 j2),(23,.pointer (some ⟨R2,j2 * 7,none⟩)),(31,.int .i32 y2)] 30 (fun va w' => LstI RT (rd1 (rdP (d + 1) ver true) fX1_5.of fX1_5.sub false true) (Rep1 (RepS true (d + 1)) fX1_5.of fX1_5.sub) 5 279 [.int .i64 0,.int .i64 0,.int .i8 0,.int .i16 0,.map none] w23.heap.size N2 ok (fun b => (fun b => (ok b ∨ w1.heap.size ≤ b) ∧ ¬ ownB va0 b) b ∧ ¬ ownB va1 b) rb w23 s11 va 0 s11 [] [] w' ∧ (N2 = 0 → if nilS fX1_5 ver y2 = true then va = .slice none 0 0 else ∃ a,va = .slice (some a) 0 0))) ?_ ?_
            · by_cases hy0 : (0 : Int) < y2
              · have hyv : Value.int .i32 y2 = .int .i32 ((N2 : Nat) : Int) := by rw [show y2 = ((N2 : Nat) : Int) by omega]
                repeat ((first | refine qA rfl ?_|refine qB ?_|refine qC rfl ?_|refine qD ?_|refine qE ?_|refine qF ?_|refine qG ?_|refine qH ?_);try simp (maxSteps:=1000000)(disch:=(first|omega|(simp only [qI,qJ,qK]<;>omega)|exact qL _)) only [go_sem,↓reduceIte,n0,reduceCtorEq,n1,n2,n3,n4,n5,i0,i1,i2,i3,i4,i5,i6,i7,hxb23,hrc1_2,hrc1_7,hrc1_8,hrc1_9,hrc1_10,hrc1_13,hrc1_12,hrc1_14,hrc1_16,hrc1_20,hra1,hri1,exitRQ_ret,exitRQ_exit,Int.toNat_natCast,Nat.mul_one,hun,hun'])
                refine wp_appendZ (m := N2) utReadShareGroupStateResponse_274 utReadShareGroupStateResponse_21 inReadShareGroupStateResponse_279 (by decide) (by first | rfl | simp (maxSteps:=1000000)(disch:=(first|omega|(simp only [qI,qJ,qK]<;>omega)|exact qL _)) only [go_sem,↓reduceIte,n0,reduceCtorEq,n1,n2,n3,n4,n5,i0,i1,i2,i3,i4,i5,i6,i7,hrc1_2,hrc1_7,hrc1_8,hrc1_9,hrc1_10,hrc1_13,hrc1_12,hrc1_14,hrc1_16,hrc1_20,hra1,hri1]) (by first | exact hyv | (simp (maxSteps:=1000000)(disch:=(first|omega|(simp only [qI,qJ,qK]<;>omega)|exact qL _)) only [go_sem,↓reduceIte,n0,reduceCtorEq,n1,n2,n3,n4,n5,i0,i1,i2,i3,i4,i5,i6,i7,hrc1_2,hrc1_7,hrc1_8,hrc1_9,hrc1_10,hrc1_13,hrc1_12,hrc1_14,hrc1_16,hrc1_20,hra1,hri1];exact hyv)) (by omega) (by omega) (by decide) ?_
                intro q rest hq1
                have hEw : Ext w23 (w23.drew.alloc (.cells (zs [.int .i64 0,.int .i64 0,.int .i8 0,.int .i16 0,.map none] N2 ++ rest).toArray 279)) := (Upd.refl _ _).drew.alloc _
                try simp (maxSteps:=1000000)(disch:=(first|omega|(simp only [qI,qJ,qK]<;>omega)|exact qL _)) only [go_sem,↓reduceIte,n0,reduceCtorEq,n1,n2,n3,n4,n5,i0,i1,i2,i3,i4,i5,i6,i7,hxb23,hrc1_2,hrc1_7,hrc1_8,hrc1_9,hrc1_10,hrc1_13,hrc1_12,hrc1_14,hrc1_16,hrc1_20,hra1,hri1,exitRQ_ret,exitRQ_exit,Int.toNat_natCast,Nat.mul_one,hun,hun']
                repeat ((first | refine qA rfl ?_|refine qB ?_|refine qC rfl ?_|refine qD ?_|refine qE ?_|refine qF ?_|refine qG ?_|refine qH ?_);try simp (maxSteps:=1000000)(disch:=(first|omega|(simp only [qI,qJ,qK]<;>omega)|exact qL _)) only [go_sem,↓reduceIte,n0,reduceCtorEq,n1,n2,n3,n4,n5,i0,i1,i2,i3,i4,i5,i6,i7,hxb23,hrc1_2,hrc1_7,hrc1_8,hrc1_9,hrc1_10,hrc1_13,hrc1_12,hrc1_14,hrc1_16,hrc1_20,hra1,hri1,exitRQ_ret,exitRQ_exit,Int.toNat_natCast,Nat.mul_one,hun,hun'])
                exact ⟨(by simp (maxSteps:=1000000)(disch:=(first|omega|(simp only [qI,qJ,qK]<;>omega)|exact qL _)) only [go_sem,↓reduceIte,n0,reduceCtorEq,n1,n2,n3,n4,n5,i0,i1,i2,i3,i4,i5,i6,i7,Holds_nil,Holds_cons,hrc1_2,hrc1_7,hrc1_8,hrc1_9,hrc1_10,hrc1_13,hrc1_12,hrc1_14,hrc1_16,hrc1_20,hra1,hri1]),.slice (some ⟨w23.heap.size,0,none⟩) N2 q,(by simp (maxSteps:=1000000)(disch:=(first|omega|(simp only [qI,qJ,qK]<;>omega)|exact qL _)) only [go_sem,↓reduceIte,n0,reduceCtorEq,n1,n2,n3,n4,n5,i0,i1,i2,i3,i4,i5,i6,i7,hrc1_2,hrc1_7,hrc1_8,hrc1_9,hrc1_10,hrc1_13,hrc1_12,hrc1_14,hrc1_16,hrc1_20,hra1,hri1]),LstI.start (RowJ.start (by omega) hq1 (by show w23.heap.size ≤ w23.drew.heap.size;rw [size_drew];omega) (blk_alloc_new rfl)) ⟨hq23.1.upd hEw (fun h => h) (fun _ _ _ h => h),hq23.2.upd hEw fun h => h⟩ (hEw.mono fun _ h => h.elim),fun h0 => by omega⟩
              · repeat ((first | refine qA rfl ?_|refine qB ?_|refine qC rfl ?_|refine qD ?_|refine qE ?_|refine qF ?_|refine qG ?_|refine qH ?_);try simp (maxSteps:=1000000)(disch:=(first|omega|(simp only [qI,qJ,qK]<;>omega)|exact qL _)) only [go_sem,↓reduceIte,n0,reduceCtorEq,n1,n2,n3,n4,n5,i0,i1,i2,i3,i4,i5,i6,i7,hxb23,hrc1_2,hrc1_7,hrc1_8,hrc1_9,hrc1_10,hrc1_13,hrc1_12,hrc1_14,hrc1_16,hrc1_20,hra1,hri1,exitRQ_ret,exitRQ_exit,Int.toNat_natCast,Nat.mul_one,hun,hun'])
                exact ⟨(by simp (maxSteps:=1000000)(disch:=(first|omega|(simp only [qI,qJ,qK]<;>omega)|exact qL _)) only [go_sem,↓reduceIte,n0,reduceCtorEq,n1,n2,n3,n4,n5,i0,i1,i2,i3,i4,i5,i6,i7,Holds_nil,Holds_cons,hrc1_2,hrc1_7,hrc1_8,hrc1_9,hrc1_10,hrc1_13,hrc1_12,hrc1_14,hrc1_16,hrc1_20,hra1,hri1]),.slice none 0 0,(by simp (maxSteps:=1000000)(disch:=(first|omega|(simp only [qI,qJ,qK]<;>omega)|exact qL _)) only [go_sem,↓reduceIte,n0,reduceCtorEq,n1,n2,n3,n4,n5,i0,i1,i2,i3,i4,i5,i6,i7,hrc1_2,hrc1_7,hrc1_8,hrc1_9,hrc1_10,hrc1_13,hrc1_12,hrc1_14,hrc1_16,hrc1_20,hra1,hri1,slBase_00]),LstI.start (RowJ.zero (by omega) (fun _ h => by cases h)) hq23 (Upd.refl _ _),fun _ => by rw [nilS_plain (by decide) (by omega)];exact rfl⟩
            rintro ρ w24 ⟨⟨hrb2_2,hrb2_7,hrb2_8,hrb2_9,hrb2_10,hrb2_13,hrb2_12,hrb2_14,hrb2_16,hrb2_20,hrb2_19,hrb2_21,hrb2_23,hrb2_31,-⟩,va2,hra2,hL2,hnc2⟩
            repeat ((first | refine qA rfl ?_|refine qB ?_|refine qC rfl ?_|refine qD ?_|refine qE ?_|refine qF ?_|refine qG ?_|refine qH ?_);try simp (maxSteps:=1000000)(disch:=(first|omega|(simp only [qI,qJ,qK]<;>omega)|exact qL _)) only [go_sem,↓reduceIte,n0,reduceCtorEq,n1,n2,n3,n4,n5,i0,i1,i2,i3,i4,i5,i6,i7,hxb23,hrb2_2,hrb2_7,hrb2_8,hrb2_9,hrb2_10,hrb2_13,hrb2_12,hrb2_14,hrb2_16,hrb2_20,hrb2_19,hrb2_21,hrb2_23,hrb2_31,hra2,exitRQ_ret,exitRQ_exit,Int.toNat_natCast,Nat.mul_one,hun,hun'])
            refine W.exitRJ 4 (EndQ [(2,.bool un),(7,.pointer (some ⟨rb,0,none⟩)),(8,.int .i16 ver),(9,.bool true),(10,.pointer (some ⟨vb,0,none⟩)),(13,.int .i32 y0),(12,.slice (some ⟨R1,0,none⟩) N0 q1),(14,.int .i32 j1),(16,.pointer (some ⟨R1,j1 * 18,none⟩)),(20,.int .i32 y1),(19,.slice (some ⟨R2,0,none⟩) N1 q2),(21,.int .i32 j2),(23,.pointer (some ⟨R2,j2 * 7,none⟩)),(31,.int .i32 y2),(30,va2)] (fun w' => ∃ s xs css,LstI RT (rd1 (rdP (d + 1) ver true) fX1_5.of fX1_5.sub false true) (Rep1 (RepS true (d + 1)) fX1_5.of fX1_5.sub) 5 279 [.int .i64 0,.int .i64 0,.int .i8 0,.int .i16 0,.map none] w23.heap.size N2 ok (fun b => (fun b => (ok b ∨ w1.heap.size ≤ b) ∧ ¬ ownB va0 b) b ∧ ¬ ownB va1 b) rb w23 s11 va2 N2 s xs css w')) (W.loop (LoopQ [(2,.bool un),(7,.pointer (some ⟨rb,0,none⟩)),(8,.int .i16 ver),(9,.bool true),(10,.pointer (some ⟨vb,0,none⟩)),(13,.int .i32 y0),(12,.slice (some ⟨R1,0,none⟩) N0 q1),(14,.int .i32 j1),(16,.pointer (some ⟨R1,j1 * 18,none⟩)),(20,.int .i32 y1),(19,.slice (some ⟨R2,0,none⟩) N1 q2),(21,.int .i32 j2),(23,.pointer (some ⟨R2,j2 * 7,none⟩)),(31,.int .i32 y2),(30,va2)] 32 (fun j w' => ∃ s xs css,LstI RT (rd1 (rdP (d + 1) ver true) fX1_5.of fX1_5.sub false true) (Rep1 (RepS true (d + 1)) fX1_5.of fX1_5.sub) 5 279 [.int .i64 0,.int .i64 0,.int .i8 0,.int .i16 0,.map none] w23.heap.size N2 ok (fun b => (fun b => (ok b ∨ w1.heap.size ≤ b) ∧ ¬ ownB va0 b) b ∧ ¬ ownB va1 b) rb w23 s11 va2 j s xs css w')) (fun ρ _ => N2 - (RowKit.intOf (ρ 32)).toNat) ?_ ?_) ?_
            · exact ⟨(by simp (maxSteps:=1000000)(disch:=(first|omega|(simp only [qI,qJ,qK]<;>omega)|exact qL _)) only [go_sem,↓reduceIte,n0,reduceCtorEq,n1,n2,n3,n4,n5,i0,i1,i2,i3,i4,i5,i6,i7,Holds_nil,Holds_cons,hrb2_2,hrb2_7,hrb2_8,hrb2_9,hrb2_10,hrb2_13,hrb2_12,hrb2_14,hrb2_16,hrb2_20,hrb2_19,hrb2_21,hrb2_23,hrb2_31,hra2]),0,(by simp (maxSteps:=1000000)(disch:=(first|omega|(simp only [qI,qJ,qK]<;>omega)|exact qL _)) only [go_sem,↓reduceIte,n0,reduceCtorEq,n1,n2,n3,n4,n5,i0,i1,i2,i3,i4,i5,i6,i7,hrb2_2,hrb2_7,hrb2_8,hrb2_9,hrb2_10,hrb2_13,hrb2_12,hrb2_14,hrb2_16,hrb2_20,hrb2_19,hrb2_21,hrb2_23,hrb2_31,hra2];all_goals rfl),s11,[],[],hL2⟩
            · rintro ρ w25 ⟨⟨hrc2_2,hrc2_7,hrc2_8,hrc2_9,hrc2_10,hrc2_13,hrc2_12,hrc2_14,hrc2_16,hrc2_20,hrc2_19,hrc2_21,hrc2_23,hrc2_31,hrc2_30,-⟩,j3,hri2,s12,xs2,css2,hL2⟩
              have hj2 := hL2.le
              have hq25 := hL2.rd
              have hU25 : Upd (fun b => b = vb ∨ b = rb) w1 w25 := hU23.trans' hL2.upd fun i _ h => .inr h
              have hz25 := hL2.upd.size
              have hG25 : Glo ev w25 := hG1.updS hU25 hgM1 hgM2
              by_cases hlt2 : j3 < N2
              · obtain ⟨R3,q3,B3,hva3,hNq3,hLR3,hA3,hx3_25,hnext3⟩ := hL2.row.next hlt2
                have hRl3 := blk_lt hx3_25
                generalize css2.flatten = A3 at hA3 hx3_25 hnext3
                replace hra2 : ρ 30 = .slice (some ⟨R3,0,none⟩) N2 q3 := hrc2_30.trans hva3
                have hown3 : ∀ b,ownB va2 b → w23.heap.size ≤ b ∧ b < w25.heap.size := fun b h => hL2.row.own h
                have hoM3 : ∀ b,(fun b => (fun b => (fun b => (ok b ∨ w1.heap.size ≤ b) ∧ ¬ ownB va0 b) b ∧ ¬ ownB va1 b) b ∧ ¬ ownB va2 b) b → ¬ (b = R3 ∨ b = rb) := fun b hk h => h.elim (fun e => hk.2 ⟨_,_,_,hva3,e⟩) (fun e => hoM2 b hk.1 (.inr e))
                obtain ⟨X25,hX25⟩ : ∃ X : Array Value,X = (A3 ++ (([.int .i64 0,.int .i64 0,.int .i8 0,.int .i16 0,.map none] : List Value) ++ B3)).toArray := ⟨_,rfl⟩
                have hxb25 : blk w25 R3 = some (X25,279,(0,0)) := by rw [hX25];exact hx3_25
                have hXs25 : j3 * 5 + 5 ≤ X25.size := by rw [hX25];simp only [List.size_toArray,List.length_append,List.length_cons,List.length_nil,hA3];omega
                repeat ((first | refine qA rfl ?_|refine qB ?_|refine qC rfl ?_|refine qD ?_|refine qE ?_|refine qF ?_|refine qG ?_|refine qH ?_);try simp (maxSteps:=1000000)(disch:=(first|omega|(simp only [qI,qJ,qK]<;>omega)|exact qL _)) only [go_sem,↓reduceIte,n0,reduceCtorEq,n1,n2,n3,n4,n5,i0,i1,i2,i3,i4,i5,i6,i7,hxb25,hrc2_2,hrc2_7,hrc2_8,hrc2_9,hrc2_10,hrc2_13,hrc2_12,hrc2_14,hrc2_16,hrc2_20,hrc2_19,hrc2_21,hrc2_23,hrc2_31,hra2,hri2,exitRQ_ret,exitRQ_exit,Int.toNat_natCast,Nat.mul_one,hun,hun'])
                refine (DefaultEX0_fn w25 hx3_25 hA3).mono ?_
                rintro _ w26 ⟨hx3_26,hu26⟩
                have hq26 := And.intro (hq25.1.upd hu26 (by omega) (fun b _ hk e => by have := (hok b hk).1;omega)) (hq25.2.upd hu26 (by omega))
                have hV26 : Upd (fun b => b = R3 ∨ b = rb) w25 w26 := hu26.mono (fun _ h => .inl h)
                have hU26 : Upd (fun b => b = vb ∨ b = rb) w1 w26 := hU25.trans' hV26 fun i hi h => h.elim (fun h => by omega) .inr
                have hz26 := hV26.size
                have hG26 : Glo ev w26 := hG1.updS hU26 hgM1 hgM2
                obtain ⟨X26,hX26⟩ : ∃ X : Array Value,X = (A3 ++ (([.int .i64 0,.int .i64 0,.int .i8 0,.int .i16 0,.map none] : List Value) ++ B3)).toArray := ⟨_,rfl⟩
                have hxb26 : blk w26 R3 = some (X26,279,(0,0)) := by rw [hX26];exact hx3_26
                have hXs26 : j3 * 5 + 5 ≤ X26.size := by rw [hX26];simp only [List.size_toArray,List.length_append,List.length_cons,List.length_nil,hA3];omega
                have hbe0e1e2_0 : (rdL (rdP d ver true) (dfP d) ver true [fX0_0,fX0_1,fX0_2,fX0_3] s12).2 = none → FB := fun h => hlb2 (hL2.bad hlt2 rd1P_none (by show (rd1 (rdP (d + 1) ver true) 10 fs_X0 false true s12).2 = none;rw [rd1_part];exact rdP_bad h))
                have hhe0e1e2_0 : hasS fX0_0 ver = true := hasS_t (by show (0 : Int) ≤ ver;omega) (by show (-1 : Int) < 0 ∨ ver ≤ (-1 : Int);omega)
                obtain ⟨xe0e1e2_0,hxe0e1e2_0⟩ : ∃ x,x = (rdF (rdP d ver true) ver true fX0_0 s12).1 := ⟨_,rfl⟩
                repeat ((first | refine qA rfl ?_|refine qB ?_|refine qC rfl ?_|refine qD ?_|refine qE ?_|refine qF ?_|refine qG ?_|refine qH ?_);try simp (maxSteps:=1000000)(disch:=(first|omega|(simp only [qI,qJ,qK]<;>omega)|exact qL _)) only [go_sem,↓reduceIte,n0,reduceCtorEq,n1,n2,n3,n4,n5,i0,i1,i2,i3,i4,i5,i6,i7,hxb26,hrc2_2,hrc2_7,hrc2_8,hrc2_9,hrc2_10,hrc2_13,hrc2_12,hrc2_14,hrc2_16,hrc2_20,hrc2_19,hrc2_21,hrc2_23,hrc2_31,hra2,hri2,exitRQ_ret,exitRQ_exit,Int.toNat_natCast,Nat.mul_one,hun,hun'])
                have hrd : rdF (rdP d ver true) ver true fX0_0 s12 = _ := rdF_num 4 rfl (by decide)
                refine (Int64_fn w26 hq26.1 hrok hG26.1 hgrb).mono ?_
                rintro _ w27 ⟨rfl,hq27,hu27⟩
                have hx3_27 := hu27.blk_some hx3_26 (by omega)
                have hV27 : Upd (fun b => b = R3 ∨ b = rb) w26 w27 := hu27.mono (fun _ h => .inr h)
                have hU27 : Upd (fun b => b = vb ∨ b = rb) w1 w27 := hU26.trans' hV27 fun i hi h => h.elim (fun h => by omega) .inr
                have hz27 := hV27.size
                have hG27 : Glo ev w27 := hG1.updS hU27 hgM1 hgM2
                obtain ⟨X27,hX27⟩ : ∃ X : Array Value,X = (A3 ++ (([.int .i64 0,.int .i64 0,.int .i8 0,.int .i16 0,.map none] : List Value) ++ B3)).toArray := ⟨_,rfl⟩
                have hxb27 : blk w27 R3 = some (X27,279,(0,0)) := by rw [hX27];exact hx3_27
                have hXs27 : j3 * 5 + 5 ≤ X27.size := by rw [hX27];simp only [List.size_toArray,List.length_append,List.length_cons,List.length_nil,hA3];omega
                have hst : (rdF (rdP d ver true) ver true fX0_0 s12).2 = (rdInt .i64 8 s12).2 := by first | (rw [hrd];rfl) | rw [hrd]
                obtain ⟨s13,hs13⟩ : ∃ s,s = (rdF (rdP d ver true) ver true fX0_0 s12).2 := ⟨_,rfl⟩
                rw [← hst,← hs13] at hq27
                clear hst
                have hst27_0 : j3 * 5 + 1 ≤ X27.size := by omega
                repeat ((first | refine qA rfl ?_|refine qB ?_|refine qC rfl ?_|refine qD ?_|refine qE ?_|refine qF ?_|refine qG ?_|refine qH ?_);try simp (maxSteps:=1000000)(disch:=(first|omega|(simp only [qI,qJ,qK]<;>omega)|exact qL _)) only [go_sem,↓reduceIte,n0,reduceCtorEq,n1,n2,n3,n4,n5,i0,i1,i2,i3,i4,i5,i6,i7,hxb27,hrc2_2,hrc2_7,hrc2_8,hrc2_9,hrc2_10,hrc2_13,hrc2_12,hrc2_14,hrc2_16,hrc2_20,hrc2_19,hrc2_21,hrc2_23,hrc2_31,hra2,hri2,exitRQ_ret,exitRQ_exit,Int.toNat_natCast,Nat.mul_one,hun,hun',hst27_0])
                generalize hw28 : wr w27 R3 (j3 * 5) [.int .i64 (rdInt .i64 8 s12).1] = w28
                have hS28 : Upd (fun b => b = R3 ∨ b = rb) w27 w28 := by rw [← hw28];exact (Upd.refl _ _).wr _ _ (.inr (.inl rfl))
                have hx3_28 : blk w28 R3 = some ((A3 ++ (([.int .i64 (rdInt .i64 8 s12).1,.int .i64 0,.int .i8 0,.int .i16 0,.map none] : List Value) ++ B3)).toArray,279,(0,0)) := by rw [← hw28];exact el_blk0 hx3_27 hA3 (Nat.le_of_ble_eq_true rfl)
                have hV28 := hS28
                have hU28 : Upd (fun b => b = vb ∨ b = rb) w1 w28 := hU27.trans' hV28 fun i hi h => h.elim (fun h => by omega) .inr
                have hz28 := hV28.size
                have hG28 : Glo ev w28 := hG1.updS hU28 hgM1 hgM2
                have hq28 : Rdr RT ok w28 rb s13 ∧ NN w28 rb s13 := by
                  have hn : ∀ x,x = w28 → (Rdr RT ok x rb s13 ∧ NN x rb s13) := fun x hx => by
                    rw [hx,← hw28]
                    exact Rdr.store hq27 (by omega) (fun h => by have := (hok _ h).1;first | omega | exact (hok _ h).2 rfl)
                  exact hn _ rfl
                obtain ⟨X28,hX28⟩ : ∃ X : Array Value,X = (A3 ++ (([.int .i64 (rdInt .i64 8 s12).1,.int .i64 0,.int .i8 0,.int .i16 0,.map none] : List Value) ++ B3)).toArray := ⟨_,rfl⟩
                have hxb28 : blk w28 R3 = some (X28,279,(0,0)) := by rw [hX28];exact hx3_28
                have hXs28 : j3 * 5 + 5 ≤ X28.size := by rw [hX28];simp only [List.size_toArray,List.length_append,List.length_cons,List.length_nil,hA3];omega
                clear hw28
                have hfe0e1e2_0 : RepF (RepS true d) (szS true d) fX0_0 (fun b => (fun b => (fun b => (ok b ∨ w1.heap.size ≤ b) ∧ ¬ ownB va0 b) b ∧ ¬ ownB va1 b) b ∧ ¬ ownB va2 b) w28 (xe0e1e2_0) [.int .i64 (rdInt .i64 8 s12).1] := (RepF_num (by decide)).2 (by rw [hxe0e1e2_0,hrd];exact congrArg (fun x => [x]) (numC_rd 4 (by decide) 8 s12).symm)
                clear hrd
                have hbe0e1e2_1 : (rdL (rdP d ver true) (dfP d) ver true [fX0_1,fX0_2,fX0_3] s13).2 = none → FB := fun h => hbe0e1e2_0 (by rw [rdL_st (by decide) hhe0e1e2_0,← hs13];exact h)
                have hhe0e1e2_1 : hasS fX0_1 ver = true := hasS_t (by show (0 : Int) ≤ ver;omega) (by show (-1 : Int) < 0 ∨ ver ≤ (-1 : Int);omega)
                obtain ⟨xe0e1e2_1,hxe0e1e2_1⟩ : ∃ x,x = (rdF (rdP d ver true) ver true fX0_1 s13).1 := ⟨_,rfl⟩
                repeat ((first | refine qA rfl ?_|refine qB ?_|refine qC rfl ?_|refine qD ?_|refine qE ?_|refine qF ?_|refine qG ?_|refine qH ?_);try simp (maxSteps:=1000000)(disch:=(first|omega|(simp only [qI,qJ,qK]<;>omega)|exact qL _)) only [go_sem,↓reduceIte,n0,reduceCtorEq,n1,n2,n3,n4,n5,i0,i1,i2,i3,i4,i5,i6,i7,hxb28,hrc2_2,hrc2_7,hrc2_8,hrc2_9,hrc2_10,hrc2_13,hrc2_12,hrc2_14,hrc2_16,hrc2_20,hrc2_19,hrc2_21,hrc2_23,hrc2_31,hra2,hri2,exitRQ_ret,exitRQ_exit,Int.toNat_natCast,Nat.mul_one,hun,hun'])
                have hrd : rdF (rdP d ver true) ver true fX0_1 s13 = _ := rdF_num 4 rfl (by decide)
                refine (Int64_fn w28 hq28.1 hrok hG28.1 hgrb).mono ?_
                rintro _ w29 ⟨rfl,hq29,hu29⟩
                have hx3_29 := hu29.blk_some hx3_28 (by omega)
                have hV29 : Upd (fun b => b = R3 ∨ b = rb) w28 w29 := hu29.mono (fun _ h => .inr h)
                have hU29 : Upd (fun b => b = vb ∨ b = rb) w1 w29 := hU28.trans' hV29 fun i hi h => h.elim (fun h => by omega) .inr
                have hz29 := hV29.size
                have hG29 : Glo ev w29 := hG1.updS hU29 hgM1 hgM2
                obtain ⟨X29,hX29⟩ : ∃ X : Array Value,X = (A3 ++ (([.int .i64 (rdInt .i64 8 s12).1,.int .i64 0,.int .i8 0,.int .i16 0,.map none] : List Value) ++ B3)).toArray := ⟨_,rfl⟩
                have hxb29 : blk w29 R3 = some (X29,279,(0,0)) := by rw [hX29];exact hx3_29
                have hXs29 : j3 * 5 + 5 ≤ X29.size := by rw [hX29];simp only [List.size_toArray,List.length_append,List.length_cons,List.length_nil,hA3];omega
                have hst : (rdF (rdP d ver true) ver true fX0_1 s13).2 = (rdInt .i64 8 s13).2 := by first | (rw [hrd];rfl) | rw [hrd]
                obtain ⟨s14,hs14⟩ : ∃ s,s = (rdF (rdP d ver true) ver true fX0_1 s13).2 := ⟨_,rfl⟩
                rw [← hst,← hs14] at hq29
                clear hst
                have hst29_1 : j3 * 5 + 2 ≤ X29.size := by omega
                repeat ((first | refine qA rfl ?_|refine qB ?_|refine qC rfl ?_|refine qD ?_|refine qE ?_|refine qF ?_|refine qG ?_|refine qH ?_);try simp (maxSteps:=1000000)(disch:=(first|omega|(simp only [qI,qJ,qK]<;>omega)|exact qL _)) only [go_sem,↓reduceIte,n0,reduceCtorEq,n1,n2,n3,n4,n5,i0,i1,i2,i3,i4,i5,i6,i7,hxb29,hrc2_2,hrc2_7,hrc2_8,hrc2_9,hrc2_10,hrc2_13,hrc2_12,hrc2_14,hrc2_16,hrc2_20,hrc2_19,hrc2_21,hrc2_23,hrc2_31,hra2,hri2,exitRQ_ret,exitRQ_exit,Int.toNat_natCast,Nat.mul_one,hun,hun',hst29_1])
                generalize hw30 : wr w29 R3 (j3 * 5 + 1) [.int .i64 (rdInt .i64 8 s13).1] = w30
                have hS30 : Upd (fun b => b = R3 ∨ b = rb) w29 w30 := by rw [← hw30];exact (Upd.refl _ _).wr _ _ (.inr (.inl rfl))
                have hx3_30 : blk w30 R3 = some ((A3 ++ (([.int .i64 (rdInt .i64 8 s12).1,.int .i64 (rdInt .i64 8 s13).1,.int .i8 0,.int .i16 0,.map none] : List Value) ++ B3)).toArray,279,(0,0)) := by rw [← hw30];exact el_blk (o := 1) hx3_29 hA3 (Nat.le_of_ble_eq_true rfl)
                have hV30 := hS30
                have hU30 : Upd (fun b => b = vb ∨ b = rb) w1 w30 := hU29.trans' hV30 fun i hi h => h.elim (fun h => by omega) .inr
                have hz30 := hV30.size
                have hG30 : Glo ev w30 := hG1.updS hU30 hgM1 hgM2
                have hq30 : Rdr RT ok w30 rb s14 ∧ NN w30 rb s14 := by
                  have hn : ∀ x,x = w30 → (Rdr RT ok x rb s14 ∧ NN x rb s14) := fun x hx => by
                    rw [hx,← hw30]
                    exact Rdr.store hq29 (by omega) (fun h => by have := (hok _ h).1;first | omega | exact (hok _ h).2 rfl)
                  exact hn _ rfl
                obtain ⟨X30,hX30⟩ : ∃ X : Array Value,X = (A3 ++ (([.int .i64 (rdInt .i64 8 s12).1,.int .i64 (rdInt .i64 8 s13).1,.int .i8 0,.int .i16 0,.map none] : List Value) ++ B3)).toArray := ⟨_,rfl⟩
                have hxb30 : blk w30 R3 = some (X30,279,(0,0)) := by rw [hX30];exact hx3_30
                have hXs30 : j3 * 5 + 5 ≤ X30.size := by rw [hX30];simp only [List.size_toArray,List.length_append,List.length_cons,List.length_nil,hA3];omega
                clear hw30
                have hfe0e1e2_1 : RepF (RepS true d) (szS true d) fX0_1 (fun b => (fun b => (fun b => (ok b ∨ w1.heap.size ≤ b) ∧ ¬ ownB va0 b) b ∧ ¬ ownB va1 b) b ∧ ¬ ownB va2 b) w30 (xe0e1e2_1) [.int .i64 (rdInt .i64 8 s13).1] := (RepF_num (by decide)).2 (by rw [hxe0e1e2_1,hrd];exact congrArg (fun x => [x]) (numC_rd 4 (by decide) 8 s13).symm)
                clear hrd
                have hbe0e1e2_2 : (rdL (rdP d ver true) (dfP d) ver true [fX0_2,fX0_3] s14).2 = none → FB := fun h => hbe0e1e2_1 (by rw [rdL_st (by decide) hhe0e1e2_1,← hs14];exact h)
                have hhe0e1e2_2 : hasS fX0_2 ver = true := hasS_t (by show (0 : Int) ≤ ver;omega) (by show (-1 : Int) < 0 ∨ ver ≤ (-1 : Int);omega)
                obtain ⟨xe0e1e2_2,hxe0e1e2_2⟩ : ∃ x,x = (rdF (rdP d ver true) ver true fX0_2 s14).1 := ⟨_,rfl⟩
                repeat ((first | refine qA rfl ?_|refine qB ?_|refine qC rfl ?_|refine qD ?_|refine qE ?_|refine qF ?_|refine qG ?_|refine qH ?_);try simp (maxSteps:=1000000)(disch:=(first|omega|(simp only [qI,qJ,qK]<;>omega)|exact qL _)) only [go_sem,↓reduceIte,n0,reduceCtorEq,n1,n2,n3,n4,n5,i0,i1,i2,i3,i4,i5,i6,i7,hxb30,hrc2_2,hrc2_7,hrc2_8,hrc2_9,hrc2_10,hrc2_13,hrc2_12,hrc2_14,hrc2_16,hrc2_20,hrc2_19,hrc2_21,hrc2_23,hrc2_31,hra2,hri2,exitRQ_ret,exitRQ_exit,Int.toNat_natCast,Nat.mul_one,hun,hun'])
                have hrd : rdF (rdP d ver true) ver true fX0_2 s14 = _ := rdF_num 1 rfl (by decide)
                refine (Int8_fn w30 hq30.1 hrok).mono ?_
                rintro _ w31 ⟨rfl,hq31,hu31⟩
                have hx3_31 := hu31.blk_some hx3_30 (by omega)
                have hV31 : Upd (fun b => b = R3 ∨ b = rb) w30 w31 := hu31.mono (fun _ h => .inr h)
                have hU31 : Upd (fun b => b = vb ∨ b = rb) w1 w31 := hU30.trans' hV31 fun i hi h => h.elim (fun h => by omega) .inr
                have hz31 := hV31.size
                have hG31 : Glo ev w31 := hG1.updS hU31 hgM1 hgM2
                obtain ⟨X31,hX31⟩ : ∃ X : Array Value,X = (A3 ++ (([.int .i64 (rdInt .i64 8 s12).1,.int .i64 (rdInt .i64 8 s13).1,.int .i8 0,.int .i16 0,.map none] : List Value) ++ B3)).toArray := ⟨_,rfl⟩
                have hxb31 : blk w31 R3 = some (X31,279,(0,0)) := by rw [hX31];exact hx3_31
                have hXs31 : j3 * 5 + 5 ≤ X31.size := by rw [hX31];simp only [List.size_toArray,List.length_append,List.length_cons,List.length_nil,hA3];omega
                have hst : (rdF (rdP d ver true) ver true fX0_2 s14).2 = (rdInt .i8 1 s14).2 := by first | (rw [hrd];rfl) | rw [hrd]
                obtain ⟨s15,hs15⟩ : ∃ s,s = (rdF (rdP d ver true) ver true fX0_2 s14).2 := ⟨_,rfl⟩
                rw [← hst,← hs15] at hq31
                clear hst
                have hst31_2 : j3 * 5 + 3 ≤ X31.size := by omega
                repeat ((first | refine qA rfl ?_|refine qB ?_|refine qC rfl ?_|refine qD ?_|refine qE ?_|refine qF ?_|refine qG ?_|refine qH ?_);try simp (maxSteps:=1000000)(disch:=(first|omega|(simp only [qI,qJ,qK]<;>omega)|exact qL _)) only [go_sem,↓reduceIte,n0,reduceCtorEq,n1,n2,n3,n4,n5,i0,i1,i2,i3,i4,i5,i6,i7,hxb31,hrc2_2,hrc2_7,hrc2_8,hrc2_9,hrc2_10,hrc2_13,hrc2_12,hrc2_14,hrc2_16,hrc2_20,hrc2_19,hrc2_21,hrc2_23,hrc2_31,hra2,hri2,exitRQ_ret,exitRQ_exit,Int.toNat_natCast,Nat.mul_one,hun,hun',hst31_2])
                generalize hw32 : wr w31 R3 (j3 * 5 + 2) [.int .i8 (rdInt .i8 1 s14).1] = w32
                have hS32 : Upd (fun b => b = R3 ∨ b = rb) w31 w32 := by rw [← hw32];exact (Upd.refl _ _).wr _ _ (.inr (.inl rfl))
                have hx3_32 : blk w32 R3 = some ((A3 ++ (([.int .i64 (rdInt .i64 8 s12).1,.int .i64 (rdInt .i64 8 s13).1,.int .i8 (rdInt .i8 1 s14).1,.int .i16 0,.map none] : List Value) ++ B3)).toArray,279,(0,0)) := by rw [← hw32];exact el_blk (o := 2) hx3_31 hA3 (Nat.le_of_ble_eq_true rfl)
                have hV32 := hS32
                have hU32 : Upd (fun b => b = vb ∨ b = rb) w1 w32 := hU31.trans' hV32 fun i hi h => h.elim (fun h => by omega) .inr
                have hz32 := hV32.size
                have hG32 : Glo ev w32 := hG1.updS hU32 hgM1 hgM2
                have hq32 : Rdr RT ok w32 rb s15 ∧ NN w32 rb s15 := by
                  have hn : ∀ x,x = w32 → (Rdr RT ok x rb s15 ∧ NN x rb s15) := fun x hx => by
                    rw [hx,← hw32]
                    exact Rdr.store hq31 (by omega) (fun h => by have := (hok _ h).1;first | omega | exact (hok _ h).2 rfl)
                  exact hn _ rfl
                obtain ⟨X32,hX32⟩ : ∃ X : Array Value,X = (A3 ++ (([.int .i64 (rdInt .i64 8 s12).1,.int .i64 (rdInt .i64 8 s13).1,.int .i8 (rdInt .i8 1 s14).1,.int .i16 0,.map none] : List Value) ++ B3)).toArray := ⟨_,rfl⟩
                have hxb32 : blk w32 R3 = some (X32,279,(0,0)) := by rw [hX32];exact hx3_32
                have hXs32 : j3 * 5 + 5 ≤ X32.size := by rw [hX32];simp only [List.size_toArray,List.length_append,List.length_cons,List.length_nil,hA3];omega
                clear hw32
                have hfe0e1e2_2 : RepF (RepS true d) (szS true d) fX0_2 (fun b => (fun b => (fun b => (ok b ∨ w1.heap.size ≤ b) ∧ ¬ ownB va0 b) b ∧ ¬ ownB va1 b) b ∧ ¬ ownB va2 b) w32 (xe0e1e2_2) [.int .i8 (rdInt .i8 1 s14).1] := (RepF_num (by decide)).2 (by rw [hxe0e1e2_2,hrd];exact congrArg (fun x => [x]) (numC_rd 1 (by decide) 1 s14).symm)
                clear hrd
                have hbe0e1e2_3 : (rdL (rdP d ver true) (dfP d) ver true [fX0_3] s15).2 = none → FB := fun h => hbe0e1e2_2 (by rw [rdL_st (by decide) hhe0e1e2_2,← hs15];exact h)
                have hhe0e1e2_3 : hasS fX0_3 ver = true := hasS_t (by show (0 : Int) ≤ ver;omega) (by show (-1 : Int) < 0 ∨ ver ≤ (-1 : Int);omega)
                obtain ⟨xe0e1e2_3,hxe0e1e2_3⟩ : ∃ x,x = (rdF (rdP d ver true) ver true fX0_3 s15).1 := ⟨_,rfl⟩
                repeat ((first | refine qA rfl ?_|refine qB ?_|refine qC rfl ?_|refine qD ?_|refine qE ?_|refine qF ?_|refine qG ?_|refine qH ?_);try simp (maxSteps:=1000000)(disch:=(first|omega|(simp only [qI,qJ,qK]<;>omega)|exact qL _)) only [go_sem,↓reduceIte,n0,reduceCtorEq,n1,n2,n3,n4,n5,i0,i1,i2,i3,i4,i5,i6,i7,hxb32,hrc2_2,hrc2_7,hrc2_8,hrc2_9,hrc2_10,hrc2_13,hrc2_12,hrc2_14,hrc2_16,hrc2_20,hrc2_19,hrc2_21,hrc2_23,hrc2_31,hra2,hri2,exitRQ_ret,exitRQ_exit,Int.toNat_natCast,Nat.mul_one,hun,hun'])
                have hrd : rdF (rdP d ver true) ver true fX0_3 s15 = _ := rdF_num 2 rfl (by decide)
                refine (Int16_fn w32 hq32.1 hrok hG32.1 hgrb).mono ?_
                rintro _ w33 ⟨rfl,hq33,hu33⟩
                have hx3_33 := hu33.blk_some hx3_32 (by omega)
                have hV33 : Upd (fun b => b = R3 ∨ b = rb) w32 w33 := hu33.mono (fun _ h => .inr h)
                have hU33 : Upd (fun b => b = vb ∨ b = rb) w1 w33 := hU32.trans' hV33 fun i hi h => h.elim (fun h => by omega) .inr
                have hz33 := hV33.size
                have hG33 : Glo ev w33 := hG1.updS hU33 hgM1 hgM2
                obtain ⟨X33,hX33⟩ : ∃ X : Array Value,X = (A3 ++ (([.int .i64 (rdInt .i64 8 s12).1,.int .i64 (rdInt .i64 8 s13).1,.int .i8 (rdInt .i8 1 s14).1,.int .i16 0,.map none] : List Value) ++ B3)).toArray := ⟨_,rfl⟩
                have hxb33 : blk w33 R3 = some (X33,279,(0,0)) := by rw [hX33];exact hx3_33
                have hXs33 : j3 * 5 + 5 ≤ X33.size := by rw [hX33];simp only [List.size_toArray,List.length_append,List.length_cons,List.length_nil,hA3];omega
                have hst : (rdF (rdP d ver true) ver true fX0_3 s15).2 = (rdInt .i16 2 s15).2 := by first | (rw [hrd];rfl) | rw [hrd]
                obtain ⟨s16,hs16⟩ : ∃ s,s = (rdF (rdP d ver true) ver true fX0_3 s15).2 := ⟨_,rfl⟩
                rw [← hst,← hs16] at hq33
                clear hst
                have hst33_3 : j3 * 5 + 4 ≤ X33.size := by omega
                repeat ((first | refine qA rfl ?_|refine qB ?_|refine qC rfl ?_|refine qD ?_|refine qE ?_|refine qF ?_|refine qG ?_|refine qH ?_);try simp (maxSteps:=1000000)(disch:=(first|omega|(simp only [qI,qJ,qK]<;>omega)|exact qL _)) only [go_sem,↓reduceIte,n0,reduceCtorEq,n1,n2,n3,n4,n5,i0,i1,i2,i3,i4,i5,i6,i7,hxb33,hrc2_2,hrc2_7,hrc2_8,hrc2_9,hrc2_10,hrc2_13,hrc2_12,hrc2_14,hrc2_16,hrc2_20,hrc2_19,hrc2_21,hrc2_23,hrc2_31,hra2,hri2,exitRQ_ret,exitRQ_exit,Int.toNat_natCast,Nat.mul_one,hun,hun',hst33_3])
                generalize hw34 : wr w33 R3 (j3 * 5 + 3) [.int .i16 (rdInt .i16 2 s15).1] = w34
                have hS34 : Upd (fun b => b = R3 ∨ b = rb) w33 w34 := by rw [← hw34];exact (Upd.refl _ _).wr _ _ (.inr (.inl rfl))
                have hx3_34 : blk w34 R3 = some ((A3 ++ (([.int .i64 (rdInt .i64 8 s12).1,.int .i64 (rdInt .i64 8 s13).1,.int .i8 (rdInt .i8 1 s14).1,.int .i16 (rdInt .i16 2 s15).1,.map none] : List Value) ++ B3)).toArray,279,(0,0)) := by rw [← hw34];exact el_blk (o := 3) hx3_33 hA3 (Nat.le_of_ble_eq_true rfl)
                have hV34 := hS34
                have hU34 : Upd (fun b => b = vb ∨ b = rb) w1 w34 := hU33.trans' hV34 fun i hi h => h.elim (fun h => by omega) .inr
                have hz34 := hV34.size
                have hG34 : Glo ev w34 := hG1.updS hU34 hgM1 hgM2
                have hq34 : Rdr RT ok w34 rb s16 ∧ NN w34 rb s16 := by
                  have hn : ∀ x,x = w34 → (Rdr RT ok x rb s16 ∧ NN x rb s16) := fun x hx => by
                    rw [hx,← hw34]
                    exact Rdr.store hq33 (by omega) (fun h => by have := (hok _ h).1;first | omega | exact (hok _ h).2 rfl)
                  exact hn _ rfl
                obtain ⟨X34,hX34⟩ : ∃ X : Array Value,X = (A3 ++ (([.int .i64 (rdInt .i64 8 s12).1,.int .i64 (rdInt .i64 8 s13).1,.int .i8 (rdInt .i8 1 s14).1,.int .i16 (rdInt .i16 2 s15).1,.map none] : List Value) ++ B3)).toArray := ⟨_,rfl⟩
                have hxb34 : blk w34 R3 = some (X34,279,(0,0)) := by rw [hX34];exact hx3_34
                have hXs34 : j3 * 5 + 5 ≤ X34.size := by rw [hX34];simp only [List.size_toArray,List.length_append,List.length_cons,List.length_nil,hA3];omega
                clear hw34
                have hfe0e1e2_3 : RepF (RepS true d) (szS true d) fX0_3 (fun b => (fun b => (fun b => (ok b ∨ w1.heap.size ≤ b) ∧ ¬ ownB va0 b) b ∧ ¬ ownB va1 b) b ∧ ¬ ownB va2 b) w34 (xe0e1e2_3) [.int .i16 (rdInt .i16 2 s15).1] := (RepF_num (by decide)).2 (by rw [hxe0e1e2_3,hrd];exact congrArg (fun x => [x]) (numC_rd 2 (by decide) 2 s15).symm)
                clear hrd
                have hle0e1e2_4 : rdL (rdP d ver true) (dfP d) ver true [] s16 = ([],s16) := rfl
                have hle0e1e2_3 : rdL (rdP d ver true) (dfP d) ver true [fX0_3] s15 = ([xe0e1e2_3],s16) := by rw [rdL_st (by decide) hhe0e1e2_3,← hxe0e1e2_3,← hs16,hle0e1e2_4]
                have hle0e1e2_2 : rdL (rdP d ver true) (dfP d) ver true [fX0_2,fX0_3] s14 = ([xe0e1e2_2,xe0e1e2_3],s16) := by rw [rdL_st (by decide) hhe0e1e2_2,← hxe0e1e2_2,← hs15,hle0e1e2_3]
                have hle0e1e2_1 : rdL (rdP d ver true) (dfP d) ver true [fX0_1,fX0_2,fX0_3] s13 = ([xe0e1e2_1,xe0e1e2_2,xe0e1e2_3],s16) := by rw [rdL_st (by decide) hhe0e1e2_1,← hxe0e1e2_1,← hs14,hle0e1e2_2]
                have hle0e1e2_0 : rdL (rdP d ver true) (dfP d) ver true [fX0_0,fX0_1,fX0_2,fX0_3] s12 = ([xe0e1e2_0,xe0e1e2_1,xe0e1e2_2,xe0e1e2_3],s16) := by rw [rdL_st (by decide) hhe0e1e2_0,← hxe0e1e2_0,← hs13,hle0e1e2_1]
                have hfine0e1e2 : rdP (d + 1) ver true fs_X0 s12 = (.mk 0 [] false [xe0e1e2_0,xe0e1e2_1,xe0e1e2_2,xe0e1e2_3] (rdTags s16).1,(rdTags s16).2) := rdP_t hle0e1e2_0
                repeat ((first | refine qA rfl ?_|refine qB ?_|refine qC rfl ?_|refine qD ?_|refine qE ?_|refine qF ?_|refine qG ?_|refine qH ?_);try simp (maxSteps:=1000000)(disch:=(first|omega|(simp only [qI,qJ,qK]<;>omega)|exact qL _)) only [go_sem,↓reduceIte,n0,reduceCtorEq,n1,n2,n3,n4,n5,i0,i1,i2,i3,i4,i5,i6,i7,hxb34,hrc2_2,hrc2_7,hrc2_8,hrc2_9,hrc2_10,hrc2_13,hrc2_12,hrc2_14,hrc2_16,hrc2_20,hrc2_19,hrc2_21,hrc2_23,hrc2_31,hra2,hri2,exitRQ_ret,exitRQ_exit,Int.toNat_natCast,Nat.mul_one,hun,hun'])
                refine (ReadTags_fn w34 hq34.1 hrok).mono ?_
                rintro _ w35 ⟨qme0e1e2,rfl,hT35,hTn,hq35,hu35⟩
                have hx3_35 := hu35.blk_some hx3_34 (by omega)
                have hV35 : Upd (fun b => b = R3 ∨ b = rb) w34 w35 := hu35.mono (fun _ h => .inr h)
                have hU35 : Upd (fun b => b = vb ∨ b = rb) w1 w35 := hU34.trans' hV35 fun i hi h => h.elim (fun h => by omega) .inr
                have hz35 := hV35.size
                have hG35 : Glo ev w35 := hG1.updS hU35 hgM1 hgM2
                obtain ⟨X35,hX35⟩ : ∃ X : Array Value,X = (A3 ++ (([.int .i64 (rdInt .i64 8 s12).1,.int .i64 (rdInt .i64 8 s13).1,.int .i8 (rdInt .i8 1 s14).1,.int .i16 (rdInt .i16 2 s15).1,.map none] : List Value) ++ B3)).toArray := ⟨_,rfl⟩
                have hxb35 : blk w35 R3 = some (X35,279,(0,0)) := by rw [hX35];exact hx3_35
                have hXs35 : j3 * 5 + 5 ≤ X35.size := by rw [hX35];simp only [List.size_toArray,List.length_append,List.length_cons,List.length_nil,hA3];omega
                obtain ⟨s17,hs17⟩ : ∃ s,s = (rdTags s16).2 := ⟨_,rfl⟩
                rw [← hs17] at hq35 hfine0e1e2
                have hst35_4 : j3 * 5 + 5 ≤ X35.size := by omega
                try simp (maxSteps:=1000000)(disch:=(first|omega|(simp only [qI,qJ,qK]<;>omega)|exact qL _)) only [go_sem,↓reduceIte,n0,reduceCtorEq,n1,n2,n3,n4,n5,i0,i1,i2,i3,i4,i5,i6,i7,hxb35,hrc2_2,hrc2_7,hrc2_8,hrc2_9,hrc2_10,hrc2_13,hrc2_12,hrc2_14,hrc2_16,hrc2_20,hrc2_19,hrc2_21,hrc2_23,hrc2_31,hra2,hri2,exitRQ_ret,exitRQ_exit,Int.toNat_natCast,Nat.mul_one,hun,hun',hst35_4]
                repeat ((first | refine qA rfl ?_|refine qB ?_|refine qC rfl ?_|refine qD ?_|refine qE ?_|refine qF ?_|refine qG ?_|refine qH ?_);try simp (maxSteps:=1000000)(disch:=(first|omega|(simp only [qI,qJ,qK]<;>omega)|exact qL _)) only [go_sem,↓reduceIte,n0,reduceCtorEq,n1,n2,n3,n4,n5,i0,i1,i2,i3,i4,i5,i6,i7,hxb35,hrc2_2,hrc2_7,hrc2_8,hrc2_9,hrc2_10,hrc2_13,hrc2_12,hrc2_14,hrc2_16,hrc2_20,hrc2_19,hrc2_21,hrc2_23,hrc2_31,hra2,hri2,exitRQ_ret,exitRQ_exit,Int.toNat_natCast,Nat.mul_one,hun,hun',hst35_4])
                generalize hw36 : wr w35 R3 (j3 * 5 + 4) [.map qme0e1e2] = w36
                have hS36 : Upd (fun b => b = R3 ∨ b = rb) w35 w36 := by rw [← hw36];exact (Upd.refl _ _).wr _ _ (.inr (.inl rfl))
                have hx3_36 : blk w36 R3 = some ((A3 ++ (([.int .i64 (rdInt .i64 8 s12).1,.int .i64 (rdInt .i64 8 s13).1,.int .i8 (rdInt .i8 1 s14).1,.int .i16 (rdInt .i16 2 s15).1,.map qme0e1e2] : List Value) ++ B3)).toArray,279,(0,0)) := by rw [← hw36];exact el_blk (o := 4) hx3_35 hA3 (Nat.le_of_ble_eq_true rfl)
                have hV36 := hS36
                have hU36 : Upd (fun b => b = vb ∨ b = rb) w1 w36 := hU35.trans' hV36 fun i hi h => h.elim (fun h => by omega) .inr
                have hz36 := hV36.size
                have hG36 : Glo ev w36 := hG1.updS hU36 hgM1 hgM2
                have hq36 : Rdr RT ok w36 rb s17 ∧ NN w36 rb s17 := by
                  have hn : ∀ x,x = w36 → (Rdr RT ok x rb s17 ∧ NN x rb s17) := fun x hx => by
                    rw [hx,← hw36]
                    exact Rdr.store hq35 (by omega) (fun h => by have := (hok _ h).1;first | omega | exact (hok _ h).2 rfl)
                  exact hn _ rfl
                obtain ⟨X36,hX36⟩ : ∃ X : Array Value,X = (A3 ++ (([.int .i64 (rdInt .i64 8 s12).1,.int .i64 (rdInt .i64 8 s13).1,.int .i8 (rdInt .i8 1 s14).1,.int .i16 (rdInt .i16 2 s15).1,.map qme0e1e2] : List Value) ++ B3)).toArray := ⟨_,rfl⟩
                have hxb36 : blk w36 R3 = some (X36,279,(0,0)) := by rw [hX36];exact hx3_36
                have hXs36 : j3 * 5 + 5 ≤ X36.size := by rw [hX36];simp only [List.size_toArray,List.length_append,List.length_cons,List.length_nil,hA3];omega
                clear hw36
                have hTge0e1e2 : TagsM (fun b => (fun b => (fun b => (ok b ∨ w1.heap.size ≤ b) ∧ ¬ ownB va0 b) b ∧ ¬ ownB va1 b) b ∧ ¬ ownB va2 b) w36 (.map qme0e1e2) (rdTags s16).1 := (hT35.weaken fun b _ hk => hk.elim (fun hk => ⟨⟨⟨.inl hk,fun ho => by have := (hown1 b ho).1;have := (hok b hk).1;omega⟩,fun ho => by have := (hown2 b ho).1;have := (hok b hk).1;omega⟩,fun ho => by have := (hown3 b ho).1;have := (hok b hk).1;omega⟩) (fun h => by have h' : w34.heap.size ≤ b := h;exact ⟨⟨⟨.inr (by omega),fun ho => by have := (hown1 _ ho).2;omega⟩,fun ho => by have := (hown2 _ ho).2;omega⟩,fun ho => by have := (hown3 _ ho).2;omega⟩)).keep (hV36.keeps fun b _ hk e => hoM3 b hk e)
                have hCe0e1e2_36 : Upd (fun b => b = R3 ∨ b = rb) w36 w36 := Upd.refl _ _
                have hCe0e1e2_35 : Upd (fun b => b = R3 ∨ b = rb) w35 w36 := hV36.trans hCe0e1e2_36
                have hCe0e1e2_34 : Upd (fun b => b = R3 ∨ b = rb) w34 w36 := hV35.trans hCe0e1e2_35
                have hCe0e1e2_33 : Upd (fun b => b = R3 ∨ b = rb) w33 w36 := hV34.trans hCe0e1e2_34
                have hCe0e1e2_32 : Upd (fun b => b = R3 ∨ b = rb) w32 w36 := hV33.trans hCe0e1e2_33
                have hCe0e1e2_31 : Upd (fun b => b = R3 ∨ b = rb) w31 w36 := hV32.trans hCe0e1e2_32
                have hCe0e1e2_30 : Upd (fun b => b = R3 ∨ b = rb) w30 w36 := hV31.trans hCe0e1e2_31
                have hCe0e1e2_29 : Upd (fun b => b = R3 ∨ b = rb) w29 w36 := hV30.trans hCe0e1e2_30
                have hCe0e1e2_28 : Upd (fun b => b = R3 ∨ b = rb) w28 w36 := hV29.trans hCe0e1e2_29
                have hCe0e1e2_27 : Upd (fun b => b = R3 ∨ b = rb) w27 w36 := hV28.trans hCe0e1e2_28
                have hCe0e1e2_26 : Upd (fun b => b = R3 ∨ b = rb) w26 w36 := hV27.trans hCe0e1e2_27
                have hCe0e1e2_25 : Upd (fun b => b = R3 ∨ b = rb) w25 w36 := hV26.trans hCe0e1e2_26
                have hRe0e1e2 : RepS true (d + 1) fs_X0 (fun b => (fun b => (fun b => (ok b ∨ w1.heap.size ≤ b) ∧ ¬ ownB va0 b) b ∧ ¬ ownB va1 b) b ∧ ¬ ownB va2 b) w36 (.mk 0 [] false [xe0e1e2_0,xe0e1e2_1,xe0e1e2_2,xe0e1e2_3] (rdTags s16).1) [.int .i64 (rdInt .i64 8 s12).1,.int .i64 (rdInt .i64 8 s13).1,.int .i8 (rdInt .i8 1 s14).1,.int .i16 (rdInt .i16 2 s15).1,.map qme0e1e2] := RepS.introT (c := [.int .i64 (rdInt .i64 8 s12).1,.int .i64 (rdInt .i64 8 s13).1,.int .i8 (rdInt .i8 1 s14).1,.int .i16 (rdInt .i16 2 s15).1]) (RepL.cons1 (hfe0e1e2_0.keepS (hCe0e1e2_28.keeps fun b _ hk e => hoM3 b hk e)) (RepL.cons1 (hfe0e1e2_1.keepS (hCe0e1e2_30.keeps fun b _ hk e => hoM3 b hk e)) (RepL.cons1 (hfe0e1e2_2.keepS (hCe0e1e2_32.keeps fun b _ hk e => hoM3 b hk e)) (RepL.cons1 (hfe0e1e2_3.keepS (hCe0e1e2_34.keeps fun b _ hk e => hoM3 b hk e)) RepL.nil)))) hTge0e1e2
                have hrE : (rd1 (rdP (d + 1) ver true) fX1_5.of fX1_5.sub false true) s12 = ((.mk 0 [] false [xe0e1e2_0,xe0e1e2_1,xe0e1e2_2,xe0e1e2_3] (rdTags s16).1),s17) := by rw [show (rd1 (rdP (d + 1) ver true) fX1_5.of fX1_5.sub false true) s12 = _ from rd1_part];exact hfine0e1e2
                have hxE : (Rep1 (RepS true (d + 1)) fX1_5.of fX1_5.sub) (fun b => (fun b => (fun b => (ok b ∨ w1.heap.size ≤ b) ∧ ¬ ownB va0 b) b ∧ ¬ ownB va1 b) b ∧ ¬ ownB va2 b) w36 (.mk 0 [] false [xe0e1e2_0,xe0e1e2_1,xe0e1e2_2,xe0e1e2_3] (rdTags s16).1) [.int .i64 (rdInt .i64 8 s12).1,.int .i64 (rdInt .i64 8 s13).1,.int .i8 (rdInt .i8 1 s14).1,.int .i16 (rdInt .i16 2 s15).1,.map qme0e1e2] := Rep1_part.2 hRe0e1e2
                repeat ((first | refine qA rfl ?_|refine qB ?_|refine qC rfl ?_|refine qD ?_|refine qE ?_|refine qF ?_|refine qG ?_|refine qH ?_);try simp (maxSteps:=1000000)(disch:=(first|omega|(simp only [qI,qJ,qK]<;>omega)|exact qL _)) only [go_sem,↓reduceIte,n0,reduceCtorEq,n1,n2,n3,n4,n5,i0,i1,i2,i3,i4,i5,i6,i7,hxb36,hrc2_2,hrc2_7,hrc2_8,hrc2_9,hrc2_10,hrc2_13,hrc2_12,hrc2_14,hrc2_16,hrc2_20,hrc2_19,hrc2_21,hrc2_23,hrc2_31,hra2,hri2,exitRQ_ret,exitRQ_exit,Int.toNat_natCast,Nat.mul_one,hun,hun'])
                have hTk : Upd (fun b => b = R3 ∨ b = rb) w25 w36 := ((((((((((hV26.trans hV27).trans hV28).trans hV29).trans hV30).trans hV31).trans hV32).trans hV33).trans hV34).trans hV35).trans hV36)
                have hL' := hL2.step (Rep1_lay _ _ fun _ => RepS_lay true _ _) hlt2 (hnext3 w36 [.int .i64 (rdInt .i64 8 s12).1,.int .i64 (rdInt .i64 8 s13).1,.int .i8 (rdInt .i8 1 s14).1,.int .i16 (rdInt .i16 2 s15).1,.map qme0e1e2] rfl hx3_36) (by rw [hrE];exact hxE) (hTk.mono fun b h => h.imp (fun e => ⟨_,_,_,hva3,e⟩) id) (by rw [hrE];exact hq36) (fun h => hoM2 rb h (.inr rfl)) (Nat.le_refl _)
                have hij : IntKind.i32.wrap ((j3 : Int) + 1) = ((j3 + 1 : Nat) : Int) := by rw [i32_wrap (by omega)];omega
                repeat ((first | refine qA rfl ?_|refine qB ?_|refine qC rfl ?_|refine qD ?_|refine qE ?_|refine qF ?_|refine qG ?_|refine qH ?_);try simp (maxSteps:=1000000)(disch:=(first|omega|(simp only [qI,qJ,qK]<;>omega)|exact qL _)) only [go_sem,↓reduceIte,n0,reduceCtorEq,n1,n2,n3,n4,n5,i0,i1,i2,i3,i4,i5,i6,i7,hxb36,hrc2_2,hrc2_7,hrc2_8,hrc2_9,hrc2_10,hrc2_13,hrc2_12,hrc2_14,hrc2_16,hrc2_20,hrc2_19,hrc2_21,hrc2_23,hrc2_31,hra2,hri2,exitRQ_ret,exitRQ_exit,Int.toNat_natCast,Nat.mul_one,hun,hun',hij])
                refine ⟨⟨(by simp (maxSteps:=1000000)(disch:=(first|omega|(simp only [qI,qJ,qK]<;>omega)|exact qL _)) only [go_sem,↓reduceIte,n0,reduceCtorEq,n1,n2,n3,n4,n5,i0,i1,i2,i3,i4,i5,i6,i7,Holds_nil,Holds_cons,hrc2_2,hrc2_7,hrc2_8,hrc2_9,hrc2_10,hrc2_13,hrc2_12,hrc2_14,hrc2_16,hrc2_20,hrc2_19,hrc2_21,hrc2_23,hrc2_31,hra2,hri2];exact hva3.symm),j3 + 1,(by simp (maxSteps:=1000000)(disch:=(first|omega|(simp only [qI,qJ,qK]<;>omega)|exact qL _)) only [go_sem,↓reduceIte,n0,reduceCtorEq,n1,n2,n3,n4,n5,i0,i1,i2,i3,i4,i5,i6,i7,hrc2_2,hrc2_7,hrc2_8,hrc2_9,hrc2_10,hrc2_13,hrc2_12,hrc2_14,hrc2_16,hrc2_20,hrc2_19,hrc2_21,hrc2_23,hrc2_31,hra2,hri2,hij];all_goals rfl),_,_,_,hL'⟩,?_⟩
                try simp (maxSteps:=1000000)(disch:=(first|omega|(simp only [qI,qJ,qK]<;>omega)|exact qL _)) only [go_sem,↓reduceIte,n0,reduceCtorEq,n1,n2,n3,n4,n5,i0,i1,i2,i3,i4,i5,i6,i7,hrc2_2,hrc2_7,hrc2_8,hrc2_9,hrc2_10,hrc2_13,hrc2_12,hrc2_14,hrc2_16,hrc2_20,hrc2_19,hrc2_21,hrc2_23,hrc2_31,hra2,hri2]
                simp only [RowKit.intOf]
                omega
              · have hjN : j3 = N2 := by omega
                rw [hjN] at hL2
                repeat ((first | refine qA rfl ?_|refine qB ?_|refine qC rfl ?_|refine qD ?_|refine qE ?_|refine qF ?_|refine qG ?_|refine qH ?_);try simp (maxSteps:=1000000)(disch:=(first|omega|(simp only [qI,qJ,qK]<;>omega)|exact qL _)) only [go_sem,↓reduceIte,n0,reduceCtorEq,n1,n2,n3,n4,n5,i0,i1,i2,i3,i4,i5,i6,i7,hrc2_2,hrc2_7,hrc2_8,hrc2_9,hrc2_10,hrc2_13,hrc2_12,hrc2_14,hrc2_16,hrc2_20,hrc2_19,hrc2_21,hrc2_23,hrc2_31,hrc2_30,hri2,exitRQ_ret,exitRQ_exit])
                exact ⟨(by simp (maxSteps:=1000000)(disch:=(first|omega|(simp only [qI,qJ,qK]<;>omega)|exact qL _)) only [go_sem,↓reduceIte,n0,reduceCtorEq,n1,n2,n3,n4,n5,i0,i1,i2,i3,i4,i5,i6,i7,Holds_nil,Holds_cons,hrc2_2,hrc2_7,hrc2_8,hrc2_9,hrc2_10,hrc2_13,hrc2_12,hrc2_14,hrc2_16,hrc2_20,hrc2_19,hrc2_21,hrc2_23,hrc2_31,hrc2_30,hri2]),s12,xs2,css2,hL2⟩
            rintro ρ w37 ⟨⟨hrd2_2,hrd2_7,hrd2_8,hrd2_9,hrd2_10,hrd2_13,hrd2_12,hrd2_14,hrd2_16,hrd2_20,hrd2_19,hrd2_21,hrd2_23,hrd2_31,hrd2_30,-⟩,s18,xs2,css2,hL2⟩
            have hq37 := hL2.rd
            have hu37 := hL2.upd
            have hx2_37 := hu37.blk_some hx2_23 (by omega)
            have hV37 : Upd (fun b => b = R2 ∨ b = rb) w23 w37 := hu37.mono (fun _ h => .inr h)
            have hU37 : Upd (fun b => b = vb ∨ b = rb) w1 w37 := hU23.trans' hV37 fun i hi h => h.elim (fun h => by omega) .inr
            have hz37 := hV37.size
            have hG37 : Glo ev w37 := hG1.updS hU37 hgM1 hgM2
            obtain ⟨X37,hX37⟩ : ∃ X : Array Value,X = (A2 ++ (([.int .i32 (rdInt .i32 4 s5).1,.int .i16 (rdInt .i16 2 s6).1,.pointer ap17,.int .i32 (rdInt .i32 4 s8).1,.int .i64 (rdInt .i64 8 s9).1,.slice none 0 0,.map none] : List Value) ++ B2)).toArray := ⟨_,rfl⟩
            have hxb37 : blk w37 R2 = some (X37,276,(0,0)) := by rw [hX37];exact hx2_37
            have hXs37 : j2 * 7 + 7 ≤ X37.size := by rw [hX37];simp only [List.size_toArray,List.length_append,List.length_cons,List.length_nil,hA2];omega
            have hrd2 : rdF (rdP (d + 1) ver true) ver true fX1_5 s10 = (.mk 0 [] (nilS fX1_5 ver y2) xs2 [],s18) := by
              have h := rdF_listE (pt := (rdP (d + 1) ver true)) (v := ver) (flex := true) (f := fX1_5) (s := s10) (xs := xs2) (e := s18) rfl (by rw [hy2,← hN2,← hs11];exact hL2.done)
              rw [hy2] at h;exact h
            have hs18 : s18 = (rdF (rdP (d + 1) ver true) ver true fX1_5 s10).2 := by rw [hrd2]
            obtain ⟨aa2,qq2,hvs2⟩ := hL2.row.shape
            subst hvs2
            have hst37_5 : j2 * 7 + 6 ≤ X37.size := by omega
            repeat ((first | refine qA rfl ?_|refine qB ?_|refine qC rfl ?_|refine qD ?_|refine qE ?_|refine qF ?_|refine qG ?_|refine qH ?_);try simp (maxSteps:=1000000)(disch:=(first|omega|(simp only [qI,qJ,qK]<;>omega)|exact qL _)) only [go_sem,↓reduceIte,n0,reduceCtorEq,n1,n2,n3,n4,n5,i0,i1,i2,i3,i4,i5,i6,i7,hxb37,hrd2_2,hrd2_7,hrd2_8,hrd2_9,hrd2_10,hrd2_13,hrd2_12,hrd2_14,hrd2_16,hrd2_20,hrd2_19,hrd2_21,hrd2_23,hrd2_31,hrd2_30,exitRQ_ret,exitRQ_exit,Int.toNat_natCast,Nat.mul_one,hun,hun',hst37_5])
            generalize hw38 : wr w37 R2 (j2 * 7 + 5) [.slice aa2 N2 qq2] = w38
            have hS38 : Upd (fun b => b = R2 ∨ b = rb) w37 w38 := by rw [← hw38];exact (Upd.refl _ _).wr _ _ (.inr (.inl rfl))
            have hx2_38 : blk w38 R2 = some ((A2 ++ (([.int .i32 (rdInt .i32 4 s5).1,.int .i16 (rdInt .i16 2 s6).1,.pointer ap17,.int .i32 (rdInt .i32 4 s8).1,.int .i64 (rdInt .i64 8 s9).1,.slice aa2 N2 qq2,.map none] : List Value) ++ B2)).toArray,276,(0,0)) := by rw [← hw38];exact el_blk (o := 5) hx2_37 hA2 (Nat.le_of_ble_eq_true rfl)
            have hV38 := hS38
            have hU38 : Upd (fun b => b = vb ∨ b = rb) w1 w38 := hU37.trans' hV38 fun i hi h => h.elim (fun h => by omega) .inr
            have hz38 := hV38.size
            have hG38 : Glo ev w38 := hG1.updS hU38 hgM1 hgM2
            have hq38 : Rdr RT ok w38 rb s18 ∧ NN w38 rb s18 := by
              have hn : ∀ x,x = w38 → (Rdr RT ok x rb s18 ∧ NN x rb s18) := fun x hx => by
                rw [hx,← hw38]
                exact Rdr.store hq37 (by omega) (fun h => by have := (hok _ h).1;first | omega | exact (hok _ h).2 rfl)
              exact hn _ rfl
            obtain ⟨X38,hX38⟩ : ∃ X : Array Value,X = (A2 ++ (([.int .i32 (rdInt .i32 4 s5).1,.int .i16 (rdInt .i16 2 s6).1,.pointer ap17,.int .i32 (rdInt .i32 4 s8).1,.int .i64 (rdInt .i64 8 s9).1,.slice aa2 N2 qq2,.map none] : List Value) ++ B2)).toArray := ⟨_,rfl⟩
            have hxb38 : blk w38 R2 = some (X38,276,(0,0)) := by rw [hX38];exact hx2_38
            have hXs38 : j2 * 7 + 7 ≤ X38.size := by rw [hX38];simp only [List.size_toArray,List.length_append,List.length_cons,List.length_nil,hA2];omega
            clear hw38
            have hfe0e1_5 : RepF (RepS true (d + 1)) (szS true (d + 1)) fX1_5 (fun b => (fun b => (ok b ∨ w1.heap.size ≤ b) ∧ ¬ ownB va0 b) b ∧ ¬ ownB va1 b) w38 (xe0e1_5) [.slice aa2 N2 qq2] := by rw [hxe0e1_5,hrd2];exact RepF.keepS (RepF_row rfl hnc2 hN2 rfl hL2.row hL2.all (fun b hb => ⟨⟨.inr (by omega),fun ho => by have := (hown1 _ ho).2;omega⟩,fun ho => by have := (hown2 _ ho).2;omega⟩)) (hV38.keeps fun b _ hk e => hoM2 b hk e)
            clear hL2 hnc2
            have hle0e1_6 : rdL (rdP (d + 1) ver true) (dfP (d + 1)) ver true [] s18 = ([],s18) := rfl
            have hle0e1_5 : rdL (rdP (d + 1) ver true) (dfP (d + 1)) ver true [fX1_5] s10 = ([xe0e1_5],s18) := by rw [rdL_st (by decide) hhe0e1_5,← hxe0e1_5,← hs18,hle0e1_6]
            have hle0e1_4 : rdL (rdP (d + 1) ver true) (dfP (d + 1)) ver true [fX1_4,fX1_5] s9 = ([xe0e1_4,xe0e1_5],s18) := by rw [rdL_st (by decide) hhe0e1_4,← hxe0e1_4,← hs10,hle0e1_5]
            have hle0e1_3 : rdL (rdP (d + 1) ver true) (dfP (d + 1)) ver true [fX1_3,fX1_4,fX1_5] s8 = ([xe0e1_3,xe0e1_4,xe0e1_5],s18) := by rw [rdL_st (by decide) hhe0e1_3,← hxe0e1_3,← hs9,hle0e1_4]
            have hle0e1_2 : rdL (rdP (d + 1) ver true) (dfP (d + 1)) ver true [fX1_2,fX1_3,fX1_4,fX1_5] s7 = ([xe0e1_2,xe0e1_3,xe0e1_4,xe0e1_5],s18) := by rw [rdL_st (by decide) hhe0e1_2,← hxe0e1_2,← hs8,hle0e1_3]
            have hle0e1_1 : rdL (rdP (d + 1) ver true) (dfP (d + 1)) ver true [fX1_1,fX1_2,fX1_3,fX1_4,fX1_5] s6 = ([xe0e1_1,xe0e1_2,xe0e1_3,xe0e1_4,xe0e1_5],s18) := by rw [rdL_st (by decide) hhe0e1_1,← hxe0e1_1,← hs7,hle0e1_2]
            have hle0e1_0 : rdL (rdP (d + 1) ver true) (dfP (d + 1)) ver true [fX1_0,fX1_1,fX1_2,fX1_3,fX1_4,fX1_5] s5 = ([xe0e1_0,xe0e1_1,xe0e1_2,xe0e1_3,xe0e1_4,xe0e1_5],s18) := by rw [rdL_st (by decide) hhe0e1_0,← hxe0e1_0,← hs6,hle0e1_1]
            have hfine0e1 : rdP (d + 2) ver true fs_X1 s5 = (.mk 0 [] false [xe0e1_0,xe0e1_1,xe0e1_2,xe0e1_3,xe0e1_4,xe0e1_5] (rdTags s18).1,(rdTags s18).2) := rdP_t hle0e1_0
            repeat ((first | refine qA rfl ?_|refine qB ?_|refine qC rfl ?_|refine qD ?_|refine qE ?_|refine qF ?_|refine qG ?_|refine qH ?_);try simp (maxSteps:=1000000)(disch:=(first|omega|(simp only [qI,qJ,qK]<;>omega)|exact qL _)) only [go_sem,↓reduceIte,n0,reduceCtorEq,n1,n2,n3,n4,n5,i0,i1,i2,i3,i4,i5,i6,i7,hxb38,hrd2_2,hrd2_7,hrd2_8,hrd2_9,hrd2_10,hrd2_13,hrd2_12,hrd2_14,hrd2_16,hrd2_20,hrd2_19,hrd2_21,hrd2_23,hrd2_31,hrd2_30,exitRQ_ret,exitRQ_exit,Int.toNat_natCast,Nat.mul_one,hun,hun'])
            refine (ReadTags_fn w38 hq38.1 hrok).mono ?_
            rintro _ w39 ⟨qme0e1,rfl,hT39,hTn,hq39,hu39⟩
            have hx2_39 := hu39.blk_some hx2_38 (by omega)
            have hV39 : Upd (fun b => b = R2 ∨ b = rb) w38 w39 := hu39.mono (fun _ h => .inr h)
            have hU39 : Upd (fun b => b = vb ∨ b = rb) w1 w39 := hU38.trans' hV39 fun i hi h => h.elim (fun h => by omega) .inr
            have hz39 := hV39.size
            have hG39 : Glo ev w39 := hG1.updS hU39 hgM1 hgM2
            obtain ⟨X39,hX39⟩ : ∃ X : Array Value,X = (A2 ++ (([.int .i32 (rdInt .i32 4 s5).1,.int .i16 (rdInt .i16 2 s6).1,.pointer ap17,.int .i32 (rdInt .i32 4 s8).1,.int .i64 (rdInt .i64 8 s9).1,.slice aa2 N2 qq2,.map none] : List Value) ++ B2)).toArray := ⟨_,rfl⟩
            have hxb39 : blk w39 R2 = some (X39,276,(0,0)) := by rw [hX39];exact hx2_39
            have hXs39 : j2 * 7 + 7 ≤ X39.size := by rw [hX39];simp only [List.size_toArray,List.length_append,List.length_cons,List.length_nil,hA2];omega
            obtain ⟨s19,hs19⟩ : ∃ s,s = (rdTags s18).2 := ⟨_,rfl⟩
            rw [← hs19] at hq39 hfine0e1
            have hst39_6 : j2 * 7 + 7 ≤ X39.size := by omega
            try simp (maxSteps:=1000000)(disch:=(first|omega|(simp only [qI,qJ,qK]<;>omega)|exact qL _)) only [go_sem,↓reduceIte,n0,reduceCtorEq,n1,n2,n3,n4,n5,i0,i1,i2,i3,i4,i5,i6,i7,hxb39,hrd2_2,hrd2_7,hrd2_8,hrd2_9,hrd2_10,hrd2_13,hrd2_12,hrd2_14,hrd2_16,hrd2_20,hrd2_19,hrd2_21,hrd2_23,hrd2_31,hrd2_30,exitRQ_ret,exitRQ_exit,Int.toNat_natCast,Nat.mul_one,hun,hun',hst39_6]
            repeat ((first | refine qA rfl ?_|refine qB ?_|refine qC rfl ?_|refine qD ?_|refine qE ?_|refine qF ?_|refine qG ?_|refine qH ?_);try simp (maxSteps:=1000000)(disch:=(first|omega|(simp only [qI,qJ,qK]<;>omega)|exact qL _)) only [go_sem,↓reduceIte,n0,reduceCtorEq,n1,n2,n3,n4,n5,i0,i1,i2,i3,i4,i5,i6,i7,hxb39,hrd2_2,hrd2_7,hrd2_8,hrd2_9,hrd2_10,hrd2_13,hrd2_12,hrd2_14,hrd2_16,hrd2_20,hrd2_19,hrd2_21,hrd2_23,hrd2_31,hrd2_30,exitRQ_ret,exitRQ_exit,Int.toNat_natCast,Nat.mul_one,hun,hun',hst39_6])
            generalize hw40 : wr w39 R2 (j2 * 7 + 6) [.map qme0e1] = w40
            have hS40 : Upd (fun b => b = R2 ∨ b = rb) w39 w40 := by rw [← hw40];exact (Upd.refl _ _).wr _ _ (.inr (.inl rfl))
            have hx2_40 : blk w40 R2 = some ((A2 ++ (([.int .i32 (rdInt .i32 4 s5).1,.int .i16 (rdInt .i16 2 s6).1,.pointer ap17,.int .i32 (rdInt .i32 4 s8).1,.int .i64 (rdInt .i64 8 s9).1,.slice aa2 N2 qq2,.map qme0e1] : List Value) ++ B2)).toArray,276,(0,0)) := by rw [← hw40];exact el_blk (o := 6) hx2_39 hA2 (Nat.le_of_ble_eq_true rfl)
            have hV40 := hS40
            have hU40 : Upd (fun b => b = vb ∨ b = rb) w1 w40 := hU39.trans' hV40 fun i hi h => h.elim (fun h => by omega) .inr
            have hz40 := hV40.size
            have hG40 : Glo ev w40 := hG1.updS hU40 hgM1 hgM2
            have hq40 : Rdr RT ok w40 rb s19 ∧ NN w40 rb s19 := by
              have hn : ∀ x,x = w40 → (Rdr RT ok x rb s19 ∧ NN x rb s19) := fun x hx => by
                rw [hx,← hw40]
                exact Rdr.store hq39 (by omega) (fun h => by have := (hok _ h).1;first | omega | exact (hok _ h).2 rfl)
              exact hn _ rfl
            obtain ⟨X40,hX40⟩ : ∃ X : Array Value,X = (A2 ++ (([.int .i32 (rdInt .i32 4 s5).1,.int .i16 (rdInt .i16 2 s6).1,.pointer ap17,.int .i32 (rdInt .i32 4 s8).1,.int .i64 (rdInt .i64 8 s9).1,.slice aa2 N2 qq2,.map qme0e1] : List Value) ++ B2)).toArray := ⟨_,rfl⟩
            have hxb40 : blk w40 R2 = some (X40,276,(0,0)) := by rw [hX40];exact hx2_40
            have hXs40 : j2 * 7 + 7 ≤ X40.size := by rw [hX40];simp only [List.size_toArray,List.length_append,List.length_cons,List.length_nil,hA2];omega
            clear hw40
            have hTge0e1 : TagsM (fun b => (fun b => (ok b ∨ w1.heap.size ≤ b) ∧ ¬ ownB va0 b) b ∧ ¬ ownB va1 b) w40 (.map qme0e1) (rdTags s18).1 := (hT39.weaken fun b _ hk => hk.elim (fun hk => ⟨⟨.inl hk,fun ho => by have := (hown1 b ho).1;have := (hok b hk).1;omega⟩,fun ho => by have := (hown2 b ho).1;have := (hok b hk).1;omega⟩) (fun h => by have h' : w38.heap.size ≤ b := h;exact ⟨⟨.inr (by omega),fun ho => by have := (hown1 _ ho).2;omega⟩,fun ho => by have := (hown2 _ ho).2;omega⟩)).keep (hV40.keeps fun b _ hk e => hoM2 b hk e)
            have hCe0e1_40 : Upd (fun b => b = R2 ∨ b = rb) w40 w40 := Upd.refl _ _
            have hCe0e1_39 : Upd (fun b => b = R2 ∨ b = rb) w39 w40 := hV40.trans hCe0e1_40
            have hCe0e1_38 : Upd (fun b => b = R2 ∨ b = rb) w38 w40 := hV39.trans hCe0e1_39
            have hCe0e1_37 : Upd (fun b => b = R2 ∨ b = rb) w37 w40 := hV38.trans hCe0e1_38
            have hCe0e1_23 : Upd (fun b => b = R2 ∨ b = rb) w23 w40 := hV37.trans hCe0e1_37
            have hCe0e1_22 : Upd (fun b => b = R2 ∨ b = rb) w22 w40 := hV23.trans hCe0e1_23
            have hCe0e1_21 : Upd (fun b => b = R2 ∨ b = rb) w21 w40 := hV22.trans hCe0e1_22
            have hCe0e1_20 : Upd (fun b => b = R2 ∨ b = rb) w20 w40 := hV21.trans hCe0e1_21
            have hCe0e1_19 : Upd (fun b => b = R2 ∨ b = rb) w19 w40 := hV20.trans hCe0e1_20
            have hCe0e1_18 : Upd (fun b => b = R2 ∨ b = rb) w18 w40 := hV19.trans hCe0e1_19
            have hCe0e1_17 : Upd (fun b => b = R2 ∨ b = rb) w17 w40 := hV18.trans hCe0e1_18
            have hCe0e1_16 : Upd (fun b => b = R2 ∨ b = rb) w16 w40 := hV17.trans hCe0e1_17
            have hCe0e1_15 : Upd (fun b => b = R2 ∨ b = rb) w15 w40 := hV16.trans hCe0e1_16
            have hCe0e1_14 : Upd (fun b => b = R2 ∨ b = rb) w14 w40 := hV15.trans hCe0e1_15
            have hCe0e1_13 : Upd (fun b => b = R2 ∨ b = rb) w13 w40 := hV14.trans hCe0e1_14
            have hCe0e1_12 : Upd (fun b => b = R2 ∨ b = rb) w12 w40 := hV13.trans hCe0e1_13
            have hCe0e1_11 : Upd (fun b => b = R2 ∨ b = rb) w11 w40 := hV12.trans hCe0e1_12
            have hRe0e1 : RepS true (d + 2) fs_X1 (fun b => (fun b => (ok b ∨ w1.heap.size ≤ b) ∧ ¬ ownB va0 b) b ∧ ¬ ownB va1 b) w40 (.mk 0 [] false [xe0e1_0,xe0e1_1,xe0e1_2,xe0e1_3,xe0e1_4,xe0e1_5] (rdTags s18).1) [.int .i32 (rdInt .i32 4 s5).1,.int .i16 (rdInt .i16 2 s6).1,.pointer ap17,.int .i32 (rdInt .i32 4 s8).1,.int .i64 (rdInt .i64 8 s9).1,.slice aa2 N2 qq2,.map qme0e1] := RepS.introT (c := [.int .i32 (rdInt .i32 4 s5).1,.int .i16 (rdInt .i16 2 s6).1,.pointer ap17,.int .i32 (rdInt .i32 4 s8).1,.int .i64 (rdInt .i64 8 s9).1,.slice aa2 N2 qq2]) (RepL.cons1 (hfe0e1_0.keepS (hCe0e1_14.keeps fun b _ hk e => hoM2 b hk e)) (RepL.cons1 (hfe0e1_1.keepS (hCe0e1_16.keeps fun b _ hk e => hoM2 b hk e)) (RepL.cons1 (hfe0e1_2.keepS (hCe0e1_18.keeps fun b _ hk e => hoM2 b hk e)) (RepL.cons1 (hfe0e1_3.keepS (hCe0e1_20.keeps fun b _ hk e => hoM2 b hk e)) (RepL.cons1 (hfe0e1_4.keepS (hCe0e1_22.keeps fun b _ hk e => hoM2 b hk e)) (RepL.cons1 (hfe0e1_5.keepS (hCe0e1_38.keeps fun b _ hk e => hoM2 b hk e)) RepL.nil)))))) hTge0e1
            have hrE : (rd1 (rdP (d + 2) ver true) fX2_1.of fX2_1.sub false true) s5 = ((.mk 0 [] false [xe0e1_0,xe0e1_1,xe0e1_2,xe0e1_3,xe0e1_4,xe0e1_5] (rdTags s18).1),s19) := by rw [show (rd1 (rdP (d + 2) ver true) fX2_1.of fX2_1.sub false true) s5 = _ from rd1_part];exact hfine0e1
            have hxE : (Rep1 (RepS true (d + 2)) fX2_1.of fX2_1.sub) (fun b => (fun b => (ok b ∨ w1.heap.size ≤ b) ∧ ¬ ownB va0 b) b ∧ ¬ ownB va1 b) w40 (.mk 0 [] false [xe0e1_0,xe0e1_1,xe0e1_2,xe0e1_3,xe0e1_4,xe0e1_5] (rdTags s18).1) [.int .i32 (rdInt .i32 4 s5).1,.int .i16 (rdInt .i16 2 s6).1,.pointer ap17,.int .i32 (rdInt .i32 4 s8).1,.int .i64 (rdInt .i64 8 s9).1,.slice aa2 N2 qq2,.map qme0e1] := Rep1_part.2 hRe0e1
            repeat ((first | refine qA rfl ?_|refine qB ?_|refine qC rfl ?_|refine qD ?_|refine qE ?_|refine qF ?_|refine qG ?_|refine qH ?_);try simp (maxSteps:=1000000)(disch:=(first|omega|(simp only [qI,qJ,qK]<;>omega)|exact qL _)) only [go_sem,↓reduceIte,n0,reduceCtorEq,n1,n2,n3,n4,n5,i0,i1,i2,i3,i4,i5,i6,i7,hxb40,hrd2_2,hrd2_7,hrd2_8,hrd2_9,hrd2_10,hrd2_13,hrd2_12,hrd2_14,hrd2_16,hrd2_20,hrd2_19,hrd2_21,hrd2_23,hrd2_31,hrd2_30,exitRQ_ret,exitRQ_exit,Int.toNat_natCast,Nat.mul_one,hun,hun'])
            have hTk : Upd (fun b => b = R2 ∨ b = rb) w11 w40 := (((((((((((((((hV12.trans hV13).trans hV14).trans hV15).trans hV16).trans hV17).trans hV18).trans hV19).trans hV20).trans hV21).trans hV22).trans hV23).trans hV37).trans hV38).trans hV39).trans hV40)
            have hL' := hL1.step (Rep1_lay _ _ fun _ => RepS_lay true _ _) hlt1 (hnext2 w40 [.int .i32 (rdInt .i32 4 s5).1,.int .i16 (rdInt .i16 2 s6).1,.pointer ap17,.int .i32 (rdInt .i32 4 s8).1,.int .i64 (rdInt .i64 8 s9).1,.slice aa2 N2 qq2,.map qme0e1] rfl hx2_40) (by rw [hrE];exact hxE) (hTk.mono fun b h => h.imp (fun e => ⟨_,_,_,hva2,e⟩) id) (by rw [hrE];exact hq40) (fun h => hoM1 rb h (.inr rfl)) (Nat.le_refl _)
            have hij : IntKind.i32.wrap ((j2 : Int) + 1) = ((j2 + 1 : Nat) : Int) := by rw [i32_wrap (by omega)];omega
            repeat ((first | refine qA rfl ?_|refine qB ?_|refine qC rfl ?_|refine qD ?_|refine qE ?_|refine qF ?_|refine qG ?_|refine qH ?_);try simp (maxSteps:=1000000)(disch:=(first|omega|(simp only [qI,qJ,qK]<;>omega)|exact qL _)) only [go_sem,↓reduceIte,n0,reduceCtorEq,n1,n2,n3,n4,n5,i0,i1,i2,i3,i4,i5,i6,i7,hxb40,hrd2_2,hrd2_7,hrd2_8,hrd2_9,hrd2_10,hrd2_13,hrd2_12,hrd2_14,hrd2_16,hrd2_20,hrd2_19,hrd2_21,hrd2_23,hrd2_31,hrd2_30,exitRQ_ret,exitRQ_exit,Int.toNat_natCast,Nat.mul_one,hun,hun',hij])
            refine ⟨⟨(by simp (maxSteps:=1000000)(disch:=(first|omega|(simp only [qI,qJ,qK]<;>omega)|exact qL _)) only [go_sem,↓reduceIte,n0,reduceCtorEq,n1,n2,n3,n4,n5,i0,i1,i2,i3,i4,i5,i6,i7,Holds_nil,Holds_cons,hrd2_2,hrd2_7,hrd2_8,hrd2_9,hrd2_10,hrd2_13,hrd2_12,hrd2_14,hrd2_16,hrd2_20,hrd2_19,hrd2_21,hrd2_23,hrd2_31,hrd2_30];exact hva2.symm),j2 + 1,(by simp (maxSteps:=1000000)(disch:=(first|omega|(simp only [qI,qJ,qK]<;>omega)|exact qL _)) only [go_sem,↓reduceIte,n0,reduceCtorEq,n1,n2,n3,n4,n5,i0,i1,i2,i3,i4,i5,i6,i7,hrd2_2,hrd2_7,hrd2_8,hrd2_9,hrd2_10,hrd2_13,hrd2_12,hrd2_14,hrd2_16,hrd2_20,hrd2_19,hrd2_21,hrd2_23,hrd2_31,hrd2_30,hij];all_goals rfl),_,_,_,hL'⟩,?_⟩
            try simp (maxSteps:=1000000)(disch:=(first|omega|(simp only [qI,qJ,qK]<;>omega)|exact qL _)) only [go_sem,↓reduceIte,n0,reduceCtorEq,n1,n2,n3,n4,n5,i0,i1,i2,i3,i4,i5,i6,i7,hrd2_2,hrd2_7,hrd2_8,hrd2_9,hrd2_10,hrd2_13,hrd2_12,hrd2_14,hrd2_16,hrd2_20,hrd2_19,hrd2_21,hrd2_23,hrd2_31,hrd2_30]
            simp only [RowKit.intOf]
            omega
          · have hjN : j2 = N1 := by omega
            rw [hjN] at hL1
            repeat ((first | refine qA rfl ?_|refine qB ?_|refine qC rfl ?_|refine qD ?_|refine qE ?_|refine qF ?_|refine qG ?_|refine qH ?_);try simp (maxSteps:=1000000)(disch:=(first|omega|(simp only [qI,qJ,qK]<;>omega)|exact qL _)) only [go_sem,↓reduceIte,n0,reduceCtorEq,n1,n2,n3,n4,n5,i0,i1,i2,i3,i4,i5,i6,i7,hrc1_2,hrc1_7,hrc1_8,hrc1_9,hrc1_10,hrc1_13,hrc1_12,hrc1_14,hrc1_16,hrc1_20,hrc1_19,hri1,exitRQ_ret,exitRQ_exit])
            exact ⟨(by simp (maxSteps:=1000000)(disch:=(first|omega|(simp only [qI,qJ,qK]<;>omega)|exact qL _)) only [go_sem,↓reduceIte,n0,reduceCtorEq,n1,n2,n3,n4,n5,i0,i1,i2,i3,i4,i5,i6,i7,Holds_nil,Holds_cons,hrc1_2,hrc1_7,hrc1_8,hrc1_9,hrc1_10,hrc1_13,hrc1_12,hrc1_14,hrc1_16,hrc1_20,hrc1_19,hri1]),s5,xs1,css1,hL1⟩
        rintro ρ w41 ⟨⟨hrd1_2,hrd1_7,hrd1_8,hrd1_9,hrd1_10,hrd1_13,hrd1_12,hrd1_14,hrd1_16,hrd1_20,hrd1_19,-⟩,s20,xs1,css1,hL1⟩
        have hq41 := hL1.rd
        have hu41 := hL1.upd
        have hx1_41 := hu41.blk_some hx1_9 (by omega)
        have hV41 : Upd (fun b => b = R1 ∨ b = rb) w9 w41 := hu41.mono (fun _ h => .inr h)
        have hU41 : Upd (fun b => b = vb ∨ b = rb) w1 w41 := hU9.trans' hV41 fun i hi h => h.elim (fun h => by omega) .inr
        have hz41 := hV41.size
        have hG41 : Glo ev w41 := hG1.updS hU41 hgM1 hgM2
        obtain ⟨X41,hX41⟩ : ∃ X : Array Value,X = (A1 ++ (([ue00_0,ue00_1,ue00_2,ue00_3,ue00_4,ue00_5,ue00_6,ue00_7,ue00_8,ue00_9,ue00_10,ue00_11,ue00_12,ue00_13,ue00_14,ue00_15,.slice none 0 0,.map none] : List Value) ++ B1)).toArray := ⟨_,rfl⟩
        have hxb41 : blk w41 R1 = some (X41,193,(0,0)) := by rw [hX41];exact hx1_41
        have hXs41 : j1 * 18 + 18 ≤ X41.size := by rw [hX41];simp only [List.size_toArray,List.length_append,List.length_cons,List.length_nil,hA1];omega
        have hrd1 : rdF (rdP (d + 2) ver true) ver true fX2_1 s3 = (.mk 0 [] (nilS fX2_1 ver y1) xs1 [],s20) := by
          have h := rdF_listE (pt := (rdP (d + 2) ver true)) (v := ver) (flex := true) (f := fX2_1) (s := s3) (xs := xs1) (e := s20) rfl (by rw [hy1,← hN1,← hs4];exact hL1.done)
          rw [hy1] at h;exact h
        have hs20 : s20 = (rdF (rdP (d + 2) ver true) ver true fX2_1 s3).2 := by rw [hrd1]
        obtain ⟨aa1,qq1,hvs1⟩ := hL1.row.shape
        subst hvs1
        have hst41_16 : j1 * 18 + 17 ≤ X41.size := by omega
        repeat ((first | refine qA rfl ?_|refine qB ?_|refine qC rfl ?_|refine qD ?_|refine qE ?_|refine qF ?_|refine qG ?_|refine qH ?_);try simp (maxSteps:=1000000)(disch:=(first|omega|(simp only [qI,qJ,qK]<;>omega)|exact qL _)) only [go_sem,↓reduceIte,n0,reduceCtorEq,n1,n2,n3,n4,n5,i0,i1,i2,i3,i4,i5,i6,i7,hxb41,hrd1_2,hrd1_7,hrd1_8,hrd1_9,hrd1_10,hrd1_13,hrd1_12,hrd1_14,hrd1_16,hrd1_20,hrd1_19,exitRQ_ret,exitRQ_exit,Int.toNat_natCast,Nat.mul_one,hun,hun',hst41_16])
        generalize hw42 : wr w41 R1 (j1 * 18 + 16) [.slice aa1 N1 qq1] = w42
        have hS42 : Upd (fun b => b = R1 ∨ b = rb) w41 w42 := by rw [← hw42];exact (Upd.refl _ _).wr _ _ (.inr (.inl rfl))
        have hx1_42 : blk w42 R1 = some ((A1 ++ (([ue00_0,ue00_1,ue00_2,ue00_3,ue00_4,ue00_5,ue00_6,ue00_7,ue00_8,ue00_9,ue00_10,ue00_11,ue00_12,ue00_13,ue00_14,ue00_15,.slice aa1 N1 qq1,.map none] : List Value) ++ B1)).toArray,193,(0,0)) := by rw [← hw42];exact el_blk (o := 16) hx1_41 hA1 (Nat.le_of_ble_eq_true rfl)
        have hV42 := hS42
        have hU42 : Upd (fun b => b = vb ∨ b = rb) w1 w42 := hU41.trans' hV42 fun i hi h => h.elim (fun h => by omega) .inr
        have hz42 := hV42.size
        have hG42 : Glo ev w42 := hG1.updS hU42 hgM1 hgM2
        have hq42 : Rdr RT ok w42 rb s20 ∧ NN w42 rb s20 := by
          have hn : ∀ x,x = w42 → (Rdr RT ok x rb s20 ∧ NN x rb s20) := fun x hx => by
            rw [hx,← hw42]
            exact Rdr.store hq41 (by omega) (fun h => by have := (hok _ h).1;first | omega | exact (hok _ h).2 rfl)
          exact hn _ rfl
        obtain ⟨X42,hX42⟩ : ∃ X : Array Value,X = (A1 ++ (([ue00_0,ue00_1,ue00_2,ue00_3,ue00_4,ue00_5,ue00_6,ue00_7,ue00_8,ue00_9,ue00_10,ue00_11,ue00_12,ue00_13,ue00_14,ue00_15,.slice aa1 N1 qq1,.map none] : List Value) ++ B1)).toArray := ⟨_,rfl⟩
        have hxb42 : blk w42 R1 = some (X42,193,(0,0)) := by rw [hX42];exact hx1_42
        have hXs42 : j1 * 18 + 18 ≤ X42.size := by rw [hX42];simp only [List.size_toArray,List.length_append,List.length_cons,List.length_nil,hA1];omega
        clear hw42
        have hfe0_1 : RepF (RepS true (d + 2)) (szS true (d + 2)) fX2_1 (fun b => (ok b ∨ w1.heap.size ≤ b) ∧ ¬ ownB va0 b) w42 (xe0_1) [.slice aa1 N1 qq1] := by rw [hxe0_1,hrd1];exact RepF.keepS (RepF_row rfl hnc1 hN1 rfl hL1.row hL1.all (fun b hb => ⟨.inr (by omega),fun ho => by have := (hown1 _ ho).2;omega⟩)) (hV42.keeps fun b _ hk e => hoM1 b hk e)
        clear hL1 hnc1
        have hle0_2 : rdL (rdP (d + 2) ver true) (dfP (d + 2)) ver true [] s20 = ([],s20) := rfl
        have hle0_1 : rdL (rdP (d + 2) ver true) (dfP (d + 2)) ver true [fX2_1] s3 = ([xe0_1],s20) := by rw [rdL_st (by decide) hhe0_1,← hxe0_1,← hs20,hle0_2]
        have hle0_0 : rdL (rdP (d + 2) ver true) (dfP (d + 2)) ver true [fX2_0,fX2_1] s2 = ([xe0_0,xe0_1],s20) := by rw [rdL_st (by decide) hhe0_0,← hxe0_0,← hs3,hle0_1]
        have hfine0 : rdP (d + 3) ver true fs_X2 s2 = (.mk 0 [] false [xe0_0,xe0_1] (rdTags s20).1,(rdTags s20).2) := rdP_t hle0_0
        repeat ((first | refine qA rfl ?_|refine qB ?_|refine qC rfl ?_|refine qD ?_|refine qE ?_|refine qF ?_|refine qG ?_|refine qH ?_);try simp (maxSteps:=1000000)(disch:=(first|omega|(simp only [qI,qJ,qK]<;>omega)|exact qL _)) only [go_sem,↓reduceIte,n0,reduceCtorEq,n1,n2,n3,n4,n5,i0,i1,i2,i3,i4,i5,i6,i7,hxb42,hrd1_2,hrd1_7,hrd1_8,hrd1_9,hrd1_10,hrd1_13,hrd1_12,hrd1_14,hrd1_16,hrd1_20,hrd1_19,exitRQ_ret,exitRQ_exit,Int.toNat_natCast,Nat.mul_one,hun,hun'])
        refine (ReadTags_fn w42 hq42.1 hrok).mono ?_
        rintro _ w43 ⟨qme0,rfl,hT43,hTn,hq43,hu43⟩
        have hx1_43 := hu43.blk_some hx1_42 (by omega)
        have hV43 : Upd (fun b => b = R1 ∨ b = rb) w42 w43 := hu43.mono (fun _ h => .inr h)
        have hU43 : Upd (fun b => b = vb ∨ b = rb) w1 w43 := hU42.trans' hV43 fun i hi h => h.elim (fun h => by omega) .inr
        have hz43 := hV43.size
        have hG43 : Glo ev w43 := hG1.updS hU43 hgM1 hgM2
        obtain ⟨X43,hX43⟩ : ∃ X : Array Value,X = (A1 ++ (([ue00_0,ue00_1,ue00_2,ue00_3,ue00_4,ue00_5,ue00_6,ue00_7,ue00_8,ue00_9,ue00_10,ue00_11,ue00_12,ue00_13,ue00_14,ue00_15,.slice aa1 N1 qq1,.map none] : List Value) ++ B1)).toArray := ⟨_,rfl⟩
        have hxb43 : blk w43 R1 = some (X43,193,(0,0)) := by rw [hX43];exact hx1_43
        have hXs43 : j1 * 18 + 18 ≤ X43.size := by rw [hX43];simp only [List.size_toArray,List.length_append,List.length_cons,List.length_nil,hA1];omega
        obtain ⟨s21,hs21⟩ : ∃ s,s = (rdTags s20).2 := ⟨_,rfl⟩
        rw [← hs21] at hq43 hfine0
        have hst43_17 : j1 * 18 + 18 ≤ X43.size := by omega
        try simp (maxSteps:=1000000)(disch:=(first|omega|(simp only [qI,qJ,qK]<;>omega)|exact qL _)) only [go_sem,↓reduceIte,n0,reduceCtorEq,n1,n2,n3,n4,n5,i0,i1,i2,i3,i4,i5,i6,i7,hxb43,hrd1_2,hrd1_7,hrd1_8,hrd1_9,hrd1_10,hrd1_13,hrd1_12,hrd1_14,hrd1_16,hrd1_20,hrd1_19,exitRQ_ret,exitRQ_exit,Int.toNat_natCast,Nat.mul_one,hun,hun',hst43_17]
        repeat ((first | refine qA rfl ?_|refine qB ?_|refine qC rfl ?_|refine qD ?_|refine qE ?_|refine qF ?_|refine qG ?_|refine qH ?_);try simp (maxSteps:=1000000)(disch:=(first|omega|(simp only [qI,qJ,qK]<;>omega)|exact qL _)) only [go_sem,↓reduceIte,n0,reduceCtorEq,n1,n2,n3,n4,n5,i0,i1,i2,i3,i4,i5,i6,i7,hxb43,hrd1_2,hrd1_7,hrd1_8,hrd1_9,hrd1_10,hrd1_13,hrd1_12,hrd1_14,hrd1_16,hrd1_20,hrd1_19,exitRQ_ret,exitRQ_exit,Int.toNat_natCast,Nat.mul_one,hun,hun',hst43_17])
        generalize hw44 : wr w43 R1 (j1 * 18 + 17) [.map qme0] = w44
        have hS44 : Upd (fun b => b = R1 ∨ b = rb) w43 w44 := by rw [← hw44];exact (Upd.refl _ _).wr _ _ (.inr (.inl rfl))
        have hx1_44 : blk w44 R1 = some ((A1 ++ (([ue00_0,ue00_1,ue00_2,ue00_3,ue00_4,ue00_5,ue00_6,ue00_7,ue00_8,ue00_9,ue00_10,ue00_11,ue00_12,ue00_13,ue00_14,ue00_15,.slice aa1 N1 qq1,.map qme0] : List Value) ++ B1)).toArray,193,(0,0)) := by rw [← hw44];exact el_blk (o := 17) hx1_43 hA1 (Nat.le_of_ble_eq_true rfl)
        have hV44 := hS44
        have hU44 : Upd (fun b => b = vb ∨ b = rb) w1 w44 := hU43.trans' hV44 fun i hi h => h.elim (fun h => by omega) .inr
        have hz44 := hV44.size
        have hG44 : Glo ev w44 := hG1.updS hU44 hgM1 hgM2
        have hq44 : Rdr RT ok w44 rb s21 ∧ NN w44 rb s21 := by
          have hn : ∀ x,x = w44 → (Rdr RT ok x rb s21 ∧ NN x rb s21) := fun x hx => by
            rw [hx,← hw44]
            exact Rdr.store hq43 (by omega) (fun h => by have := (hok _ h).1;first | omega | exact (hok _ h).2 rfl)
          exact hn _ rfl
        obtain ⟨X44,hX44⟩ : ∃ X : Array Value,X = (A1 ++ (([ue00_0,ue00_1,ue00_2,ue00_3,ue00_4,ue00_5,ue00_6,ue00_7,ue00_8,ue00_9,ue00_10,ue00_11,ue00_12,ue00_13,ue00_14,ue00_15,.slice aa1 N1 qq1,.map qme0] : List Value) ++ B1)).toArray := ⟨_,rfl⟩
        have hxb44 : blk w44 R1 = some (X44,193,(0,0)) := by rw [hX44];exact hx1_44
        have hXs44 : j1 * 18 + 18 ≤ X44.size := by rw [hX44];simp only [List.size_toArray,List.length_append,List.length_cons,List.length_nil,hA1];omega
        clear hw44
        have hTge0 : TagsM (fun b => (ok b ∨ w1.heap.size ≤ b) ∧ ¬ ownB va0 b) w44 (.map qme0) (rdTags s20).1 := (hT43.weaken fun b _ hk => hk.elim (fun hk => ⟨.inl hk,fun ho => by have := (hown1 b ho).1;have := (hok b hk).1;omega⟩) (fun h => by have h' : w42.heap.size ≤ b := h;exact ⟨.inr (by omega),fun ho => by have := (hown1 _ ho).2;omega⟩)).keep (hV44.keeps fun b _ hk e => hoM1 b hk e)
        have hCe0_44 : Upd (fun b => b = R1 ∨ b = rb) w44 w44 := Upd.refl _ _
        have hCe0_43 : Upd (fun b => b = R1 ∨ b = rb) w43 w44 := hV44.trans hCe0_44
        have hCe0_42 : Upd (fun b => b = R1 ∨ b = rb) w42 w44 := hV43.trans hCe0_43
        have hCe0_41 : Upd (fun b => b = R1 ∨ b = rb) w41 w44 := hV42.trans hCe0_42
        have hCe0_9 : Upd (fun b => b = R1 ∨ b = rb) w9 w44 := hV41.trans hCe0_41
        have hCe0_8 : Upd (fun b => b = R1 ∨ b = rb) w8 w44 := hV9.trans hCe0_9
        have hCe0_7 : Upd (fun b => b = R1 ∨ b = rb) w7 w44 := hV8.trans hCe0_8
        have hCe0_6 : Upd (fun b => b = R1 ∨ b = rb) w6 w44 := hV7.trans hCe0_7
        have hCe0_5 : Upd (fun b => b = R1 ∨ b = rb) w5 w44 := hV6.trans hCe0_6
        have hCe0_4 : Upd (fun b => b = R1 ∨ b = rb) w4 w44 := hV5.trans hCe0_5
        have hRe0 : RepS true (d + 3) fs_X2 (fun b => (ok b ∨ w1.heap.size ≤ b) ∧ ¬ ownB va0 b) w44 (.mk 0 [] false [xe0_0,xe0_1] (rdTags s20).1) [ue00_0,ue00_1,ue00_2,ue00_3,ue00_4,ue00_5,ue00_6,ue00_7,ue00_8,ue00_9,ue00_10,ue00_11,ue00_12,ue00_13,ue00_14,ue00_15,.slice aa1 N1 qq1,.map qme0] := RepS.introT (c := [ue00_0,ue00_1,ue00_2,ue00_3,ue00_4,ue00_5,ue00_6,ue00_7,ue00_8,ue00_9,ue00_10,ue00_11,ue00_12,ue00_13,ue00_14,ue00_15,.slice aa1 N1 qq1]) (RepL.cons16 (hfe0_0.keepS (hCe0_8.keeps fun b _ hk e => hoM1 b hk e)) (RepL.cons1 (hfe0_1.keepS (hCe0_42.keeps fun b _ hk e => hoM1 b hk e)) RepL.nil)) hTge0
        have hrE : (rd1 (rdP (d + 3) ver true) fReadShareGroupStateResponse_0.of fReadShareGroupStateResponse_0.sub false true) s2 = ((.mk 0 [] false [xe0_0,xe0_1] (rdTags s20).1),s21) := by rw [show (rd1 (rdP (d + 3) ver true) fReadShareGroupStateResponse_0.of fReadShareGroupStateResponse_0.sub false true) s2 = _ from rd1_part];exact hfine0
        have hxE : (Rep1 (RepS true (d + 3)) fReadShareGroupStateResponse_0.of fReadShareGroupStateResponse_0.sub) (fun b => (ok b ∨ w1.heap.size ≤ b) ∧ ¬ ownB va0 b) w44 (.mk 0 [] false [xe0_0,xe0_1] (rdTags s20).1) [ue00_0,ue00_1,ue00_2,ue00_3,ue00_4,ue00_5,ue00_6,ue00_7,ue00_8,ue00_9,ue00_10,ue00_11,ue00_12,ue00_13,ue00_14,ue00_15,.slice aa1 N1 qq1,.map qme0] := Rep1_part.2 hRe0
        repeat ((first | refine qA rfl ?_|refine qB ?_|refine qC rfl ?_|refine qD ?_|refine qE ?_|refine qF ?_|refine qG ?_|refine qH ?_);try simp (maxSteps:=1000000)(disch:=(first|omega|(simp only [qI,qJ,qK]<;>omega)|exact qL _)) only [go_sem,↓reduceIte,n0,reduceCtorEq,n1,n2,n3,n4,n5,i0,i1,i2,i3,i4,i5,i6,i7,hxb44,hrd1_2,hrd1_7,hrd1_8,hrd1_9,hrd1_10,hrd1_13,hrd1_12,hrd1_14,hrd1_16,hrd1_20,hrd1_19,exitRQ_ret,exitRQ_exit,Int.toNat_natCast,Nat.mul_one,hun,hun'])
        have hTk : Upd (fun b => b = R1 ∨ b = rb) w4 w44 := ((((((((hV5.trans hV6).trans hV7).trans hV8).trans hV9).trans hV41).trans hV42).trans hV43).trans hV44)
        have hL' := hL0.step (Rep1_lay _ _ fun _ => RepS_lay true _ _) hlt0 (hnext1 w44 [ue00_0,ue00_1,ue00_2,ue00_3,ue00_4,ue00_5,ue00_6,ue00_7,ue00_8,ue00_9,ue00_10,ue00_11,ue00_12,ue00_13,ue00_14,ue00_15,.slice aa1 N1 qq1,.map qme0] rfl hx1_44) (by rw [hrE];exact hxE) (hTk.mono fun b h => h.imp (fun e => ⟨_,_,_,hva1,e⟩) id) (by rw [hrE];exact hq44) (fun h => hoM rb h (.inr rfl)) (Nat.le_refl _)
        have hij : IntKind.i32.wrap ((j1 : Int) + 1) = ((j1 + 1 : Nat) : Int) := by rw [i32_wrap (by omega)];omega
        repeat ((first | refine qA rfl ?_|refine qB ?_|refine qC rfl ?_|refine qD ?_|refine qE ?_|refine qF ?_|refine qG ?_|refine qH ?_);try simp (maxSteps:=1000000)(disch:=(first|omega|(simp only [qI,qJ,qK]<;>omega)|exact qL _)) only [go_sem,↓reduceIte,n0,reduceCtorEq,n1,n2,n3,n4,n5,i0,i1,i2,i3,i4,i5,i6,i7,hxb44,hrd1_2,hrd1_7,hrd1_8,hrd1_9,hrd1_10,hrd1_13,hrd1_12,hrd1_14,hrd1_16,hrd1_20,hrd1_19,exitRQ_ret,exitRQ_exit,Int.toNat_natCast,Nat.mul_one,hun,hun',hij])
        refine ⟨⟨(by simp (maxSteps:=1000000)(disch:=(first|omega|(simp only [qI,qJ,qK]<;>omega)|exact qL _)) only [go_sem,↓reduceIte,n0,reduceCtorEq,n1,n2,n3,n4,n5,i0,i1,i2,i3,i4,i5,i6,i7,Holds_nil,Holds_cons,hrd1_2,hrd1_7,hrd1_8,hrd1_9,hrd1_10,hrd1_13,hrd1_12,hrd1_14,hrd1_16,hrd1_20,hrd1_19];exact hva1.symm),j1 + 1,(by simp (maxSteps:=1000000)(disch:=(first|omega|(simp only [qI,qJ,qK]<;>omega)|exact qL _)) only [go_sem,↓reduceIte,n0,reduceCtorEq,n1,n2,n3,n4,n5,i0,i1,i2,i3,i4,i5,i6,i7,hrd1_2,hrd1_7,hrd1_8,hrd1_9,hrd1_10,hrd1_13,hrd1_12,hrd1_14,hrd1_16,hrd1_20,hrd1_19,hij];all_goals rfl),_,_,_,hL'⟩,?_⟩
        try simp (maxSteps:=1000000)(disch:=(first|omega|(simp only [qI,qJ,qK]<;>omega)|exact qL _)) only [go_sem,↓reduceIte,n0,reduceCtorEq,n1,n2,n3,n4,n5,i0,i1,i2,i3,i4,i5,i6,i7,hrd1_2,hrd1_7,hrd1_8,hrd1_9,hrd1_10,hrd1_13,hrd1_12,hrd1_14,hrd1_16,hrd1_20,hrd1_19]
        simp only [RowKit.intOf]
        omega
      · have hjN : j1 = N0 := by omega
        rw [hjN] at hL0
        repeat ((first | refine qA rfl ?_|refine qB ?_|refine qC rfl ?_|refine qD ?_|refine qE ?_|refine qF ?_|refine qG ?_|refine qH ?_);try simp (maxSteps:=1000000)(disch:=(first|omega|(simp only [qI,qJ,qK]<;>omega)|exact qL _)) only [go_sem,↓reduceIte,n0,reduceCtorEq,n1,n2,n3,n4,n5,i0,i1,i2,i3,i4,i5,i6,i7,hrc0_2,hrc0_7,hrc0_8,hrc0_9,hrc0_10,hrc0_13,hrc0_12,hri0,exitRQ_ret,exitRQ_exit])
        exact ⟨(by simp (maxSteps:=1000000)(disch:=(first|omega|(simp only [qI,qJ,qK]<;>omega)|exact qL _)) only [go_sem,↓reduceIte,n0,reduceCtorEq,n1,n2,n3,n4,n5,i0,i1,i2,i3,i4,i5,i6,i7,Holds_nil,Holds_cons,hrc0_2,hrc0_7,hrc0_8,hrc0_9,hrc0_10,hrc0_13,hrc0_12,hri0]),s2,xs0,css0,hL0⟩
    rintro ρ w45 ⟨⟨hrd0_2,hrd0_7,hrd0_8,hrd0_9,hrd0_10,hrd0_13,hrd0_12,-⟩,s22,xs0,css0,hL0⟩
    have hq45 := hL0.rd
    have hu45 := hL0.upd
    have hv_45 := hu45.blk_some hv_2 (by omega)
    have hV45 : Upd (fun b => b = vb ∨ b = rb) w2 w45 := hu45.mono (fun _ h => .inr h)
    have hU45 : Upd (fun b => b = vb ∨ b = rb) w1 w45 := hU2.trans hV45
    have hz45 := hV45.size
    have hG45 : Glo ev w45 := hG1.updS hU45 hgM1 hgM2
    have hrd0 : rdF (rdP (d + 3) ver true) ver true fReadShareGroupStateResponse_0 s0 = (.mk 0 [] (nilS fReadShareGroupStateResponse_0 ver y0) xs0 [],s22) := by
      have h := rdF_listE (pt := (rdP (d + 3) ver true)) (v := ver) (flex := true) (f := fReadShareGroupStateResponse_0) (s := s0) (xs := xs0) (e := s22) rfl (by rw [hy0,← hN0,← hs1];exact hL0.done)
      rw [hy0] at h;exact h
    have hs22 : s22 = (rdF (rdP (d + 3) ver true) ver true fReadShareGroupStateResponse_0 s0).2 := by rw [hrd0]
    obtain ⟨aa0,qq0,hvs0⟩ := hL0.row.shape
    subst hvs0
    repeat ((first | refine qA rfl ?_|refine qB ?_|refine qC rfl ?_|refine qD ?_|refine qE ?_|refine qF ?_|refine qG ?_|refine qH ?_);try simp (maxSteps:=1000000)(disch:=(first|omega|(simp only [qI,qJ,qK]<;>omega)|exact qL _)) only [go_sem,↓reduceIte,n0,reduceCtorEq,n1,n2,n3,n4,n5,i0,i1,i2,i3,i4,i5,i6,i7,hv_45,hrd0_2,hrd0_7,hrd0_8,hrd0_9,hrd0_10,hrd0_13,hrd0_12,hun,hun'])
    generalize hw46 : wr w45 vb 1 [.slice aa0 N0 qq0] = w46
    have hS46 : Upd (fun b => b = vb ∨ b = rb) w45 w46 := by rw [← hw46];exact (Upd.refl _ _).wr _ _ (.inr (.inl rfl))
    have hv_46 : blk w46 vb = some (#[.int .i16 ver,.slice aa0 N0 qq0,.map none],188,(0,0)) := by rw [← hw46,blk_wr_eq,hv_45];rfl
    have hV46 := hS46
    have hU46 : Upd (fun b => b = vb ∨ b = rb) w1 w46 := hU45.trans hV46
    have hz46 := hV46.size
    have hG46 : Glo ev w46 := hG1.updS hU46 hgM1 hgM2
    have hq46 : Rdr RT ok w46 rb s22 ∧ NN w46 rb s22 := by
      have hn : ∀ x,x = w46 → (Rdr RT ok x rb s22 ∧ NN x rb s22) := fun x hx => by
        rw [hx,← hw46]
        exact Rdr.store hq45 (by omega) (fun h => by have := (hok _ h).1;first | omega | exact (hok _ h).2 rfl)
      exact hn _ rfl
    clear hw46
    have hf_0 : RepF (RepS true (d + 3)) (szS true (d + 3)) fReadShareGroupStateResponse_0 (fun b => ok b ∨ w1.heap.size ≤ b) w46 (x_0) [.slice aa0 N0 qq0] := by rw [hx_0,hrd0];exact RepF.keepS (RepF_row rfl hnc0 hN0 rfl hL0.row hL0.all (fun b hb => .inr (by omega))) (hV46.keeps fun b _ hk e => (hoM b hk) e)
    clear hL0 hnc0
    have hl_1 : rdL (rdP (d + 3) ver true) (dfP (d + 3)) ver true [] s22 = ([],s22) := rfl
    have hl_0 : rdL (rdP (d + 3) ver true) (dfP (d + 3)) ver true [fReadShareGroupStateResponse_0] s0 = ([x_0],s22) := by rw [rdL_st (by decide) hh_0,← hx_0,← hs22,hl_1]
    have hfin : rdP (d + 4) ver true fs_ReadShareGroupStateResponse s0 = (.mk 0 [] false [x_0] (rdTags s22).1,(rdTags s22).2) := rdP_t hl_0
    repeat ((first | refine qA rfl ?_|refine qB ?_|refine qC rfl ?_|refine qD ?_|refine qE ?_|refine qF ?_|refine qG ?_|refine qH ?_);try simp (maxSteps:=1000000)(disch:=(first|omega|(simp only [qI,qJ,qK]<;>omega)|exact qL _)) only [go_sem,↓reduceIte,n0,reduceCtorEq,n1,n2,n3,n4,n5,i0,i1,i2,i3,i4,i5,i6,i7,hv_46,hrd0_2,hrd0_7,hrd0_8,hrd0_9,hrd0_10,hrd0_13,hrd0_12,hun,hun'])
    refine (ReadTags_fn w46 hq46.1 hrok).mono ?_
    rintro _ w47 ⟨qm,rfl,hT47,hTn,hq47,hu47⟩
    have hv_47 := hu47.blk_some hv_46 (by omega)
    have hV47 : Upd (fun b => b = vb ∨ b = rb) w46 w47 := hu47.mono (fun _ h => .inr h)
    have hU47 : Upd (fun b => b = vb ∨ b = rb) w1 w47 := hU46.trans hV47
    have hz47 := hV47.size
    have hG47 : Glo ev w47 := hG1.updS hU47 hgM1 hgM2
    obtain ⟨s23,hs23⟩ : ∃ s,s = (rdTags s22).2 := ⟨_,rfl⟩
    rw [← hs23] at hq47 hfin
    try simp (maxSteps:=1000000)(disch:=(first|omega|(simp only [qI,qJ,qK]<;>omega)|exact qL _)) only [go_sem,↓reduceIte,n0,reduceCtorEq,n1,n2,n3,n4,n5,i0,i1,i2,i3,i4,i5,i6,i7,hv_47,hrd0_2,hrd0_7,hrd0_8,hrd0_9,hrd0_10,hrd0_13,hrd0_12,hun,hun']
    repeat ((first | refine qA rfl ?_|refine qB ?_|refine qC rfl ?_|refine qD ?_|refine qE ?_|refine qF ?_|refine qG ?_|refine qH ?_);try simp (maxSteps:=1000000)(disch:=(first|omega|(simp only [qI,qJ,qK]<;>omega)|exact qL _)) only [go_sem,↓reduceIte,n0,reduceCtorEq,n1,n2,n3,n4,n5,i0,i1,i2,i3,i4,i5,i6,i7,hv_47,hrd0_2,hrd0_7,hrd0_8,hrd0_9,hrd0_10,hrd0_13,hrd0_12,hun,hun'])
    generalize hw48 : wr w47 vb 2 [.map qm] = w48
    have hS48 : Upd (fun b => b = vb ∨ b = rb) w47 w48 := by rw [← hw48];exact (Upd.refl _ _).wr _ _ (.inr (.inl rfl))
    have hv_48 : blk w48 vb = some (#[.int .i16 ver,.slice aa0 N0 qq0,.map qm],188,(0,0)) := by rw [← hw48,blk_wr_eq,hv_47];rfl
    have hV48 := hS48
    have hU48 : Upd (fun b => b = vb ∨ b = rb) w1 w48 := hU47.trans hV48
    have hz48 := hV48.size
    have hG48 : Glo ev w48 := hG1.updS hU48 hgM1 hgM2
    have hq48 : Rdr RT ok w48 rb s23 ∧ NN w48 rb s23 := by
      have hn : ∀ x,x = w48 → (Rdr RT ok x rb s23 ∧ NN x rb s23) := fun x hx => by
        rw [hx,← hw48]
        exact Rdr.store hq47 (by omega) (fun h => by have := (hok _ h).1;first | omega | exact (hok _ h).2 rfl)
      exact hn _ rfl
    clear hw48
    have hTg : TagsM (fun b => ok b ∨ w1.heap.size ≤ b) w48 (.map qm) (rdTags s22).1 := (hT47.weaken fun b _ hk => hk.elim (fun hk => .inl hk) (fun h => by have h' : w46.heap.size ≤ b := h;exact .inr (by omega))).keep (hV48.keeps fun b _ hk e => (hoM b hk) e)
    have hC_48 : Upd (fun b => b = vb ∨ b = rb) w48 w48 := Upd.refl _ _
    have hC_47 : Upd (fun b => b = vb ∨ b = rb) w47 w48 := hV48.trans hC_48
    have hC_46 : Upd (fun b => b = vb ∨ b = rb) w46 w48 := hV47.trans hC_47
    have hC_45 : Upd (fun b => b = vb ∨ b = rb) w45 w48 := hV46.trans hC_46
    have hC_2 : Upd (fun b => b = vb ∨ b = rb) w2 w48 := hV45.trans hC_45
    have hC_1 : Upd (fun b => b = vb ∨ b = rb) w1 w48 := hV2.trans hC_2
    have hR : RepS true (d + 4) fs_ReadShareGroupStateResponse (fun b => ok b ∨ w1.heap.size ≤ b) w48 (.mk 0 [] false [x_0] (rdTags s22).1) [.slice aa0 N0 qq0,.map qm] := RepS.introT (c := [.slice aa0 N0 qq0]) (RepL.cons1 (hf_0.keepS (hC_46.keeps fun b _ hk e => (hoM b hk) e)) RepL.nil) hTg
    repeat ((first | refine qA rfl ?_|refine qB ?_|refine qC rfl ?_|refine qD ?_|refine qE ?_|refine qF ?_|refine qG ?_|refine qH ?_);try simp (maxSteps:=1000000)(disch:=(first|omega|(simp only [qI,qJ,qK]<;>omega)|exact qL _)) only [go_sem,↓reduceIte,n0,reduceCtorEq,n1,n2,n3,n4,n5,i0,i1,i2,i3,i4,i5,i6,i7,hv_48,hrd0_2,hrd0_7,hrd0_8,hrd0_9,hrd0_10,hrd0_13,hrd0_12,hun,hun'])
    refine (RComplete_fn w48 hq48.1 hG48.2).mono ?_
    rintro _ wz ⟨rfl,hez⟩
    rw [hez]
    repeat ((first | refine qA rfl ?_|refine qB ?_|refine qC rfl ?_|refine qD ?_|refine qE ?_|refine qF ?_|refine qG ?_|refine qH ?_);try simp (maxSteps:=1000000)(disch:=(first|omega|(simp only [qI,qJ,qK]<;>omega)|exact qL _)) only [go_sem,↓reduceIte,n0,reduceCtorEq,n1,n2,n3,n4,n5,i0,i1,i2,i3,i4,i5,i6,i7,hv_48,hrd0_2,hrd0_7,hrd0_8,hrd0_9,hrd0_10,hrd0_13,hrd0_12,hun,hun'])
    rw [hfin]
    refine ⟨fun h => ?_,fun h => ⟨?_,[.slice aa0 N0 qq0,.map qm],hv_48,?_⟩,?_⟩
    · have h' : s23 = none := h
      rw [h'];rfl
    · cases hsn : s23 with
      | none => exact absurd hsn h
      | some x => rfl
    · exact (RepS_lay true (d + 4) fs_ReadShareGroupStateResponse).weaken hR fun b _ hk => hk.imp id fun h => by omega
    · exact hbase.trans' hU48 fun i hi h => h.elim id fun h => by omega
end Ms

