/- A part of the proof: see the last text. -/
import Derived.Test.YthekgkekchicgaaDoorC03
import Derived.Test.YthekgkekchicgaaDoorAlterUserSCRAMCredentialsRequestP0
set_option linter.unusedSimpArgs false
set_option linter.unusedVariables false
namespace Ms
open Go.World renaming size_alloc → qI
open Ms renaming size_wr → qJ,size_drew → qK,not_noB → qL
open W renaming seqR → qA,seq → qB,regR → qC,condK → qD,block → qE,skip → qF,ret → qG,exit → qH
open Nat renaming reduceEqDiff → n0,reduceAdd → n1,reduceMul → n2,reduceSub → n3,reduceLT → n4,reduceLeDiff → n5
open Int renaming reduceEq → i0,reduceLT → i1,reduceLE → i2,reduceNeg → i3,reduceAdd → i4,reduceSub → i5,reduceMul → i6,reduceToNat → i7
set_option maxRecDepth 8000
open Go Go.Proofs Go.Shelf
attribute [local congr] W_congr WPsq_congr WPp_congr optK_congr addrK_congr intK_congr boolK_congr sliceK_congr tupleK_congr funcK_congr Fn_congr rawK_congr takeK_congr stepK_congr convK_congr aggK_congr

set_option maxHeartbeats 24000000 in
theorem readAlterUserSCRAMCredentialsRequest_0b {un : Bool} {d : Nat} {ok : Blocks} {ver : Int} {ev : Value} (hlo : 0 ≤ ver) (hhi : ver ≤ 0) (w : World) {vb : Nat} (src : Value) (s : List UInt8) (hv : blk w vb = some (#[.int .i16 ver,.slice none 0 0,.slice none 0 0,.map none],155,(0,0))) (hsrc : BytesV ok w src s) (hok0 : ∀ b,ok b → b < w.heap.size ∧ b ≠ vb) (hG : Glo ev w) (hgv : ¬ 0 = vb ∧ ¬ 1 = vb) :
    Fn Tryd.prog 166 #[.pointer (some ⟨vb,0,none⟩),src,.bool un] w (ReadQ 155 ok ver (d + 2) fs_AlterUserSCRAMCredentialsRequest vb w (rdP (d + 2) ver true fs_AlterUserSCRAMCredentialsRequest (some s)) ev) := by
  have hcs : ((un = true) = True ∧ (un = false) = False) ∨ ((un = true) = False ∧ (un = false) = True) := by cases un <;> simp
  rcases hcs with ⟨hun,hun'⟩ | ⟨hun,hun'⟩
  all_goals
    have hvl := blk_lt hv
    have hgs := hG.lt
    obtain ⟨sa,sc,rfl,_⟩ := hsrc.shape
    refine fn_of_W Tryd.func166 rfl Tryd.results166 Tryd.ntmps166 rfl ?_
    repeat ((first | refine qA rfl ?_|refine qB ?_|refine qC rfl ?_|refine qD ?_|refine qE ?_|refine qF ?_|refine qG ?_|refine qH ?_);try simp (maxSteps:=1000000)(disch:=(first|omega|(simp only [qI,qJ,qK]<;>omega)|exact qL _)) only [go_sem,↓reduceIte,n0,reduceCtorEq,n1,n2,n3,n4,n5,i0,i1,i2,i3,i4,i5,i6,i7,hv])
    refine (DefaultAlterUserSCRAMCredentialsRequest_fn w hv).mono ?_
    rintro _ w0 ⟨hv0,hu0⟩
    have hz0 := hu0.size
    have hsrc0 : BytesV ok w0 (.slice sa s.length sc) s := hsrc.keep (hu0.keeps fun b _ hk e => (hok0 b hk).2 e)
    obtain ⟨rb,hrb⟩ : ∃ r,r = w0.heap.size := ⟨_,rfl⟩
    have hE1 : Ext w0 (wr (w0.alloc (.cells #[.slice none 0 0,.bool false] 224)) w0.heap.size 0 [.slice sa s.length sc,.bool false]) := (Upd.alloc (Upd.refl _ _) _).wr _ _ (.inl (Nat.le_refl _))
    have hz1 : (wr (w0.alloc (.cells #[.slice none 0 0,.bool false] 224)) w0.heap.size 0 [.slice sa s.length sc,.bool false]).heap.size = w0.heap.size + 1 := by rw [size_wr,World.size_alloc]
    have hR1 : Rdr RT ok (wr (w0.alloc (.cells #[.slice none 0 0,.bool false] 224)) w0.heap.size 0 [.slice sa s.length sc,.bool false]) w0.heap.size (some s) := Rdr.good (v := .slice sa s.length sc) (by simp (maxSteps:=1000000)(disch:=(first|omega|(simp only [qI,qJ,qK]<;>omega)|exact qL _)) only [go_sem,↓reduceIte,n0,reduceCtorEq,n1,n2,n3,n4,n5,i0,i1,i2,i3,i4,i5,i6,i7]) (hsrc0.keep (hE1.keeps _))
    have hv_1 := hE1.blk_some hv0 id
    repeat ((first | refine qA rfl ?_|refine qB ?_|refine qC rfl ?_|refine qD ?_|refine qE ?_|refine qF ?_|refine qG ?_|refine qH ?_);try simp (maxSteps:=1000000)(disch:=(first|omega|(simp only [qI,qJ,qK]<;>omega)|exact qL _)) only [go_sem,↓reduceIte,n0,reduceCtorEq,n1,n2,n3,n4,n5,i0,i1,i2,i3,i4,i5,i6,i7,hv0])
    generalize (wr (w0.alloc (.cells #[.slice none 0 0,.bool false] 224)) w0.heap.size 0 [.slice sa s.length sc,.bool false]) = w1 at *
    rw [← hrb] at hR1
    try rw [← hrb]
    have hok : ∀ b,ok b → b < w.heap.size ∧ b ≠ vb := hok0
    have hrok : ¬ ok rb := fun h => by have := (hok rb h).1;omega
    have hbase : Upd (fun b => b = vb) w w1 := hu0.trans (hE1.mono fun _ h => h.elim)
    have hG1 : Glo ev w1 := hG.updS hbase hgv.1 hgv.2
    have hgrb : ¬ 0 = rb := by omega
    have hgM1 : ¬ (0 = vb ∨ 0 = rb) := fun h => h.elim hgv.1 fun h => by omega
    have hgM2 : ¬ (1 = vb ∨ 1 = rb) := fun h => h.elim hgv.2 fun h => by omega
    obtain ⟨s0,hs0⟩ : ∃ s' : St,s' = some s := ⟨_,rfl⟩
    rw [← hs0] at hR1 ⊢
    have hU1 : Upd (fun b => b = vb ∨ b = rb) w1 w1 := Upd.refl _ _
    have hoM : ∀ b,(ok b ∨ w1.heap.size ≤ b) → ¬ (b = vb ∨ b = rb) := fun b hk h => by
      rcases hk with hk | hk
      · have := hok b hk;rcases h with h | h <;> omega
      · rcases h with h | h <;> omega
    have hq1 : Rdr RT ok w1 rb s0 := hR1
    obtain ⟨FB,hFB⟩ : ∃ P : Prop,P = ((rdP (d + 2) ver true fs_AlterUserSCRAMCredentialsRequest s0).2 = none) := ⟨_,rfl⟩
    have hb_0 : (rdL (rdP (d + 1) ver true) (dfP (d + 1)) ver true [fAlterUserSCRAMCredentialsRequest_0,fAlterUserSCRAMCredentialsRequest_1] s0).2 = none → FB := fun h => Eq.mpr hFB (rdP_bad h)
    have hh_0 : hasS fAlterUserSCRAMCredentialsRequest_0 ver = true := hasS_t (by show (0 : Int) ≤ ver;omega) (by show (-1 : Int) < 0 ∨ ver ≤ (-1 : Int);omega)
    obtain ⟨x_0,hx_0⟩ : ∃ x,x = (rdF (rdP (d + 1) ver true) ver true fAlterUserSCRAMCredentialsRequest_0 s0).1 := ⟨_,rfl⟩
    repeat ((first | refine qA rfl ?_|refine qB ?_|refine qC rfl ?_|refine qD ?_|refine qE ?_|refine qF ?_|refine qG ?_|refine qH ?_);try simp (maxSteps:=1000000)(disch:=(first|omega|(simp only [qI,qJ,qK]<;>omega)|exact qL _)) only [go_sem,↓reduceIte,n0,reduceCtorEq,n1,n2,n3,n4,n5,i0,i1,i2,i3,i4,i5,i6,i7,hv_1,hun,hun'])
    refine (RCompactArrayLen_fn w1 hq1 hrok hG1.1 hgrb).mono ?_
    rintro _ w2 ⟨rfl,hq2,hu2⟩
    have hv_2 := hu2.blk_some hv_1 (by omega)
    have hV2 : Upd (fun b => b = vb ∨ b = rb) w1 w2 := hu2.mono (fun _ h => .inr h)
    have hU2 : Upd (fun b => b = vb ∨ b = rb) w1 w2 := hU1.trans hV2
    have hz2 := hV2.size
    have hG2 : Glo ev w2 := hG1.updS hU2 hgM1 hgM2
    obtain ⟨s1,hs1⟩ : ∃ s,s = (rdALen true s0).2 := ⟨_,rfl⟩
    rw [← hs1] at hq2
    have hyr0 := rdALen_rng true s0
    generalize hy0 : (rdALen true s0).1 = y0 at *
    obtain ⟨N0,hN0⟩ : ∃ N,N = y0.toNat := ⟨_,rfl⟩
    have hlb0 : (rdMany (rd1 (rdP (d + 1) ver true) fAlterUserSCRAMCredentialsRequest_0.of fAlterUserSCRAMCredentialsRequest_0.sub false true) N0 s1).2 = none → FB := fun h => hb_0 (by rw [rdL_st (by decide) hh_0];exact rdL_bad (rdF_listbad rfl (by rw [hy0,← hN0,← hs1];exact h)))
    repeat ((first | refine W.seqR rfl ?_ | refine W.seq ?_ | refine W.regR rfl ?_ | refine W.block ?_ | refine W.skip ?_ | refine W.ret ?_ | refine W.exit ?_);try simp (maxSteps:=1000000)(disch:=(first|omega|(simp only [qI,qJ,qK]<;>omega)|exact qL _)) only [go_sem,↓reduceIte,n0,reduceCtorEq,n1,n2,n3,n4,n5,i0,i1,i2,i3,i4,i5,i6,i7,hv_2,hun,hun'])
    refine (ROk_fn w2 hq2.1).mono ?_
    rintro _ wz ⟨rfl,hez⟩
    rw [hez]
    clear hez wz
    by_cases hsn0 : s1 = none
    · have hso : s1.isSome = false := by rw [hsn0];rfl
      try simp (maxSteps:=1000000)(disch:=(first|omega|(simp only [qI,qJ,qK]<;>omega)|exact qL _)) only [go_sem,↓reduceIte,n0,reduceCtorEq,n1,n2,n3,n4,n5,i0,i1,i2,i3,i4,i5,i6,i7,hv_2,hun,hun',hso]
      repeat ((first | refine qA rfl ?_|refine qB ?_|refine qC rfl ?_|refine qD ?_|refine qE ?_|refine qF ?_|refine qG ?_|refine qH ?_);try simp (maxSteps:=1000000)(disch:=(first|omega|(simp only [qI,qJ,qK]<;>omega)|exact qL _)) only [go_sem,↓reduceIte,n0,reduceCtorEq,n1,n2,n3,n4,n5,i0,i1,i2,i3,i4,i5,i6,i7,hv_2,hun,hun',hso])
      refine (RComplete_fn w2 hq2.1 hG2.2).mono ?_
      rintro _ wz ⟨rfl,hez⟩
      rw [hez]
      try simp (maxSteps:=1000000)(disch:=(first|omega|(simp only [qI,qJ,qK]<;>omega)|exact qL _)) only [go_sem,↓reduceIte,n0,reduceCtorEq,n1,n2,n3,n4,n5,i0,i1,i2,i3,i4,i5,i6,i7,hv_2,hun,hun']
      repeat ((first | refine qA rfl ?_|refine qB ?_|refine qC rfl ?_|refine qD ?_|refine qE ?_|refine qF ?_|refine qG ?_|refine qH ?_);try simp (maxSteps:=1000000)(disch:=(first|omega|(simp only [qI,qJ,qK]<;>omega)|exact qL _)) only [go_sem,↓reduceIte,n0,reduceCtorEq,n1,n2,n3,n4,n5,i0,i1,i2,i3,i4,i5,i6,i7,hv_2,hun,hun'])
      rw [errV_none hsn0]
      exact ReadQ.bad (Eq.mp hFB (hlb0 (by rw [hsn0];exact rdMany_none rd1P_none _))) (hbase.trans' hU2 fun i hi h => h.elim id fun h => by omega)
    have hso0 : s1.isSome = true := isSome_some hsn0
    try simp (maxSteps:=1000000)(disch:=(first|omega|(simp only [qI,qJ,qK]<;>omega)|exact qL _)) only [go_sem,↓reduceIte,n0,reduceCtorEq,n1,n2,n3,n4,n5,i0,i1,i2,i3,i4,i5,i6,i7,hv_2,hun,hun',hso0]
    repeat ((first | refine W.seqR rfl ?_ | refine W.seq ?_ | refine W.regR rfl ?_ | refine W.block ?_ | refine W.skip ?_ | refine W.ret ?_ | refine W.exit ?_);try simp (maxSteps:=1000000)(disch:=(first|omega|(simp only [qI,qJ,qK]<;>omega)|exact qL _)) only [go_sem,↓reduceIte,n0,reduceCtorEq,n1,n2,n3,n4,n5,i0,i1,i2,i3,i4,i5,i6,i7,hv_2,hun,hun',hso0])
    refine W.condK ?_
    try simp (maxSteps:=1000000)(disch:=(first|omega|(simp only [qI,qJ,qK]<;>omega)|exact qL _)) only [go_sem,↓reduceIte,n0,reduceCtorEq,n1,n2,n3,n4,n5,i0,i1,i2,i3,i4,i5,i6,i7,hv_2,hun,hun',hso0]
    repeat ((first | refine W.seqR rfl ?_ | refine W.seq ?_ | refine W.regR rfl ?_ | refine W.block ?_ | refine W.skip ?_ | refine W.ret ?_ | refine W.exit ?_);try simp (maxSteps:=1000000)(disch:=(first|omega|(simp only [qI,qJ,qK]<;>omega)|exact qL _)) only [go_sem,↓reduceIte,n0,reduceCtorEq,n1,n2,n3,n4,n5,i0,i1,i2,i3,i4,i5,i6,i7,hv_2,hun,hun',hso0,slBase_00])
    refine W.normJ (RowQ [(2,.bool un),(7,.pointer (some ⟨rb,0,none⟩)),(8,.int .i16 ver),(9,.bool true),(10,.pointer (some ⟨vb,0,none⟩)),(13,.int .i32 y0)] 12 (fun va w' => LstI RT (rd1 (rdP (d + 1) ver true) fAlterUserSCRAMCredentialsRequest_0.of fAlterUserSCRAMCredentialsRequest_0.sub false true) (Rep1 (RepS true (d + 1)) fAlterUserSCRAMCredentialsRequest_0.of fAlterUserSCRAMCredentialsRequest_0.sub) 3 159 [.string ByteArray.empty,.int .i8 0,.map none] w2.heap.size N0 ok (fun b => ok b ∨ w1.heap.size ≤ b) rb w2 s1 va 0 s1 [] [] w' ∧ (N0 = 0 → if nilS fAlterUserSCRAMCredentialsRequest_0 ver y0 = true then va = .slice none 0 0 else ∃ a,va = .slice (some a) 0 0))) ?_ ?_
    · by_cases hy0 : (0 : Int) < y0
      · have hyv : Value.int .i32 y0 = .int .i32 ((N0 : Nat) : Int) := by rw [show y0 = ((N0 : Nat) : Int) by omega]
        repeat ((first | refine qA rfl ?_|refine qB ?_|refine qC rfl ?_|refine qD ?_|refine qE ?_|refine qF ?_|refine qG ?_|refine qH ?_);try simp (maxSteps:=1000000)(disch:=(first|omega|(simp only [qI,qJ,qK]<;>omega)|exact qL _)) only [go_sem,↓reduceIte,n0,reduceCtorEq,n1,n2,n3,n4,n5,i0,i1,i2,i3,i4,i5,i6,i7,hv_2,hun,hun'])
        refine wp_appendZ (m := N0) utAlterUserSCRAMCredentialsRequest_152 utAlterUserSCRAMCredentialsRequest_21 inAlterUserSCRAMCredentialsRequest_159 (by decide) (by first | rfl | simp (maxSteps:=1000000)(disch:=(first|omega|(simp only [qI,qJ,qK]<;>omega)|exact qL _)) only [go_sem,↓reduceIte,n0,reduceCtorEq,n1,n2,n3,n4,n5,i0,i1,i2,i3,i4,i5,i6,i7]) (by first | exact hyv | (simp (maxSteps:=1000000)(disch:=(first|omega|(simp only [qI,qJ,qK]<;>omega)|exact qL _)) only [go_sem,↓reduceIte,n0,reduceCtorEq,n1,n2,n3,n4,n5,i0,i1,i2,i3,i4,i5,i6,i7];exact hyv)) (by omega) (by omega) (by decide) ?_
        intro q rest hq1
        have hEw : Ext w2 (w2.drew.alloc (.cells (zs [.string ByteArray.empty,.int .i8 0,.map none] N0 ++ rest).toArray 159)) := (Upd.refl _ _).drew.alloc _
        try simp (maxSteps:=1000000)(disch:=(first|omega|(simp only [qI,qJ,qK]<;>omega)|exact qL _)) only [go_sem,↓reduceIte,n0,reduceCtorEq,n1,n2,n3,n4,n5,i0,i1,i2,i3,i4,i5,i6,i7,hv_2,hun,hun']
        repeat ((first | refine qA rfl ?_|refine qB ?_|refine qC rfl ?_|refine qD ?_|refine qE ?_|refine qF ?_|refine qG ?_|refine qH ?_);try simp (maxSteps:=1000000)(disch:=(first|omega|(simp only [qI,qJ,qK]<;>omega)|exact qL _)) only [go_sem,↓reduceIte,n0,reduceCtorEq,n1,n2,n3,n4,n5,i0,i1,i2,i3,i4,i5,i6,i7,hv_2,hun,hun'])
        exact ⟨(by simp (maxSteps:=1000000)(disch:=(first|omega|(simp only [qI,qJ,qK]<;>omega)|exact qL _)) only [go_sem,↓reduceIte,n0,reduceCtorEq,n1,n2,n3,n4,n5,i0,i1,i2,i3,i4,i5,i6,i7,Holds_nil,Holds_cons]),.slice (some ⟨w2.heap.size,0,none⟩) N0 q,(by simp (maxSteps:=1000000)(disch:=(first|omega|(simp only [qI,qJ,qK]<;>omega)|exact qL _)) only [go_sem,↓reduceIte,n0,reduceCtorEq,n1,n2,n3,n4,n5,i0,i1,i2,i3,i4,i5,i6,i7]),LstI.start (RowJ.start (by omega) hq1 (by show w2.heap.size ≤ w2.drew.heap.size;rw [size_drew];omega) (blk_alloc_new rfl)) ⟨hq2.1.upd hEw (fun h => h) (fun _ _ _ h => h),hq2.2.upd hEw fun h => h⟩ (hEw.mono fun _ h => h.elim),fun h0 => by omega⟩
      · repeat ((first | refine qA rfl ?_|refine qB ?_|refine qC rfl ?_|refine qD ?_|refine qE ?_|refine qF ?_|refine qG ?_|refine qH ?_);try simp (maxSteps:=1000000)(disch:=(first|omega|(simp only [qI,qJ,qK]<;>omega)|exact qL _)) only [go_sem,↓reduceIte,n0,reduceCtorEq,n1,n2,n3,n4,n5,i0,i1,i2,i3,i4,i5,i6,i7,hv_2,hun,hun'])
        exact ⟨(by simp (maxSteps:=1000000)(disch:=(first|omega|(simp only [qI,qJ,qK]<;>omega)|exact qL _)) only [go_sem,↓reduceIte,n0,reduceCtorEq,n1,n2,n3,n4,n5,i0,i1,i2,i3,i4,i5,i6,i7,Holds_nil,Holds_cons]),.slice none 0 0,(by simp (maxSteps:=1000000)(disch:=(first|omega|(simp only [qI,qJ,qK]<;>omega)|exact qL _)) only [go_sem,↓reduceIte,n0,reduceCtorEq,n1,n2,n3,n4,n5,i0,i1,i2,i3,i4,i5,i6,i7,slBase_00]),LstI.start (RowJ.zero (by omega) (fun _ h => by cases h)) hq2 (Upd.refl _ _),fun _ => by rw [nilS_plain (by decide) (by omega)];exact rfl⟩
    rintro ρ w3 ⟨⟨hrb0_2,hrb0_7,hrb0_8,hrb0_9,hrb0_10,hrb0_13,-⟩,va0,hra0,hL0,hnc0⟩
    repeat ((first | refine qA rfl ?_|refine qB ?_|refine qC rfl ?_|refine qD ?_|refine qE ?_|refine qF ?_|refine qG ?_|refine qH ?_);try simp (maxSteps:=1000000)(disch:=(first|omega|(simp only [qI,qJ,qK]<;>omega)|exact qL _)) only [go_sem,↓reduceIte,n0,reduceCtorEq,n1,n2,n3,n4,n5,i0,i1,i2,i3,i4,i5,i6,i7,hv_2,hrb0_2,hrb0_7,hrb0_8,hrb0_9,hrb0_10,hrb0_13,hra0,exitRQ_ret,exitRQ_exit,Int.toNat_natCast,Nat.mul_one,hun,hun'])
    refine W.exitRJ 0 (EndQ [(2,.bool un),(7,.pointer (some ⟨rb,0,none⟩)),(8,.int .i16 ver),(9,.bool true),(10,.pointer (some ⟨vb,0,none⟩)),(13,.int .i32 y0),(12,va0)] (fun w' => ∃ s xs css,LstI RT (rd1 (rdP (d + 1) ver true) fAlterUserSCRAMCredentialsRequest_0.of fAlterUserSCRAMCredentialsRequest_0.sub false true) (Rep1 (RepS true (d + 1)) fAlterUserSCRAMCredentialsRequest_0.of fAlterUserSCRAMCredentialsRequest_0.sub) 3 159 [.string ByteArray.empty,.int .i8 0,.map none] w2.heap.size N0 ok (fun b => ok b ∨ w1.heap.size ≤ b) rb w2 s1 va0 N0 s xs css w')) (W.loop (LoopQ [(2,.bool un),(7,.pointer (some ⟨rb,0,none⟩)),(8,.int .i16 ver),(9,.bool true),(10,.pointer (some ⟨vb,0,none⟩)),(13,.int .i32 y0),(12,va0)] 14 (fun j w' => ∃ s xs css,LstI RT (rd1 (rdP (d + 1) ver true) fAlterUserSCRAMCredentialsRequest_0.of fAlterUserSCRAMCredentialsRequest_0.sub false true) (Rep1 (RepS true (d + 1)) fAlterUserSCRAMCredentialsRequest_0.of fAlterUserSCRAMCredentialsRequest_0.sub) 3 159 [.string ByteArray.empty,.int .i8 0,.map none] w2.heap.size N0 ok (fun b => ok b ∨ w1.heap.size ≤ b) rb w2 s1 va0 j s xs css w')) (fun ρ _ => N0 - (RowKit.intOf (ρ 14)).toNat) ?_ ?_) ?_
    · exact ⟨(by simp (maxSteps:=1000000)(disch:=(first|omega|(simp only [qI,qJ,qK]<;>omega)|exact qL _)) only [go_sem,↓reduceIte,n0,reduceCtorEq,n1,n2,n3,n4,n5,i0,i1,i2,i3,i4,i5,i6,i7,Holds_nil,Holds_cons,hrb0_2,hrb0_7,hrb0_8,hrb0_9,hrb0_10,hrb0_13,hra0]),0,(by simp (maxSteps:=1000000)(disch:=(first|omega|(simp only [qI,qJ,qK]<;>omega)|exact qL _)) only [go_sem,↓reduceIte,n0,reduceCtorEq,n1,n2,n3,n4,n5,i0,i1,i2,i3,i4,i5,i6,i7,hrb0_2,hrb0_7,hrb0_8,hrb0_9,hrb0_10,hrb0_13,hra0];all_goals rfl),s1,[],[],hL0⟩
    · rintro ρ w4 ⟨⟨hrc0_2,hrc0_7,hrc0_8,hrc0_9,hrc0_10,hrc0_13,hrc0_12,-⟩,j1,hri0,s2,xs0,css0,hL0⟩
      have hj0 := hL0.le
      have hq4 := hL0.rd
      have hU4 : Upd (fun b => b = vb ∨ b = rb) w1 w4 := hU2.trans' hL0.upd fun i _ h => .inr h
      have hz4 := hL0.upd.size
      have hG4 : Glo ev w4 := hG1.updS hU4 hgM1 hgM2
      by_cases hlt0 : j1 < N0
      · obtain ⟨R1,q1,B1,hva1,hNq1,hLR1,hA1,hx1_4,hnext1⟩ := hL0.row.next hlt0
        have hRl1 := blk_lt hx1_4
        generalize css0.flatten = A1 at hA1 hx1_4 hnext1
        replace hra0 : ρ 12 = .slice (some ⟨R1,0,none⟩) N0 q1 := hrc0_12.trans hva1
        have hown1 : ∀ b,ownB va0 b → w2.heap.size ≤ b ∧ b < w4.heap.size := fun b h => hL0.row.own h
        have hoM1 : ∀ b,(fun b => (ok b ∨ w1.heap.size ≤ b) ∧ ¬ ownB va0 b) b → ¬ (b = R1 ∨ b = rb) := fun b hk h => h.elim (fun e => hk.2 ⟨_,_,_,hva1,e⟩) (fun e => hoM b hk.1 (.inr e))
        obtain ⟨X4,hX4⟩ : ∃ X : Array Value,X = (A1 ++ (([.string ByteArray.empty,.int .i8 0,.map none] : List Value) ++ B1)).toArray := ⟨_,rfl⟩
        have hxb4 : blk w4 R1 = some (X4,159,(0,0)) := by rw [hX4];exact hx1_4
        have hXs4 : j1 * 3 + 3 ≤ X4.size := by rw [hX4];simp only [List.size_toArray,List.length_append,List.length_cons,List.length_nil,hA1];omega
        repeat ((first | refine qA rfl ?_|refine qB ?_|refine qC rfl ?_|refine qD ?_|refine qE ?_|refine qF ?_|refine qG ?_|refine qH ?_);try simp (maxSteps:=1000000)(disch:=(first|omega|(simp only [qI,qJ,qK]<;>omega)|exact qL _)) only [go_sem,↓reduceIte,n0,reduceCtorEq,n1,n2,n3,n4,n5,i0,i1,i2,i3,i4,i5,i6,i7,hxb4,hrc0_2,hrc0_7,hrc0_8,hrc0_9,hrc0_10,hrc0_13,hra0,hri0,exitRQ_ret,exitRQ_exit,Int.toNat_natCast,Nat.mul_one,hun,hun'])
        refine (DefaultEX1_fn w4 hx1_4 hA1).mono ?_
        rintro _ w5 ⟨hx1_5,hu5⟩
        have hq5 := And.intro (hq4.1.upd hu5 (by omega) (fun b _ hk e => by have := (hok b hk).1;omega)) (hq4.2.upd hu5 (by omega))
        have hV5 : Upd (fun b => b = R1 ∨ b = rb) w4 w5 := hu5.mono (fun _ h => .inl h)
        have hU5 : Upd (fun b => b = vb ∨ b = rb) w1 w5 := hU4.trans' hV5 fun i hi h => h.elim (fun h => by omega) .inr
        have hz5 := hV5.size
        have hG5 : Glo ev w5 := hG1.updS hU5 hgM1 hgM2
        obtain ⟨X5,hX5⟩ : ∃ X : Array Value,X = (A1 ++ (([.string ByteArray.empty,.int .i8 0,.map none] : List Value) ++ B1)).toArray := ⟨_,rfl⟩
        have hxb5 : blk w5 R1 = some (X5,159,(0,0)) := by rw [hX5];exact hx1_5
        have hXs5 : j1 * 3 + 3 ≤ X5.size := by rw [hX5];simp only [List.size_toArray,List.length_append,List.length_cons,List.length_nil,hA1];omega
        have hbe0_0 : (rdL (rdP d ver true) (dfP d) ver true [fX1_0,fX1_1] s2).2 = none → FB := fun h => hlb0 (hL0.bad hlt0 rd1P_none (by show (rd1 (rdP (d + 1) ver true) 10 fs_X1 false true s2).2 = none;rw [rd1_part];exact rdP_bad h))
        have hhe0_0 : hasS fX1_0 ver = true := hasS_t (by show (0 : Int) ≤ ver;omega) (by show (-1 : Int) < 0 ∨ ver ≤ (-1 : Int);omega)
        obtain ⟨xe0_0,hxe0_0⟩ : ∃ x,x = (rdF (rdP d ver true) ver true fX1_0 s2).1 := ⟨_,rfl⟩
        repeat ((first | refine qA rfl ?_|refine qB ?_|refine qC rfl ?_|refine qD ?_|refine qE ?_|refine qF ?_|refine qG ?_|refine qH ?_);try simp (maxSteps:=1000000)(disch:=(first|omega|(simp only [qI,qJ,qK]<;>omega)|exact qL _)) only [go_sem,↓reduceIte,n0,reduceCtorEq,n1,n2,n3,n4,n5,i0,i1,i2,i3,i4,i5,i6,i7,hxb5,hrc0_2,hrc0_7,hrc0_8,hrc0_9,hrc0_10,hrc0_13,hra0,hri0,exitRQ_ret,exitRQ_exit,Int.toNat_natCast,Nat.mul_one,hun,hun'])
        have hmay : mayS fX1_0 ver = false := mayS_no (by show (-1 : Int) < 0 ∨ ver < (-1 : Int);omega)
        have hrd : rdF (rdP d ver true) ver true fX1_0 s2 = _ := rdF_text rfl hmay
        first | refine (RUnsafeCompactString_fn w5 hq5.1 hrok hG5.1 hgrb).mono ?_ | refine (RCompactString_fn w5 hq5.1 hrok hG5.1 hgrb).mono ?_
        rintro _ w6 ⟨rfl,hq6,hu6⟩
        have hx1_6 := hu6.blk_some hx1_5 (by omega)
        have hV6 : Upd (fun b => b = R1 ∨ b = rb) w5 w6 := hu6.mono (fun _ h => .inr h)
        have hU6 : Upd (fun b => b = vb ∨ b = rb) w1 w6 := hU5.trans' hV6 fun i hi h => h.elim (fun h => by omega) .inr
        have hz6 := hV6.size
        have hG6 : Glo ev w6 := hG1.updS hU6 hgM1 hgM2
        obtain ⟨X6,hX6⟩ : ∃ X : Array Value,X = (A1 ++ (([.string ByteArray.empty,.int .i8 0,.map none] : List Value) ++ B1)).toArray := ⟨_,rfl⟩
        have hxb6 : blk w6 R1 = some (X6,159,(0,0)) := by rw [hX6];exact hx1_6
        have hXs6 : j1 * 3 + 3 ≤ X6.size := by rw [hX6];simp only [List.size_toArray,List.length_append,List.length_cons,List.length_nil,hA1];omega
        have hst : (rdF (rdP d ver true) ver true fX1_0 s2).2 = (rdStr true s2).2 := by first | (rw [hrd];rfl) | rw [hrd]
        obtain ⟨s3,hs3⟩ : ∃ s,s = (rdF (rdP d ver true) ver true fX1_0 s2).2 := ⟨_,rfl⟩
        rw [← hst,← hs3] at hq6
        clear hst
        have hst6_0 : j1 * 3 + 1 ≤ X6.size := by omega
        repeat ((first | refine qA rfl ?_|refine qB ?_|refine qC rfl ?_|refine qD ?_|refine qE ?_|refine qF ?_|refine qG ?_|refine qH ?_);try simp (maxSteps:=1000000)(disch:=(first|omega|(simp only [qI,qJ,qK]<;>omega)|exact qL _)) only [go_sem,↓reduceIte,n0,reduceCtorEq,n1,n2,n3,n4,n5,i0,i1,i2,i3,i4,i5,i6,i7,hxb6,hrc0_2,hrc0_7,hrc0_8,hrc0_9,hrc0_10,hrc0_13,hra0,hri0,exitRQ_ret,exitRQ_exit,Int.toNat_natCast,Nat.mul_one,hun,hun',hst6_0])
        generalize hw7 : wr w6 R1 (j1 * 3) [strV (rdStr true s2).1] = w7
        have hS7 : Upd (fun b => b = R1 ∨ b = rb) w6 w7 := by rw [← hw7];exact (Upd.refl _ _).wr _ _ (.inr (.inl rfl))
        have hx1_7 : blk w7 R1 = some ((A1 ++ (([strV (rdStr true s2).1,.int .i8 0,.map none] : List Value) ++ B1)).toArray,159,(0,0)) := by rw [← hw7];exact el_blk0 hx1_6 hA1 (Nat.le_of_ble_eq_true rfl)
        have hV7 := hS7
        have hU7 : Upd (fun b => b = vb ∨ b = rb) w1 w7 := hU6.trans' hV7 fun i hi h => h.elim (fun h => by omega) .inr
        have hz7 := hV7.size
        have hG7 : Glo ev w7 := hG1.updS hU7 hgM1 hgM2
        have hq7 : Rdr RT ok w7 rb s3 ∧ NN w7 rb s3 := by
          have hn : ∀ x,x = w7 → (Rdr RT ok x rb s3 ∧ NN x rb s3) := fun x hx => by
            rw [hx,← hw7]
            exact Rdr.store hq6 (by omega) (fun h => by have := (hok _ h).1;first | omega | exact (hok _ h).2 rfl)
          exact hn _ rfl
        obtain ⟨X7,hX7⟩ : ∃ X : Array Value,X = (A1 ++ (([strV (rdStr true s2).1,.int .i8 0,.map none] : List Value) ++ B1)).toArray := ⟨_,rfl⟩
        have hxb7 : blk w7 R1 = some (X7,159,(0,0)) := by rw [hX7];exact hx1_7
        have hXs7 : j1 * 3 + 3 ≤ X7.size := by rw [hX7];simp only [List.size_toArray,List.length_append,List.length_cons,List.length_nil,hA1];omega
        clear hw7
        have hfe0_0 : RepF (RepS true d) (szS true d) fX1_0 (fun b => (ok b ∨ w1.heap.size ≤ b) ∧ ¬ ownB va0 b) w7 (xe0_0) [strV (rdStr true s2).1] := (RepF_text rfl (by decide)).2 (by rw [hxe0_0,hrd];rfl)
        clear hrd
        have hbe0_1 : (rdL (rdP d ver true) (dfP d) ver true [fX1_1] s3).2 = none → FB := fun h => hbe0_0 (by rw [rdL_st (by decide) hhe0_0,← hs3];exact h)
        have hhe0_1 : hasS fX1_1 ver = true := hasS_t (by show (0 : Int) ≤ ver;omega) (by show (-1 : Int) < 0 ∨ ver ≤ (-1 : Int);omega)
        obtain ⟨xe0_1,hxe0_1⟩ : ∃ x,x = (rdF (rdP d ver true) ver true fX1_1 s3).1 := ⟨_,rfl⟩
        repeat ((first | refine qA rfl ?_|refine qB ?_|refine qC rfl ?_|refine qD ?_|refine qE ?_|refine qF ?_|refine qG ?_|refine qH ?_);try simp (maxSteps:=1000000)(disch:=(first|omega|(simp only [qI,qJ,qK]<;>omega)|exact qL _)) only [go_sem,↓reduceIte,n0,reduceCtorEq,n1,n2,n3,n4,n5,i0,i1,i2,i3,i4,i5,i6,i7,hxb7,hrc0_2,hrc0_7,hrc0_8,hrc0_9,hrc0_10,hrc0_13,hra0,hri0,exitRQ_ret,exitRQ_exit,Int.toNat_natCast,Nat.mul_one,hun,hun'])
        have hrd : rdF (rdP d ver true) ver true fX1_1 s3 = _ := rdF_num 1 rfl (by decide)
        refine (Int8_fn w7 hq7.1 hrok).mono ?_
        rintro _ w8 ⟨rfl,hq8,hu8⟩
        have hx1_8 := hu8.blk_some hx1_7 (by omega)
        have hV8 : Upd (fun b => b = R1 ∨ b = rb) w7 w8 := hu8.mono (fun _ h => .inr h)
        have hU8 : Upd (fun b => b = vb ∨ b = rb) w1 w8 := hU7.trans' hV8 fun i hi h => h.elim (fun h => by omega) .inr
        have hz8 := hV8.size
        have hG8 : Glo ev w8 := hG1.updS hU8 hgM1 hgM2
        obtain ⟨X8,hX8⟩ : ∃ X : Array Value,X = (A1 ++ (([strV (rdStr true s2).1,.int .i8 0,.map none] : List Value) ++ B1)).toArray := ⟨_,rfl⟩
        have hxb8 : blk w8 R1 = some (X8,159,(0,0)) := by rw [hX8];exact hx1_8
        have hXs8 : j1 * 3 + 3 ≤ X8.size := by rw [hX8];simp only [List.size_toArray,List.length_append,List.length_cons,List.length_nil,hA1];omega
        have hst : (rdF (rdP d ver true) ver true fX1_1 s3).2 = (rdInt .i8 1 s3).2 := by first | (rw [hrd];rfl) | rw [hrd]
        obtain ⟨s4,hs4⟩ : ∃ s,s = (rdF (rdP d ver true) ver true fX1_1 s3).2 := ⟨_,rfl⟩
        rw [← hst,← hs4] at hq8
        clear hst
        have hst8_1 : j1 * 3 + 2 ≤ X8.size := by omega
        repeat ((first | refine qA rfl ?_|refine qB ?_|refine qC rfl ?_|refine qD ?_|refine qE ?_|refine qF ?_|refine qG ?_|refine qH ?_);try simp (maxSteps:=1000000)(disch:=(first|omega|(simp only [qI,qJ,qK]<;>omega)|exact qL _)) only [go_sem,↓reduceIte,n0,reduceCtorEq,n1,n2,n3,n4,n5,i0,i1,i2,i3,i4,i5,i6,i7,hxb8,hrc0_2,hrc0_7,hrc0_8,hrc0_9,hrc0_10,hrc0_13,hra0,hri0,exitRQ_ret,exitRQ_exit,Int.toNat_natCast,Nat.mul_one,hun,hun',hst8_1])
        generalize hw9 : wr w8 R1 (j1 * 3 + 1) [.int .i8 (rdInt .i8 1 s3).1] = w9
        have hS9 : Upd (fun b => b = R1 ∨ b = rb) w8 w9 := by rw [← hw9];exact (Upd.refl _ _).wr _ _ (.inr (.inl rfl))
        have hx1_9 : blk w9 R1 = some ((A1 ++ (([strV (rdStr true s2).1,.int .i8 (rdInt .i8 1 s3).1,.map none] : List Value) ++ B1)).toArray,159,(0,0)) := by rw [← hw9];exact el_blk (o := 1) hx1_8 hA1 (Nat.le_of_ble_eq_true rfl)
        have hV9 := hS9
        have hU9 : Upd (fun b => b = vb ∨ b = rb) w1 w9 := hU8.trans' hV9 fun i hi h => h.elim (fun h => by omega) .inr
        have hz9 := hV9.size
        have hG9 : Glo ev w9 := hG1.updS hU9 hgM1 hgM2
        have hq9 : Rdr RT ok w9 rb s4 ∧ NN w9 rb s4 := by
          have hn : ∀ x,x = w9 → (Rdr RT ok x rb s4 ∧ NN x rb s4) := fun x hx => by
            rw [hx,← hw9]
            exact Rdr.store hq8 (by omega) (fun h => by have := (hok _ h).1;first | omega | exact (hok _ h).2 rfl)
          exact hn _ rfl
        obtain ⟨X9,hX9⟩ : ∃ X : Array Value,X = (A1 ++ (([strV (rdStr true s2).1,.int .i8 (rdInt .i8 1 s3).1,.map none] : List Value) ++ B1)).toArray := ⟨_,rfl⟩
        have hxb9 : blk w9 R1 = some (X9,159,(0,0)) := by rw [hX9];exact hx1_9
        have hXs9 : j1 * 3 + 3 ≤ X9.size := by rw [hX9];simp only [List.size_toArray,List.length_append,List.length_cons,List.length_nil,hA1];omega
        clear hw9
        have hfe0_1 : RepF (RepS true d) (szS true d) fX1_1 (fun b => (ok b ∨ w1.heap.size ≤ b) ∧ ¬ ownB va0 b) w9 (xe0_1) [.int .i8 (rdInt .i8 1 s3).1] := (RepF_num (by decide)).2 (by rw [hxe0_1,hrd];exact congrArg (fun x => [x]) (numC_rd 1 (by decide) 1 s3).symm)
        clear hrd
        have hle0_2 : rdL (rdP d ver true) (dfP d) ver true [] s4 = ([],s4) := rfl
        have hle0_1 : rdL (rdP d ver true) (dfP d) ver true [fX1_1] s3 = ([xe0_1],s4) := by rw [rdL_st (by decide) hhe0_1,← hxe0_1,← hs4,hle0_2]
        have hle0_0 : rdL (rdP d ver true) (dfP d) ver true [fX1_0,fX1_1] s2 = ([xe0_0,xe0_1],s4) := by rw [rdL_st (by decide) hhe0_0,← hxe0_0,← hs3,hle0_1]
        have hfine0 : rdP (d + 1) ver true fs_X1 s2 = (.mk 0 [] false [xe0_0,xe0_1] (rdTags s4).1,(rdTags s4).2) := rdP_t hle0_0
        repeat ((first | refine qA rfl ?_|refine qB ?_|refine qC rfl ?_|refine qD ?_|refine qE ?_|refine qF ?_|refine qG ?_|refine qH ?_);try simp (maxSteps:=1000000)(disch:=(first|omega|(simp only [qI,qJ,qK]<;>omega)|exact qL _)) only [go_sem,↓reduceIte,n0,reduceCtorEq,n1,n2,n3,n4,n5,i0,i1,i2,i3,i4,i5,i6,i7,hxb9,hrc0_2,hrc0_7,hrc0_8,hrc0_9,hrc0_10,hrc0_13,hra0,hri0,exitRQ_ret,exitRQ_exit,Int.toNat_natCast,Nat.mul_one,hun,hun'])
        refine (ReadTags_fn w9 hq9.1 hrok).mono ?_
        rintro _ w10 ⟨qme0,rfl,hT10,hTn,hq10,hu10⟩
        have hx1_10 := hu10.blk_some hx1_9 (by omega)
        have hV10 : Upd (fun b => b = R1 ∨ b = rb) w9 w10 := hu10.mono (fun _ h => .inr h)
        have hU10 : Upd (fun b => b = vb ∨ b = rb) w1 w10 := hU9.trans' hV10 fun i hi h => h.elim (fun h => by omega) .inr
        have hz10 := hV10.size
        have hG10 : Glo ev w10 := hG1.updS hU10 hgM1 hgM2
        obtain ⟨X10,hX10⟩ : ∃ X : Array Value,X = (A1 ++ (([strV (rdStr true s2).1,.int .i8 (rdInt .i8 1 s3).1,.map none] : List Value) ++ B1)).toArray := ⟨_,rfl⟩
        have hxb10 : blk w10 R1 = some (X10,159,(0,0)) := by rw [hX10];exact hx1_10
        have hXs10 : j1 * 3 + 3 ≤ X10.size := by rw [hX10];simp only [List.size_toArray,List.length_append,List.length_cons,List.length_nil,hA1];omega
        obtain ⟨s5,hs5⟩ : ∃ s,s = (rdTags s4).2 := ⟨_,rfl⟩
        rw [← hs5] at hq10 hfine0
        have hst10_2 : j1 * 3 + 3 ≤ X10.size := by omega
        try simp (maxSteps:=1000000)(disch:=(first|omega|(simp only [qI,qJ,qK]<;>omega)|exact qL _)) only [go_sem,↓reduceIte,n0,reduceCtorEq,n1,n2,n3,n4,n5,i0,i1,i2,i3,i4,i5,i6,i7,hxb10,hrc0_2,hrc0_7,hrc0_8,hrc0_9,hrc0_10,hrc0_13,hra0,hri0,exitRQ_ret,exitRQ_exit,Int.toNat_natCast,Nat.mul_one,hun,hun',hst10_2]
        repeat ((first | refine qA rfl ?_|refine qB ?_|refine qC rfl ?_|refine qD ?_|refine qE ?_|refine qF ?_|refine qG ?_|refine qH ?_);try simp (maxSteps:=1000000)(disch:=(first|omega|(simp only [qI,qJ,qK]<;>omega)|exact qL _)) only [go_sem,↓reduceIte,n0,reduceCtorEq,n1,n2,n3,n4,n5,i0,i1,i2,i3,i4,i5,i6,i7,hxb10,hrc0_2,hrc0_7,hrc0_8,hrc0_9,hrc0_10,hrc0_13,hra0,hri0,exitRQ_ret,exitRQ_exit,Int.toNat_natCast,Nat.mul_one,hun,hun',hst10_2])
        generalize hw11 : wr w10 R1 (j1 * 3 + 2) [.map qme0] = w11
        have hS11 : Upd (fun b => b = R1 ∨ b = rb) w10 w11 := by rw [← hw11];exact (Upd.refl _ _).wr _ _ (.inr (.inl rfl))
        have hx1_11 : blk w11 R1 = some ((A1 ++ (([strV (rdStr true s2).1,.int .i8 (rdInt .i8 1 s3).1,.map qme0] : List Value) ++ B1)).toArray,159,(0,0)) := by rw [← hw11];exact el_blk (o := 2) hx1_10 hA1 (Nat.le_of_ble_eq_true rfl)
        have hV11 := hS11
        have hU11 : Upd (fun b => b = vb ∨ b = rb) w1 w11 := hU10.trans' hV11 fun i hi h => h.elim (fun h => by omega) .inr
        have hz11 := hV11.size
        have hG11 : Glo ev w11 := hG1.updS hU11 hgM1 hgM2
        have hq11 : Rdr RT ok w11 rb s5 ∧ NN w11 rb s5 := by
          have hn : ∀ x,x = w11 → (Rdr RT ok x rb s5 ∧ NN x rb s5) := fun x hx => by
            rw [hx,← hw11]
            exact Rdr.store hq10 (by omega) (fun h => by have := (hok _ h).1;first | omega | exact (hok _ h).2 rfl)
          exact hn _ rfl
        obtain ⟨X11,hX11⟩ : ∃ X : Array Value,X = (A1 ++ (([strV (rdStr true s2).1,.int .i8 (rdInt .i8 1 s3).1,.map qme0] : List Value) ++ B1)).toArray := ⟨_,rfl⟩
        have hxb11 : blk w11 R1 = some (X11,159,(0,0)) := by rw [hX11];exact hx1_11
        have hXs11 : j1 * 3 + 3 ≤ X11.size := by rw [hX11];simp only [List.size_toArray,List.length_append,List.length_cons,List.length_nil,hA1];omega
        clear hw11
        have hTge0 : TagsM (fun b => (ok b ∨ w1.heap.size ≤ b) ∧ ¬ ownB va0 b) w11 (.map qme0) (rdTags s4).1 := (hT10.weaken fun b _ hk => hk.elim (fun hk => ⟨.inl hk,fun ho => by have := (hown1 b ho).1;have := (hok b hk).1;omega⟩) (fun h => by have h' : w9.heap.size ≤ b := h;exact ⟨.inr (by omega),fun ho => by have := (hown1 _ ho).2;omega⟩)).keep (hV11.keeps fun b _ hk e => hoM1 b hk e)
        have hCe0_11 : Upd (fun b => b = R1 ∨ b = rb) w11 w11 := Upd.refl _ _
        have hCe0_10 : Upd (fun b => b = R1 ∨ b = rb) w10 w11 := hV11.trans hCe0_11
        have hCe0_9 : Upd (fun b => b = R1 ∨ b = rb) w9 w11 := hV10.trans hCe0_10
        have hCe0_8 : Upd (fun b => b = R1 ∨ b = rb) w8 w11 := hV9.trans hCe0_9
        have hCe0_7 : Upd (fun b => b = R1 ∨ b = rb) w7 w11 := hV8.trans hCe0_8
        have hCe0_6 : Upd (fun b => b = R1 ∨ b = rb) w6 w11 := hV7.trans hCe0_7
        have hCe0_5 : Upd (fun b => b = R1 ∨ b = rb) w5 w11 := hV6.trans hCe0_6
        have hCe0_4 : Upd (fun b => b = R1 ∨ b = rb) w4 w11 := hV5.trans hCe0_5
        have hRe0 : RepS true (d + 1) fs_X1 (fun b => (ok b ∨ w1.heap.size ≤ b) ∧ ¬ ownB va0 b) w11 (.mk 0 [] false [xe0_0,xe0_1] (rdTags s4).1) [strV (rdStr true s2).1,.int .i8 (rdInt .i8 1 s3).1,.map qme0] := RepS.introT (c := [strV (rdStr true s2).1,.int .i8 (rdInt .i8 1 s3).1]) (RepL.cons1 (hfe0_0.keepS (hCe0_7.keeps fun b _ hk e => hoM1 b hk e)) (RepL.cons1 (hfe0_1.keepS (hCe0_9.keeps fun b _ hk e => hoM1 b hk e)) RepL.nil)) hTge0
        have hrE : (rd1 (rdP (d + 1) ver true) fAlterUserSCRAMCredentialsRequest_0.of fAlterUserSCRAMCredentialsRequest_0.sub false true) s2 = ((.mk 0 [] false [xe0_0,xe0_1] (rdTags s4).1),s5) := by rw [show (rd1 (rdP (d + 1) ver true) fAlterUserSCRAMCredentialsRequest_0.of fAlterUserSCRAMCredentialsRequest_0.sub false true) s2 = _ from rd1_part];exact hfine0
        have hxE : (Rep1 (RepS true (d + 1)) fAlterUserSCRAMCredentialsRequest_0.of fAlterUserSCRAMCredentialsRequest_0.sub) (fun b => (ok b ∨ w1.heap.size ≤ b) ∧ ¬ ownB va0 b) w11 (.mk 0 [] false [xe0_0,xe0_1] (rdTags s4).1) [strV (rdStr true s2).1,.int .i8 (rdInt .i8 1 s3).1,.map qme0] := Rep1_part.2 hRe0
        repeat ((first | refine qA rfl ?_|refine qB ?_|refine qC rfl ?_|refine qD ?_|refine qE ?_|refine qF ?_|refine qG ?_|refine qH ?_);try simp (maxSteps:=1000000)(disch:=(first|omega|(simp only [qI,qJ,qK]<;>omega)|exact qL _)) only [go_sem,↓reduceIte,n0,reduceCtorEq,n1,n2,n3,n4,n5,i0,i1,i2,i3,i4,i5,i6,i7,hxb11,hrc0_2,hrc0_7,hrc0_8,hrc0_9,hrc0_10,hrc0_13,hra0,hri0,exitRQ_ret,exitRQ_exit,Int.toNat_natCast,Nat.mul_one,hun,hun'])
        have hTk : Upd (fun b => b = R1 ∨ b = rb) w4 w11 := ((((((hV5.trans hV6).trans hV7).trans hV8).trans hV9).trans hV10).trans hV11)
        have hL' := hL0.step (Rep1_lay _ _ fun _ => RepS_lay true _ _) hlt0 (hnext1 w11 [strV (rdStr true s2).1,.int .i8 (rdInt .i8 1 s3).1,.map qme0] rfl hx1_11) (by rw [hrE];exact hxE) (hTk.mono fun b h => h.imp (fun e => ⟨_,_,_,hva1,e⟩) id) (by rw [hrE];exact hq11) (fun h => hoM rb h (.inr rfl)) (Nat.le_refl _)
        have hij : IntKind.i32.wrap ((j1 : Int) + 1) = ((j1 + 1 : Nat) : Int) := by rw [i32_wrap (by omega)];omega
        repeat ((first | refine qA rfl ?_|refine qB ?_|refine qC rfl ?_|refine qD ?_|refine qE ?_|refine qF ?_|refine qG ?_|refine qH ?_);try simp (maxSteps:=1000000)(disch:=(first|omega|(simp only [qI,qJ,qK]<;>omega)|exact qL _)) only [go_sem,↓reduceIte,n0,reduceCtorEq,n1,n2,n3,n4,n5,i0,i1,i2,i3,i4,i5,i6,i7,hxb11,hrc0_2,hrc0_7,hrc0_8,hrc0_9,hrc0_10,hrc0_13,hra0,hri0,exitRQ_ret,exitRQ_exit,Int.toNat_natCast,Nat.mul_one,hun,hun',hij])
        refine ⟨⟨(by simp (maxSteps:=1000000)(disch:=(first|omega|(simp only [qI,qJ,qK]<;>omega)|exact qL _)) only [go_sem,↓reduceIte,n0,reduceCtorEq,n1,n2,n3,n4,n5,i0,i1,i2,i3,i4,i5,i6,i7,Holds_nil,Holds_cons,hrc0_2,hrc0_7,hrc0_8,hrc0_9,hrc0_10,hrc0_13,hra0,hri0];exact hva1.symm),j1 + 1,(by simp (maxSteps:=1000000)(disch:=(first|omega|(simp only [qI,qJ,qK]<;>omega)|exact qL _)) only [go_sem,↓reduceIte,n0,reduceCtorEq,n1,n2,n3,n4,n5,i0,i1,i2,i3,i4,i5,i6,i7,hrc0_2,hrc0_7,hrc0_8,hrc0_9,hrc0_10,hrc0_13,hra0,hri0,hij];all_goals rfl),_,_,_,hL'⟩,?_⟩
        try simp (maxSteps:=1000000)(disch:=(first|omega|(simp only [qI,qJ,qK]<;>omega)|exact qL _)) only [go_sem,↓reduceIte,n0,reduceCtorEq,n1,n2,n3,n4,n5,i0,i1,i2,i3,i4,i5,i6,i7,hrc0_2,hrc0_7,hrc0_8,hrc0_9,hrc0_10,hrc0_13,hra0,hri0]
        simp only [RowKit.intOf]
        omega
      · have hjN : j1 = N0 := by omega
        rw [hjN] at hL0
        repeat ((first | refine qA rfl ?_|refine qB ?_|refine qC rfl ?_|refine qD ?_|refine qE ?_|refine qF ?_|refine qG ?_|refine qH ?_);try simp (maxSteps:=1000000)(disch:=(first|omega|(simp only [qI,qJ,qK]<;>omega)|exact qL _)) only [go_sem,↓reduceIte,n0,reduceCtorEq,n1,n2,n3,n4,n5,i0,i1,i2,i3,i4,i5,i6,i7,hrc0_2,hrc0_7,hrc0_8,hrc0_9,hrc0_10,hrc0_13,hrc0_12,hri0,exitRQ_ret,exitRQ_exit])
        exact ⟨(by simp (maxSteps:=1000000)(disch:=(first|omega|(simp only [qI,qJ,qK]<;>omega)|exact qL _)) only [go_sem,↓reduceIte,n0,reduceCtorEq,n1,n2,n3,n4,n5,i0,i1,i2,i3,i4,i5,i6,i7,Holds_nil,Holds_cons,hrc0_2,hrc0_7,hrc0_8,hrc0_9,hrc0_10,hrc0_13,hrc0_12,hri0]),s2,xs0,css0,hL0⟩
    rintro ρ w12 ⟨⟨hrd0_2,hrd0_7,hrd0_8,hrd0_9,hrd0_10,hrd0_13,hrd0_12,-⟩,s6,xs0,css0,hL0⟩
    have hq12 := hL0.rd
    have hu12 := hL0.upd
    have hv_12 := hu12.blk_some hv_2 (by omega)
    have hV12 : Upd (fun b => b = vb ∨ b = rb) w2 w12 := hu12.mono (fun _ h => .inr h)
    have hU12 : Upd (fun b => b = vb ∨ b = rb) w1 w12 := hU2.trans hV12
    have hz12 := hV12.size
    have hG12 : Glo ev w12 := hG1.updS hU12 hgM1 hgM2
    have hrd0 : rdF (rdP (d + 1) ver true) ver true fAlterUserSCRAMCredentialsRequest_0 s0 = (.mk 0 [] (nilS fAlterUserSCRAMCredentialsRequest_0 ver y0) xs0 [],s6) := by
      have h := rdF_listE (pt := (rdP (d + 1) ver true)) (v := ver) (flex := true) (f := fAlterUserSCRAMCredentialsRequest_0) (s := s0) (xs := xs0) (e := s6) rfl (by rw [hy0,← hN0,← hs1];exact hL0.done)
      rw [hy0] at h;exact h
    have hs6 : s6 = (rdF (rdP (d + 1) ver true) ver true fAlterUserSCRAMCredentialsRequest_0 s0).2 := by rw [hrd0]
    obtain ⟨aa0,qq0,hvs0⟩ := hL0.row.shape
    subst hvs0
    repeat ((first | refine qA rfl ?_|refine qB ?_|refine qC rfl ?_|refine qD ?_|refine qE ?_|refine qF ?_|refine qG ?_|refine qH ?_);try simp (maxSteps:=1000000)(disch:=(first|omega|(simp only [qI,qJ,qK]<;>omega)|exact qL _)) only [go_sem,↓reduceIte,n0,reduceCtorEq,n1,n2,n3,n4,n5,i0,i1,i2,i3,i4,i5,i6,i7,hv_12,hrd0_2,hrd0_7,hrd0_8,hrd0_9,hrd0_10,hrd0_13,hrd0_12,hun,hun'])
    generalize hw13 : wr w12 vb 1 [.slice aa0 N0 qq0] = w13
    have hS13 : Upd (fun b => b = vb ∨ b = rb) w12 w13 := by rw [← hw13];exact (Upd.refl _ _).wr _ _ (.inr (.inl rfl))
    have hv_13 : blk w13 vb = some (#[.int .i16 ver,.slice aa0 N0 qq0,.slice none 0 0,.map none],155,(0,0)) := by rw [← hw13,blk_wr_eq,hv_12];rfl
    have hV13 := hS13
    have hU13 : Upd (fun b => b = vb ∨ b = rb) w1 w13 := hU12.trans hV13
    have hz13 := hV13.size
    have hG13 : Glo ev w13 := hG1.updS hU13 hgM1 hgM2
    have hq13 : Rdr RT ok w13 rb s6 ∧ NN w13 rb s6 := by
      have hn : ∀ x,x = w13 → (Rdr RT ok x rb s6 ∧ NN x rb s6) := fun x hx => by
        rw [hx,← hw13]
        exact Rdr.store hq12 (by omega) (fun h => by have := (hok _ h).1;first | omega | exact (hok _ h).2 rfl)
      exact hn _ rfl
    clear hw13
    have hf_0 : RepF (RepS true (d + 1)) (szS true (d + 1)) fAlterUserSCRAMCredentialsRequest_0 (fun b => ok b ∨ w1.heap.size ≤ b) w13 (x_0) [.slice aa0 N0 qq0] := by rw [hx_0,hrd0];exact RepF.keepS (RepF_row rfl hnc0 hN0 rfl hL0.row hL0.all (fun b hb => .inr (by omega))) (hV13.keeps fun b _ hk e => (hoM b hk) e)
    clear hL0 hnc0
    have hb_1 : (rdL (rdP (d + 1) ver true) (dfP (d + 1)) ver true [fAlterUserSCRAMCredentialsRequest_1] s6).2 = none → FB := fun h => hb_0 (by rw [rdL_st (by decide) hh_0,← hs6];exact h)
    have hh_1 : hasS fAlterUserSCRAMCredentialsRequest_1 ver = true := hasS_t (by show (0 : Int) ≤ ver;omega) (by show (-1 : Int) < 0 ∨ ver ≤ (-1 : Int);omega)
    obtain ⟨x_1,hx_1⟩ : ∃ x,x = (rdF (rdP (d + 1) ver true) ver true fAlterUserSCRAMCredentialsRequest_1 s6).1 := ⟨_,rfl⟩
    repeat ((first | refine qA rfl ?_|refine qB ?_|refine qC rfl ?_|refine qD ?_|refine qE ?_|refine qF ?_|refine qG ?_|refine qH ?_);try simp (maxSteps:=1000000)(disch:=(first|omega|(simp only [qI,qJ,qK]<;>omega)|exact qL _)) only [go_sem,↓reduceIte,n0,reduceCtorEq,n1,n2,n3,n4,n5,i0,i1,i2,i3,i4,i5,i6,i7,hv_13,hrd0_2,hrd0_7,hrd0_8,hrd0_9,hrd0_10,hrd0_13,hrd0_12,hun,hun'])
    refine (RCompactArrayLen_fn w13 hq13.1 hrok hG13.1 hgrb).mono ?_
    rintro _ w14 ⟨rfl,hq14,hu14⟩
    have hv_14 := hu14.blk_some hv_13 (by omega)
    have hV14 : Upd (fun b => b = vb ∨ b = rb) w13 w14 := hu14.mono (fun _ h => .inr h)
    have hU14 : Upd (fun b => b = vb ∨ b = rb) w1 w14 := hU13.trans hV14
    have hz14 := hV14.size
    have hG14 : Glo ev w14 := hG1.updS hU14 hgM1 hgM2
    obtain ⟨s7,hs7⟩ : ∃ s,s = (rdALen true s6).2 := ⟨_,rfl⟩
    rw [← hs7] at hq14
    have hyr1 := rdALen_rng true s6
    generalize hy1 : (rdALen true s6).1 = y1 at *
    obtain ⟨N1,hN1⟩ : ∃ N,N = y1.toNat := ⟨_,rfl⟩
    have hlb1 : (rdMany (rd1 (rdP (d + 1) ver true) fAlterUserSCRAMCredentialsRequest_1.of fAlterUserSCRAMCredentialsRequest_1.sub false true) N1 s7).2 = none → FB := fun h => hb_1 (by rw [rdL_st (by decide) hh_1];exact rdL_bad (rdF_listbad rfl (by rw [hy1,← hN1,← hs7];exact h)))
    repeat ((first | refine W.seqR rfl ?_ | refine W.seq ?_ | refine W.regR rfl ?_ | refine W.block ?_ | refine W.skip ?_ | refine W.ret ?_ | refine W.exit ?_);try simp (maxSteps:=1000000)(disch:=(first|omega|(simp only [qI,qJ,qK]<;>omega)|exact qL _)) only [go_sem,↓reduceIte,n0,reduceCtorEq,n1,n2,n3,n4,n5,i0,i1,i2,i3,i4,i5,i6,i7,hv_14,hrd0_2,hrd0_7,hrd0_8,hrd0_9,hrd0_10,hrd0_13,hrd0_12,hun,hun'])
    refine (ROk_fn w14 hq14.1).mono ?_
    rintro _ wz ⟨rfl,hez⟩
    rw [hez]
    clear hez wz
    by_cases hsn1 : s7 = none
    · have hso : s7.isSome = false := by rw [hsn1];rfl
      try simp (maxSteps:=1000000)(disch:=(first|omega|(simp only [qI,qJ,qK]<;>omega)|exact qL _)) only [go_sem,↓reduceIte,n0,reduceCtorEq,n1,n2,n3,n4,n5,i0,i1,i2,i3,i4,i5,i6,i7,hv_14,hrd0_2,hrd0_7,hrd0_8,hrd0_9,hrd0_10,hrd0_13,hrd0_12,hun,hun',hso]
      repeat ((first | refine qA rfl ?_|refine qB ?_|refine qC rfl ?_|refine qD ?_|refine qE ?_|refine qF ?_|refine qG ?_|refine qH ?_);try simp (maxSteps:=1000000)(disch:=(first|omega|(simp only [qI,qJ,qK]<;>omega)|exact qL _)) only [go_sem,↓reduceIte,n0,reduceCtorEq,n1,n2,n3,n4,n5,i0,i1,i2,i3,i4,i5,i6,i7,hv_14,hrd0_2,hrd0_7,hrd0_8,hrd0_9,hrd0_10,hrd0_13,hrd0_12,hun,hun',hso])
      refine (RComplete_fn w14 hq14.1 hG14.2).mono ?_
      rintro _ wz ⟨rfl,hez⟩
      rw [hez]
      try simp (maxSteps:=1000000)(disch:=(first|omega|(simp only [qI,qJ,qK]<;>omega)|exact qL _)) only [go_sem,↓reduceIte,n0,reduceCtorEq,n1,n2,n3,n4,n5,i0,i1,i2,i3,i4,i5,i6,i7,hv_14,hrd0_2,hrd0_7,hrd0_8,hrd0_9,hrd0_10,hrd0_13,hrd0_12,hun,hun']
      repeat ((first | refine qA rfl ?_|refine qB ?_|refine qC rfl ?_|refine qD ?_|refine qE ?_|refine qF ?_|refine qG ?_|refine qH ?_);try simp (maxSteps:=1000000)(disch:=(first|omega|(simp only [qI,qJ,qK]<;>omega)|exact qL _)) only [go_sem,↓reduceIte,n0,reduceCtorEq,n1,n2,n3,n4,n5,i0,i1,i2,i3,i4,i5,i6,i7,hv_14,hrd0_2,hrd0_7,hrd0_8,hrd0_9,hrd0_10,hrd0_13,hrd0_12,hun,hun'])
      rw [errV_none hsn1]
      exact ReadQ.bad (Eq.mp hFB (hlb1 (by rw [hsn1];exact rdMany_none rd1P_none _))) (hbase.trans' hU14 fun i hi h => h.elim id fun h => by omega)
    have hso1 : s7.isSome = true := isSome_some hsn1
    try simp (maxSteps:=1000000)(disch:=(first|omega|(simp only [qI,qJ,qK]<;>omega)|exact qL _)) only [go_sem,↓reduceIte,n0,reduceCtorEq,n1,n2,n3,n4,n5,i0,i1,i2,i3,i4,i5,i6,i7,hv_14,hrd0_2,hrd0_7,hrd0_8,hrd0_9,hrd0_10,hrd0_13,hrd0_12,hun,hun',hso1]
    repeat ((first | refine W.seqR rfl ?_ | refine W.seq ?_ | refine W.regR rfl ?_ | refine W.block ?_ | refine W.skip ?_ | refine W.ret ?_ | refine W.exit ?_);try simp (maxSteps:=1000000)(disch:=(first|omega|(simp only [qI,qJ,qK]<;>omega)|exact qL _)) only [go_sem,↓reduceIte,n0,reduceCtorEq,n1,n2,n3,n4,n5,i0,i1,i2,i3,i4,i5,i6,i7,hv_14,hrd0_2,hrd0_7,hrd0_8,hrd0_9,hrd0_10,hrd0_13,hrd0_12,hun,hun',hso1])
    refine W.condK ?_
    try simp (maxSteps:=1000000)(disch:=(first|omega|(simp only [qI,qJ,qK]<;>omega)|exact qL _)) only [go_sem,↓reduceIte,n0,reduceCtorEq,n1,n2,n3,n4,n5,i0,i1,i2,i3,i4,i5,i6,i7,hv_14,hrd0_2,hrd0_7,hrd0_8,hrd0_9,hrd0_10,hrd0_13,hrd0_12,hun,hun',hso1]
    repeat ((first | refine W.seqR rfl ?_ | refine W.seq ?_ | refine W.regR rfl ?_ | refine W.block ?_ | refine W.skip ?_ | refine W.ret ?_ | refine W.exit ?_);try simp (maxSteps:=1000000)(disch:=(first|omega|(simp only [qI,qJ,qK]<;>omega)|exact qL _)) only [go_sem,↓reduceIte,n0,reduceCtorEq,n1,n2,n3,n4,n5,i0,i1,i2,i3,i4,i5,i6,i7,hv_14,hrd0_2,hrd0_7,hrd0_8,hrd0_9,hrd0_10,hrd0_13,hrd0_12,hun,hun',hso1,slBase_00])
    refine W.normJ (RowQ [(2,.bool un),(7,.pointer (some ⟨rb,0,none⟩)),(8,.int .i16 ver),(9,.bool true),(10,.pointer (some ⟨vb,0,none⟩)),(21,.int .i32 y1)] 20 (fun va w' => LstI RT (rd1 (rdP (d + 1) ver true) fAlterUserSCRAMCredentialsRequest_1.of fAlterUserSCRAMCredentialsRequest_1.sub false true) (Rep1 (RepS true (d + 1)) fAlterUserSCRAMCredentialsRequest_1.of fAlterUserSCRAMCredentialsRequest_1.sub) 6 163 [.string ByteArray.empty,.int .i8 0,.int .i32 0,.slice none 0 0,.slice none 0 0,.map none] w14.heap.size N1 ok (fun b => ok b ∨ w1.heap.size ≤ b) rb w14 s7 va 0 s7 [] [] w' ∧ (N1 = 0 → if nilS fAlterUserSCRAMCredentialsRequest_1 ver y1 = true then va = .slice none 0 0 else ∃ a,va = .slice (some a) 0 0))) ?_ ?_
    · by_cases hy0 : (0 : Int) < y1
      · have hyv : Value.int .i32 y1 = .int .i32 ((N1 : Nat) : Int) := by rw [show y1 = ((N1 : Nat) : Int) by omega]
        repeat ((first | refine qA rfl ?_|refine qB ?_|refine qC rfl ?_|refine qD ?_|refine qE ?_|refine qF ?_|refine qG ?_|refine qH ?_);try simp (maxSteps:=1000000)(disch:=(first|omega|(simp only [qI,qJ,qK]<;>omega)|exact qL _)) only [go_sem,↓reduceIte,n0,reduceCtorEq,n1,n2,n3,n4,n5,i0,i1,i2,i3,i4,i5,i6,i7,hv_14,hrd0_2,hrd0_7,hrd0_8,hrd0_9,hrd0_10,hrd0_13,hrd0_12,hun,hun'])
        refine wp_appendZ (m := N1) utAlterUserSCRAMCredentialsRequest_153 utAlterUserSCRAMCredentialsRequest_21 inAlterUserSCRAMCredentialsRequest_163 (by decide) (by first | rfl | simp (maxSteps:=1000000)(disch:=(first|omega|(simp only [qI,qJ,qK]<;>omega)|exact qL _)) only [go_sem,↓reduceIte,n0,reduceCtorEq,n1,n2,n3,n4,n5,i0,i1,i2,i3,i4,i5,i6,i7,hrd0_2,hrd0_7,hrd0_8,hrd0_9,hrd0_10,hrd0_13,hrd0_12]) (by first | exact hyv | (simp (maxSteps:=1000000)(disch:=(first|omega|(simp only [qI,qJ,qK]<;>omega)|exact qL _)) only [go_sem,↓reduceIte,n0,reduceCtorEq,n1,n2,n3,n4,n5,i0,i1,i2,i3,i4,i5,i6,i7,hrd0_2,hrd0_7,hrd0_8,hrd0_9,hrd0_10,hrd0_13,hrd0_12];exact hyv)) (by omega) (by omega) (by decide) ?_
        intro q rest hq1
        have hEw : Ext w14 (w14.drew.alloc (.cells (zs [.string ByteArray.empty,.int .i8 0,.int .i32 0,.slice none 0 0,.slice none 0 0,.map none] N1 ++ rest).toArray 163)) := (Upd.refl _ _).drew.alloc _
        try simp (maxSteps:=1000000)(disch:=(first|omega|(simp only [qI,qJ,qK]<;>omega)|exact qL _)) only [go_sem,↓reduceIte,n0,reduceCtorEq,n1,n2,n3,n4,n5,i0,i1,i2,i3,i4,i5,i6,i7,hv_14,hrd0_2,hrd0_7,hrd0_8,hrd0_9,hrd0_10,hrd0_13,hrd0_12,hun,hun']
        repeat ((first | refine qA rfl ?_|refine qB ?_|refine qC rfl ?_|refine qD ?_|refine qE ?_|refine qF ?_|refine qG ?_|refine qH ?_);try simp (maxSteps:=1000000)(disch:=(first|omega|(simp only [qI,qJ,qK]<;>omega)|exact qL _)) only [go_sem,↓reduceIte,n0,reduceCtorEq,n1,n2,n3,n4,n5,i0,i1,i2,i3,i4,i5,i6,i7,hv_14,hrd0_2,hrd0_7,hrd0_8,hrd0_9,hrd0_10,hrd0_13,hrd0_12,hun,hun'])
        exact ⟨(by simp (maxSteps:=1000000)(disch:=(first|omega|(simp only [qI,qJ,qK]<;>omega)|exact qL _)) only [go_sem,↓reduceIte,n0,reduceCtorEq,n1,n2,n3,n4,n5,i0,i1,i2,i3,i4,i5,i6,i7,Holds_nil,Holds_cons,hrd0_2,hrd0_7,hrd0_8,hrd0_9,hrd0_10,hrd0_13,hrd0_12]),.slice (some ⟨w14.heap.size,0,none⟩) N1 q,(by simp (maxSteps:=1000000)(disch:=(first|omega|(simp only [qI,qJ,qK]<;>omega)|exact qL _)) only [go_sem,↓reduceIte,n0,reduceCtorEq,n1,n2,n3,n4,n5,i0,i1,i2,i3,i4,i5,i6,i7,hrd0_2,hrd0_7,hrd0_8,hrd0_9,hrd0_10,hrd0_13,hrd0_12]),LstI.start (RowJ.start (by omega) hq1 (by show w14.heap.size ≤ w14.drew.heap.size;rw [size_drew];omega) (blk_alloc_new rfl)) ⟨hq14.1.upd hEw (fun h => h) (fun _ _ _ h => h),hq14.2.upd hEw fun h => h⟩ (hEw.mono fun _ h => h.elim),fun h0 => by omega⟩
      · repeat ((first | refine qA rfl ?_|refine qB ?_|refine qC rfl ?_|refine qD ?_|refine qE ?_|refine qF ?_|refine qG ?_|refine qH ?_);try simp (maxSteps:=1000000)(disch:=(first|omega|(simp only [qI,qJ,qK]<;>omega)|exact qL _)) only [go_sem,↓reduceIte,n0,reduceCtorEq,n1,n2,n3,n4,n5,i0,i1,i2,i3,i4,i5,i6,i7,hv_14,hrd0_2,hrd0_7,hrd0_8,hrd0_9,hrd0_10,hrd0_13,hrd0_12,hun,hun'])
        exact ⟨(by simp (maxSteps:=1000000)(disch:=(first|omega|(simp only [qI,qJ,qK]<;>omega)|exact qL _)) only [go_sem,↓reduceIte,n0,reduceCtorEq,n1,n2,n3,n4,n5,i0,i1,i2,i3,i4,i5,i6,i7,Holds_nil,Holds_cons,hrd0_2,hrd0_7,hrd0_8,hrd0_9,hrd0_10,hrd0_13,hrd0_12]),.slice none 0 0,(by simp (maxSteps:=1000000)(disch:=(first|omega|(simp only [qI,qJ,qK]<;>omega)|exact qL _)) only [go_sem,↓reduceIte,n0,reduceCtorEq,n1,n2,n3,n4,n5,i0,i1,i2,i3,i4,i5,i6,i7,hrd0_2,hrd0_7,hrd0_8,hrd0_9,hrd0_10,hrd0_13,hrd0_12,slBase_00]),LstI.start (RowJ.zero (by omega) (fun _ h => by cases h)) hq14 (Upd.refl _ _),fun _ => by rw [nilS_plain (by decide) (by omega)];exact rfl⟩
    rintro ρ w15 ⟨⟨hrb1_2,hrb1_7,hrb1_8,hrb1_9,hrb1_10,hrb1_21,-⟩,va1,hra1,hL1,hnc1⟩
    repeat ((first | refine qA rfl ?_|refine qB ?_|refine qC rfl ?_|refine qD ?_|refine qE ?_|refine qF ?_|refine qG ?_|refine qH ?_);try simp (maxSteps:=1000000)(disch:=(first|omega|(simp only [qI,qJ,qK]<;>omega)|exact qL _)) only [go_sem,↓reduceIte,n0,reduceCtorEq,n1,n2,n3,n4,n5,i0,i1,i2,i3,i4,i5,i6,i7,hv_14,hrb1_2,hrb1_7,hrb1_8,hrb1_9,hrb1_10,hrb1_21,hra1,exitRQ_ret,exitRQ_exit,Int.toNat_natCast,Nat.mul_one,hun,hun'])
    refine W.exitRJ 2 (EndQ [(2,.bool un),(7,.pointer (some ⟨rb,0,none⟩)),(8,.int .i16 ver),(9,.bool true),(10,.pointer (some ⟨vb,0,none⟩)),(21,.int .i32 y1),(20,va1)] (fun w' => ∃ s xs css,LstI RT (rd1 (rdP (d + 1) ver true) fAlterUserSCRAMCredentialsRequest_1.of fAlterUserSCRAMCredentialsRequest_1.sub false true) (Rep1 (RepS true (d + 1)) fAlterUserSCRAMCredentialsRequest_1.of fAlterUserSCRAMCredentialsRequest_1.sub) 6 163 [.string ByteArray.empty,.int .i8 0,.int .i32 0,.slice none 0 0,.slice none 0 0,.map none] w14.heap.size N1 ok (fun b => ok b ∨ w1.heap.size ≤ b) rb w14 s7 va1 N1 s xs css w')) (W.loop (LoopQ [(2,.bool un),(7,.pointer (some ⟨rb,0,none⟩)),(8,.int .i16 ver),(9,.bool true),(10,.pointer (some ⟨vb,0,none⟩)),(21,.int .i32 y1),(20,va1)] 22 (fun j w' => ∃ s xs css,LstI RT (rd1 (rdP (d + 1) ver true) fAlterUserSCRAMCredentialsRequest_1.of fAlterUserSCRAMCredentialsRequest_1.sub false true) (Rep1 (RepS true (d + 1)) fAlterUserSCRAMCredentialsRequest_1.of fAlterUserSCRAMCredentialsRequest_1.sub) 6 163 [.string ByteArray.empty,.int .i8 0,.int .i32 0,.slice none 0 0,.slice none 0 0,.map none] w14.heap.size N1 ok (fun b => ok b ∨ w1.heap.size ≤ b) rb w14 s7 va1 j s xs css w')) (fun ρ _ => N1 - (RowKit.intOf (ρ 22)).toNat) ?_ ?_) ?_
    · exact ⟨(by simp (maxSteps:=1000000)(disch:=(first|omega|(simp only [qI,qJ,qK]<;>omega)|exact qL _)) only [go_sem,↓reduceIte,n0,reduceCtorEq,n1,n2,n3,n4,n5,i0,i1,i2,i3,i4,i5,i6,i7,Holds_nil,Holds_cons,hrb1_2,hrb1_7,hrb1_8,hrb1_9,hrb1_10,hrb1_21,hra1]),0,(by simp (maxSteps:=1000000)(disch:=(first|omega|(simp only [qI,qJ,qK]<;>omega)|exact qL _)) only [go_sem,↓reduceIte,n0,reduceCtorEq,n1,n2,n3,n4,n5,i0,i1,i2,i3,i4,i5,i6,i7,hrb1_2,hrb1_7,hrb1_8,hrb1_9,hrb1_10,hrb1_21,hra1];all_goals rfl),s7,[],[],hL1⟩
    · rintro ρ w16 ⟨⟨hrc1_2,hrc1_7,hrc1_8,hrc1_9,hrc1_10,hrc1_21,hrc1_20,-⟩,j1,hri1,s8,xs1,css1,hL1⟩
      have hj1 := hL1.le
      have hq16 := hL1.rd
      have hU16 : Upd (fun b => b = vb ∨ b = rb) w1 w16 := hU14.trans' hL1.upd fun i _ h => .inr h
      have hz16 := hL1.upd.size
      have hG16 : Glo ev w16 := hG1.updS hU16 hgM1 hgM2
      by_cases hlt1 : j1 < N1
      · obtain ⟨R1,q1,B1,hva1,hNq1,hLR1,hA1,hx1_16,hnext1⟩ := hL1.row.next hlt1
        have hRl1 := blk_lt hx1_16
        generalize css1.flatten = A1 at hA1 hx1_16 hnext1
        replace hra1 : ρ 20 = .slice (some ⟨R1,0,none⟩) N1 q1 := hrc1_20.trans hva1
        have hown1 : ∀ b,ownB va1 b → w14.heap.size ≤ b ∧ b < w16.heap.size := fun b h => hL1.row.own h
        have hoM1 : ∀ b,(fun b => (ok b ∨ w1.heap.size ≤ b) ∧ ¬ ownB va1 b) b → ¬ (b = R1 ∨ b = rb) := fun b hk h => h.elim (fun e => hk.2 ⟨_,_,_,hva1,e⟩) (fun e => hoM b hk.1 (.inr e))
        obtain ⟨X16,hX16⟩ : ∃ X : Array Value,X = (A1 ++ (([.string ByteArray.empty,.int .i8 0,.int .i32 0,.slice none 0 0,.slice none 0 0,.map none] : List Value) ++ B1)).toArray := ⟨_,rfl⟩
        have hxb16 : blk w16 R1 = some (X16,163,(0,0)) := by rw [hX16];exact hx1_16
        have hXs16 : j1 * 6 + 6 ≤ X16.size := by rw [hX16];simp only [List.size_toArray,List.length_append,List.length_cons,List.length_nil,hA1];omega
        repeat ((first | refine qA rfl ?_|refine qB ?_|refine qC rfl ?_|refine qD ?_|refine qE ?_|refine qF ?_|refine qG ?_|refine qH ?_);try simp (maxSteps:=1000000)(disch:=(first|omega|(simp only [qI,qJ,qK]<;>omega)|exact qL _)) only [go_sem,↓reduceIte,n0,reduceCtorEq,n1,n2,n3,n4,n5,i0,i1,i2,i3,i4,i5,i6,i7,hxb16,hrc1_2,hrc1_7,hrc1_8,hrc1_9,hrc1_10,hrc1_21,hra1,hri1,exitRQ_ret,exitRQ_exit,Int.toNat_natCast,Nat.mul_one,hun,hun'])
        refine (DefaultEX0_fn w16 hx1_16 hA1).mono ?_
        rintro _ w17 ⟨hx1_17,hu17⟩
        have hq17 := And.intro (hq16.1.upd hu17 (by omega) (fun b _ hk e => by have := (hok b hk).1;omega)) (hq16.2.upd hu17 (by omega))
        have hV17 : Upd (fun b => b = R1 ∨ b = rb) w16 w17 := hu17.mono (fun _ h => .inl h)
        have hU17 : Upd (fun b => b = vb ∨ b = rb) w1 w17 := hU16.trans' hV17 fun i hi h => h.elim (fun h => by omega) .inr
        have hz17 := hV17.size
        have hG17 : Glo ev w17 := hG1.updS hU17 hgM1 hgM2
        obtain ⟨X17,hX17⟩ : ∃ X : Array Value,X = (A1 ++ (([.string ByteArray.empty,.int .i8 0,.int .i32 0,.slice none 0 0,.slice none 0 0,.map none] : List Value) ++ B1)).toArray := ⟨_,rfl⟩
        have hxb17 : blk w17 R1 = some (X17,163,(0,0)) := by rw [hX17];exact hx1_17
        have hXs17 : j1 * 6 + 6 ≤ X17.size := by rw [hX17];simp only [List.size_toArray,List.length_append,List.length_cons,List.length_nil,hA1];omega
        have hbe1_0 : (rdL (rdP d ver true) (dfP d) ver true [fX0_0,fX0_1,fX0_2,fX0_3,fX0_4] s8).2 = none → FB := fun h => hlb1 (hL1.bad hlt1 rd1P_none (by show (rd1 (rdP (d + 1) ver true) 10 fs_X0 false true s8).2 = none;rw [rd1_part];exact rdP_bad h))
        have hhe1_0 : hasS fX0_0 ver = true := hasS_t (by show (0 : Int) ≤ ver;omega) (by show (-1 : Int) < 0 ∨ ver ≤ (-1 : Int);omega)
        obtain ⟨xe1_0,hxe1_0⟩ : ∃ x,x = (rdF (rdP d ver true) ver true fX0_0 s8).1 := ⟨_,rfl⟩
        repeat ((first | refine qA rfl ?_|refine qB ?_|refine qC rfl ?_|refine qD ?_|refine qE ?_|refine qF ?_|refine qG ?_|refine qH ?_);try simp (maxSteps:=1000000)(disch:=(first|omega|(simp only [qI,qJ,qK]<;>omega)|exact qL _)) only [go_sem,↓reduceIte,n0,reduceCtorEq,n1,n2,n3,n4,n5,i0,i1,i2,i3,i4,i5,i6,i7,hxb17,hrc1_2,hrc1_7,hrc1_8,hrc1_9,hrc1_10,hrc1_21,hra1,hri1,exitRQ_ret,exitRQ_exit,Int.toNat_natCast,Nat.mul_one,hun,hun'])
        have hmay : mayS fX0_0 ver = false := mayS_no (by show (-1 : Int) < 0 ∨ ver < (-1 : Int);omega)
        have hrd : rdF (rdP d ver true) ver true fX0_0 s8 = _ := rdF_text rfl hmay
        first | refine (RUnsafeCompactString_fn w17 hq17.1 hrok hG17.1 hgrb).mono ?_ | refine (RCompactString_fn w17 hq17.1 hrok hG17.1 hgrb).mono ?_
        rintro _ w18 ⟨rfl,hq18,hu18⟩
        have hx1_18 := hu18.blk_some hx1_17 (by omega)
        have hV18 : Upd (fun b => b = R1 ∨ b = rb) w17 w18 := hu18.mono (fun _ h => .inr h)
        have hU18 : Upd (fun b => b = vb ∨ b = rb) w1 w18 := hU17.trans' hV18 fun i hi h => h.elim (fun h => by omega) .inr
        have hz18 := hV18.size
        have hG18 : Glo ev w18 := hG1.updS hU18 hgM1 hgM2
        obtain ⟨X18,hX18⟩ : ∃ X : Array Value,X = (A1 ++ (([.string ByteArray.empty,.int .i8 0,.int .i32 0,.slice none 0 0,.slice none 0 0,.map none] : List Value) ++ B1)).toArray := ⟨_,rfl⟩
        have hxb18 : blk w18 R1 = some (X18,163,(0,0)) := by rw [hX18];exact hx1_18
        have hXs18 : j1 * 6 + 6 ≤ X18.size := by rw [hX18];simp only [List.size_toArray,List.length_append,List.length_cons,List.length_nil,hA1];omega
        have hst : (rdF (rdP d ver true) ver true fX0_0 s8).2 = (rdStr true s8).2 := by first | (rw [hrd];rfl) | rw [hrd]
        obtain ⟨s9,hs9⟩ : ∃ s,s = (rdF (rdP d ver true) ver true fX0_0 s8).2 := ⟨_,rfl⟩
        rw [← hst,← hs9] at hq18
        clear hst
        have hst18_0 : j1 * 6 + 1 ≤ X18.size := by omega
        repeat ((first | refine qA rfl ?_|refine qB ?_|refine qC rfl ?_|refine qD ?_|refine qE ?_|refine qF ?_|refine qG ?_|refine qH ?_);try simp (maxSteps:=1000000)(disch:=(first|omega|(simp only [qI,qJ,qK]<;>omega)|exact qL _)) only [go_sem,↓reduceIte,n0,reduceCtorEq,n1,n2,n3,n4,n5,i0,i1,i2,i3,i4,i5,i6,i7,hxb18,hrc1_2,hrc1_7,hrc1_8,hrc1_9,hrc1_10,hrc1_21,hra1,hri1,exitRQ_ret,exitRQ_exit,Int.toNat_natCast,Nat.mul_one,hun,hun',hst18_0])
        generalize hw19 : wr w18 R1 (j1 * 6) [strV (rdStr true s8).1] = w19
        have hS19 : Upd (fun b => b = R1 ∨ b = rb) w18 w19 := by rw [← hw19];exact (Upd.refl _ _).wr _ _ (.inr (.inl rfl))
        have hx1_19 : blk w19 R1 = some ((A1 ++ (([strV (rdStr true s8).1,.int .i8 0,.int .i32 0,.slice none 0 0,.slice none 0 0,.map none] : List Value) ++ B1)).toArray,163,(0,0)) := by rw [← hw19];exact el_blk0 hx1_18 hA1 (Nat.le_of_ble_eq_true rfl)
        have hV19 := hS19
        have hU19 : Upd (fun b => b = vb ∨ b = rb) w1 w19 := hU18.trans' hV19 fun i hi h => h.elim (fun h => by omega) .inr
        have hz19 := hV19.size
        have hG19 : Glo ev w19 := hG1.updS hU19 hgM1 hgM2
        have hq19 : Rdr RT ok w19 rb s9 ∧ NN w19 rb s9 := by
          have hn : ∀ x,x = w19 → (Rdr RT ok x rb s9 ∧ NN x rb s9) := fun x hx => by
            rw [hx,← hw19]
            exact Rdr.store hq18 (by omega) (fun h => by have := (hok _ h).1;first | omega | exact (hok _ h).2 rfl)
          exact hn _ rfl
        obtain ⟨X19,hX19⟩ : ∃ X : Array Value,X = (A1 ++ (([strV (rdStr true s8).1,.int .i8 0,.int .i32 0,.slice none 0 0,.slice none 0 0,.map none] : List Value) ++ B1)).toArray := ⟨_,rfl⟩
        have hxb19 : blk w19 R1 = some (X19,163,(0,0)) := by rw [hX19];exact hx1_19
        have hXs19 : j1 * 6 + 6 ≤ X19.size := by rw [hX19];simp only [List.size_toArray,List.length_append,List.length_cons,List.length_nil,hA1];omega
        clear hw19
        have hfe1_0 : RepF (RepS true d) (szS true d) fX0_0 (fun b => (ok b ∨ w1.heap.size ≤ b) ∧ ¬ ownB va1 b) w19 (xe1_0) [strV (rdStr true s8).1] := (RepF_text rfl (by decide)).2 (by rw [hxe1_0,hrd];rfl)
        clear hrd
        have hbe1_1 : (rdL (rdP d ver true) (dfP d) ver true [fX0_1,fX0_2,fX0_3,fX0_4] s9).2 = none → FB := fun h => hbe1_0 (by rw [rdL_st (by decide) hhe1_0,← hs9];exact h)
        have hhe1_1 : hasS fX0_1 ver = true := hasS_t (by show (0 : Int) ≤ ver;omega) (by show (-1 : Int) < 0 ∨ ver ≤ (-1 : Int);omega)
        obtain ⟨xe1_1,hxe1_1⟩ : ∃ x,x = (rdF (rdP d ver true) ver true fX0_1 s9).1 := ⟨_,rfl⟩
        repeat ((first | refine qA rfl ?_|refine qB ?_|refine qC rfl ?_|refine qD ?_|refine qE ?_|refine qF ?_|refine qG ?_|refine qH ?_);try simp (maxSteps:=1000000)(disch:=(first|omega|(simp only [qI,qJ,qK]<;>omega)|exact qL _)) only [go_sem,↓reduceIte,n0,reduceCtorEq,n1,n2,n3,n4,n5,i0,i1,i2,i3,i4,i5,i6,i7,hxb19,hrc1_2,hrc1_7,hrc1_8,hrc1_9,hrc1_10,hrc1_21,hra1,hri1,exitRQ_ret,exitRQ_exit,Int.toNat_natCast,Nat.mul_one,hun,hun'])
        have hrd : rdF (rdP d ver true) ver true fX0_1 s9 = _ := rdF_num 1 rfl (by decide)
        refine (Int8_fn w19 hq19.1 hrok).mono ?_
        rintro _ w20 ⟨rfl,hq20,hu20⟩
        have hx1_20 := hu20.blk_some hx1_19 (by omega)
        have hV20 : Upd (fun b => b = R1 ∨ b = rb) w19 w20 := hu20.mono (fun _ h => .inr h)
        have hU20 : Upd (fun b => b = vb ∨ b = rb) w1 w20 := hU19.trans' hV20 fun i hi h => h.elim (fun h => by omega) .inr
        have hz20 := hV20.size
        have hG20 : Glo ev w20 := hG1.updS hU20 hgM1 hgM2
        obtain ⟨X20,hX20⟩ : ∃ X : Array Value,X = (A1 ++ (([strV (rdStr true s8).1,.int .i8 0,.int .i32 0,.slice none 0 0,.slice none 0 0,.map none] : List Value) ++ B1)).toArray := ⟨_,rfl⟩
        have hxb20 : blk w20 R1 = some (X20,163,(0,0)) := by rw [hX20];exact hx1_20
        have hXs20 : j1 * 6 + 6 ≤ X20.size := by rw [hX20];simp only [List.size_toArray,List.length_append,List.length_cons,List.length_nil,hA1];omega
        have hst : (rdF (rdP d ver true) ver true fX0_1 s9).2 = (rdInt .i8 1 s9).2 := by first | (rw [hrd];rfl) | rw [hrd]
        obtain ⟨s10,hs10⟩ : ∃ s,s = (rdF (rdP d ver true) ver true fX0_1 s9).2 := ⟨_,rfl⟩
        rw [← hst,← hs10] at hq20
        clear hst
        have hst20_1 : j1 * 6 + 2 ≤ X20.size := by omega
        repeat ((first | refine qA rfl ?_|refine qB ?_|refine qC rfl ?_|refine qD ?_|refine qE ?_|refine qF ?_|refine qG ?_|refine qH ?_);try simp (maxSteps:=1000000)(disch:=(first|omega|(simp only [qI,qJ,qK]<;>omega)|exact qL _)) only [go_sem,↓reduceIte,n0,reduceCtorEq,n1,n2,n3,n4,n5,i0,i1,i2,i3,i4,i5,i6,i7,hxb20,hrc1_2,hrc1_7,hrc1_8,hrc1_9,hrc1_10,hrc1_21,hra1,hri1,exitRQ_ret,exitRQ_exit,Int.toNat_natCast,Nat.mul_one,hun,hun',hst20_1])
        generalize hw21 : wr w20 R1 (j1 * 6 + 1) [.int .i8 (rdInt .i8 1 s9).1] = w21
        have hS21 : Upd (fun b => b = R1 ∨ b = rb) w20 w21 := by rw [← hw21];exact (Upd.refl _ _).wr _ _ (.inr (.inl rfl))
        have hx1_21 : blk w21 R1 = some ((A1 ++ (([strV (rdStr true s8).1,.int .i8 (rdInt .i8 1 s9).1,.int .i32 0,.slice none 0 0,.slice none 0 0,.map none] : List Value) ++ B1)).toArray,163,(0,0)) := by rw [← hw21];exact el_blk (o := 1) hx1_20 hA1 (Nat.le_of_ble_eq_true rfl)
        have hV21 := hS21
        have hU21 : Upd (fun b => b = vb ∨ b = rb) w1 w21 := hU20.trans' hV21 fun i hi h => h.elim (fun h => by omega) .inr
        have hz21 := hV21.size
        have hG21 : Glo ev w21 := hG1.updS hU21 hgM1 hgM2
        have hq21 : Rdr RT ok w21 rb s10 ∧ NN w21 rb s10 := by
          have hn : ∀ x,x = w21 → (Rdr RT ok x rb s10 ∧ NN x rb s10) := fun x hx => by
            rw [hx,← hw21]
            exact Rdr.store hq20 (by omega) (fun h => by have := (hok _ h).1;first | omega | exact (hok _ h).2 rfl)
          exact hn _ rfl
        obtain ⟨X21,hX21⟩ : ∃ X : Array Value,X = (A1 ++ (([strV (rdStr true s8).1,.int .i8 (rdInt .i8 1 s9).1,.int .i32 0,.slice none 0 0,.slice none 0 0,.map none] : List Value) ++ B1)).toArray := ⟨_,rfl⟩
        have hxb21 : blk w21 R1 = some (X21,163,(0,0)) := by rw [hX21];exact hx1_21
        have hXs21 : j1 * 6 + 6 ≤ X21.size := by rw [hX21];simp only [List.size_toArray,List.length_append,List.length_cons,List.length_nil,hA1];omega
        clear hw21
        have hfe1_1 : RepF (RepS true d) (szS true d) fX0_1 (fun b => (ok b ∨ w1.heap.size ≤ b) ∧ ¬ ownB va1 b) w21 (xe1_1) [.int .i8 (rdInt .i8 1 s9).1] := (RepF_num (by decide)).2 (by rw [hxe1_1,hrd];exact congrArg (fun x => [x]) (numC_rd 1 (by decide) 1 s9).symm)
        clear hrd
        have hbe1_2 : (rdL (rdP d ver true) (dfP d) ver true [fX0_2,fX0_3,fX0_4] s10).2 = none → FB := fun h => hbe1_1 (by rw [rdL_st (by decide) hhe1_1,← hs10];exact h)
        have hhe1_2 : hasS fX0_2 ver = true := hasS_t (by show (0 : Int) ≤ ver;omega) (by show (-1 : Int) < 0 ∨ ver ≤ (-1 : Int);omega)
        obtain ⟨xe1_2,hxe1_2⟩ : ∃ x,x = (rdF (rdP d ver true) ver true fX0_2 s10).1 := ⟨_,rfl⟩
        repeat ((first | refine qA rfl ?_|refine qB ?_|refine qC rfl ?_|refine qD ?_|refine qE ?_|refine qF ?_|refine qG ?_|refine qH ?_);try simp (maxSteps:=1000000)(disch:=(first|omega|(simp only [qI,qJ,qK]<;>omega)|exact qL _)) only [go_sem,↓reduceIte,n0,reduceCtorEq,n1,n2,n3,n4,n5,i0,i1,i2,i3,i4,i5,i6,i7,hxb21,hrc1_2,hrc1_7,hrc1_8,hrc1_9,hrc1_10,hrc1_21,hra1,hri1,exitRQ_ret,exitRQ_exit,Int.toNat_natCast,Nat.mul_one,hun,hun'])
        have hrd : rdF (rdP d ver true) ver true fX0_2 s10 = _ := rdF_num 3 rfl (by decide)
        refine (Int32_fn w21 hq21.1 hrok hG21.1 hgrb).mono ?_
        rintro _ w22 ⟨rfl,hq22,hu22⟩
        have hx1_22 := hu22.blk_some hx1_21 (by omega)
        have hV22 : Upd (fun b => b = R1 ∨ b = rb) w21 w22 := hu22.mono (fun _ h => .inr h)
        have hU22 : Upd (fun b => b = vb ∨ b = rb) w1 w22 := hU21.trans' hV22 fun i hi h => h.elim (fun h => by omega) .inr
        have hz22 := hV22.size
        have hG22 : Glo ev w22 := hG1.updS hU22 hgM1 hgM2
        obtain ⟨X22,hX22⟩ : ∃ X : Array Value,X = (A1 ++ (([strV (rdStr true s8).1,.int .i8 (rdInt .i8 1 s9).1,.int .i32 0,.slice none 0 0,.slice none 0 0,.map none] : List Value) ++ B1)).toArray := ⟨_,rfl⟩
        have hxb22 : blk w22 R1 = some (X22,163,(0,0)) := by rw [hX22];exact hx1_22
        have hXs22 : j1 * 6 + 6 ≤ X22.size := by rw [hX22];simp only [List.size_toArray,List.length_append,List.length_cons,List.length_nil,hA1];omega
        have hst : (rdF (rdP d ver true) ver true fX0_2 s10).2 = (rdInt .i32 4 s10).2 := by first | (rw [hrd];rfl) | rw [hrd]
        obtain ⟨s11,hs11⟩ : ∃ s,s = (rdF (rdP d ver true) ver true fX0_2 s10).2 := ⟨_,rfl⟩
        rw [← hst,← hs11] at hq22
        clear hst
        have hst22_2 : j1 * 6 + 3 ≤ X22.size := by omega
        repeat ((first | refine qA rfl ?_|refine qB ?_|refine qC rfl ?_|refine qD ?_|refine qE ?_|refine qF ?_|refine qG ?_|refine qH ?_);try simp (maxSteps:=1000000)(disch:=(first|omega|(simp only [qI,qJ,qK]<;>omega)|exact qL _)) only [go_sem,↓reduceIte,n0,reduceCtorEq,n1,n2,n3,n4,n5,i0,i1,i2,i3,i4,i5,i6,i7,hxb22,hrc1_2,hrc1_7,hrc1_8,hrc1_9,hrc1_10,hrc1_21,hra1,hri1,exitRQ_ret,exitRQ_exit,Int.toNat_natCast,Nat.mul_one,hun,hun',hst22_2])
        generalize hw23 : wr w22 R1 (j1 * 6 + 2) [.int .i32 (rdInt .i32 4 s10).1] = w23
        have hS23 : Upd (fun b => b = R1 ∨ b = rb) w22 w23 := by rw [← hw23];exact (Upd.refl _ _).wr _ _ (.inr (.inl rfl))
        have hx1_23 : blk w23 R1 = some ((A1 ++ (([strV (rdStr true s8).1,.int .i8 (rdInt .i8 1 s9).1,.int .i32 (rdInt .i32 4 s10).1,.slice none 0 0,.slice none 0 0,.map none] : List Value) ++ B1)).toArray,163,(0,0)) := by rw [← hw23];exact el_blk (o := 2) hx1_22 hA1 (Nat.le_of_ble_eq_true rfl)
        have hV23 := hS23
        have hU23 : Upd (fun b => b = vb ∨ b = rb) w1 w23 := hU22.trans' hV23 fun i hi h => h.elim (fun h => by omega) .inr
        have hz23 := hV23.size
        have hG23 : Glo ev w23 := hG1.updS hU23 hgM1 hgM2
        have hq23 : Rdr RT ok w23 rb s11 ∧ NN w23 rb s11 := by
          have hn : ∀ x,x = w23 → (Rdr RT ok x rb s11 ∧ NN x rb s11) := fun x hx => by
            rw [hx,← hw23]
            exact Rdr.store hq22 (by omega) (fun h => by have := (hok _ h).1;first | omega | exact (hok _ h).2 rfl)
          exact hn _ rfl
        obtain ⟨X23,hX23⟩ : ∃ X : Array Value,X = (A1 ++ (([strV (rdStr true s8).1,.int .i8 (rdInt .i8 1 s9).1,.int .i32 (rdInt .i32 4 s10).1,.slice none 0 0,.slice none 0 0,.map none] : List Value) ++ B1)).toArray := ⟨_,rfl⟩
        have hxb23 : blk w23 R1 = some (X23,163,(0,0)) := by rw [hX23];exact hx1_23
        have hXs23 : j1 * 6 + 6 ≤ X23.size := by rw [hX23];simp only [List.size_toArray,List.length_append,List.length_cons,List.length_nil,hA1];omega
        clear hw23
        have hfe1_2 : RepF (RepS true d) (szS true d) fX0_2 (fun b => (ok b ∨ w1.heap.size ≤ b) ∧ ¬ ownB va1 b) w23 (xe1_2) [.int .i32 (rdInt .i32 4 s10).1] := (RepF_num (by decide)).2 (by rw [hxe1_2,hrd];exact congrArg (fun x => [x]) (numC_rd 3 (by decide) 4 s10).symm)
        clear hrd
        have hbe1_3 : (rdL (rdP d ver true) (dfP d) ver true [fX0_3,fX0_4] s11).2 = none → FB := fun h => hbe1_2 (by rw [rdL_st (by decide) hhe1_2,← hs11];exact h)
        have hhe1_3 : hasS fX0_3 ver = true := hasS_t (by show (0 : Int) ≤ ver;omega) (by show (-1 : Int) < 0 ∨ ver ≤ (-1 : Int);omega)
        obtain ⟨xe1_3,hxe1_3⟩ : ∃ x,x = (rdF (rdP d ver true) ver true fX0_3 s11).1 := ⟨_,rfl⟩
        repeat ((first | refine qA rfl ?_|refine qB ?_|refine qC rfl ?_|refine qD ?_|refine qE ?_|refine qF ?_|refine qG ?_|refine qH ?_);try simp (maxSteps:=1000000)(disch:=(first|omega|(simp only [qI,qJ,qK]<;>omega)|exact qL _)) only [go_sem,↓reduceIte,n0,reduceCtorEq,n1,n2,n3,n4,n5,i0,i1,i2,i3,i4,i5,i6,i7,hxb23,hrc1_2,hrc1_7,hrc1_8,hrc1_9,hrc1_10,hrc1_21,hra1,hri1,exitRQ_ret,exitRQ_exit,Int.toNat_natCast,Nat.mul_one,hun,hun'])
        have hmay : mayS fX0_3 ver = false := mayS_no (by show (-1 : Int) < 0 ∨ ver < (-1 : Int);omega)
        have hrd : rdF (rdP d ver true) ver true fX0_3 s11 = _ := rdF_oct rfl hmay
        refine (RCompactBytes_fn w23 hq23.1 hrok hG23.1 hgrb).mono ?_
        rintro r24 w24 ⟨hp24,hq24,hu24⟩
        obtain ⟨ao24,no24,co24,rfl⟩ := hp24.shape
        have hx1_24 := hu24.blk_some hx1_23 (by omega)
        have hV24 : Upd (fun b => b = R1 ∨ b = rb) w23 w24 := hu24.mono (fun _ h => .inr h)
        have hU24 : Upd (fun b => b = vb ∨ b = rb) w1 w24 := hU23.trans' hV24 fun i hi h => h.elim (fun h => by omega) .inr
        have hz24 := hV24.size
        have hG24 : Glo ev w24 := hG1.updS hU24 hgM1 hgM2
        obtain ⟨X24,hX24⟩ : ∃ X : Array Value,X = (A1 ++ (([strV (rdStr true s8).1,.int .i8 (rdInt .i8 1 s9).1,.int .i32 (rdInt .i32 4 s10).1,.slice none 0 0,.slice none 0 0,.map none] : List Value) ++ B1)).toArray := ⟨_,rfl⟩
        have hxb24 : blk w24 R1 = some (X24,163,(0,0)) := by rw [hX24];exact hx1_24
        have hXs24 : j1 * 6 + 6 ≤ X24.size := by rw [hX24];simp only [List.size_toArray,List.length_append,List.length_cons,List.length_nil,hA1];omega
        have hst : (rdF (rdP d ver true) ver true fX0_3 s11).2 = (rdBytes true s11).2 := by first | (rw [hrd];rfl) | rw [hrd]
        obtain ⟨s12,hs12⟩ : ∃ s,s = (rdF (rdP d ver true) ver true fX0_3 s11).2 := ⟨_,rfl⟩
        rw [← hst,← hs12] at hq24
        clear hst
        have hst24_3 : j1 * 6 + 4 ≤ X24.size := by omega
        repeat ((first | refine qA rfl ?_|refine qB ?_|refine qC rfl ?_|refine qD ?_|refine qE ?_|refine qF ?_|refine qG ?_|refine qH ?_);try simp (maxSteps:=1000000)(disch:=(first|omega|(simp only [qI,qJ,qK]<;>omega)|exact qL _)) only [go_sem,↓reduceIte,n0,reduceCtorEq,n1,n2,n3,n4,n5,i0,i1,i2,i3,i4,i5,i6,i7,hxb24,hrc1_2,hrc1_7,hrc1_8,hrc1_9,hrc1_10,hrc1_21,hra1,hri1,exitRQ_ret,exitRQ_exit,Int.toNat_natCast,Nat.mul_one,hun,hun',hst24_3])
        generalize hw25 : wr w24 R1 (j1 * 6 + 3) [.slice ao24 no24 co24] = w25
        have hS25 : Upd (fun b => b = R1 ∨ b = rb) w24 w25 := by rw [← hw25];exact (Upd.refl _ _).wr _ _ (.inr (.inl rfl))
        have hx1_25 : blk w25 R1 = some ((A1 ++ (([strV (rdStr true s8).1,.int .i8 (rdInt .i8 1 s9).1,.int .i32 (rdInt .i32 4 s10).1,.slice ao24 no24 co24,.slice none 0 0,.map none] : List Value) ++ B1)).toArray,163,(0,0)) := by rw [← hw25];exact el_blk (o := 3) hx1_24 hA1 (Nat.le_of_ble_eq_true rfl)
        have hV25 := hS25
        have hU25 : Upd (fun b => b = vb ∨ b = rb) w1 w25 := hU24.trans' hV25 fun i hi h => h.elim (fun h => by omega) .inr
        have hz25 := hV25.size
        have hG25 : Glo ev w25 := hG1.updS hU25 hgM1 hgM2
        have hq25 : Rdr RT ok w25 rb s12 ∧ NN w25 rb s12 := by
          have hn : ∀ x,x = w25 → (Rdr RT ok x rb s12 ∧ NN x rb s12) := fun x hx => by
            rw [hx,← hw25]
            exact Rdr.store hq24 (by omega) (fun h => by have := (hok _ h).1;first | omega | exact (hok _ h).2 rfl)
          exact hn _ rfl
        obtain ⟨X25,hX25⟩ : ∃ X : Array Value,X = (A1 ++ (([strV (rdStr true s8).1,.int .i8 (rdInt .i8 1 s9).1,.int .i32 (rdInt .i32 4 s10).1,.slice ao24 no24 co24,.slice none 0 0,.map none] : List Value) ++ B1)).toArray := ⟨_,rfl⟩
        have hxb25 : blk w25 R1 = some (X25,163,(0,0)) := by rw [hX25];exact hx1_25
        have hXs25 : j1 * 6 + 6 ≤ X25.size := by rw [hX25];simp only [List.size_toArray,List.length_append,List.length_cons,List.length_nil,hA1];omega
        clear hw25
        have hfe1_3 : RepF (RepS true d) (szS true d) fX0_3 (fun b => (ok b ∨ w1.heap.size ≤ b) ∧ ¬ ownB va1 b) w25 (xe1_3) [.slice ao24 no24 co24] := (RepF_bytes rfl).2 ⟨_,rfl,by rw [hxe1_3,hrd];exact (hp24.weaken fun b _ hk => ⟨.inl hk,fun ho => by have := (hown1 b ho).1;have := (hok b hk).1;omega⟩).keep (hV25.keeps fun b _ hk e => hoM1 b hk e)⟩
        clear hrd
        have hbe1_4 : (rdL (rdP d ver true) (dfP d) ver true [fX0_4] s12).2 = none → FB := fun h => hbe1_3 (by rw [rdL_st (by decide) hhe1_3,← hs12];exact h)
        have hhe1_4 : hasS fX0_4 ver = true := hasS_t (by show (0 : Int) ≤ ver;omega) (by show (-1 : Int) < 0 ∨ ver ≤ (-1 : Int);omega)
        obtain ⟨xe1_4,hxe1_4⟩ : ∃ x,x = (rdF (rdP d ver true) ver true fX0_4 s12).1 := ⟨_,rfl⟩
        repeat ((first | refine qA rfl ?_|refine qB ?_|refine qC rfl ?_|refine qD ?_|refine qE ?_|refine qF ?_|refine qG ?_|refine qH ?_);try simp (maxSteps:=1000000)(disch:=(first|omega|(simp only [qI,qJ,qK]<;>omega)|exact qL _)) only [go_sem,↓reduceIte,n0,reduceCtorEq,n1,n2,n3,n4,n5,i0,i1,i2,i3,i4,i5,i6,i7,hxb25,hrc1_2,hrc1_7,hrc1_8,hrc1_9,hrc1_10,hrc1_21,hra1,hri1,exitRQ_ret,exitRQ_exit,Int.toNat_natCast,Nat.mul_one,hun,hun'])
        have hmay : mayS fX0_4 ver = false := mayS_no (by show (-1 : Int) < 0 ∨ ver < (-1 : Int);omega)
        have hrd : rdF (rdP d ver true) ver true fX0_4 s12 = _ := rdF_oct rfl hmay
        refine (RCompactBytes_fn w25 hq25.1 hrok hG25.1 hgrb).mono ?_
        rintro r26 w26 ⟨hp26,hq26,hu26⟩
        obtain ⟨ao26,no26,co26,rfl⟩ := hp26.shape
        have hx1_26 := hu26.blk_some hx1_25 (by omega)
        have hV26 : Upd (fun b => b = R1 ∨ b = rb) w25 w26 := hu26.mono (fun _ h => .inr h)
        have hU26 : Upd (fun b => b = vb ∨ b = rb) w1 w26 := hU25.trans' hV26 fun i hi h => h.elim (fun h => by omega) .inr
        have hz26 := hV26.size
        have hG26 : Glo ev w26 := hG1.updS hU26 hgM1 hgM2
        obtain ⟨X26,hX26⟩ : ∃ X : Array Value,X = (A1 ++ (([strV (rdStr true s8).1,.int .i8 (rdInt .i8 1 s9).1,.int .i32 (rdInt .i32 4 s10).1,.slice ao24 no24 co24,.slice none 0 0,.map none] : List Value) ++ B1)).toArray := ⟨_,rfl⟩
        have hxb26 : blk w26 R1 = some (X26,163,(0,0)) := by rw [hX26];exact hx1_26
        have hXs26 : j1 * 6 + 6 ≤ X26.size := by rw [hX26];simp only [List.size_toArray,List.length_append,List.length_cons,List.length_nil,hA1];omega
        have hst : (rdF (rdP d ver true) ver true fX0_4 s12).2 = (rdBytes true s12).2 := by first | (rw [hrd];rfl) | rw [hrd]
        obtain ⟨s13,hs13⟩ : ∃ s,s = (rdF (rdP d ver true) ver true fX0_4 s12).2 := ⟨_,rfl⟩
        rw [← hst,← hs13] at hq26
        clear hst
        have hst26_4 : j1 * 6 + 5 ≤ X26.size := by omega
        repeat ((first | refine qA rfl ?_|refine qB ?_|refine qC rfl ?_|refine qD ?_|refine qE ?_|refine qF ?_|refine qG ?_|refine qH ?_);try simp (maxSteps:=1000000)(disch:=(first|omega|(simp only [qI,qJ,qK]<;>omega)|exact qL _)) only [go_sem,↓reduceIte,n0,reduceCtorEq,n1,n2,n3,n4,n5,i0,i1,i2,i3,i4,i5,i6,i7,hxb26,hrc1_2,hrc1_7,hrc1_8,hrc1_9,hrc1_10,hrc1_21,hra1,hri1,exitRQ_ret,exitRQ_exit,Int.toNat_natCast,Nat.mul_one,hun,hun',hst26_4])
        generalize hw27 : wr w26 R1 (j1 * 6 + 4) [.slice ao26 no26 co26] = w27
        have hS27 : Upd (fun b => b = R1 ∨ b = rb) w26 w27 := by rw [← hw27];exact (Upd.refl _ _).wr _ _ (.inr (.inl rfl))
        have hx1_27 : blk w27 R1 = some ((A1 ++ (([strV (rdStr true s8).1,.int .i8 (rdInt .i8 1 s9).1,.int .i32 (rdInt .i32 4 s10).1,.slice ao24 no24 co24,.slice ao26 no26 co26,.map none] : List Value) ++ B1)).toArray,163,(0,0)) := by rw [← hw27];exact el_blk (o := 4) hx1_26 hA1 (Nat.le_of_ble_eq_true rfl)
        have hV27 := hS27
        have hU27 : Upd (fun b => b = vb ∨ b = rb) w1 w27 := hU26.trans' hV27 fun i hi h => h.elim (fun h => by omega) .inr
        have hz27 := hV27.size
        have hG27 : Glo ev w27 := hG1.updS hU27 hgM1 hgM2
        have hq27 : Rdr RT ok w27 rb s13 ∧ NN w27 rb s13 := by
          have hn : ∀ x,x = w27 → (Rdr RT ok x rb s13 ∧ NN x rb s13) := fun x hx => by
            rw [hx,← hw27]
            exact Rdr.store hq26 (by omega) (fun h => by have := (hok _ h).1;first | omega | exact (hok _ h).2 rfl)
          exact hn _ rfl
        obtain ⟨X27,hX27⟩ : ∃ X : Array Value,X = (A1 ++ (([strV (rdStr true s8).1,.int .i8 (rdInt .i8 1 s9).1,.int .i32 (rdInt .i32 4 s10).1,.slice ao24 no24 co24,.slice ao26 no26 co26,.map none] : List Value) ++ B1)).toArray := ⟨_,rfl⟩
        have hxb27 : blk w27 R1 = some (X27,163,(0,0)) := by rw [hX27];exact hx1_27
        have hXs27 : j1 * 6 + 6 ≤ X27.size := by rw [hX27];simp only [List.size_toArray,List.length_append,List.length_cons,List.length_nil,hA1];omega
        clear hw27
        have hfe1_4 : RepF (RepS true d) (szS true d) fX0_4 (fun b => (ok b ∨ w1.heap.size ≤ b) ∧ ¬ ownB va1 b) w27 (xe1_4) [.slice ao26 no26 co26] := (RepF_bytes rfl).2 ⟨_,rfl,by rw [hxe1_4,hrd];exact (hp26.weaken fun b _ hk => ⟨.inl hk,fun ho => by have := (hown1 b ho).1;have := (hok b hk).1;omega⟩).keep (hV27.keeps fun b _ hk e => hoM1 b hk e)⟩
        clear hrd
        have hle1_5 : rdL (rdP d ver true) (dfP d) ver true [] s13 = ([],s13) := rfl
        have hle1_4 : rdL (rdP d ver true) (dfP d) ver true [fX0_4] s12 = ([xe1_4],s13) := by rw [rdL_st (by decide) hhe1_4,← hxe1_4,← hs13,hle1_5]
        have hle1_3 : rdL (rdP d ver true) (dfP d) ver true [fX0_3,fX0_4] s11 = ([xe1_3,xe1_4],s13) := by rw [rdL_st (by decide) hhe1_3,← hxe1_3,← hs12,hle1_4]
        have hle1_2 : rdL (rdP d ver true) (dfP d) ver true [fX0_2,fX0_3,fX0_4] s10 = ([xe1_2,xe1_3,xe1_4],s13) := by rw [rdL_st (by decide) hhe1_2,← hxe1_2,← hs11,hle1_3]
        have hle1_1 : rdL (rdP d ver true) (dfP d) ver true [fX0_1,fX0_2,fX0_3,fX0_4] s9 = ([xe1_1,xe1_2,xe1_3,xe1_4],s13) := by rw [rdL_st (by decide) hhe1_1,← hxe1_1,← hs10,hle1_2]
        have hle1_0 : rdL (rdP d ver true) (dfP d) ver true [fX0_0,fX0_1,fX0_2,fX0_3,fX0_4] s8 = ([xe1_0,xe1_1,xe1_2,xe1_3,xe1_4],s13) := by rw [rdL_st (by decide) hhe1_0,← hxe1_0,← hs9,hle1_1]
        have hfine1 : rdP (d + 1) ver true fs_X0 s8 = (.mk 0 [] false [xe1_0,xe1_1,xe1_2,xe1_3,xe1_4] (rdTags s13).1,(rdTags s13).2) := rdP_t hle1_0
        repeat ((first | refine qA rfl ?_|refine qB ?_|refine qC rfl ?_|refine qD ?_|refine qE ?_|refine qF ?_|refine qG ?_|refine qH ?_);try simp (maxSteps:=1000000)(disch:=(first|omega|(simp only [qI,qJ,qK]<;>omega)|exact qL _)) only [go_sem,↓reduceIte,n0,reduceCtorEq,n1,n2,n3,n4,n5,i0,i1,i2,i3,i4,i5,i6,i7,hxb27,hrc1_2,hrc1_7,hrc1_8,hrc1_9,hrc1_10,hrc1_21,hra1,hri1,exitRQ_ret,exitRQ_exit,Int.toNat_natCast,Nat.mul_one,hun,hun'])
        refine (ReadTags_fn w27 hq27.1 hrok).mono ?_
        rintro _ w28 ⟨qme1,rfl,hT28,hTn,hq28,hu28⟩
        have hx1_28 := hu28.blk_some hx1_27 (by omega)
        have hV28 : Upd (fun b => b = R1 ∨ b = rb) w27 w28 := hu28.mono (fun _ h => .inr h)
        have hU28 : Upd (fun b => b = vb ∨ b = rb) w1 w28 := hU27.trans' hV28 fun i hi h => h.elim (fun h => by omega) .inr
        have hz28 := hV28.size
        have hG28 : Glo ev w28 := hG1.updS hU28 hgM1 hgM2
        obtain ⟨X28,hX28⟩ : ∃ X : Array Value,X = (A1 ++ (([strV (rdStr true s8).1,.int .i8 (rdInt .i8 1 s9).1,.int .i32 (rdInt .i32 4 s10).1,.slice ao24 no24 co24,.slice ao26 no26 co26,.map none] : List Value) ++ B1)).toArray := ⟨_,rfl⟩
        have hxb28 : blk w28 R1 = some (X28,163,(0,0)) := by rw [hX28];exact hx1_28
        have hXs28 : j1 * 6 + 6 ≤ X28.size := by rw [hX28];simp only [List.size_toArray,List.length_append,List.length_cons,List.length_nil,hA1];omega
        obtain ⟨s14,hs14⟩ : ∃ s,s = (rdTags s13).2 := ⟨_,rfl⟩
        rw [← hs14] at hq28 hfine1
        have hst28_5 : j1 * 6 + 6 ≤ X28.size := by omega
        try simp (maxSteps:=1000000)(disch:=(first|omega|(simp only [qI,qJ,qK]<;>omega)|exact qL _)) only [go_sem,↓reduceIte,n0,reduceCtorEq,n1,n2,n3,n4,n5,i0,i1,i2,i3,i4,i5,i6,i7,hxb28,hrc1_2,hrc1_7,hrc1_8,hrc1_9,hrc1_10,hrc1_21,hra1,hri1,exitRQ_ret,exitRQ_exit,Int.toNat_natCast,Nat.mul_one,hun,hun',hst28_5]
        repeat ((first | refine qA rfl ?_|refine qB ?_|refine qC rfl ?_|refine qD ?_|refine qE ?_|refine qF ?_|refine qG ?_|refine qH ?_);try simp (maxSteps:=1000000)(disch:=(first|omega|(simp only [qI,qJ,qK]<;>omega)|exact qL _)) only [go_sem,↓reduceIte,n0,reduceCtorEq,n1,n2,n3,n4,n5,i0,i1,i2,i3,i4,i5,i6,i7,hxb28,hrc1_2,hrc1_7,hrc1_8,hrc1_9,hrc1_10,hrc1_21,hra1,hri1,exitRQ_ret,exitRQ_exit,Int.toNat_natCast,Nat.mul_one,hun,hun',hst28_5])
        generalize hw29 : wr w28 R1 (j1 * 6 + 5) [.map qme1] = w29
        have hS29 : Upd (fun b => b = R1 ∨ b = rb) w28 w29 := by rw [← hw29];exact (Upd.refl _ _).wr _ _ (.inr (.inl rfl))
        have hx1_29 : blk w29 R1 = some ((A1 ++ (([strV (rdStr true s8).1,.int .i8 (rdInt .i8 1 s9).1,.int .i32 (rdInt .i32 4 s10).1,.slice ao24 no24 co24,.slice ao26 no26 co26,.map qme1] : List Value) ++ B1)).toArray,163,(0,0)) := by rw [← hw29];exact el_blk (o := 5) hx1_28 hA1 (Nat.le_of_ble_eq_true rfl)
        have hV29 := hS29
        have hU29 : Upd (fun b => b = vb ∨ b = rb) w1 w29 := hU28.trans' hV29 fun i hi h => h.elim (fun h => by omega) .inr
        have hz29 := hV29.size
        have hG29 : Glo ev w29 := hG1.updS hU29 hgM1 hgM2
        have hq29 : Rdr RT ok w29 rb s14 ∧ NN w29 rb s14 := by
          have hn : ∀ x,x = w29 → (Rdr RT ok x rb s14 ∧ NN x rb s14) := fun x hx => by
            rw [hx,← hw29]
            exact Rdr.store hq28 (by omega) (fun h => by have := (hok _ h).1;first | omega | exact (hok _ h).2 rfl)
          exact hn _ rfl
        obtain ⟨X29,hX29⟩ : ∃ X : Array Value,X = (A1 ++ (([strV (rdStr true s8).1,.int .i8 (rdInt .i8 1 s9).1,.int .i32 (rdInt .i32 4 s10).1,.slice ao24 no24 co24,.slice ao26 no26 co26,.map qme1] : List Value) ++ B1)).toArray := ⟨_,rfl⟩
        have hxb29 : blk w29 R1 = some (X29,163,(0,0)) := by rw [hX29];exact hx1_29
        have hXs29 : j1 * 6 + 6 ≤ X29.size := by rw [hX29];simp only [List.size_toArray,List.length_append,List.length_cons,List.length_nil,hA1];omega
        clear hw29
        have hTge1 : TagsM (fun b => (ok b ∨ w1.heap.size ≤ b) ∧ ¬ ownB va1 b) w29 (.map qme1) (rdTags s13).1 := (hT28.weaken fun b _ hk => hk.elim (fun hk => ⟨.inl hk,fun ho => by have := (hown1 b ho).1;have := (hok b hk).1;omega⟩) (fun h => by have h' : w27.heap.size ≤ b := h;exact ⟨.inr (by omega),fun ho => by have := (hown1 _ ho).2;omega⟩)).keep (hV29.keeps fun b _ hk e => hoM1 b hk e)
        have hCe1_29 : Upd (fun b => b = R1 ∨ b = rb) w29 w29 := Upd.refl _ _
        have hCe1_28 : Upd (fun b => b = R1 ∨ b = rb) w28 w29 := hV29.trans hCe1_29
        have hCe1_27 : Upd (fun b => b = R1 ∨ b = rb) w27 w29 := hV28.trans hCe1_28
        have hCe1_26 : Upd (fun b => b = R1 ∨ b = rb) w26 w29 := hV27.trans hCe1_27
        have hCe1_25 : Upd (fun b => b = R1 ∨ b = rb) w25 w29 := hV26.trans hCe1_26
        have hCe1_24 : Upd (fun b => b = R1 ∨ b = rb) w24 w29 := hV25.trans hCe1_25
        have hCe1_23 : Upd (fun b => b = R1 ∨ b = rb) w23 w29 := hV24.trans hCe1_24
        have hCe1_22 : Upd (fun b => b = R1 ∨ b = rb) w22 w29 := hV23.trans hCe1_23
        have hCe1_21 : Upd (fun b => b = R1 ∨ b = rb) w21 w29 := hV22.trans hCe1_22
        have hCe1_20 : Upd (fun b => b = R1 ∨ b = rb) w20 w29 := hV21.trans hCe1_21
        have hCe1_19 : Upd (fun b => b = R1 ∨ b = rb) w19 w29 := hV20.trans hCe1_20
        have hCe1_18 : Upd (fun b => b = R1 ∨ b = rb) w18 w29 := hV19.trans hCe1_19
        have hCe1_17 : Upd (fun b => b = R1 ∨ b = rb) w17 w29 := hV18.trans hCe1_18
        have hCe1_16 : Upd (fun b => b = R1 ∨ b = rb) w16 w29 := hV17.trans hCe1_17
        have hRe1 : RepS true (d + 1) fs_X0 (fun b => (ok b ∨ w1.heap.size ≤ b) ∧ ¬ ownB va1 b) w29 (.mk 0 [] false [xe1_0,xe1_1,xe1_2,xe1_3,xe1_4] (rdTags s13).1) [strV (rdStr true s8).1,.int .i8 (rdInt .i8 1 s9).1,.int .i32 (rdInt .i32 4 s10).1,.slice ao24 no24 co24,.slice ao26 no26 co26,.map qme1] := RepS.introT (c := [strV (rdStr true s8).1,.int .i8 (rdInt .i8 1 s9).1,.int .i32 (rdInt .i32 4 s10).1,.slice ao24 no24 co24,.slice ao26 no26 co26]) (RepL.cons1 (hfe1_0.keepS (hCe1_19.keeps fun b _ hk e => hoM1 b hk e)) (RepL.cons1 (hfe1_1.keepS (hCe1_21.keeps fun b _ hk e => hoM1 b hk e)) (RepL.cons1 (hfe1_2.keepS (hCe1_23.keeps fun b _ hk e => hoM1 b hk e)) (RepL.cons1 (hfe1_3.keepS (hCe1_25.keeps fun b _ hk e => hoM1 b hk e)) (RepL.cons1 (hfe1_4.keepS (hCe1_27.keeps fun b _ hk e => hoM1 b hk e)) RepL.nil))))) hTge1
        have hrE : (rd1 (rdP (d + 1) ver true) fAlterUserSCRAMCredentialsRequest_1.of fAlterUserSCRAMCredentialsRequest_1.sub false true) s8 = ((.mk 0 [] false [xe1_0,xe1_1,xe1_2,xe1_3,xe1_4] (rdTags s13).1),s14) := by rw [show (rd1 (rdP (d + 1) ver true) fAlterUserSCRAMCredentialsRequest_1.of fAlterUserSCRAMCredentialsRequest_1.sub false true) s8 = _ from rd1_part];exact hfine1
        have hxE : (Rep1 (RepS true (d + 1)) fAlterUserSCRAMCredentialsRequest_1.of fAlterUserSCRAMCredentialsRequest_1.sub) (fun b => (ok b ∨ w1.heap.size ≤ b) ∧ ¬ ownB va1 b) w29 (.mk 0 [] false [xe1_0,xe1_1,xe1_2,xe1_3,xe1_4] (rdTags s13).1) [strV (rdStr true s8).1,.int .i8 (rdInt .i8 1 s9).1,.int .i32 (rdInt .i32 4 s10).1,.slice ao24 no24 co24,.slice ao26 no26 co26,.map qme1] := Rep1_part.2 hRe1
        repeat ((first | refine qA rfl ?_|refine qB ?_|refine qC rfl ?_|refine qD ?_|refine qE ?_|refine qF ?_|refine qG ?_|refine qH ?_);try simp (maxSteps:=1000000)(disch:=(first|omega|(simp only [qI,qJ,qK]<;>omega)|exact qL _)) only [go_sem,↓reduceIte,n0,reduceCtorEq,n1,n2,n3,n4,n5,i0,i1,i2,i3,i4,i5,i6,i7,hxb29,hrc1_2,hrc1_7,hrc1_8,hrc1_9,hrc1_10,hrc1_21,hra1,hri1,exitRQ_ret,exitRQ_exit,Int.toNat_natCast,Nat.mul_one,hun,hun'])
        have hTk : Upd (fun b => b = R1 ∨ b = rb) w16 w29 := ((((((((((((hV17.trans hV18).trans hV19).trans hV20).trans hV21).trans hV22).trans hV23).trans hV24).trans hV25).trans hV26).trans hV27).trans hV28).trans hV29)
        have hL' := hL1.step (Rep1_lay _ _ fun _ => RepS_lay true _ _) hlt1 (hnext1 w29 [strV (rdStr true s8).1,.int .i8 (rdInt .i8 1 s9).1,.int .i32 (rdInt .i32 4 s10).1,.slice ao24 no24 co24,.slice ao26 no26 co26,.map qme1] rfl hx1_29) (by rw [hrE];exact hxE) (hTk.mono fun b h => h.imp (fun e => ⟨_,_,_,hva1,e⟩) id) (by rw [hrE];exact hq29) (fun h => hoM rb h (.inr rfl)) (Nat.le_refl _)
        have hij : IntKind.i32.wrap ((j1 : Int) + 1) = ((j1 + 1 : Nat) : Int) := by rw [i32_wrap (by omega)];omega
        repeat ((first | refine qA rfl ?_|refine qB ?_|refine qC rfl ?_|refine qD ?_|refine qE ?_|refine qF ?_|refine qG ?_|refine qH ?_);try simp (maxSteps:=1000000)(disch:=(first|omega|(simp only [qI,qJ,qK]<;>omega)|exact qL _)) only [go_sem,↓reduceIte,n0,reduceCtorEq,n1,n2,n3,n4,n5,i0,i1,i2,i3,i4,i5,i6,i7,hxb29,hrc1_2,hrc1_7,hrc1_8,hrc1_9,hrc1_10,hrc1_21,hra1,hri1,exitRQ_ret,exitRQ_exit,Int.toNat_natCast,Nat.mul_one,hun,hun',hij])
        refine ⟨⟨(by simp (maxSteps:=1000000)(disch:=(first|omega|(simp only [qI,qJ,qK]<;>omega)|exact qL _)) only [go_sem,↓reduceIte,n0,reduceCtorEq,n1,n2,n3,n4,n5,i0,i1,i2,i3,i4,i5,i6,i7,Holds_nil,Holds_cons,hrc1_2,hrc1_7,hrc1_8,hrc1_9,hrc1_10,hrc1_21,hra1,hri1];exact hva1.symm),j1 + 1,(by simp (maxSteps:=1000000)(disch:=(first|omega|(simp only [qI,qJ,qK]<;>omega)|exact qL _)) only [go_sem,↓reduceIte,n0,reduceCtorEq,n1,n2,n3,n4,n5,i0,i1,i2,i3,i4,i5,i6,i7,hrc1_2,hrc1_7,hrc1_8,hrc1_9,hrc1_10,hrc1_21,hra1,hri1,hij];all_goals rfl),_,_,_,hL'⟩,?_⟩
        try simp (maxSteps:=1000000)(disch:=(first|omega|(simp only [qI,qJ,qK]<;>omega)|exact qL _)) only [go_sem,↓reduceIte,n0,reduceCtorEq,n1,n2,n3,n4,n5,i0,i1,i2,i3,i4,i5,i6,i7,hrc1_2,hrc1_7,hrc1_8,hrc1_9,hrc1_10,hrc1_21,hra1,hri1]
        simp only [RowKit.intOf]
        omega
      · have hjN : j1 = N1 := by omega
        rw [hjN] at hL1
        repeat ((first | refine qA rfl ?_|refine qB ?_|refine qC rfl ?_|refine qD ?_|refine qE ?_|refine qF ?_|refine qG ?_|refine qH ?_);try simp (maxSteps:=1000000)(disch:=(first|omega|(simp only [qI,qJ,qK]<;>omega)|exact qL _)) only [go_sem,↓reduceIte,n0,reduceCtorEq,n1,n2,n3,n4,n5,i0,i1,i2,i3,i4,i5,i6,i7,hrc1_2,hrc1_7,hrc1_8,hrc1_9,hrc1_10,hrc1_21,hrc1_20,hri1,exitRQ_ret,exitRQ_exit])
        exact ⟨(by simp (maxSteps:=1000000)(disch:=(first|omega|(simp only [qI,qJ,qK]<;>omega)|exact qL _)) only [go_sem,↓reduceIte,n0,reduceCtorEq,n1,n2,n3,n4,n5,i0,i1,i2,i3,i4,i5,i6,i7,Holds_nil,Holds_cons,hrc1_2,hrc1_7,hrc1_8,hrc1_9,hrc1_10,hrc1_21,hrc1_20,hri1]),s8,xs1,css1,hL1⟩
    rintro ρ w30 ⟨⟨hrd1_2,hrd1_7,hrd1_8,hrd1_9,hrd1_10,hrd1_21,hrd1_20,-⟩,s15,xs1,css1,hL1⟩
    have hq30 := hL1.rd
    have hu30 := hL1.upd
    have hv_30 := hu30.blk_some hv_14 (by omega)
    have hV30 : Upd (fun b => b = vb ∨ b = rb) w14 w30 := hu30.mono (fun _ h => .inr h)
    have hU30 : Upd (fun b => b = vb ∨ b = rb) w1 w30 := hU14.trans hV30
    have hz30 := hV30.size
    have hG30 : Glo ev w30 := hG1.updS hU30 hgM1 hgM2
    have hrd1 : rdF (rdP (d + 1) ver true) ver true fAlterUserSCRAMCredentialsRequest_1 s6 = (.mk 0 [] (nilS fAlterUserSCRAMCredentialsRequest_1 ver y1) xs1 [],s15) := by
      have h := rdF_listE (pt := (rdP (d + 1) ver true)) (v := ver) (flex := true) (f := fAlterUserSCRAMCredentialsRequest_1) (s := s6) (xs := xs1) (e := s15) rfl (by rw [hy1,← hN1,← hs7];exact hL1.done)
      rw [hy1] at h;exact h
    have hs15 : s15 = (rdF (rdP (d + 1) ver true) ver true fAlterUserSCRAMCredentialsRequest_1 s6).2 := by rw [hrd1]
    obtain ⟨aa1,qq1,hvs1⟩ := hL1.row.shape
    subst hvs1
    repeat ((first | refine qA rfl ?_|refine qB ?_|refine qC rfl ?_|refine qD ?_|refine qE ?_|refine qF ?_|refine qG ?_|refine qH ?_);try simp (maxSteps:=1000000)(disch:=(first|omega|(simp only [qI,qJ,qK]<;>omega)|exact qL _)) only [go_sem,↓reduceIte,n0,reduceCtorEq,n1,n2,n3,n4,n5,i0,i1,i2,i3,i4,i5,i6,i7,hv_30,hrd1_2,hrd1_7,hrd1_8,hrd1_9,hrd1_10,hrd1_21,hrd1_20,hun,hun'])
    generalize hw31 : wr w30 vb 2 [.slice aa1 N1 qq1] = w31
    have hS31 : Upd (fun b => b = vb ∨ b = rb) w30 w31 := by rw [← hw31];exact (Upd.refl _ _).wr _ _ (.inr (.inl rfl))
    have hv_31 : blk w31 vb = some (#[.int .i16 ver,.slice aa0 N0 qq0,.slice aa1 N1 qq1,.map none],155,(0,0)) := by rw [← hw31,blk_wr_eq,hv_30];rfl
    have hV31 := hS31
    have hU31 : Upd (fun b => b = vb ∨ b = rb) w1 w31 := hU30.trans hV31
    have hz31 := hV31.size
    have hG31 : Glo ev w31 := hG1.updS hU31 hgM1 hgM2
    have hq31 : Rdr RT ok w31 rb s15 ∧ NN w31 rb s15 := by
      have hn : ∀ x,x = w31 → (Rdr RT ok x rb s15 ∧ NN x rb s15) := fun x hx => by
        rw [hx,← hw31]
        exact Rdr.store hq30 (by omega) (fun h => by have := (hok _ h).1;first | omega | exact (hok _ h).2 rfl)
      exact hn _ rfl
    clear hw31
    have hf_1 : RepF (RepS true (d + 1)) (szS true (d + 1)) fAlterUserSCRAMCredentialsRequest_1 (fun b => ok b ∨ w1.heap.size ≤ b) w31 (x_1) [.slice aa1 N1 qq1] := by rw [hx_1,hrd1];exact RepF.keepS (RepF_row rfl hnc1 hN1 rfl hL1.row hL1.all (fun b hb => .inr (by omega))) (hV31.keeps fun b _ hk e => (hoM b hk) e)
    clear hL1 hnc1
    have hl_2 : rdL (rdP (d + 1) ver true) (dfP (d + 1)) ver true [] s15 = ([],s15) := rfl
    have hl_1 : rdL (rdP (d + 1) ver true) (dfP (d + 1)) ver true [fAlterUserSCRAMCredentialsRequest_1] s6 = ([x_1],s15) := by rw [rdL_st (by decide) hh_1,← hx_1,← hs15,hl_2]
    have hl_0 : rdL (rdP (d + 1) ver true) (dfP (d + 1)) ver true [fAlterUserSCRAMCredentialsRequest_0,fAlterUserSCRAMCredentialsRequest_1] s0 = ([x_0,x_1],s15) := by rw [rdL_st (by decide) hh_0,← hx_0,← hs6,hl_1]
    have hfin : rdP (d + 2) ver true fs_AlterUserSCRAMCredentialsRequest s0 = (.mk 0 [] false [x_0,x_1] (rdTags s15).1,(rdTags s15).2) := rdP_t hl_0
    repeat ((first | refine qA rfl ?_|refine qB ?_|refine qC rfl ?_|refine qD ?_|refine qE ?_|refine qF ?_|refine qG ?_|refine qH ?_);try simp (maxSteps:=1000000)(disch:=(first|omega|(simp only [qI,qJ,qK]<;>omega)|exact qL _)) only [go_sem,↓reduceIte,n0,reduceCtorEq,n1,n2,n3,n4,n5,i0,i1,i2,i3,i4,i5,i6,i7,hv_31,hrd1_2,hrd1_7,hrd1_8,hrd1_9,hrd1_10,hrd1_21,hrd1_20,hun,hun'])
    refine (ReadTags_fn w31 hq31.1 hrok).mono ?_
    rintro _ w32 ⟨qm,rfl,hT32,hTn,hq32,hu32⟩
    have hv_32 := hu32.blk_some hv_31 (by omega)
    have hV32 : Upd (fun b => b = vb ∨ b = rb) w31 w32 := hu32.mono (fun _ h => .inr h)
    have hU32 : Upd (fun b => b = vb ∨ b = rb) w1 w32 := hU31.trans hV32
    have hz32 := hV32.size
    have hG32 : Glo ev w32 := hG1.updS hU32 hgM1 hgM2
    obtain ⟨s16,hs16⟩ : ∃ s,s = (rdTags s15).2 := ⟨_,rfl⟩
    rw [← hs16] at hq32 hfin
    try simp (maxSteps:=1000000)(disch:=(first|omega|(simp only [qI,qJ,qK]<;>omega)|exact qL _)) only [go_sem,↓reduceIte,n0,reduceCtorEq,n1,n2,n3,n4,n5,i0,i1,i2,i3,i4,i5,i6,i7,hv_32,hrd1_2,hrd1_7,hrd1_8,hrd1_9,hrd1_10,hrd1_21,hrd1_20,hun,hun']
    repeat ((first | refine qA rfl ?_|refine qB ?_|refine qC rfl ?_|refine qD ?_|refine qE ?_|refine qF ?_|refine qG ?_|refine qH ?_);try simp (maxSteps:=1000000)(disch:=(first|omega|(simp only [qI,qJ,qK]<;>omega)|exact qL _)) only [go_sem,↓reduceIte,n0,reduceCtorEq,n1,n2,n3,n4,n5,i0,i1,i2,i3,i4,i5,i6,i7,hv_32,hrd1_2,hrd1_7,hrd1_8,hrd1_9,hrd1_10,hrd1_21,hrd1_20,hun,hun'])
    generalize hw33 : wr w32 vb 3 [.map qm] = w33
    have hS33 : Upd (fun b => b = vb ∨ b = rb) w32 w33 := by rw [← hw33];exact (Upd.refl _ _).wr _ _ (.inr (.inl rfl))
    have hv_33 : blk w33 vb = some (#[.int .i16 ver,.slice aa0 N0 qq0,.slice aa1 N1 qq1,.map qm],155,(0,0)) := by rw [← hw33,blk_wr_eq,hv_32];rfl
    have hV33 := hS33
    have hU33 : Upd (fun b => b = vb ∨ b = rb) w1 w33 := hU32.trans hV33
    have hz33 := hV33.size
    have hG33 : Glo ev w33 := hG1.updS hU33 hgM1 hgM2
    have hq33 : Rdr RT ok w33 rb s16 ∧ NN w33 rb s16 := by
      have hn : ∀ x,x = w33 → (Rdr RT ok x rb s16 ∧ NN x rb s16) := fun x hx => by
        rw [hx,← hw33]
        exact Rdr.store hq32 (by omega) (fun h => by have := (hok _ h).1;first | omega | exact (hok _ h).2 rfl)
      exact hn _ rfl
    clear hw33
    have hTg : TagsM (fun b => ok b ∨ w1.heap.size ≤ b) w33 (.map qm) (rdTags s15).1 := (hT32.weaken fun b _ hk => hk.elim (fun hk => .inl hk) (fun h => by have h' : w31.heap.size ≤ b := h;exact .inr (by omega))).keep (hV33.keeps fun b _ hk e => (hoM b hk) e)
    have hC_33 : Upd (fun b => b = vb ∨ b = rb) w33 w33 := Upd.refl _ _
    have hC_32 : Upd (fun b => b = vb ∨ b = rb) w32 w33 := hV33.trans hC_33
    have hC_31 : Upd (fun b => b = vb ∨ b = rb) w31 w33 := hV32.trans hC_32
    have hC_30 : Upd (fun b => b = vb ∨ b = rb) w30 w33 := hV31.trans hC_31
    have hC_14 : Upd (fun b => b = vb ∨ b = rb) w14 w33 := hV30.trans hC_30
    have hC_13 : Upd (fun b => b = vb ∨ b = rb) w13 w33 := hV14.trans hC_14
    have hC_12 : Upd (fun b => b = vb ∨ b = rb) w12 w33 := hV13.trans hC_13
    have hC_2 : Upd (fun b => b = vb ∨ b = rb) w2 w33 := hV12.trans hC_12
    have hC_1 : Upd (fun b => b = vb ∨ b = rb) w1 w33 := hV2.trans hC_2
    have hR : RepS true (d + 2) fs_AlterUserSCRAMCredentialsRequest (fun b => ok b ∨ w1.heap.size ≤ b) w33 (.mk 0 [] false [x_0,x_1] (rdTags s15).1) [.slice aa0 N0 qq0,.slice aa1 N1 qq1,.map qm] := RepS.introT (c := [.slice aa0 N0 qq0,.slice aa1 N1 qq1]) (RepL.cons1 (hf_0.keepS (hC_13.keeps fun b _ hk e => (hoM b hk) e)) (RepL.cons1 (hf_1.keepS (hC_31.keeps fun b _ hk e => (hoM b hk) e)) RepL.nil)) hTg
    repeat ((first | refine qA rfl ?_|refine qB ?_|refine qC rfl ?_|refine qD ?_|refine qE ?_|refine qF ?_|refine qG ?_|refine qH ?_);try simp (maxSteps:=1000000)(disch:=(first|omega|(simp only [qI,qJ,qK]<;>omega)|exact qL _)) only [go_sem,↓reduceIte,n0,reduceCtorEq,n1,n2,n3,n4,n5,i0,i1,i2,i3,i4,i5,i6,i7,hv_33,hrd1_2,hrd1_7,hrd1_8,hrd1_9,hrd1_10,hrd1_21,hrd1_20,hun,hun'])
    refine (RComplete_fn w33 hq33.1 hG33.2).mono ?_
    rintro _ wz ⟨rfl,hez⟩
    rw [hez]
    repeat ((first | refine qA rfl ?_|refine qB ?_|refine qC rfl ?_|refine qD ?_|refine qE ?_|refine qF ?_|refine qG ?_|refine qH ?_);try simp (maxSteps:=1000000)(disch:=(first|omega|(simp only [qI,qJ,qK]<;>omega)|exact qL _)) only [go_sem,↓reduceIte,n0,reduceCtorEq,n1,n2,n3,n4,n5,i0,i1,i2,i3,i4,i5,i6,i7,hv_33,hrd1_2,hrd1_7,hrd1_8,hrd1_9,hrd1_10,hrd1_21,hrd1_20,hun,hun'])
    rw [hfin]
    refine ⟨fun h => ?_,fun h => ⟨?_,[.slice aa0 N0 qq0,.slice aa1 N1 qq1,.map qm],hv_33,?_⟩,?_⟩
    · have h' : s16 = none := h
      rw [h'];rfl
    · cases hsn : s16 with
      | none => exact absurd hsn h
      | some x => rfl
    · exact (RepS_lay true (d + 2) fs_AlterUserSCRAMCredentialsRequest).weaken hR fun b _ hk => hk.imp id fun h => by omega
    · exact hbase.trans' hU33 fun i hi h => h.elim id fun h => by omega
end Ms

namespace Ms
open Go.World renaming size_alloc → qI
open Ms renaming size_wr → qJ,size_drew → qK,not_noB → qL
open W renaming seqR → qA,seq → qB,regR → qC,condK → qD,block → qE,skip → qF,ret → qG,exit → qH
open Nat renaming reduceEqDiff → n0,reduceAdd → n1,reduceMul → n2,reduceSub → n3,reduceLT → n4,reduceLeDiff → n5
open Int renaming reduceEq → i0,reduceLT → i1,reduceLE → i2,reduceNeg → i3,reduceAdd → i4,reduceSub → i5,reduceMul → i6,reduceToNat → i7
set_option maxRecDepth 8000
open Go Go.Proofs Go.Shelf
attribute [local congr] W_congr WPsq_congr WPp_congr optK_congr addrK_congr intK_congr boolK_congr sliceK_congr tupleK_congr funcK_congr Fn_congr rawK_congr takeK_congr stepK_congr convK_congr aggK_congr

theorem ReadFromAlterUserSCRAMCredentialsRequest_fn {d : Nat} {ok : Blocks} {ver : Int} {ev : Value} (hlo : 0 ≤ ver) (hhi : ver ≤ 0) (w : World) {vb : Nat} (src : Value) (s : List UInt8) (hv : blk w vb = some (#[.int .i16 ver,.slice none 0 0,.slice none 0 0,.map none],155,(0,0))) (hsrc : BytesV ok w src s) (hok0 : ∀ b,ok b → b < w.heap.size ∧ b ≠ vb) (hG : Glo ev w) (hgv : ¬ 0 = vb ∧ ¬ 1 = vb) :
    Fn Tryd.prog 99 #[.pointer (some ⟨vb,0,none⟩),src] w (ReadQ 155 ok ver (d + 2) fs_AlterUserSCRAMCredentialsRequest vb w (rdP (d + 2) ver (flexB 0 ver) fs_AlterUserSCRAMCredentialsRequest (some s)) ev) := by
  obtain ⟨sa,sc,rfl,_⟩ := hsrc.shape
  refine fn_of_W Tryd.func99 rfl Tryd.results99 Tryd.ntmps99 rfl ?_
  repeat ((first | refine qA rfl ?_|refine qB ?_|refine qC rfl ?_|refine qD ?_|refine qE ?_|refine qF ?_|refine qG ?_|refine qH ?_);try simp (maxSteps:=1000000)(disch:=(first|omega|(simp only [qI,qJ,qK]<;>omega)|exact qL _)) only [go_sem,↓reduceIte,n0,reduceCtorEq,n1,n2,n3,n4,n5,i0,i1,i2,i3,i4,i5,i6,i7])
  have hcl : (0 ≤ ver ∧ ver ≤ 0) := by omega
  rcases hcl with ⟨h1,h2⟩
  · have hfl : flexB 0 ver = true := by simp only [flexB,Bool.and_eq_true,decide_eq_true_eq];omega
    rw [hfl]
    refine (readAlterUserSCRAMCredentialsRequest_0b (d := d) (un := false) h1 h2 w _ s hv hsrc hok0 hG hgv).mono ?_
    rintro r5 w5 h5
    repeat ((first | refine qA rfl ?_|refine qB ?_|refine qC rfl ?_|refine qD ?_|refine qE ?_|refine qF ?_|refine qG ?_|refine qH ?_);try simp (maxSteps:=1000000)(disch:=(first|omega|(simp only [qI,qJ,qK]<;>omega)|exact qL _)) only [go_sem,↓reduceIte,n0,reduceCtorEq,n1,n2,n3,n4,n5,i0,i1,i2,i3,i4,i5,i6,i7])
    all_goals exact h5

theorem UnsafeReadFromAlterUserSCRAMCredentialsRequest_fn {d : Nat} {ok : Blocks} {ver : Int} {ev : Value} (hlo : 0 ≤ ver) (hhi : ver ≤ 0) (w : World) {vb : Nat} (src : Value) (s : List UInt8) (hv : blk w vb = some (#[.int .i16 ver,.slice none 0 0,.slice none 0 0,.map none],155,(0,0))) (hsrc : BytesV ok w src s) (hok0 : ∀ b,ok b → b < w.heap.size ∧ b ≠ vb) (hG : Glo ev w) (hgv : ¬ 0 = vb ∧ ¬ 1 = vb) :
    Fn Tryd.prog 101 #[.pointer (some ⟨vb,0,none⟩),src] w (ReadQ 155 ok ver (d + 2) fs_AlterUserSCRAMCredentialsRequest vb w (rdP (d + 2) ver (flexB 0 ver) fs_AlterUserSCRAMCredentialsRequest (some s)) ev) := by
  obtain ⟨sa,sc,rfl,_⟩ := hsrc.shape
  refine fn_of_W Tryd.func101 rfl Tryd.results101 Tryd.ntmps101 rfl ?_
  repeat ((first | refine qA rfl ?_|refine qB ?_|refine qC rfl ?_|refine qD ?_|refine qE ?_|refine qF ?_|refine qG ?_|refine qH ?_);try simp (maxSteps:=1000000)(disch:=(first|omega|(simp only [qI,qJ,qK]<;>omega)|exact qL _)) only [go_sem,↓reduceIte,n0,reduceCtorEq,n1,n2,n3,n4,n5,i0,i1,i2,i3,i4,i5,i6,i7])
  have hcl : (0 ≤ ver ∧ ver ≤ 0) := by omega
  rcases hcl with ⟨h1,h2⟩
  · have hfl : flexB 0 ver = true := by simp only [flexB,Bool.and_eq_true,decide_eq_true_eq];omega
    rw [hfl]
    refine (readAlterUserSCRAMCredentialsRequest_0b (d := d) (un := true) h1 h2 w _ s hv hsrc hok0 hG hgv).mono ?_
    rintro r5 w5 h5
    repeat ((first | refine qA rfl ?_|refine qB ?_|refine qC rfl ?_|refine qD ?_|refine qE ?_|refine qF ?_|refine qG ?_|refine qH ?_);try simp (maxSteps:=1000000)(disch:=(first|omega|(simp only [qI,qJ,qK]<;>omega)|exact qL _)) only [go_sem,↓reduceIte,n0,reduceCtorEq,n1,n2,n3,n4,n5,i0,i1,i2,i3,i4,i5,i6,i7])
    all_goals exact h5

end Ms

