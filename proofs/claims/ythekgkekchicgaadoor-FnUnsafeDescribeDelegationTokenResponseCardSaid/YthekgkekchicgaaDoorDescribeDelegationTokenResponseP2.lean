/- A part of the proof: see the last text. -/
import Derived.Test.YthekgkekchicgaaDoorDescribeDelegationTokenResponseP0
set_option linter.unusedSimpArgs false
set_option linter.unusedVariables false
namespace Ms
open Go.World renaming size_alloc → qI
open Ms renaming size_wr → qJ,size_drew → qK,not_noB → qL
open W renaming seqR → qA,seq → qB,regR → qC,condK → qD,block → qE,skip → qF,ret → qG,exit → qH
open Nat renaming reduceEqDiff → n0,reduceAdd → n1,reduceMul → n2,reduceSub → n3,reduceLT → n4,reduceLeDiff → n5
open Int renaming reduceEq → i0,reduceLT → i1,reduceLE → i2,reduceNeg → i3,reduceAdd → i4,reduceSub → i5,reduceMul → i6,reduceToNat → i7
set_option maxRecDepth 8000
open Go Go.Proofs Go.Shelf
attribute [local congr] W_congr WPsq_congr WPp_congr optK_congr addrK_congr intK_congr boolK_congr sliceK_congr tupleK_congr funcK_congr Fn_congr rawK_congr takeK_congr stepK_congr convK_congr aggK_congr

set_option maxHeartbeats 24000000 in
theorem readDescribeDelegationTokenResponse_1b {un : Bool} {d : Nat} {ok : Blocks} {ver : Int} {ev : Value} (hlo : 2 ≤ ver) (hhi : ver ≤ 2) (w : World) {vb : Nat} (src : Value) (s : List UInt8) (hv : blk w vb = some (#[.int .i16 ver,.int .i16 0,.slice none 0 0,.int .i32 0,.map none],204,(0,0))) (hsrc : BytesV ok w src s) (hok0 : ∀ b,ok b → b < w.heap.size ∧ b ≠ vb) (hG : Glo ev w) (hgv : ¬ 0 = vb ∧ ¬ 1 = vb) :
    Fn Tryd.prog 189 #[.pointer (some ⟨vb,0,none⟩),src,.bool un] w (ReadQ 204 ok ver (d + 3) fs_DescribeDelegationTokenResponse vb w (rdP (d + 3) ver true fs_DescribeDelegationTokenResponse (some s)) ev) := by
  have hcs : ((un = true) = True ∧ (un = false) = False) ∨ ((un = true) = False ∧ (un = false) = True) := by cases un <;> simp
  rcases hcs with ⟨hun,hun'⟩ | ⟨hun,hun'⟩
  all_goals
    have hvl := blk_lt hv
    have hgs := hG.lt
    obtain ⟨sa,sc,rfl,_⟩ := hsrc.shape
    refine fn_of_W Tryd.func189 rfl Tryd.results189 Tryd.ntmps189 rfl ?_
    repeat ((first | refine qA rfl ?_|refine qB ?_|refine qC rfl ?_|refine qD ?_|refine qE ?_|refine qF ?_|refine qG ?_|refine qH ?_);try simp (maxSteps:=1000000)(disch:=(first|omega|(simp only [qI,qJ,qK]<;>omega)|exact qL _)) only [go_sem,↓reduceIte,n0,reduceCtorEq,n1,n2,n3,n4,n5,i0,i1,i2,i3,i4,i5,i6,i7,hv])
    refine (DefaultDescribeDelegationTokenResponse_fn w hv).mono ?_
    rintro _ w0 ⟨hv0,hu0⟩
    have hz0 := hu0.size
    have hsrc0 : BytesV ok w0 (.slice sa s.length sc) s := hsrc.keep (hu0.keeps fun b _ hk e => (hok0 b hk).2 e)
    obtain ⟨rb,hrb⟩ : ∃ r,r = w0.heap.size := ⟨_,rfl⟩
    have hE1 : Ext w0 (wr (w0.alloc (.cells #[.slice none 0 0,.bool false] 224)) w0.heap.size 0 [.slice sa s.length sc,.bool false]) := (Upd.alloc (Upd.refl _ _) _).wr _ _ (.inl (Nat.le_refl _))
    have hz1 : (wr (w0.alloc (.cells #[.slice none 0 0,.bool false] 224)) w0.heap.size 0 [.slice sa s.length sc,.bool false]).heap.size = w0.heap.size + 1 := by rw [size_wr,World.size_alloc]
    have hR1 : Rdr RT ok (wr (w0.alloc (.cells #[.slice none 0 0,.bool false] 224)) w0.heap.size 0 [.slice sa s.length sc,.bool false]) w0.heap.size (some s) := Rdr.good (v := .slice sa s.length sc) (by simp (maxSteps:=1000000)(disch:=(first|omega|(simp only [qI,qJ,qK]<;>omega)|exact qL _)) only [go_sem,↓reduceIte,n0,reduceCtorEq,n1,n2,n3,n4,n5,i0,i1,i2,i3,i4,i5,i6,i7]) (hsrc0.keep (hE1.keeps _))
    have hv_1 := hE1.blk_some hv0 id
    repeat ((first | refine qA rfl ?_|refine qB ?_|refine qC rfl ?_|refine qD ?_|refine qE ?_|refine qF ?_|refine qG ?_|refine qH ?_);try simp (maxSteps:=1000000)(disch:=(first|omega|(simp only [qI,qJ,qK]<;>omega)|exact qL _)) only [go_sem,↓reduceIte,n0,reduceCtorEq,n1,n2,n3,n4,n5,i0,i1,i2,i3,i4,i5,i6,i7,hv0])
    generalize (wr (w0.alloc (.cells #[.slice none 0 0,.bool false] 224)) w0.heap.size 0 [.slice sa s.length sc,.bool false]) = w1 at *
    rw [← hrb] at hR1
    try rw [← hrb]
    have hok : ∀ b,ok b → b < w.heap.size ∧ b ≠ vb := hok0
    have hrok : ¬ ok rb := fun h => by have := (hok rb h).1;omega
    have hbase : Upd (fun b => b = vb) w w1 := hu0.trans (hE1.mono fun _ h => h.elim)
    have hG1 : Glo ev w1 := hG.updS hbase hgv.1 hgv.2
    have hgrb : ¬ 0 = rb := by omega
    have hgM1 : ¬ (0 = vb ∨ 0 = rb) := fun h => h.elim hgv.1 fun h => by omega
    have hgM2 : ¬ (1 = vb ∨ 1 = rb) := fun h => h.elim hgv.2 fun h => by omega
    obtain ⟨s0,hs0⟩ : ∃ s' : St,s' = some s := ⟨_,rfl⟩
    rw [← hs0] at hR1 ⊢
    have hU1 : Upd (fun b => b = vb ∨ b = rb) w1 w1 := Upd.refl _ _
    have hoM : ∀ b,(ok b ∨ w1.heap.size ≤ b) → ¬ (b = vb ∨ b = rb) := fun b hk h => by
      rcases hk with hk | hk
      · have := hok b hk;rcases h with h | h <;> omega
      · rcases h with h | h <;> omega
    have hq1 : Rdr RT ok w1 rb s0 := hR1
    obtain ⟨FB,hFB⟩ : ∃ P : Prop,P = ((rdP (d + 3) ver true fs_DescribeDelegationTokenResponse s0).2 = none) := ⟨_,rfl⟩
    have hb_0 : (rdL (rdP (d + 2) ver true) (dfP (d + 2)) ver true [fDescribeDelegationTokenResponse_0,fDescribeDelegationTokenResponse_1,fDescribeDelegationTokenResponse_2] s0).2 = none → FB := fun h => Eq.mpr hFB (rdP_bad h)
    have hh_0 : hasS fDescribeDelegationTokenResponse_0 ver = true := hasS_t (by show (0 : Int) ≤ ver;omega) (by show (-1 : Int) < 0 ∨ ver ≤ (-1 : Int);omega)
    obtain ⟨x_0,hx_0⟩ : ∃ x,x = (rdF (rdP (d + 2) ver true) ver true fDescribeDelegationTokenResponse_0 s0).1 := ⟨_,rfl⟩
    repeat ((first | refine qA rfl ?_|refine qB ?_|refine qC rfl ?_|refine qD ?_|refine qE ?_|refine qF ?_|refine qG ?_|refine qH ?_);try simp (maxSteps:=1000000)(disch:=(first|omega|(simp only [qI,qJ,qK]<;>omega)|exact qL _)) only [go_sem,↓reduceIte,n0,reduceCtorEq,n1,n2,n3,n4,n5,i0,i1,i2,i3,i4,i5,i6,i7,hv_1,hun,hun'])
    have hrd : rdF (rdP (d + 2) ver true) ver true fDescribeDelegationTokenResponse_0 s0 = _ := rdF_num 2 rfl (by decide)
    refine (Int16_fn w1 hq1 hrok hG1.1 hgrb).mono ?_
    rintro _ w2 ⟨rfl,hq2,hu2⟩
    have hv_2 := hu2.blk_some hv_1 (by omega)
    have hV2 : Upd (fun b => b = vb ∨ b = rb) w1 w2 := hu2.mono (fun _ h => .inr h)
    have hU2 : Upd (fun b => b = vb ∨ b = rb) w1 w2 := hU1.trans hV2
    have hz2 := hV2.size
    have hG2 : Glo ev w2 := hG1.updS hU2 hgM1 hgM2
    have hst : (rdF (rdP (d + 2) ver true) ver true fDescribeDelegationTokenResponse_0 s0).2 = (rdInt .i16 2 s0).2 := by first | (rw [hrd];rfl) | rw [hrd]
    obtain ⟨s1,hs1⟩ : ∃ s,s = (rdF (rdP (d + 2) ver true) ver true fDescribeDelegationTokenResponse_0 s0).2 := ⟨_,rfl⟩
    rw [← hst,← hs1] at hq2
    clear hst
    repeat ((first | refine qA rfl ?_|refine qB ?_|refine qC rfl ?_|refine qD ?_|refine qE ?_|refine qF ?_|refine qG ?_|refine qH ?_);try simp (maxSteps:=1000000)(disch:=(first|omega|(simp only [qI,qJ,qK]<;>omega)|exact qL _)) only [go_sem,↓reduceIte,n0,reduceCtorEq,n1,n2,n3,n4,n5,i0,i1,i2,i3,i4,i5,i6,i7,hv_2,hun,hun'])
    generalize hw3 : wr w2 vb 1 [.int .i16 (rdInt .i16 2 s0).1] = w3
    have hS3 : Upd (fun b => b = vb ∨ b = rb) w2 w3 := by rw [← hw3];exact (Upd.refl _ _).wr _ _ (.inr (.inl rfl))
    have hv_3 : blk w3 vb = some (#[.int .i16 ver,.int .i16 (rdInt .i16 2 s0).1,.slice none 0 0,.int .i32 0,.map none],204,(0,0)) := by rw [← hw3,blk_wr_eq,hv_2];rfl
    have hV3 := hS3
    have hU3 : Upd (fun b => b = vb ∨ b = rb) w1 w3 := hU2.trans hV3
    have hz3 := hV3.size
    have hG3 : Glo ev w3 := hG1.updS hU3 hgM1 hgM2
    have hq3 : Rdr RT ok w3 rb s1 ∧ NN w3 rb s1 := by
      have hn : ∀ x,x = w3 → (Rdr RT ok x rb s1 ∧ NN x rb s1) := fun x hx => by
        rw [hx,← hw3]
        exact Rdr.store hq2 (by omega) (fun h => by have := (hok _ h).1;first | omega | exact (hok _ h).2 rfl)
      exact hn _ rfl
    clear hw3
    have hf_0 : RepF (RepS true (d + 2)) (szS true (d + 2)) fDescribeDelegationTokenResponse_0 (fun b => ok b ∨ w1.heap.size ≤ b) w3 (x_0) [.int .i16 (rdInt .i16 2 s0).1] := (RepF_num (by decide)).2 (by rw [hx_0,hrd];exact congrArg (fun x => [x]) (numC_rd 2 (by decide) 2 s0).symm)
    clear hrd
    have hb_1 : (rdL (rdP (d + 2) ver true) (dfP (d + 2)) ver true [fDescribeDelegationTokenResponse_1,fDescribeDelegationTokenResponse_2] s1).2 = none → FB := fun h => hb_0 (by rw [rdL_st (by decide) hh_0,← hs1];exact h)
    have hh_1 : hasS fDescribeDelegationTokenResponse_1 ver = true := hasS_t (by show (0 : Int) ≤ ver;omega) (by show (-1 : Int) < 0 ∨ ver ≤ (-1 : Int);omega)
    obtain ⟨x_1,hx_1⟩ : ∃ x,x = (rdF (rdP (d + 2) ver true) ver true fDescribeDelegationTokenResponse_1 s1).1 := ⟨_,rfl⟩
    repeat ((first | refine qA rfl ?_|refine qB ?_|refine qC rfl ?_|refine qD ?_|refine qE ?_|refine qF ?_|refine qG ?_|refine qH ?_);try simp (maxSteps:=1000000)(disch:=(first|omega|(simp only [qI,qJ,qK]<;>omega)|exact qL _)) only [go_sem,↓reduceIte,n0,reduceCtorEq,n1,n2,n3,n4,n5,i0,i1,i2,i3,i4,i5,i6,i7,hv_3,hun,hun'])
    refine (RCompactArrayLen_fn w3 hq3.1 hrok hG3.1 hgrb).mono ?_
    rintro _ w4 ⟨rfl,hq4,hu4⟩
    have hv_4 := hu4.blk_some hv_3 (by omega)
    have hV4 : Upd (fun b => b = vb ∨ b = rb) w3 w4 := hu4.mono (fun _ h => .inr h)
    have hU4 : Upd (fun b => b = vb ∨ b = rb) w1 w4 := hU3.trans hV4
    have hz4 := hV4.size
    have hG4 : Glo ev w4 := hG1.updS hU4 hgM1 hgM2
    obtain ⟨s2,hs2⟩ : ∃ s,s = (rdALen true s1).2 := ⟨_,rfl⟩
    rw [← hs2] at hq4
    have hyr0 := rdALen_rng true s1
    generalize hy0 : (rdALen true s1).1 = y0 at *
    obtain ⟨N0,hN0⟩ : ∃ N,N = y0.toNat := ⟨_,rfl⟩
    have hlb0 : (rdMany (rd1 (rdP (d + 2) ver true) fDescribeDelegationTokenResponse_1.of fDescribeDelegationTokenResponse_1.sub false true) N0 s2).2 = none → FB := fun h => hb_1 (by rw [rdL_st (by decide) hh_1];exact rdL_bad (rdF_listbad rfl (by rw [hy0,← hN0,← hs2];exact h)))
    repeat ((first | refine W.seqR rfl ?_ | refine W.seq ?_ | refine W.regR rfl ?_ | refine W.block ?_ | refine W.skip ?_ | refine W.ret ?_ | refine W.exit ?_);try simp (maxSteps:=1000000)(disch:=(first|omega|(simp only [qI,qJ,qK]<;>omega)|exact qL _)) only [go_sem,↓reduceIte,n0,reduceCtorEq,n1,n2,n3,n4,n5,i0,i1,i2,i3,i4,i5,i6,i7,hv_4,hun,hun'])
    refine (ROk_fn w4 hq4.1).mono ?_
    rintro _ wz ⟨rfl,hez⟩
    rw [hez]
    clear hez wz
    by_cases hsn0 : s2 = none
    · have hso : s2.isSome = false := by rw [hsn0];rfl
      try simp (maxSteps:=1000000)(disch:=(first|omega|(simp only [qI,qJ,qK]<;>omega)|exact qL _)) only [go_sem,↓reduceIte,n0,reduceCtorEq,n1,n2,n3,n4,n5,i0,i1,i2,i3,i4,i5,i6,i7,hv_4,hun,hun',hso]
      repeat ((first | refine qA rfl ?_|refine qB ?_|refine qC rfl ?_|refine qD ?_|refine qE ?_|refine qF ?_|refine qG ?_|refine qH ?_);try simp (maxSteps:=1000000)(disch:=(first|omega|(simp only [qI,qJ,qK]<;>omega)|exact qL _)) only [go_sem,↓reduceIte,n0,reduceCtorEq,n1,n2,n3,n4,n5,i0,i1,i2,i3,i4,i5,i6,i7,hv_4,hun,hun',hso])
      refine (RComplete_fn w4 hq4.1 hG4.2).mono ?_
      rintro _ wz ⟨rfl,hez⟩
      rw [hez]
      try simp (maxSteps:=1000000)(disch:=(first|omega|(simp only [qI,qJ,qK]<;>omega)|exact qL _)) only [go_sem,↓reduceIte,n0,reduceCtorEq,n1,n2,n3,n4,n5,i0,i1,i2,i3,i4,i5,i6,i7,hv_4,hun,hun']
      repeat ((first | refine qA rfl ?_|refine qB ?_|refine qC rfl ?_|refine qD ?_|refine qE ?_|refine qF ?_|refine qG ?_|refine qH ?_);try simp (maxSteps:=1000000)(disch:=(first|omega|(simp only [qI,qJ,qK]<;>omega)|exact qL _)) only [go_sem,↓reduceIte,n0,reduceCtorEq,n1,n2,n3,n4,n5,i0,i1,i2,i3,i4,i5,i6,i7,hv_4,hun,hun'])
      rw [errV_none hsn0]
      exact ReadQ.bad (Eq.mp hFB (hlb0 (by rw [hsn0];exact rdMany_none rd1P_none _))) (hbase.trans' hU4 fun i hi h => h.elim id fun h => by omega)
    have hso0 : s2.isSome = true := isSome_some hsn0
    try simp (maxSteps:=1000000)(disch:=(first|omega|(simp only [qI,qJ,qK]<;>omega)|exact qL _)) only [go_sem,↓reduceIte,n0,reduceCtorEq,n1,n2,n3,n4,n5,i0,i1,i2,i3,i4,i5,i6,i7,hv_4,hun,hun',hso0]
    repeat ((first | refine W.seqR rfl ?_ | refine W.seq ?_ | refine W.regR rfl ?_ | refine W.block ?_ | refine W.skip ?_ | refine W.ret ?_ | refine W.exit ?_);try simp (maxSteps:=1000000)(disch:=(first|omega|(simp only [qI,qJ,qK]<;>omega)|exact qL _)) only [go_sem,↓reduceIte,n0,reduceCtorEq,n1,n2,n3,n4,n5,i0,i1,i2,i3,i4,i5,i6,i7,hv_4,hun,hun',hso0])
    refine W.condK ?_
    try simp (maxSteps:=1000000)(disch:=(first|omega|(simp only [qI,qJ,qK]<;>omega)|exact qL _)) only [go_sem,↓reduceIte,n0,reduceCtorEq,n1,n2,n3,n4,n5,i0,i1,i2,i3,i4,i5,i6,i7,hv_4,hun,hun',hso0]
    repeat ((first | refine W.seqR rfl ?_ | refine W.seq ?_ | refine W.regR rfl ?_ | refine W.block ?_ | refine W.skip ?_ | refine W.ret ?_ | refine W.exit ?_);try simp (maxSteps:=1000000)(disch:=(first|omega|(simp only [qI,qJ,qK]<;>omega)|exact qL _)) only [go_sem,↓reduceIte,n0,reduceCtorEq,n1,n2,n3,n4,n5,i0,i1,i2,i3,i4,i5,i6,i7,hv_4,hun,hun',hso0,slBase_00])
    refine W.normJ (RowQ [(2,.bool un),(7,.pointer (some ⟨rb,0,none⟩)),(8,.int .i16 ver),(9,.bool true),(10,.pointer (some ⟨vb,0,none⟩)),(14,.int .i32 y0)] 13 (fun va w' => LstI RT (rd1 (rdP (d + 2) ver true) fDescribeDelegationTokenResponse_1.of fDescribeDelegationTokenResponse_1.sub false true) (Rep1 (RepS true (d + 2)) fDescribeDelegationTokenResponse_1.of fDescribeDelegationTokenResponse_1.sub) 11 209 [.string ByteArray.empty,.string ByteArray.empty,.string ByteArray.empty,.string ByteArray.empty,.int .i64 0,.int .i64 0,.int .i64 0,.string ByteArray.empty,.slice none 0 0,.slice none 0 0,.map none] w4.heap.size N0 ok (fun b => ok b ∨ w1.heap.size ≤ b) rb w4 s2 va 0 s2 [] [] w' ∧ (N0 = 0 → if nilS fDescribeDelegationTokenResponse_1 ver y0 = true then va = .slice none 0 0 else ∃ a,va = .slice (some a) 0 0))) ?_ ?_
    · by_cases hy0 : (0 : Int) < y0
      · have hyv : Value.int .i32 y0 = .int .i32 ((N0 : Nat) : Int) := by rw [show y0 = ((N0 : Nat) : Int) by omega]
        repeat ((first | refine qA rfl ?_|refine qB ?_|refine qC rfl ?_|refine qD ?_|refine qE ?_|refine qF ?_|refine qG ?_|refine qH ?_);try simp (maxSteps:=1000000)(disch:=(first|omega|(simp only [qI,qJ,qK]<;>omega)|exact qL _)) only [go_sem,↓reduceIte,n0,reduceCtorEq,n1,n2,n3,n4,n5,i0,i1,i2,i3,i4,i5,i6,i7,hv_4,hun,hun'])
        refine wp_appendZ (m := N0) utDescribeDelegationTokenResponse_202 utDescribeDelegationTokenResponse_21 inDescribeDelegationTokenResponse_209 (by decide) (by first | rfl | simp (maxSteps:=1000000)(disch:=(first|omega|(simp only [qI,qJ,qK]<;>omega)|exact qL _)) only [go_sem,↓reduceIte,n0,reduceCtorEq,n1,n2,n3,n4,n5,i0,i1,i2,i3,i4,i5,i6,i7]) (by first | exact hyv | (simp (maxSteps:=1000000)(disch:=(first|omega|(simp only [qI,qJ,qK]<;>omega)|exact qL _)) only [go_sem,↓reduceIte,n0,reduceCtorEq,n1,n2,n3,n4,n5,i0,i1,i2,i3,i4,i5,i6,i7];exact hyv)) (by omega) (by omega) (by decide) ?_
        intro q rest hq1
        have hEw : Ext w4 (w4.drew.alloc (.cells (zs [.string ByteArray.empty,.string ByteArray.empty,.string ByteArray.empty,.string ByteArray.empty,.int .i64 0,.int .i64 0,.int .i64 0,.string ByteArray.empty,.slice none 0 0,.slice none 0 0,.map none] N0 ++ rest).toArray 209)) := (Upd.refl _ _).drew.alloc _
        try simp (maxSteps:=1000000)(disch:=(first|omega|(simp only [qI,qJ,qK]<;>omega)|exact qL _)) only [go_sem,↓reduceIte,n0,reduceCtorEq,n1,n2,n3,n4,n5,i0,i1,i2,i3,i4,i5,i6,i7,hv_4,hun,hun']
        repeat ((first | refine qA rfl ?_|refine qB ?_|refine qC rfl ?_|refine qD ?_|refine qE ?_|refine qF ?_|refine qG ?_|refine qH ?_);try simp (maxSteps:=1000000)(disch:=(first|omega|(simp only [qI,qJ,qK]<;>omega)|exact qL _)) only [go_sem,↓reduceIte,n0,reduceCtorEq,n1,n2,n3,n4,n5,i0,i1,i2,i3,i4,i5,i6,i7,hv_4,hun,hun'])
        exact ⟨(by simp (maxSteps:=1000000)(disch:=(first|omega|(simp only [qI,qJ,qK]<;>omega)|exact qL _)) only [go_sem,↓reduceIte,n0,reduceCtorEq,n1,n2,n3,n4,n5,i0,i1,i2,i3,i4,i5,i6,i7,Holds_nil,Holds_cons]),.slice (some ⟨w4.heap.size,0,none⟩) N0 q,(by simp (maxSteps:=1000000)(disch:=(first|omega|(simp only [qI,qJ,qK]<;>omega)|exact qL _)) only [go_sem,↓reduceIte,n0,reduceCtorEq,n1,n2,n3,n4,n5,i0,i1,i2,i3,i4,i5,i6,i7]),LstI.start (RowJ.start (by omega) hq1 (by show w4.heap.size ≤ w4.drew.heap.size;rw [size_drew];omega) (blk_alloc_new rfl)) ⟨hq4.1.upd hEw (fun h => h) (fun _ _ _ h => h),hq4.2.upd hEw fun h => h⟩ (hEw.mono fun _ h => h.elim),fun h0 => by omega⟩
      · repeat ((first | refine qA rfl ?_|refine qB ?_|refine qC rfl ?_|refine qD ?_|refine qE ?_|refine qF ?_|refine qG ?_|refine qH ?_);try simp (maxSteps:=1000000)(disch:=(first|omega|(simp only [qI,qJ,qK]<;>omega)|exact qL _)) only [go_sem,↓reduceIte,n0,reduceCtorEq,n1,n2,n3,n4,n5,i0,i1,i2,i3,i4,i5,i6,i7,hv_4,hun,hun'])
        exact ⟨(by simp (maxSteps:=1000000)(disch:=(first|omega|(simp only [qI,qJ,qK]<;>omega)|exact qL _)) only [go_sem,↓reduceIte,n0,reduceCtorEq,n1,n2,n3,n4,n5,i0,i1,i2,i3,i4,i5,i6,i7,Holds_nil,Holds_cons]),.slice none 0 0,(by simp (maxSteps:=1000000)(disch:=(first|omega|(simp only [qI,qJ,qK]<;>omega)|exact qL _)) only [go_sem,↓reduceIte,n0,reduceCtorEq,n1,n2,n3,n4,n5,i0,i1,i2,i3,i4,i5,i6,i7,slBase_00]),LstI.start (RowJ.zero (by omega) (fun _ h => by cases h)) hq4 (Upd.refl _ _),fun _ => by rw [nilS_plain (by decide) (by omega)];exact rfl⟩
    rintro ρ w5 ⟨⟨hrb0_2,hrb0_7,hrb0_8,hrb0_9,hrb0_10,hrb0_14,-⟩,va0,hra0,hL0,hnc0⟩
    repeat ((first | refine qA rfl ?_|refine qB ?_|refine qC rfl ?_|refine qD ?_|refine qE ?_|refine qF ?_|refine qG ?_|refine qH ?_);try simp (maxSteps:=1000000)(disch:=(first|omega|(simp only [qI,qJ,qK]<;>omega)|exact qL _)) only [go_sem,↓reduceIte,n0,reduceCtorEq,n1,n2,n3,n4,n5,i0,i1,i2,i3,i4,i5,i6,i7,hv_4,hrb0_2,hrb0_7,hrb0_8,hrb0_9,hrb0_10,hrb0_14,hra0,exitRQ_ret,exitRQ_exit,Int.toNat_natCast,Nat.mul_one,hun,hun'])
    refine W.exitRJ 0 (EndQ [(2,.bool un),(7,.pointer (some ⟨rb,0,none⟩)),(8,.int .i16 ver),(9,.bool true),(10,.pointer (some ⟨vb,0,none⟩)),(14,.int .i32 y0),(13,va0)] (fun w' => ∃ s xs css,LstI RT (rd1 (rdP (d + 2) ver true) fDescribeDelegationTokenResponse_1.of fDescribeDelegationTokenResponse_1.sub false true) (Rep1 (RepS true (d + 2)) fDescribeDelegationTokenResponse_1.of fDescribeDelegationTokenResponse_1.sub) 11 209 [.string ByteArray.empty,.string ByteArray.empty,.string ByteArray.empty,.string ByteArray.empty,.int .i64 0,.int .i64 0,.int .i64 0,.string ByteArray.empty,.slice none 0 0,.slice none 0 0,.map none] w4.heap.size N0 ok (fun b => ok b ∨ w1.heap.size ≤ b) rb w4 s2 va0 N0 s xs css w')) (W.loop (LoopQ [(2,.bool un),(7,.pointer (some ⟨rb,0,none⟩)),(8,.int .i16 ver),(9,.bool true),(10,.pointer (some ⟨vb,0,none⟩)),(14,.int .i32 y0),(13,va0)] 15 (fun j w' => ∃ s xs css,LstI RT (rd1 (rdP (d + 2) ver true) fDescribeDelegationTokenResponse_1.of fDescribeDelegationTokenResponse_1.sub false true) (Rep1 (RepS true (d + 2)) fDescribeDelegationTokenResponse_1.of fDescribeDelegationTokenResponse_1.sub) 11 209 [.string ByteArray.empty,.string ByteArray.empty,.string ByteArray.empty,.string ByteArray.empty,.int .i64 0,.int .i64 0,.int .i64 0,.string ByteArray.empty,.slice none 0 0,.slice none 0 0,.map none] w4.heap.size N0 ok (fun b => ok b ∨ w1.heap.size ≤ b) rb w4 s2 va0 j s xs css w')) (fun ρ _ => N0 - (RowKit.intOf (ρ 15)).toNat) ?_ ?_) ?_
    · exact ⟨(by simp (maxSteps:=1000000)(disch:=(first|omega|(simp only [qI,qJ,qK]<;>omega)|exact qL _)) only [go_sem,↓reduceIte,n0,reduceCtorEq,n1,n2,n3,n4,n5,i0,i1,i2,i3,i4,i5,i6,i7,Holds_nil,Holds_cons,hrb0_2,hrb0_7,hrb0_8,hrb0_9,hrb0_10,hrb0_14,hra0]),0,(by simp (maxSteps:=1000000)(disch:=(first|omega|(simp only [qI,qJ,qK]<;>omega)|exact qL _)) only [go_sem,↓reduceIte,n0,reduceCtorEq,n1,n2,n3,n4,n5,i0,i1,i2,i3,i4,i5,i6,i7,hrb0_2,hrb0_7,hrb0_8,hrb0_9,hrb0_10,hrb0_14,hra0];all_goals rfl),s2,[],[],hL0⟩
    · rintro ρ w6 ⟨⟨hrc0_2,hrc0_7,hrc0_8,hrc0_9,hrc0_10,hrc0_14,hrc0_13,-⟩,j1,hri0,s3,xs0,css0,hL0⟩
      have hj0 := hL0.le
      have hq6 := hL0.rd
      have hU6 : Upd (fun b => b = vb ∨ b = rb) w1 w6 := hU4.trans' hL0.upd fun i _ h => .inr h
      have hz6 := hL0.upd.size
      have hG6 : Glo ev w6 := hG1.updS hU6 hgM1 hgM2
      by_cases hlt0 : j1 < N0
      · obtain ⟨R1,q1,B1,hva1,hNq1,hLR1,hA1,hx1_6,hnext1⟩ := hL0.row.next hlt0
        have hRl1 := blk_lt hx1_6
        generalize css0.flatten = A1 at hA1 hx1_6 hnext1
        replace hra0 : ρ 13 = .slice (some ⟨R1,0,none⟩) N0 q1 := hrc0_13.trans hva1
        have hown1 : ∀ b,ownB va0 b → w4.heap.size ≤ b ∧ b < w6.heap.size := fun b h => hL0.row.own h
        have hoM1 : ∀ b,(fun b => (ok b ∨ w1.heap.size ≤ b) ∧ ¬ ownB va0 b) b → ¬ (b = R1 ∨ b = rb) := fun b hk h => h.elim (fun e => hk.2 ⟨_,_,_,hva1,e⟩) (fun e => hoM b hk.1 (.inr e))
        obtain ⟨X6,hX6⟩ : ∃ X : Array Value,X = (A1 ++ (([.string ByteArray.empty,.string ByteArray.empty,.string ByteArray.empty,.string ByteArray.empty,.int .i64 0,.int .i64 0,.int .i64 0,.string ByteArray.empty,.slice none 0 0,.slice none 0 0,.map none] : List Value) ++ B1)).toArray := ⟨_,rfl⟩
        have hxb6 : blk w6 R1 = some (X6,209,(0,0)) := by rw [hX6];exact hx1_6
        have hXs6 : j1 * 11 + 11 ≤ X6.size := by rw [hX6];simp only [List.size_toArray,List.length_append,List.length_cons,List.length_nil,hA1];omega
        repeat ((first | refine qA rfl ?_|refine qB ?_|refine qC rfl ?_|refine qD ?_|refine qE ?_|refine qF ?_|refine qG ?_|refine qH ?_);try simp (maxSteps:=1000000)(disch:=(first|omega|(simp only [qI,qJ,qK]<;>omega)|exact qL _)) only [go_sem,↓reduceIte,n0,reduceCtorEq,n1,n2,n3,n4,n5,i0,i1,i2,i3,i4,i5,i6,i7,hxb6,hrc0_2,hrc0_7,hrc0_8,hrc0_9,hrc0_10,hrc0_14,hra0,hri0,exitRQ_ret,exitRQ_exit,Int.toNat_natCast,Nat.mul_one,hun,hun'])
        refine (DefaultEX1_fn w6 hx1_6 hA1).mono ?_
        rintro _ w7 ⟨hx1_7,hu7⟩
        have hq7 := And.intro (hq6.1.upd hu7 (by omega) (fun b _ hk e => by have := (hok b hk).1;omega)) (hq6.2.upd hu7 (by omega))
        have hV7 : Upd (fun b => b = R1 ∨ b = rb) w6 w7 := hu7.mono (fun _ h => .inl h)
        have hU7 : Upd (fun b => b = vb ∨ b = rb) w1 w7 := hU6.trans' hV7 fun i hi h => h.elim (fun h => by omega) .inr
        have hz7 := hV7.size
        have hG7 : Glo ev w7 := hG1.updS hU7 hgM1 hgM2
        obtain ⟨X7,hX7⟩ : ∃ X : Array Value,X = (A1 ++ (([.string ByteArray.empty,.string ByteArray.empty,.string ByteArray.empty,.string ByteArray.empty,.int .i64 0,.int .i64 0,.int .i64 0,.string ByteArray.empty,.slice none 0 0,.slice none 0 0,.map none] : List Value) ++ B1)).toArray := ⟨_,rfl⟩
        have hxb7 : blk w7 R1 = some (X7,209,(0,0)) := by rw [hX7];exact hx1_7
        have hXs7 : j1 * 11 + 11 ≤ X7.size := by rw [hX7];simp only [List.size_toArray,List.length_append,List.length_cons,List.length_nil,hA1];omega
        have hbe0_0 : (rdL (rdP (d + 1) ver true) (dfP (d + 1)) ver true [fX1_0,fX1_1,fX1_2,fX1_3,fX1_4,fX1_5,fX1_6,fX1_7,fX1_8,fX1_9] s3).2 = none → FB := fun h => hlb0 (hL0.bad hlt0 rd1P_none (by show (rd1 (rdP (d + 2) ver true) 10 fs_X1 false true s3).2 = none;rw [rd1_part];exact rdP_bad h))
        have hhe0_0 : hasS fX1_0 ver = true := hasS_t (by show (0 : Int) ≤ ver;omega) (by show (-1 : Int) < 0 ∨ ver ≤ (-1 : Int);omega)
        obtain ⟨xe0_0,hxe0_0⟩ : ∃ x,x = (rdF (rdP (d + 1) ver true) ver true fX1_0 s3).1 := ⟨_,rfl⟩
        repeat ((first | refine qA rfl ?_|refine qB ?_|refine qC rfl ?_|refine qD ?_|refine qE ?_|refine qF ?_|refine qG ?_|refine qH ?_);try simp (maxSteps:=1000000)(disch:=(first|omega|(simp only [qI,qJ,qK]<;>omega)|exact qL _)) only [go_sem,↓reduceIte,n0,reduceCtorEq,n1,n2,n3,n4,n5,i0,i1,i2,i3,i4,i5,i6,i7,hxb7,hrc0_2,hrc0_7,hrc0_8,hrc0_9,hrc0_10,hrc0_14,hra0,hri0,exitRQ_ret,exitRQ_exit,Int.toNat_natCast,Nat.mul_one,hun,hun'])
        have hmay : mayS fX1_0 ver = false := mayS_no (by show (-1 : Int) < 0 ∨ ver < (-1 : Int);omega)
        have hrd : rdF (rdP (d + 1) ver true) ver true fX1_0 s3 = _ := rdF_text rfl hmay
        first | refine (RUnsafeCompactString_fn w7 hq7.1 hrok hG7.1 hgrb).mono ?_ | refine (RCompactString_fn w7 hq7.1 hrok hG7.1 hgrb).mono ?_
        rintro _ w8 ⟨rfl,hq8,hu8⟩
        have hx1_8 := hu8.blk_some hx1_7 (by omega)
        have hV8 : Upd (fun b => b = R1 ∨ b = rb) w7 w8 := hu8.mono (fun _ h => .inr h)
        have hU8 : Upd (fun b => b = vb ∨ b = rb) w1 w8 := hU7.trans' hV8 fun i hi h => h.elim (fun h => by omega) .inr
        have hz8 := hV8.size
        have hG8 : Glo ev w8 := hG1.updS hU8 hgM1 hgM2
        obtain ⟨X8,hX8⟩ : ∃ X : Array Value,X = (A1 ++ (([.string ByteArray.empty,.string ByteArray.empty,.string ByteArray.empty,.string ByteArray.empty,.int .i64 0,.int .i64 0,.int .i64 0,.string ByteArray.empty,.slice none 0 0,.slice none 0 0,.map none] : List Value) ++ B1)).toArray := ⟨_,rfl⟩
        have hxb8 : blk w8 R1 = some (X8,209,(0,0)) := by rw [hX8];exact hx1_8
        have hXs8 : j1 * 11 + 11 ≤ X8.size := by rw [hX8];simp only [List.size_toArray,List.length_append,List.length_cons,List.length_nil,hA1];omega
        have hst : (rdF (rdP (d + 1) ver true) ver true fX1_0 s3).2 = (rdStr true s3).2 := by first | (rw [hrd];rfl) | rw [hrd]
        obtain ⟨s4,hs4⟩ : ∃ s,s = (rdF (rdP (d + 1) ver true) ver true fX1_0 s3).2 := ⟨_,rfl⟩
        rw [← hst,← hs4] at hq8
        clear hst
        have hst8_0 : j1 * 11 + 1 ≤ X8.size := by omega
        have hld8_9 : X8[j1 * 11 + 9]? = some (.slice none 0 0) := by rw [hX8];exact el_cell (R := 0) hA1 (Nat.le_of_ble_eq_true rfl)
        repeat ((first | refine qA rfl ?_|refine qB ?_|refine qC rfl ?_|refine qD ?_|refine qE ?_|refine qF ?_|refine qG ?_|refine qH ?_);try simp (maxSteps:=1000000)(disch:=(first|omega|(simp only [qI,qJ,qK]<;>omega)|exact qL _)) only [go_sem,↓reduceIte,n0,reduceCtorEq,n1,n2,n3,n4,n5,i0,i1,i2,i3,i4,i5,i6,i7,hxb8,hrc0_2,hrc0_7,hrc0_8,hrc0_9,hrc0_10,hrc0_14,hra0,hri0,exitRQ_ret,exitRQ_exit,Int.toNat_natCast,Nat.mul_one,hun,hun',hst8_0,hld8_9,Array.getElem?_setIfInBounds_ne])
        generalize hw9 : wr w8 R1 (j1 * 11) [strV (rdStr true s3).1] = w9
        have hS9 : Upd (fun b => b = R1 ∨ b = rb) w8 w9 := by rw [← hw9];exact (Upd.refl _ _).wr _ _ (.inr (.inl rfl))
        have hx1_9 : blk w9 R1 = some ((A1 ++ (([strV (rdStr true s3).1,.string ByteArray.empty,.string ByteArray.empty,.string ByteArray.empty,.int .i64 0,.int .i64 0,.int .i64 0,.string ByteArray.empty,.slice none 0 0,.slice none 0 0,.map none] : List Value) ++ B1)).toArray,209,(0,0)) := by rw [← hw9];exact el_blk0 hx1_8 hA1 (Nat.le_of_ble_eq_true rfl)
        have hV9 := hS9
        have hU9 : Upd (fun b => b = vb ∨ b = rb) w1 w9 := hU8.trans' hV9 fun i hi h => h.elim (fun h => by omega) .inr
        have hz9 := hV9.size
        have hG9 : Glo ev w9 := hG1.updS hU9 hgM1 hgM2
        have hq9 : Rdr RT ok w9 rb s4 ∧ NN w9 rb s4 := by
          have hn : ∀ x,x = w9 → (Rdr RT ok x rb s4 ∧ NN x rb s4) := fun x hx => by
            rw [hx,← hw9]
            exact Rdr.store hq8 (by omega) (fun h => by have := (hok _ h).1;first | omega | exact (hok _ h).2 rfl)
          exact hn _ rfl
        obtain ⟨X9,hX9⟩ : ∃ X : Array Value,X = (A1 ++ (([strV (rdStr true s3).1,.string ByteArray.empty,.string ByteArray.empty,.string ByteArray.empty,.int .i64 0,.int .i64 0,.int .i64 0,.string ByteArray.empty,.slice none 0 0,.slice none 0 0,.map none] : List Value) ++ B1)).toArray := ⟨_,rfl⟩
        have hxb9 : blk w9 R1 = some (X9,209,(0,0)) := by rw [hX9];exact hx1_9
        have hXs9 : j1 * 11 + 11 ≤ X9.size := by rw [hX9];simp only [List.size_toArray,List.length_append,List.length_cons,List.length_nil,hA1];omega
        clear hw9
        have hfe0_0 : RepF (RepS true (d + 1)) (szS true (d + 1)) fX1_0 (fun b => (ok b ∨ w1.heap.size ≤ b) ∧ ¬ ownB va0 b) w9 (xe0_0) [strV (rdStr true s3).1] := (RepF_text rfl (by decide)).2 (by rw [hxe0_0,hrd];rfl)
        clear hrd
        have hbe0_1 : (rdL (rdP (d + 1) ver true) (dfP (d + 1)) ver true [fX1_1,fX1_2,fX1_3,fX1_4,fX1_5,fX1_6,fX1_7,fX1_8,fX1_9] s4).2 = none → FB := fun h => hbe0_0 (by rw [rdL_st (by decide) hhe0_0,← hs4];exact h)
        have hhe0_1 : hasS fX1_1 ver = true := hasS_t (by show (0 : Int) ≤ ver;omega) (by show (-1 : Int) < 0 ∨ ver ≤ (-1 : Int);omega)
        obtain ⟨xe0_1,hxe0_1⟩ : ∃ x,x = (rdF (rdP (d + 1) ver true) ver true fX1_1 s4).1 := ⟨_,rfl⟩
        repeat ((first | refine qA rfl ?_|refine qB ?_|refine qC rfl ?_|refine qD ?_|refine qE ?_|refine qF ?_|refine qG ?_|refine qH ?_);try simp (maxSteps:=1000000)(disch:=(first|omega|(simp only [qI,qJ,qK]<;>omega)|exact qL _)) only [go_sem,↓reduceIte,n0,reduceCtorEq,n1,n2,n3,n4,n5,i0,i1,i2,i3,i4,i5,i6,i7,hxb9,hrc0_2,hrc0_7,hrc0_8,hrc0_9,hrc0_10,hrc0_14,hra0,hri0,exitRQ_ret,exitRQ_exit,Int.toNat_natCast,Nat.mul_one,hun,hun'])
        have hmay : mayS fX1_1 ver = false := mayS_no (by show (-1 : Int) < 0 ∨ ver < (-1 : Int);omega)
        have hrd : rdF (rdP (d + 1) ver true) ver true fX1_1 s4 = _ := rdF_text rfl hmay
        first | refine (RUnsafeCompactString_fn w9 hq9.1 hrok hG9.1 hgrb).mono ?_ | refine (RCompactString_fn w9 hq9.1 hrok hG9.1 hgrb).mono ?_
        rintro _ w10 ⟨rfl,hq10,hu10⟩
        have hx1_10 := hu10.blk_some hx1_9 (by omega)
        have hV10 : Upd (fun b => b = R1 ∨ b = rb) w9 w10 := hu10.mono (fun _ h => .inr h)
        have hU10 : Upd (fun b => b = vb ∨ b = rb) w1 w10 := hU9.trans' hV10 fun i hi h => h.elim (fun h => by omega) .inr
        have hz10 := hV10.size
        have hG10 : Glo ev w10 := hG1.updS hU10 hgM1 hgM2
        obtain ⟨X10,hX10⟩ : ∃ X : Array Value,X = (A1 ++ (([strV (rdStr true s3).1,.string ByteArray.empty,.string ByteArray.empty,.string ByteArray.empty,.int .i64 0,.int .i64 0,.int .i64 0,.string ByteArray.empty,.slice none 0 0,.slice none 0 0,.map none] : List Value) ++ B1)).toArray := ⟨_,rfl⟩
        have hxb10 : blk w10 R1 = some (X10,209,(0,0)) := by rw [hX10];exact hx1_10
        have hXs10 : j1 * 11 + 11 ≤ X10.size := by rw [hX10];simp only [List.size_toArray,List.length_append,List.length_cons,List.length_nil,hA1];omega
        have hst : (rdF (rdP (d + 1) ver true) ver true fX1_1 s4).2 = (rdStr true s4).2 := by first | (rw [hrd];rfl) | rw [hrd]
        obtain ⟨s5,hs5⟩ : ∃ s,s = (rdF (rdP (d + 1) ver true) ver true fX1_1 s4).2 := ⟨_,rfl⟩
        rw [← hst,← hs5] at hq10
        clear hst
        have hst10_1 : j1 * 11 + 2 ≤ X10.size := by omega
        have hld10_9 : X10[j1 * 11 + 9]? = some (.slice none 0 0) := by rw [hX10];exact el_cell (R := 0) hA1 (Nat.le_of_ble_eq_true rfl)
        repeat ((first | refine qA rfl ?_|refine qB ?_|refine qC rfl ?_|refine qD ?_|refine qE ?_|refine qF ?_|refine qG ?_|refine qH ?_);try simp (maxSteps:=1000000)(disch:=(first|omega|(simp only [qI,qJ,qK]<;>omega)|exact qL _)) only [go_sem,↓reduceIte,n0,reduceCtorEq,n1,n2,n3,n4,n5,i0,i1,i2,i3,i4,i5,i6,i7,hxb10,hrc0_2,hrc0_7,hrc0_8,hrc0_9,hrc0_10,hrc0_14,hra0,hri0,exitRQ_ret,exitRQ_exit,Int.toNat_natCast,Nat.mul_one,hun,hun',hst10_1,hld10_9,Array.getElem?_setIfInBounds_ne])
        generalize hw11 : wr w10 R1 (j1 * 11 + 1) [strV (rdStr true s4).1] = w11
        have hS11 : Upd (fun b => b = R1 ∨ b = rb) w10 w11 := by rw [← hw11];exact (Upd.refl _ _).wr _ _ (.inr (.inl rfl))
        have hx1_11 : blk w11 R1 = some ((A1 ++ (([strV (rdStr true s3).1,strV (rdStr true s4).1,.string ByteArray.empty,.string ByteArray.empty,.int .i64 0,.int .i64 0,.int .i64 0,.string ByteArray.empty,.slice none 0 0,.slice none 0 0,.map none] : List Value) ++ B1)).toArray,209,(0,0)) := by rw [← hw11];exact el_blk (o := 1) hx1_10 hA1 (Nat.le_of_ble_eq_true rfl)
        have hV11 := hS11
        have hU11 : Upd (fun b => b = vb ∨ b = rb) w1 w11 := hU10.trans' hV11 fun i hi h => h.elim (fun h => by omega) .inr
        have hz11 := hV11.size
        have hG11 : Glo ev w11 := hG1.updS hU11 hgM1 hgM2
        have hq11 : Rdr RT ok w11 rb s5 ∧ NN w11 rb s5 := by
          have hn : ∀ x,x = w11 → (Rdr RT ok x rb s5 ∧ NN x rb s5) := fun x hx => by
            rw [hx,← hw11]
            exact Rdr.store hq10 (by omega) (fun h => by have := (hok _ h).1;first | omega | exact (hok _ h).2 rfl)
          exact hn _ rfl
        obtain ⟨X11,hX11⟩ : ∃ X : Array Value,X = (A1 ++ (([strV (rdStr true s3).1,strV (rdStr true s4).1,.string ByteArray.empty,.string ByteArray.empty,.int .i64 0,.int .i64 0,.int .i64 0,.string ByteArray.empty,.slice none 0 0,.slice none 0 0,.map none] : List Value) ++ B1)).toArray := ⟨_,rfl⟩
        have hxb11 : blk w11 R1 = some (X11,209,(0,0)) := by rw [hX11];exact hx1_11
        have hXs11 : j1 * 11 + 11 ≤ X11.size := by rw [hX11];simp only [List.size_toArray,List.length_append,List.length_cons,List.length_nil,hA1];omega
        clear hw11
        have hfe0_1 : RepF (RepS true (d + 1)) (szS true (d + 1)) fX1_1 (fun b => (ok b ∨ w1.heap.size ≤ b) ∧ ¬ ownB va0 b) w11 (xe0_1) [strV (rdStr true s4).1] := (RepF_text rfl (by decide)).2 (by rw [hxe0_1,hrd];rfl)
        clear hrd
        have hbe0_2 : (rdL (rdP (d + 1) ver true) (dfP (d + 1)) ver true [fX1_2,fX1_3,fX1_4,fX1_5,fX1_6,fX1_7,fX1_8,fX1_9] s5).2 = none → FB := fun h => hbe0_1 (by rw [rdL_st (by decide) hhe0_1,← hs5];exact h)
        obtain ⟨xe0_2,hxe0_2⟩ : ∃ x,x = dfF (dfP (d + 1)) fX1_2 := ⟨_,rfl⟩
        have hfe0_2 : RepF (RepS true (d + 1)) (szS true (d + 1)) fX1_2 (fun b => (ok b ∨ w1.heap.size ≤ b) ∧ ¬ ownB va0 b) w11 (xe0_2) [.string ByteArray.empty] := by rw [hxe0_2];exact (RepF_text rfl (by decide)).2 rfl
        have hhe0_2 : hasS fX1_2 ver = false := hasS_f (by show ver < 3 ∨ (0 ≤ (-1 : Int) ∧ (-1 : Int) < ver);omega)
        have hbe0_3 : (rdL (rdP (d + 1) ver true) (dfP (d + 1)) ver true [fX1_3,fX1_4,fX1_5,fX1_6,fX1_7,fX1_8,fX1_9] s5).2 = none → FB := fun h => hbe0_2 (by rw [rdL_no hhe0_2];exact h)
        obtain ⟨xe0_3,hxe0_3⟩ : ∃ x,x = dfF (dfP (d + 1)) fX1_3 := ⟨_,rfl⟩
        have hfe0_3 : RepF (RepS true (d + 1)) (szS true (d + 1)) fX1_3 (fun b => (ok b ∨ w1.heap.size ≤ b) ∧ ¬ ownB va0 b) w11 (xe0_3) [.string ByteArray.empty] := by rw [hxe0_3];exact (RepF_text rfl (by decide)).2 rfl
        have hhe0_3 : hasS fX1_3 ver = false := hasS_f (by show ver < 3 ∨ (0 ≤ (-1 : Int) ∧ (-1 : Int) < ver);omega)
        have hbe0_4 : (rdL (rdP (d + 1) ver true) (dfP (d + 1)) ver true [fX1_4,fX1_5,fX1_6,fX1_7,fX1_8,fX1_9] s5).2 = none → FB := fun h => hbe0_3 (by rw [rdL_no hhe0_3];exact h)
        have hhe0_4 : hasS fX1_4 ver = true := hasS_t (by show (0 : Int) ≤ ver;omega) (by show (-1 : Int) < 0 ∨ ver ≤ (-1 : Int);omega)
        obtain ⟨xe0_4,hxe0_4⟩ : ∃ x,x = (rdF (rdP (d + 1) ver true) ver true fX1_4 s5).1 := ⟨_,rfl⟩
        repeat ((first | refine qA rfl ?_|refine qB ?_|refine qC rfl ?_|refine qD ?_|refine qE ?_|refine qF ?_|refine qG ?_|refine qH ?_);try simp (maxSteps:=1000000)(disch:=(first|omega|(simp only [qI,qJ,qK]<;>omega)|exact qL _)) only [go_sem,↓reduceIte,n0,reduceCtorEq,n1,n2,n3,n4,n5,i0,i1,i2,i3,i4,i5,i6,i7,hxb11,hrc0_2,hrc0_7,hrc0_8,hrc0_9,hrc0_10,hrc0_14,hra0,hri0,exitRQ_ret,exitRQ_exit,Int.toNat_natCast,Nat.mul_one,hun,hun'])
        have hrd : rdF (rdP (d + 1) ver true) ver true fX1_4 s5 = _ := rdF_num 4 rfl (by decide)
        refine (Int64_fn w11 hq11.1 hrok hG11.1 hgrb).mono ?_
        rintro _ w12 ⟨rfl,hq12,hu12⟩
        have hx1_12 := hu12.blk_some hx1_11 (by omega)
        have hV12 : Upd (fun b => b = R1 ∨ b = rb) w11 w12 := hu12.mono (fun _ h => .inr h)
        have hU12 : Upd (fun b => b = vb ∨ b = rb) w1 w12 := hU11.trans' hV12 fun i hi h => h.elim (fun h => by omega) .inr
        have hz12 := hV12.size
        have hG12 : Glo ev w12 := hG1.updS hU12 hgM1 hgM2
        obtain ⟨X12,hX12⟩ : ∃ X : Array Value,X = (A1 ++ (([strV (rdStr true s3).1,strV (rdStr true s4).1,.string ByteArray.empty,.string ByteArray.empty,.int .i64 0,.int .i64 0,.int .i64 0,.string ByteArray.empty,.slice none 0 0,.slice none 0 0,.map none] : List Value) ++ B1)).toArray := ⟨_,rfl⟩
        have hxb12 : blk w12 R1 = some (X12,209,(0,0)) := by rw [hX12];exact hx1_12
        have hXs12 : j1 * 11 + 11 ≤ X12.size := by rw [hX12];simp only [List.size_toArray,List.length_append,List.length_cons,List.length_nil,hA1];omega
        have hst : (rdF (rdP (d + 1) ver true) ver true fX1_4 s5).2 = (rdInt .i64 8 s5).2 := by first | (rw [hrd];rfl) | rw [hrd]
        obtain ⟨s6,hs6⟩ : ∃ s,s = (rdF (rdP (d + 1) ver true) ver true fX1_4 s5).2 := ⟨_,rfl⟩
        rw [← hst,← hs6] at hq12
        clear hst
        have hst12_4 : j1 * 11 + 5 ≤ X12.size := by omega
        have hld12_9 : X12[j1 * 11 + 9]? = some (.slice none 0 0) := by rw [hX12];exact el_cell (R := 0) hA1 (Nat.le_of_ble_eq_true rfl)
        repeat ((first | refine qA rfl ?_|refine qB ?_|refine qC rfl ?_|refine qD ?_|refine qE ?_|refine qF ?_|refine qG ?_|refine qH ?_);try simp (maxSteps:=1000000)(disch:=(first|omega|(simp only [qI,qJ,qK]<;>omega)|exact qL _)) only [go_sem,↓reduceIte,n0,reduceCtorEq,n1,n2,n3,n4,n5,i0,i1,i2,i3,i4,i5,i6,i7,hxb12,hrc0_2,hrc0_7,hrc0_8,hrc0_9,hrc0_10,hrc0_14,hra0,hri0,exitRQ_ret,exitRQ_exit,Int.toNat_natCast,Nat.mul_one,hun,hun',hst12_4,hld12_9,Array.getElem?_setIfInBounds_ne])
        generalize hw13 : wr w12 R1 (j1 * 11 + 4) [.int .i64 (rdInt .i64 8 s5).1] = w13
        have hS13 : Upd (fun b => b = R1 ∨ b = rb) w12 w13 := by rw [← hw13];exact (Upd.refl _ _).wr _ _ (.inr (.inl rfl))
        have hx1_13 : blk w13 R1 = some ((A1 ++ (([strV (rdStr true s3).1,strV (rdStr true s4).1,.string ByteArray.empty,.string ByteArray.empty,.int .i64 (rdInt .i64 8 s5).1,.int .i64 0,.int .i64 0,.string ByteArray.empty,.slice none 0 0,.slice none 0 0,.map none] : List Value) ++ B1)).toArray,209,(0,0)) := by rw [← hw13];exact el_blk (o := 4) hx1_12 hA1 (Nat.le_of_ble_eq_true rfl)
        have hV13 := hS13
        have hU13 : Upd (fun b => b = vb ∨ b = rb) w1 w13 := hU12.trans' hV13 fun i hi h => h.elim (fun h => by omega) .inr
        have hz13 := hV13.size
        have hG13 : Glo ev w13 := hG1.updS hU13 hgM1 hgM2
        have hq13 : Rdr RT ok w13 rb s6 ∧ NN w13 rb s6 := by
          have hn : ∀ x,x = w13 → (Rdr RT ok x rb s6 ∧ NN x rb s6) := fun x hx => by
            rw [hx,← hw13]
            exact Rdr.store hq12 (by omega) (fun h => by have := (hok _ h).1;first | omega | exact (hok _ h).2 rfl)
          exact hn _ rfl
        obtain ⟨X13,hX13⟩ : ∃ X : Array Value,X = (A1 ++ (([strV (rdStr true s3).1,strV (rdStr true s4).1,.string ByteArray.empty,.string ByteArray.empty,.int .i64 (rdInt .i64 8 s5).1,.int .i64 0,.int .i64 0,.string ByteArray.empty,.slice none 0 0,.slice none 0 0,.map none] : List Value) ++ B1)).toArray := ⟨_,rfl⟩
        have hxb13 : blk w13 R1 = some (X13,209,(0,0)) := by rw [hX13];exact hx1_13
        have hXs13 : j1 * 11 + 11 ≤ X13.size := by rw [hX13];simp only [List.size_toArray,List.length_append,List.length_cons,List.length_nil,hA1];omega
        clear hw13
        have hfe0_4 : RepF (RepS true (d + 1)) (szS true (d + 1)) fX1_4 (fun b => (ok b ∨ w1.heap.size ≤ b) ∧ ¬ ownB va0 b) w13 (xe0_4) [.int .i64 (rdInt .i64 8 s5).1] := (RepF_num (by decide)).2 (by rw [hxe0_4,hrd];exact congrArg (fun x => [x]) (numC_rd 4 (by decide) 8 s5).symm)
        clear hrd
        have hbe0_5 : (rdL (rdP (d + 1) ver true) (dfP (d + 1)) ver true [fX1_5,fX1_6,fX1_7,fX1_8,fX1_9] s6).2 = none → FB := fun h => hbe0_4 (by rw [rdL_st (by decide) hhe0_4,← hs6];exact h)
        have hhe0_5 : hasS fX1_5 ver = true := hasS_t (by show (0 : Int) ≤ ver;omega) (by show (-1 : Int) < 0 ∨ ver ≤ (-1 : Int);omega)
        obtain ⟨xe0_5,hxe0_5⟩ : ∃ x,x = (rdF (rdP (d + 1) ver true) ver true fX1_5 s6).1 := ⟨_,rfl⟩
        repeat ((first | refine qA rfl ?_|refine qB ?_|refine qC rfl ?_|refine qD ?_|refine qE ?_|refine qF ?_|refine qG ?_|refine qH ?_);try simp (maxSteps:=1000000)(disch:=(first|omega|(simp only [qI,qJ,qK]<;>omega)|exact qL _)) only [go_sem,↓reduceIte,n0,reduceCtorEq,n1,n2,n3,n4,n5,i0,i1,i2,i3,i4,i5,i6,i7,hxb13,hrc0_2,hrc0_7,hrc0_8,hrc0_9,hrc0_10,hrc0_14,hra0,hri0,exitRQ_ret,exitRQ_exit,Int.toNat_natCast,Nat.mul_one,hun,hun'])
        have hrd : rdF (rdP (d + 1) ver true) ver true fX1_5 s6 = _ := rdF_num 4 rfl (by decide)
        refine (Int64_fn w13 hq13.1 hrok hG13.1 hgrb).mono ?_
        rintro _ w14 ⟨rfl,hq14,hu14⟩
        have hx1_14 := hu14.blk_some hx1_13 (by omega)
        have hV14 : Upd (fun b => b = R1 ∨ b = rb) w13 w14 := hu14.mono (fun _ h => .inr h)
        have hU14 : Upd (fun b => b = vb ∨ b = rb) w1 w14 := hU13.trans' hV14 fun i hi h => h.elim (fun h => by omega) .inr
        have hz14 := hV14.size
        have hG14 : Glo ev w14 := hG1.updS hU14 hgM1 hgM2
        obtain ⟨X14,hX14⟩ : ∃ X : Array Value,X = (A1 ++ (([strV (rdStr true s3).1,strV (rdStr true s4).1,.string ByteArray.empty,.string ByteArray.empty,.int .i64 (rdInt .i64 8 s5).1,.int .i64 0,.int .i64 0,.string ByteArray.empty,.slice none 0 0,.slice none 0 0,.map none] : List Value) ++ B1)).toArray := ⟨_,rfl⟩
        have hxb14 : blk w14 R1 = some (X14,209,(0,0)) := by rw [hX14];exact hx1_14
        have hXs14 : j1 * 11 + 11 ≤ X14.size := by rw [hX14];simp only [List.size_toArray,List.length_append,List.length_cons,List.length_nil,hA1];omega
        have hst : (rdF (rdP (d + 1) ver true) ver true fX1_5 s6).2 = (rdInt .i64 8 s6).2 := by first | (rw [hrd];rfl) | rw [hrd]
        obtain ⟨s7,hs7⟩ : ∃ s,s = (rdF (rdP (d + 1) ver true) ver true fX1_5 s6).2 := ⟨_,rfl⟩
        rw [← hst,← hs7] at hq14
        clear hst
        have hst14_5 : j1 * 11 + 6 ≤ X14.size := by omega
        have hld14_9 : X14[j1 * 11 + 9]? = some (.slice none 0 0) := by rw [hX14];exact el_cell (R := 0) hA1 (Nat.le_of_ble_eq_true rfl)
        repeat ((first | refine qA rfl ?_|refine qB ?_|refine qC rfl ?_|refine qD ?_|refine qE ?_|refine qF ?_|refine qG ?_|refine qH ?_);try simp (maxSteps:=1000000)(disch:=(first|omega|(simp only [qI,qJ,qK]<;>omega)|exact qL _)) only [go_sem,↓reduceIte,n0,reduceCtorEq,n1,n2,n3,n4,n5,i0,i1,i2,i3,i4,i5,i6,i7,hxb14,hrc0_2,hrc0_7,hrc0_8,hrc0_9,hrc0_10,hrc0_14,hra0,hri0,exitRQ_ret,exitRQ_exit,Int.toNat_natCast,Nat.mul_one,hun,hun',hst14_5,hld14_9,Array.getElem?_setIfInBounds_ne])
        generalize hw15 : wr w14 R1 (j1 * 11 + 5) [.int .i64 (rdInt .i64 8 s6).1] = w15
        have hS15 : Upd (fun b => b = R1 ∨ b = rb) w14 w15 := by rw [← hw15];exact (Upd.refl _ _).wr _ _ (.inr (.inl rfl))
        have hx1_15 : blk w15 R1 = some ((A1 ++ (([strV (rdStr true s3).1,strV (rdStr true s4).1,.string ByteArray.empty,.string ByteArray.empty,.int .i64 (rdInt .i64 8 s5).1,.int .i64 (rdInt .i64 8 s6).1,.int .i64 0,.string ByteArray.empty,.slice none 0 0,.slice none 0 0,.map none] : List Value) ++ B1)).toArray,209,(0,0)) := by rw [← hw15];exact el_blk (o := 5) hx1_14 hA1 (Nat.le_of_ble_eq_true rfl)
        have hV15 := hS15
        have hU15 : Upd (fun b => b = vb ∨ b = rb) w1 w15 := hU14.trans' hV15 fun i hi h => h.elim (fun h => by omega) .inr
        have hz15 := hV15.size
        have hG15 : Glo ev w15 := hG1.updS hU15 hgM1 hgM2
        have hq15 : Rdr RT ok w15 rb s7 ∧ NN w15 rb s7 := by
          have hn : ∀ x,x = w15 → (Rdr RT ok x rb s7 ∧ NN x rb s7) := fun x hx => by
            rw [hx,← hw15]
            exact Rdr.store hq14 (by omega) (fun h => by have := (hok _ h).1;first | omega | exact (hok _ h).2 rfl)
          exact hn _ rfl
        obtain ⟨X15,hX15⟩ : ∃ X : Array Value,X = (A1 ++ (([strV (rdStr true s3).1,strV (rdStr true s4).1,.string ByteArray.empty,.string ByteArray.empty,.int .i64 (rdInt .i64 8 s5).1,.int .i64 (rdInt .i64 8 s6).1,.int .i64 0,.string ByteArray.empty,.slice none 0 0,.slice none 0 0,.map none] : List Value) ++ B1)).toArray := ⟨_,rfl⟩
        have hxb15 : blk w15 R1 = some (X15,209,(0,0)) := by rw [hX15];exact hx1_15
        have hXs15 : j1 * 11 + 11 ≤ X15.size := by rw [hX15];simp only [List.size_toArray,List.length_append,List.length_cons,List.length_nil,hA1];omega
        clear hw15
        have hfe0_5 : RepF (RepS true (d + 1)) (szS true (d + 1)) fX1_5 (fun b => (ok b ∨ w1.heap.size ≤ b) ∧ ¬ ownB va0 b) w15 (xe0_5) [.int .i64 (rdInt .i64 8 s6).1] := (RepF_num (by decide)).2 (by rw [hxe0_5,hrd];exact congrArg (fun x => [x]) (numC_rd 4 (by decide) 8 s6).symm)
        clear hrd
        have hbe0_6 : (rdL (rdP (d + 1) ver true) (dfP (d + 1)) ver true [fX1_6,fX1_7,fX1_8,fX1_9] s7).2 = none → FB := fun h => hbe0_5 (by rw [rdL_st (by decide) hhe0_5,← hs7];exact h)
        have hhe0_6 : hasS fX1_6 ver = true := hasS_t (by show (0 : Int) ≤ ver;omega) (by show (-1 : Int) < 0 ∨ ver ≤ (-1 : Int);omega)
        obtain ⟨xe0_6,hxe0_6⟩ : ∃ x,x = (rdF (rdP (d + 1) ver true) ver true fX1_6 s7).1 := ⟨_,rfl⟩
        repeat ((first | refine qA rfl ?_|refine qB ?_|refine qC rfl ?_|refine qD ?_|refine qE ?_|refine qF ?_|refine qG ?_|refine qH ?_);try simp (maxSteps:=1000000)(disch:=(first|omega|(simp only [qI,qJ,qK]<;>omega)|exact qL _)) only [go_sem,↓reduceIte,n0,reduceCtorEq,n1,n2,n3,n4,n5,i0,i1,i2,i3,i4,i5,i6,i7,hxb15,hrc0_2,hrc0_7,hrc0_8,hrc0_9,hrc0_10,hrc0_14,hra0,hri0,exitRQ_ret,exitRQ_exit,Int.toNat_natCast,Nat.mul_one,hun,hun'])
        have hrd : rdF (rdP (d + 1) ver true) ver true fX1_6 s7 = _ := rdF_num 4 rfl (by decide)
        refine (Int64_fn w15 hq15.1 hrok hG15.1 hgrb).mono ?_
        rintro _ w16 ⟨rfl,hq16,hu16⟩
        have hx1_16 := hu16.blk_some hx1_15 (by omega)
        have hV16 : Upd (fun b => b = R1 ∨ b = rb) w15 w16 := hu16.mono (fun _ h => .inr h)
        have hU16 : Upd (fun b => b = vb ∨ b = rb) w1 w16 := hU15.trans' hV16 fun i hi h => h.elim (fun h => by omega) .inr
        have hz16 := hV16.size
        have hG16 : Glo ev w16 := hG1.updS hU16 hgM1 hgM2
        obtain ⟨X16,hX16⟩ : ∃ X : Array Value,X = (A1 ++ (([strV (rdStr true s3).1,strV (rdStr true s4).1,.string ByteArray.empty,.string ByteArray.empty,.int .i64 (rdInt .i64 8 s5).1,.int .i64 (rdInt .i64 8 s6).1,.int .i64 0,.string ByteArray.empty,.slice none 0 0,.slice none 0 0,.map none] : List Value) ++ B1)).toArray := ⟨_,rfl⟩
        have hxb16 : blk w16 R1 = some (X16,209,(0,0)) := by rw [hX16];exact hx1_16
        have hXs16 : j1 * 11 + 11 ≤ X16.size := by rw [hX16];simp only [List.size_toArray,List.length_append,List.length_cons,List.length_nil,hA1];omega
        have hst : (rdF (rdP (d + 1) ver true) ver true fX1_6 s7).2 = (rdInt .i64 8 s7).2 := by first | (rw [hrd];rfl) | rw [hrd]
        obtain ⟨s8,hs8⟩ : ∃ s,s = (rdF (rdP (d + 1) ver true) ver true fX1_6 s7).2 := ⟨_,rfl⟩
        rw [← hst,← hs8] at hq16
        clear hst
        have hst16_6 : j1 * 11 + 7 ≤ X16.size := by omega
        have hld16_9 : X16[j1 * 11 + 9]? = some (.slice none 0 0) := by rw [hX16];exact el_cell (R := 0) hA1 (Nat.le_of_ble_eq_true rfl)
        repeat ((first | refine qA rfl ?_|refine qB ?_|refine qC rfl ?_|refine qD ?_|refine qE ?_|refine qF ?_|refine qG ?_|refine qH ?_);try simp (maxSteps:=1000000)(disch:=(first|omega|(simp only [qI,qJ,qK]<;>omega)|exact qL _)) only [go_sem,↓reduceIte,n0,reduceCtorEq,n1,n2,n3,n4,n5,i0,i1,i2,i3,i4,i5,i6,i7,hxb16,hrc0_2,hrc0_7,hrc0_8,hrc0_9,hrc0_10,hrc0_14,hra0,hri0,exitRQ_ret,exitRQ_exit,Int.toNat_natCast,Nat.mul_one,hun,hun',hst16_6,hld16_9,Array.getElem?_setIfInBounds_ne])
        generalize hw17 : wr w16 R1 (j1 * 11 + 6) [.int .i64 (rdInt .i64 8 s7).1] = w17
        have hS17 : Upd (fun b => b = R1 ∨ b = rb) w16 w17 := by rw [← hw17];exact (Upd.refl _ _).wr _ _ (.inr (.inl rfl))
        have hx1_17 : blk w17 R1 = some ((A1 ++ (([strV (rdStr true s3).1,strV (rdStr true s4).1,.string ByteArray.empty,.string ByteArray.empty,.int .i64 (rdInt .i64 8 s5).1,.int .i64 (rdInt .i64 8 s6).1,.int .i64 (rdInt .i64 8 s7).1,.string ByteArray.empty,.slice none 0 0,.slice none 0 0,.map none] : List Value) ++ B1)).toArray,209,(0,0)) := by rw [← hw17];exact el_blk (o := 6) hx1_16 hA1 (Nat.le_of_ble_eq_true rfl)
        have hV17 := hS17
        have hU17 : Upd (fun b => b = vb ∨ b = rb) w1 w17 := hU16.trans' hV17 fun i hi h => h.elim (fun h => by omega) .inr
        have hz17 := hV17.size
        have hG17 : Glo ev w17 := hG1.updS hU17 hgM1 hgM2
        have hq17 : Rdr RT ok w17 rb s8 ∧ NN w17 rb s8 := by
          have hn : ∀ x,x = w17 → (Rdr RT ok x rb s8 ∧ NN x rb s8) := fun x hx => by
            rw [hx,← hw17]
            exact Rdr.store hq16 (by omega) (fun h => by have := (hok _ h).1;first | omega | exact (hok _ h).2 rfl)
          exact hn _ rfl
        obtain ⟨X17,hX17⟩ : ∃ X : Array Value,X = (A1 ++ (([strV (rdStr true s3).1,strV (rdStr true s4).1,.string ByteArray.empty,.string ByteArray.empty,.int .i64 (rdInt .i64 8 s5).1,.int .i64 (rdInt .i64 8 s6).1,.int .i64 (rdInt .i64 8 s7).1,.string ByteArray.empty,.slice none 0 0,.slice none 0 0,.map none] : List Value) ++ B1)).toArray := ⟨_,rfl⟩
        have hxb17 : blk w17 R1 = some (X17,209,(0,0)) := by rw [hX17];exact hx1_17
        have hXs17 : j1 * 11 + 11 ≤ X17.size := by rw [hX17];simp only [List.size_toArray,List.length_append,List.length_cons,List.length_nil,hA1];omega
        clear hw17
        have hfe0_6 : RepF (RepS true (d + 1)) (szS true (d + 1)) fX1_6 (fun b => (ok b ∨ w1.heap.size ≤ b) ∧ ¬ ownB va0 b) w17 (xe0_6) [.int .i64 (rdInt .i64 8 s7).1] := (RepF_num (by decide)).2 (by rw [hxe0_6,hrd];exact congrArg (fun x => [x]) (numC_rd 4 (by decide) 8 s7).symm)
        clear hrd
        have hbe0_7 : (rdL (rdP (d + 1) ver true) (dfP (d + 1)) ver true [fX1_7,fX1_8,fX1_9] s8).2 = none → FB := fun h => hbe0_6 (by rw [rdL_st (by decide) hhe0_6,← hs8];exact h)
        have hhe0_7 : hasS fX1_7 ver = true := hasS_t (by show (0 : Int) ≤ ver;omega) (by show (-1 : Int) < 0 ∨ ver ≤ (-1 : Int);omega)
        obtain ⟨xe0_7,hxe0_7⟩ : ∃ x,x = (rdF (rdP (d + 1) ver true) ver true fX1_7 s8).1 := ⟨_,rfl⟩
        repeat ((first | refine qA rfl ?_|refine qB ?_|refine qC rfl ?_|refine qD ?_|refine qE ?_|refine qF ?_|refine qG ?_|refine qH ?_);try simp (maxSteps:=1000000)(disch:=(first|omega|(simp only [qI,qJ,qK]<;>omega)|exact qL _)) only [go_sem,↓reduceIte,n0,reduceCtorEq,n1,n2,n3,n4,n5,i0,i1,i2,i3,i4,i5,i6,i7,hxb17,hrc0_2,hrc0_7,hrc0_8,hrc0_9,hrc0_10,hrc0_14,hra0,hri0,exitRQ_ret,exitRQ_exit,Int.toNat_natCast,Nat.mul_one,hun,hun'])
        have hmay : mayS fX1_7 ver = false := mayS_no (by show (-1 : Int) < 0 ∨ ver < (-1 : Int);omega)
        have hrd : rdF (rdP (d + 1) ver true) ver true fX1_7 s8 = _ := rdF_text rfl hmay
        first | refine (RUnsafeCompactString_fn w17 hq17.1 hrok hG17.1 hgrb).mono ?_ | refine (RCompactString_fn w17 hq17.1 hrok hG17.1 hgrb).mono ?_
        rintro _ w18 ⟨rfl,hq18,hu18⟩
        have hx1_18 := hu18.blk_some hx1_17 (by omega)
        have hV18 : Upd (fun b => b = R1 ∨ b = rb) w17 w18 := hu18.mono (fun _ h => .inr h)
        have hU18 : Upd (fun b => b = vb ∨ b = rb) w1 w18 := hU17.trans' hV18 fun i hi h => h.elim (fun h => by omega) .inr
        have hz18 := hV18.size
        have hG18 : Glo ev w18 := hG1.updS hU18 hgM1 hgM2
        obtain ⟨X18,hX18⟩ : ∃ X : Array Value,X = (A1 ++ (([strV (rdStr true s3).1,strV (rdStr true s4).1,.string ByteArray.empty,.string ByteArray.empty,.int .i64 (rdInt .i64 8 s5).1,.int .i64 (rdInt .i64 8 s6).1,.int .i64 (rdInt .i64 8 s7).1,.string ByteArray.empty,.slice none 0 0,.slice none 0 0,.map none] : List Value) ++ B1)).toArray := ⟨_,rfl⟩
        have hxb18 : blk w18 R1 = some (X18,209,(0,0)) := by rw [hX18];exact hx1_18
        have hXs18 : j1 * 11 + 11 ≤ X18.size := by rw [hX18];simp only [List.size_toArray,List.length_append,List.length_cons,List.length_nil,hA1];omega
        have hst : (rdF (rdP (d + 1) ver true) ver true fX1_7 s8).2 = (rdStr true s8).2 := by first | (rw [hrd];rfl) | rw [hrd]
        obtain ⟨s9,hs9⟩ : ∃ s,s = (rdF (rdP (d + 1) ver true) ver true fX1_7 s8).2 := ⟨_,rfl⟩
        rw [← hst,← hs9] at hq18
        clear hst
        have hst18_7 : j1 * 11 + 8 ≤ X18.size := by omega
        have hld18_9 : X18[j1 * 11 + 9]? = some (.slice none 0 0) := by rw [hX18];exact el_cell (R := 0) hA1 (Nat.le_of_ble_eq_true rfl)
        repeat ((first | refine qA rfl ?_|refine qB ?_|refine qC rfl ?_|refine qD ?_|refine qE ?_|refine qF ?_|refine qG ?_|refine qH ?_);try simp (maxSteps:=1000000)(disch:=(first|omega|(simp only [qI,qJ,qK]<;>omega)|exact qL _)) only [go_sem,↓reduceIte,n0,reduceCtorEq,n1,n2,n3,n4,n5,i0,i1,i2,i3,i4,i5,i6,i7,hxb18,hrc0_2,hrc0_7,hrc0_8,hrc0_9,hrc0_10,hrc0_14,hra0,hri0,exitRQ_ret,exitRQ_exit,Int.toNat_natCast,Nat.mul_one,hun,hun',hst18_7,hld18_9,Array.getElem?_setIfInBounds_ne])
        generalize hw19 : wr w18 R1 (j1 * 11 + 7) [strV (rdStr true s8).1] = w19
        have hS19 : Upd (fun b => b = R1 ∨ b = rb) w18 w19 := by rw [← hw19];exact (Upd.refl _ _).wr _ _ (.inr (.inl rfl))
        have hx1_19 : blk w19 R1 = some ((A1 ++ (([strV (rdStr true s3).1,strV (rdStr true s4).1,.string ByteArray.empty,.string ByteArray.empty,.int .i64 (rdInt .i64 8 s5).1,.int .i64 (rdInt .i64 8 s6).1,.int .i64 (rdInt .i64 8 s7).1,strV (rdStr true s8).1,.slice none 0 0,.slice none 0 0,.map none] : List Value) ++ B1)).toArray,209,(0,0)) := by rw [← hw19];exact el_blk (o := 7) hx1_18 hA1 (Nat.le_of_ble_eq_true rfl)
        have hV19 := hS19
        have hU19 : Upd (fun b => b = vb ∨ b = rb) w1 w19 := hU18.trans' hV19 fun i hi h => h.elim (fun h => by omega) .inr
        have hz19 := hV19.size
        have hG19 : Glo ev w19 := hG1.updS hU19 hgM1 hgM2
        have hq19 : Rdr RT ok w19 rb s9 ∧ NN w19 rb s9 := by
          have hn : ∀ x,x = w19 → (Rdr RT ok x rb s9 ∧ NN x rb s9) := fun x hx => by
            rw [hx,← hw19]
            exact Rdr.store hq18 (by omega) (fun h => by have := (hok _ h).1;first | omega | exact (hok _ h).2 rfl)
          exact hn _ rfl
        obtain ⟨X19,hX19⟩ : ∃ X : Array Value,X = (A1 ++ (([strV (rdStr true s3).1,strV (rdStr true s4).1,.string ByteArray.empty,.string ByteArray.empty,.int .i64 (rdInt .i64 8 s5).1,.int .i64 (rdInt .i64 8 s6).1,.int .i64 (rdInt .i64 8 s7).1,strV (rdStr true s8).1,.slice none 0 0,.slice none 0 0,.map none] : List Value) ++ B1)).toArray := ⟨_,rfl⟩
        have hxb19 : blk w19 R1 = some (X19,209,(0,0)) := by rw [hX19];exact hx1_19
        have hXs19 : j1 * 11 + 11 ≤ X19.size := by rw [hX19];simp only [List.size_toArray,List.length_append,List.length_cons,List.length_nil,hA1];omega
        clear hw19
        have hfe0_7 : RepF (RepS true (d + 1)) (szS true (d + 1)) fX1_7 (fun b => (ok b ∨ w1.heap.size ≤ b) ∧ ¬ ownB va0 b) w19 (xe0_7) [strV (rdStr true s8).1] := (RepF_text rfl (by decide)).2 (by rw [hxe0_7,hrd];rfl)
        clear hrd
        have hbe0_8 : (rdL (rdP (d + 1) ver true) (dfP (d + 1)) ver true [fX1_8,fX1_9] s9).2 = none → FB := fun h => hbe0_7 (by rw [rdL_st (by decide) hhe0_7,← hs9];exact h)
        have hhe0_8 : hasS fX1_8 ver = true := hasS_t (by show (0 : Int) ≤ ver;omega) (by show (-1 : Int) < 0 ∨ ver ≤ (-1 : Int);omega)
        obtain ⟨xe0_8,hxe0_8⟩ : ∃ x,x = (rdF (rdP (d + 1) ver true) ver true fX1_8 s9).1 := ⟨_,rfl⟩
        repeat ((first | refine qA rfl ?_|refine qB ?_|refine qC rfl ?_|refine qD ?_|refine qE ?_|refine qF ?_|refine qG ?_|refine qH ?_);try simp (maxSteps:=1000000)(disch:=(first|omega|(simp only [qI,qJ,qK]<;>omega)|exact qL _)) only [go_sem,↓reduceIte,n0,reduceCtorEq,n1,n2,n3,n4,n5,i0,i1,i2,i3,i4,i5,i6,i7,hxb19,hrc0_2,hrc0_7,hrc0_8,hrc0_9,hrc0_10,hrc0_14,hra0,hri0,exitRQ_ret,exitRQ_exit,Int.toNat_natCast,Nat.mul_one,hun,hun'])
        have hmay : mayS fX1_8 ver = false := mayS_no (by show (-1 : Int) < 0 ∨ ver < (-1 : Int);omega)
        have hrd : rdF (rdP (d + 1) ver true) ver true fX1_8 s9 = _ := rdF_oct rfl hmay
        refine (RCompactBytes_fn w19 hq19.1 hrok hG19.1 hgrb).mono ?_
        rintro r20 w20 ⟨hp20,hq20,hu20⟩
        obtain ⟨ao20,no20,co20,rfl⟩ := hp20.shape
        have hx1_20 := hu20.blk_some hx1_19 (by omega)
        have hV20 : Upd (fun b => b = R1 ∨ b = rb) w19 w20 := hu20.mono (fun _ h => .inr h)
        have hU20 : Upd (fun b => b = vb ∨ b = rb) w1 w20 := hU19.trans' hV20 fun i hi h => h.elim (fun h => by omega) .inr
        have hz20 := hV20.size
        have hG20 : Glo ev w20 := hG1.updS hU20 hgM1 hgM2
        obtain ⟨X20,hX20⟩ : ∃ X : Array Value,X = (A1 ++ (([strV (rdStr true s3).1,strV (rdStr true s4).1,.string ByteArray.empty,.string ByteArray.empty,.int .i64 (rdInt .i64 8 s5).1,.int .i64 (rdInt .i64 8 s6).1,.int .i64 (rdInt .i64 8 s7).1,strV (rdStr true s8).1,.slice none 0 0,.slice none 0 0,.map none] : List Value) ++ B1)).toArray := ⟨_,rfl⟩
        have hxb20 : blk w20 R1 = some (X20,209,(0,0)) := by rw [hX20];exact hx1_20
        have hXs20 : j1 * 11 + 11 ≤ X20.size := by rw [hX20];simp only [List.size_toArray,List.length_append,List.length_cons,List.length_nil,hA1];omega
        have hst : (rdF (rdP (d + 1) ver true) ver true fX1_8 s9).2 = (rdBytes true s9).2 := by first | (rw [hrd];rfl) | rw [hrd]
        obtain ⟨s10,hs10⟩ : ∃ s,s = (rdF (rdP (d + 1) ver true) ver true fX1_8 s9).2 := ⟨_,rfl⟩
        rw [← hst,← hs10] at hq20
        clear hst
        have hst20_8 : j1 * 11 + 9 ≤ X20.size := by omega
        have hld20_9 : X20[j1 * 11 + 9]? = some (.slice none 0 0) := by rw [hX20];exact el_cell (R := 0) hA1 (Nat.le_of_ble_eq_true rfl)
        repeat ((first | refine qA rfl ?_|refine qB ?_|refine qC rfl ?_|refine qD ?_|refine qE ?_|refine qF ?_|refine qG ?_|refine qH ?_);try simp (maxSteps:=1000000)(disch:=(first|omega|(simp only [qI,qJ,qK]<;>omega)|exact qL _)) only [go_sem,↓reduceIte,n0,reduceCtorEq,n1,n2,n3,n4,n5,i0,i1,i2,i3,i4,i5,i6,i7,hxb20,hrc0_2,hrc0_7,hrc0_8,hrc0_9,hrc0_10,hrc0_14,hra0,hri0,exitRQ_ret,exitRQ_exit,Int.toNat_natCast,Nat.mul_one,hun,hun',hst20_8,hld20_9,Array.getElem?_setIfInBounds_ne])
        generalize hw21 : wr w20 R1 (j1 * 11 + 8) [.slice ao20 no20 co20] = w21
        have hS21 : Upd (fun b => b = R1 ∨ b = rb) w20 w21 := by rw [← hw21];exact (Upd.refl _ _).wr _ _ (.inr (.inl rfl))
        have hx1_21 : blk w21 R1 = some ((A1 ++ (([strV (rdStr true s3).1,strV (rdStr true s4).1,.string ByteArray.empty,.string ByteArray.empty,.int .i64 (rdInt .i64 8 s5).1,.int .i64 (rdInt .i64 8 s6).1,.int .i64 (rdInt .i64 8 s7).1,strV (rdStr true s8).1,.slice ao20 no20 co20,.slice none 0 0,.map none] : List Value) ++ B1)).toArray,209,(0,0)) := by rw [← hw21];exact el_blk (o := 8) hx1_20 hA1 (Nat.le_of_ble_eq_true rfl)
        have hV21 := hS21
        have hU21 : Upd (fun b => b = vb ∨ b = rb) w1 w21 := hU20.trans' hV21 fun i hi h => h.elim (fun h => by omega) .inr
        have hz21 := hV21.size
        have hG21 : Glo ev w21 := hG1.updS hU21 hgM1 hgM2
        have hq21 : Rdr RT ok w21 rb s10 ∧ NN w21 rb s10 := by
          have hn : ∀ x,x = w21 → (Rdr RT ok x rb s10 ∧ NN x rb s10) := fun x hx => by
            rw [hx,← hw21]
            exact Rdr.store hq20 (by omega) (fun h => by have := (hok _ h).1;first | omega | exact (hok _ h).2 rfl)
          exact hn _ rfl
        obtain ⟨X21,hX21⟩ : ∃ X : Array Value,X = (A1 ++ (([strV (rdStr true s3).1,strV (rdStr true s4).1,.string ByteArray.empty,.string ByteArray.empty,.int .i64 (rdInt .i64 8 s5).1,.int .i64 (rdInt .i64 8 s6).1,.int .i64 (rdInt .i64 8 s7).1,strV (rdStr true s8).1,.slice ao20 no20 co20,.slice none 0 0,.map none] : List Value) ++ B1)).toArray := ⟨_,rfl⟩
        have hxb21 : blk w21 R1 = some (X21,209,(0,0)) := by rw [hX21];exact hx1_21
        have hXs21 : j1 * 11 + 11 ≤ X21.size := by rw [hX21];simp only [List.size_toArray,List.length_append,List.length_cons,List.length_nil,hA1];omega
        clear hw21
        have hfe0_8 : RepF (RepS true (d + 1)) (szS true (d + 1)) fX1_8 (fun b => (ok b ∨ w1.heap.size ≤ b) ∧ ¬ ownB va0 b) w21 (xe0_8) [.slice ao20 no20 co20] := (RepF_bytes rfl).2 ⟨_,rfl,by rw [hxe0_8,hrd];exact (hp20.weaken fun b _ hk => ⟨.inl hk,fun ho => by have := (hown1 b ho).1;have := (hok b hk).1;omega⟩).keep (hV21.keeps fun b _ hk e => hoM1 b hk e)⟩
        clear hrd
        have hbe0_9 : (rdL (rdP (d + 1) ver true) (dfP (d + 1)) ver true [fX1_9] s10).2 = none → FB := fun h => hbe0_8 (by rw [rdL_st (by decide) hhe0_8,← hs10];exact h)
        have hhe0_9 : hasS fX1_9 ver = true := hasS_t (by show (0 : Int) ≤ ver;omega) (by show (-1 : Int) < 0 ∨ ver ≤ (-1 : Int);omega)
        obtain ⟨xe0_9,hxe0_9⟩ : ∃ x,x = (rdF (rdP (d + 1) ver true) ver true fX1_9 s10).1 := ⟨_,rfl⟩
        have hld21_9 : X21[j1 * 11 + 9]? = some (.slice none 0 0) := by rw [hX21];exact el_cell (R := 0) hA1 (Nat.le_of_ble_eq_true rfl)
        repeat ((first | refine qA rfl ?_|refine qB ?_|refine qC rfl ?_|refine qD ?_|refine qE ?_|refine qF ?_|refine qG ?_|refine qH ?_);try simp (maxSteps:=1000000)(disch:=(first|omega|(simp only [qI,qJ,qK]<;>omega)|exact qL _)) only [go_sem,↓reduceIte,n0,reduceCtorEq,n1,n2,n3,n4,n5,i0,i1,i2,i3,i4,i5,i6,i7,hxb21,hrc0_2,hrc0_7,hrc0_8,hrc0_9,hrc0_10,hrc0_14,hra0,hri0,exitRQ_ret,exitRQ_exit,Int.toNat_natCast,Nat.mul_one,hun,hun',hld21_9])
        refine (RCompactArrayLen_fn w21 hq21.1 hrok hG21.1 hgrb).mono ?_
        rintro _ w22 ⟨rfl,hq22,hu22⟩
        have hx1_22 := hu22.blk_some hx1_21 (by omega)
        have hV22 : Upd (fun b => b = R1 ∨ b = rb) w21 w22 := hu22.mono (fun _ h => .inr h)
        have hU22 : Upd (fun b => b = vb ∨ b = rb) w1 w22 := hU21.trans' hV22 fun i hi h => h.elim (fun h => by omega) .inr
        have hz22 := hV22.size
        have hG22 : Glo ev w22 := hG1.updS hU22 hgM1 hgM2
        obtain ⟨X22,hX22⟩ : ∃ X : Array Value,X = (A1 ++ (([strV (rdStr true s3).1,strV (rdStr true s4).1,.string ByteArray.empty,.string ByteArray.empty,.int .i64 (rdInt .i64 8 s5).1,.int .i64 (rdInt .i64 8 s6).1,.int .i64 (rdInt .i64 8 s7).1,strV (rdStr true s8).1,.slice ao20 no20 co20,.slice none 0 0,.map none] : List Value) ++ B1)).toArray := ⟨_,rfl⟩
        have hxb22 : blk w22 R1 = some (X22,209,(0,0)) := by rw [hX22];exact hx1_22
        have hXs22 : j1 * 11 + 11 ≤ X22.size := by rw [hX22];simp only [List.size_toArray,List.length_append,List.length_cons,List.length_nil,hA1];omega
        obtain ⟨s11,hs11⟩ : ∃ s,s = (rdALen true s10).2 := ⟨_,rfl⟩
        rw [← hs11] at hq22
        have hyr1 := rdALen_rng true s10
        generalize hy1 : (rdALen true s10).1 = y1 at *
        obtain ⟨N1,hN1⟩ : ∃ N,N = y1.toNat := ⟨_,rfl⟩
        have hlb1 : (rdMany (rd1 (rdP (d + 1) ver true) fX1_9.of fX1_9.sub false true) N1 s11).2 = none → FB := fun h => hbe0_9 (by rw [rdL_st (by decide) hhe0_9];exact rdL_bad (rdF_listbad rfl (by rw [hy1,← hN1,← hs11];exact h)))
        repeat ((first | refine W.seqR rfl ?_ | refine W.seq ?_ | refine W.regR rfl ?_ | refine W.block ?_ | refine W.skip ?_ | refine W.ret ?_ | refine W.exit ?_);try simp (maxSteps:=1000000)(disch:=(first|omega|(simp only [qI,qJ,qK]<;>omega)|exact qL _)) only [go_sem,↓reduceIte,n0,reduceCtorEq,n1,n2,n3,n4,n5,i0,i1,i2,i3,i4,i5,i6,i7,hxb22,hrc0_2,hrc0_7,hrc0_8,hrc0_9,hrc0_10,hrc0_14,hra0,hri0,exitRQ_ret,exitRQ_exit,Int.toNat_natCast,Nat.mul_one,hun,hun'])
        refine (ROk_fn w22 hq22.1).mono ?_
        rintro _ wz ⟨rfl,hez⟩
        rw [hez]
        clear hez wz
        by_cases hsn1 : s11 = none
        · have hso : s11.isSome = false := by rw [hsn1];rfl
          try simp (maxSteps:=1000000)(disch:=(first|omega|(simp only [qI,qJ,qK]<;>omega)|exact qL _)) only [go_sem,↓reduceIte,n0,reduceCtorEq,n1,n2,n3,n4,n5,i0,i1,i2,i3,i4,i5,i6,i7,hxb22,hrc0_2,hrc0_7,hrc0_8,hrc0_9,hrc0_10,hrc0_14,hra0,hri0,exitRQ_ret,exitRQ_exit,Int.toNat_natCast,Nat.mul_one,hun,hun',hso]
          repeat ((first | refine qA rfl ?_|refine qB ?_|refine qC rfl ?_|refine qD ?_|refine qE ?_|refine qF ?_|refine qG ?_|refine qH ?_);try simp (maxSteps:=1000000)(disch:=(first|omega|(simp only [qI,qJ,qK]<;>omega)|exact qL _)) only [go_sem,↓reduceIte,n0,reduceCtorEq,n1,n2,n3,n4,n5,i0,i1,i2,i3,i4,i5,i6,i7,hxb22,hrc0_2,hrc0_7,hrc0_8,hrc0_9,hrc0_10,hrc0_14,hra0,hri0,exitRQ_ret,exitRQ_exit,Int.toNat_natCast,Nat.mul_one,hun,hun',hso])
          refine (RComplete_fn w22 hq22.1 hG22.2).mono ?_
          rintro _ wz ⟨rfl,hez⟩
          rw [hez]
          try simp (maxSteps:=1000000)(disch:=(first|omega|(simp only [qI,qJ,qK]<;>omega)|exact qL _)) only [go_sem,↓reduceIte,n0,reduceCtorEq,n1,n2,n3,n4,n5,i0,i1,i2,i3,i4,i5,i6,i7,hxb22,hrc0_2,hrc0_7,hrc0_8,hrc0_9,hrc0_10,hrc0_14,hra0,hri0,exitRQ_ret,exitRQ_exit,Int.toNat_natCast,Nat.mul_one,hun,hun']
          repeat ((first | refine qA rfl ?_|refine qB ?_|refine qC rfl ?_|refine qD ?_|refine qE ?_|refine qF ?_|refine qG ?_|refine qH ?_);try simp (maxSteps:=1000000)(disch:=(first|omega|(simp only [qI,qJ,qK]<;>omega)|exact qL _)) only [go_sem,↓reduceIte,n0,reduceCtorEq,n1,n2,n3,n4,n5,i0,i1,i2,i3,i4,i5,i6,i7,hxb22,hrc0_2,hrc0_7,hrc0_8,hrc0_9,hrc0_10,hrc0_14,hra0,hri0,exitRQ_ret,exitRQ_exit,Int.toNat_natCast,Nat.mul_one,hun,hun'])
          rw [errV_none hsn1]
          exact ReadQ.bad (Eq.mp hFB (hlb1 (by rw [hsn1];exact rdMany_none rd1P_none _))) (hbase.trans' hU22 fun i hi h => h.elim id fun h => by omega)
        have hso1 : s11.isSome = true := isSome_some hsn1
        try simp (maxSteps:=1000000)(disch:=(first|omega|(simp only [qI,qJ,qK]<;>omega)|exact qL _)) only [go_sem,↓reduceIte,n0,reduceCtorEq,n1,n2,n3,n4,n5,i0,i1,i2,i3,i4,i5,i6,i7,hxb22,hrc0_2,hrc0_7,hrc0_8,hrc0_9,hrc0_10,hrc0_14,hra0,hri0,exitRQ_ret,exitRQ_exit,Int.toNat_natCast,Nat.mul_one,hun,hun',hso1]
        repeat ((first | refine W.seqR rfl ?_ | refine W.seq ?_ | refine W.regR rfl ?_ | refine W.block ?_ | refine W.skip ?_ | refine W.ret ?_ | refine W.exit ?_);try simp (maxSteps:=1000000)(disch:=(first|omega|(simp only [qI,qJ,qK]<;>omega)|exact qL _)) only [go_sem,↓reduceIte,n0,reduceCtorEq,n1,n2,n3,n4,n5,i0,i1,i2,i3,i4,i5,i6,i7,hxb22,hrc0_2,hrc0_7,hrc0_8,hrc0_9,hrc0_10,hrc0_14,hra0,hri0,exitRQ_ret,exitRQ_exit,Int.toNat_natCast,Nat.mul_one,hun,hun',hso1])
        refine W.condK ?_
        try simp (maxSteps:=1000000)(disch:=(first|omega|(simp only [qI,qJ,qK]<;>omega)|exact qL _)) only [go_sem,↓reduceIte,n0,reduceCtorEq,n1,n2,n3,n4,n5,i0,i1,i2,i3,i4,i5,i6,i7,hxb22,hrc0_2,hrc0_7,hrc0_8,hrc0_9,hrc0_10,hrc0_14,hra0,hri0,exitRQ_ret,exitRQ_exit,Int.toNat_natCast,Nat.mul_one,hun,hun',hso1]
        repeat ((first | refine W.seqR rfl ?_ | refine W.seq ?_ | refine W.regR rfl ?_ | refine W.block ?_ | refine W.skip ?_ | refine W.ret ?_ | refine W.exit ?_);try simp (maxSteps:=1000000)(disch:=(first|omega|(simp only [qI,qJ,qK]<;>omega)|exact qL _)) only [go_sem,↓reduceIte,n0,reduceCtorEq,n1,n2,n3,n4,n5,i0,i1,i2,i3,i4,i5,i6,i7,hxb22,hrc0_2,hrc0_7,hrc0_8,hrc0_9,hrc0_10,hrc0_14,hra0,hri0,exitRQ_ret,exitRQ_exit,Int.toNat_natCast,Nat.mul_one,hun,hun',hso1,slBase_00])
        refine W.normJ (RowQ [(2,.bool un),(7,.pointer (some ⟨rb,0,none⟩)),(8,.int .i16 ver),(9,.bool true),(10,.pointer (some ⟨vb,0,none⟩)),(14,.int .i32 y0),(13,.slice (some ⟨R1,0,none⟩) N0 q1),(15,.int .i32 j1),(17,.pointer (some ⟨R1,j1 * 11,none⟩)),(29,.int .i32 y1)] 28 (fun va w' => LstI RT (rd1 (rdP (d + 1) ver true) fX1_9.of fX1_9.sub false true) (Rep1 (RepS true (d + 1)) fX1_9.of fX1_9.sub) 3 291 [.string ByteArray.empty,.string ByteArray.empty,.map none] w22.heap.size N1 ok (fun b => (ok b ∨ w1.heap.size ≤ b) ∧ ¬ ownB va0 b) rb w22 s11 va 0 s11 [] [] w' ∧ (N1 = 0 → if nilS fX1_9 ver y1 = true then va = .slice none 0 0 else ∃ a,va = .slice (some a) 0 0))) ?_ ?_
        · by_cases hy0 : (0 : Int) < y1
          · have hyv : Value.int .i32 y1 = .int .i32 ((N1 : Nat) : Int) := by rw [show y1 = ((N1 : Nat) : Int) by omega]
            repeat ((first | refine qA rfl ?_|refine qB ?_|refine qC rfl ?_|refine qD ?_|refine qE ?_|refine qF ?_|refine qG ?_|refine qH ?_);try simp (maxSteps:=1000000)(disch:=(first|omega|(simp only [qI,qJ,qK]<;>omega)|exact qL _)) only [go_sem,↓reduceIte,n0,reduceCtorEq,n1,n2,n3,n4,n5,i0,i1,i2,i3,i4,i5,i6,i7,hxb22,hrc0_2,hrc0_7,hrc0_8,hrc0_9,hrc0_10,hrc0_14,hra0,hri0,exitRQ_ret,exitRQ_exit,Int.toNat_natCast,Nat.mul_one,hun,hun'])
            refine wp_appendZ (m := N1) utDescribeDelegationTokenResponse_207 utDescribeDelegationTokenResponse_21 inDescribeDelegationTokenResponse_291 (by decide) (by first | rfl | simp (maxSteps:=1000000)(disch:=(first|omega|(simp only [qI,qJ,qK]<;>omega)|exact qL _)) only [go_sem,↓reduceIte,n0,reduceCtorEq,n1,n2,n3,n4,n5,i0,i1,i2,i3,i4,i5,i6,i7,hrc0_2,hrc0_7,hrc0_8,hrc0_9,hrc0_10,hrc0_14,hra0,hri0]) (by first | exact hyv | (simp (maxSteps:=1000000)(disch:=(first|omega|(simp only [qI,qJ,qK]<;>omega)|exact qL _)) only [go_sem,↓reduceIte,n0,reduceCtorEq,n1,n2,n3,n4,n5,i0,i1,i2,i3,i4,i5,i6,i7,hrc0_2,hrc0_7,hrc0_8,hrc0_9,hrc0_10,hrc0_14,hra0,hri0];exact hyv)) (by omega) (by omega) (by decide) ?_
            intro q rest hq1
            have hEw : Ext w22 (w22.drew.alloc (.cells (zs [.string ByteArray.empty,.string ByteArray.empty,.map none] N1 ++ rest).toArray 291)) := (Upd.refl _ _).drew.alloc _
            try simp (maxSteps:=1000000)(disch:=(first|omega|(simp only [qI,qJ,qK]<;>omega)|exact qL _)) only [go_sem,↓reduceIte,n0,reduceCtorEq,n1,n2,n3,n4,n5,i0,i1,i2,i3,i4,i5,i6,i7,hxb22,hrc0_2,hrc0_7,hrc0_8,hrc0_9,hrc0_10,hrc0_14,hra0,hri0,exitRQ_ret,exitRQ_exit,Int.toNat_natCast,Nat.mul_one,hun,hun']
            repeat ((first | refine qA rfl ?_|refine qB ?_|refine qC rfl ?_|refine qD ?_|refine qE ?_|refine qF ?_|refine qG ?_|refine qH ?_);try simp (maxSteps:=1000000)(disch:=(first|omega|(simp only [qI,qJ,qK]<;>omega)|exact qL _)) only [go_sem,↓reduceIte,n0,reduceCtorEq,n1,n2,n3,n4,n5,i0,i1,i2,i3,i4,i5,i6,i7,hxb22,hrc0_2,hrc0_7,hrc0_8,hrc0_9,hrc0_10,hrc0_14,hra0,hri0,exitRQ_ret,exitRQ_exit,Int.toNat_natCast,Nat.mul_one,hun,hun'])
            exact ⟨(by simp (maxSteps:=1000000)(disch:=(first|omega|(simp only [qI,qJ,qK]<;>omega)|exact qL _)) only [go_sem,↓reduceIte,n0,reduceCtorEq,n1,n2,n3,n4,n5,i0,i1,i2,i3,i4,i5,i6,i7,Holds_nil,Holds_cons,hrc0_2,hrc0_7,hrc0_8,hrc0_9,hrc0_10,hrc0_14,hra0,hri0]),.slice (some ⟨w22.heap.size,0,none⟩) N1 q,(by simp (maxSteps:=1000000)(disch:=(first|omega|(simp only [qI,qJ,qK]<;>omega)|exact qL _)) only [go_sem,↓reduceIte,n0,reduceCtorEq,n1,n2,n3,n4,n5,i0,i1,i2,i3,i4,i5,i6,i7,hrc0_2,hrc0_7,hrc0_8,hrc0_9,hrc0_10,hrc0_14,hra0,hri0]),LstI.start (RowJ.start (by omega) hq1 (by show w22.heap.size ≤ w22.drew.heap.size;rw [size_drew];omega) (blk_alloc_new rfl)) ⟨hq22.1.upd hEw (fun h => h) (fun _ _ _ h => h),hq22.2.upd hEw fun h => h⟩ (hEw.mono fun _ h => h.elim),fun h0 => by omega⟩
          · repeat ((first | refine qA rfl ?_|refine qB ?_|refine qC rfl ?_|refine qD ?_|refine qE ?_|refine qF ?_|refine qG ?_|refine qH ?_);try simp (maxSteps:=1000000)(disch:=(first|omega|(simp only [qI,qJ,qK]<;>omega)|exact qL _)) only [go_sem,↓reduceIte,n0,reduceCtorEq,n1,n2,n3,n4,n5,i0,i1,i2,i3,i4,i5,i6,i7,hxb22,hrc0_2,hrc0_7,hrc0_8,hrc0_9,hrc0_10,hrc0_14,hra0,hri0,exitRQ_ret,exitRQ_exit,Int.toNat_natCast,Nat.mul_one,hun,hun'])
            exact ⟨(by simp (maxSteps:=1000000)(disch:=(first|omega|(simp only [qI,qJ,qK]<;>omega)|exact qL _)) only [go_sem,↓reduceIte,n0,reduceCtorEq,n1,n2,n3,n4,n5,i0,i1,i2,i3,i4,i5,i6,i7,Holds_nil,Holds_cons,hrc0_2,hrc0_7,hrc0_8,hrc0_9,hrc0_10,hrc0_14,hra0,hri0]),.slice none 0 0,(by simp (maxSteps:=1000000)(disch:=(first|omega|(simp only [qI,qJ,qK]<;>omega)|exact qL _)) only [go_sem,↓reduceIte,n0,reduceCtorEq,n1,n2,n3,n4,n5,i0,i1,i2,i3,i4,i5,i6,i7,hrc0_2,hrc0_7,hrc0_8,hrc0_9,hrc0_10,hrc0_14,hra0,hri0,slBase_00]),LstI.start (RowJ.zero (by omega) (fun _ h => by cases h)) hq22 (Upd.refl _ _),fun _ => by rw [nilS_plain (by decide) (by omega)];exact rfl⟩
        rintro ρ w23 ⟨⟨hrb1_2,hrb1_7,hrb1_8,hrb1_9,hrb1_10,hrb1_14,hrb1_13,hrb1_15,hrb1_17,hrb1_29,-⟩,va1,hra1,hL1,hnc1⟩
        repeat ((first | refine qA rfl ?_|refine qB ?_|refine qC rfl ?_|refine qD ?_|refine qE ?_|refine qF ?_|refine qG ?_|refine qH ?_);try simp (maxSteps:=1000000)(disch:=(first|omega|(simp only [qI,qJ,qK]<;>omega)|exact qL _)) only [go_sem,↓reduceIte,n0,reduceCtorEq,n1,n2,n3,n4,n5,i0,i1,i2,i3,i4,i5,i6,i7,hxb22,hrb1_2,hrb1_7,hrb1_8,hrb1_9,hrb1_10,hrb1_14,hrb1_13,hrb1_15,hrb1_17,hrb1_29,hra1,exitRQ_ret,exitRQ_exit,Int.toNat_natCast,Nat.mul_one,hun,hun'])
        refine W.exitRJ 2 (EndQ [(2,.bool un),(7,.pointer (some ⟨rb,0,none⟩)),(8,.int .i16 ver),(9,.bool true),(10,.pointer (some ⟨vb,0,none⟩)),(14,.int .i32 y0),(13,.slice (some ⟨R1,0,none⟩) N0 q1),(15,.int .i32 j1),(17,.pointer (some ⟨R1,j1 * 11,none⟩)),(29,.int .i32 y1),(28,va1)] (fun w' => ∃ s xs css,LstI RT (rd1 (rdP (d + 1) ver true) fX1_9.of fX1_9.sub false true) (Rep1 (RepS true (d + 1)) fX1_9.of fX1_9.sub) 3 291 [.string ByteArray.empty,.string ByteArray.empty,.map none] w22.heap.size N1 ok (fun b => (ok b ∨ w1.heap.size ≤ b) ∧ ¬ ownB va0 b) rb w22 s11 va1 N1 s xs css w')) (W.loop (LoopQ [(2,.bool un),(7,.pointer (some ⟨rb,0,none⟩)),(8,.int .i16 ver),(9,.bool true),(10,.pointer (some ⟨vb,0,none⟩)),(14,.int .i32 y0),(13,.slice (some ⟨R1,0,none⟩) N0 q1),(15,.int .i32 j1),(17,.pointer (some ⟨R1,j1 * 11,none⟩)),(29,.int .i32 y1),(28,va1)] 30 (fun j w' => ∃ s xs css,LstI RT (rd1 (rdP (d + 1) ver true) fX1_9.of fX1_9.sub false true) (Rep1 (RepS true (d + 1)) fX1_9.of fX1_9.sub) 3 291 [.string ByteArray.empty,.string ByteArray.empty,.map none] w22.heap.size N1 ok (fun b => (ok b ∨ w1.heap.size ≤ b) ∧ ¬ ownB va0 b) rb w22 s11 va1 j s xs css w')) (fun ρ _ => N1 - (RowKit.intOf (ρ 30)).toNat) ?_ ?_) ?_
        · exact ⟨(by simp (maxSteps:=1000000)(disch:=(first|omega|(simp only [qI,qJ,qK]<;>omega)|exact qL _)) only [go_sem,↓reduceIte,n0,reduceCtorEq,n1,n2,n3,n4,n5,i0,i1,i2,i3,i4,i5,i6,i7,Holds_nil,Holds_cons,hrb1_2,hrb1_7,hrb1_8,hrb1_9,hrb1_10,hrb1_14,hrb1_13,hrb1_15,hrb1_17,hrb1_29,hra1]),0,(by simp (maxSteps:=1000000)(disch:=(first|omega|(simp only [qI,qJ,qK]<;>omega)|exact qL _)) only [go_sem,↓reduceIte,n0,reduceCtorEq,n1,n2,n3,n4,n5,i0,i1,i2,i3,i4,i5,i6,i7,hrb1_2,hrb1_7,hrb1_8,hrb1_9,hrb1_10,hrb1_14,hrb1_13,hrb1_15,hrb1_17,hrb1_29,hra1];all_goals rfl),s11,[],[],hL1⟩
        · rintro ρ w24 ⟨⟨hrc1_2,hrc1_7,hrc1_8,hrc1_9,hrc1_10,hrc1_14,hrc1_13,hrc1_15,hrc1_17,hrc1_29,hrc1_28,-⟩,j2,hri1,s12,xs1,css1,hL1⟩
          have hj1 := hL1.le
          have hq24 := hL1.rd
          have hU24 : Upd (fun b => b = vb ∨ b = rb) w1 w24 := hU22.trans' hL1.upd fun i _ h => .inr h
          have hz24 := hL1.upd.size
          have hG24 : Glo ev w24 := hG1.updS hU24 hgM1 hgM2
          by_cases hlt1 : j2 < N1
          · obtain ⟨R2,q2,B2,hva2,hNq2,hLR2,hA2,hx2_24,hnext2⟩ := hL1.row.next hlt1
            have hRl2 := blk_lt hx2_24
            generalize css1.flatten = A2 at hA2 hx2_24 hnext2
            replace hra1 : ρ 28 = .slice (some ⟨R2,0,none⟩) N1 q2 := hrc1_28.trans hva2
            have hown2 : ∀ b,ownB va1 b → w22.heap.size ≤ b ∧ b < w24.heap.size := fun b h => hL1.row.own h
            have hoM2 : ∀ b,(fun b => (fun b => (ok b ∨ w1.heap.size ≤ b) ∧ ¬ ownB va0 b) b ∧ ¬ ownB va1 b) b → ¬ (b = R2 ∨ b = rb) := fun b hk h => h.elim (fun e => hk.2 ⟨_,_,_,hva2,e⟩) (fun e => hoM1 b hk.1 (.inr e))
            obtain ⟨X24,hX24⟩ : ∃ X : Array Value,X = (A2 ++ (([.string ByteArray.empty,.string ByteArray.empty,.map none] : List Value) ++ B2)).toArray := ⟨_,rfl⟩
            have hxb24 : blk w24 R2 = some (X24,291,(0,0)) := by rw [hX24];exact hx2_24
            have hXs24 : j2 * 3 + 3 ≤ X24.size := by rw [hX24];simp only [List.size_toArray,List.length_append,List.length_cons,List.length_nil,hA2];omega
            repeat ((first | refine qA rfl ?_|refine qB ?_|refine qC rfl ?_|refine qD ?_|refine qE ?_|refine qF ?_|refine qG ?_|refine qH ?_);try simp (maxSteps:=1000000)(disch:=(first|omega|(simp only [qI,qJ,qK]<;>omega)|exact qL _)) only [go_sem,↓reduceIte,n0,reduceCtorEq,n1,n2,n3,n4,n5,i0,i1,i2,i3,i4,i5,i6,i7,hxb24,hrc1_2,hrc1_7,hrc1_8,hrc1_9,hrc1_10,hrc1_14,hrc1_13,hrc1_15,hrc1_17,hrc1_29,hra1,hri1,exitRQ_ret,exitRQ_exit,Int.toNat_natCast,Nat.mul_one,hun,hun'])
            refine (DefaultEX0_fn w24 hx2_24 hA2).mono ?_
            rintro _ w25 ⟨hx2_25,hu25⟩
            have hq25 := And.intro (hq24.1.upd hu25 (by omega) (fun b _ hk e => by have := (hok b hk).1;omega)) (hq24.2.upd hu25 (by omega))
            have hV25 : Upd (fun b => b = R2 ∨ b = rb) w24 w25 := hu25.mono (fun _ h => .inl h)
            have hU25 : Upd (fun b => b = vb ∨ b = rb) w1 w25 := hU24.trans' hV25 fun i hi h => h.elim (fun h => by omega) .inr
            have hz25 := hV25.size
            have hG25 : Glo ev w25 := hG1.updS hU25 hgM1 hgM2
            obtain ⟨X25,hX25⟩ : ∃ X : Array Value,X = (A2 ++ (([.string ByteArray.empty,.string ByteArray.empty,.map none] : List Value) ++ B2)).toArray := ⟨_,rfl⟩
            have hxb25 : blk w25 R2 = some (X25,291,(0,0)) := by rw [hX25];exact hx2_25
            have hXs25 : j2 * 3 + 3 ≤ X25.size := by rw [hX25];simp only [List.size_toArray,List.length_append,List.length_cons,List.length_nil,hA2];omega
            have hbe0e1_0 : (rdL (rdP d ver true) (dfP d) ver true [fX0_0,fX0_1] s12).2 = none → FB := fun h => hlb1 (hL1.bad hlt1 rd1P_none (by show (rd1 (rdP (d + 1) ver true) 10 fs_X0 false true s12).2 = none;rw [rd1_part];exact rdP_bad h))
            have hhe0e1_0 : hasS fX0_0 ver = true := hasS_t (by show (0 : Int) ≤ ver;omega) (by show (-1 : Int) < 0 ∨ ver ≤ (-1 : Int);omega)
            obtain ⟨xe0e1_0,hxe0e1_0⟩ : ∃ x,x = (rdF (rdP d ver true) ver true fX0_0 s12).1 := ⟨_,rfl⟩
            repeat ((first | refine qA rfl ?_|refine qB ?_|refine qC rfl ?_|refine qD ?_|refine qE ?_|refine qF ?_|refine qG ?_|refine qH ?_);try simp (maxSteps:=1000000)(disch:=(first|omega|(simp only [qI,qJ,qK]<;>omega)|exact qL _)) only [go_sem,↓reduceIte,n0,reduceCtorEq,n1,n2,n3,n4,n5,i0,i1,i2,i3,i4,i5,i6,i7,hxb25,hrc1_2,hrc1_7,hrc1_8,hrc1_9,hrc1_10,hrc1_14,hrc1_13,hrc1_15,hrc1_17,hrc1_29,hra1,hri1,exitRQ_ret,exitRQ_exit,Int.toNat_natCast,Nat.mul_one,hun,hun'])
            have hmay : mayS fX0_0 ver = false := mayS_no (by show (-1 : Int) < 0 ∨ ver < (-1 : Int);omega)
            have hrd : rdF (rdP d ver true) ver true fX0_0 s12 = _ := rdF_text rfl hmay
            first | refine (RUnsafeCompactString_fn w25 hq25.1 hrok hG25.1 hgrb).mono ?_ | refine (RCompactString_fn w25 hq25.1 hrok hG25.1 hgrb).mono ?_
            rintro _ w26 ⟨rfl,hq26,hu26⟩
            have hx2_26 := hu26.blk_some hx2_25 (by omega)
            have hV26 : Upd (fun b => b = R2 ∨ b = rb) w25 w26 := hu26.mono (fun _ h => .inr h)
            have hU26 : Upd (fun b => b = vb ∨ b = rb) w1 w26 := hU25.trans' hV26 fun i hi h => h.elim (fun h => by omega) .inr
            have hz26 := hV26.size
            have hG26 : Glo ev w26 := hG1.updS hU26 hgM1 hgM2
            obtain ⟨X26,hX26⟩ : ∃ X : Array Value,X = (A2 ++ (([.string ByteArray.empty,.string ByteArray.empty,.map none] : List Value) ++ B2)).toArray := ⟨_,rfl⟩
            have hxb26 : blk w26 R2 = some (X26,291,(0,0)) := by rw [hX26];exact hx2_26
            have hXs26 : j2 * 3 + 3 ≤ X26.size := by rw [hX26];simp only [List.size_toArray,List.length_append,List.length_cons,List.length_nil,hA2];omega
            have hst : (rdF (rdP d ver true) ver true fX0_0 s12).2 = (rdStr true s12).2 := by first | (rw [hrd];rfl) | rw [hrd]
            obtain ⟨s13,hs13⟩ : ∃ s,s = (rdF (rdP d ver true) ver true fX0_0 s12).2 := ⟨_,rfl⟩
            rw [← hst,← hs13] at hq26
            clear hst
            have hst26_0 : j2 * 3 + 1 ≤ X26.size := by omega
            repeat ((first | refine qA rfl ?_|refine qB ?_|refine qC rfl ?_|refine qD ?_|refine qE ?_|refine qF ?_|refine qG ?_|refine qH ?_);try simp (maxSteps:=1000000)(disch:=(first|omega|(simp only [qI,qJ,qK]<;>omega)|exact qL _)) only [go_sem,↓reduceIte,n0,reduceCtorEq,n1,n2,n3,n4,n5,i0,i1,i2,i3,i4,i5,i6,i7,hxb26,hrc1_2,hrc1_7,hrc1_8,hrc1_9,hrc1_10,hrc1_14,hrc1_13,hrc1_15,hrc1_17,hrc1_29,hra1,hri1,exitRQ_ret,exitRQ_exit,Int.toNat_natCast,Nat.mul_one,hun,hun',hst26_0])
            generalize hw27 : wr w26 R2 (j2 * 3) [strV (rdStr true s12).1] = w27
            have hS27 : Upd (fun b => b = R2 ∨ b = rb) w26 w27 := by rw [← hw27];exact (Upd.refl _ _).wr _ _ (.inr (.inl rfl))
            have hx2_27 : blk w27 R2 = some ((A2 ++ (([strV (rdStr true s12).1,.string ByteArray.empty,.map none] : List Value) ++ B2)).toArray,291,(0,0)) := by rw [← hw27];exact el_blk0 hx2_26 hA2 (Nat.le_of_ble_eq_true rfl)
            have hV27 := hS27
            have hU27 : Upd (fun b => b = vb ∨ b = rb) w1 w27 := hU26.trans' hV27 fun i hi h => h.elim (fun h => by omega) .inr
            have hz27 := hV27.size
            have hG27 : Glo ev w27 := hG1.updS hU27 hgM1 hgM2
            have hq27 : Rdr RT ok w27 rb s13 ∧ NN w27 rb s13 := by
              have hn : ∀ x,x = w27 → (Rdr RT ok x rb s13 ∧ NN x rb s13) := fun x hx => by
                rw [hx,← hw27]
                exact Rdr.store hq26 (by omega) (fun h => by have := (hok _ h).1;first | omega | exact (hok _ h).2 rfl)
              exact hn _ rfl
            obtain ⟨X27,hX27⟩ : ∃ X : Array Value,X = (A2 ++ (([strV (rdStr true s12).1,.string ByteArray.empty,.map none] : List Value) ++ B2)).toArray := ⟨_,rfl⟩
            have hxb27 : blk w27 R2 = some (X27,291,(0,0)) := by rw [hX27];exact hx2_27
            have hXs27 : j2 * 3 + 3 ≤ X27.size := by rw [hX27];simp only [List.size_toArray,List.length_append,List.length_cons,List.length_nil,hA2];omega
            clear hw27
            have hfe0e1_0 : RepF (RepS true d) (szS true d) fX0_0 (fun b => (fun b => (ok b ∨ w1.heap.size ≤ b) ∧ ¬ ownB va0 b) b ∧ ¬ ownB va1 b) w27 (xe0e1_0) [strV (rdStr true s12).1] := (RepF_text rfl (by decide)).2 (by rw [hxe0e1_0,hrd];rfl)
            clear hrd
            have hbe0e1_1 : (rdL (rdP d ver true) (dfP d) ver true [fX0_1] s13).2 = none → FB := fun h => hbe0e1_0 (by rw [rdL_st (by decide) hhe0e1_0,← hs13];exact h)
            have hhe0e1_1 : hasS fX0_1 ver = true := hasS_t (by show (0 : Int) ≤ ver;omega) (by show (-1 : Int) < 0 ∨ ver ≤ (-1 : Int);omega)
            obtain ⟨xe0e1_1,hxe0e1_1⟩ : ∃ x,x = (rdF (rdP d ver true) ver true fX0_1 s13).1 := ⟨_,rfl⟩
            repeat ((first | refine qA rfl ?_|refine qB ?_|refine qC rfl ?_|refine qD ?_|refine qE ?_|refine qF ?_|refine qG ?_|refine qH ?_);try simp (maxSteps:=1000000)(disch:=(first|omega|(simp only [qI,qJ,qK]<;>omega)|exact qL _)) only [go_sem,↓reduceIte,n0,reduceCtorEq,n1,n2,n3,n4,n5,i0,i1,i2,i3,i4,i5,i6,i7,hxb27,hrc1_2,hrc1_7,hrc1_8,hrc1_9,hrc1_10,hrc1_14,hrc1_13,hrc1_15,hrc1_17,hrc1_29,hra1,hri1,exitRQ_ret,exitRQ_exit,Int.toNat_natCast,Nat.mul_one,hun,hun'])
            have hmay : mayS fX0_1 ver = false := mayS_no (by show (-1 : Int) < 0 ∨ ver < (-1 : Int);omega)
            have hrd : rdF (rdP d ver true) ver true fX0_1 s13 = _ := rdF_text rfl hmay
            first | refine (RUnsafeCompactString_fn w27 hq27.1 hrok hG27.1 hgrb).mono ?_ | refine (RCompactString_fn w27 hq27.1 hrok hG27.1 hgrb).mono ?_
            rintro _ w28 ⟨rfl,hq28,hu28⟩
            have hx2_28 := hu28.blk_some hx2_27 (by omega)
            have hV28 : Upd (fun b => b = R2 ∨ b = rb) w27 w28 := hu28.mono (fun _ h => .inr h)
            have hU28 : Upd (fun b => b = vb ∨ b = rb) w1 w28 := hU27.trans' hV28 fun i hi h => h.elim (fun h => by omega) .inr
            have hz28 := hV28.size
            have hG28 : Glo ev w28 := hG1.updS hU28 hgM1 hgM2
            obtain ⟨X28,hX28⟩ : ∃ X : Array Value,X = (A2 ++ (([strV (rdStr true s12).1,.string ByteArray.empty,.map none] : List Value) ++ B2)).toArray := ⟨_,rfl⟩
            have hxb28 : blk w28 R2 = some (X28,291,(0,0)) := by rw [hX28];exact hx2_28
            have hXs28 : j2 * 3 + 3 ≤ X28.size := by rw [hX28];simp only [List.size_toArray,List.length_append,List.length_cons,List.length_nil,hA2];omega
            have hst : (rdF (rdP d ver true) ver true fX0_1 s13).2 = (rdStr true s13).2 := by first | (rw [hrd];rfl) | rw [hrd]
            obtain ⟨s14,hs14⟩ : ∃ s,s = (rdF (rdP d ver true) ver true fX0_1 s13).2 := ⟨_,rfl⟩
            rw [← hst,← hs14] at hq28
            clear hst
            have hst28_1 : j2 * 3 + 2 ≤ X28.size := by omega
            repeat ((first | refine qA rfl ?_|refine qB ?_|refine qC rfl ?_|refine qD ?_|refine qE ?_|refine qF ?_|refine qG ?_|refine qH ?_);try simp (maxSteps:=1000000)(disch:=(first|omega|(simp only [qI,qJ,qK]<;>omega)|exact qL _)) only [go_sem,↓reduceIte,n0,reduceCtorEq,n1,n2,n3,n4,n5,i0,i1,i2,i3,i4,i5,i6,i7,hxb28,hrc1_2,hrc1_7,hrc1_8,hrc1_9,hrc1_10,hrc1_14,hrc1_13,hrc1_15,hrc1_17,hrc1_29,hra1,hri1,exitRQ_ret,exitRQ_exit,Int.toNat_natCast,Nat.mul_one,hun,hun',hst28_1])
            generalize hw29 : wr w28 R2 (j2 * 3 + 1) [strV (rdStr true s13).1] = w29
            have hS29 : Upd (fun b => b = R2 ∨ b = rb) w28 w29 := by rw [← hw29];exact (Upd.refl _ _).wr _ _ (.inr (.inl rfl))
            have hx2_29 : blk w29 R2 = some ((A2 ++ (([strV (rdStr true s12).1,strV (rdStr true s13).1,.map none] : List Value) ++ B2)).toArray,291,(0,0)) := by rw [← hw29];exact el_blk (o := 1) hx2_28 hA2 (Nat.le_of_ble_eq_true rfl)
            have hV29 := hS29
            have hU29 : Upd (fun b => b = vb ∨ b = rb) w1 w29 := hU28.trans' hV29 fun i hi h => h.elim (fun h => by omega) .inr
            have hz29 := hV29.size
            have hG29 : Glo ev w29 := hG1.updS hU29 hgM1 hgM2
            have hq29 : Rdr RT ok w29 rb s14 ∧ NN w29 rb s14 := by
              have hn : ∀ x,x = w29 → (Rdr RT ok x rb s14 ∧ NN x rb s14) := fun x hx => by
                rw [hx,← hw29]
                exact Rdr.store hq28 (by omega) (fun h => by have := (hok _ h).1;first | omega | exact (hok _ h).2 rfl)
              exact hn _ rfl
            obtain ⟨X29,hX29⟩ : ∃ X : Array Value,X = (A2 ++ (([strV (rdStr true s12).1,strV (rdStr true s13).1,.map none] : List Value) ++ B2)).toArray := ⟨_,rfl⟩
            have hxb29 : blk w29 R2 = some (X29,291,(0,0)) := by rw [hX29];exact hx2_29
            have hXs29 : j2 * 3 + 3 ≤ X29.size := by rw [hX29];simp only [List.size_toArray,List.length_append,List.length_cons,List.length_nil,hA2];omega
            clear hw29
            have hfe0e1_1 : RepF (RepS true d) (szS true d) fX0_1 (fun b => (fun b => (ok b ∨ w1.heap.size ≤ b) ∧ ¬ ownB va0 b) b ∧ ¬ ownB va1 b) w29 (xe0e1_1) [strV (rdStr true s13).1] := (RepF_text rfl (by decide)).2 (by rw [hxe0e1_1,hrd];rfl)
            clear hrd
            have hle0e1_2 : rdL (rdP d ver true) (dfP d) ver true [] s14 = ([],s14) := rfl
            have hle0e1_1 : rdL (rdP d ver true) (dfP d) ver true [fX0_1] s13 = ([xe0e1_1],s14) := by rw [rdL_st (by decide) hhe0e1_1,← hxe0e1_1,← hs14,hle0e1_2]
            have hle0e1_0 : rdL (rdP d ver true) (dfP d) ver true [fX0_0,fX0_1] s12 = ([xe0e1_0,xe0e1_1],s14) := by rw [rdL_st (by decide) hhe0e1_0,← hxe0e1_0,← hs13,hle0e1_1]
            have hfine0e1 : rdP (d + 1) ver true fs_X0 s12 = (.mk 0 [] false [xe0e1_0,xe0e1_1] (rdTags s14).1,(rdTags s14).2) := rdP_t hle0e1_0
            repeat ((first | refine qA rfl ?_|refine qB ?_|refine qC rfl ?_|refine qD ?_|refine qE ?_|refine qF ?_|refine qG ?_|refine qH ?_);try simp (maxSteps:=1000000)(disch:=(first|omega|(simp only [qI,qJ,qK]<;>omega)|exact qL _)) only [go_sem,↓reduceIte,n0,reduceCtorEq,n1,n2,n3,n4,n5,i0,i1,i2,i3,i4,i5,i6,i7,hxb29,hrc1_2,hrc1_7,hrc1_8,hrc1_9,hrc1_10,hrc1_14,hrc1_13,hrc1_15,hrc1_17,hrc1_29,hra1,hri1,exitRQ_ret,exitRQ_exit,Int.toNat_natCast,Nat.mul_one,hun,hun'])
            refine (ReadTags_fn w29 hq29.1 hrok).mono ?_
            rintro _ w30 ⟨qme0e1,rfl,hT30,hTn,hq30,hu30⟩
            have hx2_30 := hu30.blk_some hx2_29 (by omega)
            have hV30 : Upd (fun b => b = R2 ∨ b = rb) w29 w30 := hu30.mono (fun _ h => .inr h)
            have hU30 : Upd (fun b => b = vb ∨ b = rb) w1 w30 := hU29.trans' hV30 fun i hi h => h.elim (fun h => by omega) .inr
            have hz30 := hV30.size
            have hG30 : Glo ev w30 := hG1.updS hU30 hgM1 hgM2
            obtain ⟨X30,hX30⟩ : ∃ X : Array Value,X = (A2 ++ (([strV (rdStr true s12).1,strV (rdStr true s13).1,.map none] : List Value) ++ B2)).toArray := ⟨_,rfl⟩
            have hxb30 : blk w30 R2 = some (X30,291,(0,0)) := by rw [hX30];exact hx2_30
            have hXs30 : j2 * 3 + 3 ≤ X30.size := by rw [hX30];simp only [List.size_toArray,List.length_append,List.length_cons,List.length_nil,hA2];omega
            obtain ⟨s15,hs15⟩ : ∃ s,s = (rdTags s14).2 := ⟨_,rfl⟩
            rw [← hs15] at hq30 hfine0e1
            have hst30_2 : j2 * 3 + 3 ≤ X30.size := by omega
            try simp (maxSteps:=1000000)(disch:=(first|omega|(simp only [qI,qJ,qK]<;>omega)|exact qL _)) only [go_sem,↓reduceIte,n0,reduceCtorEq,n1,n2,n3,n4,n5,i0,i1,i2,i3,i4,i5,i6,i7,hxb30,hrc1_2,hrc1_7,hrc1_8,hrc1_9,hrc1_10,hrc1_14,hrc1_13,hrc1_15,hrc1_17,hrc1_29,hra1,hri1,exitRQ_ret,exitRQ_exit,Int.toNat_natCast,Nat.mul_one,hun,hun',hst30_2]
            repeat ((first | refine qA rfl ?_|refine qB ?_|refine qC rfl ?_|refine qD ?_|refine qE ?_|refine qF ?_|refine qG ?_|refine qH ?_);try simp (maxSteps:=1000000)(disch:=(first|omega|(simp only [qI,qJ,qK]<;>omega)|exact qL _)) only [go_sem,↓reduceIte,n0,reduceCtorEq,n1,n2,n3,n4,n5,i0,i1,i2,i3,i4,i5,i6,i7,hxb30,hrc1_2,hrc1_7,hrc1_8,hrc1_9,hrc1_10,hrc1_14,hrc1_13,hrc1_15,hrc1_17,hrc1_29,hra1,hri1,exitRQ_ret,exitRQ_exit,Int.toNat_natCast,Nat.mul_one,hun,hun',hst30_2])
            generalize hw31 : wr w30 R2 (j2 * 3 + 2) [.map qme0e1] = w31
            have hS31 : Upd (fun b => b = R2 ∨ b = rb) w30 w31 := by rw [← hw31];exact (Upd.refl _ _).wr _ _ (.inr (.inl rfl))
            have hx2_31 : blk w31 R2 = some ((A2 ++ (([strV (rdStr true s12).1,strV (rdStr true s13).1,.map qme0e1] : List Value) ++ B2)).toArray,291,(0,0)) := by rw [← hw31];exact el_blk (o := 2) hx2_30 hA2 (Nat.le_of_ble_eq_true rfl)
            have hV31 := hS31
            have hU31 : Upd (fun b => b = vb ∨ b = rb) w1 w31 := hU30.trans' hV31 fun i hi h => h.elim (fun h => by omega) .inr
            have hz31 := hV31.size
            have hG31 : Glo ev w31 := hG1.updS hU31 hgM1 hgM2
            have hq31 : Rdr RT ok w31 rb s15 ∧ NN w31 rb s15 := by
              have hn : ∀ x,x = w31 → (Rdr RT ok x rb s15 ∧ NN x rb s15) := fun x hx => by
                rw [hx,← hw31]
                exact Rdr.store hq30 (by omega) (fun h => by have := (hok _ h).1;first | omega | exact (hok _ h).2 rfl)
              exact hn _ rfl
            obtain ⟨X31,hX31⟩ : ∃ X : Array Value,X = (A2 ++ (([strV (rdStr true s12).1,strV (rdStr true s13).1,.map qme0e1] : List Value) ++ B2)).toArray := ⟨_,rfl⟩
            have hxb31 : blk w31 R2 = some (X31,291,(0,0)) := by rw [hX31];exact hx2_31
            have hXs31 : j2 * 3 + 3 ≤ X31.size := by rw [hX31];simp only [List.size_toArray,List.length_append,List.length_cons,List.length_nil,hA2];omega
            clear hw31
            have hTge0e1 : TagsM (fun b => (fun b => (ok b ∨ w1.heap.size ≤ b) ∧ ¬ ownB va0 b) b ∧ ¬ ownB va1 b) w31 (.map qme0e1) (rdTags s14).1 := (hT30.weaken fun b _ hk => hk.elim (fun hk => ⟨⟨.inl hk,fun ho => by have := (hown1 b ho).1;have := (hok b hk).1;omega⟩,fun ho => by have := (hown2 b ho).1;have := (hok b hk).1;omega⟩) (fun h => by have h' : w29.heap.size ≤ b := h;exact ⟨⟨.inr (by omega),fun ho => by have := (hown1 _ ho).2;omega⟩,fun ho => by have := (hown2 _ ho).2;omega⟩)).keep (hV31.keeps fun b _ hk e => hoM2 b hk e)
            have hCe0e1_31 : Upd (fun b => b = R2 ∨ b = rb) w31 w31 := Upd.refl _ _
            have hCe0e1_30 : Upd (fun b => b = R2 ∨ b = rb) w30 w31 := hV31.trans hCe0e1_31
            have hCe0e1_29 : Upd (fun b => b = R2 ∨ b = rb) w29 w31 := hV30.trans hCe0e1_30
            have hCe0e1_28 : Upd (fun b => b = R2 ∨ b = rb) w28 w31 := hV29.trans hCe0e1_29
            have hCe0e1_27 : Upd (fun b => b = R2 ∨ b = rb) w27 w31 := hV28.trans hCe0e1_28
            have hCe0e1_26 : Upd (fun b => b = R2 ∨ b = rb) w26 w31 := hV27.trans hCe0e1_27
            have hCe0e1_25 : Upd (fun b => b = R2 ∨ b = rb) w25 w31 := hV26.trans hCe0e1_26
            have hCe0e1_24 : Upd (fun b => b = R2 ∨ b = rb) w24 w31 := hV25.trans hCe0e1_25
            have hRe0e1 : RepS true (d + 1) fs_X0 (fun b => (fun b => (ok b ∨ w1.heap.size ≤ b) ∧ ¬ ownB va0 b) b ∧ ¬ ownB va1 b) w31 (.mk 0 [] false [xe0e1_0,xe0e1_1] (rdTags s14).1) [strV (rdStr true s12).1,strV (rdStr true s13).1,.map qme0e1] := RepS.introT (c := [strV (rdStr true s12).1,strV (rdStr true s13).1]) (RepL.cons1 (hfe0e1_0.keepS (hCe0e1_27.keeps fun b _ hk e => hoM2 b hk e)) (RepL.cons1 (hfe0e1_1.keepS (hCe0e1_29.keeps fun b _ hk e => hoM2 b hk e)) RepL.nil)) hTge0e1
            have hrE : (rd1 (rdP (d + 1) ver true) fX1_9.of fX1_9.sub false true) s12 = ((.mk 0 [] false [xe0e1_0,xe0e1_1] (rdTags s14).1),s15) := by rw [show (rd1 (rdP (d + 1) ver true) fX1_9.of fX1_9.sub false true) s12 = _ from rd1_part];exact hfine0e1
            have hxE : (Rep1 (RepS true (d + 1)) fX1_9.of fX1_9.sub) (fun b => (fun b => (ok b ∨ w1.heap.size ≤ b) ∧ ¬ ownB va0 b) b ∧ ¬ ownB va1 b) w31 (.mk 0 [] false [xe0e1_0,xe0e1_1] (rdTags s14).1) [strV (rdStr true s12).1,strV (rdStr true s13).1,.map qme0e1] := Rep1_part.2 hRe0e1
            repeat ((first | refine qA rfl ?_|refine qB ?_|refine qC rfl ?_|refine qD ?_|refine qE ?_|refine qF ?_|refine qG ?_|refine qH ?_);try simp (maxSteps:=1000000)(disch:=(first|omega|(simp only [qI,qJ,qK]<;>omega)|exact qL _)) only [go_sem,↓reduceIte,n0,reduceCtorEq,n1,n2,n3,n4,n5,i0,i1,i2,i3,i4,i5,i6,i7,hxb31,hrc1_2,hrc1_7,hrc1_8,hrc1_9,hrc1_10,hrc1_14,hrc1_13,hrc1_15,hrc1_17,hrc1_29,hra1,hri1,exitRQ_ret,exitRQ_exit,Int.toNat_natCast,Nat.mul_one,hun,hun'])
            have hTk : Upd (fun b => b = R2 ∨ b = rb) w24 w31 := ((((((hV25.trans hV26).trans hV27).trans hV28).trans hV29).trans hV30).trans hV31)
            have hL' := hL1.step (Rep1_lay _ _ fun _ => RepS_lay true _ _) hlt1 (hnext2 w31 [strV (rdStr true s12).1,strV (rdStr true s13).1,.map qme0e1] rfl hx2_31) (by rw [hrE];exact hxE) (hTk.mono fun b h => h.imp (fun e => ⟨_,_,_,hva2,e⟩) id) (by rw [hrE];exact hq31) (fun h => hoM1 rb h (.inr rfl)) (Nat.le_refl _)
            have hij : IntKind.i32.wrap ((j2 : Int) + 1) = ((j2 + 1 : Nat) : Int) := by rw [i32_wrap (by omega)];omega
            repeat ((first | refine qA rfl ?_|refine qB ?_|refine qC rfl ?_|refine qD ?_|refine qE ?_|refine qF ?_|refine qG ?_|refine qH ?_);try simp (maxSteps:=1000000)(disch:=(first|omega|(simp only [qI,qJ,qK]<;>omega)|exact qL _)) only [go_sem,↓reduceIte,n0,reduceCtorEq,n1,n2,n3,n4,n5,i0,i1,i2,i3,i4,i5,i6,i7,hxb31,hrc1_2,hrc1_7,hrc1_8,hrc1_9,hrc1_10,hrc1_14,hrc1_13,hrc1_15,hrc1_17,hrc1_29,hra1,hri1,exitRQ_ret,exitRQ_exit,Int.toNat_natCast,Nat.mul_one,hun,hun',hij])
            refine ⟨⟨(by simp (maxSteps:=1000000)(disch:=(first|omega|(simp only [qI,qJ,qK]<;>omega)|exact qL _)) only [go_sem,↓reduceIte,n0,reduceCtorEq,n1,n2,n3,n4,n5,i0,i1,i2,i3,i4,i5,i6,i7,Holds_nil,Holds_cons,hrc1_2,hrc1_7,hrc1_8,hrc1_9,hrc1_10,hrc1_14,hrc1_13,hrc1_15,hrc1_17,hrc1_29,hra1,hri1];exact hva2.symm),j2 + 1,(by simp (maxSteps:=1000000)(disch:=(first|omega|(simp only [qI,qJ,qK]<;>omega)|exact qL _)) only [go_sem,↓reduceIte,n0,reduceCtorEq,n1,n2,n3,n4,n5,i0,i1,i2,i3,i4,i5,i6,i7,hrc1_2,hrc1_7,hrc1_8,hrc1_9,hrc1_10,hrc1_14,hrc1_13,hrc1_15,hrc1_17,hrc1_29,hra1,hri1,hij];all_goals rfl),_,_,_,hL'⟩,?_⟩
            try simp (maxSteps:=1000000)(disch:=(first|omega|(simp only [qI,qJ,qK]<;>omega)|exact qL _)) only [go_sem,↓reduceIte,n0,reduceCtorEq,n1,n2,n3,n4,n5,i0,i1,i2,i3,i4,i5,i6,i7,hrc1_2,hrc1_7,hrc1_8,hrc1_9,hrc1_10,hrc1_14,hrc1_13,hrc1_15,hrc1_17,hrc1_29,hra1,hri1]
            simp only [RowKit.intOf]
            omega
          · have hjN : j2 = N1 := by omega
            rw [hjN] at hL1
            repeat ((first | refine qA rfl ?_|refine qB ?_|refine qC rfl ?_|refine qD ?_|refine qE ?_|refine qF ?_|refine qG ?_|refine qH ?_);try simp (maxSteps:=1000000)(disch:=(first|omega|(simp only [qI,qJ,qK]<;>omega)|exact qL _)) only [go_sem,↓reduceIte,n0,reduceCtorEq,n1,n2,n3,n4,n5,i0,i1,i2,i3,i4,i5,i6,i7,hrc1_2,hrc1_7,hrc1_8,hrc1_9,hrc1_10,hrc1_14,hrc1_13,hrc1_15,hrc1_17,hrc1_29,hrc1_28,hri1,exitRQ_ret,exitRQ_exit])
            exact ⟨(by simp (maxSteps:=1000000)(disch:=(first|omega|(simp only [qI,qJ,qK]<;>omega)|exact qL _)) only [go_sem,↓reduceIte,n0,reduceCtorEq,n1,n2,n3,n4,n5,i0,i1,i2,i3,i4,i5,i6,i7,Holds_nil,Holds_cons,hrc1_2,hrc1_7,hrc1_8,hrc1_9,hrc1_10,hrc1_14,hrc1_13,hrc1_15,hrc1_17,hrc1_29,hrc1_28,hri1]),s12,xs1,css1,hL1⟩
        rintro ρ w32 ⟨⟨hrd1_2,hrd1_7,hrd1_8,hrd1_9,hrd1_10,hrd1_14,hrd1_13,hrd1_15,hrd1_17,hrd1_29,hrd1_28,-⟩,s16,xs1,css1,hL1⟩
        have hq32 := hL1.rd
        have hu32 := hL1.upd
        have hx1_32 := hu32.blk_some hx1_22 (by omega)
        have hV32 : Upd (fun b => b = R1 ∨ b = rb) w22 w32 := hu32.mono (fun _ h => .inr h)
        have hU32 : Upd (fun b => b = vb ∨ b = rb) w1 w32 := hU22.trans' hV32 fun i hi h => h.elim (fun h => by omega) .inr
        have hz32 := hV32.size
        have hG32 : Glo ev w32 := hG1.updS hU32 hgM1 hgM2
        obtain ⟨X32,hX32⟩ : ∃ X : Array Value,X = (A1 ++ (([strV (rdStr true s3).1,strV (rdStr true s4).1,.string ByteArray.empty,.string ByteArray.empty,.int .i64 (rdInt .i64 8 s5).1,.int .i64 (rdInt .i64 8 s6).1,.int .i64 (rdInt .i64 8 s7).1,strV (rdStr true s8).1,.slice ao20 no20 co20,.slice none 0 0,.map none] : List Value) ++ B1)).toArray := ⟨_,rfl⟩
        have hxb32 : blk w32 R1 = some (X32,209,(0,0)) := by rw [hX32];exact hx1_32
        have hXs32 : j1 * 11 + 11 ≤ X32.size := by rw [hX32];simp only [List.size_toArray,List.length_append,List.length_cons,List.length_nil,hA1];omega
        have hrd1 : rdF (rdP (d + 1) ver true) ver true fX1_9 s10 = (.mk 0 [] (nilS fX1_9 ver y1) xs1 [],s16) := by
          have h := rdF_listE (pt := (rdP (d + 1) ver true)) (v := ver) (flex := true) (f := fX1_9) (s := s10) (xs := xs1) (e := s16) rfl (by rw [hy1,← hN1,← hs11];exact hL1.done)
          rw [hy1] at h;exact h
        have hs16 : s16 = (rdF (rdP (d + 1) ver true) ver true fX1_9 s10).2 := by rw [hrd1]
        obtain ⟨aa1,qq1,hvs1⟩ := hL1.row.shape
        subst hvs1
        have hst32_9 : j1 * 11 + 10 ≤ X32.size := by omega
        repeat ((first | refine qA rfl ?_|refine qB ?_|refine qC rfl ?_|refine qD ?_|refine qE ?_|refine qF ?_|refine qG ?_|refine qH ?_);try simp (maxSteps:=1000000)(disch:=(first|omega|(simp only [qI,qJ,qK]<;>omega)|exact qL _)) only [go_sem,↓reduceIte,n0,reduceCtorEq,n1,n2,n3,n4,n5,i0,i1,i2,i3,i4,i5,i6,i7,hxb32,hrd1_2,hrd1_7,hrd1_8,hrd1_9,hrd1_10,hrd1_14,hrd1_13,hrd1_15,hrd1_17,hrd1_29,hrd1_28,exitRQ_ret,exitRQ_exit,Int.toNat_natCast,Nat.mul_one,hun,hun',hst32_9])
        generalize hw33 : wr w32 R1 (j1 * 11 + 9) [.slice aa1 N1 qq1] = w33
        have hS33 : Upd (fun b => b = R1 ∨ b = rb) w32 w33 := by rw [← hw33];exact (Upd.refl _ _).wr _ _ (.inr (.inl rfl))
        have hx1_33 : blk w33 R1 = some ((A1 ++ (([strV (rdStr true s3).1,strV (rdStr true s4).1,.string ByteArray.empty,.string ByteArray.empty,.int .i64 (rdInt .i64 8 s5).1,.int .i64 (rdInt .i64 8 s6).1,.int .i64 (rdInt .i64 8 s7).1,strV (rdStr true s8).1,.slice ao20 no20 co20,.slice aa1 N1 qq1,.map none] : List Value) ++ B1)).toArray,209,(0,0)) := by rw [← hw33];exact el_blk (o := 9) hx1_32 hA1 (Nat.le_of_ble_eq_true rfl)
        have hV33 := hS33
        have hU33 : Upd (fun b => b = vb ∨ b = rb) w1 w33 := hU32.trans' hV33 fun i hi h => h.elim (fun h => by omega) .inr
        have hz33 := hV33.size
        have hG33 : Glo ev w33 := hG1.updS hU33 hgM1 hgM2
        have hq33 : Rdr RT ok w33 rb s16 ∧ NN w33 rb s16 := by
          have hn : ∀ x,x = w33 → (Rdr RT ok x rb s16 ∧ NN x rb s16) := fun x hx => by
            rw [hx,← hw33]
            exact Rdr.store hq32 (by omega) (fun h => by have := (hok _ h).1;first | omega | exact (hok _ h).2 rfl)
          exact hn _ rfl
        obtain ⟨X33,hX33⟩ : ∃ X : Array Value,X = (A1 ++ (([strV (rdStr true s3).1,strV (rdStr true s4).1,.string ByteArray.empty,.string ByteArray.empty,.int .i64 (rdInt .i64 8 s5).1,.int .i64 (rdInt .i64 8 s6).1,.int .i64 (rdInt .i64 8 s7).1,strV (rdStr true s8).1,.slice ao20 no20 co20,.slice aa1 N1 qq1,.map none] : List Value) ++ B1)).toArray := ⟨_,rfl⟩
        have hxb33 : blk w33 R1 = some (X33,209,(0,0)) := by rw [hX33];exact hx1_33
        have hXs33 : j1 * 11 + 11 ≤ X33.size := by rw [hX33];simp only [List.size_toArray,List.length_append,List.length_cons,List.length_nil,hA1];omega
        clear hw33
        have hfe0_9 : RepF (RepS true (d + 1)) (szS true (d + 1)) fX1_9 (fun b => (ok b ∨ w1.heap.size ≤ b) ∧ ¬ ownB va0 b) w33 (xe0_9) [.slice aa1 N1 qq1] := by rw [hxe0_9,hrd1];exact RepF.keepS (RepF_row rfl hnc1 hN1 rfl hL1.row hL1.all (fun b hb => ⟨.inr (by omega),fun ho => by have := (hown1 _ ho).2;omega⟩)) (hV33.keeps fun b _ hk e => hoM1 b hk e)
        clear hL1 hnc1
        have hle0_10 : rdL (rdP (d + 1) ver true) (dfP (d + 1)) ver true [] s16 = ([],s16) := rfl
        have hle0_9 : rdL (rdP (d + 1) ver true) (dfP (d + 1)) ver true [fX1_9] s10 = ([xe0_9],s16) := by rw [rdL_st (by decide) hhe0_9,← hxe0_9,← hs16,hle0_10]
        have hle0_8 : rdL (rdP (d + 1) ver true) (dfP (d + 1)) ver true [fX1_8,fX1_9] s9 = ([xe0_8,xe0_9],s16) := by rw [rdL_st (by decide) hhe0_8,← hxe0_8,← hs10,hle0_9]
        have hle0_7 : rdL (rdP (d + 1) ver true) (dfP (d + 1)) ver true [fX1_7,fX1_8,fX1_9] s8 = ([xe0_7,xe0_8,xe0_9],s16) := by rw [rdL_st (by decide) hhe0_7,← hxe0_7,← hs9,hle0_8]
        have hle0_6 : rdL (rdP (d + 1) ver true) (dfP (d + 1)) ver true [fX1_6,fX1_7,fX1_8,fX1_9] s7 = ([xe0_6,xe0_7,xe0_8,xe0_9],s16) := by rw [rdL_st (by decide) hhe0_6,← hxe0_6,← hs8,hle0_7]
        have hle0_5 : rdL (rdP (d + 1) ver true) (dfP (d + 1)) ver true [fX1_5,fX1_6,fX1_7,fX1_8,fX1_9] s6 = ([xe0_5,xe0_6,xe0_7,xe0_8,xe0_9],s16) := by rw [rdL_st (by decide) hhe0_5,← hxe0_5,← hs7,hle0_6]
        have hle0_4 : rdL (rdP (d + 1) ver true) (dfP (d + 1)) ver true [fX1_4,fX1_5,fX1_6,fX1_7,fX1_8,fX1_9] s5 = ([xe0_4,xe0_5,xe0_6,xe0_7,xe0_8,xe0_9],s16) := by rw [rdL_st (by decide) hhe0_4,← hxe0_4,← hs6,hle0_5]
        have hle0_3 : rdL (rdP (d + 1) ver true) (dfP (d + 1)) ver true [fX1_3,fX1_4,fX1_5,fX1_6,fX1_7,fX1_8,fX1_9] s5 = ([xe0_3,xe0_4,xe0_5,xe0_6,xe0_7,xe0_8,xe0_9],s16) := by rw [rdL_no hhe0_3,← hxe0_3,hle0_4]
        have hle0_2 : rdL (rdP (d + 1) ver true) (dfP (d + 1)) ver true [fX1_2,fX1_3,fX1_4,fX1_5,fX1_6,fX1_7,fX1_8,fX1_9] s5 = ([xe0_2,xe0_3,xe0_4,xe0_5,xe0_6,xe0_7,xe0_8,xe0_9],s16) := by rw [rdL_no hhe0_2,← hxe0_2,hle0_3]
        have hle0_1 : rdL (rdP (d + 1) ver true) (dfP (d + 1)) ver true [fX1_1,fX1_2,fX1_3,fX1_4,fX1_5,fX1_6,fX1_7,fX1_8,fX1_9] s4 = ([xe0_1,xe0_2,xe0_3,xe0_4,xe0_5,xe0_6,xe0_7,xe0_8,xe0_9],s16) := by rw [rdL_st (by decide) hhe0_1,← hxe0_1,← hs5,hle0_2]
        have hle0_0 : rdL (rdP (d + 1) ver true) (dfP (d + 1)) ver true [fX1_0,fX1_1,fX1_2,fX1_3,fX1_4,fX1_5,fX1_6,fX1_7,fX1_8,fX1_9] s3 = ([xe0_0,xe0_1,xe0_2,xe0_3,xe0_4,xe0_5,xe0_6,xe0_7,xe0_8,xe0_9],s16) := by rw [rdL_st (by decide) hhe0_0,← hxe0_0,← hs4,hle0_1]
        have hfine0 : rdP (d + 2) ver true fs_X1 s3 = (.mk 0 [] false [xe0_0,xe0_1,xe0_2,xe0_3,xe0_4,xe0_5,xe0_6,xe0_7,xe0_8,xe0_9] (rdTags s16).1,(rdTags s16).2) := rdP_t hle0_0
        repeat ((first | refine qA rfl ?_|refine qB ?_|refine qC rfl ?_|refine qD ?_|refine qE ?_|refine qF ?_|refine qG ?_|refine qH ?_);try simp (maxSteps:=1000000)(disch:=(first|omega|(simp only [qI,qJ,qK]<;>omega)|exact qL _)) only [go_sem,↓reduceIte,n0,reduceCtorEq,n1,n2,n3,n4,n5,i0,i1,i2,i3,i4,i5,i6,i7,hxb33,hrd1_2,hrd1_7,hrd1_8,hrd1_9,hrd1_10,hrd1_14,hrd1_13,hrd1_15,hrd1_17,hrd1_29,hrd1_28,exitRQ_ret,exitRQ_exit,Int.toNat_natCast,Nat.mul_one,hun,hun'])
        refine (ReadTags_fn w33 hq33.1 hrok).mono ?_
        rintro _ w34 ⟨qme0,rfl,hT34,hTn,hq34,hu34⟩
        have hx1_34 := hu34.blk_some hx1_33 (by omega)
        have hV34 : Upd (fun b => b = R1 ∨ b = rb) w33 w34 := hu34.mono (fun _ h => .inr h)
        have hU34 : Upd (fun b => b = vb ∨ b = rb) w1 w34 := hU33.trans' hV34 fun i hi h => h.elim (fun h => by omega) .inr
        have hz34 := hV34.size
        have hG34 : Glo ev w34 := hG1.updS hU34 hgM1 hgM2
        obtain ⟨X34,hX34⟩ : ∃ X : Array Value,X = (A1 ++ (([strV (rdStr true s3).1,strV (rdStr true s4).1,.string ByteArray.empty,.string ByteArray.empty,.int .i64 (rdInt .i64 8 s5).1,.int .i64 (rdInt .i64 8 s6).1,.int .i64 (rdInt .i64 8 s7).1,strV (rdStr true s8).1,.slice ao20 no20 co20,.slice aa1 N1 qq1,.map none] : List Value) ++ B1)).toArray := ⟨_,rfl⟩
        have hxb34 : blk w34 R1 = some (X34,209,(0,0)) := by rw [hX34];exact hx1_34
        have hXs34 : j1 * 11 + 11 ≤ X34.size := by rw [hX34];simp only [List.size_toArray,List.length_append,List.length_cons,List.length_nil,hA1];omega
        obtain ⟨s17,hs17⟩ : ∃ s,s = (rdTags s16).2 := ⟨_,rfl⟩
        rw [← hs17] at hq34 hfine0
        have hst34_10 : j1 * 11 + 11 ≤ X34.size := by omega
        try simp (maxSteps:=1000000)(disch:=(first|omega|(simp only [qI,qJ,qK]<;>omega)|exact qL _)) only [go_sem,↓reduceIte,n0,reduceCtorEq,n1,n2,n3,n4,n5,i0,i1,i2,i3,i4,i5,i6,i7,hxb34,hrd1_2,hrd1_7,hrd1_8,hrd1_9,hrd1_10,hrd1_14,hrd1_13,hrd1_15,hrd1_17,hrd1_29,hrd1_28,exitRQ_ret,exitRQ_exit,Int.toNat_natCast,Nat.mul_one,hun,hun',hst34_10]
        repeat ((first | refine qA rfl ?_|refine qB ?_|refine qC rfl ?_|refine qD ?_|refine qE ?_|refine qF ?_|refine qG ?_|refine qH ?_);try simp (maxSteps:=1000000)(disch:=(first|omega|(simp only [qI,qJ,qK]<;>omega)|exact qL _)) only [go_sem,↓reduceIte,n0,reduceCtorEq,n1,n2,n3,n4,n5,i0,i1,i2,i3,i4,i5,i6,i7,hxb34,hrd1_2,hrd1_7,hrd1_8,hrd1_9,hrd1_10,hrd1_14,hrd1_13,hrd1_15,hrd1_17,hrd1_29,hrd1_28,exitRQ_ret,exitRQ_exit,Int.toNat_natCast,Nat.mul_one,hun,hun',hst34_10])
        generalize hw35 : wr w34 R1 (j1 * 11 + 10) [.map qme0] = w35
        have hS35 : Upd (fun b => b = R1 ∨ b = rb) w34 w35 := by rw [← hw35];exact (Upd.refl _ _).wr _ _ (.inr (.inl rfl))
        have hx1_35 : blk w35 R1 = some ((A1 ++ (([strV (rdStr true s3).1,strV (rdStr true s4).1,.string ByteArray.empty,.string ByteArray.empty,.int .i64 (rdInt .i64 8 s5).1,.int .i64 (rdInt .i64 8 s6).1,.int .i64 (rdInt .i64 8 s7).1,strV (rdStr true s8).1,.slice ao20 no20 co20,.slice aa1 N1 qq1,.map qme0] : List Value) ++ B1)).toArray,209,(0,0)) := by rw [← hw35];exact el_blk (o := 10) hx1_34 hA1 (Nat.le_of_ble_eq_true rfl)
        have hV35 := hS35
        have hU35 : Upd (fun b => b = vb ∨ b = rb) w1 w35 := hU34.trans' hV35 fun i hi h => h.elim (fun h => by omega) .inr
        have hz35 := hV35.size
        have hG35 : Glo ev w35 := hG1.updS hU35 hgM1 hgM2
        have hq35 : Rdr RT ok w35 rb s17 ∧ NN w35 rb s17 := by
          have hn : ∀ x,x = w35 → (Rdr RT ok x rb s17 ∧ NN x rb s17) := fun x hx => by
            rw [hx,← hw35]
            exact Rdr.store hq34 (by omega) (fun h => by have := (hok _ h).1;first | omega | exact (hok _ h).2 rfl)
          exact hn _ rfl
        obtain ⟨X35,hX35⟩ : ∃ X : Array Value,X = (A1 ++ (([strV (rdStr true s3).1,strV (rdStr true s4).1,.string ByteArray.empty,.string ByteArray.empty,.int .i64 (rdInt .i64 8 s5).1,.int .i64 (rdInt .i64 8 s6).1,.int .i64 (rdInt .i64 8 s7).1,strV (rdStr true s8).1,.slice ao20 no20 co20,.slice aa1 N1 qq1,.map qme0] : List Value) ++ B1)).toArray := ⟨_,rfl⟩
        have hxb35 : blk w35 R1 = some (X35,209,(0,0)) := by rw [hX35];exact hx1_35
        have hXs35 : j1 * 11 + 11 ≤ X35.size := by rw [hX35];simp only [List.size_toArray,List.length_append,List.length_cons,List.length_nil,hA1];omega
        clear hw35
        have hTge0 : TagsM (fun b => (ok b ∨ w1.heap.size ≤ b) ∧ ¬ ownB va0 b) w35 (.map qme0) (rdTags s16).1 := (hT34.weaken fun b _ hk => hk.elim (fun hk => ⟨.inl hk,fun ho => by have := (hown1 b ho).1;have := (hok b hk).1;omega⟩) (fun h => by have h' : w33.heap.size ≤ b := h;exact ⟨.inr (by omega),fun ho => by have := (hown1 _ ho).2;omega⟩)).keep (hV35.keeps fun b _ hk e => hoM1 b hk e)
        have hCe0_35 : Upd (fun b => b = R1 ∨ b = rb) w35 w35 := Upd.refl _ _
        have hCe0_34 : Upd (fun b => b = R1 ∨ b = rb) w34 w35 := hV35.trans hCe0_35
        have hCe0_33 : Upd (fun b => b = R1 ∨ b = rb) w33 w35 := hV34.trans hCe0_34
        have hCe0_32 : Upd (fun b => b = R1 ∨ b = rb) w32 w35 := hV33.trans hCe0_33
        have hCe0_22 : Upd (fun b => b = R1 ∨ b = rb) w22 w35 := hV32.trans hCe0_32
        have hCe0_21 : Upd (fun b => b = R1 ∨ b = rb) w21 w35 := hV22.trans hCe0_22
        have hCe0_20 : Upd (fun b => b = R1 ∨ b = rb) w20 w35 := hV21.trans hCe0_21
        have hCe0_19 : Upd (fun b => b = R1 ∨ b = rb) w19 w35 := hV20.trans hCe0_20
        have hCe0_18 : Upd (fun b => b = R1 ∨ b = rb) w18 w35 := hV19.trans hCe0_19
        have hCe0_17 : Upd (fun b => b = R1 ∨ b = rb) w17 w35 := hV18.trans hCe0_18
        have hCe0_16 : Upd (fun b => b = R1 ∨ b = rb) w16 w35 := hV17.trans hCe0_17
        have hCe0_15 : Upd (fun b => b = R1 ∨ b = rb) w15 w35 := hV16.trans hCe0_16
        have hCe0_14 : Upd (fun b => b = R1 ∨ b = rb) w14 w35 := hV15.trans hCe0_15
        have hCe0_13 : Upd (fun b => b = R1 ∨ b = rb) w13 w35 := hV14.trans hCe0_14
        have hCe0_12 : Upd (fun b => b = R1 ∨ b = rb) w12 w35 := hV13.trans hCe0_13
        have hCe0_11 : Upd (fun b => b = R1 ∨ b = rb) w11 w35 := hV12.trans hCe0_12
        have hCe0_10 : Upd (fun b => b = R1 ∨ b = rb) w10 w35 := hV11.trans hCe0_11
        have hCe0_9 : Upd (fun b => b = R1 ∨ b = rb) w9 w35 := hV10.trans hCe0_10
        have hCe0_8 : Upd (fun b => b = R1 ∨ b = rb) w8 w35 := hV9.trans hCe0_9
        have hCe0_7 : Upd (fun b => b = R1 ∨ b = rb) w7 w35 := hV8.trans hCe0_8
        have hCe0_6 : Upd (fun b => b = R1 ∨ b = rb) w6 w35 := hV7.trans hCe0_7
        have hRe0 : RepS true (d + 2) fs_X1 (fun b => (ok b ∨ w1.heap.size ≤ b) ∧ ¬ ownB va0 b) w35 (.mk 0 [] false [xe0_0,xe0_1,xe0_2,xe0_3,xe0_4,xe0_5,xe0_6,xe0_7,xe0_8,xe0_9] (rdTags s16).1) [strV (rdStr true s3).1,strV (rdStr true s4).1,.string ByteArray.empty,.string ByteArray.empty,.int .i64 (rdInt .i64 8 s5).1,.int .i64 (rdInt .i64 8 s6).1,.int .i64 (rdInt .i64 8 s7).1,strV (rdStr true s8).1,.slice ao20 no20 co20,.slice aa1 N1 qq1,.map qme0] := RepS.introT (c := [strV (rdStr true s3).1,strV (rdStr true s4).1,.string ByteArray.empty,.string ByteArray.empty,.int .i64 (rdInt .i64 8 s5).1,.int .i64 (rdInt .i64 8 s6).1,.int .i64 (rdInt .i64 8 s7).1,strV (rdStr true s8).1,.slice ao20 no20 co20,.slice aa1 N1 qq1]) (RepL.cons1 (hfe0_0.keepS (hCe0_9.keeps fun b _ hk e => hoM1 b hk e)) (RepL.cons1 (hfe0_1.keepS (hCe0_11.keeps fun b _ hk e => hoM1 b hk e)) (RepL.cons1 (hfe0_2.keepS (hCe0_11.keeps fun b _ hk e => hoM1 b hk e)) (RepL.cons1 (hfe0_3.keepS (hCe0_11.keeps fun b _ hk e => hoM1 b hk e)) (RepL.cons1 (hfe0_4.keepS (hCe0_13.keeps fun b _ hk e => hoM1 b hk e)) (RepL.cons1 (hfe0_5.keepS (hCe0_15.keeps fun b _ hk e => hoM1 b hk e)) (RepL.cons1 (hfe0_6.keepS (hCe0_17.keeps fun b _ hk e => hoM1 b hk e)) (RepL.cons1 (hfe0_7.keepS (hCe0_19.keeps fun b _ hk e => hoM1 b hk e)) (RepL.cons1 (hfe0_8.keepS (hCe0_21.keeps fun b _ hk e => hoM1 b hk e)) (RepL.cons1 (hfe0_9.keepS (hCe0_33.keeps fun b _ hk e => hoM1 b hk e)) RepL.nil)))))))))) hTge0
        have hrE : (rd1 (rdP (d + 2) ver true) fDescribeDelegationTokenResponse_1.of fDescribeDelegationTokenResponse_1.sub false true) s3 = ((.mk 0 [] false [xe0_0,xe0_1,xe0_2,xe0_3,xe0_4,xe0_5,xe0_6,xe0_7,xe0_8,xe0_9] (rdTags s16).1),s17) := by rw [show (rd1 (rdP (d + 2) ver true) fDescribeDelegationTokenResponse_1.of fDescribeDelegationTokenResponse_1.sub false true) s3 = _ from rd1_part];exact hfine0
        have hxE : (Rep1 (RepS true (d + 2)) fDescribeDelegationTokenResponse_1.of fDescribeDelegationTokenResponse_1.sub) (fun b => (ok b ∨ w1.heap.size ≤ b) ∧ ¬ ownB va0 b) w35 (.mk 0 [] false [xe0_0,xe0_1,xe0_2,xe0_3,xe0_4,xe0_5,xe0_6,xe0_7,xe0_8,xe0_9] (rdTags s16).1) [strV (rdStr true s3).1,strV (rdStr true s4).1,.string ByteArray.empty,.string ByteArray.empty,.int .i64 (rdInt .i64 8 s5).1,.int .i64 (rdInt .i64 8 s6).1,.int .i64 (rdInt .i64 8 s7).1,strV (rdStr true s8).1,.slice ao20 no20 co20,.slice aa1 N1 qq1,.map qme0] := Rep1_part.2 hRe0
        repeat ((first | refine qA rfl ?_|refine qB ?_|refine qC rfl ?_|refine qD ?_|refine qE ?_|refine qF ?_|refine qG ?_|refine qH ?_);try simp (maxSteps:=1000000)(disch:=(first|omega|(simp only [qI,qJ,qK]<;>omega)|exact qL _)) only [go_sem,↓reduceIte,n0,reduceCtorEq,n1,n2,n3,n4,n5,i0,i1,i2,i3,i4,i5,i6,i7,hxb35,hrd1_2,hrd1_7,hrd1_8,hrd1_9,hrd1_10,hrd1_14,hrd1_13,hrd1_15,hrd1_17,hrd1_29,hrd1_28,exitRQ_ret,exitRQ_exit,Int.toNat_natCast,Nat.mul_one,hun,hun'])
        have hTk : Upd (fun b => b = R1 ∨ b = rb) w6 w35 := (((((((((((((((((((hV7.trans hV8).trans hV9).trans hV10).trans hV11).trans hV12).trans hV13).trans hV14).trans hV15).trans hV16).trans hV17).trans hV18).trans hV19).trans hV20).trans hV21).trans hV22).trans hV32).trans hV33).trans hV34).trans hV35)
        have hL' := hL0.step (Rep1_lay _ _ fun _ => RepS_lay true _ _) hlt0 (hnext1 w35 [strV (rdStr true s3).1,strV (rdStr true s4).1,.string ByteArray.empty,.string ByteArray.empty,.int .i64 (rdInt .i64 8 s5).1,.int .i64 (rdInt .i64 8 s6).1,.int .i64 (rdInt .i64 8 s7).1,strV (rdStr true s8).1,.slice ao20 no20 co20,.slice aa1 N1 qq1,.map qme0] rfl hx1_35) (by rw [hrE];exact hxE) (hTk.mono fun b h => h.imp (fun e => ⟨_,_,_,hva1,e⟩) id) (by rw [hrE];exact hq35) (fun h => hoM rb h (.inr rfl)) (Nat.le_refl _)
        have hij : IntKind.i32.wrap ((j1 : Int) + 1) = ((j1 + 1 : Nat) : Int) := by rw [i32_wrap (by omega)];omega
        repeat ((first | refine qA rfl ?_|refine qB ?_|refine qC rfl ?_|refine qD ?_|refine qE ?_|refine qF ?_|refine qG ?_|refine qH ?_);try simp (maxSteps:=1000000)(disch:=(first|omega|(simp only [qI,qJ,qK]<;>omega)|exact qL _)) only [go_sem,↓reduceIte,n0,reduceCtorEq,n1,n2,n3,n4,n5,i0,i1,i2,i3,i4,i5,i6,i7,hxb35,hrd1_2,hrd1_7,hrd1_8,hrd1_9,hrd1_10,hrd1_14,hrd1_13,hrd1_15,hrd1_17,hrd1_29,hrd1_28,exitRQ_ret,exitRQ_exit,Int.toNat_natCast,Nat.mul_one,hun,hun',hij])
        refine ⟨⟨(by simp (maxSteps:=1000000)(disch:=(first|omega|(simp only [qI,qJ,qK]<;>omega)|exact qL _)) only [go_sem,↓reduceIte,n0,reduceCtorEq,n1,n2,n3,n4,n5,i0,i1,i2,i3,i4,i5,i6,i7,Holds_nil,Holds_cons,hrd1_2,hrd1_7,hrd1_8,hrd1_9,hrd1_10,hrd1_14,hrd1_13,hrd1_15,hrd1_17,hrd1_29,hrd1_28];exact hva1.symm),j1 + 1,(by simp (maxSteps:=1000000)(disch:=(first|omega|(simp only [qI,qJ,qK]<;>omega)|exact qL _)) only [go_sem,↓reduceIte,n0,reduceCtorEq,n1,n2,n3,n4,n5,i0,i1,i2,i3,i4,i5,i6,i7,hrd1_2,hrd1_7,hrd1_8,hrd1_9,hrd1_10,hrd1_14,hrd1_13,hrd1_15,hrd1_17,hrd1_29,hrd1_28,hij];all_goals rfl),_,_,_,hL'⟩,?_⟩
        try simp (maxSteps:=1000000)(disch:=(first|omega|(simp only [qI,qJ,qK]<;>omega)|exact qL _)) only [go_sem,↓reduceIte,n0,reduceCtorEq,n1,n2,n3,n4,n5,i0,i1,i2,i3,i4,i5,i6,i7,hrd1_2,hrd1_7,hrd1_8,hrd1_9,hrd1_10,hrd1_14,hrd1_13,hrd1_15,hrd1_17,hrd1_29,hrd1_28]
        simp only [RowKit.intOf]
        omega
      · have hjN : j1 = N0 := by omega
        rw [hjN] at hL0
        repeat ((first | refine qA rfl ?_|refine qB ?_|refine qC rfl ?_|refine qD ?_|refine qE ?_|refine qF ?_|refine qG ?_|refine qH ?_);try simp (maxSteps:=1000000)(disch:=(first|omega|(simp only [qI,qJ,qK]<;>omega)|exact qL _)) only [go_sem,↓reduceIte,n0,reduceCtorEq,n1,n2,n3,n4,n5,i0,i1,i2,i3,i4,i5,i6,i7,hrc0_2,hrc0_7,hrc0_8,hrc0_9,hrc0_10,hrc0_14,hrc0_13,hri0,exitRQ_ret,exitRQ_exit])
        exact ⟨(by simp (maxSteps:=1000000)(disch:=(first|omega|(simp only [qI,qJ,qK]<;>omega)|exact qL _)) only [go_sem,↓reduceIte,n0,reduceCtorEq,n1,n2,n3,n4,n5,i0,i1,i2,i3,i4,i5,i6,i7,Holds_nil,Holds_cons,hrc0_2,hrc0_7,hrc0_8,hrc0_9,hrc0_10,hrc0_14,hrc0_13,hri0]),s3,xs0,css0,hL0⟩
    rintro ρ w36 ⟨⟨hrd0_2,hrd0_7,hrd0_8,hrd0_9,hrd0_10,hrd0_14,hrd0_13,-⟩,s18,xs0,css0,hL0⟩
    have hq36 := hL0.rd
    have hu36 := hL0.upd
    have hv_36 := hu36.blk_some hv_4 (by omega)
    have hV36 : Upd (fun b => b = vb ∨ b = rb) w4 w36 := hu36.mono (fun _ h => .inr h)
    have hU36 : Upd (fun b => b = vb ∨ b = rb) w1 w36 := hU4.trans hV36
    have hz36 := hV36.size
    have hG36 : Glo ev w36 := hG1.updS hU36 hgM1 hgM2
    have hrd0 : rdF (rdP (d + 2) ver true) ver true fDescribeDelegationTokenResponse_1 s1 = (.mk 0 [] (nilS fDescribeDelegationTokenResponse_1 ver y0) xs0 [],s18) := by
      have h := rdF_listE (pt := (rdP (d + 2) ver true)) (v := ver) (flex := true) (f := fDescribeDelegationTokenResponse_1) (s := s1) (xs := xs0) (e := s18) rfl (by rw [hy0,← hN0,← hs2];exact hL0.done)
      rw [hy0] at h;exact h
    have hs18 : s18 = (rdF (rdP (d + 2) ver true) ver true fDescribeDelegationTokenResponse_1 s1).2 := by rw [hrd0]
    obtain ⟨aa0,qq0,hvs0⟩ := hL0.row.shape
    subst hvs0
    repeat ((first | refine qA rfl ?_|refine qB ?_|refine qC rfl ?_|refine qD ?_|refine qE ?_|refine qF ?_|refine qG ?_|refine qH ?_);try simp (maxSteps:=1000000)(disch:=(first|omega|(simp only [qI,qJ,qK]<;>omega)|exact qL _)) only [go_sem,↓reduceIte,n0,reduceCtorEq,n1,n2,n3,n4,n5,i0,i1,i2,i3,i4,i5,i6,i7,hv_36,hrd0_2,hrd0_7,hrd0_8,hrd0_9,hrd0_10,hrd0_14,hrd0_13,hun,hun'])
    generalize hw37 : wr w36 vb 2 [.slice aa0 N0 qq0] = w37
    have hS37 : Upd (fun b => b = vb ∨ b = rb) w36 w37 := by rw [← hw37];exact (Upd.refl _ _).wr _ _ (.inr (.inl rfl))
    have hv_37 : blk w37 vb = some (#[.int .i16 ver,.int .i16 (rdInt .i16 2 s0).1,.slice aa0 N0 qq0,.int .i32 0,.map none],204,(0,0)) := by rw [← hw37,blk_wr_eq,hv_36];rfl
    have hV37 := hS37
    have hU37 : Upd (fun b => b = vb ∨ b = rb) w1 w37 := hU36.trans hV37
    have hz37 := hV37.size
    have hG37 : Glo ev w37 := hG1.updS hU37 hgM1 hgM2
    have hq37 : Rdr RT ok w37 rb s18 ∧ NN w37 rb s18 := by
      have hn : ∀ x,x = w37 → (Rdr RT ok x rb s18 ∧ NN x rb s18) := fun x hx => by
        rw [hx,← hw37]
        exact Rdr.store hq36 (by omega) (fun h => by have := (hok _ h).1;first | omega | exact (hok _ h).2 rfl)
      exact hn _ rfl
    clear hw37
    have hf_1 : RepF (RepS true (d + 2)) (szS true (d + 2)) fDescribeDelegationTokenResponse_1 (fun b => ok b ∨ w1.heap.size ≤ b) w37 (x_1) [.slice aa0 N0 qq0] := by rw [hx_1,hrd0];exact RepF.keepS (RepF_row rfl hnc0 hN0 rfl hL0.row hL0.all (fun b hb => .inr (by omega))) (hV37.keeps fun b _ hk e => (hoM b hk) e)
    clear hL0 hnc0
    have hb_2 : (rdL (rdP (d + 2) ver true) (dfP (d + 2)) ver true [fDescribeDelegationTokenResponse_2] s18).2 = none → FB := fun h => hb_1 (by rw [rdL_st (by decide) hh_1,← hs18];exact h)
    have hh_2 : hasS fDescribeDelegationTokenResponse_2 ver = true := hasS_t (by show (0 : Int) ≤ ver;omega) (by show (-1 : Int) < 0 ∨ ver ≤ (-1 : Int);omega)
    obtain ⟨x_2,hx_2⟩ : ∃ x,x = (rdF (rdP (d + 2) ver true) ver true fDescribeDelegationTokenResponse_2 s18).1 := ⟨_,rfl⟩
    repeat ((first | refine qA rfl ?_|refine qB ?_|refine qC rfl ?_|refine qD ?_|refine qE ?_|refine qF ?_|refine qG ?_|refine qH ?_);try simp (maxSteps:=1000000)(disch:=(first|omega|(simp only [qI,qJ,qK]<;>omega)|exact qL _)) only [go_sem,↓reduceIte,n0,reduceCtorEq,n1,n2,n3,n4,n5,i0,i1,i2,i3,i4,i5,i6,i7,hv_37,hrd0_2,hrd0_7,hrd0_8,hrd0_9,hrd0_10,hrd0_14,hrd0_13,hun,hun'])
    have hrd : rdF (rdP (d + 2) ver true) ver true fDescribeDelegationTokenResponse_2 s18 = _ := rdF_num 3 rfl (by decide)
    refine (Int32_fn w37 hq37.1 hrok hG37.1 hgrb).mono ?_
    rintro _ w38 ⟨rfl,hq38,hu38⟩
    have hv_38 := hu38.blk_some hv_37 (by omega)
    have hV38 : Upd (fun b => b = vb ∨ b = rb) w37 w38 := hu38.mono (fun _ h => .inr h)
    have hU38 : Upd (fun b => b = vb ∨ b = rb) w1 w38 := hU37.trans hV38
    have hz38 := hV38.size
    have hG38 : Glo ev w38 := hG1.updS hU38 hgM1 hgM2
    have hst : (rdF (rdP (d + 2) ver true) ver true fDescribeDelegationTokenResponse_2 s18).2 = (rdInt .i32 4 s18).2 := by first | (rw [hrd];rfl) | rw [hrd]
    obtain ⟨s19,hs19⟩ : ∃ s,s = (rdF (rdP (d + 2) ver true) ver true fDescribeDelegationTokenResponse_2 s18).2 := ⟨_,rfl⟩
    rw [← hst,← hs19] at hq38
    clear hst
    repeat ((first | refine qA rfl ?_|refine qB ?_|refine qC rfl ?_|refine qD ?_|refine qE ?_|refine qF ?_|refine qG ?_|refine qH ?_);try simp (maxSteps:=1000000)(disch:=(first|omega|(simp only [qI,qJ,qK]<;>omega)|exact qL _)) only [go_sem,↓reduceIte,n0,reduceCtorEq,n1,n2,n3,n4,n5,i0,i1,i2,i3,i4,i5,i6,i7,hv_38,hrd0_2,hrd0_7,hrd0_8,hrd0_9,hrd0_10,hrd0_14,hrd0_13,hun,hun'])
    generalize hw39 : wr w38 vb 3 [.int .i32 (rdInt .i32 4 s18).1] = w39
    have hS39 : Upd (fun b => b = vb ∨ b = rb) w38 w39 := by rw [← hw39];exact (Upd.refl _ _).wr _ _ (.inr (.inl rfl))
    have hv_39 : blk w39 vb = some (#[.int .i16 ver,.int .i16 (rdInt .i16 2 s0).1,.slice aa0 N0 qq0,.int .i32 (rdInt .i32 4 s18).1,.map none],204,(0,0)) := by rw [← hw39,blk_wr_eq,hv_38];rfl
    have hV39 := hS39
    have hU39 : Upd (fun b => b = vb ∨ b = rb) w1 w39 := hU38.trans hV39
    have hz39 := hV39.size
    have hG39 : Glo ev w39 := hG1.updS hU39 hgM1 hgM2
    have hq39 : Rdr RT ok w39 rb s19 ∧ NN w39 rb s19 := by
      have hn : ∀ x,x = w39 → (Rdr RT ok x rb s19 ∧ NN x rb s19) := fun x hx => by
        rw [hx,← hw39]
        exact Rdr.store hq38 (by omega) (fun h => by have := (hok _ h).1;first | omega | exact (hok _ h).2 rfl)
      exact hn _ rfl
    clear hw39
    have hf_2 : RepF (RepS true (d + 2)) (szS true (d + 2)) fDescribeDelegationTokenResponse_2 (fun b => ok b ∨ w1.heap.size ≤ b) w39 (x_2) [.int .i32 (rdInt .i32 4 s18).1] := (RepF_num (by decide)).2 (by rw [hx_2,hrd];exact congrArg (fun x => [x]) (numC_rd 3 (by decide) 4 s18).symm)
    clear hrd
    have hl_3 : rdL (rdP (d + 2) ver true) (dfP (d + 2)) ver true [] s19 = ([],s19) := rfl
    have hl_2 : rdL (rdP (d + 2) ver true) (dfP (d + 2)) ver true [fDescribeDelegationTokenResponse_2] s18 = ([x_2],s19) := by rw [rdL_st (by decide) hh_2,← hx_2,← hs19,hl_3]
    have hl_1 : rdL (rdP (d + 2) ver true) (dfP (d + 2)) ver true [fDescribeDelegationTokenResponse_1,fDescribeDelegationTokenResponse_2] s1 = ([x_1,x_2],s19) := by rw [rdL_st (by decide) hh_1,← hx_1,← hs18,hl_2]
    have hl_0 : rdL (rdP (d + 2) ver true) (dfP (d + 2)) ver true [fDescribeDelegationTokenResponse_0,fDescribeDelegationTokenResponse_1,fDescribeDelegationTokenResponse_2] s0 = ([x_0,x_1,x_2],s19) := by rw [rdL_st (by decide) hh_0,← hx_0,← hs1,hl_1]
    have hfin : rdP (d + 3) ver true fs_DescribeDelegationTokenResponse s0 = (.mk 0 [] false [x_0,x_1,x_2] (rdTags s19).1,(rdTags s19).2) := rdP_t hl_0
    repeat ((first | refine qA rfl ?_|refine qB ?_|refine qC rfl ?_|refine qD ?_|refine qE ?_|refine qF ?_|refine qG ?_|refine qH ?_);try simp (maxSteps:=1000000)(disch:=(first|omega|(simp only [qI,qJ,qK]<;>omega)|exact qL _)) only [go_sem,↓reduceIte,n0,reduceCtorEq,n1,n2,n3,n4,n5,i0,i1,i2,i3,i4,i5,i6,i7,hv_39,hrd0_2,hrd0_7,hrd0_8,hrd0_9,hrd0_10,hrd0_14,hrd0_13,hun,hun'])
    refine (ReadTags_fn w39 hq39.1 hrok).mono ?_
    rintro _ w40 ⟨qm,rfl,hT40,hTn,hq40,hu40⟩
    have hv_40 := hu40.blk_some hv_39 (by omega)
    have hV40 : Upd (fun b => b = vb ∨ b = rb) w39 w40 := hu40.mono (fun _ h => .inr h)
    have hU40 : Upd (fun b => b = vb ∨ b = rb) w1 w40 := hU39.trans hV40
    have hz40 := hV40.size
    have hG40 : Glo ev w40 := hG1.updS hU40 hgM1 hgM2
    obtain ⟨s20,hs20⟩ : ∃ s,s = (rdTags s19).2 := ⟨_,rfl⟩
    rw [← hs20] at hq40 hfin
    try simp (maxSteps:=1000000)(disch:=(first|omega|(simp only [qI,qJ,qK]<;>omega)|exact qL _)) only [go_sem,↓reduceIte,n0,reduceCtorEq,n1,n2,n3,n4,n5,i0,i1,i2,i3,i4,i5,i6,i7,hv_40,hrd0_2,hrd0_7,hrd0_8,hrd0_9,hrd0_10,hrd0_14,hrd0_13,hun,hun']
    repeat ((first | refine qA rfl ?_|refine qB ?_|refine qC rfl ?_|refine qD ?_|refine qE ?_|refine qF ?_|refine qG ?_|refine qH ?_);try simp (maxSteps:=1000000)(disch:=(first|omega|(simp only [qI,qJ,qK]<;>omega)|exact qL _)) only [go_sem,↓reduceIte,n0,reduceCtorEq,n1,n2,n3,n4,n5,i0,i1,i2,i3,i4,i5,i6,i7,hv_40,hrd0_2,hrd0_7,hrd0_8,hrd0_9,hrd0_10,hrd0_14,hrd0_13,hun,hun'])
    generalize hw41 : wr w40 vb 4 [.map qm] = w41
    have hS41 : Upd (fun b => b = vb ∨ b = rb) w40 w41 := by rw [← hw41];exact (Upd.refl _ _).wr _ _ (.inr (.inl rfl))
    have hv_41 : blk w41 vb = some (#[.int .i16 ver,.int .i16 (rdInt .i16 2 s0).1,.slice aa0 N0 qq0,.int .i32 (rdInt .i32 4 s18).1,.map qm],204,(0,0)) := by rw [← hw41,blk_wr_eq,hv_40];rfl
    have hV41 := hS41
    have hU41 : Upd (fun b => b = vb ∨ b = rb) w1 w41 := hU40.trans hV41
    have hz41 := hV41.size
    have hG41 : Glo ev w41 := hG1.updS hU41 hgM1 hgM2
    have hq41 : Rdr RT ok w41 rb s20 ∧ NN w41 rb s20 := by
      have hn : ∀ x,x = w41 → (Rdr RT ok x rb s20 ∧ NN x rb s20) := fun x hx => by
        rw [hx,← hw41]
        exact Rdr.store hq40 (by omega) (fun h => by have := (hok _ h).1;first | omega | exact (hok _ h).2 rfl)
      exact hn _ rfl
    clear hw41
    have hTg : TagsM (fun b => ok b ∨ w1.heap.size ≤ b) w41 (.map qm) (rdTags s19).1 := (hT40.weaken fun b _ hk => hk.elim (fun hk => .inl hk) (fun h => by have h' : w39.heap.size ≤ b := h;exact .inr (by omega))).keep (hV41.keeps fun b _ hk e => (hoM b hk) e)
    have hC_41 : Upd (fun b => b = vb ∨ b = rb) w41 w41 := Upd.refl _ _
    have hC_40 : Upd (fun b => b = vb ∨ b = rb) w40 w41 := hV41.trans hC_41
    have hC_39 : Upd (fun b => b = vb ∨ b = rb) w39 w41 := hV40.trans hC_40
    have hC_38 : Upd (fun b => b = vb ∨ b = rb) w38 w41 := hV39.trans hC_39
    have hC_37 : Upd (fun b => b = vb ∨ b = rb) w37 w41 := hV38.trans hC_38
    have hC_36 : Upd (fun b => b = vb ∨ b = rb) w36 w41 := hV37.trans hC_37
    have hC_4 : Upd (fun b => b = vb ∨ b = rb) w4 w41 := hV36.trans hC_36
    have hC_3 : Upd (fun b => b = vb ∨ b = rb) w3 w41 := hV4.trans hC_4
    have hC_2 : Upd (fun b => b = vb ∨ b = rb) w2 w41 := hV3.trans hC_3
    have hC_1 : Upd (fun b => b = vb ∨ b = rb) w1 w41 := hV2.trans hC_2
    have hR : RepS true (d + 3) fs_DescribeDelegationTokenResponse (fun b => ok b ∨ w1.heap.size ≤ b) w41 (.mk 0 [] false [x_0,x_1,x_2] (rdTags s19).1) [.int .i16 (rdInt .i16 2 s0).1,.slice aa0 N0 qq0,.int .i32 (rdInt .i32 4 s18).1,.map qm] := RepS.introT (c := [.int .i16 (rdInt .i16 2 s0).1,.slice aa0 N0 qq0,.int .i32 (rdInt .i32 4 s18).1]) (RepL.cons1 (hf_0.keepS (hC_3.keeps fun b _ hk e => (hoM b hk) e)) (RepL.cons1 (hf_1.keepS (hC_37.keeps fun b _ hk e => (hoM b hk) e)) (RepL.cons1 (hf_2.keepS (hC_39.keeps fun b _ hk e => (hoM b hk) e)) RepL.nil))) hTg
    repeat ((first | refine qA rfl ?_|refine qB ?_|refine qC rfl ?_|refine qD ?_|refine qE ?_|refine qF ?_|refine qG ?_|refine qH ?_);try simp (maxSteps:=1000000)(disch:=(first|omega|(simp only [qI,qJ,qK]<;>omega)|exact qL _)) only [go_sem,↓reduceIte,n0,reduceCtorEq,n1,n2,n3,n4,n5,i0,i1,i2,i3,i4,i5,i6,i7,hv_41,hrd0_2,hrd0_7,hrd0_8,hrd0_9,hrd0_10,hrd0_14,hrd0_13,hun,hun'])
    refine (RComplete_fn w41 hq41.1 hG41.2).mono ?_
    rintro _ wz ⟨rfl,hez⟩
    rw [hez]
    repeat ((first | refine qA rfl ?_|refine qB ?_|refine qC rfl ?_|refine qD ?_|refine qE ?_|refine qF ?_|refine qG ?_|refine qH ?_);try simp (maxSteps:=1000000)(disch:=(first|omega|(simp only [qI,qJ,qK]<;>omega)|exact qL _)) only [go_sem,↓reduceIte,n0,reduceCtorEq,n1,n2,n3,n4,n5,i0,i1,i2,i3,i4,i5,i6,i7,hv_41,hrd0_2,hrd0_7,hrd0_8,hrd0_9,hrd0_10,hrd0_14,hrd0_13,hun,hun'])
    rw [hfin]
    refine ⟨fun h => ?_,fun h => ⟨?_,[.int .i16 (rdInt .i16 2 s0).1,.slice aa0 N0 qq0,.int .i32 (rdInt .i32 4 s18).1,.map qm],hv_41,?_⟩,?_⟩
    · have h' : s20 = none := h
      rw [h'];rfl
    · cases hsn : s20 with
      | none => exact absurd hsn h
      | some x => rfl
    · exact (RepS_lay true (d + 3) fs_DescribeDelegationTokenResponse).weaken hR fun b _ hk => hk.imp id fun h => by omega
    · exact hbase.trans' hU41 fun i hi h => h.elim id fun h => by omega
end Ms

