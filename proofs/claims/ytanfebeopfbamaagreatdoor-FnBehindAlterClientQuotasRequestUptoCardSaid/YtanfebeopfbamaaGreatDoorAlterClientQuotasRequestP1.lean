/- A part of the proof: see the last text. -/
import Derived.Test.YtanfebeopfbamaaGreatDoorAlterClientQuotasRequestP0
set_option linter.unusedSimpArgs false
set_option linter.unusedVariables false
namespace Ms
open Go.World renaming size_alloc → qI
open Ms renaming size_wr → qJ,size_drew → qK,not_noB → qL
open W renaming seqR → qA,seq → qB,regR → qC,condK → qD,block → qE,skip → qF,ret → qG,exit → qH
open Nat renaming reduceEqDiff → n0,reduceAdd → n1,reduceMul → n2,reduceSub → n3,reduceLT → n4,reduceLeDiff → n5
open Int renaming reduceEq → i0,reduceLT → i1,reduceLE → i2,reduceNeg → i3,reduceAdd → i4,reduceSub → i5,reduceMul → i6,reduceToNat → i7
set_option maxRecDepth 8000
open Go Go.Proofs Go.Shelf
attribute [local congr] W_congr WPsq_congr WPp_congr optK_congr addrK_congr intK_congr boolK_congr sliceK_congr tupleK_congr funcK_congr Fn_congr rawK_congr takeK_congr stepK_congr convK_congr aggK_congr

set_option maxHeartbeats 4000000 in
theorem readQ_0 {d : Nat} {ok : Blocks} {ver : Int} {ev : Value} (hlo : 0 ≤ ver) (hhi : ver ≤ 0) (w : World) {vb : Nat} (src : Value) (s : List UInt8) (hv : blk w vb = some (#[.int .i16 ver,.slice none 0 0,.bool false,.map none],64,(0,0))) (hsrc : BytesV ok w src s) (hok0 : ∀ b,ok b → b < w.heap.size ∧ b ≠ vb) (hG : Glo ev w) (hgv : ¬ 2 = vb ∧ ¬ 0 = vb) :
    Fn Tryz.prog 41 #[.pointer (some ⟨vb,0,none⟩),src,.bool false] w (ReadQ 64 ok ver (d + 3) fs_Q vb w (rdP (d + 3) ver false fs_Q (some s)) ev) := by
  have hvl := blk_lt hv
  have hgs := hG.lt
  obtain ⟨sa,sc,rfl,_⟩ := hsrc.shape
  refine fn_of_W Tryz.func41 rfl Tryz.results41 Tryz.ntmps41 rfl ?_
  repeat ((first | refine qA rfl ?_|apply qB|refine qC rfl ?_|apply qD|apply qE|apply qF|apply qG|apply qH);try simp (maxSteps:=1000000)(disch:=(first|omega|(simp only [qI,qJ,qK]<;>omega)|exact qL _)) only [go_sem,↓reduceIte,n0,reduceCtorEq,n1,n2,n3,n4,n5,i0,i1,i2,i3,i4,i5,i6,i7,hv])
  refine (DefaultQ_fn w hv).mono ?_
  rintro _ w0 ⟨hv0,hu0⟩
  have hz0 := hu0.size
  have hsrc0 : BytesV ok w0 (.slice sa s.length sc) s := hsrc.keep (hu0.keeps fun b _ hk e => (hok0 b hk).2 e)
  obtain ⟨rb,hrb⟩ : ∃ r,r = w0.heap.size := ⟨_,rfl⟩
  have hE1 : Ext w0 (wr (w0.alloc (.cells #[.slice none 0 0,.bool false] 117)) w0.heap.size 0 [.slice sa s.length sc,.bool false]) := (Upd.alloc (Upd.refl _ _) _).wr _ _ (.inl (Nat.le_refl _))
  have hz1 : (wr (w0.alloc (.cells #[.slice none 0 0,.bool false] 117)) w0.heap.size 0 [.slice sa s.length sc,.bool false]).heap.size = w0.heap.size + 1 := by rw [size_wr,World.size_alloc]
  have hR1 : Rdr RT ok (wr (w0.alloc (.cells #[.slice none 0 0,.bool false] 117)) w0.heap.size 0 [.slice sa s.length sc,.bool false]) w0.heap.size (some s) := Rdr.good (v := .slice sa s.length sc) (by simp (maxSteps:=1000000)(disch:=(first|omega|(simp only [qI,qJ,qK]<;>omega)|exact qL _)) only [go_sem,↓reduceIte,n0,reduceCtorEq,n1,n2,n3,n4,n5,i0,i1,i2,i3,i4,i5,i6,i7]) (hsrc0.keep (hE1.keeps _))
  have hv_1 := hE1.blk_some hv0 id
  repeat ((first | refine qA rfl ?_|apply qB|refine qC rfl ?_|apply qD|apply qE|apply qF|apply qG|apply qH);try simp (maxSteps:=1000000)(disch:=(first|omega|(simp only [qI,qJ,qK]<;>omega)|exact qL _)) only [go_sem,↓reduceIte,n0,reduceCtorEq,n1,n2,n3,n4,n5,i0,i1,i2,i3,i4,i5,i6,i7,hv0])
  generalize (wr (w0.alloc (.cells #[.slice none 0 0,.bool false] 117)) w0.heap.size 0 [.slice sa s.length sc,.bool false]) = w1 at *
  rw [← hrb] at hR1
  try rw [← hrb]
  have hok : ∀ b,ok b → b < w.heap.size ∧ b ≠ vb := hok0
  have hrok : ¬ ok rb := fun h => by have := (hok rb h).1;omega
  have hbase : Upd (fun b => b = vb) w w1 := hu0.trans (hE1.mono fun _ h => h.elim)
  have hG1 : Glo ev w1 := hG.updS hbase hgv.1 hgv.2
  have hgrb : ¬ 2 = rb := by omega
  have hgM1 : ¬ (2 = vb ∨ 2 = rb) := fun h => h.elim hgv.1 fun h => by omega
  have hgM2 : ¬ (0 = vb ∨ 0 = rb) := fun h => h.elim hgv.2 fun h => by omega
  obtain ⟨s0,hs0⟩ : ∃ s' : St,s' = some s := ⟨_,rfl⟩
  rw [← hs0] at hR1 ⊢
  have hU1 : Upd (fun b => b = vb ∨ b = rb) w1 w1 := Upd.refl _ _
  have hoM : ∀ b,(ok b ∨ w1.heap.size ≤ b) → ¬ (b = vb ∨ b = rb) := fun b hk h => by
    rcases hk with hk | hk
    · have := hok b hk;rcases h with h | h <;> omega
    · rcases h with h | h <;> omega
  have hq1 : Rdr RT ok w1 rb s0 := hR1
  obtain ⟨FB,hFB⟩ : ∃ P : Prop,P = ((rdP (d + 3) ver false fs_Q s0).2 = none) := ⟨_,rfl⟩
  have hb_0 : (rdL (rdP (d + 2) ver false) (dfP (d + 2)) ver false [fQ_0,fQ_1] s0).2 = none → FB := fun h => Eq.mpr hFB (rdP_bad h)
  have hh_0 : hasS fQ_0 ver = true := hasS_t (by show (0 : Int) ≤ ver;omega) (by show (-1 : Int) < 0 ∨ ver ≤ (-1 : Int);omega)
  obtain ⟨x_0,hx_0⟩ : ∃ x,x = (rdF (rdP (d + 2) ver false) ver false fQ_0 s0).1 := ⟨_,rfl⟩
  repeat ((first | refine qA rfl ?_|apply qB|refine qC rfl ?_|apply qD|apply qE|apply qF|apply qG|apply qH);try simp (maxSteps:=1000000)(disch:=(first|omega|(simp only [qI,qJ,qK]<;>omega)|exact qL _)) only [go_sem,↓reduceIte,n0,reduceCtorEq,n1,n2,n3,n4,n5,i0,i1,i2,i3,i4,i5,i6,i7,hv_1])
  refine (RArrayLen_fn w1 hq1 hrok hG1.1 hgrb).mono ?_
  rintro _ w2 ⟨rfl,hq2,hu2⟩
  have hv_2 := hu2.blk_some hv_1 (by omega)
  have hV2 : Upd (fun b => b = vb ∨ b = rb) w1 w2 := hu2.mono (fun _ h => .inr h)
  have hU2 : Upd (fun b => b = vb ∨ b = rb) w1 w2 := hU1.trans hV2
  have hz2 := hV2.size
  have hG2 : Glo ev w2 := hG1.updS hU2 hgM1 hgM2
  obtain ⟨s1,hs1⟩ : ∃ s,s = (rdALen false s0).2 := ⟨_,rfl⟩
  rw [← hs1] at hq2
  have hyr0 := rdALen_rng false s0
  generalize hy0 : (rdALen false s0).1 = y0 at *
  obtain ⟨N0,hN0⟩ : ∃ N,N = y0.toNat := ⟨_,rfl⟩
  have hlb0 : (rdMany (rd1 (rdP (d + 2) ver false) fQ_0.of fQ_0.sub false false) N0 s1).2 = none → FB := fun h => hb_0 (by rw [rdL_st (by decide) hh_0];exact rdL_bad (rdF_listbad rfl (by rw [hy0,← hN0,← hs1];exact h)))
  repeat ((first | refine W.seqR rfl ?_ | refine W.seq ?_ | refine W.regR rfl ?_ | refine W.block ?_ | refine W.skip ?_ | refine W.ret ?_ | refine W.exit ?_);try simp (maxSteps:=1000000)(disch:=(first|omega|(simp only [qI,qJ,qK]<;>omega)|exact qL _)) only [go_sem,↓reduceIte,n0,reduceCtorEq,n1,n2,n3,n4,n5,i0,i1,i2,i3,i4,i5,i6,i7,hv_2])
  refine (ROk_fn w2 hq2.1).mono ?_
  rintro _ wz ⟨rfl,hez⟩
  rw [hez]
  clear hez wz
  by_cases hsn0 : s1 = none
  · have hso : s1.isSome = false := by rw [hsn0];rfl
    repeat (first|simp (maxSteps:=1000000)(disch:=(first|omega|(simp only [qI,qJ,qK]<;>omega)|exact qL _)) only [go_sem,↓reduceIte,n0,reduceCtorEq,n1,n2,n3,n4,n5,i0,i1,i2,i3,i4,i5,i6,i7,hv_2,hso]|refine qA rfl ?_|apply qB|refine qC rfl ?_|apply qD|apply qE|apply qF|apply qG|apply qH)
    refine (RComplete_fn w2 hq2.1 hG2.2).mono ?_
    rintro _ wz ⟨rfl,hez⟩
    rw [hez]
    repeat (first|simp (maxSteps:=1000000)(disch:=(first|omega|(simp only [qI,qJ,qK]<;>omega)|exact qL _)) only [go_sem,↓reduceIte,n0,reduceCtorEq,n1,n2,n3,n4,n5,i0,i1,i2,i3,i4,i5,i6,i7,hv_2]|refine qA rfl ?_|apply qB|refine qC rfl ?_|apply qD|apply qE|apply qF|apply qG|apply qH)
    rw [errV_none hsn0]
    exact ReadQ.bad (Eq.mp hFB (hlb0 (by rw [hsn0];exact rdMany_none rd1P_none _))) (hbase.trans' hU2 fun i hi h => h.elim id fun h => by omega)
  have hso0 : s1.isSome = true := isSome_some hsn0
  try simp (maxSteps:=1000000)(disch:=(first|omega|(simp only [qI,qJ,qK]<;>omega)|exact qL _)) only [go_sem,↓reduceIte,n0,reduceCtorEq,n1,n2,n3,n4,n5,i0,i1,i2,i3,i4,i5,i6,i7,hv_2,hso0]
  repeat ((first | refine W.seqR rfl ?_ | refine W.seq ?_ | refine W.regR rfl ?_ | refine W.block ?_ | refine W.skip ?_ | refine W.ret ?_ | refine W.exit ?_);try simp (maxSteps:=1000000)(disch:=(first|omega|(simp only [qI,qJ,qK]<;>omega)|exact qL _)) only [go_sem,↓reduceIte,n0,reduceCtorEq,n1,n2,n3,n4,n5,i0,i1,i2,i3,i4,i5,i6,i7,hv_2,hso0])
  refine W.condK ?_
  try simp (maxSteps:=1000000)(disch:=(first|omega|(simp only [qI,qJ,qK]<;>omega)|exact qL _)) only [go_sem,↓reduceIte,n0,reduceCtorEq,n1,n2,n3,n4,n5,i0,i1,i2,i3,i4,i5,i6,i7,hv_2,hso0]
  repeat ((first | refine W.seqR rfl ?_ | refine W.seq ?_ | refine W.regR rfl ?_ | refine W.block ?_ | refine W.skip ?_ | refine W.ret ?_ | refine W.exit ?_);try simp (maxSteps:=1000000)(disch:=(first|omega|(simp only [qI,qJ,qK]<;>omega)|exact qL _)) only [go_sem,↓reduceIte,n0,reduceCtorEq,n1,n2,n3,n4,n5,i0,i1,i2,i3,i4,i5,i6,i7,hv_2,hso0,slBase_00])
  refine W.normJ (RowQ [(2,.bool false),(7,.pointer (some ⟨rb,0,none⟩)),(8,.int .i16 ver),(9,.bool false),(10,.pointer (some ⟨vb,0,none⟩)),(13,.int .i32 y0)] 12 (fun va w' => LstI RT (rd1 (rdP (d + 2) ver false) fQ_0.of fQ_0.sub false false) (Rep1 (RepS true (d + 2)) fQ_0.of fQ_0.sub) 3 79 [.slice none 0 0,.slice none 0 0,.map none] w2.heap.size N0 ok (fun b => ok b ∨ w1.heap.size ≤ b) rb w2 s1 va 0 s1 [] [] w' ∧ (N0 = 0 → if nilS fQ_0 ver y0 = true then va = .slice none 0 0 else ∃ a,va = .slice (some a) 0 0))) ?_ ?_
  · by_cases hy0 : (0 : Int) < y0
    · have hyv : Value.int .i32 y0 = .int .i32 ((N0 : Nat) : Int) := by rw [show y0 = ((N0 : Nat) : Int) by omega]
      repeat ((first | refine qA rfl ?_|apply qB|refine qC rfl ?_|apply qD|apply qE|apply qF|apply qG|apply qH);try simp (maxSteps:=1000000)(disch:=(first|omega|(simp only [qI,qJ,qK]<;>omega)|exact qL _)) only [go_sem,↓reduceIte,n0,reduceCtorEq,n1,n2,n3,n4,n5,i0,i1,i2,i3,i4,i5,i6,i7,hv_2])
      refine wp_appendZ (m := N0) utQ_59 utQ_21 inQ_79 (by decide) (by first | rfl | simp (maxSteps:=1000000)(disch:=(first|omega|(simp only [qI,qJ,qK]<;>omega)|exact qL _)) only [go_sem,↓reduceIte,n0,reduceCtorEq,n1,n2,n3,n4,n5,i0,i1,i2,i3,i4,i5,i6,i7]) (by first | exact hyv | (simp (maxSteps:=1000000)(disch:=(first|omega|(simp only [qI,qJ,qK]<;>omega)|exact qL _)) only [go_sem,↓reduceIte,n0,reduceCtorEq,n1,n2,n3,n4,n5,i0,i1,i2,i3,i4,i5,i6,i7];exact hyv)) (by omega) (by omega) (by decide) ?_
      intro q rest hq1
      have hEw : Ext w2 (w2.drew.alloc (.cells (zs [.slice none 0 0,.slice none 0 0,.map none] N0 ++ rest).toArray 79)) := (Upd.refl _ _).drew.alloc _
      repeat (first|simp (maxSteps:=1000000)(disch:=(first|omega|(simp only [qI,qJ,qK]<;>omega)|exact qL _)) only [go_sem,↓reduceIte,n0,reduceCtorEq,n1,n2,n3,n4,n5,i0,i1,i2,i3,i4,i5,i6,i7,hv_2]|refine qA rfl ?_|apply qB|refine qC rfl ?_|apply qD|apply qE|apply qF|apply qG|apply qH)
      exact ⟨(by simp (maxSteps:=1000000)(disch:=(first|omega|(simp only [qI,qJ,qK]<;>omega)|exact qL _)) only [go_sem,↓reduceIte,n0,reduceCtorEq,n1,n2,n3,n4,n5,i0,i1,i2,i3,i4,i5,i6,i7,Holds_nil,Holds_cons]),.slice (some ⟨w2.heap.size,0,none⟩) N0 q,(by simp (maxSteps:=1000000)(disch:=(first|omega|(simp only [qI,qJ,qK]<;>omega)|exact qL _)) only [go_sem,↓reduceIte,n0,reduceCtorEq,n1,n2,n3,n4,n5,i0,i1,i2,i3,i4,i5,i6,i7]),LstI.start (RowJ.start (by omega) hq1 (by show w2.heap.size ≤ w2.drew.heap.size;rw [size_drew];omega) (blk_alloc_new rfl)) ⟨hq2.1.upd hEw (fun h => h) (fun _ _ _ h => h),hq2.2.upd hEw fun h => h⟩ (hEw.mono fun _ h => h.elim),fun h0 => by omega⟩
    · repeat ((first | refine qA rfl ?_|apply qB|refine qC rfl ?_|apply qD|apply qE|apply qF|apply qG|apply qH);try simp (maxSteps:=1000000)(disch:=(first|omega|(simp only [qI,qJ,qK]<;>omega)|exact qL _)) only [go_sem,↓reduceIte,n0,reduceCtorEq,n1,n2,n3,n4,n5,i0,i1,i2,i3,i4,i5,i6,i7,hv_2])
      exact ⟨(by simp (maxSteps:=1000000)(disch:=(first|omega|(simp only [qI,qJ,qK]<;>omega)|exact qL _)) only [go_sem,↓reduceIte,n0,reduceCtorEq,n1,n2,n3,n4,n5,i0,i1,i2,i3,i4,i5,i6,i7,Holds_nil,Holds_cons]),.slice none 0 0,(by simp (maxSteps:=1000000)(disch:=(first|omega|(simp only [qI,qJ,qK]<;>omega)|exact qL _)) only [go_sem,↓reduceIte,n0,reduceCtorEq,n1,n2,n3,n4,n5,i0,i1,i2,i3,i4,i5,i6,i7,slBase_00]),LstI.start (RowJ.zero (by omega) (fun _ h => by cases h)) hq2 (Upd.refl _ _),fun _ => by rw [nilS_plain (by decide) (by omega)];exact rfl⟩
  rintro ρ w3 ⟨⟨hrb0_2,hrb0_7,hrb0_8,hrb0_9,hrb0_10,hrb0_13,-⟩,va0,hra0,hL0,hnc0⟩
  repeat ((first | refine qA rfl ?_|apply qB|refine qC rfl ?_|apply qD|apply qE|apply qF|apply qG|apply qH);try simp (maxSteps:=1000000)(disch:=(first|omega|(simp only [qI,qJ,qK]<;>omega)|exact qL _)) only [go_sem,↓reduceIte,n0,reduceCtorEq,n1,n2,n3,n4,n5,i0,i1,i2,i3,i4,i5,i6,i7,hv_2,hrb0_2,hrb0_7,hrb0_8,hrb0_9,hrb0_10,hrb0_13,hra0,exitRQ_ret,exitRQ_exit,Int.toNat_natCast,Nat.mul_one])
  refine W.exitRJ 0 (EndQ [(2,.bool false),(7,.pointer (some ⟨rb,0,none⟩)),(8,.int .i16 ver),(9,.bool false),(10,.pointer (some ⟨vb,0,none⟩)),(13,.int .i32 y0),(12,va0)] (fun w' => ∃ s xs css,LstI RT (rd1 (rdP (d + 2) ver false) fQ_0.of fQ_0.sub false false) (Rep1 (RepS true (d + 2)) fQ_0.of fQ_0.sub) 3 79 [.slice none 0 0,.slice none 0 0,.map none] w2.heap.size N0 ok (fun b => ok b ∨ w1.heap.size ≤ b) rb w2 s1 va0 N0 s xs css w')) (W.loop (LoopQ [(2,.bool false),(7,.pointer (some ⟨rb,0,none⟩)),(8,.int .i16 ver),(9,.bool false),(10,.pointer (some ⟨vb,0,none⟩)),(13,.int .i32 y0),(12,va0)] 14 (fun j w' => ∃ s xs css,LstI RT (rd1 (rdP (d + 2) ver false) fQ_0.of fQ_0.sub false false) (Rep1 (RepS true (d + 2)) fQ_0.of fQ_0.sub) 3 79 [.slice none 0 0,.slice none 0 0,.map none] w2.heap.size N0 ok (fun b => ok b ∨ w1.heap.size ≤ b) rb w2 s1 va0 j s xs css w')) (fun ρ _ => N0 - (RowKit.intOf (ρ 14)).toNat) ?_ ?_) ?_
  · exact ⟨(by simp (maxSteps:=1000000)(disch:=(first|omega|(simp only [qI,qJ,qK]<;>omega)|exact qL _)) only [go_sem,↓reduceIte,n0,reduceCtorEq,n1,n2,n3,n4,n5,i0,i1,i2,i3,i4,i5,i6,i7,Holds_nil,Holds_cons,hrb0_2,hrb0_7,hrb0_8,hrb0_9,hrb0_10,hrb0_13,hra0]),0,(by simp (maxSteps:=1000000)(disch:=(first|omega|(simp only [qI,qJ,qK]<;>omega)|exact qL _)) only [go_sem,↓reduceIte,n0,reduceCtorEq,n1,n2,n3,n4,n5,i0,i1,i2,i3,i4,i5,i6,i7,hrb0_2,hrb0_7,hrb0_8,hrb0_9,hrb0_10,hrb0_13,hra0];all_goals rfl),s1,[],[],hL0⟩
  · rintro ρ w4 ⟨⟨hrc0_2,hrc0_7,hrc0_8,hrc0_9,hrc0_10,hrc0_13,hrc0_12,-⟩,j1,hri0,s2,xs0,css0,hL0⟩
    have hj0 := hL0.le
    have hq4 := hL0.rd
    have hU4 : Upd (fun b => b = vb ∨ b = rb) w1 w4 := hU2.trans' hL0.upd fun i _ h => .inr h
    have hz4 := hL0.upd.size
    have hG4 : Glo ev w4 := hG1.updS hU4 hgM1 hgM2
    by_cases hlt0 : j1 < N0
    · obtain ⟨R1,q1,B1,hva1,hNq1,hLR1,hA1,hx1_4,hnext1⟩ := hL0.row.next hlt0
      have hRl1 := blk_lt hx1_4
      generalize css0.flatten = A1 at hA1 hx1_4 hnext1
      replace hra0 : ρ 12 = .slice (some ⟨R1,0,none⟩) N0 q1 := hrc0_12.trans hva1
      have hown1 : ∀ b,ownB va0 b → w2.heap.size ≤ b ∧ b < w4.heap.size := fun b h => hL0.row.own h
      have hoM1 : ∀ b,(fun b => (ok b ∨ w1.heap.size ≤ b) ∧ ¬ ownB va0 b) b → ¬ (b = R1 ∨ b = rb) := fun b hk h => h.elim (fun e => hk.2 ⟨_,_,_,hva1,e⟩) (fun e => hoM b hk.1 (.inr e))
      obtain ⟨X4,hX4⟩ : ∃ X : Array Value,X = (A1 ++ (([.slice none 0 0,.slice none 0 0,.map none] : List Value) ++ B1)).toArray := ⟨_,rfl⟩
      have hxb4 : blk w4 R1 = some (X4,79,(0,0)) := by rw [hX4];exact hx1_4
      have hXs4 : j1 * 3 + 3 ≤ X4.size := by rw [hX4];simp only [List.size_toArray,List.length_append,List.length_cons,List.length_nil,hA1];omega
      repeat ((first | refine qA rfl ?_|apply qB|refine qC rfl ?_|apply qD|apply qE|apply qF|apply qG|apply qH);try simp (maxSteps:=1000000)(disch:=(first|omega|(simp only [qI,qJ,qK]<;>omega)|exact qL _)) only [go_sem,↓reduceIte,n0,reduceCtorEq,n1,n2,n3,n4,n5,i0,i1,i2,i3,i4,i5,i6,i7,hxb4,hrc0_2,hrc0_7,hrc0_8,hrc0_9,hrc0_10,hrc0_13,hra0,hri0,exitRQ_ret,exitRQ_exit,Int.toNat_natCast,Nat.mul_one])
      refine (DefaultEX2_fn w4 hx1_4 hA1).mono ?_
      rintro _ w5 ⟨hx1_5,hu5⟩
      have hq5 := And.intro (hq4.1.upd hu5 (by omega) (fun b _ hk e => by have := (hok b hk).1;omega)) (hq4.2.upd hu5 (by omega))
      have hV5 : Upd (fun b => b = R1 ∨ b = rb) w4 w5 := hu5.mono (fun _ h => .inl h)
      have hU5 : Upd (fun b => b = vb ∨ b = rb) w1 w5 := hU4.trans' hV5 fun i hi h => h.elim (fun h => by omega) .inr
      have hz5 := hV5.size
      have hG5 : Glo ev w5 := hG1.updS hU5 hgM1 hgM2
      obtain ⟨X5,hX5⟩ : ∃ X : Array Value,X = (A1 ++ (([.slice none 0 0,.slice none 0 0,.map none] : List Value) ++ B1)).toArray := ⟨_,rfl⟩
      have hxb5 : blk w5 R1 = some (X5,79,(0,0)) := by rw [hX5];exact hx1_5
      have hXs5 : j1 * 3 + 3 ≤ X5.size := by rw [hX5];simp only [List.size_toArray,List.length_append,List.length_cons,List.length_nil,hA1];omega
      have hbe0_0 : (rdL (rdP (d + 1) ver false) (dfP (d + 1)) ver false [fX2_0,fX2_1] s2).2 = none → FB := fun h => hlb0 (hL0.bad hlt0 rd1P_none (by show (rd1 (rdP (d + 2) ver false) 10 fs_X2 false false s2).2 = none;rw [rd1_part];exact rdP_bad h))
      have hhe0_0 : hasS fX2_0 ver = true := hasS_t (by show (0 : Int) ≤ ver;omega) (by show (-1 : Int) < 0 ∨ ver ≤ (-1 : Int);omega)
      obtain ⟨xe0_0,hxe0_0⟩ : ∃ x,x = (rdF (rdP (d + 1) ver false) ver false fX2_0 s2).1 := ⟨_,rfl⟩
      have hld5_0 : X5[j1 * 3]? = some (.slice none 0 0) := by rw [hX5];exact el_cell0 hA1 (Nat.le_of_ble_eq_true rfl)
      repeat ((first | refine qA rfl ?_|apply qB|refine qC rfl ?_|apply qD|apply qE|apply qF|apply qG|apply qH);try simp (maxSteps:=1000000)(disch:=(first|omega|(simp only [qI,qJ,qK]<;>omega)|exact qL _)) only [go_sem,↓reduceIte,n0,reduceCtorEq,n1,n2,n3,n4,n5,i0,i1,i2,i3,i4,i5,i6,i7,hxb5,hrc0_2,hrc0_7,hrc0_8,hrc0_9,hrc0_10,hrc0_13,hra0,hri0,exitRQ_ret,exitRQ_exit,Int.toNat_natCast,Nat.mul_one,hld5_0])
      refine (RArrayLen_fn w5 hq5.1 hrok hG5.1 hgrb).mono ?_
      rintro _ w6 ⟨rfl,hq6,hu6⟩
      have hx1_6 := hu6.blk_some hx1_5 (by omega)
      have hV6 : Upd (fun b => b = R1 ∨ b = rb) w5 w6 := hu6.mono (fun _ h => .inr h)
      have hU6 : Upd (fun b => b = vb ∨ b = rb) w1 w6 := hU5.trans' hV6 fun i hi h => h.elim (fun h => by omega) .inr
      have hz6 := hV6.size
      have hG6 : Glo ev w6 := hG1.updS hU6 hgM1 hgM2
      obtain ⟨X6,hX6⟩ : ∃ X : Array Value,X = (A1 ++ (([.slice none 0 0,.slice none 0 0,.map none] : List Value) ++ B1)).toArray := ⟨_,rfl⟩
      have hxb6 : blk w6 R1 = some (X6,79,(0,0)) := by rw [hX6];exact hx1_6
      have hXs6 : j1 * 3 + 3 ≤ X6.size := by rw [hX6];simp only [List.size_toArray,List.length_append,List.length_cons,List.length_nil,hA1];omega
      obtain ⟨s3,hs3⟩ : ∃ s,s = (rdALen false s2).2 := ⟨_,rfl⟩
      rw [← hs3] at hq6
      have hyr1 := rdALen_rng false s2
      generalize hy1 : (rdALen false s2).1 = y1 at *
      obtain ⟨N1,hN1⟩ : ∃ N,N = y1.toNat := ⟨_,rfl⟩
      have hlb1 : (rdMany (rd1 (rdP (d + 1) ver false) fX2_0.of fX2_0.sub false false) N1 s3).2 = none → FB := fun h => hbe0_0 (by rw [rdL_st (by decide) hhe0_0];exact rdL_bad (rdF_listbad rfl (by rw [hy1,← hN1,← hs3];exact h)))
      repeat ((first | refine W.seqR rfl ?_ | refine W.seq ?_ | refine W.regR rfl ?_ | refine W.block ?_ | refine W.skip ?_ | refine W.ret ?_ | refine W.exit ?_);try simp (maxSteps:=1000000)(disch:=(first|omega|(simp only [qI,qJ,qK]<;>omega)|exact qL _)) only [go_sem,↓reduceIte,n0,reduceCtorEq,n1,n2,n3,n4,n5,i0,i1,i2,i3,i4,i5,i6,i7,hxb6,hrc0_2,hrc0_7,hrc0_8,hrc0_9,hrc0_10,hrc0_13,hra0,hri0,exitRQ_ret,exitRQ_exit,Int.toNat_natCast,Nat.mul_one])
      refine (ROk_fn w6 hq6.1).mono ?_
      rintro _ wz ⟨rfl,hez⟩
      rw [hez]
      clear hez wz
      by_cases hsn1 : s3 = none
      · have hso : s3.isSome = false := by rw [hsn1];rfl
        repeat (first|simp (maxSteps:=1000000)(disch:=(first|omega|(simp only [qI,qJ,qK]<;>omega)|exact qL _)) only [go_sem,↓reduceIte,n0,reduceCtorEq,n1,n2,n3,n4,n5,i0,i1,i2,i3,i4,i5,i6,i7,hxb6,hrc0_2,hrc0_7,hrc0_8,hrc0_9,hrc0_10,hrc0_13,hra0,hri0,exitRQ_ret,exitRQ_exit,Int.toNat_natCast,Nat.mul_one,hso]|refine qA rfl ?_|apply qB|refine qC rfl ?_|apply qD|apply qE|apply qF|apply qG|apply qH)
        refine (RComplete_fn w6 hq6.1 hG6.2).mono ?_
        rintro _ wz ⟨rfl,hez⟩
        rw [hez]
        repeat (first|simp (maxSteps:=1000000)(disch:=(first|omega|(simp only [qI,qJ,qK]<;>omega)|exact qL _)) only [go_sem,↓reduceIte,n0,reduceCtorEq,n1,n2,n3,n4,n5,i0,i1,i2,i3,i4,i5,i6,i7,hxb6,hrc0_2,hrc0_7,hrc0_8,hrc0_9,hrc0_10,hrc0_13,hra0,hri0,exitRQ_ret,exitRQ_exit,Int.toNat_natCast,Nat.mul_one]|refine qA rfl ?_|apply qB|refine qC rfl ?_|apply qD|apply qE|apply qF|apply qG|apply qH)
        rw [errV_none hsn1]
        exact ReadQ.bad (Eq.mp hFB (hlb1 (by rw [hsn1];exact rdMany_none rd1P_none _))) (hbase.trans' hU6 fun i hi h => h.elim id fun h => by omega)
      have hso1 : s3.isSome = true := isSome_some hsn1
      try simp (maxSteps:=1000000)(disch:=(first|omega|(simp only [qI,qJ,qK]<;>omega)|exact qL _)) only [go_sem,↓reduceIte,n0,reduceCtorEq,n1,n2,n3,n4,n5,i0,i1,i2,i3,i4,i5,i6,i7,hxb6,hrc0_2,hrc0_7,hrc0_8,hrc0_9,hrc0_10,hrc0_13,hra0,hri0,exitRQ_ret,exitRQ_exit,Int.toNat_natCast,Nat.mul_one,hso1]
      repeat ((first | refine W.seqR rfl ?_ | refine W.seq ?_ | refine W.regR rfl ?_ | refine W.block ?_ | refine W.skip ?_ | refine W.ret ?_ | refine W.exit ?_);try simp (maxSteps:=1000000)(disch:=(first|omega|(simp only [qI,qJ,qK]<;>omega)|exact qL _)) only [go_sem,↓reduceIte,n0,reduceCtorEq,n1,n2,n3,n4,n5,i0,i1,i2,i3,i4,i5,i6,i7,hxb6,hrc0_2,hrc0_7,hrc0_8,hrc0_9,hrc0_10,hrc0_13,hra0,hri0,exitRQ_ret,exitRQ_exit,Int.toNat_natCast,Nat.mul_one,hso1])
      refine W.condK ?_
      try simp (maxSteps:=1000000)(disch:=(first|omega|(simp only [qI,qJ,qK]<;>omega)|exact qL _)) only [go_sem,↓reduceIte,n0,reduceCtorEq,n1,n2,n3,n4,n5,i0,i1,i2,i3,i4,i5,i6,i7,hxb6,hrc0_2,hrc0_7,hrc0_8,hrc0_9,hrc0_10,hrc0_13,hra0,hri0,exitRQ_ret,exitRQ_exit,Int.toNat_natCast,Nat.mul_one,hso1]
      repeat ((first | refine W.seqR rfl ?_ | refine W.seq ?_ | refine W.regR rfl ?_ | refine W.block ?_ | refine W.skip ?_ | refine W.ret ?_ | refine W.exit ?_);try simp (maxSteps:=1000000)(disch:=(first|omega|(simp only [qI,qJ,qK]<;>omega)|exact qL _)) only [go_sem,↓reduceIte,n0,reduceCtorEq,n1,n2,n3,n4,n5,i0,i1,i2,i3,i4,i5,i6,i7,hxb6,hrc0_2,hrc0_7,hrc0_8,hrc0_9,hrc0_10,hrc0_13,hra0,hri0,exitRQ_ret,exitRQ_exit,Int.toNat_natCast,Nat.mul_one,hso1,slBase_00])
      refine W.normJ (RowQ [(2,.bool false),(7,.pointer (some ⟨rb,0,none⟩)),(8,.int .i16 ver),(9,.bool false),(10,.pointer (some ⟨vb,0,none⟩)),(13,.int .i32 y0),(12,.slice (some ⟨R1,0,none⟩) N0 q1),(14,.int .i32 j1),(16,.pointer (some ⟨R1,j1 * 3,none⟩)),(19,.int .i32 y1)] 18 (fun va w' => LstI RT (rd1 (rdP (d + 1) ver false) fX2_0.of fX2_0.sub false false) (Rep1 (RepS true (d + 1)) fX2_0.of fX2_0.sub) 3 83 [.string ByteArray.empty,.pointer none,.map none] w6.heap.size N1 ok (fun b => (ok b ∨ w1.heap.size ≤ b) ∧ ¬ ownB va0 b) rb w6 s3 va 0 s3 [] [] w' ∧ (N1 = 0 → if nilS fX2_0 ver y1 = true then va = .slice none 0 0 else ∃ a,va = .slice (some a) 0 0))) ?_ ?_
      · by_cases hy0 : (0 : Int) < y1
        · have hyv : Value.int .i32 y1 = .int .i32 ((N1 : Nat) : Int) := by rw [show y1 = ((N1 : Nat) : Int) by omega]
          repeat ((first | refine qA rfl ?_|apply qB|refine qC rfl ?_|apply qD|apply qE|apply qF|apply qG|apply qH);try simp (maxSteps:=1000000)(disch:=(first|omega|(simp only [qI,qJ,qK]<;>omega)|exact qL _)) only [go_sem,↓reduceIte,n0,reduceCtorEq,n1,n2,n3,n4,n5,i0,i1,i2,i3,i4,i5,i6,i7,hxb6,hrc0_2,hrc0_7,hrc0_8,hrc0_9,hrc0_10,hrc0_13,hra0,hri0,exitRQ_ret,exitRQ_exit,Int.toNat_natCast,Nat.mul_one])
          refine wp_appendZ (m := N1) utQ_76 utQ_21 inQ_83 (by decide) (by first | rfl | simp (maxSteps:=1000000)(disch:=(first|omega|(simp only [qI,qJ,qK]<;>omega)|exact qL _)) only [go_sem,↓reduceIte,n0,reduceCtorEq,n1,n2,n3,n4,n5,i0,i1,i2,i3,i4,i5,i6,i7,hrc0_2,hrc0_7,hrc0_8,hrc0_9,hrc0_10,hrc0_13,hra0,hri0]) (by first | exact hyv | (simp (maxSteps:=1000000)(disch:=(first|omega|(simp only [qI,qJ,qK]<;>omega)|exact qL _)) only [go_sem,↓reduceIte,n0,reduceCtorEq,n1,n2,n3,n4,n5,i0,i1,i2,i3,i4,i5,i6,i7,hrc0_2,hrc0_7,hrc0_8,hrc0_9,hrc0_10,hrc0_13,hra0,hri0];exact hyv)) (by omega) (by omega) (by decide) ?_
          intro q rest hq1
          have hEw : Ext w6 (w6.drew.alloc (.cells (zs [.string ByteArray.empty,.pointer none,.map none] N1 ++ rest).toArray 83)) := (Upd.refl _ _).drew.alloc _
          repeat (first|simp (maxSteps:=1000000)(disch:=(first|omega|(simp only [qI,qJ,qK]<;>omega)|exact qL _)) only [go_sem,↓reduceIte,n0,reduceCtorEq,n1,n2,n3,n4,n5,i0,i1,i2,i3,i4,i5,i6,i7,hxb6,hrc0_2,hrc0_7,hrc0_8,hrc0_9,hrc0_10,hrc0_13,hra0,hri0,exitRQ_ret,exitRQ_exit,Int.toNat_natCast,Nat.mul_one]|refine qA rfl ?_|apply qB|refine qC rfl ?_|apply qD|apply qE|apply qF|apply qG|apply qH)
          exact ⟨(by simp (maxSteps:=1000000)(disch:=(first|omega|(simp only [qI,qJ,qK]<;>omega)|exact qL _)) only [go_sem,↓reduceIte,n0,reduceCtorEq,n1,n2,n3,n4,n5,i0,i1,i2,i3,i4,i5,i6,i7,Holds_nil,Holds_cons,hrc0_2,hrc0_7,hrc0_8,hrc0_9,hrc0_10,hrc0_13,hra0,hri0]),.slice (some ⟨w6.heap.size,0,none⟩) N1 q,(by simp (maxSteps:=1000000)(disch:=(first|omega|(simp only [qI,qJ,qK]<;>omega)|exact qL _)) only [go_sem,↓reduceIte,n0,reduceCtorEq,n1,n2,n3,n4,n5,i0,i1,i2,i3,i4,i5,i6,i7,hrc0_2,hrc0_7,hrc0_8,hrc0_9,hrc0_10,hrc0_13,hra0,hri0]),LstI.start (RowJ.start (by omega) hq1 (by show w6.heap.size ≤ w6.drew.heap.size;rw [size_drew];omega) (blk_alloc_new rfl)) ⟨hq6.1.upd hEw (fun h => h) (fun _ _ _ h => h),hq6.2.upd hEw fun h => h⟩ (hEw.mono fun _ h => h.elim),fun h0 => by omega⟩
        · repeat ((first | refine qA rfl ?_|apply qB|refine qC rfl ?_|apply qD|apply qE|apply qF|apply qG|apply qH);try simp (maxSteps:=1000000)(disch:=(first|omega|(simp only [qI,qJ,qK]<;>omega)|exact qL _)) only [go_sem,↓reduceIte,n0,reduceCtorEq,n1,n2,n3,n4,n5,i0,i1,i2,i3,i4,i5,i6,i7,hxb6,hrc0_2,hrc0_7,hrc0_8,hrc0_9,hrc0_10,hrc0_13,hra0,hri0,exitRQ_ret,exitRQ_exit,Int.toNat_natCast,Nat.mul_one])
          exact ⟨(by simp (maxSteps:=1000000)(disch:=(first|omega|(simp only [qI,qJ,qK]<;>omega)|exact qL _)) only [go_sem,↓reduceIte,n0,reduceCtorEq,n1,n2,n3,n4,n5,i0,i1,i2,i3,i4,i5,i6,i7,Holds_nil,Holds_cons,hrc0_2,hrc0_7,hrc0_8,hrc0_9,hrc0_10,hrc0_13,hra0,hri0]),.slice none 0 0,(by simp (maxSteps:=1000000)(disch:=(first|omega|(simp only [qI,qJ,qK]<;>omega)|exact qL _)) only [go_sem,↓reduceIte,n0,reduceCtorEq,n1,n2,n3,n4,n5,i0,i1,i2,i3,i4,i5,i6,i7,hrc0_2,hrc0_7,hrc0_8,hrc0_9,hrc0_10,hrc0_13,hra0,hri0,slBase_00]),LstI.start (RowJ.zero (by omega) (fun _ h => by cases h)) hq6 (Upd.refl _ _),fun _ => by rw [nilS_plain (by decide) (by omega)];exact rfl⟩
      rintro ρ w7 ⟨⟨hrb1_2,hrb1_7,hrb1_8,hrb1_9,hrb1_10,hrb1_13,hrb1_12,hrb1_14,hrb1_16,hrb1_19,-⟩,va1,hra1,hL1,hnc1⟩
      repeat ((first | refine qA rfl ?_|apply qB|refine qC rfl ?_|apply qD|apply qE|apply qF|apply qG|apply qH);try simp (maxSteps:=1000000)(disch:=(first|omega|(simp only [qI,qJ,qK]<;>omega)|exact qL _)) only [go_sem,↓reduceIte,n0,reduceCtorEq,n1,n2,n3,n4,n5,i0,i1,i2,i3,i4,i5,i6,i7,hxb6,hrb1_2,hrb1_7,hrb1_8,hrb1_9,hrb1_10,hrb1_13,hrb1_12,hrb1_14,hrb1_16,hrb1_19,hra1,exitRQ_ret,exitRQ_exit,Int.toNat_natCast,Nat.mul_one])
      refine W.exitRJ 2 (EndQ [(2,.bool false),(7,.pointer (some ⟨rb,0,none⟩)),(8,.int .i16 ver),(9,.bool false),(10,.pointer (some ⟨vb,0,none⟩)),(13,.int .i32 y0),(12,.slice (some ⟨R1,0,none⟩) N0 q1),(14,.int .i32 j1),(16,.pointer (some ⟨R1,j1 * 3,none⟩)),(19,.int .i32 y1),(18,va1)] (fun w' => ∃ s xs css,LstI RT (rd1 (rdP (d + 1) ver false) fX2_0.of fX2_0.sub false false) (Rep1 (RepS true (d + 1)) fX2_0.of fX2_0.sub) 3 83 [.string ByteArray.empty,.pointer none,.map none] w6.heap.size N1 ok (fun b => (ok b ∨ w1.heap.size ≤ b) ∧ ¬ ownB va0 b) rb w6 s3 va1 N1 s xs css w')) (W.loop (LoopQ [(2,.bool false),(7,.pointer (some ⟨rb,0,none⟩)),(8,.int .i16 ver),(9,.bool false),(10,.pointer (some ⟨vb,0,none⟩)),(13,.int .i32 y0),(12,.slice (some ⟨R1,0,none⟩) N0 q1),(14,.int .i32 j1),(16,.pointer (some ⟨R1,j1 * 3,none⟩)),(19,.int .i32 y1),(18,va1)] 20 (fun j w' => ∃ s xs css,LstI RT (rd1 (rdP (d + 1) ver false) fX2_0.of fX2_0.sub false false) (Rep1 (RepS true (d + 1)) fX2_0.of fX2_0.sub) 3 83 [.string ByteArray.empty,.pointer none,.map none] w6.heap.size N1 ok (fun b => (ok b ∨ w1.heap.size ≤ b) ∧ ¬ ownB va0 b) rb w6 s3 va1 j s xs css w')) (fun ρ _ => N1 - (RowKit.intOf (ρ 20)).toNat) ?_ ?_) ?_
      · exact ⟨(by simp (maxSteps:=1000000)(disch:=(first|omega|(simp only [qI,qJ,qK]<;>omega)|exact qL _)) only [go_sem,↓reduceIte,n0,reduceCtorEq,n1,n2,n3,n4,n5,i0,i1,i2,i3,i4,i5,i6,i7,Holds_nil,Holds_cons,hrb1_2,hrb1_7,hrb1_8,hrb1_9,hrb1_10,hrb1_13,hrb1_12,hrb1_14,hrb1_16,hrb1_19,hra1]),0,(by simp (maxSteps:=1000000)(disch:=(first|omega|(simp only [qI,qJ,qK]<;>omega)|exact qL _)) only [go_sem,↓reduceIte,n0,reduceCtorEq,n1,n2,n3,n4,n5,i0,i1,i2,i3,i4,i5,i6,i7,hrb1_2,hrb1_7,hrb1_8,hrb1_9,hrb1_10,hrb1_13,hrb1_12,hrb1_14,hrb1_16,hrb1_19,hra1];all_goals rfl),s3,[],[],hL1⟩
      · rintro ρ w8 ⟨⟨hrc1_2,hrc1_7,hrc1_8,hrc1_9,hrc1_10,hrc1_13,hrc1_12,hrc1_14,hrc1_16,hrc1_19,hrc1_18,-⟩,j2,hri1,s4,xs1,css1,hL1⟩
        have hj1 := hL1.le
        have hq8 := hL1.rd
        have hU8 : Upd (fun b => b = vb ∨ b = rb) w1 w8 := hU6.trans' hL1.upd fun i _ h => .inr h
        have hz8 := hL1.upd.size
        have hG8 : Glo ev w8 := hG1.updS hU8 hgM1 hgM2
        by_cases hlt1 : j2 < N1
        · obtain ⟨R2,q2,B2,hva2,hNq2,hLR2,hA2,hx2_8,hnext2⟩ := hL1.row.next hlt1
          have hRl2 := blk_lt hx2_8
          generalize css1.flatten = A2 at hA2 hx2_8 hnext2
          replace hra1 : ρ 18 = .slice (some ⟨R2,0,none⟩) N1 q2 := hrc1_18.trans hva2
          have hown2 : ∀ b,ownB va1 b → w6.heap.size ≤ b ∧ b < w8.heap.size := fun b h => hL1.row.own h
          have hoM2 : ∀ b,(fun b => (fun b => (ok b ∨ w1.heap.size ≤ b) ∧ ¬ ownB va0 b) b ∧ ¬ ownB va1 b) b → ¬ (b = R2 ∨ b = rb) := fun b hk h => h.elim (fun e => hk.2 ⟨_,_,_,hva2,e⟩) (fun e => hoM1 b hk.1 (.inr e))
          obtain ⟨X8,hX8⟩ : ∃ X : Array Value,X = (A2 ++ (([.string ByteArray.empty,.pointer none,.map none] : List Value) ++ B2)).toArray := ⟨_,rfl⟩
          have hxb8 : blk w8 R2 = some (X8,83,(0,0)) := by rw [hX8];exact hx2_8
          have hXs8 : j2 * 3 + 3 ≤ X8.size := by rw [hX8];simp only [List.size_toArray,List.length_append,List.length_cons,List.length_nil,hA2];omega
          repeat ((first | refine qA rfl ?_|apply qB|refine qC rfl ?_|apply qD|apply qE|apply qF|apply qG|apply qH);try simp (maxSteps:=1000000)(disch:=(first|omega|(simp only [qI,qJ,qK]<;>omega)|exact qL _)) only [go_sem,↓reduceIte,n0,reduceCtorEq,n1,n2,n3,n4,n5,i0,i1,i2,i3,i4,i5,i6,i7,hxb8,hrc1_2,hrc1_7,hrc1_8,hrc1_9,hrc1_10,hrc1_13,hrc1_12,hrc1_14,hrc1_16,hrc1_19,hra1,hri1,exitRQ_ret,exitRQ_exit,Int.toNat_natCast,Nat.mul_one])
          refine (DefaultEX0_fn w8 hx2_8 hA2).mono ?_
          rintro _ w9 ⟨hx2_9,hu9⟩
          have hq9 := And.intro (hq8.1.upd hu9 (by omega) (fun b _ hk e => by have := (hok b hk).1;omega)) (hq8.2.upd hu9 (by omega))
          have hV9 : Upd (fun b => b = R2 ∨ b = rb) w8 w9 := hu9.mono (fun _ h => .inl h)
          have hU9 : Upd (fun b => b = vb ∨ b = rb) w1 w9 := hU8.trans' hV9 fun i hi h => h.elim (fun h => by omega) .inr
          have hz9 := hV9.size
          have hG9 : Glo ev w9 := hG1.updS hU9 hgM1 hgM2
          obtain ⟨X9,hX9⟩ : ∃ X : Array Value,X = (A2 ++ (([.string ByteArray.empty,.pointer none,.map none] : List Value) ++ B2)).toArray := ⟨_,rfl⟩
          have hxb9 : blk w9 R2 = some (X9,83,(0,0)) := by rw [hX9];exact hx2_9
          have hXs9 : j2 * 3 + 3 ≤ X9.size := by rw [hX9];simp only [List.size_toArray,List.length_append,List.length_cons,List.length_nil,hA2];omega
          have hbe0e1_0 : (rdL (rdP d ver false) (dfP d) ver false [fX0_0,fX0_1] s4).2 = none → FB := fun h => hlb1 (hL1.bad hlt1 rd1P_none (by show (rd1 (rdP (d + 1) ver false) 10 fs_X0 false false s4).2 = none;rw [rd1_part];exact rdP_bad h))
          have hhe0e1_0 : hasS fX0_0 ver = true := hasS_t (by show (0 : Int) ≤ ver;omega) (by show (-1 : Int) < 0 ∨ ver ≤ (-1 : Int);omega)
          obtain ⟨xe0e1_0,hxe0e1_0⟩ : ∃ x,x = (rdF (rdP d ver false) ver false fX0_0 s4).1 := ⟨_,rfl⟩
          repeat ((first | refine qA rfl ?_|apply qB|refine qC rfl ?_|apply qD|apply qE|apply qF|apply qG|apply qH);try simp (maxSteps:=1000000)(disch:=(first|omega|(simp only [qI,qJ,qK]<;>omega)|exact qL _)) only [go_sem,↓reduceIte,n0,reduceCtorEq,n1,n2,n3,n4,n5,i0,i1,i2,i3,i4,i5,i6,i7,hxb9,hrc1_2,hrc1_7,hrc1_8,hrc1_9,hrc1_10,hrc1_13,hrc1_12,hrc1_14,hrc1_16,hrc1_19,hra1,hri1,exitRQ_ret,exitRQ_exit,Int.toNat_natCast,Nat.mul_one])
          have hmay : mayS fX0_0 ver = false := mayS_no (by show (-1 : Int) < 0 ∨ ver < (-1 : Int);omega)
          have hrd : rdF (rdP d ver false) ver false fX0_0 s4 = _ := rdF_text rfl hmay
          refine (RString_fn w9 hq9.1 hrok hG9.1 hgrb).mono ?_
          rintro _ w10 ⟨rfl,hq10,hu10⟩
          have hx2_10 := hu10.blk_some hx2_9 (by omega)
          have hV10 : Upd (fun b => b = R2 ∨ b = rb) w9 w10 := hu10.mono (fun _ h => .inr h)
          have hU10 : Upd (fun b => b = vb ∨ b = rb) w1 w10 := hU9.trans' hV10 fun i hi h => h.elim (fun h => by omega) .inr
          have hz10 := hV10.size
          have hG10 : Glo ev w10 := hG1.updS hU10 hgM1 hgM2
          obtain ⟨X10,hX10⟩ : ∃ X : Array Value,X = (A2 ++ (([.string ByteArray.empty,.pointer none,.map none] : List Value) ++ B2)).toArray := ⟨_,rfl⟩
          have hxb10 : blk w10 R2 = some (X10,83,(0,0)) := by rw [hX10];exact hx2_10
          have hXs10 : j2 * 3 + 3 ≤ X10.size := by rw [hX10];simp only [List.size_toArray,List.length_append,List.length_cons,List.length_nil,hA2];omega
          have hst : (rdF (rdP d ver false) ver false fX0_0 s4).2 = (rdStr false s4).2 := by first | (rw [hrd];rfl) | rw [hrd]
          obtain ⟨s5,hs5⟩ : ∃ s,s = (rdF (rdP d ver false) ver false fX0_0 s4).2 := ⟨_,rfl⟩
          rw [← hst,← hs5] at hq10
          clear hst
          have hst10_0 : j2 * 3 + 1 ≤ X10.size := by omega
          repeat ((first | refine qA rfl ?_|apply qB|refine qC rfl ?_|apply qD|apply qE|apply qF|apply qG|apply qH);try simp (maxSteps:=1000000)(disch:=(first|omega|(simp only [qI,qJ,qK]<;>omega)|exact qL _)) only [go_sem,↓reduceIte,n0,reduceCtorEq,n1,n2,n3,n4,n5,i0,i1,i2,i3,i4,i5,i6,i7,hxb10,hrc1_2,hrc1_7,hrc1_8,hrc1_9,hrc1_10,hrc1_13,hrc1_12,hrc1_14,hrc1_16,hrc1_19,hra1,hri1,exitRQ_ret,exitRQ_exit,Int.toNat_natCast,Nat.mul_one,hst10_0])
          generalize hw11 : wr w10 R2 (j2 * 3) [strV (rdStr false s4).1] = w11
          have hS11 : Upd (fun b => b = R2 ∨ b = rb) w10 w11 := by rw [← hw11];exact (Upd.refl _ _).wr _ _ (.inr (.inl rfl))
          have hx2_11 : blk w11 R2 = some ((A2 ++ (([strV (rdStr false s4).1,.pointer none,.map none] : List Value) ++ B2)).toArray,83,(0,0)) := by rw [← hw11];exact el_blk0 hx2_10 hA2 (Nat.le_of_ble_eq_true rfl)
          have hV11 := hS11
          have hU11 : Upd (fun b => b = vb ∨ b = rb) w1 w11 := hU10.trans' hV11 fun i hi h => h.elim (fun h => by omega) .inr
          have hz11 := hV11.size
          have hG11 : Glo ev w11 := hG1.updS hU11 hgM1 hgM2
          have hq11 : Rdr RT ok w11 rb s5 ∧ NN w11 rb s5 := by
            have hn : ∀ x,x = w11 → (Rdr RT ok x rb s5 ∧ NN x rb s5) := fun x hx => by
              rw [hx,← hw11]
              exact Rdr.store hq10 (by omega) (fun h => by have := (hok _ h).1;first | omega | exact (hok _ h).2 rfl)
            exact hn _ rfl
          obtain ⟨X11,hX11⟩ : ∃ X : Array Value,X = (A2 ++ (([strV (rdStr false s4).1,.pointer none,.map none] : List Value) ++ B2)).toArray := ⟨_,rfl⟩
          have hxb11 : blk w11 R2 = some (X11,83,(0,0)) := by rw [hX11];exact hx2_11
          have hXs11 : j2 * 3 + 3 ≤ X11.size := by rw [hX11];simp only [List.size_toArray,List.length_append,List.length_cons,List.length_nil,hA2];omega
          clear hw11
          have hfe0e1_0 : RepF (RepS true d) (szS true d) fX0_0 (fun b => (fun b => (ok b ∨ w1.heap.size ≤ b) ∧ ¬ ownB va0 b) b ∧ ¬ ownB va1 b) w11 (xe0e1_0) [strV (rdStr false s4).1] := (RepF_text rfl (by decide)).2 (by rw [hxe0e1_0,hrd];rfl)
          clear hrd
          have hbe0e1_1 : (rdL (rdP d ver false) (dfP d) ver false [fX0_1] s5).2 = none → FB := fun h => hbe0e1_0 (by rw [rdL_st (by decide) hhe0e1_0,← hs5];exact h)
          have hhe0e1_1 : hasS fX0_1 ver = true := hasS_t (by show (0 : Int) ≤ ver;omega) (by show (-1 : Int) < 0 ∨ ver ≤ (-1 : Int);omega)
          obtain ⟨xe0e1_1,hxe0e1_1⟩ : ∃ x,x = (rdF (rdP d ver false) ver false fX0_1 s5).1 := ⟨_,rfl⟩
          repeat ((first | refine qA rfl ?_|apply qB|refine qC rfl ?_|apply qD|apply qE|apply qF|apply qG|apply qH);try simp (maxSteps:=1000000)(disch:=(first|omega|(simp only [qI,qJ,qK]<;>omega)|exact qL _)) only [go_sem,↓reduceIte,n0,reduceCtorEq,n1,n2,n3,n4,n5,i0,i1,i2,i3,i4,i5,i6,i7,hxb11,hrc1_2,hrc1_7,hrc1_8,hrc1_9,hrc1_10,hrc1_13,hrc1_12,hrc1_14,hrc1_16,hrc1_19,hra1,hri1,exitRQ_ret,exitRQ_exit,Int.toNat_natCast,Nat.mul_one])
          have hmay : mayS fX0_1 ver = true := mayS_yes (by decide) (by show (0 : Int) ≤ ver;omega)
          have hrd : rdF (rdP d ver false) ver false fX0_1 s5 = _ := rdF_ptr rfl hmay
          refine (RNullableString_fn w11 hq11.1 hrok hG11.1 hgrb).mono ?_
          rintro r12 w12 ⟨hp12,hq12,hu12⟩
          obtain ⟨ap12,rfl⟩ := hp12.shape
          have hx2_12 := hu12.blk_some hx2_11 (by omega)
          have hV12 : Upd (fun b => b = R2 ∨ b = rb) w11 w12 := hu12.mono (fun _ h => .inr h)
          have hU12 : Upd (fun b => b = vb ∨ b = rb) w1 w12 := hU11.trans' hV12 fun i hi h => h.elim (fun h => by omega) .inr
          have hz12 := hV12.size
          have hG12 : Glo ev w12 := hG1.updS hU12 hgM1 hgM2
          obtain ⟨X12,hX12⟩ : ∃ X : Array Value,X = (A2 ++ (([strV (rdStr false s4).1,.pointer none,.map none] : List Value) ++ B2)).toArray := ⟨_,rfl⟩
          have hxb12 : blk w12 R2 = some (X12,83,(0,0)) := by rw [hX12];exact hx2_12
          have hXs12 : j2 * 3 + 3 ≤ X12.size := by rw [hX12];simp only [List.size_toArray,List.length_append,List.length_cons,List.length_nil,hA2];omega
          have hst : (rdF (rdP d ver false) ver false fX0_1 s5).2 = (rdNStr false s5).2 := by first | (rw [hrd];rfl) | rw [hrd]
          obtain ⟨s6,hs6⟩ : ∃ s,s = (rdF (rdP d ver false) ver false fX0_1 s5).2 := ⟨_,rfl⟩
          rw [← hst,← hs6] at hq12
          clear hst
          have hst12_1 : j2 * 3 + 2 ≤ X12.size := by omega
          repeat ((first | refine qA rfl ?_|apply qB|refine qC rfl ?_|apply qD|apply qE|apply qF|apply qG|apply qH);try simp (maxSteps:=1000000)(disch:=(first|omega|(simp only [qI,qJ,qK]<;>omega)|exact qL _)) only [go_sem,↓reduceIte,n0,reduceCtorEq,n1,n2,n3,n4,n5,i0,i1,i2,i3,i4,i5,i6,i7,hxb12,hrc1_2,hrc1_7,hrc1_8,hrc1_9,hrc1_10,hrc1_13,hrc1_12,hrc1_14,hrc1_16,hrc1_19,hra1,hri1,exitRQ_ret,exitRQ_exit,Int.toNat_natCast,Nat.mul_one,hst12_1])
          generalize hw13 : wr w12 R2 (j2 * 3 + 1) [.pointer ap12] = w13
          have hS13 : Upd (fun b => b = R2 ∨ b = rb) w12 w13 := by rw [← hw13];exact (Upd.refl _ _).wr _ _ (.inr (.inl rfl))
          have hx2_13 : blk w13 R2 = some ((A2 ++ (([strV (rdStr false s4).1,.pointer ap12,.map none] : List Value) ++ B2)).toArray,83,(0,0)) := by rw [← hw13];exact el_blk (o := 1) hx2_12 hA2 (Nat.le_of_ble_eq_true rfl)
          have hV13 := hS13
          have hU13 : Upd (fun b => b = vb ∨ b = rb) w1 w13 := hU12.trans' hV13 fun i hi h => h.elim (fun h => by omega) .inr
          have hz13 := hV13.size
          have hG13 : Glo ev w13 := hG1.updS hU13 hgM1 hgM2
          have hq13 : Rdr RT ok w13 rb s6 ∧ NN w13 rb s6 := by
            have hn : ∀ x,x = w13 → (Rdr RT ok x rb s6 ∧ NN x rb s6) := fun x hx => by
              rw [hx,← hw13]
              exact Rdr.store hq12 (by omega) (fun h => by have := (hok _ h).1;first | omega | exact (hok _ h).2 rfl)
            exact hn _ rfl
          obtain ⟨X13,hX13⟩ : ∃ X : Array Value,X = (A2 ++ (([strV (rdStr false s4).1,.pointer ap12,.map none] : List Value) ++ B2)).toArray := ⟨_,rfl⟩
          have hxb13 : blk w13 R2 = some (X13,83,(0,0)) := by rw [hX13];exact hx2_13
          have hXs13 : j2 * 3 + 3 ≤ X13.size := by rw [hX13];simp only [List.size_toArray,List.length_append,List.length_cons,List.length_nil,hA2];omega
          clear hw13
          have hfe0e1_1 : RepF (RepS true d) (szS true d) fX0_1 (fun b => (fun b => (ok b ∨ w1.heap.size ≤ b) ∧ ¬ ownB va0 b) b ∧ ¬ ownB va1 b) w13 (xe0e1_1) [.pointer ap12] := (RepF_ptr rfl (by decide)).2 ⟨_,rfl,by rw [hxe0e1_1,hrd];exact (hp12.weaken fun b _ hk => by have hk' : w11.heap.size ≤ b := hk;exact ⟨⟨.inr (by omega),fun ho => by have := (hown1 _ ho).2;omega⟩,fun ho => by have := (hown2 _ ho).2;omega⟩).keep (hV13.keeps fun b _ hk e => hoM2 b hk e)⟩
          clear hrd
          have hle0e1_2 : rdL (rdP d ver false) (dfP d) ver false [] s6 = ([],s6) := rfl
          have hle0e1_1 : rdL (rdP d ver false) (dfP d) ver false [fX0_1] s5 = ([xe0e1_1],s6) := by rw [rdL_st (by decide) hhe0e1_1,← hxe0e1_1,← hs6,hle0e1_2]
          have hle0e1_0 : rdL (rdP d ver false) (dfP d) ver false [fX0_0,fX0_1] s4 = ([xe0e1_0,xe0e1_1],s6) := by rw [rdL_st (by decide) hhe0e1_0,← hxe0e1_0,← hs5,hle0e1_1]
          have hfine0e1 : rdP (d + 1) ver false fs_X0 s4 = (.mk 0 [] false [xe0e1_0,xe0e1_1] [],s6) := rdP_f hle0e1_0
          have hTge0e1 : TagsM (fun b => (fun b => (ok b ∨ w1.heap.size ≤ b) ∧ ¬ ownB va0 b) b ∧ ¬ ownB va1 b) w13 (.map none) [] := .inl ⟨rfl,rfl⟩
          have hCe0e1_13 : Upd (fun b => b = R2 ∨ b = rb) w13 w13 := Upd.refl _ _
          have hCe0e1_12 : Upd (fun b => b = R2 ∨ b = rb) w12 w13 := hV13.trans hCe0e1_13
          have hCe0e1_11 : Upd (fun b => b = R2 ∨ b = rb) w11 w13 := hV12.trans hCe0e1_12
          have hCe0e1_10 : Upd (fun b => b = R2 ∨ b = rb) w10 w13 := hV11.trans hCe0e1_11
          have hCe0e1_9 : Upd (fun b => b = R2 ∨ b = rb) w9 w13 := hV10.trans hCe0e1_10
          have hCe0e1_8 : Upd (fun b => b = R2 ∨ b = rb) w8 w13 := hV9.trans hCe0e1_9
          have hRe0e1 : RepS true (d + 1) fs_X0 (fun b => (fun b => (ok b ∨ w1.heap.size ≤ b) ∧ ¬ ownB va0 b) b ∧ ¬ ownB va1 b) w13 (.mk 0 [] false [xe0e1_0,xe0e1_1] []) [strV (rdStr false s4).1,.pointer ap12,.map none] := RepS.introT (c := [strV (rdStr false s4).1,.pointer ap12]) (RepL.cons1 (hfe0e1_0.keepS (hCe0e1_11.keeps fun b _ hk e => hoM2 b hk e)) (RepL.cons1 (hfe0e1_1.keepS (hCe0e1_13.keeps fun b _ hk e => hoM2 b hk e)) RepL.nil)) hTge0e1
          have hrE : (rd1 (rdP (d + 1) ver false) fX2_0.of fX2_0.sub false false) s4 = ((.mk 0 [] false [xe0e1_0,xe0e1_1] []),s6) := by rw [show (rd1 (rdP (d + 1) ver false) fX2_0.of fX2_0.sub false false) s4 = _ from rd1_part];exact hfine0e1
          have hxE : (Rep1 (RepS true (d + 1)) fX2_0.of fX2_0.sub) (fun b => (fun b => (ok b ∨ w1.heap.size ≤ b) ∧ ¬ ownB va0 b) b ∧ ¬ ownB va1 b) w13 (.mk 0 [] false [xe0e1_0,xe0e1_1] []) [strV (rdStr false s4).1,.pointer ap12,.map none] := Rep1_part.2 hRe0e1
          repeat ((first | refine qA rfl ?_|apply qB|refine qC rfl ?_|apply qD|apply qE|apply qF|apply qG|apply qH);try simp (maxSteps:=1000000)(disch:=(first|omega|(simp only [qI,qJ,qK]<;>omega)|exact qL _)) only [go_sem,↓reduceIte,n0,reduceCtorEq,n1,n2,n3,n4,n5,i0,i1,i2,i3,i4,i5,i6,i7,hxb13,hrc1_2,hrc1_7,hrc1_8,hrc1_9,hrc1_10,hrc1_13,hrc1_12,hrc1_14,hrc1_16,hrc1_19,hra1,hri1,exitRQ_ret,exitRQ_exit,Int.toNat_natCast,Nat.mul_one])
          have hTk : Upd (fun b => b = R2 ∨ b = rb) w8 w13 := ((((hV9.trans hV10).trans hV11).trans hV12).trans hV13)
          have hL' := hL1.step (Rep1_lay _ _ fun _ => RepS_lay true _ _) hlt1 (hnext2 w13 [strV (rdStr false s4).1,.pointer ap12,.map none] rfl hx2_13) (by rw [hrE];exact hxE) (hTk.mono fun b h => h.imp (fun e => ⟨_,_,_,hva2,e⟩) id) (by rw [hrE];exact hq13) (fun h => hoM1 rb h (.inr rfl)) (Nat.le_refl _)
          have hij : IntKind.i32.wrap ((j2 : Int) + 1) = ((j2 + 1 : Nat) : Int) := by rw [i32_wrap (by omega)];omega
          repeat ((first | refine qA rfl ?_|apply qB|refine qC rfl ?_|apply qD|apply qE|apply qF|apply qG|apply qH);try simp (maxSteps:=1000000)(disch:=(first|omega|(simp only [qI,qJ,qK]<;>omega)|exact qL _)) only [go_sem,↓reduceIte,n0,reduceCtorEq,n1,n2,n3,n4,n5,i0,i1,i2,i3,i4,i5,i6,i7,hxb13,hrc1_2,hrc1_7,hrc1_8,hrc1_9,hrc1_10,hrc1_13,hrc1_12,hrc1_14,hrc1_16,hrc1_19,hra1,hri1,exitRQ_ret,exitRQ_exit,Int.toNat_natCast,Nat.mul_one,hij])
          refine ⟨⟨(by simp (maxSteps:=1000000)(disch:=(first|omega|(simp only [qI,qJ,qK]<;>omega)|exact qL _)) only [go_sem,↓reduceIte,n0,reduceCtorEq,n1,n2,n3,n4,n5,i0,i1,i2,i3,i4,i5,i6,i7,Holds_nil,Holds_cons,hrc1_2,hrc1_7,hrc1_8,hrc1_9,hrc1_10,hrc1_13,hrc1_12,hrc1_14,hrc1_16,hrc1_19,hra1,hri1];exact hva2.symm),j2 + 1,(by simp (maxSteps:=1000000)(disch:=(first|omega|(simp only [qI,qJ,qK]<;>omega)|exact qL _)) only [go_sem,↓reduceIte,n0,reduceCtorEq,n1,n2,n3,n4,n5,i0,i1,i2,i3,i4,i5,i6,i7,hrc1_2,hrc1_7,hrc1_8,hrc1_9,hrc1_10,hrc1_13,hrc1_12,hrc1_14,hrc1_16,hrc1_19,hra1,hri1,hij];all_goals rfl),_,_,_,hL'⟩,?_⟩
          try simp (maxSteps:=1000000)(disch:=(first|omega|(simp only [qI,qJ,qK]<;>omega)|exact qL _)) only [go_sem,↓reduceIte,n0,reduceCtorEq,n1,n2,n3,n4,n5,i0,i1,i2,i3,i4,i5,i6,i7,hrc1_2,hrc1_7,hrc1_8,hrc1_9,hrc1_10,hrc1_13,hrc1_12,hrc1_14,hrc1_16,hrc1_19,hra1,hri1]
          simp only [RowKit.intOf]
          omega
        · have hjN : j2 = N1 := by omega
          rw [hjN] at hL1
          repeat ((first | refine qA rfl ?_|apply qB|refine qC rfl ?_|apply qD|apply qE|apply qF|apply qG|apply qH);try simp (maxSteps:=1000000)(disch:=(first|omega|(simp only [qI,qJ,qK]<;>omega)|exact qL _)) only [go_sem,↓reduceIte,n0,reduceCtorEq,n1,n2,n3,n4,n5,i0,i1,i2,i3,i4,i5,i6,i7,hrc1_2,hrc1_7,hrc1_8,hrc1_9,hrc1_10,hrc1_13,hrc1_12,hrc1_14,hrc1_16,hrc1_19,hrc1_18,hri1,exitRQ_ret,exitRQ_exit])
          exact ⟨(by simp (maxSteps:=1000000)(disch:=(first|omega|(simp only [qI,qJ,qK]<;>omega)|exact qL _)) only [go_sem,↓reduceIte,n0,reduceCtorEq,n1,n2,n3,n4,n5,i0,i1,i2,i3,i4,i5,i6,i7,Holds_nil,Holds_cons,hrc1_2,hrc1_7,hrc1_8,hrc1_9,hrc1_10,hrc1_13,hrc1_12,hrc1_14,hrc1_16,hrc1_19,hrc1_18,hri1]),s4,xs1,css1,hL1⟩
      rintro ρ w14 ⟨⟨hrd1_2,hrd1_7,hrd1_8,hrd1_9,hrd1_10,hrd1_13,hrd1_12,hrd1_14,hrd1_16,hrd1_19,hrd1_18,-⟩,s7,xs1,css1,hL1⟩
      have hq14 := hL1.rd
      have hu14 := hL1.upd
      have hx1_14 := hu14.blk_some hx1_6 (by omega)
      have hV14 : Upd (fun b => b = R1 ∨ b = rb) w6 w14 := hu14.mono (fun _ h => .inr h)
      have hU14 : Upd (fun b => b = vb ∨ b = rb) w1 w14 := hU6.trans' hV14 fun i hi h => h.elim (fun h => by omega) .inr
      have hz14 := hV14.size
      have hG14 : Glo ev w14 := hG1.updS hU14 hgM1 hgM2
      obtain ⟨X14,hX14⟩ : ∃ X : Array Value,X = (A1 ++ (([.slice none 0 0,.slice none 0 0,.map none] : List Value) ++ B1)).toArray := ⟨_,rfl⟩
      have hxb14 : blk w14 R1 = some (X14,79,(0,0)) := by rw [hX14];exact hx1_14
      have hXs14 : j1 * 3 + 3 ≤ X14.size := by rw [hX14];simp only [List.size_toArray,List.length_append,List.length_cons,List.length_nil,hA1];omega
      have hrd1 : rdF (rdP (d + 1) ver false) ver false fX2_0 s2 = (.mk 0 [] (nilS fX2_0 ver y1) xs1 [],s7) := by
        have h := rdF_listE (pt := (rdP (d + 1) ver false)) (v := ver) (flex := false) (f := fX2_0) (s := s2) (xs := xs1) (e := s7) rfl (by rw [hy1,← hN1,← hs3];exact hL1.done)
        rw [hy1] at h;exact h
      have hs7 : s7 = (rdF (rdP (d + 1) ver false) ver false fX2_0 s2).2 := by rw [hrd1]
      obtain ⟨aa1,qq1,hvs1⟩ := hL1.row.shape
      subst hvs1
      have hst14_0 : j1 * 3 + 1 ≤ X14.size := by omega
      have hld14_1 : X14[j1 * 3 + 1]? = some (.slice none 0 0) := by rw [hX14];exact el_cell (R := 0) hA1 (Nat.le_of_ble_eq_true rfl)
      repeat ((first | refine qA rfl ?_|apply qB|refine qC rfl ?_|apply qD|apply qE|apply qF|apply qG|apply qH);try simp (maxSteps:=1000000)(disch:=(first|omega|(simp only [qI,qJ,qK]<;>omega)|exact qL _)) only [go_sem,↓reduceIte,n0,reduceCtorEq,n1,n2,n3,n4,n5,i0,i1,i2,i3,i4,i5,i6,i7,hxb14,hrd1_2,hrd1_7,hrd1_8,hrd1_9,hrd1_10,hrd1_13,hrd1_12,hrd1_14,hrd1_16,hrd1_19,hrd1_18,exitRQ_ret,exitRQ_exit,Int.toNat_natCast,Nat.mul_one,hst14_0,hld14_1,Array.getElem?_setIfInBounds_ne])
      generalize hw15 : wr w14 R1 (j1 * 3) [.slice aa1 N1 qq1] = w15
      have hS15 : Upd (fun b => b = R1 ∨ b = rb) w14 w15 := by rw [← hw15];exact (Upd.refl _ _).wr _ _ (.inr (.inl rfl))
      have hx1_15 : blk w15 R1 = some ((A1 ++ (([.slice aa1 N1 qq1,.slice none 0 0,.map none] : List Value) ++ B1)).toArray,79,(0,0)) := by rw [← hw15];exact el_blk0 hx1_14 hA1 (Nat.le_of_ble_eq_true rfl)
      have hV15 := hS15
      have hU15 : Upd (fun b => b = vb ∨ b = rb) w1 w15 := hU14.trans' hV15 fun i hi h => h.elim (fun h => by omega) .inr
      have hz15 := hV15.size
      have hG15 : Glo ev w15 := hG1.updS hU15 hgM1 hgM2
      have hq15 : Rdr RT ok w15 rb s7 ∧ NN w15 rb s7 := by
        have hn : ∀ x,x = w15 → (Rdr RT ok x rb s7 ∧ NN x rb s7) := fun x hx => by
          rw [hx,← hw15]
          exact Rdr.store hq14 (by omega) (fun h => by have := (hok _ h).1;first | omega | exact (hok _ h).2 rfl)
        exact hn _ rfl
      obtain ⟨X15,hX15⟩ : ∃ X : Array Value,X = (A1 ++ (([.slice aa1 N1 qq1,.slice none 0 0,.map none] : List Value) ++ B1)).toArray := ⟨_,rfl⟩
      have hxb15 : blk w15 R1 = some (X15,79,(0,0)) := by rw [hX15];exact hx1_15
      have hXs15 : j1 * 3 + 3 ≤ X15.size := by rw [hX15];simp only [List.size_toArray,List.length_append,List.length_cons,List.length_nil,hA1];omega
      clear hw15
      have hfe0_0 : RepF (RepS true (d + 1)) (szS true (d + 1)) fX2_0 (fun b => (ok b ∨ w1.heap.size ≤ b) ∧ ¬ ownB va0 b) w15 (xe0_0) [.slice aa1 N1 qq1] := by rw [hxe0_0,hrd1];exact RepF.keepS (RepF_row rfl hnc1 hN1 rfl hL1.row hL1.all (fun b hb => ⟨.inr (by omega),fun ho => by have := (hown1 _ ho).2;omega⟩)) (hV15.keeps fun b _ hk e => hoM1 b hk e)
      clear hL1 hnc1
      have hbe0_1 : (rdL (rdP (d + 1) ver false) (dfP (d + 1)) ver false [fX2_1] s7).2 = none → FB := fun h => hbe0_0 (by rw [rdL_st (by decide) hhe0_0,← hs7];exact h)
      have hhe0_1 : hasS fX2_1 ver = true := hasS_t (by show (0 : Int) ≤ ver;omega) (by show (-1 : Int) < 0 ∨ ver ≤ (-1 : Int);omega)
      obtain ⟨xe0_1,hxe0_1⟩ : ∃ x,x = (rdF (rdP (d + 1) ver false) ver false fX2_1 s7).1 := ⟨_,rfl⟩
      have hld15_1 : X15[j1 * 3 + 1]? = some (.slice none 0 0) := by rw [hX15];exact el_cell (R := 0) hA1 (Nat.le_of_ble_eq_true rfl)
      repeat ((first | refine qA rfl ?_|apply qB|refine qC rfl ?_|apply qD|apply qE|apply qF|apply qG|apply qH);try simp (maxSteps:=1000000)(disch:=(first|omega|(simp only [qI,qJ,qK]<;>omega)|exact qL _)) only [go_sem,↓reduceIte,n0,reduceCtorEq,n1,n2,n3,n4,n5,i0,i1,i2,i3,i4,i5,i6,i7,hxb15,hrd1_2,hrd1_7,hrd1_8,hrd1_9,hrd1_10,hrd1_13,hrd1_12,hrd1_14,hrd1_16,hrd1_19,hrd1_18,exitRQ_ret,exitRQ_exit,Int.toNat_natCast,Nat.mul_one,hld15_1])
      refine (RArrayLen_fn w15 hq15.1 hrok hG15.1 hgrb).mono ?_
      rintro _ w16 ⟨rfl,hq16,hu16⟩
      have hx1_16 := hu16.blk_some hx1_15 (by omega)
      have hV16 : Upd (fun b => b = R1 ∨ b = rb) w15 w16 := hu16.mono (fun _ h => .inr h)
      have hU16 : Upd (fun b => b = vb ∨ b = rb) w1 w16 := hU15.trans' hV16 fun i hi h => h.elim (fun h => by omega) .inr
      have hz16 := hV16.size
      have hG16 : Glo ev w16 := hG1.updS hU16 hgM1 hgM2
      obtain ⟨X16,hX16⟩ : ∃ X : Array Value,X = (A1 ++ (([.slice aa1 N1 qq1,.slice none 0 0,.map none] : List Value) ++ B1)).toArray := ⟨_,rfl⟩
      have hxb16 : blk w16 R1 = some (X16,79,(0,0)) := by rw [hX16];exact hx1_16
      have hXs16 : j1 * 3 + 3 ≤ X16.size := by rw [hX16];simp only [List.size_toArray,List.length_append,List.length_cons,List.length_nil,hA1];omega
      obtain ⟨s8,hs8⟩ : ∃ s,s = (rdALen false s7).2 := ⟨_,rfl⟩
      rw [← hs8] at hq16
      have hyr2 := rdALen_rng false s7
      generalize hy2 : (rdALen false s7).1 = y2 at *
      obtain ⟨N2,hN2⟩ : ∃ N,N = y2.toNat := ⟨_,rfl⟩
      have hlb2 : (rdMany (rd1 (rdP (d + 1) ver false) fX2_1.of fX2_1.sub false false) N2 s8).2 = none → FB := fun h => hbe0_1 (by rw [rdL_st (by decide) hhe0_1];exact rdL_bad (rdF_listbad rfl (by rw [hy2,← hN2,← hs8];exact h)))
      repeat ((first | refine W.seqR rfl ?_ | refine W.seq ?_ | refine W.regR rfl ?_ | refine W.block ?_ | refine W.skip ?_ | refine W.ret ?_ | refine W.exit ?_);try simp (maxSteps:=1000000)(disch:=(first|omega|(simp only [qI,qJ,qK]<;>omega)|exact qL _)) only [go_sem,↓reduceIte,n0,reduceCtorEq,n1,n2,n3,n4,n5,i0,i1,i2,i3,i4,i5,i6,i7,hxb16,hrd1_2,hrd1_7,hrd1_8,hrd1_9,hrd1_10,hrd1_13,hrd1_12,hrd1_14,hrd1_16,hrd1_19,hrd1_18,exitRQ_ret,exitRQ_exit,Int.toNat_natCast,Nat.mul_one])
      refine (ROk_fn w16 hq16.1).mono ?_
      rintro _ wz ⟨rfl,hez⟩
      rw [hez]
      clear hez wz
      by_cases hsn2 : s8 = none
      · have hso : s8.isSome = false := by rw [hsn2];rfl
        repeat (first|simp (maxSteps:=1000000)(disch:=(first|omega|(simp only [qI,qJ,qK]<;>omega)|exact qL _)) only [go_sem,↓reduceIte,n0,reduceCtorEq,n1,n2,n3,n4,n5,i0,i1,i2,i3,i4,i5,i6,i7,hxb16,hrd1_2,hrd1_7,hrd1_8,hrd1_9,hrd1_10,hrd1_13,hrd1_12,hrd1_14,hrd1_16,hrd1_19,hrd1_18,exitRQ_ret,exitRQ_exit,Int.toNat_natCast,Nat.mul_one,hso]|refine qA rfl ?_|apply qB|refine qC rfl ?_|apply qD|apply qE|apply qF|apply qG|apply qH)
        refine (RComplete_fn w16 hq16.1 hG16.2).mono ?_
        rintro _ wz ⟨rfl,hez⟩
        rw [hez]
        repeat (first|simp (maxSteps:=1000000)(disch:=(first|omega|(simp only [qI,qJ,qK]<;>omega)|exact qL _)) only [go_sem,↓reduceIte,n0,reduceCtorEq,n1,n2,n3,n4,n5,i0,i1,i2,i3,i4,i5,i6,i7,hxb16,hrd1_2,hrd1_7,hrd1_8,hrd1_9,hrd1_10,hrd1_13,hrd1_12,hrd1_14,hrd1_16,hrd1_19,hrd1_18,exitRQ_ret,exitRQ_exit,Int.toNat_natCast,Nat.mul_one]|refine qA rfl ?_|apply qB|refine qC rfl ?_|apply qD|apply qE|apply qF|apply qG|apply qH)
        rw [errV_none hsn2]
        exact ReadQ.bad (Eq.mp hFB (hlb2 (by rw [hsn2];exact rdMany_none rd1P_none _))) (hbase.trans' hU16 fun i hi h => h.elim id fun h => by omega)
      have hso2 : s8.isSome = true := isSome_some hsn2
      try simp (maxSteps:=1000000)(disch:=(first|omega|(simp only [qI,qJ,qK]<;>omega)|exact qL _)) only [go_sem,↓reduceIte,n0,reduceCtorEq,n1,n2,n3,n4,n5,i0,i1,i2,i3,i4,i5,i6,i7,hxb16,hrd1_2,hrd1_7,hrd1_8,hrd1_9,hrd1_10,hrd1_13,hrd1_12,hrd1_14,hrd1_16,hrd1_19,hrd1_18,exitRQ_ret,exitRQ_exit,Int.toNat_natCast,Nat.mul_one,hso2]
      repeat ((first | refine W.seqR rfl ?_ | refine W.seq ?_ | refine W.regR rfl ?_ | refine W.block ?_ | refine W.skip ?_ | refine W.ret ?_ | refine W.exit ?_);try simp (maxSteps:=1000000)(disch:=(first|omega|(simp only [qI,qJ,qK]<;>omega)|exact qL _)) only [go_sem,↓reduceIte,n0,reduceCtorEq,n1,n2,n3,n4,n5,i0,i1,i2,i3,i4,i5,i6,i7,hxb16,hrd1_2,hrd1_7,hrd1_8,hrd1_9,hrd1_10,hrd1_13,hrd1_12,hrd1_14,hrd1_16,hrd1_19,hrd1_18,exitRQ_ret,exitRQ_exit,Int.toNat_natCast,Nat.mul_one,hso2])
      refine W.condK ?_
      try simp (maxSteps:=1000000)(disch:=(first|omega|(simp only [qI,qJ,qK]<;>omega)|exact qL _)) only [go_sem,↓reduceIte,n0,reduceCtorEq,n1,n2,n3,n4,n5,i0,i1,i2,i3,i4,i5,i6,i7,hxb16,hrd1_2,hrd1_7,hrd1_8,hrd1_9,hrd1_10,hrd1_13,hrd1_12,hrd1_14,hrd1_16,hrd1_19,hrd1_18,exitRQ_ret,exitRQ_exit,Int.toNat_natCast,Nat.mul_one,hso2]
      repeat ((first | refine W.seqR rfl ?_ | refine W.seq ?_ | refine W.regR rfl ?_ | refine W.block ?_ | refine W.skip ?_ | refine W.ret ?_ | refine W.exit ?_);try simp (maxSteps:=1000000)(disch:=(first|omega|(simp only [qI,qJ,qK]<;>omega)|exact qL _)) only [go_sem,↓reduceIte,n0,reduceCtorEq,n1,n2,n3,n4,n5,i0,i1,i2,i3,i4,i5,i6,i7,hxb16,hrd1_2,hrd1_7,hrd1_8,hrd1_9,hrd1_10,hrd1_13,hrd1_12,hrd1_14,hrd1_16,hrd1_19,hrd1_18,exitRQ_ret,exitRQ_exit,Int.toNat_natCast,Nat.mul_one,hso2,slBase_00])
      refine W.normJ (RowQ [(2,.bool false),(7,.pointer (some ⟨rb,0,none⟩)),(8,.int .i16 ver),(9,.bool false),(10,.pointer (some ⟨vb,0,none⟩)),(13,.int .i32 y0),(12,.slice (some ⟨R1,0,none⟩) N0 q1),(14,.int .i32 j1),(16,.pointer (some ⟨R1,j1 * 3,none⟩)),(27,.int .i32 y2)] 26 (fun va w' => LstI RT (rd1 (rdP (d + 1) ver false) fX2_1.of fX2_1.sub false false) (Rep1 (RepS true (d + 1)) fX2_1.of fX2_1.sub) 4 90 [.string ByteArray.empty,.float .f64 0,.bool false,.map none] w16.heap.size N2 ok (fun b => (ok b ∨ w1.heap.size ≤ b) ∧ ¬ ownB va0 b) rb w16 s8 va 0 s8 [] [] w' ∧ (N2 = 0 → if nilS fX2_1 ver y2 = true then va = .slice none 0 0 else ∃ a,va = .slice (some a) 0 0))) ?_ ?_
      · by_cases hy0 : (0 : Int) < y2
        · have hyv : Value.int .i32 y2 = .int .i32 ((N2 : Nat) : Int) := by rw [show y2 = ((N2 : Nat) : Int) by omega]
          repeat ((first | refine qA rfl ?_|apply qB|refine qC rfl ?_|apply qD|apply qE|apply qF|apply qG|apply qH);try simp (maxSteps:=1000000)(disch:=(first|omega|(simp only [qI,qJ,qK]<;>omega)|exact qL _)) only [go_sem,↓reduceIte,n0,reduceCtorEq,n1,n2,n3,n4,n5,i0,i1,i2,i3,i4,i5,i6,i7,hxb16,hrd1_2,hrd1_7,hrd1_8,hrd1_9,hrd1_10,hrd1_13,hrd1_12,hrd1_14,hrd1_16,hrd1_19,hrd1_18,exitRQ_ret,exitRQ_exit,Int.toNat_natCast,Nat.mul_one])
          refine wp_appendZ (m := N2) utQ_77 utQ_21 inQ_90 (by decide) (by first | rfl | simp (maxSteps:=1000000)(disch:=(first|omega|(simp only [qI,qJ,qK]<;>omega)|exact qL _)) only [go_sem,↓reduceIte,n0,reduceCtorEq,n1,n2,n3,n4,n5,i0,i1,i2,i3,i4,i5,i6,i7,hrd1_2,hrd1_7,hrd1_8,hrd1_9,hrd1_10,hrd1_13,hrd1_12,hrd1_14,hrd1_16,hrd1_19,hrd1_18]) (by first | exact hyv | (simp (maxSteps:=1000000)(disch:=(first|omega|(simp only [qI,qJ,qK]<;>omega)|exact qL _)) only [go_sem,↓reduceIte,n0,reduceCtorEq,n1,n2,n3,n4,n5,i0,i1,i2,i3,i4,i5,i6,i7,hrd1_2,hrd1_7,hrd1_8,hrd1_9,hrd1_10,hrd1_13,hrd1_12,hrd1_14,hrd1_16,hrd1_19,hrd1_18];exact hyv)) (by omega) (by omega) (by decide) ?_
          intro q rest hq1
          have hEw : Ext w16 (w16.drew.alloc (.cells (zs [.string ByteArray.empty,.float .f64 0,.bool false,.map none] N2 ++ rest).toArray 90)) := (Upd.refl _ _).drew.alloc _
          repeat (first|simp (maxSteps:=1000000)(disch:=(first|omega|(simp only [qI,qJ,qK]<;>omega)|exact qL _)) only [go_sem,↓reduceIte,n0,reduceCtorEq,n1,n2,n3,n4,n5,i0,i1,i2,i3,i4,i5,i6,i7,hxb16,hrd1_2,hrd1_7,hrd1_8,hrd1_9,hrd1_10,hrd1_13,hrd1_12,hrd1_14,hrd1_16,hrd1_19,hrd1_18,exitRQ_ret,exitRQ_exit,Int.toNat_natCast,Nat.mul_one]|refine qA rfl ?_|apply qB|refine qC rfl ?_|apply qD|apply qE|apply qF|apply qG|apply qH)
          exact ⟨(by simp (maxSteps:=1000000)(disch:=(first|omega|(simp only [qI,qJ,qK]<;>omega)|exact qL _)) only [go_sem,↓reduceIte,n0,reduceCtorEq,n1,n2,n3,n4,n5,i0,i1,i2,i3,i4,i5,i6,i7,Holds_nil,Holds_cons,hrd1_2,hrd1_7,hrd1_8,hrd1_9,hrd1_10,hrd1_13,hrd1_12,hrd1_14,hrd1_16,hrd1_19,hrd1_18]),.slice (some ⟨w16.heap.size,0,none⟩) N2 q,(by simp (maxSteps:=1000000)(disch:=(first|omega|(simp only [qI,qJ,qK]<;>omega)|exact qL _)) only [go_sem,↓reduceIte,n0,reduceCtorEq,n1,n2,n3,n4,n5,i0,i1,i2,i3,i4,i5,i6,i7,hrd1_2,hrd1_7,hrd1_8,hrd1_9,hrd1_10,hrd1_13,hrd1_12,hrd1_14,hrd1_16,hrd1_19,hrd1_18]),LstI.start (RowJ.start (by omega) hq1 (by show w16.heap.size ≤ w16.drew.heap.size;rw [size_drew];omega) (blk_alloc_new rfl)) ⟨hq16.1.upd hEw (fun h => h) (fun _ _ _ h => h),hq16.2.upd hEw fun h => h⟩ (hEw.mono fun _ h => h.elim),fun h0 => by omega⟩
        · repeat ((first | refine qA rfl ?_|apply qB|refine qC rfl ?_|apply qD|apply qE|apply qF|apply qG|apply qH);try simp (maxSteps:=1000000)(disch:=(first|omega|(simp only [qI,qJ,qK]<;>omega)|exact qL _)) only [go_sem,↓reduceIte,n0,reduceCtorEq,n1,n2,n3,n4,n5,i0,i1,i2,i3,i4,i5,i6,i7,hxb16,hrd1_2,hrd1_7,hrd1_8,hrd1_9,hrd1_10,hrd1_13,hrd1_12,hrd1_14,hrd1_16,hrd1_19,hrd1_18,exitRQ_ret,exitRQ_exit,Int.toNat_natCast,Nat.mul_one])
          exact ⟨(by simp (maxSteps:=1000000)(disch:=(first|omega|(simp only [qI,qJ,qK]<;>omega)|exact qL _)) only [go_sem,↓reduceIte,n0,reduceCtorEq,n1,n2,n3,n4,n5,i0,i1,i2,i3,i4,i5,i6,i7,Holds_nil,Holds_cons,hrd1_2,hrd1_7,hrd1_8,hrd1_9,hrd1_10,hrd1_13,hrd1_12,hrd1_14,hrd1_16,hrd1_19,hrd1_18]),.slice none 0 0,(by simp (maxSteps:=1000000)(disch:=(first|omega|(simp only [qI,qJ,qK]<;>omega)|exact qL _)) only [go_sem,↓reduceIte,n0,reduceCtorEq,n1,n2,n3,n4,n5,i0,i1,i2,i3,i4,i5,i6,i7,hrd1_2,hrd1_7,hrd1_8,hrd1_9,hrd1_10,hrd1_13,hrd1_12,hrd1_14,hrd1_16,hrd1_19,hrd1_18,slBase_00]),LstI.start (RowJ.zero (by omega) (fun _ h => by cases h)) hq16 (Upd.refl _ _),fun _ => by rw [nilS_plain (by decide) (by omega)];exact rfl⟩
      rintro ρ w17 ⟨⟨hrb2_2,hrb2_7,hrb2_8,hrb2_9,hrb2_10,hrb2_13,hrb2_12,hrb2_14,hrb2_16,hrb2_27,-⟩,va2,hra2,hL2,hnc2⟩
      repeat ((first | refine qA rfl ?_|apply qB|refine qC rfl ?_|apply qD|apply qE|apply qF|apply qG|apply qH);try simp (maxSteps:=1000000)(disch:=(first|omega|(simp only [qI,qJ,qK]<;>omega)|exact qL _)) only [go_sem,↓reduceIte,n0,reduceCtorEq,n1,n2,n3,n4,n5,i0,i1,i2,i3,i4,i5,i6,i7,hxb16,hrb2_2,hrb2_7,hrb2_8,hrb2_9,hrb2_10,hrb2_13,hrb2_12,hrb2_14,hrb2_16,hrb2_27,hra2,exitRQ_ret,exitRQ_exit,Int.toNat_natCast,Nat.mul_one])
      refine W.exitRJ 4 (EndQ [(2,.bool false),(7,.pointer (some ⟨rb,0,none⟩)),(8,.int .i16 ver),(9,.bool false),(10,.pointer (some ⟨vb,0,none⟩)),(13,.int .i32 y0),(12,.slice (some ⟨R1,0,none⟩) N0 q1),(14,.int .i32 j1),(16,.pointer (some ⟨R1,j1 * 3,none⟩)),(27,.int .i32 y2),(26,va2)] (fun w' => ∃ s xs css,LstI RT (rd1 (rdP (d + 1) ver false) fX2_1.of fX2_1.sub false false) (Rep1 (RepS true (d + 1)) fX2_1.of fX2_1.sub) 4 90 [.string ByteArray.empty,.float .f64 0,.bool false,.map none] w16.heap.size N2 ok (fun b => (ok b ∨ w1.heap.size ≤ b) ∧ ¬ ownB va0 b) rb w16 s8 va2 N2 s xs css w')) (W.loop (LoopQ [(2,.bool false),(7,.pointer (some ⟨rb,0,none⟩)),(8,.int .i16 ver),(9,.bool false),(10,.pointer (some ⟨vb,0,none⟩)),(13,.int .i32 y0),(12,.slice (some ⟨R1,0,none⟩) N0 q1),(14,.int .i32 j1),(16,.pointer (some ⟨R1,j1 * 3,none⟩)),(27,.int .i32 y2),(26,va2)] 28 (fun j w' => ∃ s xs css,LstI RT (rd1 (rdP (d + 1) ver false) fX2_1.of fX2_1.sub false false) (Rep1 (RepS true (d + 1)) fX2_1.of fX2_1.sub) 4 90 [.string ByteArray.empty,.float .f64 0,.bool false,.map none] w16.heap.size N2 ok (fun b => (ok b ∨ w1.heap.size ≤ b) ∧ ¬ ownB va0 b) rb w16 s8 va2 j s xs css w')) (fun ρ _ => N2 - (RowKit.intOf (ρ 28)).toNat) ?_ ?_) ?_
      · exact ⟨(by simp (maxSteps:=1000000)(disch:=(first|omega|(simp only [qI,qJ,qK]<;>omega)|exact qL _)) only [go_sem,↓reduceIte,n0,reduceCtorEq,n1,n2,n3,n4,n5,i0,i1,i2,i3,i4,i5,i6,i7,Holds_nil,Holds_cons,hrb2_2,hrb2_7,hrb2_8,hrb2_9,hrb2_10,hrb2_13,hrb2_12,hrb2_14,hrb2_16,hrb2_27,hra2]),0,(by simp (maxSteps:=1000000)(disch:=(first|omega|(simp only [qI,qJ,qK]<;>omega)|exact qL _)) only [go_sem,↓reduceIte,n0,reduceCtorEq,n1,n2,n3,n4,n5,i0,i1,i2,i3,i4,i5,i6,i7,hrb2_2,hrb2_7,hrb2_8,hrb2_9,hrb2_10,hrb2_13,hrb2_12,hrb2_14,hrb2_16,hrb2_27,hra2];all_goals rfl),s8,[],[],hL2⟩
      · rintro ρ w18 ⟨⟨hrc2_2,hrc2_7,hrc2_8,hrc2_9,hrc2_10,hrc2_13,hrc2_12,hrc2_14,hrc2_16,hrc2_27,hrc2_26,-⟩,j2,hri2,s9,xs2,css2,hL2⟩
        have hj2 := hL2.le
        have hq18 := hL2.rd
        have hU18 : Upd (fun b => b = vb ∨ b = rb) w1 w18 := hU16.trans' hL2.upd fun i _ h => .inr h
        have hz18 := hL2.upd.size
        have hG18 : Glo ev w18 := hG1.updS hU18 hgM1 hgM2
        by_cases hlt2 : j2 < N2
        · obtain ⟨R2,q2,B2,hva2,hNq2,hLR2,hA2,hx2_18,hnext2⟩ := hL2.row.next hlt2
          have hRl2 := blk_lt hx2_18
          generalize css2.flatten = A2 at hA2 hx2_18 hnext2
          replace hra2 : ρ 26 = .slice (some ⟨R2,0,none⟩) N2 q2 := hrc2_26.trans hva2
          have hown2 : ∀ b,ownB va2 b → w16.heap.size ≤ b ∧ b < w18.heap.size := fun b h => hL2.row.own h
          have hoM2 : ∀ b,(fun b => (fun b => (ok b ∨ w1.heap.size ≤ b) ∧ ¬ ownB va0 b) b ∧ ¬ ownB va2 b) b → ¬ (b = R2 ∨ b = rb) := fun b hk h => h.elim (fun e => hk.2 ⟨_,_,_,hva2,e⟩) (fun e => hoM1 b hk.1 (.inr e))
          obtain ⟨X18,hX18⟩ : ∃ X : Array Value,X = (A2 ++ (([.string ByteArray.empty,.float .f64 0,.bool false,.map none] : List Value) ++ B2)).toArray := ⟨_,rfl⟩
          have hxb18 : blk w18 R2 = some (X18,90,(0,0)) := by rw [hX18];exact hx2_18
          have hXs18 : j2 * 4 + 4 ≤ X18.size := by rw [hX18];simp only [List.size_toArray,List.length_append,List.length_cons,List.length_nil,hA2];omega
          repeat ((first | refine qA rfl ?_|apply qB|refine qC rfl ?_|apply qD|apply qE|apply qF|apply qG|apply qH);try simp (maxSteps:=1000000)(disch:=(first|omega|(simp only [qI,qJ,qK]<;>omega)|exact qL _)) only [go_sem,↓reduceIte,n0,reduceCtorEq,n1,n2,n3,n4,n5,i0,i1,i2,i3,i4,i5,i6,i7,hxb18,hrc2_2,hrc2_7,hrc2_8,hrc2_9,hrc2_10,hrc2_13,hrc2_12,hrc2_14,hrc2_16,hrc2_27,hra2,hri2,exitRQ_ret,exitRQ_exit,Int.toNat_natCast,Nat.mul_one])
          refine (DefaultEX1_fn w18 hx2_18 hA2).mono ?_
          rintro _ w19 ⟨hx2_19,hu19⟩
          have hq19 := And.intro (hq18.1.upd hu19 (by omega) (fun b _ hk e => by have := (hok b hk).1;omega)) (hq18.2.upd hu19 (by omega))
          have hV19 : Upd (fun b => b = R2 ∨ b = rb) w18 w19 := hu19.mono (fun _ h => .inl h)
          have hU19 : Upd (fun b => b = vb ∨ b = rb) w1 w19 := hU18.trans' hV19 fun i hi h => h.elim (fun h => by omega) .inr
          have hz19 := hV19.size
          have hG19 : Glo ev w19 := hG1.updS hU19 hgM1 hgM2
          obtain ⟨X19,hX19⟩ : ∃ X : Array Value,X = (A2 ++ (([.string ByteArray.empty,.float .f64 0,.bool false,.map none] : List Value) ++ B2)).toArray := ⟨_,rfl⟩
          have hxb19 : blk w19 R2 = some (X19,90,(0,0)) := by rw [hX19];exact hx2_19
          have hXs19 : j2 * 4 + 4 ≤ X19.size := by rw [hX19];simp only [List.size_toArray,List.length_append,List.length_cons,List.length_nil,hA2];omega
          have hbe0e2_0 : (rdL (rdP d ver false) (dfP d) ver false [fX1_0,fX1_1,fX1_2] s9).2 = none → FB := fun h => hlb2 (hL2.bad hlt2 rd1P_none (by show (rd1 (rdP (d + 1) ver false) 10 fs_X1 false false s9).2 = none;rw [rd1_part];exact rdP_bad h))
          have hhe0e2_0 : hasS fX1_0 ver = true := hasS_t (by show (0 : Int) ≤ ver;omega) (by show (-1 : Int) < 0 ∨ ver ≤ (-1 : Int);omega)
          obtain ⟨xe0e2_0,hxe0e2_0⟩ : ∃ x,x = (rdF (rdP d ver false) ver false fX1_0 s9).1 := ⟨_,rfl⟩
          repeat ((first | refine qA rfl ?_|apply qB|refine qC rfl ?_|apply qD|apply qE|apply qF|apply qG|apply qH);try simp (maxSteps:=1000000)(disch:=(first|omega|(simp only [qI,qJ,qK]<;>omega)|exact qL _)) only [go_sem,↓reduceIte,n0,reduceCtorEq,n1,n2,n3,n4,n5,i0,i1,i2,i3,i4,i5,i6,i7,hxb19,hrc2_2,hrc2_7,hrc2_8,hrc2_9,hrc2_10,hrc2_13,hrc2_12,hrc2_14,hrc2_16,hrc2_27,hra2,hri2,exitRQ_ret,exitRQ_exit,Int.toNat_natCast,Nat.mul_one])
          have hmay : mayS fX1_0 ver = false := mayS_no (by show (-1 : Int) < 0 ∨ ver < (-1 : Int);omega)
          have hrd : rdF (rdP d ver false) ver false fX1_0 s9 = _ := rdF_text rfl hmay
          refine (RString_fn w19 hq19.1 hrok hG19.1 hgrb).mono ?_
          rintro _ w20 ⟨rfl,hq20,hu20⟩
          have hx2_20 := hu20.blk_some hx2_19 (by omega)
          have hV20 : Upd (fun b => b = R2 ∨ b = rb) w19 w20 := hu20.mono (fun _ h => .inr h)
          have hU20 : Upd (fun b => b = vb ∨ b = rb) w1 w20 := hU19.trans' hV20 fun i hi h => h.elim (fun h => by omega) .inr
          have hz20 := hV20.size
          have hG20 : Glo ev w20 := hG1.updS hU20 hgM1 hgM2
          obtain ⟨X20,hX20⟩ : ∃ X : Array Value,X = (A2 ++ (([.string ByteArray.empty,.float .f64 0,.bool false,.map none] : List Value) ++ B2)).toArray := ⟨_,rfl⟩
          have hxb20 : blk w20 R2 = some (X20,90,(0,0)) := by rw [hX20];exact hx2_20
          have hXs20 : j2 * 4 + 4 ≤ X20.size := by rw [hX20];simp only [List.size_toArray,List.length_append,List.length_cons,List.length_nil,hA2];omega
          have hst : (rdF (rdP d ver false) ver false fX1_0 s9).2 = (rdStr false s9).2 := by first | (rw [hrd];rfl) | rw [hrd]
          obtain ⟨s10,hs10⟩ : ∃ s,s = (rdF (rdP d ver false) ver false fX1_0 s9).2 := ⟨_,rfl⟩
          rw [← hst,← hs10] at hq20
          clear hst
          have hst20_0 : j2 * 4 + 1 ≤ X20.size := by omega
          repeat ((first | refine qA rfl ?_|apply qB|refine qC rfl ?_|apply qD|apply qE|apply qF|apply qG|apply qH);try simp (maxSteps:=1000000)(disch:=(first|omega|(simp only [qI,qJ,qK]<;>omega)|exact qL _)) only [go_sem,↓reduceIte,n0,reduceCtorEq,n1,n2,n3,n4,n5,i0,i1,i2,i3,i4,i5,i6,i7,hxb20,hrc2_2,hrc2_7,hrc2_8,hrc2_9,hrc2_10,hrc2_13,hrc2_12,hrc2_14,hrc2_16,hrc2_27,hra2,hri2,exitRQ_ret,exitRQ_exit,Int.toNat_natCast,Nat.mul_one,hst20_0])
          generalize hw21 : wr w20 R2 (j2 * 4) [strV (rdStr false s9).1] = w21
          have hS21 : Upd (fun b => b = R2 ∨ b = rb) w20 w21 := by rw [← hw21];exact (Upd.refl _ _).wr _ _ (.inr (.inl rfl))
          have hx2_21 : blk w21 R2 = some ((A2 ++ (([strV (rdStr false s9).1,.float .f64 0,.bool false,.map none] : List Value) ++ B2)).toArray,90,(0,0)) := by rw [← hw21];exact el_blk0 hx2_20 hA2 (Nat.le_of_ble_eq_true rfl)
          have hV21 := hS21
          have hU21 : Upd (fun b => b = vb ∨ b = rb) w1 w21 := hU20.trans' hV21 fun i hi h => h.elim (fun h => by omega) .inr
          have hz21 := hV21.size
          have hG21 : Glo ev w21 := hG1.updS hU21 hgM1 hgM2
          have hq21 : Rdr RT ok w21 rb s10 ∧ NN w21 rb s10 := by
            have hn : ∀ x,x = w21 → (Rdr RT ok x rb s10 ∧ NN x rb s10) := fun x hx => by
              rw [hx,← hw21]
              exact Rdr.store hq20 (by omega) (fun h => by have := (hok _ h).1;first | omega | exact (hok _ h).2 rfl)
            exact hn _ rfl
          obtain ⟨X21,hX21⟩ : ∃ X : Array Value,X = (A2 ++ (([strV (rdStr false s9).1,.float .f64 0,.bool false,.map none] : List Value) ++ B2)).toArray := ⟨_,rfl⟩
          have hxb21 : blk w21 R2 = some (X21,90,(0,0)) := by rw [hX21];exact hx2_21
          have hXs21 : j2 * 4 + 4 ≤ X21.size := by rw [hX21];simp only [List.size_toArray,List.length_append,List.length_cons,List.length_nil,hA2];omega
          clear hw21
          have hfe0e2_0 : RepF (RepS true d) (szS true d) fX1_0 (fun b => (fun b => (ok b ∨ w1.heap.size ≤ b) ∧ ¬ ownB va0 b) b ∧ ¬ ownB va2 b) w21 (xe0e2_0) [strV (rdStr false s9).1] := (RepF_text rfl (by decide)).2 (by rw [hxe0e2_0,hrd];rfl)
          clear hrd
          have hbe0e2_1 : (rdL (rdP d ver false) (dfP d) ver false [fX1_1,fX1_2] s10).2 = none → FB := fun h => hbe0e2_0 (by rw [rdL_st (by decide) hhe0e2_0,← hs10];exact h)
          have hhe0e2_1 : hasS fX1_1 ver = true := hasS_t (by show (0 : Int) ≤ ver;omega) (by show (-1 : Int) < 0 ∨ ver ≤ (-1 : Int);omega)
          obtain ⟨xe0e2_1,hxe0e2_1⟩ : ∃ x,x = (rdF (rdP d ver false) ver false fX1_1 s10).1 := ⟨_,rfl⟩
          repeat ((first | refine qA rfl ?_|apply qB|refine qC rfl ?_|apply qD|apply qE|apply qF|apply qG|apply qH);try simp (maxSteps:=1000000)(disch:=(first|omega|(simp only [qI,qJ,qK]<;>omega)|exact qL _)) only [go_sem,↓reduceIte,n0,reduceCtorEq,n1,n2,n3,n4,n5,i0,i1,i2,i3,i4,i5,i6,i7,hxb21,hrc2_2,hrc2_7,hrc2_8,hrc2_9,hrc2_10,hrc2_13,hrc2_12,hrc2_14,hrc2_16,hrc2_27,hra2,hri2,exitRQ_ret,exitRQ_exit,Int.toNat_natCast,Nat.mul_one])
          have hrd : rdF (rdP d ver false) ver false fX1_1 s10 = _ := rdF_num 6 rfl (by decide)
          refine (Float64_fn w21 hq21.1 hrok hG21.1 hgrb).mono ?_
          rintro _ w22 ⟨rfl,hq22,hu22⟩
          have hx2_22 := hu22.blk_some hx2_21 (by omega)
          have hV22 : Upd (fun b => b = R2 ∨ b = rb) w21 w22 := hu22.mono (fun _ h => .inr h)
          have hU22 : Upd (fun b => b = vb ∨ b = rb) w1 w22 := hU21.trans' hV22 fun i hi h => h.elim (fun h => by omega) .inr
          have hz22 := hV22.size
          have hG22 : Glo ev w22 := hG1.updS hU22 hgM1 hgM2
          obtain ⟨X22,hX22⟩ : ∃ X : Array Value,X = (A2 ++ (([strV (rdStr false s9).1,.float .f64 0,.bool false,.map none] : List Value) ++ B2)).toArray := ⟨_,rfl⟩
          have hxb22 : blk w22 R2 = some (X22,90,(0,0)) := by rw [hX22];exact hx2_22
          have hXs22 : j2 * 4 + 4 ≤ X22.size := by rw [hX22];simp only [List.size_toArray,List.length_append,List.length_cons,List.length_nil,hA2];omega
          have hst : (rdF (rdP d ver false) ver false fX1_1 s10).2 = (rdInt .i64 8 s10).2 := by first | (rw [hrd];rfl) | rw [hrd]
          obtain ⟨s11,hs11⟩ : ∃ s,s = (rdF (rdP d ver false) ver false fX1_1 s10).2 := ⟨_,rfl⟩
          rw [← hst,← hs11] at hq22
          clear hst
          have hst22_1 : j2 * 4 + 2 ≤ X22.size := by omega
          repeat ((first | refine qA rfl ?_|apply qB|refine qC rfl ?_|apply qD|apply qE|apply qF|apply qG|apply qH);try simp (maxSteps:=1000000)(disch:=(first|omega|(simp only [qI,qJ,qK]<;>omega)|exact qL _)) only [go_sem,↓reduceIte,n0,reduceCtorEq,n1,n2,n3,n4,n5,i0,i1,i2,i3,i4,i5,i6,i7,hxb22,hrc2_2,hrc2_7,hrc2_8,hrc2_9,hrc2_10,hrc2_13,hrc2_12,hrc2_14,hrc2_16,hrc2_27,hra2,hri2,exitRQ_ret,exitRQ_exit,Int.toNat_natCast,Nat.mul_one,hst22_1])
          generalize hw23 : wr w22 R2 (j2 * 4 + 1) [.float .f64 (rdInt .u64 8 s10).1.toNat] = w23
          have hS23 : Upd (fun b => b = R2 ∨ b = rb) w22 w23 := by rw [← hw23];exact (Upd.refl _ _).wr _ _ (.inr (.inl rfl))
          have hx2_23 : blk w23 R2 = some ((A2 ++ (([strV (rdStr false s9).1,.float .f64 (rdInt .u64 8 s10).1.toNat,.bool false,.map none] : List Value) ++ B2)).toArray,90,(0,0)) := by rw [← hw23];exact el_blk (o := 1) hx2_22 hA2 (Nat.le_of_ble_eq_true rfl)
          have hV23 := hS23
          have hU23 : Upd (fun b => b = vb ∨ b = rb) w1 w23 := hU22.trans' hV23 fun i hi h => h.elim (fun h => by omega) .inr
          have hz23 := hV23.size
          have hG23 : Glo ev w23 := hG1.updS hU23 hgM1 hgM2
          have hq23 : Rdr RT ok w23 rb s11 ∧ NN w23 rb s11 := by
            have hn : ∀ x,x = w23 → (Rdr RT ok x rb s11 ∧ NN x rb s11) := fun x hx => by
              rw [hx,← hw23]
              exact Rdr.store hq22 (by omega) (fun h => by have := (hok _ h).1;first | omega | exact (hok _ h).2 rfl)
            exact hn _ rfl
          obtain ⟨X23,hX23⟩ : ∃ X : Array Value,X = (A2 ++ (([strV (rdStr false s9).1,.float .f64 (rdInt .u64 8 s10).1.toNat,.bool false,.map none] : List Value) ++ B2)).toArray := ⟨_,rfl⟩
          have hxb23 : blk w23 R2 = some (X23,90,(0,0)) := by rw [hX23];exact hx2_23
          have hXs23 : j2 * 4 + 4 ≤ X23.size := by rw [hX23];simp only [List.size_toArray,List.length_append,List.length_cons,List.length_nil,hA2];omega
          clear hw23
          have hfe0e2_1 : RepF (RepS true d) (szS true d) fX1_1 (fun b => (fun b => (ok b ∨ w1.heap.size ≤ b) ∧ ¬ ownB va0 b) b ∧ ¬ ownB va2 b) w23 (xe0e2_1) [.float .f64 (rdInt .u64 8 s10).1.toNat] := (RepF_num (by decide)).2 (by rw [hxe0e2_1,hrd];exact congrArg (fun x => [x]) (numC_rdF s10).symm)
          clear hrd
          have hbe0e2_2 : (rdL (rdP d ver false) (dfP d) ver false [fX1_2] s11).2 = none → FB := fun h => hbe0e2_1 (by rw [rdL_st (by decide) hhe0e2_1,← hs11];exact h)
          have hhe0e2_2 : hasS fX1_2 ver = true := hasS_t (by show (0 : Int) ≤ ver;omega) (by show (-1 : Int) < 0 ∨ ver ≤ (-1 : Int);omega)
          obtain ⟨xe0e2_2,hxe0e2_2⟩ : ∃ x,x = (rdF (rdP d ver false) ver false fX1_2 s11).1 := ⟨_,rfl⟩
          repeat ((first | refine qA rfl ?_|apply qB|refine qC rfl ?_|apply qD|apply qE|apply qF|apply qG|apply qH);try simp (maxSteps:=1000000)(disch:=(first|omega|(simp only [qI,qJ,qK]<;>omega)|exact qL _)) only [go_sem,↓reduceIte,n0,reduceCtorEq,n1,n2,n3,n4,n5,i0,i1,i2,i3,i4,i5,i6,i7,hxb23,hrc2_2,hrc2_7,hrc2_8,hrc2_9,hrc2_10,hrc2_13,hrc2_12,hrc2_14,hrc2_16,hrc2_27,hra2,hri2,exitRQ_ret,exitRQ_exit,Int.toNat_natCast,Nat.mul_one])
          have hrd : rdF (rdP d ver false) ver false fX1_2 s11 = _ := rdF_bool rfl
          refine (Bool_fn w23 hq23.1 hrok).mono ?_
          rintro _ w24 ⟨rfl,hq24,hu24⟩
          have hx2_24 := hu24.blk_some hx2_23 (by omega)
          have hV24 : Upd (fun b => b = R2 ∨ b = rb) w23 w24 := hu24.mono (fun _ h => .inr h)
          have hU24 : Upd (fun b => b = vb ∨ b = rb) w1 w24 := hU23.trans' hV24 fun i hi h => h.elim (fun h => by omega) .inr
          have hz24 := hV24.size
          have hG24 : Glo ev w24 := hG1.updS hU24 hgM1 hgM2
          obtain ⟨X24,hX24⟩ : ∃ X : Array Value,X = (A2 ++ (([strV (rdStr false s9).1,.float .f64 (rdInt .u64 8 s10).1.toNat,.bool false,.map none] : List Value) ++ B2)).toArray := ⟨_,rfl⟩
          have hxb24 : blk w24 R2 = some (X24,90,(0,0)) := by rw [hX24];exact hx2_24
          have hXs24 : j2 * 4 + 4 ≤ X24.size := by rw [hX24];simp only [List.size_toArray,List.length_append,List.length_cons,List.length_nil,hA2];omega
          have hst : (rdF (rdP d ver false) ver false fX1_2 s11).2 = (rdN 1 s11).2 := by first | (rw [hrd];rfl) | rw [hrd]
          obtain ⟨s12,hs12⟩ : ∃ s,s = (rdF (rdP d ver false) ver false fX1_2 s11).2 := ⟨_,rfl⟩
          rw [← hst,← hs12] at hq24
          clear hst
          have hst24_2 : j2 * 4 + 3 ≤ X24.size := by omega
          repeat ((first | refine qA rfl ?_|apply qB|refine qC rfl ?_|apply qD|apply qE|apply qF|apply qG|apply qH);try simp (maxSteps:=1000000)(disch:=(first|omega|(simp only [qI,qJ,qK]<;>omega)|exact qL _)) only [go_sem,↓reduceIte,n0,reduceCtorEq,n1,n2,n3,n4,n5,i0,i1,i2,i3,i4,i5,i6,i7,hxb24,hrc2_2,hrc2_7,hrc2_8,hrc2_9,hrc2_10,hrc2_13,hrc2_12,hrc2_14,hrc2_16,hrc2_27,hra2,hri2,exitRQ_ret,exitRQ_exit,Int.toNat_natCast,Nat.mul_one,hst24_2])
          generalize hw25 : wr w24 R2 (j2 * 4 + 2) [.bool (!decide (beN (rdN 1 s11).1 = 0))] = w25
          have hS25 : Upd (fun b => b = R2 ∨ b = rb) w24 w25 := by rw [← hw25];exact (Upd.refl _ _).wr _ _ (.inr (.inl rfl))
          have hx2_25 : blk w25 R2 = some ((A2 ++ (([strV (rdStr false s9).1,.float .f64 (rdInt .u64 8 s10).1.toNat,.bool (!decide (beN (rdN 1 s11).1 = 0)),.map none] : List Value) ++ B2)).toArray,90,(0,0)) := by rw [← hw25];exact el_blk (o := 2) hx2_24 hA2 (Nat.le_of_ble_eq_true rfl)
          have hV25 := hS25
          have hU25 : Upd (fun b => b = vb ∨ b = rb) w1 w25 := hU24.trans' hV25 fun i hi h => h.elim (fun h => by omega) .inr
          have hz25 := hV25.size
          have hG25 : Glo ev w25 := hG1.updS hU25 hgM1 hgM2
          have hq25 : Rdr RT ok w25 rb s12 ∧ NN w25 rb s12 := by
            have hn : ∀ x,x = w25 → (Rdr RT ok x rb s12 ∧ NN x rb s12) := fun x hx => by
              rw [hx,← hw25]
              exact Rdr.store hq24 (by omega) (fun h => by have := (hok _ h).1;first | omega | exact (hok _ h).2 rfl)
            exact hn _ rfl
          obtain ⟨X25,hX25⟩ : ∃ X : Array Value,X = (A2 ++ (([strV (rdStr false s9).1,.float .f64 (rdInt .u64 8 s10).1.toNat,.bool (!decide (beN (rdN 1 s11).1 = 0)),.map none] : List Value) ++ B2)).toArray := ⟨_,rfl⟩
          have hxb25 : blk w25 R2 = some (X25,90,(0,0)) := by rw [hX25];exact hx2_25
          have hXs25 : j2 * 4 + 4 ≤ X25.size := by rw [hX25];simp only [List.size_toArray,List.length_append,List.length_cons,List.length_nil,hA2];omega
          clear hw25
          have hfe0e2_2 : RepF (RepS true d) (szS true d) fX1_2 (fun b => (fun b => (ok b ∨ w1.heap.size ≤ b) ∧ ¬ ownB va0 b) b ∧ ¬ ownB va2 b) w25 (xe0e2_2) [.bool (!decide (beN (rdN 1 s11).1 = 0))] := (RepF_num (by decide)).2 (by rw [hxe0e2_2,hrd];exact congrArg (fun x => [x]) (numC_bool _).symm)
          clear hrd
          have hle0e2_3 : rdL (rdP d ver false) (dfP d) ver false [] s12 = ([],s12) := rfl
          have hle0e2_2 : rdL (rdP d ver false) (dfP d) ver false [fX1_2] s11 = ([xe0e2_2],s12) := by rw [rdL_st (by decide) hhe0e2_2,← hxe0e2_2,← hs12,hle0e2_3]
          have hle0e2_1 : rdL (rdP d ver false) (dfP d) ver false [fX1_1,fX1_2] s10 = ([xe0e2_1,xe0e2_2],s12) := by rw [rdL_st (by decide) hhe0e2_1,← hxe0e2_1,← hs11,hle0e2_2]
          have hle0e2_0 : rdL (rdP d ver false) (dfP d) ver false [fX1_0,fX1_1,fX1_2] s9 = ([xe0e2_0,xe0e2_1,xe0e2_2],s12) := by rw [rdL_st (by decide) hhe0e2_0,← hxe0e2_0,← hs10,hle0e2_1]
          have hfine0e2 : rdP (d + 1) ver false fs_X1 s9 = (.mk 0 [] false [xe0e2_0,xe0e2_1,xe0e2_2] [],s12) := rdP_f hle0e2_0
          have hTge0e2 : TagsM (fun b => (fun b => (ok b ∨ w1.heap.size ≤ b) ∧ ¬ ownB va0 b) b ∧ ¬ ownB va2 b) w25 (.map none) [] := .inl ⟨rfl,rfl⟩
          have hCe0e2_25 : Upd (fun b => b = R2 ∨ b = rb) w25 w25 := Upd.refl _ _
          have hCe0e2_24 : Upd (fun b => b = R2 ∨ b = rb) w24 w25 := hV25.trans hCe0e2_25
          have hCe0e2_23 : Upd (fun b => b = R2 ∨ b = rb) w23 w25 := hV24.trans hCe0e2_24
          have hCe0e2_22 : Upd (fun b => b = R2 ∨ b = rb) w22 w25 := hV23.trans hCe0e2_23
          have hCe0e2_21 : Upd (fun b => b = R2 ∨ b = rb) w21 w25 := hV22.trans hCe0e2_22
          have hCe0e2_20 : Upd (fun b => b = R2 ∨ b = rb) w20 w25 := hV21.trans hCe0e2_21
          have hCe0e2_19 : Upd (fun b => b = R2 ∨ b = rb) w19 w25 := hV20.trans hCe0e2_20
          have hCe0e2_18 : Upd (fun b => b = R2 ∨ b = rb) w18 w25 := hV19.trans hCe0e2_19
          have hRe0e2 : RepS true (d + 1) fs_X1 (fun b => (fun b => (ok b ∨ w1.heap.size ≤ b) ∧ ¬ ownB va0 b) b ∧ ¬ ownB va2 b) w25 (.mk 0 [] false [xe0e2_0,xe0e2_1,xe0e2_2] []) [strV (rdStr false s9).1,.float .f64 (rdInt .u64 8 s10).1.toNat,.bool (!decide (beN (rdN 1 s11).1 = 0)),.map none] := RepS.introT (c := [strV (rdStr false s9).1,.float .f64 (rdInt .u64 8 s10).1.toNat,.bool (!decide (beN (rdN 1 s11).1 = 0))]) (RepL.cons1 (hfe0e2_0.keepS (hCe0e2_21.keeps fun b _ hk e => hoM2 b hk e)) (RepL.cons1 (hfe0e2_1.keepS (hCe0e2_23.keeps fun b _ hk e => hoM2 b hk e)) (RepL.cons1 (hfe0e2_2.keepS (hCe0e2_25.keeps fun b _ hk e => hoM2 b hk e)) RepL.nil))) hTge0e2
          have hrE : (rd1 (rdP (d + 1) ver false) fX2_1.of fX2_1.sub false false) s9 = ((.mk 0 [] false [xe0e2_0,xe0e2_1,xe0e2_2] []),s12) := by rw [show (rd1 (rdP (d + 1) ver false) fX2_1.of fX2_1.sub false false) s9 = _ from rd1_part];exact hfine0e2
          have hxE : (Rep1 (RepS true (d + 1)) fX2_1.of fX2_1.sub) (fun b => (fun b => (ok b ∨ w1.heap.size ≤ b) ∧ ¬ ownB va0 b) b ∧ ¬ ownB va2 b) w25 (.mk 0 [] false [xe0e2_0,xe0e2_1,xe0e2_2] []) [strV (rdStr false s9).1,.float .f64 (rdInt .u64 8 s10).1.toNat,.bool (!decide (beN (rdN 1 s11).1 = 0)),.map none] := Rep1_part.2 hRe0e2
          repeat ((first | refine qA rfl ?_|apply qB|refine qC rfl ?_|apply qD|apply qE|apply qF|apply qG|apply qH);try simp (maxSteps:=1000000)(disch:=(first|omega|(simp only [qI,qJ,qK]<;>omega)|exact qL _)) only [go_sem,↓reduceIte,n0,reduceCtorEq,n1,n2,n3,n4,n5,i0,i1,i2,i3,i4,i5,i6,i7,hxb25,hrc2_2,hrc2_7,hrc2_8,hrc2_9,hrc2_10,hrc2_13,hrc2_12,hrc2_14,hrc2_16,hrc2_27,hra2,hri2,exitRQ_ret,exitRQ_exit,Int.toNat_natCast,Nat.mul_one])
          have hTk : Upd (fun b => b = R2 ∨ b = rb) w18 w25 := ((((((hV19.trans hV20).trans hV21).trans hV22).trans hV23).trans hV24).trans hV25)
          have hL' := hL2.step (Rep1_lay _ _ fun _ => RepS_lay true _ _) hlt2 (hnext2 w25 [strV (rdStr false s9).1,.float .f64 (rdInt .u64 8 s10).1.toNat,.bool (!decide (beN (rdN 1 s11).1 = 0)),.map none] rfl hx2_25) (by rw [hrE];exact hxE) (hTk.mono fun b h => h.imp (fun e => ⟨_,_,_,hva2,e⟩) id) (by rw [hrE];exact hq25) (fun h => hoM1 rb h (.inr rfl)) (Nat.le_refl _)
          have hij : IntKind.i32.wrap ((j2 : Int) + 1) = ((j2 + 1 : Nat) : Int) := by rw [i32_wrap (by omega)];omega
          repeat ((first | refine qA rfl ?_|apply qB|refine qC rfl ?_|apply qD|apply qE|apply qF|apply qG|apply qH);try simp (maxSteps:=1000000)(disch:=(first|omega|(simp only [qI,qJ,qK]<;>omega)|exact qL _)) only [go_sem,↓reduceIte,n0,reduceCtorEq,n1,n2,n3,n4,n5,i0,i1,i2,i3,i4,i5,i6,i7,hxb25,hrc2_2,hrc2_7,hrc2_8,hrc2_9,hrc2_10,hrc2_13,hrc2_12,hrc2_14,hrc2_16,hrc2_27,hra2,hri2,exitRQ_ret,exitRQ_exit,Int.toNat_natCast,Nat.mul_one,hij])
          refine ⟨⟨(by simp (maxSteps:=1000000)(disch:=(first|omega|(simp only [qI,qJ,qK]<;>omega)|exact qL _)) only [go_sem,↓reduceIte,n0,reduceCtorEq,n1,n2,n3,n4,n5,i0,i1,i2,i3,i4,i5,i6,i7,Holds_nil,Holds_cons,hrc2_2,hrc2_7,hrc2_8,hrc2_9,hrc2_10,hrc2_13,hrc2_12,hrc2_14,hrc2_16,hrc2_27,hra2,hri2];exact hva2.symm),j2 + 1,(by simp (maxSteps:=1000000)(disch:=(first|omega|(simp only [qI,qJ,qK]<;>omega)|exact qL _)) only [go_sem,↓reduceIte,n0,reduceCtorEq,n1,n2,n3,n4,n5,i0,i1,i2,i3,i4,i5,i6,i7,hrc2_2,hrc2_7,hrc2_8,hrc2_9,hrc2_10,hrc2_13,hrc2_12,hrc2_14,hrc2_16,hrc2_27,hra2,hri2,hij];all_goals rfl),_,_,_,hL'⟩,?_⟩
          try simp (maxSteps:=1000000)(disch:=(first|omega|(simp only [qI,qJ,qK]<;>omega)|exact qL _)) only [go_sem,↓reduceIte,n0,reduceCtorEq,n1,n2,n3,n4,n5,i0,i1,i2,i3,i4,i5,i6,i7,hrc2_2,hrc2_7,hrc2_8,hrc2_9,hrc2_10,hrc2_13,hrc2_12,hrc2_14,hrc2_16,hrc2_27,hra2,hri2]
          simp only [RowKit.intOf]
          omega
        · have hjN : j2 = N2 := by omega
          rw [hjN] at hL2
          repeat ((first | refine qA rfl ?_|apply qB|refine qC rfl ?_|apply qD|apply qE|apply qF|apply qG|apply qH);try simp (maxSteps:=1000000)(disch:=(first|omega|(simp only [qI,qJ,qK]<;>omega)|exact qL _)) only [go_sem,↓reduceIte,n0,reduceCtorEq,n1,n2,n3,n4,n5,i0,i1,i2,i3,i4,i5,i6,i7,hrc2_2,hrc2_7,hrc2_8,hrc2_9,hrc2_10,hrc2_13,hrc2_12,hrc2_14,hrc2_16,hrc2_27,hrc2_26,hri2,exitRQ_ret,exitRQ_exit])
          exact ⟨(by simp (maxSteps:=1000000)(disch:=(first|omega|(simp only [qI,qJ,qK]<;>omega)|exact qL _)) only [go_sem,↓reduceIte,n0,reduceCtorEq,n1,n2,n3,n4,n5,i0,i1,i2,i3,i4,i5,i6,i7,Holds_nil,Holds_cons,hrc2_2,hrc2_7,hrc2_8,hrc2_9,hrc2_10,hrc2_13,hrc2_12,hrc2_14,hrc2_16,hrc2_27,hrc2_26,hri2]),s9,xs2,css2,hL2⟩
      rintro ρ w26 ⟨⟨hrd2_2,hrd2_7,hrd2_8,hrd2_9,hrd2_10,hrd2_13,hrd2_12,hrd2_14,hrd2_16,hrd2_27,hrd2_26,-⟩,s13,xs2,css2,hL2⟩
      have hq26 := hL2.rd
      have hu26 := hL2.upd
      have hx1_26 := hu26.blk_some hx1_16 (by omega)
      have hV26 : Upd (fun b => b = R1 ∨ b = rb) w16 w26 := hu26.mono (fun _ h => .inr h)
      have hU26 : Upd (fun b => b = vb ∨ b = rb) w1 w26 := hU16.trans' hV26 fun i hi h => h.elim (fun h => by omega) .inr
      have hz26 := hV26.size
      have hG26 : Glo ev w26 := hG1.updS hU26 hgM1 hgM2
      obtain ⟨X26,hX26⟩ : ∃ X : Array Value,X = (A1 ++ (([.slice aa1 N1 qq1,.slice none 0 0,.map none] : List Value) ++ B1)).toArray := ⟨_,rfl⟩
      have hxb26 : blk w26 R1 = some (X26,79,(0,0)) := by rw [hX26];exact hx1_26
      have hXs26 : j1 * 3 + 3 ≤ X26.size := by rw [hX26];simp only [List.size_toArray,List.length_append,List.length_cons,List.length_nil,hA1];omega
      have hrd2 : rdF (rdP (d + 1) ver false) ver false fX2_1 s7 = (.mk 0 [] (nilS fX2_1 ver y2) xs2 [],s13) := by
        have h := rdF_listE (pt := (rdP (d + 1) ver false)) (v := ver) (flex := false) (f := fX2_1) (s := s7) (xs := xs2) (e := s13) rfl (by rw [hy2,← hN2,← hs8];exact hL2.done)
        rw [hy2] at h;exact h
      have hs13 : s13 = (rdF (rdP (d + 1) ver false) ver false fX2_1 s7).2 := by rw [hrd2]
      obtain ⟨aa2,qq2,hvs2⟩ := hL2.row.shape
      subst hvs2
      have hst26_1 : j1 * 3 + 2 ≤ X26.size := by omega
      repeat ((first | refine qA rfl ?_|apply qB|refine qC rfl ?_|apply qD|apply qE|apply qF|apply qG|apply qH);try simp (maxSteps:=1000000)(disch:=(first|omega|(simp only [qI,qJ,qK]<;>omega)|exact qL _)) only [go_sem,↓reduceIte,n0,reduceCtorEq,n1,n2,n3,n4,n5,i0,i1,i2,i3,i4,i5,i6,i7,hxb26,hrd2_2,hrd2_7,hrd2_8,hrd2_9,hrd2_10,hrd2_13,hrd2_12,hrd2_14,hrd2_16,hrd2_27,hrd2_26,exitRQ_ret,exitRQ_exit,Int.toNat_natCast,Nat.mul_one,hst26_1])
      generalize hw27 : wr w26 R1 (j1 * 3 + 1) [.slice aa2 N2 qq2] = w27
      have hS27 : Upd (fun b => b = R1 ∨ b = rb) w26 w27 := by rw [← hw27];exact (Upd.refl _ _).wr _ _ (.inr (.inl rfl))
      have hx1_27 : blk w27 R1 = some ((A1 ++ (([.slice aa1 N1 qq1,.slice aa2 N2 qq2,.map none] : List Value) ++ B1)).toArray,79,(0,0)) := by rw [← hw27];exact el_blk (o := 1) hx1_26 hA1 (Nat.le_of_ble_eq_true rfl)
      have hV27 := hS27
      have hU27 : Upd (fun b => b = vb ∨ b = rb) w1 w27 := hU26.trans' hV27 fun i hi h => h.elim (fun h => by omega) .inr
      have hz27 := hV27.size
      have hG27 : Glo ev w27 := hG1.updS hU27 hgM1 hgM2
      have hq27 : Rdr RT ok w27 rb s13 ∧ NN w27 rb s13 := by
        have hn : ∀ x,x = w27 → (Rdr RT ok x rb s13 ∧ NN x rb s13) := fun x hx => by
          rw [hx,← hw27]
          exact Rdr.store hq26 (by omega) (fun h => by have := (hok _ h).1;first | omega | exact (hok _ h).2 rfl)
        exact hn _ rfl
      obtain ⟨X27,hX27⟩ : ∃ X : Array Value,X = (A1 ++ (([.slice aa1 N1 qq1,.slice aa2 N2 qq2,.map none] : List Value) ++ B1)).toArray := ⟨_,rfl⟩
      have hxb27 : blk w27 R1 = some (X27,79,(0,0)) := by rw [hX27];exact hx1_27
      have hXs27 : j1 * 3 + 3 ≤ X27.size := by rw [hX27];simp only [List.size_toArray,List.length_append,List.length_cons,List.length_nil,hA1];omega
      clear hw27
      have hfe0_1 : RepF (RepS true (d + 1)) (szS true (d + 1)) fX2_1 (fun b => (ok b ∨ w1.heap.size ≤ b) ∧ ¬ ownB va0 b) w27 (xe0_1) [.slice aa2 N2 qq2] := by rw [hxe0_1,hrd2];exact RepF.keepS (RepF_row rfl hnc2 hN2 rfl hL2.row hL2.all (fun b hb => ⟨.inr (by omega),fun ho => by have := (hown1 _ ho).2;omega⟩)) (hV27.keeps fun b _ hk e => hoM1 b hk e)
      clear hL2 hnc2
      have hle0_2 : rdL (rdP (d + 1) ver false) (dfP (d + 1)) ver false [] s13 = ([],s13) := rfl
      have hle0_1 : rdL (rdP (d + 1) ver false) (dfP (d + 1)) ver false [fX2_1] s7 = ([xe0_1],s13) := by rw [rdL_st (by decide) hhe0_1,← hxe0_1,← hs13,hle0_2]
      have hle0_0 : rdL (rdP (d + 1) ver false) (dfP (d + 1)) ver false [fX2_0,fX2_1] s2 = ([xe0_0,xe0_1],s13) := by rw [rdL_st (by decide) hhe0_0,← hxe0_0,← hs7,hle0_1]
      have hfine0 : rdP (d + 2) ver false fs_X2 s2 = (.mk 0 [] false [xe0_0,xe0_1] [],s13) := rdP_f hle0_0
      have hTge0 : TagsM (fun b => (ok b ∨ w1.heap.size ≤ b) ∧ ¬ ownB va0 b) w27 (.map none) [] := .inl ⟨rfl,rfl⟩
      have hCe0_27 : Upd (fun b => b = R1 ∨ b = rb) w27 w27 := Upd.refl _ _
      have hCe0_26 : Upd (fun b => b = R1 ∨ b = rb) w26 w27 := hV27.trans hCe0_27
      have hCe0_16 : Upd (fun b => b = R1 ∨ b = rb) w16 w27 := hV26.trans hCe0_26
      have hCe0_15 : Upd (fun b => b = R1 ∨ b = rb) w15 w27 := hV16.trans hCe0_16
      have hCe0_14 : Upd (fun b => b = R1 ∨ b = rb) w14 w27 := hV15.trans hCe0_15
      have hCe0_6 : Upd (fun b => b = R1 ∨ b = rb) w6 w27 := hV14.trans hCe0_14
      have hCe0_5 : Upd (fun b => b = R1 ∨ b = rb) w5 w27 := hV6.trans hCe0_6
      have hCe0_4 : Upd (fun b => b = R1 ∨ b = rb) w4 w27 := hV5.trans hCe0_5
      have hRe0 : RepS true (d + 2) fs_X2 (fun b => (ok b ∨ w1.heap.size ≤ b) ∧ ¬ ownB va0 b) w27 (.mk 0 [] false [xe0_0,xe0_1] []) [.slice aa1 N1 qq1,.slice aa2 N2 qq2,.map none] := RepS.introT (c := [.slice aa1 N1 qq1,.slice aa2 N2 qq2]) (RepL.cons1 (hfe0_0.keepS (hCe0_15.keeps fun b _ hk e => hoM1 b hk e)) (RepL.cons1 (hfe0_1.keepS (hCe0_27.keeps fun b _ hk e => hoM1 b hk e)) RepL.nil)) hTge0
      have hrE : (rd1 (rdP (d + 2) ver false) fQ_0.of fQ_0.sub false false) s2 = ((.mk 0 [] false [xe0_0,xe0_1] []),s13) := by rw [show (rd1 (rdP (d + 2) ver false) fQ_0.of fQ_0.sub false false) s2 = _ from rd1_part];exact hfine0
      have hxE : (Rep1 (RepS true (d + 2)) fQ_0.of fQ_0.sub) (fun b => (ok b ∨ w1.heap.size ≤ b) ∧ ¬ ownB va0 b) w27 (.mk 0 [] false [xe0_0,xe0_1] []) [.slice aa1 N1 qq1,.slice aa2 N2 qq2,.map none] := Rep1_part.2 hRe0
      repeat ((first | refine qA rfl ?_|apply qB|refine qC rfl ?_|apply qD|apply qE|apply qF|apply qG|apply qH);try simp (maxSteps:=1000000)(disch:=(first|omega|(simp only [qI,qJ,qK]<;>omega)|exact qL _)) only [go_sem,↓reduceIte,n0,reduceCtorEq,n1,n2,n3,n4,n5,i0,i1,i2,i3,i4,i5,i6,i7,hxb27,hrd2_2,hrd2_7,hrd2_8,hrd2_9,hrd2_10,hrd2_13,hrd2_12,hrd2_14,hrd2_16,hrd2_27,hrd2_26,exitRQ_ret,exitRQ_exit,Int.toNat_natCast,Nat.mul_one])
      have hTk : Upd (fun b => b = R1 ∨ b = rb) w4 w27 := ((((((hV5.trans hV6).trans hV14).trans hV15).trans hV16).trans hV26).trans hV27)
      have hL' := hL0.step (Rep1_lay _ _ fun _ => RepS_lay true _ _) hlt0 (hnext1 w27 [.slice aa1 N1 qq1,.slice aa2 N2 qq2,.map none] rfl hx1_27) (by rw [hrE];exact hxE) (hTk.mono fun b h => h.imp (fun e => ⟨_,_,_,hva1,e⟩) id) (by rw [hrE];exact hq27) (fun h => hoM rb h (.inr rfl)) (Nat.le_refl _)
      have hij : IntKind.i32.wrap ((j1 : Int) + 1) = ((j1 + 1 : Nat) : Int) := by rw [i32_wrap (by omega)];omega
      repeat ((first | refine qA rfl ?_|apply qB|refine qC rfl ?_|apply qD|apply qE|apply qF|apply qG|apply qH);try simp (maxSteps:=1000000)(disch:=(first|omega|(simp only [qI,qJ,qK]<;>omega)|exact qL _)) only [go_sem,↓reduceIte,n0,reduceCtorEq,n1,n2,n3,n4,n5,i0,i1,i2,i3,i4,i5,i6,i7,hxb27,hrd2_2,hrd2_7,hrd2_8,hrd2_9,hrd2_10,hrd2_13,hrd2_12,hrd2_14,hrd2_16,hrd2_27,hrd2_26,exitRQ_ret,exitRQ_exit,Int.toNat_natCast,Nat.mul_one,hij])
      refine ⟨⟨(by simp (maxSteps:=1000000)(disch:=(first|omega|(simp only [qI,qJ,qK]<;>omega)|exact qL _)) only [go_sem,↓reduceIte,n0,reduceCtorEq,n1,n2,n3,n4,n5,i0,i1,i2,i3,i4,i5,i6,i7,Holds_nil,Holds_cons,hrd2_2,hrd2_7,hrd2_8,hrd2_9,hrd2_10,hrd2_13,hrd2_12,hrd2_14,hrd2_16,hrd2_27,hrd2_26];exact hva1.symm),j1 + 1,(by simp (maxSteps:=1000000)(disch:=(first|omega|(simp only [qI,qJ,qK]<;>omega)|exact qL _)) only [go_sem,↓reduceIte,n0,reduceCtorEq,n1,n2,n3,n4,n5,i0,i1,i2,i3,i4,i5,i6,i7,hrd2_2,hrd2_7,hrd2_8,hrd2_9,hrd2_10,hrd2_13,hrd2_12,hrd2_14,hrd2_16,hrd2_27,hrd2_26,hij];all_goals rfl),_,_,_,hL'⟩,?_⟩
      try simp (maxSteps:=1000000)(disch:=(first|omega|(simp only [qI,qJ,qK]<;>omega)|exact qL _)) only [go_sem,↓reduceIte,n0,reduceCtorEq,n1,n2,n3,n4,n5,i0,i1,i2,i3,i4,i5,i6,i7,hrd2_2,hrd2_7,hrd2_8,hrd2_9,hrd2_10,hrd2_13,hrd2_12,hrd2_14,hrd2_16,hrd2_27,hrd2_26]
      simp only [RowKit.intOf]
      omega
    · have hjN : j1 = N0 := by omega
      rw [hjN] at hL0
      repeat ((first | refine qA rfl ?_|apply qB|refine qC rfl ?_|apply qD|apply qE|apply qF|apply qG|apply qH);try simp (maxSteps:=1000000)(disch:=(first|omega|(simp only [qI,qJ,qK]<;>omega)|exact qL _)) only [go_sem,↓reduceIte,n0,reduceCtorEq,n1,n2,n3,n4,n5,i0,i1,i2,i3,i4,i5,i6,i7,hrc0_2,hrc0_7,hrc0_8,hrc0_9,hrc0_10,hrc0_13,hrc0_12,hri0,exitRQ_ret,exitRQ_exit])
      exact ⟨(by simp (maxSteps:=1000000)(disch:=(first|omega|(simp only [qI,qJ,qK]<;>omega)|exact qL _)) only [go_sem,↓reduceIte,n0,reduceCtorEq,n1,n2,n3,n4,n5,i0,i1,i2,i3,i4,i5,i6,i7,Holds_nil,Holds_cons,hrc0_2,hrc0_7,hrc0_8,hrc0_9,hrc0_10,hrc0_13,hrc0_12,hri0]),s2,xs0,css0,hL0⟩
  rintro ρ w28 ⟨⟨hrd0_2,hrd0_7,hrd0_8,hrd0_9,hrd0_10,hrd0_13,hrd0_12,-⟩,s14,xs0,css0,hL0⟩
  have hq28 := hL0.rd
  have hu28 := hL0.upd
  have hv_28 := hu28.blk_some hv_2 (by omega)
  have hV28 : Upd (fun b => b = vb ∨ b = rb) w2 w28 := hu28.mono (fun _ h => .inr h)
  have hU28 : Upd (fun b => b = vb ∨ b = rb) w1 w28 := hU2.trans hV28
  have hz28 := hV28.size
  have hG28 : Glo ev w28 := hG1.updS hU28 hgM1 hgM2
  have hrd0 : rdF (rdP (d + 2) ver false) ver false fQ_0 s0 = (.mk 0 [] (nilS fQ_0 ver y0) xs0 [],s14) := by
    have h := rdF_listE (pt := (rdP (d + 2) ver false)) (v := ver) (flex := false) (f := fQ_0) (s := s0) (xs := xs0) (e := s14) rfl (by rw [hy0,← hN0,← hs1];exact hL0.done)
    rw [hy0] at h;exact h
  have hs14 : s14 = (rdF (rdP (d + 2) ver false) ver false fQ_0 s0).2 := by rw [hrd0]
  obtain ⟨aa0,qq0,hvs0⟩ := hL0.row.shape
  subst hvs0
  repeat ((first | refine qA rfl ?_|apply qB|refine qC rfl ?_|apply qD|apply qE|apply qF|apply qG|apply qH);try simp (maxSteps:=1000000)(disch:=(first|omega|(simp only [qI,qJ,qK]<;>omega)|exact qL _)) only [go_sem,↓reduceIte,n0,reduceCtorEq,n1,n2,n3,n4,n5,i0,i1,i2,i3,i4,i5,i6,i7,hv_28,hrd0_2,hrd0_7,hrd0_8,hrd0_9,hrd0_10,hrd0_13,hrd0_12])
  generalize hw29 : wr w28 vb 1 [.slice aa0 N0 qq0] = w29
  have hS29 : Upd (fun b => b = vb ∨ b = rb) w28 w29 := by rw [← hw29];exact (Upd.refl _ _).wr _ _ (.inr (.inl rfl))
  have hv_29 : blk w29 vb = some (#[.int .i16 ver,.slice aa0 N0 qq0,.bool false,.map none],64,(0,0)) := by rw [← hw29,blk_wr_eq,hv_28];rfl
  have hV29 := hS29
  have hU29 : Upd (fun b => b = vb ∨ b = rb) w1 w29 := hU28.trans hV29
  have hz29 := hV29.size
  have hG29 : Glo ev w29 := hG1.updS hU29 hgM1 hgM2
  have hq29 : Rdr RT ok w29 rb s14 ∧ NN w29 rb s14 := by
    have hn : ∀ x,x = w29 → (Rdr RT ok x rb s14 ∧ NN x rb s14) := fun x hx => by
      rw [hx,← hw29]
      exact Rdr.store hq28 (by omega) (fun h => by have := (hok _ h).1;first | omega | exact (hok _ h).2 rfl)
    exact hn _ rfl
  clear hw29
  have hf_0 : RepF (RepS true (d + 2)) (szS true (d + 2)) fQ_0 (fun b => ok b ∨ w1.heap.size ≤ b) w29 (x_0) [.slice aa0 N0 qq0] := by rw [hx_0,hrd0];exact RepF.keepS (RepF_row rfl hnc0 hN0 rfl hL0.row hL0.all (fun b hb => .inr (by omega))) (hV29.keeps fun b _ hk e => (hoM b hk) e)
  clear hL0 hnc0
  have hb_1 : (rdL (rdP (d + 2) ver false) (dfP (d + 2)) ver false [fQ_1] s14).2 = none → FB := fun h => hb_0 (by rw [rdL_st (by decide) hh_0,← hs14];exact h)
  have hh_1 : hasS fQ_1 ver = true := hasS_t (by show (0 : Int) ≤ ver;omega) (by show (-1 : Int) < 0 ∨ ver ≤ (-1 : Int);omega)
  obtain ⟨x_1,hx_1⟩ : ∃ x,x = (rdF (rdP (d + 2) ver false) ver false fQ_1 s14).1 := ⟨_,rfl⟩
  repeat ((first | refine qA rfl ?_|apply qB|refine qC rfl ?_|apply qD|apply qE|apply qF|apply qG|apply qH);try simp (maxSteps:=1000000)(disch:=(first|omega|(simp only [qI,qJ,qK]<;>omega)|exact qL _)) only [go_sem,↓reduceIte,n0,reduceCtorEq,n1,n2,n3,n4,n5,i0,i1,i2,i3,i4,i5,i6,i7,hv_29,hrd0_2,hrd0_7,hrd0_8,hrd0_9,hrd0_10,hrd0_13,hrd0_12])
  have hrd : rdF (rdP (d + 2) ver false) ver false fQ_1 s14 = _ := rdF_bool rfl
  refine (Bool_fn w29 hq29.1 hrok).mono ?_
  rintro _ w30 ⟨rfl,hq30,hu30⟩
  have hv_30 := hu30.blk_some hv_29 (by omega)
  have hV30 : Upd (fun b => b = vb ∨ b = rb) w29 w30 := hu30.mono (fun _ h => .inr h)
  have hU30 : Upd (fun b => b = vb ∨ b = rb) w1 w30 := hU29.trans hV30
  have hz30 := hV30.size
  have hG30 : Glo ev w30 := hG1.updS hU30 hgM1 hgM2
  have hst : (rdF (rdP (d + 2) ver false) ver false fQ_1 s14).2 = (rdN 1 s14).2 := by first | (rw [hrd];rfl) | rw [hrd]
  obtain ⟨s15,hs15⟩ : ∃ s,s = (rdF (rdP (d + 2) ver false) ver false fQ_1 s14).2 := ⟨_,rfl⟩
  rw [← hst,← hs15] at hq30
  clear hst
  repeat ((first | refine qA rfl ?_|apply qB|refine qC rfl ?_|apply qD|apply qE|apply qF|apply qG|apply qH);try simp (maxSteps:=1000000)(disch:=(first|omega|(simp only [qI,qJ,qK]<;>omega)|exact qL _)) only [go_sem,↓reduceIte,n0,reduceCtorEq,n1,n2,n3,n4,n5,i0,i1,i2,i3,i4,i5,i6,i7,hv_30,hrd0_2,hrd0_7,hrd0_8,hrd0_9,hrd0_10,hrd0_13,hrd0_12])
  generalize hw31 : wr w30 vb 2 [.bool (!decide (beN (rdN 1 s14).1 = 0))] = w31
  have hS31 : Upd (fun b => b = vb ∨ b = rb) w30 w31 := by rw [← hw31];exact (Upd.refl _ _).wr _ _ (.inr (.inl rfl))
  have hv_31 : blk w31 vb = some (#[.int .i16 ver,.slice aa0 N0 qq0,.bool (!decide (beN (rdN 1 s14).1 = 0)),.map none],64,(0,0)) := by rw [← hw31,blk_wr_eq,hv_30];rfl
  have hV31 := hS31
  have hU31 : Upd (fun b => b = vb ∨ b = rb) w1 w31 := hU30.trans hV31
  have hz31 := hV31.size
  have hG31 : Glo ev w31 := hG1.updS hU31 hgM1 hgM2
  have hq31 : Rdr RT ok w31 rb s15 ∧ NN w31 rb s15 := by
    have hn : ∀ x,x = w31 → (Rdr RT ok x rb s15 ∧ NN x rb s15) := fun x hx => by
      rw [hx,← hw31]
      exact Rdr.store hq30 (by omega) (fun h => by have := (hok _ h).1;first | omega | exact (hok _ h).2 rfl)
    exact hn _ rfl
  clear hw31
  have hf_1 : RepF (RepS true (d + 2)) (szS true (d + 2)) fQ_1 (fun b => ok b ∨ w1.heap.size ≤ b) w31 (x_1) [.bool (!decide (beN (rdN 1 s14).1 = 0))] := (RepF_num (by decide)).2 (by rw [hx_1,hrd];exact congrArg (fun x => [x]) (numC_bool _).symm)
  clear hrd
  have hl_2 : rdL (rdP (d + 2) ver false) (dfP (d + 2)) ver false [] s15 = ([],s15) := rfl
  have hl_1 : rdL (rdP (d + 2) ver false) (dfP (d + 2)) ver false [fQ_1] s14 = ([x_1],s15) := by rw [rdL_st (by decide) hh_1,← hx_1,← hs15,hl_2]
  have hl_0 : rdL (rdP (d + 2) ver false) (dfP (d + 2)) ver false [fQ_0,fQ_1] s0 = ([x_0,x_1],s15) := by rw [rdL_st (by decide) hh_0,← hx_0,← hs14,hl_1]
  have hfin : rdP (d + 3) ver false fs_Q s0 = (.mk 0 [] false [x_0,x_1] [],s15) := rdP_f hl_0
  have hTg : TagsM (fun b => ok b ∨ w1.heap.size ≤ b) w31 (.map none) [] := .inl ⟨rfl,rfl⟩
  have hC_31 : Upd (fun b => b = vb ∨ b = rb) w31 w31 := Upd.refl _ _
  have hC_30 : Upd (fun b => b = vb ∨ b = rb) w30 w31 := hV31.trans hC_31
  have hC_29 : Upd (fun b => b = vb ∨ b = rb) w29 w31 := hV30.trans hC_30
  have hC_28 : Upd (fun b => b = vb ∨ b = rb) w28 w31 := hV29.trans hC_29
  have hC_2 : Upd (fun b => b = vb ∨ b = rb) w2 w31 := hV28.trans hC_28
  have hC_1 : Upd (fun b => b = vb ∨ b = rb) w1 w31 := hV2.trans hC_2
  have hR : RepS true (d + 3) fs_Q (fun b => ok b ∨ w1.heap.size ≤ b) w31 (.mk 0 [] false [x_0,x_1] []) [.slice aa0 N0 qq0,.bool (!decide (beN (rdN 1 s14).1 = 0)),.map none] := RepS.introT (c := [.slice aa0 N0 qq0,.bool (!decide (beN (rdN 1 s14).1 = 0))]) (RepL.cons1 (hf_0.keepS (hC_29.keeps fun b _ hk e => (hoM b hk) e)) (RepL.cons1 (hf_1.keepS (hC_31.keeps fun b _ hk e => (hoM b hk) e)) RepL.nil)) hTg
  repeat ((first | refine qA rfl ?_|apply qB|refine qC rfl ?_|apply qD|apply qE|apply qF|apply qG|apply qH);try simp (maxSteps:=1000000)(disch:=(first|omega|(simp only [qI,qJ,qK]<;>omega)|exact qL _)) only [go_sem,↓reduceIte,n0,reduceCtorEq,n1,n2,n3,n4,n5,i0,i1,i2,i3,i4,i5,i6,i7,hv_31,hrd0_2,hrd0_7,hrd0_8,hrd0_9,hrd0_10,hrd0_13,hrd0_12])
  refine (RComplete_fn w31 hq31.1 hG31.2).mono ?_
  rintro _ wz ⟨rfl,hez⟩
  rw [hez]
  repeat ((first | refine qA rfl ?_|apply qB|refine qC rfl ?_|apply qD|apply qE|apply qF|apply qG|apply qH);try simp (maxSteps:=1000000)(disch:=(first|omega|(simp only [qI,qJ,qK]<;>omega)|exact qL _)) only [go_sem,↓reduceIte,n0,reduceCtorEq,n1,n2,n3,n4,n5,i0,i1,i2,i3,i4,i5,i6,i7,hv_31,hrd0_2,hrd0_7,hrd0_8,hrd0_9,hrd0_10,hrd0_13,hrd0_12])
  rw [hfin]
  refine ⟨fun h => ?_,fun h => ⟨?_,[.slice aa0 N0 qq0,.bool (!decide (beN (rdN 1 s14).1 = 0)),.map none],hv_31,?_⟩,?_⟩
  · have h' : s15 = none := h
    rw [h'];rfl
  · cases hsn : s15 with
    | none => exact absurd hsn h
    | some x => rfl
  · exact (RepS_lay true (d + 3) fs_Q).weaken hR fun b _ hk => hk.imp id fun h => by omega
  · exact hbase.trans' hU31 fun i hi h => h.elim id fun h => by omega
end Ms

