/- A part of the proof: see the last text. -/
import Derived.Test.YtanfebeopfbamaaGreatDoorC06
import Derived.Test.YtanfebeopfbamaaGreatDoorDescribeClientQuotasResponseP0
import Derived.Test.YtanfebeopfbamaaGreatDoorDescribeClientQuotasResponseP3
set_option linter.unusedSimpArgs false
set_option linter.unusedVariables false
namespace Ms
open Go.World renaming size_alloc → qI
open Ms renaming size_wr → qJ,size_drew → qK,not_noB → qL
open W renaming seqR → qA,seq → qB,regR → qC,condK → qD,block → qE,skip → qF,ret → qG,exit → qH
open Nat renaming reduceEqDiff → n0,reduceAdd → n1,reduceMul → n2,reduceSub → n3,reduceLT → n4,reduceLeDiff → n5
open Int renaming reduceEq → i0,reduceLT → i1,reduceLE → i2,reduceNeg → i3,reduceAdd → i4,reduceSub → i5,reduceMul → i6,reduceToNat → i7
set_option maxRecDepth 8000
open Go Go.Proofs Go.Shelf
attribute [local congr] W_congr WPsq_congr WPp_congr optK_congr addrK_congr intK_congr boolK_congr sliceK_congr tupleK_congr funcK_congr Fn_congr rawK_congr takeK_congr stepK_congr convK_congr aggK_congr

set_option maxHeartbeats 2000000 in
theorem law_BehindQ {ok : Blocks} {ev : Value} (n : Nat) (hn : n < 256) (dst : Value) (Dd : List UInt8) (t : Tree) (ct : List Value) (w : World) (hd : BytesV ok w dst Dd) (ht : TreeC ok w t ct) (hsm : Small 4611686018427387903 t) (hG : Glo ev w) (hDl : Dd.length ≤ 1048576) {N : Nat} (hN : N ≤ 1048576) (hsz : Sized N t) :
    Fn Tryz.prog 4 #[.int .u8 n,dst,.agg ct.toArray] w fun r w' => r = .bool true ∧ Ext w w' := by
  obtain ⟨vS,vL,vU,rfl,hn',hS,hL,hU⟩ := ht.inv
  obtain ⟨da,dc,rfl,_⟩ := hd.shape
  have f1 := hS.flat
  have f2 := SlR.flat hL
  have f3 := SlR.flat hU
  have hD1 : ¬ (2147483647 : Int) < (Dd.length : Int) := by omega
  have hE : Ext w (w.alloc (.cells #[.int .i64 t.n,vS,.bool t.null,vL,vU] 26)) := Upd.alloc (Upd.refl _ _) _
  refine fn_of_W Tryz.func4 rfl Tryz.results4 Tryz.ntmps4 rfl ?_
  repeat ((first | refine qA rfl ?_|apply qB|refine qC rfl ?_|apply qD|apply qE|apply qF|apply qG|apply qH);try simp (maxSteps:=1000000)(disch:=(first|omega|(simp only [qI,qJ,qK]<;>omega)|exact qL _)) only [go_sem,↓reduceIte,n0,reduceCtorEq,n1,n2,n3,n4,n5,i0,i1,i2,i3,i4,i5,i6,i7,f1,f2,f3,cellsAt_five,hD1])
  have hb : blk (w.alloc (.cells #[.int .i64 t.n,vS,.bool t.null,vL,vU] 26)) w.heap.size = some (#[.int .i64 t.n,vS,.bool t.null,vL,vU],26,(0,0)) := blk_alloc_new rfl
  generalize (w.alloc (.cells #[.int .i64 t.n,vS,.bool t.null,vL,vU] 26)) = w1 at *
  refine (zzFits1_fn (ok := ok) t _ w1 (ht.keep (hE.keeps _)) hsm).mono ?_
  rintro r2 w2 ⟨⟨bb,rfl⟩,hE2⟩
  cases bb with
  | false =>
    simp (maxSteps:=1000000)(disch:=(first|omega|(simp only [qI,qJ,qK]<;>omega)|exact qL _)) only [go_sem,↓reduceIte,n0,reduceCtorEq,n1,n2,n3,n4,n5,i0,i1,i2,i3,i4,i5,i6,i7]
    repeat ((first | refine qA rfl ?_|apply qB|refine qC rfl ?_|apply qD|apply qE|apply qF|apply qG|apply qH);try simp (maxSteps:=1000000)(disch:=(first|omega|(simp only [qI,qJ,qK]<;>omega)|exact qL _)) only [go_sem,↓reduceIte,n0,reduceCtorEq,n1,n2,n3,n4,n5,i0,i1,i2,i3,i4,i5,i6,i7])
    all_goals exact hE.trans hE2
  | true =>
    simp (maxSteps:=1000000)(disch:=(first|omega|(simp only [qI,qJ,qK]<;>omega)|exact qL _)) only [go_sem,↓reduceIte,n0,reduceCtorEq,n1,n2,n3,n4,n5,i0,i1,i2,i3,i4,i5,i6,i7]
    repeat ((first | refine qA rfl ?_|apply qB|refine qC rfl ?_|apply qD|apply qE|apply qF|apply qG|apply qH);try simp (maxSteps:=1000000)(disch:=(first|omega|(simp only [qI,qJ,qK]<;>omega)|exact qL _)) only [go_sem,↓reduceIte,n0,reduceCtorEq,n1,n2,n3,n4,n5,i0,i1,i2,i3,i4,i5,i6,i7])
    refine (MaxQ_fn w2).mono ?_
    rintro _ w2m ⟨rfl,hE2m⟩
    repeat ((first | refine qA rfl ?_|apply qB|refine qC rfl ?_|apply qD|apply qE|apply qF|apply qG|apply qH);try simp (maxSteps:=1000000)(disch:=(first|omega|(simp only [qI,qJ,qK]<;>omega)|exact qL _)) only [go_sem,↓reduceIte,n0,reduceCtorEq,n1,n2,n3,n4,n5,i0,i1,i2,i3,i4,i5,i6,i7])
    refine (cQ_fn w2m).mono ?_
    rintro r3 w3 ⟨⟨vs,rfl,hF0⟩,hE3⟩
    have hF : FldsV AnyB w3 vs fs_Q := hF0.weaken fun _ _ _ => trivial
    have fF := SlR.flat hF
    simp (maxSteps:=1000000)(disch:=(first|omega|(simp only [qI,qJ,qK]<;>omega)|exact qL _)) only [go_sem,↓reduceIte,n0,reduceCtorEq,n1,n2,n3,n4,n5,i0,i1,i2,i3,i4,i5,i6,i7]
    refine (version_fn w3 n 1 hn (by decide)).mono ?_
    rintro _ w3v ⟨rfl,rfl⟩
    have hE03 : Ext w w3v := ((hE.trans hE2).trans hE2m).trans hE3
    have hb3 := hE3.blk_some (hE2m.blk_some (hE2.blk_some hb id) id) id
    have hE4 : Ext w3v (wr (w3v.alloc (.cells #[.slice none 0 0,.int .i64 0] 31)) w3v.heap.size 0 [vs,.int .i64 1]) := (Upd.alloc (Upd.refl _ _) _).wr _ _ (.inl (Nat.le_refl _))
    have hb4 : blk (wr (w3v.alloc (.cells #[.slice none 0 0,.int .i64 0] 31)) w3v.heap.size 0 [vs,.int .i64 1]) w3v.heap.size = some (#[vs,.int .i64 1],31,(0,0)) := by simp (maxSteps:=1000000)(disch:=(first|omega|(simp only [qI,qJ,qK]<;>omega)|exact qL _)) only [go_sem,↓reduceIte,n0,reduceCtorEq,n1,n2,n3,n4,n5,i0,i1,i2,i3,i4,i5,i6,i7]
    simp (maxSteps:=1000000)(disch:=(first|omega|(simp only [qI,qJ,qK]<;>omega)|exact qL _)) only [go_sem,↓reduceIte,n0,reduceCtorEq,n1,n2,n3,n4,n5,i0,i1,i2,i3,i4,i5,i6,i7,fF]
    generalize (wr (w3v.alloc (.cells #[.slice none 0 0,.int .i64 0] 31)) w3v.heap.size 0 [vs,.int .i64 1]) = w4 at *
    have hb34 := hE4.blk_some hb3 id
    have hv3 : n % 2 < 2 := Nat.mod_lt _ (by omega)
    generalize n % 2 = ver at *
    have hs1 := blk_lt hb4
    have hs2 := blk_lt hb34
    by_cases hD2 : (1000 : Int) < (Dd.length : Int)
    · repeat ((first | refine qA rfl ?_|apply qB|refine qC rfl ?_|apply qD|apply qE|apply qF|apply qG|apply qH);try simp (maxSteps:=1000000)(disch:=(first|omega|(simp only [qI,qJ,qK]<;>omega)|exact qL _)) only [go_sem,↓reduceIte,n0,reduceCtorEq,n1,n2,n3,n4,n5,i0,i1,i2,i3,i4,i5,i6,i7,hD2])
      all_goals exact hE03.trans hE4
    repeat ((first | refine qA rfl ?_|apply qB|refine qC rfl ?_|apply qD|apply qE|apply qF|apply qG|apply qH);try simp (maxSteps:=1000000)(disch:=(first|omega|(simp only [qI,qJ,qK]<;>omega)|exact qL _)) only [go_sem,↓reduceIte,n0,reduceCtorEq,n1,n2,n3,n4,n5,i0,i1,i2,i3,i4,i5,i6,i7,hD2,hb34,hb4,cellsAt_five,cellsAt_two])
    have hE04 : Ext w w4 := hE03.trans hE4
    have hokF : okF 3 fs_Q = true := by decide
    have hokM : okM 3 fs_Q = true := by decide
    have hokR : okR 3 ver (flexB 1 ver) fs_Q = true := (by decide : ∀ v : Fin 2,okR 3 ((v.val : Nat) : Int) (flexB 1 ((v.val : Nat) : Int)) fs_Q = true) ⟨ver,hv3⟩
    have hpl : (partS 4 fs_Q ver (flexB 1 ver) t).length ≤ 2 ^ 40 := Nat.le_trans (partS_bound ver _ 3 fs_Q N t hokM hsz) (Nat.le_trans (Nat.mul_le_mul_left _ (Nat.succ_le_succ hN)) (by decide))
    refine (Write_fn (ok := AnyB) (d := 3) fs_Q 1 ver t vs _ w4 (hF.keep (Ext.keeps hE4 _)) hokF ((ht.weaken fun _ _ _ => trivial).keep (Ext.keeps hE04 _)) hsm hpl).mono ?_
    rintro r5 w5 ⟨ho5,hE5⟩
    have hE05 := hE04.trans hE5
    obtain ⟨a5,c5,rfl,_⟩ := ho5.shape
    repeat ((first | refine qA rfl ?_|apply qB|refine qC rfl ?_|apply qD|apply qE|apply qF|apply qG|apply qH);try simp (maxSteps:=1000000)(disch:=(first|omega|(simp only [qI,qJ,qK]<;>omega)|exact qL _)) only [go_sem,↓reduceIte,n0,reduceCtorEq,n1,n2,n3,n4,n5,i0,i1,i2,i3,i4,i5,i6,i7])
    have hrd := (rdP_part ver (flexB 1 ver) 3 fs_Q N t hokR hsz).1 []
    rw [List.append_nil] at hrd
    refine (BehindQ_fn (d := 1) (ok := AnyB) (ev := ev) ver (by omega) t _ _ Dd w5 ((hd.weaken (ok' := AnyB) fun _ _ _ => trivial).keep (Ext.keeps hE05 _)) (Own.bytes (ok := AnyB) ho5 fun _ _ => trivial) (hG.updS hE05 id id) hrd (partS_cn ver (flexB 1 ver) 3 fs_Q t hokR) (by omega) hpl).mono ?_
    rintro _ w6 ⟨⟨v6,rfl,ho6⟩,hE6⟩
    have hE06 := hE05.trans hE6
    obtain ⟨a6,c6,rfl,_⟩ := ho6.shape
    repeat (first|simp (maxSteps:=1000000)(disch:=(first|omega|(simp only [qI,qJ,qK]<;>omega)|exact qL _)) only [go_sem,↓reduceIte,n0,reduceCtorEq,n1,n2,n3,n4,n5,i0,i1,i2,i3,i4,i5,i6,i7]|refine qA rfl ?_|apply qB|refine qC rfl ?_|apply qD|apply qE|apply qF|apply qG|apply qH)
    have hE7 : Ext w6 (w6.alloc (.cells #[] 5)) := Upd.alloc (Upd.refl _ _) _
    have ho7 : Own w6.heap.size (w6.alloc (.cells #[] 5)) 5 1 (.slice (some ⟨w6.heap.size,0,none⟩) 0 0) 0 [] := ⟨by simp,.inr ⟨_,0,[],(0,0),rfl,Nat.le_refl _,blk_alloc_new rfl,rfl,thaw_00 _ _,Nat.le_refl _⟩⟩
    have ha6 : blk (w6.alloc (.cells #[] 5)) w6.heap.size = some (#[],5,(0,0)) := blk_alloc_new rfl
    generalize w6.alloc (.cells #[] 5) = w7 at *
    have hz6 := hE6.size
    have hz7 := hE7.size
    have hz05 := hE05.size
    have hd7 : BytesV AnyB w7 _ Dd := BytesV.keep (hd.weaken (ok' := AnyB) fun _ _ _ => trivial) (Ext.keeps (hE06.trans hE7) _)
    have hb7 : BytesV (fun b => b < w6.heap.size) w7 _ (partS 4 fs_Q ver (flexB 1 ver) t) := BytesV.keep ((Own.bytes (ok := AnyB) ho5 fun _ _ => trivial).weaken fun b hb _ => by omega) (Ext.keeps (hE6.trans hE7) _)
    have hr7 : BytesV (fun b => b < w6.heap.size) w7 _ (Dd ++ (partS 4 fs_Q ver (flexB 1 ver) t)) := BytesV.keep ((Own.bytes (ok := AnyB) ho6 fun _ _ => trivial).weaken fun b hb _ => hb) (Ext.keeps hE7 _)
    refine wp_append ap_22_22 (B := w6.heap.size) (n := 0) (cs := []) (m := Dd.length) (news := Dd.map byteV) (v := .slice (some ⟨w6.heap.size,0,none⟩) 0 0) (u := .slice da Dd.length dc) (by first | rfl | simp (maxSteps:=1000000)(disch:=(first|omega|(simp only [qI,qJ,qK]<;>omega)|exact qL _)) only [go_sem,↓reduceIte,n0,reduceCtorEq,n1,n2,n3,n4,n5,i0,i1,i2,i3,i4,i5,i6,i7]) (by first | rfl | simp (maxSteps:=1000000)(disch:=(first|omega|(simp only [qI,qJ,qK]<;>omega)|exact qL _)) only [go_sem,↓reduceIte,n0,reduceCtorEq,n1,n2,n3,n4,n5,i0,i1,i2,i3,i4,i5,i6,i7]) ho7 rfl hd7.src (by omega) (by omega) ?_
    intro v8 w8 h8 hU8 hf8
    rw [Nat.zero_add,List.nil_append] at h8
    have hz8 := hU8.size
    have hn7 : ∀ b,ownB (.slice (some ⟨w6.heap.size,0,none⟩) 0 0) b → b = w6.heap.size := fun b h => ownB_row h
    have hE8 : Ext w w8 := (hE06.trans hE7).more hU8 fun b hb h => by have := hn7 b h;have := hE06.size;omega
    have hb8 := hb7.keep (hU8.keeps fun b _ hk h => by have := hn7 b h;omega)
    have hr8 := hr7.keep (hU8.keeps fun b _ hk h => by have := hn7 b h;omega)
    obtain ⟨a8,c8,rfl,_⟩ := h8.shape
    simp (maxSteps:=1000000)(disch:=(first|omega|(simp only [qI,qJ,qK]<;>omega)|exact qL _)) only [go_sem,↓reduceIte,n0,reduceCtorEq,n1,n2,n3,n4,n5,i0,i1,i2,i3,i4,i5,i6,i7]
    refine wp_append ap_22_22 (B := w6.heap.size) (n := Dd.length) (cs := Dd.map byteV) (m := (partS 4 fs_Q ver (flexB 1 ver) t).length) (news := (partS 4 fs_Q ver (flexB 1 ver) t).map byteV) (v := .slice a8 Dd.length c8) (u := .slice a5 _ c5) (by first | rfl | simp (maxSteps:=1000000)(disch:=(first|omega|(simp only [qI,qJ,qK]<;>omega)|exact qL _)) only [go_sem,↓reduceIte,n0,reduceCtorEq,n1,n2,n3,n4,n5,i0,i1,i2,i3,i4,i5,i6,i7]) (by first | rfl | simp (maxSteps:=1000000)(disch:=(first|omega|(simp only [qI,qJ,qK]<;>omega)|exact qL _)) only [go_sem,↓reduceIte,n0,reduceCtorEq,n1,n2,n3,n4,n5,i0,i1,i2,i3,i4,i5,i6,i7]) h8 (flat_bytes _) hb8.src (by omega) (by omega) ?_
    intro v9 w9 h9 hU9 hf9
    rw [← List.map_append,← List.length_append] at h9
    have hn8 : ∀ b,ownB (.slice a8 Dd.length c8) b → w6.heap.size ≤ b := fun b h => by
      rcases hf8 b h with h | h
      · have := hn7 b h;omega
      · omega
    have hE9 : Ext w w9 := hE8.more hU9 fun b hb h => by have := hn8 b h;have := hE06.size;omega
    have hr9 := hr8.keep (hU9.keeps fun b _ hk h => by have := hn8 b h;omega)
    obtain ⟨a9,c9,rfl,_⟩ := h9.shape
    simp (maxSteps:=1000000)(disch:=(first|omega|(simp only [qI,qJ,qK]<;>omega)|exact qL _)) only [go_sem,↓reduceIte,n0,reduceCtorEq,n1,n2,n3,n4,n5,i0,i1,i2,i3,i4,i5,i6,i7]
    refine (Same_fn (ok := AnyB) (Dd ++ (partS 4 fs_Q ver (flexB 1 ver) t)) (Dd ++ (partS 4 fs_Q ver (flexB 1 ver) t)) _ _ w9 (hr9.weaken fun _ _ _ => trivial) (Own.bytes h9 fun _ _ => trivial) (by rw [List.length_append];omega)).mono ?_
    rintro _ w10 ⟨rfl,hE10⟩
    repeat (first|simp (maxSteps:=1000000)(disch:=(first|omega|(simp only [qI,qJ,qK]<;>omega)|exact qL _)) only [go_sem,↓reduceIte,n0,reduceCtorEq,n1,n2,n3,n4,n5,i0,i1,i2,i3,i4,i5,i6,i7]|refine qA rfl ?_|apply qB|refine qC rfl ?_|apply qD|apply qE|apply qF|apply qG|apply qH)
    all_goals exact hE9.trans hE10

end Ms

