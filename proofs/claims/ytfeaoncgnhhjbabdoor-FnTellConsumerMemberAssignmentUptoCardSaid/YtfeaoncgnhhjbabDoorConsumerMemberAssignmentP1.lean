/- A part of the proof: see the last text. -/
import Derived.Test.YtfeaoncgnhhjbabDoorC05
import Derived.Test.YtfeaoncgnhhjbabDoorC07
import Derived.Test.YtfeaoncgnhhjbabDoorC08
import Derived.Test.YtfeaoncgnhhjbabDoorConsumerMemberAssignmentP0
set_option linter.unusedSimpArgs false
set_option linter.unusedVariables false
namespace Ms
open Go.World renaming size_alloc → qI
open Ms renaming size_wr → qJ,size_drew → qK,not_noB → qL
open W renaming seqR → qA,seq → qB,regR → qC,condK → qD,block → qE,skip → qF,ret → qG,exit → qH
open Nat renaming reduceEqDiff → n0,reduceAdd → n1,reduceMul → n2,reduceSub → n3,reduceLT → n4,reduceLeDiff → n5
open Int renaming reduceEq → i0,reduceLT → i1,reduceLE → i2,reduceNeg → i3,reduceAdd → i4,reduceSub → i5,reduceMul → i6,reduceToNat → i7
set_option maxRecDepth 8000
open Go Go.Proofs Go.Shelf
attribute [local congr] W_congr WPsq_congr WPp_congr optK_congr addrK_congr intK_congr boolK_congr sliceK_congr tupleK_congr funcK_congr Fn_congr rawK_congr takeK_congr stepK_congr convK_congr aggK_congr

set_option maxHeartbeats 4000000 in
theorem tellX0_fn {d : Nat} {ok : Blocks} (t : Tree) (cs : List Value) (w : World) {b o : Nat} {x : Blk} (hb : blk w b = some x) (hq : ∀ k,k < 2 → x.1[o + k]? = cs[k]?) (hR : RepS false (d + 1) fs_X0 ok w t cs) (hg : GoodP (d + 1) fs_X0 t) :
    Fn Tryd.prog 29 #[.pointer (some ⟨b,o,none⟩)] w fun r w' => (∃ c,r = .agg c.toArray ∧ TreeC (fun b => w.heap.size ≤ b) w' (tlPF (d + 1) fs_X0 t) c) ∧ Ext w w' := by
  have hbl := blk_lt hb
  obtain ⟨⟨gd0,gd1,-⟩,hgu⟩ := hg
  replace gd0 : GoodF (GoodP d) fX0_0 (t.at 0) := gd0
  replace gd1 : GoodF (GoodP d) fX0_1 (t.at 1) := gd1
  have hL := hR.invF
  obtain ⟨c0,e0,rfl,h0,c1,e1,rfl,h1,rfl⟩ := hL
  replace h0 : RepF (RepS false d) (szS false d) fX0_0 ok w (t.at 0) c0 := h0
  replace h1 : RepF (RepS false d) (szS false d) fX0_1 ok w (t.at 1) c1 := h1
  obtain rfl := (RepF_text rfl (by decide)).1 h0
  obtain ⟨ab1,ac1,L1,rfl,hL1,hnn1,hs1⟩ := RepF_listT rfl h1
  have hgl1 := gd1.listL rfl hL1
  have hq0 : x.1[o]? = some (strV (t.at 0).s) := hq 0 (by decide)
  have hq1 : x.1[o + 1]? = some (.slice ab1 L1.length ac1) := hq 1 (by decide)
  refine fn_of_W Tryd.func29 rfl Tryd.results29 Tryd.ntmps29 rfl ?_
  repeat ((first | refine qA rfl ?_|apply qB|refine qC rfl ?_|apply qD|apply qE|apply qF|apply qG|apply qH);try simp (maxSteps:=1000000)(disch:=(first|omega|(simp only [qI,qJ,qK]<;>omega)|exact qL _)) only [go_sem,↓reduceIte,n0,reduceCtorEq,n1,n2,n3,n4,n5,i0,i1,i2,i3,i4,i5,i6,i7])
  refine wp_make (T := 32) (E := 35) (size := 5) (bytes := 88) (z := .agg qZ5) (l := 2) (c := 2) (kl := .i64) (kc := .i64) (by kernel_rfl) (by kernel_rfl) (by first | rfl | (simp (maxSteps:=1000000)(disch:=(first|omega|(simp only [qI,qJ,qK]<;>omega)|exact qL _)) only [go_sem,↓reduceIte,n0,reduceCtorEq,n1,n2,n3,n4,n5,i0,i1,i2,i3,i4,i5,i6,i7];rfl)) (by first | rfl | (simp (maxSteps:=1000000)(disch:=(first|omega|(simp only [qI,qJ,qK]<;>omega)|exact qL _)) only [go_sem,↓reduceIte,n0,reduceCtorEq,n1,n2,n3,n4,n5,i0,i1,i2,i3,i4,i5,i6,i7];rfl)) (by omega) (by omega) (by omega) ?_
  have hmd : madeCells (Value.agg qZ5).cells (2 * 5) = #[.int .i64 0,.slice none 0 0,.bool false,.slice none 0 0,.slice none 0 0,.int .i64 0,.slice none 0 0,.bool false,.slice none 0 0,.slice none 0 0] := by kernel_rfl
  rw [hmd]
  simp (maxSteps:=1000000)(disch:=(first|omega|(simp only [qI,qJ,qK]<;>omega)|exact qL _)) only [go_sem,↓reduceIte,n0,reduceCtorEq,n1,n2,n3,n4,n5,i0,i1,i2,i3,i4,i5,i6,i7]
  repeat ((first | refine qA rfl ?_|apply qB|refine qC rfl ?_|apply qD|apply qE|apply qF|apply qG|apply qH);try simp (maxSteps:=1000000)(disch:=(first|omega|(simp only [qI,qJ,qK]<;>omega)|exact qL _)) only [go_sem,↓reduceIte,n0,reduceCtorEq,n1,n2,n3,n4,n5,i0,i1,i2,i3,i4,i5,i6,i7])
  have hE1 : Ext w (wr (((w.alloc (.cells qZ5 35)).alloc (.cells #[.int .i64 0,.slice none 0 0,.bool false,.slice none 0 0,.slice none 0 0,.int .i64 0,.slice none 0 0,.bool false,.slice none 0 0,.slice none 0 0] 35)).alloc (.cells qZ5 35)) (w.heap.size + 2) 0 [.int .i64 0,.slice none 0 0,.bool false,.slice (some ⟨w.heap.size + 1,0,none⟩) 2 2,.slice none 0 0]) := (Upd.alloc (Upd.alloc (Upd.alloc (Upd.refl _ _) _) _) _).wr _ _ (.inl (by omega))
  have hz1 : (wr (((w.alloc (.cells qZ5 35)).alloc (.cells #[.int .i64 0,.slice none 0 0,.bool false,.slice none 0 0,.slice none 0 0,.int .i64 0,.slice none 0 0,.bool false,.slice none 0 0,.slice none 0 0] 35)).alloc (.cells qZ5 35)) (w.heap.size + 2) 0 [.int .i64 0,.slice none 0 0,.bool false,.slice (some ⟨w.heap.size + 1,0,none⟩) 2 2,.slice none 0 0]).heap.size = w.heap.size + 3 := by simp only [size_wr,World.size_alloc]
  have hl1 : blk (wr (((w.alloc (.cells qZ5 35)).alloc (.cells #[.int .i64 0,.slice none 0 0,.bool false,.slice none 0 0,.slice none 0 0,.int .i64 0,.slice none 0 0,.bool false,.slice none 0 0,.slice none 0 0] 35)).alloc (.cells qZ5 35)) (w.heap.size + 2) 0 [.int .i64 0,.slice none 0 0,.bool false,.slice (some ⟨w.heap.size + 1,0,none⟩) 2 2,.slice none 0 0]) (w.heap.size + 1) = some (#[.int .i64 0,.slice none 0 0,.bool false,.slice none 0 0,.slice none 0 0,.int .i64 0,.slice none 0 0,.bool false,.slice none 0 0,.slice none 0 0],35,(0,0)) := by simp (maxSteps:=1000000)(disch:=(first|omega|(simp only [qI,qJ,qK]<;>omega)|exact qL _)) only [go_sem,↓reduceIte,n0,reduceCtorEq,n1,n2,n3,n4,n5,i0,i1,i2,i3,i4,i5,i6,i7]
  have ht1 : blk (wr (((w.alloc (.cells qZ5 35)).alloc (.cells #[.int .i64 0,.slice none 0 0,.bool false,.slice none 0 0,.slice none 0 0,.int .i64 0,.slice none 0 0,.bool false,.slice none 0 0,.slice none 0 0] 35)).alloc (.cells qZ5 35)) (w.heap.size + 2) 0 [.int .i64 0,.slice none 0 0,.bool false,.slice (some ⟨w.heap.size + 1,0,none⟩) 2 2,.slice none 0 0]) (w.heap.size + 2) = some (#[.int .i64 0,.slice none 0 0,.bool false,.slice (some ⟨w.heap.size + 1,0,none⟩) 2 2,.slice none 0 0],35,(0,0)) := by simp (maxSteps:=1000000)(disch:=(first|omega|(simp only [qI,qJ,qK]<;>omega)|exact qL _)) only [go_sem,↓reduceIte,n0,reduceCtorEq,n1,n2,n3,n4,n5,i0,i1,i2,i3,i4,i5,i6,i7]
  have hr1 : blk (wr (((w.alloc (.cells qZ5 35)).alloc (.cells #[.int .i64 0,.slice none 0 0,.bool false,.slice none 0 0,.slice none 0 0,.int .i64 0,.slice none 0 0,.bool false,.slice none 0 0,.slice none 0 0] 35)).alloc (.cells qZ5 35)) (w.heap.size + 2) 0 [.int .i64 0,.slice none 0 0,.bool false,.slice (some ⟨w.heap.size + 1,0,none⟩) 2 2,.slice none 0 0]) w.heap.size = some (qZ5,35,(0,0)) := by simp (maxSteps:=1000000)(disch:=(first|omega|(simp only [qI,qJ,qK]<;>omega)|exact qL _)) only [go_sem,↓reduceIte,n0,reduceCtorEq,n1,n2,n3,n4,n5,i0,i1,i2,i3,i4,i5,i6,i7]
  obtain ⟨w1,hw1⟩ : ∃ y,y = (wr (((w.alloc (.cells qZ5 35)).alloc (.cells #[.int .i64 0,.slice none 0 0,.bool false,.slice none 0 0,.slice none 0 0,.int .i64 0,.slice none 0 0,.bool false,.slice none 0 0,.slice none 0 0] 35)).alloc (.cells qZ5 35)) (w.heap.size + 2) 0 [.int .i64 0,.slice none 0 0,.bool false,.slice (some ⟨w.heap.size + 1,0,none⟩) 2 2,.slice none 0 0]) := ⟨_,rfl⟩
  rw [← hw1] at hE1 hz1 hl1 ht1 hr1
  rw [← hw1]
  clear hw1
  have hU1 : Upd (fun b => b = w.heap.size + 1 ∨ b = w.heap.size + 2) w1 w1 := Upd.refl _ _
  have hb1 := hE1.blk_some hb id
  repeat ((first | refine qA rfl ?_|apply qB|refine qC rfl ?_|apply qD|apply qE|apply qF|apply qG|apply qH);try simp (maxSteps:=1000000)(disch:=(first|omega|(simp only [qI,qJ,qK]<;>omega)|exact qL _)) only [go_sem,↓reduceIte,n0,reduceCtorEq,n1,n2,n3,n4,n5,i0,i1,i2,i3,i4,i5,i6,i7,hb1,hl1,ht1,hq0,hq1])
  refine W.drawR (.take 0 (.take 1 (.take 2 (.take 3 (.take 4 (.take 5 (.only 6 (.only 7 (.take 8 (.last 9)))))))))) (NoB) mixed (by kernel_rfl) ?_
  try simp (maxSteps:=1000000)(disch:=(first|omega|(simp only [qI,qJ,qK]<;>omega)|exact qL _)) only [go_sem,↓reduceIte,n0,reduceCtorEq,n1,n2,n3,n4,n5,i0,i1,i2,i3,i4,i5,i6,i7,hb1,hl1,ht1,hq0,hq1]
  refine wp_octets (S := 9) (T := 22) (E := 5) (s := (t.at 0).s) (by kernel_rfl) (by kernel_rfl) (by kernel_rfl) (by first | rfl | simp (maxSteps:=1000000)(disch:=(first|omega|(simp only [qI,qJ,qK]<;>omega)|exact qL _)) only [go_sem,↓reduceIte,n0,reduceCtorEq,n1,n2,n3,n4,n5,i0,i1,i2,i3,i4,i5,i6,i7,hb1,hl1,ht1,hq0,hq1]) ?_
  intro a2 k2 w2 hB2 hEx2
  have hP2 : Upd NoB w1.drew w2 := (Upd.refl _ _).trans (hEx2.mono fun _ h => h.elim)
  have hsq2 := hEx2.size
  try simp only [size_drew] at hsq2
  refine ⟨hP2,?_⟩
  try simp (maxSteps:=1000000)(disch:=(first|omega|(simp only [qI,qJ,qK]<;>omega)|exact qL _)) only [go_sem,↓reduceIte,n0,reduceCtorEq,n1,n2,n3,n4,n5,i0,i1,i2,i3,i4,i5,i6,i7,hb1,hl1,ht1,hq0,hq1]
  refine ⟨hP2,?_⟩
  have hlq3 := hP2.blk_some (show blk w1.drew (w.heap.size + 1) = _ from hl1) id
  have hx3 : Upd (fun b => b = w.heap.size + 1 ∨ b = w.heap.size + 2) w1 w2 := ((Upd.refl _ _).drew).trans (hP2.mono fun _ h => h.elim)
  try simp (maxSteps:=1000000)(disch:=(first|omega|(simp only [qI,qJ,qK]<;>omega)|exact qL _)) only [go_sem,↓reduceIte,n0,reduceCtorEq,n1,n2,n3,n4,n5,i0,i1,i2,i3,i4,i5,i6,i7,hlq3]
  generalize hw3 : wr w2 (w.heap.size + 1) 0 [.int .i64 0,.slice (some a2) ((t.at 0).s).length k2,.bool false,.slice none 0 0,.slice none 0 0] = w3
  have hl3 : blk w3 (w.heap.size + 1) = some (#[.int .i64 0,.slice (some a2) ((t.at 0).s).length k2,.bool false,.slice none 0 0,.slice none 0 0,.int .i64 0,.slice none 0 0,.bool false,.slice none 0 0,.slice none 0 0],35,(0,0)) := by rw [← hw3,blk_wr_eq,hlq3];rfl
  have hv3 : Upd (fun b => b = w.heap.size + 1 ∨ b = w.heap.size + 2) w2 w3 := by rw [← hw3];exact (Upd.refl _ _).wr _ _ (.inr (.inl rfl))
  have hV3 : Upd (fun b => b = w.heap.size + 1 ∨ b = w.heap.size + 2) w1 w3 := hx3.trans hv3
  have hU3 : Upd (fun b => b = w.heap.size + 1 ∨ b = w.heap.size + 2) w1 w3 := hU1.trans hV3
  have hz3 := hU3.size
  have hX3 : Ext w w3 := hE1.more hU3 fun b hb h => by omega
  have hb3 := hX3.blk_some hb id
  have ht3 : blk w3 (w.heap.size + 2) = some (#[.int .i64 0,.slice none 0 0,.bool false,.slice (some ⟨w.heap.size + 1,0,none⟩) 2 2,.slice none 0 0],35,(0,0)) := by
    rw [← hw3,blk_wr_ne (by omega)]
    exact hP2.blk_some (show blk w1.drew (w.heap.size + 2) = _ from ht1) id
  clear hw3
  have hf0 : TreeC (fun b => w1.heap.size ≤ b) w3 (.oct false (t.at 0).s) [.int .i64 0,.slice (some a2) ((t.at 0).s).length k2,.bool false,.slice none 0 0,.slice none 0 0] := (TreeC.keep (hv3.keeps fun b hb hk e => by have hk' : w1.heap.size ≤ b := hk;omega) (TreeC.intro rfl (hB2.weaken fun b _ hk => by have hk' : w1.drew.heap.size ≤ b := hk;(try simp only [size_drew] at hk');omega) (treesN _ _) (tagsN _ _) : TreeC (fun b => w1.heap.size ≤ b) w2 (.oct false (t.at 0).s) [.int .i64 0,.slice (some a2) ((t.at 0).s).length k2,.bool false,.slice none 0 0,.slice none 0 0]))
  repeat ((first | refine qA rfl ?_|apply qB|refine qC rfl ?_|apply qD|apply qE|apply qF|apply qG|apply qH);try simp (maxSteps:=1000000)(disch:=(first|omega|(simp only [qI,qJ,qK]<;>omega)|exact qL _)) only [go_sem,↓reduceIte,n0,reduceCtorEq,n1,n2,n3,n4,n5,i0,i1,i2,i3,i4,i5,i6,i7,hb3,hl3,ht3,hq0,hq1])
  refine W.drawR (.take 0 (.take 1 (.take 2 (.take 3 (.take 4 (.take 5 (.take 6 (.take 7 (.take 8 (.last 9)))))))))) (NoB) mixed (by kernel_rfl) ?_
  try simp (maxSteps:=1000000)(disch:=(first|omega|(simp only [qI,qJ,qK]<;>omega)|exact qL _)) only [go_sem,↓reduceIte,n0,reduceCtorEq,n1,n2,n3,n4,n5,i0,i1,i2,i3,i4,i5,i6,i7,hb3,hl3,ht3,hq0,hq1,hnn1]
  generalize hw4 : wr w3.drew (w.heap.size + 1) 7 [.bool (t.at 1).null] = w4
  have hl4 : blk w4 (w.heap.size + 1) = some (#[.int .i64 0,.slice (some a2) ((t.at 0).s).length k2,.bool false,.slice none 0 0,.slice none 0 0,.int .i64 0,.slice none 0 0,.bool (t.at 1).null,.slice none 0 0,.slice none 0 0],35,(0,0)) := by rw [← hw4,blk_wr_eq,show blk w3.drew (w.heap.size + 1) = _ from hl3];rfl
  have hV4 : Upd (fun b => b = w.heap.size + 1 ∨ b = w.heap.size + 2) w3 w4 := by rw [← hw4];exact ((Upd.refl _ _).drew).wr _ _ (.inr (.inl rfl))
  have hU4 : Upd (fun b => b = w.heap.size + 1 ∨ b = w.heap.size + 2) w1 w4 := hU3.trans hV4
  have hz4 := hU4.size
  have hX4 : Ext w w4 := hE1.more hU4 fun b hb h => by omega
  have hb4 := hX4.blk_some hb id
  have ht4 : blk w4 (w.heap.size + 2) = some (#[.int .i64 0,.slice none 0 0,.bool false,.slice (some ⟨w.heap.size + 1,0,none⟩) 2 2,.slice none 0 0],35,(0,0)) := by
    rw [← hw4,blk_wr_ne (by omega)]
    exact ht3
  clear hw4
  repeat ((first | refine qA rfl ?_|apply qB|refine qC rfl ?_|apply qD|apply qE|apply qF|apply qG|apply qH);try simp (maxSteps:=1000000)(disch:=(first|omega|(simp only [qI,qJ,qK]<;>omega)|exact qL _)) only [go_sem,↓reduceIte,n0,reduceCtorEq,n1,n2,n3,n4,n5,i0,i1,i2,i3,i4,i5,i6,i7,hb4,hl4,ht4,hq0,hq1])
  refine W.exitJ 0 (EndQ [(0,.pointer (some ⟨b,o,none⟩)),(2,.pointer (some ⟨w.heap.size,0,none⟩)),(3,.pointer (some ⟨w.heap.size + 2,0,none⟩)),(29,.int .i64 L1.length)] (fun w' => ∃ v,blk w' (w.heap.size + 1) = some (#[.int .i64 0,.slice (some a2) ((t.at 0).s).length k2,.bool false,.slice none 0 0,.slice none 0 0,.int .i64 0,.slice none 0 0,.bool (t.at 1).null,v,.slice none 0 0],35,(0,0)) ∧ GrowT (fun b => w1.heap.size ≤ b) w4.heap.size (w.heap.size + 1) w' 35 v (L1.map (tl1 (tlPF d) fX0_1.of fX0_1.sub)) ∧ Upd (fun b => b = w.heap.size + 1) w4 w')) (W.loop (LoopL [(0,.pointer (some ⟨b,o,none⟩)),(2,.pointer (some ⟨w.heap.size,0,none⟩)),(3,.pointer (some ⟨w.heap.size + 2,0,none⟩)),(29,.int .i64 L1.length)] 30 (fun j w' => ∃ v,j ≤ L1.length ∧ blk w' (w.heap.size + 1) = some (#[.int .i64 0,.slice (some a2) ((t.at 0).s).length k2,.bool false,.slice none 0 0,.slice none 0 0,.int .i64 0,.slice none 0 0,.bool (t.at 1).null,v,.slice none 0 0],35,(0,0)) ∧ GrowT (fun b => w1.heap.size ≤ b) w4.heap.size (w.heap.size + 1) w' 35 v ((L1.take j).map (tl1 (tlPF d) fX0_1.of fX0_1.sub)) ∧ Upd (fun b => b = w.heap.size + 1) w4 w')) (fun ρ _ => L1.length - (RowKit.intOf (ρ 30)).toNat) ?_ ?_) ?_
  · exact ⟨(by simp (maxSteps:=1000000)(disch:=(first|omega|(simp only [qI,qJ,qK]<;>omega)|exact qL _)) only [go_sem,↓reduceIte,n0,reduceCtorEq,n1,n2,n3,n4,n5,i0,i1,i2,i3,i4,i5,i6,i7,Holds_nil,Holds_cons]),0,(by simp (maxSteps:=1000000)(disch:=(first|omega|(simp only [qI,qJ,qK]<;>omega)|exact qL _)) only [go_sem,↓reduceIte,n0,reduceCtorEq,n1,n2,n3,n4,n5,i0,i1,i2,i3,i4,i5,i6,i7];all_goals rfl),.slice none 0 0,Nat.zero_le _,hl4,GrowT.nil _ _ _ _ _,Upd.refl _ _⟩
  · rintro ρ w5 ⟨⟨hrc1_0,hrc1_2,hrc1_3,hrc1_29,-⟩,j,hri,v,hj,hl5,hg,hUk⟩
    have hzk := hUk.size
    have hX5 : Ext w w5 := hX4.more hUk fun b hb h => by omega
    have hz5 : w1.heap.size ≤ w5.heap.size := by have := hz4;omega
    have hb5 := hX5.blk_some hb id
    have ht5 := hUk.blk_some ht4 (by omega)
    by_cases hlt : j < L1.length
    · obtain ⟨_,be,oe,xe,ce,hbe,hoke,hxe,hble,hxs,hxx,hqe,hRe⟩ := SlR.get (size := 1) (by decide) hs1 hlt
      subst hbe
      have hcat : L1.take (j + 1) = L1.take j ++ [L1[j]] := List.take_succ_eq_append_getElem hlt
      have hgy := hgl1.2 _ (List.getElem_mem hlt)
      have hll := hgl1.1
      obtain ⟨av,kv,hvs,_⟩ := hg.shape
      have hlj : (List.map (tl1 (tlPF d) fX0_1.of fX0_1.sub) (L1.take j)).length = j := by simp;omega
      rw [hlj] at hvs
      subst hvs
      have hnb : ∀ b,b < w4.heap.size ∨ w5.heap.size ≤ b → ¬ ownB (.slice av j kv) b := fun b hb h => by
        have := hg.above h
        have := hg.below h
        omega
      generalize L1[j] = y at *
      obtain rfl := (Rep1_num (by decide)).1 hRe
      have hqe0 : xe.1[oe + j]? = some (.int .i32 (IntKind.i32.wrap y.n)) := by have := hqe 0 (by decide);rw [Nat.mul_one] at this;exact this
      repeat ((first | refine qA rfl ?_|apply qB|refine qC rfl ?_|apply qD|apply qE|apply qF|apply qG|apply qH);try simp (maxSteps:=1000000)(disch:=(first|omega|(simp only [qI,qJ,qK]<;>omega)|exact qL _)) only [go_sem,↓reduceIte,n0,reduceCtorEq,n1,n2,n3,n4,n5,i0,i1,i2,i3,i4,i5,i6,i7,hb5,hl5,ht5,hq0,hq1,hrc1_0,hrc1_2,hrc1_3,hrc1_29,hri])
      refine W.drawR (.only 0 (.two 1 (.only 2 (.only 3 .done)) 2 (.only 1 (.only 3 .done)))) NoB mixed (by kernel_rfl) ?_
      try simp (maxSteps:=1000000)(disch:=(first|omega|(simp only [qI,qJ,qK]<;>omega)|exact qL _)) only [go_sem,↓reduceIte,n0,reduceCtorEq,n1,n2,n3,n4,n5,i0,i1,i2,i3,i4,i5,i6,i7,hb5,hl5,ht5,hq0,hq1,hrc1_0,hrc1_2,hrc1_3,hrc1_29,hri]
      have q0 : Upd NoB w5.drew (w5.alloc (.cells #[.bool false] 4)).drew := show Upd NoB w5.drew (w5.drew.alloc (.cells #[.bool false] 4)) from Upd.alloc (Upd.refl _ _) _
      have q1 : Upd NoB w5.drew (wr (w5.alloc (.cells #[.bool false] 4)).drew w5.heap.size 0 [.bool true]) := q0.wr _ _ (.inl (Nat.le_refl _))
      have q2 : Upd NoB w5.drew (wr (wr (w5.alloc (.cells #[.bool false] 4)).drew w5.heap.size 0 [.bool true]) w5.heap.size 0 [.bool false]) := q1.wr _ _ (.inl (Nat.le_refl _))
      have q3 : Upd NoB w5.drew (wr (w5.alloc (.cells #[.bool false] 4)).drew w5.heap.size 0 [.bool false]) := q0.wr _ _ (.inl (Nat.le_refl _))
      have q4 : Upd NoB w5.drew (wr (wr (w5.alloc (.cells #[.bool false] 4)).drew w5.heap.size 0 [.bool false]) w5.heap.size 0 [.bool true]) := q3.wr _ _ (.inl (Nat.le_refl _))
      refine ⟨q0,⟨q1,q2,q2,?_⟩,⟨q3,q4,q4,?_⟩⟩
      · have hk6 : Ext w5 (wr (wr (w5.alloc (.cells #[.bool false] 4)).drew w5.heap.size 0 [.bool true]) w5.heap.size 0 [.bool false]) := ((Upd.refl _ _).drew).trans q2
        generalize (wr (wr (w5.alloc (.cells #[.bool false] 4)).drew w5.heap.size 0 [.bool true]) w5.heap.size 0 [.bool false]) = w6 at *
        have hzk6 := hk6.size
        have hX6 : Ext w w6 := hX5.trans hk6
        have hb6 := hk6.blk_some hb5 id
        have hl6 := hk6.blk_some hl5 id
        have ht6 := hk6.blk_some ht5 id
        have hxe6 := hX6.blk_some hxe id
        repeat ((first | refine qA rfl ?_|apply qB|refine qC rfl ?_|apply qD|apply qE|apply qF|apply qG|apply qH);try simp (maxSteps:=1000000)(disch:=(first|omega|(simp only [qI,qJ,qK]<;>omega)|exact qL _)) only [go_sem,↓reduceIte,n0,reduceCtorEq,n1,n2,n3,n4,n5,i0,i1,i2,i3,i4,i5,i6,i7,hb6,hl6,ht6,hxe6,Int.toNat_natCast,Nat.mul_one,hq0,hq1,hqe0,tl32,hrc1_0,hrc1_2,hrc1_3,hrc1_29,hri])
        refine W.drawR (.take 0 (.take 1 (.take 2 (.take 3 (.take 4 (.take 5 (.take 6 (.take 7 (.take 8 (.take 9 (.take 10 (.take 11 (.take 12 (.take 13 (.take 14 (.only 15 (.only 16 (.only 17 (.take 18 (.take 19 (.last 20))))))))))))))))))))) (ownB (.slice av j kv)) mixed (by kernel_rfl) ?_
        try simp (maxSteps:=1000000)(disch:=(first|omega|(simp only [qI,qJ,qK]<;>omega)|exact qL _ | (refine hnb _ ?_;first | omega | (simp only [World.size_alloc,size_wr,size_drew] <;> omega)))) only [go_sem,↓reduceIte,n0,reduceCtorEq,n1,n2,n3,n4,n5,i0,i1,i2,i3,i4,i5,i6,i7,hb6,hl6,ht6,hxe6,Int.toNat_natCast,Nat.mul_one,hq0,hq1,hqe0,tl32,hrc1_0,hrc1_2,hrc1_3,hrc1_29,hri]
        refine ⟨Upd.refl _ _,?_⟩
        have hP7 : Upd (ownB (.slice av j kv)) w6.drew (w6.alloc (.cells #[.int .i64 (IntKind.i32.wrap y.n),.slice none 0 0,.bool false,.slice none 0 0,.slice none 0 0] 35)).drew := show Upd (ownB (.slice av j kv)) w6.drew (w6.drew.alloc (.cells #[.int .i64 (IntKind.i32.wrap y.n),.slice none 0 0,.bool false,.slice none 0 0,.slice none 0 0] 35)) from (Upd.refl _ _).alloc _
        have hn7 : blk (w6.alloc (.cells #[.int .i64 (IntKind.i32.wrap y.n),.slice none 0 0,.bool false,.slice none 0 0,.slice none 0 0] 35)).drew w6.drew.heap.size = some (#[.int .i64 (IntKind.i32.wrap y.n),.slice none 0 0,.bool false,.slice none 0 0,.slice none 0 0],35,(0,0)) := show blk (w6.drew.alloc (.cells #[.int .i64 (IntKind.i32.wrap y.n),.slice none 0 0,.bool false,.slice none 0 0,.slice none 0 0] 35)) w6.drew.heap.size = some (#[.int .i64 (IntKind.i32.wrap y.n),.slice none 0 0,.bool false,.slice none 0 0,.slice none 0 0],35,(0,0)) from blk_alloc_new rfl
        have hsq7 : (w6.alloc (.cells #[.int .i64 (IntKind.i32.wrap y.n),.slice none 0 0,.bool false,.slice none 0 0,.slice none 0 0] 35)).drew.heap.size = w6.drew.heap.size + 1 := show (w6.drew.alloc (.cells #[.int .i64 (IntKind.i32.wrap y.n),.slice none 0 0,.bool false,.slice none 0 0,.slice none 0 0] 35)).heap.size = w6.drew.heap.size + 1 from World.size_alloc _ _
        have hEx7 : Ext w6.drew (w6.alloc (.cells #[.int .i64 (IntKind.i32.wrap y.n),.slice none 0 0,.bool false,.slice none 0 0,.slice none 0 0] 35)).drew := show Ext w6.drew (w6.drew.alloc (.cells #[.int .i64 (IntKind.i32.wrap y.n),.slice none 0 0,.bool false,.slice none 0 0,.slice none 0 0] 35)) from Upd.alloc (Upd.refl _ _) _
        refine ⟨hP7,?_⟩
        try simp only [List.append_nil]
        generalize (w6.alloc (.cells #[.int .i64 (IntKind.i32.wrap y.n),.slice none 0 0,.bool false,.slice none 0 0,.slice none 0 0] 35)).drew = w7 at *
        try simp only [size_drew] at hsq7
        have hEw8 : Ext w5 w7 := (hk6.drew.trans hEx7)
        have hzw8 := hEw8.size
        obtain ⟨css,hown,hall⟩ := (hg.ext hEw8).ex
        have hcl := hall.1
        rw [hlj] at hcl
        have hx8 : TreeC (fun b => (fun b => w1.heap.size ≤ b) b ∧ b ≠ w.heap.size + 1 ∧ ¬ ownB (.slice av j kv) b) w7 ((tl1 (tlPF d) fX0_1.of fX0_1.sub) y) [.int .i64 (IntKind.i32.wrap y.n),.slice none 0 0,.bool false,.slice none 0 0,.slice none 0 0] := by
          exact TreeC.weaken (fun b _ hk => ⟨by omega,by omega,hnb b (.inr (by omega))⟩) (TreeC.intro (tl32 _) (BytesV.nil _ _) (treesN _ _) (tagsN _ _) : TreeC (fun b => w5.heap.size ≤ b) _ (.num (IntKind.i32.wrap y.n)) [.int .i64 (IntKind.i32.wrap y.n),.slice none 0 0,.bool false,.slice none 0 0,.slice none 0 0])
        refine wp_append ap_32_32 (m := 1) (news := [.int .i64 (IntKind.i32.wrap y.n),.slice none 0 0,.bool false,.slice none 0 0,.slice none 0 0]) (n := css.length) (cs := css.flatten) (v := (.slice av j kv)) ?_ rfl hown.1 (all2_flat_tree hall) (Src.blk (fr := (0,0)) (T := 35) hn7 rfl rfl) ?_ ?_ ?_
        · first | rfl | simp (maxSteps:=1000000)(disch:=(first|omega|(simp only [qI,qJ,qK]<;>omega)|exact qL _)) only [go_sem,↓reduceIte,n0,reduceCtorEq,n1,n2,n3,n4,n5,i0,i1,i2,i3,i4,i5,i6,i7]
        · omega
        · omega
        intro v' w8 ho hu hfr
        have hP8 := (hP7 : Upd (ownB (.slice av j kv)) w6.drew w7).trans hu
        have hzq8 := hP8.size
        simp only [size_drew] at hzq8
        have hlq8 := hP8.blk_some (show blk w6.drew (w.heap.size + 1) = _ from hl6) (hnb _ (.inl (by omega)))
        have hg' := GrowT.snoc hown hall hx8 hu hfr ho
        obtain ⟨va,vc,hv',_⟩ := ho.shape
        subst hv'
        have hne : ¬ ownB (.slice va (css.length + 1) vc) (w.heap.size + 1) := fun h => (hfr _ h).elim (hnb _ (.inl (by omega))) (fun h => by omega)
        refine ⟨hP8,?_⟩
        try simp (maxSteps:=1000000)(disch:=(first|omega|(simp only [qI,qJ,qK]<;>omega)|exact qL _ | (refine hnb _ ?_;first | omega | (simp only [World.size_alloc,size_wr,size_drew] <;> omega)))) only [go_sem,↓reduceIte,n0,reduceCtorEq,n1,n2,n3,n4,n5,i0,i1,i2,i3,i4,i5,i6,i7,hlq8,Int.toNat_natCast,Nat.mul_one,hrc1_0,hrc1_2,hrc1_3,hrc1_29,hri]
        repeat ((first | refine qA rfl ?_|apply qB|refine qC rfl ?_|apply qD|apply qE|apply qF|apply qG|apply qH);try simp (maxSteps:=1000000)(disch:=(first|omega|(simp only [qI,qJ,qK]<;>omega)|exact qL _)) only [go_sem,↓reduceIte,n0,reduceCtorEq,n1,n2,n3,n4,n5,i0,i1,i2,i3,i4,i5,i6,i7,hlq8,Int.toNat_natCast,Nat.mul_one,hrc1_0,hrc1_2,hrc1_3,hrc1_29,hri])
        refine ⟨⟨(by simp (maxSteps:=1000000)(disch:=(first|omega|(simp only [qI,qJ,qK]<;>omega)|exact qL _)) only [go_sem,↓reduceIte,n0,reduceCtorEq,n1,n2,n3,n4,n5,i0,i1,i2,i3,i4,i5,i6,i7,Holds_nil,Holds_cons,hrc1_0,hrc1_2,hrc1_3,hrc1_29,hri]),j + 1,(by simp (maxSteps:=1000000)(disch:=(first|omega|(simp only [qI,qJ,qK]<;>omega)|exact qL _)) only [go_sem,↓reduceIte,n0,reduceCtorEq,n1,n2,n3,n4,n5,i0,i1,i2,i3,i4,i5,i6,i7,hrc1_0,hrc1_2,hrc1_3,hrc1_29,hri];all_goals rfl),.slice va (css.length + 1) vc,by omega,?_,?_,?_⟩,?_⟩
        · rw [blk_wr_eq,hlq8];rfl
        · rw [hcat,List.map_append];exact hg'.upd ((Upd.refl _ _).wr _ _ (.inr rfl)) hne
        · refine Upd.wr ?_ _ _ (.inr rfl)
          exact (hUk.more ((hEw8.mono fun _ h => h.elim).trans hu) fun b hb h => absurd h (hnb b (.inl hb)))
        · try simp (maxSteps:=1000000)(disch:=(first|omega|(simp only [qI,qJ,qK]<;>omega)|exact qL _)) only [go_sem,↓reduceIte,n0,reduceCtorEq,n1,n2,n3,n4,n5,i0,i1,i2,i3,i4,i5,i6,i7,hrc1_0,hrc1_2,hrc1_3,hrc1_29,hri]
          simp only [RowKit.intOf];omega
      · have hk9 : Ext w5 (wr (wr (w5.alloc (.cells #[.bool false] 4)).drew w5.heap.size 0 [.bool false]) w5.heap.size 0 [.bool true]) := ((Upd.refl _ _).drew).trans q4
        generalize (wr (wr (w5.alloc (.cells #[.bool false] 4)).drew w5.heap.size 0 [.bool false]) w5.heap.size 0 [.bool true]) = w9 at *
        have hzk9 := hk9.size
        have hX9 : Ext w w9 := hX5.trans hk9
        have hb9 := hk9.blk_some hb5 id
        have hl9 := hk9.blk_some hl5 id
        have ht9 := hk9.blk_some ht5 id
        have hxe9 := hX9.blk_some hxe id
        repeat ((first | refine qA rfl ?_|apply qB|refine qC rfl ?_|apply qD|apply qE|apply qF|apply qG|apply qH);try simp (maxSteps:=1000000)(disch:=(first|omega|(simp only [qI,qJ,qK]<;>omega)|exact qL _)) only [go_sem,↓reduceIte,n0,reduceCtorEq,n1,n2,n3,n4,n5,i0,i1,i2,i3,i4,i5,i6,i7,hb9,hl9,ht9,hxe9,Int.toNat_natCast,Nat.mul_one,hq0,hq1,hqe0,tl32,hrc1_0,hrc1_2,hrc1_3,hrc1_29,hri])
        refine W.drawR (.take 0 (.take 1 (.take 2 (.take 3 (.take 4 (.take 5 (.take 6 (.take 7 (.take 8 (.take 9 (.take 10 (.take 11 (.take 12 (.take 14 (.two 13 (.only 15 (.only 16 (.take 17 (.take 18 (.last 19))))) 15 (.only 13 (.only 16 (.take 17 (.take 18 (.last 19)))))))))))))))))))) (ownB (.slice av j kv)) mixed (by kernel_rfl) ?_
        try simp (maxSteps:=1000000)(disch:=(first|omega|(simp only [qI,qJ,qK]<;>omega)|exact qL _ | (refine hnb _ ?_;first | omega | (simp only [World.size_alloc,size_wr,size_drew] <;> omega)))) only [go_sem,↓reduceIte,n0,reduceCtorEq,n1,n2,n3,n4,n5,i0,i1,i2,i3,i4,i5,i6,i7,hb9,hl9,ht9,hxe9,Int.toNat_natCast,Nat.mul_one,hq0,hq1,hqe0,tl32,hrc1_0,hrc1_2,hrc1_3,hrc1_29,hri]
        refine ⟨?_,?_⟩
        · skip
          refine ⟨Upd.refl _ _,?_⟩
          have hP10 : Upd (ownB (.slice av j kv)) w9.drew (w9.alloc (.cells qZ5 35)).drew := show Upd (ownB (.slice av j kv)) w9.drew (w9.drew.alloc (.cells qZ5 35)) from (Upd.refl _ _).alloc _
          have hn10 : blk (w9.alloc (.cells qZ5 35)).drew w9.drew.heap.size = some (qZ5,35,(0,0)) := show blk (w9.drew.alloc (.cells qZ5 35)) w9.drew.heap.size = some (qZ5,35,(0,0)) from blk_alloc_new rfl
          have hsq10 : (w9.alloc (.cells qZ5 35)).drew.heap.size = w9.drew.heap.size + 1 := show (w9.drew.alloc (.cells qZ5 35)).heap.size = w9.drew.heap.size + 1 from World.size_alloc _ _
          have hEx10 : Ext w9.drew (w9.alloc (.cells qZ5 35)).drew := show Ext w9.drew (w9.drew.alloc (.cells qZ5 35)) from Upd.alloc (Upd.refl _ _) _
          refine ⟨hP10,?_⟩
          try simp only [List.append_nil]
          generalize (w9.alloc (.cells qZ5 35)).drew = w10 at *
          try simp only [size_drew] at hsq10
          have hEw11 : Ext w5 w10 := (hk9.drew.trans hEx10)
          have hzw11 := hEw11.size
          obtain ⟨css,hown,hall⟩ := (hg.ext hEw11).ex
          have hcl := hall.1
          rw [hlj] at hcl
          have hx11 : TreeC (fun b => (fun b => w1.heap.size ≤ b) b ∧ b ≠ w.heap.size + 1 ∧ ¬ ownB (.slice av j kv) b) w10 ((tl1 (tlPF d) fX0_1.of fX0_1.sub) y) [.int .i64 (IntKind.i32.wrap y.n),.slice none 0 0,.bool false,.slice none 0 0,.slice none 0 0] := by
            exact TreeC.weaken (fun b _ hk => ⟨by omega,by omega,hnb b (.inr (by omega))⟩) (TreeC.intro (tl32 _) (BytesV.nil _ _) (treesN _ _) (tagsN _ _) : TreeC (fun b => w5.heap.size ≤ b) _ (.num (IntKind.i32.wrap y.n)) [.int .i64 (IntKind.i32.wrap y.n),.slice none 0 0,.bool false,.slice none 0 0,.slice none 0 0])
          refine wp_append ap_32_32 (m := 1) (news := [.int .i64 0,.slice none 0 0,.bool false,.slice none 0 0,.slice none 0 0]) (n := css.length) (cs := css.flatten) (v := (.slice av j kv)) ?_ rfl hown.1 (all2_flat_tree hall) (Src.blk (fr := (0,0)) (T := 35) hn10 rfl rfl) ?_ ?_ ?_
          · first | rfl | simp (maxSteps:=1000000)(disch:=(first|omega|(simp only [qI,qJ,qK]<;>omega)|exact qL _)) only [go_sem,↓reduceIte,n0,reduceCtorEq,n1,n2,n3,n4,n5,i0,i1,i2,i3,i4,i5,i6,i7]
          · omega
          · omega
          intro v' w11 ho hu hfr
          have hP11 := (hP10 : Upd (ownB (.slice av j kv)) w9.drew w10).trans hu
          have hzq11 := hP11.size
          simp only [size_drew] at hzq11
          have hlq11 := hP11.blk_some (show blk w9.drew (w.heap.size + 1) = _ from hl9) (hnb _ (.inl (by omega)))
          rcases ho.2 with ⟨_,h⟩ | ⟨g,cap,rest,fr,hv',hg',hbg,hlen,hth,hle⟩
          · exact absurd h (Nat.succ_ne_zero _)
          subst hv'
          have hgne : ¬ g = w.heap.size + 1 := fun h => (hfr g ⟨_,_,_,rfl,rfl⟩).elim (fun h' => hnb _ (.inl (by omega)) (h ▸ h')) (fun h' => by omega)
          have hfl : css.flatten.length = css.length * 5 := flatten_len hown.2
          have hlen2 : (css.flatten ++ ([.int .i64 0,.slice none 0 0,.bool false,.slice none 0 0,.slice none 0 0] : List Value) ++ rest).length = cap * 5 := by simp only [List.length_append] at hlen ⊢;omega
          obtain ⟨XX,hXX⟩ : ∃ X : Array Value,X = (css.flatten ++ ([.int .i64 0,.slice none 0 0,.bool false,.slice none 0 0,.slice none 0 0] : List Value) ++ rest).toArray := ⟨_,rfl⟩
          have hbgX : blk w11 g = some (XX,35,fr) := by rw [hXX];exact hbg
          have hXsz : XX.size = cap * 5 := by rw [hXX,List.size_toArray];exact hlen2
          have hth2 : thaw fr (css.length * 5) 5 = true := thaw_of hth (by omega)
          have hst : css.length * 5 + 5 ≤ XX.size := by omega
          have hset := Own.setlast (cs := [.int .i64 (IntKind.i32.wrap y.n),.slice none 0 0,.bool false,.slice none 0 0,.slice none 0 0]) ho rfl rfl
          have hu2 : Upd (ownB (.slice av j kv)) w10 (wr w11 g (css.length * 5) [.int .i64 (IntKind.i32.wrap y.n),.slice none 0 0,.bool false,.slice none 0 0,.slice none 0 0]) := hu.wr _ _ ((hfr g ⟨_,_,_,rfl,rfl⟩).symm)
          have hg2 := GrowT.snoc hown hall hx11 hu2 hfr hset
          have hcj : css.length = j := by first | exact hcl.symm.trans hlj | omega
          simp only [hcj] at hth2 hst hset hu2 hg2
          refine ⟨hP11,?_⟩
          try simp (maxSteps:=1000000)(disch:=(first|omega|(simp only [qI,qJ,qK]<;>omega)|exact qL _ | (refine hnb _ ?_;first | omega | (simp only [World.size_alloc,size_wr,size_drew] <;> omega)))) only [go_sem,↓reduceIte,n0,reduceCtorEq,n1,n2,n3,n4,n5,i0,i1,i2,i3,i4,i5,i6,i7,hlq11,hbgX,hth2,hst,hcj,Int.toNat_natCast,Nat.mul_one,hrc1_0,hrc1_2,hrc1_3,hrc1_29,hri]
          repeat ((first | refine qA rfl ?_|apply qB|refine qC rfl ?_|apply qD|apply qE|apply qF|apply qG|apply qH);try simp (maxSteps:=1000000)(disch:=(first|omega|(simp only [qI,qJ,qK]<;>omega)|exact qL _)) only [go_sem,↓reduceIte,n0,reduceCtorEq,n1,n2,n3,n4,n5,i0,i1,i2,i3,i4,i5,i6,i7,hlq11,hbgX,hth2,hst,hcj,Int.toNat_natCast,Nat.mul_one,hrc1_0,hrc1_2,hrc1_3,hrc1_29,hri])
          refine ⟨⟨(by simp (maxSteps:=1000000)(disch:=(first|omega|(simp only [qI,qJ,qK]<;>omega)|exact qL _)) only [go_sem,↓reduceIte,n0,reduceCtorEq,n1,n2,n3,n4,n5,i0,i1,i2,i3,i4,i5,i6,i7,Holds_nil,Holds_cons,hrc1_0,hrc1_2,hrc1_3,hrc1_29,hri]),j + 1,(by simp (maxSteps:=1000000)(disch:=(first|omega|(simp only [qI,qJ,qK]<;>omega)|exact qL _)) only [go_sem,↓reduceIte,n0,reduceCtorEq,n1,n2,n3,n4,n5,i0,i1,i2,i3,i4,i5,i6,i7,hrc1_0,hrc1_2,hrc1_3,hrc1_29,hri];all_goals rfl),.slice (some ⟨g,0,none⟩) (j + 1) cap,by omega,?_,?_,?_⟩,?_⟩
          · rw [blk_wr_ne (by omega),blk_wr_eq,hlq11];rfl
          · rw [hcat,List.map_append,wr_comm (Ne.symm hgne)]
            exact hg2.upd ((Upd.refl _ _).wr _ _ (.inr rfl)) (fun h => hgne (ownB_row h).symm)
          · rw [wr_comm (Ne.symm hgne)]
            refine Upd.wr ?_ _ _ (.inr rfl)
            exact (hUk.more ((hEw11.mono fun _ h => h.elim).trans hu2) fun b hb h => absurd h (hnb b (.inl hb)))
          · try simp (maxSteps:=1000000)(disch:=(first|omega|(simp only [qI,qJ,qK]<;>omega)|exact qL _)) only [go_sem,↓reduceIte,n0,reduceCtorEq,n1,n2,n3,n4,n5,i0,i1,i2,i3,i4,i5,i6,i7,hrc1_0,hrc1_2,hrc1_3,hrc1_29,hri]
            simp only [RowKit.intOf];omega
        · skip
          have hP12 : Upd (ownB (.slice av j kv)) w9.drew (w9.alloc (.cells qZ5 35)).drew := show Upd (ownB (.slice av j kv)) w9.drew (w9.drew.alloc (.cells qZ5 35)) from (Upd.refl _ _).alloc _
          have hn12 : blk (w9.alloc (.cells qZ5 35)).drew w9.drew.heap.size = some (qZ5,35,(0,0)) := show blk (w9.drew.alloc (.cells qZ5 35)) w9.drew.heap.size = some (qZ5,35,(0,0)) from blk_alloc_new rfl
          have hsq12 : (w9.alloc (.cells qZ5 35)).drew.heap.size = w9.drew.heap.size + 1 := show (w9.drew.alloc (.cells qZ5 35)).heap.size = w9.drew.heap.size + 1 from World.size_alloc _ _
          have hEx12 : Ext w9.drew (w9.alloc (.cells qZ5 35)).drew := show Ext w9.drew (w9.drew.alloc (.cells qZ5 35)) from Upd.alloc (Upd.refl _ _) _
          refine ⟨hP12,?_⟩
          try simp only [List.append_nil]
          generalize (w9.alloc (.cells qZ5 35)).drew = w12 at *
          try simp only [size_drew] at hsq12
          refine ⟨hP12,?_⟩
          have hEw13 : Ext w5 w12 := (hk9.drew.trans hEx12)
          have hzw13 := hEw13.size
          obtain ⟨css,hown,hall⟩ := (hg.ext hEw13).ex
          have hcl := hall.1
          rw [hlj] at hcl
          have hx13 : TreeC (fun b => (fun b => w1.heap.size ≤ b) b ∧ b ≠ w.heap.size + 1 ∧ ¬ ownB (.slice av j kv) b) w12 ((tl1 (tlPF d) fX0_1.of fX0_1.sub) y) [.int .i64 (IntKind.i32.wrap y.n),.slice none 0 0,.bool false,.slice none 0 0,.slice none 0 0] := by
            exact TreeC.weaken (fun b _ hk => ⟨by omega,by omega,hnb b (.inr (by omega))⟩) (TreeC.intro (tl32 _) (BytesV.nil _ _) (treesN _ _) (tagsN _ _) : TreeC (fun b => w5.heap.size ≤ b) _ (.num (IntKind.i32.wrap y.n)) [.int .i64 (IntKind.i32.wrap y.n),.slice none 0 0,.bool false,.slice none 0 0,.slice none 0 0])
          refine wp_append ap_32_32 (m := 1) (news := [.int .i64 0,.slice none 0 0,.bool false,.slice none 0 0,.slice none 0 0]) (n := css.length) (cs := css.flatten) (v := (.slice av j kv)) ?_ rfl hown.1 (all2_flat_tree hall) (Src.blk (fr := (0,0)) (T := 35) hn12 rfl rfl) ?_ ?_ ?_
          · first | rfl | simp (maxSteps:=1000000)(disch:=(first|omega|(simp only [qI,qJ,qK]<;>omega)|exact qL _)) only [go_sem,↓reduceIte,n0,reduceCtorEq,n1,n2,n3,n4,n5,i0,i1,i2,i3,i4,i5,i6,i7]
          · omega
          · omega
          intro v' w13 ho hu hfr
          have hP13 := (hP12 : Upd (ownB (.slice av j kv)) w9.drew w12).trans hu
          have hzq13 := hP13.size
          simp only [size_drew] at hzq13
          have hlq13 := hP13.blk_some (show blk w9.drew (w.heap.size + 1) = _ from hl9) (hnb _ (.inl (by omega)))
          rcases ho.2 with ⟨_,h⟩ | ⟨g,cap,rest,fr,hv',hg',hbg,hlen,hth,hle⟩
          · exact absurd h (Nat.succ_ne_zero _)
          subst hv'
          have hgne : ¬ g = w.heap.size + 1 := fun h => (hfr g ⟨_,_,_,rfl,rfl⟩).elim (fun h' => hnb _ (.inl (by omega)) (h ▸ h')) (fun h' => by omega)
          have hfl : css.flatten.length = css.length * 5 := flatten_len hown.2
          have hlen2 : (css.flatten ++ ([.int .i64 0,.slice none 0 0,.bool false,.slice none 0 0,.slice none 0 0] : List Value) ++ rest).length = cap * 5 := by simp only [List.length_append] at hlen ⊢;omega
          obtain ⟨XX,hXX⟩ : ∃ X : Array Value,X = (css.flatten ++ ([.int .i64 0,.slice none 0 0,.bool false,.slice none 0 0,.slice none 0 0] : List Value) ++ rest).toArray := ⟨_,rfl⟩
          have hbgX : blk w13 g = some (XX,35,fr) := by rw [hXX];exact hbg
          have hXsz : XX.size = cap * 5 := by rw [hXX,List.size_toArray];exact hlen2
          have hth2 : thaw fr (css.length * 5) 5 = true := thaw_of hth (by omega)
          have hst : css.length * 5 + 5 ≤ XX.size := by omega
          have hset := Own.setlast (cs := [.int .i64 (IntKind.i32.wrap y.n),.slice none 0 0,.bool false,.slice none 0 0,.slice none 0 0]) ho rfl rfl
          have hu2 : Upd (ownB (.slice av j kv)) w12 (wr w13 g (css.length * 5) [.int .i64 (IntKind.i32.wrap y.n),.slice none 0 0,.bool false,.slice none 0 0,.slice none 0 0]) := hu.wr _ _ ((hfr g ⟨_,_,_,rfl,rfl⟩).symm)
          have hg2 := GrowT.snoc hown hall hx13 hu2 hfr hset
          have hcj : css.length = j := by first | exact hcl.symm.trans hlj | omega
          simp only [hcj] at hth2 hst hset hu2 hg2
          refine ⟨hP13,?_⟩
          try simp (maxSteps:=1000000)(disch:=(first|omega|(simp only [qI,qJ,qK]<;>omega)|exact qL _ | (refine hnb _ ?_;first | omega | (simp only [World.size_alloc,size_wr,size_drew] <;> omega)))) only [go_sem,↓reduceIte,n0,reduceCtorEq,n1,n2,n3,n4,n5,i0,i1,i2,i3,i4,i5,i6,i7,hlq13,hbgX,hth2,hst,hcj,Int.toNat_natCast,Nat.mul_one,hrc1_0,hrc1_2,hrc1_3,hrc1_29,hri]
          repeat ((first | refine qA rfl ?_|apply qB|refine qC rfl ?_|apply qD|apply qE|apply qF|apply qG|apply qH);try simp (maxSteps:=1000000)(disch:=(first|omega|(simp only [qI,qJ,qK]<;>omega)|exact qL _)) only [go_sem,↓reduceIte,n0,reduceCtorEq,n1,n2,n3,n4,n5,i0,i1,i2,i3,i4,i5,i6,i7,hlq13,hbgX,hth2,hst,hcj,Int.toNat_natCast,Nat.mul_one,hrc1_0,hrc1_2,hrc1_3,hrc1_29,hri])
          refine ⟨⟨(by simp (maxSteps:=1000000)(disch:=(first|omega|(simp only [qI,qJ,qK]<;>omega)|exact qL _)) only [go_sem,↓reduceIte,n0,reduceCtorEq,n1,n2,n3,n4,n5,i0,i1,i2,i3,i4,i5,i6,i7,Holds_nil,Holds_cons,hrc1_0,hrc1_2,hrc1_3,hrc1_29,hri]),j + 1,(by simp (maxSteps:=1000000)(disch:=(first|omega|(simp only [qI,qJ,qK]<;>omega)|exact qL _)) only [go_sem,↓reduceIte,n0,reduceCtorEq,n1,n2,n3,n4,n5,i0,i1,i2,i3,i4,i5,i6,i7,hrc1_0,hrc1_2,hrc1_3,hrc1_29,hri];all_goals rfl),.slice (some ⟨g,0,none⟩) (j + 1) cap,by omega,?_,?_,?_⟩,?_⟩
          · rw [blk_wr_ne (by omega),blk_wr_eq,hlq13];rfl
          · rw [hcat,List.map_append,wr_comm (Ne.symm hgne)]
            exact hg2.upd ((Upd.refl _ _).wr _ _ (.inr rfl)) (fun h => hgne (ownB_row h).symm)
          · rw [wr_comm (Ne.symm hgne)]
            refine Upd.wr ?_ _ _ (.inr rfl)
            exact (hUk.more ((hEw13.mono fun _ h => h.elim).trans hu2) fun b hb h => absurd h (hnb b (.inl hb)))
          · try simp (maxSteps:=1000000)(disch:=(first|omega|(simp only [qI,qJ,qK]<;>omega)|exact qL _)) only [go_sem,↓reduceIte,n0,reduceCtorEq,n1,n2,n3,n4,n5,i0,i1,i2,i3,i4,i5,i6,i7,hrc1_0,hrc1_2,hrc1_3,hrc1_29,hri]
            simp only [RowKit.intOf];omega
    · have hjn : j = L1.length := by omega
      subst hjn
      rw [List.take_length] at hg
      repeat ((first | refine qA rfl ?_|apply qB|refine qC rfl ?_|apply qD|apply qE|apply qF|apply qG|apply qH);try simp (maxSteps:=1000000)(disch:=(first|omega|(simp only [qI,qJ,qK]<;>omega)|exact qL _)) only [go_sem,↓reduceIte,n0,reduceCtorEq,n1,n2,n3,n4,n5,i0,i1,i2,i3,i4,i5,i6,i7,hrc1_0,hrc1_2,hrc1_3,hrc1_29,hri])
      exact ⟨(by simp (maxSteps:=1000000)(disch:=(first|omega|(simp only [qI,qJ,qK]<;>omega)|exact qL _)) only [go_sem,↓reduceIte,n0,reduceCtorEq,n1,n2,n3,n4,n5,i0,i1,i2,i3,i4,i5,i6,i7,Holds_nil,Holds_cons,hrc1_0,hrc1_2,hrc1_3,hrc1_29,hri]),v,hl5,hg,hUk⟩
  rintro ρ w14 ⟨⟨hrd1_0,hrd1_2,hrd1_3,hrd1_29,-⟩,v,hl14,hg14,hUz14⟩
  have hV14 : Upd (fun b => b = w.heap.size + 1 ∨ b = w.heap.size + 2) w4 w14 := hUz14.mono fun _ h => .inl h
  have hU14 : Upd (fun b => b = w.heap.size + 1 ∨ b = w.heap.size + 2) w1 w14 := hU4.trans hV14
  have hz14 := hU14.size
  have hX14 : Ext w w14 := hE1.more hU14 fun b hb h => by omega
  have hb14 := hX14.blk_some hb id
  have ht14 := hUz14.blk_some ht4 (by omega)
  obtain ⟨av1,kv1,hvs,_⟩ := hg14.shape
  subst hvs
  have hf1 : TreeC (fun b => w1.heap.size ≤ b) w14 (.mk 0 [] (t.at 1).null (L1.map (tl1 (tlPF d) fX0_1.of fX0_1.sub)) []) [.int .i64 0,.slice none 0 0,.bool (t.at 1).null,.slice av1 (List.map (tl1 (tlPF d) fX0_1.of fX0_1.sub) L1).length kv1,.slice none 0 0] := TreeC.intro rfl (BytesV.nil _ _) (hg14.trees (fun _ _ h => h) (fun b hb => by have := hz4;omega)) (tagsN _ _)
  have hr14 := hU14.blk_some hr1 (by omega)
  have hC_14 : Upd (fun b => b = w.heap.size + 1 ∨ b = w.heap.size + 2) w14 w14 := Upd.refl _ _
  have hC_4 : Upd (fun b => b = w.heap.size + 1 ∨ b = w.heap.size + 2) w4 w14 := hV14.trans hC_14
  have hC_3 : Upd (fun b => b = w.heap.size + 1 ∨ b = w.heap.size + 2) w3 w14 := hV4.trans hC_4
  have hC_1 : Upd (fun b => b = w.heap.size + 1 ∨ b = w.heap.size + 2) w1 w14 := hV3.trans hC_3
  have hF0 := TreeC.keep (hC_3.keeps fun b hb hk e => by have hk' : w1.heap.size ≤ b := hk;omega) hf0
  have hF1 := TreeC.keep (hC_14.keeps fun b hb hk e => by have hk' : w1.heap.size ≤ b := hk;omega) hf1
  replace hF0 : TreeC (fun b => w1.heap.size ≤ b) w14 (tlF (tlPF d) fX0_0 (t.at 0)) [.int .i64 0,.slice (some a2) ((t.at 0).s).length k2,.bool false,.slice none 0 0,.slice none 0 0] := hF0
  replace hF1 : TreeC (fun b => w1.heap.size ≤ b) w14 (tlF (tlPF d) fX0_1 (t.at 1)) [.int .i64 0,.slice none 0 0,.bool (t.at 1).null,.slice av1 (List.map (tl1 (tlPF d) fX0_1.of fX0_1.sub) L1).length kv1,.slice none 0 0] := by rw [show tlF (tlPF d) fX0_1 (t.at 1) = .mk 0 [] (t.at 1).null ((if (t.at 1).null = true then [] else (t.at 1).l).map (tl1 (tlPF d) fX0_1.of fX0_1.sub)) [] from rfl,← hL1];exact hF1
  have hTL : TreesV (fun b => (fun b => w1.heap.size ≤ b) b ∨ b = w.heap.size + 1) w14 (.slice (some ⟨w.heap.size + 1,0,none⟩) 2 2) [tlF (tlPF d) fX0_0 (t.at 0),tlF (tlPF d) fX0_1 (t.at 1)] := by
    refine ⟨[[.int .i64 0,.slice (some a2) ((t.at 0).s).length k2,.bool false,.slice none 0 0,.slice none 0 0],[.int .i64 0,.slice none 0 0,.bool (t.at 1).null,.slice av1 (List.map (tl1 (tlPF d) fX0_1.of fX0_1.sub) L1).length kv1,.slice none 0 0]],⟨_,2,rfl,Nat.le_refl _,(by intro cs hm;simp only [List.mem_cons,List.not_mem_nil,or_false] at hm;rcases hm with rfl | rfl <;> rfl),.inr ⟨_,rfl,rfl,.inr rfl,_,hl14,fun i hi => by rw [Nat.zero_add,List.getElem?_toArray];rfl⟩⟩,rfl,fun i h1 h2 => ?_⟩
    match i,h1 with
    | 0,_ => exact TreeC.weaken (fun b _ hk => .inl hk) hF0
    | 1,_ => exact TreeC.weaken (fun b _ hk => .inl hk) hF1
  repeat ((first | refine qA rfl ?_|apply qB|refine qC rfl ?_|apply qD|apply qE|apply qF|apply qG|apply qH);try simp (maxSteps:=1000000)(disch:=(first|omega|(simp only [qI,qJ,qK]<;>omega)|exact qL _)) only [go_sem,↓reduceIte,n0,reduceCtorEq,n1,n2,n3,n4,n5,i0,i1,i2,i3,i4,i5,i6,i7,hb14,hl14,ht14,hq0,hq1,hrd1_0,hrd1_2,hrd1_3,hr14,cellsAt_five])
  refine ⟨⟨_,rfl,?_⟩,hX14.wr _ _ (.inl (Nat.le_refl _))⟩
  have hUr : Upd (fun b => b = w.heap.size) w14 (wr w14 w.heap.size 0 [.int .i64 0,.slice none 0 0,.bool false,.slice (some ⟨w.heap.size + 1,0,none⟩) 2 2,.slice none 0 0]) := (Upd.refl _ _).wr _ _ (.inr rfl)
  exact TreeC.intro rfl (BytesV.nil _ _) ((hTL.keep (hUr.keeps fun b _ hk e => by rcases hk with hk | hk <;> omega)).weaken fun b _ hk => by rcases hk with hk | hk <;> omega) (tagsN _ _)

set_option maxHeartbeats 4000000 in
theorem tellQ_fn {d : Nat} {ok : Blocks} (t : Tree) (cs : List Value) (w : World) {b : Nat} {x : Blk} (hb : blk w b = some x) (hq : ∀ k,k < 2 → x.1[1 + k]? = cs[k]?) (hR : RepS false (d + 2) fsr_Q ok w t cs) (hg : GoodP (d + 2) fsr_Q t) :
    Fn Tryd.prog 15 #[.pointer (some ⟨b,0,none⟩)] w fun r w' => (∃ c,r = .agg c.toArray ∧ TreeC (fun b => w.heap.size ≤ b) w' (tlPF (d + 2) fsr_Q t) c) ∧ Ext w w' := by
  have hbl := blk_lt hb
  obtain ⟨⟨gd0,gd1,-⟩,hgu⟩ := hg
  replace gd0 : GoodF (GoodP (d + 1)) fQ_0 (t.at 0) := gd0
  replace gd1 : GoodF (GoodP (d + 1)) frQ_1 (t.at 1) := gd1
  have hL := hR.invF
  obtain ⟨c0,e0,rfl,h0,c1,e1,rfl,h1,rfl⟩ := hL
  replace h0 : RepF (RepS false (d + 1)) (szS false (d + 1)) fQ_0 ok w (t.at 0) c0 := h0
  replace h1 : RepF (RepS false (d + 1)) (szS false (d + 1)) frQ_1 ok w (t.at 1) c1 := h1
  obtain ⟨ab0,ac0,L0,rfl,hL0,hnn0,hs0⟩ := RepF_listT rfl h0
  have hgl0 := gd0.listL rfl hL0
  obtain ⟨p1,rfl,hp1⟩ := (RepF_bytes rfl).1 h1
  obtain ⟨ao1,no1,co1,rfl⟩ := hp1.shape
  have hq0 : x.1[1]? = some (.slice ab0 L0.length ac0) := hq 0 (by decide)
  have hq1 : x.1[2]? = some (.slice ao1 no1 co1) := hq 1 (by decide)
  refine fn_of_W Tryd.func15 rfl Tryd.results15 Tryd.ntmps15 rfl ?_
  repeat ((first | refine qA rfl ?_|apply qB|refine qC rfl ?_|apply qD|apply qE|apply qF|apply qG|apply qH);try simp (maxSteps:=1000000)(disch:=(first|omega|(simp only [qI,qJ,qK]<;>omega)|exact qL _)) only [go_sem,↓reduceIte,n0,reduceCtorEq,n1,n2,n3,n4,n5,i0,i1,i2,i3,i4,i5,i6,i7])
  refine wp_make (T := 32) (E := 35) (size := 5) (bytes := 88) (z := .agg qZ5) (l := 2) (c := 2) (kl := .i64) (kc := .i64) (by kernel_rfl) (by kernel_rfl) (by first | rfl | (simp (maxSteps:=1000000)(disch:=(first|omega|(simp only [qI,qJ,qK]<;>omega)|exact qL _)) only [go_sem,↓reduceIte,n0,reduceCtorEq,n1,n2,n3,n4,n5,i0,i1,i2,i3,i4,i5,i6,i7];rfl)) (by first | rfl | (simp (maxSteps:=1000000)(disch:=(first|omega|(simp only [qI,qJ,qK]<;>omega)|exact qL _)) only [go_sem,↓reduceIte,n0,reduceCtorEq,n1,n2,n3,n4,n5,i0,i1,i2,i3,i4,i5,i6,i7];rfl)) (by omega) (by omega) (by omega) ?_
  have hmd : madeCells (Value.agg qZ5).cells (2 * 5) = #[.int .i64 0,.slice none 0 0,.bool false,.slice none 0 0,.slice none 0 0,.int .i64 0,.slice none 0 0,.bool false,.slice none 0 0,.slice none 0 0] := by kernel_rfl
  rw [hmd]
  simp (maxSteps:=1000000)(disch:=(first|omega|(simp only [qI,qJ,qK]<;>omega)|exact qL _)) only [go_sem,↓reduceIte,n0,reduceCtorEq,n1,n2,n3,n4,n5,i0,i1,i2,i3,i4,i5,i6,i7]
  repeat ((first | refine qA rfl ?_|apply qB|refine qC rfl ?_|apply qD|apply qE|apply qF|apply qG|apply qH);try simp (maxSteps:=1000000)(disch:=(first|omega|(simp only [qI,qJ,qK]<;>omega)|exact qL _)) only [go_sem,↓reduceIte,n0,reduceCtorEq,n1,n2,n3,n4,n5,i0,i1,i2,i3,i4,i5,i6,i7])
  have hE1 : Ext w (wr (((w.alloc (.cells qZ5 35)).alloc (.cells #[.int .i64 0,.slice none 0 0,.bool false,.slice none 0 0,.slice none 0 0,.int .i64 0,.slice none 0 0,.bool false,.slice none 0 0,.slice none 0 0] 35)).alloc (.cells qZ5 35)) (w.heap.size + 2) 0 [.int .i64 0,.slice none 0 0,.bool false,.slice (some ⟨w.heap.size + 1,0,none⟩) 2 2,.slice none 0 0]) := (Upd.alloc (Upd.alloc (Upd.alloc (Upd.refl _ _) _) _) _).wr _ _ (.inl (by omega))
  have hz1 : (wr (((w.alloc (.cells qZ5 35)).alloc (.cells #[.int .i64 0,.slice none 0 0,.bool false,.slice none 0 0,.slice none 0 0,.int .i64 0,.slice none 0 0,.bool false,.slice none 0 0,.slice none 0 0] 35)).alloc (.cells qZ5 35)) (w.heap.size + 2) 0 [.int .i64 0,.slice none 0 0,.bool false,.slice (some ⟨w.heap.size + 1,0,none⟩) 2 2,.slice none 0 0]).heap.size = w.heap.size + 3 := by simp only [size_wr,World.size_alloc]
  have hl1 : blk (wr (((w.alloc (.cells qZ5 35)).alloc (.cells #[.int .i64 0,.slice none 0 0,.bool false,.slice none 0 0,.slice none 0 0,.int .i64 0,.slice none 0 0,.bool false,.slice none 0 0,.slice none 0 0] 35)).alloc (.cells qZ5 35)) (w.heap.size + 2) 0 [.int .i64 0,.slice none 0 0,.bool false,.slice (some ⟨w.heap.size + 1,0,none⟩) 2 2,.slice none 0 0]) (w.heap.size + 1) = some (#[.int .i64 0,.slice none 0 0,.bool false,.slice none 0 0,.slice none 0 0,.int .i64 0,.slice none 0 0,.bool false,.slice none 0 0,.slice none 0 0],35,(0,0)) := by simp (maxSteps:=1000000)(disch:=(first|omega|(simp only [qI,qJ,qK]<;>omega)|exact qL _)) only [go_sem,↓reduceIte,n0,reduceCtorEq,n1,n2,n3,n4,n5,i0,i1,i2,i3,i4,i5,i6,i7]
  have ht1 : blk (wr (((w.alloc (.cells qZ5 35)).alloc (.cells #[.int .i64 0,.slice none 0 0,.bool false,.slice none 0 0,.slice none 0 0,.int .i64 0,.slice none 0 0,.bool false,.slice none 0 0,.slice none 0 0] 35)).alloc (.cells qZ5 35)) (w.heap.size + 2) 0 [.int .i64 0,.slice none 0 0,.bool false,.slice (some ⟨w.heap.size + 1,0,none⟩) 2 2,.slice none 0 0]) (w.heap.size + 2) = some (#[.int .i64 0,.slice none 0 0,.bool false,.slice (some ⟨w.heap.size + 1,0,none⟩) 2 2,.slice none 0 0],35,(0,0)) := by simp (maxSteps:=1000000)(disch:=(first|omega|(simp only [qI,qJ,qK]<;>omega)|exact qL _)) only [go_sem,↓reduceIte,n0,reduceCtorEq,n1,n2,n3,n4,n5,i0,i1,i2,i3,i4,i5,i6,i7]
  have hr1 : blk (wr (((w.alloc (.cells qZ5 35)).alloc (.cells #[.int .i64 0,.slice none 0 0,.bool false,.slice none 0 0,.slice none 0 0,.int .i64 0,.slice none 0 0,.bool false,.slice none 0 0,.slice none 0 0] 35)).alloc (.cells qZ5 35)) (w.heap.size + 2) 0 [.int .i64 0,.slice none 0 0,.bool false,.slice (some ⟨w.heap.size + 1,0,none⟩) 2 2,.slice none 0 0]) w.heap.size = some (qZ5,35,(0,0)) := by simp (maxSteps:=1000000)(disch:=(first|omega|(simp only [qI,qJ,qK]<;>omega)|exact qL _)) only [go_sem,↓reduceIte,n0,reduceCtorEq,n1,n2,n3,n4,n5,i0,i1,i2,i3,i4,i5,i6,i7]
  obtain ⟨w1,hw1⟩ : ∃ y,y = (wr (((w.alloc (.cells qZ5 35)).alloc (.cells #[.int .i64 0,.slice none 0 0,.bool false,.slice none 0 0,.slice none 0 0,.int .i64 0,.slice none 0 0,.bool false,.slice none 0 0,.slice none 0 0] 35)).alloc (.cells qZ5 35)) (w.heap.size + 2) 0 [.int .i64 0,.slice none 0 0,.bool false,.slice (some ⟨w.heap.size + 1,0,none⟩) 2 2,.slice none 0 0]) := ⟨_,rfl⟩
  rw [← hw1] at hE1 hz1 hl1 ht1 hr1
  rw [← hw1]
  clear hw1
  have hU1 : Upd (fun b => b = w.heap.size + 1 ∨ b = w.heap.size + 2) w1 w1 := Upd.refl _ _
  have hb1 := hE1.blk_some hb id
  repeat ((first | refine qA rfl ?_|apply qB|refine qC rfl ?_|apply qD|apply qE|apply qF|apply qG|apply qH);try simp (maxSteps:=1000000)(disch:=(first|omega|(simp only [qI,qJ,qK]<;>omega)|exact qL _)) only [go_sem,↓reduceIte,n0,reduceCtorEq,n1,n2,n3,n4,n5,i0,i1,i2,i3,i4,i5,i6,i7,hb1,hl1,ht1,hq0,hq1])
  refine W.drawR (.take 0 (.take 1 (.take 2 (.take 3 (.take 4 (.take 5 (.take 6 (.take 7 (.take 8 (.last 9)))))))))) (NoB) mixed (by kernel_rfl) ?_
  try simp (maxSteps:=1000000)(disch:=(first|omega|(simp only [qI,qJ,qK]<;>omega)|exact qL _)) only [go_sem,↓reduceIte,n0,reduceCtorEq,n1,n2,n3,n4,n5,i0,i1,i2,i3,i4,i5,i6,i7,hb1,hl1,ht1,hq0,hq1,hnn0]
  generalize hw2 : wr w1.drew (w.heap.size + 1) 2 [.bool (t.at 0).null] = w2
  have hl2 : blk w2 (w.heap.size + 1) = some (#[.int .i64 0,.slice none 0 0,.bool (t.at 0).null,.slice none 0 0,.slice none 0 0,.int .i64 0,.slice none 0 0,.bool false,.slice none 0 0,.slice none 0 0],35,(0,0)) := by rw [← hw2,blk_wr_eq,show blk w1.drew (w.heap.size + 1) = _ from hl1];rfl
  have hV2 : Upd (fun b => b = w.heap.size + 1 ∨ b = w.heap.size + 2) w1 w2 := by rw [← hw2];exact ((Upd.refl _ _).drew).wr _ _ (.inr (.inl rfl))
  have hU2 : Upd (fun b => b = w.heap.size + 1 ∨ b = w.heap.size + 2) w1 w2 := hU1.trans hV2
  have hz2 := hU2.size
  have hX2 : Ext w w2 := hE1.more hU2 fun b hb h => by omega
  have hb2 := hX2.blk_some hb id
  have ht2 : blk w2 (w.heap.size + 2) = some (#[.int .i64 0,.slice none 0 0,.bool false,.slice (some ⟨w.heap.size + 1,0,none⟩) 2 2,.slice none 0 0],35,(0,0)) := by
    rw [← hw2,blk_wr_ne (by omega)]
    exact ht1
  clear hw2
  repeat ((first | refine qA rfl ?_|apply qB|refine qC rfl ?_|apply qD|apply qE|apply qF|apply qG|apply qH);try simp (maxSteps:=1000000)(disch:=(first|omega|(simp only [qI,qJ,qK]<;>omega)|exact qL _)) only [go_sem,↓reduceIte,n0,reduceCtorEq,n1,n2,n3,n4,n5,i0,i1,i2,i3,i4,i5,i6,i7,hb2,hl2,ht2,hq0,hq1])
  refine W.exitJ 0 (EndQ [(0,.pointer (some ⟨b,0,none⟩)),(2,.pointer (some ⟨w.heap.size,0,none⟩)),(3,.pointer (some ⟨w.heap.size + 2,0,none⟩)),(20,.int .i64 L0.length)] (fun w' => ∃ v,blk w' (w.heap.size + 1) = some (#[.int .i64 0,.slice none 0 0,.bool (t.at 0).null,v,.slice none 0 0,.int .i64 0,.slice none 0 0,.bool false,.slice none 0 0,.slice none 0 0],35,(0,0)) ∧ GrowT (fun b => w1.heap.size ≤ b) w2.heap.size (w.heap.size + 1) w' 35 v (L0.map (tl1 (tlPF (d + 1)) fQ_0.of fQ_0.sub)) ∧ Upd (fun b => b = w.heap.size + 1) w2 w')) (W.loop (LoopL [(0,.pointer (some ⟨b,0,none⟩)),(2,.pointer (some ⟨w.heap.size,0,none⟩)),(3,.pointer (some ⟨w.heap.size + 2,0,none⟩)),(20,.int .i64 L0.length)] 21 (fun j w' => ∃ v,j ≤ L0.length ∧ blk w' (w.heap.size + 1) = some (#[.int .i64 0,.slice none 0 0,.bool (t.at 0).null,v,.slice none 0 0,.int .i64 0,.slice none 0 0,.bool false,.slice none 0 0,.slice none 0 0],35,(0,0)) ∧ GrowT (fun b => w1.heap.size ≤ b) w2.heap.size (w.heap.size + 1) w' 35 v ((L0.take j).map (tl1 (tlPF (d + 1)) fQ_0.of fQ_0.sub)) ∧ Upd (fun b => b = w.heap.size + 1) w2 w')) (fun ρ _ => L0.length - (RowKit.intOf (ρ 21)).toNat) ?_ ?_) ?_
  · exact ⟨(by simp (maxSteps:=1000000)(disch:=(first|omega|(simp only [qI,qJ,qK]<;>omega)|exact qL _)) only [go_sem,↓reduceIte,n0,reduceCtorEq,n1,n2,n3,n4,n5,i0,i1,i2,i3,i4,i5,i6,i7,Holds_nil,Holds_cons]),0,(by simp (maxSteps:=1000000)(disch:=(first|omega|(simp only [qI,qJ,qK]<;>omega)|exact qL _)) only [go_sem,↓reduceIte,n0,reduceCtorEq,n1,n2,n3,n4,n5,i0,i1,i2,i3,i4,i5,i6,i7];all_goals rfl),.slice none 0 0,Nat.zero_le _,hl2,GrowT.nil _ _ _ _ _,Upd.refl _ _⟩
  · rintro ρ w3 ⟨⟨hrc0_0,hrc0_2,hrc0_3,hrc0_20,-⟩,j,hri,v,hj,hl3,hg,hUk⟩
    have hzk := hUk.size
    have hX3 : Ext w w3 := hX2.more hUk fun b hb h => by omega
    have hz3 : w1.heap.size ≤ w3.heap.size := by have := hz2;omega
    have hb3 := hX3.blk_some hb id
    have ht3 := hUk.blk_some ht2 (by omega)
    by_cases hlt : j < L0.length
    · obtain ⟨_,be,oe,xe,ce,hbe,hoke,hxe,hble,hxs,hxx,hqe,hRe⟩ := SlR.get (size := 2) (by decide) hs0 hlt
      subst hbe
      have hcat : L0.take (j + 1) = L0.take j ++ [L0[j]] := List.take_succ_eq_append_getElem hlt
      have hgy := hgl0.2 _ (List.getElem_mem hlt)
      have hll := hgl0.1
      obtain ⟨av,kv,hvs,_⟩ := hg.shape
      have hlj : (List.map (tl1 (tlPF (d + 1)) fQ_0.of fQ_0.sub) (L0.take j)).length = j := by simp;omega
      rw [hlj] at hvs
      subst hvs
      have hnb : ∀ b,b < w2.heap.size ∨ w3.heap.size ≤ b → ¬ ownB (.slice av j kv) b := fun b hb h => by
        have := hg.above h
        have := hg.below h
        omega
      generalize L0[j] = y at *
      repeat ((first | refine qA rfl ?_|apply qB|refine qC rfl ?_|apply qD|apply qE|apply qF|apply qG|apply qH);try simp (maxSteps:=1000000)(disch:=(first|omega|(simp only [qI,qJ,qK]<;>omega)|exact qL _)) only [go_sem,↓reduceIte,n0,reduceCtorEq,n1,n2,n3,n4,n5,i0,i1,i2,i3,i4,i5,i6,i7,hb3,hl3,ht3,hq0,hq1,hrc0_0,hrc0_2,hrc0_3,hrc0_20,hri])
      refine W.drawR (.only 0 (.two 1 (.only 2 (.only 3 .done)) 2 (.only 1 (.only 3 .done)))) NoB mixed (by kernel_rfl) ?_
      try simp (maxSteps:=1000000)(disch:=(first|omega|(simp only [qI,qJ,qK]<;>omega)|exact qL _)) only [go_sem,↓reduceIte,n0,reduceCtorEq,n1,n2,n3,n4,n5,i0,i1,i2,i3,i4,i5,i6,i7,hb3,hl3,ht3,hq0,hq1,hrc0_0,hrc0_2,hrc0_3,hrc0_20,hri]
      have q0 : Upd NoB w3.drew (w3.alloc (.cells #[.bool false] 4)).drew := show Upd NoB w3.drew (w3.drew.alloc (.cells #[.bool false] 4)) from Upd.alloc (Upd.refl _ _) _
      have q1 : Upd NoB w3.drew (wr (w3.alloc (.cells #[.bool false] 4)).drew w3.heap.size 0 [.bool true]) := q0.wr _ _ (.inl (Nat.le_refl _))
      have q2 : Upd NoB w3.drew (wr (wr (w3.alloc (.cells #[.bool false] 4)).drew w3.heap.size 0 [.bool true]) w3.heap.size 0 [.bool false]) := q1.wr _ _ (.inl (Nat.le_refl _))
      have q3 : Upd NoB w3.drew (wr (w3.alloc (.cells #[.bool false] 4)).drew w3.heap.size 0 [.bool false]) := q0.wr _ _ (.inl (Nat.le_refl _))
      have q4 : Upd NoB w3.drew (wr (wr (w3.alloc (.cells #[.bool false] 4)).drew w3.heap.size 0 [.bool false]) w3.heap.size 0 [.bool true]) := q3.wr _ _ (.inl (Nat.le_refl _))
      refine ⟨q0,⟨q1,q2,q2,?_⟩,⟨q3,q4,q4,?_⟩⟩
      · have hk4 : Ext w3 (wr (wr (w3.alloc (.cells #[.bool false] 4)).drew w3.heap.size 0 [.bool true]) w3.heap.size 0 [.bool false]) := ((Upd.refl _ _).drew).trans q2
        generalize (wr (wr (w3.alloc (.cells #[.bool false] 4)).drew w3.heap.size 0 [.bool true]) w3.heap.size 0 [.bool false]) = w4 at *
        have hzk4 := hk4.size
        have hX4 : Ext w w4 := hX3.trans hk4
        have hb4 := hk4.blk_some hb3 id
        have hl4 := hk4.blk_some hl3 id
        have ht4 := hk4.blk_some ht3 id
        have hxe4 := hX4.blk_some hxe id
        repeat ((first | refine qA rfl ?_|apply qB|refine qC rfl ?_|apply qD|apply qE|apply qF|apply qG|apply qH);try simp (maxSteps:=1000000)(disch:=(first|omega|(simp only [qI,qJ,qK]<;>omega)|exact qL _)) only [go_sem,↓reduceIte,n0,reduceCtorEq,n1,n2,n3,n4,n5,i0,i1,i2,i3,i4,i5,i6,i7,hb4,hl4,ht4,hxe4,Int.toNat_natCast,Nat.mul_one,hq0,hq1,hrc0_0,hrc0_2,hrc0_3,hrc0_20,hri])
        refine W.drawR (.take 0 (.take 1 (.take 2 (.take 3 (.take 4 (.take 5 (.take 6 (.take 7 (.take 8 (.take 9 (.take 10 (.take 11 (.take 12 (.only 13 (.only 14 (.only 15 (.take 16 (.take 17 (.last 18))))))))))))))))))) (ownB (.slice av j kv)) mixed (by kernel_rfl) ?_
        try simp (maxSteps:=1000000)(disch:=(first|omega|(simp only [qI,qJ,qK]<;>omega)|exact qL _ | (refine hnb _ ?_;first | omega | (simp only [World.size_alloc,size_wr,size_drew] <;> omega)))) only [go_sem,↓reduceIte,n0,reduceCtorEq,n1,n2,n3,n4,n5,i0,i1,i2,i3,i4,i5,i6,i7,hb4,hl4,ht4,hxe4,Int.toNat_natCast,Nat.mul_one,hq0,hq1,hrc0_0,hrc0_2,hrc0_3,hrc0_20,hri]
        have hxq5 := (Upd.refl _ _ : Upd (ownB (.slice av j kv)) w4.drew w4.drew).blk_some (show blk w4.drew be = _ from hxe4) (hnb _ (.inl (by omega)))
        refine (tellX0_fn (d := d) (ok := ok) y ce w4.drew (b := be) (o := oe + j * 2) hxq5 (fun k hk => by have := hqe k hk;rw [← Nat.add_assoc] at this;exact this) ((RepS_lay false _ _).keep (Rep1_part.1 hRe) ((((hX4.drew).mono fun _ h => h.elim).trans (Upd.refl _ _) : Upd (ownB (.slice av j kv)) w w4.drew).keeps fun b hb _ => hnb b (.inl (by omega)))) (hgy.2.2 rfl)).mono ?_
        rintro _ w5 ⟨⟨c5,rfl,hc5⟩,hEx5⟩
        obtain ⟨T5,hT5⟩ : ∃ T,T = tlPF (d + 1) fs_X0 y := ⟨_,rfl⟩
        replace hc5 : TreeC (fun b => w4.drew.heap.size ≤ b) w5 T5 c5 := by rw [hT5];exact hc5
        obtain ⟨vS5,vL5,vU5,rfl,hn5,hS5,hLL5,hUU5⟩ := hc5.inv
        have k1_5 := hS5.flat
        have k2_5 := SlR.flat hLL5
        have k3_5 := SlR.flat hUU5
        have hP5 : Upd (ownB (.slice av j kv)) w4.drew w5 := (Upd.refl _ _).trans (hEx5.mono fun _ h => h.elim)
        have hsq5 := hEx5.size
        try simp only [size_drew] at hsq5
        refine ⟨hP5,?_⟩
        try simp (maxSteps:=1000000)(disch:=(first|omega|(simp only [qI,qJ,qK]<;>omega)|exact qL _ | (refine hnb _ ?_;first | omega | (simp only [World.size_alloc,size_wr,size_drew] <;> omega)))) only [go_sem,↓reduceIte,n0,reduceCtorEq,n1,n2,n3,n4,n5,i0,i1,i2,i3,i4,i5,i6,i7,hb4,hl4,ht4,hxe4,Int.toNat_natCast,Nat.mul_one,hq0,hq1,hrc0_0,hrc0_2,hrc0_3,hrc0_20,hri,k1_5,k2_5,k3_5]
        have hP6 : Upd (ownB (.slice av j kv)) w4.drew (w5.alloc (.cells #[.int .i64 T5.n,vS5,.bool T5.null,vL5,vU5] 35)) := show Upd (ownB (.slice av j kv)) w4.drew (w5.alloc (.cells #[.int .i64 T5.n,vS5,.bool T5.null,vL5,vU5] 35)) from (hP5).alloc _
        have hn6 : blk (w5.alloc (.cells #[.int .i64 T5.n,vS5,.bool T5.null,vL5,vU5] 35)) w5.heap.size = some (#[.int .i64 T5.n,vS5,.bool T5.null,vL5,vU5],35,(0,0)) := show blk (w5.alloc (.cells #[.int .i64 T5.n,vS5,.bool T5.null,vL5,vU5] 35)) w5.heap.size = some (#[.int .i64 T5.n,vS5,.bool T5.null,vL5,vU5],35,(0,0)) from blk_alloc_new rfl
        have hsq6 : (w5.alloc (.cells #[.int .i64 T5.n,vS5,.bool T5.null,vL5,vU5] 35)).heap.size = w5.heap.size + 1 := show (w5.alloc (.cells #[.int .i64 T5.n,vS5,.bool T5.null,vL5,vU5] 35)).heap.size = w5.heap.size + 1 from World.size_alloc _ _
        have hEx6 : Ext w5 (w5.alloc (.cells #[.int .i64 T5.n,vS5,.bool T5.null,vL5,vU5] 35)) := show Ext w5 (w5.alloc (.cells #[.int .i64 T5.n,vS5,.bool T5.null,vL5,vU5] 35)) from Upd.alloc (Upd.refl _ _) _
        refine ⟨hP6,?_⟩
        try simp only [List.append_nil]
        generalize (w5.alloc (.cells #[.int .i64 T5.n,vS5,.bool T5.null,vL5,vU5] 35)) = w6 at *
        try simp only [size_drew] at hsq6
        have hEw7 : Ext w3 w6 := ((hk4.drew.trans hEx5).trans hEx6)
        have hzw7 := hEw7.size
        obtain ⟨css,hown,hall⟩ := (hg.ext hEw7).ex
        have hcl := hall.1
        rw [hlj] at hcl
        have hx7 : TreeC (fun b => (fun b => w1.heap.size ≤ b) b ∧ b ≠ w.heap.size + 1 ∧ ¬ ownB (.slice av j kv) b) w6 ((tl1 (tlPF (d + 1)) fQ_0.of fQ_0.sub) y) [.int .i64 T5.n,vS5,.bool T5.null,vL5,vU5] := by
          rw [show (tl1 (tlPF (d + 1)) fQ_0.of fQ_0.sub) y = _ from hT5.symm]
          exact TreeC.weaken (fun b _ hk => ⟨by omega,by omega,hnb b (.inr (by omega))⟩) (TreeC.weaken (ok' := fun b => w3.heap.size ≤ b) (fun b _ hk => by have hk' : w4.drew.heap.size ≤ b := hk;(try simp only [size_drew] at hk');omega) (TreeC.keep (Ext.keeps hEx6 _) hc5))
        refine wp_append ap_32_32 (m := 1) (news := [.int .i64 T5.n,vS5,.bool T5.null,vL5,vU5]) (n := css.length) (cs := css.flatten) (v := (.slice av j kv)) ?_ rfl hown.1 (all2_flat_tree hall) (Src.blk (fr := (0,0)) (T := 35) hn6 rfl (by simp only [List.all_cons,List.all_nil,flat_int,flat_bool,k1_5,k2_5,k3_5,Bool.and_self])) ?_ ?_ ?_
        · first | rfl | simp (maxSteps:=1000000)(disch:=(first|omega|(simp only [qI,qJ,qK]<;>omega)|exact qL _)) only [go_sem,↓reduceIte,n0,reduceCtorEq,n1,n2,n3,n4,n5,i0,i1,i2,i3,i4,i5,i6,i7]
        · omega
        · omega
        intro v' w7 ho hu hfr
        have hP7 := (hP6 : Upd (ownB (.slice av j kv)) w4.drew w6).trans hu
        have hzq7 := hP7.size
        simp only [size_drew] at hzq7
        have hlq7 := hP7.blk_some (show blk w4.drew (w.heap.size + 1) = _ from hl4) (hnb _ (.inl (by omega)))
        have hg' := GrowT.snoc hown hall hx7 hu hfr ho
        obtain ⟨va,vc,hv',_⟩ := ho.shape
        subst hv'
        have hne : ¬ ownB (.slice va (css.length + 1) vc) (w.heap.size + 1) := fun h => (hfr _ h).elim (hnb _ (.inl (by omega))) (fun h => by omega)
        refine ⟨hP7,?_⟩
        try simp (maxSteps:=1000000)(disch:=(first|omega|(simp only [qI,qJ,qK]<;>omega)|exact qL _ | (refine hnb _ ?_;first | omega | (simp only [World.size_alloc,size_wr,size_drew] <;> omega)))) only [go_sem,↓reduceIte,n0,reduceCtorEq,n1,n2,n3,n4,n5,i0,i1,i2,i3,i4,i5,i6,i7,hlq7,Int.toNat_natCast,Nat.mul_one,hrc0_0,hrc0_2,hrc0_3,hrc0_20,hri]
        repeat ((first | refine qA rfl ?_|apply qB|refine qC rfl ?_|apply qD|apply qE|apply qF|apply qG|apply qH);try simp (maxSteps:=1000000)(disch:=(first|omega|(simp only [qI,qJ,qK]<;>omega)|exact qL _)) only [go_sem,↓reduceIte,n0,reduceCtorEq,n1,n2,n3,n4,n5,i0,i1,i2,i3,i4,i5,i6,i7,hlq7,Int.toNat_natCast,Nat.mul_one,hrc0_0,hrc0_2,hrc0_3,hrc0_20,hri])
        refine ⟨⟨(by simp (maxSteps:=1000000)(disch:=(first|omega|(simp only [qI,qJ,qK]<;>omega)|exact qL _)) only [go_sem,↓reduceIte,n0,reduceCtorEq,n1,n2,n3,n4,n5,i0,i1,i2,i3,i4,i5,i6,i7,Holds_nil,Holds_cons,hrc0_0,hrc0_2,hrc0_3,hrc0_20,hri]),j + 1,(by simp (maxSteps:=1000000)(disch:=(first|omega|(simp only [qI,qJ,qK]<;>omega)|exact qL _)) only [go_sem,↓reduceIte,n0,reduceCtorEq,n1,n2,n3,n4,n5,i0,i1,i2,i3,i4,i5,i6,i7,hrc0_0,hrc0_2,hrc0_3,hrc0_20,hri];all_goals rfl),.slice va (css.length + 1) vc,by omega,?_,?_,?_⟩,?_⟩
        · rw [blk_wr_eq,hlq7];rfl
        · rw [hcat,List.map_append];exact hg'.upd ((Upd.refl _ _).wr _ _ (.inr rfl)) hne
        · refine Upd.wr ?_ _ _ (.inr rfl)
          exact (hUk.more ((hEw7.mono fun _ h => h.elim).trans hu) fun b hb h => absurd h (hnb b (.inl hb)))
        · try simp (maxSteps:=1000000)(disch:=(first|omega|(simp only [qI,qJ,qK]<;>omega)|exact qL _)) only [go_sem,↓reduceIte,n0,reduceCtorEq,n1,n2,n3,n4,n5,i0,i1,i2,i3,i4,i5,i6,i7,hrc0_0,hrc0_2,hrc0_3,hrc0_20,hri]
          simp only [RowKit.intOf];omega
      · have hk8 : Ext w3 (wr (wr (w3.alloc (.cells #[.bool false] 4)).drew w3.heap.size 0 [.bool false]) w3.heap.size 0 [.bool true]) := ((Upd.refl _ _).drew).trans q4
        generalize (wr (wr (w3.alloc (.cells #[.bool false] 4)).drew w3.heap.size 0 [.bool false]) w3.heap.size 0 [.bool true]) = w8 at *
        have hzk8 := hk8.size
        have hX8 : Ext w w8 := hX3.trans hk8
        have hb8 := hk8.blk_some hb3 id
        have hl8 := hk8.blk_some hl3 id
        have ht8 := hk8.blk_some ht3 id
        have hxe8 := hX8.blk_some hxe id
        repeat ((first | refine qA rfl ?_|apply qB|refine qC rfl ?_|apply qD|apply qE|apply qF|apply qG|apply qH);try simp (maxSteps:=1000000)(disch:=(first|omega|(simp only [qI,qJ,qK]<;>omega)|exact qL _)) only [go_sem,↓reduceIte,n0,reduceCtorEq,n1,n2,n3,n4,n5,i0,i1,i2,i3,i4,i5,i6,i7,hb8,hl8,ht8,hxe8,Int.toNat_natCast,Nat.mul_one,hq0,hq1,hrc0_0,hrc0_2,hrc0_3,hrc0_20,hri])
        refine W.drawR (.take 0 (.take 1 (.take 2 (.take 3 (.take 4 (.take 5 (.take 6 (.take 7 (.take 8 (.take 9 (.take 10 (.take 12 (.two 11 (.only 13 (.only 14 (.take 15 (.take 16 (.last 17))))) 13 (.only 11 (.only 14 (.take 15 (.take 16 (.last 17)))))))))))))))))) (ownB (.slice av j kv)) mixed (by kernel_rfl) ?_
        try simp (maxSteps:=1000000)(disch:=(first|omega|(simp only [qI,qJ,qK]<;>omega)|exact qL _ | (refine hnb _ ?_;first | omega | (simp only [World.size_alloc,size_wr,size_drew] <;> omega)))) only [go_sem,↓reduceIte,n0,reduceCtorEq,n1,n2,n3,n4,n5,i0,i1,i2,i3,i4,i5,i6,i7,hb8,hl8,ht8,hxe8,Int.toNat_natCast,Nat.mul_one,hq0,hq1,hrc0_0,hrc0_2,hrc0_3,hrc0_20,hri]
        refine ⟨?_,?_⟩
        · skip
          have hxq9 := (Upd.refl _ _ : Upd (ownB (.slice av j kv)) w8.drew w8.drew).blk_some (show blk w8.drew be = _ from hxe8) (hnb _ (.inl (by omega)))
          refine (tellX0_fn (d := d) (ok := ok) y ce w8.drew (b := be) (o := oe + j * 2) hxq9 (fun k hk => by have := hqe k hk;rw [← Nat.add_assoc] at this;exact this) ((RepS_lay false _ _).keep (Rep1_part.1 hRe) ((((hX8.drew).mono fun _ h => h.elim).trans (Upd.refl _ _) : Upd (ownB (.slice av j kv)) w w8.drew).keeps fun b hb _ => hnb b (.inl (by omega)))) (hgy.2.2 rfl)).mono ?_
          rintro _ w9 ⟨⟨c9,rfl,hc9⟩,hEx9⟩
          obtain ⟨T9,hT9⟩ : ∃ T,T = tlPF (d + 1) fs_X0 y := ⟨_,rfl⟩
          replace hc9 : TreeC (fun b => w8.drew.heap.size ≤ b) w9 T9 c9 := by rw [hT9];exact hc9
          obtain ⟨vS9,vL9,vU9,rfl,hn9,hS9,hLL9,hUU9⟩ := hc9.inv
          have k1_9 := hS9.flat
          have k2_9 := SlR.flat hLL9
          have k3_9 := SlR.flat hUU9
          have hP9 : Upd (ownB (.slice av j kv)) w8.drew w9 := (Upd.refl _ _).trans (hEx9.mono fun _ h => h.elim)
          have hsq9 := hEx9.size
          try simp only [size_drew] at hsq9
          refine ⟨hP9,?_⟩
          try simp (maxSteps:=1000000)(disch:=(first|omega|(simp only [qI,qJ,qK]<;>omega)|exact qL _ | (refine hnb _ ?_;first | omega | (simp only [World.size_alloc,size_wr,size_drew] <;> omega)))) only [go_sem,↓reduceIte,n0,reduceCtorEq,n1,n2,n3,n4,n5,i0,i1,i2,i3,i4,i5,i6,i7,hb8,hl8,ht8,hxe8,Int.toNat_natCast,Nat.mul_one,hq0,hq1,hrc0_0,hrc0_2,hrc0_3,hrc0_20,hri,k1_9,k2_9,k3_9]
          have hP10 : Upd (ownB (.slice av j kv)) w8.drew (w9.alloc (.cells qZ5 35)) := show Upd (ownB (.slice av j kv)) w8.drew (w9.alloc (.cells qZ5 35)) from (hP9).alloc _
          have hn10 : blk (w9.alloc (.cells qZ5 35)) w9.heap.size = some (qZ5,35,(0,0)) := show blk (w9.alloc (.cells qZ5 35)) w9.heap.size = some (qZ5,35,(0,0)) from blk_alloc_new rfl
          have hsq10 : (w9.alloc (.cells qZ5 35)).heap.size = w9.heap.size + 1 := show (w9.alloc (.cells qZ5 35)).heap.size = w9.heap.size + 1 from World.size_alloc _ _
          have hEx10 : Ext w9 (w9.alloc (.cells qZ5 35)) := show Ext w9 (w9.alloc (.cells qZ5 35)) from Upd.alloc (Upd.refl _ _) _
          refine ⟨hP10,?_⟩
          try simp only [List.append_nil]
          generalize (w9.alloc (.cells qZ5 35)) = w10 at *
          try simp only [size_drew] at hsq10
          have hEw11 : Ext w3 w10 := ((hk8.drew.trans hEx9).trans hEx10)
          have hzw11 := hEw11.size
          obtain ⟨css,hown,hall⟩ := (hg.ext hEw11).ex
          have hcl := hall.1
          rw [hlj] at hcl
          have hx11 : TreeC (fun b => (fun b => w1.heap.size ≤ b) b ∧ b ≠ w.heap.size + 1 ∧ ¬ ownB (.slice av j kv) b) w10 ((tl1 (tlPF (d + 1)) fQ_0.of fQ_0.sub) y) [.int .i64 T9.n,vS9,.bool T9.null,vL9,vU9] := by
            rw [show (tl1 (tlPF (d + 1)) fQ_0.of fQ_0.sub) y = _ from hT9.symm]
            exact TreeC.weaken (fun b _ hk => ⟨by omega,by omega,hnb b (.inr (by omega))⟩) (TreeC.weaken (ok' := fun b => w3.heap.size ≤ b) (fun b _ hk => by have hk' : w8.drew.heap.size ≤ b := hk;(try simp only [size_drew] at hk');omega) (TreeC.keep (Ext.keeps hEx10 _) hc9))
          refine wp_append ap_32_32 (m := 1) (news := [.int .i64 0,.slice none 0 0,.bool false,.slice none 0 0,.slice none 0 0]) (n := css.length) (cs := css.flatten) (v := (.slice av j kv)) ?_ rfl hown.1 (all2_flat_tree hall) (Src.blk (fr := (0,0)) (T := 35) hn10 rfl rfl) ?_ ?_ ?_
          · first | rfl | simp (maxSteps:=1000000)(disch:=(first|omega|(simp only [qI,qJ,qK]<;>omega)|exact qL _)) only [go_sem,↓reduceIte,n0,reduceCtorEq,n1,n2,n3,n4,n5,i0,i1,i2,i3,i4,i5,i6,i7]
          · omega
          · omega
          intro v' w11 ho hu hfr
          have hP11 := (hP10 : Upd (ownB (.slice av j kv)) w8.drew w10).trans hu
          have hzq11 := hP11.size
          simp only [size_drew] at hzq11
          have hlq11 := hP11.blk_some (show blk w8.drew (w.heap.size + 1) = _ from hl8) (hnb _ (.inl (by omega)))
          rcases ho.2 with ⟨_,h⟩ | ⟨g,cap,rest,fr,hv',hg',hbg,hlen,hth,hle⟩
          · exact absurd h (Nat.succ_ne_zero _)
          subst hv'
          have hgne : ¬ g = w.heap.size + 1 := fun h => (hfr g ⟨_,_,_,rfl,rfl⟩).elim (fun h' => hnb _ (.inl (by omega)) (h ▸ h')) (fun h' => by omega)
          have hfl : css.flatten.length = css.length * 5 := flatten_len hown.2
          have hlen2 : (css.flatten ++ ([.int .i64 0,.slice none 0 0,.bool false,.slice none 0 0,.slice none 0 0] : List Value) ++ rest).length = cap * 5 := by simp only [List.length_append] at hlen ⊢;omega
          obtain ⟨XX,hXX⟩ : ∃ X : Array Value,X = (css.flatten ++ ([.int .i64 0,.slice none 0 0,.bool false,.slice none 0 0,.slice none 0 0] : List Value) ++ rest).toArray := ⟨_,rfl⟩
          have hbgX : blk w11 g = some (XX,35,fr) := by rw [hXX];exact hbg
          have hXsz : XX.size = cap * 5 := by rw [hXX,List.size_toArray];exact hlen2
          have hth2 : thaw fr (css.length * 5) 5 = true := thaw_of hth (by omega)
          have hst : css.length * 5 + 5 ≤ XX.size := by omega
          have hset := Own.setlast (cs := [.int .i64 T9.n,vS9,.bool T9.null,vL9,vU9]) ho rfl rfl
          have hu2 : Upd (ownB (.slice av j kv)) w10 (wr w11 g (css.length * 5) [.int .i64 T9.n,vS9,.bool T9.null,vL9,vU9]) := hu.wr _ _ ((hfr g ⟨_,_,_,rfl,rfl⟩).symm)
          have hg2 := GrowT.snoc hown hall hx11 hu2 hfr hset
          have hcj : css.length = j := by first | exact hcl.symm.trans hlj | omega
          simp only [hcj] at hth2 hst hset hu2 hg2
          refine ⟨hP11,?_⟩
          try simp (maxSteps:=1000000)(disch:=(first|omega|(simp only [qI,qJ,qK]<;>omega)|exact qL _ | (refine hnb _ ?_;first | omega | (simp only [World.size_alloc,size_wr,size_drew] <;> omega)))) only [go_sem,↓reduceIte,n0,reduceCtorEq,n1,n2,n3,n4,n5,i0,i1,i2,i3,i4,i5,i6,i7,hlq11,hbgX,hth2,hst,hcj,Int.toNat_natCast,Nat.mul_one,k1_9,k2_9,k3_9,hrc0_0,hrc0_2,hrc0_3,hrc0_20,hri]
          repeat ((first | refine qA rfl ?_|apply qB|refine qC rfl ?_|apply qD|apply qE|apply qF|apply qG|apply qH);try simp (maxSteps:=1000000)(disch:=(first|omega|(simp only [qI,qJ,qK]<;>omega)|exact qL _)) only [go_sem,↓reduceIte,n0,reduceCtorEq,n1,n2,n3,n4,n5,i0,i1,i2,i3,i4,i5,i6,i7,hlq11,hbgX,hth2,hst,hcj,Int.toNat_natCast,Nat.mul_one,k1_9,k2_9,k3_9,hrc0_0,hrc0_2,hrc0_3,hrc0_20,hri])
          refine ⟨⟨(by simp (maxSteps:=1000000)(disch:=(first|omega|(simp only [qI,qJ,qK]<;>omega)|exact qL _)) only [go_sem,↓reduceIte,n0,reduceCtorEq,n1,n2,n3,n4,n5,i0,i1,i2,i3,i4,i5,i6,i7,Holds_nil,Holds_cons,hrc0_0,hrc0_2,hrc0_3,hrc0_20,hri]),j + 1,(by simp (maxSteps:=1000000)(disch:=(first|omega|(simp only [qI,qJ,qK]<;>omega)|exact qL _)) only [go_sem,↓reduceIte,n0,reduceCtorEq,n1,n2,n3,n4,n5,i0,i1,i2,i3,i4,i5,i6,i7,hrc0_0,hrc0_2,hrc0_3,hrc0_20,hri];all_goals rfl),.slice (some ⟨g,0,none⟩) (j + 1) cap,by omega,?_,?_,?_⟩,?_⟩
          · rw [blk_wr_ne (by omega),blk_wr_eq,hlq11];rfl
          · rw [hcat,List.map_append,wr_comm (Ne.symm hgne)]
            exact hg2.upd ((Upd.refl _ _).wr _ _ (.inr rfl)) (fun h => hgne (ownB_row h).symm)
          · rw [wr_comm (Ne.symm hgne)]
            refine Upd.wr ?_ _ _ (.inr rfl)
            exact (hUk.more ((hEw11.mono fun _ h => h.elim).trans hu2) fun b hb h => absurd h (hnb b (.inl hb)))
          · try simp (maxSteps:=1000000)(disch:=(first|omega|(simp only [qI,qJ,qK]<;>omega)|exact qL _)) only [go_sem,↓reduceIte,n0,reduceCtorEq,n1,n2,n3,n4,n5,i0,i1,i2,i3,i4,i5,i6,i7,hrc0_0,hrc0_2,hrc0_3,hrc0_20,hri]
            simp only [RowKit.intOf];omega
        · skip
          have hP12 : Upd (ownB (.slice av j kv)) w8.drew (w8.alloc (.cells qZ5 35)).drew := show Upd (ownB (.slice av j kv)) w8.drew (w8.drew.alloc (.cells qZ5 35)) from (Upd.refl _ _).alloc _
          have hn12 : blk (w8.alloc (.cells qZ5 35)).drew w8.drew.heap.size = some (qZ5,35,(0,0)) := show blk (w8.drew.alloc (.cells qZ5 35)) w8.drew.heap.size = some (qZ5,35,(0,0)) from blk_alloc_new rfl
          have hsq12 : (w8.alloc (.cells qZ5 35)).drew.heap.size = w8.drew.heap.size + 1 := show (w8.drew.alloc (.cells qZ5 35)).heap.size = w8.drew.heap.size + 1 from World.size_alloc _ _
          have hEx12 : Ext w8.drew (w8.alloc (.cells qZ5 35)).drew := show Ext w8.drew (w8.drew.alloc (.cells qZ5 35)) from Upd.alloc (Upd.refl _ _) _
          refine ⟨hP12,?_⟩
          try simp only [List.append_nil]
          generalize (w8.alloc (.cells qZ5 35)).drew = w12 at *
          try simp only [size_drew] at hsq12
          have hxq13 := (hP12 : Upd (ownB (.slice av j kv)) w8.drew w12).blk_some (show blk w8.drew be = _ from hxe8) (hnb _ (.inl (by omega)))
          refine (tellX0_fn (d := d) (ok := ok) y ce w12 (b := be) (o := oe + j * 2) hxq13 (fun k hk => by have := hqe k hk;rw [← Nat.add_assoc] at this;exact this) ((RepS_lay false _ _).keep (Rep1_part.1 hRe) ((((hX8.drew).mono fun _ h => h.elim).trans (hP12) : Upd (ownB (.slice av j kv)) w w12).keeps fun b hb _ => hnb b (.inl (by omega)))) (hgy.2.2 rfl)).mono ?_
          rintro _ w13 ⟨⟨c13,rfl,hc13⟩,hEx13⟩
          obtain ⟨T13,hT13⟩ : ∃ T,T = tlPF (d + 1) fs_X0 y := ⟨_,rfl⟩
          replace hc13 : TreeC (fun b => w12.heap.size ≤ b) w13 T13 c13 := by rw [hT13];exact hc13
          obtain ⟨vS13,vL13,vU13,rfl,hn13,hS13,hLL13,hUU13⟩ := hc13.inv
          have k1_13 := hS13.flat
          have k2_13 := SlR.flat hLL13
          have k3_13 := SlR.flat hUU13
          have hP13 : Upd (ownB (.slice av j kv)) w8.drew w13 := (hP12).trans (hEx13.mono fun _ h => h.elim)
          have hsq13 := hEx13.size
          try simp only [size_drew] at hsq13
          refine ⟨hP13,?_⟩
          try simp (maxSteps:=1000000)(disch:=(first|omega|(simp only [qI,qJ,qK]<;>omega)|exact qL _ | (refine hnb _ ?_;first | omega | (simp only [World.size_alloc,size_wr,size_drew] <;> omega)))) only [go_sem,↓reduceIte,n0,reduceCtorEq,n1,n2,n3,n4,n5,i0,i1,i2,i3,i4,i5,i6,i7,hb8,hl8,ht8,hxe8,Int.toNat_natCast,Nat.mul_one,hq0,hq1,hrc0_0,hrc0_2,hrc0_3,hrc0_20,hri,k1_13,k2_13,k3_13]
          have hEw14 : Ext w3 w13 := ((hk8.drew.trans hEx12).trans hEx13)
          have hzw14 := hEw14.size
          obtain ⟨css,hown,hall⟩ := (hg.ext hEw14).ex
          have hcl := hall.1
          rw [hlj] at hcl
          have hx14 : TreeC (fun b => (fun b => w1.heap.size ≤ b) b ∧ b ≠ w.heap.size + 1 ∧ ¬ ownB (.slice av j kv) b) w13 ((tl1 (tlPF (d + 1)) fQ_0.of fQ_0.sub) y) [.int .i64 T13.n,vS13,.bool T13.null,vL13,vU13] := by
            rw [show (tl1 (tlPF (d + 1)) fQ_0.of fQ_0.sub) y = _ from hT13.symm]
            exact TreeC.weaken (fun b _ hk => ⟨by omega,by omega,hnb b (.inr (by omega))⟩) (TreeC.weaken (ok' := fun b => w3.heap.size ≤ b) (fun b _ hk => by have hk' : w12.heap.size ≤ b := hk;(try simp only [size_drew] at hk');omega) hc13)
          refine wp_append ap_32_32 (m := 1) (news := [.int .i64 0,.slice none 0 0,.bool false,.slice none 0 0,.slice none 0 0]) (n := css.length) (cs := css.flatten) (v := (.slice av j kv)) ?_ rfl hown.1 (all2_flat_tree hall) (Src.blk (fr := (0,0)) (T := 35) (hEx13.blk_some hn12 id) rfl rfl) ?_ ?_ ?_
          · first | rfl | simp (maxSteps:=1000000)(disch:=(first|omega|(simp only [qI,qJ,qK]<;>omega)|exact qL _)) only [go_sem,↓reduceIte,n0,reduceCtorEq,n1,n2,n3,n4,n5,i0,i1,i2,i3,i4,i5,i6,i7]
          · omega
          · omega
          intro v' w14 ho hu hfr
          have hP14 := (hP13 : Upd (ownB (.slice av j kv)) w8.drew w13).trans hu
          have hzq14 := hP14.size
          simp only [size_drew] at hzq14
          have hlq14 := hP14.blk_some (show blk w8.drew (w.heap.size + 1) = _ from hl8) (hnb _ (.inl (by omega)))
          rcases ho.2 with ⟨_,h⟩ | ⟨g,cap,rest,fr,hv',hg',hbg,hlen,hth,hle⟩
          · exact absurd h (Nat.succ_ne_zero _)
          subst hv'
          have hgne : ¬ g = w.heap.size + 1 := fun h => (hfr g ⟨_,_,_,rfl,rfl⟩).elim (fun h' => hnb _ (.inl (by omega)) (h ▸ h')) (fun h' => by omega)
          have hfl : css.flatten.length = css.length * 5 := flatten_len hown.2
          have hlen2 : (css.flatten ++ ([.int .i64 0,.slice none 0 0,.bool false,.slice none 0 0,.slice none 0 0] : List Value) ++ rest).length = cap * 5 := by simp only [List.length_append] at hlen ⊢;omega
          obtain ⟨XX,hXX⟩ : ∃ X : Array Value,X = (css.flatten ++ ([.int .i64 0,.slice none 0 0,.bool false,.slice none 0 0,.slice none 0 0] : List Value) ++ rest).toArray := ⟨_,rfl⟩
          have hbgX : blk w14 g = some (XX,35,fr) := by rw [hXX];exact hbg
          have hXsz : XX.size = cap * 5 := by rw [hXX,List.size_toArray];exact hlen2
          have hth2 : thaw fr (css.length * 5) 5 = true := thaw_of hth (by omega)
          have hst : css.length * 5 + 5 ≤ XX.size := by omega
          have hset := Own.setlast (cs := [.int .i64 T13.n,vS13,.bool T13.null,vL13,vU13]) ho rfl rfl
          have hu2 : Upd (ownB (.slice av j kv)) w13 (wr w14 g (css.length * 5) [.int .i64 T13.n,vS13,.bool T13.null,vL13,vU13]) := hu.wr _ _ ((hfr g ⟨_,_,_,rfl,rfl⟩).symm)
          have hg2 := GrowT.snoc hown hall hx14 hu2 hfr hset
          have hcj : css.length = j := by first | exact hcl.symm.trans hlj | omega
          simp only [hcj] at hth2 hst hset hu2 hg2
          refine ⟨hP14,?_⟩
          try simp (maxSteps:=1000000)(disch:=(first|omega|(simp only [qI,qJ,qK]<;>omega)|exact qL _ | (refine hnb _ ?_;first | omega | (simp only [World.size_alloc,size_wr,size_drew] <;> omega)))) only [go_sem,↓reduceIte,n0,reduceCtorEq,n1,n2,n3,n4,n5,i0,i1,i2,i3,i4,i5,i6,i7,hlq14,hbgX,hth2,hst,hcj,Int.toNat_natCast,Nat.mul_one,k1_13,k2_13,k3_13,hrc0_0,hrc0_2,hrc0_3,hrc0_20,hri]
          repeat ((first | refine qA rfl ?_|apply qB|refine qC rfl ?_|apply qD|apply qE|apply qF|apply qG|apply qH);try simp (maxSteps:=1000000)(disch:=(first|omega|(simp only [qI,qJ,qK]<;>omega)|exact qL _)) only [go_sem,↓reduceIte,n0,reduceCtorEq,n1,n2,n3,n4,n5,i0,i1,i2,i3,i4,i5,i6,i7,hlq14,hbgX,hth2,hst,hcj,Int.toNat_natCast,Nat.mul_one,k1_13,k2_13,k3_13,hrc0_0,hrc0_2,hrc0_3,hrc0_20,hri])
          refine ⟨⟨(by simp (maxSteps:=1000000)(disch:=(first|omega|(simp only [qI,qJ,qK]<;>omega)|exact qL _)) only [go_sem,↓reduceIte,n0,reduceCtorEq,n1,n2,n3,n4,n5,i0,i1,i2,i3,i4,i5,i6,i7,Holds_nil,Holds_cons,hrc0_0,hrc0_2,hrc0_3,hrc0_20,hri]),j + 1,(by simp (maxSteps:=1000000)(disch:=(first|omega|(simp only [qI,qJ,qK]<;>omega)|exact qL _)) only [go_sem,↓reduceIte,n0,reduceCtorEq,n1,n2,n3,n4,n5,i0,i1,i2,i3,i4,i5,i6,i7,hrc0_0,hrc0_2,hrc0_3,hrc0_20,hri];all_goals rfl),.slice (some ⟨g,0,none⟩) (j + 1) cap,by omega,?_,?_,?_⟩,?_⟩
          · rw [blk_wr_ne (by omega),blk_wr_eq,hlq14];rfl
          · rw [hcat,List.map_append,wr_comm (Ne.symm hgne)]
            exact hg2.upd ((Upd.refl _ _).wr _ _ (.inr rfl)) (fun h => hgne (ownB_row h).symm)
          · rw [wr_comm (Ne.symm hgne)]
            refine Upd.wr ?_ _ _ (.inr rfl)
            exact (hUk.more ((hEw14.mono fun _ h => h.elim).trans hu2) fun b hb h => absurd h (hnb b (.inl hb)))
          · try simp (maxSteps:=1000000)(disch:=(first|omega|(simp only [qI,qJ,qK]<;>omega)|exact qL _)) only [go_sem,↓reduceIte,n0,reduceCtorEq,n1,n2,n3,n4,n5,i0,i1,i2,i3,i4,i5,i6,i7,hrc0_0,hrc0_2,hrc0_3,hrc0_20,hri]
            simp only [RowKit.intOf];omega
    · have hjn : j = L0.length := by omega
      subst hjn
      rw [List.take_length] at hg
      repeat ((first | refine qA rfl ?_|apply qB|refine qC rfl ?_|apply qD|apply qE|apply qF|apply qG|apply qH);try simp (maxSteps:=1000000)(disch:=(first|omega|(simp only [qI,qJ,qK]<;>omega)|exact qL _)) only [go_sem,↓reduceIte,n0,reduceCtorEq,n1,n2,n3,n4,n5,i0,i1,i2,i3,i4,i5,i6,i7,hrc0_0,hrc0_2,hrc0_3,hrc0_20,hri])
      exact ⟨(by simp (maxSteps:=1000000)(disch:=(first|omega|(simp only [qI,qJ,qK]<;>omega)|exact qL _)) only [go_sem,↓reduceIte,n0,reduceCtorEq,n1,n2,n3,n4,n5,i0,i1,i2,i3,i4,i5,i6,i7,Holds_nil,Holds_cons,hrc0_0,hrc0_2,hrc0_3,hrc0_20,hri]),v,hl3,hg,hUk⟩
  rintro ρ w15 ⟨⟨hrd0_0,hrd0_2,hrd0_3,hrd0_20,-⟩,v,hl15,hg15,hUz15⟩
  have hV15 : Upd (fun b => b = w.heap.size + 1 ∨ b = w.heap.size + 2) w2 w15 := hUz15.mono fun _ h => .inl h
  have hU15 : Upd (fun b => b = w.heap.size + 1 ∨ b = w.heap.size + 2) w1 w15 := hU2.trans hV15
  have hz15 := hU15.size
  have hX15 : Ext w w15 := hE1.more hU15 fun b hb h => by omega
  have hb15 := hX15.blk_some hb id
  have ht15 := hUz15.blk_some ht2 (by omega)
  obtain ⟨av0,kv0,hvs,_⟩ := hg15.shape
  subst hvs
  have hf0 : TreeC (fun b => w1.heap.size ≤ b) w15 (.mk 0 [] (t.at 0).null (L0.map (tl1 (tlPF (d + 1)) fQ_0.of fQ_0.sub)) []) [.int .i64 0,.slice none 0 0,.bool (t.at 0).null,.slice av0 (List.map (tl1 (tlPF (d + 1)) fQ_0.of fQ_0.sub) L0).length kv0,.slice none 0 0] := TreeC.intro rfl (BytesV.nil _ _) (hg15.trees (fun _ _ h => h) (fun b hb => by have := hz2;omega)) (tagsN _ _)
  repeat ((first | refine qA rfl ?_|apply qB|refine qC rfl ?_|apply qD|apply qE|apply qF|apply qG|apply qH);try simp (maxSteps:=1000000)(disch:=(first|omega|(simp only [qI,qJ,qK]<;>omega)|exact qL _)) only [go_sem,↓reduceIte,n0,reduceCtorEq,n1,n2,n3,n4,n5,i0,i1,i2,i3,i4,i5,i6,i7,hb15,hl15,ht15,hq0,hq1,hrd0_0,hrd0_2,hrd0_3])
  refine W.drawR (.take 0 (.take 1 (.take 2 (.take 3 (.take 4 (.take 5 (.only 6 (.take 7 (.last 8))))))))) (NoB) mixed (by kernel_rfl) ?_
  try simp (maxSteps:=1000000)(disch:=(first|omega|(simp only [qI,qJ,qK]<;>omega)|exact qL _)) only [go_sem,↓reduceIte,n0,reduceCtorEq,n1,n2,n3,n4,n5,i0,i1,i2,i3,i4,i5,i6,i7,hb15,hl15,ht15,hq0,hq1,hrd0_0,hrd0_2,hrd0_3]
  refine (octetsTree_fn (ok := ok) _ (t.at 1).null (t.at 1).s w15.drew (hp1.keep (Ext.keeps (hX15.drew) _)) (by have := (gd1.one (by decide)).2.1;omega)).mono ?_
  rintro _ w16 ⟨⟨vS16,rfl,hB16⟩,hEx16⟩
  have hfl16 := hB16.flat
  have hP16 : Upd NoB w15.drew w16 := (Upd.refl _ _).trans (hEx16.mono fun _ h => h.elim)
  have hsq16 := hEx16.size
  try simp only [size_drew] at hsq16
  refine ⟨hP16,?_⟩
  try simp (maxSteps:=1000000)(disch:=(first|omega|(simp only [qI,qJ,qK]<;>omega)|exact qL _)) only [go_sem,↓reduceIte,n0,reduceCtorEq,n1,n2,n3,n4,n5,i0,i1,i2,i3,i4,i5,i6,i7,hb15,hl15,ht15,hq0,hq1,hrd0_0,hrd0_2,hrd0_3,hfl16]
  have hlq17 := hP16.blk_some (show blk w15.drew (w.heap.size + 1) = _ from hl15) id
  have hx17 : Upd (fun b => b = w.heap.size + 1 ∨ b = w.heap.size + 2) w15 w16 := ((Upd.refl _ _).drew).trans (hP16.mono fun _ h => h.elim)
  try simp (maxSteps:=1000000)(disch:=(first|omega|(simp only [qI,qJ,qK]<;>omega)|exact qL _)) only [go_sem,↓reduceIte,n0,reduceCtorEq,n1,n2,n3,n4,n5,i0,i1,i2,i3,i4,i5,i6,i7,hlq17]
  generalize hw17 : wr w16 (w.heap.size + 1) 5 [.int .i64 0,vS16,.bool (t.at 1).null,.slice none 0 0,.slice none 0 0] = w17
  have hl17 : blk w17 (w.heap.size + 1) = some (#[.int .i64 0,.slice none 0 0,.bool (t.at 0).null,.slice av0 (List.map (tl1 (tlPF (d + 1)) fQ_0.of fQ_0.sub) L0).length kv0,.slice none 0 0,.int .i64 0,vS16,.bool (t.at 1).null,.slice none 0 0,.slice none 0 0],35,(0,0)) := by rw [← hw17,blk_wr_eq,hlq17];rfl
  have hv17 : Upd (fun b => b = w.heap.size + 1 ∨ b = w.heap.size + 2) w16 w17 := by rw [← hw17];exact (Upd.refl _ _).wr _ _ (.inr (.inl rfl))
  have hV17 : Upd (fun b => b = w.heap.size + 1 ∨ b = w.heap.size + 2) w15 w17 := hx17.trans hv17
  have hU17 : Upd (fun b => b = w.heap.size + 1 ∨ b = w.heap.size + 2) w1 w17 := hU15.trans hV17
  have hz17 := hU17.size
  have hX17 : Ext w w17 := hE1.more hU17 fun b hb h => by omega
  have hb17 := hX17.blk_some hb id
  have ht17 : blk w17 (w.heap.size + 2) = some (#[.int .i64 0,.slice none 0 0,.bool false,.slice (some ⟨w.heap.size + 1,0,none⟩) 2 2,.slice none 0 0],35,(0,0)) := by
    rw [← hw17,blk_wr_ne (by omega)]
    exact hP16.blk_some (show blk w15.drew (w.heap.size + 2) = _ from ht15) id
  clear hw17
  have hf1 : TreeC (fun b => w1.heap.size ≤ b) w17 (.oct (t.at 1).null (if (t.at 1).null = true then [] else (t.at 1).s)) [.int .i64 0,vS16,.bool (t.at 1).null,.slice none 0 0,.slice none 0 0] := (TreeC.keep (hv17.keeps fun b hb hk e => by have hk' : w1.heap.size ≤ b := hk;omega) (TreeC.intro rfl (hB16.weaken fun b _ hk => by have hk' : w15.drew.heap.size ≤ b := hk;(try simp only [size_drew] at hk');omega) (treesN _ _) (tagsN _ _) : TreeC (fun b => w1.heap.size ≤ b) w16 (.oct (t.at 1).null (if (t.at 1).null = true then [] else (t.at 1).s)) [.int .i64 0,vS16,.bool (t.at 1).null,.slice none 0 0,.slice none 0 0]))
  have hr17 := hU17.blk_some hr1 (by omega)
  have hC_17 : Upd (fun b => b = w.heap.size + 1 ∨ b = w.heap.size + 2) w17 w17 := Upd.refl _ _
  have hC_15 : Upd (fun b => b = w.heap.size + 1 ∨ b = w.heap.size + 2) w15 w17 := hV17.trans hC_17
  have hC_2 : Upd (fun b => b = w.heap.size + 1 ∨ b = w.heap.size + 2) w2 w17 := hV15.trans hC_15
  have hC_1 : Upd (fun b => b = w.heap.size + 1 ∨ b = w.heap.size + 2) w1 w17 := hV2.trans hC_2
  have hF0 := TreeC.keep (hC_15.keeps fun b hb hk e => by have hk' : w1.heap.size ≤ b := hk;omega) hf0
  have hF1 := TreeC.keep (hC_17.keeps fun b hb hk e => by have hk' : w1.heap.size ≤ b := hk;omega) hf1
  replace hF0 : TreeC (fun b => w1.heap.size ≤ b) w17 (tlF (tlPF (d + 1)) fQ_0 (t.at 0)) [.int .i64 0,.slice none 0 0,.bool (t.at 0).null,.slice av0 (List.map (tl1 (tlPF (d + 1)) fQ_0.of fQ_0.sub) L0).length kv0,.slice none 0 0] := by rw [show tlF (tlPF (d + 1)) fQ_0 (t.at 0) = .mk 0 [] (t.at 0).null ((if (t.at 0).null = true then [] else (t.at 0).l).map (tl1 (tlPF (d + 1)) fQ_0.of fQ_0.sub)) [] from rfl,← hL0];exact hF0
  replace hF1 : TreeC (fun b => w1.heap.size ≤ b) w17 (tlF (tlPF (d + 1)) frQ_1 (t.at 1)) [.int .i64 0,vS16,.bool (t.at 1).null,.slice none 0 0,.slice none 0 0] := hF1
  have hTL : TreesV (fun b => (fun b => w1.heap.size ≤ b) b ∨ b = w.heap.size + 1) w17 (.slice (some ⟨w.heap.size + 1,0,none⟩) 2 2) [tlF (tlPF (d + 1)) fQ_0 (t.at 0),tlF (tlPF (d + 1)) frQ_1 (t.at 1)] := by
    refine ⟨[[.int .i64 0,.slice none 0 0,.bool (t.at 0).null,.slice av0 (List.map (tl1 (tlPF (d + 1)) fQ_0.of fQ_0.sub) L0).length kv0,.slice none 0 0],[.int .i64 0,vS16,.bool (t.at 1).null,.slice none 0 0,.slice none 0 0]],⟨_,2,rfl,Nat.le_refl _,(by intro cs hm;simp only [List.mem_cons,List.not_mem_nil,or_false] at hm;rcases hm with rfl | rfl <;> rfl),.inr ⟨_,rfl,rfl,.inr rfl,_,hl17,fun i hi => by rw [Nat.zero_add,List.getElem?_toArray];rfl⟩⟩,rfl,fun i h1 h2 => ?_⟩
    match i,h1 with
    | 0,_ => exact TreeC.weaken (fun b _ hk => .inl hk) hF0
    | 1,_ => exact TreeC.weaken (fun b _ hk => .inl hk) hF1
  repeat ((first | refine qA rfl ?_|apply qB|refine qC rfl ?_|apply qD|apply qE|apply qF|apply qG|apply qH);try simp (maxSteps:=1000000)(disch:=(first|omega|(simp only [qI,qJ,qK]<;>omega)|exact qL _)) only [go_sem,↓reduceIte,n0,reduceCtorEq,n1,n2,n3,n4,n5,i0,i1,i2,i3,i4,i5,i6,i7,hb17,hl17,ht17,hq0,hq1,hrd0_0,hrd0_2,hrd0_3,hr17,cellsAt_five])
  refine ⟨⟨_,rfl,?_⟩,hX17.wr _ _ (.inl (Nat.le_refl _))⟩
  have hUr : Upd (fun b => b = w.heap.size) w17 (wr w17 w.heap.size 0 [.int .i64 0,.slice none 0 0,.bool false,.slice (some ⟨w.heap.size + 1,0,none⟩) 2 2,.slice none 0 0]) := (Upd.refl _ _).wr _ _ (.inr rfl)
  exact TreeC.intro rfl (BytesV.nil _ _) ((hTL.keep (hUr.keeps fun b _ hk e => by rcases hk with hk | hk <;> omega)).weaken fun b _ hk => by rcases hk with hk | hk <;> omega) (tagsN _ _)

set_option maxHeartbeats 2000000 in
theorem TellDQ_fn {d : Nat} {ok : Blocks} {ev : Value} (b : Value) (s : List UInt8) (w : World) (hb : BytesV ok w b s) (hG : Glo ev w) (hev : ∃ T p,ev = .iface T p) (hs : s.length ≤ 2 ^ 40) (vc : Int) (hvc : vc = (rdInt .i16 2 (some s)).1) (fin : Tree × St) (hfin : fin = rdP (d + 2) (verN vc) (flexB (-1) (verN vc)) fsr_Q (rdInt .i16 2 (some s)).2) (hgood : GoodP (d + 2) fsr_Q fin.1) :
    Fn Tryd.prog 6 #[b] w fun r w' => (∃ c T,r = .tuple #[.agg c.toArray,.bool fin.2.isSome] ∧ TreeC AnyB w' T c ∧ (fin.2.isSome = true → T = (tlPF (d + 2) fsr_Q fin.1).setN vc)) ∧ Ext w w' := by
  obtain ⟨ba,bc,rfl,_⟩ := hb.shape
  have hgl := hG.lt
  have hvr := rdI16_rng (some s)
  rw [← hvc] at hvr
  have ew : IntKind.i64.wrap vc = vc := i64_wrap (by omega)
  have hE0 : Ext w (w.alloc (.cells qZ5 35)) := Upd.alloc (Upd.refl _ _) _
  have hz0 : (w.alloc (.cells qZ5 35)).heap.size = w.heap.size + 1 := World.size_alloc _ _
  have hr0 : blk (w.alloc (.cells qZ5 35)) w.heap.size = some (qZ5,35,(0,0)) := blk_alloc_new rfl
  refine fn_of_W Tryd.func6 rfl Tryd.results6 Tryd.ntmps6 rfl ?_
  repeat ((first | refine qA rfl ?_|apply qB|refine qC rfl ?_|apply qD|apply qE|apply qF|apply qG|apply qH);try simp (maxSteps:=1000000)(disch:=(first|omega|(simp only [qI,qJ,qK]<;>omega)|exact qL _)) only [go_sem,↓reduceIte,n0,reduceCtorEq,n1,n2,n3,n4,n5,i0,i1,i2,i3,i4,i5,i6,i7])
  generalize (w.alloc (.cells qZ5 35)) = w0 at *
  refine (NewQ_fn w0).mono ?_
  rintro _ w1 ⟨rfl,hE1⟩
  have hz1 := hE1.size
  have hE12 : Ext w1 (wr (w1.alloc (.cells #[.int .i16 0,.slice none 0 0,.slice none 0 0] 50)) w1.heap.size 0 [.int .i16 0,.slice none 0 0,.slice none 0 0]) := (Upd.alloc (Upd.refl _ _) _).wr _ _ (.inl (Nat.le_refl _))
  have hb2 : blk (wr (w1.alloc (.cells #[.int .i16 0,.slice none 0 0,.slice none 0 0] 50)) w1.heap.size 0 [.int .i16 0,.slice none 0 0,.slice none 0 0]) w1.heap.size = some (#[.int .i16 0,.slice none 0 0,.slice none 0 0],50,(0,0)) := by simp (maxSteps:=1000000)(disch:=(first|omega|(simp only [qI,qJ,qK]<;>omega)|exact qL _)) only [go_sem,↓reduceIte,n0,reduceCtorEq,n1,n2,n3,n4,n5,i0,i1,i2,i3,i4,i5,i6,i7]
  repeat (first|simp (maxSteps:=1000000)(disch:=(first|omega|(simp only [qI,qJ,qK]<;>omega)|exact qL _)) only [go_sem,↓reduceIte,n0,reduceCtorEq,n1,n2,n3,n4,n5,i0,i1,i2,i3,i4,i5,i6,i7]|refine qA rfl ?_|apply qB|refine qC rfl ?_|apply qD|apply qE|apply qF|apply qG|apply qH)
  generalize (wr (w1.alloc (.cells #[.int .i16 0,.slice none 0 0,.slice none 0 0] 50)) w1.heap.size 0 [.int .i16 0,.slice none 0 0,.slice none 0 0]) = w2 at *
  have hz2 := blk_lt hb2
  have hE2 : Ext w0 w2 := hE1.trans hE12
  try simp (maxSteps:=1000000)(disch:=(first|omega|(simp only [qI,qJ,qK]<;>omega)|exact qL _)) only [go_sem,↓reduceIte,n0,reduceCtorEq,n1,n2,n3,n4,n5,i0,i1,i2,i3,i4,i5,i6,i7]
  refine wp_copyN ap_22_22 (ok := ok) (s := s) (v := .slice ba _ bc) (by first | rfl | simp (maxSteps:=1000000)(disch:=(first|omega|(simp only [qI,qJ,qK]<;>omega)|exact qL _)) only [go_sem,↓reduceIte,n0,reduceCtorEq,n1,n2,n3,n4,n5,i0,i1,i2,i3,i4,i5,i6,i7]) (by first | rfl | simp (maxSteps:=1000000)(disch:=(first|omega|(simp only [qI,qJ,qK]<;>omega)|exact qL _)) only [go_sem,↓reduceIte,n0,reduceCtorEq,n1,n2,n3,n4,n5,i0,i1,i2,i3,i4,i5,i6,i7]) (hb.keep (Ext.keeps (hE0.trans hE2) _)) (by omega) ?_
  intro v3 w3 ho3 hE3 hf3
  have hz3 := hE3.size
  have hb3 := hE3.blk_some hb2 id
  have hE03 : Ext w0 w3 := hE2.trans hE3
  have hG3 : Glo ev w3 := hG.updS (hE0.trans hE03) id id
  obtain ⟨a3,c3,rfl,_⟩ := ho3.shape
  simp (maxSteps:=1000000)(disch:=(first|omega|(simp only [qI,qJ,qK]<;>omega)|exact qL _)) only [go_sem,↓reduceIte,n0,reduceCtorEq,n1,n2,n3,n4,n5,i0,i1,i2,i3,i4,i5,i6,i7]
  refine (ReadFromQ_fn (d := d) (ok := fun b => b < w3.heap.size ∧ b ≠ w1.heap.size) (ev := ev) w3 _ _ hb3 ((Own.bytes ho3 hf3).weaken fun b hb hk => ⟨hb,by omega⟩) (fun b hb => hb) hG3 ⟨by omega,by omega⟩).mono ?_
  rw [← hvc,← hfin]
  rintro r4 w4 ⟨h4n,h4s,hU4⟩
  have hz4 := hU4.size
  have hE4 : Ext w0 w4 := hE03.more hU4 fun b hb h => by omega
  have hr4 := hE4.blk_some hr0 id
  by_cases hst : fin.2 = none
  · obtain rfl := h4n hst
    obtain ⟨eT,ep,rfl⟩ := hev
    have hso : fin.2.isSome = false := by rw [hst];rfl
    rw [hso]
    try simp (maxSteps:=1000000)(disch:=(first|omega|(simp only [qI,qJ,qK]<;>omega)|exact qL _)) only [go_sem,↓reduceIte,n0,reduceCtorEq,n1,n2,n3,n4,n5,i0,i1,i2,i3,i4,i5,i6,i7,hr4]
    repeat ((first | refine qA rfl ?_|apply qB|refine qC rfl ?_|apply qD|apply qE|apply qF|apply qG|apply qH);try simp (maxSteps:=1000000)(disch:=(first|omega|(simp only [qI,qJ,qK]<;>omega)|exact qL _)) only [go_sem,↓reduceIte,n0,reduceCtorEq,n1,n2,n3,n4,n5,i0,i1,i2,i3,i4,i5,i6,i7,hr4,cellsAt_five])
    refine ⟨⟨[.int .i64 0,.slice none 0 0,.bool false,.slice none 0 0,.slice none 0 0],.zero,rfl,TreeC.intro rfl (BytesV.nil _ _) (treesN _ _) (tagsN _ _)⟩,(hE0.trans hE4).wr _ _ (.inl (Nat.le_refl _))⟩
  · obtain ⟨rfl,cells,hb4,hR4⟩ := h4s hst
    have hso : fin.2.isSome = true := isSome_some hst
    rw [hso]
    repeat (first|simp (maxSteps:=1000000)(disch:=(first|omega|(simp only [qI,qJ,qK]<;>omega)|exact qL _)) only [go_sem,↓reduceIte,n0,reduceCtorEq,n1,n2,n3,n4,n5,i0,i1,i2,i3,i4,i5,i6,i7,hr4]|refine qA rfl ?_|apply qB|refine qC rfl ?_|apply qD|apply qE|apply qF|apply qG|apply qH)
    refine (tellQ_fn (d := d) fin.1 cells w4 hb4 (fun k hk => by show ((.int .i16 vc :: cells).toArray)[1 + k]? = cells[k]?;rw [List.getElem?_toArray,Nat.add_comm,List.getElem?_cons_succ]) hR4 hgood).mono ?_
    rintro _ w5 ⟨⟨c5,rfl,hc5⟩,hE5⟩
    obtain ⟨vS,vL,vU,rfl,hn5,hS5,hL5,hU5⟩ := hc5.inv
    have f1 := hS5.flat
    have f2 := SlR.flat hL5
    have f3 := SlR.flat hU5
    have hr5 := hE5.blk_some hr4 id
    have hb5 := hE5.blk_some hb4 id
    have hz5 := hE5.size
    have hbl5 := blk_lt hb5
    have hE6 : Ext w5 (wr (w5.alloc (.cells qZ5 35)) w5.heap.size 0 [.int .i64 (tlPF (d + 2) fsr_Q fin.1).n,vS,.bool (tlPF (d + 2) fsr_Q fin.1).null,vL,vU]) := (Upd.alloc (Upd.refl _ _) _).wr _ _ (.inl (Nat.le_refl _))
    have ht6 : blk (wr (w5.alloc (.cells qZ5 35)) w5.heap.size 0 [.int .i64 (tlPF (d + 2) fsr_Q fin.1).n,vS,.bool (tlPF (d + 2) fsr_Q fin.1).null,vL,vU]) w5.heap.size = some (#[.int .i64 (tlPF (d + 2) fsr_Q fin.1).n,vS,.bool (tlPF (d + 2) fsr_Q fin.1).null,vL,vU],35,(0,0)) := by simp (maxSteps:=1000000)(disch:=(first|omega|(simp only [qI,qJ,qK]<;>omega)|exact qL _)) only [go_sem,↓reduceIte,n0,reduceCtorEq,n1,n2,n3,n4,n5,i0,i1,i2,i3,i4,i5,i6,i7]
    have hr6 := hE6.blk_some hr5 id
    have hb6 := hE6.blk_some hb5 id
    have hb60 : ((.int .i16 vc :: cells).toArray)[0]? = some (.int .i16 vc) := rfl
    generalize hw6 : (wr (w5.alloc (.cells qZ5 35)) w5.heap.size 0 [.int .i64 (tlPF (d + 2) fsr_Q fin.1).n,vS,.bool (tlPF (d + 2) fsr_Q fin.1).null,vL,vU]) = w6 at *
    repeat (first|simp (maxSteps:=1000000)(disch:=(first|omega|(simp only [qI,qJ,qK]<;>omega)|exact qL _)) only [go_sem,↓reduceIte,n0,reduceCtorEq,n1,n2,n3,n4,n5,i0,i1,i2,i3,i4,i5,i6,i7,hr5,f1,f2,f3,hw6]|refine qA rfl ?_|apply qB|refine qC rfl ?_|apply qD|apply qE|apply qF|apply qG|apply qH)
    try simp (maxSteps:=1000000)(disch:=(first|omega|(simp only [qI,qJ,qK]<;>omega)|exact qL _)) only [go_sem,↓reduceIte,n0,reduceCtorEq,n1,n2,n3,n4,n5,i0,i1,i2,i3,i4,i5,i6,i7,hr6,hb6,ht6,hb60,f1,f2,f3,ew]
    repeat ((first | refine qA rfl ?_|apply qB|refine qC rfl ?_|apply qD|apply qE|apply qF|apply qG|apply qH);try simp (maxSteps:=1000000)(disch:=(first|omega|(simp only [qI,qJ,qK]<;>omega)|exact qL _)) only [go_sem,↓reduceIte,n0,reduceCtorEq,n1,n2,n3,n4,n5,i0,i1,i2,i3,i4,i5,i6,i7,hr6,hb6,ht6,hb60,f1,f2,f3,ew,cellsAt_five])
    have hU8 : Upd (fun b => b = w.heap.size) w5 (wr (wr w6 w5.heap.size 0 [.int .i64 vc]) w.heap.size 0 [.int .i64 vc,vS,.bool (tlPF (d + 2) fsr_Q fin.1).null,vL,vU]) := ((hE6.mono fun _ h => h.elim).wr _ _ (.inl (Nat.le_refl _))).wr _ _ (.inr rfl)
    have hE8 : Ext w (wr (wr w6 w5.heap.size 0 [.int .i64 vc]) w.heap.size 0 [.int .i64 vc,vS,.bool (tlPF (d + 2) fsr_Q fin.1).null,vL,vU]) := (hE0.trans (hE4.trans hE5)).more hU8 fun b hb h => by omega
    have hc8 : TreeC AnyB (wr (wr w6 w5.heap.size 0 [.int .i64 vc]) w.heap.size 0 [.int .i64 vc,vS,.bool (tlPF (d + 2) fsr_Q fin.1).null,vL,vU]) ((tlPF (d + 2) fsr_Q fin.1).setN vc) [.int .i64 vc,vS,.bool (tlPF (d + 2) fsr_Q fin.1).null,vL,vU] := by
      have h := TreeC.keep (hU8.keeps (ok := fun b => w4.heap.size ≤ b) fun b _ hk e => by have hk' : w4.heap.size ≤ b := hk;omega) hc5
      obtain ⟨aS,aL,aU,he,_,k1,k2,k3⟩ := h.inv
      simp only [List.cons.injEq,and_true] at he
      obtain ⟨_,rfl,_,rfl,rfl⟩ := he
      exact TreeC.intro ew (k1.weaken fun _ _ _ => trivial) (k2.weaken fun _ _ _ => trivial) (k3.weaken fun _ _ _ => trivial)
    first | exact ⟨⟨_,_,rfl,hc8,rfl⟩,hE8⟩ | exact ⟨⟨_,_,rfl,hc8,fun _ => rfl⟩,hE8⟩

end Ms

