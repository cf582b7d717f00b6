/- A part of the proof: see the last text. -/
import Derived.Test.YtmlpaobpdmgcgaaGreatDoorRC09
import Derived.Test.YtmlpaobpdmgcgaaGreatDoorRAlterReplicaLogDirsResponseP0
set_option linter.unusedSimpArgs false
set_option linter.unusedVariables false
namespace Ms
open Go.World renaming size_alloc → qI
open Ms renaming size_wr → qJ,size_drew → qK,not_noB → qL
open W renaming seqR → qA,seq → qB,regR → qC,condK → qD,block → qE,skip → qF,ret → qG,exit → qH
open Nat renaming reduceEqDiff → n0,reduceAdd → n1,reduceMul → n2,reduceSub → n3,reduceLT → n4,reduceLeDiff → n5
open Int renaming reduceEq → i0,reduceLT → i1,reduceLE → i2,reduceNeg → i3,reduceAdd → i4,reduceSub → i5,reduceMul → i6,reduceToNat → i7
set_option maxRecDepth 8000
open Go Go.Proofs Go.Shelf
attribute [local congr] W_congr WPsq_congr WPp_congr optK_congr addrK_congr intK_congr boolK_congr sliceK_congr tupleK_congr funcK_congr Fn_congr rawK_congr takeK_congr stepK_congr convK_congr aggK_congr

theorem tagclX0_fn {ok OK : Blocks} {B tb : Nat} (c0 c1 c2 c3 v : Value) (done : List TagD) (y : TagD) (vv : Value) (w : World) (hbt : blk w tb = some (#[c0,c1,c2,c3,v],37,(0,0))) (hg : GrowU OK B tb w 69 v done) (hB : B ≤ w.heap.size) (htb : tb < B) (hvv : BytesV ok w vv y.2) (hy : y.1 < 2 ^ 32) (hyl : y.2.length ≤ 32767) (hdl : done.length ≤ 32767) (hOK : ∀ b,B ≤ b → OK b) :
    Fn Tryz.prog 92 #[.int .u32 y.1,vv,.pointer (some ⟨tb,0,none⟩)] w fun _ w' => (∃ v',blk w' tb = some (#[c0,c1,c2,c3,v'],37,(0,0)) ∧ GrowU OK B tb w' 69 v' (done ++ [y])) ∧ Upd (fun b => b = tb ∨ B ≤ b) w w' := by
  have htl := blk_lt hbt
  refine fn_of_W Tryz.func92 rfl Tryz.results92 Tryz.ntmps92 rfl ?_
  repeat ((first | refine qA rfl ?_|apply qB|refine qC rfl ?_|apply qD|apply qE|apply qF|apply qG|apply qH);try simp (disch:=(first|omega|(simp only [qI,qJ,qK]<;>omega)|exact qL _)) only [go_sem,↓reduceIte,n0,reduceCtorEq,n1,n2,n3,n4,n5,i0,i1,i2,i3,i4,i5,i6,i7])
  obtain ⟨av,kv,rfl,_⟩ := hg.shape
  have hnb : ∀ b,b < B ∨ w.heap.size ≤ b → ¬ ownB (.slice av done.length kv) b := fun b hb h => by
    have := hg.above h
    have := hg.below h
    omega
  refine W.drawR (.take 0 (.take 1 (.take 2 (.take 3 (.only 4 (.only 5 (.only 6 (.only 7 (.take 8 (.last 9)))))))))) (ownB (.slice av done.length kv)) mixed (by kernel_rfl) ?_
  simp (disch:=(first|omega|(simp only [qI,qJ,qK]<;>omega)|exact qL _ | (refine hnb _ ?_;first | omega | (simp only [World.size_alloc,size_wr,size_drew] <;> omega)))) only [go_sem,↓reduceIte,n0,reduceCtorEq,n1,n2,n3,n4,n5,i0,i1,i2,i3,i4,i5,i6,i7,hbt]
  refine wp_copyN ap_22_22 (ok := ok) (s := y.2) (v := vv) (by first | rfl | simp (disch:=(first|omega|(simp only [qI,qJ,qK]<;>omega)|exact qL _)) only [go_sem,↓reduceIte,n0,reduceCtorEq,n1,n2,n3,n4,n5,i0,i1,i2,i3,i4,i5,i6,i7]) (by first | rfl | simp (disch:=(first|omega|(simp only [qI,qJ,qK]<;>omega)|exact qL _)) only [go_sem,↓reduceIte,n0,reduceCtorEq,n1,n2,n3,n4,n5,i0,i1,i2,i3,i4,i5,i6,i7]) (hvv.keep (Ext.keeps ((Upd.refl _ _).drew) _)) (by omega) ?_
  intro v1 w1 ho1 hE1 hf1
  obtain ⟨a1,k1,rfl,_⟩ := ho1.shape
  have hB1 := Own.bytes (ok := fun b => w.heap.size ≤ b) ho1 fun b hb => hf1 b hb
  have hP1 : Upd (ownB (.slice av done.length kv)) w.drew w1 := hE1.mono fun _ h => h.elim
  have hs1 := hE1.size
  simp only [size_drew] at hs1
  refine ⟨hP1,?_⟩
  simp (disch:=(first|omega|(simp only [qI,qJ,qK]<;>omega)|exact qL _ | (refine hnb _ ?_;first | omega | (simp only [World.size_alloc,size_wr,size_drew] <;> omega)))) only [go_sem,↓reduceIte,n0,reduceCtorEq,n1,n2,n3,n4,n5,i0,i1,i2,i3,i4,i5,i6,i7,hbt]
  refine ⟨hP1,?_⟩
  have hP2 : Upd (ownB (.slice av done.length kv)) w.drew (w1.alloc (.cells #[.int .u32 y.1,.slice a1 y.2.length k1] 69)) := hP1.alloc _
  have hn2 : blk (w1.alloc (.cells #[.int .u32 y.1,.slice a1 y.2.length k1] 69)) w1.heap.size = some (#[.int .u32 y.1,.slice a1 y.2.length k1],69,(0,0)) := blk_alloc_new rfl
  have hs2 : (w1.alloc (.cells #[.int .u32 y.1,.slice a1 y.2.length k1] 69)).heap.size = w1.heap.size + 1 := World.size_alloc _ _
  have hE2 : Ext w1 (w1.alloc (.cells #[.int .u32 y.1,.slice a1 y.2.length k1] 69)) := Upd.alloc (Upd.refl _ _) _
  refine ⟨hP2,?_⟩
  try simp only [List.append_nil]
  generalize (w1.alloc (.cells #[.int .u32 y.1,.slice a1 y.2.length k1] 69)) = w2 at *
  have hEw : Ext w w2 := (((Upd.refl _ _).drew).trans hE1).trans hE2
  obtain ⟨css,hown,hall⟩ := (hg.ext hEw).ex
  have hcl := hall.1
  have hx2 : TagC (fun b => OK b ∧ b ≠ tb ∧ ¬ ownB (.slice av done.length kv) b) w2 y [.int .u32 y.1,.slice a1 y.2.length k1] := ⟨_,rfl,(hB1.keep (hE2.keeps _)).weaken fun b _ hk => ⟨hOK b (by omega),by omega,hnb b (.inr hk)⟩,hy⟩
  refine wp_append ap_35_35 (m := 1) (news := [.int .u32 y.1,.slice a1 y.2.length k1]) (n := css.length) (cs := css.flatten) (v := .slice av done.length kv) ?_ rfl hown.1 hall.flat_cells (Src.blk (fr := (0,0)) (T := 69) hn2 rfl rfl) ?_ ?_ ?_
  · first | rfl | simp (disch:=(first|omega|(simp only [qI,qJ,qK]<;>omega)|exact qL _)) only [go_sem,↓reduceIte,n0,reduceCtorEq,n1,n2,n3,n4,n5,i0,i1,i2,i3,i4,i5,i6,i7]
  · omega
  · omega
  intro v' w3 ho hu hfr
  have hg3 := GrowU.snoc hown hall hx2 hu hfr ho
  obtain ⟨va,vc,hv',_⟩ := ho.shape
  subst hv'
  have hP3 := hP2.trans hu
  have hs3 := hu.size
  have hbt3 := hP3.blk_some (show blk w.drew tb = _ from hbt) (hnb _ (.inl htb))
  have hne : ¬ ownB (.slice va (css.length + 1) vc) tb := fun h => (hfr _ h).elim (hnb _ (.inl htb)) (fun h => by omega)
  refine ⟨hP3,?_⟩
  simp (disch:=(first|omega|(simp only [qI,qJ,qK]<;>omega)|exact qL _ | (refine hnb _ ?_;first | omega | (simp only [World.size_alloc,size_wr,size_drew] <;> omega)))) only [go_sem,↓reduceIte,n0,reduceCtorEq,n1,n2,n3,n4,n5,i0,i1,i2,i3,i4,i5,i6,i7,hbt3]
  repeat ((first | refine qA rfl ?_|apply qB|refine qC rfl ?_|apply qD|apply qE|apply qF|apply qG|apply qH);try simp (disch:=(first|omega|(simp only [qI,qJ,qK]<;>omega)|exact qL _)) only [go_sem,↓reduceIte,n0,reduceCtorEq,n1,n2,n3,n4,n5,i0,i1,i2,i3,i4,i5,i6,i7])
  refine ⟨⟨.slice va (css.length + 1) vc,by first | (rw [blk_wr_eq,hbt3];rfl) | rfl | (rw [hbt3];rfl) | (rw [blk_wr_eq,hbt3]),hg3.upd ((Upd.refl _ _).wr _ _ (.inr rfl)) hne⟩,?_⟩
  refine Upd.wr ?_ _ _ (.inr (.inl rfl))
  exact (((Upd.refl (fun b => b = tb ∨ B ≤ b) w).drew).trans (hP3.mono fun b h => .inr (hg.above h)))

set_option maxHeartbeats 4000000 in
theorem tellX0_fn {d : Nat} {ok : Blocks} (t : Tree) (cs : List Value) (w : World) {b o : Nat} {x : Blk} (hb : blk w b = some x) (hq : ∀ k,k < 3 → x.1[o + k]? = cs[k]?) (hR : RepS true (d + 1) fs_X0 ok w t cs) (hg : GoodP (d + 1) fs_X0 t) :
    Fn Tryz.prog 73 #[.pointer (some ⟨b,o,none⟩)] w fun r w' => (∃ c,r = .agg c.toArray ∧ TreeC (fun b => w.heap.size ≤ b) w' (tlP (d + 1) fs_X0 t) c) ∧ Ext w w' := by
  have hbl := blk_lt hb
  obtain ⟨⟨gd0,gd1,-⟩,hgu⟩ := hg
  replace gd0 : GoodF (GoodP d) fX0_0 (t.at 0) := gd0
  replace gd1 : GoodF (GoodP d) fX0_1 (t.at 1) := gd1
  obtain ⟨cs0,q,hcs,hL,hT⟩ := hR.inv
  obtain ⟨c0,e0,rfl,h0,c1,e1,rfl,h1,rfl⟩ := hL
  replace h0 : RepF (RepS true d) (szS true d) fX0_0 ok w (t.at 0) c0 := h0
  replace h1 : RepF (RepS true d) (szS true d) fX0_1 ok w (t.at 1) c1 := h1
  obtain rfl := (RepF_num (by decide)).1 h0
  obtain rfl := (RepF_num (by decide)).1 h1
  obtain ⟨qm,rfl⟩ := hT.shape
  subst hcs
  have hq0 : x.1[o]? = some (.int .i32 (IntKind.i32.wrap (t.at 0).n)) := hq 0 (by decide)
  have hq1 : x.1[o + 1]? = some (.int .i16 (IntKind.i16.wrap (t.at 1).n)) := hq 1 (by decide)
  have hq2 : x.1[o + 2]? = some (.map qm) := hq 2 (by decide)
  refine fn_of_W Tryz.func73 rfl Tryz.results73 Tryz.ntmps73 rfl ?_
  repeat ((first | refine qA rfl ?_|apply qB|refine qC rfl ?_|apply qD|apply qE|apply qF|apply qG|apply qH);try simp (disch:=(first|omega|(simp only [qI,qJ,qK]<;>omega)|exact qL _)) only [go_sem,↓reduceIte,n0,reduceCtorEq,n1,n2,n3,n4,n5,i0,i1,i2,i3,i4,i5,i6,i7])
  refine wp_make (T := 34) (E := 37) (size := 5) (bytes := 88) (z := .agg qZ5) (l := 2) (c := 2) (kl := .i64) (kc := .i64) (by kernel_rfl) (by kernel_rfl) (by first | rfl | (simp (disch:=(first|omega|(simp only [qI,qJ,qK]<;>omega)|exact qL _)) only [go_sem,↓reduceIte,n0,reduceCtorEq,n1,n2,n3,n4,n5,i0,i1,i2,i3,i4,i5,i6,i7];rfl)) (by first | rfl | (simp (disch:=(first|omega|(simp only [qI,qJ,qK]<;>omega)|exact qL _)) only [go_sem,↓reduceIte,n0,reduceCtorEq,n1,n2,n3,n4,n5,i0,i1,i2,i3,i4,i5,i6,i7];rfl)) (by omega) (by omega) (by omega) ?_
  have hmd : madeCells (Value.agg qZ5).cells (2 * 5) = #[.int .i64 0,.slice none 0 0,.bool false,.slice none 0 0,.slice none 0 0,.int .i64 0,.slice none 0 0,.bool false,.slice none 0 0,.slice none 0 0] := by kernel_rfl
  rw [hmd]
  simp (disch:=(first|omega|(simp only [qI,qJ,qK]<;>omega)|exact qL _)) only [go_sem,↓reduceIte,n0,reduceCtorEq,n1,n2,n3,n4,n5,i0,i1,i2,i3,i4,i5,i6,i7]
  repeat ((first | refine qA rfl ?_|apply qB|refine qC rfl ?_|apply qD|apply qE|apply qF|apply qG|apply qH);try simp (disch:=(first|omega|(simp only [qI,qJ,qK]<;>omega)|exact qL _)) only [go_sem,↓reduceIte,n0,reduceCtorEq,n1,n2,n3,n4,n5,i0,i1,i2,i3,i4,i5,i6,i7])
  have hE1 : Ext w (wr (((w.alloc (.cells qZ5 37)).alloc (.cells #[.int .i64 0,.slice none 0 0,.bool false,.slice none 0 0,.slice none 0 0,.int .i64 0,.slice none 0 0,.bool false,.slice none 0 0,.slice none 0 0] 37)).alloc (.cells qZ5 37)) (w.heap.size + 2) 0 [.int .i64 0,.slice none 0 0,.bool false,.slice (some ⟨w.heap.size + 1,0,none⟩) 2 2,.slice none 0 0]) := (Upd.alloc (Upd.alloc (Upd.alloc (Upd.refl _ _) _) _) _).wr _ _ (.inl (by omega))
  have hz1 : (wr (((w.alloc (.cells qZ5 37)).alloc (.cells #[.int .i64 0,.slice none 0 0,.bool false,.slice none 0 0,.slice none 0 0,.int .i64 0,.slice none 0 0,.bool false,.slice none 0 0,.slice none 0 0] 37)).alloc (.cells qZ5 37)) (w.heap.size + 2) 0 [.int .i64 0,.slice none 0 0,.bool false,.slice (some ⟨w.heap.size + 1,0,none⟩) 2 2,.slice none 0 0]).heap.size = w.heap.size + 3 := by simp only [size_wr,World.size_alloc]
  have hl1 : blk (wr (((w.alloc (.cells qZ5 37)).alloc (.cells #[.int .i64 0,.slice none 0 0,.bool false,.slice none 0 0,.slice none 0 0,.int .i64 0,.slice none 0 0,.bool false,.slice none 0 0,.slice none 0 0] 37)).alloc (.cells qZ5 37)) (w.heap.size + 2) 0 [.int .i64 0,.slice none 0 0,.bool false,.slice (some ⟨w.heap.size + 1,0,none⟩) 2 2,.slice none 0 0]) (w.heap.size + 1) = some (#[.int .i64 0,.slice none 0 0,.bool false,.slice none 0 0,.slice none 0 0,.int .i64 0,.slice none 0 0,.bool false,.slice none 0 0,.slice none 0 0],37,(0,0)) := by simp (disch:=(first|omega|(simp only [qI,qJ,qK]<;>omega)|exact qL _)) only [go_sem,↓reduceIte,n0,reduceCtorEq,n1,n2,n3,n4,n5,i0,i1,i2,i3,i4,i5,i6,i7]
  have ht1 : blk (wr (((w.alloc (.cells qZ5 37)).alloc (.cells #[.int .i64 0,.slice none 0 0,.bool false,.slice none 0 0,.slice none 0 0,.int .i64 0,.slice none 0 0,.bool false,.slice none 0 0,.slice none 0 0] 37)).alloc (.cells qZ5 37)) (w.heap.size + 2) 0 [.int .i64 0,.slice none 0 0,.bool false,.slice (some ⟨w.heap.size + 1,0,none⟩) 2 2,.slice none 0 0]) (w.heap.size + 2) = some (#[.int .i64 0,.slice none 0 0,.bool false,.slice (some ⟨w.heap.size + 1,0,none⟩) 2 2,.slice none 0 0],37,(0,0)) := by simp (disch:=(first|omega|(simp only [qI,qJ,qK]<;>omega)|exact qL _)) only [go_sem,↓reduceIte,n0,reduceCtorEq,n1,n2,n3,n4,n5,i0,i1,i2,i3,i4,i5,i6,i7]
  have hr1 : blk (wr (((w.alloc (.cells qZ5 37)).alloc (.cells #[.int .i64 0,.slice none 0 0,.bool false,.slice none 0 0,.slice none 0 0,.int .i64 0,.slice none 0 0,.bool false,.slice none 0 0,.slice none 0 0] 37)).alloc (.cells qZ5 37)) (w.heap.size + 2) 0 [.int .i64 0,.slice none 0 0,.bool false,.slice (some ⟨w.heap.size + 1,0,none⟩) 2 2,.slice none 0 0]) w.heap.size = some (qZ5,37,(0,0)) := by simp (disch:=(first|omega|(simp only [qI,qJ,qK]<;>omega)|exact qL _)) only [go_sem,↓reduceIte,n0,reduceCtorEq,n1,n2,n3,n4,n5,i0,i1,i2,i3,i4,i5,i6,i7]
  generalize (wr (((w.alloc (.cells qZ5 37)).alloc (.cells #[.int .i64 0,.slice none 0 0,.bool false,.slice none 0 0,.slice none 0 0,.int .i64 0,.slice none 0 0,.bool false,.slice none 0 0,.slice none 0 0] 37)).alloc (.cells qZ5 37)) (w.heap.size + 2) 0 [.int .i64 0,.slice none 0 0,.bool false,.slice (some ⟨w.heap.size + 1,0,none⟩) 2 2,.slice none 0 0]) = w1 at *
  have hU1 : Upd (fun b => b = w.heap.size + 1 ∨ b = w.heap.size + 2) w1 w1 := Upd.refl _ _
  have hb1 := hE1.blk_some hb id
  repeat ((first | refine qA rfl ?_|apply qB|refine qC rfl ?_|apply qD|apply qE|apply qF|apply qG|apply qH);try simp (disch:=(first|omega|(simp only [qI,qJ,qK]<;>omega)|exact qL _)) only [go_sem,↓reduceIte,n0,reduceCtorEq,n1,n2,n3,n4,n5,i0,i1,i2,i3,i4,i5,i6,i7,hb1,hl1,ht1,hq0,hq1,hq2])
  refine W.drawR (.take 0 (.take 1 (.take 2 (.take 3 (.take 4 (.take 5 (.take 6 (.only 7 (.take 8 (.last 9)))))))))) (NoB) mixed (by kernel_rfl) ?_
  try simp (disch:=(first|omega|(simp only [qI,qJ,qK]<;>omega)|exact qL _)) only [go_sem,↓reduceIte,n0,reduceCtorEq,n1,n2,n3,n4,n5,i0,i1,i2,i3,i4,i5,i6,i7,hb1,hl1,ht1,hq0,hq1,hq2,tl32]
  refine ⟨Upd.refl _ _,?_⟩
  have hlq2 : blk w1.drew (w.heap.size + 1) = _ := hl1
  have hx2 : Upd (fun b => b = w.heap.size + 1 ∨ b = w.heap.size + 2) w1 w1.drew := (Upd.refl _ _).drew
  generalize hw2 : wr w1.drew (w.heap.size + 1) 0 [.int .i64 (IntKind.i32.wrap (t.at 0).n),.slice none 0 0,.bool false,.slice none 0 0,.slice none 0 0] = w2
  have hl2 : blk w2 (w.heap.size + 1) = some (#[.int .i64 (IntKind.i32.wrap (t.at 0).n),.slice none 0 0,.bool false,.slice none 0 0,.slice none 0 0,.int .i64 0,.slice none 0 0,.bool false,.slice none 0 0,.slice none 0 0],37,(0,0)) := by rw [← hw2,blk_wr_eq,hlq2];rfl
  have hv2 : Upd (fun b => b = w.heap.size + 1 ∨ b = w.heap.size + 2) w1.drew w2 := by rw [← hw2];exact (Upd.refl _ _).wr _ _ (.inr (.inl rfl))
  have hV2 : Upd (fun b => b = w.heap.size + 1 ∨ b = w.heap.size + 2) w1 w2 := hx2.trans hv2
  have hU2 : Upd (fun b => b = w.heap.size + 1 ∨ b = w.heap.size + 2) w1 w2 := hU1.trans hV2
  have hz2 := hU2.size
  have hX2 : Ext w w2 := hE1.more hU2 fun b hb h => by omega
  have hb2 := hX2.blk_some hb id
  have ht2 : blk w2 (w.heap.size + 2) = some (#[.int .i64 0,.slice none 0 0,.bool false,.slice (some ⟨w.heap.size + 1,0,none⟩) 2 2,.slice none 0 0],37,(0,0)) := by
    rw [← hw2,blk_wr_ne (by omega)]
    exact ht1
  clear hw2
  have hf0 : TreeC (fun b => w1.heap.size ≤ b) w2 (.num (IntKind.i32.wrap (t.at 0).n)) [.int .i64 (IntKind.i32.wrap (t.at 0).n),.slice none 0 0,.bool false,.slice none 0 0,.slice none 0 0] := (TreeC.keep (hv2.keeps fun b hb hk e => by have hk' : w1.heap.size ≤ b := hk;omega) (TreeC.intro (tl32 _) (BytesV.nil _ _) (treesN _ _) (tagsN _ _) : TreeC (fun b => w1.heap.size ≤ b) w1.drew (.num (IntKind.i32.wrap (t.at 0).n)) [.int .i64 (IntKind.i32.wrap (t.at 0).n),.slice none 0 0,.bool false,.slice none 0 0,.slice none 0 0]))
  repeat ((first | refine qA rfl ?_|apply qB|refine qC rfl ?_|apply qD|apply qE|apply qF|apply qG|apply qH);try simp (disch:=(first|omega|(simp only [qI,qJ,qK]<;>omega)|exact qL _)) only [go_sem,↓reduceIte,n0,reduceCtorEq,n1,n2,n3,n4,n5,i0,i1,i2,i3,i4,i5,i6,i7,hb2,hl2,ht2,hq0,hq1,hq2])
  refine W.drawR (.take 0 (.take 1 (.take 2 (.take 3 (.take 4 (.take 5 (.take 6 (.only 7 (.take 8 (.last 9)))))))))) (NoB) mixed (by kernel_rfl) ?_
  try simp (disch:=(first|omega|(simp only [qI,qJ,qK]<;>omega)|exact qL _)) only [go_sem,↓reduceIte,n0,reduceCtorEq,n1,n2,n3,n4,n5,i0,i1,i2,i3,i4,i5,i6,i7,hb2,hl2,ht2,hq0,hq1,hq2,tl16]
  refine ⟨Upd.refl _ _,?_⟩
  have hlq3 : blk w2.drew (w.heap.size + 1) = _ := hl2
  have hx3 : Upd (fun b => b = w.heap.size + 1 ∨ b = w.heap.size + 2) w2 w2.drew := (Upd.refl _ _).drew
  generalize hw3 : wr w2.drew (w.heap.size + 1) 5 [.int .i64 (IntKind.i16.wrap (t.at 1).n),.slice none 0 0,.bool false,.slice none 0 0,.slice none 0 0] = w3
  have hl3 : blk w3 (w.heap.size + 1) = some (#[.int .i64 (IntKind.i32.wrap (t.at 0).n),.slice none 0 0,.bool false,.slice none 0 0,.slice none 0 0,.int .i64 (IntKind.i16.wrap (t.at 1).n),.slice none 0 0,.bool false,.slice none 0 0,.slice none 0 0],37,(0,0)) := by rw [← hw3,blk_wr_eq,hlq3];rfl
  have hv3 : Upd (fun b => b = w.heap.size + 1 ∨ b = w.heap.size + 2) w2.drew w3 := by rw [← hw3];exact (Upd.refl _ _).wr _ _ (.inr (.inl rfl))
  have hV3 : Upd (fun b => b = w.heap.size + 1 ∨ b = w.heap.size + 2) w2 w3 := hx3.trans hv3
  have hU3 : Upd (fun b => b = w.heap.size + 1 ∨ b = w.heap.size + 2) w1 w3 := hU2.trans hV3
  have hz3 := hU3.size
  have hX3 : Ext w w3 := hE1.more hU3 fun b hb h => by omega
  have hb3 := hX3.blk_some hb id
  have ht3 : blk w3 (w.heap.size + 2) = some (#[.int .i64 0,.slice none 0 0,.bool false,.slice (some ⟨w.heap.size + 1,0,none⟩) 2 2,.slice none 0 0],37,(0,0)) := by
    rw [← hw3,blk_wr_ne (by omega)]
    exact ht2
  clear hw3
  have hf1 : TreeC (fun b => w1.heap.size ≤ b) w3 (.num (IntKind.i16.wrap (t.at 1).n)) [.int .i64 (IntKind.i16.wrap (t.at 1).n),.slice none 0 0,.bool false,.slice none 0 0,.slice none 0 0] := (TreeC.keep (hv3.keeps fun b hb hk e => by have hk' : w1.heap.size ≤ b := hk;omega) (TreeC.intro (tl16 _) (BytesV.nil _ _) (treesN _ _) (tagsN _ _) : TreeC (fun b => w1.heap.size ≤ b) w2.drew (.num (IntKind.i16.wrap (t.at 1).n)) [.int .i64 (IntKind.i16.wrap (t.at 1).n),.slice none 0 0,.bool false,.slice none 0 0,.slice none 0 0]))
  repeat ((first | refine qA rfl ?_|apply qB|refine qC rfl ?_|apply qD|apply qE|apply qF|apply qG|apply qH);try simp (disch:=(first|omega|(simp only [qI,qJ,qK]<;>omega)|exact qL _)) only [go_sem,↓reduceIte,n0,reduceCtorEq,n1,n2,n3,n4,n5,i0,i1,i2,i3,i4,i5,i6,i7,hb3,hl3,ht3,hq0,hq1,hq2])
  refine (EachG_fn (ok := fun b => b < w.heap.size) 92 ca_92 #[.pointer (some ⟨w.heap.size + 2,0,none⟩)] w3 (tb := b) (to := o + 2) hb3 hq2 ((hT.weaken fun b hb _ => hb).keep (hX3.keeps _)) (sortT_perm _) (sortT_lt hgu.2.1) (by rw [(sortT_perm t.u).length_eq];exact hgu.1)
    (fun b => b = w.heap.size + 2) (by omega) (fun b hb hk e => by have hk' : b < w.heap.size := hk;omega) (fun b hb => by have := blk_lt ht3;omega)
    (fun wl done w' => ∃ v,blk w' (w.heap.size + 2) = some (#[.int .i64 0,.slice none 0 0,.bool false,.slice (some ⟨w.heap.size + 1,0,none⟩) 2 2,v],37,(0,0)) ∧ GrowU (fun b => w1.heap.size ≤ b) wl.heap.size (w.heap.size + 2) w' 69 v done) (fun wl hE => ⟨_,hE.blk_some ht3 id,GrowU.nil _ _ _ _ _⟩) ?_).mono ?_
  · rintro wl hE done y vv wc hpre ⟨v,hbv,hg⟩ hU hvv hy
    have hz' := hE.size
    have hzu := hU.size
    have htl := blk_lt ht3
    have hpl := hpre.length_le
    simp only [List.length_append,List.length_cons,List.length_nil] at hpl
    rw [(sortT_perm t.u).length_eq] at hpl
    have hlu := hgu.1
    have hmy : y ∈ t.u := (sortT_perm t.u).mem_iff.1 (hpre.subset (by simp))
    refine (tagclX0_fn (ok := fun b => b < w.heap.size) _ _ _ _ v done y vv wc hbv hg hzu (by omega) (hvv.keep ((hE.mono (fun _ h => h.elim) |>.trans hU : Upd (fun b => b = w.heap.size + 2) w3 wc).keeps fun b _ hk e => by have hk' : b < w.heap.size := hk;omega)) hy (hgu.2.2 y hmy) (by omega) (fun b hb => by have := hz3;omega)).mono ?_
    rintro _ w2' ⟨⟨v',h1,h2⟩,h3⟩
    exact ⟨⟨v',h1,h2⟩,hU.trans' h3 fun b hb h => h.elim id fun h => by omega⟩
  rintro _ w4 ⟨wl,hEl,⟨v,ht4,hgU⟩,hUe⟩
  have hzl := hEl.size
  obtain ⟨aU,kU,hvs,_⟩ := hgU.shape
  subst hvs
  have hV4 : Upd (fun b => b = w.heap.size + 1 ∨ b = w.heap.size + 2) w3 w4 := (hEl.mono fun _ h => h.elim).trans (hUe.mono fun _ h => .inr h)
  have hU4 : Upd (fun b => b = w.heap.size + 1 ∨ b = w.heap.size + 2) w1 w4 := hU3.trans hV4
  have hz4 := hU4.size
  have hX4 : Ext w w4 := hE1.more hU4 fun b hb h => by omega
  have hb4 := hX4.blk_some hb id
  have hl4 := (((hEl.mono fun _ h => h.elim).trans hUe : Upd (fun b => b = w.heap.size + 2) w3 w4)).blk_some hl3 (by omega)
  have hTU := hgU.tags (ok' := (fun b => w1.heap.size ≤ b)) (fun _ _ h => h) (fun b hb => by have := hz3;omega)
  repeat ((first | refine qA rfl ?_|apply qB|refine qC rfl ?_|apply qD|apply qE|apply qF|apply qG|apply qH);try simp (disch:=(first|omega|(simp only [qI,qJ,qK]<;>omega)|exact qL _)) only [go_sem,↓reduceIte,n0,reduceCtorEq,n1,n2,n3,n4,n5,i0,i1,i2,i3,i4,i5,i6,i7,hb4,hl4,ht4,hq0,hq1,hq2,cellsAt_five])
  refine (sorted_fn _ _ w4 hTU (sortT_lt hgu.2.1) (by rw [(sortT_perm t.u).length_eq];exact hgu.1)).mono ?_
  rintro _ w5 hEs
  have hV5 : Upd (fun b => b = w.heap.size + 1 ∨ b = w.heap.size + 2) w4 w5 := hEs.mono fun _ h => h.elim
  have hU5 : Upd (fun b => b = w.heap.size + 1 ∨ b = w.heap.size + 2) w1 w5 := hU4.trans hV5
  have hz5 := hU5.size
  have hX5 : Ext w w5 := hE1.more hU5 fun b hb h => by omega
  have hb5 := hX5.blk_some hb id
  have hl5 := hEs.blk_some hl4 id
  have ht5 := hEs.blk_some ht4 id
  have hr5 := (hU5.blk_some hr1 (by omega))
  have hC_5 : Upd (fun b => b = w.heap.size + 1 ∨ b = w.heap.size + 2) w5 w5 := Upd.refl _ _
  have hC_4 : Upd (fun b => b = w.heap.size + 1 ∨ b = w.heap.size + 2) w4 w5 := hV5.trans hC_5
  have hC_3 : Upd (fun b => b = w.heap.size + 1 ∨ b = w.heap.size + 2) w3 w5 := hV4.trans hC_4
  have hC_2 : Upd (fun b => b = w.heap.size + 1 ∨ b = w.heap.size + 2) w2 w5 := hV3.trans hC_3
  have hC_1 : Upd (fun b => b = w.heap.size + 1 ∨ b = w.heap.size + 2) w1 w5 := hV2.trans hC_2
  have hF0 := TreeC.keep (hC_2.keeps fun b hb hk e => by have hk' : w1.heap.size ≤ b := hk;omega) hf0
  have hF1 := TreeC.keep (hC_3.keeps fun b hb hk e => by have hk' : w1.heap.size ≤ b := hk;omega) hf1
  replace hF0 : TreeC (fun b => w1.heap.size ≤ b) w5 (tlF (tlP d) fX0_0 (t.at 0)) [.int .i64 (IntKind.i32.wrap (t.at 0).n),.slice none 0 0,.bool false,.slice none 0 0,.slice none 0 0] := hF0
  replace hF1 : TreeC (fun b => w1.heap.size ≤ b) w5 (tlF (tlP d) fX0_1 (t.at 1)) [.int .i64 (IntKind.i16.wrap (t.at 1).n),.slice none 0 0,.bool false,.slice none 0 0,.slice none 0 0] := hF1
  have hTL : TreesV (fun b => (fun b => w1.heap.size ≤ b) b ∨ b = w.heap.size + 1) w5 (.slice (some ⟨w.heap.size + 1,0,none⟩) 2 2) [tlF (tlP d) fX0_0 (t.at 0),tlF (tlP d) fX0_1 (t.at 1)] := by
    refine ⟨[[.int .i64 (IntKind.i32.wrap (t.at 0).n),.slice none 0 0,.bool false,.slice none 0 0,.slice none 0 0],[.int .i64 (IntKind.i16.wrap (t.at 1).n),.slice none 0 0,.bool false,.slice none 0 0,.slice none 0 0]],⟨_,2,rfl,Nat.le_refl _,(by intro cs hm;simp only [List.mem_cons,List.not_mem_nil,or_false] at hm;rcases hm with rfl | rfl <;> rfl),.inr ⟨_,rfl,rfl,.inr rfl,_,hl5,fun i hi => by rw [Nat.zero_add,List.getElem?_toArray];rfl⟩⟩,rfl,fun i h1 h2 => ?_⟩
    match i,h1 with
    | 0,_ => exact TreeC.weaken (fun b _ hk => .inl hk) hF0
    | 1,_ => exact TreeC.weaken (fun b _ hk => .inl hk) hF1
  repeat ((first | refine qA rfl ?_|apply qB|refine qC rfl ?_|apply qD|apply qE|apply qF|apply qG|apply qH);try simp (disch:=(first|omega|(simp only [qI,qJ,qK]<;>omega)|exact qL _)) only [go_sem,↓reduceIte,n0,reduceCtorEq,n1,n2,n3,n4,n5,i0,i1,i2,i3,i4,i5,i6,i7,hb5,hl5,ht5,hq0,hq1,hq2,hr5,cellsAt_five])
  refine ⟨⟨_,rfl,?_⟩,hX5.wr _ _ (.inl (Nat.le_refl _))⟩
  have hUr : Upd (fun b => b = w.heap.size) w5 (wr w5 w.heap.size 0 [.int .i64 0,.slice none 0 0,.bool false,.slice (some ⟨w.heap.size + 1,0,none⟩) 2 2,.slice aU (sortT t.u).length kU]) := (Upd.refl _ _).wr _ _ (.inr rfl)
  have hTU2 := hTU.keep (hEs.keeps _)
  exact TreeC.intro rfl (BytesV.nil _ _) ((hTL.keep (hUr.keeps fun b _ hk e => by rcases hk with hk | hk <;> omega)).weaken fun b _ hk => by rcases hk with hk | hk <;> omega) ((hTU2.keep (hUr.keeps fun b _ hk e => by omega)).weaken fun b _ hk => by omega)

theorem tagclX1_fn {ok OK : Blocks} {B tb : Nat} (c0 c1 c2 c3 v : Value) (done : List TagD) (y : TagD) (vv : Value) (w : World) (hbt : blk w tb = some (#[c0,c1,c2,c3,v],37,(0,0))) (hg : GrowU OK B tb w 69 v done) (hB : B ≤ w.heap.size) (htb : tb < B) (hvv : BytesV ok w vv y.2) (hy : y.1 < 2 ^ 32) (hyl : y.2.length ≤ 32767) (hdl : done.length ≤ 32767) (hOK : ∀ b,B ≤ b → OK b) :
    Fn Tryz.prog 74 #[.int .u32 y.1,vv,.pointer (some ⟨tb,0,none⟩)] w fun _ w' => (∃ v',blk w' tb = some (#[c0,c1,c2,c3,v'],37,(0,0)) ∧ GrowU OK B tb w' 69 v' (done ++ [y])) ∧ Upd (fun b => b = tb ∨ B ≤ b) w w' := by
  have htl := blk_lt hbt
  refine fn_of_W Tryz.func74 rfl Tryz.results74 Tryz.ntmps74 rfl ?_
  repeat ((first | refine qA rfl ?_|apply qB|refine qC rfl ?_|apply qD|apply qE|apply qF|apply qG|apply qH);try simp (disch:=(first|omega|(simp only [qI,qJ,qK]<;>omega)|exact qL _)) only [go_sem,↓reduceIte,n0,reduceCtorEq,n1,n2,n3,n4,n5,i0,i1,i2,i3,i4,i5,i6,i7])
  obtain ⟨av,kv,rfl,_⟩ := hg.shape
  have hnb : ∀ b,b < B ∨ w.heap.size ≤ b → ¬ ownB (.slice av done.length kv) b := fun b hb h => by
    have := hg.above h
    have := hg.below h
    omega
  refine W.drawR (.take 0 (.take 1 (.take 2 (.take 3 (.only 4 (.only 5 (.only 6 (.only 7 (.take 8 (.last 9)))))))))) (ownB (.slice av done.length kv)) mixed (by kernel_rfl) ?_
  simp (disch:=(first|omega|(simp only [qI,qJ,qK]<;>omega)|exact qL _ | (refine hnb _ ?_;first | omega | (simp only [World.size_alloc,size_wr,size_drew] <;> omega)))) only [go_sem,↓reduceIte,n0,reduceCtorEq,n1,n2,n3,n4,n5,i0,i1,i2,i3,i4,i5,i6,i7,hbt]
  refine wp_copyN ap_22_22 (ok := ok) (s := y.2) (v := vv) (by first | rfl | simp (disch:=(first|omega|(simp only [qI,qJ,qK]<;>omega)|exact qL _)) only [go_sem,↓reduceIte,n0,reduceCtorEq,n1,n2,n3,n4,n5,i0,i1,i2,i3,i4,i5,i6,i7]) (by first | rfl | simp (disch:=(first|omega|(simp only [qI,qJ,qK]<;>omega)|exact qL _)) only [go_sem,↓reduceIte,n0,reduceCtorEq,n1,n2,n3,n4,n5,i0,i1,i2,i3,i4,i5,i6,i7]) (hvv.keep (Ext.keeps ((Upd.refl _ _).drew) _)) (by omega) ?_
  intro v1 w1 ho1 hE1 hf1
  obtain ⟨a1,k1,rfl,_⟩ := ho1.shape
  have hB1 := Own.bytes (ok := fun b => w.heap.size ≤ b) ho1 fun b hb => hf1 b hb
  have hP1 : Upd (ownB (.slice av done.length kv)) w.drew w1 := hE1.mono fun _ h => h.elim
  have hs1 := hE1.size
  simp only [size_drew] at hs1
  refine ⟨hP1,?_⟩
  simp (disch:=(first|omega|(simp only [qI,qJ,qK]<;>omega)|exact qL _ | (refine hnb _ ?_;first | omega | (simp only [World.size_alloc,size_wr,size_drew] <;> omega)))) only [go_sem,↓reduceIte,n0,reduceCtorEq,n1,n2,n3,n4,n5,i0,i1,i2,i3,i4,i5,i6,i7,hbt]
  refine ⟨hP1,?_⟩
  have hP2 : Upd (ownB (.slice av done.length kv)) w.drew (w1.alloc (.cells #[.int .u32 y.1,.slice a1 y.2.length k1] 69)) := hP1.alloc _
  have hn2 : blk (w1.alloc (.cells #[.int .u32 y.1,.slice a1 y.2.length k1] 69)) w1.heap.size = some (#[.int .u32 y.1,.slice a1 y.2.length k1],69,(0,0)) := blk_alloc_new rfl
  have hs2 : (w1.alloc (.cells #[.int .u32 y.1,.slice a1 y.2.length k1] 69)).heap.size = w1.heap.size + 1 := World.size_alloc _ _
  have hE2 : Ext w1 (w1.alloc (.cells #[.int .u32 y.1,.slice a1 y.2.length k1] 69)) := Upd.alloc (Upd.refl _ _) _
  refine ⟨hP2,?_⟩
  try simp only [List.append_nil]
  generalize (w1.alloc (.cells #[.int .u32 y.1,.slice a1 y.2.length k1] 69)) = w2 at *
  have hEw : Ext w w2 := (((Upd.refl _ _).drew).trans hE1).trans hE2
  obtain ⟨css,hown,hall⟩ := (hg.ext hEw).ex
  have hcl := hall.1
  have hx2 : TagC (fun b => OK b ∧ b ≠ tb ∧ ¬ ownB (.slice av done.length kv) b) w2 y [.int .u32 y.1,.slice a1 y.2.length k1] := ⟨_,rfl,(hB1.keep (hE2.keeps _)).weaken fun b _ hk => ⟨hOK b (by omega),by omega,hnb b (.inr hk)⟩,hy⟩
  refine wp_append ap_35_35 (m := 1) (news := [.int .u32 y.1,.slice a1 y.2.length k1]) (n := css.length) (cs := css.flatten) (v := .slice av done.length kv) ?_ rfl hown.1 hall.flat_cells (Src.blk (fr := (0,0)) (T := 69) hn2 rfl rfl) ?_ ?_ ?_
  · first | rfl | simp (disch:=(first|omega|(simp only [qI,qJ,qK]<;>omega)|exact qL _)) only [go_sem,↓reduceIte,n0,reduceCtorEq,n1,n2,n3,n4,n5,i0,i1,i2,i3,i4,i5,i6,i7]
  · omega
  · omega
  intro v' w3 ho hu hfr
  have hg3 := GrowU.snoc hown hall hx2 hu hfr ho
  obtain ⟨va,vc,hv',_⟩ := ho.shape
  subst hv'
  have hP3 := hP2.trans hu
  have hs3 := hu.size
  have hbt3 := hP3.blk_some (show blk w.drew tb = _ from hbt) (hnb _ (.inl htb))
  have hne : ¬ ownB (.slice va (css.length + 1) vc) tb := fun h => (hfr _ h).elim (hnb _ (.inl htb)) (fun h => by omega)
  refine ⟨hP3,?_⟩
  simp (disch:=(first|omega|(simp only [qI,qJ,qK]<;>omega)|exact qL _ | (refine hnb _ ?_;first | omega | (simp only [World.size_alloc,size_wr,size_drew] <;> omega)))) only [go_sem,↓reduceIte,n0,reduceCtorEq,n1,n2,n3,n4,n5,i0,i1,i2,i3,i4,i5,i6,i7,hbt3]
  repeat ((first | refine qA rfl ?_|apply qB|refine qC rfl ?_|apply qD|apply qE|apply qF|apply qG|apply qH);try simp (disch:=(first|omega|(simp only [qI,qJ,qK]<;>omega)|exact qL _)) only [go_sem,↓reduceIte,n0,reduceCtorEq,n1,n2,n3,n4,n5,i0,i1,i2,i3,i4,i5,i6,i7])
  refine ⟨⟨.slice va (css.length + 1) vc,by first | (rw [blk_wr_eq,hbt3];rfl) | rfl | (rw [hbt3];rfl) | (rw [blk_wr_eq,hbt3]),hg3.upd ((Upd.refl _ _).wr _ _ (.inr rfl)) hne⟩,?_⟩
  refine Upd.wr ?_ _ _ (.inr (.inl rfl))
  exact (((Upd.refl (fun b => b = tb ∨ B ≤ b) w).drew).trans (hP3.mono fun b h => .inr (hg.above h)))

set_option maxHeartbeats 4000000 in
theorem tellX1_fn {d : Nat} {ok : Blocks} (t : Tree) (cs : List Value) (w : World) {b o : Nat} {x : Blk} (hb : blk w b = some x) (hq : ∀ k,k < 3 → x.1[o + k]? = cs[k]?) (hR : RepS true (d + 2) fs_X1 ok w t cs) (hg : GoodP (d + 2) fs_X1 t) :
    Fn Tryz.prog 43 #[.pointer (some ⟨b,o,none⟩)] w fun r w' => (∃ c,r = .agg c.toArray ∧ TreeC (fun b => w.heap.size ≤ b) w' (tlP (d + 2) fs_X1 t) c) ∧ Ext w w' := by
  have hbl := blk_lt hb
  obtain ⟨⟨gd0,gd1,-⟩,hgu⟩ := hg
  replace gd0 : GoodF (GoodP (d + 1)) fX1_0 (t.at 0) := gd0
  replace gd1 : GoodF (GoodP (d + 1)) fX1_1 (t.at 1) := gd1
  obtain ⟨cs0,q,hcs,hL,hT⟩ := hR.inv
  obtain ⟨c0,e0,rfl,h0,c1,e1,rfl,h1,rfl⟩ := hL
  replace h0 : RepF (RepS true (d + 1)) (szS true (d + 1)) fX1_0 ok w (t.at 0) c0 := h0
  replace h1 : RepF (RepS true (d + 1)) (szS true (d + 1)) fX1_1 ok w (t.at 1) c1 := h1
  obtain rfl := (RepF_text rfl (by decide)).1 h0
  obtain ⟨ab1,ac1,L1,rfl,hL1,hnn1,hs1⟩ := RepF_listT rfl h1
  have hgl1 := gd1.listL rfl hL1
  obtain ⟨qm,rfl⟩ := hT.shape
  subst hcs
  have hq0 : x.1[o]? = some (strV (t.at 0).s) := hq 0 (by decide)
  have hq1 : x.1[o + 1]? = some (.slice ab1 L1.length ac1) := hq 1 (by decide)
  have hq2 : x.1[o + 2]? = some (.map qm) := hq 2 (by decide)
  refine fn_of_W Tryz.func43 rfl Tryz.results43 Tryz.ntmps43 rfl ?_
  repeat ((first | refine qA rfl ?_|apply qB|refine qC rfl ?_|apply qD|apply qE|apply qF|apply qG|apply qH);try simp (disch:=(first|omega|(simp only [qI,qJ,qK]<;>omega)|exact qL _)) only [go_sem,↓reduceIte,n0,reduceCtorEq,n1,n2,n3,n4,n5,i0,i1,i2,i3,i4,i5,i6,i7])
  refine wp_make (T := 34) (E := 37) (size := 5) (bytes := 88) (z := .agg qZ5) (l := 2) (c := 2) (kl := .i64) (kc := .i64) (by kernel_rfl) (by kernel_rfl) (by first | rfl | (simp (disch:=(first|omega|(simp only [qI,qJ,qK]<;>omega)|exact qL _)) only [go_sem,↓reduceIte,n0,reduceCtorEq,n1,n2,n3,n4,n5,i0,i1,i2,i3,i4,i5,i6,i7];rfl)) (by first | rfl | (simp (disch:=(first|omega|(simp only [qI,qJ,qK]<;>omega)|exact qL _)) only [go_sem,↓reduceIte,n0,reduceCtorEq,n1,n2,n3,n4,n5,i0,i1,i2,i3,i4,i5,i6,i7];rfl)) (by omega) (by omega) (by omega) ?_
  have hmd : madeCells (Value.agg qZ5).cells (2 * 5) = #[.int .i64 0,.slice none 0 0,.bool false,.slice none 0 0,.slice none 0 0,.int .i64 0,.slice none 0 0,.bool false,.slice none 0 0,.slice none 0 0] := by kernel_rfl
  rw [hmd]
  simp (disch:=(first|omega|(simp only [qI,qJ,qK]<;>omega)|exact qL _)) only [go_sem,↓reduceIte,n0,reduceCtorEq,n1,n2,n3,n4,n5,i0,i1,i2,i3,i4,i5,i6,i7]
  repeat ((first | refine qA rfl ?_|apply qB|refine qC rfl ?_|apply qD|apply qE|apply qF|apply qG|apply qH);try simp (disch:=(first|omega|(simp only [qI,qJ,qK]<;>omega)|exact qL _)) only [go_sem,↓reduceIte,n0,reduceCtorEq,n1,n2,n3,n4,n5,i0,i1,i2,i3,i4,i5,i6,i7])
  have hE1 : Ext w (wr (((w.alloc (.cells qZ5 37)).alloc (.cells #[.int .i64 0,.slice none 0 0,.bool false,.slice none 0 0,.slice none 0 0,.int .i64 0,.slice none 0 0,.bool false,.slice none 0 0,.slice none 0 0] 37)).alloc (.cells qZ5 37)) (w.heap.size + 2) 0 [.int .i64 0,.slice none 0 0,.bool false,.slice (some ⟨w.heap.size + 1,0,none⟩) 2 2,.slice none 0 0]) := (Upd.alloc (Upd.alloc (Upd.alloc (Upd.refl _ _) _) _) _).wr _ _ (.inl (by omega))
  have hz1 : (wr (((w.alloc (.cells qZ5 37)).alloc (.cells #[.int .i64 0,.slice none 0 0,.bool false,.slice none 0 0,.slice none 0 0,.int .i64 0,.slice none 0 0,.bool false,.slice none 0 0,.slice none 0 0] 37)).alloc (.cells qZ5 37)) (w.heap.size + 2) 0 [.int .i64 0,.slice none 0 0,.bool false,.slice (some ⟨w.heap.size + 1,0,none⟩) 2 2,.slice none 0 0]).heap.size = w.heap.size + 3 := by simp only [size_wr,World.size_alloc]
  have hl1 : blk (wr (((w.alloc (.cells qZ5 37)).alloc (.cells #[.int .i64 0,.slice none 0 0,.bool false,.slice none 0 0,.slice none 0 0,.int .i64 0,.slice none 0 0,.bool false,.slice none 0 0,.slice none 0 0] 37)).alloc (.cells qZ5 37)) (w.heap.size + 2) 0 [.int .i64 0,.slice none 0 0,.bool false,.slice (some ⟨w.heap.size + 1,0,none⟩) 2 2,.slice none 0 0]) (w.heap.size + 1) = some (#[.int .i64 0,.slice none 0 0,.bool false,.slice none 0 0,.slice none 0 0,.int .i64 0,.slice none 0 0,.bool false,.slice none 0 0,.slice none 0 0],37,(0,0)) := by simp (disch:=(first|omega|(simp only [qI,qJ,qK]<;>omega)|exact qL _)) only [go_sem,↓reduceIte,n0,reduceCtorEq,n1,n2,n3,n4,n5,i0,i1,i2,i3,i4,i5,i6,i7]
  have ht1 : blk (wr (((w.alloc (.cells qZ5 37)).alloc (.cells #[.int .i64 0,.slice none 0 0,.bool false,.slice none 0 0,.slice none 0 0,.int .i64 0,.slice none 0 0,.bool false,.slice none 0 0,.slice none 0 0] 37)).alloc (.cells qZ5 37)) (w.heap.size + 2) 0 [.int .i64 0,.slice none 0 0,.bool false,.slice (some ⟨w.heap.size + 1,0,none⟩) 2 2,.slice none 0 0]) (w.heap.size + 2) = some (#[.int .i64 0,.slice none 0 0,.bool false,.slice (some ⟨w.heap.size + 1,0,none⟩) 2 2,.slice none 0 0],37,(0,0)) := by simp (disch:=(first|omega|(simp only [qI,qJ,qK]<;>omega)|exact qL _)) only [go_sem,↓reduceIte,n0,reduceCtorEq,n1,n2,n3,n4,n5,i0,i1,i2,i3,i4,i5,i6,i7]
  have hr1 : blk (wr (((w.alloc (.cells qZ5 37)).alloc (.cells #[.int .i64 0,.slice none 0 0,.bool false,.slice none 0 0,.slice none 0 0,.int .i64 0,.slice none 0 0,.bool false,.slice none 0 0,.slice none 0 0] 37)).alloc (.cells qZ5 37)) (w.heap.size + 2) 0 [.int .i64 0,.slice none 0 0,.bool false,.slice (some ⟨w.heap.size + 1,0,none⟩) 2 2,.slice none 0 0]) w.heap.size = some (qZ5,37,(0,0)) := by simp (disch:=(first|omega|(simp only [qI,qJ,qK]<;>omega)|exact qL _)) only [go_sem,↓reduceIte,n0,reduceCtorEq,n1,n2,n3,n4,n5,i0,i1,i2,i3,i4,i5,i6,i7]
  generalize (wr (((w.alloc (.cells qZ5 37)).alloc (.cells #[.int .i64 0,.slice none 0 0,.bool false,.slice none 0 0,.slice none 0 0,.int .i64 0,.slice none 0 0,.bool false,.slice none 0 0,.slice none 0 0] 37)).alloc (.cells qZ5 37)) (w.heap.size + 2) 0 [.int .i64 0,.slice none 0 0,.bool false,.slice (some ⟨w.heap.size + 1,0,none⟩) 2 2,.slice none 0 0]) = w1 at *
  have hU1 : Upd (fun b => b = w.heap.size + 1 ∨ b = w.heap.size + 2) w1 w1 := Upd.refl _ _
  have hb1 := hE1.blk_some hb id
  repeat ((first | refine qA rfl ?_|apply qB|refine qC rfl ?_|apply qD|apply qE|apply qF|apply qG|apply qH);try simp (disch:=(first|omega|(simp only [qI,qJ,qK]<;>omega)|exact qL _)) only [go_sem,↓reduceIte,n0,reduceCtorEq,n1,n2,n3,n4,n5,i0,i1,i2,i3,i4,i5,i6,i7,hb1,hl1,ht1,hq0,hq1,hq2])
  refine W.drawR (.take 0 (.take 1 (.take 2 (.take 3 (.take 4 (.take 5 (.only 6 (.only 7 (.take 8 (.last 9)))))))))) (NoB) mixed (by kernel_rfl) ?_
  try simp (disch:=(first|omega|(simp only [qI,qJ,qK]<;>omega)|exact qL _)) only [go_sem,↓reduceIte,n0,reduceCtorEq,n1,n2,n3,n4,n5,i0,i1,i2,i3,i4,i5,i6,i7,hb1,hl1,ht1,hq0,hq1,hq2]
  refine wp_octets (S := 9) (T := 22) (E := 5) (s := (t.at 0).s) (by kernel_rfl) (by kernel_rfl) (by kernel_rfl) (by first | rfl | simp (disch:=(first|omega|(simp only [qI,qJ,qK]<;>omega)|exact qL _)) only [go_sem,↓reduceIte,n0,reduceCtorEq,n1,n2,n3,n4,n5,i0,i1,i2,i3,i4,i5,i6,i7,hb1,hl1,ht1,hq0,hq1,hq2]) ?_
  intro a2 k2 w2 hB2 hEx2
  have hP2 : Upd NoB w1.drew w2 := (Upd.refl _ _).trans (hEx2.mono fun _ h => h.elim)
  have hsq2 := hEx2.size
  try simp only [size_drew] at hsq2
  refine ⟨hP2,?_⟩
  try simp (disch:=(first|omega|(simp only [qI,qJ,qK]<;>omega)|exact qL _)) only [go_sem,↓reduceIte,n0,reduceCtorEq,n1,n2,n3,n4,n5,i0,i1,i2,i3,i4,i5,i6,i7,hb1,hl1,ht1,hq0,hq1,hq2]
  refine ⟨hP2,?_⟩
  have hlq3 := hP2.blk_some (show blk w1.drew (w.heap.size + 1) = _ from hl1) id
  have hx3 : Upd (fun b => b = w.heap.size + 1 ∨ b = w.heap.size + 2) w1 w2 := ((Upd.refl _ _).drew).trans (hP2.mono fun _ h => h.elim)
  try simp (disch:=(first|omega|(simp only [qI,qJ,qK]<;>omega)|exact qL _)) only [go_sem,↓reduceIte,n0,reduceCtorEq,n1,n2,n3,n4,n5,i0,i1,i2,i3,i4,i5,i6,i7,hlq3]
  generalize hw3 : wr w2 (w.heap.size + 1) 0 [.int .i64 0,.slice (some a2) ((t.at 0).s).length k2,.bool false,.slice none 0 0,.slice none 0 0] = w3
  have hl3 : blk w3 (w.heap.size + 1) = some (#[.int .i64 0,.slice (some a2) ((t.at 0).s).length k2,.bool false,.slice none 0 0,.slice none 0 0,.int .i64 0,.slice none 0 0,.bool false,.slice none 0 0,.slice none 0 0],37,(0,0)) := by rw [← hw3,blk_wr_eq,hlq3];rfl
  have hv3 : Upd (fun b => b = w.heap.size + 1 ∨ b = w.heap.size + 2) w2 w3 := by rw [← hw3];exact (Upd.refl _ _).wr _ _ (.inr (.inl rfl))
  have hV3 : Upd (fun b => b = w.heap.size + 1 ∨ b = w.heap.size + 2) w1 w3 := hx3.trans hv3
  have hU3 : Upd (fun b => b = w.heap.size + 1 ∨ b = w.heap.size + 2) w1 w3 := hU1.trans hV3
  have hz3 := hU3.size
  have hX3 : Ext w w3 := hE1.more hU3 fun b hb h => by omega
  have hb3 := hX3.blk_some hb id
  have ht3 : blk w3 (w.heap.size + 2) = some (#[.int .i64 0,.slice none 0 0,.bool false,.slice (some ⟨w.heap.size + 1,0,none⟩) 2 2,.slice none 0 0],37,(0,0)) := by
    rw [← hw3,blk_wr_ne (by omega)]
    exact hP2.blk_some (show blk w1.drew (w.heap.size + 2) = _ from ht1) id
  clear hw3
  have hf0 : TreeC (fun b => w1.heap.size ≤ b) w3 (.oct false (t.at 0).s) [.int .i64 0,.slice (some a2) ((t.at 0).s).length k2,.bool false,.slice none 0 0,.slice none 0 0] := (TreeC.keep (hv3.keeps fun b hb hk e => by have hk' : w1.heap.size ≤ b := hk;omega) (TreeC.intro rfl (hB2.weaken fun b _ hk => by have hk' : w1.drew.heap.size ≤ b := hk;(try simp only [size_drew] at hk');omega) (treesN _ _) (tagsN _ _) : TreeC (fun b => w1.heap.size ≤ b) w2 (.oct false (t.at 0).s) [.int .i64 0,.slice (some a2) ((t.at 0).s).length k2,.bool false,.slice none 0 0,.slice none 0 0]))
  repeat ((first | refine qA rfl ?_|apply qB|refine qC rfl ?_|apply qD|apply qE|apply qF|apply qG|apply qH);try simp (disch:=(first|omega|(simp only [qI,qJ,qK]<;>omega)|exact qL _)) only [go_sem,↓reduceIte,n0,reduceCtorEq,n1,n2,n3,n4,n5,i0,i1,i2,i3,i4,i5,i6,i7,hb3,hl3,ht3,hq0,hq1,hq2])
  refine W.drawR (.take 0 (.take 1 (.take 2 (.take 3 (.take 4 (.take 5 (.take 6 (.take 7 (.take 8 (.last 9)))))))))) (NoB) mixed (by kernel_rfl) ?_
  try simp (disch:=(first|omega|(simp only [qI,qJ,qK]<;>omega)|exact qL _)) only [go_sem,↓reduceIte,n0,reduceCtorEq,n1,n2,n3,n4,n5,i0,i1,i2,i3,i4,i5,i6,i7,hb3,hl3,ht3,hq0,hq1,hq2,hnn1]
  generalize hw4 : wr w3.drew (w.heap.size + 1) 7 [.bool (t.at 1).null] = w4
  have hl4 : blk w4 (w.heap.size + 1) = some (#[.int .i64 0,.slice (some a2) ((t.at 0).s).length k2,.bool false,.slice none 0 0,.slice none 0 0,.int .i64 0,.slice none 0 0,.bool (t.at 1).null,.slice none 0 0,.slice none 0 0],37,(0,0)) := by rw [← hw4,blk_wr_eq,show blk w3.drew (w.heap.size + 1) = _ from hl3];rfl
  have hV4 : Upd (fun b => b = w.heap.size + 1 ∨ b = w.heap.size + 2) w3 w4 := by rw [← hw4];exact ((Upd.refl _ _).drew).wr _ _ (.inr (.inl rfl))
  have hU4 : Upd (fun b => b = w.heap.size + 1 ∨ b = w.heap.size + 2) w1 w4 := hU3.trans hV4
  have hz4 := hU4.size
  have hX4 : Ext w w4 := hE1.more hU4 fun b hb h => by omega
  have hb4 := hX4.blk_some hb id
  have ht4 : blk w4 (w.heap.size + 2) = some (#[.int .i64 0,.slice none 0 0,.bool false,.slice (some ⟨w.heap.size + 1,0,none⟩) 2 2,.slice none 0 0],37,(0,0)) := by
    rw [← hw4,blk_wr_ne (by omega)]
    exact ht3
  clear hw4
  repeat ((first | refine qA rfl ?_|apply qB|refine qC rfl ?_|apply qD|apply qE|apply qF|apply qG|apply qH);try simp (disch:=(first|omega|(simp only [qI,qJ,qK]<;>omega)|exact qL _)) only [go_sem,↓reduceIte,n0,reduceCtorEq,n1,n2,n3,n4,n5,i0,i1,i2,i3,i4,i5,i6,i7,hb4,hl4,ht4,hq0,hq1,hq2])
  refine W.exitJ 0 (EndQ [(0,.pointer (some ⟨b,o,none⟩)),(2,.pointer (some ⟨w.heap.size,0,none⟩)),(3,.pointer (some ⟨w.heap.size + 2,0,none⟩)),(29,.int .i64 L1.length)] (fun w' => ∃ v,blk w' (w.heap.size + 1) = some (#[.int .i64 0,.slice (some a2) ((t.at 0).s).length k2,.bool false,.slice none 0 0,.slice none 0 0,.int .i64 0,.slice none 0 0,.bool (t.at 1).null,v,.slice none 0 0],37,(0,0)) ∧ GrowT (fun b => w1.heap.size ≤ b) w4.heap.size (w.heap.size + 1) w' 37 v (L1.map (tl1 (tlP (d + 1)) fX1_1.of fX1_1.sub)) ∧ Upd (fun b => b = w.heap.size + 1) w4 w')) (W.loop (LoopL [(0,.pointer (some ⟨b,o,none⟩)),(2,.pointer (some ⟨w.heap.size,0,none⟩)),(3,.pointer (some ⟨w.heap.size + 2,0,none⟩)),(29,.int .i64 L1.length)] 30 (fun j w' => ∃ v,j ≤ L1.length ∧ blk w' (w.heap.size + 1) = some (#[.int .i64 0,.slice (some a2) ((t.at 0).s).length k2,.bool false,.slice none 0 0,.slice none 0 0,.int .i64 0,.slice none 0 0,.bool (t.at 1).null,v,.slice none 0 0],37,(0,0)) ∧ GrowT (fun b => w1.heap.size ≤ b) w4.heap.size (w.heap.size + 1) w' 37 v ((L1.take j).map (tl1 (tlP (d + 1)) fX1_1.of fX1_1.sub)) ∧ Upd (fun b => b = w.heap.size + 1) w4 w')) (fun ρ _ => L1.length - (RowKit.intOf (ρ 30)).toNat) ?_ ?_) ?_
  · exact ⟨(by simp (disch:=(first|omega|(simp only [qI,qJ,qK]<;>omega)|exact qL _)) only [go_sem,↓reduceIte,n0,reduceCtorEq,n1,n2,n3,n4,n5,i0,i1,i2,i3,i4,i5,i6,i7,Holds_nil,Holds_cons]),0,(by simp (disch:=(first|omega|(simp only [qI,qJ,qK]<;>omega)|exact qL _)) only [go_sem,↓reduceIte,n0,reduceCtorEq,n1,n2,n3,n4,n5,i0,i1,i2,i3,i4,i5,i6,i7];all_goals rfl),.slice none 0 0,Nat.zero_le _,hl4,GrowT.nil _ _ _ _ _,Upd.refl _ _⟩
  · rintro ρ w5 ⟨⟨hrc1_0,hrc1_2,hrc1_3,hrc1_29,-⟩,j,hri,v,hj,hl5,hg,hUk⟩
    have hzk := hUk.size
    have hX5 : Ext w w5 := hX4.more hUk fun b hb h => by omega
    have hz5 : w1.heap.size ≤ w5.heap.size := by have := hz4;omega
    have hb5 := hX5.blk_some hb id
    have ht5 := hUk.blk_some ht4 (by omega)
    by_cases hlt : j < L1.length
    · obtain ⟨_,be,oe,xe,ce,hbe,hoke,hxe,hble,hxs,hxx,hqe,hRe⟩ := SlR.get (size := 3) (by decide) hs1 hlt
      subst hbe
      have hcat : L1.take (j + 1) = L1.take j ++ [L1[j]] := List.take_succ_eq_append_getElem hlt
      have hgy := hgl1.2 _ (List.getElem_mem hlt)
      have hll := hgl1.1
      obtain ⟨av,kv,hvs,_⟩ := hg.shape
      have hlj : (List.map (tl1 (tlP (d + 1)) fX1_1.of fX1_1.sub) (L1.take j)).length = j := by simp;omega
      rw [hlj] at hvs
      subst hvs
      have hnb : ∀ b,b < w4.heap.size ∨ w5.heap.size ≤ b → ¬ ownB (.slice av j kv) b := fun b hb h => by
        have := hg.above h
        have := hg.below h
        omega
      generalize L1[j] = y at *
      repeat ((first | refine qA rfl ?_|apply qB|refine qC rfl ?_|apply qD|apply qE|apply qF|apply qG|apply qH);try simp (disch:=(first|omega|(simp only [qI,qJ,qK]<;>omega)|exact qL _)) only [go_sem,↓reduceIte,n0,reduceCtorEq,n1,n2,n3,n4,n5,i0,i1,i2,i3,i4,i5,i6,i7,hb5,hl5,ht5,hq0,hq1,hq2,hrc1_0,hrc1_2,hrc1_3,hrc1_29,hri])
      refine W.drawR (.only 0 (.two 1 (.only 2 (.only 3 .done)) 2 (.only 1 (.only 3 .done)))) NoB mixed (by kernel_rfl) ?_
      try simp (disch:=(first|omega|(simp only [qI,qJ,qK]<;>omega)|exact qL _)) only [go_sem,↓reduceIte,n0,reduceCtorEq,n1,n2,n3,n4,n5,i0,i1,i2,i3,i4,i5,i6,i7,hb5,hl5,ht5,hq0,hq1,hq2,hrc1_0,hrc1_2,hrc1_3,hrc1_29,hri]
      have q0 : Upd NoB w5.drew (w5.alloc (.cells #[.bool false] 4)).drew := show Upd NoB w5.drew (w5.drew.alloc (.cells #[.bool false] 4)) from Upd.alloc (Upd.refl _ _) _
      have q1 : Upd NoB w5.drew (wr (w5.alloc (.cells #[.bool false] 4)).drew w5.heap.size 0 [.bool true]) := q0.wr _ _ (.inl (Nat.le_refl _))
      have q2 : Upd NoB w5.drew (wr (wr (w5.alloc (.cells #[.bool false] 4)).drew w5.heap.size 0 [.bool true]) w5.heap.size 0 [.bool false]) := q1.wr _ _ (.inl (Nat.le_refl _))
      have q3 : Upd NoB w5.drew (wr (w5.alloc (.cells #[.bool false] 4)).drew w5.heap.size 0 [.bool false]) := q0.wr _ _ (.inl (Nat.le_refl _))
      have q4 : Upd NoB w5.drew (wr (wr (w5.alloc (.cells #[.bool false] 4)).drew w5.heap.size 0 [.bool false]) w5.heap.size 0 [.bool true]) := q3.wr _ _ (.inl (Nat.le_refl _))
      refine ⟨q0,⟨q1,q2,q2,?_⟩,⟨q3,q4,q4,?_⟩⟩
      · have hk6 : Ext w5 (wr (wr (w5.alloc (.cells #[.bool false] 4)).drew w5.heap.size 0 [.bool true]) w5.heap.size 0 [.bool false]) := ((Upd.refl _ _).drew).trans q2
        generalize (wr (wr (w5.alloc (.cells #[.bool false] 4)).drew w5.heap.size 0 [.bool true]) w5.heap.size 0 [.bool false]) = w6 at *
        have hzk6 := hk6.size
        have hX6 : Ext w w6 := hX5.trans hk6
        have hb6 := hk6.blk_some hb5 id
        have hl6 := hk6.blk_some hl5 id
        have ht6 := hk6.blk_some ht5 id
        have hxe6 := hX6.blk_some hxe id
        repeat ((first | refine qA rfl ?_|apply qB|refine qC rfl ?_|apply qD|apply qE|apply qF|apply qG|apply qH);try simp (disch:=(first|omega|(simp only [qI,qJ,qK]<;>omega)|exact qL _)) only [go_sem,↓reduceIte,n0,reduceCtorEq,n1,n2,n3,n4,n5,i0,i1,i2,i3,i4,i5,i6,i7,hb6,hl6,ht6,hxe6,Int.toNat_natCast,Nat.mul_one,hq0,hq1,hq2,hrc1_0,hrc1_2,hrc1_3,hrc1_29,hri])
        refine W.drawR (.take 0 (.take 1 (.take 2 (.take 3 (.take 4 (.take 5 (.take 6 (.take 7 (.take 8 (.take 9 (.take 10 (.take 11 (.take 12 (.only 13 (.only 14 (.only 15 (.take 16 (.take 17 (.last 18))))))))))))))))))) (ownB (.slice av j kv)) mixed (by kernel_rfl) ?_
        try simp (disch:=(first|omega|(simp only [qI,qJ,qK]<;>omega)|exact qL _ | (refine hnb _ ?_;first | omega | (simp only [World.size_alloc,size_wr,size_drew] <;> omega)))) only [go_sem,↓reduceIte,n0,reduceCtorEq,n1,n2,n3,n4,n5,i0,i1,i2,i3,i4,i5,i6,i7,hb6,hl6,ht6,hxe6,Int.toNat_natCast,Nat.mul_one,hq0,hq1,hq2,hrc1_0,hrc1_2,hrc1_3,hrc1_29,hri]
        have hxq7 := (Upd.refl _ _ : Upd (ownB (.slice av j kv)) w6.drew w6.drew).blk_some (show blk w6.drew be = _ from hxe6) (hnb _ (.inl (by omega)))
        refine (tellX0_fn (d := d) (ok := ok) y ce w6.drew (b := be) (o := oe + j * 3) hxq7 (fun k hk => by have := hqe k hk;rw [← Nat.add_assoc] at this;exact this) ((RepS_lay true _ _).keep (Rep1_part.1 hRe) ((((hX6.drew).mono fun _ h => h.elim).trans (Upd.refl _ _) : Upd (ownB (.slice av j kv)) w w6.drew).keeps fun b hb _ => hnb b (.inl (by omega)))) (hgy.2.2 rfl)).mono ?_
        rintro _ w7 ⟨⟨c7,rfl,hc7⟩,hEx7⟩
        obtain ⟨T7,hT7⟩ : ∃ T,T = tlP (d + 1) fs_X0 y := ⟨_,rfl⟩
        replace hc7 : TreeC (fun b => w6.drew.heap.size ≤ b) w7 T7 c7 := by rw [hT7];exact hc7
        obtain ⟨vS7,vL7,vU7,rfl,hn7,hS7,hLL7,hUU7⟩ := hc7.inv
        have k1_7 := hS7.flat
        have k2_7 := SlR.flat hLL7
        have k3_7 := SlR.flat hUU7
        have hP7 : Upd (ownB (.slice av j kv)) w6.drew w7 := (Upd.refl _ _).trans (hEx7.mono fun _ h => h.elim)
        have hsq7 := hEx7.size
        try simp only [size_drew] at hsq7
        refine ⟨hP7,?_⟩
        try simp (disch:=(first|omega|(simp only [qI,qJ,qK]<;>omega)|exact qL _ | (refine hnb _ ?_;first | omega | (simp only [World.size_alloc,size_wr,size_drew] <;> omega)))) only [go_sem,↓reduceIte,n0,reduceCtorEq,n1,n2,n3,n4,n5,i0,i1,i2,i3,i4,i5,i6,i7,hb6,hl6,ht6,hxe6,Int.toNat_natCast,Nat.mul_one,hq0,hq1,hq2,hrc1_0,hrc1_2,hrc1_3,hrc1_29,hri,k1_7,k2_7,k3_7]
        have hP8 : Upd (ownB (.slice av j kv)) w6.drew (w7.alloc (.cells #[.int .i64 T7.n,vS7,.bool T7.null,vL7,vU7] 37)) := show Upd (ownB (.slice av j kv)) w6.drew (w7.alloc (.cells #[.int .i64 T7.n,vS7,.bool T7.null,vL7,vU7] 37)) from (hP7).alloc _
        have hn8 : blk (w7.alloc (.cells #[.int .i64 T7.n,vS7,.bool T7.null,vL7,vU7] 37)) w7.heap.size = some (#[.int .i64 T7.n,vS7,.bool T7.null,vL7,vU7],37,(0,0)) := show blk (w7.alloc (.cells #[.int .i64 T7.n,vS7,.bool T7.null,vL7,vU7] 37)) w7.heap.size = some (#[.int .i64 T7.n,vS7,.bool T7.null,vL7,vU7],37,(0,0)) from blk_alloc_new rfl
        have hsq8 : (w7.alloc (.cells #[.int .i64 T7.n,vS7,.bool T7.null,vL7,vU7] 37)).heap.size = w7.heap.size + 1 := show (w7.alloc (.cells #[.int .i64 T7.n,vS7,.bool T7.null,vL7,vU7] 37)).heap.size = w7.heap.size + 1 from World.size_alloc _ _
        have hEx8 : Ext w7 (w7.alloc (.cells #[.int .i64 T7.n,vS7,.bool T7.null,vL7,vU7] 37)) := show Ext w7 (w7.alloc (.cells #[.int .i64 T7.n,vS7,.bool T7.null,vL7,vU7] 37)) from Upd.alloc (Upd.refl _ _) _
        refine ⟨hP8,?_⟩
        try simp only [List.append_nil]
        generalize (w7.alloc (.cells #[.int .i64 T7.n,vS7,.bool T7.null,vL7,vU7] 37)) = w8 at *
        try simp only [size_drew] at hsq8
        have hEw9 : Ext w5 w8 := ((hk6.drew.trans hEx7).trans hEx8)
        have hzw9 := hEw9.size
        obtain ⟨css,hown,hall⟩ := (hg.ext hEw9).ex
        have hcl := hall.1
        rw [hlj] at hcl
        have hx9 : TreeC (fun b => (fun b => w1.heap.size ≤ b) b ∧ b ≠ w.heap.size + 1 ∧ ¬ ownB (.slice av j kv) b) w8 ((tl1 (tlP (d + 1)) fX1_1.of fX1_1.sub) y) [.int .i64 T7.n,vS7,.bool T7.null,vL7,vU7] := by
          rw [show (tl1 (tlP (d + 1)) fX1_1.of fX1_1.sub) y = _ from hT7.symm]
          exact TreeC.weaken (fun b _ hk => ⟨by omega,by omega,hnb b (.inr (by omega))⟩) (TreeC.weaken (ok' := fun b => w5.heap.size ≤ b) (fun b _ hk => by have hk' : w6.drew.heap.size ≤ b := hk;(try simp only [size_drew] at hk');omega) (TreeC.keep (Ext.keeps hEx8 _) hc7))
        refine wp_append ap_34_34 (m := 1) (news := [.int .i64 T7.n,vS7,.bool T7.null,vL7,vU7]) (n := css.length) (cs := css.flatten) (v := (.slice av j kv)) ?_ rfl hown.1 (all2_flat_tree hall) (Src.blk (fr := (0,0)) (T := 37) hn8 rfl (by simp only [List.all_cons,List.all_nil,flat_int,flat_bool,k1_7,k2_7,k3_7,Bool.and_self])) ?_ ?_ ?_
        · first | rfl | simp (disch:=(first|omega|(simp only [qI,qJ,qK]<;>omega)|exact qL _)) only [go_sem,↓reduceIte,n0,reduceCtorEq,n1,n2,n3,n4,n5,i0,i1,i2,i3,i4,i5,i6,i7]
        · omega
        · omega
        intro v' w9 ho hu hfr
        have hP9 := (hP8 : Upd (ownB (.slice av j kv)) w6.drew w8).trans hu
        have hzq9 := hP9.size
        simp only [size_drew] at hzq9
        have hlq9 := hP9.blk_some (show blk w6.drew (w.heap.size + 1) = _ from hl6) (hnb _ (.inl (by omega)))
        have hg' := GrowT.snoc hown hall hx9 hu hfr ho
        obtain ⟨va,vc,hv',_⟩ := ho.shape
        subst hv'
        have hne : ¬ ownB (.slice va (css.length + 1) vc) (w.heap.size + 1) := fun h => (hfr _ h).elim (hnb _ (.inl (by omega))) (fun h => by omega)
        refine ⟨hP9,?_⟩
        try simp (disch:=(first|omega|(simp only [qI,qJ,qK]<;>omega)|exact qL _ | (refine hnb _ ?_;first | omega | (simp only [World.size_alloc,size_wr,size_drew] <;> omega)))) only [go_sem,↓reduceIte,n0,reduceCtorEq,n1,n2,n3,n4,n5,i0,i1,i2,i3,i4,i5,i6,i7,hlq9,Int.toNat_natCast,Nat.mul_one,hrc1_0,hrc1_2,hrc1_3,hrc1_29,hri]
        repeat ((first | refine qA rfl ?_|apply qB|refine qC rfl ?_|apply qD|apply qE|apply qF|apply qG|apply qH);try simp (disch:=(first|omega|(simp only [qI,qJ,qK]<;>omega)|exact qL _)) only [go_sem,↓reduceIte,n0,reduceCtorEq,n1,n2,n3,n4,n5,i0,i1,i2,i3,i4,i5,i6,i7,hlq9,Int.toNat_natCast,Nat.mul_one,hrc1_0,hrc1_2,hrc1_3,hrc1_29,hri])
        refine ⟨⟨(by simp (disch:=(first|omega|(simp only [qI,qJ,qK]<;>omega)|exact qL _)) only [go_sem,↓reduceIte,n0,reduceCtorEq,n1,n2,n3,n4,n5,i0,i1,i2,i3,i4,i5,i6,i7,Holds_nil,Holds_cons,hrc1_0,hrc1_2,hrc1_3,hrc1_29,hri]),j + 1,(by simp (disch:=(first|omega|(simp only [qI,qJ,qK]<;>omega)|exact qL _)) only [go_sem,↓reduceIte,n0,reduceCtorEq,n1,n2,n3,n4,n5,i0,i1,i2,i3,i4,i5,i6,i7,hrc1_0,hrc1_2,hrc1_3,hrc1_29,hri];all_goals rfl),.slice va (css.length + 1) vc,by omega,?_,?_,?_⟩,?_⟩
        · rw [blk_wr_eq,hlq9];rfl
        · rw [hcat,List.map_append];exact hg'.upd ((Upd.refl _ _).wr _ _ (.inr rfl)) hne
        · refine Upd.wr ?_ _ _ (.inr rfl)
          exact (hUk.more ((hEw9.mono fun _ h => h.elim).trans hu) fun b hb h => absurd h (hnb b (.inl hb)))
        · try simp (disch:=(first|omega|(simp only [qI,qJ,qK]<;>omega)|exact qL _)) only [go_sem,↓reduceIte,n0,reduceCtorEq,n1,n2,n3,n4,n5,i0,i1,i2,i3,i4,i5,i6,i7,hrc1_0,hrc1_2,hrc1_3,hrc1_29,hri]
          simp only [RowKit.intOf];omega
      · have hk10 : Ext w5 (wr (wr (w5.alloc (.cells #[.bool false] 4)).drew w5.heap.size 0 [.bool false]) w5.heap.size 0 [.bool true]) := ((Upd.refl _ _).drew).trans q4
        generalize (wr (wr (w5.alloc (.cells #[.bool false] 4)).drew w5.heap.size 0 [.bool false]) w5.heap.size 0 [.bool true]) = w10 at *
        have hzk10 := hk10.size
        have hX10 : Ext w w10 := hX5.trans hk10
        have hb10 := hk10.blk_some hb5 id
        have hl10 := hk10.blk_some hl5 id
        have ht10 := hk10.blk_some ht5 id
        have hxe10 := hX10.blk_some hxe id
        repeat ((first | refine qA rfl ?_|apply qB|refine qC rfl ?_|apply qD|apply qE|apply qF|apply qG|apply qH);try simp (disch:=(first|omega|(simp only [qI,qJ,qK]<;>omega)|exact qL _)) only [go_sem,↓reduceIte,n0,reduceCtorEq,n1,n2,n3,n4,n5,i0,i1,i2,i3,i4,i5,i6,i7,hb10,hl10,ht10,hxe10,Int.toNat_natCast,Nat.mul_one,hq0,hq1,hq2,hrc1_0,hrc1_2,hrc1_3,hrc1_29,hri])
        refine W.drawR (.take 0 (.take 1 (.take 2 (.take 3 (.take 4 (.take 5 (.take 6 (.take 7 (.take 8 (.take 9 (.take 10 (.take 12 (.two 11 (.only 13 (.only 14 (.take 15 (.take 16 (.last 17))))) 13 (.only 11 (.only 14 (.take 15 (.take 16 (.last 17)))))))))))))))))) (ownB (.slice av j kv)) mixed (by kernel_rfl) ?_
        try simp (disch:=(first|omega|(simp only [qI,qJ,qK]<;>omega)|exact qL _ | (refine hnb _ ?_;first | omega | (simp only [World.size_alloc,size_wr,size_drew] <;> omega)))) only [go_sem,↓reduceIte,n0,reduceCtorEq,n1,n2,n3,n4,n5,i0,i1,i2,i3,i4,i5,i6,i7,hb10,hl10,ht10,hxe10,Int.toNat_natCast,Nat.mul_one,hq0,hq1,hq2,hrc1_0,hrc1_2,hrc1_3,hrc1_29,hri]
        refine ⟨?_,?_⟩
        · skip
          have hxq11 := (Upd.refl _ _ : Upd (ownB (.slice av j kv)) w10.drew w10.drew).blk_some (show blk w10.drew be = _ from hxe10) (hnb _ (.inl (by omega)))
          refine (tellX0_fn (d := d) (ok := ok) y ce w10.drew (b := be) (o := oe + j * 3) hxq11 (fun k hk => by have := hqe k hk;rw [← Nat.add_assoc] at this;exact this) ((RepS_lay true _ _).keep (Rep1_part.1 hRe) ((((hX10.drew).mono fun _ h => h.elim).trans (Upd.refl _ _) : Upd (ownB (.slice av j kv)) w w10.drew).keeps fun b hb _ => hnb b (.inl (by omega)))) (hgy.2.2 rfl)).mono ?_
          rintro _ w11 ⟨⟨c11,rfl,hc11⟩,hEx11⟩
          obtain ⟨T11,hT11⟩ : ∃ T,T = tlP (d + 1) fs_X0 y := ⟨_,rfl⟩
          replace hc11 : TreeC (fun b => w10.drew.heap.size ≤ b) w11 T11 c11 := by rw [hT11];exact hc11
          obtain ⟨vS11,vL11,vU11,rfl,hn11,hS11,hLL11,hUU11⟩ := hc11.inv
          have k1_11 := hS11.flat
          have k2_11 := SlR.flat hLL11
          have k3_11 := SlR.flat hUU11
          have hP11 : Upd (ownB (.slice av j kv)) w10.drew w11 := (Upd.refl _ _).trans (hEx11.mono fun _ h => h.elim)
          have hsq11 := hEx11.size
          try simp only [size_drew] at hsq11
          refine ⟨hP11,?_⟩
          try simp (disch:=(first|omega|(simp only [qI,qJ,qK]<;>omega)|exact qL _ | (refine hnb _ ?_;first | omega | (simp only [World.size_alloc,size_wr,size_drew] <;> omega)))) only [go_sem,↓reduceIte,n0,reduceCtorEq,n1,n2,n3,n4,n5,i0,i1,i2,i3,i4,i5,i6,i7,hb10,hl10,ht10,hxe10,Int.toNat_natCast,Nat.mul_one,hq0,hq1,hq2,hrc1_0,hrc1_2,hrc1_3,hrc1_29,hri,k1_11,k2_11,k3_11]
          have hP12 : Upd (ownB (.slice av j kv)) w10.drew (w11.alloc (.cells qZ5 37)) := show Upd (ownB (.slice av j kv)) w10.drew (w11.alloc (.cells qZ5 37)) from (hP11).alloc _
          have hn12 : blk (w11.alloc (.cells qZ5 37)) w11.heap.size = some (qZ5,37,(0,0)) := show blk (w11.alloc (.cells qZ5 37)) w11.heap.size = some (qZ5,37,(0,0)) from blk_alloc_new rfl
          have hsq12 : (w11.alloc (.cells qZ5 37)).heap.size = w11.heap.size + 1 := show (w11.alloc (.cells qZ5 37)).heap.size = w11.heap.size + 1 from World.size_alloc _ _
          have hEx12 : Ext w11 (w11.alloc (.cells qZ5 37)) := show Ext w11 (w11.alloc (.cells qZ5 37)) from Upd.alloc (Upd.refl _ _) _
          refine ⟨hP12,?_⟩
          try simp only [List.append_nil]
          generalize (w11.alloc (.cells qZ5 37)) = w12 at *
          try simp only [size_drew] at hsq12
          have hEw13 : Ext w5 w12 := ((hk10.drew.trans hEx11).trans hEx12)
          have hzw13 := hEw13.size
          obtain ⟨css,hown,hall⟩ := (hg.ext hEw13).ex
          have hcl := hall.1
          rw [hlj] at hcl
          have hx13 : TreeC (fun b => (fun b => w1.heap.size ≤ b) b ∧ b ≠ w.heap.size + 1 ∧ ¬ ownB (.slice av j kv) b) w12 ((tl1 (tlP (d + 1)) fX1_1.of fX1_1.sub) y) [.int .i64 T11.n,vS11,.bool T11.null,vL11,vU11] := by
            rw [show (tl1 (tlP (d + 1)) fX1_1.of fX1_1.sub) y = _ from hT11.symm]
            exact TreeC.weaken (fun b _ hk => ⟨by omega,by omega,hnb b (.inr (by omega))⟩) (TreeC.weaken (ok' := fun b => w5.heap.size ≤ b) (fun b _ hk => by have hk' : w10.drew.heap.size ≤ b := hk;(try simp only [size_drew] at hk');omega) (TreeC.keep (Ext.keeps hEx12 _) hc11))
          refine wp_append ap_34_34 (m := 1) (news := [.int .i64 0,.slice none 0 0,.bool false,.slice none 0 0,.slice none 0 0]) (n := css.length) (cs := css.flatten) (v := (.slice av j kv)) ?_ rfl hown.1 (all2_flat_tree hall) (Src.blk (fr := (0,0)) (T := 37) hn12 rfl rfl) ?_ ?_ ?_
          · first | rfl | simp (disch:=(first|omega|(simp only [qI,qJ,qK]<;>omega)|exact qL _)) only [go_sem,↓reduceIte,n0,reduceCtorEq,n1,n2,n3,n4,n5,i0,i1,i2,i3,i4,i5,i6,i7]
          · omega
          · omega
          intro v' w13 ho hu hfr
          have hP13 := (hP12 : Upd (ownB (.slice av j kv)) w10.drew w12).trans hu
          have hzq13 := hP13.size
          simp only [size_drew] at hzq13
          have hlq13 := hP13.blk_some (show blk w10.drew (w.heap.size + 1) = _ from hl10) (hnb _ (.inl (by omega)))
          rcases ho.2 with ⟨_,h⟩ | ⟨g,cap,rest,fr,hv',hg',hbg,hlen,hth,hle⟩
          · exact absurd h (Nat.succ_ne_zero _)
          subst hv'
          have hgne : ¬ g = w.heap.size + 1 := fun h => (hfr g ⟨_,_,_,rfl,rfl⟩).elim (fun h' => hnb _ (.inl (by omega)) (h ▸ h')) (fun h' => by omega)
          have hfl : css.flatten.length = css.length * 5 := flatten_len hown.2
          have hlen2 : (css.flatten ++ ([.int .i64 0,.slice none 0 0,.bool false,.slice none 0 0,.slice none 0 0] : List Value) ++ rest).length = cap * 5 := by simp only [List.length_append] at hlen ⊢;omega
          obtain ⟨XX,hXX⟩ : ∃ X : Array Value,X = (css.flatten ++ ([.int .i64 0,.slice none 0 0,.bool false,.slice none 0 0,.slice none 0 0] : List Value) ++ rest).toArray := ⟨_,rfl⟩
          have hbgX : blk w13 g = some (XX,37,fr) := by rw [hXX];exact hbg
          have hXsz : XX.size = cap * 5 := by rw [hXX,List.size_toArray];exact hlen2
          have hth2 : thaw fr (css.length * 5) 5 = true := thaw_of hth (by omega)
          have hst : css.length * 5 + 5 ≤ XX.size := by omega
          have hset := Own.setlast (cs := [.int .i64 T11.n,vS11,.bool T11.null,vL11,vU11]) ho rfl rfl
          have hu2 : Upd (ownB (.slice av j kv)) w12 (wr w13 g (css.length * 5) [.int .i64 T11.n,vS11,.bool T11.null,vL11,vU11]) := hu.wr _ _ ((hfr g ⟨_,_,_,rfl,rfl⟩).symm)
          have hg2 := GrowT.snoc hown hall hx13 hu2 hfr hset
          have hcj : css.length = j := by first | exact hcl.symm.trans hlj | omega
          simp only [hcj] at hth2 hst hset hu2 hg2
          refine ⟨hP13,?_⟩
          try simp (disch:=(first|omega|(simp only [qI,qJ,qK]<;>omega)|exact qL _ | (refine hnb _ ?_;first | omega | (simp only [World.size_alloc,size_wr,size_drew] <;> omega)))) only [go_sem,↓reduceIte,n0,reduceCtorEq,n1,n2,n3,n4,n5,i0,i1,i2,i3,i4,i5,i6,i7,hlq13,hbgX,hth2,hst,hcj,Int.toNat_natCast,Nat.mul_one,k1_11,k2_11,k3_11,hrc1_0,hrc1_2,hrc1_3,hrc1_29,hri]
          repeat ((first | refine qA rfl ?_|apply qB|refine qC rfl ?_|apply qD|apply qE|apply qF|apply qG|apply qH);try simp (disch:=(first|omega|(simp only [qI,qJ,qK]<;>omega)|exact qL _)) only [go_sem,↓reduceIte,n0,reduceCtorEq,n1,n2,n3,n4,n5,i0,i1,i2,i3,i4,i5,i6,i7,hlq13,hbgX,hth2,hst,hcj,Int.toNat_natCast,Nat.mul_one,k1_11,k2_11,k3_11,hrc1_0,hrc1_2,hrc1_3,hrc1_29,hri])
          refine ⟨⟨(by simp (disch:=(first|omega|(simp only [qI,qJ,qK]<;>omega)|exact qL _)) only [go_sem,↓reduceIte,n0,reduceCtorEq,n1,n2,n3,n4,n5,i0,i1,i2,i3,i4,i5,i6,i7,Holds_nil,Holds_cons,hrc1_0,hrc1_2,hrc1_3,hrc1_29,hri]),j + 1,(by simp (disch:=(first|omega|(simp only [qI,qJ,qK]<;>omega)|exact qL _)) only [go_sem,↓reduceIte,n0,reduceCtorEq,n1,n2,n3,n4,n5,i0,i1,i2,i3,i4,i5,i6,i7,hrc1_0,hrc1_2,hrc1_3,hrc1_29,hri];all_goals rfl),.slice (some ⟨g,0,none⟩) (j + 1) cap,by omega,?_,?_,?_⟩,?_⟩
          · rw [blk_wr_ne (by omega),blk_wr_eq,hlq13];rfl
          · rw [hcat,List.map_append,wr_comm (Ne.symm hgne)]
            exact hg2.upd ((Upd.refl _ _).wr _ _ (.inr rfl)) (fun h => hgne (ownB_row h).symm)
          · rw [wr_comm (Ne.symm hgne)]
            refine Upd.wr ?_ _ _ (.inr rfl)
            exact (hUk.more ((hEw13.mono fun _ h => h.elim).trans hu2) fun b hb h => absurd h (hnb b (.inl hb)))
          · try simp (disch:=(first|omega|(simp only [qI,qJ,qK]<;>omega)|exact qL _)) only [go_sem,↓reduceIte,n0,reduceCtorEq,n1,n2,n3,n4,n5,i0,i1,i2,i3,i4,i5,i6,i7,hrc1_0,hrc1_2,hrc1_3,hrc1_29,hri]
            simp only [RowKit.intOf];omega
        · skip
          have hP14 : Upd (ownB (.slice av j kv)) w10.drew (w10.alloc (.cells qZ5 37)).drew := show Upd (ownB (.slice av j kv)) w10.drew (w10.drew.alloc (.cells qZ5 37)) from (Upd.refl _ _).alloc _
          have hn14 : blk (w10.alloc (.cells qZ5 37)).drew w10.drew.heap.size = some (qZ5,37,(0,0)) := show blk (w10.drew.alloc (.cells qZ5 37)) w10.drew.heap.size = some (qZ5,37,(0,0)) from blk_alloc_new rfl
          have hsq14 : (w10.alloc (.cells qZ5 37)).drew.heap.size = w10.drew.heap.size + 1 := show (w10.drew.alloc (.cells qZ5 37)).heap.size = w10.drew.heap.size + 1 from World.size_alloc _ _
          have hEx14 : Ext w10.drew (w10.alloc (.cells qZ5 37)).drew := show Ext w10.drew (w10.drew.alloc (.cells qZ5 37)) from Upd.alloc (Upd.refl _ _) _
          refine ⟨hP14,?_⟩
          try simp only [List.append_nil]
          generalize (w10.alloc (.cells qZ5 37)).drew = w14 at *
          try simp only [size_drew] at hsq14
          have hxq15 := (hP14 : Upd (ownB (.slice av j kv)) w10.drew w14).blk_some (show blk w10.drew be = _ from hxe10) (hnb _ (.inl (by omega)))
          refine (tellX0_fn (d := d) (ok := ok) y ce w14 (b := be) (o := oe + j * 3) hxq15 (fun k hk => by have := hqe k hk;rw [← Nat.add_assoc] at this;exact this) ((RepS_lay true _ _).keep (Rep1_part.1 hRe) ((((hX10.drew).mono fun _ h => h.elim).trans (hP14) : Upd (ownB (.slice av j kv)) w w14).keeps fun b hb _ => hnb b (.inl (by omega)))) (hgy.2.2 rfl)).mono ?_
          rintro _ w15 ⟨⟨c15,rfl,hc15⟩,hEx15⟩
          obtain ⟨T15,hT15⟩ : ∃ T,T = tlP (d + 1) fs_X0 y := ⟨_,rfl⟩
          replace hc15 : TreeC (fun b => w14.heap.size ≤ b) w15 T15 c15 := by rw [hT15];exact hc15
          obtain ⟨vS15,vL15,vU15,rfl,hn15,hS15,hLL15,hUU15⟩ := hc15.inv
          have k1_15 := hS15.flat
          have k2_15 := SlR.flat hLL15
          have k3_15 := SlR.flat hUU15
          have hP15 : Upd (ownB (.slice av j kv)) w10.drew w15 := (hP14).trans (hEx15.mono fun _ h => h.elim)
          have hsq15 := hEx15.size
          try simp only [size_drew] at hsq15
          refine ⟨hP15,?_⟩
          try simp (disch:=(first|omega|(simp only [qI,qJ,qK]<;>omega)|exact qL _ | (refine hnb _ ?_;first | omega | (simp only [World.size_alloc,size_wr,size_drew] <;> omega)))) only [go_sem,↓reduceIte,n0,reduceCtorEq,n1,n2,n3,n4,n5,i0,i1,i2,i3,i4,i5,i6,i7,hb10,hl10,ht10,hxe10,Int.toNat_natCast,Nat.mul_one,hq0,hq1,hq2,hrc1_0,hrc1_2,hrc1_3,hrc1_29,hri,k1_15,k2_15,k3_15]
          have hEw16 : Ext w5 w15 := ((hk10.drew.trans hEx14).trans hEx15)
          have hzw16 := hEw16.size
          obtain ⟨css,hown,hall⟩ := (hg.ext hEw16).ex
          have hcl := hall.1
          rw [hlj] at hcl
          have hx16 : TreeC (fun b => (fun b => w1.heap.size ≤ b) b ∧ b ≠ w.heap.size + 1 ∧ ¬ ownB (.slice av j kv) b) w15 ((tl1 (tlP (d + 1)) fX1_1.of fX1_1.sub) y) [.int .i64 T15.n,vS15,.bool T15.null,vL15,vU15] := by
            rw [show (tl1 (tlP (d + 1)) fX1_1.of fX1_1.sub) y = _ from hT15.symm]
            exact TreeC.weaken (fun b _ hk => ⟨by omega,by omega,hnb b (.inr (by omega))⟩) (TreeC.weaken (ok' := fun b => w5.heap.size ≤ b) (fun b _ hk => by have hk' : w14.heap.size ≤ b := hk;(try simp only [size_drew] at hk');omega) hc15)
          refine wp_append ap_34_34 (m := 1) (news := [.int .i64 0,.slice none 0 0,.bool false,.slice none 0 0,.slice none 0 0]) (n := css.length) (cs := css.flatten) (v := (.slice av j kv)) ?_ rfl hown.1 (all2_flat_tree hall) (Src.blk (fr := (0,0)) (T := 37) (hEx15.blk_some hn14 id) rfl rfl) ?_ ?_ ?_
          · first | rfl | simp (disch:=(first|omega|(simp only [qI,qJ,qK]<;>omega)|exact qL _)) only [go_sem,↓reduceIte,n0,reduceCtorEq,n1,n2,n3,n4,n5,i0,i1,i2,i3,i4,i5,i6,i7]
          · omega
          · omega
          intro v' w16 ho hu hfr
          have hP16 := (hP15 : Upd (ownB (.slice av j kv)) w10.drew w15).trans hu
          have hzq16 := hP16.size
          simp only [size_drew] at hzq16
          have hlq16 := hP16.blk_some (show blk w10.drew (w.heap.size + 1) = _ from hl10) (hnb _ (.inl (by omega)))
          rcases ho.2 with ⟨_,h⟩ | ⟨g,cap,rest,fr,hv',hg',hbg,hlen,hth,hle⟩
          · exact absurd h (Nat.succ_ne_zero _)
          subst hv'
          have hgne : ¬ g = w.heap.size + 1 := fun h => (hfr g ⟨_,_,_,rfl,rfl⟩).elim (fun h' => hnb _ (.inl (by omega)) (h ▸ h')) (fun h' => by omega)
          have hfl : css.flatten.length = css.length * 5 := flatten_len hown.2
          have hlen2 : (css.flatten ++ ([.int .i64 0,.slice none 0 0,.bool false,.slice none 0 0,.slice none 0 0] : List Value) ++ rest).length = cap * 5 := by simp only [List.length_append] at hlen ⊢;omega
          obtain ⟨XX,hXX⟩ : ∃ X : Array Value,X = (css.flatten ++ ([.int .i64 0,.slice none 0 0,.bool false,.slice none 0 0,.slice none 0 0] : List Value) ++ rest).toArray := ⟨_,rfl⟩
          have hbgX : blk w16 g = some (XX,37,fr) := by rw [hXX];exact hbg
          have hXsz : XX.size = cap * 5 := by rw [hXX,List.size_toArray];exact hlen2
          have hth2 : thaw fr (css.length * 5) 5 = true := thaw_of hth (by omega)
          have hst : css.length * 5 + 5 ≤ XX.size := by omega
          have hset := Own.setlast (cs := [.int .i64 T15.n,vS15,.bool T15.null,vL15,vU15]) ho rfl rfl
          have hu2 : Upd (ownB (.slice av j kv)) w15 (wr w16 g (css.length * 5) [.int .i64 T15.n,vS15,.bool T15.null,vL15,vU15]) := hu.wr _ _ ((hfr g ⟨_,_,_,rfl,rfl⟩).symm)
          have hg2 := GrowT.snoc hown hall hx16 hu2 hfr hset
          have hcj : css.length = j := by first | exact hcl.symm.trans hlj | omega
          simp only [hcj] at hth2 hst hset hu2 hg2
          refine ⟨hP16,?_⟩
          try simp (disch:=(first|omega|(simp only [qI,qJ,qK]<;>omega)|exact qL _ | (refine hnb _ ?_;first | omega | (simp only [World.size_alloc,size_wr,size_drew] <;> omega)))) only [go_sem,↓reduceIte,n0,reduceCtorEq,n1,n2,n3,n4,n5,i0,i1,i2,i3,i4,i5,i6,i7,hlq16,hbgX,hth2,hst,hcj,Int.toNat_natCast,Nat.mul_one,k1_15,k2_15,k3_15,hrc1_0,hrc1_2,hrc1_3,hrc1_29,hri]
          repeat ((first | refine qA rfl ?_|apply qB|refine qC rfl ?_|apply qD|apply qE|apply qF|apply qG|apply qH);try simp (disch:=(first|omega|(simp only [qI,qJ,qK]<;>omega)|exact qL _)) only [go_sem,↓reduceIte,n0,reduceCtorEq,n1,n2,n3,n4,n5,i0,i1,i2,i3,i4,i5,i6,i7,hlq16,hbgX,hth2,hst,hcj,Int.toNat_natCast,Nat.mul_one,k1_15,k2_15,k3_15,hrc1_0,hrc1_2,hrc1_3,hrc1_29,hri])
          refine ⟨⟨(by simp (disch:=(first|omega|(simp only [qI,qJ,qK]<;>omega)|exact qL _)) only [go_sem,↓reduceIte,n0,reduceCtorEq,n1,n2,n3,n4,n5,i0,i1,i2,i3,i4,i5,i6,i7,Holds_nil,Holds_cons,hrc1_0,hrc1_2,hrc1_3,hrc1_29,hri]),j + 1,(by simp (disch:=(first|omega|(simp only [qI,qJ,qK]<;>omega)|exact qL _)) only [go_sem,↓reduceIte,n0,reduceCtorEq,n1,n2,n3,n4,n5,i0,i1,i2,i3,i4,i5,i6,i7,hrc1_0,hrc1_2,hrc1_3,hrc1_29,hri];all_goals rfl),.slice (some ⟨g,0,none⟩) (j + 1) cap,by omega,?_,?_,?_⟩,?_⟩
          · rw [blk_wr_ne (by omega),blk_wr_eq,hlq16];rfl
          · rw [hcat,List.map_append,wr_comm (Ne.symm hgne)]
            exact hg2.upd ((Upd.refl _ _).wr _ _ (.inr rfl)) (fun h => hgne (ownB_row h).symm)
          · rw [wr_comm (Ne.symm hgne)]
            refine Upd.wr ?_ _ _ (.inr rfl)
            exact (hUk.more ((hEw16.mono fun _ h => h.elim).trans hu2) fun b hb h => absurd h (hnb b (.inl hb)))
          · try simp (disch:=(first|omega|(simp only [qI,qJ,qK]<;>omega)|exact qL _)) only [go_sem,↓reduceIte,n0,reduceCtorEq,n1,n2,n3,n4,n5,i0,i1,i2,i3,i4,i5,i6,i7,hrc1_0,hrc1_2,hrc1_3,hrc1_29,hri]
            simp only [RowKit.intOf];omega
    · have hjn : j = L1.length := by omega
      subst hjn
      rw [List.take_length] at hg
      repeat ((first | refine qA rfl ?_|apply qB|refine qC rfl ?_|apply qD|apply qE|apply qF|apply qG|apply qH);try simp (disch:=(first|omega|(simp only [qI,qJ,qK]<;>omega)|exact qL _)) only [go_sem,↓reduceIte,n0,reduceCtorEq,n1,n2,n3,n4,n5,i0,i1,i2,i3,i4,i5,i6,i7,hrc1_0,hrc1_2,hrc1_3,hrc1_29,hri])
      exact ⟨(by simp (disch:=(first|omega|(simp only [qI,qJ,qK]<;>omega)|exact qL _)) only [go_sem,↓reduceIte,n0,reduceCtorEq,n1,n2,n3,n4,n5,i0,i1,i2,i3,i4,i5,i6,i7,Holds_nil,Holds_cons,hrc1_0,hrc1_2,hrc1_3,hrc1_29,hri]),v,hl5,hg,hUk⟩
  rintro ρ w17 ⟨⟨hrd1_0,hrd1_2,hrd1_3,hrd1_29,-⟩,v,hl17,hg17,hUz17⟩
  have hV17 : Upd (fun b => b = w.heap.size + 1 ∨ b = w.heap.size + 2) w4 w17 := hUz17.mono fun _ h => .inl h
  have hU17 : Upd (fun b => b = w.heap.size + 1 ∨ b = w.heap.size + 2) w1 w17 := hU4.trans hV17
  have hz17 := hU17.size
  have hX17 : Ext w w17 := hE1.more hU17 fun b hb h => by omega
  have hb17 := hX17.blk_some hb id
  have ht17 := hUz17.blk_some ht4 (by omega)
  obtain ⟨av1,kv1,hvs,_⟩ := hg17.shape
  subst hvs
  have hf1 : TreeC (fun b => w1.heap.size ≤ b) w17 (.mk 0 [] (t.at 1).null (L1.map (tl1 (tlP (d + 1)) fX1_1.of fX1_1.sub)) []) [.int .i64 0,.slice none 0 0,.bool (t.at 1).null,.slice av1 (List.map (tl1 (tlP (d + 1)) fX1_1.of fX1_1.sub) L1).length kv1,.slice none 0 0] := TreeC.intro rfl (BytesV.nil _ _) (hg17.trees (fun _ _ h => h) (fun b hb => by have := hz4;omega)) (tagsN _ _)
  repeat ((first | refine qA rfl ?_|apply qB|refine qC rfl ?_|apply qD|apply qE|apply qF|apply qG|apply qH);try simp (disch:=(first|omega|(simp only [qI,qJ,qK]<;>omega)|exact qL _)) only [go_sem,↓reduceIte,n0,reduceCtorEq,n1,n2,n3,n4,n5,i0,i1,i2,i3,i4,i5,i6,i7,hb17,hl17,ht17,hq0,hq1,hq2,hrd1_0,hrd1_2,hrd1_3])
  refine (EachG_fn (ok := fun b => b < w.heap.size) 74 ca_74 #[.pointer (some ⟨w.heap.size + 2,0,none⟩)] w17 (tb := b) (to := o + 2) hb17 hq2 ((hT.weaken fun b hb _ => hb).keep (hX17.keeps _)) (sortT_perm _) (sortT_lt hgu.2.1) (by rw [(sortT_perm t.u).length_eq];exact hgu.1)
    (fun b => b = w.heap.size + 2) (by omega) (fun b hb hk e => by have hk' : b < w.heap.size := hk;omega) (fun b hb => by have := blk_lt ht17;omega)
    (fun wl done w' => ∃ v,blk w' (w.heap.size + 2) = some (#[.int .i64 0,.slice none 0 0,.bool false,.slice (some ⟨w.heap.size + 1,0,none⟩) 2 2,v],37,(0,0)) ∧ GrowU (fun b => w1.heap.size ≤ b) wl.heap.size (w.heap.size + 2) w' 69 v done) (fun wl hE => ⟨_,hE.blk_some ht17 id,GrowU.nil _ _ _ _ _⟩) ?_).mono ?_
  · rintro wl hE done y vv wc hpre ⟨v,hbv,hg⟩ hU hvv hy
    have hz' := hE.size
    have hzu := hU.size
    have htl := blk_lt ht17
    have hpl := hpre.length_le
    simp only [List.length_append,List.length_cons,List.length_nil] at hpl
    rw [(sortT_perm t.u).length_eq] at hpl
    have hlu := hgu.1
    have hmy : y ∈ t.u := (sortT_perm t.u).mem_iff.1 (hpre.subset (by simp))
    refine (tagclX1_fn (ok := fun b => b < w.heap.size) _ _ _ _ v done y vv wc hbv hg hzu (by omega) (hvv.keep ((hE.mono (fun _ h => h.elim) |>.trans hU : Upd (fun b => b = w.heap.size + 2) w17 wc).keeps fun b _ hk e => by have hk' : b < w.heap.size := hk;omega)) hy (hgu.2.2 y hmy) (by omega) (fun b hb => by have := hz17;omega)).mono ?_
    rintro _ w2' ⟨⟨v',h1,h2⟩,h3⟩
    exact ⟨⟨v',h1,h2⟩,hU.trans' h3 fun b hb h => h.elim id fun h => by omega⟩
  rintro _ w18 ⟨wl,hEl,⟨v,ht18,hgU⟩,hUe⟩
  have hzl := hEl.size
  obtain ⟨aU,kU,hvs,_⟩ := hgU.shape
  subst hvs
  have hV18 : Upd (fun b => b = w.heap.size + 1 ∨ b = w.heap.size + 2) w17 w18 := (hEl.mono fun _ h => h.elim).trans (hUe.mono fun _ h => .inr h)
  have hU18 : Upd (fun b => b = w.heap.size + 1 ∨ b = w.heap.size + 2) w1 w18 := hU17.trans hV18
  have hz18 := hU18.size
  have hX18 : Ext w w18 := hE1.more hU18 fun b hb h => by omega
  have hb18 := hX18.blk_some hb id
  have hl18 := (((hEl.mono fun _ h => h.elim).trans hUe : Upd (fun b => b = w.heap.size + 2) w17 w18)).blk_some hl17 (by omega)
  have hTU := hgU.tags (ok' := (fun b => w1.heap.size ≤ b)) (fun _ _ h => h) (fun b hb => by have := hz17;omega)
  repeat ((first | refine qA rfl ?_|apply qB|refine qC rfl ?_|apply qD|apply qE|apply qF|apply qG|apply qH);try simp (disch:=(first|omega|(simp only [qI,qJ,qK]<;>omega)|exact qL _)) only [go_sem,↓reduceIte,n0,reduceCtorEq,n1,n2,n3,n4,n5,i0,i1,i2,i3,i4,i5,i6,i7,hb18,hl18,ht18,hq0,hq1,hq2,hrd1_0,hrd1_2,hrd1_3,cellsAt_five])
  refine (sorted_fn _ _ w18 hTU (sortT_lt hgu.2.1) (by rw [(sortT_perm t.u).length_eq];exact hgu.1)).mono ?_
  rintro _ w19 hEs
  have hV19 : Upd (fun b => b = w.heap.size + 1 ∨ b = w.heap.size + 2) w18 w19 := hEs.mono fun _ h => h.elim
  have hU19 : Upd (fun b => b = w.heap.size + 1 ∨ b = w.heap.size + 2) w1 w19 := hU18.trans hV19
  have hz19 := hU19.size
  have hX19 : Ext w w19 := hE1.more hU19 fun b hb h => by omega
  have hb19 := hX19.blk_some hb id
  have hl19 := hEs.blk_some hl18 id
  have ht19 := hEs.blk_some ht18 id
  have hr19 := (hU19.blk_some hr1 (by omega))
  have hC_19 : Upd (fun b => b = w.heap.size + 1 ∨ b = w.heap.size + 2) w19 w19 := Upd.refl _ _
  have hC_18 : Upd (fun b => b = w.heap.size + 1 ∨ b = w.heap.size + 2) w18 w19 := hV19.trans hC_19
  have hC_17 : Upd (fun b => b = w.heap.size + 1 ∨ b = w.heap.size + 2) w17 w19 := hV18.trans hC_18
  have hC_4 : Upd (fun b => b = w.heap.size + 1 ∨ b = w.heap.size + 2) w4 w19 := hV17.trans hC_17
  have hC_3 : Upd (fun b => b = w.heap.size + 1 ∨ b = w.heap.size + 2) w3 w19 := hV4.trans hC_4
  have hC_1 : Upd (fun b => b = w.heap.size + 1 ∨ b = w.heap.size + 2) w1 w19 := hV3.trans hC_3
  have hF0 := TreeC.keep (hC_3.keeps fun b hb hk e => by have hk' : w1.heap.size ≤ b := hk;omega) hf0
  have hF1 := TreeC.keep (hC_17.keeps fun b hb hk e => by have hk' : w1.heap.size ≤ b := hk;omega) hf1
  replace hF0 : TreeC (fun b => w1.heap.size ≤ b) w19 (tlF (tlP (d + 1)) fX1_0 (t.at 0)) [.int .i64 0,.slice (some a2) ((t.at 0).s).length k2,.bool false,.slice none 0 0,.slice none 0 0] := hF0
  replace hF1 : TreeC (fun b => w1.heap.size ≤ b) w19 (tlF (tlP (d + 1)) fX1_1 (t.at 1)) [.int .i64 0,.slice none 0 0,.bool (t.at 1).null,.slice av1 (List.map (tl1 (tlP (d + 1)) fX1_1.of fX1_1.sub) L1).length kv1,.slice none 0 0] := by rw [show tlF (tlP (d + 1)) fX1_1 (t.at 1) = .mk 0 [] (t.at 1).null ((if (t.at 1).null = true then [] else (t.at 1).l).map (tl1 (tlP (d + 1)) fX1_1.of fX1_1.sub)) [] from rfl,← hL1];exact hF1
  have hTL : TreesV (fun b => (fun b => w1.heap.size ≤ b) b ∨ b = w.heap.size + 1) w19 (.slice (some ⟨w.heap.size + 1,0,none⟩) 2 2) [tlF (tlP (d + 1)) fX1_0 (t.at 0),tlF (tlP (d + 1)) fX1_1 (t.at 1)] := by
    refine ⟨[[.int .i64 0,.slice (some a2) ((t.at 0).s).length k2,.bool false,.slice none 0 0,.slice none 0 0],[.int .i64 0,.slice none 0 0,.bool (t.at 1).null,.slice av1 (List.map (tl1 (tlP (d + 1)) fX1_1.of fX1_1.sub) L1).length kv1,.slice none 0 0]],⟨_,2,rfl,Nat.le_refl _,(by intro cs hm;simp only [List.mem_cons,List.not_mem_nil,or_false] at hm;rcases hm with rfl | rfl <;> rfl),.inr ⟨_,rfl,rfl,.inr rfl,_,hl19,fun i hi => by rw [Nat.zero_add,List.getElem?_toArray];rfl⟩⟩,rfl,fun i h1 h2 => ?_⟩
    match i,h1 with
    | 0,_ => exact TreeC.weaken (fun b _ hk => .inl hk) hF0
    | 1,_ => exact TreeC.weaken (fun b _ hk => .inl hk) hF1
  repeat ((first | refine qA rfl ?_|apply qB|refine qC rfl ?_|apply qD|apply qE|apply qF|apply qG|apply qH);try simp (disch:=(first|omega|(simp only [qI,qJ,qK]<;>omega)|exact qL _)) only [go_sem,↓reduceIte,n0,reduceCtorEq,n1,n2,n3,n4,n5,i0,i1,i2,i3,i4,i5,i6,i7,hb19,hl19,ht19,hq0,hq1,hq2,hrd1_0,hrd1_2,hrd1_3,hr19,cellsAt_five])
  refine ⟨⟨_,rfl,?_⟩,hX19.wr _ _ (.inl (Nat.le_refl _))⟩
  have hUr : Upd (fun b => b = w.heap.size) w19 (wr w19 w.heap.size 0 [.int .i64 0,.slice none 0 0,.bool false,.slice (some ⟨w.heap.size + 1,0,none⟩) 2 2,.slice aU (sortT t.u).length kU]) := (Upd.refl _ _).wr _ _ (.inr rfl)
  have hTU2 := hTU.keep (hEs.keeps _)
  exact TreeC.intro rfl (BytesV.nil _ _) ((hTL.keep (hUr.keeps fun b _ hk e => by rcases hk with hk | hk <;> omega)).weaken fun b _ hk => by rcases hk with hk | hk <;> omega) ((hTU2.keep (hUr.keeps fun b _ hk e => by omega)).weaken fun b _ hk => by omega)

theorem tagclQ_fn {ok OK : Blocks} {B tb : Nat} (c0 c1 c2 c3 v : Value) (done : List TagD) (y : TagD) (vv : Value) (w : World) (hbt : blk w tb = some (#[c0,c1,c2,c3,v],37,(0,0))) (hg : GrowU OK B tb w 69 v done) (hB : B ≤ w.heap.size) (htb : tb < B) (hvv : BytesV ok w vv y.2) (hy : y.1 < 2 ^ 32) (hyl : y.2.length ≤ 32767) (hdl : done.length ≤ 32767) (hOK : ∀ b,B ≤ b → OK b) :
    Fn Tryz.prog 45 #[.int .u32 y.1,vv,.pointer (some ⟨tb,0,none⟩)] w fun _ w' => (∃ v',blk w' tb = some (#[c0,c1,c2,c3,v'],37,(0,0)) ∧ GrowU OK B tb w' 69 v' (done ++ [y])) ∧ Upd (fun b => b = tb ∨ B ≤ b) w w' := by
  have htl := blk_lt hbt
  refine fn_of_W Tryz.func45 rfl Tryz.results45 Tryz.ntmps45 rfl ?_
  repeat ((first | refine qA rfl ?_|apply qB|refine qC rfl ?_|apply qD|apply qE|apply qF|apply qG|apply qH);try simp (disch:=(first|omega|(simp only [qI,qJ,qK]<;>omega)|exact qL _)) only [go_sem,↓reduceIte,n0,reduceCtorEq,n1,n2,n3,n4,n5,i0,i1,i2,i3,i4,i5,i6,i7])
  obtain ⟨av,kv,rfl,_⟩ := hg.shape
  have hnb : ∀ b,b < B ∨ w.heap.size ≤ b → ¬ ownB (.slice av done.length kv) b := fun b hb h => by
    have := hg.above h
    have := hg.below h
    omega
  refine W.drawR (.take 0 (.take 1 (.take 2 (.take 3 (.only 4 (.only 5 (.only 6 (.only 7 (.take 8 (.last 9)))))))))) (ownB (.slice av done.length kv)) mixed (by kernel_rfl) ?_
  simp (disch:=(first|omega|(simp only [qI,qJ,qK]<;>omega)|exact qL _ | (refine hnb _ ?_;first | omega | (simp only [World.size_alloc,size_wr,size_drew] <;> omega)))) only [go_sem,↓reduceIte,n0,reduceCtorEq,n1,n2,n3,n4,n5,i0,i1,i2,i3,i4,i5,i6,i7,hbt]
  refine wp_copyN ap_22_22 (ok := ok) (s := y.2) (v := vv) (by first | rfl | simp (disch:=(first|omega|(simp only [qI,qJ,qK]<;>omega)|exact qL _)) only [go_sem,↓reduceIte,n0,reduceCtorEq,n1,n2,n3,n4,n5,i0,i1,i2,i3,i4,i5,i6,i7]) (by first | rfl | simp (disch:=(first|omega|(simp only [qI,qJ,qK]<;>omega)|exact qL _)) only [go_sem,↓reduceIte,n0,reduceCtorEq,n1,n2,n3,n4,n5,i0,i1,i2,i3,i4,i5,i6,i7]) (hvv.keep (Ext.keeps ((Upd.refl _ _).drew) _)) (by omega) ?_
  intro v1 w1 ho1 hE1 hf1
  obtain ⟨a1,k1,rfl,_⟩ := ho1.shape
  have hB1 := Own.bytes (ok := fun b => w.heap.size ≤ b) ho1 fun b hb => hf1 b hb
  have hP1 : Upd (ownB (.slice av done.length kv)) w.drew w1 := hE1.mono fun _ h => h.elim
  have hs1 := hE1.size
  simp only [size_drew] at hs1
  refine ⟨hP1,?_⟩
  simp (disch:=(first|omega|(simp only [qI,qJ,qK]<;>omega)|exact qL _ | (refine hnb _ ?_;first | omega | (simp only [World.size_alloc,size_wr,size_drew] <;> omega)))) only [go_sem,↓reduceIte,n0,reduceCtorEq,n1,n2,n3,n4,n5,i0,i1,i2,i3,i4,i5,i6,i7,hbt]
  refine ⟨hP1,?_⟩
  have hP2 : Upd (ownB (.slice av done.length kv)) w.drew (w1.alloc (.cells #[.int .u32 y.1,.slice a1 y.2.length k1] 69)) := hP1.alloc _
  have hn2 : blk (w1.alloc (.cells #[.int .u32 y.1,.slice a1 y.2.length k1] 69)) w1.heap.size = some (#[.int .u32 y.1,.slice a1 y.2.length k1],69,(0,0)) := blk_alloc_new rfl
  have hs2 : (w1.alloc (.cells #[.int .u32 y.1,.slice a1 y.2.length k1] 69)).heap.size = w1.heap.size + 1 := World.size_alloc _ _
  have hE2 : Ext w1 (w1.alloc (.cells #[.int .u32 y.1,.slice a1 y.2.length k1] 69)) := Upd.alloc (Upd.refl _ _) _
  refine ⟨hP2,?_⟩
  try simp only [List.append_nil]
  generalize (w1.alloc (.cells #[.int .u32 y.1,.slice a1 y.2.length k1] 69)) = w2 at *
  have hEw : Ext w w2 := (((Upd.refl _ _).drew).trans hE1).trans hE2
  obtain ⟨css,hown,hall⟩ := (hg.ext hEw).ex
  have hcl := hall.1
  have hx2 : TagC (fun b => OK b ∧ b ≠ tb ∧ ¬ ownB (.slice av done.length kv) b) w2 y [.int .u32 y.1,.slice a1 y.2.length k1] := ⟨_,rfl,(hB1.keep (hE2.keeps _)).weaken fun b _ hk => ⟨hOK b (by omega),by omega,hnb b (.inr hk)⟩,hy⟩
  refine wp_append ap_35_35 (m := 1) (news := [.int .u32 y.1,.slice a1 y.2.length k1]) (n := css.length) (cs := css.flatten) (v := .slice av done.length kv) ?_ rfl hown.1 hall.flat_cells (Src.blk (fr := (0,0)) (T := 69) hn2 rfl rfl) ?_ ?_ ?_
  · first | rfl | simp (disch:=(first|omega|(simp only [qI,qJ,qK]<;>omega)|exact qL _)) only [go_sem,↓reduceIte,n0,reduceCtorEq,n1,n2,n3,n4,n5,i0,i1,i2,i3,i4,i5,i6,i7]
  · omega
  · omega
  intro v' w3 ho hu hfr
  have hg3 := GrowU.snoc hown hall hx2 hu hfr ho
  obtain ⟨va,vc,hv',_⟩ := ho.shape
  subst hv'
  have hP3 := hP2.trans hu
  have hs3 := hu.size
  have hbt3 := hP3.blk_some (show blk w.drew tb = _ from hbt) (hnb _ (.inl htb))
  have hne : ¬ ownB (.slice va (css.length + 1) vc) tb := fun h => (hfr _ h).elim (hnb _ (.inl htb)) (fun h => by omega)
  refine ⟨hP3,?_⟩
  simp (disch:=(first|omega|(simp only [qI,qJ,qK]<;>omega)|exact qL _ | (refine hnb _ ?_;first | omega | (simp only [World.size_alloc,size_wr,size_drew] <;> omega)))) only [go_sem,↓reduceIte,n0,reduceCtorEq,n1,n2,n3,n4,n5,i0,i1,i2,i3,i4,i5,i6,i7,hbt3]
  repeat ((first | refine qA rfl ?_|apply qB|refine qC rfl ?_|apply qD|apply qE|apply qF|apply qG|apply qH);try simp (disch:=(first|omega|(simp only [qI,qJ,qK]<;>omega)|exact qL _)) only [go_sem,↓reduceIte,n0,reduceCtorEq,n1,n2,n3,n4,n5,i0,i1,i2,i3,i4,i5,i6,i7])
  refine ⟨⟨.slice va (css.length + 1) vc,by first | (rw [blk_wr_eq,hbt3];rfl) | rfl | (rw [hbt3];rfl) | (rw [blk_wr_eq,hbt3]),hg3.upd ((Upd.refl _ _).wr _ _ (.inr rfl)) hne⟩,?_⟩
  refine Upd.wr ?_ _ _ (.inr (.inl rfl))
  exact (((Upd.refl (fun b => b = tb ∨ B ≤ b) w).drew).trans (hP3.mono fun b h => .inr (hg.above h)))

set_option maxHeartbeats 4000000 in
theorem tellQ_fn {d : Nat} {ok : Blocks} (t : Tree) (cs : List Value) (w : World) {b : Nat} {x : Blk} (hb : blk w b = some x) (hq : ∀ k,k < 3 → x.1[1 + k]? = cs[k]?) (hR : RepS true (d + 3) fs_Q ok w t cs) (hg : GoodP (d + 3) fs_Q t) :
    Fn Tryz.prog 23 #[.pointer (some ⟨b,0,none⟩)] w fun r w' => (∃ c,r = .agg c.toArray ∧ TreeC (fun b => w.heap.size ≤ b) w' (tlP (d + 3) fs_Q t) c) ∧ Ext w w' := by
  have hbl := blk_lt hb
  obtain ⟨⟨gd0,gd1,-⟩,hgu⟩ := hg
  replace gd0 : GoodF (GoodP (d + 2)) fQ_0 (t.at 0) := gd0
  replace gd1 : GoodF (GoodP (d + 2)) fQ_1 (t.at 1) := gd1
  obtain ⟨cs0,q,hcs,hL,hT⟩ := hR.inv
  obtain ⟨c0,e0,rfl,h0,c1,e1,rfl,h1,rfl⟩ := hL
  replace h0 : RepF (RepS true (d + 2)) (szS true (d + 2)) fQ_0 ok w (t.at 0) c0 := h0
  replace h1 : RepF (RepS true (d + 2)) (szS true (d + 2)) fQ_1 ok w (t.at 1) c1 := h1
  obtain rfl := (RepF_num (by decide)).1 h0
  obtain ⟨ab1,ac1,L1,rfl,hL1,hnn1,hs1⟩ := RepF_listT rfl h1
  have hgl1 := gd1.listL rfl hL1
  obtain ⟨qm,rfl⟩ := hT.shape
  subst hcs
  have hq0 : x.1[1]? = some (.int .i32 (IntKind.i32.wrap (t.at 0).n)) := hq 0 (by decide)
  have hq1 : x.1[2]? = some (.slice ab1 L1.length ac1) := hq 1 (by decide)
  have hq2 : x.1[3]? = some (.map qm) := hq 2 (by decide)
  refine fn_of_W Tryz.func23 rfl Tryz.results23 Tryz.ntmps23 rfl ?_
  repeat ((first | refine qA rfl ?_|apply qB|refine qC rfl ?_|apply qD|apply qE|apply qF|apply qG|apply qH);try simp (disch:=(first|omega|(simp only [qI,qJ,qK]<;>omega)|exact qL _)) only [go_sem,↓reduceIte,n0,reduceCtorEq,n1,n2,n3,n4,n5,i0,i1,i2,i3,i4,i5,i6,i7])
  refine wp_make (T := 34) (E := 37) (size := 5) (bytes := 88) (z := .agg qZ5) (l := 2) (c := 2) (kl := .i64) (kc := .i64) (by kernel_rfl) (by kernel_rfl) (by first | rfl | (simp (disch:=(first|omega|(simp only [qI,qJ,qK]<;>omega)|exact qL _)) only [go_sem,↓reduceIte,n0,reduceCtorEq,n1,n2,n3,n4,n5,i0,i1,i2,i3,i4,i5,i6,i7];rfl)) (by first | rfl | (simp (disch:=(first|omega|(simp only [qI,qJ,qK]<;>omega)|exact qL _)) only [go_sem,↓reduceIte,n0,reduceCtorEq,n1,n2,n3,n4,n5,i0,i1,i2,i3,i4,i5,i6,i7];rfl)) (by omega) (by omega) (by omega) ?_
  have hmd : madeCells (Value.agg qZ5).cells (2 * 5) = #[.int .i64 0,.slice none 0 0,.bool false,.slice none 0 0,.slice none 0 0,.int .i64 0,.slice none 0 0,.bool false,.slice none 0 0,.slice none 0 0] := by kernel_rfl
  rw [hmd]
  simp (disch:=(first|omega|(simp only [qI,qJ,qK]<;>omega)|exact qL _)) only [go_sem,↓reduceIte,n0,reduceCtorEq,n1,n2,n3,n4,n5,i0,i1,i2,i3,i4,i5,i6,i7]
  repeat ((first | refine qA rfl ?_|apply qB|refine qC rfl ?_|apply qD|apply qE|apply qF|apply qG|apply qH);try simp (disch:=(first|omega|(simp only [qI,qJ,qK]<;>omega)|exact qL _)) only [go_sem,↓reduceIte,n0,reduceCtorEq,n1,n2,n3,n4,n5,i0,i1,i2,i3,i4,i5,i6,i7])
  have hE1 : Ext w (wr (((w.alloc (.cells qZ5 37)).alloc (.cells #[.int .i64 0,.slice none 0 0,.bool false,.slice none 0 0,.slice none 0 0,.int .i64 0,.slice none 0 0,.bool false,.slice none 0 0,.slice none 0 0] 37)).alloc (.cells qZ5 37)) (w.heap.size + 2) 0 [.int .i64 0,.slice none 0 0,.bool false,.slice (some ⟨w.heap.size + 1,0,none⟩) 2 2,.slice none 0 0]) := (Upd.alloc (Upd.alloc (Upd.alloc (Upd.refl _ _) _) _) _).wr _ _ (.inl (by omega))
  have hz1 : (wr (((w.alloc (.cells qZ5 37)).alloc (.cells #[.int .i64 0,.slice none 0 0,.bool false,.slice none 0 0,.slice none 0 0,.int .i64 0,.slice none 0 0,.bool false,.slice none 0 0,.slice none 0 0] 37)).alloc (.cells qZ5 37)) (w.heap.size + 2) 0 [.int .i64 0,.slice none 0 0,.bool false,.slice (some ⟨w.heap.size + 1,0,none⟩) 2 2,.slice none 0 0]).heap.size = w.heap.size + 3 := by simp only [size_wr,World.size_alloc]
  have hl1 : blk (wr (((w.alloc (.cells qZ5 37)).alloc (.cells #[.int .i64 0,.slice none 0 0,.bool false,.slice none 0 0,.slice none 0 0,.int .i64 0,.slice none 0 0,.bool false,.slice none 0 0,.slice none 0 0] 37)).alloc (.cells qZ5 37)) (w.heap.size + 2) 0 [.int .i64 0,.slice none 0 0,.bool false,.slice (some ⟨w.heap.size + 1,0,none⟩) 2 2,.slice none 0 0]) (w.heap.size + 1) = some (#[.int .i64 0,.slice none 0 0,.bool false,.slice none 0 0,.slice none 0 0,.int .i64 0,.slice none 0 0,.bool false,.slice none 0 0,.slice none 0 0],37,(0,0)) := by simp (disch:=(first|omega|(simp only [qI,qJ,qK]<;>omega)|exact qL _)) only [go_sem,↓reduceIte,n0,reduceCtorEq,n1,n2,n3,n4,n5,i0,i1,i2,i3,i4,i5,i6,i7]
  have ht1 : blk (wr (((w.alloc (.cells qZ5 37)).alloc (.cells #[.int .i64 0,.slice none 0 0,.bool false,.slice none 0 0,.slice none 0 0,.int .i64 0,.slice none 0 0,.bool false,.slice none 0 0,.slice none 0 0] 37)).alloc (.cells qZ5 37)) (w.heap.size + 2) 0 [.int .i64 0,.slice none 0 0,.bool false,.slice (some ⟨w.heap.size + 1,0,none⟩) 2 2,.slice none 0 0]) (w.heap.size + 2) = some (#[.int .i64 0,.slice none 0 0,.bool false,.slice (some ⟨w.heap.size + 1,0,none⟩) 2 2,.slice none 0 0],37,(0,0)) := by simp (disch:=(first|omega|(simp only [qI,qJ,qK]<;>omega)|exact qL _)) only [go_sem,↓reduceIte,n0,reduceCtorEq,n1,n2,n3,n4,n5,i0,i1,i2,i3,i4,i5,i6,i7]
  have hr1 : blk (wr (((w.alloc (.cells qZ5 37)).alloc (.cells #[.int .i64 0,.slice none 0 0,.bool false,.slice none 0 0,.slice none 0 0,.int .i64 0,.slice none 0 0,.bool false,.slice none 0 0,.slice none 0 0] 37)).alloc (.cells qZ5 37)) (w.heap.size + 2) 0 [.int .i64 0,.slice none 0 0,.bool false,.slice (some ⟨w.heap.size + 1,0,none⟩) 2 2,.slice none 0 0]) w.heap.size = some (qZ5,37,(0,0)) := by simp (disch:=(first|omega|(simp only [qI,qJ,qK]<;>omega)|exact qL _)) only [go_sem,↓reduceIte,n0,reduceCtorEq,n1,n2,n3,n4,n5,i0,i1,i2,i3,i4,i5,i6,i7]
  generalize (wr (((w.alloc (.cells qZ5 37)).alloc (.cells #[.int .i64 0,.slice none 0 0,.bool false,.slice none 0 0,.slice none 0 0,.int .i64 0,.slice none 0 0,.bool false,.slice none 0 0,.slice none 0 0] 37)).alloc (.cells qZ5 37)) (w.heap.size + 2) 0 [.int .i64 0,.slice none 0 0,.bool false,.slice (some ⟨w.heap.size + 1,0,none⟩) 2 2,.slice none 0 0]) = w1 at *
  have hU1 : Upd (fun b => b = w.heap.size + 1 ∨ b = w.heap.size + 2) w1 w1 := Upd.refl _ _
  have hb1 := hE1.blk_some hb id
  repeat ((first | refine qA rfl ?_|apply qB|refine qC rfl ?_|apply qD|apply qE|apply qF|apply qG|apply qH);try simp (disch:=(first|omega|(simp only [qI,qJ,qK]<;>omega)|exact qL _)) only [go_sem,↓reduceIte,n0,reduceCtorEq,n1,n2,n3,n4,n5,i0,i1,i2,i3,i4,i5,i6,i7,hb1,hl1,ht1,hq0,hq1,hq2])
  refine W.drawR (.take 0 (.take 1 (.take 2 (.take 3 (.take 4 (.take 5 (.take 6 (.only 7 (.take 8 (.last 9)))))))))) (NoB) mixed (by kernel_rfl) ?_
  try simp (disch:=(first|omega|(simp only [qI,qJ,qK]<;>omega)|exact qL _)) only [go_sem,↓reduceIte,n0,reduceCtorEq,n1,n2,n3,n4,n5,i0,i1,i2,i3,i4,i5,i6,i7,hb1,hl1,ht1,hq0,hq1,hq2,tl32]
  refine ⟨Upd.refl _ _,?_⟩
  have hlq2 : blk w1.drew (w.heap.size + 1) = _ := hl1
  have hx2 : Upd (fun b => b = w.heap.size + 1 ∨ b = w.heap.size + 2) w1 w1.drew := (Upd.refl _ _).drew
  generalize hw2 : wr w1.drew (w.heap.size + 1) 0 [.int .i64 (IntKind.i32.wrap (t.at 0).n),.slice none 0 0,.bool false,.slice none 0 0,.slice none 0 0] = w2
  have hl2 : blk w2 (w.heap.size + 1) = some (#[.int .i64 (IntKind.i32.wrap (t.at 0).n),.slice none 0 0,.bool false,.slice none 0 0,.slice none 0 0,.int .i64 0,.slice none 0 0,.bool false,.slice none 0 0,.slice none 0 0],37,(0,0)) := by rw [← hw2,blk_wr_eq,hlq2];rfl
  have hv2 : Upd (fun b => b = w.heap.size + 1 ∨ b = w.heap.size + 2) w1.drew w2 := by rw [← hw2];exact (Upd.refl _ _).wr _ _ (.inr (.inl rfl))
  have hV2 : Upd (fun b => b = w.heap.size + 1 ∨ b = w.heap.size + 2) w1 w2 := hx2.trans hv2
  have hU2 : Upd (fun b => b = w.heap.size + 1 ∨ b = w.heap.size + 2) w1 w2 := hU1.trans hV2
  have hz2 := hU2.size
  have hX2 : Ext w w2 := hE1.more hU2 fun b hb h => by omega
  have hb2 := hX2.blk_some hb id
  have ht2 : blk w2 (w.heap.size + 2) = some (#[.int .i64 0,.slice none 0 0,.bool false,.slice (some ⟨w.heap.size + 1,0,none⟩) 2 2,.slice none 0 0],37,(0,0)) := by
    rw [← hw2,blk_wr_ne (by omega)]
    exact ht1
  clear hw2
  have hf0 : TreeC (fun b => w1.heap.size ≤ b) w2 (.num (IntKind.i32.wrap (t.at 0).n)) [.int .i64 (IntKind.i32.wrap (t.at 0).n),.slice none 0 0,.bool false,.slice none 0 0,.slice none 0 0] := (TreeC.keep (hv2.keeps fun b hb hk e => by have hk' : w1.heap.size ≤ b := hk;omega) (TreeC.intro (tl32 _) (BytesV.nil _ _) (treesN _ _) (tagsN _ _) : TreeC (fun b => w1.heap.size ≤ b) w1.drew (.num (IntKind.i32.wrap (t.at 0).n)) [.int .i64 (IntKind.i32.wrap (t.at 0).n),.slice none 0 0,.bool false,.slice none 0 0,.slice none 0 0]))
  repeat ((first | refine qA rfl ?_|apply qB|refine qC rfl ?_|apply qD|apply qE|apply qF|apply qG|apply qH);try simp (disch:=(first|omega|(simp only [qI,qJ,qK]<;>omega)|exact qL _)) only [go_sem,↓reduceIte,n0,reduceCtorEq,n1,n2,n3,n4,n5,i0,i1,i2,i3,i4,i5,i6,i7,hb2,hl2,ht2,hq0,hq1,hq2])
  refine W.drawR (.take 0 (.take 1 (.take 2 (.take 3 (.take 4 (.take 5 (.take 6 (.take 7 (.take 8 (.last 9)))))))))) (NoB) mixed (by kernel_rfl) ?_
  try simp (disch:=(first|omega|(simp only [qI,qJ,qK]<;>omega)|exact qL _)) only [go_sem,↓reduceIte,n0,reduceCtorEq,n1,n2,n3,n4,n5,i0,i1,i2,i3,i4,i5,i6,i7,hb2,hl2,ht2,hq0,hq1,hq2,hnn1]
  generalize hw3 : wr w2.drew (w.heap.size + 1) 7 [.bool (t.at 1).null] = w3
  have hl3 : blk w3 (w.heap.size + 1) = some (#[.int .i64 (IntKind.i32.wrap (t.at 0).n),.slice none 0 0,.bool false,.slice none 0 0,.slice none 0 0,.int .i64 0,.slice none 0 0,.bool (t.at 1).null,.slice none 0 0,.slice none 0 0],37,(0,0)) := by rw [← hw3,blk_wr_eq,show blk w2.drew (w.heap.size + 1) = _ from hl2];rfl
  have hV3 : Upd (fun b => b = w.heap.size + 1 ∨ b = w.heap.size + 2) w2 w3 := by rw [← hw3];exact ((Upd.refl _ _).drew).wr _ _ (.inr (.inl rfl))
  have hU3 : Upd (fun b => b = w.heap.size + 1 ∨ b = w.heap.size + 2) w1 w3 := hU2.trans hV3
  have hz3 := hU3.size
  have hX3 : Ext w w3 := hE1.more hU3 fun b hb h => by omega
  have hb3 := hX3.blk_some hb id
  have ht3 : blk w3 (w.heap.size + 2) = some (#[.int .i64 0,.slice none 0 0,.bool false,.slice (some ⟨w.heap.size + 1,0,none⟩) 2 2,.slice none 0 0],37,(0,0)) := by
    rw [← hw3,blk_wr_ne (by omega)]
    exact ht2
  clear hw3
  repeat ((first | refine qA rfl ?_|apply qB|refine qC rfl ?_|apply qD|apply qE|apply qF|apply qG|apply qH);try simp (disch:=(first|omega|(simp only [qI,qJ,qK]<;>omega)|exact qL _)) only [go_sem,↓reduceIte,n0,reduceCtorEq,n1,n2,n3,n4,n5,i0,i1,i2,i3,i4,i5,i6,i7,hb3,hl3,ht3,hq0,hq1,hq2])
  refine W.exitJ 0 (EndQ [(0,.pointer (some ⟨b,0,none⟩)),(2,.pointer (some ⟨w.heap.size,0,none⟩)),(3,.pointer (some ⟨w.heap.size + 2,0,none⟩)),(29,.int .i64 L1.length)] (fun w' => ∃ v,blk w' (w.heap.size + 1) = some (#[.int .i64 (IntKind.i32.wrap (t.at 0).n),.slice none 0 0,.bool false,.slice none 0 0,.slice none 0 0,.int .i64 0,.slice none 0 0,.bool (t.at 1).null,v,.slice none 0 0],37,(0,0)) ∧ GrowT (fun b => w1.heap.size ≤ b) w3.heap.size (w.heap.size + 1) w' 37 v (L1.map (tl1 (tlP (d + 2)) fQ_1.of fQ_1.sub)) ∧ Upd (fun b => b = w.heap.size + 1) w3 w')) (W.loop (LoopL [(0,.pointer (some ⟨b,0,none⟩)),(2,.pointer (some ⟨w.heap.size,0,none⟩)),(3,.pointer (some ⟨w.heap.size + 2,0,none⟩)),(29,.int .i64 L1.length)] 30 (fun j w' => ∃ v,j ≤ L1.length ∧ blk w' (w.heap.size + 1) = some (#[.int .i64 (IntKind.i32.wrap (t.at 0).n),.slice none 0 0,.bool false,.slice none 0 0,.slice none 0 0,.int .i64 0,.slice none 0 0,.bool (t.at 1).null,v,.slice none 0 0],37,(0,0)) ∧ GrowT (fun b => w1.heap.size ≤ b) w3.heap.size (w.heap.size + 1) w' 37 v ((L1.take j).map (tl1 (tlP (d + 2)) fQ_1.of fQ_1.sub)) ∧ Upd (fun b => b = w.heap.size + 1) w3 w')) (fun ρ _ => L1.length - (RowKit.intOf (ρ 30)).toNat) ?_ ?_) ?_
  · exact ⟨(by simp (disch:=(first|omega|(simp only [qI,qJ,qK]<;>omega)|exact qL _)) only [go_sem,↓reduceIte,n0,reduceCtorEq,n1,n2,n3,n4,n5,i0,i1,i2,i3,i4,i5,i6,i7,Holds_nil,Holds_cons]),0,(by simp (disch:=(first|omega|(simp only [qI,qJ,qK]<;>omega)|exact qL _)) only [go_sem,↓reduceIte,n0,reduceCtorEq,n1,n2,n3,n4,n5,i0,i1,i2,i3,i4,i5,i6,i7];all_goals rfl),.slice none 0 0,Nat.zero_le _,hl3,GrowT.nil _ _ _ _ _,Upd.refl _ _⟩
  · rintro ρ w4 ⟨⟨hrc1_0,hrc1_2,hrc1_3,hrc1_29,-⟩,j,hri,v,hj,hl4,hg,hUk⟩
    have hzk := hUk.size
    have hX4 : Ext w w4 := hX3.more hUk fun b hb h => by omega
    have hz4 : w1.heap.size ≤ w4.heap.size := by have := hz3;omega
    have hb4 := hX4.blk_some hb id
    have ht4 := hUk.blk_some ht3 (by omega)
    by_cases hlt : j < L1.length
    · obtain ⟨_,be,oe,xe,ce,hbe,hoke,hxe,hble,hxs,hxx,hqe,hRe⟩ := SlR.get (size := 3) (by decide) hs1 hlt
      subst hbe
      have hcat : L1.take (j + 1) = L1.take j ++ [L1[j]] := List.take_succ_eq_append_getElem hlt
      have hgy := hgl1.2 _ (List.getElem_mem hlt)
      have hll := hgl1.1
      obtain ⟨av,kv,hvs,_⟩ := hg.shape
      have hlj : (List.map (tl1 (tlP (d + 2)) fQ_1.of fQ_1.sub) (L1.take j)).length = j := by simp;omega
      rw [hlj] at hvs
      subst hvs
      have hnb : ∀ b,b < w3.heap.size ∨ w4.heap.size ≤ b → ¬ ownB (.slice av j kv) b := fun b hb h => by
        have := hg.above h
        have := hg.below h
        omega
      generalize L1[j] = y at *
      repeat ((first | refine qA rfl ?_|apply qB|refine qC rfl ?_|apply qD|apply qE|apply qF|apply qG|apply qH);try simp (disch:=(first|omega|(simp only [qI,qJ,qK]<;>omega)|exact qL _)) only [go_sem,↓reduceIte,n0,reduceCtorEq,n1,n2,n3,n4,n5,i0,i1,i2,i3,i4,i5,i6,i7,hb4,hl4,ht4,hq0,hq1,hq2,hrc1_0,hrc1_2,hrc1_3,hrc1_29,hri])
      refine W.drawR (.only 0 (.two 1 (.only 2 (.only 3 .done)) 2 (.only 1 (.only 3 .done)))) NoB mixed (by kernel_rfl) ?_
      try simp (disch:=(first|omega|(simp only [qI,qJ,qK]<;>omega)|exact qL _)) only [go_sem,↓reduceIte,n0,reduceCtorEq,n1,n2,n3,n4,n5,i0,i1,i2,i3,i4,i5,i6,i7,hb4,hl4,ht4,hq0,hq1,hq2,hrc1_0,hrc1_2,hrc1_3,hrc1_29,hri]
      have q0 : Upd NoB w4.drew (w4.alloc (.cells #[.bool false] 4)).drew := show Upd NoB w4.drew (w4.drew.alloc (.cells #[.bool false] 4)) from Upd.alloc (Upd.refl _ _) _
      have q1 : Upd NoB w4.drew (wr (w4.alloc (.cells #[.bool false] 4)).drew w4.heap.size 0 [.bool true]) := q0.wr _ _ (.inl (Nat.le_refl _))
      have q2 : Upd NoB w4.drew (wr (wr (w4.alloc (.cells #[.bool false] 4)).drew w4.heap.size 0 [.bool true]) w4.heap.size 0 [.bool false]) := q1.wr _ _ (.inl (Nat.le_refl _))
      have q3 : Upd NoB w4.drew (wr (w4.alloc (.cells #[.bool false] 4)).drew w4.heap.size 0 [.bool false]) := q0.wr _ _ (.inl (Nat.le_refl _))
      have q4 : Upd NoB w4.drew (wr (wr (w4.alloc (.cells #[.bool false] 4)).drew w4.heap.size 0 [.bool false]) w4.heap.size 0 [.bool true]) := q3.wr _ _ (.inl (Nat.le_refl _))
      refine ⟨q0,⟨q1,q2,q2,?_⟩,⟨q3,q4,q4,?_⟩⟩
      · have hk5 : Ext w4 (wr (wr (w4.alloc (.cells #[.bool false] 4)).drew w4.heap.size 0 [.bool true]) w4.heap.size 0 [.bool false]) := ((Upd.refl _ _).drew).trans q2
        generalize (wr (wr (w4.alloc (.cells #[.bool false] 4)).drew w4.heap.size 0 [.bool true]) w4.heap.size 0 [.bool false]) = w5 at *
        have hzk5 := hk5.size
        have hX5 : Ext w w5 := hX4.trans hk5
        have hb5 := hk5.blk_some hb4 id
        have hl5 := hk5.blk_some hl4 id
        have ht5 := hk5.blk_some ht4 id
        have hxe5 := hX5.blk_some hxe id
        repeat ((first | refine qA rfl ?_|apply qB|refine qC rfl ?_|apply qD|apply qE|apply qF|apply qG|apply qH);try simp (disch:=(first|omega|(simp only [qI,qJ,qK]<;>omega)|exact qL _)) only [go_sem,↓reduceIte,n0,reduceCtorEq,n1,n2,n3,n4,n5,i0,i1,i2,i3,i4,i5,i6,i7,hb5,hl5,ht5,hxe5,Int.toNat_natCast,Nat.mul_one,hq0,hq1,hq2,hrc1_0,hrc1_2,hrc1_3,hrc1_29,hri])
        refine W.drawR (.take 0 (.take 1 (.take 2 (.take 3 (.take 4 (.take 5 (.take 6 (.take 7 (.take 8 (.take 9 (.take 10 (.take 11 (.take 12 (.only 13 (.only 14 (.only 15 (.take 16 (.take 17 (.last 18))))))))))))))))))) (ownB (.slice av j kv)) mixed (by kernel_rfl) ?_
        try simp (disch:=(first|omega|(simp only [qI,qJ,qK]<;>omega)|exact qL _ | (refine hnb _ ?_;first | omega | (simp only [World.size_alloc,size_wr,size_drew] <;> omega)))) only [go_sem,↓reduceIte,n0,reduceCtorEq,n1,n2,n3,n4,n5,i0,i1,i2,i3,i4,i5,i6,i7,hb5,hl5,ht5,hxe5,Int.toNat_natCast,Nat.mul_one,hq0,hq1,hq2,hrc1_0,hrc1_2,hrc1_3,hrc1_29,hri]
        have hxq6 := (Upd.refl _ _ : Upd (ownB (.slice av j kv)) w5.drew w5.drew).blk_some (show blk w5.drew be = _ from hxe5) (hnb _ (.inl (by omega)))
        refine (tellX1_fn (d := d) (ok := ok) y ce w5.drew (b := be) (o := oe + j * 3) hxq6 (fun k hk => by have := hqe k hk;rw [← Nat.add_assoc] at this;exact this) ((RepS_lay true _ _).keep (Rep1_part.1 hRe) ((((hX5.drew).mono fun _ h => h.elim).trans (Upd.refl _ _) : Upd (ownB (.slice av j kv)) w w5.drew).keeps fun b hb _ => hnb b (.inl (by omega)))) (hgy.2.2 rfl)).mono ?_
        rintro _ w6 ⟨⟨c6,rfl,hc6⟩,hEx6⟩
        obtain ⟨T6,hT6⟩ : ∃ T,T = tlP (d + 2) fs_X1 y := ⟨_,rfl⟩
        replace hc6 : TreeC (fun b => w5.drew.heap.size ≤ b) w6 T6 c6 := by rw [hT6];exact hc6
        obtain ⟨vS6,vL6,vU6,rfl,hn6,hS6,hLL6,hUU6⟩ := hc6.inv
        have k1_6 := hS6.flat
        have k2_6 := SlR.flat hLL6
        have k3_6 := SlR.flat hUU6
        have hP6 : Upd (ownB (.slice av j kv)) w5.drew w6 := (Upd.refl _ _).trans (hEx6.mono fun _ h => h.elim)
        have hsq6 := hEx6.size
        try simp only [size_drew] at hsq6
        refine ⟨hP6,?_⟩
        try simp (disch:=(first|omega|(simp only [qI,qJ,qK]<;>omega)|exact qL _ | (refine hnb _ ?_;first | omega | (simp only [World.size_alloc,size_wr,size_drew] <;> omega)))) only [go_sem,↓reduceIte,n0,reduceCtorEq,n1,n2,n3,n4,n5,i0,i1,i2,i3,i4,i5,i6,i7,hb5,hl5,ht5,hxe5,Int.toNat_natCast,Nat.mul_one,hq0,hq1,hq2,hrc1_0,hrc1_2,hrc1_3,hrc1_29,hri,k1_6,k2_6,k3_6]
        have hP7 : Upd (ownB (.slice av j kv)) w5.drew (w6.alloc (.cells #[.int .i64 T6.n,vS6,.bool T6.null,vL6,vU6] 37)) := show Upd (ownB (.slice av j kv)) w5.drew (w6.alloc (.cells #[.int .i64 T6.n,vS6,.bool T6.null,vL6,vU6] 37)) from (hP6).alloc _
        have hn7 : blk (w6.alloc (.cells #[.int .i64 T6.n,vS6,.bool T6.null,vL6,vU6] 37)) w6.heap.size = some (#[.int .i64 T6.n,vS6,.bool T6.null,vL6,vU6],37,(0,0)) := show blk (w6.alloc (.cells #[.int .i64 T6.n,vS6,.bool T6.null,vL6,vU6] 37)) w6.heap.size = some (#[.int .i64 T6.n,vS6,.bool T6.null,vL6,vU6],37,(0,0)) from blk_alloc_new rfl
        have hsq7 : (w6.alloc (.cells #[.int .i64 T6.n,vS6,.bool T6.null,vL6,vU6] 37)).heap.size = w6.heap.size + 1 := show (w6.alloc (.cells #[.int .i64 T6.n,vS6,.bool T6.null,vL6,vU6] 37)).heap.size = w6.heap.size + 1 from World.size_alloc _ _
        have hEx7 : Ext w6 (w6.alloc (.cells #[.int .i64 T6.n,vS6,.bool T6.null,vL6,vU6] 37)) := show Ext w6 (w6.alloc (.cells #[.int .i64 T6.n,vS6,.bool T6.null,vL6,vU6] 37)) from Upd.alloc (Upd.refl _ _) _
        refine ⟨hP7,?_⟩
        try simp only [List.append_nil]
        generalize (w6.alloc (.cells #[.int .i64 T6.n,vS6,.bool T6.null,vL6,vU6] 37)) = w7 at *
        try simp only [size_drew] at hsq7
        have hEw8 : Ext w4 w7 := ((hk5.drew.trans hEx6).trans hEx7)
        have hzw8 := hEw8.size
        obtain ⟨css,hown,hall⟩ := (hg.ext hEw8).ex
        have hcl := hall.1
        rw [hlj] at hcl
        have hx8 : TreeC (fun b => (fun b => w1.heap.size ≤ b) b ∧ b ≠ w.heap.size + 1 ∧ ¬ ownB (.slice av j kv) b) w7 ((tl1 (tlP (d + 2)) fQ_1.of fQ_1.sub) y) [.int .i64 T6.n,vS6,.bool T6.null,vL6,vU6] := by
          rw [show (tl1 (tlP (d + 2)) fQ_1.of fQ_1.sub) y = _ from hT6.symm]
          exact TreeC.weaken (fun b _ hk => ⟨by omega,by omega,hnb b (.inr (by omega))⟩) (TreeC.weaken (ok' := fun b => w4.heap.size ≤ b) (fun b _ hk => by have hk' : w5.drew.heap.size ≤ b := hk;(try simp only [size_drew] at hk');omega) (TreeC.keep (Ext.keeps hEx7 _) hc6))
        refine wp_append ap_34_34 (m := 1) (news := [.int .i64 T6.n,vS6,.bool T6.null,vL6,vU6]) (n := css.length) (cs := css.flatten) (v := (.slice av j kv)) ?_ rfl hown.1 (all2_flat_tree hall) (Src.blk (fr := (0,0)) (T := 37) hn7 rfl (by simp only [List.all_cons,List.all_nil,flat_int,flat_bool,k1_6,k2_6,k3_6,Bool.and_self])) ?_ ?_ ?_
        · first | rfl | simp (disch:=(first|omega|(simp only [qI,qJ,qK]<;>omega)|exact qL _)) only [go_sem,↓reduceIte,n0,reduceCtorEq,n1,n2,n3,n4,n5,i0,i1,i2,i3,i4,i5,i6,i7]
        · omega
        · omega
        intro v' w8 ho hu hfr
        have hP8 := (hP7 : Upd (ownB (.slice av j kv)) w5.drew w7).trans hu
        have hzq8 := hP8.size
        simp only [size_drew] at hzq8
        have hlq8 := hP8.blk_some (show blk w5.drew (w.heap.size + 1) = _ from hl5) (hnb _ (.inl (by omega)))
        have hg' := GrowT.snoc hown hall hx8 hu hfr ho
        obtain ⟨va,vc,hv',_⟩ := ho.shape
        subst hv'
        have hne : ¬ ownB (.slice va (css.length + 1) vc) (w.heap.size + 1) := fun h => (hfr _ h).elim (hnb _ (.inl (by omega))) (fun h => by omega)
        refine ⟨hP8,?_⟩
        try simp (disch:=(first|omega|(simp only [qI,qJ,qK]<;>omega)|exact qL _ | (refine hnb _ ?_;first | omega | (simp only [World.size_alloc,size_wr,size_drew] <;> omega)))) only [go_sem,↓reduceIte,n0,reduceCtorEq,n1,n2,n3,n4,n5,i0,i1,i2,i3,i4,i5,i6,i7,hlq8,Int.toNat_natCast,Nat.mul_one,hrc1_0,hrc1_2,hrc1_3,hrc1_29,hri]
        repeat ((first | refine qA rfl ?_|apply qB|refine qC rfl ?_|apply qD|apply qE|apply qF|apply qG|apply qH);try simp (disch:=(first|omega|(simp only [qI,qJ,qK]<;>omega)|exact qL _)) only [go_sem,↓reduceIte,n0,reduceCtorEq,n1,n2,n3,n4,n5,i0,i1,i2,i3,i4,i5,i6,i7,hlq8,Int.toNat_natCast,Nat.mul_one,hrc1_0,hrc1_2,hrc1_3,hrc1_29,hri])
        refine ⟨⟨(by simp (disch:=(first|omega|(simp only [qI,qJ,qK]<;>omega)|exact qL _)) only [go_sem,↓reduceIte,n0,reduceCtorEq,n1,n2,n3,n4,n5,i0,i1,i2,i3,i4,i5,i6,i7,Holds_nil,Holds_cons,hrc1_0,hrc1_2,hrc1_3,hrc1_29,hri]),j + 1,(by simp (disch:=(first|omega|(simp only [qI,qJ,qK]<;>omega)|exact qL _)) only [go_sem,↓reduceIte,n0,reduceCtorEq,n1,n2,n3,n4,n5,i0,i1,i2,i3,i4,i5,i6,i7,hrc1_0,hrc1_2,hrc1_3,hrc1_29,hri];all_goals rfl),.slice va (css.length + 1) vc,by omega,?_,?_,?_⟩,?_⟩
        · rw [blk_wr_eq,hlq8];rfl
        · rw [hcat,List.map_append];exact hg'.upd ((Upd.refl _ _).wr _ _ (.inr rfl)) hne
        · refine Upd.wr ?_ _ _ (.inr rfl)
          exact (hUk.more ((hEw8.mono fun _ h => h.elim).trans hu) fun b hb h => absurd h (hnb b (.inl hb)))
        · try simp (disch:=(first|omega|(simp only [qI,qJ,qK]<;>omega)|exact qL _)) only [go_sem,↓reduceIte,n0,reduceCtorEq,n1,n2,n3,n4,n5,i0,i1,i2,i3,i4,i5,i6,i7,hrc1_0,hrc1_2,hrc1_3,hrc1_29,hri]
          simp only [RowKit.intOf];omega
      · have hk9 : Ext w4 (wr (wr (w4.alloc (.cells #[.bool false] 4)).drew w4.heap.size 0 [.bool false]) w4.heap.size 0 [.bool true]) := ((Upd.refl _ _).drew).trans q4
        generalize (wr (wr (w4.alloc (.cells #[.bool false] 4)).drew w4.heap.size 0 [.bool false]) w4.heap.size 0 [.bool true]) = w9 at *
        have hzk9 := hk9.size
        have hX9 : Ext w w9 := hX4.trans hk9
        have hb9 := hk9.blk_some hb4 id
        have hl9 := hk9.blk_some hl4 id
        have ht9 := hk9.blk_some ht4 id
        have hxe9 := hX9.blk_some hxe id
        repeat ((first | refine qA rfl ?_|apply qB|refine qC rfl ?_|apply qD|apply qE|apply qF|apply qG|apply qH);try simp (disch:=(first|omega|(simp only [qI,qJ,qK]<;>omega)|exact qL _)) only [go_sem,↓reduceIte,n0,reduceCtorEq,n1,n2,n3,n4,n5,i0,i1,i2,i3,i4,i5,i6,i7,hb9,hl9,ht9,hxe9,Int.toNat_natCast,Nat.mul_one,hq0,hq1,hq2,hrc1_0,hrc1_2,hrc1_3,hrc1_29,hri])
        refine W.drawR (.take 0 (.take 1 (.take 2 (.take 3 (.take 4 (.take 5 (.take 6 (.take 7 (.take 8 (.take 9 (.take 10 (.take 12 (.two 11 (.only 13 (.only 14 (.take 15 (.take 16 (.last 17))))) 13 (.only 11 (.only 14 (.take 15 (.take 16 (.last 17)))))))))))))))))) (ownB (.slice av j kv)) mixed (by kernel_rfl) ?_
        try simp (disch:=(first|omega|(simp only [qI,qJ,qK]<;>omega)|exact qL _ | (refine hnb _ ?_;first | omega | (simp only [World.size_alloc,size_wr,size_drew] <;> omega)))) only [go_sem,↓reduceIte,n0,reduceCtorEq,n1,n2,n3,n4,n5,i0,i1,i2,i3,i4,i5,i6,i7,hb9,hl9,ht9,hxe9,Int.toNat_natCast,Nat.mul_one,hq0,hq1,hq2,hrc1_0,hrc1_2,hrc1_3,hrc1_29,hri]
        refine ⟨?_,?_⟩
        · skip
          have hxq10 := (Upd.refl _ _ : Upd (ownB (.slice av j kv)) w9.drew w9.drew).blk_some (show blk w9.drew be = _ from hxe9) (hnb _ (.inl (by omega)))
          refine (tellX1_fn (d := d) (ok := ok) y ce w9.drew (b := be) (o := oe + j * 3) hxq10 (fun k hk => by have := hqe k hk;rw [← Nat.add_assoc] at this;exact this) ((RepS_lay true _ _).keep (Rep1_part.1 hRe) ((((hX9.drew).mono fun _ h => h.elim).trans (Upd.refl _ _) : Upd (ownB (.slice av j kv)) w w9.drew).keeps fun b hb _ => hnb b (.inl (by omega)))) (hgy.2.2 rfl)).mono ?_
          rintro _ w10 ⟨⟨c10,rfl,hc10⟩,hEx10⟩
          obtain ⟨T10,hT10⟩ : ∃ T,T = tlP (d + 2) fs_X1 y := ⟨_,rfl⟩
          replace hc10 : TreeC (fun b => w9.drew.heap.size ≤ b) w10 T10 c10 := by rw [hT10];exact hc10
          obtain ⟨vS10,vL10,vU10,rfl,hn10,hS10,hLL10,hUU10⟩ := hc10.inv
          have k1_10 := hS10.flat
          have k2_10 := SlR.flat hLL10
          have k3_10 := SlR.flat hUU10
          have hP10 : Upd (ownB (.slice av j kv)) w9.drew w10 := (Upd.refl _ _).trans (hEx10.mono fun _ h => h.elim)
          have hsq10 := hEx10.size
          try simp only [size_drew] at hsq10
          refine ⟨hP10,?_⟩
          try simp (disch:=(first|omega|(simp only [qI,qJ,qK]<;>omega)|exact qL _ | (refine hnb _ ?_;first | omega | (simp only [World.size_alloc,size_wr,size_drew] <;> omega)))) only [go_sem,↓reduceIte,n0,reduceCtorEq,n1,n2,n3,n4,n5,i0,i1,i2,i3,i4,i5,i6,i7,hb9,hl9,ht9,hxe9,Int.toNat_natCast,Nat.mul_one,hq0,hq1,hq2,hrc1_0,hrc1_2,hrc1_3,hrc1_29,hri,k1_10,k2_10,k3_10]
          have hP11 : Upd (ownB (.slice av j kv)) w9.drew (w10.alloc (.cells qZ5 37)) := show Upd (ownB (.slice av j kv)) w9.drew (w10.alloc (.cells qZ5 37)) from (hP10).alloc _
          have hn11 : blk (w10.alloc (.cells qZ5 37)) w10.heap.size = some (qZ5,37,(0,0)) := show blk (w10.alloc (.cells qZ5 37)) w10.heap.size = some (qZ5,37,(0,0)) from blk_alloc_new rfl
          have hsq11 : (w10.alloc (.cells qZ5 37)).heap.size = w10.heap.size + 1 := show (w10.alloc (.cells qZ5 37)).heap.size = w10.heap.size + 1 from World.size_alloc _ _
          have hEx11 : Ext w10 (w10.alloc (.cells qZ5 37)) := show Ext w10 (w10.alloc (.cells qZ5 37)) from Upd.alloc (Upd.refl _ _) _
          refine ⟨hP11,?_⟩
          try simp only [List.append_nil]
          generalize (w10.alloc (.cells qZ5 37)) = w11 at *
          try simp only [size_drew] at hsq11
          have hEw12 : Ext w4 w11 := ((hk9.drew.trans hEx10).trans hEx11)
          have hzw12 := hEw12.size
          obtain ⟨css,hown,hall⟩ := (hg.ext hEw12).ex
          have hcl := hall.1
          rw [hlj] at hcl
          have hx12 : TreeC (fun b => (fun b => w1.heap.size ≤ b) b ∧ b ≠ w.heap.size + 1 ∧ ¬ ownB (.slice av j kv) b) w11 ((tl1 (tlP (d + 2)) fQ_1.of fQ_1.sub) y) [.int .i64 T10.n,vS10,.bool T10.null,vL10,vU10] := by
            rw [show (tl1 (tlP (d + 2)) fQ_1.of fQ_1.sub) y = _ from hT10.symm]
            exact TreeC.weaken (fun b _ hk => ⟨by omega,by omega,hnb b (.inr (by omega))⟩) (TreeC.weaken (ok' := fun b => w4.heap.size ≤ b) (fun b _ hk => by have hk' : w9.drew.heap.size ≤ b := hk;(try simp only [size_drew] at hk');omega) (TreeC.keep (Ext.keeps hEx11 _) hc10))
          refine wp_append ap_34_34 (m := 1) (news := [.int .i64 0,.slice none 0 0,.bool false,.slice none 0 0,.slice none 0 0]) (n := css.length) (cs := css.flatten) (v := (.slice av j kv)) ?_ rfl hown.1 (all2_flat_tree hall) (Src.blk (fr := (0,0)) (T := 37) hn11 rfl rfl) ?_ ?_ ?_
          · first | rfl | simp (disch:=(first|omega|(simp only [qI,qJ,qK]<;>omega)|exact qL _)) only [go_sem,↓reduceIte,n0,reduceCtorEq,n1,n2,n3,n4,n5,i0,i1,i2,i3,i4,i5,i6,i7]
          · omega
          · omega
          intro v' w12 ho hu hfr
          have hP12 := (hP11 : Upd (ownB (.slice av j kv)) w9.drew w11).trans hu
          have hzq12 := hP12.size
          simp only [size_drew] at hzq12
          have hlq12 := hP12.blk_some (show blk w9.drew (w.heap.size + 1) = _ from hl9) (hnb _ (.inl (by omega)))
          rcases ho.2 with ⟨_,h⟩ | ⟨g,cap,rest,fr,hv',hg',hbg,hlen,hth,hle⟩
          · exact absurd h (Nat.succ_ne_zero _)
          subst hv'
          have hgne : ¬ g = w.heap.size + 1 := fun h => (hfr g ⟨_,_,_,rfl,rfl⟩).elim (fun h' => hnb _ (.inl (by omega)) (h ▸ h')) (fun h' => by omega)
          have hfl : css.flatten.length = css.length * 5 := flatten_len hown.2
          have hlen2 : (css.flatten ++ ([.int .i64 0,.slice none 0 0,.bool false,.slice none 0 0,.slice none 0 0] : List Value) ++ rest).length = cap * 5 := by simp only [List.length_append] at hlen ⊢;omega
          obtain ⟨XX,hXX⟩ : ∃ X : Array Value,X = (css.flatten ++ ([.int .i64 0,.slice none 0 0,.bool false,.slice none 0 0,.slice none 0 0] : List Value) ++ rest).toArray := ⟨_,rfl⟩
          have hbgX : blk w12 g = some (XX,37,fr) := by rw [hXX];exact hbg
          have hXsz : XX.size = cap * 5 := by rw [hXX,List.size_toArray];exact hlen2
          have hth2 : thaw fr (css.length * 5) 5 = true := thaw_of hth (by omega)
          have hst : css.length * 5 + 5 ≤ XX.size := by omega
          have hset := Own.setlast (cs := [.int .i64 T10.n,vS10,.bool T10.null,vL10,vU10]) ho rfl rfl
          have hu2 : Upd (ownB (.slice av j kv)) w11 (wr w12 g (css.length * 5) [.int .i64 T10.n,vS10,.bool T10.null,vL10,vU10]) := hu.wr _ _ ((hfr g ⟨_,_,_,rfl,rfl⟩).symm)
          have hg2 := GrowT.snoc hown hall hx12 hu2 hfr hset
          have hcj : css.length = j := by first | exact hcl.symm.trans hlj | omega
          simp only [hcj] at hth2 hst hset hu2 hg2
          refine ⟨hP12,?_⟩
          try simp (disch:=(first|omega|(simp only [qI,qJ,qK]<;>omega)|exact qL _ | (refine hnb _ ?_;first | omega | (simp only [World.size_alloc,size_wr,size_drew] <;> omega)))) only [go_sem,↓reduceIte,n0,reduceCtorEq,n1,n2,n3,n4,n5,i0,i1,i2,i3,i4,i5,i6,i7,hlq12,hbgX,hth2,hst,hcj,Int.toNat_natCast,Nat.mul_one,k1_10,k2_10,k3_10,hrc1_0,hrc1_2,hrc1_3,hrc1_29,hri]
          repeat ((first | refine qA rfl ?_|apply qB|refine qC rfl ?_|apply qD|apply qE|apply qF|apply qG|apply qH);try simp (disch:=(first|omega|(simp only [qI,qJ,qK]<;>omega)|exact qL _)) only [go_sem,↓reduceIte,n0,reduceCtorEq,n1,n2,n3,n4,n5,i0,i1,i2,i3,i4,i5,i6,i7,hlq12,hbgX,hth2,hst,hcj,Int.toNat_natCast,Nat.mul_one,k1_10,k2_10,k3_10,hrc1_0,hrc1_2,hrc1_3,hrc1_29,hri])
          refine ⟨⟨(by simp (disch:=(first|omega|(simp only [qI,qJ,qK]<;>omega)|exact qL _)) only [go_sem,↓reduceIte,n0,reduceCtorEq,n1,n2,n3,n4,n5,i0,i1,i2,i3,i4,i5,i6,i7,Holds_nil,Holds_cons,hrc1_0,hrc1_2,hrc1_3,hrc1_29,hri]),j + 1,(by simp (disch:=(first|omega|(simp only [qI,qJ,qK]<;>omega)|exact qL _)) only [go_sem,↓reduceIte,n0,reduceCtorEq,n1,n2,n3,n4,n5,i0,i1,i2,i3,i4,i5,i6,i7,hrc1_0,hrc1_2,hrc1_3,hrc1_29,hri];all_goals rfl),.slice (some ⟨g,0,none⟩) (j + 1) cap,by omega,?_,?_,?_⟩,?_⟩
          · rw [blk_wr_ne (by omega),blk_wr_eq,hlq12];rfl
          · rw [hcat,List.map_append,wr_comm (Ne.symm hgne)]
            exact hg2.upd ((Upd.refl _ _).wr _ _ (.inr rfl)) (fun h => hgne (ownB_row h).symm)
          · rw [wr_comm (Ne.symm hgne)]
            refine Upd.wr ?_ _ _ (.inr rfl)
            exact (hUk.more ((hEw12.mono fun _ h => h.elim).trans hu2) fun b hb h => absurd h (hnb b (.inl hb)))
          · try simp (disch:=(first|omega|(simp only [qI,qJ,qK]<;>omega)|exact qL _)) only [go_sem,↓reduceIte,n0,reduceCtorEq,n1,n2,n3,n4,n5,i0,i1,i2,i3,i4,i5,i6,i7,hrc1_0,hrc1_2,hrc1_3,hrc1_29,hri]
            simp only [RowKit.intOf];omega
        · skip
          have hP13 : Upd (ownB (.slice av j kv)) w9.drew (w9.alloc (.cells qZ5 37)).drew := show Upd (ownB (.slice av j kv)) w9.drew (w9.drew.alloc (.cells qZ5 37)) from (Upd.refl _ _).alloc _
          have hn13 : blk (w9.alloc (.cells qZ5 37)).drew w9.drew.heap.size = some (qZ5,37,(0,0)) := show blk (w9.drew.alloc (.cells qZ5 37)) w9.drew.heap.size = some (qZ5,37,(0,0)) from blk_alloc_new rfl
          have hsq13 : (w9.alloc (.cells qZ5 37)).drew.heap.size = w9.drew.heap.size + 1 := show (w9.drew.alloc (.cells qZ5 37)).heap.size = w9.drew.heap.size + 1 from World.size_alloc _ _
          have hEx13 : Ext w9.drew (w9.alloc (.cells qZ5 37)).drew := show Ext w9.drew (w9.drew.alloc (.cells qZ5 37)) from Upd.alloc (Upd.refl _ _) _
          refine ⟨hP13,?_⟩
          try simp only [List.append_nil]
          generalize (w9.alloc (.cells qZ5 37)).drew = w13 at *
          try simp only [size_drew] at hsq13
          have hxq14 := (hP13 : Upd (ownB (.slice av j kv)) w9.drew w13).blk_some (show blk w9.drew be = _ from hxe9) (hnb _ (.inl (by omega)))
          refine (tellX1_fn (d := d) (ok := ok) y ce w13 (b := be) (o := oe + j * 3) hxq14 (fun k hk => by have := hqe k hk;rw [← Nat.add_assoc] at this;exact this) ((RepS_lay true _ _).keep (Rep1_part.1 hRe) ((((hX9.drew).mono fun _ h => h.elim).trans (hP13) : Upd (ownB (.slice av j kv)) w w13).keeps fun b hb _ => hnb b (.inl (by omega)))) (hgy.2.2 rfl)).mono ?_
          rintro _ w14 ⟨⟨c14,rfl,hc14⟩,hEx14⟩
          obtain ⟨T14,hT14⟩ : ∃ T,T = tlP (d + 2) fs_X1 y := ⟨_,rfl⟩
          replace hc14 : TreeC (fun b => w13.heap.size ≤ b) w14 T14 c14 := by rw [hT14];exact hc14
          obtain ⟨vS14,vL14,vU14,rfl,hn14,hS14,hLL14,hUU14⟩ := hc14.inv
          have k1_14 := hS14.flat
          have k2_14 := SlR.flat hLL14
          have k3_14 := SlR.flat hUU14
          have hP14 : Upd (ownB (.slice av j kv)) w9.drew w14 := (hP13).trans (hEx14.mono fun _ h => h.elim)
          have hsq14 := hEx14.size
          try simp only [size_drew] at hsq14
          refine ⟨hP14,?_⟩
          try simp (disch:=(first|omega|(simp only [qI,qJ,qK]<;>omega)|exact qL _ | (refine hnb _ ?_;first | omega | (simp only [World.size_alloc,size_wr,size_drew] <;> omega)))) only [go_sem,↓reduceIte,n0,reduceCtorEq,n1,n2,n3,n4,n5,i0,i1,i2,i3,i4,i5,i6,i7,hb9,hl9,ht9,hxe9,Int.toNat_natCast,Nat.mul_one,hq0,hq1,hq2,hrc1_0,hrc1_2,hrc1_3,hrc1_29,hri,k1_14,k2_14,k3_14]
          have hEw15 : Ext w4 w14 := ((hk9.drew.trans hEx13).trans hEx14)
          have hzw15 := hEw15.size
          obtain ⟨css,hown,hall⟩ := (hg.ext hEw15).ex
          have hcl := hall.1
          rw [hlj] at hcl
          have hx15 : TreeC (fun b => (fun b => w1.heap.size ≤ b) b ∧ b ≠ w.heap.size + 1 ∧ ¬ ownB (.slice av j kv) b) w14 ((tl1 (tlP (d + 2)) fQ_1.of fQ_1.sub) y) [.int .i64 T14.n,vS14,.bool T14.null,vL14,vU14] := by
            rw [show (tl1 (tlP (d + 2)) fQ_1.of fQ_1.sub) y = _ from hT14.symm]
            exact TreeC.weaken (fun b _ hk => ⟨by omega,by omega,hnb b (.inr (by omega))⟩) (TreeC.weaken (ok' := fun b => w4.heap.size ≤ b) (fun b _ hk => by have hk' : w13.heap.size ≤ b := hk;(try simp only [size_drew] at hk');omega) hc14)
          refine wp_append ap_34_34 (m := 1) (news := [.int .i64 0,.slice none 0 0,.bool false,.slice none 0 0,.slice none 0 0]) (n := css.length) (cs := css.flatten) (v := (.slice av j kv)) ?_ rfl hown.1 (all2_flat_tree hall) (Src.blk (fr := (0,0)) (T := 37) (hEx14.blk_some hn13 id) rfl rfl) ?_ ?_ ?_
          · first | rfl | simp (disch:=(first|omega|(simp only [qI,qJ,qK]<;>omega)|exact qL _)) only [go_sem,↓reduceIte,n0,reduceCtorEq,n1,n2,n3,n4,n5,i0,i1,i2,i3,i4,i5,i6,i7]
          · omega
          · omega
          intro v' w15 ho hu hfr
          have hP15 := (hP14 : Upd (ownB (.slice av j kv)) w9.drew w14).trans hu
          have hzq15 := hP15.size
          simp only [size_drew] at hzq15
          have hlq15 := hP15.blk_some (show blk w9.drew (w.heap.size + 1) = _ from hl9) (hnb _ (.inl (by omega)))
          rcases ho.2 with ⟨_,h⟩ | ⟨g,cap,rest,fr,hv',hg',hbg,hlen,hth,hle⟩
          · exact absurd h (Nat.succ_ne_zero _)
          subst hv'
          have hgne : ¬ g = w.heap.size + 1 := fun h => (hfr g ⟨_,_,_,rfl,rfl⟩).elim (fun h' => hnb _ (.inl (by omega)) (h ▸ h')) (fun h' => by omega)
          have hfl : css.flatten.length = css.length * 5 := flatten_len hown.2
          have hlen2 : (css.flatten ++ ([.int .i64 0,.slice none 0 0,.bool false,.slice none 0 0,.slice none 0 0] : List Value) ++ rest).length = cap * 5 := by simp only [List.length_append] at hlen ⊢;omega
          obtain ⟨XX,hXX⟩ : ∃ X : Array Value,X = (css.flatten ++ ([.int .i64 0,.slice none 0 0,.bool false,.slice none 0 0,.slice none 0 0] : List Value) ++ rest).toArray := ⟨_,rfl⟩
          have hbgX : blk w15 g = some (XX,37,fr) := by rw [hXX];exact hbg
          have hXsz : XX.size = cap * 5 := by rw [hXX,List.size_toArray];exact hlen2
          have hth2 : thaw fr (css.length * 5) 5 = true := thaw_of hth (by omega)
          have hst : css.length * 5 + 5 ≤ XX.size := by omega
          have hset := Own.setlast (cs := [.int .i64 T14.n,vS14,.bool T14.null,vL14,vU14]) ho rfl rfl
          have hu2 : Upd (ownB (.slice av j kv)) w14 (wr w15 g (css.length * 5) [.int .i64 T14.n,vS14,.bool T14.null,vL14,vU14]) := hu.wr _ _ ((hfr g ⟨_,_,_,rfl,rfl⟩).symm)
          have hg2 := GrowT.snoc hown hall hx15 hu2 hfr hset
          have hcj : css.length = j := by first | exact hcl.symm.trans hlj | omega
          simp only [hcj] at hth2 hst hset hu2 hg2
          refine ⟨hP15,?_⟩
          try simp (disch:=(first|omega|(simp only [qI,qJ,qK]<;>omega)|exact qL _ | (refine hnb _ ?_;first | omega | (simp only [World.size_alloc,size_wr,size_drew] <;> omega)))) only [go_sem,↓reduceIte,n0,reduceCtorEq,n1,n2,n3,n4,n5,i0,i1,i2,i3,i4,i5,i6,i7,hlq15,hbgX,hth2,hst,hcj,Int.toNat_natCast,Nat.mul_one,k1_14,k2_14,k3_14,hrc1_0,hrc1_2,hrc1_3,hrc1_29,hri]
          repeat ((first | refine qA rfl ?_|apply qB|refine qC rfl ?_|apply qD|apply qE|apply qF|apply qG|apply qH);try simp (disch:=(first|omega|(simp only [qI,qJ,qK]<;>omega)|exact qL _)) only [go_sem,↓reduceIte,n0,reduceCtorEq,n1,n2,n3,n4,n5,i0,i1,i2,i3,i4,i5,i6,i7,hlq15,hbgX,hth2,hst,hcj,Int.toNat_natCast,Nat.mul_one,k1_14,k2_14,k3_14,hrc1_0,hrc1_2,hrc1_3,hrc1_29,hri])
          refine ⟨⟨(by simp (disch:=(first|omega|(simp only [qI,qJ,qK]<;>omega)|exact qL _)) only [go_sem,↓reduceIte,n0,reduceCtorEq,n1,n2,n3,n4,n5,i0,i1,i2,i3,i4,i5,i6,i7,Holds_nil,Holds_cons,hrc1_0,hrc1_2,hrc1_3,hrc1_29,hri]),j + 1,(by simp (disch:=(first|omega|(simp only [qI,qJ,qK]<;>omega)|exact qL _)) only [go_sem,↓reduceIte,n0,reduceCtorEq,n1,n2,n3,n4,n5,i0,i1,i2,i3,i4,i5,i6,i7,hrc1_0,hrc1_2,hrc1_3,hrc1_29,hri];all_goals rfl),.slice (some ⟨g,0,none⟩) (j + 1) cap,by omega,?_,?_,?_⟩,?_⟩
          · rw [blk_wr_ne (by omega),blk_wr_eq,hlq15];rfl
          · rw [hcat,List.map_append,wr_comm (Ne.symm hgne)]
            exact hg2.upd ((Upd.refl _ _).wr _ _ (.inr rfl)) (fun h => hgne (ownB_row h).symm)
          · rw [wr_comm (Ne.symm hgne)]
            refine Upd.wr ?_ _ _ (.inr rfl)
            exact (hUk.more ((hEw15.mono fun _ h => h.elim).trans hu2) fun b hb h => absurd h (hnb b (.inl hb)))
          · try simp (disch:=(first|omega|(simp only [qI,qJ,qK]<;>omega)|exact qL _)) only [go_sem,↓reduceIte,n0,reduceCtorEq,n1,n2,n3,n4,n5,i0,i1,i2,i3,i4,i5,i6,i7,hrc1_0,hrc1_2,hrc1_3,hrc1_29,hri]
            simp only [RowKit.intOf];omega
    · have hjn : j = L1.length := by omega
      subst hjn
      rw [List.take_length] at hg
      repeat ((first | refine qA rfl ?_|apply qB|refine qC rfl ?_|apply qD|apply qE|apply qF|apply qG|apply qH);try simp (disch:=(first|omega|(simp only [qI,qJ,qK]<;>omega)|exact qL _)) only [go_sem,↓reduceIte,n0,reduceCtorEq,n1,n2,n3,n4,n5,i0,i1,i2,i3,i4,i5,i6,i7,hrc1_0,hrc1_2,hrc1_3,hrc1_29,hri])
      exact ⟨(by simp (disch:=(first|omega|(simp only [qI,qJ,qK]<;>omega)|exact qL _)) only [go_sem,↓reduceIte,n0,reduceCtorEq,n1,n2,n3,n4,n5,i0,i1,i2,i3,i4,i5,i6,i7,Holds_nil,Holds_cons,hrc1_0,hrc1_2,hrc1_3,hrc1_29,hri]),v,hl4,hg,hUk⟩
  rintro ρ w16 ⟨⟨hrd1_0,hrd1_2,hrd1_3,hrd1_29,-⟩,v,hl16,hg16,hUz16⟩
  have hV16 : Upd (fun b => b = w.heap.size + 1 ∨ b = w.heap.size + 2) w3 w16 := hUz16.mono fun _ h => .inl h
  have hU16 : Upd (fun b => b = w.heap.size + 1 ∨ b = w.heap.size + 2) w1 w16 := hU3.trans hV16
  have hz16 := hU16.size
  have hX16 : Ext w w16 := hE1.more hU16 fun b hb h => by omega
  have hb16 := hX16.blk_some hb id
  have ht16 := hUz16.blk_some ht3 (by omega)
  obtain ⟨av1,kv1,hvs,_⟩ := hg16.shape
  subst hvs
  have hf1 : TreeC (fun b => w1.heap.size ≤ b) w16 (.mk 0 [] (t.at 1).null (L1.map (tl1 (tlP (d + 2)) fQ_1.of fQ_1.sub)) []) [.int .i64 0,.slice none 0 0,.bool (t.at 1).null,.slice av1 (List.map (tl1 (tlP (d + 2)) fQ_1.of fQ_1.sub) L1).length kv1,.slice none 0 0] := TreeC.intro rfl (BytesV.nil _ _) (hg16.trees (fun _ _ h => h) (fun b hb => by have := hz3;omega)) (tagsN _ _)
  repeat ((first | refine qA rfl ?_|apply qB|refine qC rfl ?_|apply qD|apply qE|apply qF|apply qG|apply qH);try simp (disch:=(first|omega|(simp only [qI,qJ,qK]<;>omega)|exact qL _)) only [go_sem,↓reduceIte,n0,reduceCtorEq,n1,n2,n3,n4,n5,i0,i1,i2,i3,i4,i5,i6,i7,hb16,hl16,ht16,hq0,hq1,hq2,hrd1_0,hrd1_2,hrd1_3])
  refine (EachG_fn (ok := fun b => b < w.heap.size) 45 ca_45 #[.pointer (some ⟨w.heap.size + 2,0,none⟩)] w16 (tb := b) (to := 3) hb16 hq2 ((hT.weaken fun b hb _ => hb).keep (hX16.keeps _)) (sortT_perm _) (sortT_lt hgu.2.1) (by rw [(sortT_perm t.u).length_eq];exact hgu.1)
    (fun b => b = w.heap.size + 2) (by omega) (fun b hb hk e => by have hk' : b < w.heap.size := hk;omega) (fun b hb => by have := blk_lt ht16;omega)
    (fun wl done w' => ∃ v,blk w' (w.heap.size + 2) = some (#[.int .i64 0,.slice none 0 0,.bool false,.slice (some ⟨w.heap.size + 1,0,none⟩) 2 2,v],37,(0,0)) ∧ GrowU (fun b => w1.heap.size ≤ b) wl.heap.size (w.heap.size + 2) w' 69 v done) (fun wl hE => ⟨_,hE.blk_some ht16 id,GrowU.nil _ _ _ _ _⟩) ?_).mono ?_
  · rintro wl hE done y vv wc hpre ⟨v,hbv,hg⟩ hU hvv hy
    have hz' := hE.size
    have hzu := hU.size
    have htl := blk_lt ht16
    have hpl := hpre.length_le
    simp only [List.length_append,List.length_cons,List.length_nil] at hpl
    rw [(sortT_perm t.u).length_eq] at hpl
    have hlu := hgu.1
    have hmy : y ∈ t.u := (sortT_perm t.u).mem_iff.1 (hpre.subset (by simp))
    refine (tagclQ_fn (ok := fun b => b < w.heap.size) _ _ _ _ v done y vv wc hbv hg hzu (by omega) (hvv.keep ((hE.mono (fun _ h => h.elim) |>.trans hU : Upd (fun b => b = w.heap.size + 2) w16 wc).keeps fun b _ hk e => by have hk' : b < w.heap.size := hk;omega)) hy (hgu.2.2 y hmy) (by omega) (fun b hb => by have := hz16;omega)).mono ?_
    rintro _ w2' ⟨⟨v',h1,h2⟩,h3⟩
    exact ⟨⟨v',h1,h2⟩,hU.trans' h3 fun b hb h => h.elim id fun h => by omega⟩
  rintro _ w17 ⟨wl,hEl,⟨v,ht17,hgU⟩,hUe⟩
  have hzl := hEl.size
  obtain ⟨aU,kU,hvs,_⟩ := hgU.shape
  subst hvs
  have hV17 : Upd (fun b => b = w.heap.size + 1 ∨ b = w.heap.size + 2) w16 w17 := (hEl.mono fun _ h => h.elim).trans (hUe.mono fun _ h => .inr h)
  have hU17 : Upd (fun b => b = w.heap.size + 1 ∨ b = w.heap.size + 2) w1 w17 := hU16.trans hV17
  have hz17 := hU17.size
  have hX17 : Ext w w17 := hE1.more hU17 fun b hb h => by omega
  have hb17 := hX17.blk_some hb id
  have hl17 := (((hEl.mono fun _ h => h.elim).trans hUe : Upd (fun b => b = w.heap.size + 2) w16 w17)).blk_some hl16 (by omega)
  have hTU := hgU.tags (ok' := (fun b => w1.heap.size ≤ b)) (fun _ _ h => h) (fun b hb => by have := hz16;omega)
  repeat ((first | refine qA rfl ?_|apply qB|refine qC rfl ?_|apply qD|apply qE|apply qF|apply qG|apply qH);try simp (disch:=(first|omega|(simp only [qI,qJ,qK]<;>omega)|exact qL _)) only [go_sem,↓reduceIte,n0,reduceCtorEq,n1,n2,n3,n4,n5,i0,i1,i2,i3,i4,i5,i6,i7,hb17,hl17,ht17,hq0,hq1,hq2,hrd1_0,hrd1_2,hrd1_3,cellsAt_five])
  refine (sorted_fn _ _ w17 hTU (sortT_lt hgu.2.1) (by rw [(sortT_perm t.u).length_eq];exact hgu.1)).mono ?_
  rintro _ w18 hEs
  have hV18 : Upd (fun b => b = w.heap.size + 1 ∨ b = w.heap.size + 2) w17 w18 := hEs.mono fun _ h => h.elim
  have hU18 : Upd (fun b => b = w.heap.size + 1 ∨ b = w.heap.size + 2) w1 w18 := hU17.trans hV18
  have hz18 := hU18.size
  have hX18 : Ext w w18 := hE1.more hU18 fun b hb h => by omega
  have hb18 := hX18.blk_some hb id
  have hl18 := hEs.blk_some hl17 id
  have ht18 := hEs.blk_some ht17 id
  have hr18 := (hU18.blk_some hr1 (by omega))
  have hC_18 : Upd (fun b => b = w.heap.size + 1 ∨ b = w.heap.size + 2) w18 w18 := Upd.refl _ _
  have hC_17 : Upd (fun b => b = w.heap.size + 1 ∨ b = w.heap.size + 2) w17 w18 := hV18.trans hC_18
  have hC_16 : Upd (fun b => b = w.heap.size + 1 ∨ b = w.heap.size + 2) w16 w18 := hV17.trans hC_17
  have hC_3 : Upd (fun b => b = w.heap.size + 1 ∨ b = w.heap.size + 2) w3 w18 := hV16.trans hC_16
  have hC_2 : Upd (fun b => b = w.heap.size + 1 ∨ b = w.heap.size + 2) w2 w18 := hV3.trans hC_3
  have hC_1 : Upd (fun b => b = w.heap.size + 1 ∨ b = w.heap.size + 2) w1 w18 := hV2.trans hC_2
  have hF0 := TreeC.keep (hC_2.keeps fun b hb hk e => by have hk' : w1.heap.size ≤ b := hk;omega) hf0
  have hF1 := TreeC.keep (hC_16.keeps fun b hb hk e => by have hk' : w1.heap.size ≤ b := hk;omega) hf1
  replace hF0 : TreeC (fun b => w1.heap.size ≤ b) w18 (tlF (tlP (d + 2)) fQ_0 (t.at 0)) [.int .i64 (IntKind.i32.wrap (t.at 0).n),.slice none 0 0,.bool false,.slice none 0 0,.slice none 0 0] := hF0
  replace hF1 : TreeC (fun b => w1.heap.size ≤ b) w18 (tlF (tlP (d + 2)) fQ_1 (t.at 1)) [.int .i64 0,.slice none 0 0,.bool (t.at 1).null,.slice av1 (List.map (tl1 (tlP (d + 2)) fQ_1.of fQ_1.sub) L1).length kv1,.slice none 0 0] := by rw [show tlF (tlP (d + 2)) fQ_1 (t.at 1) = .mk 0 [] (t.at 1).null ((if (t.at 1).null = true then [] else (t.at 1).l).map (tl1 (tlP (d + 2)) fQ_1.of fQ_1.sub)) [] from rfl,← hL1];exact hF1
  have hTL : TreesV (fun b => (fun b => w1.heap.size ≤ b) b ∨ b = w.heap.size + 1) w18 (.slice (some ⟨w.heap.size + 1,0,none⟩) 2 2) [tlF (tlP (d + 2)) fQ_0 (t.at 0),tlF (tlP (d + 2)) fQ_1 (t.at 1)] := by
    refine ⟨[[.int .i64 (IntKind.i32.wrap (t.at 0).n),.slice none 0 0,.bool false,.slice none 0 0,.slice none 0 0],[.int .i64 0,.slice none 0 0,.bool (t.at 1).null,.slice av1 (List.map (tl1 (tlP (d + 2)) fQ_1.of fQ_1.sub) L1).length kv1,.slice none 0 0]],⟨_,2,rfl,Nat.le_refl _,(by intro cs hm;simp only [List.mem_cons,List.not_mem_nil,or_false] at hm;rcases hm with rfl | rfl <;> rfl),.inr ⟨_,rfl,rfl,.inr rfl,_,hl18,fun i hi => by rw [Nat.zero_add,List.getElem?_toArray];rfl⟩⟩,rfl,fun i h1 h2 => ?_⟩
    match i,h1 with
    | 0,_ => exact TreeC.weaken (fun b _ hk => .inl hk) hF0
    | 1,_ => exact TreeC.weaken (fun b _ hk => .inl hk) hF1
  repeat ((first | refine qA rfl ?_|apply qB|refine qC rfl ?_|apply qD|apply qE|apply qF|apply qG|apply qH);try simp (disch:=(first|omega|(simp only [qI,qJ,qK]<;>omega)|exact qL _)) only [go_sem,↓reduceIte,n0,reduceCtorEq,n1,n2,n3,n4,n5,i0,i1,i2,i3,i4,i5,i6,i7,hb18,hl18,ht18,hq0,hq1,hq2,hrd1_0,hrd1_2,hrd1_3,hr18,cellsAt_five])
  refine ⟨⟨_,rfl,?_⟩,hX18.wr _ _ (.inl (Nat.le_refl _))⟩
  have hUr : Upd (fun b => b = w.heap.size) w18 (wr w18 w.heap.size 0 [.int .i64 0,.slice none 0 0,.bool false,.slice (some ⟨w.heap.size + 1,0,none⟩) 2 2,.slice aU (sortT t.u).length kU]) := (Upd.refl _ _).wr _ _ (.inr rfl)
  have hTU2 := hTU.keep (hEs.keeps _)
  exact TreeC.intro rfl (BytesV.nil _ _) ((hTL.keep (hUr.keeps fun b _ hk e => by rcases hk with hk | hk <;> omega)).weaken fun b _ hk => by rcases hk with hk | hk <;> omega) ((hTU2.keep (hUr.keeps fun b _ hk e => by omega)).weaken fun b _ hk => by omega)
end Ms

