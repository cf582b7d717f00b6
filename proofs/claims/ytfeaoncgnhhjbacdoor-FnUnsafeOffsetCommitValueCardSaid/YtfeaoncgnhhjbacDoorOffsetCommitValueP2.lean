/- A part of the proof: see the last text. -/
import Derived.Test.YtfeaoncgnhhjbacDoorC05
import Derived.Test.YtfeaoncgnhhjbacDoorC09
import Derived.Test.YtfeaoncgnhhjbacDoorC10
import Derived.Test.YtfeaoncgnhhjbacDoorOffsetCommitValueP0
import Derived.Test.YtfeaoncgnhhjbacDoorOffsetCommitValueP1
set_option linter.unusedSimpArgs false
set_option linter.unusedVariables false
namespace Ms
open Go.World renaming size_alloc → qI
open Ms renaming size_wr → qJ,size_drew → qK,not_noB → qL
open W renaming seqR → qA,seq → qB,regR → qC,condK → qD,block → qE,skip → qF,ret → qG,exit → qH
open Nat renaming reduceEqDiff → n0,reduceAdd → n1,reduceMul → n2,reduceSub → n3,reduceLT → n4,reduceLeDiff → n5
open Int renaming reduceEq → i0,reduceLT → i1,reduceLE → i2,reduceNeg → i3,reduceAdd → i4,reduceSub → i5,reduceMul → i6,reduceToNat → i7
set_option maxRecDepth 8000
open Go Go.Proofs Go.Shelf
attribute [local congr] W_congr WPsq_congr WPp_congr optK_congr addrK_congr intK_congr boolK_congr sliceK_congr tupleK_congr funcK_congr Fn_congr rawK_congr takeK_congr stepK_congr convK_congr aggK_congr

theorem tagclOffsetCommitValue_fn {ok OK : Blocks} {B tb : Nat} (c0 c1 c2 c3 v : Value) (done : List TagD) (y : TagD) (vv : Value) (w : World) (hbt : blk w tb = some (#[c0,c1,c2,c3,v],26,(0,0))) (hg : GrowU OK B tb w 61 v done) (hB : B ≤ w.heap.size) (htb : tb < B) (hvv : BytesV ok w vv y.2) (hy : y.1 < 2 ^ 32) (hyl : y.2.length ≤ 32767) (hdl : done.length ≤ 32767) (hOK : ∀ b,B ≤ b → OK b) :
    Fn Tryd.prog 20 #[.int .u32 y.1,vv,.pointer (some ⟨tb,0,none⟩)] w fun _ w' => (∃ v',blk w' tb = some (#[c0,c1,c2,c3,v'],26,(0,0)) ∧ GrowU OK B tb w' 61 v' (done ++ [y])) ∧ Upd (fun b => b = tb ∨ B ≤ b) w w' := by
  have htl := blk_lt hbt
  refine fn_of_W Tryd.func20 rfl Tryd.results20 Tryd.ntmps20 rfl ?_
  repeat ((first | refine qA rfl ?_|refine qB ?_|refine qC rfl ?_|refine qD ?_|refine qE ?_|refine qF ?_|refine qG ?_|refine qH ?_);try simp (maxSteps:=1000000)(disch:=(first|omega|(simp only [qI,qJ,qK]<;>omega)|exact qL _)) only [go_sem,↓reduceIte,n0,reduceCtorEq,n1,n2,n3,n4,n5,i0,i1,i2,i3,i4,i5,i6,i7])
  obtain ⟨av,kv,rfl,_⟩ := hg.shape
  have hnb : ∀ b,b < B ∨ w.heap.size ≤ b → ¬ ownB (.slice av done.length kv) b := fun b hb h => by
    have := hg.above h
    have := hg.below h
    omega
  refine W.drawR (.take 0 (.take 1 (.take 2 (.take 3 (.only 4 (.only 5 (.only 6 (.only 7 (.take 8 (.last 9)))))))))) (ownB (.slice av done.length kv)) mixed (by kernel_rfl) ?_
  simp (maxSteps:=1000000)(disch:=(first|omega|(simp only [qI,qJ,qK]<;>omega)|exact qL _ | (refine hnb _ ?_;first | omega | (simp only [World.size_alloc,size_wr,size_drew] <;> omega)))) only [go_sem,↓reduceIte,n0,reduceCtorEq,n1,n2,n3,n4,n5,i0,i1,i2,i3,i4,i5,i6,i7,hbt]
  refine wp_copyN ap_22_22 (ok := ok) (s := y.2) (v := vv) (by first | rfl | simp (maxSteps:=1000000)(disch:=(first|omega|(simp only [qI,qJ,qK]<;>omega)|exact qL _)) only [go_sem,↓reduceIte,n0,reduceCtorEq,n1,n2,n3,n4,n5,i0,i1,i2,i3,i4,i5,i6,i7]) (by first | rfl | simp (maxSteps:=1000000)(disch:=(first|omega|(simp only [qI,qJ,qK]<;>omega)|exact qL _)) only [go_sem,↓reduceIte,n0,reduceCtorEq,n1,n2,n3,n4,n5,i0,i1,i2,i3,i4,i5,i6,i7]) (hvv.keep (Ext.keeps ((Upd.refl _ _).drew) _)) (by omega) ?_
  intro v1 w1 ho1 hE1 hf1
  obtain ⟨a1,k1,rfl,_⟩ := ho1.shape
  have hB1 := Own.bytes (ok := fun b => w.heap.size ≤ b) ho1 fun b hb => hf1 b hb
  have hP1 : Upd (ownB (.slice av done.length kv)) w.drew w1 := hE1.mono fun _ h => h.elim
  have hs1 := hE1.size
  simp only [size_drew] at hs1
  refine ⟨hP1,?_⟩
  simp (maxSteps:=1000000)(disch:=(first|omega|(simp only [qI,qJ,qK]<;>omega)|exact qL _ | (refine hnb _ ?_;first | omega | (simp only [World.size_alloc,size_wr,size_drew] <;> omega)))) only [go_sem,↓reduceIte,n0,reduceCtorEq,n1,n2,n3,n4,n5,i0,i1,i2,i3,i4,i5,i6,i7,hbt]
  refine ⟨hP1,?_⟩
  have hP2 : Upd (ownB (.slice av done.length kv)) w.drew (w1.alloc (.cells #[.int .u32 y.1,.slice a1 y.2.length k1] 61)) := hP1.alloc _
  have hn2 : blk (w1.alloc (.cells #[.int .u32 y.1,.slice a1 y.2.length k1] 61)) w1.heap.size = some (#[.int .u32 y.1,.slice a1 y.2.length k1],61,(0,0)) := blk_alloc_new rfl
  have hs2 : (w1.alloc (.cells #[.int .u32 y.1,.slice a1 y.2.length k1] 61)).heap.size = w1.heap.size + 1 := World.size_alloc _ _
  have hE2 : Ext w1 (w1.alloc (.cells #[.int .u32 y.1,.slice a1 y.2.length k1] 61)) := Upd.alloc (Upd.refl _ _) _
  refine ⟨hP2,?_⟩
  try simp only [List.append_nil]
  generalize (w1.alloc (.cells #[.int .u32 y.1,.slice a1 y.2.length k1] 61)) = w2 at *
  have hEw : Ext w w2 := (((Upd.refl _ _).drew).trans hE1).trans hE2
  obtain ⟨css,hown,hall⟩ := (hg.ext hEw).ex
  have hcl := hall.1
  have hx2 : TagC (fun b => OK b ∧ b ≠ tb ∧ ¬ ownB (.slice av done.length kv) b) w2 y [.int .u32 y.1,.slice a1 y.2.length k1] := ⟨_,rfl,(hB1.keep (hE2.keeps _)).weaken fun b _ hk => ⟨hOK b (by omega),by omega,hnb b (.inr hk)⟩,hy⟩
  refine wp_append ap_24_24 (m := 1) (news := [.int .u32 y.1,.slice a1 y.2.length k1]) (n := css.length) (cs := css.flatten) (v := .slice av done.length kv) ?_ rfl hown.1 hall.flat_cells (Src.blk (fr := (0,0)) (T := 61) hn2 rfl rfl) ?_ ?_ ?_
  · first | rfl | simp (maxSteps:=1000000)(disch:=(first|omega|(simp only [qI,qJ,qK]<;>omega)|exact qL _)) only [go_sem,↓reduceIte,n0,reduceCtorEq,n1,n2,n3,n4,n5,i0,i1,i2,i3,i4,i5,i6,i7]
  · omega
  · omega
  intro v' w3 ho hu hfr
  have hg3 := GrowU.snoc hown hall hx2 hu hfr ho
  obtain ⟨va,vc,hv',_⟩ := ho.shape
  subst hv'
  have hP3 := hP2.trans hu
  have hs3 := hu.size
  have hbt3 := hP3.blk_some (show blk w.drew tb = _ from hbt) (hnb _ (.inl htb))
  have hne : ¬ ownB (.slice va (css.length + 1) vc) tb := fun h => (hfr _ h).elim (hnb _ (.inl htb)) (fun h => by omega)
  refine ⟨hP3,?_⟩
  simp (maxSteps:=1000000)(disch:=(first|omega|(simp only [qI,qJ,qK]<;>omega)|exact qL _ | (refine hnb _ ?_;first | omega | (simp only [World.size_alloc,size_wr,size_drew] <;> omega)))) only [go_sem,↓reduceIte,n0,reduceCtorEq,n1,n2,n3,n4,n5,i0,i1,i2,i3,i4,i5,i6,i7,hbt3]
  repeat ((first | refine qA rfl ?_|refine qB ?_|refine qC rfl ?_|refine qD ?_|refine qE ?_|refine qF ?_|refine qG ?_|refine qH ?_);try simp (maxSteps:=1000000)(disch:=(first|omega|(simp only [qI,qJ,qK]<;>omega)|exact qL _)) only [go_sem,↓reduceIte,n0,reduceCtorEq,n1,n2,n3,n4,n5,i0,i1,i2,i3,i4,i5,i6,i7])
  refine ⟨⟨.slice va (css.length + 1) vc,by first | (rw [blk_wr_eq,hbt3];rfl) | rfl | (rw [hbt3];rfl) | (rw [blk_wr_eq,hbt3]),hg3.upd ((Upd.refl _ _).wr _ _ (.inr rfl)) hne⟩,?_⟩
  refine Upd.wr ?_ _ _ (.inr (.inl rfl))
  exact (((Upd.refl (fun b => b = tb ∨ B ≤ b) w).drew).trans (hP3.mono fun b h => .inr (hg.above h)))

set_option maxHeartbeats 4000000 in
theorem tellOffsetCommitValue_fn {d : Nat} {ok : Blocks} (t : Tree) (cs : List Value) (w : World) {b : Nat} {x : Blk} (hb : blk w b = some x) (hq : ∀ k,k < 22 → x.1[1 + k]? = cs[k]?) (hR : RepS true (d + 1) fs_OffsetCommitValue ok w t cs) (hg : GoodP (d + 1) fs_OffsetCommitValue t) :
    Fn Tryd.prog 12 #[.pointer (some ⟨b,0,none⟩)] w fun r w' => (∃ c,r = .agg c.toArray ∧ TreeC (fun b => w.heap.size ≤ b) w' (tlP (d + 1) fs_OffsetCommitValue t) c) ∧ Ext w w' := by
  have hbl := blk_lt hb
  obtain ⟨⟨gd0,gd1,gd2,gd3,gd4,gd5,-⟩,hgu⟩ := hg
  replace gd0 : GoodF (GoodP d) fOffsetCommitValue_0 (t.at 0) := gd0
  replace gd1 : GoodF (GoodP d) fOffsetCommitValue_1 (t.at 1) := gd1
  replace gd2 : GoodF (GoodP d) fOffsetCommitValue_2 (t.at 2) := gd2
  replace gd3 : GoodF (GoodP d) fOffsetCommitValue_3 (t.at 3) := gd3
  replace gd4 : GoodF (GoodP d) fOffsetCommitValue_4 (t.at 4) := gd4
  replace gd5 : GoodF (GoodP d) fOffsetCommitValue_5 (t.at 5) := gd5
  obtain ⟨cs0,q,hcs,hL,hT⟩ := hR.inv
  obtain ⟨c0,e0,rfl,h0,c1,e1,rfl,h1,c2,e2,rfl,h2,c3,e3,rfl,h3,c4,e4,rfl,h4,c5,e5,rfl,h5,rfl⟩ := hL
  replace h0 : RepF (RepS true d) (szS true d) fOffsetCommitValue_0 ok w (t.at 0) c0 := h0
  replace h1 : RepF (RepS true d) (szS true d) fOffsetCommitValue_1 ok w (t.at 1) c1 := h1
  replace h2 : RepF (RepS true d) (szS true d) fOffsetCommitValue_2 ok w (t.at 2) c2 := h2
  replace h3 : RepF (RepS true d) (szS true d) fOffsetCommitValue_3 ok w (t.at 3) c3 := h3
  replace h4 : RepF (RepS true d) (szS true d) fOffsetCommitValue_4 ok w (t.at 4) c4 := h4
  replace h5 : RepF (RepS true d) (szS true d) fOffsetCommitValue_5 ok w (t.at 5) c5 := h5
  obtain rfl := (RepF_num (by decide)).1 h0
  obtain rfl := (RepF_num (by decide)).1 h1
  obtain rfl := (RepF_text rfl (by decide)).1 h2
  obtain rfl := (RepF_num (by decide)).1 h3
  obtain rfl := (RepF_num (by decide)).1 h4
  obtain rfl := (RepF_uuid rfl).1 h5
  have hl16_5 : ((uuidS (t.at 5).s).map byteV).length = 16 := by rw [List.length_map,uuidS_len]
  generalize hZ5 : (uuidS (t.at 5).s).map byteV = Z5 at *
  obtain ⟨z5_0,z5_1,z5_2,z5_3,z5_4,z5_5,z5_6,z5_7,z5_8,z5_9,z5_10,z5_11,z5_12,z5_13,z5_14,z5_15,rfl⟩ := list16 hl16_5
  obtain ⟨qm,rfl⟩ := hT.shape
  subst hcs
  have hq0 : x.1[1]? = some (.int .i64 (t.at 0).n) := hq 0 (by decide)
  have hq1 : x.1[2]? = some (.int .i32 (IntKind.i32.wrap (t.at 1).n)) := hq 1 (by decide)
  have hq2 : x.1[3]? = some (strV (t.at 2).s) := hq 2 (by decide)
  have hq3 : x.1[4]? = some (.int .i64 (t.at 3).n) := hq 3 (by decide)
  have hq4 : x.1[5]? = some (.int .i64 (t.at 4).n) := hq 4 (by decide)
  have hq5 : x.1[6]? = some (z5_0) := hq 5 (by decide)
  have hq6 : x.1[7]? = some (z5_1) := hq 6 (by decide)
  have hq7 : x.1[8]? = some (z5_2) := hq 7 (by decide)
  have hq8 : x.1[9]? = some (z5_3) := hq 8 (by decide)
  have hq9 : x.1[10]? = some (z5_4) := hq 9 (by decide)
  have hq10 : x.1[11]? = some (z5_5) := hq 10 (by decide)
  have hq11 : x.1[12]? = some (z5_6) := hq 11 (by decide)
  have hq12 : x.1[13]? = some (z5_7) := hq 12 (by decide)
  have hq13 : x.1[14]? = some (z5_8) := hq 13 (by decide)
  have hq14 : x.1[15]? = some (z5_9) := hq 14 (by decide)
  have hq15 : x.1[16]? = some (z5_10) := hq 15 (by decide)
  have hq16 : x.1[17]? = some (z5_11) := hq 16 (by decide)
  have hq17 : x.1[18]? = some (z5_12) := hq 17 (by decide)
  have hq18 : x.1[19]? = some (z5_13) := hq 18 (by decide)
  have hq19 : x.1[20]? = some (z5_14) := hq 19 (by decide)
  have hq20 : x.1[21]? = some (z5_15) := hq 20 (by decide)
  have hq21 : x.1[22]? = some (.map qm) := hq 21 (by decide)
  have hn64_0 := (gd0.one (by decide)).1 rfl
  have hn64_3 := (gd3.one (by decide)).1 rfl
  have hn64_4 := (gd4.one (by decide)).1 rfl
  refine fn_of_W Tryd.func12 rfl Tryd.results12 Tryd.ntmps12 rfl ?_
  repeat ((first | refine qA rfl ?_|refine qB ?_|refine qC rfl ?_|refine qD ?_|refine qE ?_|refine qF ?_|refine qG ?_|refine qH ?_);try simp (maxSteps:=1000000)(disch:=(first|omega|(simp only [qI,qJ,qK]<;>omega)|exact qL _)) only [go_sem,↓reduceIte,n0,reduceCtorEq,n1,n2,n3,n4,n5,i0,i1,i2,i3,i4,i5,i6,i7])
  refine wp_make (T := 23) (E := 26) (size := 5) (bytes := 88) (z := .agg #[.int .i64 0,.slice none 0 0,.bool false,.slice none 0 0,.slice none 0 0]) (l := 6) (c := 6) (kl := .i64) (kc := .i64) (by kernel_rfl) (by kernel_rfl) (by first | rfl | (simp (maxSteps:=1000000)(disch:=(first|omega|(simp only [qI,qJ,qK]<;>omega)|exact qL _)) only [go_sem,↓reduceIte,n0,reduceCtorEq,n1,n2,n3,n4,n5,i0,i1,i2,i3,i4,i5,i6,i7];rfl)) (by first | rfl | (simp (maxSteps:=1000000)(disch:=(first|omega|(simp only [qI,qJ,qK]<;>omega)|exact qL _)) only [go_sem,↓reduceIte,n0,reduceCtorEq,n1,n2,n3,n4,n5,i0,i1,i2,i3,i4,i5,i6,i7];rfl)) (by omega) (by omega) (by omega) ?_
  have hmd : madeCells (Value.agg #[.int .i64 0,.slice none 0 0,.bool false,.slice none 0 0,.slice none 0 0]).cells (6 * 5) = #[.int .i64 0,.slice none 0 0,.bool false,.slice none 0 0,.slice none 0 0,.int .i64 0,.slice none 0 0,.bool false,.slice none 0 0,.slice none 0 0,.int .i64 0,.slice none 0 0,.bool false,.slice none 0 0,.slice none 0 0,.int .i64 0,.slice none 0 0,.bool false,.slice none 0 0,.slice none 0 0,.int .i64 0,.slice none 0 0,.bool false,.slice none 0 0,.slice none 0 0,.int .i64 0,.slice none 0 0,.bool false,.slice none 0 0,.slice none 0 0] := by kernel_rfl
  rw [hmd]
  simp (maxSteps:=1000000)(disch:=(first|omega|(simp only [qI,qJ,qK]<;>omega)|exact qL _)) only [go_sem,↓reduceIte,n0,reduceCtorEq,n1,n2,n3,n4,n5,i0,i1,i2,i3,i4,i5,i6,i7]
  repeat ((first | refine qA rfl ?_|refine qB ?_|refine qC rfl ?_|refine qD ?_|refine qE ?_|refine qF ?_|refine qG ?_|refine qH ?_);try simp (maxSteps:=1000000)(disch:=(first|omega|(simp only [qI,qJ,qK]<;>omega)|exact qL _)) only [go_sem,↓reduceIte,n0,reduceCtorEq,n1,n2,n3,n4,n5,i0,i1,i2,i3,i4,i5,i6,i7])
  have hE1 : Ext w (wr (((w.alloc (.cells #[.int .i64 0,.slice none 0 0,.bool false,.slice none 0 0,.slice none 0 0] 26)).alloc (.cells #[.int .i64 0,.slice none 0 0,.bool false,.slice none 0 0,.slice none 0 0,.int .i64 0,.slice none 0 0,.bool false,.slice none 0 0,.slice none 0 0,.int .i64 0,.slice none 0 0,.bool false,.slice none 0 0,.slice none 0 0,.int .i64 0,.slice none 0 0,.bool false,.slice none 0 0,.slice none 0 0,.int .i64 0,.slice none 0 0,.bool false,.slice none 0 0,.slice none 0 0,.int .i64 0,.slice none 0 0,.bool false,.slice none 0 0,.slice none 0 0] 26)).alloc (.cells #[.int .i64 0,.slice none 0 0,.bool false,.slice none 0 0,.slice none 0 0] 26)) (w.heap.size + 2) 0 [.int .i64 0,.slice none 0 0,.bool false,.slice (some ⟨w.heap.size + 1,0,none⟩) 6 6,.slice none 0 0]) := (Upd.alloc (Upd.alloc (Upd.alloc (Upd.refl _ _) _) _) _).wr _ _ (.inl (by omega))
  have hz1 : (wr (((w.alloc (.cells #[.int .i64 0,.slice none 0 0,.bool false,.slice none 0 0,.slice none 0 0] 26)).alloc (.cells #[.int .i64 0,.slice none 0 0,.bool false,.slice none 0 0,.slice none 0 0,.int .i64 0,.slice none 0 0,.bool false,.slice none 0 0,.slice none 0 0,.int .i64 0,.slice none 0 0,.bool false,.slice none 0 0,.slice none 0 0,.int .i64 0,.slice none 0 0,.bool false,.slice none 0 0,.slice none 0 0,.int .i64 0,.slice none 0 0,.bool false,.slice none 0 0,.slice none 0 0,.int .i64 0,.slice none 0 0,.bool false,.slice none 0 0,.slice none 0 0] 26)).alloc (.cells #[.int .i64 0,.slice none 0 0,.bool false,.slice none 0 0,.slice none 0 0] 26)) (w.heap.size + 2) 0 [.int .i64 0,.slice none 0 0,.bool false,.slice (some ⟨w.heap.size + 1,0,none⟩) 6 6,.slice none 0 0]).heap.size = w.heap.size + 3 := by simp only [size_wr,World.size_alloc]
  have hl1 : blk (wr (((w.alloc (.cells #[.int .i64 0,.slice none 0 0,.bool false,.slice none 0 0,.slice none 0 0] 26)).alloc (.cells #[.int .i64 0,.slice none 0 0,.bool false,.slice none 0 0,.slice none 0 0,.int .i64 0,.slice none 0 0,.bool false,.slice none 0 0,.slice none 0 0,.int .i64 0,.slice none 0 0,.bool false,.slice none 0 0,.slice none 0 0,.int .i64 0,.slice none 0 0,.bool false,.slice none 0 0,.slice none 0 0,.int .i64 0,.slice none 0 0,.bool false,.slice none 0 0,.slice none 0 0,.int .i64 0,.slice none 0 0,.bool false,.slice none 0 0,.slice none 0 0] 26)).alloc (.cells #[.int .i64 0,.slice none 0 0,.bool false,.slice none 0 0,.slice none 0 0] 26)) (w.heap.size + 2) 0 [.int .i64 0,.slice none 0 0,.bool false,.slice (some ⟨w.heap.size + 1,0,none⟩) 6 6,.slice none 0 0]) (w.heap.size + 1) = some (#[.int .i64 0,.slice none 0 0,.bool false,.slice none 0 0,.slice none 0 0,.int .i64 0,.slice none 0 0,.bool false,.slice none 0 0,.slice none 0 0,.int .i64 0,.slice none 0 0,.bool false,.slice none 0 0,.slice none 0 0,.int .i64 0,.slice none 0 0,.bool false,.slice none 0 0,.slice none 0 0,.int .i64 0,.slice none 0 0,.bool false,.slice none 0 0,.slice none 0 0,.int .i64 0,.slice none 0 0,.bool false,.slice none 0 0,.slice none 0 0],26,(0,0)) := by simp (maxSteps:=1000000)(disch:=(first|omega|(simp only [qI,qJ,qK]<;>omega)|exact qL _)) only [go_sem,↓reduceIte,n0,reduceCtorEq,n1,n2,n3,n4,n5,i0,i1,i2,i3,i4,i5,i6,i7]
  have ht1 : blk (wr (((w.alloc (.cells #[.int .i64 0,.slice none 0 0,.bool false,.slice none 0 0,.slice none 0 0] 26)).alloc (.cells #[.int .i64 0,.slice none 0 0,.bool false,.slice none 0 0,.slice none 0 0,.int .i64 0,.slice none 0 0,.bool false,.slice none 0 0,.slice none 0 0,.int .i64 0,.slice none 0 0,.bool false,.slice none 0 0,.slice none 0 0,.int .i64 0,.slice none 0 0,.bool false,.slice none 0 0,.slice none 0 0,.int .i64 0,.slice none 0 0,.bool false,.slice none 0 0,.slice none 0 0,.int .i64 0,.slice none 0 0,.bool false,.slice none 0 0,.slice none 0 0] 26)).alloc (.cells #[.int .i64 0,.slice none 0 0,.bool false,.slice none 0 0,.slice none 0 0] 26)) (w.heap.size + 2) 0 [.int .i64 0,.slice none 0 0,.bool false,.slice (some ⟨w.heap.size + 1,0,none⟩) 6 6,.slice none 0 0]) (w.heap.size + 2) = some (#[.int .i64 0,.slice none 0 0,.bool false,.slice (some ⟨w.heap.size + 1,0,none⟩) 6 6,.slice none 0 0],26,(0,0)) := by simp (maxSteps:=1000000)(disch:=(first|omega|(simp only [qI,qJ,qK]<;>omega)|exact qL _)) only [go_sem,↓reduceIte,n0,reduceCtorEq,n1,n2,n3,n4,n5,i0,i1,i2,i3,i4,i5,i6,i7]
  have hr1 : blk (wr (((w.alloc (.cells #[.int .i64 0,.slice none 0 0,.bool false,.slice none 0 0,.slice none 0 0] 26)).alloc (.cells #[.int .i64 0,.slice none 0 0,.bool false,.slice none 0 0,.slice none 0 0,.int .i64 0,.slice none 0 0,.bool false,.slice none 0 0,.slice none 0 0,.int .i64 0,.slice none 0 0,.bool false,.slice none 0 0,.slice none 0 0,.int .i64 0,.slice none 0 0,.bool false,.slice none 0 0,.slice none 0 0,.int .i64 0,.slice none 0 0,.bool false,.slice none 0 0,.slice none 0 0,.int .i64 0,.slice none 0 0,.bool false,.slice none 0 0,.slice none 0 0] 26)).alloc (.cells #[.int .i64 0,.slice none 0 0,.bool false,.slice none 0 0,.slice none 0 0] 26)) (w.heap.size + 2) 0 [.int .i64 0,.slice none 0 0,.bool false,.slice (some ⟨w.heap.size + 1,0,none⟩) 6 6,.slice none 0 0]) w.heap.size = some (#[.int .i64 0,.slice none 0 0,.bool false,.slice none 0 0,.slice none 0 0],26,(0,0)) := by simp (maxSteps:=1000000)(disch:=(first|omega|(simp only [qI,qJ,qK]<;>omega)|exact qL _)) only [go_sem,↓reduceIte,n0,reduceCtorEq,n1,n2,n3,n4,n5,i0,i1,i2,i3,i4,i5,i6,i7]
  obtain ⟨w1,hw1⟩ : ∃ y,y = (wr (((w.alloc (.cells #[.int .i64 0,.slice none 0 0,.bool false,.slice none 0 0,.slice none 0 0] 26)).alloc (.cells #[.int .i64 0,.slice none 0 0,.bool false,.slice none 0 0,.slice none 0 0,.int .i64 0,.slice none 0 0,.bool false,.slice none 0 0,.slice none 0 0,.int .i64 0,.slice none 0 0,.bool false,.slice none 0 0,.slice none 0 0,.int .i64 0,.slice none 0 0,.bool false,.slice none 0 0,.slice none 0 0,.int .i64 0,.slice none 0 0,.bool false,.slice none 0 0,.slice none 0 0,.int .i64 0,.slice none 0 0,.bool false,.slice none 0 0,.slice none 0 0] 26)).alloc (.cells #[.int .i64 0,.slice none 0 0,.bool false,.slice none 0 0,.slice none 0 0] 26)) (w.heap.size + 2) 0 [.int .i64 0,.slice none 0 0,.bool false,.slice (some ⟨w.heap.size + 1,0,none⟩) 6 6,.slice none 0 0]) := ⟨_,rfl⟩
  rw [← hw1] at hE1 hz1 hl1 ht1 hr1
  rw [← hw1]
  clear hw1
  have hU1 : Upd (fun b => b = w.heap.size + 1 ∨ b = w.heap.size + 2) w1 w1 := Upd.refl _ _
  have hb1 := hE1.blk_some hb id
  repeat ((first | refine qA rfl ?_|refine qB ?_|refine qC rfl ?_|refine qD ?_|refine qE ?_|refine qF ?_|refine qG ?_|refine qH ?_);try simp (maxSteps:=1000000)(disch:=(first|omega|(simp only [qI,qJ,qK]<;>omega)|exact qL _)) only [go_sem,↓reduceIte,n0,reduceCtorEq,n1,n2,n3,n4,n5,i0,i1,i2,i3,i4,i5,i6,i7,hb1,hl1,ht1,hq0,hq1,hq2,hq3,hq4,hq5,hq6,hq7,hq8,hq9,hq10,hq11,hq12,hq13,hq14,hq15,hq16,hq17,hq18,hq19,hq20,hq21])
  refine W.drawR (.take 0 (.take 1 (.take 2 (.take 3 (.take 4 (.take 5 (.only 6 (.take 7 (.last 8))))))))) (NoB) mixed (by kernel_rfl) ?_
  try simp (maxSteps:=1000000)(disch:=(first|omega|(simp only [qI,qJ,qK]<;>omega)|exact qL _)) only [go_sem,↓reduceIte,n0,reduceCtorEq,n1,n2,n3,n4,n5,i0,i1,i2,i3,i4,i5,i6,i7,hb1,hl1,ht1,hq0,hq1,hq2,hq3,hq4,hq5,hq6,hq7,hq8,hq9,hq10,hq11,hq12,hq13,hq14,hq15,hq16,hq17,hq18,hq19,hq20,hq21]
  refine ⟨Upd.refl _ _,?_⟩
  have hlq2 : blk w1.drew (w.heap.size + 1) = _ := hl1
  have hx2 : Upd (fun b => b = w.heap.size + 1 ∨ b = w.heap.size + 2) w1 w1.drew := (Upd.refl _ _).drew
  generalize hw2 : wr w1.drew (w.heap.size + 1) 0 [.int .i64 ((t.at 0).n),.slice none 0 0,.bool false,.slice none 0 0,.slice none 0 0] = w2
  have hl2 : blk w2 (w.heap.size + 1) = some (#[.int .i64 ((t.at 0).n),.slice none 0 0,.bool false,.slice none 0 0,.slice none 0 0,.int .i64 0,.slice none 0 0,.bool false,.slice none 0 0,.slice none 0 0,.int .i64 0,.slice none 0 0,.bool false,.slice none 0 0,.slice none 0 0,.int .i64 0,.slice none 0 0,.bool false,.slice none 0 0,.slice none 0 0,.int .i64 0,.slice none 0 0,.bool false,.slice none 0 0,.slice none 0 0,.int .i64 0,.slice none 0 0,.bool false,.slice none 0 0,.slice none 0 0],26,(0,0)) := by rw [← hw2,blk_wr_eq,hlq2];rfl
  have hv2 : Upd (fun b => b = w.heap.size + 1 ∨ b = w.heap.size + 2) w1.drew w2 := by rw [← hw2];exact (Upd.refl _ _).wr _ _ (.inr (.inl rfl))
  have hV2 : Upd (fun b => b = w.heap.size + 1 ∨ b = w.heap.size + 2) w1 w2 := hx2.trans hv2
  have hU2 : Upd (fun b => b = w.heap.size + 1 ∨ b = w.heap.size + 2) w1 w2 := hU1.trans hV2
  have hz2 := hU2.size
  have hX2 : Ext w w2 := hE1.more hU2 fun b hb h => by omega
  have hb2 := hX2.blk_some hb id
  have ht2 : blk w2 (w.heap.size + 2) = some (#[.int .i64 0,.slice none 0 0,.bool false,.slice (some ⟨w.heap.size + 1,0,none⟩) 6 6,.slice none 0 0],26,(0,0)) := by
    rw [← hw2,blk_wr_ne (by omega)]
    exact ht1
  clear hw2
  have hf0 : TreeC (fun b => w1.heap.size ≤ b) w2 (.num ((t.at 0).n)) [.int .i64 ((t.at 0).n),.slice none 0 0,.bool false,.slice none 0 0,.slice none 0 0] := (TreeC.keep (hv2.keeps fun b hb hk e => by have hk' : w1.heap.size ≤ b := hk;omega) (TreeC.intro (hn64_0) (BytesV.nil _ _) (treesN _ _) (tagsN _ _) : TreeC (fun b => w1.heap.size ≤ b) w1.drew (.num ((t.at 0).n)) [.int .i64 ((t.at 0).n),.slice none 0 0,.bool false,.slice none 0 0,.slice none 0 0]))
  repeat ((first | refine qA rfl ?_|refine qB ?_|refine qC rfl ?_|refine qD ?_|refine qE ?_|refine qF ?_|refine qG ?_|refine qH ?_);try simp (maxSteps:=1000000)(disch:=(first|omega|(simp only [qI,qJ,qK]<;>omega)|exact qL _)) only [go_sem,↓reduceIte,n0,reduceCtorEq,n1,n2,n3,n4,n5,i0,i1,i2,i3,i4,i5,i6,i7,hb2,hl2,ht2,hq0,hq1,hq2,hq3,hq4,hq5,hq6,hq7,hq8,hq9,hq10,hq11,hq12,hq13,hq14,hq15,hq16,hq17,hq18,hq19,hq20,hq21])
  refine W.drawR (.take 0 (.take 1 (.take 2 (.take 3 (.take 4 (.take 5 (.take 6 (.only 7 (.take 8 (.last 9)))))))))) (NoB) mixed (by kernel_rfl) ?_
  try simp (maxSteps:=1000000)(disch:=(first|omega|(simp only [qI,qJ,qK]<;>omega)|exact qL _)) only [go_sem,↓reduceIte,n0,reduceCtorEq,n1,n2,n3,n4,n5,i0,i1,i2,i3,i4,i5,i6,i7,hb2,hl2,ht2,hq0,hq1,hq2,hq3,hq4,hq5,hq6,hq7,hq8,hq9,hq10,hq11,hq12,hq13,hq14,hq15,hq16,hq17,hq18,hq19,hq20,hq21,tl32]
  refine ⟨Upd.refl _ _,?_⟩
  have hlq3 : blk w2.drew (w.heap.size + 1) = _ := hl2
  have hx3 : Upd (fun b => b = w.heap.size + 1 ∨ b = w.heap.size + 2) w2 w2.drew := (Upd.refl _ _).drew
  generalize hw3 : wr w2.drew (w.heap.size + 1) 5 [.int .i64 (IntKind.i32.wrap (t.at 1).n),.slice none 0 0,.bool false,.slice none 0 0,.slice none 0 0] = w3
  have hl3 : blk w3 (w.heap.size + 1) = some (#[.int .i64 ((t.at 0).n),.slice none 0 0,.bool false,.slice none 0 0,.slice none 0 0,.int .i64 (IntKind.i32.wrap (t.at 1).n),.slice none 0 0,.bool false,.slice none 0 0,.slice none 0 0,.int .i64 0,.slice none 0 0,.bool false,.slice none 0 0,.slice none 0 0,.int .i64 0,.slice none 0 0,.bool false,.slice none 0 0,.slice none 0 0,.int .i64 0,.slice none 0 0,.bool false,.slice none 0 0,.slice none 0 0,.int .i64 0,.slice none 0 0,.bool false,.slice none 0 0,.slice none 0 0],26,(0,0)) := by rw [← hw3,blk_wr_eq,hlq3];rfl
  have hv3 : Upd (fun b => b = w.heap.size + 1 ∨ b = w.heap.size + 2) w2.drew w3 := by rw [← hw3];exact (Upd.refl _ _).wr _ _ (.inr (.inl rfl))
  have hV3 : Upd (fun b => b = w.heap.size + 1 ∨ b = w.heap.size + 2) w2 w3 := hx3.trans hv3
  have hU3 : Upd (fun b => b = w.heap.size + 1 ∨ b = w.heap.size + 2) w1 w3 := hU2.trans hV3
  have hz3 := hU3.size
  have hX3 : Ext w w3 := hE1.more hU3 fun b hb h => by omega
  have hb3 := hX3.blk_some hb id
  have ht3 : blk w3 (w.heap.size + 2) = some (#[.int .i64 0,.slice none 0 0,.bool false,.slice (some ⟨w.heap.size + 1,0,none⟩) 6 6,.slice none 0 0],26,(0,0)) := by
    rw [← hw3,blk_wr_ne (by omega)]
    exact ht2
  clear hw3
  have hf1 : TreeC (fun b => w1.heap.size ≤ b) w3 (.num (IntKind.i32.wrap (t.at 1).n)) [.int .i64 (IntKind.i32.wrap (t.at 1).n),.slice none 0 0,.bool false,.slice none 0 0,.slice none 0 0] := (TreeC.keep (hv3.keeps fun b hb hk e => by have hk' : w1.heap.size ≤ b := hk;omega) (TreeC.intro (tl32 _) (BytesV.nil _ _) (treesN _ _) (tagsN _ _) : TreeC (fun b => w1.heap.size ≤ b) w2.drew (.num (IntKind.i32.wrap (t.at 1).n)) [.int .i64 (IntKind.i32.wrap (t.at 1).n),.slice none 0 0,.bool false,.slice none 0 0,.slice none 0 0]))
  repeat ((first | refine qA rfl ?_|refine qB ?_|refine qC rfl ?_|refine qD ?_|refine qE ?_|refine qF ?_|refine qG ?_|refine qH ?_);try simp (maxSteps:=1000000)(disch:=(first|omega|(simp only [qI,qJ,qK]<;>omega)|exact qL _)) only [go_sem,↓reduceIte,n0,reduceCtorEq,n1,n2,n3,n4,n5,i0,i1,i2,i3,i4,i5,i6,i7,hb3,hl3,ht3,hq0,hq1,hq2,hq3,hq4,hq5,hq6,hq7,hq8,hq9,hq10,hq11,hq12,hq13,hq14,hq15,hq16,hq17,hq18,hq19,hq20,hq21])
  refine W.drawR (.take 0 (.take 1 (.take 2 (.take 3 (.take 4 (.take 5 (.only 6 (.only 7 (.take 8 (.last 9)))))))))) (NoB) mixed (by kernel_rfl) ?_
  try simp (maxSteps:=1000000)(disch:=(first|omega|(simp only [qI,qJ,qK]<;>omega)|exact qL _)) only [go_sem,↓reduceIte,n0,reduceCtorEq,n1,n2,n3,n4,n5,i0,i1,i2,i3,i4,i5,i6,i7,hb3,hl3,ht3,hq0,hq1,hq2,hq3,hq4,hq5,hq6,hq7,hq8,hq9,hq10,hq11,hq12,hq13,hq14,hq15,hq16,hq17,hq18,hq19,hq20,hq21]
  refine wp_octets (S := 9) (T := 22) (E := 5) (s := (t.at 2).s) (by kernel_rfl) (by kernel_rfl) (by kernel_rfl) (by first | rfl | simp (maxSteps:=1000000)(disch:=(first|omega|(simp only [qI,qJ,qK]<;>omega)|exact qL _)) only [go_sem,↓reduceIte,n0,reduceCtorEq,n1,n2,n3,n4,n5,i0,i1,i2,i3,i4,i5,i6,i7,hb3,hl3,ht3,hq0,hq1,hq2,hq3,hq4,hq5,hq6,hq7,hq8,hq9,hq10,hq11,hq12,hq13,hq14,hq15,hq16,hq17,hq18,hq19,hq20,hq21]) ?_
  intro a4 k4 w4 hB4 hEx4
  have hP4 : Upd NoB w3.drew w4 := (Upd.refl _ _).trans (hEx4.mono fun _ h => h.elim)
  have hsq4 := hEx4.size
  try simp only [size_drew] at hsq4
  refine ⟨hP4,?_⟩
  try simp (maxSteps:=1000000)(disch:=(first|omega|(simp only [qI,qJ,qK]<;>omega)|exact qL _)) only [go_sem,↓reduceIte,n0,reduceCtorEq,n1,n2,n3,n4,n5,i0,i1,i2,i3,i4,i5,i6,i7,hb3,hl3,ht3,hq0,hq1,hq2,hq3,hq4,hq5,hq6,hq7,hq8,hq9,hq10,hq11,hq12,hq13,hq14,hq15,hq16,hq17,hq18,hq19,hq20,hq21]
  refine ⟨hP4,?_⟩
  have hlq5 := hP4.blk_some (show blk w3.drew (w.heap.size + 1) = _ from hl3) id
  have hx5 : Upd (fun b => b = w.heap.size + 1 ∨ b = w.heap.size + 2) w3 w4 := ((Upd.refl _ _).drew).trans (hP4.mono fun _ h => h.elim)
  try simp (maxSteps:=1000000)(disch:=(first|omega|(simp only [qI,qJ,qK]<;>omega)|exact qL _)) only [go_sem,↓reduceIte,n0,reduceCtorEq,n1,n2,n3,n4,n5,i0,i1,i2,i3,i4,i5,i6,i7,hlq5]
  generalize hw5 : wr w4 (w.heap.size + 1) 10 [.int .i64 0,.slice (some a4) ((t.at 2).s).length k4,.bool false,.slice none 0 0,.slice none 0 0] = w5
  have hl5 : blk w5 (w.heap.size + 1) = some (#[.int .i64 ((t.at 0).n),.slice none 0 0,.bool false,.slice none 0 0,.slice none 0 0,.int .i64 (IntKind.i32.wrap (t.at 1).n),.slice none 0 0,.bool false,.slice none 0 0,.slice none 0 0,.int .i64 0,.slice (some a4) ((t.at 2).s).length k4,.bool false,.slice none 0 0,.slice none 0 0,.int .i64 0,.slice none 0 0,.bool false,.slice none 0 0,.slice none 0 0,.int .i64 0,.slice none 0 0,.bool false,.slice none 0 0,.slice none 0 0,.int .i64 0,.slice none 0 0,.bool false,.slice none 0 0,.slice none 0 0],26,(0,0)) := by rw [← hw5,blk_wr_eq,hlq5];rfl
  have hv5 : Upd (fun b => b = w.heap.size + 1 ∨ b = w.heap.size + 2) w4 w5 := by rw [← hw5];exact (Upd.refl _ _).wr _ _ (.inr (.inl rfl))
  have hV5 : Upd (fun b => b = w.heap.size + 1 ∨ b = w.heap.size + 2) w3 w5 := hx5.trans hv5
  have hU5 : Upd (fun b => b = w.heap.size + 1 ∨ b = w.heap.size + 2) w1 w5 := hU3.trans hV5
  have hz5 := hU5.size
  have hX5 : Ext w w5 := hE1.more hU5 fun b hb h => by omega
  have hb5 := hX5.blk_some hb id
  have ht5 : blk w5 (w.heap.size + 2) = some (#[.int .i64 0,.slice none 0 0,.bool false,.slice (some ⟨w.heap.size + 1,0,none⟩) 6 6,.slice none 0 0],26,(0,0)) := by
    rw [← hw5,blk_wr_ne (by omega)]
    exact hP4.blk_some (show blk w3.drew (w.heap.size + 2) = _ from ht3) id
  clear hw5
  have hf2 : TreeC (fun b => w1.heap.size ≤ b) w5 (.oct false (t.at 2).s) [.int .i64 0,.slice (some a4) ((t.at 2).s).length k4,.bool false,.slice none 0 0,.slice none 0 0] := (TreeC.keep (hv5.keeps fun b hb hk e => by have hk' : w1.heap.size ≤ b := hk;omega) (TreeC.intro rfl (hB4.weaken fun b _ hk => by have hk' : w3.drew.heap.size ≤ b := hk;(try simp only [size_drew] at hk');omega) (treesN _ _) (tagsN _ _) : TreeC (fun b => w1.heap.size ≤ b) w4 (.oct false (t.at 2).s) [.int .i64 0,.slice (some a4) ((t.at 2).s).length k4,.bool false,.slice none 0 0,.slice none 0 0]))
  repeat ((first | refine qA rfl ?_|refine qB ?_|refine qC rfl ?_|refine qD ?_|refine qE ?_|refine qF ?_|refine qG ?_|refine qH ?_);try simp (maxSteps:=1000000)(disch:=(first|omega|(simp only [qI,qJ,qK]<;>omega)|exact qL _)) only [go_sem,↓reduceIte,n0,reduceCtorEq,n1,n2,n3,n4,n5,i0,i1,i2,i3,i4,i5,i6,i7,hb5,hl5,ht5,hq0,hq1,hq2,hq3,hq4,hq5,hq6,hq7,hq8,hq9,hq10,hq11,hq12,hq13,hq14,hq15,hq16,hq17,hq18,hq19,hq20,hq21])
  refine W.drawR (.take 0 (.take 1 (.take 2 (.take 3 (.take 4 (.take 5 (.only 6 (.take 7 (.last 8))))))))) (NoB) mixed (by kernel_rfl) ?_
  try simp (maxSteps:=1000000)(disch:=(first|omega|(simp only [qI,qJ,qK]<;>omega)|exact qL _)) only [go_sem,↓reduceIte,n0,reduceCtorEq,n1,n2,n3,n4,n5,i0,i1,i2,i3,i4,i5,i6,i7,hb5,hl5,ht5,hq0,hq1,hq2,hq3,hq4,hq5,hq6,hq7,hq8,hq9,hq10,hq11,hq12,hq13,hq14,hq15,hq16,hq17,hq18,hq19,hq20,hq21]
  refine ⟨Upd.refl _ _,?_⟩
  have hlq6 : blk w5.drew (w.heap.size + 1) = _ := hl5
  have hx6 : Upd (fun b => b = w.heap.size + 1 ∨ b = w.heap.size + 2) w5 w5.drew := (Upd.refl _ _).drew
  generalize hw6 : wr w5.drew (w.heap.size + 1) 15 [.int .i64 ((t.at 3).n),.slice none 0 0,.bool false,.slice none 0 0,.slice none 0 0] = w6
  have hl6 : blk w6 (w.heap.size + 1) = some (#[.int .i64 ((t.at 0).n),.slice none 0 0,.bool false,.slice none 0 0,.slice none 0 0,.int .i64 (IntKind.i32.wrap (t.at 1).n),.slice none 0 0,.bool false,.slice none 0 0,.slice none 0 0,.int .i64 0,.slice (some a4) ((t.at 2).s).length k4,.bool false,.slice none 0 0,.slice none 0 0,.int .i64 ((t.at 3).n),.slice none 0 0,.bool false,.slice none 0 0,.slice none 0 0,.int .i64 0,.slice none 0 0,.bool false,.slice none 0 0,.slice none 0 0,.int .i64 0,.slice none 0 0,.bool false,.slice none 0 0,.slice none 0 0],26,(0,0)) := by rw [← hw6,blk_wr_eq,hlq6];rfl
  have hv6 : Upd (fun b => b = w.heap.size + 1 ∨ b = w.heap.size + 2) w5.drew w6 := by rw [← hw6];exact (Upd.refl _ _).wr _ _ (.inr (.inl rfl))
  have hV6 : Upd (fun b => b = w.heap.size + 1 ∨ b = w.heap.size + 2) w5 w6 := hx6.trans hv6
  have hU6 : Upd (fun b => b = w.heap.size + 1 ∨ b = w.heap.size + 2) w1 w6 := hU5.trans hV6
  have hz6 := hU6.size
  have hX6 : Ext w w6 := hE1.more hU6 fun b hb h => by omega
  have hb6 := hX6.blk_some hb id
  have ht6 : blk w6 (w.heap.size + 2) = some (#[.int .i64 0,.slice none 0 0,.bool false,.slice (some ⟨w.heap.size + 1,0,none⟩) 6 6,.slice none 0 0],26,(0,0)) := by
    rw [← hw6,blk_wr_ne (by omega)]
    exact ht5
  clear hw6
  have hf3 : TreeC (fun b => w1.heap.size ≤ b) w6 (.num ((t.at 3).n)) [.int .i64 ((t.at 3).n),.slice none 0 0,.bool false,.slice none 0 0,.slice none 0 0] := (TreeC.keep (hv6.keeps fun b hb hk e => by have hk' : w1.heap.size ≤ b := hk;omega) (TreeC.intro (hn64_3) (BytesV.nil _ _) (treesN _ _) (tagsN _ _) : TreeC (fun b => w1.heap.size ≤ b) w5.drew (.num ((t.at 3).n)) [.int .i64 ((t.at 3).n),.slice none 0 0,.bool false,.slice none 0 0,.slice none 0 0]))
  repeat ((first | refine qA rfl ?_|refine qB ?_|refine qC rfl ?_|refine qD ?_|refine qE ?_|refine qF ?_|refine qG ?_|refine qH ?_);try simp (maxSteps:=1000000)(disch:=(first|omega|(simp only [qI,qJ,qK]<;>omega)|exact qL _)) only [go_sem,↓reduceIte,n0,reduceCtorEq,n1,n2,n3,n4,n5,i0,i1,i2,i3,i4,i5,i6,i7,hb6,hl6,ht6,hq0,hq1,hq2,hq3,hq4,hq5,hq6,hq7,hq8,hq9,hq10,hq11,hq12,hq13,hq14,hq15,hq16,hq17,hq18,hq19,hq20,hq21])
  refine W.drawR (.take 0 (.take 1 (.take 2 (.take 3 (.take 4 (.take 5 (.only 6 (.take 7 (.last 8))))))))) (NoB) mixed (by kernel_rfl) ?_
  try simp (maxSteps:=1000000)(disch:=(first|omega|(simp only [qI,qJ,qK]<;>omega)|exact qL _)) only [go_sem,↓reduceIte,n0,reduceCtorEq,n1,n2,n3,n4,n5,i0,i1,i2,i3,i4,i5,i6,i7,hb6,hl6,ht6,hq0,hq1,hq2,hq3,hq4,hq5,hq6,hq7,hq8,hq9,hq10,hq11,hq12,hq13,hq14,hq15,hq16,hq17,hq18,hq19,hq20,hq21]
  refine ⟨Upd.refl _ _,?_⟩
  have hlq7 : blk w6.drew (w.heap.size + 1) = _ := hl6
  have hx7 : Upd (fun b => b = w.heap.size + 1 ∨ b = w.heap.size + 2) w6 w6.drew := (Upd.refl _ _).drew
  generalize hw7 : wr w6.drew (w.heap.size + 1) 20 [.int .i64 ((t.at 4).n),.slice none 0 0,.bool false,.slice none 0 0,.slice none 0 0] = w7
  have hl7 : blk w7 (w.heap.size + 1) = some (#[.int .i64 ((t.at 0).n),.slice none 0 0,.bool false,.slice none 0 0,.slice none 0 0,.int .i64 (IntKind.i32.wrap (t.at 1).n),.slice none 0 0,.bool false,.slice none 0 0,.slice none 0 0,.int .i64 0,.slice (some a4) ((t.at 2).s).length k4,.bool false,.slice none 0 0,.slice none 0 0,.int .i64 ((t.at 3).n),.slice none 0 0,.bool false,.slice none 0 0,.slice none 0 0,.int .i64 ((t.at 4).n),.slice none 0 0,.bool false,.slice none 0 0,.slice none 0 0,.int .i64 0,.slice none 0 0,.bool false,.slice none 0 0,.slice none 0 0],26,(0,0)) := by rw [← hw7,blk_wr_eq,hlq7];rfl
  have hv7 : Upd (fun b => b = w.heap.size + 1 ∨ b = w.heap.size + 2) w6.drew w7 := by rw [← hw7];exact (Upd.refl _ _).wr _ _ (.inr (.inl rfl))
  have hV7 : Upd (fun b => b = w.heap.size + 1 ∨ b = w.heap.size + 2) w6 w7 := hx7.trans hv7
  have hU7 : Upd (fun b => b = w.heap.size + 1 ∨ b = w.heap.size + 2) w1 w7 := hU6.trans hV7
  have hz7 := hU7.size
  have hX7 : Ext w w7 := hE1.more hU7 fun b hb h => by omega
  have hb7 := hX7.blk_some hb id
  have ht7 : blk w7 (w.heap.size + 2) = some (#[.int .i64 0,.slice none 0 0,.bool false,.slice (some ⟨w.heap.size + 1,0,none⟩) 6 6,.slice none 0 0],26,(0,0)) := by
    rw [← hw7,blk_wr_ne (by omega)]
    exact ht6
  clear hw7
  have hf4 : TreeC (fun b => w1.heap.size ≤ b) w7 (.num ((t.at 4).n)) [.int .i64 ((t.at 4).n),.slice none 0 0,.bool false,.slice none 0 0,.slice none 0 0] := (TreeC.keep (hv7.keeps fun b hb hk e => by have hk' : w1.heap.size ≤ b := hk;omega) (TreeC.intro (hn64_4) (BytesV.nil _ _) (treesN _ _) (tagsN _ _) : TreeC (fun b => w1.heap.size ≤ b) w6.drew (.num ((t.at 4).n)) [.int .i64 ((t.at 4).n),.slice none 0 0,.bool false,.slice none 0 0,.slice none 0 0]))
  repeat ((first | refine qA rfl ?_|refine qB ?_|refine qC rfl ?_|refine qD ?_|refine qE ?_|refine qF ?_|refine qG ?_|refine qH ?_);try simp (maxSteps:=1000000)(disch:=(first|omega|(simp only [qI,qJ,qK]<;>omega)|exact qL _)) only [go_sem,↓reduceIte,n0,reduceCtorEq,n1,n2,n3,n4,n5,i0,i1,i2,i3,i4,i5,i6,i7,hb7,hl7,ht7,hq0,hq1,hq2,hq3,hq4,hq5,hq6,hq7,hq8,hq9,hq10,hq11,hq12,hq13,hq14,hq15,hq16,hq17,hq18,hq19,hq20,hq21])
  refine W.drawR (.take 0 (.take 1 (.take 2 (.take 3 (.take 4 (.take 5 (.only 6 (.only 7 (.take 8 (.last 9)))))))))) (NoB) mixed (by kernel_rfl) ?_
  try simp (maxSteps:=1000000)(disch:=(first|omega|(simp only [qI,qJ,qK]<;>omega)|exact qL _)) only [go_sem,↓reduceIte,n0,reduceCtorEq,n1,n2,n3,n4,n5,i0,i1,i2,i3,i4,i5,i6,i7,hb7,hl7,ht7,hq0,hq1,hq2,hq3,hq4,hq5,hq6,hq7,hq8,hq9,hq10,hq11,hq12,hq13,hq14,hq15,hq16,hq17,hq18,hq19,hq20,hq21]
  have hbd8 : blk w7.drew b = some x := hb7
  have hc16_8 : BytesV AnyB w7.drew (.slice (some ⟨b,6,none⟩) 16 16) (uuidS (t.at 5).s) := bytes_at hbd8 (uuidS_len _) fun j hj => by
    rw [hZ5,show 6 + j = 1 + (5 + j) from by omega]
    exact (hq (5 + j) (by omega)).trans (get_mid (pre := [.int .i64 (t.at 0).n,.int .i32 (IntKind.i32.wrap (t.at 1).n),strV (t.at 2).s,.int .i64 (t.at 3).n,.int .i64 (t.at 4).n]) (xs := [z5_0,z5_1,z5_2,z5_3,z5_4,z5_5,z5_6,z5_7,z5_8,z5_9,z5_10,z5_11,z5_12,z5_13,z5_14,z5_15]) (post := [.map qm]) hj)
  refine wp_copyN ap_22_22 (ok := AnyB) (s := uuidS (t.at 5).s) (v := .slice (some ⟨b,6,none⟩) 16 16) (by first | rfl | simp (maxSteps:=1000000)(disch:=(first|omega|(simp only [qI,qJ,qK]<;>omega)|exact qL _)) only [go_sem,↓reduceIte,n0,reduceCtorEq,n1,n2,n3,n4,n5,i0,i1,i2,i3,i4,i5,i6,i7]) (by first | rfl | simp (maxSteps:=1000000)(disch:=(first|omega|(simp only [qI,qJ,qK]<;>omega)|exact qL _)) only [go_sem,↓reduceIte,n0,reduceCtorEq,n1,n2,n3,n4,n5,i0,i1,i2,i3,i4,i5,i6,i7]) hc16_8 (by rw [uuidS_len];omega) ?_
  intro v8 w8 ho8 hEx8 hfr8
  obtain ⟨av8,kv8,rfl,_⟩ := ho8.shape
  have hB8 := Own.bytes (ok := fun b => w7.drew.heap.size ≤ b) ho8 fun b hb => hfr8 b hb
  have hP8 : Upd NoB w7.drew w8 := (Upd.refl _ _).trans (hEx8.mono fun _ h => h.elim)
  have hsq8 := hEx8.size
  try simp only [size_drew] at hsq8
  refine ⟨hP8,?_⟩
  try simp (maxSteps:=1000000)(disch:=(first|omega|(simp only [qI,qJ,qK]<;>omega)|exact qL _)) only [go_sem,↓reduceIte,n0,reduceCtorEq,n1,n2,n3,n4,n5,i0,i1,i2,i3,i4,i5,i6,i7,hb7,hl7,ht7,hq0,hq1,hq2,hq3,hq4,hq5,hq6,hq7,hq8,hq9,hq10,hq11,hq12,hq13,hq14,hq15,hq16,hq17,hq18,hq19,hq20,hq21]
  refine ⟨hP8,?_⟩
  have hlq9 := hP8.blk_some (show blk w7.drew (w.heap.size + 1) = _ from hl7) id
  have hx9 : Upd (fun b => b = w.heap.size + 1 ∨ b = w.heap.size + 2) w7 w8 := ((Upd.refl _ _).drew).trans (hP8.mono fun _ h => h.elim)
  try simp (maxSteps:=1000000)(disch:=(first|omega|(simp only [qI,qJ,qK]<;>omega)|exact qL _)) only [go_sem,↓reduceIte,n0,reduceCtorEq,n1,n2,n3,n4,n5,i0,i1,i2,i3,i4,i5,i6,i7,hlq9]
  generalize hw9 : wr w8 (w.heap.size + 1) 25 [.int .i64 0,.slice av8 (uuidS (t.at 5).s).length kv8,.bool false,.slice none 0 0,.slice none 0 0] = w9
  have hl9 : blk w9 (w.heap.size + 1) = some (#[.int .i64 ((t.at 0).n),.slice none 0 0,.bool false,.slice none 0 0,.slice none 0 0,.int .i64 (IntKind.i32.wrap (t.at 1).n),.slice none 0 0,.bool false,.slice none 0 0,.slice none 0 0,.int .i64 0,.slice (some a4) ((t.at 2).s).length k4,.bool false,.slice none 0 0,.slice none 0 0,.int .i64 ((t.at 3).n),.slice none 0 0,.bool false,.slice none 0 0,.slice none 0 0,.int .i64 ((t.at 4).n),.slice none 0 0,.bool false,.slice none 0 0,.slice none 0 0,.int .i64 0,.slice av8 (uuidS (t.at 5).s).length kv8,.bool false,.slice none 0 0,.slice none 0 0],26,(0,0)) := by rw [← hw9,blk_wr_eq,hlq9];rfl
  have hv9 : Upd (fun b => b = w.heap.size + 1 ∨ b = w.heap.size + 2) w8 w9 := by rw [← hw9];exact (Upd.refl _ _).wr _ _ (.inr (.inl rfl))
  have hV9 : Upd (fun b => b = w.heap.size + 1 ∨ b = w.heap.size + 2) w7 w9 := hx9.trans hv9
  have hU9 : Upd (fun b => b = w.heap.size + 1 ∨ b = w.heap.size + 2) w1 w9 := hU7.trans hV9
  have hz9 := hU9.size
  have hX9 : Ext w w9 := hE1.more hU9 fun b hb h => by omega
  have hb9 := hX9.blk_some hb id
  have ht9 : blk w9 (w.heap.size + 2) = some (#[.int .i64 0,.slice none 0 0,.bool false,.slice (some ⟨w.heap.size + 1,0,none⟩) 6 6,.slice none 0 0],26,(0,0)) := by
    rw [← hw9,blk_wr_ne (by omega)]
    exact hP8.blk_some (show blk w7.drew (w.heap.size + 2) = _ from ht7) id
  clear hw9
  have hf5 : TreeC (fun b => w1.heap.size ≤ b) w9 (.oct false (uuidS (t.at 5).s)) [.int .i64 0,.slice av8 (uuidS (t.at 5).s).length kv8,.bool false,.slice none 0 0,.slice none 0 0] := (TreeC.keep (hv9.keeps fun b hb hk e => by have hk' : w1.heap.size ≤ b := hk;omega) (TreeC.intro rfl (hB8.weaken fun b _ hk => by have hk' : w7.drew.heap.size ≤ b := hk;(try simp only [size_drew] at hk');omega) (treesN _ _) (tagsN _ _) : TreeC (fun b => w1.heap.size ≤ b) w8 (.oct false (uuidS (t.at 5).s)) [.int .i64 0,.slice av8 (uuidS (t.at 5).s).length kv8,.bool false,.slice none 0 0,.slice none 0 0]))
  repeat ((first | refine qA rfl ?_|refine qB ?_|refine qC rfl ?_|refine qD ?_|refine qE ?_|refine qF ?_|refine qG ?_|refine qH ?_);try simp (maxSteps:=1000000)(disch:=(first|omega|(simp only [qI,qJ,qK]<;>omega)|exact qL _)) only [go_sem,↓reduceIte,n0,reduceCtorEq,n1,n2,n3,n4,n5,i0,i1,i2,i3,i4,i5,i6,i7,hb9,hl9,ht9,hq0,hq1,hq2,hq3,hq4,hq5,hq6,hq7,hq8,hq9,hq10,hq11,hq12,hq13,hq14,hq15,hq16,hq17,hq18,hq19,hq20,hq21])
  refine (EachG_fn (ok := fun b => b < w.heap.size) 20 ca_20 #[.pointer (some ⟨w.heap.size + 2,0,none⟩)] w9 (tb := b) (to := 22) hb9 hq21 ((hT.weaken fun b hb _ => hb).keep (hX9.keeps _)) (sortT_perm _) (sortT_lt hgu.2.1) (by rw [(sortT_perm t.u).length_eq];exact hgu.1)
    (fun b => b = w.heap.size + 2) (by omega) (fun b hb hk e => by have hk' : b < w.heap.size := hk;omega) (fun b hb => by have := blk_lt ht9;omega)
    (fun wl done w' => ∃ v,blk w' (w.heap.size + 2) = some (#[.int .i64 0,.slice none 0 0,.bool false,.slice (some ⟨w.heap.size + 1,0,none⟩) 6 6,v],26,(0,0)) ∧ GrowU (fun b => w1.heap.size ≤ b) wl.heap.size (w.heap.size + 2) w' 61 v done) (fun wl hE => ⟨_,hE.blk_some ht9 id,GrowU.nil _ _ _ _ _⟩) ?_).mono ?_
  · rintro wl hE done y vv wc hpre ⟨v,hbv,hg⟩ hU hvv hy
    have hz' := hE.size
    have hzu := hU.size
    have htl := blk_lt ht9
    have hpl := hpre.length_le
    simp only [List.length_append,List.length_cons,List.length_nil] at hpl
    rw [(sortT_perm t.u).length_eq] at hpl
    have hlu := hgu.1
    have hmy : y ∈ t.u := (sortT_perm t.u).mem_iff.1 (hpre.subset (by simp))
    refine (tagclOffsetCommitValue_fn (ok := fun b => b < w.heap.size) _ _ _ _ v done y vv wc hbv hg hzu (by omega) (hvv.keep ((hE.mono (fun _ h => h.elim) |>.trans hU : Upd (fun b => b = w.heap.size + 2) w9 wc).keeps fun b _ hk e => by have hk' : b < w.heap.size := hk;omega)) hy (hgu.2.2 y hmy) (by omega) (fun b hb => by have := hz9;omega)).mono ?_
    rintro _ w2' ⟨⟨v',h1,h2⟩,h3⟩
    exact ⟨⟨v',h1,h2⟩,hU.trans' h3 fun b hb h => h.elim id fun h => by omega⟩
  rintro _ w10 ⟨wl,hEl,⟨v,ht10,hgU⟩,hUe⟩
  have hzl := hEl.size
  obtain ⟨aU,kU,hvs,_⟩ := hgU.shape
  subst hvs
  have hV10 : Upd (fun b => b = w.heap.size + 1 ∨ b = w.heap.size + 2) w9 w10 := (hEl.mono fun _ h => h.elim).trans (hUe.mono fun _ h => .inr h)
  have hU10 : Upd (fun b => b = w.heap.size + 1 ∨ b = w.heap.size + 2) w1 w10 := hU9.trans hV10
  have hz10 := hU10.size
  have hX10 : Ext w w10 := hE1.more hU10 fun b hb h => by omega
  have hb10 := hX10.blk_some hb id
  have hl10 := (((hEl.mono fun _ h => h.elim).trans hUe : Upd (fun b => b = w.heap.size + 2) w9 w10)).blk_some hl9 (by omega)
  have hTU := hgU.tags (ok' := (fun b => w1.heap.size ≤ b)) (fun _ _ h => h) (fun b hb => by have := hz9;omega)
  repeat ((first | refine qA rfl ?_|refine qB ?_|refine qC rfl ?_|refine qD ?_|refine qE ?_|refine qF ?_|refine qG ?_|refine qH ?_);try simp (maxSteps:=1000000)(disch:=(first|omega|(simp only [qI,qJ,qK]<;>omega)|exact qL _)) only [go_sem,↓reduceIte,n0,reduceCtorEq,n1,n2,n3,n4,n5,i0,i1,i2,i3,i4,i5,i6,i7,hb10,hl10,ht10,hq0,hq1,hq2,hq3,hq4,hq5,hq6,hq7,hq8,hq9,hq10,hq11,hq12,hq13,hq14,hq15,hq16,hq17,hq18,hq19,hq20,hq21,cellsAt_five])
  refine (sorted_fn _ _ w10 hTU (sortT_lt hgu.2.1) (by rw [(sortT_perm t.u).length_eq];exact hgu.1)).mono ?_
  rintro _ w11 hEs
  have hV11 : Upd (fun b => b = w.heap.size + 1 ∨ b = w.heap.size + 2) w10 w11 := hEs.mono fun _ h => h.elim
  have hU11 : Upd (fun b => b = w.heap.size + 1 ∨ b = w.heap.size + 2) w1 w11 := hU10.trans hV11
  have hz11 := hU11.size
  have hX11 : Ext w w11 := hE1.more hU11 fun b hb h => by omega
  have hb11 := hX11.blk_some hb id
  have hl11 := hEs.blk_some hl10 id
  have ht11 := hEs.blk_some ht10 id
  have hr11 := (hU11.blk_some hr1 (by omega))
  have hC_11 : Upd (fun b => b = w.heap.size + 1 ∨ b = w.heap.size + 2) w11 w11 := Upd.refl _ _
  have hC_10 : Upd (fun b => b = w.heap.size + 1 ∨ b = w.heap.size + 2) w10 w11 := hV11.trans hC_11
  have hC_9 : Upd (fun b => b = w.heap.size + 1 ∨ b = w.heap.size + 2) w9 w11 := hV10.trans hC_10
  have hC_7 : Upd (fun b => b = w.heap.size + 1 ∨ b = w.heap.size + 2) w7 w11 := hV9.trans hC_9
  have hC_6 : Upd (fun b => b = w.heap.size + 1 ∨ b = w.heap.size + 2) w6 w11 := hV7.trans hC_7
  have hC_5 : Upd (fun b => b = w.heap.size + 1 ∨ b = w.heap.size + 2) w5 w11 := hV6.trans hC_6
  have hC_3 : Upd (fun b => b = w.heap.size + 1 ∨ b = w.heap.size + 2) w3 w11 := hV5.trans hC_5
  have hC_2 : Upd (fun b => b = w.heap.size + 1 ∨ b = w.heap.size + 2) w2 w11 := hV3.trans hC_3
  have hC_1 : Upd (fun b => b = w.heap.size + 1 ∨ b = w.heap.size + 2) w1 w11 := hV2.trans hC_2
  have hF0 := TreeC.keep (hC_2.keeps fun b hb hk e => by have hk' : w1.heap.size ≤ b := hk;omega) hf0
  have hF1 := TreeC.keep (hC_3.keeps fun b hb hk e => by have hk' : w1.heap.size ≤ b := hk;omega) hf1
  have hF2 := TreeC.keep (hC_5.keeps fun b hb hk e => by have hk' : w1.heap.size ≤ b := hk;omega) hf2
  have hF3 := TreeC.keep (hC_6.keeps fun b hb hk e => by have hk' : w1.heap.size ≤ b := hk;omega) hf3
  have hF4 := TreeC.keep (hC_7.keeps fun b hb hk e => by have hk' : w1.heap.size ≤ b := hk;omega) hf4
  have hF5 := TreeC.keep (hC_9.keeps fun b hb hk e => by have hk' : w1.heap.size ≤ b := hk;omega) hf5
  replace hF0 : TreeC (fun b => w1.heap.size ≤ b) w11 (tlF (tlP d) fOffsetCommitValue_0 (t.at 0)) [.int .i64 ((t.at 0).n),.slice none 0 0,.bool false,.slice none 0 0,.slice none 0 0] := hF0
  replace hF1 : TreeC (fun b => w1.heap.size ≤ b) w11 (tlF (tlP d) fOffsetCommitValue_1 (t.at 1)) [.int .i64 (IntKind.i32.wrap (t.at 1).n),.slice none 0 0,.bool false,.slice none 0 0,.slice none 0 0] := hF1
  replace hF2 : TreeC (fun b => w1.heap.size ≤ b) w11 (tlF (tlP d) fOffsetCommitValue_2 (t.at 2)) [.int .i64 0,.slice (some a4) ((t.at 2).s).length k4,.bool false,.slice none 0 0,.slice none 0 0] := hF2
  replace hF3 : TreeC (fun b => w1.heap.size ≤ b) w11 (tlF (tlP d) fOffsetCommitValue_3 (t.at 3)) [.int .i64 ((t.at 3).n),.slice none 0 0,.bool false,.slice none 0 0,.slice none 0 0] := hF3
  replace hF4 : TreeC (fun b => w1.heap.size ≤ b) w11 (tlF (tlP d) fOffsetCommitValue_4 (t.at 4)) [.int .i64 ((t.at 4).n),.slice none 0 0,.bool false,.slice none 0 0,.slice none 0 0] := hF4
  replace hF5 : TreeC (fun b => w1.heap.size ≤ b) w11 (tlF (tlP d) fOffsetCommitValue_5 (t.at 5)) [.int .i64 0,.slice av8 (uuidS (t.at 5).s).length kv8,.bool false,.slice none 0 0,.slice none 0 0] := hF5
  have hTL : TreesV (fun b => (fun b => w1.heap.size ≤ b) b ∨ b = w.heap.size + 1) w11 (.slice (some ⟨w.heap.size + 1,0,none⟩) 6 6) [tlF (tlP d) fOffsetCommitValue_0 (t.at 0),tlF (tlP d) fOffsetCommitValue_1 (t.at 1),tlF (tlP d) fOffsetCommitValue_2 (t.at 2),tlF (tlP d) fOffsetCommitValue_3 (t.at 3),tlF (tlP d) fOffsetCommitValue_4 (t.at 4),tlF (tlP d) fOffsetCommitValue_5 (t.at 5)] := by
    refine ⟨[[.int .i64 ((t.at 0).n),.slice none 0 0,.bool false,.slice none 0 0,.slice none 0 0],[.int .i64 (IntKind.i32.wrap (t.at 1).n),.slice none 0 0,.bool false,.slice none 0 0,.slice none 0 0],[.int .i64 0,.slice (some a4) ((t.at 2).s).length k4,.bool false,.slice none 0 0,.slice none 0 0],[.int .i64 ((t.at 3).n),.slice none 0 0,.bool false,.slice none 0 0,.slice none 0 0],[.int .i64 ((t.at 4).n),.slice none 0 0,.bool false,.slice none 0 0,.slice none 0 0],[.int .i64 0,.slice av8 (uuidS (t.at 5).s).length kv8,.bool false,.slice none 0 0,.slice none 0 0]],⟨_,6,rfl,Nat.le_refl _,(by intro cs hm;simp only [List.mem_cons,List.not_mem_nil,or_false] at hm;rcases hm with rfl | rfl | rfl | rfl | rfl | rfl <;> rfl),.inr ⟨_,rfl,rfl,.inr rfl,_,hl11,fun i hi => by rw [Nat.zero_add,List.getElem?_toArray];rfl⟩⟩,rfl,fun i h1 h2 => ?_⟩
    match i,h1 with
    | 0,_ => exact TreeC.weaken (fun b _ hk => .inl hk) hF0
    | 1,_ => exact TreeC.weaken (fun b _ hk => .inl hk) hF1
    | 2,_ => exact TreeC.weaken (fun b _ hk => .inl hk) hF2
    | 3,_ => exact TreeC.weaken (fun b _ hk => .inl hk) hF3
    | 4,_ => exact TreeC.weaken (fun b _ hk => .inl hk) hF4
    | 5,_ => exact TreeC.weaken (fun b _ hk => .inl hk) hF5
  repeat ((first | refine qA rfl ?_|refine qB ?_|refine qC rfl ?_|refine qD ?_|refine qE ?_|refine qF ?_|refine qG ?_|refine qH ?_);try simp (maxSteps:=1000000)(disch:=(first|omega|(simp only [qI,qJ,qK]<;>omega)|exact qL _)) only [go_sem,↓reduceIte,n0,reduceCtorEq,n1,n2,n3,n4,n5,i0,i1,i2,i3,i4,i5,i6,i7,hb11,hl11,ht11,hq0,hq1,hq2,hq3,hq4,hq5,hq6,hq7,hq8,hq9,hq10,hq11,hq12,hq13,hq14,hq15,hq16,hq17,hq18,hq19,hq20,hq21,hr11,cellsAt_five])
  refine ⟨⟨_,rfl,?_⟩,hX11.wr _ _ (.inl (Nat.le_refl _))⟩
  have hUr : Upd (fun b => b = w.heap.size) w11 (wr w11 w.heap.size 0 [.int .i64 0,.slice none 0 0,.bool false,.slice (some ⟨w.heap.size + 1,0,none⟩) 6 6,.slice aU (sortT t.u).length kU]) := (Upd.refl _ _).wr _ _ (.inr rfl)
  have hTU2 := hTU.keep (hEs.keeps _)
  exact TreeC.intro rfl (BytesV.nil _ _) ((hTL.keep (hUr.keeps fun b _ hk e => by rcases hk with hk | hk <;> omega)).weaken fun b _ hk => by rcases hk with hk | hk <;> omega) ((hTU2.keep (hUr.keeps fun b _ hk e => by omega)).weaken fun b _ hk => by omega)
end Ms

namespace Ms
open Go.World renaming size_alloc → qI
open Ms renaming size_wr → qJ,size_drew → qK,not_noB → qL
open W renaming seqR → qA,seq → qB,regR → qC,condK → qD,block → qE,skip → qF,ret → qG,exit → qH
open Nat renaming reduceEqDiff → n0,reduceAdd → n1,reduceMul → n2,reduceSub → n3,reduceLT → n4,reduceLeDiff → n5
open Int renaming reduceEq → i0,reduceLT → i1,reduceLE → i2,reduceNeg → i3,reduceAdd → i4,reduceSub → i5,reduceMul → i6,reduceToNat → i7
set_option maxRecDepth 8000
open Go Go.Proofs Go.Shelf
attribute [local congr] W_congr WPsq_congr WPp_congr optK_congr addrK_congr intK_congr boolK_congr sliceK_congr tupleK_congr funcK_congr Fn_congr rawK_congr takeK_congr stepK_congr convK_congr aggK_congr

set_option maxHeartbeats 2000000 in
theorem TellDOffsetCommitValue_fn {d : Nat} {ok : Blocks} {ev : Value} (b : Value) (s : List UInt8) (w : World) (hb : BytesV ok w b s) (hG : Glo ev w) (hev : ∃ T p,ev = .iface T p) (hs : s.length ≤ 2 ^ 40) (vc : Int) (hvc : vc = (rdInt .i16 2 (some s)).1) (fin : Tree × St) (hfin : fin = rdM d (verN vc) (flexB 4 (verN vc)) fs_OffsetCommitValue (rdInt .i16 2 (some s)).2) (hgood : GoodP (d + 1) fs_OffsetCommitValue fin.1) :
    Fn Tryd.prog 4 #[b] w fun r w' => (∃ c T,r = .tuple #[.agg c.toArray,.bool fin.2.isSome] ∧ TreeC AnyB w' T c ∧ (fin.2.isSome = true → T = (tlP (d + 1) fs_OffsetCommitValue fin.1).setN vc)) ∧ Ext w w' := by
  obtain ⟨ba,bc,rfl,_⟩ := hb.shape
  have hgl := hG.lt
  have hvr := rdI16_rng (some s)
  rw [← hvc] at hvr
  have ew : IntKind.i64.wrap vc = vc := i64_wrap (by omega)
  have hE0 : Ext w (w.alloc (.cells #[.int .i64 0,.slice none 0 0,.bool false,.slice none 0 0,.slice none 0 0] 26)) := Upd.alloc (Upd.refl _ _) _
  have hz0 : (w.alloc (.cells #[.int .i64 0,.slice none 0 0,.bool false,.slice none 0 0,.slice none 0 0] 26)).heap.size = w.heap.size + 1 := World.size_alloc _ _
  have hr0 : blk (w.alloc (.cells #[.int .i64 0,.slice none 0 0,.bool false,.slice none 0 0,.slice none 0 0] 26)) w.heap.size = some (#[.int .i64 0,.slice none 0 0,.bool false,.slice none 0 0,.slice none 0 0],26,(0,0)) := blk_alloc_new rfl
  refine fn_of_W Tryd.func4 rfl Tryd.results4 Tryd.ntmps4 rfl ?_
  repeat ((first | refine qA rfl ?_|refine qB ?_|refine qC rfl ?_|refine qD ?_|refine qE ?_|refine qF ?_|refine qG ?_|refine qH ?_);try simp (maxSteps:=1000000)(disch:=(first|omega|(simp only [qI,qJ,qK]<;>omega)|exact qL _)) only [go_sem,↓reduceIte,n0,reduceCtorEq,n1,n2,n3,n4,n5,i0,i1,i2,i3,i4,i5,i6,i7])
  generalize (w.alloc (.cells #[.int .i64 0,.slice none 0 0,.bool false,.slice none 0 0,.slice none 0 0] 26)) = w0 at *
  refine (NewOffsetCommitValue_fn w0).mono ?_
  rintro _ w1 ⟨rfl,hE1⟩
  have hz1 := hE1.size
  have hE12 : Ext w1 (wr (w1.alloc (.cells #[.int .i16 0,.int .i64 0,.int .i32 0,.string ByteArray.empty,.int .i64 0,.int .i64 0,.int .u8 0,.int .u8 0,.int .u8 0,.int .u8 0,.int .u8 0,.int .u8 0,.int .u8 0,.int .u8 0,.int .u8 0,.int .u8 0,.int .u8 0,.int .u8 0,.int .u8 0,.int .u8 0,.int .u8 0,.int .u8 0,.map none] 47)) w1.heap.size 0 [.int .i16 0,.int .i64 0,.int .i32 0,.string ByteArray.empty,.int .i64 0,.int .i64 0,.int .u8 0,.int .u8 0,.int .u8 0,.int .u8 0,.int .u8 0,.int .u8 0,.int .u8 0,.int .u8 0,.int .u8 0,.int .u8 0,.int .u8 0,.int .u8 0,.int .u8 0,.int .u8 0,.int .u8 0,.int .u8 0,.map none]) := (Upd.alloc (Upd.refl _ _) _).wr _ _ (.inl (Nat.le_refl _))
  have hb2 : blk (wr (w1.alloc (.cells #[.int .i16 0,.int .i64 0,.int .i32 0,.string ByteArray.empty,.int .i64 0,.int .i64 0,.int .u8 0,.int .u8 0,.int .u8 0,.int .u8 0,.int .u8 0,.int .u8 0,.int .u8 0,.int .u8 0,.int .u8 0,.int .u8 0,.int .u8 0,.int .u8 0,.int .u8 0,.int .u8 0,.int .u8 0,.int .u8 0,.map none] 47)) w1.heap.size 0 [.int .i16 0,.int .i64 0,.int .i32 0,.string ByteArray.empty,.int .i64 0,.int .i64 0,.int .u8 0,.int .u8 0,.int .u8 0,.int .u8 0,.int .u8 0,.int .u8 0,.int .u8 0,.int .u8 0,.int .u8 0,.int .u8 0,.int .u8 0,.int .u8 0,.int .u8 0,.int .u8 0,.int .u8 0,.int .u8 0,.map none]) w1.heap.size = some (#[.int .i16 0,.int .i64 0,.int .i32 0,.string ByteArray.empty,.int .i64 0,.int .i64 0,.int .u8 0,.int .u8 0,.int .u8 0,.int .u8 0,.int .u8 0,.int .u8 0,.int .u8 0,.int .u8 0,.int .u8 0,.int .u8 0,.int .u8 0,.int .u8 0,.int .u8 0,.int .u8 0,.int .u8 0,.int .u8 0,.map none],47,(0,0)) := by simp (maxSteps:=1000000)(disch:=(first|omega|(simp only [qI,qJ,qK]<;>omega)|exact qL _)) only [go_sem,↓reduceIte,n0,reduceCtorEq,n1,n2,n3,n4,n5,i0,i1,i2,i3,i4,i5,i6,i7]
  try simp (maxSteps:=1000000)(disch:=(first|omega|(simp only [qI,qJ,qK]<;>omega)|exact qL _)) only [go_sem,↓reduceIte,n0,reduceCtorEq,n1,n2,n3,n4,n5,i0,i1,i2,i3,i4,i5,i6,i7]
  repeat ((first | refine qA rfl ?_|refine qB ?_|refine qC rfl ?_|refine qD ?_|refine qE ?_|refine qF ?_|refine qG ?_|refine qH ?_);try simp (maxSteps:=1000000)(disch:=(first|omega|(simp only [qI,qJ,qK]<;>omega)|exact qL _)) only [go_sem,↓reduceIte,n0,reduceCtorEq,n1,n2,n3,n4,n5,i0,i1,i2,i3,i4,i5,i6,i7])
  generalize (wr (w1.alloc (.cells #[.int .i16 0,.int .i64 0,.int .i32 0,.string ByteArray.empty,.int .i64 0,.int .i64 0,.int .u8 0,.int .u8 0,.int .u8 0,.int .u8 0,.int .u8 0,.int .u8 0,.int .u8 0,.int .u8 0,.int .u8 0,.int .u8 0,.int .u8 0,.int .u8 0,.int .u8 0,.int .u8 0,.int .u8 0,.int .u8 0,.map none] 47)) w1.heap.size 0 [.int .i16 0,.int .i64 0,.int .i32 0,.string ByteArray.empty,.int .i64 0,.int .i64 0,.int .u8 0,.int .u8 0,.int .u8 0,.int .u8 0,.int .u8 0,.int .u8 0,.int .u8 0,.int .u8 0,.int .u8 0,.int .u8 0,.int .u8 0,.int .u8 0,.int .u8 0,.int .u8 0,.int .u8 0,.int .u8 0,.map none]) = w2 at *
  have hz2 := blk_lt hb2
  have hE2 : Ext w0 w2 := hE1.trans hE12
  try simp (maxSteps:=1000000)(disch:=(first|omega|(simp only [qI,qJ,qK]<;>omega)|exact qL _)) only [go_sem,↓reduceIte,n0,reduceCtorEq,n1,n2,n3,n4,n5,i0,i1,i2,i3,i4,i5,i6,i7]
  refine wp_copyN ap_22_22 (ok := ok) (s := s) (v := .slice ba _ bc) (by first | rfl | simp (maxSteps:=1000000)(disch:=(first|omega|(simp only [qI,qJ,qK]<;>omega)|exact qL _)) only [go_sem,↓reduceIte,n0,reduceCtorEq,n1,n2,n3,n4,n5,i0,i1,i2,i3,i4,i5,i6,i7]) (by first | rfl | simp (maxSteps:=1000000)(disch:=(first|omega|(simp only [qI,qJ,qK]<;>omega)|exact qL _)) only [go_sem,↓reduceIte,n0,reduceCtorEq,n1,n2,n3,n4,n5,i0,i1,i2,i3,i4,i5,i6,i7]) (hb.keep (Ext.keeps (hE0.trans hE2) _)) (by omega) ?_
  intro v3 w3 ho3 hE3 hf3
  have hz3 := hE3.size
  have hb3 := hE3.blk_some hb2 id
  have hE03 : Ext w0 w3 := hE2.trans hE3
  have hG3 : Glo ev w3 := hG.updS (hE0.trans hE03) id id
  obtain ⟨a3,c3,rfl,_⟩ := ho3.shape
  simp (maxSteps:=1000000)(disch:=(first|omega|(simp only [qI,qJ,qK]<;>omega)|exact qL _)) only [go_sem,↓reduceIte,n0,reduceCtorEq,n1,n2,n3,n4,n5,i0,i1,i2,i3,i4,i5,i6,i7]
  refine (ReadFromOffsetCommitValue_fn (d := d) (ok := fun b => b < w3.heap.size ∧ b ≠ w1.heap.size) (ev := ev) w3 _ _ hb3 ((Own.bytes ho3 hf3).weaken fun b hb hk => ⟨hb,by omega⟩) (fun b hb => hb) hG3 ⟨by omega,by omega⟩ hev).mono ?_
  rw [← hvc,← hfin]
  rintro r4 w4 ⟨h4n,h4s,hU4⟩
  have hz4 := hU4.size
  have hE4 : Ext w0 w4 := hE03.more hU4 fun b hb h => by omega
  have hr4 := hE4.blk_some hr0 id
  by_cases hst : fin.2 = none
  · obtain rfl := h4n hst
    obtain ⟨eT,ep,rfl⟩ := hev
    have hso : fin.2.isSome = false := by rw [hst];rfl
    rw [hso]
    try simp (maxSteps:=1000000)(disch:=(first|omega|(simp only [qI,qJ,qK]<;>omega)|exact qL _)) only [go_sem,↓reduceIte,n0,reduceCtorEq,n1,n2,n3,n4,n5,i0,i1,i2,i3,i4,i5,i6,i7,hr4]
    repeat ((first | refine qA rfl ?_|refine qB ?_|refine qC rfl ?_|refine qD ?_|refine qE ?_|refine qF ?_|refine qG ?_|refine qH ?_);try simp (maxSteps:=1000000)(disch:=(first|omega|(simp only [qI,qJ,qK]<;>omega)|exact qL _)) only [go_sem,↓reduceIte,n0,reduceCtorEq,n1,n2,n3,n4,n5,i0,i1,i2,i3,i4,i5,i6,i7,hr4,cellsAt_five])
    refine ⟨⟨[.int .i64 0,.slice none 0 0,.bool false,.slice none 0 0,.slice none 0 0],.zero,rfl,TreeC.intro rfl (BytesV.nil _ _) (treesN _ _) (tagsN _ _)⟩,(hE0.trans hE4).wr _ _ (.inl (Nat.le_refl _))⟩
  · obtain ⟨rfl,cells,hb4,hR4⟩ := h4s hst
    have hso : fin.2.isSome = true := isSome_some hst
    rw [hso]
    try simp (maxSteps:=1000000)(disch:=(first|omega|(simp only [qI,qJ,qK]<;>omega)|exact qL _)) only [go_sem,↓reduceIte,n0,reduceCtorEq,n1,n2,n3,n4,n5,i0,i1,i2,i3,i4,i5,i6,i7,hr4]
    repeat ((first | refine qA rfl ?_|refine qB ?_|refine qC rfl ?_|refine qD ?_|refine qE ?_|refine qF ?_|refine qG ?_|refine qH ?_);try simp (maxSteps:=1000000)(disch:=(first|omega|(simp only [qI,qJ,qK]<;>omega)|exact qL _)) only [go_sem,↓reduceIte,n0,reduceCtorEq,n1,n2,n3,n4,n5,i0,i1,i2,i3,i4,i5,i6,i7,hr4])
    refine (tellOffsetCommitValue_fn (d := d) fin.1 cells w4 hb4 (fun k hk => by show ((.int .i16 vc :: cells).toArray)[1 + k]? = cells[k]?;rw [List.getElem?_toArray,Nat.add_comm,List.getElem?_cons_succ]) hR4 hgood).mono ?_
    rintro _ w5 ⟨⟨c5,rfl,hc5⟩,hE5⟩
    obtain ⟨vS,vL,vU,rfl,hn5,hS5,hL5,hU5⟩ := hc5.inv
    have f1 := hS5.flat
    have f2 := SlR.flat hL5
    have f3 := SlR.flat hU5
    have hr5 := hE5.blk_some hr4 id
    have hb5 := hE5.blk_some hb4 id
    have hz5 := hE5.size
    have hbl5 := blk_lt hb5
    have hE6 : Ext w5 (wr (w5.alloc (.cells #[.int .i64 0,.slice none 0 0,.bool false,.slice none 0 0,.slice none 0 0] 26)) w5.heap.size 0 [.int .i64 (tlP (d + 1) fs_OffsetCommitValue fin.1).n,vS,.bool (tlP (d + 1) fs_OffsetCommitValue fin.1).null,vL,vU]) := (Upd.alloc (Upd.refl _ _) _).wr _ _ (.inl (Nat.le_refl _))
    have ht6 : blk (wr (w5.alloc (.cells #[.int .i64 0,.slice none 0 0,.bool false,.slice none 0 0,.slice none 0 0] 26)) w5.heap.size 0 [.int .i64 (tlP (d + 1) fs_OffsetCommitValue fin.1).n,vS,.bool (tlP (d + 1) fs_OffsetCommitValue fin.1).null,vL,vU]) w5.heap.size = some (#[.int .i64 (tlP (d + 1) fs_OffsetCommitValue fin.1).n,vS,.bool (tlP (d + 1) fs_OffsetCommitValue fin.1).null,vL,vU],26,(0,0)) := by simp (maxSteps:=1000000)(disch:=(first|omega|(simp only [qI,qJ,qK]<;>omega)|exact qL _)) only [go_sem,↓reduceIte,n0,reduceCtorEq,n1,n2,n3,n4,n5,i0,i1,i2,i3,i4,i5,i6,i7]
    have hr6 := hE6.blk_some hr5 id
    have hb6 := hE6.blk_some hb5 id
    have hb60 : ((.int .i16 vc :: cells).toArray)[0]? = some (.int .i16 vc) := rfl
    generalize hw6 : (wr (w5.alloc (.cells #[.int .i64 0,.slice none 0 0,.bool false,.slice none 0 0,.slice none 0 0] 26)) w5.heap.size 0 [.int .i64 (tlP (d + 1) fs_OffsetCommitValue fin.1).n,vS,.bool (tlP (d + 1) fs_OffsetCommitValue fin.1).null,vL,vU]) = w6 at *
    try simp (maxSteps:=1000000)(disch:=(first|omega|(simp only [qI,qJ,qK]<;>omega)|exact qL _)) only [go_sem,↓reduceIte,n0,reduceCtorEq,n1,n2,n3,n4,n5,i0,i1,i2,i3,i4,i5,i6,i7,hr5,f1,f2,f3,hw6]
    repeat ((first | refine qA rfl ?_|refine qB ?_|refine qC rfl ?_|refine qD ?_|refine qE ?_|refine qF ?_|refine qG ?_|refine qH ?_);try simp (maxSteps:=1000000)(disch:=(first|omega|(simp only [qI,qJ,qK]<;>omega)|exact qL _)) only [go_sem,↓reduceIte,n0,reduceCtorEq,n1,n2,n3,n4,n5,i0,i1,i2,i3,i4,i5,i6,i7,hr5,f1,f2,f3,hw6])
    try simp (maxSteps:=1000000)(disch:=(first|omega|(simp only [qI,qJ,qK]<;>omega)|exact qL _)) only [go_sem,↓reduceIte,n0,reduceCtorEq,n1,n2,n3,n4,n5,i0,i1,i2,i3,i4,i5,i6,i7,hr6,hb6,ht6,hb60,f1,f2,f3,ew]
    repeat ((first | refine qA rfl ?_|refine qB ?_|refine qC rfl ?_|refine qD ?_|refine qE ?_|refine qF ?_|refine qG ?_|refine qH ?_);try simp (maxSteps:=1000000)(disch:=(first|omega|(simp only [qI,qJ,qK]<;>omega)|exact qL _)) only [go_sem,↓reduceIte,n0,reduceCtorEq,n1,n2,n3,n4,n5,i0,i1,i2,i3,i4,i5,i6,i7,hr6,hb6,ht6,hb60,f1,f2,f3,ew,cellsAt_five])
    have hU8 : Upd (fun b => b = w.heap.size) w5 (wr (wr w6 w5.heap.size 0 [.int .i64 vc]) w.heap.size 0 [.int .i64 vc,vS,.bool (tlP (d + 1) fs_OffsetCommitValue fin.1).null,vL,vU]) := ((hE6.mono fun _ h => h.elim).wr _ _ (.inl (Nat.le_refl _))).wr _ _ (.inr rfl)
    have hE8 : Ext w (wr (wr w6 w5.heap.size 0 [.int .i64 vc]) w.heap.size 0 [.int .i64 vc,vS,.bool (tlP (d + 1) fs_OffsetCommitValue fin.1).null,vL,vU]) := (hE0.trans (hE4.trans hE5)).more hU8 fun b hb h => by omega
    have hc8 : TreeC AnyB (wr (wr w6 w5.heap.size 0 [.int .i64 vc]) w.heap.size 0 [.int .i64 vc,vS,.bool (tlP (d + 1) fs_OffsetCommitValue fin.1).null,vL,vU]) ((tlP (d + 1) fs_OffsetCommitValue fin.1).setN vc) [.int .i64 vc,vS,.bool (tlP (d + 1) fs_OffsetCommitValue fin.1).null,vL,vU] := by
      have h := TreeC.keep (hU8.keeps (ok := fun b => w4.heap.size ≤ b) fun b _ hk e => by have hk' : w4.heap.size ≤ b := hk;omega) hc5
      obtain ⟨aS,aL,aU,he,_,k1,k2,k3⟩ := h.inv
      simp only [List.cons.injEq,and_true] at he
      obtain ⟨_,rfl,_,rfl,rfl⟩ := he
      exact TreeC.intro ew (k1.weaken fun _ _ _ => trivial) (k2.weaken fun _ _ _ => trivial) (k3.weaken fun _ _ _ => trivial)
    first | exact ⟨⟨_,_,rfl,hc8,rfl⟩,hE8⟩ | exact ⟨⟨_,_,rfl,hc8,fun _ => rfl⟩,hE8⟩

set_option maxHeartbeats 2000000 in
theorem UnsafeDOffsetCommitValue_fn {d : Nat} {ok : Blocks} {ev : Value} (b : Value) (s : List UInt8) (w : World) (hb : BytesV ok w b s) (hG : Glo ev w) (hev : ∃ T p,ev = .iface T p) (hs : s.length ≤ 2 ^ 40) (vc : Int) (hvc : vc = (rdInt .i16 2 (some s)).1) (fin : Tree × St) (hfin : fin = rdM d (verN vc) (flexB 4 (verN vc)) fs_OffsetCommitValue (rdInt .i16 2 (some s)).2) (hgood : GoodP (d + 1) fs_OffsetCommitValue fin.1) :
    Fn Tryd.prog 7 #[b] w fun r w' => (∃ c T,r = .tuple #[.agg c.toArray,.bool fin.2.isSome] ∧ TreeC AnyB w' T c ∧ (fin.2.isSome = true → T = (tlP (d + 1) fs_OffsetCommitValue fin.1).setN vc)) ∧ Ext w w' := by
  obtain ⟨ba,bc,rfl,_⟩ := hb.shape
  have hgl := hG.lt
  have hvr := rdI16_rng (some s)
  rw [← hvc] at hvr
  have ew : IntKind.i64.wrap vc = vc := i64_wrap (by omega)
  have hE0 : Ext w (w.alloc (.cells #[.int .i64 0,.slice none 0 0,.bool false,.slice none 0 0,.slice none 0 0] 26)) := Upd.alloc (Upd.refl _ _) _
  have hz0 : (w.alloc (.cells #[.int .i64 0,.slice none 0 0,.bool false,.slice none 0 0,.slice none 0 0] 26)).heap.size = w.heap.size + 1 := World.size_alloc _ _
  have hr0 : blk (w.alloc (.cells #[.int .i64 0,.slice none 0 0,.bool false,.slice none 0 0,.slice none 0 0] 26)) w.heap.size = some (#[.int .i64 0,.slice none 0 0,.bool false,.slice none 0 0,.slice none 0 0],26,(0,0)) := blk_alloc_new rfl
  refine fn_of_W Tryd.func7 rfl Tryd.results7 Tryd.ntmps7 rfl ?_
  repeat ((first | refine qA rfl ?_|refine qB ?_|refine qC rfl ?_|refine qD ?_|refine qE ?_|refine qF ?_|refine qG ?_|refine qH ?_);try simp (maxSteps:=1000000)(disch:=(first|omega|(simp only [qI,qJ,qK]<;>omega)|exact qL _)) only [go_sem,↓reduceIte,n0,reduceCtorEq,n1,n2,n3,n4,n5,i0,i1,i2,i3,i4,i5,i6,i7])
  generalize (w.alloc (.cells #[.int .i64 0,.slice none 0 0,.bool false,.slice none 0 0,.slice none 0 0] 26)) = w0 at *
  refine (NewOffsetCommitValue_fn w0).mono ?_
  rintro _ w1 ⟨rfl,hE1⟩
  have hz1 := hE1.size
  have hE12 : Ext w1 (wr (w1.alloc (.cells #[.int .i16 0,.int .i64 0,.int .i32 0,.string ByteArray.empty,.int .i64 0,.int .i64 0,.int .u8 0,.int .u8 0,.int .u8 0,.int .u8 0,.int .u8 0,.int .u8 0,.int .u8 0,.int .u8 0,.int .u8 0,.int .u8 0,.int .u8 0,.int .u8 0,.int .u8 0,.int .u8 0,.int .u8 0,.int .u8 0,.map none] 47)) w1.heap.size 0 [.int .i16 0,.int .i64 0,.int .i32 0,.string ByteArray.empty,.int .i64 0,.int .i64 0,.int .u8 0,.int .u8 0,.int .u8 0,.int .u8 0,.int .u8 0,.int .u8 0,.int .u8 0,.int .u8 0,.int .u8 0,.int .u8 0,.int .u8 0,.int .u8 0,.int .u8 0,.int .u8 0,.int .u8 0,.int .u8 0,.map none]) := (Upd.alloc (Upd.refl _ _) _).wr _ _ (.inl (Nat.le_refl _))
  have hb2 : blk (wr (w1.alloc (.cells #[.int .i16 0,.int .i64 0,.int .i32 0,.string ByteArray.empty,.int .i64 0,.int .i64 0,.int .u8 0,.int .u8 0,.int .u8 0,.int .u8 0,.int .u8 0,.int .u8 0,.int .u8 0,.int .u8 0,.int .u8 0,.int .u8 0,.int .u8 0,.int .u8 0,.int .u8 0,.int .u8 0,.int .u8 0,.int .u8 0,.map none] 47)) w1.heap.size 0 [.int .i16 0,.int .i64 0,.int .i32 0,.string ByteArray.empty,.int .i64 0,.int .i64 0,.int .u8 0,.int .u8 0,.int .u8 0,.int .u8 0,.int .u8 0,.int .u8 0,.int .u8 0,.int .u8 0,.int .u8 0,.int .u8 0,.int .u8 0,.int .u8 0,.int .u8 0,.int .u8 0,.int .u8 0,.int .u8 0,.map none]) w1.heap.size = some (#[.int .i16 0,.int .i64 0,.int .i32 0,.string ByteArray.empty,.int .i64 0,.int .i64 0,.int .u8 0,.int .u8 0,.int .u8 0,.int .u8 0,.int .u8 0,.int .u8 0,.int .u8 0,.int .u8 0,.int .u8 0,.int .u8 0,.int .u8 0,.int .u8 0,.int .u8 0,.int .u8 0,.int .u8 0,.int .u8 0,.map none],47,(0,0)) := by simp (maxSteps:=1000000)(disch:=(first|omega|(simp only [qI,qJ,qK]<;>omega)|exact qL _)) only [go_sem,↓reduceIte,n0,reduceCtorEq,n1,n2,n3,n4,n5,i0,i1,i2,i3,i4,i5,i6,i7]
  try simp (maxSteps:=1000000)(disch:=(first|omega|(simp only [qI,qJ,qK]<;>omega)|exact qL _)) only [go_sem,↓reduceIte,n0,reduceCtorEq,n1,n2,n3,n4,n5,i0,i1,i2,i3,i4,i5,i6,i7]
  repeat ((first | refine qA rfl ?_|refine qB ?_|refine qC rfl ?_|refine qD ?_|refine qE ?_|refine qF ?_|refine qG ?_|refine qH ?_);try simp (maxSteps:=1000000)(disch:=(first|omega|(simp only [qI,qJ,qK]<;>omega)|exact qL _)) only [go_sem,↓reduceIte,n0,reduceCtorEq,n1,n2,n3,n4,n5,i0,i1,i2,i3,i4,i5,i6,i7])
  generalize (wr (w1.alloc (.cells #[.int .i16 0,.int .i64 0,.int .i32 0,.string ByteArray.empty,.int .i64 0,.int .i64 0,.int .u8 0,.int .u8 0,.int .u8 0,.int .u8 0,.int .u8 0,.int .u8 0,.int .u8 0,.int .u8 0,.int .u8 0,.int .u8 0,.int .u8 0,.int .u8 0,.int .u8 0,.int .u8 0,.int .u8 0,.int .u8 0,.map none] 47)) w1.heap.size 0 [.int .i16 0,.int .i64 0,.int .i32 0,.string ByteArray.empty,.int .i64 0,.int .i64 0,.int .u8 0,.int .u8 0,.int .u8 0,.int .u8 0,.int .u8 0,.int .u8 0,.int .u8 0,.int .u8 0,.int .u8 0,.int .u8 0,.int .u8 0,.int .u8 0,.int .u8 0,.int .u8 0,.int .u8 0,.int .u8 0,.map none]) = w2 at *
  have hz2 := blk_lt hb2
  have hE2 : Ext w0 w2 := hE1.trans hE12
  try simp (maxSteps:=1000000)(disch:=(first|omega|(simp only [qI,qJ,qK]<;>omega)|exact qL _)) only [go_sem,↓reduceIte,n0,reduceCtorEq,n1,n2,n3,n4,n5,i0,i1,i2,i3,i4,i5,i6,i7]
  refine wp_copyN ap_22_22 (ok := ok) (s := s) (v := .slice ba _ bc) (by first | rfl | simp (maxSteps:=1000000)(disch:=(first|omega|(simp only [qI,qJ,qK]<;>omega)|exact qL _)) only [go_sem,↓reduceIte,n0,reduceCtorEq,n1,n2,n3,n4,n5,i0,i1,i2,i3,i4,i5,i6,i7]) (by first | rfl | simp (maxSteps:=1000000)(disch:=(first|omega|(simp only [qI,qJ,qK]<;>omega)|exact qL _)) only [go_sem,↓reduceIte,n0,reduceCtorEq,n1,n2,n3,n4,n5,i0,i1,i2,i3,i4,i5,i6,i7]) (hb.keep (Ext.keeps (hE0.trans hE2) _)) (by omega) ?_
  intro v3 w3 ho3 hE3 hf3
  have hz3 := hE3.size
  have hb3 := hE3.blk_some hb2 id
  have hE03 : Ext w0 w3 := hE2.trans hE3
  have hG3 : Glo ev w3 := hG.updS (hE0.trans hE03) id id
  obtain ⟨a3,c3,rfl,_⟩ := ho3.shape
  simp (maxSteps:=1000000)(disch:=(first|omega|(simp only [qI,qJ,qK]<;>omega)|exact qL _)) only [go_sem,↓reduceIte,n0,reduceCtorEq,n1,n2,n3,n4,n5,i0,i1,i2,i3,i4,i5,i6,i7]
  refine (UnsafeReadFromOffsetCommitValue_fn (d := d) (ok := fun b => b < w3.heap.size ∧ b ≠ w1.heap.size) (ev := ev) w3 _ _ hb3 ((Own.bytes ho3 hf3).weaken fun b hb hk => ⟨hb,by omega⟩) (fun b hb => hb) hG3 ⟨by omega,by omega⟩ hev).mono ?_
  rw [← hvc,← hfin]
  rintro r4 w4 ⟨h4n,h4s,hU4⟩
  have hz4 := hU4.size
  have hE4 : Ext w0 w4 := hE03.more hU4 fun b hb h => by omega
  have hr4 := hE4.blk_some hr0 id
  by_cases hst : fin.2 = none
  · obtain rfl := h4n hst
    obtain ⟨eT,ep,rfl⟩ := hev
    have hso : fin.2.isSome = false := by rw [hst];rfl
    rw [hso]
    try simp (maxSteps:=1000000)(disch:=(first|omega|(simp only [qI,qJ,qK]<;>omega)|exact qL _)) only [go_sem,↓reduceIte,n0,reduceCtorEq,n1,n2,n3,n4,n5,i0,i1,i2,i3,i4,i5,i6,i7,hr4]
    repeat ((first | refine qA rfl ?_|refine qB ?_|refine qC rfl ?_|refine qD ?_|refine qE ?_|refine qF ?_|refine qG ?_|refine qH ?_);try simp (maxSteps:=1000000)(disch:=(first|omega|(simp only [qI,qJ,qK]<;>omega)|exact qL _)) only [go_sem,↓reduceIte,n0,reduceCtorEq,n1,n2,n3,n4,n5,i0,i1,i2,i3,i4,i5,i6,i7,hr4,cellsAt_five])
    refine ⟨⟨[.int .i64 0,.slice none 0 0,.bool false,.slice none 0 0,.slice none 0 0],.zero,rfl,TreeC.intro rfl (BytesV.nil _ _) (treesN _ _) (tagsN _ _)⟩,(hE0.trans hE4).wr _ _ (.inl (Nat.le_refl _))⟩
  · obtain ⟨rfl,cells,hb4,hR4⟩ := h4s hst
    have hso : fin.2.isSome = true := isSome_some hst
    rw [hso]
    try simp (maxSteps:=1000000)(disch:=(first|omega|(simp only [qI,qJ,qK]<;>omega)|exact qL _)) only [go_sem,↓reduceIte,n0,reduceCtorEq,n1,n2,n3,n4,n5,i0,i1,i2,i3,i4,i5,i6,i7,hr4]
    repeat ((first | refine qA rfl ?_|refine qB ?_|refine qC rfl ?_|refine qD ?_|refine qE ?_|refine qF ?_|refine qG ?_|refine qH ?_);try simp (maxSteps:=1000000)(disch:=(first|omega|(simp only [qI,qJ,qK]<;>omega)|exact qL _)) only [go_sem,↓reduceIte,n0,reduceCtorEq,n1,n2,n3,n4,n5,i0,i1,i2,i3,i4,i5,i6,i7,hr4])
    refine (tellOffsetCommitValue_fn (d := d) fin.1 cells w4 hb4 (fun k hk => by show ((.int .i16 vc :: cells).toArray)[1 + k]? = cells[k]?;rw [List.getElem?_toArray,Nat.add_comm,List.getElem?_cons_succ]) hR4 hgood).mono ?_
    rintro _ w5 ⟨⟨c5,rfl,hc5⟩,hE5⟩
    obtain ⟨vS,vL,vU,rfl,hn5,hS5,hL5,hU5⟩ := hc5.inv
    have f1 := hS5.flat
    have f2 := SlR.flat hL5
    have f3 := SlR.flat hU5
    have hr5 := hE5.blk_some hr4 id
    have hb5 := hE5.blk_some hb4 id
    have hz5 := hE5.size
    have hbl5 := blk_lt hb5
    have hE6 : Ext w5 (wr (w5.alloc (.cells #[.int .i64 0,.slice none 0 0,.bool false,.slice none 0 0,.slice none 0 0] 26)) w5.heap.size 0 [.int .i64 (tlP (d + 1) fs_OffsetCommitValue fin.1).n,vS,.bool (tlP (d + 1) fs_OffsetCommitValue fin.1).null,vL,vU]) := (Upd.alloc (Upd.refl _ _) _).wr _ _ (.inl (Nat.le_refl _))
    have ht6 : blk (wr (w5.alloc (.cells #[.int .i64 0,.slice none 0 0,.bool false,.slice none 0 0,.slice none 0 0] 26)) w5.heap.size 0 [.int .i64 (tlP (d + 1) fs_OffsetCommitValue fin.1).n,vS,.bool (tlP (d + 1) fs_OffsetCommitValue fin.1).null,vL,vU]) w5.heap.size = some (#[.int .i64 (tlP (d + 1) fs_OffsetCommitValue fin.1).n,vS,.bool (tlP (d + 1) fs_OffsetCommitValue fin.1).null,vL,vU],26,(0,0)) := by simp (maxSteps:=1000000)(disch:=(first|omega|(simp only [qI,qJ,qK]<;>omega)|exact qL _)) only [go_sem,↓reduceIte,n0,reduceCtorEq,n1,n2,n3,n4,n5,i0,i1,i2,i3,i4,i5,i6,i7]
    have hr6 := hE6.blk_some hr5 id
    have hb6 := hE6.blk_some hb5 id
    have hb60 : ((.int .i16 vc :: cells).toArray)[0]? = some (.int .i16 vc) := rfl
    generalize hw6 : (wr (w5.alloc (.cells #[.int .i64 0,.slice none 0 0,.bool false,.slice none 0 0,.slice none 0 0] 26)) w5.heap.size 0 [.int .i64 (tlP (d + 1) fs_OffsetCommitValue fin.1).n,vS,.bool (tlP (d + 1) fs_OffsetCommitValue fin.1).null,vL,vU]) = w6 at *
    try simp (maxSteps:=1000000)(disch:=(first|omega|(simp only [qI,qJ,qK]<;>omega)|exact qL _)) only [go_sem,↓reduceIte,n0,reduceCtorEq,n1,n2,n3,n4,n5,i0,i1,i2,i3,i4,i5,i6,i7,hr5,f1,f2,f3,hw6]
    repeat ((first | refine qA rfl ?_|refine qB ?_|refine qC rfl ?_|refine qD ?_|refine qE ?_|refine qF ?_|refine qG ?_|refine qH ?_);try simp (maxSteps:=1000000)(disch:=(first|omega|(simp only [qI,qJ,qK]<;>omega)|exact qL _)) only [go_sem,↓reduceIte,n0,reduceCtorEq,n1,n2,n3,n4,n5,i0,i1,i2,i3,i4,i5,i6,i7,hr5,f1,f2,f3,hw6])
    try simp (maxSteps:=1000000)(disch:=(first|omega|(simp only [qI,qJ,qK]<;>omega)|exact qL _)) only [go_sem,↓reduceIte,n0,reduceCtorEq,n1,n2,n3,n4,n5,i0,i1,i2,i3,i4,i5,i6,i7,hr6,hb6,ht6,hb60,f1,f2,f3,ew]
    repeat ((first | refine qA rfl ?_|refine qB ?_|refine qC rfl ?_|refine qD ?_|refine qE ?_|refine qF ?_|refine qG ?_|refine qH ?_);try simp (maxSteps:=1000000)(disch:=(first|omega|(simp only [qI,qJ,qK]<;>omega)|exact qL _)) only [go_sem,↓reduceIte,n0,reduceCtorEq,n1,n2,n3,n4,n5,i0,i1,i2,i3,i4,i5,i6,i7,hr6,hb6,ht6,hb60,f1,f2,f3,ew,cellsAt_five])
    have hU8 : Upd (fun b => b = w.heap.size) w5 (wr (wr w6 w5.heap.size 0 [.int .i64 vc]) w.heap.size 0 [.int .i64 vc,vS,.bool (tlP (d + 1) fs_OffsetCommitValue fin.1).null,vL,vU]) := ((hE6.mono fun _ h => h.elim).wr _ _ (.inl (Nat.le_refl _))).wr _ _ (.inr rfl)
    have hE8 : Ext w (wr (wr w6 w5.heap.size 0 [.int .i64 vc]) w.heap.size 0 [.int .i64 vc,vS,.bool (tlP (d + 1) fs_OffsetCommitValue fin.1).null,vL,vU]) := (hE0.trans (hE4.trans hE5)).more hU8 fun b hb h => by omega
    have hc8 : TreeC AnyB (wr (wr w6 w5.heap.size 0 [.int .i64 vc]) w.heap.size 0 [.int .i64 vc,vS,.bool (tlP (d + 1) fs_OffsetCommitValue fin.1).null,vL,vU]) ((tlP (d + 1) fs_OffsetCommitValue fin.1).setN vc) [.int .i64 vc,vS,.bool (tlP (d + 1) fs_OffsetCommitValue fin.1).null,vL,vU] := by
      have h := TreeC.keep (hU8.keeps (ok := fun b => w4.heap.size ≤ b) fun b _ hk e => by have hk' : w4.heap.size ≤ b := hk;omega) hc5
      obtain ⟨aS,aL,aU,he,_,k1,k2,k3⟩ := h.inv
      simp only [List.cons.injEq,and_true] at he
      obtain ⟨_,rfl,_,rfl,rfl⟩ := he
      exact TreeC.intro ew (k1.weaken fun _ _ _ => trivial) (k2.weaken fun _ _ _ => trivial) (k3.weaken fun _ _ _ => trivial)
    first | exact ⟨⟨_,_,rfl,hc8,rfl⟩,hE8⟩ | exact ⟨⟨_,_,rfl,hc8,fun _ => rfl⟩,hE8⟩

end Ms

namespace Ms
open Go.World renaming size_alloc → qI
open Ms renaming size_wr → qJ,size_drew → qK,not_noB → qL
open W renaming seqR → qA,seq → qB,regR → qC,condK → qD,block → qE,skip → qF,ret → qG,exit → qH
open Nat renaming reduceEqDiff → n0,reduceAdd → n1,reduceMul → n2,reduceSub → n3,reduceLT → n4,reduceLeDiff → n5
open Int renaming reduceEq → i0,reduceLT → i1,reduceLE → i2,reduceNeg → i3,reduceAdd → i4,reduceSub → i5,reduceMul → i6,reduceToNat → i7
set_option maxRecDepth 8000
open Go Go.Proofs Go.Shelf
attribute [local congr] W_congr WPsq_congr WPp_congr optK_congr addrK_congr intK_congr boolK_congr sliceK_congr tupleK_congr funcK_congr Fn_congr rawK_congr takeK_congr stepK_congr convK_congr aggK_congr

theorem tsOffsetCommitValue (pt : List Fld → Int → Bool → Tree → List UInt8) (D : Nat) (v : Int) (t : Tree) : tagsS pt D fs_OffsetCommitValue v true t = ([(0,5,fOffsetCommitValue_5)] : List (Nat × Nat × Fld)).flatMap (tgO pt D v true t) := by
  have hk : knownS fs_OffsetCommitValue = 1 := rfl
  unfold tagsS
  rw [hk]
  have h5 : usualS D fOffsetCommitValue_5 (t.at 5) = true ∨ usualS D fOffsetCommitValue_5 (t.at 5) = false := by cases usualS D fOffsetCommitValue_5 (t.at 5) <;> simp
  all_goals rcases h5 with h5 | h5
  all_goals simp [List.range_succ,List.range_zero,List.zipIdx_cons,fs_OffsetCommitValue,tgO,h5,show ∀ i,i = i from fun _ => rfl,show fOffsetCommitValue_0.tag = -1 from rfl,show fOffsetCommitValue_1.tag = -1 from rfl,show fOffsetCommitValue_2.tag = -1 from rfl,show fOffsetCommitValue_3.tag = -1 from rfl,show fOffsetCommitValue_4.tag = -1 from rfl,show fOffsetCommitValue_5.tag = 0 from rfl]
theorem setOffsetCommitValue (pc : List Fld → Tree → Tree) (dp : List Fld → Tree) (D : Nat) (v : Int) (t : Tree) : setT pc D v t [(0,5,fOffsetCommitValue_5)] (cnL pc dp v t fs_OffsetCommitValue 0) = cnT pc dp D v true t fs_OffsetCommitValue 0 := by
  have h5 : usualS D fOffsetCommitValue_5 (t.at 5) = true ∨ usualS D fOffsetCommitValue_5 (t.at 5) = false := by cases usualS D fOffsetCommitValue_5 (t.at 5) <;> simp
  all_goals rcases h5 with h5 | h5
  all_goals simp [setT,cnL,cnT,liveS,fs_OffsetCommitValue,h5,show fOffsetCommitValue_0.tag = -1 from rfl,show fOffsetCommitValue_1.tag = -1 from rfl,show fOffsetCommitValue_2.tag = -1 from rfl,show fOffsetCommitValue_3.tag = -1 from rfl,show fOffsetCommitValue_4.tag = -1 from rfl,show fOffsetCommitValue_5.tag = 0 from rfl]

set_option maxHeartbeats 4000000 in
theorem law_UnsafeOffsetCommitValue {ok : Blocks} {ev : Value} (b : Value) (s : List UInt8) (w : World) (hb : BytesV ok w b s) (hG : Glo ev w) (hev : ∃ T p,ev = .iface T p) :
    Fn Tryd.prog 3 #[b] w fun r w' => r = .bool true ∧ Ext w w' := by
  obtain ⟨ba,bc,rfl,_⟩ := hb.shape
  refine fn_of_W Tryd.func3 rfl Tryd.results3 Tryd.ntmps3 rfl ?_
  by_cases hD1 : (2147483647 : Int) < (s.length : Int)
  · repeat ((first | refine qA rfl ?_|refine qB ?_|refine qC rfl ?_|refine qD ?_|refine qE ?_|refine qF ?_|refine qG ?_|refine qH ?_);try simp (maxSteps:=1000000)(disch:=(first|omega|(simp only [qI,qJ,qK]<;>omega)|exact qL _)) only [go_sem,↓reduceIte,n0,reduceCtorEq,n1,n2,n3,n4,n5,i0,i1,i2,i3,i4,i5,i6,i7,hD1])
    all_goals exact Upd.refl _ _
  by_cases hD2 : (1000 : Int) < (s.length : Int)
  · repeat ((first | refine qA rfl ?_|refine qB ?_|refine qC rfl ?_|refine qD ?_|refine qE ?_|refine qF ?_|refine qG ?_|refine qH ?_);try simp (maxSteps:=1000000)(disch:=(first|omega|(simp only [qI,qJ,qK]<;>omega)|exact qL _)) only [go_sem,↓reduceIte,n0,reduceCtorEq,n1,n2,n3,n4,n5,i0,i1,i2,i3,i4,i5,i6,i7,hD1,hD2])
    all_goals exact Upd.refl _ _
  repeat ((first | refine qA rfl ?_|refine qB ?_|refine qC rfl ?_|refine qD ?_|refine qE ?_|refine qF ?_|refine qG ?_|refine qH ?_);try simp (maxSteps:=1000000)(disch:=(first|omega|(simp only [qI,qJ,qK]<;>omega)|exact qL _)) only [go_sem,↓reduceIte,n0,reduceCtorEq,n1,n2,n3,n4,n5,i0,i1,i2,i3,i4,i5,i6,i7,hD1,hD2])
  refine (cOffsetCommitValue_fn w).mono ?_
  rintro r3 w3 ⟨⟨vs,rfl,hF0⟩,hE3⟩
  have hF : FldsV AnyB w3 vs fs_OffsetCommitValue := hF0.weaken fun _ _ _ => trivial
  have fF := SlR.flat hF
  try simp (maxSteps:=1000000)(disch:=(first|omega|(simp only [qI,qJ,qK]<;>omega)|exact qL _)) only [go_sem,↓reduceIte,n0,reduceCtorEq,n1,n2,n3,n4,n5,i0,i1,i2,i3,i4,i5,i6,i7,fF]
  have hokF : okF 1 fs_OffsetCommitValue = true := by decide
  have hdf : okDf (1 + 1) fs_OffsetCommitValue = true := by decide
  have htz : TreeC AnyB w3 .zero [.int .i64 0,.slice none 0 0,.bool false,.slice none 0 0,.slice none 0 0] := TreeC.intro rfl (BytesV.nil _ _) (treesN _ _) (tagsN _ _)
  have hsz : Sized 1 .zero := .mk [] rfl (fun i h => absurd h (Nat.not_lt_zero i)) (by simp) (by simp)
  have hsmz : Small 4611686018427387903 .zero := .mk (by simp) (by simp) (by simp) (fun i h => absurd h (Nat.not_lt_zero i)) (by simp)
  have hokR : okRT 0 0 (flexB 4 0) fs_OffsetCommitValue = true := by decide
  have hts : tagsS (partS 1) 2 fs_OffsetCommitValue 0 true .zero = ([(0,5,fOffsetCommitValue_5)] : List (Nat × Nat × Fld)).flatMap (tgO (partS 1) 2 0 true .zero) := tsOffsetCommitValue _ _ _ _
  have hset : setT (cnP 1 0 true) 2 0 .zero [(0,5,fOffsetCommitValue_5)] (cnL (cnP 1 0 true) (dfP 1) 0 .zero fs_OffsetCommitValue 0) = cnT (cnP 1 0 true) (dfP 1) 2 0 true .zero fs_OffsetCommitValue 0 := setOffsetCommitValue _ _ _ _ _
  have hlen : ∀ p ∈ ([(0,5,fOffsetCommitValue_5)] : List (Nat × Nat × Fld)),tagX fs_OffsetCommitValue p.1 = some p.2 ∧ p.1 < 4294967296 ∧ p.2.2 ∈ fs_OffsetCommitValue ∧ 0 ≤ p.2.2.tag ∧ (fieldS (partS 1) p.2.2 0 true (Tree.zero.at p.2.1)).length < 4294967296 := by
    intro p hp
    simp only [List.mem_cons,List.not_mem_nil,or_false] at hp
    rcases hp with rfl
    · refine ⟨rfl,by decide,by simp [fs_OffsetCommitValue],by decide,?_⟩
      exact Nat.lt_of_le_of_lt (fieldS_bound (C := cst 1 fOffsetCommitValue_5.sub) (sub := fOffsetCommitValue_5.sub) (fun N x hx => partS_bound 0 true 0 _ N x (by decide) hx) fOffsetCommitValue_5 rfl (hsz.at 5)) (by decide)
  have hpl : (partS 2 fs_OffsetCommitValue 0 (flexB 4 0) .zero).length ≤ 2 ^ 39 := Nat.le_trans (partM_bound (d := 0) (by decide) hsz _ hts (fun p hp => ⟨(hlen p hp).2.1,(hlen p hp).2.2.1,(hlen p hp).2.2.2.2⟩) (by decide)) (by decide)
  have hrd : rdM 1 0 (flexB 4 0) fs_OffsetCommitValue (some (partS 2 fs_OffsetCommitValue 0 (flexB 4 0) .zero)) = (cnM 1 0 (flexB 4 0) fs_OffsetCommitValue .zero,some []) := rdM_part hokR hsz _ hts hset hlen (by decide)
  have hgood0 : GoodP (1 + 1) fs_OffsetCommitValue (cnM 1 0 (flexB 4 0) fs_OffsetCommitValue .zero) := cnM_good 0 _ 1 _ _ hdf
  have hpl2 : (partS (1 + 1) fs_OffsetCommitValue 0 (flexB 4 0) .zero).length ≤ 2 ^ 39 := hpl
  refine (Kept_fn (ok := AnyB) (d := 1) fs_OffsetCommitValue 4 0 .zero vs _ w3 hF hokF htz hsmz (by omega)).mono ?_
  rintro r5 w5 ⟨ho5,hE5⟩
  have hE05 := hE3.trans hE5
  obtain ⟨a5,c5,rfl,_⟩ := ho5.shape
  try simp (maxSteps:=1000000)(disch:=(first|omega|(simp only [qI,qJ,qK]<;>omega)|exact qL _)) only [go_sem,↓reduceIte,n0,reduceCtorEq,n1,n2,n3,n4,n5,i0,i1,i2,i3,i4,i5,i6,i7]
  repeat ((first | refine qA rfl ?_|refine qB ?_|refine qC rfl ?_|refine qD ?_|refine qE ?_|refine qF ?_|refine qG ?_|refine qH ?_);try simp (maxSteps:=1000000)(disch:=(first|omega|(simp only [qI,qJ,qK]<;>omega)|exact qL _)) only [go_sem,↓reduceIte,n0,reduceCtorEq,n1,n2,n3,n4,n5,i0,i1,i2,i3,i4,i5,i6,i7])
  have hK := rd_kept 0 (partS 2 fs_OffsetCommitValue 0 (flexB 4 0) .zero) rfl
  have hl2 := fixedS_len 0 2
  have hfin0 : (((cnM 1 0 (flexB 4 0) fs_OffsetCommitValue .zero),some []) : Tree × St) = rdM 1 (verN 0) (flexB 4 (verN 0)) fs_OffsetCommitValue (rdInt .i16 2 (some (fixedS 0 2 ++ (partS 2 fs_OffsetCommitValue 0 (flexB 4 0) .zero)))).2 := by rw [hK];exact hrd.symm
  refine (TellDOffsetCommitValue_fn (d := 1) (ok := AnyB) (ev := ev) _ _ w5 (Own.bytes (ok := AnyB) ho5 fun _ _ => trivial) (hG.updS hE05 id id) hev (by rw [List.length_append];omega) 0 (by rw [hK]) ((cnM 1 0 (flexB 4 0) fs_OffsetCommitValue .zero),some []) hfin0 hgood0).mono ?_
  rintro _ w6 ⟨⟨c6,T6,rfl,hc6,-⟩,hE6⟩
  have hE06 := hE05.trans hE6
  obtain ⟨zS,zL,zU,rfl,-,hS6,hL6,hU6⟩ := hc6.inv
  have k1 := hS6.flat
  have k2 := SlR.flat hL6
  have k3 := SlR.flat hU6
  have hE7 : Ext w6 (wr (w6.alloc (.cells #[.int .i64 0,.slice none 0 0,.bool false,.slice none 0 0,.slice none 0 0] 26)) w6.heap.size 0 [.int .i64 T6.n,zS,.bool T6.null,zL,zU]) := (Upd.alloc (Upd.refl _ _) _).wr _ _ (.inl (Nat.le_refl _))
  try simp (maxSteps:=1000000)(disch:=(first|omega|(simp only [qI,qJ,qK]<;>omega)|exact qL _)) only [go_sem,↓reduceIte,n0,reduceCtorEq,n1,n2,n3,n4,n5,i0,i1,i2,i3,i4,i5,i6,i7,k1,k2,k3,Option.isSome_some]
  repeat ((first | refine qA rfl ?_|refine qB ?_|refine qC rfl ?_|refine qD ?_|refine qE ?_|refine qF ?_|refine qG ?_|refine qH ?_);try simp (maxSteps:=1000000)(disch:=(first|omega|(simp only [qI,qJ,qK]<;>omega)|exact qL _)) only [go_sem,↓reduceIte,n0,reduceCtorEq,n1,n2,n3,n4,n5,i0,i1,i2,i3,i4,i5,i6,i7,k1,k2,k3,Option.isSome_some])
  generalize (wr (w6.alloc (.cells #[.int .i64 0,.slice none 0 0,.bool false,.slice none 0 0,.slice none 0 0] 26)) w6.heap.size 0 [.int .i64 T6.n,zS,.bool T6.null,zL,zU]) = w1 at *
  have hE1 : Ext w w1 := hE06.trans hE7
  obtain ⟨vc,hvc⟩ : ∃ v,v = (rdInt .i16 2 (some s)).1 := ⟨_,rfl⟩
  obtain ⟨fin,hfin⟩ : ∃ fin,fin = rdM 1 (verN vc) (flexB 4 (verN vc)) fs_OffsetCommitValue (rdInt .i16 2 (some s)).2 := ⟨_,rfl⟩
  have hgood : GoodP (1 + 1) fs_OffsetCommitValue fin.1 := by rw [hfin];exact rdM_good _ _ 1 fs_OffsetCommitValue hdf _ (Nat.le_trans (rdInt_shr .i16 2 _) (by rw [stLen_some];omega))
  refine (TellDOffsetCommitValue_fn (d := 1) (ok := ok) _ s w1 (hb.keep (hE1.keeps _)) (hG.updS hE1 id id) hev (by omega) vc hvc fin hfin hgood).mono ?_
  rintro _ w2 ⟨⟨ca,Ta,rfl,hca,hTa⟩,hE2⟩
  have hE02 := hE1.trans hE2
  obtain ⟨aS,aL,aU,rfl,hna,hSa,hLa,hUa⟩ := hca.inv
  have f1 := hSa.flat
  have f2 := SlR.flat hLa
  have f3 := SlR.flat hUa
  have hE3 : Ext w2 (wr (w2.alloc (.cells #[.int .i64 0,.slice none 0 0,.bool false,.slice none 0 0,.slice none 0 0] 26)) w2.heap.size 0 [.int .i64 Ta.n,aS,.bool Ta.null,aL,aU]) := (Upd.alloc (Upd.refl _ _) _).wr _ _ (.inl (Nat.le_refl _))
  have hb3 : blk (wr (w2.alloc (.cells #[.int .i64 0,.slice none 0 0,.bool false,.slice none 0 0,.slice none 0 0] 26)) w2.heap.size 0 [.int .i64 Ta.n,aS,.bool Ta.null,aL,aU]) w2.heap.size = some (#[.int .i64 Ta.n,aS,.bool Ta.null,aL,aU],26,(0,0)) := by simp (maxSteps:=1000000)(disch:=(first|omega|(simp only [qI,qJ,qK]<;>omega)|exact qL _)) only [go_sem,↓reduceIte,n0,reduceCtorEq,n1,n2,n3,n4,n5,i0,i1,i2,i3,i4,i5,i6,i7]
  try simp (maxSteps:=1000000)(disch:=(first|omega|(simp only [qI,qJ,qK]<;>omega)|exact qL _)) only [go_sem,↓reduceIte,n0,reduceCtorEq,n1,n2,n3,n4,n5,i0,i1,i2,i3,i4,i5,i6,i7,f1,f2,f3]
  repeat ((first | refine qA rfl ?_|refine qB ?_|refine qC rfl ?_|refine qD ?_|refine qE ?_|refine qF ?_|refine qG ?_|refine qH ?_);try simp (maxSteps:=1000000)(disch:=(first|omega|(simp only [qI,qJ,qK]<;>omega)|exact qL _)) only [go_sem,↓reduceIte,n0,reduceCtorEq,n1,n2,n3,n4,n5,i0,i1,i2,i3,i4,i5,i6,i7,f1,f2,f3])
  generalize (wr (w2.alloc (.cells #[.int .i64 0,.slice none 0 0,.bool false,.slice none 0 0,.slice none 0 0] 26)) w2.heap.size 0 [.int .i64 Ta.n,aS,.bool Ta.null,aL,aU]) = w8 at *
  have hE03 := hE02.trans hE3
  refine (UnsafeDOffsetCommitValue_fn (d := 1) (ok := ok) _ s w8 (hb.keep (Ext.keeps hE03 _)) (hG.updS hE03 id id) hev (by omega) vc hvc fin hfin hgood).mono ?_
  rintro _ w4 ⟨⟨cb,Tb,rfl,hcb,hTb⟩,hE4⟩
  have hE04 := hE03.trans hE4
  obtain ⟨bS,bL,bU,rfl,hnb,hSb,hLb,hUb⟩ := hcb.inv
  have g1 := hSb.flat
  have g2 := SlR.flat hLb
  have g3 := SlR.flat hUb
  have hE5 : Ext w4 (wr (w4.alloc (.cells #[.int .i64 0,.slice none 0 0,.bool false,.slice none 0 0,.slice none 0 0] 26)) w4.heap.size 0 [.int .i64 Tb.n,bS,.bool Tb.null,bL,bU]) := (Upd.alloc (Upd.refl _ _) _).wr _ _ (.inl (Nat.le_refl _))
  have hb5 : blk (wr (w4.alloc (.cells #[.int .i64 0,.slice none 0 0,.bool false,.slice none 0 0,.slice none 0 0] 26)) w4.heap.size 0 [.int .i64 Tb.n,bS,.bool Tb.null,bL,bU]) w4.heap.size = some (#[.int .i64 Tb.n,bS,.bool Tb.null,bL,bU],26,(0,0)) := by simp (maxSteps:=1000000)(disch:=(first|omega|(simp only [qI,qJ,qK]<;>omega)|exact qL _)) only [go_sem,↓reduceIte,n0,reduceCtorEq,n1,n2,n3,n4,n5,i0,i1,i2,i3,i4,i5,i6,i7]
  try simp (maxSteps:=1000000)(disch:=(first|omega|(simp only [qI,qJ,qK]<;>omega)|exact qL _)) only [go_sem,↓reduceIte,n0,reduceCtorEq,n1,n2,n3,n4,n5,i0,i1,i2,i3,i4,i5,i6,i7,g1,g2,g3]
  repeat ((first | refine qA rfl ?_|refine qB ?_|refine qC rfl ?_|refine qD ?_|refine qE ?_|refine qF ?_|refine qG ?_|refine qH ?_);try simp (maxSteps:=1000000)(disch:=(first|omega|(simp only [qI,qJ,qK]<;>omega)|exact qL _)) only [go_sem,↓reduceIte,n0,reduceCtorEq,n1,n2,n3,n4,n5,i0,i1,i2,i3,i4,i5,i6,i7,g1,g2,g3])
  generalize (wr (w4.alloc (.cells #[.int .i64 0,.slice none 0 0,.bool false,.slice none 0 0,.slice none 0 0] 26)) w4.heap.size 0 [.int .i64 Tb.n,bS,.bool Tb.null,bL,bU]) = w9 at *
  have hE05 := hE04.trans hE5
  have ha5 := (hE4.trans hE5).blk_some hb3 id
  have la5 := blk_lt ha5
  have lb5 := blk_lt hb5
  refine W.drawR (.take 0 (.take 1 (.take 2 (.take 3 (.take 4 (.take 5 (.take 6 (.take 7 (.take 8 (.take 9 (.take 10 (.take 12 (.only 11 (.only 13 (.only 14 (.take 15 (.take 16 (.only 17 .done)))))))))))))))))) NoB mixed (by kernel_rfl) ?_
  cases hso : fin.2.isSome with
  | false =>
    simp (maxSteps:=1000000)(disch:=(first|omega|(simp only [qI,qJ,qK]<;>omega)|exact qL _)) only [go_sem,↓reduceIte,n0,reduceCtorEq,n1,n2,n3,n4,n5,i0,i1,i2,i3,i4,i5,i6,i7,hso,ha5,hb5]
    repeat refine ⟨Upd.refl _ _,?_⟩
    repeat ((first | refine qA rfl ?_|refine qB ?_|refine qC rfl ?_|refine qD ?_|refine qE ?_|refine qF ?_|refine qG ?_|refine qH ?_);try simp (maxSteps:=1000000)(disch:=(first|omega|(simp only [qI,qJ,qK]<;>omega)|exact qL _)) only [go_sem,↓reduceIte,n0,reduceCtorEq,n1,n2,n3,n4,n5,i0,i1,i2,i3,i4,i5,i6,i7,hso])
    all_goals exact hE05.drew
  | true =>
    obtain rfl := hTa hso
    obtain rfl := hTb hso
    have hsm : Small 32767 ((tlP (1 + 1) fs_OffsetCommitValue fin.1).setN vc) := (tlP_small _ _ _ hdf hgood).setN vc
    generalize (tlP (1 + 1) fs_OffsetCommitValue fin.1).setN vc = T at *
    have hEd : Ext w9 w9.drew := (Upd.refl _ _).drew
    simp (maxSteps:=1000000)(disch:=(first|omega|(simp only [qI,qJ,qK]<;>omega)|exact qL _)) only [go_sem,↓reduceIte,n0,reduceCtorEq,n1,n2,n3,n4,n5,i0,i1,i2,i3,i4,i5,i6,i7,hso,ha5,hb5,cellsAt_five]
    refine (got_fn hsm.lists AnyB _ w9.drew (TreeC.keep (Ext.keeps (((hE3.trans hE4).trans hE5).drew) _) hca)).mono ?_
    rintro _ w10 ⟨⟨c10,rfl,hc10⟩,hE10⟩
    refine ⟨hE10,?_⟩
    have hb10 := hE10.blk_some (show blk w9.drew w4.heap.size = _ from hb5) id
    try simp (maxSteps:=1000000)(disch:=(first|omega|(simp only [qI,qJ,qK]<;>omega)|exact qL _)) only [go_sem,↓reduceIte,n0,reduceCtorEq,n1,n2,n3,n4,n5,i0,i1,i2,i3,i4,i5,i6,i7,hso,hb10,cellsAt_five]
    refine (got_fn hsm.lists AnyB _ w10 (TreeC.keep (Ext.keeps ((hE5.drew).trans hE10) _) hcb)).mono ?_
    rintro _ w11 ⟨⟨c11,rfl,hc11⟩,hE11⟩
    have hE57 : Ext w9.drew w11 := hE10.trans hE11
    refine ⟨hE57,?_⟩
    try simp (maxSteps:=1000000)(disch:=(first|omega|(simp only [qI,qJ,qK]<;>omega)|exact qL _)) only [go_sem,↓reduceIte,n0,reduceCtorEq,n1,n2,n3,n4,n5,i0,i1,i2,i3,i4,i5,i6,i7,hso]
    refine (SameTree_fn hsm AnyB c10 c11 w11 (TreeC.weaken (fun _ _ _ => trivial) (TreeC.keep (Ext.keeps hE11 _) hc10)) (TreeC.weaken (fun _ _ _ => trivial) hc11)).mono ?_
    rintro _ w12 ⟨rfl,hE12⟩
    repeat refine ⟨hE57.trans hE12,?_⟩
    try simp (maxSteps:=1000000)(disch:=(first|omega|(simp only [qI,qJ,qK]<;>omega)|exact qL _)) only [go_sem,↓reduceIte,n0,reduceCtorEq,n1,n2,n3,n4,n5,i0,i1,i2,i3,i4,i5,i6,i7,hso]
    repeat ((first | refine qA rfl ?_|refine qB ?_|refine qC rfl ?_|refine qD ?_|refine qE ?_|refine qF ?_|refine qG ?_|refine qH ?_);try simp (maxSteps:=1000000)(disch:=(first|omega|(simp only [qI,qJ,qK]<;>omega)|exact qL _)) only [go_sem,↓reduceIte,n0,reduceCtorEq,n1,n2,n3,n4,n5,i0,i1,i2,i3,i4,i5,i6,i7,hso])
    all_goals exact (hE05.trans hEd).trans (hE57.trans hE12)
end Ms

