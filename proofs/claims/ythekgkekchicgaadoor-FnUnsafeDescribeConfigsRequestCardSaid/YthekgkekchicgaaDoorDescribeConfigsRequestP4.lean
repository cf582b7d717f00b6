/- A part of the proof: see the last text. -/
import Derived.Test.YthekgkekchicgaaDoorC07
import Derived.Test.YthekgkekchicgaaDoorDescribeConfigsRequestP0
set_option linter.unusedSimpArgs false
set_option linter.unusedVariables false
namespace Ms
open Go.World renaming size_alloc → qI
open Ms renaming size_wr → qJ,size_drew → qK,not_noB → qL
open W renaming seqR → qA,seq → qB,regR → qC,condK → qD,block → qE,skip → qF,ret → qG,exit → qH
open Nat renaming reduceEqDiff → n0,reduceAdd → n1,reduceMul → n2,reduceSub → n3,reduceLT → n4,reduceLeDiff → n5
open Int renaming reduceEq → i0,reduceLT → i1,reduceLE → i2,reduceNeg → i3,reduceAdd → i4,reduceSub → i5,reduceMul → i6,reduceToNat → i7
set_option maxRecDepth 8000
open Go Go.Proofs Go.Shelf
attribute [local congr] W_congr WPsq_congr WPp_congr optK_congr addrK_congr intK_congr boolK_congr sliceK_congr tupleK_congr funcK_congr Fn_congr rawK_congr takeK_congr stepK_congr convK_congr aggK_congr

theorem tagclX0_fn {ok OK : Blocks} {B tb : Nat} (c0 c1 c2 c3 v : Value) (done : List TagD) (y : TagD) (vv : Value) (w : World) (hbt : blk w tb = some (#[c0,c1,c2,c3,v],26,(0,0))) (hg : GrowU OK B tb w 65 v done) (hB : B ≤ w.heap.size) (htb : tb < B) (hvv : BytesV ok w vv y.2) (hy : y.1 < 2 ^ 32) (hyl : y.2.length ≤ 32767) (hdl : done.length ≤ 32767) (hOK : ∀ b,B ≤ b → OK b) :
    Fn Tryd.prog 246 #[.int .u32 y.1,vv,.pointer (some ⟨tb,0,none⟩)] w fun _ w' => (∃ v',blk w' tb = some (#[c0,c1,c2,c3,v'],26,(0,0)) ∧ GrowU OK B tb w' 65 v' (done ++ [y])) ∧ Upd (fun b => b = tb ∨ B ≤ b) w w' := by
  have htl := blk_lt hbt
  refine fn_of_W Tryd.func246 rfl Tryd.results246 Tryd.ntmps246 rfl ?_
  repeat ((first | refine qA rfl ?_|refine qB ?_|refine qC rfl ?_|refine qD ?_|refine qE ?_|refine qF ?_|refine qG ?_|refine qH ?_);try simp (maxSteps:=1000000)(disch:=(first|omega|(simp only [qI,qJ,qK]<;>omega)|exact qL _)) only [go_sem,↓reduceIte,n0,reduceCtorEq,n1,n2,n3,n4,n5,i0,i1,i2,i3,i4,i5,i6,i7])
  obtain ⟨av,kv,rfl,_⟩ := hg.shape
  have hnb : ∀ b,b < B ∨ w.heap.size ≤ b → ¬ ownB (.slice av done.length kv) b := fun b hb h => by
    have := hg.above h
    have := hg.below h
    omega
  refine W.drawR (.take 0 (.take 1 (.take 2 (.take 3 (.only 4 (.only 5 (.only 6 (.only 7 (.take 8 (.last 9)))))))))) (ownB (.slice av done.length kv)) mixed (by kernel_rfl) ?_
  simp (maxSteps:=1000000)(disch:=(first|omega|(simp only [qI,qJ,qK]<;>omega)|exact qL _ | (refine hnb _ ?_;first | omega | (simp only [World.size_alloc,size_wr,size_drew] <;> omega)))) only [go_sem,↓reduceIte,n0,reduceCtorEq,n1,n2,n3,n4,n5,i0,i1,i2,i3,i4,i5,i6,i7,hbt]
  refine wp_copyN ap_22_22 (ok := ok) (s := y.2) (v := vv) (by first | rfl | simp (maxSteps:=1000000)(disch:=(first|omega|(simp only [qI,qJ,qK]<;>omega)|exact qL _)) only [go_sem,↓reduceIte,n0,reduceCtorEq,n1,n2,n3,n4,n5,i0,i1,i2,i3,i4,i5,i6,i7]) (by first | rfl | simp (maxSteps:=1000000)(disch:=(first|omega|(simp only [qI,qJ,qK]<;>omega)|exact qL _)) only [go_sem,↓reduceIte,n0,reduceCtorEq,n1,n2,n3,n4,n5,i0,i1,i2,i3,i4,i5,i6,i7]) (hvv.keep (Ext.keeps ((Upd.refl _ _).drew) _)) (by omega) ?_
  intro v1 w1 ho1 hE1 hf1
  obtain ⟨a1,k1,rfl,_⟩ := ho1.shape
  have hB1 := Own.bytes (ok := fun b => w.heap.size ≤ b) ho1 fun b hb => hf1 b hb
  have hP1 : Upd (ownB (.slice av done.length kv)) w.drew w1 := hE1.mono fun _ h => h.elim
  have hs1 := hE1.size
  simp only [size_drew] at hs1
  refine ⟨hP1,?_⟩
  simp (maxSteps:=1000000)(disch:=(first|omega|(simp only [qI,qJ,qK]<;>omega)|exact qL _ | (refine hnb _ ?_;first | omega | (simp only [World.size_alloc,size_wr,size_drew] <;> omega)))) only [go_sem,↓reduceIte,n0,reduceCtorEq,n1,n2,n3,n4,n5,i0,i1,i2,i3,i4,i5,i6,i7,hbt]
  refine ⟨hP1,?_⟩
  have hP2 : Upd (ownB (.slice av done.length kv)) w.drew (w1.alloc (.cells #[.int .u32 y.1,.slice a1 y.2.length k1] 65)) := hP1.alloc _
  have hn2 : blk (w1.alloc (.cells #[.int .u32 y.1,.slice a1 y.2.length k1] 65)) w1.heap.size = some (#[.int .u32 y.1,.slice a1 y.2.length k1],65,(0,0)) := blk_alloc_new rfl
  have hs2 : (w1.alloc (.cells #[.int .u32 y.1,.slice a1 y.2.length k1] 65)).heap.size = w1.heap.size + 1 := World.size_alloc _ _
  have hE2 : Ext w1 (w1.alloc (.cells #[.int .u32 y.1,.slice a1 y.2.length k1] 65)) := Upd.alloc (Upd.refl _ _) _
  refine ⟨hP2,?_⟩
  try simp only [List.append_nil]
  generalize (w1.alloc (.cells #[.int .u32 y.1,.slice a1 y.2.length k1] 65)) = w2 at *
  have hEw : Ext w w2 := (((Upd.refl _ _).drew).trans hE1).trans hE2
  obtain ⟨css,hown,hall⟩ := (hg.ext hEw).ex
  have hcl := hall.1
  have hx2 : TagC (fun b => OK b ∧ b ≠ tb ∧ ¬ ownB (.slice av done.length kv) b) w2 y [.int .u32 y.1,.slice a1 y.2.length k1] := ⟨_,rfl,(hB1.keep (hE2.keeps _)).weaken fun b _ hk => ⟨hOK b (by omega),by omega,hnb b (.inr hk)⟩,hy⟩
  refine wp_append ap_24_24 (m := 1) (news := [.int .u32 y.1,.slice a1 y.2.length k1]) (n := css.length) (cs := css.flatten) (v := .slice av done.length kv) ?_ rfl hown.1 hall.flat_cells (Src.blk (fr := (0,0)) (T := 65) hn2 rfl rfl) ?_ ?_ ?_
  · first | rfl | simp (maxSteps:=1000000)(disch:=(first|omega|(simp only [qI,qJ,qK]<;>omega)|exact qL _)) only [go_sem,↓reduceIte,n0,reduceCtorEq,n1,n2,n3,n4,n5,i0,i1,i2,i3,i4,i5,i6,i7]
  · omega
  · omega
  intro v' w3 ho hu hfr
  have hg3 := GrowU.snoc hown hall hx2 hu hfr ho
  obtain ⟨va,vc,hv',_⟩ := ho.shape
  subst hv'
  have hP3 := hP2.trans hu
  have hs3 := hu.size
  have hbt3 := hP3.blk_some (show blk w.drew tb = _ from hbt) (hnb _ (.inl htb))
  have hne : ¬ ownB (.slice va (css.length + 1) vc) tb := fun h => (hfr _ h).elim (hnb _ (.inl htb)) (fun h => by omega)
  refine ⟨hP3,?_⟩
  simp (maxSteps:=1000000)(disch:=(first|omega|(simp only [qI,qJ,qK]<;>omega)|exact qL _ | (refine hnb _ ?_;first | omega | (simp only [World.size_alloc,size_wr,size_drew] <;> omega)))) only [go_sem,↓reduceIte,n0,reduceCtorEq,n1,n2,n3,n4,n5,i0,i1,i2,i3,i4,i5,i6,i7,hbt3]
  repeat ((first | refine qA rfl ?_|refine qB ?_|refine qC rfl ?_|refine qD ?_|refine qE ?_|refine qF ?_|refine qG ?_|refine qH ?_);try simp (maxSteps:=1000000)(disch:=(first|omega|(simp only [qI,qJ,qK]<;>omega)|exact qL _)) only [go_sem,↓reduceIte,n0,reduceCtorEq,n1,n2,n3,n4,n5,i0,i1,i2,i3,i4,i5,i6,i7])
  refine ⟨⟨.slice va (css.length + 1) vc,by first | (rw [blk_wr_eq,hbt3];rfl) | rfl | (rw [hbt3];rfl) | (rw [blk_wr_eq,hbt3]),hg3.upd ((Upd.refl _ _).wr _ _ (.inr rfl)) hne⟩,?_⟩
  refine Upd.wr ?_ _ _ (.inr (.inl rfl))
  exact (((Upd.refl (fun b => b = tb ∨ B ≤ b) w).drew).trans (hP3.mono fun b h => .inr (hg.above h)))

set_option maxHeartbeats 4000000 in
theorem tellX0_fn {d : Nat} {ok : Blocks} (t : Tree) (cs : List Value) (w : World) {b o : Nat} {x : Blk} (hb : blk w b = some x) (hq : ∀ k,k < 4 → x.1[o + k]? = cs[k]?) (hR : RepS true (d + 1) fs_X0 ok w t cs) (hg : GoodP (d + 1) fs_X0 t) :
    Fn Tryd.prog 162 #[.pointer (some ⟨b,o,none⟩)] w fun r w' => (∃ c,r = .agg c.toArray ∧ TreeC (fun b => w.heap.size ≤ b) w' (tlP (d + 1) fs_X0 t) c) ∧ Ext w w' := by
  have hbl := blk_lt hb
  obtain ⟨⟨gd0,gd1,gd2,-⟩,hgu⟩ := hg
  replace gd0 : GoodF (GoodP d) fX0_0 (t.at 0) := gd0
  replace gd1 : GoodF (GoodP d) fX0_1 (t.at 1) := gd1
  replace gd2 : GoodF (GoodP d) fX0_2 (t.at 2) := gd2
  obtain ⟨cs0,q,hcs,hL,hT⟩ := hR.inv
  obtain ⟨c0,e0,rfl,h0,c1,e1,rfl,h1,c2,e2,rfl,h2,rfl⟩ := hL
  replace h0 : RepF (RepS true d) (szS true d) fX0_0 ok w (t.at 0) c0 := h0
  replace h1 : RepF (RepS true d) (szS true d) fX0_1 ok w (t.at 1) c1 := h1
  replace h2 : RepF (RepS true d) (szS true d) fX0_2 ok w (t.at 2) c2 := h2
  obtain rfl := (RepF_num (by decide)).1 h0
  obtain rfl := (RepF_text rfl (by decide)).1 h1
  obtain ⟨ab2,ac2,L2,rfl,hL2,hnn2,hs2⟩ := RepF_listT rfl h2
  have hgl2 := gd2.listL rfl hL2
  obtain ⟨qm,rfl⟩ := hT.shape
  subst hcs
  have hq0 : x.1[o]? = some (.int .i8 (IntKind.i8.wrap (t.at 0).n)) := hq 0 (by decide)
  have hq1 : x.1[o + 1]? = some (strV (t.at 1).s) := hq 1 (by decide)
  have hq2 : x.1[o + 2]? = some (.slice ab2 L2.length ac2) := hq 2 (by decide)
  have hq3 : x.1[o + 3]? = some (.map qm) := hq 3 (by decide)
  refine fn_of_W Tryd.func162 rfl Tryd.results162 Tryd.ntmps162 rfl ?_
  repeat ((first | refine qA rfl ?_|refine qB ?_|refine qC rfl ?_|refine qD ?_|refine qE ?_|refine qF ?_|refine qG ?_|refine qH ?_);try simp (maxSteps:=1000000)(disch:=(first|omega|(simp only [qI,qJ,qK]<;>omega)|exact qL _)) only [go_sem,↓reduceIte,n0,reduceCtorEq,n1,n2,n3,n4,n5,i0,i1,i2,i3,i4,i5,i6,i7])
  refine wp_make (T := 23) (E := 26) (size := 5) (bytes := 88) (z := .agg #[.int .i64 0,.slice none 0 0,.bool false,.slice none 0 0,.slice none 0 0]) (l := 3) (c := 3) (kl := .i64) (kc := .i64) (by kernel_rfl) (by kernel_rfl) (by first | rfl | (simp (maxSteps:=1000000)(disch:=(first|omega|(simp only [qI,qJ,qK]<;>omega)|exact qL _)) only [go_sem,↓reduceIte,n0,reduceCtorEq,n1,n2,n3,n4,n5,i0,i1,i2,i3,i4,i5,i6,i7];rfl)) (by first | rfl | (simp (maxSteps:=1000000)(disch:=(first|omega|(simp only [qI,qJ,qK]<;>omega)|exact qL _)) only [go_sem,↓reduceIte,n0,reduceCtorEq,n1,n2,n3,n4,n5,i0,i1,i2,i3,i4,i5,i6,i7];rfl)) (by omega) (by omega) (by omega) ?_
  have hmd : madeCells (Value.agg #[.int .i64 0,.slice none 0 0,.bool false,.slice none 0 0,.slice none 0 0]).cells (3 * 5) = #[.int .i64 0,.slice none 0 0,.bool false,.slice none 0 0,.slice none 0 0,.int .i64 0,.slice none 0 0,.bool false,.slice none 0 0,.slice none 0 0,.int .i64 0,.slice none 0 0,.bool false,.slice none 0 0,.slice none 0 0] := by kernel_rfl
  rw [hmd]
  simp (maxSteps:=1000000)(disch:=(first|omega|(simp only [qI,qJ,qK]<;>omega)|exact qL _)) only [go_sem,↓reduceIte,n0,reduceCtorEq,n1,n2,n3,n4,n5,i0,i1,i2,i3,i4,i5,i6,i7]
  repeat ((first | refine qA rfl ?_|refine qB ?_|refine qC rfl ?_|refine qD ?_|refine qE ?_|refine qF ?_|refine qG ?_|refine qH ?_);try simp (maxSteps:=1000000)(disch:=(first|omega|(simp only [qI,qJ,qK]<;>omega)|exact qL _)) only [go_sem,↓reduceIte,n0,reduceCtorEq,n1,n2,n3,n4,n5,i0,i1,i2,i3,i4,i5,i6,i7])
  have hE1 : Ext w (wr (((w.alloc (.cells #[.int .i64 0,.slice none 0 0,.bool false,.slice none 0 0,.slice none 0 0] 26)).alloc (.cells #[.int .i64 0,.slice none 0 0,.bool false,.slice none 0 0,.slice none 0 0,.int .i64 0,.slice none 0 0,.bool false,.slice none 0 0,.slice none 0 0,.int .i64 0,.slice none 0 0,.bool false,.slice none 0 0,.slice none 0 0] 26)).alloc (.cells #[.int .i64 0,.slice none 0 0,.bool false,.slice none 0 0,.slice none 0 0] 26)) (w.heap.size + 2) 0 [.int .i64 0,.slice none 0 0,.bool false,.slice (some ⟨w.heap.size + 1,0,none⟩) 3 3,.slice none 0 0]) := (Upd.alloc (Upd.alloc (Upd.alloc (Upd.refl _ _) _) _) _).wr _ _ (.inl (by omega))
  have hz1 : (wr (((w.alloc (.cells #[.int .i64 0,.slice none 0 0,.bool false,.slice none 0 0,.slice none 0 0] 26)).alloc (.cells #[.int .i64 0,.slice none 0 0,.bool false,.slice none 0 0,.slice none 0 0,.int .i64 0,.slice none 0 0,.bool false,.slice none 0 0,.slice none 0 0,.int .i64 0,.slice none 0 0,.bool false,.slice none 0 0,.slice none 0 0] 26)).alloc (.cells #[.int .i64 0,.slice none 0 0,.bool false,.slice none 0 0,.slice none 0 0] 26)) (w.heap.size + 2) 0 [.int .i64 0,.slice none 0 0,.bool false,.slice (some ⟨w.heap.size + 1,0,none⟩) 3 3,.slice none 0 0]).heap.size = w.heap.size + 3 := by simp only [size_wr,World.size_alloc]
  have hl1 : blk (wr (((w.alloc (.cells #[.int .i64 0,.slice none 0 0,.bool false,.slice none 0 0,.slice none 0 0] 26)).alloc (.cells #[.int .i64 0,.slice none 0 0,.bool false,.slice none 0 0,.slice none 0 0,.int .i64 0,.slice none 0 0,.bool false,.slice none 0 0,.slice none 0 0,.int .i64 0,.slice none 0 0,.bool false,.slice none 0 0,.slice none 0 0] 26)).alloc (.cells #[.int .i64 0,.slice none 0 0,.bool false,.slice none 0 0,.slice none 0 0] 26)) (w.heap.size + 2) 0 [.int .i64 0,.slice none 0 0,.bool false,.slice (some ⟨w.heap.size + 1,0,none⟩) 3 3,.slice none 0 0]) (w.heap.size + 1) = some (#[.int .i64 0,.slice none 0 0,.bool false,.slice none 0 0,.slice none 0 0,.int .i64 0,.slice none 0 0,.bool false,.slice none 0 0,.slice none 0 0,.int .i64 0,.slice none 0 0,.bool false,.slice none 0 0,.slice none 0 0],26,(0,0)) := by simp (maxSteps:=1000000)(disch:=(first|omega|(simp only [qI,qJ,qK]<;>omega)|exact qL _)) only [go_sem,↓reduceIte,n0,reduceCtorEq,n1,n2,n3,n4,n5,i0,i1,i2,i3,i4,i5,i6,i7]
  have ht1 : blk (wr (((w.alloc (.cells #[.int .i64 0,.slice none 0 0,.bool false,.slice none 0 0,.slice none 0 0] 26)).alloc (.cells #[.int .i64 0,.slice none 0 0,.bool false,.slice none 0 0,.slice none 0 0,.int .i64 0,.slice none 0 0,.bool false,.slice none 0 0,.slice none 0 0,.int .i64 0,.slice none 0 0,.bool false,.slice none 0 0,.slice none 0 0] 26)).alloc (.cells #[.int .i64 0,.slice none 0 0,.bool false,.slice none 0 0,.slice none 0 0] 26)) (w.heap.size + 2) 0 [.int .i64 0,.slice none 0 0,.bool false,.slice (some ⟨w.heap.size + 1,0,none⟩) 3 3,.slice none 0 0]) (w.heap.size + 2) = some (#[.int .i64 0,.slice none 0 0,.bool false,.slice (some ⟨w.heap.size + 1,0,none⟩) 3 3,.slice none 0 0],26,(0,0)) := by simp (maxSteps:=1000000)(disch:=(first|omega|(simp only [qI,qJ,qK]<;>omega)|exact qL _)) only [go_sem,↓reduceIte,n0,reduceCtorEq,n1,n2,n3,n4,n5,i0,i1,i2,i3,i4,i5,i6,i7]
  have hr1 : blk (wr (((w.alloc (.cells #[.int .i64 0,.slice none 0 0,.bool false,.slice none 0 0,.slice none 0 0] 26)).alloc (.cells #[.int .i64 0,.slice none 0 0,.bool false,.slice none 0 0,.slice none 0 0,.int .i64 0,.slice none 0 0,.bool false,.slice none 0 0,.slice none 0 0,.int .i64 0,.slice none 0 0,.bool false,.slice none 0 0,.slice none 0 0] 26)).alloc (.cells #[.int .i64 0,.slice none 0 0,.bool false,.slice none 0 0,.slice none 0 0] 26)) (w.heap.size + 2) 0 [.int .i64 0,.slice none 0 0,.bool false,.slice (some ⟨w.heap.size + 1,0,none⟩) 3 3,.slice none 0 0]) w.heap.size = some (#[.int .i64 0,.slice none 0 0,.bool false,.slice none 0 0,.slice none 0 0],26,(0,0)) := by simp (maxSteps:=1000000)(disch:=(first|omega|(simp only [qI,qJ,qK]<;>omega)|exact qL _)) only [go_sem,↓reduceIte,n0,reduceCtorEq,n1,n2,n3,n4,n5,i0,i1,i2,i3,i4,i5,i6,i7]
  generalize (wr (((w.alloc (.cells #[.int .i64 0,.slice none 0 0,.bool false,.slice none 0 0,.slice none 0 0] 26)).alloc (.cells #[.int .i64 0,.slice none 0 0,.bool false,.slice none 0 0,.slice none 0 0,.int .i64 0,.slice none 0 0,.bool false,.slice none 0 0,.slice none 0 0,.int .i64 0,.slice none 0 0,.bool false,.slice none 0 0,.slice none 0 0] 26)).alloc (.cells #[.int .i64 0,.slice none 0 0,.bool false,.slice none 0 0,.slice none 0 0] 26)) (w.heap.size + 2) 0 [.int .i64 0,.slice none 0 0,.bool false,.slice (some ⟨w.heap.size + 1,0,none⟩) 3 3,.slice none 0 0]) = w1 at *
  have hU1 : Upd (fun b => b = w.heap.size + 1 ∨ b = w.heap.size + 2) w1 w1 := Upd.refl _ _
  have hb1 := hE1.blk_some hb id
  repeat ((first | refine qA rfl ?_|refine qB ?_|refine qC rfl ?_|refine qD ?_|refine qE ?_|refine qF ?_|refine qG ?_|refine qH ?_);try simp (maxSteps:=1000000)(disch:=(first|omega|(simp only [qI,qJ,qK]<;>omega)|exact qL _)) only [go_sem,↓reduceIte,n0,reduceCtorEq,n1,n2,n3,n4,n5,i0,i1,i2,i3,i4,i5,i6,i7,hb1,hl1,ht1,hq0,hq1,hq2,hq3])
  refine W.drawR (.take 0 (.take 1 (.take 2 (.take 3 (.take 4 (.take 5 (.take 6 (.only 7 (.take 8 (.last 9)))))))))) (NoB) mixed (by kernel_rfl) ?_
  try simp (maxSteps:=1000000)(disch:=(first|omega|(simp only [qI,qJ,qK]<;>omega)|exact qL _)) only [go_sem,↓reduceIte,n0,reduceCtorEq,n1,n2,n3,n4,n5,i0,i1,i2,i3,i4,i5,i6,i7,hb1,hl1,ht1,hq0,hq1,hq2,hq3,tl8]
  refine ⟨Upd.refl _ _,?_⟩
  have hlq2 : blk w1.drew (w.heap.size + 1) = _ := hl1
  have hx2 : Upd (fun b => b = w.heap.size + 1 ∨ b = w.heap.size + 2) w1 w1.drew := (Upd.refl _ _).drew
  generalize hw2 : wr w1.drew (w.heap.size + 1) 0 [.int .i64 (IntKind.i8.wrap (t.at 0).n),.slice none 0 0,.bool false,.slice none 0 0,.slice none 0 0] = w2
  have hl2 : blk w2 (w.heap.size + 1) = some (#[.int .i64 (IntKind.i8.wrap (t.at 0).n),.slice none 0 0,.bool false,.slice none 0 0,.slice none 0 0,.int .i64 0,.slice none 0 0,.bool false,.slice none 0 0,.slice none 0 0,.int .i64 0,.slice none 0 0,.bool false,.slice none 0 0,.slice none 0 0],26,(0,0)) := by rw [← hw2,blk_wr_eq,hlq2];rfl
  have hv2 : Upd (fun b => b = w.heap.size + 1 ∨ b = w.heap.size + 2) w1.drew w2 := by rw [← hw2];exact (Upd.refl _ _).wr _ _ (.inr (.inl rfl))
  have hV2 : Upd (fun b => b = w.heap.size + 1 ∨ b = w.heap.size + 2) w1 w2 := hx2.trans hv2
  have hU2 : Upd (fun b => b = w.heap.size + 1 ∨ b = w.heap.size + 2) w1 w2 := hU1.trans hV2
  have hz2 := hU2.size
  have hX2 : Ext w w2 := hE1.more hU2 fun b hb h => by omega
  have hb2 := hX2.blk_some hb id
  have ht2 : blk w2 (w.heap.size + 2) = some (#[.int .i64 0,.slice none 0 0,.bool false,.slice (some ⟨w.heap.size + 1,0,none⟩) 3 3,.slice none 0 0],26,(0,0)) := by
    rw [← hw2,blk_wr_ne (by omega)]
    exact ht1
  clear hw2
  have hf0 : TreeC (fun b => w1.heap.size ≤ b) w2 (.num (IntKind.i8.wrap (t.at 0).n)) [.int .i64 (IntKind.i8.wrap (t.at 0).n),.slice none 0 0,.bool false,.slice none 0 0,.slice none 0 0] := (TreeC.keep (hv2.keeps fun b hb hk e => by have hk' : w1.heap.size ≤ b := hk;omega) (TreeC.intro (tl8 _) (BytesV.nil _ _) (treesN _ _) (tagsN _ _) : TreeC (fun b => w1.heap.size ≤ b) w1.drew (.num (IntKind.i8.wrap (t.at 0).n)) [.int .i64 (IntKind.i8.wrap (t.at 0).n),.slice none 0 0,.bool false,.slice none 0 0,.slice none 0 0]))
  repeat ((first | refine qA rfl ?_|refine qB ?_|refine qC rfl ?_|refine qD ?_|refine qE ?_|refine qF ?_|refine qG ?_|refine qH ?_);try simp (maxSteps:=1000000)(disch:=(first|omega|(simp only [qI,qJ,qK]<;>omega)|exact qL _)) only [go_sem,↓reduceIte,n0,reduceCtorEq,n1,n2,n3,n4,n5,i0,i1,i2,i3,i4,i5,i6,i7,hb2,hl2,ht2,hq0,hq1,hq2,hq3])
  refine W.drawR (.take 0 (.take 1 (.take 2 (.take 3 (.take 4 (.take 5 (.only 6 (.only 7 (.take 8 (.last 9)))))))))) (NoB) mixed (by kernel_rfl) ?_
  try simp (maxSteps:=1000000)(disch:=(first|omega|(simp only [qI,qJ,qK]<;>omega)|exact qL _)) only [go_sem,↓reduceIte,n0,reduceCtorEq,n1,n2,n3,n4,n5,i0,i1,i2,i3,i4,i5,i6,i7,hb2,hl2,ht2,hq0,hq1,hq2,hq3]
  refine wp_octets (S := 9) (T := 22) (E := 5) (s := (t.at 1).s) (by kernel_rfl) (by kernel_rfl) (by kernel_rfl) (by first | rfl | simp (maxSteps:=1000000)(disch:=(first|omega|(simp only [qI,qJ,qK]<;>omega)|exact qL _)) only [go_sem,↓reduceIte,n0,reduceCtorEq,n1,n2,n3,n4,n5,i0,i1,i2,i3,i4,i5,i6,i7,hb2,hl2,ht2,hq0,hq1,hq2,hq3]) ?_
  intro a3 k3 w3 hB3 hEx3
  have hP3 : Upd NoB w2.drew w3 := (Upd.refl _ _).trans (hEx3.mono fun _ h => h.elim)
  have hsq3 := hEx3.size
  try simp only [size_drew] at hsq3
  refine ⟨hP3,?_⟩
  try simp (maxSteps:=1000000)(disch:=(first|omega|(simp only [qI,qJ,qK]<;>omega)|exact qL _)) only [go_sem,↓reduceIte,n0,reduceCtorEq,n1,n2,n3,n4,n5,i0,i1,i2,i3,i4,i5,i6,i7,hb2,hl2,ht2,hq0,hq1,hq2,hq3]
  refine ⟨hP3,?_⟩
  have hlq4 := hP3.blk_some (show blk w2.drew (w.heap.size + 1) = _ from hl2) id
  have hx4 : Upd (fun b => b = w.heap.size + 1 ∨ b = w.heap.size + 2) w2 w3 := ((Upd.refl _ _).drew).trans (hP3.mono fun _ h => h.elim)
  try simp (maxSteps:=1000000)(disch:=(first|omega|(simp only [qI,qJ,qK]<;>omega)|exact qL _)) only [go_sem,↓reduceIte,n0,reduceCtorEq,n1,n2,n3,n4,n5,i0,i1,i2,i3,i4,i5,i6,i7,hlq4]
  generalize hw4 : wr w3 (w.heap.size + 1) 5 [.int .i64 0,.slice (some a3) ((t.at 1).s).length k3,.bool false,.slice none 0 0,.slice none 0 0] = w4
  have hl4 : blk w4 (w.heap.size + 1) = some (#[.int .i64 (IntKind.i8.wrap (t.at 0).n),.slice none 0 0,.bool false,.slice none 0 0,.slice none 0 0,.int .i64 0,.slice (some a3) ((t.at 1).s).length k3,.bool false,.slice none 0 0,.slice none 0 0,.int .i64 0,.slice none 0 0,.bool false,.slice none 0 0,.slice none 0 0],26,(0,0)) := by rw [← hw4,blk_wr_eq,hlq4];rfl
  have hv4 : Upd (fun b => b = w.heap.size + 1 ∨ b = w.heap.size + 2) w3 w4 := by rw [← hw4];exact (Upd.refl _ _).wr _ _ (.inr (.inl rfl))
  have hV4 : Upd (fun b => b = w.heap.size + 1 ∨ b = w.heap.size + 2) w2 w4 := hx4.trans hv4
  have hU4 : Upd (fun b => b = w.heap.size + 1 ∨ b = w.heap.size + 2) w1 w4 := hU2.trans hV4
  have hz4 := hU4.size
  have hX4 : Ext w w4 := hE1.more hU4 fun b hb h => by omega
  have hb4 := hX4.blk_some hb id
  have ht4 : blk w4 (w.heap.size + 2) = some (#[.int .i64 0,.slice none 0 0,.bool false,.slice (some ⟨w.heap.size + 1,0,none⟩) 3 3,.slice none 0 0],26,(0,0)) := by
    rw [← hw4,blk_wr_ne (by omega)]
    exact hP3.blk_some (show blk w2.drew (w.heap.size + 2) = _ from ht2) id
  clear hw4
  have hf1 : TreeC (fun b => w1.heap.size ≤ b) w4 (.oct false (t.at 1).s) [.int .i64 0,.slice (some a3) ((t.at 1).s).length k3,.bool false,.slice none 0 0,.slice none 0 0] := (TreeC.keep (hv4.keeps fun b hb hk e => by have hk' : w1.heap.size ≤ b := hk;omega) (TreeC.intro rfl (hB3.weaken fun b _ hk => by have hk' : w2.drew.heap.size ≤ b := hk;(try simp only [size_drew] at hk');omega) (treesN _ _) (tagsN _ _) : TreeC (fun b => w1.heap.size ≤ b) w3 (.oct false (t.at 1).s) [.int .i64 0,.slice (some a3) ((t.at 1).s).length k3,.bool false,.slice none 0 0,.slice none 0 0]))
  repeat ((first | refine qA rfl ?_|refine qB ?_|refine qC rfl ?_|refine qD ?_|refine qE ?_|refine qF ?_|refine qG ?_|refine qH ?_);try simp (maxSteps:=1000000)(disch:=(first|omega|(simp only [qI,qJ,qK]<;>omega)|exact qL _)) only [go_sem,↓reduceIte,n0,reduceCtorEq,n1,n2,n3,n4,n5,i0,i1,i2,i3,i4,i5,i6,i7,hb4,hl4,ht4,hq0,hq1,hq2,hq3])
  refine W.drawR (.take 0 (.take 1 (.take 2 (.take 3 (.take 4 (.take 5 (.take 6 (.take 7 (.take 8 (.last 9)))))))))) (NoB) mixed (by kernel_rfl) ?_
  try simp (maxSteps:=1000000)(disch:=(first|omega|(simp only [qI,qJ,qK]<;>omega)|exact qL _)) only [go_sem,↓reduceIte,n0,reduceCtorEq,n1,n2,n3,n4,n5,i0,i1,i2,i3,i4,i5,i6,i7,hb4,hl4,ht4,hq0,hq1,hq2,hq3,hnn2]
  generalize hw5 : wr w4.drew (w.heap.size + 1) 12 [.bool (t.at 2).null] = w5
  have hl5 : blk w5 (w.heap.size + 1) = some (#[.int .i64 (IntKind.i8.wrap (t.at 0).n),.slice none 0 0,.bool false,.slice none 0 0,.slice none 0 0,.int .i64 0,.slice (some a3) ((t.at 1).s).length k3,.bool false,.slice none 0 0,.slice none 0 0,.int .i64 0,.slice none 0 0,.bool (t.at 2).null,.slice none 0 0,.slice none 0 0],26,(0,0)) := by rw [← hw5,blk_wr_eq,show blk w4.drew (w.heap.size + 1) = _ from hl4];rfl
  have hV5 : Upd (fun b => b = w.heap.size + 1 ∨ b = w.heap.size + 2) w4 w5 := by rw [← hw5];exact ((Upd.refl _ _).drew).wr _ _ (.inr (.inl rfl))
  have hU5 : Upd (fun b => b = w.heap.size + 1 ∨ b = w.heap.size + 2) w1 w5 := hU4.trans hV5
  have hz5 := hU5.size
  have hX5 : Ext w w5 := hE1.more hU5 fun b hb h => by omega
  have hb5 := hX5.blk_some hb id
  have ht5 : blk w5 (w.heap.size + 2) = some (#[.int .i64 0,.slice none 0 0,.bool false,.slice (some ⟨w.heap.size + 1,0,none⟩) 3 3,.slice none 0 0],26,(0,0)) := by
    rw [← hw5,blk_wr_ne (by omega)]
    exact ht4
  clear hw5
  repeat ((first | refine qA rfl ?_|refine qB ?_|refine qC rfl ?_|refine qD ?_|refine qE ?_|refine qF ?_|refine qG ?_|refine qH ?_);try simp (maxSteps:=1000000)(disch:=(first|omega|(simp only [qI,qJ,qK]<;>omega)|exact qL _)) only [go_sem,↓reduceIte,n0,reduceCtorEq,n1,n2,n3,n4,n5,i0,i1,i2,i3,i4,i5,i6,i7,hb5,hl5,ht5,hq0,hq1,hq2,hq3])
  refine W.exitJ 0 (EndQ [(0,.pointer (some ⟨b,o,none⟩)),(2,.pointer (some ⟨w.heap.size,0,none⟩)),(3,.pointer (some ⟨w.heap.size + 2,0,none⟩)),(38,.int .i64 L2.length)] (fun w' => ∃ v,blk w' (w.heap.size + 1) = some (#[.int .i64 (IntKind.i8.wrap (t.at 0).n),.slice none 0 0,.bool false,.slice none 0 0,.slice none 0 0,.int .i64 0,.slice (some a3) ((t.at 1).s).length k3,.bool false,.slice none 0 0,.slice none 0 0,.int .i64 0,.slice none 0 0,.bool (t.at 2).null,v,.slice none 0 0],26,(0,0)) ∧ GrowT (fun b => w1.heap.size ≤ b) w5.heap.size (w.heap.size + 1) w' 26 v (L2.map (tl1 (tlP d) fX0_2.of fX0_2.sub)) ∧ Upd (fun b => b = w.heap.size + 1) w5 w')) (W.loop (LoopL [(0,.pointer (some ⟨b,o,none⟩)),(2,.pointer (some ⟨w.heap.size,0,none⟩)),(3,.pointer (some ⟨w.heap.size + 2,0,none⟩)),(38,.int .i64 L2.length)] 39 (fun j w' => ∃ v,j ≤ L2.length ∧ blk w' (w.heap.size + 1) = some (#[.int .i64 (IntKind.i8.wrap (t.at 0).n),.slice none 0 0,.bool false,.slice none 0 0,.slice none 0 0,.int .i64 0,.slice (some a3) ((t.at 1).s).length k3,.bool false,.slice none 0 0,.slice none 0 0,.int .i64 0,.slice none 0 0,.bool (t.at 2).null,v,.slice none 0 0],26,(0,0)) ∧ GrowT (fun b => w1.heap.size ≤ b) w5.heap.size (w.heap.size + 1) w' 26 v ((L2.take j).map (tl1 (tlP d) fX0_2.of fX0_2.sub)) ∧ Upd (fun b => b = w.heap.size + 1) w5 w')) (fun ρ _ => L2.length - (RowKit.intOf (ρ 39)).toNat) ?_ ?_) ?_
  · exact ⟨(by simp (maxSteps:=1000000)(disch:=(first|omega|(simp only [qI,qJ,qK]<;>omega)|exact qL _)) only [go_sem,↓reduceIte,n0,reduceCtorEq,n1,n2,n3,n4,n5,i0,i1,i2,i3,i4,i5,i6,i7,Holds_nil,Holds_cons]),0,(by simp (maxSteps:=1000000)(disch:=(first|omega|(simp only [qI,qJ,qK]<;>omega)|exact qL _)) only [go_sem,↓reduceIte,n0,reduceCtorEq,n1,n2,n3,n4,n5,i0,i1,i2,i3,i4,i5,i6,i7];all_goals rfl),.slice none 0 0,Nat.zero_le _,hl5,GrowT.nil _ _ _ _ _,Upd.refl _ _⟩
  · rintro ρ w6 ⟨⟨hrc2_0,hrc2_2,hrc2_3,hrc2_38,-⟩,j,hri,v,hj,hl6,hg,hUk⟩
    have hzk := hUk.size
    have hX6 : Ext w w6 := hX5.more hUk fun b hb h => by omega
    have hz6 : w1.heap.size ≤ w6.heap.size := by have := hz5;omega
    have hb6 := hX6.blk_some hb id
    have ht6 := hUk.blk_some ht5 (by omega)
    by_cases hlt : j < L2.length
    · obtain ⟨_,be,oe,xe,ce,hbe,hoke,hxe,hble,hxs,hxx,hqe,hRe⟩ := SlR.get (size := 1) (by decide) hs2 hlt
      subst hbe
      have hcat : L2.take (j + 1) = L2.take j ++ [L2[j]] := List.take_succ_eq_append_getElem hlt
      have hgy := hgl2.2 _ (List.getElem_mem hlt)
      have hll := hgl2.1
      obtain ⟨av,kv,hvs,_⟩ := hg.shape
      have hlj : (List.map (tl1 (tlP d) fX0_2.of fX0_2.sub) (L2.take j)).length = j := by simp;omega
      rw [hlj] at hvs
      subst hvs
      have hnb : ∀ b,b < w5.heap.size ∨ w6.heap.size ≤ b → ¬ ownB (.slice av j kv) b := fun b hb h => by
        have := hg.above h
        have := hg.below h
        omega
      generalize L2[j] = y at *
      obtain rfl := Rep1_text.1 hRe
      have hqe0 : xe.1[oe + j]? = some (strV y.s) := by have := hqe 0 (by decide);rw [Nat.mul_one] at this;exact this
      repeat ((first | refine qA rfl ?_|refine qB ?_|refine qC rfl ?_|refine qD ?_|refine qE ?_|refine qF ?_|refine qG ?_|refine qH ?_);try simp (maxSteps:=1000000)(disch:=(first|omega|(simp only [qI,qJ,qK]<;>omega)|exact qL _)) only [go_sem,↓reduceIte,n0,reduceCtorEq,n1,n2,n3,n4,n5,i0,i1,i2,i3,i4,i5,i6,i7,hb6,hl6,ht6,hq0,hq1,hq2,hq3,hrc2_0,hrc2_2,hrc2_3,hrc2_38,hri])
      refine W.drawR (.only 0 (.two 1 (.only 2 (.only 3 .done)) 2 (.only 1 (.only 3 .done)))) NoB mixed (by kernel_rfl) ?_
      try simp (maxSteps:=1000000)(disch:=(first|omega|(simp only [qI,qJ,qK]<;>omega)|exact qL _)) only [go_sem,↓reduceIte,n0,reduceCtorEq,n1,n2,n3,n4,n5,i0,i1,i2,i3,i4,i5,i6,i7,hb6,hl6,ht6,hq0,hq1,hq2,hq3,hrc2_0,hrc2_2,hrc2_3,hrc2_38,hri]
      have q0 : Upd NoB w6.drew (w6.alloc (.cells #[.bool false] 4)).drew := show Upd NoB w6.drew (w6.drew.alloc (.cells #[.bool false] 4)) from Upd.alloc (Upd.refl _ _) _
      have q1 : Upd NoB w6.drew (wr (w6.alloc (.cells #[.bool false] 4)).drew w6.heap.size 0 [.bool true]) := q0.wr _ _ (.inl (Nat.le_refl _))
      have q2 : Upd NoB w6.drew (wr (wr (w6.alloc (.cells #[.bool false] 4)).drew w6.heap.size 0 [.bool true]) w6.heap.size 0 [.bool false]) := q1.wr _ _ (.inl (Nat.le_refl _))
      have q3 : Upd NoB w6.drew (wr (w6.alloc (.cells #[.bool false] 4)).drew w6.heap.size 0 [.bool false]) := q0.wr _ _ (.inl (Nat.le_refl _))
      have q4 : Upd NoB w6.drew (wr (wr (w6.alloc (.cells #[.bool false] 4)).drew w6.heap.size 0 [.bool false]) w6.heap.size 0 [.bool true]) := q3.wr _ _ (.inl (Nat.le_refl _))
      refine ⟨q0,⟨q1,q2,q2,?_⟩,⟨q3,q4,q4,?_⟩⟩
      · have hk7 : Ext w6 (wr (wr (w6.alloc (.cells #[.bool false] 4)).drew w6.heap.size 0 [.bool true]) w6.heap.size 0 [.bool false]) := ((Upd.refl _ _).drew).trans q2
        generalize (wr (wr (w6.alloc (.cells #[.bool false] 4)).drew w6.heap.size 0 [.bool true]) w6.heap.size 0 [.bool false]) = w7 at *
        have hzk7 := hk7.size
        have hX7 : Ext w w7 := hX6.trans hk7
        have hb7 := hk7.blk_some hb6 id
        have hl7 := hk7.blk_some hl6 id
        have ht7 := hk7.blk_some ht6 id
        have hxe7 := hX7.blk_some hxe id
        repeat ((first | refine qA rfl ?_|refine qB ?_|refine qC rfl ?_|refine qD ?_|refine qE ?_|refine qF ?_|refine qG ?_|refine qH ?_);try simp (maxSteps:=1000000)(disch:=(first|omega|(simp only [qI,qJ,qK]<;>omega)|exact qL _)) only [go_sem,↓reduceIte,n0,reduceCtorEq,n1,n2,n3,n4,n5,i0,i1,i2,i3,i4,i5,i6,i7,hb7,hl7,ht7,hxe7,Int.toNat_natCast,Nat.mul_one,hq0,hq1,hq2,hq3,hqe0,hrc2_0,hrc2_2,hrc2_3,hrc2_38,hri])
        refine W.drawR (.take 0 (.take 1 (.take 2 (.take 3 (.take 4 (.take 5 (.take 6 (.take 7 (.take 8 (.take 9 (.take 10 (.take 11 (.take 12 (.take 13 (.only 14 (.only 15 (.only 16 (.only 17 (.take 18 (.take 19 (.last 20))))))))))))))))))))) (ownB (.slice av j kv)) mixed (by kernel_rfl) ?_
        try simp (maxSteps:=1000000)(disch:=(first|omega|(simp only [qI,qJ,qK]<;>omega)|exact qL _ | (refine hnb _ ?_;first | omega | (simp only [World.size_alloc,size_wr,size_drew] <;> omega)))) only [go_sem,↓reduceIte,n0,reduceCtorEq,n1,n2,n3,n4,n5,i0,i1,i2,i3,i4,i5,i6,i7,hb7,hl7,ht7,hxe7,Int.toNat_natCast,Nat.mul_one,hq0,hq1,hq2,hq3,hqe0,hrc2_0,hrc2_2,hrc2_3,hrc2_38,hri]
        refine wp_octets (S := 9) (T := 22) (E := 5) (s := y.s) (by kernel_rfl) (by kernel_rfl) (by kernel_rfl) (by first | rfl | simp (maxSteps:=1000000)(disch:=(first|omega|(simp only [qI,qJ,qK]<;>omega)|exact qL _)) only [go_sem,↓reduceIte,n0,reduceCtorEq,n1,n2,n3,n4,n5,i0,i1,i2,i3,i4,i5,i6,i7,hb7,hl7,ht7,hxe7,Int.toNat_natCast,Nat.mul_one,hq0,hq1,hq2,hq3,hqe0,hrc2_0,hrc2_2,hrc2_3,hrc2_38,hri]) ?_
        intro a8 k8 w8 hB8 hEx8
        have hP8 : Upd (ownB (.slice av j kv)) w7.drew w8 := (Upd.refl _ _).trans (hEx8.mono fun _ h => h.elim)
        have hsq8 := hEx8.size
        try simp only [size_drew] at hsq8
        refine ⟨hP8,?_⟩
        try simp (maxSteps:=1000000)(disch:=(first|omega|(simp only [qI,qJ,qK]<;>omega)|exact qL _ | (refine hnb _ ?_;first | omega | (simp only [World.size_alloc,size_wr,size_drew] <;> omega)))) only [go_sem,↓reduceIte,n0,reduceCtorEq,n1,n2,n3,n4,n5,i0,i1,i2,i3,i4,i5,i6,i7,hb7,hl7,ht7,hxe7,Int.toNat_natCast,Nat.mul_one,hq0,hq1,hq2,hq3,hqe0,hrc2_0,hrc2_2,hrc2_3,hrc2_38,hri]
        refine ⟨hP8,?_⟩
        have hP9 : Upd (ownB (.slice av j kv)) w7.drew (w8.alloc (.cells #[.int .i64 0,.slice (some a8) y.s.length k8,.bool false,.slice none 0 0,.slice none 0 0] 26)) := show Upd (ownB (.slice av j kv)) w7.drew (w8.alloc (.cells #[.int .i64 0,.slice (some a8) y.s.length k8,.bool false,.slice none 0 0,.slice none 0 0] 26)) from (hP8).alloc _
        have hn9 : blk (w8.alloc (.cells #[.int .i64 0,.slice (some a8) y.s.length k8,.bool false,.slice none 0 0,.slice none 0 0] 26)) w8.heap.size = some (#[.int .i64 0,.slice (some a8) y.s.length k8,.bool false,.slice none 0 0,.slice none 0 0],26,(0,0)) := show blk (w8.alloc (.cells #[.int .i64 0,.slice (some a8) y.s.length k8,.bool false,.slice none 0 0,.slice none 0 0] 26)) w8.heap.size = some (#[.int .i64 0,.slice (some a8) y.s.length k8,.bool false,.slice none 0 0,.slice none 0 0],26,(0,0)) from blk_alloc_new rfl
        have hsq9 : (w8.alloc (.cells #[.int .i64 0,.slice (some a8) y.s.length k8,.bool false,.slice none 0 0,.slice none 0 0] 26)).heap.size = w8.heap.size + 1 := show (w8.alloc (.cells #[.int .i64 0,.slice (some a8) y.s.length k8,.bool false,.slice none 0 0,.slice none 0 0] 26)).heap.size = w8.heap.size + 1 from World.size_alloc _ _
        have hEx9 : Ext w8 (w8.alloc (.cells #[.int .i64 0,.slice (some a8) y.s.length k8,.bool false,.slice none 0 0,.slice none 0 0] 26)) := show Ext w8 (w8.alloc (.cells #[.int .i64 0,.slice (some a8) y.s.length k8,.bool false,.slice none 0 0,.slice none 0 0] 26)) from Upd.alloc (Upd.refl _ _) _
        refine ⟨hP9,?_⟩
        try simp only [List.append_nil]
        generalize (w8.alloc (.cells #[.int .i64 0,.slice (some a8) y.s.length k8,.bool false,.slice none 0 0,.slice none 0 0] 26)) = w9 at *
        try simp only [size_drew] at hsq9
        have hEw10 : Ext w6 w9 := ((hk7.drew.trans hEx8).trans hEx9)
        have hzw10 := hEw10.size
        obtain ⟨css,hown,hall⟩ := (hg.ext hEw10).ex
        have hcl := hall.1
        rw [hlj] at hcl
        have hx10 : TreeC (fun b => (fun b => w1.heap.size ≤ b) b ∧ b ≠ w.heap.size + 1 ∧ ¬ ownB (.slice av j kv) b) w9 ((tl1 (tlP d) fX0_2.of fX0_2.sub) y) [.int .i64 0,.slice (some a8) y.s.length k8,.bool false,.slice none 0 0,.slice none 0 0] := by
          exact TreeC.weaken (fun b _ hk => ⟨by omega,by omega,hnb b (.inr (by omega))⟩) (TreeC.weaken (ok' := fun b => w6.heap.size ≤ b) (fun b _ hk => by have hk' : w7.drew.heap.size ≤ b := hk;(try simp only [size_drew] at hk');omega) (TreeC.keep (Ext.keeps hEx9 _) (TreeC.intro rfl hB8 (treesN _ _) (tagsN _ _) : TreeC _ _ (.oct false y.s) [.int .i64 0,.slice (some a8) y.s.length k8,.bool false,.slice none 0 0,.slice none 0 0])))
        refine wp_append ap_23_23 (m := 1) (news := [.int .i64 0,.slice (some a8) y.s.length k8,.bool false,.slice none 0 0,.slice none 0 0]) (n := css.length) (cs := css.flatten) (v := (.slice av j kv)) ?_ rfl hown.1 (all2_flat_tree hall) (Src.blk (fr := (0,0)) (T := 26) hn9 rfl rfl) ?_ ?_ ?_
        · first | rfl | simp (maxSteps:=1000000)(disch:=(first|omega|(simp only [qI,qJ,qK]<;>omega)|exact qL _)) only [go_sem,↓reduceIte,n0,reduceCtorEq,n1,n2,n3,n4,n5,i0,i1,i2,i3,i4,i5,i6,i7]
        · omega
        · omega
        intro v' w10 ho hu hfr
        have hP10 := (hP9 : Upd (ownB (.slice av j kv)) w7.drew w9).trans hu
        have hzq10 := hP10.size
        simp only [size_drew] at hzq10
        have hlq10 := hP10.blk_some (show blk w7.drew (w.heap.size + 1) = _ from hl7) (hnb _ (.inl (by omega)))
        have hg' := GrowT.snoc hown hall hx10 hu hfr ho
        obtain ⟨va,vc,hv',_⟩ := ho.shape
        subst hv'
        have hne : ¬ ownB (.slice va (css.length + 1) vc) (w.heap.size + 1) := fun h => (hfr _ h).elim (hnb _ (.inl (by omega))) (fun h => by omega)
        refine ⟨hP10,?_⟩
        try simp (maxSteps:=1000000)(disch:=(first|omega|(simp only [qI,qJ,qK]<;>omega)|exact qL _ | (refine hnb _ ?_;first | omega | (simp only [World.size_alloc,size_wr,size_drew] <;> omega)))) only [go_sem,↓reduceIte,n0,reduceCtorEq,n1,n2,n3,n4,n5,i0,i1,i2,i3,i4,i5,i6,i7,hlq10,Int.toNat_natCast,Nat.mul_one,hrc2_0,hrc2_2,hrc2_3,hrc2_38,hri]
        repeat ((first | refine qA rfl ?_|refine qB ?_|refine qC rfl ?_|refine qD ?_|refine qE ?_|refine qF ?_|refine qG ?_|refine qH ?_);try simp (maxSteps:=1000000)(disch:=(first|omega|(simp only [qI,qJ,qK]<;>omega)|exact qL _)) only [go_sem,↓reduceIte,n0,reduceCtorEq,n1,n2,n3,n4,n5,i0,i1,i2,i3,i4,i5,i6,i7,hlq10,Int.toNat_natCast,Nat.mul_one,hrc2_0,hrc2_2,hrc2_3,hrc2_38,hri])
        refine ⟨⟨(by simp (maxSteps:=1000000)(disch:=(first|omega|(simp only [qI,qJ,qK]<;>omega)|exact qL _)) only [go_sem,↓reduceIte,n0,reduceCtorEq,n1,n2,n3,n4,n5,i0,i1,i2,i3,i4,i5,i6,i7,Holds_nil,Holds_cons,hrc2_0,hrc2_2,hrc2_3,hrc2_38,hri]),j + 1,(by simp (maxSteps:=1000000)(disch:=(first|omega|(simp only [qI,qJ,qK]<;>omega)|exact qL _)) only [go_sem,↓reduceIte,n0,reduceCtorEq,n1,n2,n3,n4,n5,i0,i1,i2,i3,i4,i5,i6,i7,hrc2_0,hrc2_2,hrc2_3,hrc2_38,hri];all_goals rfl),.slice va (css.length + 1) vc,by omega,?_,?_,?_⟩,?_⟩
        · rw [blk_wr_eq,hlq10];rfl
        · rw [hcat,List.map_append];exact hg'.upd ((Upd.refl _ _).wr _ _ (.inr rfl)) hne
        · refine Upd.wr ?_ _ _ (.inr rfl)
          exact (hUk.more ((hEw10.mono fun _ h => h.elim).trans hu) fun b hb h => absurd h (hnb b (.inl hb)))
        · try simp (maxSteps:=1000000)(disch:=(first|omega|(simp only [qI,qJ,qK]<;>omega)|exact qL _)) only [go_sem,↓reduceIte,n0,reduceCtorEq,n1,n2,n3,n4,n5,i0,i1,i2,i3,i4,i5,i6,i7,hrc2_0,hrc2_2,hrc2_3,hrc2_38,hri]
          simp only [RowKit.intOf];omega
      · have hk11 : Ext w6 (wr (wr (w6.alloc (.cells #[.bool false] 4)).drew w6.heap.size 0 [.bool false]) w6.heap.size 0 [.bool true]) := ((Upd.refl _ _).drew).trans q4
        generalize (wr (wr (w6.alloc (.cells #[.bool false] 4)).drew w6.heap.size 0 [.bool false]) w6.heap.size 0 [.bool true]) = w11 at *
        have hzk11 := hk11.size
        have hX11 : Ext w w11 := hX6.trans hk11
        have hb11 := hk11.blk_some hb6 id
        have hl11 := hk11.blk_some hl6 id
        have ht11 := hk11.blk_some ht6 id
        have hxe11 := hX11.blk_some hxe id
        repeat ((first | refine qA rfl ?_|refine qB ?_|refine qC rfl ?_|refine qD ?_|refine qE ?_|refine qF ?_|refine qG ?_|refine qH ?_);try simp (maxSteps:=1000000)(disch:=(first|omega|(simp only [qI,qJ,qK]<;>omega)|exact qL _)) only [go_sem,↓reduceIte,n0,reduceCtorEq,n1,n2,n3,n4,n5,i0,i1,i2,i3,i4,i5,i6,i7,hb11,hl11,ht11,hxe11,Int.toNat_natCast,Nat.mul_one,hq0,hq1,hq2,hq3,hqe0,hrc2_0,hrc2_2,hrc2_3,hrc2_38,hri])
        refine W.drawR (.take 0 (.take 1 (.take 2 (.take 3 (.take 4 (.take 5 (.take 6 (.take 7 (.take 8 (.take 9 (.take 10 (.take 11 (.take 14 (.two 12 (.two 13 (.only 15 (.only 16 (.take 17 (.take 18 (.last 19))))) 15 (.only 13 (.only 16 (.take 17 (.take 18 (.last 19)))))) 15 (.only 12 (.only 13 (.only 16 (.take 17 (.take 18 (.last 19)))))))))))))))))))) (ownB (.slice av j kv)) mixed (by kernel_rfl) ?_
        try simp (maxSteps:=1000000)(disch:=(first|omega|(simp only [qI,qJ,qK]<;>omega)|exact qL _ | (refine hnb _ ?_;first | omega | (simp only [World.size_alloc,size_wr,size_drew] <;> omega)))) only [go_sem,↓reduceIte,n0,reduceCtorEq,n1,n2,n3,n4,n5,i0,i1,i2,i3,i4,i5,i6,i7,hb11,hl11,ht11,hxe11,Int.toNat_natCast,Nat.mul_one,hq0,hq1,hq2,hq3,hqe0,hrc2_0,hrc2_2,hrc2_3,hrc2_38,hri]
        refine ⟨?_,?_⟩
        · skip
          refine wp_octets (S := 9) (T := 22) (E := 5) (s := y.s) (by kernel_rfl) (by kernel_rfl) (by kernel_rfl) (by first | rfl | simp (maxSteps:=1000000)(disch:=(first|omega|(simp only [qI,qJ,qK]<;>omega)|exact qL _)) only [go_sem,↓reduceIte,n0,reduceCtorEq,n1,n2,n3,n4,n5,i0,i1,i2,i3,i4,i5,i6,i7,hb11,hl11,ht11,hxe11,Int.toNat_natCast,Nat.mul_one,hq0,hq1,hq2,hq3,hqe0,hrc2_0,hrc2_2,hrc2_3,hrc2_38,hri]) ?_
          intro a12 k12 w12 hB12 hEx12
          have hP12 : Upd (ownB (.slice av j kv)) w11.drew w12 := (Upd.refl _ _).trans (hEx12.mono fun _ h => h.elim)
          have hsq12 := hEx12.size
          try simp only [size_drew] at hsq12
          refine ⟨hP12,?_⟩
          try simp (maxSteps:=1000000)(disch:=(first|omega|(simp only [qI,qJ,qK]<;>omega)|exact qL _ | (refine hnb _ ?_;first | omega | (simp only [World.size_alloc,size_wr,size_drew] <;> omega)))) only [go_sem,↓reduceIte,n0,reduceCtorEq,n1,n2,n3,n4,n5,i0,i1,i2,i3,i4,i5,i6,i7,hb11,hl11,ht11,hxe11,Int.toNat_natCast,Nat.mul_one,hq0,hq1,hq2,hq3,hqe0,hrc2_0,hrc2_2,hrc2_3,hrc2_38,hri]
          refine ⟨?_,?_⟩
          · skip
            refine ⟨hP12,?_⟩
            have hP13 : Upd (ownB (.slice av j kv)) w11.drew (w12.alloc (.cells #[.int .i64 0,.slice none 0 0,.bool false,.slice none 0 0,.slice none 0 0] 26)) := show Upd (ownB (.slice av j kv)) w11.drew (w12.alloc (.cells #[.int .i64 0,.slice none 0 0,.bool false,.slice none 0 0,.slice none 0 0] 26)) from (hP12).alloc _
            have hn13 : blk (w12.alloc (.cells #[.int .i64 0,.slice none 0 0,.bool false,.slice none 0 0,.slice none 0 0] 26)) w12.heap.size = some (#[.int .i64 0,.slice none 0 0,.bool false,.slice none 0 0,.slice none 0 0],26,(0,0)) := show blk (w12.alloc (.cells #[.int .i64 0,.slice none 0 0,.bool false,.slice none 0 0,.slice none 0 0] 26)) w12.heap.size = some (#[.int .i64 0,.slice none 0 0,.bool false,.slice none 0 0,.slice none 0 0],26,(0,0)) from blk_alloc_new rfl
            have hsq13 : (w12.alloc (.cells #[.int .i64 0,.slice none 0 0,.bool false,.slice none 0 0,.slice none 0 0] 26)).heap.size = w12.heap.size + 1 := show (w12.alloc (.cells #[.int .i64 0,.slice none 0 0,.bool false,.slice none 0 0,.slice none 0 0] 26)).heap.size = w12.heap.size + 1 from World.size_alloc _ _
            have hEx13 : Ext w12 (w12.alloc (.cells #[.int .i64 0,.slice none 0 0,.bool false,.slice none 0 0,.slice none 0 0] 26)) := show Ext w12 (w12.alloc (.cells #[.int .i64 0,.slice none 0 0,.bool false,.slice none 0 0,.slice none 0 0] 26)) from Upd.alloc (Upd.refl _ _) _
            refine ⟨hP13,?_⟩
            try simp only [List.append_nil]
            generalize (w12.alloc (.cells #[.int .i64 0,.slice none 0 0,.bool false,.slice none 0 0,.slice none 0 0] 26)) = w13 at *
            try simp only [size_drew] at hsq13
            have hEw14 : Ext w6 w13 := ((hk11.drew.trans hEx12).trans hEx13)
            have hzw14 := hEw14.size
            obtain ⟨css,hown,hall⟩ := (hg.ext hEw14).ex
            have hcl := hall.1
            rw [hlj] at hcl
            have hx14 : TreeC (fun b => (fun b => w1.heap.size ≤ b) b ∧ b ≠ w.heap.size + 1 ∧ ¬ ownB (.slice av j kv) b) w13 ((tl1 (tlP d) fX0_2.of fX0_2.sub) y) [.int .i64 0,.slice (some a12) y.s.length k12,.bool false,.slice none 0 0,.slice none 0 0] := by
              exact TreeC.weaken (fun b _ hk => ⟨by omega,by omega,hnb b (.inr (by omega))⟩) (TreeC.weaken (ok' := fun b => w6.heap.size ≤ b) (fun b _ hk => by have hk' : w11.drew.heap.size ≤ b := hk;(try simp only [size_drew] at hk');omega) (TreeC.keep (Ext.keeps hEx13 _) (TreeC.intro rfl hB12 (treesN _ _) (tagsN _ _) : TreeC _ _ (.oct false y.s) [.int .i64 0,.slice (some a12) y.s.length k12,.bool false,.slice none 0 0,.slice none 0 0])))
            refine wp_append ap_23_23 (m := 1) (news := [.int .i64 0,.slice none 0 0,.bool false,.slice none 0 0,.slice none 0 0]) (n := css.length) (cs := css.flatten) (v := (.slice av j kv)) ?_ rfl hown.1 (all2_flat_tree hall) (Src.blk (fr := (0,0)) (T := 26) hn13 rfl rfl) ?_ ?_ ?_
            · first | rfl | simp (maxSteps:=1000000)(disch:=(first|omega|(simp only [qI,qJ,qK]<;>omega)|exact qL _)) only [go_sem,↓reduceIte,n0,reduceCtorEq,n1,n2,n3,n4,n5,i0,i1,i2,i3,i4,i5,i6,i7]
            · omega
            · omega
            intro v' w14 ho hu hfr
            have hP14 := (hP13 : Upd (ownB (.slice av j kv)) w11.drew w13).trans hu
            have hzq14 := hP14.size
            simp only [size_drew] at hzq14
            have hlq14 := hP14.blk_some (show blk w11.drew (w.heap.size + 1) = _ from hl11) (hnb _ (.inl (by omega)))
            rcases ho.2 with ⟨_,h⟩ | ⟨g,cap,rest,fr,hv',hg',hbg,hlen,hth,hle⟩
            · exact absurd h (Nat.succ_ne_zero _)
            subst hv'
            have hgne : ¬ g = w.heap.size + 1 := fun h => (hfr g ⟨_,_,_,rfl,rfl⟩).elim (fun h' => hnb _ (.inl (by omega)) (h ▸ h')) (fun h' => by omega)
            have hfl : css.flatten.length = css.length * 5 := flatten_len hown.2
            have hlen2 : (css.flatten ++ ([.int .i64 0,.slice none 0 0,.bool false,.slice none 0 0,.slice none 0 0] : List Value) ++ rest).length = cap * 5 := by simp only [List.length_append] at hlen ⊢;omega
            obtain ⟨XX,hXX⟩ : ∃ X : Array Value,X = (css.flatten ++ ([.int .i64 0,.slice none 0 0,.bool false,.slice none 0 0,.slice none 0 0] : List Value) ++ rest).toArray := ⟨_,rfl⟩
            have hbgX : blk w14 g = some (XX,26,fr) := by rw [hXX];exact hbg
            have hXsz : XX.size = cap * 5 := by rw [hXX,List.size_toArray];exact hlen2
            have hth2 : thaw fr (css.length * 5) 5 = true := thaw_of hth (by omega)
            have hst : css.length * 5 + 5 ≤ XX.size := by omega
            have hset := Own.setlast (cs := [.int .i64 0,.slice (some a12) y.s.length k12,.bool false,.slice none 0 0,.slice none 0 0]) ho rfl rfl
            have hu2 : Upd (ownB (.slice av j kv)) w13 (wr w14 g (css.length * 5) [.int .i64 0,.slice (some a12) y.s.length k12,.bool false,.slice none 0 0,.slice none 0 0]) := hu.wr _ _ ((hfr g ⟨_,_,_,rfl,rfl⟩).symm)
            have hg2 := GrowT.snoc hown hall hx14 hu2 hfr hset
            have hcj : css.length = j := by first | exact hcl.symm.trans hlj | omega
            simp only [hcj] at hth2 hst hset hu2 hg2
            refine ⟨hP14,?_⟩
            try simp (maxSteps:=1000000)(disch:=(first|omega|(simp only [qI,qJ,qK]<;>omega)|exact qL _ | (refine hnb _ ?_;first | omega | (simp only [World.size_alloc,size_wr,size_drew] <;> omega)))) only [go_sem,↓reduceIte,n0,reduceCtorEq,n1,n2,n3,n4,n5,i0,i1,i2,i3,i4,i5,i6,i7,hlq14,hbgX,hth2,hst,hcj,Int.toNat_natCast,Nat.mul_one,hrc2_0,hrc2_2,hrc2_3,hrc2_38,hri]
            repeat ((first | refine qA rfl ?_|refine qB ?_|refine qC rfl ?_|refine qD ?_|refine qE ?_|refine qF ?_|refine qG ?_|refine qH ?_);try simp (maxSteps:=1000000)(disch:=(first|omega|(simp only [qI,qJ,qK]<;>omega)|exact qL _)) only [go_sem,↓reduceIte,n0,reduceCtorEq,n1,n2,n3,n4,n5,i0,i1,i2,i3,i4,i5,i6,i7,hlq14,hbgX,hth2,hst,hcj,Int.toNat_natCast,Nat.mul_one,hrc2_0,hrc2_2,hrc2_3,hrc2_38,hri])
            refine ⟨⟨(by simp (maxSteps:=1000000)(disch:=(first|omega|(simp only [qI,qJ,qK]<;>omega)|exact qL _)) only [go_sem,↓reduceIte,n0,reduceCtorEq,n1,n2,n3,n4,n5,i0,i1,i2,i3,i4,i5,i6,i7,Holds_nil,Holds_cons,hrc2_0,hrc2_2,hrc2_3,hrc2_38,hri]),j + 1,(by simp (maxSteps:=1000000)(disch:=(first|omega|(simp only [qI,qJ,qK]<;>omega)|exact qL _)) only [go_sem,↓reduceIte,n0,reduceCtorEq,n1,n2,n3,n4,n5,i0,i1,i2,i3,i4,i5,i6,i7,hrc2_0,hrc2_2,hrc2_3,hrc2_38,hri];all_goals rfl),.slice (some ⟨g,0,none⟩) (j + 1) cap,by omega,?_,?_,?_⟩,?_⟩
            · rw [blk_wr_ne (by omega),blk_wr_eq,hlq14];rfl
            · rw [hcat,List.map_append,wr_comm (Ne.symm hgne)]
              exact hg2.upd ((Upd.refl _ _).wr _ _ (.inr rfl)) (fun h => hgne (ownB_row h).symm)
            · rw [wr_comm (Ne.symm hgne)]
              refine Upd.wr ?_ _ _ (.inr rfl)
              exact (hUk.more ((hEw14.mono fun _ h => h.elim).trans hu2) fun b hb h => absurd h (hnb b (.inl hb)))
            · try simp (maxSteps:=1000000)(disch:=(first|omega|(simp only [qI,qJ,qK]<;>omega)|exact qL _)) only [go_sem,↓reduceIte,n0,reduceCtorEq,n1,n2,n3,n4,n5,i0,i1,i2,i3,i4,i5,i6,i7,hrc2_0,hrc2_2,hrc2_3,hrc2_38,hri]
              simp only [RowKit.intOf];omega
          · skip
            have hP15 : Upd (ownB (.slice av j kv)) w11.drew (w12.alloc (.cells #[.int .i64 0,.slice none 0 0,.bool false,.slice none 0 0,.slice none 0 0] 26)) := show Upd (ownB (.slice av j kv)) w11.drew (w12.alloc (.cells #[.int .i64 0,.slice none 0 0,.bool false,.slice none 0 0,.slice none 0 0] 26)) from (hP12).alloc _
            have hn15 : blk (w12.alloc (.cells #[.int .i64 0,.slice none 0 0,.bool false,.slice none 0 0,.slice none 0 0] 26)) w12.heap.size = some (#[.int .i64 0,.slice none 0 0,.bool false,.slice none 0 0,.slice none 0 0],26,(0,0)) := show blk (w12.alloc (.cells #[.int .i64 0,.slice none 0 0,.bool false,.slice none 0 0,.slice none 0 0] 26)) w12.heap.size = some (#[.int .i64 0,.slice none 0 0,.bool false,.slice none 0 0,.slice none 0 0],26,(0,0)) from blk_alloc_new rfl
            have hsq15 : (w12.alloc (.cells #[.int .i64 0,.slice none 0 0,.bool false,.slice none 0 0,.slice none 0 0] 26)).heap.size = w12.heap.size + 1 := show (w12.alloc (.cells #[.int .i64 0,.slice none 0 0,.bool false,.slice none 0 0,.slice none 0 0] 26)).heap.size = w12.heap.size + 1 from World.size_alloc _ _
            have hEx15 : Ext w12 (w12.alloc (.cells #[.int .i64 0,.slice none 0 0,.bool false,.slice none 0 0,.slice none 0 0] 26)) := show Ext w12 (w12.alloc (.cells #[.int .i64 0,.slice none 0 0,.bool false,.slice none 0 0,.slice none 0 0] 26)) from Upd.alloc (Upd.refl _ _) _
            refine ⟨hP15,?_⟩
            try simp only [List.append_nil]
            generalize (w12.alloc (.cells #[.int .i64 0,.slice none 0 0,.bool false,.slice none 0 0,.slice none 0 0] 26)) = w15 at *
            try simp only [size_drew] at hsq15
            refine ⟨hP15,?_⟩
            have hEw16 : Ext w6 w15 := ((hk11.drew.trans hEx12).trans hEx15)
            have hzw16 := hEw16.size
            obtain ⟨css,hown,hall⟩ := (hg.ext hEw16).ex
            have hcl := hall.1
            rw [hlj] at hcl
            have hx16 : TreeC (fun b => (fun b => w1.heap.size ≤ b) b ∧ b ≠ w.heap.size + 1 ∧ ¬ ownB (.slice av j kv) b) w15 ((tl1 (tlP d) fX0_2.of fX0_2.sub) y) [.int .i64 0,.slice (some a12) y.s.length k12,.bool false,.slice none 0 0,.slice none 0 0] := by
              exact TreeC.weaken (fun b _ hk => ⟨by omega,by omega,hnb b (.inr (by omega))⟩) (TreeC.weaken (ok' := fun b => w6.heap.size ≤ b) (fun b _ hk => by have hk' : w11.drew.heap.size ≤ b := hk;(try simp only [size_drew] at hk');omega) (TreeC.keep (Ext.keeps hEx15 _) (TreeC.intro rfl hB12 (treesN _ _) (tagsN _ _) : TreeC _ _ (.oct false y.s) [.int .i64 0,.slice (some a12) y.s.length k12,.bool false,.slice none 0 0,.slice none 0 0])))
            refine wp_append ap_23_23 (m := 1) (news := [.int .i64 0,.slice none 0 0,.bool false,.slice none 0 0,.slice none 0 0]) (n := css.length) (cs := css.flatten) (v := (.slice av j kv)) ?_ rfl hown.1 (all2_flat_tree hall) (Src.blk (fr := (0,0)) (T := 26) hn15 rfl rfl) ?_ ?_ ?_
            · first | rfl | simp (maxSteps:=1000000)(disch:=(first|omega|(simp only [qI,qJ,qK]<;>omega)|exact qL _)) only [go_sem,↓reduceIte,n0,reduceCtorEq,n1,n2,n3,n4,n5,i0,i1,i2,i3,i4,i5,i6,i7]
            · omega
            · omega
            intro v' w16 ho hu hfr
            have hP16 := (hP15 : Upd (ownB (.slice av j kv)) w11.drew w15).trans hu
            have hzq16 := hP16.size
            simp only [size_drew] at hzq16
            have hlq16 := hP16.blk_some (show blk w11.drew (w.heap.size + 1) = _ from hl11) (hnb _ (.inl (by omega)))
            rcases ho.2 with ⟨_,h⟩ | ⟨g,cap,rest,fr,hv',hg',hbg,hlen,hth,hle⟩
            · exact absurd h (Nat.succ_ne_zero _)
            subst hv'
            have hgne : ¬ g = w.heap.size + 1 := fun h => (hfr g ⟨_,_,_,rfl,rfl⟩).elim (fun h' => hnb _ (.inl (by omega)) (h ▸ h')) (fun h' => by omega)
            have hfl : css.flatten.length = css.length * 5 := flatten_len hown.2
            have hlen2 : (css.flatten ++ ([.int .i64 0,.slice none 0 0,.bool false,.slice none 0 0,.slice none 0 0] : List Value) ++ rest).length = cap * 5 := by simp only [List.length_append] at hlen ⊢;omega
            obtain ⟨XX,hXX⟩ : ∃ X : Array Value,X = (css.flatten ++ ([.int .i64 0,.slice none 0 0,.bool false,.slice none 0 0,.slice none 0 0] : List Value) ++ rest).toArray := ⟨_,rfl⟩
            have hbgX : blk w16 g = some (XX,26,fr) := by rw [hXX];exact hbg
            have hXsz : XX.size = cap * 5 := by rw [hXX,List.size_toArray];exact hlen2
            have hth2 : thaw fr (css.length * 5) 5 = true := thaw_of hth (by omega)
            have hst : css.length * 5 + 5 ≤ XX.size := by omega
            have hset := Own.setlast (cs := [.int .i64 0,.slice (some a12) y.s.length k12,.bool false,.slice none 0 0,.slice none 0 0]) ho rfl rfl
            have hu2 : Upd (ownB (.slice av j kv)) w15 (wr w16 g (css.length * 5) [.int .i64 0,.slice (some a12) y.s.length k12,.bool false,.slice none 0 0,.slice none 0 0]) := hu.wr _ _ ((hfr g ⟨_,_,_,rfl,rfl⟩).symm)
            have hg2 := GrowT.snoc hown hall hx16 hu2 hfr hset
            have hcj : css.length = j := by first | exact hcl.symm.trans hlj | omega
            simp only [hcj] at hth2 hst hset hu2 hg2
            refine ⟨hP16,?_⟩
            try simp (maxSteps:=1000000)(disch:=(first|omega|(simp only [qI,qJ,qK]<;>omega)|exact qL _ | (refine hnb _ ?_;first | omega | (simp only [World.size_alloc,size_wr,size_drew] <;> omega)))) only [go_sem,↓reduceIte,n0,reduceCtorEq,n1,n2,n3,n4,n5,i0,i1,i2,i3,i4,i5,i6,i7,hlq16,hbgX,hth2,hst,hcj,Int.toNat_natCast,Nat.mul_one,hrc2_0,hrc2_2,hrc2_3,hrc2_38,hri]
            repeat ((first | refine qA rfl ?_|refine qB ?_|refine qC rfl ?_|refine qD ?_|refine qE ?_|refine qF ?_|refine qG ?_|refine qH ?_);try simp (maxSteps:=1000000)(disch:=(first|omega|(simp only [qI,qJ,qK]<;>omega)|exact qL _)) only [go_sem,↓reduceIte,n0,reduceCtorEq,n1,n2,n3,n4,n5,i0,i1,i2,i3,i4,i5,i6,i7,hlq16,hbgX,hth2,hst,hcj,Int.toNat_natCast,Nat.mul_one,hrc2_0,hrc2_2,hrc2_3,hrc2_38,hri])
            refine ⟨⟨(by simp (maxSteps:=1000000)(disch:=(first|omega|(simp only [qI,qJ,qK]<;>omega)|exact qL _)) only [go_sem,↓reduceIte,n0,reduceCtorEq,n1,n2,n3,n4,n5,i0,i1,i2,i3,i4,i5,i6,i7,Holds_nil,Holds_cons,hrc2_0,hrc2_2,hrc2_3,hrc2_38,hri]),j + 1,(by simp (maxSteps:=1000000)(disch:=(first|omega|(simp only [qI,qJ,qK]<;>omega)|exact qL _)) only [go_sem,↓reduceIte,n0,reduceCtorEq,n1,n2,n3,n4,n5,i0,i1,i2,i3,i4,i5,i6,i7,hrc2_0,hrc2_2,hrc2_3,hrc2_38,hri];all_goals rfl),.slice (some ⟨g,0,none⟩) (j + 1) cap,by omega,?_,?_,?_⟩,?_⟩
            · rw [blk_wr_ne (by omega),blk_wr_eq,hlq16];rfl
            · rw [hcat,List.map_append,wr_comm (Ne.symm hgne)]
              exact hg2.upd ((Upd.refl _ _).wr _ _ (.inr rfl)) (fun h => hgne (ownB_row h).symm)
            · rw [wr_comm (Ne.symm hgne)]
              refine Upd.wr ?_ _ _ (.inr rfl)
              exact (hUk.more ((hEw16.mono fun _ h => h.elim).trans hu2) fun b hb h => absurd h (hnb b (.inl hb)))
            · try simp (maxSteps:=1000000)(disch:=(first|omega|(simp only [qI,qJ,qK]<;>omega)|exact qL _)) only [go_sem,↓reduceIte,n0,reduceCtorEq,n1,n2,n3,n4,n5,i0,i1,i2,i3,i4,i5,i6,i7,hrc2_0,hrc2_2,hrc2_3,hrc2_38,hri]
              simp only [RowKit.intOf];omega
        · skip
          have hP17 : Upd (ownB (.slice av j kv)) w11.drew (w11.alloc (.cells #[.int .i64 0,.slice none 0 0,.bool false,.slice none 0 0,.slice none 0 0] 26)).drew := show Upd (ownB (.slice av j kv)) w11.drew (w11.drew.alloc (.cells #[.int .i64 0,.slice none 0 0,.bool false,.slice none 0 0,.slice none 0 0] 26)) from (Upd.refl _ _).alloc _
          have hn17 : blk (w11.alloc (.cells #[.int .i64 0,.slice none 0 0,.bool false,.slice none 0 0,.slice none 0 0] 26)).drew w11.drew.heap.size = some (#[.int .i64 0,.slice none 0 0,.bool false,.slice none 0 0,.slice none 0 0],26,(0,0)) := show blk (w11.drew.alloc (.cells #[.int .i64 0,.slice none 0 0,.bool false,.slice none 0 0,.slice none 0 0] 26)) w11.drew.heap.size = some (#[.int .i64 0,.slice none 0 0,.bool false,.slice none 0 0,.slice none 0 0],26,(0,0)) from blk_alloc_new rfl
          have hsq17 : (w11.alloc (.cells #[.int .i64 0,.slice none 0 0,.bool false,.slice none 0 0,.slice none 0 0] 26)).drew.heap.size = w11.drew.heap.size + 1 := show (w11.drew.alloc (.cells #[.int .i64 0,.slice none 0 0,.bool false,.slice none 0 0,.slice none 0 0] 26)).heap.size = w11.drew.heap.size + 1 from World.size_alloc _ _
          have hEx17 : Ext w11.drew (w11.alloc (.cells #[.int .i64 0,.slice none 0 0,.bool false,.slice none 0 0,.slice none 0 0] 26)).drew := show Ext w11.drew (w11.drew.alloc (.cells #[.int .i64 0,.slice none 0 0,.bool false,.slice none 0 0,.slice none 0 0] 26)) from Upd.alloc (Upd.refl _ _) _
          refine ⟨hP17,?_⟩
          try simp only [List.append_nil]
          generalize (w11.alloc (.cells #[.int .i64 0,.slice none 0 0,.bool false,.slice none 0 0,.slice none 0 0] 26)).drew = w17 at *
          try simp only [size_drew] at hsq17
          refine wp_octets (S := 9) (T := 22) (E := 5) (s := y.s) (by kernel_rfl) (by kernel_rfl) (by kernel_rfl) (by first | rfl | simp (maxSteps:=1000000)(disch:=(first|omega|(simp only [qI,qJ,qK]<;>omega)|exact qL _)) only [go_sem,↓reduceIte,n0,reduceCtorEq,n1,n2,n3,n4,n5,i0,i1,i2,i3,i4,i5,i6,i7,hb11,hl11,ht11,hxe11,Int.toNat_natCast,Nat.mul_one,hq0,hq1,hq2,hq3,hqe0,hrc2_0,hrc2_2,hrc2_3,hrc2_38,hri]) ?_
          intro a18 k18 w18 hB18 hEx18
          have hP18 : Upd (ownB (.slice av j kv)) w11.drew w18 := (hP17).trans (hEx18.mono fun _ h => h.elim)
          have hsq18 := hEx18.size
          try simp only [size_drew] at hsq18
          refine ⟨hP18,?_⟩
          try simp (maxSteps:=1000000)(disch:=(first|omega|(simp only [qI,qJ,qK]<;>omega)|exact qL _ | (refine hnb _ ?_;first | omega | (simp only [World.size_alloc,size_wr,size_drew] <;> omega)))) only [go_sem,↓reduceIte,n0,reduceCtorEq,n1,n2,n3,n4,n5,i0,i1,i2,i3,i4,i5,i6,i7,hb11,hl11,ht11,hxe11,Int.toNat_natCast,Nat.mul_one,hq0,hq1,hq2,hq3,hqe0,hrc2_0,hrc2_2,hrc2_3,hrc2_38,hri]
          refine ⟨hP18,?_⟩
          have hEw19 : Ext w6 w18 := ((hk11.drew.trans hEx17).trans hEx18)
          have hzw19 := hEw19.size
          obtain ⟨css,hown,hall⟩ := (hg.ext hEw19).ex
          have hcl := hall.1
          rw [hlj] at hcl
          have hx19 : TreeC (fun b => (fun b => w1.heap.size ≤ b) b ∧ b ≠ w.heap.size + 1 ∧ ¬ ownB (.slice av j kv) b) w18 ((tl1 (tlP d) fX0_2.of fX0_2.sub) y) [.int .i64 0,.slice (some a18) y.s.length k18,.bool false,.slice none 0 0,.slice none 0 0] := by
            exact TreeC.weaken (fun b _ hk => ⟨by omega,by omega,hnb b (.inr (by omega))⟩) (TreeC.intro rfl hB18 (treesN _ _) (tagsN _ _) : TreeC _ _ (.oct false y.s) [.int .i64 0,.slice (some a18) y.s.length k18,.bool false,.slice none 0 0,.slice none 0 0])
          refine wp_append ap_23_23 (m := 1) (news := [.int .i64 0,.slice none 0 0,.bool false,.slice none 0 0,.slice none 0 0]) (n := css.length) (cs := css.flatten) (v := (.slice av j kv)) ?_ rfl hown.1 (all2_flat_tree hall) (Src.blk (fr := (0,0)) (T := 26) (hEx18.blk_some hn17 id) rfl rfl) ?_ ?_ ?_
          · first | rfl | simp (maxSteps:=1000000)(disch:=(first|omega|(simp only [qI,qJ,qK]<;>omega)|exact qL _)) only [go_sem,↓reduceIte,n0,reduceCtorEq,n1,n2,n3,n4,n5,i0,i1,i2,i3,i4,i5,i6,i7]
          · omega
          · omega
          intro v' w19 ho hu hfr
          have hP19 := (hP18 : Upd (ownB (.slice av j kv)) w11.drew w18).trans hu
          have hzq19 := hP19.size
          simp only [size_drew] at hzq19
          have hlq19 := hP19.blk_some (show blk w11.drew (w.heap.size + 1) = _ from hl11) (hnb _ (.inl (by omega)))
          rcases ho.2 with ⟨_,h⟩ | ⟨g,cap,rest,fr,hv',hg',hbg,hlen,hth,hle⟩
          · exact absurd h (Nat.succ_ne_zero _)
          subst hv'
          have hgne : ¬ g = w.heap.size + 1 := fun h => (hfr g ⟨_,_,_,rfl,rfl⟩).elim (fun h' => hnb _ (.inl (by omega)) (h ▸ h')) (fun h' => by omega)
          have hfl : css.flatten.length = css.length * 5 := flatten_len hown.2
          have hlen2 : (css.flatten ++ ([.int .i64 0,.slice none 0 0,.bool false,.slice none 0 0,.slice none 0 0] : List Value) ++ rest).length = cap * 5 := by simp only [List.length_append] at hlen ⊢;omega
          obtain ⟨XX,hXX⟩ : ∃ X : Array Value,X = (css.flatten ++ ([.int .i64 0,.slice none 0 0,.bool false,.slice none 0 0,.slice none 0 0] : List Value) ++ rest).toArray := ⟨_,rfl⟩
          have hbgX : blk w19 g = some (XX,26,fr) := by rw [hXX];exact hbg
          have hXsz : XX.size = cap * 5 := by rw [hXX,List.size_toArray];exact hlen2
          have hth2 : thaw fr (css.length * 5) 5 = true := thaw_of hth (by omega)
          have hst : css.length * 5 + 5 ≤ XX.size := by omega
          have hset := Own.setlast (cs := [.int .i64 0,.slice (some a18) y.s.length k18,.bool false,.slice none 0 0,.slice none 0 0]) ho rfl rfl
          have hu2 : Upd (ownB (.slice av j kv)) w18 (wr w19 g (css.length * 5) [.int .i64 0,.slice (some a18) y.s.length k18,.bool false,.slice none 0 0,.slice none 0 0]) := hu.wr _ _ ((hfr g ⟨_,_,_,rfl,rfl⟩).symm)
          have hg2 := GrowT.snoc hown hall hx19 hu2 hfr hset
          have hcj : css.length = j := by first | exact hcl.symm.trans hlj | omega
          simp only [hcj] at hth2 hst hset hu2 hg2
          refine ⟨hP19,?_⟩
          try simp (maxSteps:=1000000)(disch:=(first|omega|(simp only [qI,qJ,qK]<;>omega)|exact qL _ | (refine hnb _ ?_;first | omega | (simp only [World.size_alloc,size_wr,size_drew] <;> omega)))) only [go_sem,↓reduceIte,n0,reduceCtorEq,n1,n2,n3,n4,n5,i0,i1,i2,i3,i4,i5,i6,i7,hlq19,hbgX,hth2,hst,hcj,Int.toNat_natCast,Nat.mul_one,hrc2_0,hrc2_2,hrc2_3,hrc2_38,hri]
          repeat ((first | refine qA rfl ?_|refine qB ?_|refine qC rfl ?_|refine qD ?_|refine qE ?_|refine qF ?_|refine qG ?_|refine qH ?_);try simp (maxSteps:=1000000)(disch:=(first|omega|(simp only [qI,qJ,qK]<;>omega)|exact qL _)) only [go_sem,↓reduceIte,n0,reduceCtorEq,n1,n2,n3,n4,n5,i0,i1,i2,i3,i4,i5,i6,i7,hlq19,hbgX,hth2,hst,hcj,Int.toNat_natCast,Nat.mul_one,hrc2_0,hrc2_2,hrc2_3,hrc2_38,hri])
          refine ⟨⟨(by simp (maxSteps:=1000000)(disch:=(first|omega|(simp only [qI,qJ,qK]<;>omega)|exact qL _)) only [go_sem,↓reduceIte,n0,reduceCtorEq,n1,n2,n3,n4,n5,i0,i1,i2,i3,i4,i5,i6,i7,Holds_nil,Holds_cons,hrc2_0,hrc2_2,hrc2_3,hrc2_38,hri]),j + 1,(by simp (maxSteps:=1000000)(disch:=(first|omega|(simp only [qI,qJ,qK]<;>omega)|exact qL _)) only [go_sem,↓reduceIte,n0,reduceCtorEq,n1,n2,n3,n4,n5,i0,i1,i2,i3,i4,i5,i6,i7,hrc2_0,hrc2_2,hrc2_3,hrc2_38,hri];all_goals rfl),.slice (some ⟨g,0,none⟩) (j + 1) cap,by omega,?_,?_,?_⟩,?_⟩
          · rw [blk_wr_ne (by omega),blk_wr_eq,hlq19];rfl
          · rw [hcat,List.map_append,wr_comm (Ne.symm hgne)]
            exact hg2.upd ((Upd.refl _ _).wr _ _ (.inr rfl)) (fun h => hgne (ownB_row h).symm)
          · rw [wr_comm (Ne.symm hgne)]
            refine Upd.wr ?_ _ _ (.inr rfl)
            exact (hUk.more ((hEw19.mono fun _ h => h.elim).trans hu2) fun b hb h => absurd h (hnb b (.inl hb)))
          · try simp (maxSteps:=1000000)(disch:=(first|omega|(simp only [qI,qJ,qK]<;>omega)|exact qL _)) only [go_sem,↓reduceIte,n0,reduceCtorEq,n1,n2,n3,n4,n5,i0,i1,i2,i3,i4,i5,i6,i7,hrc2_0,hrc2_2,hrc2_3,hrc2_38,hri]
            simp only [RowKit.intOf];omega
    · have hjn : j = L2.length := by omega
      subst hjn
      rw [List.take_length] at hg
      repeat ((first | refine qA rfl ?_|refine qB ?_|refine qC rfl ?_|refine qD ?_|refine qE ?_|refine qF ?_|refine qG ?_|refine qH ?_);try simp (maxSteps:=1000000)(disch:=(first|omega|(simp only [qI,qJ,qK]<;>omega)|exact qL _)) only [go_sem,↓reduceIte,n0,reduceCtorEq,n1,n2,n3,n4,n5,i0,i1,i2,i3,i4,i5,i6,i7,hrc2_0,hrc2_2,hrc2_3,hrc2_38,hri])
      exact ⟨(by simp (maxSteps:=1000000)(disch:=(first|omega|(simp only [qI,qJ,qK]<;>omega)|exact qL _)) only [go_sem,↓reduceIte,n0,reduceCtorEq,n1,n2,n3,n4,n5,i0,i1,i2,i3,i4,i5,i6,i7,Holds_nil,Holds_cons,hrc2_0,hrc2_2,hrc2_3,hrc2_38,hri]),v,hl6,hg,hUk⟩
  rintro ρ w20 ⟨⟨hrd2_0,hrd2_2,hrd2_3,hrd2_38,-⟩,v,hl20,hg20,hUz20⟩
  have hV20 : Upd (fun b => b = w.heap.size + 1 ∨ b = w.heap.size + 2) w5 w20 := hUz20.mono fun _ h => .inl h
  have hU20 : Upd (fun b => b = w.heap.size + 1 ∨ b = w.heap.size + 2) w1 w20 := hU5.trans hV20
  have hz20 := hU20.size
  have hX20 : Ext w w20 := hE1.more hU20 fun b hb h => by omega
  have hb20 := hX20.blk_some hb id
  have ht20 := hUz20.blk_some ht5 (by omega)
  obtain ⟨av2,kv2,hvs,_⟩ := hg20.shape
  subst hvs
  have hf2 : TreeC (fun b => w1.heap.size ≤ b) w20 (.mk 0 [] (t.at 2).null (L2.map (tl1 (tlP d) fX0_2.of fX0_2.sub)) []) [.int .i64 0,.slice none 0 0,.bool (t.at 2).null,.slice av2 (List.map (tl1 (tlP d) fX0_2.of fX0_2.sub) L2).length kv2,.slice none 0 0] := TreeC.intro rfl (BytesV.nil _ _) (hg20.trees (fun _ _ h => h) (fun b hb => by have := hz5;omega)) (tagsN _ _)
  repeat ((first | refine qA rfl ?_|refine qB ?_|refine qC rfl ?_|refine qD ?_|refine qE ?_|refine qF ?_|refine qG ?_|refine qH ?_);try simp (maxSteps:=1000000)(disch:=(first|omega|(simp only [qI,qJ,qK]<;>omega)|exact qL _)) only [go_sem,↓reduceIte,n0,reduceCtorEq,n1,n2,n3,n4,n5,i0,i1,i2,i3,i4,i5,i6,i7,hb20,hl20,ht20,hq0,hq1,hq2,hq3,hrd2_0,hrd2_2,hrd2_3])
  refine (EachG_fn (ok := fun b => b < w.heap.size) 246 ca_246 #[.pointer (some ⟨w.heap.size + 2,0,none⟩)] w20 (tb := b) (to := o + 3) hb20 hq3 ((hT.weaken fun b hb _ => hb).keep (hX20.keeps _)) (sortT_perm _) (sortT_lt hgu.2.1) (by rw [(sortT_perm t.u).length_eq];exact hgu.1)
    (fun b => b = w.heap.size + 2) (by omega) (fun b hb hk e => by have hk' : b < w.heap.size := hk;omega) (fun b hb => by have := blk_lt ht20;omega)
    (fun wl done w' => ∃ v,blk w' (w.heap.size + 2) = some (#[.int .i64 0,.slice none 0 0,.bool false,.slice (some ⟨w.heap.size + 1,0,none⟩) 3 3,v],26,(0,0)) ∧ GrowU (fun b => w1.heap.size ≤ b) wl.heap.size (w.heap.size + 2) w' 65 v done) (fun wl hE => ⟨_,hE.blk_some ht20 id,GrowU.nil _ _ _ _ _⟩) ?_).mono ?_
  · rintro wl hE done y vv wc hpre ⟨v,hbv,hg⟩ hU hvv hy
    have hz' := hE.size
    have hzu := hU.size
    have htl := blk_lt ht20
    have hpl := hpre.length_le
    simp only [List.length_append,List.length_cons,List.length_nil] at hpl
    rw [(sortT_perm t.u).length_eq] at hpl
    have hlu := hgu.1
    have hmy : y ∈ t.u := (sortT_perm t.u).mem_iff.1 (hpre.subset (by simp))
    refine (tagclX0_fn (ok := fun b => b < w.heap.size) _ _ _ _ v done y vv wc hbv hg hzu (by omega) (hvv.keep ((hE.mono (fun _ h => h.elim) |>.trans hU : Upd (fun b => b = w.heap.size + 2) w20 wc).keeps fun b _ hk e => by have hk' : b < w.heap.size := hk;omega)) hy (hgu.2.2 y hmy) (by omega) (fun b hb => by have := hz20;omega)).mono ?_
    rintro _ w2' ⟨⟨v',h1,h2⟩,h3⟩
    exact ⟨⟨v',h1,h2⟩,hU.trans' h3 fun b hb h => h.elim id fun h => by omega⟩
  rintro _ w21 ⟨wl,hEl,⟨v,ht21,hgU⟩,hUe⟩
  have hzl := hEl.size
  obtain ⟨aU,kU,hvs,_⟩ := hgU.shape
  subst hvs
  have hV21 : Upd (fun b => b = w.heap.size + 1 ∨ b = w.heap.size + 2) w20 w21 := (hEl.mono fun _ h => h.elim).trans (hUe.mono fun _ h => .inr h)
  have hU21 : Upd (fun b => b = w.heap.size + 1 ∨ b = w.heap.size + 2) w1 w21 := hU20.trans hV21
  have hz21 := hU21.size
  have hX21 : Ext w w21 := hE1.more hU21 fun b hb h => by omega
  have hb21 := hX21.blk_some hb id
  have hl21 := (((hEl.mono fun _ h => h.elim).trans hUe : Upd (fun b => b = w.heap.size + 2) w20 w21)).blk_some hl20 (by omega)
  have hTU := hgU.tags (ok' := (fun b => w1.heap.size ≤ b)) (fun _ _ h => h) (fun b hb => by have := hz20;omega)
  repeat ((first | refine qA rfl ?_|refine qB ?_|refine qC rfl ?_|refine qD ?_|refine qE ?_|refine qF ?_|refine qG ?_|refine qH ?_);try simp (maxSteps:=1000000)(disch:=(first|omega|(simp only [qI,qJ,qK]<;>omega)|exact qL _)) only [go_sem,↓reduceIte,n0,reduceCtorEq,n1,n2,n3,n4,n5,i0,i1,i2,i3,i4,i5,i6,i7,hb21,hl21,ht21,hq0,hq1,hq2,hq3,hrd2_0,hrd2_2,hrd2_3,cellsAt_five])
  refine (sorted_fn _ _ w21 hTU (sortT_lt hgu.2.1) (by rw [(sortT_perm t.u).length_eq];exact hgu.1)).mono ?_
  rintro _ w22 hEs
  have hV22 : Upd (fun b => b = w.heap.size + 1 ∨ b = w.heap.size + 2) w21 w22 := hEs.mono fun _ h => h.elim
  have hU22 : Upd (fun b => b = w.heap.size + 1 ∨ b = w.heap.size + 2) w1 w22 := hU21.trans hV22
  have hz22 := hU22.size
  have hX22 : Ext w w22 := hE1.more hU22 fun b hb h => by omega
  have hb22 := hX22.blk_some hb id
  have hl22 := hEs.blk_some hl21 id
  have ht22 := hEs.blk_some ht21 id
  have hr22 := (hU22.blk_some hr1 (by omega))
  have hC_22 : Upd (fun b => b = w.heap.size + 1 ∨ b = w.heap.size + 2) w22 w22 := Upd.refl _ _
  have hC_21 : Upd (fun b => b = w.heap.size + 1 ∨ b = w.heap.size + 2) w21 w22 := hV22.trans hC_22
  have hC_20 : Upd (fun b => b = w.heap.size + 1 ∨ b = w.heap.size + 2) w20 w22 := hV21.trans hC_21
  have hC_5 : Upd (fun b => b = w.heap.size + 1 ∨ b = w.heap.size + 2) w5 w22 := hV20.trans hC_20
  have hC_4 : Upd (fun b => b = w.heap.size + 1 ∨ b = w.heap.size + 2) w4 w22 := hV5.trans hC_5
  have hC_2 : Upd (fun b => b = w.heap.size + 1 ∨ b = w.heap.size + 2) w2 w22 := hV4.trans hC_4
  have hC_1 : Upd (fun b => b = w.heap.size + 1 ∨ b = w.heap.size + 2) w1 w22 := hV2.trans hC_2
  have hF0 := TreeC.keep (hC_2.keeps fun b hb hk e => by have hk' : w1.heap.size ≤ b := hk;omega) hf0
  have hF1 := TreeC.keep (hC_4.keeps fun b hb hk e => by have hk' : w1.heap.size ≤ b := hk;omega) hf1
  have hF2 := TreeC.keep (hC_20.keeps fun b hb hk e => by have hk' : w1.heap.size ≤ b := hk;omega) hf2
  replace hF0 : TreeC (fun b => w1.heap.size ≤ b) w22 (tlF (tlP d) fX0_0 (t.at 0)) [.int .i64 (IntKind.i8.wrap (t.at 0).n),.slice none 0 0,.bool false,.slice none 0 0,.slice none 0 0] := hF0
  replace hF1 : TreeC (fun b => w1.heap.size ≤ b) w22 (tlF (tlP d) fX0_1 (t.at 1)) [.int .i64 0,.slice (some a3) ((t.at 1).s).length k3,.bool false,.slice none 0 0,.slice none 0 0] := hF1
  replace hF2 : TreeC (fun b => w1.heap.size ≤ b) w22 (tlF (tlP d) fX0_2 (t.at 2)) [.int .i64 0,.slice none 0 0,.bool (t.at 2).null,.slice av2 (List.map (tl1 (tlP d) fX0_2.of fX0_2.sub) L2).length kv2,.slice none 0 0] := by rw [show tlF (tlP d) fX0_2 (t.at 2) = .mk 0 [] (t.at 2).null ((if (t.at 2).null = true then [] else (t.at 2).l).map (tl1 (tlP d) fX0_2.of fX0_2.sub)) [] from rfl,← hL2];exact hF2
  have hTL : TreesV (fun b => (fun b => w1.heap.size ≤ b) b ∨ b = w.heap.size + 1) w22 (.slice (some ⟨w.heap.size + 1,0,none⟩) 3 3) [tlF (tlP d) fX0_0 (t.at 0),tlF (tlP d) fX0_1 (t.at 1),tlF (tlP d) fX0_2 (t.at 2)] := by
    refine ⟨[[.int .i64 (IntKind.i8.wrap (t.at 0).n),.slice none 0 0,.bool false,.slice none 0 0,.slice none 0 0],[.int .i64 0,.slice (some a3) ((t.at 1).s).length k3,.bool false,.slice none 0 0,.slice none 0 0],[.int .i64 0,.slice none 0 0,.bool (t.at 2).null,.slice av2 (List.map (tl1 (tlP d) fX0_2.of fX0_2.sub) L2).length kv2,.slice none 0 0]],⟨_,3,rfl,Nat.le_refl _,(by intro cs hm;simp only [List.mem_cons,List.not_mem_nil,or_false] at hm;rcases hm with rfl | rfl | rfl <;> rfl),.inr ⟨_,rfl,rfl,.inr rfl,_,hl22,fun i hi => by rw [Nat.zero_add,List.getElem?_toArray];rfl⟩⟩,rfl,fun i h1 h2 => ?_⟩
    match i,h1 with
    | 0,_ => exact TreeC.weaken (fun b _ hk => .inl hk) hF0
    | 1,_ => exact TreeC.weaken (fun b _ hk => .inl hk) hF1
    | 2,_ => exact TreeC.weaken (fun b _ hk => .inl hk) hF2
  repeat ((first | refine qA rfl ?_|refine qB ?_|refine qC rfl ?_|refine qD ?_|refine qE ?_|refine qF ?_|refine qG ?_|refine qH ?_);try simp (maxSteps:=1000000)(disch:=(first|omega|(simp only [qI,qJ,qK]<;>omega)|exact qL _)) only [go_sem,↓reduceIte,n0,reduceCtorEq,n1,n2,n3,n4,n5,i0,i1,i2,i3,i4,i5,i6,i7,hb22,hl22,ht22,hq0,hq1,hq2,hq3,hrd2_0,hrd2_2,hrd2_3,hr22,cellsAt_five])
  refine ⟨⟨_,rfl,?_⟩,hX22.wr _ _ (.inl (Nat.le_refl _))⟩
  have hUr : Upd (fun b => b = w.heap.size) w22 (wr w22 w.heap.size 0 [.int .i64 0,.slice none 0 0,.bool false,.slice (some ⟨w.heap.size + 1,0,none⟩) 3 3,.slice aU (sortT t.u).length kU]) := (Upd.refl _ _).wr _ _ (.inr rfl)
  have hTU2 := hTU.keep (hEs.keeps _)
  exact TreeC.intro rfl (BytesV.nil _ _) ((hTL.keep (hUr.keeps fun b _ hk e => by rcases hk with hk | hk <;> omega)).weaken fun b _ hk => by rcases hk with hk | hk <;> omega) ((hTU2.keep (hUr.keeps fun b _ hk e => by omega)).weaken fun b _ hk => by omega)

theorem tagclDescribeConfigsRequest_fn {ok OK : Blocks} {B tb : Nat} (c0 c1 c2 c3 v : Value) (done : List TagD) (y : TagD) (vv : Value) (w : World) (hbt : blk w tb = some (#[c0,c1,c2,c3,v],26,(0,0))) (hg : GrowU OK B tb w 65 v done) (hB : B ≤ w.heap.size) (htb : tb < B) (hvv : BytesV ok w vv y.2) (hy : y.1 < 2 ^ 32) (hyl : y.2.length ≤ 32767) (hdl : done.length ≤ 32767) (hOK : ∀ b,B ≤ b → OK b) :
    Fn Tryd.prog 164 #[.int .u32 y.1,vv,.pointer (some ⟨tb,0,none⟩)] w fun _ w' => (∃ v',blk w' tb = some (#[c0,c1,c2,c3,v'],26,(0,0)) ∧ GrowU OK B tb w' 65 v' (done ++ [y])) ∧ Upd (fun b => b = tb ∨ B ≤ b) w w' := by
  have htl := blk_lt hbt
  refine fn_of_W Tryd.func164 rfl Tryd.results164 Tryd.ntmps164 rfl ?_
  repeat ((first | refine qA rfl ?_|refine qB ?_|refine qC rfl ?_|refine qD ?_|refine qE ?_|refine qF ?_|refine qG ?_|refine qH ?_);try simp (maxSteps:=1000000)(disch:=(first|omega|(simp only [qI,qJ,qK]<;>omega)|exact qL _)) only [go_sem,↓reduceIte,n0,reduceCtorEq,n1,n2,n3,n4,n5,i0,i1,i2,i3,i4,i5,i6,i7])
  obtain ⟨av,kv,rfl,_⟩ := hg.shape
  have hnb : ∀ b,b < B ∨ w.heap.size ≤ b → ¬ ownB (.slice av done.length kv) b := fun b hb h => by
    have := hg.above h
    have := hg.below h
    omega
  refine W.drawR (.take 0 (.take 1 (.take 2 (.take 3 (.only 4 (.only 5 (.only 6 (.only 7 (.take 8 (.last 9)))))))))) (ownB (.slice av done.length kv)) mixed (by kernel_rfl) ?_
  simp (maxSteps:=1000000)(disch:=(first|omega|(simp only [qI,qJ,qK]<;>omega)|exact qL _ | (refine hnb _ ?_;first | omega | (simp only [World.size_alloc,size_wr,size_drew] <;> omega)))) only [go_sem,↓reduceIte,n0,reduceCtorEq,n1,n2,n3,n4,n5,i0,i1,i2,i3,i4,i5,i6,i7,hbt]
  refine wp_copyN ap_22_22 (ok := ok) (s := y.2) (v := vv) (by first | rfl | simp (maxSteps:=1000000)(disch:=(first|omega|(simp only [qI,qJ,qK]<;>omega)|exact qL _)) only [go_sem,↓reduceIte,n0,reduceCtorEq,n1,n2,n3,n4,n5,i0,i1,i2,i3,i4,i5,i6,i7]) (by first | rfl | simp (maxSteps:=1000000)(disch:=(first|omega|(simp only [qI,qJ,qK]<;>omega)|exact qL _)) only [go_sem,↓reduceIte,n0,reduceCtorEq,n1,n2,n3,n4,n5,i0,i1,i2,i3,i4,i5,i6,i7]) (hvv.keep (Ext.keeps ((Upd.refl _ _).drew) _)) (by omega) ?_
  intro v1 w1 ho1 hE1 hf1
  obtain ⟨a1,k1,rfl,_⟩ := ho1.shape
  have hB1 := Own.bytes (ok := fun b => w.heap.size ≤ b) ho1 fun b hb => hf1 b hb
  have hP1 : Upd (ownB (.slice av done.length kv)) w.drew w1 := hE1.mono fun _ h => h.elim
  have hs1 := hE1.size
  simp only [size_drew] at hs1
  refine ⟨hP1,?_⟩
  simp (maxSteps:=1000000)(disch:=(first|omega|(simp only [qI,qJ,qK]<;>omega)|exact qL _ | (refine hnb _ ?_;first | omega | (simp only [World.size_alloc,size_wr,size_drew] <;> omega)))) only [go_sem,↓reduceIte,n0,reduceCtorEq,n1,n2,n3,n4,n5,i0,i1,i2,i3,i4,i5,i6,i7,hbt]
  refine ⟨hP1,?_⟩
  have hP2 : Upd (ownB (.slice av done.length kv)) w.drew (w1.alloc (.cells #[.int .u32 y.1,.slice a1 y.2.length k1] 65)) := hP1.alloc _
  have hn2 : blk (w1.alloc (.cells #[.int .u32 y.1,.slice a1 y.2.length k1] 65)) w1.heap.size = some (#[.int .u32 y.1,.slice a1 y.2.length k1],65,(0,0)) := blk_alloc_new rfl
  have hs2 : (w1.alloc (.cells #[.int .u32 y.1,.slice a1 y.2.length k1] 65)).heap.size = w1.heap.size + 1 := World.size_alloc _ _
  have hE2 : Ext w1 (w1.alloc (.cells #[.int .u32 y.1,.slice a1 y.2.length k1] 65)) := Upd.alloc (Upd.refl _ _) _
  refine ⟨hP2,?_⟩
  try simp only [List.append_nil]
  generalize (w1.alloc (.cells #[.int .u32 y.1,.slice a1 y.2.length k1] 65)) = w2 at *
  have hEw : Ext w w2 := (((Upd.refl _ _).drew).trans hE1).trans hE2
  obtain ⟨css,hown,hall⟩ := (hg.ext hEw).ex
  have hcl := hall.1
  have hx2 : TagC (fun b => OK b ∧ b ≠ tb ∧ ¬ ownB (.slice av done.length kv) b) w2 y [.int .u32 y.1,.slice a1 y.2.length k1] := ⟨_,rfl,(hB1.keep (hE2.keeps _)).weaken fun b _ hk => ⟨hOK b (by omega),by omega,hnb b (.inr hk)⟩,hy⟩
  refine wp_append ap_24_24 (m := 1) (news := [.int .u32 y.1,.slice a1 y.2.length k1]) (n := css.length) (cs := css.flatten) (v := .slice av done.length kv) ?_ rfl hown.1 hall.flat_cells (Src.blk (fr := (0,0)) (T := 65) hn2 rfl rfl) ?_ ?_ ?_
  · first | rfl | simp (maxSteps:=1000000)(disch:=(first|omega|(simp only [qI,qJ,qK]<;>omega)|exact qL _)) only [go_sem,↓reduceIte,n0,reduceCtorEq,n1,n2,n3,n4,n5,i0,i1,i2,i3,i4,i5,i6,i7]
  · omega
  · omega
  intro v' w3 ho hu hfr
  have hg3 := GrowU.snoc hown hall hx2 hu hfr ho
  obtain ⟨va,vc,hv',_⟩ := ho.shape
  subst hv'
  have hP3 := hP2.trans hu
  have hs3 := hu.size
  have hbt3 := hP3.blk_some (show blk w.drew tb = _ from hbt) (hnb _ (.inl htb))
  have hne : ¬ ownB (.slice va (css.length + 1) vc) tb := fun h => (hfr _ h).elim (hnb _ (.inl htb)) (fun h => by omega)
  refine ⟨hP3,?_⟩
  simp (maxSteps:=1000000)(disch:=(first|omega|(simp only [qI,qJ,qK]<;>omega)|exact qL _ | (refine hnb _ ?_;first | omega | (simp only [World.size_alloc,size_wr,size_drew] <;> omega)))) only [go_sem,↓reduceIte,n0,reduceCtorEq,n1,n2,n3,n4,n5,i0,i1,i2,i3,i4,i5,i6,i7,hbt3]
  repeat ((first | refine qA rfl ?_|refine qB ?_|refine qC rfl ?_|refine qD ?_|refine qE ?_|refine qF ?_|refine qG ?_|refine qH ?_);try simp (maxSteps:=1000000)(disch:=(first|omega|(simp only [qI,qJ,qK]<;>omega)|exact qL _)) only [go_sem,↓reduceIte,n0,reduceCtorEq,n1,n2,n3,n4,n5,i0,i1,i2,i3,i4,i5,i6,i7])
  refine ⟨⟨.slice va (css.length + 1) vc,by first | (rw [blk_wr_eq,hbt3];rfl) | rfl | (rw [hbt3];rfl) | (rw [blk_wr_eq,hbt3]),hg3.upd ((Upd.refl _ _).wr _ _ (.inr rfl)) hne⟩,?_⟩
  refine Upd.wr ?_ _ _ (.inr (.inl rfl))
  exact (((Upd.refl (fun b => b = tb ∨ B ≤ b) w).drew).trans (hP3.mono fun b h => .inr (hg.above h)))

set_option maxHeartbeats 4000000 in
theorem tellDescribeConfigsRequest_fn {d : Nat} {ok : Blocks} (t : Tree) (cs : List Value) (w : World) {b : Nat} {x : Blk} (hb : blk w b = some x) (hq : ∀ k,k < 4 → x.1[1 + k]? = cs[k]?) (hR : RepS true (d + 2) fs_DescribeConfigsRequest ok w t cs) (hg : GoodP (d + 2) fs_DescribeConfigsRequest t) :
    Fn Tryd.prog 94 #[.pointer (some ⟨b,0,none⟩)] w fun r w' => (∃ c,r = .agg c.toArray ∧ TreeC (fun b => w.heap.size ≤ b) w' (tlP (d + 2) fs_DescribeConfigsRequest t) c) ∧ Ext w w' := by
  have hbl := blk_lt hb
  obtain ⟨⟨gd0,gd1,gd2,-⟩,hgu⟩ := hg
  replace gd0 : GoodF (GoodP (d + 1)) fDescribeConfigsRequest_0 (t.at 0) := gd0
  replace gd1 : GoodF (GoodP (d + 1)) fDescribeConfigsRequest_1 (t.at 1) := gd1
  replace gd2 : GoodF (GoodP (d + 1)) fDescribeConfigsRequest_2 (t.at 2) := gd2
  obtain ⟨cs0,q,hcs,hL,hT⟩ := hR.inv
  obtain ⟨c0,e0,rfl,h0,c1,e1,rfl,h1,c2,e2,rfl,h2,rfl⟩ := hL
  replace h0 : RepF (RepS true (d + 1)) (szS true (d + 1)) fDescribeConfigsRequest_0 ok w (t.at 0) c0 := h0
  replace h1 : RepF (RepS true (d + 1)) (szS true (d + 1)) fDescribeConfigsRequest_1 ok w (t.at 1) c1 := h1
  replace h2 : RepF (RepS true (d + 1)) (szS true (d + 1)) fDescribeConfigsRequest_2 ok w (t.at 2) c2 := h2
  obtain ⟨ab0,ac0,L0,rfl,hL0,hnn0,hs0⟩ := RepF_listT rfl h0
  have hgl0 := gd0.listL rfl hL0
  obtain rfl := (RepF_num (by decide)).1 h1
  obtain rfl := (RepF_num (by decide)).1 h2
  obtain ⟨qm,rfl⟩ := hT.shape
  subst hcs
  have hq0 : x.1[1]? = some (.slice ab0 L0.length ac0) := hq 0 (by decide)
  have hq1 : x.1[2]? = some (.bool (decide ((t.at 1).n % 2 = 1))) := hq 1 (by decide)
  have hq2 : x.1[3]? = some (.bool (decide ((t.at 2).n % 2 = 1))) := hq 2 (by decide)
  have hq3 : x.1[4]? = some (.map qm) := hq 3 (by decide)
  refine fn_of_W Tryd.func94 rfl Tryd.results94 Tryd.ntmps94 rfl ?_
  repeat ((first | refine qA rfl ?_|refine qB ?_|refine qC rfl ?_|refine qD ?_|refine qE ?_|refine qF ?_|refine qG ?_|refine qH ?_);try simp (maxSteps:=1000000)(disch:=(first|omega|(simp only [qI,qJ,qK]<;>omega)|exact qL _)) only [go_sem,↓reduceIte,n0,reduceCtorEq,n1,n2,n3,n4,n5,i0,i1,i2,i3,i4,i5,i6,i7])
  refine wp_make (T := 23) (E := 26) (size := 5) (bytes := 88) (z := .agg #[.int .i64 0,.slice none 0 0,.bool false,.slice none 0 0,.slice none 0 0]) (l := 3) (c := 3) (kl := .i64) (kc := .i64) (by kernel_rfl) (by kernel_rfl) (by first | rfl | (simp (maxSteps:=1000000)(disch:=(first|omega|(simp only [qI,qJ,qK]<;>omega)|exact qL _)) only [go_sem,↓reduceIte,n0,reduceCtorEq,n1,n2,n3,n4,n5,i0,i1,i2,i3,i4,i5,i6,i7];rfl)) (by first | rfl | (simp (maxSteps:=1000000)(disch:=(first|omega|(simp only [qI,qJ,qK]<;>omega)|exact qL _)) only [go_sem,↓reduceIte,n0,reduceCtorEq,n1,n2,n3,n4,n5,i0,i1,i2,i3,i4,i5,i6,i7];rfl)) (by omega) (by omega) (by omega) ?_
  have hmd : madeCells (Value.agg #[.int .i64 0,.slice none 0 0,.bool false,.slice none 0 0,.slice none 0 0]).cells (3 * 5) = #[.int .i64 0,.slice none 0 0,.bool false,.slice none 0 0,.slice none 0 0,.int .i64 0,.slice none 0 0,.bool false,.slice none 0 0,.slice none 0 0,.int .i64 0,.slice none 0 0,.bool false,.slice none 0 0,.slice none 0 0] := by kernel_rfl
  rw [hmd]
  simp (maxSteps:=1000000)(disch:=(first|omega|(simp only [qI,qJ,qK]<;>omega)|exact qL _)) only [go_sem,↓reduceIte,n0,reduceCtorEq,n1,n2,n3,n4,n5,i0,i1,i2,i3,i4,i5,i6,i7]
  repeat ((first | refine qA rfl ?_|refine qB ?_|refine qC rfl ?_|refine qD ?_|refine qE ?_|refine qF ?_|refine qG ?_|refine qH ?_);try simp (maxSteps:=1000000)(disch:=(first|omega|(simp only [qI,qJ,qK]<;>omega)|exact qL _)) only [go_sem,↓reduceIte,n0,reduceCtorEq,n1,n2,n3,n4,n5,i0,i1,i2,i3,i4,i5,i6,i7])
  have hE1 : Ext w (wr (((w.alloc (.cells #[.int .i64 0,.slice none 0 0,.bool false,.slice none 0 0,.slice none 0 0] 26)).alloc (.cells #[.int .i64 0,.slice none 0 0,.bool false,.slice none 0 0,.slice none 0 0,.int .i64 0,.slice none 0 0,.bool false,.slice none 0 0,.slice none 0 0,.int .i64 0,.slice none 0 0,.bool false,.slice none 0 0,.slice none 0 0] 26)).alloc (.cells #[.int .i64 0,.slice none 0 0,.bool false,.slice none 0 0,.slice none 0 0] 26)) (w.heap.size + 2) 0 [.int .i64 0,.slice none 0 0,.bool false,.slice (some ⟨w.heap.size + 1,0,none⟩) 3 3,.slice none 0 0]) := (Upd.alloc (Upd.alloc (Upd.alloc (Upd.refl _ _) _) _) _).wr _ _ (.inl (by omega))
  have hz1 : (wr (((w.alloc (.cells #[.int .i64 0,.slice none 0 0,.bool false,.slice none 0 0,.slice none 0 0] 26)).alloc (.cells #[.int .i64 0,.slice none 0 0,.bool false,.slice none 0 0,.slice none 0 0,.int .i64 0,.slice none 0 0,.bool false,.slice none 0 0,.slice none 0 0,.int .i64 0,.slice none 0 0,.bool false,.slice none 0 0,.slice none 0 0] 26)).alloc (.cells #[.int .i64 0,.slice none 0 0,.bool false,.slice none 0 0,.slice none 0 0] 26)) (w.heap.size + 2) 0 [.int .i64 0,.slice none 0 0,.bool false,.slice (some ⟨w.heap.size + 1,0,none⟩) 3 3,.slice none 0 0]).heap.size = w.heap.size + 3 := by simp only [size_wr,World.size_alloc]
  have hl1 : blk (wr (((w.alloc (.cells #[.int .i64 0,.slice none 0 0,.bool false,.slice none 0 0,.slice none 0 0] 26)).alloc (.cells #[.int .i64 0,.slice none 0 0,.bool false,.slice none 0 0,.slice none 0 0,.int .i64 0,.slice none 0 0,.bool false,.slice none 0 0,.slice none 0 0,.int .i64 0,.slice none 0 0,.bool false,.slice none 0 0,.slice none 0 0] 26)).alloc (.cells #[.int .i64 0,.slice none 0 0,.bool false,.slice none 0 0,.slice none 0 0] 26)) (w.heap.size + 2) 0 [.int .i64 0,.slice none 0 0,.bool false,.slice (some ⟨w.heap.size + 1,0,none⟩) 3 3,.slice none 0 0]) (w.heap.size + 1) = some (#[.int .i64 0,.slice none 0 0,.bool false,.slice none 0 0,.slice none 0 0,.int .i64 0,.slice none 0 0,.bool false,.slice none 0 0,.slice none 0 0,.int .i64 0,.slice none 0 0,.bool false,.slice none 0 0,.slice none 0 0],26,(0,0)) := by simp (maxSteps:=1000000)(disch:=(first|omega|(simp only [qI,qJ,qK]<;>omega)|exact qL _)) only [go_sem,↓reduceIte,n0,reduceCtorEq,n1,n2,n3,n4,n5,i0,i1,i2,i3,i4,i5,i6,i7]
  have ht1 : blk (wr (((w.alloc (.cells #[.int .i64 0,.slice none 0 0,.bool false,.slice none 0 0,.slice none 0 0] 26)).alloc (.cells #[.int .i64 0,.slice none 0 0,.bool false,.slice none 0 0,.slice none 0 0,.int .i64 0,.slice none 0 0,.bool false,.slice none 0 0,.slice none 0 0,.int .i64 0,.slice none 0 0,.bool false,.slice none 0 0,.slice none 0 0] 26)).alloc (.cells #[.int .i64 0,.slice none 0 0,.bool false,.slice none 0 0,.slice none 0 0] 26)) (w.heap.size + 2) 0 [.int .i64 0,.slice none 0 0,.bool false,.slice (some ⟨w.heap.size + 1,0,none⟩) 3 3,.slice none 0 0]) (w.heap.size + 2) = some (#[.int .i64 0,.slice none 0 0,.bool false,.slice (some ⟨w.heap.size + 1,0,none⟩) 3 3,.slice none 0 0],26,(0,0)) := by simp (maxSteps:=1000000)(disch:=(first|omega|(simp only [qI,qJ,qK]<;>omega)|exact qL _)) only [go_sem,↓reduceIte,n0,reduceCtorEq,n1,n2,n3,n4,n5,i0,i1,i2,i3,i4,i5,i6,i7]
  have hr1 : blk (wr (((w.alloc (.cells #[.int .i64 0,.slice none 0 0,.bool false,.slice none 0 0,.slice none 0 0] 26)).alloc (.cells #[.int .i64 0,.slice none 0 0,.bool false,.slice none 0 0,.slice none 0 0,.int .i64 0,.slice none 0 0,.bool false,.slice none 0 0,.slice none 0 0,.int .i64 0,.slice none 0 0,.bool false,.slice none 0 0,.slice none 0 0] 26)).alloc (.cells #[.int .i64 0,.slice none 0 0,.bool false,.slice none 0 0,.slice none 0 0] 26)) (w.heap.size + 2) 0 [.int .i64 0,.slice none 0 0,.bool false,.slice (some ⟨w.heap.size + 1,0,none⟩) 3 3,.slice none 0 0]) w.heap.size = some (#[.int .i64 0,.slice none 0 0,.bool false,.slice none 0 0,.slice none 0 0],26,(0,0)) := by simp (maxSteps:=1000000)(disch:=(first|omega|(simp only [qI,qJ,qK]<;>omega)|exact qL _)) only [go_sem,↓reduceIte,n0,reduceCtorEq,n1,n2,n3,n4,n5,i0,i1,i2,i3,i4,i5,i6,i7]
  generalize (wr (((w.alloc (.cells #[.int .i64 0,.slice none 0 0,.bool false,.slice none 0 0,.slice none 0 0] 26)).alloc (.cells #[.int .i64 0,.slice none 0 0,.bool false,.slice none 0 0,.slice none 0 0,.int .i64 0,.slice none 0 0,.bool false,.slice none 0 0,.slice none 0 0,.int .i64 0,.slice none 0 0,.bool false,.slice none 0 0,.slice none 0 0] 26)).alloc (.cells #[.int .i64 0,.slice none 0 0,.bool false,.slice none 0 0,.slice none 0 0] 26)) (w.heap.size + 2) 0 [.int .i64 0,.slice none 0 0,.bool false,.slice (some ⟨w.heap.size + 1,0,none⟩) 3 3,.slice none 0 0]) = w1 at *
  have hU1 : Upd (fun b => b = w.heap.size + 1 ∨ b = w.heap.size + 2) w1 w1 := Upd.refl _ _
  have hb1 := hE1.blk_some hb id
  repeat ((first | refine qA rfl ?_|refine qB ?_|refine qC rfl ?_|refine qD ?_|refine qE ?_|refine qF ?_|refine qG ?_|refine qH ?_);try simp (maxSteps:=1000000)(disch:=(first|omega|(simp only [qI,qJ,qK]<;>omega)|exact qL _)) only [go_sem,↓reduceIte,n0,reduceCtorEq,n1,n2,n3,n4,n5,i0,i1,i2,i3,i4,i5,i6,i7,hb1,hl1,ht1,hq0,hq1,hq2,hq3])
  refine W.drawR (.take 0 (.take 1 (.take 2 (.take 3 (.take 4 (.take 5 (.take 6 (.take 7 (.take 8 (.last 9)))))))))) (NoB) mixed (by kernel_rfl) ?_
  try simp (maxSteps:=1000000)(disch:=(first|omega|(simp only [qI,qJ,qK]<;>omega)|exact qL _)) only [go_sem,↓reduceIte,n0,reduceCtorEq,n1,n2,n3,n4,n5,i0,i1,i2,i3,i4,i5,i6,i7,hb1,hl1,ht1,hq0,hq1,hq2,hq3,hnn0]
  generalize hw2 : wr w1.drew (w.heap.size + 1) 2 [.bool (t.at 0).null] = w2
  have hl2 : blk w2 (w.heap.size + 1) = some (#[.int .i64 0,.slice none 0 0,.bool (t.at 0).null,.slice none 0 0,.slice none 0 0,.int .i64 0,.slice none 0 0,.bool false,.slice none 0 0,.slice none 0 0,.int .i64 0,.slice none 0 0,.bool false,.slice none 0 0,.slice none 0 0],26,(0,0)) := by rw [← hw2,blk_wr_eq,show blk w1.drew (w.heap.size + 1) = _ from hl1];rfl
  have hV2 : Upd (fun b => b = w.heap.size + 1 ∨ b = w.heap.size + 2) w1 w2 := by rw [← hw2];exact ((Upd.refl _ _).drew).wr _ _ (.inr (.inl rfl))
  have hU2 : Upd (fun b => b = w.heap.size + 1 ∨ b = w.heap.size + 2) w1 w2 := hU1.trans hV2
  have hz2 := hU2.size
  have hX2 : Ext w w2 := hE1.more hU2 fun b hb h => by omega
  have hb2 := hX2.blk_some hb id
  have ht2 : blk w2 (w.heap.size + 2) = some (#[.int .i64 0,.slice none 0 0,.bool false,.slice (some ⟨w.heap.size + 1,0,none⟩) 3 3,.slice none 0 0],26,(0,0)) := by
    rw [← hw2,blk_wr_ne (by omega)]
    exact ht1
  clear hw2
  repeat ((first | refine qA rfl ?_|refine qB ?_|refine qC rfl ?_|refine qD ?_|refine qE ?_|refine qF ?_|refine qG ?_|refine qH ?_);try simp (maxSteps:=1000000)(disch:=(first|omega|(simp only [qI,qJ,qK]<;>omega)|exact qL _)) only [go_sem,↓reduceIte,n0,reduceCtorEq,n1,n2,n3,n4,n5,i0,i1,i2,i3,i4,i5,i6,i7,hb2,hl2,ht2,hq0,hq1,hq2,hq3])
  refine W.exitJ 0 (EndQ [(0,.pointer (some ⟨b,0,none⟩)),(2,.pointer (some ⟨w.heap.size,0,none⟩)),(3,.pointer (some ⟨w.heap.size + 2,0,none⟩)),(20,.int .i64 L0.length)] (fun w' => ∃ v,blk w' (w.heap.size + 1) = some (#[.int .i64 0,.slice none 0 0,.bool (t.at 0).null,v,.slice none 0 0,.int .i64 0,.slice none 0 0,.bool false,.slice none 0 0,.slice none 0 0,.int .i64 0,.slice none 0 0,.bool false,.slice none 0 0,.slice none 0 0],26,(0,0)) ∧ GrowT (fun b => w1.heap.size ≤ b) w2.heap.size (w.heap.size + 1) w' 26 v (L0.map (tl1 (tlP (d + 1)) fDescribeConfigsRequest_0.of fDescribeConfigsRequest_0.sub)) ∧ Upd (fun b => b = w.heap.size + 1) w2 w')) (W.loop (LoopL [(0,.pointer (some ⟨b,0,none⟩)),(2,.pointer (some ⟨w.heap.size,0,none⟩)),(3,.pointer (some ⟨w.heap.size + 2,0,none⟩)),(20,.int .i64 L0.length)] 21 (fun j w' => ∃ v,j ≤ L0.length ∧ blk w' (w.heap.size + 1) = some (#[.int .i64 0,.slice none 0 0,.bool (t.at 0).null,v,.slice none 0 0,.int .i64 0,.slice none 0 0,.bool false,.slice none 0 0,.slice none 0 0,.int .i64 0,.slice none 0 0,.bool false,.slice none 0 0,.slice none 0 0],26,(0,0)) ∧ GrowT (fun b => w1.heap.size ≤ b) w2.heap.size (w.heap.size + 1) w' 26 v ((L0.take j).map (tl1 (tlP (d + 1)) fDescribeConfigsRequest_0.of fDescribeConfigsRequest_0.sub)) ∧ Upd (fun b => b = w.heap.size + 1) w2 w')) (fun ρ _ => L0.length - (RowKit.intOf (ρ 21)).toNat) ?_ ?_) ?_
  · exact ⟨(by simp (maxSteps:=1000000)(disch:=(first|omega|(simp only [qI,qJ,qK]<;>omega)|exact qL _)) only [go_sem,↓reduceIte,n0,reduceCtorEq,n1,n2,n3,n4,n5,i0,i1,i2,i3,i4,i5,i6,i7,Holds_nil,Holds_cons]),0,(by simp (maxSteps:=1000000)(disch:=(first|omega|(simp only [qI,qJ,qK]<;>omega)|exact qL _)) only [go_sem,↓reduceIte,n0,reduceCtorEq,n1,n2,n3,n4,n5,i0,i1,i2,i3,i4,i5,i6,i7];all_goals rfl),.slice none 0 0,Nat.zero_le _,hl2,GrowT.nil _ _ _ _ _,Upd.refl _ _⟩
  · rintro ρ w3 ⟨⟨hrc0_0,hrc0_2,hrc0_3,hrc0_20,-⟩,j,hri,v,hj,hl3,hg,hUk⟩
    have hzk := hUk.size
    have hX3 : Ext w w3 := hX2.more hUk fun b hb h => by omega
    have hz3 : w1.heap.size ≤ w3.heap.size := by have := hz2;omega
    have hb3 := hX3.blk_some hb id
    have ht3 := hUk.blk_some ht2 (by omega)
    by_cases hlt : j < L0.length
    · obtain ⟨_,be,oe,xe,ce,hbe,hoke,hxe,hble,hxs,hxx,hqe,hRe⟩ := SlR.get (size := 4) (by decide) hs0 hlt
      subst hbe
      have hcat : L0.take (j + 1) = L0.take j ++ [L0[j]] := List.take_succ_eq_append_getElem hlt
      have hgy := hgl0.2 _ (List.getElem_mem hlt)
      have hll := hgl0.1
      obtain ⟨av,kv,hvs,_⟩ := hg.shape
      have hlj : (List.map (tl1 (tlP (d + 1)) fDescribeConfigsRequest_0.of fDescribeConfigsRequest_0.sub) (L0.take j)).length = j := by simp;omega
      rw [hlj] at hvs
      subst hvs
      have hnb : ∀ b,b < w2.heap.size ∨ w3.heap.size ≤ b → ¬ ownB (.slice av j kv) b := fun b hb h => by
        have := hg.above h
        have := hg.below h
        omega
      generalize L0[j] = y at *
      repeat ((first | refine qA rfl ?_|refine qB ?_|refine qC rfl ?_|refine qD ?_|refine qE ?_|refine qF ?_|refine qG ?_|refine qH ?_);try simp (maxSteps:=1000000)(disch:=(first|omega|(simp only [qI,qJ,qK]<;>omega)|exact qL _)) only [go_sem,↓reduceIte,n0,reduceCtorEq,n1,n2,n3,n4,n5,i0,i1,i2,i3,i4,i5,i6,i7,hb3,hl3,ht3,hq0,hq1,hq2,hq3,hrc0_0,hrc0_2,hrc0_3,hrc0_20,hri])
      refine W.drawR (.only 0 (.two 1 (.only 2 (.only 3 .done)) 2 (.only 1 (.only 3 .done)))) NoB mixed (by kernel_rfl) ?_
      try simp (maxSteps:=1000000)(disch:=(first|omega|(simp only [qI,qJ,qK]<;>omega)|exact qL _)) only [go_sem,↓reduceIte,n0,reduceCtorEq,n1,n2,n3,n4,n5,i0,i1,i2,i3,i4,i5,i6,i7,hb3,hl3,ht3,hq0,hq1,hq2,hq3,hrc0_0,hrc0_2,hrc0_3,hrc0_20,hri]
      have q0 : Upd NoB w3.drew (w3.alloc (.cells #[.bool false] 4)).drew := show Upd NoB w3.drew (w3.drew.alloc (.cells #[.bool false] 4)) from Upd.alloc (Upd.refl _ _) _
      have q1 : Upd NoB w3.drew (wr (w3.alloc (.cells #[.bool false] 4)).drew w3.heap.size 0 [.bool true]) := q0.wr _ _ (.inl (Nat.le_refl _))
      have q2 : Upd NoB w3.drew (wr (wr (w3.alloc (.cells #[.bool false] 4)).drew w3.heap.size 0 [.bool true]) w3.heap.size 0 [.bool false]) := q1.wr _ _ (.inl (Nat.le_refl _))
      have q3 : Upd NoB w3.drew (wr (w3.alloc (.cells #[.bool false] 4)).drew w3.heap.size 0 [.bool false]) := q0.wr _ _ (.inl (Nat.le_refl _))
      have q4 : Upd NoB w3.drew (wr (wr (w3.alloc (.cells #[.bool false] 4)).drew w3.heap.size 0 [.bool false]) w3.heap.size 0 [.bool true]) := q3.wr _ _ (.inl (Nat.le_refl _))
      refine ⟨q0,⟨q1,q2,q2,?_⟩,⟨q3,q4,q4,?_⟩⟩
      · have hk4 : Ext w3 (wr (wr (w3.alloc (.cells #[.bool false] 4)).drew w3.heap.size 0 [.bool true]) w3.heap.size 0 [.bool false]) := ((Upd.refl _ _).drew).trans q2
        generalize (wr (wr (w3.alloc (.cells #[.bool false] 4)).drew w3.heap.size 0 [.bool true]) w3.heap.size 0 [.bool false]) = w4 at *
        have hzk4 := hk4.size
        have hX4 : Ext w w4 := hX3.trans hk4
        have hb4 := hk4.blk_some hb3 id
        have hl4 := hk4.blk_some hl3 id
        have ht4 := hk4.blk_some ht3 id
        have hxe4 := hX4.blk_some hxe id
        repeat ((first | refine qA rfl ?_|refine qB ?_|refine qC rfl ?_|refine qD ?_|refine qE ?_|refine qF ?_|refine qG ?_|refine qH ?_);try simp (maxSteps:=1000000)(disch:=(first|omega|(simp only [qI,qJ,qK]<;>omega)|exact qL _)) only [go_sem,↓reduceIte,n0,reduceCtorEq,n1,n2,n3,n4,n5,i0,i1,i2,i3,i4,i5,i6,i7,hb4,hl4,ht4,hxe4,Int.toNat_natCast,Nat.mul_one,hq0,hq1,hq2,hq3,hrc0_0,hrc0_2,hrc0_3,hrc0_20,hri])
        refine W.drawR (.take 0 (.take 1 (.take 2 (.take 3 (.take 4 (.take 5 (.take 6 (.take 7 (.take 8 (.take 9 (.take 10 (.take 11 (.take 12 (.only 13 (.only 14 (.only 15 (.take 16 (.take 17 (.last 18))))))))))))))))))) (ownB (.slice av j kv)) mixed (by kernel_rfl) ?_
        try simp (maxSteps:=1000000)(disch:=(first|omega|(simp only [qI,qJ,qK]<;>omega)|exact qL _ | (refine hnb _ ?_;first | omega | (simp only [World.size_alloc,size_wr,size_drew] <;> omega)))) only [go_sem,↓reduceIte,n0,reduceCtorEq,n1,n2,n3,n4,n5,i0,i1,i2,i3,i4,i5,i6,i7,hb4,hl4,ht4,hxe4,Int.toNat_natCast,Nat.mul_one,hq0,hq1,hq2,hq3,hrc0_0,hrc0_2,hrc0_3,hrc0_20,hri]
        have hxq5 := (Upd.refl _ _ : Upd (ownB (.slice av j kv)) w4.drew w4.drew).blk_some (show blk w4.drew be = _ from hxe4) (hnb _ (.inl (by omega)))
        refine (tellX0_fn (d := d) (ok := ok) y ce w4.drew (b := be) (o := oe + j * 4) hxq5 (fun k hk => by have := hqe k hk;rw [← Nat.add_assoc] at this;exact this) ((RepS_lay true _ _).keep (Rep1_part.1 hRe) ((((hX4.drew).mono fun _ h => h.elim).trans (Upd.refl _ _) : Upd (ownB (.slice av j kv)) w w4.drew).keeps fun b hb _ => hnb b (.inl (by omega)))) (hgy.2.2 rfl)).mono ?_
        rintro _ w5 ⟨⟨c5,rfl,hc5⟩,hEx5⟩
        obtain ⟨T5,hT5⟩ : ∃ T,T = tlP (d + 1) fs_X0 y := ⟨_,rfl⟩
        replace hc5 : TreeC (fun b => w4.drew.heap.size ≤ b) w5 T5 c5 := by rw [hT5];exact hc5
        obtain ⟨vS5,vL5,vU5,rfl,hn5,hS5,hLL5,hUU5⟩ := hc5.inv
        have k1_5 := hS5.flat
        have k2_5 := SlR.flat hLL5
        have k3_5 := SlR.flat hUU5
        have hP5 : Upd (ownB (.slice av j kv)) w4.drew w5 := (Upd.refl _ _).trans (hEx5.mono fun _ h => h.elim)
        have hsq5 := hEx5.size
        try simp only [size_drew] at hsq5
        refine ⟨hP5,?_⟩
        try simp (maxSteps:=1000000)(disch:=(first|omega|(simp only [qI,qJ,qK]<;>omega)|exact qL _ | (refine hnb _ ?_;first | omega | (simp only [World.size_alloc,size_wr,size_drew] <;> omega)))) only [go_sem,↓reduceIte,n0,reduceCtorEq,n1,n2,n3,n4,n5,i0,i1,i2,i3,i4,i5,i6,i7,hb4,hl4,ht4,hxe4,Int.toNat_natCast,Nat.mul_one,hq0,hq1,hq2,hq3,hrc0_0,hrc0_2,hrc0_3,hrc0_20,hri,k1_5,k2_5,k3_5]
        have hP6 : Upd (ownB (.slice av j kv)) w4.drew (w5.alloc (.cells #[.int .i64 T5.n,vS5,.bool T5.null,vL5,vU5] 26)) := show Upd (ownB (.slice av j kv)) w4.drew (w5.alloc (.cells #[.int .i64 T5.n,vS5,.bool T5.null,vL5,vU5] 26)) from (hP5).alloc _
        have hn6 : blk (w5.alloc (.cells #[.int .i64 T5.n,vS5,.bool T5.null,vL5,vU5] 26)) w5.heap.size = some (#[.int .i64 T5.n,vS5,.bool T5.null,vL5,vU5],26,(0,0)) := show blk (w5.alloc (.cells #[.int .i64 T5.n,vS5,.bool T5.null,vL5,vU5] 26)) w5.heap.size = some (#[.int .i64 T5.n,vS5,.bool T5.null,vL5,vU5],26,(0,0)) from blk_alloc_new rfl
        have hsq6 : (w5.alloc (.cells #[.int .i64 T5.n,vS5,.bool T5.null,vL5,vU5] 26)).heap.size = w5.heap.size + 1 := show (w5.alloc (.cells #[.int .i64 T5.n,vS5,.bool T5.null,vL5,vU5] 26)).heap.size = w5.heap.size + 1 from World.size_alloc _ _
        have hEx6 : Ext w5 (w5.alloc (.cells #[.int .i64 T5.n,vS5,.bool T5.null,vL5,vU5] 26)) := show Ext w5 (w5.alloc (.cells #[.int .i64 T5.n,vS5,.bool T5.null,vL5,vU5] 26)) from Upd.alloc (Upd.refl _ _) _
        refine ⟨hP6,?_⟩
        try simp only [List.append_nil]
        generalize (w5.alloc (.cells #[.int .i64 T5.n,vS5,.bool T5.null,vL5,vU5] 26)) = w6 at *
        try simp only [size_drew] at hsq6
        have hEw7 : Ext w3 w6 := ((hk4.drew.trans hEx5).trans hEx6)
        have hzw7 := hEw7.size
        obtain ⟨css,hown,hall⟩ := (hg.ext hEw7).ex
        have hcl := hall.1
        rw [hlj] at hcl
        have hx7 : TreeC (fun b => (fun b => w1.heap.size ≤ b) b ∧ b ≠ w.heap.size + 1 ∧ ¬ ownB (.slice av j kv) b) w6 ((tl1 (tlP (d + 1)) fDescribeConfigsRequest_0.of fDescribeConfigsRequest_0.sub) y) [.int .i64 T5.n,vS5,.bool T5.null,vL5,vU5] := by
          rw [show (tl1 (tlP (d + 1)) fDescribeConfigsRequest_0.of fDescribeConfigsRequest_0.sub) y = _ from hT5.symm]
          exact TreeC.weaken (fun b _ hk => ⟨by omega,by omega,hnb b (.inr (by omega))⟩) (TreeC.weaken (ok' := fun b => w3.heap.size ≤ b) (fun b _ hk => by have hk' : w4.drew.heap.size ≤ b := hk;(try simp only [size_drew] at hk');omega) (TreeC.keep (Ext.keeps hEx6 _) hc5))
        refine wp_append ap_23_23 (m := 1) (news := [.int .i64 T5.n,vS5,.bool T5.null,vL5,vU5]) (n := css.length) (cs := css.flatten) (v := (.slice av j kv)) ?_ rfl hown.1 (all2_flat_tree hall) (Src.blk (fr := (0,0)) (T := 26) hn6 rfl (by simp only [List.all_cons,List.all_nil,flat_int,flat_bool,k1_5,k2_5,k3_5,Bool.and_self])) ?_ ?_ ?_
        · first | rfl | simp (maxSteps:=1000000)(disch:=(first|omega|(simp only [qI,qJ,qK]<;>omega)|exact qL _)) only [go_sem,↓reduceIte,n0,reduceCtorEq,n1,n2,n3,n4,n5,i0,i1,i2,i3,i4,i5,i6,i7]
        · omega
        · omega
        intro v' w7 ho hu hfr
        have hP7 := (hP6 : Upd (ownB (.slice av j kv)) w4.drew w6).trans hu
        have hzq7 := hP7.size
        simp only [size_drew] at hzq7
        have hlq7 := hP7.blk_some (show blk w4.drew (w.heap.size + 1) = _ from hl4) (hnb _ (.inl (by omega)))
        have hg' := GrowT.snoc hown hall hx7 hu hfr ho
        obtain ⟨va,vc,hv',_⟩ := ho.shape
        subst hv'
        have hne : ¬ ownB (.slice va (css.length + 1) vc) (w.heap.size + 1) := fun h => (hfr _ h).elim (hnb _ (.inl (by omega))) (fun h => by omega)
        refine ⟨hP7,?_⟩
        try simp (maxSteps:=1000000)(disch:=(first|omega|(simp only [qI,qJ,qK]<;>omega)|exact qL _ | (refine hnb _ ?_;first | omega | (simp only [World.size_alloc,size_wr,size_drew] <;> omega)))) only [go_sem,↓reduceIte,n0,reduceCtorEq,n1,n2,n3,n4,n5,i0,i1,i2,i3,i4,i5,i6,i7,hlq7,Int.toNat_natCast,Nat.mul_one,hrc0_0,hrc0_2,hrc0_3,hrc0_20,hri]
        repeat ((first | refine qA rfl ?_|refine qB ?_|refine qC rfl ?_|refine qD ?_|refine qE ?_|refine qF ?_|refine qG ?_|refine qH ?_);try simp (maxSteps:=1000000)(disch:=(first|omega|(simp only [qI,qJ,qK]<;>omega)|exact qL _)) only [go_sem,↓reduceIte,n0,reduceCtorEq,n1,n2,n3,n4,n5,i0,i1,i2,i3,i4,i5,i6,i7,hlq7,Int.toNat_natCast,Nat.mul_one,hrc0_0,hrc0_2,hrc0_3,hrc0_20,hri])
        refine ⟨⟨(by simp (maxSteps:=1000000)(disch:=(first|omega|(simp only [qI,qJ,qK]<;>omega)|exact qL _)) only [go_sem,↓reduceIte,n0,reduceCtorEq,n1,n2,n3,n4,n5,i0,i1,i2,i3,i4,i5,i6,i7,Holds_nil,Holds_cons,hrc0_0,hrc0_2,hrc0_3,hrc0_20,hri]),j + 1,(by simp (maxSteps:=1000000)(disch:=(first|omega|(simp only [qI,qJ,qK]<;>omega)|exact qL _)) only [go_sem,↓reduceIte,n0,reduceCtorEq,n1,n2,n3,n4,n5,i0,i1,i2,i3,i4,i5,i6,i7,hrc0_0,hrc0_2,hrc0_3,hrc0_20,hri];all_goals rfl),.slice va (css.length + 1) vc,by omega,?_,?_,?_⟩,?_⟩
        · rw [blk_wr_eq,hlq7];rfl
        · rw [hcat,List.map_append];exact hg'.upd ((Upd.refl _ _).wr _ _ (.inr rfl)) hne
        · refine Upd.wr ?_ _ _ (.inr rfl)
          exact (hUk.more ((hEw7.mono fun _ h => h.elim).trans hu) fun b hb h => absurd h (hnb b (.inl hb)))
        · try simp (maxSteps:=1000000)(disch:=(first|omega|(simp only [qI,qJ,qK]<;>omega)|exact qL _)) only [go_sem,↓reduceIte,n0,reduceCtorEq,n1,n2,n3,n4,n5,i0,i1,i2,i3,i4,i5,i6,i7,hrc0_0,hrc0_2,hrc0_3,hrc0_20,hri]
          simp only [RowKit.intOf];omega
      · have hk8 : Ext w3 (wr (wr (w3.alloc (.cells #[.bool false] 4)).drew w3.heap.size 0 [.bool false]) w3.heap.size 0 [.bool true]) := ((Upd.refl _ _).drew).trans q4
        generalize (wr (wr (w3.alloc (.cells #[.bool false] 4)).drew w3.heap.size 0 [.bool false]) w3.heap.size 0 [.bool true]) = w8 at *
        have hzk8 := hk8.size
        have hX8 : Ext w w8 := hX3.trans hk8
        have hb8 := hk8.blk_some hb3 id
        have hl8 := hk8.blk_some hl3 id
        have ht8 := hk8.blk_some ht3 id
        have hxe8 := hX8.blk_some hxe id
        repeat ((first | refine qA rfl ?_|refine qB ?_|refine qC rfl ?_|refine qD ?_|refine qE ?_|refine qF ?_|refine qG ?_|refine qH ?_);try simp (maxSteps:=1000000)(disch:=(first|omega|(simp only [qI,qJ,qK]<;>omega)|exact qL _)) only [go_sem,↓reduceIte,n0,reduceCtorEq,n1,n2,n3,n4,n5,i0,i1,i2,i3,i4,i5,i6,i7,hb8,hl8,ht8,hxe8,Int.toNat_natCast,Nat.mul_one,hq0,hq1,hq2,hq3,hrc0_0,hrc0_2,hrc0_3,hrc0_20,hri])
        refine W.drawR (.take 0 (.take 1 (.take 2 (.take 3 (.take 4 (.take 5 (.take 6 (.take 7 (.take 8 (.take 9 (.take 10 (.take 12 (.two 11 (.only 13 (.only 14 (.take 15 (.take 16 (.last 17))))) 13 (.only 11 (.only 14 (.take 15 (.take 16 (.last 17)))))))))))))))))) (ownB (.slice av j kv)) mixed (by kernel_rfl) ?_
        try simp (maxSteps:=1000000)(disch:=(first|omega|(simp only [qI,qJ,qK]<;>omega)|exact qL _ | (refine hnb _ ?_;first | omega | (simp only [World.size_alloc,size_wr,size_drew] <;> omega)))) only [go_sem,↓reduceIte,n0,reduceCtorEq,n1,n2,n3,n4,n5,i0,i1,i2,i3,i4,i5,i6,i7,hb8,hl8,ht8,hxe8,Int.toNat_natCast,Nat.mul_one,hq0,hq1,hq2,hq3,hrc0_0,hrc0_2,hrc0_3,hrc0_20,hri]
        refine ⟨?_,?_⟩
        · skip
          have hxq9 := (Upd.refl _ _ : Upd (ownB (.slice av j kv)) w8.drew w8.drew).blk_some (show blk w8.drew be = _ from hxe8) (hnb _ (.inl (by omega)))
          refine (tellX0_fn (d := d) (ok := ok) y ce w8.drew (b := be) (o := oe + j * 4) hxq9 (fun k hk => by have := hqe k hk;rw [← Nat.add_assoc] at this;exact this) ((RepS_lay true _ _).keep (Rep1_part.1 hRe) ((((hX8.drew).mono fun _ h => h.elim).trans (Upd.refl _ _) : Upd (ownB (.slice av j kv)) w w8.drew).keeps fun b hb _ => hnb b (.inl (by omega)))) (hgy.2.2 rfl)).mono ?_
          rintro _ w9 ⟨⟨c9,rfl,hc9⟩,hEx9⟩
          obtain ⟨T9,hT9⟩ : ∃ T,T = tlP (d + 1) fs_X0 y := ⟨_,rfl⟩
          replace hc9 : TreeC (fun b => w8.drew.heap.size ≤ b) w9 T9 c9 := by rw [hT9];exact hc9
          obtain ⟨vS9,vL9,vU9,rfl,hn9,hS9,hLL9,hUU9⟩ := hc9.inv
          have k1_9 := hS9.flat
          have k2_9 := SlR.flat hLL9
          have k3_9 := SlR.flat hUU9
          have hP9 : Upd (ownB (.slice av j kv)) w8.drew w9 := (Upd.refl _ _).trans (hEx9.mono fun _ h => h.elim)
          have hsq9 := hEx9.size
          try simp only [size_drew] at hsq9
          refine ⟨hP9,?_⟩
          try simp (maxSteps:=1000000)(disch:=(first|omega|(simp only [qI,qJ,qK]<;>omega)|exact qL _ | (refine hnb _ ?_;first | omega | (simp only [World.size_alloc,size_wr,size_drew] <;> omega)))) only [go_sem,↓reduceIte,n0,reduceCtorEq,n1,n2,n3,n4,n5,i0,i1,i2,i3,i4,i5,i6,i7,hb8,hl8,ht8,hxe8,Int.toNat_natCast,Nat.mul_one,hq0,hq1,hq2,hq3,hrc0_0,hrc0_2,hrc0_3,hrc0_20,hri,k1_9,k2_9,k3_9]
          have hP10 : Upd (ownB (.slice av j kv)) w8.drew (w9.alloc (.cells #[.int .i64 0,.slice none 0 0,.bool false,.slice none 0 0,.slice none 0 0] 26)) := show Upd (ownB (.slice av j kv)) w8.drew (w9.alloc (.cells #[.int .i64 0,.slice none 0 0,.bool false,.slice none 0 0,.slice none 0 0] 26)) from (hP9).alloc _
          have hn10 : blk (w9.alloc (.cells #[.int .i64 0,.slice none 0 0,.bool false,.slice none 0 0,.slice none 0 0] 26)) w9.heap.size = some (#[.int .i64 0,.slice none 0 0,.bool false,.slice none 0 0,.slice none 0 0],26,(0,0)) := show blk (w9.alloc (.cells #[.int .i64 0,.slice none 0 0,.bool false,.slice none 0 0,.slice none 0 0] 26)) w9.heap.size = some (#[.int .i64 0,.slice none 0 0,.bool false,.slice none 0 0,.slice none 0 0],26,(0,0)) from blk_alloc_new rfl
          have hsq10 : (w9.alloc (.cells #[.int .i64 0,.slice none 0 0,.bool false,.slice none 0 0,.slice none 0 0] 26)).heap.size = w9.heap.size + 1 := show (w9.alloc (.cells #[.int .i64 0,.slice none 0 0,.bool false,.slice none 0 0,.slice none 0 0] 26)).heap.size = w9.heap.size + 1 from World.size_alloc _ _
          have hEx10 : Ext w9 (w9.alloc (.cells #[.int .i64 0,.slice none 0 0,.bool false,.slice none 0 0,.slice none 0 0] 26)) := show Ext w9 (w9.alloc (.cells #[.int .i64 0,.slice none 0 0,.bool false,.slice none 0 0,.slice none 0 0] 26)) from Upd.alloc (Upd.refl _ _) _
          refine ⟨hP10,?_⟩
          try simp only [List.append_nil]
          generalize (w9.alloc (.cells #[.int .i64 0,.slice none 0 0,.bool false,.slice none 0 0,.slice none 0 0] 26)) = w10 at *
          try simp only [size_drew] at hsq10
          have hEw11 : Ext w3 w10 := ((hk8.drew.trans hEx9).trans hEx10)
          have hzw11 := hEw11.size
          obtain ⟨css,hown,hall⟩ := (hg.ext hEw11).ex
          have hcl := hall.1
          rw [hlj] at hcl
          have hx11 : TreeC (fun b => (fun b => w1.heap.size ≤ b) b ∧ b ≠ w.heap.size + 1 ∧ ¬ ownB (.slice av j kv) b) w10 ((tl1 (tlP (d + 1)) fDescribeConfigsRequest_0.of fDescribeConfigsRequest_0.sub) y) [.int .i64 T9.n,vS9,.bool T9.null,vL9,vU9] := by
            rw [show (tl1 (tlP (d + 1)) fDescribeConfigsRequest_0.of fDescribeConfigsRequest_0.sub) y = _ from hT9.symm]
            exact TreeC.weaken (fun b _ hk => ⟨by omega,by omega,hnb b (.inr (by omega))⟩) (TreeC.weaken (ok' := fun b => w3.heap.size ≤ b) (fun b _ hk => by have hk' : w8.drew.heap.size ≤ b := hk;(try simp only [size_drew] at hk');omega) (TreeC.keep (Ext.keeps hEx10 _) hc9))
          refine wp_append ap_23_23 (m := 1) (news := [.int .i64 0,.slice none 0 0,.bool false,.slice none 0 0,.slice none 0 0]) (n := css.length) (cs := css.flatten) (v := (.slice av j kv)) ?_ rfl hown.1 (all2_flat_tree hall) (Src.blk (fr := (0,0)) (T := 26) hn10 rfl rfl) ?_ ?_ ?_
          · first | rfl | simp (maxSteps:=1000000)(disch:=(first|omega|(simp only [qI,qJ,qK]<;>omega)|exact qL _)) only [go_sem,↓reduceIte,n0,reduceCtorEq,n1,n2,n3,n4,n5,i0,i1,i2,i3,i4,i5,i6,i7]
          · omega
          · omega
          intro v' w11 ho hu hfr
          have hP11 := (hP10 : Upd (ownB (.slice av j kv)) w8.drew w10).trans hu
          have hzq11 := hP11.size
          simp only [size_drew] at hzq11
          have hlq11 := hP11.blk_some (show blk w8.drew (w.heap.size + 1) = _ from hl8) (hnb _ (.inl (by omega)))
          rcases ho.2 with ⟨_,h⟩ | ⟨g,cap,rest,fr,hv',hg',hbg,hlen,hth,hle⟩
          · exact absurd h (Nat.succ_ne_zero _)
          subst hv'
          have hgne : ¬ g = w.heap.size + 1 := fun h => (hfr g ⟨_,_,_,rfl,rfl⟩).elim (fun h' => hnb _ (.inl (by omega)) (h ▸ h')) (fun h' => by omega)
          have hfl : css.flatten.length = css.length * 5 := flatten_len hown.2
          have hlen2 : (css.flatten ++ ([.int .i64 0,.slice none 0 0,.bool false,.slice none 0 0,.slice none 0 0] : List Value) ++ rest).length = cap * 5 := by simp only [List.length_append] at hlen ⊢;omega
          obtain ⟨XX,hXX⟩ : ∃ X : Array Value,X = (css.flatten ++ ([.int .i64 0,.slice none 0 0,.bool false,.slice none 0 0,.slice none 0 0] : List Value) ++ rest).toArray := ⟨_,rfl⟩
          have hbgX : blk w11 g = some (XX,26,fr) := by rw [hXX];exact hbg
          have hXsz : XX.size = cap * 5 := by rw [hXX,List.size_toArray];exact hlen2
          have hth2 : thaw fr (css.length * 5) 5 = true := thaw_of hth (by omega)
          have hst : css.length * 5 + 5 ≤ XX.size := by omega
          have hset := Own.setlast (cs := [.int .i64 T9.n,vS9,.bool T9.null,vL9,vU9]) ho rfl rfl
          have hu2 : Upd (ownB (.slice av j kv)) w10 (wr w11 g (css.length * 5) [.int .i64 T9.n,vS9,.bool T9.null,vL9,vU9]) := hu.wr _ _ ((hfr g ⟨_,_,_,rfl,rfl⟩).symm)
          have hg2 := GrowT.snoc hown hall hx11 hu2 hfr hset
          have hcj : css.length = j := by first | exact hcl.symm.trans hlj | omega
          simp only [hcj] at hth2 hst hset hu2 hg2
          refine ⟨hP11,?_⟩
          try simp (maxSteps:=1000000)(disch:=(first|omega|(simp only [qI,qJ,qK]<;>omega)|exact qL _ | (refine hnb _ ?_;first | omega | (simp only [World.size_alloc,size_wr,size_drew] <;> omega)))) only [go_sem,↓reduceIte,n0,reduceCtorEq,n1,n2,n3,n4,n5,i0,i1,i2,i3,i4,i5,i6,i7,hlq11,hbgX,hth2,hst,hcj,Int.toNat_natCast,Nat.mul_one,k1_9,k2_9,k3_9,hrc0_0,hrc0_2,hrc0_3,hrc0_20,hri]
          repeat ((first | refine qA rfl ?_|refine qB ?_|refine qC rfl ?_|refine qD ?_|refine qE ?_|refine qF ?_|refine qG ?_|refine qH ?_);try simp (maxSteps:=1000000)(disch:=(first|omega|(simp only [qI,qJ,qK]<;>omega)|exact qL _)) only [go_sem,↓reduceIte,n0,reduceCtorEq,n1,n2,n3,n4,n5,i0,i1,i2,i3,i4,i5,i6,i7,hlq11,hbgX,hth2,hst,hcj,Int.toNat_natCast,Nat.mul_one,k1_9,k2_9,k3_9,hrc0_0,hrc0_2,hrc0_3,hrc0_20,hri])
          refine ⟨⟨(by simp (maxSteps:=1000000)(disch:=(first|omega|(simp only [qI,qJ,qK]<;>omega)|exact qL _)) only [go_sem,↓reduceIte,n0,reduceCtorEq,n1,n2,n3,n4,n5,i0,i1,i2,i3,i4,i5,i6,i7,Holds_nil,Holds_cons,hrc0_0,hrc0_2,hrc0_3,hrc0_20,hri]),j + 1,(by simp (maxSteps:=1000000)(disch:=(first|omega|(simp only [qI,qJ,qK]<;>omega)|exact qL _)) only [go_sem,↓reduceIte,n0,reduceCtorEq,n1,n2,n3,n4,n5,i0,i1,i2,i3,i4,i5,i6,i7,hrc0_0,hrc0_2,hrc0_3,hrc0_20,hri];all_goals rfl),.slice (some ⟨g,0,none⟩) (j + 1) cap,by omega,?_,?_,?_⟩,?_⟩
          · rw [blk_wr_ne (by omega),blk_wr_eq,hlq11];rfl
          · rw [hcat,List.map_append,wr_comm (Ne.symm hgne)]
            exact hg2.upd ((Upd.refl _ _).wr _ _ (.inr rfl)) (fun h => hgne (ownB_row h).symm)
          · rw [wr_comm (Ne.symm hgne)]
            refine Upd.wr ?_ _ _ (.inr rfl)
            exact (hUk.more ((hEw11.mono fun _ h => h.elim).trans hu2) fun b hb h => absurd h (hnb b (.inl hb)))
          · try simp (maxSteps:=1000000)(disch:=(first|omega|(simp only [qI,qJ,qK]<;>omega)|exact qL _)) only [go_sem,↓reduceIte,n0,reduceCtorEq,n1,n2,n3,n4,n5,i0,i1,i2,i3,i4,i5,i6,i7,hrc0_0,hrc0_2,hrc0_3,hrc0_20,hri]
            simp only [RowKit.intOf];omega
        · skip
          have hP12 : Upd (ownB (.slice av j kv)) w8.drew (w8.alloc (.cells #[.int .i64 0,.slice none 0 0,.bool false,.slice none 0 0,.slice none 0 0] 26)).drew := show Upd (ownB (.slice av j kv)) w8.drew (w8.drew.alloc (.cells #[.int .i64 0,.slice none 0 0,.bool false,.slice none 0 0,.slice none 0 0] 26)) from (Upd.refl _ _).alloc _
          have hn12 : blk (w8.alloc (.cells #[.int .i64 0,.slice none 0 0,.bool false,.slice none 0 0,.slice none 0 0] 26)).drew w8.drew.heap.size = some (#[.int .i64 0,.slice none 0 0,.bool false,.slice none 0 0,.slice none 0 0],26,(0,0)) := show blk (w8.drew.alloc (.cells #[.int .i64 0,.slice none 0 0,.bool false,.slice none 0 0,.slice none 0 0] 26)) w8.drew.heap.size = some (#[.int .i64 0,.slice none 0 0,.bool false,.slice none 0 0,.slice none 0 0],26,(0,0)) from blk_alloc_new rfl
          have hsq12 : (w8.alloc (.cells #[.int .i64 0,.slice none 0 0,.bool false,.slice none 0 0,.slice none 0 0] 26)).drew.heap.size = w8.drew.heap.size + 1 := show (w8.drew.alloc (.cells #[.int .i64 0,.slice none 0 0,.bool false,.slice none 0 0,.slice none 0 0] 26)).heap.size = w8.drew.heap.size + 1 from World.size_alloc _ _
          have hEx12 : Ext w8.drew (w8.alloc (.cells #[.int .i64 0,.slice none 0 0,.bool false,.slice none 0 0,.slice none 0 0] 26)).drew := show Ext w8.drew (w8.drew.alloc (.cells #[.int .i64 0,.slice none 0 0,.bool false,.slice none 0 0,.slice none 0 0] 26)) from Upd.alloc (Upd.refl _ _) _
          refine ⟨hP12,?_⟩
          try simp only [List.append_nil]
          generalize (w8.alloc (.cells #[.int .i64 0,.slice none 0 0,.bool false,.slice none 0 0,.slice none 0 0] 26)).drew = w12 at *
          try simp only [size_drew] at hsq12
          have hxq13 := (hP12 : Upd (ownB (.slice av j kv)) w8.drew w12).blk_some (show blk w8.drew be = _ from hxe8) (hnb _ (.inl (by omega)))
          refine (tellX0_fn (d := d) (ok := ok) y ce w12 (b := be) (o := oe + j * 4) hxq13 (fun k hk => by have := hqe k hk;rw [← Nat.add_assoc] at this;exact this) ((RepS_lay true _ _).keep (Rep1_part.1 hRe) ((((hX8.drew).mono fun _ h => h.elim).trans (hP12) : Upd (ownB (.slice av j kv)) w w12).keeps fun b hb _ => hnb b (.inl (by omega)))) (hgy.2.2 rfl)).mono ?_
          rintro _ w13 ⟨⟨c13,rfl,hc13⟩,hEx13⟩
          obtain ⟨T13,hT13⟩ : ∃ T,T = tlP (d + 1) fs_X0 y := ⟨_,rfl⟩
          replace hc13 : TreeC (fun b => w12.heap.size ≤ b) w13 T13 c13 := by rw [hT13];exact hc13
          obtain ⟨vS13,vL13,vU13,rfl,hn13,hS13,hLL13,hUU13⟩ := hc13.inv
          have k1_13 := hS13.flat
          have k2_13 := SlR.flat hLL13
          have k3_13 := SlR.flat hUU13
          have hP13 : Upd (ownB (.slice av j kv)) w8.drew w13 := (hP12).trans (hEx13.mono fun _ h => h.elim)
          have hsq13 := hEx13.size
          try simp only [size_drew] at hsq13
          refine ⟨hP13,?_⟩
          try simp (maxSteps:=1000000)(disch:=(first|omega|(simp only [qI,qJ,qK]<;>omega)|exact qL _ | (refine hnb _ ?_;first | omega | (simp only [World.size_alloc,size_wr,size_drew] <;> omega)))) only [go_sem,↓reduceIte,n0,reduceCtorEq,n1,n2,n3,n4,n5,i0,i1,i2,i3,i4,i5,i6,i7,hb8,hl8,ht8,hxe8,Int.toNat_natCast,Nat.mul_one,hq0,hq1,hq2,hq3,hrc0_0,hrc0_2,hrc0_3,hrc0_20,hri,k1_13,k2_13,k3_13]
          have hEw14 : Ext w3 w13 := ((hk8.drew.trans hEx12).trans hEx13)
          have hzw14 := hEw14.size
          obtain ⟨css,hown,hall⟩ := (hg.ext hEw14).ex
          have hcl := hall.1
          rw [hlj] at hcl
          have hx14 : TreeC (fun b => (fun b => w1.heap.size ≤ b) b ∧ b ≠ w.heap.size + 1 ∧ ¬ ownB (.slice av j kv) b) w13 ((tl1 (tlP (d + 1)) fDescribeConfigsRequest_0.of fDescribeConfigsRequest_0.sub) y) [.int .i64 T13.n,vS13,.bool T13.null,vL13,vU13] := by
            rw [show (tl1 (tlP (d + 1)) fDescribeConfigsRequest_0.of fDescribeConfigsRequest_0.sub) y = _ from hT13.symm]
            exact TreeC.weaken (fun b _ hk => ⟨by omega,by omega,hnb b (.inr (by omega))⟩) (TreeC.weaken (ok' := fun b => w3.heap.size ≤ b) (fun b _ hk => by have hk' : w12.heap.size ≤ b := hk;(try simp only [size_drew] at hk');omega) hc13)
          refine wp_append ap_23_23 (m := 1) (news := [.int .i64 0,.slice none 0 0,.bool false,.slice none 0 0,.slice none 0 0]) (n := css.length) (cs := css.flatten) (v := (.slice av j kv)) ?_ rfl hown.1 (all2_flat_tree hall) (Src.blk (fr := (0,0)) (T := 26) (hEx13.blk_some hn12 id) rfl rfl) ?_ ?_ ?_
          · first | rfl | simp (maxSteps:=1000000)(disch:=(first|omega|(simp only [qI,qJ,qK]<;>omega)|exact qL _)) only [go_sem,↓reduceIte,n0,reduceCtorEq,n1,n2,n3,n4,n5,i0,i1,i2,i3,i4,i5,i6,i7]
          · omega
          · omega
          intro v' w14 ho hu hfr
          have hP14 := (hP13 : Upd (ownB (.slice av j kv)) w8.drew w13).trans hu
          have hzq14 := hP14.size
          simp only [size_drew] at hzq14
          have hlq14 := hP14.blk_some (show blk w8.drew (w.heap.size + 1) = _ from hl8) (hnb _ (.inl (by omega)))
          rcases ho.2 with ⟨_,h⟩ | ⟨g,cap,rest,fr,hv',hg',hbg,hlen,hth,hle⟩
          · exact absurd h (Nat.succ_ne_zero _)
          subst hv'
          have hgne : ¬ g = w.heap.size + 1 := fun h => (hfr g ⟨_,_,_,rfl,rfl⟩).elim (fun h' => hnb _ (.inl (by omega)) (h ▸ h')) (fun h' => by omega)
          have hfl : css.flatten.length = css.length * 5 := flatten_len hown.2
          have hlen2 : (css.flatten ++ ([.int .i64 0,.slice none 0 0,.bool false,.slice none 0 0,.slice none 0 0] : List Value) ++ rest).length = cap * 5 := by simp only [List.length_append] at hlen ⊢;omega
          obtain ⟨XX,hXX⟩ : ∃ X : Array Value,X = (css.flatten ++ ([.int .i64 0,.slice none 0 0,.bool false,.slice none 0 0,.slice none 0 0] : List Value) ++ rest).toArray := ⟨_,rfl⟩
          have hbgX : blk w14 g = some (XX,26,fr) := by rw [hXX];exact hbg
          have hXsz : XX.size = cap * 5 := by rw [hXX,List.size_toArray];exact hlen2
          have hth2 : thaw fr (css.length * 5) 5 = true := thaw_of hth (by omega)
          have hst : css.length * 5 + 5 ≤ XX.size := by omega
          have hset := Own.setlast (cs := [.int .i64 T13.n,vS13,.bool T13.null,vL13,vU13]) ho rfl rfl
          have hu2 : Upd (ownB (.slice av j kv)) w13 (wr w14 g (css.length * 5) [.int .i64 T13.n,vS13,.bool T13.null,vL13,vU13]) := hu.wr _ _ ((hfr g ⟨_,_,_,rfl,rfl⟩).symm)
          have hg2 := GrowT.snoc hown hall hx14 hu2 hfr hset
          have hcj : css.length = j := by first | exact hcl.symm.trans hlj | omega
          simp only [hcj] at hth2 hst hset hu2 hg2
          refine ⟨hP14,?_⟩
          try simp (maxSteps:=1000000)(disch:=(first|omega|(simp only [qI,qJ,qK]<;>omega)|exact qL _ | (refine hnb _ ?_;first | omega | (simp only [World.size_alloc,size_wr,size_drew] <;> omega)))) only [go_sem,↓reduceIte,n0,reduceCtorEq,n1,n2,n3,n4,n5,i0,i1,i2,i3,i4,i5,i6,i7,hlq14,hbgX,hth2,hst,hcj,Int.toNat_natCast,Nat.mul_one,k1_13,k2_13,k3_13,hrc0_0,hrc0_2,hrc0_3,hrc0_20,hri]
          repeat ((first | refine qA rfl ?_|refine qB ?_|refine qC rfl ?_|refine qD ?_|refine qE ?_|refine qF ?_|refine qG ?_|refine qH ?_);try simp (maxSteps:=1000000)(disch:=(first|omega|(simp only [qI,qJ,qK]<;>omega)|exact qL _)) only [go_sem,↓reduceIte,n0,reduceCtorEq,n1,n2,n3,n4,n5,i0,i1,i2,i3,i4,i5,i6,i7,hlq14,hbgX,hth2,hst,hcj,Int.toNat_natCast,Nat.mul_one,k1_13,k2_13,k3_13,hrc0_0,hrc0_2,hrc0_3,hrc0_20,hri])
          refine ⟨⟨(by simp (maxSteps:=1000000)(disch:=(first|omega|(simp only [qI,qJ,qK]<;>omega)|exact qL _)) only [go_sem,↓reduceIte,n0,reduceCtorEq,n1,n2,n3,n4,n5,i0,i1,i2,i3,i4,i5,i6,i7,Holds_nil,Holds_cons,hrc0_0,hrc0_2,hrc0_3,hrc0_20,hri]),j + 1,(by simp (maxSteps:=1000000)(disch:=(first|omega|(simp only [qI,qJ,qK]<;>omega)|exact qL _)) only [go_sem,↓reduceIte,n0,reduceCtorEq,n1,n2,n3,n4,n5,i0,i1,i2,i3,i4,i5,i6,i7,hrc0_0,hrc0_2,hrc0_3,hrc0_20,hri];all_goals rfl),.slice (some ⟨g,0,none⟩) (j + 1) cap,by omega,?_,?_,?_⟩,?_⟩
          · rw [blk_wr_ne (by omega),blk_wr_eq,hlq14];rfl
          · rw [hcat,List.map_append,wr_comm (Ne.symm hgne)]
            exact hg2.upd ((Upd.refl _ _).wr _ _ (.inr rfl)) (fun h => hgne (ownB_row h).symm)
          · rw [wr_comm (Ne.symm hgne)]
            refine Upd.wr ?_ _ _ (.inr rfl)
            exact (hUk.more ((hEw14.mono fun _ h => h.elim).trans hu2) fun b hb h => absurd h (hnb b (.inl hb)))
          · try simp (maxSteps:=1000000)(disch:=(first|omega|(simp only [qI,qJ,qK]<;>omega)|exact qL _)) only [go_sem,↓reduceIte,n0,reduceCtorEq,n1,n2,n3,n4,n5,i0,i1,i2,i3,i4,i5,i6,i7,hrc0_0,hrc0_2,hrc0_3,hrc0_20,hri]
            simp only [RowKit.intOf];omega
    · have hjn : j = L0.length := by omega
      subst hjn
      rw [List.take_length] at hg
      repeat ((first | refine qA rfl ?_|refine qB ?_|refine qC rfl ?_|refine qD ?_|refine qE ?_|refine qF ?_|refine qG ?_|refine qH ?_);try simp (maxSteps:=1000000)(disch:=(first|omega|(simp only [qI,qJ,qK]<;>omega)|exact qL _)) only [go_sem,↓reduceIte,n0,reduceCtorEq,n1,n2,n3,n4,n5,i0,i1,i2,i3,i4,i5,i6,i7,hrc0_0,hrc0_2,hrc0_3,hrc0_20,hri])
      exact ⟨(by simp (maxSteps:=1000000)(disch:=(first|omega|(simp only [qI,qJ,qK]<;>omega)|exact qL _)) only [go_sem,↓reduceIte,n0,reduceCtorEq,n1,n2,n3,n4,n5,i0,i1,i2,i3,i4,i5,i6,i7,Holds_nil,Holds_cons,hrc0_0,hrc0_2,hrc0_3,hrc0_20,hri]),v,hl3,hg,hUk⟩
  rintro ρ w15 ⟨⟨hrd0_0,hrd0_2,hrd0_3,hrd0_20,-⟩,v,hl15,hg15,hUz15⟩
  have hV15 : Upd (fun b => b = w.heap.size + 1 ∨ b = w.heap.size + 2) w2 w15 := hUz15.mono fun _ h => .inl h
  have hU15 : Upd (fun b => b = w.heap.size + 1 ∨ b = w.heap.size + 2) w1 w15 := hU2.trans hV15
  have hz15 := hU15.size
  have hX15 : Ext w w15 := hE1.more hU15 fun b hb h => by omega
  have hb15 := hX15.blk_some hb id
  have ht15 := hUz15.blk_some ht2 (by omega)
  obtain ⟨av0,kv0,hvs,_⟩ := hg15.shape
  subst hvs
  have hf0 : TreeC (fun b => w1.heap.size ≤ b) w15 (.mk 0 [] (t.at 0).null (L0.map (tl1 (tlP (d + 1)) fDescribeConfigsRequest_0.of fDescribeConfigsRequest_0.sub)) []) [.int .i64 0,.slice none 0 0,.bool (t.at 0).null,.slice av0 (List.map (tl1 (tlP (d + 1)) fDescribeConfigsRequest_0.of fDescribeConfigsRequest_0.sub) L0).length kv0,.slice none 0 0] := TreeC.intro rfl (BytesV.nil _ _) (hg15.trees (fun _ _ h => h) (fun b hb => by have := hz2;omega)) (tagsN _ _)
  repeat ((first | refine qA rfl ?_|refine qB ?_|refine qC rfl ?_|refine qD ?_|refine qE ?_|refine qF ?_|refine qG ?_|refine qH ?_);try simp (maxSteps:=1000000)(disch:=(first|omega|(simp only [qI,qJ,qK]<;>omega)|exact qL _)) only [go_sem,↓reduceIte,n0,reduceCtorEq,n1,n2,n3,n4,n5,i0,i1,i2,i3,i4,i5,i6,i7,hb15,hl15,ht15,hq0,hq1,hq2,hq3,hrd0_0,hrd0_2,hrd0_3])
  refine W.drawR (.take 0 (.take 1 (.take 2 (.take 3 (.take 4 (.take 5 (.only 6 (.take 7 (.last 8))))))))) (NoB) mixed (by kernel_rfl) ?_
  try simp (maxSteps:=1000000)(disch:=(first|omega|(simp only [qI,qJ,qK]<;>omega)|exact qL _)) only [go_sem,↓reduceIte,n0,reduceCtorEq,n1,n2,n3,n4,n5,i0,i1,i2,i3,i4,i5,i6,i7,hb15,hl15,ht15,hq0,hq1,hq2,hq3,hrd0_0,hrd0_2,hrd0_3]
  refine (boolTree_fn _ w15.drew).mono ?_
  rintro _ w16 ⟨rfl,hEx16⟩
  have hbe16 : (if decide ((t.at 1).n % 2 = 1) = true then 1 else 0 : Int) = (if (t.at 1).n % 2 = 1 then 1 else 0) := by by_cases h : (t.at 1).n % 2 = 1 <;> simp [h]
  have hP16 : Upd NoB w15.drew w16 := (Upd.refl _ _).trans (hEx16.mono fun _ h => h.elim)
  have hsq16 := hEx16.size
  try simp only [size_drew] at hsq16
  refine ⟨hP16,?_⟩
  try simp (maxSteps:=1000000)(disch:=(first|omega|(simp only [qI,qJ,qK]<;>omega)|exact qL _)) only [go_sem,↓reduceIte,n0,reduceCtorEq,n1,n2,n3,n4,n5,i0,i1,i2,i3,i4,i5,i6,i7,hb15,hl15,ht15,hq0,hq1,hq2,hq3,hrd0_0,hrd0_2,hrd0_3]
  have hlq17 := hP16.blk_some (show blk w15.drew (w.heap.size + 1) = _ from hl15) id
  have hx17 : Upd (fun b => b = w.heap.size + 1 ∨ b = w.heap.size + 2) w15 w16 := ((Upd.refl _ _).drew).trans (hP16.mono fun _ h => h.elim)
  try simp (maxSteps:=1000000)(disch:=(first|omega|(simp only [qI,qJ,qK]<;>omega)|exact qL _)) only [go_sem,↓reduceIte,n0,reduceCtorEq,n1,n2,n3,n4,n5,i0,i1,i2,i3,i4,i5,i6,i7,hlq17]
  generalize hw17 : wr w16 (w.heap.size + 1) 5 [.int .i64 (if decide ((t.at 1).n % 2 = 1) = true then 1 else 0 : Int),.slice none 0 0,.bool false,.slice none 0 0,.slice none 0 0] = w17
  have hl17 : blk w17 (w.heap.size + 1) = some (#[.int .i64 0,.slice none 0 0,.bool (t.at 0).null,.slice av0 (List.map (tl1 (tlP (d + 1)) fDescribeConfigsRequest_0.of fDescribeConfigsRequest_0.sub) L0).length kv0,.slice none 0 0,.int .i64 (if decide ((t.at 1).n % 2 = 1) = true then 1 else 0 : Int),.slice none 0 0,.bool false,.slice none 0 0,.slice none 0 0,.int .i64 0,.slice none 0 0,.bool false,.slice none 0 0,.slice none 0 0],26,(0,0)) := by rw [← hw17,blk_wr_eq,hlq17];rfl
  have hv17 : Upd (fun b => b = w.heap.size + 1 ∨ b = w.heap.size + 2) w16 w17 := by rw [← hw17];exact (Upd.refl _ _).wr _ _ (.inr (.inl rfl))
  have hV17 : Upd (fun b => b = w.heap.size + 1 ∨ b = w.heap.size + 2) w15 w17 := hx17.trans hv17
  have hU17 : Upd (fun b => b = w.heap.size + 1 ∨ b = w.heap.size + 2) w1 w17 := hU15.trans hV17
  have hz17 := hU17.size
  have hX17 : Ext w w17 := hE1.more hU17 fun b hb h => by omega
  have hb17 := hX17.blk_some hb id
  have ht17 : blk w17 (w.heap.size + 2) = some (#[.int .i64 0,.slice none 0 0,.bool false,.slice (some ⟨w.heap.size + 1,0,none⟩) 3 3,.slice none 0 0],26,(0,0)) := by
    rw [← hw17,blk_wr_ne (by omega)]
    exact hP16.blk_some (show blk w15.drew (w.heap.size + 2) = _ from ht15) id
  clear hw17
  have hf1 : TreeC (fun b => w1.heap.size ≤ b) w17 (.num (if (t.at 1).n % 2 = 1 then 1 else 0)) [.int .i64 (if decide ((t.at 1).n % 2 = 1) = true then 1 else 0 : Int),.slice none 0 0,.bool false,.slice none 0 0,.slice none 0 0] := (TreeC.keep (hv17.keeps fun b hb hk e => by have hk' : w1.heap.size ≤ b := hk;omega) (by rw [hbe16];exact TreeC.intro (by split <;> rfl) (BytesV.nil _ _) (treesN _ _) (tagsN _ _) : TreeC (fun b => w1.heap.size ≤ b) w16 (.num (if (t.at 1).n % 2 = 1 then 1 else 0)) [.int .i64 (if decide ((t.at 1).n % 2 = 1) = true then 1 else 0 : Int),.slice none 0 0,.bool false,.slice none 0 0,.slice none 0 0]))
  repeat ((first | refine qA rfl ?_|refine qB ?_|refine qC rfl ?_|refine qD ?_|refine qE ?_|refine qF ?_|refine qG ?_|refine qH ?_);try simp (maxSteps:=1000000)(disch:=(first|omega|(simp only [qI,qJ,qK]<;>omega)|exact qL _)) only [go_sem,↓reduceIte,n0,reduceCtorEq,n1,n2,n3,n4,n5,i0,i1,i2,i3,i4,i5,i6,i7,hb17,hl17,ht17,hq0,hq1,hq2,hq3,hrd0_0,hrd0_2,hrd0_3])
  refine W.drawR (.take 0 (.take 1 (.take 2 (.take 3 (.take 4 (.take 5 (.only 6 (.take 7 (.last 8))))))))) (NoB) mixed (by kernel_rfl) ?_
  try simp (maxSteps:=1000000)(disch:=(first|omega|(simp only [qI,qJ,qK]<;>omega)|exact qL _)) only [go_sem,↓reduceIte,n0,reduceCtorEq,n1,n2,n3,n4,n5,i0,i1,i2,i3,i4,i5,i6,i7,hb17,hl17,ht17,hq0,hq1,hq2,hq3,hrd0_0,hrd0_2,hrd0_3]
  refine (boolTree_fn _ w17.drew).mono ?_
  rintro _ w18 ⟨rfl,hEx18⟩
  have hbe18 : (if decide ((t.at 2).n % 2 = 1) = true then 1 else 0 : Int) = (if (t.at 2).n % 2 = 1 then 1 else 0) := by by_cases h : (t.at 2).n % 2 = 1 <;> simp [h]
  have hP18 : Upd NoB w17.drew w18 := (Upd.refl _ _).trans (hEx18.mono fun _ h => h.elim)
  have hsq18 := hEx18.size
  try simp only [size_drew] at hsq18
  refine ⟨hP18,?_⟩
  try simp (maxSteps:=1000000)(disch:=(first|omega|(simp only [qI,qJ,qK]<;>omega)|exact qL _)) only [go_sem,↓reduceIte,n0,reduceCtorEq,n1,n2,n3,n4,n5,i0,i1,i2,i3,i4,i5,i6,i7,hb17,hl17,ht17,hq0,hq1,hq2,hq3,hrd0_0,hrd0_2,hrd0_3]
  have hlq19 := hP18.blk_some (show blk w17.drew (w.heap.size + 1) = _ from hl17) id
  have hx19 : Upd (fun b => b = w.heap.size + 1 ∨ b = w.heap.size + 2) w17 w18 := ((Upd.refl _ _).drew).trans (hP18.mono fun _ h => h.elim)
  try simp (maxSteps:=1000000)(disch:=(first|omega|(simp only [qI,qJ,qK]<;>omega)|exact qL _)) only [go_sem,↓reduceIte,n0,reduceCtorEq,n1,n2,n3,n4,n5,i0,i1,i2,i3,i4,i5,i6,i7,hlq19]
  generalize hw19 : wr w18 (w.heap.size + 1) 10 [.int .i64 (if decide ((t.at 2).n % 2 = 1) = true then 1 else 0 : Int),.slice none 0 0,.bool false,.slice none 0 0,.slice none 0 0] = w19
  have hl19 : blk w19 (w.heap.size + 1) = some (#[.int .i64 0,.slice none 0 0,.bool (t.at 0).null,.slice av0 (List.map (tl1 (tlP (d + 1)) fDescribeConfigsRequest_0.of fDescribeConfigsRequest_0.sub) L0).length kv0,.slice none 0 0,.int .i64 (if decide ((t.at 1).n % 2 = 1) = true then 1 else 0 : Int),.slice none 0 0,.bool false,.slice none 0 0,.slice none 0 0,.int .i64 (if decide ((t.at 2).n % 2 = 1) = true then 1 else 0 : Int),.slice none 0 0,.bool false,.slice none 0 0,.slice none 0 0],26,(0,0)) := by rw [← hw19,blk_wr_eq,hlq19];rfl
  have hv19 : Upd (fun b => b = w.heap.size + 1 ∨ b = w.heap.size + 2) w18 w19 := by rw [← hw19];exact (Upd.refl _ _).wr _ _ (.inr (.inl rfl))
  have hV19 : Upd (fun b => b = w.heap.size + 1 ∨ b = w.heap.size + 2) w17 w19 := hx19.trans hv19
  have hU19 : Upd (fun b => b = w.heap.size + 1 ∨ b = w.heap.size + 2) w1 w19 := hU17.trans hV19
  have hz19 := hU19.size
  have hX19 : Ext w w19 := hE1.more hU19 fun b hb h => by omega
  have hb19 := hX19.blk_some hb id
  have ht19 : blk w19 (w.heap.size + 2) = some (#[.int .i64 0,.slice none 0 0,.bool false,.slice (some ⟨w.heap.size + 1,0,none⟩) 3 3,.slice none 0 0],26,(0,0)) := by
    rw [← hw19,blk_wr_ne (by omega)]
    exact hP18.blk_some (show blk w17.drew (w.heap.size + 2) = _ from ht17) id
  clear hw19
  have hf2 : TreeC (fun b => w1.heap.size ≤ b) w19 (.num (if (t.at 2).n % 2 = 1 then 1 else 0)) [.int .i64 (if decide ((t.at 2).n % 2 = 1) = true then 1 else 0 : Int),.slice none 0 0,.bool false,.slice none 0 0,.slice none 0 0] := (TreeC.keep (hv19.keeps fun b hb hk e => by have hk' : w1.heap.size ≤ b := hk;omega) (by rw [hbe18];exact TreeC.intro (by split <;> rfl) (BytesV.nil _ _) (treesN _ _) (tagsN _ _) : TreeC (fun b => w1.heap.size ≤ b) w18 (.num (if (t.at 2).n % 2 = 1 then 1 else 0)) [.int .i64 (if decide ((t.at 2).n % 2 = 1) = true then 1 else 0 : Int),.slice none 0 0,.bool false,.slice none 0 0,.slice none 0 0]))
  repeat ((first | refine qA rfl ?_|refine qB ?_|refine qC rfl ?_|refine qD ?_|refine qE ?_|refine qF ?_|refine qG ?_|refine qH ?_);try simp (maxSteps:=1000000)(disch:=(first|omega|(simp only [qI,qJ,qK]<;>omega)|exact qL _)) only [go_sem,↓reduceIte,n0,reduceCtorEq,n1,n2,n3,n4,n5,i0,i1,i2,i3,i4,i5,i6,i7,hb19,hl19,ht19,hq0,hq1,hq2,hq3,hrd0_0,hrd0_2,hrd0_3])
  refine (EachG_fn (ok := fun b => b < w.heap.size) 164 ca_164 #[.pointer (some ⟨w.heap.size + 2,0,none⟩)] w19 (tb := b) (to := 4) hb19 hq3 ((hT.weaken fun b hb _ => hb).keep (hX19.keeps _)) (sortT_perm _) (sortT_lt hgu.2.1) (by rw [(sortT_perm t.u).length_eq];exact hgu.1)
    (fun b => b = w.heap.size + 2) (by omega) (fun b hb hk e => by have hk' : b < w.heap.size := hk;omega) (fun b hb => by have := blk_lt ht19;omega)
    (fun wl done w' => ∃ v,blk w' (w.heap.size + 2) = some (#[.int .i64 0,.slice none 0 0,.bool false,.slice (some ⟨w.heap.size + 1,0,none⟩) 3 3,v],26,(0,0)) ∧ GrowU (fun b => w1.heap.size ≤ b) wl.heap.size (w.heap.size + 2) w' 65 v done) (fun wl hE => ⟨_,hE.blk_some ht19 id,GrowU.nil _ _ _ _ _⟩) ?_).mono ?_
  · rintro wl hE done y vv wc hpre ⟨v,hbv,hg⟩ hU hvv hy
    have hz' := hE.size
    have hzu := hU.size
    have htl := blk_lt ht19
    have hpl := hpre.length_le
    simp only [List.length_append,List.length_cons,List.length_nil] at hpl
    rw [(sortT_perm t.u).length_eq] at hpl
    have hlu := hgu.1
    have hmy : y ∈ t.u := (sortT_perm t.u).mem_iff.1 (hpre.subset (by simp))
    refine (tagclDescribeConfigsRequest_fn (ok := fun b => b < w.heap.size) _ _ _ _ v done y vv wc hbv hg hzu (by omega) (hvv.keep ((hE.mono (fun _ h => h.elim) |>.trans hU : Upd (fun b => b = w.heap.size + 2) w19 wc).keeps fun b _ hk e => by have hk' : b < w.heap.size := hk;omega)) hy (hgu.2.2 y hmy) (by omega) (fun b hb => by have := hz19;omega)).mono ?_
    rintro _ w2' ⟨⟨v',h1,h2⟩,h3⟩
    exact ⟨⟨v',h1,h2⟩,hU.trans' h3 fun b hb h => h.elim id fun h => by omega⟩
  rintro _ w20 ⟨wl,hEl,⟨v,ht20,hgU⟩,hUe⟩
  have hzl := hEl.size
  obtain ⟨aU,kU,hvs,_⟩ := hgU.shape
  subst hvs
  have hV20 : Upd (fun b => b = w.heap.size + 1 ∨ b = w.heap.size + 2) w19 w20 := (hEl.mono fun _ h => h.elim).trans (hUe.mono fun _ h => .inr h)
  have hU20 : Upd (fun b => b = w.heap.size + 1 ∨ b = w.heap.size + 2) w1 w20 := hU19.trans hV20
  have hz20 := hU20.size
  have hX20 : Ext w w20 := hE1.more hU20 fun b hb h => by omega
  have hb20 := hX20.blk_some hb id
  have hl20 := (((hEl.mono fun _ h => h.elim).trans hUe : Upd (fun b => b = w.heap.size + 2) w19 w20)).blk_some hl19 (by omega)
  have hTU := hgU.tags (ok' := (fun b => w1.heap.size ≤ b)) (fun _ _ h => h) (fun b hb => by have := hz19;omega)
  repeat ((first | refine qA rfl ?_|refine qB ?_|refine qC rfl ?_|refine qD ?_|refine qE ?_|refine qF ?_|refine qG ?_|refine qH ?_);try simp (maxSteps:=1000000)(disch:=(first|omega|(simp only [qI,qJ,qK]<;>omega)|exact qL _)) only [go_sem,↓reduceIte,n0,reduceCtorEq,n1,n2,n3,n4,n5,i0,i1,i2,i3,i4,i5,i6,i7,hb20,hl20,ht20,hq0,hq1,hq2,hq3,hrd0_0,hrd0_2,hrd0_3,cellsAt_five])
  refine (sorted_fn _ _ w20 hTU (sortT_lt hgu.2.1) (by rw [(sortT_perm t.u).length_eq];exact hgu.1)).mono ?_
  rintro _ w21 hEs
  have hV21 : Upd (fun b => b = w.heap.size + 1 ∨ b = w.heap.size + 2) w20 w21 := hEs.mono fun _ h => h.elim
  have hU21 : Upd (fun b => b = w.heap.size + 1 ∨ b = w.heap.size + 2) w1 w21 := hU20.trans hV21
  have hz21 := hU21.size
  have hX21 : Ext w w21 := hE1.more hU21 fun b hb h => by omega
  have hb21 := hX21.blk_some hb id
  have hl21 := hEs.blk_some hl20 id
  have ht21 := hEs.blk_some ht20 id
  have hr21 := (hU21.blk_some hr1 (by omega))
  have hC_21 : Upd (fun b => b = w.heap.size + 1 ∨ b = w.heap.size + 2) w21 w21 := Upd.refl _ _
  have hC_20 : Upd (fun b => b = w.heap.size + 1 ∨ b = w.heap.size + 2) w20 w21 := hV21.trans hC_21
  have hC_19 : Upd (fun b => b = w.heap.size + 1 ∨ b = w.heap.size + 2) w19 w21 := hV20.trans hC_20
  have hC_17 : Upd (fun b => b = w.heap.size + 1 ∨ b = w.heap.size + 2) w17 w21 := hV19.trans hC_19
  have hC_15 : Upd (fun b => b = w.heap.size + 1 ∨ b = w.heap.size + 2) w15 w21 := hV17.trans hC_17
  have hC_2 : Upd (fun b => b = w.heap.size + 1 ∨ b = w.heap.size + 2) w2 w21 := hV15.trans hC_15
  have hC_1 : Upd (fun b => b = w.heap.size + 1 ∨ b = w.heap.size + 2) w1 w21 := hV2.trans hC_2
  have hF0 := TreeC.keep (hC_15.keeps fun b hb hk e => by have hk' : w1.heap.size ≤ b := hk;omega) hf0
  have hF1 := TreeC.keep (hC_17.keeps fun b hb hk e => by have hk' : w1.heap.size ≤ b := hk;omega) hf1
  have hF2 := TreeC.keep (hC_19.keeps fun b hb hk e => by have hk' : w1.heap.size ≤ b := hk;omega) hf2
  replace hF0 : TreeC (fun b => w1.heap.size ≤ b) w21 (tlF (tlP (d + 1)) fDescribeConfigsRequest_0 (t.at 0)) [.int .i64 0,.slice none 0 0,.bool (t.at 0).null,.slice av0 (List.map (tl1 (tlP (d + 1)) fDescribeConfigsRequest_0.of fDescribeConfigsRequest_0.sub) L0).length kv0,.slice none 0 0] := by rw [show tlF (tlP (d + 1)) fDescribeConfigsRequest_0 (t.at 0) = .mk 0 [] (t.at 0).null ((if (t.at 0).null = true then [] else (t.at 0).l).map (tl1 (tlP (d + 1)) fDescribeConfigsRequest_0.of fDescribeConfigsRequest_0.sub)) [] from rfl,← hL0];exact hF0
  replace hF1 : TreeC (fun b => w1.heap.size ≤ b) w21 (tlF (tlP (d + 1)) fDescribeConfigsRequest_1 (t.at 1)) [.int .i64 (if decide ((t.at 1).n % 2 = 1) = true then 1 else 0 : Int),.slice none 0 0,.bool false,.slice none 0 0,.slice none 0 0] := hF1
  replace hF2 : TreeC (fun b => w1.heap.size ≤ b) w21 (tlF (tlP (d + 1)) fDescribeConfigsRequest_2 (t.at 2)) [.int .i64 (if decide ((t.at 2).n % 2 = 1) = true then 1 else 0 : Int),.slice none 0 0,.bool false,.slice none 0 0,.slice none 0 0] := hF2
  have hTL : TreesV (fun b => (fun b => w1.heap.size ≤ b) b ∨ b = w.heap.size + 1) w21 (.slice (some ⟨w.heap.size + 1,0,none⟩) 3 3) [tlF (tlP (d + 1)) fDescribeConfigsRequest_0 (t.at 0),tlF (tlP (d + 1)) fDescribeConfigsRequest_1 (t.at 1),tlF (tlP (d + 1)) fDescribeConfigsRequest_2 (t.at 2)] := by
    refine ⟨[[.int .i64 0,.slice none 0 0,.bool (t.at 0).null,.slice av0 (List.map (tl1 (tlP (d + 1)) fDescribeConfigsRequest_0.of fDescribeConfigsRequest_0.sub) L0).length kv0,.slice none 0 0],[.int .i64 (if decide ((t.at 1).n % 2 = 1) = true then 1 else 0 : Int),.slice none 0 0,.bool false,.slice none 0 0,.slice none 0 0],[.int .i64 (if decide ((t.at 2).n % 2 = 1) = true then 1 else 0 : Int),.slice none 0 0,.bool false,.slice none 0 0,.slice none 0 0]],⟨_,3,rfl,Nat.le_refl _,(by intro cs hm;simp only [List.mem_cons,List.not_mem_nil,or_false] at hm;rcases hm with rfl | rfl | rfl <;> rfl),.inr ⟨_,rfl,rfl,.inr rfl,_,hl21,fun i hi => by rw [Nat.zero_add,List.getElem?_toArray];rfl⟩⟩,rfl,fun i h1 h2 => ?_⟩
    match i,h1 with
    | 0,_ => exact TreeC.weaken (fun b _ hk => .inl hk) hF0
    | 1,_ => exact TreeC.weaken (fun b _ hk => .inl hk) hF1
    | 2,_ => exact TreeC.weaken (fun b _ hk => .inl hk) hF2
  repeat ((first | refine qA rfl ?_|refine qB ?_|refine qC rfl ?_|refine qD ?_|refine qE ?_|refine qF ?_|refine qG ?_|refine qH ?_);try simp (maxSteps:=1000000)(disch:=(first|omega|(simp only [qI,qJ,qK]<;>omega)|exact qL _)) only [go_sem,↓reduceIte,n0,reduceCtorEq,n1,n2,n3,n4,n5,i0,i1,i2,i3,i4,i5,i6,i7,hb21,hl21,ht21,hq0,hq1,hq2,hq3,hrd0_0,hrd0_2,hrd0_3,hr21,cellsAt_five])
  refine ⟨⟨_,rfl,?_⟩,hX21.wr _ _ (.inl (Nat.le_refl _))⟩
  have hUr : Upd (fun b => b = w.heap.size) w21 (wr w21 w.heap.size 0 [.int .i64 0,.slice none 0 0,.bool false,.slice (some ⟨w.heap.size + 1,0,none⟩) 3 3,.slice aU (sortT t.u).length kU]) := (Upd.refl _ _).wr _ _ (.inr rfl)
  have hTU2 := hTU.keep (hEs.keeps _)
  exact TreeC.intro rfl (BytesV.nil _ _) ((hTL.keep (hUr.keeps fun b _ hk e => by rcases hk with hk | hk <;> omega)).weaken fun b _ hk => by rcases hk with hk | hk <;> omega) ((hTU2.keep (hUr.keeps fun b _ hk e => by omega)).weaken fun b _ hk => by omega)
end Ms

