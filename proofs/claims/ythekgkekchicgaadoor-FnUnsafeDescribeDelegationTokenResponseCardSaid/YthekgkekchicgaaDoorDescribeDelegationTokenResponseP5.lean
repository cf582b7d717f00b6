/- A part of the proof: see the last text. -/
import Derived.Test.YthekgkekchicgaaDoorC07
import Derived.Test.YthekgkekchicgaaDoorDescribeDelegationTokenResponseP0
set_option linter.unusedSimpArgs false
set_option linter.unusedVariables false
namespace Ms
open Go.World renaming size_alloc → qI
open Ms renaming size_wr → qJ,size_drew → qK,not_noB → qL
open W renaming seqR → qA,seq → qB,regR → qC,condK → qD,block → qE,skip → qF,ret → qG,exit → qH
open Nat renaming reduceEqDiff → n0,reduceAdd → n1,reduceMul → n2,reduceSub → n3,reduceLT → n4,reduceLeDiff → n5
open Int renaming reduceEq → i0,reduceLT → i1,reduceLE → i2,reduceNeg → i3,reduceAdd → i4,reduceSub → i5,reduceMul → i6,reduceToNat → i7
set_option maxRecDepth 8000
open Go Go.Proofs Go.Shelf
attribute [local congr] W_congr WPsq_congr WPp_congr optK_congr addrK_congr intK_congr boolK_congr sliceK_congr tupleK_congr funcK_congr Fn_congr rawK_congr takeK_congr stepK_congr convK_congr aggK_congr

theorem tagclX0_fn {ok OK : Blocks} {B tb : Nat} (c0 c1 c2 c3 v : Value) (done : List TagD) (y : TagD) (vv : Value) (w : World) (hbt : blk w tb = some (#[c0,c1,c2,c3,v],26,(0,0))) (hg : GrowU OK B tb w 65 v done) (hB : B ≤ w.heap.size) (htb : tb < B) (hvv : BytesV ok w vv y.2) (hy : y.1 < 2 ^ 32) (hyl : y.2.length ≤ 32767) (hdl : done.length ≤ 32767) (hOK : ∀ b,B ≤ b → OK b) :
    Fn Tryd.prog 309 #[.int .u32 y.1,vv,.pointer (some ⟨tb,0,none⟩)] w fun _ w' => (∃ v',blk w' tb = some (#[c0,c1,c2,c3,v'],26,(0,0)) ∧ GrowU OK B tb w' 65 v' (done ++ [y])) ∧ Upd (fun b => b = tb ∨ B ≤ b) w w' := by
  have htl := blk_lt hbt
  refine fn_of_W Tryd.func309 rfl Tryd.results309 Tryd.ntmps309 rfl ?_
  repeat ((first | refine qA rfl ?_|refine qB ?_|refine qC rfl ?_|refine qD ?_|refine qE ?_|refine qF ?_|refine qG ?_|refine qH ?_);try simp (maxSteps:=1000000)(disch:=(first|omega|(simp only [qI,qJ,qK]<;>omega)|exact qL _)) only [go_sem,↓reduceIte,n0,reduceCtorEq,n1,n2,n3,n4,n5,i0,i1,i2,i3,i4,i5,i6,i7])
  obtain ⟨av,kv,rfl,_⟩ := hg.shape
  have hnb : ∀ b,b < B ∨ w.heap.size ≤ b → ¬ ownB (.slice av done.length kv) b := fun b hb h => by
    have := hg.above h
    have := hg.below h
    omega
  refine W.drawR (.take 0 (.take 1 (.take 2 (.take 3 (.only 4 (.only 5 (.only 6 (.only 7 (.take 8 (.last 9)))))))))) (ownB (.slice av done.length kv)) mixed (by kernel_rfl) ?_
  simp (maxSteps:=1000000)(disch:=(first|omega|(simp only [qI,qJ,qK]<;>omega)|exact qL _ | (refine hnb _ ?_;first | omega | (simp only [World.size_alloc,size_wr,size_drew] <;> omega)))) only [go_sem,↓reduceIte,n0,reduceCtorEq,n1,n2,n3,n4,n5,i0,i1,i2,i3,i4,i5,i6,i7,hbt]
  refine wp_copyN ap_22_22 (ok := ok) (s := y.2) (v := vv) (by first | rfl | simp (maxSteps:=1000000)(disch:=(first|omega|(simp only [qI,qJ,qK]<;>omega)|exact qL _)) only [go_sem,↓reduceIte,n0,reduceCtorEq,n1,n2,n3,n4,n5,i0,i1,i2,i3,i4,i5,i6,i7]) (by first | rfl | simp (maxSteps:=1000000)(disch:=(first|omega|(simp only [qI,qJ,qK]<;>omega)|exact qL _)) only [go_sem,↓reduceIte,n0,reduceCtorEq,n1,n2,n3,n4,n5,i0,i1,i2,i3,i4,i5,i6,i7]) (hvv.keep (Ext.keeps ((Upd.refl _ _).drew) _)) (by omega) ?_
  intro v1 w1 ho1 hE1 hf1
  obtain ⟨a1,k1,rfl,_⟩ := ho1.shape
  have hB1 := Own.bytes (ok := fun b => w.heap.size ≤ b) ho1 fun b hb => hf1 b hb
  have hP1 : Upd (ownB (.slice av done.length kv)) w.drew w1 := hE1.mono fun _ h => h.elim
  have hs1 := hE1.size
  simp only [size_drew] at hs1
  refine ⟨hP1,?_⟩
  simp (maxSteps:=1000000)(disch:=(first|omega|(simp only [qI,qJ,qK]<;>omega)|exact qL _ | (refine hnb _ ?_;first | omega | (simp only [World.size_alloc,size_wr,size_drew] <;> omega)))) only [go_sem,↓reduceIte,n0,reduceCtorEq,n1,n2,n3,n4,n5,i0,i1,i2,i3,i4,i5,i6,i7,hbt]
  refine ⟨hP1,?_⟩
  have hP2 : Upd (ownB (.slice av done.length kv)) w.drew (w1.alloc (.cells #[.int .u32 y.1,.slice a1 y.2.length k1] 65)) := hP1.alloc _
  have hn2 : blk (w1.alloc (.cells #[.int .u32 y.1,.slice a1 y.2.length k1] 65)) w1.heap.size = some (#[.int .u32 y.1,.slice a1 y.2.length k1],65,(0,0)) := blk_alloc_new rfl
  have hs2 : (w1.alloc (.cells #[.int .u32 y.1,.slice a1 y.2.length k1] 65)).heap.size = w1.heap.size + 1 := World.size_alloc _ _
  have hE2 : Ext w1 (w1.alloc (.cells #[.int .u32 y.1,.slice a1 y.2.length k1] 65)) := Upd.alloc (Upd.refl _ _) _
  refine ⟨hP2,?_⟩
  try simp only [List.append_nil]
  generalize (w1.alloc (.cells #[.int .u32 y.1,.slice a1 y.2.length k1] 65)) = w2 at *
  have hEw : Ext w w2 := (((Upd.refl _ _).drew).trans hE1).trans hE2
  obtain ⟨css,hown,hall⟩ := (hg.ext hEw).ex
  have hcl := hall.1
  have hx2 : TagC (fun b => OK b ∧ b ≠ tb ∧ ¬ ownB (.slice av done.length kv) b) w2 y [.int .u32 y.1,.slice a1 y.2.length k1] := ⟨_,rfl,(hB1.keep (hE2.keeps _)).weaken fun b _ hk => ⟨hOK b (by omega),by omega,hnb b (.inr hk)⟩,hy⟩
  refine wp_append ap_24_24 (m := 1) (news := [.int .u32 y.1,.slice a1 y.2.length k1]) (n := css.length) (cs := css.flatten) (v := .slice av done.length kv) ?_ rfl hown.1 hall.flat_cells (Src.blk (fr := (0,0)) (T := 65) hn2 rfl rfl) ?_ ?_ ?_
  · first | rfl | simp (maxSteps:=1000000)(disch:=(first|omega|(simp only [qI,qJ,qK]<;>omega)|exact qL _)) only [go_sem,↓reduceIte,n0,reduceCtorEq,n1,n2,n3,n4,n5,i0,i1,i2,i3,i4,i5,i6,i7]
  · omega
  · omega
  intro v' w3 ho hu hfr
  have hg3 := GrowU.snoc hown hall hx2 hu hfr ho
  obtain ⟨va,vc,hv',_⟩ := ho.shape
  subst hv'
  have hP3 := hP2.trans hu
  have hs3 := hu.size
  have hbt3 := hP3.blk_some (show blk w.drew tb = _ from hbt) (hnb _ (.inl htb))
  have hne : ¬ ownB (.slice va (css.length + 1) vc) tb := fun h => (hfr _ h).elim (hnb _ (.inl htb)) (fun h => by omega)
  refine ⟨hP3,?_⟩
  simp (maxSteps:=1000000)(disch:=(first|omega|(simp only [qI,qJ,qK]<;>omega)|exact qL _ | (refine hnb _ ?_;first | omega | (simp only [World.size_alloc,size_wr,size_drew] <;> omega)))) only [go_sem,↓reduceIte,n0,reduceCtorEq,n1,n2,n3,n4,n5,i0,i1,i2,i3,i4,i5,i6,i7,hbt3]
  repeat ((first | refine qA rfl ?_|refine qB ?_|refine qC rfl ?_|refine qD ?_|refine qE ?_|refine qF ?_|refine qG ?_|refine qH ?_);try simp (maxSteps:=1000000)(disch:=(first|omega|(simp only [qI,qJ,qK]<;>omega)|exact qL _)) only [go_sem,↓reduceIte,n0,reduceCtorEq,n1,n2,n3,n4,n5,i0,i1,i2,i3,i4,i5,i6,i7])
  refine ⟨⟨.slice va (css.length + 1) vc,by first | (rw [blk_wr_eq,hbt3];rfl) | rfl | (rw [hbt3];rfl) | (rw [blk_wr_eq,hbt3]),hg3.upd ((Upd.refl _ _).wr _ _ (.inr rfl)) hne⟩,?_⟩
  refine Upd.wr ?_ _ _ (.inr (.inl rfl))
  exact (((Upd.refl (fun b => b = tb ∨ B ≤ b) w).drew).trans (hP3.mono fun b h => .inr (hg.above h)))

set_option maxHeartbeats 4000000 in
theorem tellX0_fn {d : Nat} {ok : Blocks} (t : Tree) (cs : List Value) (w : World) {b o : Nat} {x : Blk} (hb : blk w b = some x) (hq : ∀ k,k < 3 → x.1[o + k]? = cs[k]?) (hR : RepS true (d + 1) fs_X0 ok w t cs) (hg : GoodP (d + 1) fs_X0 t) :
    Fn Tryd.prog 275 #[.pointer (some ⟨b,o,none⟩)] w fun r w' => (∃ c,r = .agg c.toArray ∧ TreeC (fun b => w.heap.size ≤ b) w' (tlP (d + 1) fs_X0 t) c) ∧ Ext w w' := by
  have hbl := blk_lt hb
  obtain ⟨⟨gd0,gd1,-⟩,hgu⟩ := hg
  replace gd0 : GoodF (GoodP d) fX0_0 (t.at 0) := gd0
  replace gd1 : GoodF (GoodP d) fX0_1 (t.at 1) := gd1
  obtain ⟨cs0,q,hcs,hL,hT⟩ := hR.inv
  obtain ⟨c0,e0,rfl,h0,c1,e1,rfl,h1,rfl⟩ := hL
  replace h0 : RepF (RepS true d) (szS true d) fX0_0 ok w (t.at 0) c0 := h0
  replace h1 : RepF (RepS true d) (szS true d) fX0_1 ok w (t.at 1) c1 := h1
  obtain rfl := (RepF_text rfl (by decide)).1 h0
  obtain rfl := (RepF_text rfl (by decide)).1 h1
  obtain ⟨qm,rfl⟩ := hT.shape
  subst hcs
  have hq0 : x.1[o]? = some (strV (t.at 0).s) := hq 0 (by decide)
  have hq1 : x.1[o + 1]? = some (strV (t.at 1).s) := hq 1 (by decide)
  have hq2 : x.1[o + 2]? = some (.map qm) := hq 2 (by decide)
  refine fn_of_W Tryd.func275 rfl Tryd.results275 Tryd.ntmps275 rfl ?_
  repeat ((first | refine qA rfl ?_|refine qB ?_|refine qC rfl ?_|refine qD ?_|refine qE ?_|refine qF ?_|refine qG ?_|refine qH ?_);try simp (maxSteps:=1000000)(disch:=(first|omega|(simp only [qI,qJ,qK]<;>omega)|exact qL _)) only [go_sem,↓reduceIte,n0,reduceCtorEq,n1,n2,n3,n4,n5,i0,i1,i2,i3,i4,i5,i6,i7])
  refine wp_make (T := 23) (E := 26) (size := 5) (bytes := 88) (z := .agg #[.int .i64 0,.slice none 0 0,.bool false,.slice none 0 0,.slice none 0 0]) (l := 2) (c := 2) (kl := .i64) (kc := .i64) (by kernel_rfl) (by kernel_rfl) (by first | rfl | (simp (maxSteps:=1000000)(disch:=(first|omega|(simp only [qI,qJ,qK]<;>omega)|exact qL _)) only [go_sem,↓reduceIte,n0,reduceCtorEq,n1,n2,n3,n4,n5,i0,i1,i2,i3,i4,i5,i6,i7];rfl)) (by first | rfl | (simp (maxSteps:=1000000)(disch:=(first|omega|(simp only [qI,qJ,qK]<;>omega)|exact qL _)) only [go_sem,↓reduceIte,n0,reduceCtorEq,n1,n2,n3,n4,n5,i0,i1,i2,i3,i4,i5,i6,i7];rfl)) (by omega) (by omega) (by omega) ?_
  have hmd : madeCells (Value.agg #[.int .i64 0,.slice none 0 0,.bool false,.slice none 0 0,.slice none 0 0]).cells (2 * 5) = #[.int .i64 0,.slice none 0 0,.bool false,.slice none 0 0,.slice none 0 0,.int .i64 0,.slice none 0 0,.bool false,.slice none 0 0,.slice none 0 0] := by kernel_rfl
  rw [hmd]
  simp (maxSteps:=1000000)(disch:=(first|omega|(simp only [qI,qJ,qK]<;>omega)|exact qL _)) only [go_sem,↓reduceIte,n0,reduceCtorEq,n1,n2,n3,n4,n5,i0,i1,i2,i3,i4,i5,i6,i7]
  repeat ((first | refine qA rfl ?_|refine qB ?_|refine qC rfl ?_|refine qD ?_|refine qE ?_|refine qF ?_|refine qG ?_|refine qH ?_);try simp (maxSteps:=1000000)(disch:=(first|omega|(simp only [qI,qJ,qK]<;>omega)|exact qL _)) only [go_sem,↓reduceIte,n0,reduceCtorEq,n1,n2,n3,n4,n5,i0,i1,i2,i3,i4,i5,i6,i7])
  have hE1 : Ext w (wr (((w.alloc (.cells #[.int .i64 0,.slice none 0 0,.bool false,.slice none 0 0,.slice none 0 0] 26)).alloc (.cells #[.int .i64 0,.slice none 0 0,.bool false,.slice none 0 0,.slice none 0 0,.int .i64 0,.slice none 0 0,.bool false,.slice none 0 0,.slice none 0 0] 26)).alloc (.cells #[.int .i64 0,.slice none 0 0,.bool false,.slice none 0 0,.slice none 0 0] 26)) (w.heap.size + 2) 0 [.int .i64 0,.slice none 0 0,.bool false,.slice (some ⟨w.heap.size + 1,0,none⟩) 2 2,.slice none 0 0]) := (Upd.alloc (Upd.alloc (Upd.alloc (Upd.refl _ _) _) _) _).wr _ _ (.inl (by omega))
  have hz1 : (wr (((w.alloc (.cells #[.int .i64 0,.slice none 0 0,.bool false,.slice none 0 0,.slice none 0 0] 26)).alloc (.cells #[.int .i64 0,.slice none 0 0,.bool false,.slice none 0 0,.slice none 0 0,.int .i64 0,.slice none 0 0,.bool false,.slice none 0 0,.slice none 0 0] 26)).alloc (.cells #[.int .i64 0,.slice none 0 0,.bool false,.slice none 0 0,.slice none 0 0] 26)) (w.heap.size + 2) 0 [.int .i64 0,.slice none 0 0,.bool false,.slice (some ⟨w.heap.size + 1,0,none⟩) 2 2,.slice none 0 0]).heap.size = w.heap.size + 3 := by simp only [size_wr,World.size_alloc]
  have hl1 : blk (wr (((w.alloc (.cells #[.int .i64 0,.slice none 0 0,.bool false,.slice none 0 0,.slice none 0 0] 26)).alloc (.cells #[.int .i64 0,.slice none 0 0,.bool false,.slice none 0 0,.slice none 0 0,.int .i64 0,.slice none 0 0,.bool false,.slice none 0 0,.slice none 0 0] 26)).alloc (.cells #[.int .i64 0,.slice none 0 0,.bool false,.slice none 0 0,.slice none 0 0] 26)) (w.heap.size + 2) 0 [.int .i64 0,.slice none 0 0,.bool false,.slice (some ⟨w.heap.size + 1,0,none⟩) 2 2,.slice none 0 0]) (w.heap.size + 1) = some (#[.int .i64 0,.slice none 0 0,.bool false,.slice none 0 0,.slice none 0 0,.int .i64 0,.slice none 0 0,.bool false,.slice none 0 0,.slice none 0 0],26,(0,0)) := by simp (maxSteps:=1000000)(disch:=(first|omega|(simp only [qI,qJ,qK]<;>omega)|exact qL _)) only [go_sem,↓reduceIte,n0,reduceCtorEq,n1,n2,n3,n4,n5,i0,i1,i2,i3,i4,i5,i6,i7]
  have ht1 : blk (wr (((w.alloc (.cells #[.int .i64 0,.slice none 0 0,.bool false,.slice none 0 0,.slice none 0 0] 26)).alloc (.cells #[.int .i64 0,.slice none 0 0,.bool false,.slice none 0 0,.slice none 0 0,.int .i64 0,.slice none 0 0,.bool false,.slice none 0 0,.slice none 0 0] 26)).alloc (.cells #[.int .i64 0,.slice none 0 0,.bool false,.slice none 0 0,.slice none 0 0] 26)) (w.heap.size + 2) 0 [.int .i64 0,.slice none 0 0,.bool false,.slice (some ⟨w.heap.size + 1,0,none⟩) 2 2,.slice none 0 0]) (w.heap.size + 2) = some (#[.int .i64 0,.slice none 0 0,.bool false,.slice (some ⟨w.heap.size + 1,0,none⟩) 2 2,.slice none 0 0],26,(0,0)) := by simp (maxSteps:=1000000)(disch:=(first|omega|(simp only [qI,qJ,qK]<;>omega)|exact qL _)) only [go_sem,↓reduceIte,n0,reduceCtorEq,n1,n2,n3,n4,n5,i0,i1,i2,i3,i4,i5,i6,i7]
  have hr1 : blk (wr (((w.alloc (.cells #[.int .i64 0,.slice none 0 0,.bool false,.slice none 0 0,.slice none 0 0] 26)).alloc (.cells #[.int .i64 0,.slice none 0 0,.bool false,.slice none 0 0,.slice none 0 0,.int .i64 0,.slice none 0 0,.bool false,.slice none 0 0,.slice none 0 0] 26)).alloc (.cells #[.int .i64 0,.slice none 0 0,.bool false,.slice none 0 0,.slice none 0 0] 26)) (w.heap.size + 2) 0 [.int .i64 0,.slice none 0 0,.bool false,.slice (some ⟨w.heap.size + 1,0,none⟩) 2 2,.slice none 0 0]) w.heap.size = some (#[.int .i64 0,.slice none 0 0,.bool false,.slice none 0 0,.slice none 0 0],26,(0,0)) := by simp (maxSteps:=1000000)(disch:=(first|omega|(simp only [qI,qJ,qK]<;>omega)|exact qL _)) only [go_sem,↓reduceIte,n0,reduceCtorEq,n1,n2,n3,n4,n5,i0,i1,i2,i3,i4,i5,i6,i7]
  obtain ⟨w1,hw1⟩ : ∃ y,y = (wr (((w.alloc (.cells #[.int .i64 0,.slice none 0 0,.bool false,.slice none 0 0,.slice none 0 0] 26)).alloc (.cells #[.int .i64 0,.slice none 0 0,.bool false,.slice none 0 0,.slice none 0 0,.int .i64 0,.slice none 0 0,.bool false,.slice none 0 0,.slice none 0 0] 26)).alloc (.cells #[.int .i64 0,.slice none 0 0,.bool false,.slice none 0 0,.slice none 0 0] 26)) (w.heap.size + 2) 0 [.int .i64 0,.slice none 0 0,.bool false,.slice (some ⟨w.heap.size + 1,0,none⟩) 2 2,.slice none 0 0]) := ⟨_,rfl⟩
  rw [← hw1] at hE1 hz1 hl1 ht1 hr1
  rw [← hw1]
  clear hw1
  have hU1 : Upd (fun b => b = w.heap.size + 1 ∨ b = w.heap.size + 2) w1 w1 := Upd.refl _ _
  have hb1 := hE1.blk_some hb id
  repeat ((first | refine qA rfl ?_|refine qB ?_|refine qC rfl ?_|refine qD ?_|refine qE ?_|refine qF ?_|refine qG ?_|refine qH ?_);try simp (maxSteps:=1000000)(disch:=(first|omega|(simp only [qI,qJ,qK]<;>omega)|exact qL _)) only [go_sem,↓reduceIte,n0,reduceCtorEq,n1,n2,n3,n4,n5,i0,i1,i2,i3,i4,i5,i6,i7,hb1,hl1,ht1,hq0,hq1,hq2])
  refine W.drawR (.take 0 (.take 1 (.take 2 (.take 3 (.take 4 (.take 5 (.only 6 (.only 7 (.take 8 (.last 9)))))))))) (NoB) mixed (by kernel_rfl) ?_
  try simp (maxSteps:=1000000)(disch:=(first|omega|(simp only [qI,qJ,qK]<;>omega)|exact qL _)) only [go_sem,↓reduceIte,n0,reduceCtorEq,n1,n2,n3,n4,n5,i0,i1,i2,i3,i4,i5,i6,i7,hb1,hl1,ht1,hq0,hq1,hq2]
  refine wp_octets (S := 9) (T := 22) (E := 5) (s := (t.at 0).s) (by kernel_rfl) (by kernel_rfl) (by kernel_rfl) (by first | rfl | simp (maxSteps:=1000000)(disch:=(first|omega|(simp only [qI,qJ,qK]<;>omega)|exact qL _)) only [go_sem,↓reduceIte,n0,reduceCtorEq,n1,n2,n3,n4,n5,i0,i1,i2,i3,i4,i5,i6,i7,hb1,hl1,ht1,hq0,hq1,hq2]) ?_
  intro a2 k2 w2 hB2 hEx2
  have hP2 : Upd NoB w1.drew w2 := (Upd.refl _ _).trans (hEx2.mono fun _ h => h.elim)
  have hsq2 := hEx2.size
  try simp only [size_drew] at hsq2
  refine ⟨hP2,?_⟩
  try simp (maxSteps:=1000000)(disch:=(first|omega|(simp only [qI,qJ,qK]<;>omega)|exact qL _)) only [go_sem,↓reduceIte,n0,reduceCtorEq,n1,n2,n3,n4,n5,i0,i1,i2,i3,i4,i5,i6,i7,hb1,hl1,ht1,hq0,hq1,hq2]
  refine ⟨hP2,?_⟩
  have hlq3 := hP2.blk_some (show blk w1.drew (w.heap.size + 1) = _ from hl1) id
  have hx3 : Upd (fun b => b = w.heap.size + 1 ∨ b = w.heap.size + 2) w1 w2 := ((Upd.refl _ _).drew).trans (hP2.mono fun _ h => h.elim)
  try simp (maxSteps:=1000000)(disch:=(first|omega|(simp only [qI,qJ,qK]<;>omega)|exact qL _)) only [go_sem,↓reduceIte,n0,reduceCtorEq,n1,n2,n3,n4,n5,i0,i1,i2,i3,i4,i5,i6,i7,hlq3]
  generalize hw3 : wr w2 (w.heap.size + 1) 0 [.int .i64 0,.slice (some a2) ((t.at 0).s).length k2,.bool false,.slice none 0 0,.slice none 0 0] = w3
  have hl3 : blk w3 (w.heap.size + 1) = some (#[.int .i64 0,.slice (some a2) ((t.at 0).s).length k2,.bool false,.slice none 0 0,.slice none 0 0,.int .i64 0,.slice none 0 0,.bool false,.slice none 0 0,.slice none 0 0],26,(0,0)) := by rw [← hw3,blk_wr_eq,hlq3];rfl
  have hv3 : Upd (fun b => b = w.heap.size + 1 ∨ b = w.heap.size + 2) w2 w3 := by rw [← hw3];exact (Upd.refl _ _).wr _ _ (.inr (.inl rfl))
  have hV3 : Upd (fun b => b = w.heap.size + 1 ∨ b = w.heap.size + 2) w1 w3 := hx3.trans hv3
  have hU3 : Upd (fun b => b = w.heap.size + 1 ∨ b = w.heap.size + 2) w1 w3 := hU1.trans hV3
  have hz3 := hU3.size
  have hX3 : Ext w w3 := hE1.more hU3 fun b hb h => by omega
  have hb3 := hX3.blk_some hb id
  have ht3 : blk w3 (w.heap.size + 2) = some (#[.int .i64 0,.slice none 0 0,.bool false,.slice (some ⟨w.heap.size + 1,0,none⟩) 2 2,.slice none 0 0],26,(0,0)) := by
    rw [← hw3,blk_wr_ne (by omega)]
    exact hP2.blk_some (show blk w1.drew (w.heap.size + 2) = _ from ht1) id
  clear hw3
  have hf0 : TreeC (fun b => w1.heap.size ≤ b) w3 (.oct false (t.at 0).s) [.int .i64 0,.slice (some a2) ((t.at 0).s).length k2,.bool false,.slice none 0 0,.slice none 0 0] := (TreeC.keep (hv3.keeps fun b hb hk e => by have hk' : w1.heap.size ≤ b := hk;omega) (TreeC.intro rfl (hB2.weaken fun b _ hk => by have hk' : w1.drew.heap.size ≤ b := hk;(try simp only [size_drew] at hk');omega) (treesN _ _) (tagsN _ _) : TreeC (fun b => w1.heap.size ≤ b) w2 (.oct false (t.at 0).s) [.int .i64 0,.slice (some a2) ((t.at 0).s).length k2,.bool false,.slice none 0 0,.slice none 0 0]))
  repeat ((first | refine qA rfl ?_|refine qB ?_|refine qC rfl ?_|refine qD ?_|refine qE ?_|refine qF ?_|refine qG ?_|refine qH ?_);try simp (maxSteps:=1000000)(disch:=(first|omega|(simp only [qI,qJ,qK]<;>omega)|exact qL _)) only [go_sem,↓reduceIte,n0,reduceCtorEq,n1,n2,n3,n4,n5,i0,i1,i2,i3,i4,i5,i6,i7,hb3,hl3,ht3,hq0,hq1,hq2])
  refine W.drawR (.take 0 (.take 1 (.take 2 (.take 3 (.take 4 (.take 5 (.only 6 (.only 7 (.take 8 (.last 9)))))))))) (NoB) mixed (by kernel_rfl) ?_
  try simp (maxSteps:=1000000)(disch:=(first|omega|(simp only [qI,qJ,qK]<;>omega)|exact qL _)) only [go_sem,↓reduceIte,n0,reduceCtorEq,n1,n2,n3,n4,n5,i0,i1,i2,i3,i4,i5,i6,i7,hb3,hl3,ht3,hq0,hq1,hq2]
  refine wp_octets (S := 9) (T := 22) (E := 5) (s := (t.at 1).s) (by kernel_rfl) (by kernel_rfl) (by kernel_rfl) (by first | rfl | simp (maxSteps:=1000000)(disch:=(first|omega|(simp only [qI,qJ,qK]<;>omega)|exact qL _)) only [go_sem,↓reduceIte,n0,reduceCtorEq,n1,n2,n3,n4,n5,i0,i1,i2,i3,i4,i5,i6,i7,hb3,hl3,ht3,hq0,hq1,hq2]) ?_
  intro a4 k4 w4 hB4 hEx4
  have hP4 : Upd NoB w3.drew w4 := (Upd.refl _ _).trans (hEx4.mono fun _ h => h.elim)
  have hsq4 := hEx4.size
  try simp only [size_drew] at hsq4
  refine ⟨hP4,?_⟩
  try simp (maxSteps:=1000000)(disch:=(first|omega|(simp only [qI,qJ,qK]<;>omega)|exact qL _)) only [go_sem,↓reduceIte,n0,reduceCtorEq,n1,n2,n3,n4,n5,i0,i1,i2,i3,i4,i5,i6,i7,hb3,hl3,ht3,hq0,hq1,hq2]
  refine ⟨hP4,?_⟩
  have hlq5 := hP4.blk_some (show blk w3.drew (w.heap.size + 1) = _ from hl3) id
  have hx5 : Upd (fun b => b = w.heap.size + 1 ∨ b = w.heap.size + 2) w3 w4 := ((Upd.refl _ _).drew).trans (hP4.mono fun _ h => h.elim)
  try simp (maxSteps:=1000000)(disch:=(first|omega|(simp only [qI,qJ,qK]<;>omega)|exact qL _)) only [go_sem,↓reduceIte,n0,reduceCtorEq,n1,n2,n3,n4,n5,i0,i1,i2,i3,i4,i5,i6,i7,hlq5]
  generalize hw5 : wr w4 (w.heap.size + 1) 5 [.int .i64 0,.slice (some a4) ((t.at 1).s).length k4,.bool false,.slice none 0 0,.slice none 0 0] = w5
  have hl5 : blk w5 (w.heap.size + 1) = some (#[.int .i64 0,.slice (some a2) ((t.at 0).s).length k2,.bool false,.slice none 0 0,.slice none 0 0,.int .i64 0,.slice (some a4) ((t.at 1).s).length k4,.bool false,.slice none 0 0,.slice none 0 0],26,(0,0)) := by rw [← hw5,blk_wr_eq,hlq5];rfl
  have hv5 : Upd (fun b => b = w.heap.size + 1 ∨ b = w.heap.size + 2) w4 w5 := by rw [← hw5];exact (Upd.refl _ _).wr _ _ (.inr (.inl rfl))
  have hV5 : Upd (fun b => b = w.heap.size + 1 ∨ b = w.heap.size + 2) w3 w5 := hx5.trans hv5
  have hU5 : Upd (fun b => b = w.heap.size + 1 ∨ b = w.heap.size + 2) w1 w5 := hU3.trans hV5
  have hz5 := hU5.size
  have hX5 : Ext w w5 := hE1.more hU5 fun b hb h => by omega
  have hb5 := hX5.blk_some hb id
  have ht5 : blk w5 (w.heap.size + 2) = some (#[.int .i64 0,.slice none 0 0,.bool false,.slice (some ⟨w.heap.size + 1,0,none⟩) 2 2,.slice none 0 0],26,(0,0)) := by
    rw [← hw5,blk_wr_ne (by omega)]
    exact hP4.blk_some (show blk w3.drew (w.heap.size + 2) = _ from ht3) id
  clear hw5
  have hf1 : TreeC (fun b => w1.heap.size ≤ b) w5 (.oct false (t.at 1).s) [.int .i64 0,.slice (some a4) ((t.at 1).s).length k4,.bool false,.slice none 0 0,.slice none 0 0] := (TreeC.keep (hv5.keeps fun b hb hk e => by have hk' : w1.heap.size ≤ b := hk;omega) (TreeC.intro rfl (hB4.weaken fun b _ hk => by have hk' : w3.drew.heap.size ≤ b := hk;(try simp only [size_drew] at hk');omega) (treesN _ _) (tagsN _ _) : TreeC (fun b => w1.heap.size ≤ b) w4 (.oct false (t.at 1).s) [.int .i64 0,.slice (some a4) ((t.at 1).s).length k4,.bool false,.slice none 0 0,.slice none 0 0]))
  repeat ((first | refine qA rfl ?_|refine qB ?_|refine qC rfl ?_|refine qD ?_|refine qE ?_|refine qF ?_|refine qG ?_|refine qH ?_);try simp (maxSteps:=1000000)(disch:=(first|omega|(simp only [qI,qJ,qK]<;>omega)|exact qL _)) only [go_sem,↓reduceIte,n0,reduceCtorEq,n1,n2,n3,n4,n5,i0,i1,i2,i3,i4,i5,i6,i7,hb5,hl5,ht5,hq0,hq1,hq2])
  refine (EachG_fn (ok := fun b => b < w.heap.size) 309 ca_309 #[.pointer (some ⟨w.heap.size + 2,0,none⟩)] w5 (tb := b) (to := o + 2) hb5 hq2 ((hT.weaken fun b hb _ => hb).keep (hX5.keeps _)) (sortT_perm _) (sortT_lt hgu.2.1) (by rw [(sortT_perm t.u).length_eq];exact hgu.1)
    (fun b => b = w.heap.size + 2) (by omega) (fun b hb hk e => by have hk' : b < w.heap.size := hk;omega) (fun b hb => by have := blk_lt ht5;omega)
    (fun wl done w' => ∃ v,blk w' (w.heap.size + 2) = some (#[.int .i64 0,.slice none 0 0,.bool false,.slice (some ⟨w.heap.size + 1,0,none⟩) 2 2,v],26,(0,0)) ∧ GrowU (fun b => w1.heap.size ≤ b) wl.heap.size (w.heap.size + 2) w' 65 v done) (fun wl hE => ⟨_,hE.blk_some ht5 id,GrowU.nil _ _ _ _ _⟩) ?_).mono ?_
  · rintro wl hE done y vv wc hpre ⟨v,hbv,hg⟩ hU hvv hy
    have hz' := hE.size
    have hzu := hU.size
    have htl := blk_lt ht5
    have hpl := hpre.length_le
    simp only [List.length_append,List.length_cons,List.length_nil] at hpl
    rw [(sortT_perm t.u).length_eq] at hpl
    have hlu := hgu.1
    have hmy : y ∈ t.u := (sortT_perm t.u).mem_iff.1 (hpre.subset (by simp))
    refine (tagclX0_fn (ok := fun b => b < w.heap.size) _ _ _ _ v done y vv wc hbv hg hzu (by omega) (hvv.keep ((hE.mono (fun _ h => h.elim) |>.trans hU : Upd (fun b => b = w.heap.size + 2) w5 wc).keeps fun b _ hk e => by have hk' : b < w.heap.size := hk;omega)) hy (hgu.2.2 y hmy) (by omega) (fun b hb => by have := hz5;omega)).mono ?_
    rintro _ w2' ⟨⟨v',h1,h2⟩,h3⟩
    exact ⟨⟨v',h1,h2⟩,hU.trans' h3 fun b hb h => h.elim id fun h => by omega⟩
  rintro _ w6 ⟨wl,hEl,⟨v,ht6,hgU⟩,hUe⟩
  have hzl := hEl.size
  obtain ⟨aU,kU,hvs,_⟩ := hgU.shape
  subst hvs
  have hV6 : Upd (fun b => b = w.heap.size + 1 ∨ b = w.heap.size + 2) w5 w6 := (hEl.mono fun _ h => h.elim).trans (hUe.mono fun _ h => .inr h)
  have hU6 : Upd (fun b => b = w.heap.size + 1 ∨ b = w.heap.size + 2) w1 w6 := hU5.trans hV6
  have hz6 := hU6.size
  have hX6 : Ext w w6 := hE1.more hU6 fun b hb h => by omega
  have hb6 := hX6.blk_some hb id
  have hl6 := (((hEl.mono fun _ h => h.elim).trans hUe : Upd (fun b => b = w.heap.size + 2) w5 w6)).blk_some hl5 (by omega)
  have hTU := hgU.tags (ok' := (fun b => w1.heap.size ≤ b)) (fun _ _ h => h) (fun b hb => by have := hz5;omega)
  repeat ((first | refine qA rfl ?_|refine qB ?_|refine qC rfl ?_|refine qD ?_|refine qE ?_|refine qF ?_|refine qG ?_|refine qH ?_);try simp (maxSteps:=1000000)(disch:=(first|omega|(simp only [qI,qJ,qK]<;>omega)|exact qL _)) only [go_sem,↓reduceIte,n0,reduceCtorEq,n1,n2,n3,n4,n5,i0,i1,i2,i3,i4,i5,i6,i7,hb6,hl6,ht6,hq0,hq1,hq2,cellsAt_five])
  refine (sorted_fn _ _ w6 hTU (sortT_lt hgu.2.1) (by rw [(sortT_perm t.u).length_eq];exact hgu.1)).mono ?_
  rintro _ w7 hEs
  have hV7 : Upd (fun b => b = w.heap.size + 1 ∨ b = w.heap.size + 2) w6 w7 := hEs.mono fun _ h => h.elim
  have hU7 : Upd (fun b => b = w.heap.size + 1 ∨ b = w.heap.size + 2) w1 w7 := hU6.trans hV7
  have hz7 := hU7.size
  have hX7 : Ext w w7 := hE1.more hU7 fun b hb h => by omega
  have hb7 := hX7.blk_some hb id
  have hl7 := hEs.blk_some hl6 id
  have ht7 := hEs.blk_some ht6 id
  have hr7 := (hU7.blk_some hr1 (by omega))
  have hC_7 : Upd (fun b => b = w.heap.size + 1 ∨ b = w.heap.size + 2) w7 w7 := Upd.refl _ _
  have hC_6 : Upd (fun b => b = w.heap.size + 1 ∨ b = w.heap.size + 2) w6 w7 := hV7.trans hC_7
  have hC_5 : Upd (fun b => b = w.heap.size + 1 ∨ b = w.heap.size + 2) w5 w7 := hV6.trans hC_6
  have hC_3 : Upd (fun b => b = w.heap.size + 1 ∨ b = w.heap.size + 2) w3 w7 := hV5.trans hC_5
  have hC_1 : Upd (fun b => b = w.heap.size + 1 ∨ b = w.heap.size + 2) w1 w7 := hV3.trans hC_3
  have hF0 := TreeC.keep (hC_3.keeps fun b hb hk e => by have hk' : w1.heap.size ≤ b := hk;omega) hf0
  have hF1 := TreeC.keep (hC_5.keeps fun b hb hk e => by have hk' : w1.heap.size ≤ b := hk;omega) hf1
  replace hF0 : TreeC (fun b => w1.heap.size ≤ b) w7 (tlF (tlP d) fX0_0 (t.at 0)) [.int .i64 0,.slice (some a2) ((t.at 0).s).length k2,.bool false,.slice none 0 0,.slice none 0 0] := hF0
  replace hF1 : TreeC (fun b => w1.heap.size ≤ b) w7 (tlF (tlP d) fX0_1 (t.at 1)) [.int .i64 0,.slice (some a4) ((t.at 1).s).length k4,.bool false,.slice none 0 0,.slice none 0 0] := hF1
  have hTL : TreesV (fun b => (fun b => w1.heap.size ≤ b) b ∨ b = w.heap.size + 1) w7 (.slice (some ⟨w.heap.size + 1,0,none⟩) 2 2) [tlF (tlP d) fX0_0 (t.at 0),tlF (tlP d) fX0_1 (t.at 1)] := by
    refine ⟨[[.int .i64 0,.slice (some a2) ((t.at 0).s).length k2,.bool false,.slice none 0 0,.slice none 0 0],[.int .i64 0,.slice (some a4) ((t.at 1).s).length k4,.bool false,.slice none 0 0,.slice none 0 0]],⟨_,2,rfl,Nat.le_refl _,(by intro cs hm;simp only [List.mem_cons,List.not_mem_nil,or_false] at hm;rcases hm with rfl | rfl <;> rfl),.inr ⟨_,rfl,rfl,.inr rfl,_,hl7,fun i hi => by rw [Nat.zero_add,List.getElem?_toArray];rfl⟩⟩,rfl,fun i h1 h2 => ?_⟩
    match i,h1 with
    | 0,_ => exact TreeC.weaken (fun b _ hk => .inl hk) hF0
    | 1,_ => exact TreeC.weaken (fun b _ hk => .inl hk) hF1
  repeat ((first | refine qA rfl ?_|refine qB ?_|refine qC rfl ?_|refine qD ?_|refine qE ?_|refine qF ?_|refine qG ?_|refine qH ?_);try simp (maxSteps:=1000000)(disch:=(first|omega|(simp only [qI,qJ,qK]<;>omega)|exact qL _)) only [go_sem,↓reduceIte,n0,reduceCtorEq,n1,n2,n3,n4,n5,i0,i1,i2,i3,i4,i5,i6,i7,hb7,hl7,ht7,hq0,hq1,hq2,hr7,cellsAt_five])
  refine ⟨⟨_,rfl,?_⟩,hX7.wr _ _ (.inl (Nat.le_refl _))⟩
  have hUr : Upd (fun b => b = w.heap.size) w7 (wr w7 w.heap.size 0 [.int .i64 0,.slice none 0 0,.bool false,.slice (some ⟨w.heap.size + 1,0,none⟩) 2 2,.slice aU (sortT t.u).length kU]) := (Upd.refl _ _).wr _ _ (.inr rfl)
  have hTU2 := hTU.keep (hEs.keeps _)
  exact TreeC.intro rfl (BytesV.nil _ _) ((hTL.keep (hUr.keeps fun b _ hk e => by rcases hk with hk | hk <;> omega)).weaken fun b _ hk => by rcases hk with hk | hk <;> omega) ((hTU2.keep (hUr.keeps fun b _ hk e => by omega)).weaken fun b _ hk => by omega)

theorem tagclX1_fn {ok OK : Blocks} {B tb : Nat} (c0 c1 c2 c3 v : Value) (done : List TagD) (y : TagD) (vv : Value) (w : World) (hbt : blk w tb = some (#[c0,c1,c2,c3,v],26,(0,0))) (hg : GrowU OK B tb w 65 v done) (hB : B ≤ w.heap.size) (htb : tb < B) (hvv : BytesV ok w vv y.2) (hy : y.1 < 2 ^ 32) (hyl : y.2.length ≤ 32767) (hdl : done.length ≤ 32767) (hOK : ∀ b,B ≤ b → OK b) :
    Fn Tryd.prog 276 #[.int .u32 y.1,vv,.pointer (some ⟨tb,0,none⟩)] w fun _ w' => (∃ v',blk w' tb = some (#[c0,c1,c2,c3,v'],26,(0,0)) ∧ GrowU OK B tb w' 65 v' (done ++ [y])) ∧ Upd (fun b => b = tb ∨ B ≤ b) w w' := by
  have htl := blk_lt hbt
  refine fn_of_W Tryd.func276 rfl Tryd.results276 Tryd.ntmps276 rfl ?_
  repeat ((first | refine qA rfl ?_|refine qB ?_|refine qC rfl ?_|refine qD ?_|refine qE ?_|refine qF ?_|refine qG ?_|refine qH ?_);try simp (maxSteps:=1000000)(disch:=(first|omega|(simp only [qI,qJ,qK]<;>omega)|exact qL _)) only [go_sem,↓reduceIte,n0,reduceCtorEq,n1,n2,n3,n4,n5,i0,i1,i2,i3,i4,i5,i6,i7])
  obtain ⟨av,kv,rfl,_⟩ := hg.shape
  have hnb : ∀ b,b < B ∨ w.heap.size ≤ b → ¬ ownB (.slice av done.length kv) b := fun b hb h => by
    have := hg.above h
    have := hg.below h
    omega
  refine W.drawR (.take 0 (.take 1 (.take 2 (.take 3 (.only 4 (.only 5 (.only 6 (.only 7 (.take 8 (.last 9)))))))))) (ownB (.slice av done.length kv)) mixed (by kernel_rfl) ?_
  simp (maxSteps:=1000000)(disch:=(first|omega|(simp only [qI,qJ,qK]<;>omega)|exact qL _ | (refine hnb _ ?_;first | omega | (simp only [World.size_alloc,size_wr,size_drew] <;> omega)))) only [go_sem,↓reduceIte,n0,reduceCtorEq,n1,n2,n3,n4,n5,i0,i1,i2,i3,i4,i5,i6,i7,hbt]
  refine wp_copyN ap_22_22 (ok := ok) (s := y.2) (v := vv) (by first | rfl | simp (maxSteps:=1000000)(disch:=(first|omega|(simp only [qI,qJ,qK]<;>omega)|exact qL _)) only [go_sem,↓reduceIte,n0,reduceCtorEq,n1,n2,n3,n4,n5,i0,i1,i2,i3,i4,i5,i6,i7]) (by first | rfl | simp (maxSteps:=1000000)(disch:=(first|omega|(simp only [qI,qJ,qK]<;>omega)|exact qL _)) only [go_sem,↓reduceIte,n0,reduceCtorEq,n1,n2,n3,n4,n5,i0,i1,i2,i3,i4,i5,i6,i7]) (hvv.keep (Ext.keeps ((Upd.refl _ _).drew) _)) (by omega) ?_
  intro v1 w1 ho1 hE1 hf1
  obtain ⟨a1,k1,rfl,_⟩ := ho1.shape
  have hB1 := Own.bytes (ok := fun b => w.heap.size ≤ b) ho1 fun b hb => hf1 b hb
  have hP1 : Upd (ownB (.slice av done.length kv)) w.drew w1 := hE1.mono fun _ h => h.elim
  have hs1 := hE1.size
  simp only [size_drew] at hs1
  refine ⟨hP1,?_⟩
  simp (maxSteps:=1000000)(disch:=(first|omega|(simp only [qI,qJ,qK]<;>omega)|exact qL _ | (refine hnb _ ?_;first | omega | (simp only [World.size_alloc,size_wr,size_drew] <;> omega)))) only [go_sem,↓reduceIte,n0,reduceCtorEq,n1,n2,n3,n4,n5,i0,i1,i2,i3,i4,i5,i6,i7,hbt]
  refine ⟨hP1,?_⟩
  have hP2 : Upd (ownB (.slice av done.length kv)) w.drew (w1.alloc (.cells #[.int .u32 y.1,.slice a1 y.2.length k1] 65)) := hP1.alloc _
  have hn2 : blk (w1.alloc (.cells #[.int .u32 y.1,.slice a1 y.2.length k1] 65)) w1.heap.size = some (#[.int .u32 y.1,.slice a1 y.2.length k1],65,(0,0)) := blk_alloc_new rfl
  have hs2 : (w1.alloc (.cells #[.int .u32 y.1,.slice a1 y.2.length k1] 65)).heap.size = w1.heap.size + 1 := World.size_alloc _ _
  have hE2 : Ext w1 (w1.alloc (.cells #[.int .u32 y.1,.slice a1 y.2.length k1] 65)) := Upd.alloc (Upd.refl _ _) _
  refine ⟨hP2,?_⟩
  try simp only [List.append_nil]
  generalize (w1.alloc (.cells #[.int .u32 y.1,.slice a1 y.2.length k1] 65)) = w2 at *
  have hEw : Ext w w2 := (((Upd.refl _ _).drew).trans hE1).trans hE2
  obtain ⟨css,hown,hall⟩ := (hg.ext hEw).ex
  have hcl := hall.1
  have hx2 : TagC (fun b => OK b ∧ b ≠ tb ∧ ¬ ownB (.slice av done.length kv) b) w2 y [.int .u32 y.1,.slice a1 y.2.length k1] := ⟨_,rfl,(hB1.keep (hE2.keeps _)).weaken fun b _ hk => ⟨hOK b (by omega),by omega,hnb b (.inr hk)⟩,hy⟩
  refine wp_append ap_24_24 (m := 1) (news := [.int .u32 y.1,.slice a1 y.2.length k1]) (n := css.length) (cs := css.flatten) (v := .slice av done.length kv) ?_ rfl hown.1 hall.flat_cells (Src.blk (fr := (0,0)) (T := 65) hn2 rfl rfl) ?_ ?_ ?_
  · first | rfl | simp (maxSteps:=1000000)(disch:=(first|omega|(simp only [qI,qJ,qK]<;>omega)|exact qL _)) only [go_sem,↓reduceIte,n0,reduceCtorEq,n1,n2,n3,n4,n5,i0,i1,i2,i3,i4,i5,i6,i7]
  · omega
  · omega
  intro v' w3 ho hu hfr
  have hg3 := GrowU.snoc hown hall hx2 hu hfr ho
  obtain ⟨va,vc,hv',_⟩ := ho.shape
  subst hv'
  have hP3 := hP2.trans hu
  have hs3 := hu.size
  have hbt3 := hP3.blk_some (show blk w.drew tb = _ from hbt) (hnb _ (.inl htb))
  have hne : ¬ ownB (.slice va (css.length + 1) vc) tb := fun h => (hfr _ h).elim (hnb _ (.inl htb)) (fun h => by omega)
  refine ⟨hP3,?_⟩
  simp (maxSteps:=1000000)(disch:=(first|omega|(simp only [qI,qJ,qK]<;>omega)|exact qL _ | (refine hnb _ ?_;first | omega | (simp only [World.size_alloc,size_wr,size_drew] <;> omega)))) only [go_sem,↓reduceIte,n0,reduceCtorEq,n1,n2,n3,n4,n5,i0,i1,i2,i3,i4,i5,i6,i7,hbt3]
  repeat ((first | refine qA rfl ?_|refine qB ?_|refine qC rfl ?_|refine qD ?_|refine qE ?_|refine qF ?_|refine qG ?_|refine qH ?_);try simp (maxSteps:=1000000)(disch:=(first|omega|(simp only [qI,qJ,qK]<;>omega)|exact qL _)) only [go_sem,↓reduceIte,n0,reduceCtorEq,n1,n2,n3,n4,n5,i0,i1,i2,i3,i4,i5,i6,i7])
  refine ⟨⟨.slice va (css.length + 1) vc,by first | (rw [blk_wr_eq,hbt3];rfl) | rfl | (rw [hbt3];rfl) | (rw [blk_wr_eq,hbt3]),hg3.upd ((Upd.refl _ _).wr _ _ (.inr rfl)) hne⟩,?_⟩
  refine Upd.wr ?_ _ _ (.inr (.inl rfl))
  exact (((Upd.refl (fun b => b = tb ∨ B ≤ b) w).drew).trans (hP3.mono fun b h => .inr (hg.above h)))

set_option maxHeartbeats 4000000 in
theorem tellX1_fn {d : Nat} {ok : Blocks} (t : Tree) (cs : List Value) (w : World) {b o : Nat} {x : Blk} (hb : blk w b = some x) (hq : ∀ k,k < 11 → x.1[o + k]? = cs[k]?) (hR : RepS true (d + 2) fs_X1 ok w t cs) (hg : GoodP (d + 2) fs_X1 t) :
    Fn Tryd.prog 190 #[.pointer (some ⟨b,o,none⟩)] w fun r w' => (∃ c,r = .agg c.toArray ∧ TreeC (fun b => w.heap.size ≤ b) w' (tlP (d + 2) fs_X1 t) c) ∧ Ext w w' := by
  have hbl := blk_lt hb
  obtain ⟨⟨gd0,gd1,gd2,gd3,gd4,gd5,gd6,gd7,gd8,gd9,-⟩,hgu⟩ := hg
  replace gd0 : GoodF (GoodP (d + 1)) fX1_0 (t.at 0) := gd0
  replace gd1 : GoodF (GoodP (d + 1)) fX1_1 (t.at 1) := gd1
  replace gd2 : GoodF (GoodP (d + 1)) fX1_2 (t.at 2) := gd2
  replace gd3 : GoodF (GoodP (d + 1)) fX1_3 (t.at 3) := gd3
  replace gd4 : GoodF (GoodP (d + 1)) fX1_4 (t.at 4) := gd4
  replace gd5 : GoodF (GoodP (d + 1)) fX1_5 (t.at 5) := gd5
  replace gd6 : GoodF (GoodP (d + 1)) fX1_6 (t.at 6) := gd6
  replace gd7 : GoodF (GoodP (d + 1)) fX1_7 (t.at 7) := gd7
  replace gd8 : GoodF (GoodP (d + 1)) fX1_8 (t.at 8) := gd8
  replace gd9 : GoodF (GoodP (d + 1)) fX1_9 (t.at 9) := gd9
  obtain ⟨cs0,q,hcs,hL,hT⟩ := hR.inv
  obtain ⟨c0,e0,rfl,h0,c1,e1,rfl,h1,c2,e2,rfl,h2,c3,e3,rfl,h3,c4,e4,rfl,h4,c5,e5,rfl,h5,c6,e6,rfl,h6,c7,e7,rfl,h7,c8,e8,rfl,h8,c9,e9,rfl,h9,rfl⟩ := hL
  replace h0 : RepF (RepS true (d + 1)) (szS true (d + 1)) fX1_0 ok w (t.at 0) c0 := h0
  replace h1 : RepF (RepS true (d + 1)) (szS true (d + 1)) fX1_1 ok w (t.at 1) c1 := h1
  replace h2 : RepF (RepS true (d + 1)) (szS true (d + 1)) fX1_2 ok w (t.at 2) c2 := h2
  replace h3 : RepF (RepS true (d + 1)) (szS true (d + 1)) fX1_3 ok w (t.at 3) c3 := h3
  replace h4 : RepF (RepS true (d + 1)) (szS true (d + 1)) fX1_4 ok w (t.at 4) c4 := h4
  replace h5 : RepF (RepS true (d + 1)) (szS true (d + 1)) fX1_5 ok w (t.at 5) c5 := h5
  replace h6 : RepF (RepS true (d + 1)) (szS true (d + 1)) fX1_6 ok w (t.at 6) c6 := h6
  replace h7 : RepF (RepS true (d + 1)) (szS true (d + 1)) fX1_7 ok w (t.at 7) c7 := h7
  replace h8 : RepF (RepS true (d + 1)) (szS true (d + 1)) fX1_8 ok w (t.at 8) c8 := h8
  replace h9 : RepF (RepS true (d + 1)) (szS true (d + 1)) fX1_9 ok w (t.at 9) c9 := h9
  obtain rfl := (RepF_text rfl (by decide)).1 h0
  obtain rfl := (RepF_text rfl (by decide)).1 h1
  obtain rfl := (RepF_text rfl (by decide)).1 h2
  obtain rfl := (RepF_text rfl (by decide)).1 h3
  obtain rfl := (RepF_num (by decide)).1 h4
  obtain rfl := (RepF_num (by decide)).1 h5
  obtain rfl := (RepF_num (by decide)).1 h6
  obtain rfl := (RepF_text rfl (by decide)).1 h7
  obtain ⟨p8,rfl,hp8⟩ := (RepF_bytes rfl).1 h8
  obtain ⟨ao8,no8,co8,rfl⟩ := hp8.shape
  obtain ⟨ab9,ac9,L9,rfl,hL9,hnn9,hs9⟩ := RepF_listT rfl h9
  have hgl9 := gd9.listL rfl hL9
  obtain ⟨qm,rfl⟩ := hT.shape
  subst hcs
  have hq0 : x.1[o]? = some (strV (t.at 0).s) := hq 0 (by decide)
  have hq1 : x.1[o + 1]? = some (strV (t.at 1).s) := hq 1 (by decide)
  have hq2 : x.1[o + 2]? = some (strV (t.at 2).s) := hq 2 (by decide)
  have hq3 : x.1[o + 3]? = some (strV (t.at 3).s) := hq 3 (by decide)
  have hq4 : x.1[o + 4]? = some (.int .i64 (t.at 4).n) := hq 4 (by decide)
  have hq5 : x.1[o + 5]? = some (.int .i64 (t.at 5).n) := hq 5 (by decide)
  have hq6 : x.1[o + 6]? = some (.int .i64 (t.at 6).n) := hq 6 (by decide)
  have hq7 : x.1[o + 7]? = some (strV (t.at 7).s) := hq 7 (by decide)
  have hq8 : x.1[o + 8]? = some (.slice ao8 no8 co8) := hq 8 (by decide)
  have hq9 : x.1[o + 9]? = some (.slice ab9 L9.length ac9) := hq 9 (by decide)
  have hq10 : x.1[o + 10]? = some (.map qm) := hq 10 (by decide)
  have hn64_4 := (gd4.one (by decide)).1 rfl
  have hn64_5 := (gd5.one (by decide)).1 rfl
  have hn64_6 := (gd6.one (by decide)).1 rfl
  refine fn_of_W Tryd.func190 rfl Tryd.results190 Tryd.ntmps190 rfl ?_
  repeat ((first | refine qA rfl ?_|refine qB ?_|refine qC rfl ?_|refine qD ?_|refine qE ?_|refine qF ?_|refine qG ?_|refine qH ?_);try simp (maxSteps:=1000000)(disch:=(first|omega|(simp only [qI,qJ,qK]<;>omega)|exact qL _)) only [go_sem,↓reduceIte,n0,reduceCtorEq,n1,n2,n3,n4,n5,i0,i1,i2,i3,i4,i5,i6,i7])
  refine wp_make (T := 23) (E := 26) (size := 5) (bytes := 88) (z := .agg #[.int .i64 0,.slice none 0 0,.bool false,.slice none 0 0,.slice none 0 0]) (l := 10) (c := 10) (kl := .i64) (kc := .i64) (by kernel_rfl) (by kernel_rfl) (by first | rfl | (simp (maxSteps:=1000000)(disch:=(first|omega|(simp only [qI,qJ,qK]<;>omega)|exact qL _)) only [go_sem,↓reduceIte,n0,reduceCtorEq,n1,n2,n3,n4,n5,i0,i1,i2,i3,i4,i5,i6,i7];rfl)) (by first | rfl | (simp (maxSteps:=1000000)(disch:=(first|omega|(simp only [qI,qJ,qK]<;>omega)|exact qL _)) only [go_sem,↓reduceIte,n0,reduceCtorEq,n1,n2,n3,n4,n5,i0,i1,i2,i3,i4,i5,i6,i7];rfl)) (by omega) (by omega) (by omega) ?_
  have hmd : madeCells (Value.agg #[.int .i64 0,.slice none 0 0,.bool false,.slice none 0 0,.slice none 0 0]).cells (10 * 5) = #[.int .i64 0,.slice none 0 0,.bool false,.slice none 0 0,.slice none 0 0,.int .i64 0,.slice none 0 0,.bool false,.slice none 0 0,.slice none 0 0,.int .i64 0,.slice none 0 0,.bool false,.slice none 0 0,.slice none 0 0,.int .i64 0,.slice none 0 0,.bool false,.slice none 0 0,.slice none 0 0,.int .i64 0,.slice none 0 0,.bool false,.slice none 0 0,.slice none 0 0,.int .i64 0,.slice none 0 0,.bool false,.slice none 0 0,.slice none 0 0,.int .i64 0,.slice none 0 0,.bool false,.slice none 0 0,.slice none 0 0,.int .i64 0,.slice none 0 0,.bool false,.slice none 0 0,.slice none 0 0,.int .i64 0,.slice none 0 0,.bool false,.slice none 0 0,.slice none 0 0,.int .i64 0,.slice none 0 0,.bool false,.slice none 0 0,.slice none 0 0] := by kernel_rfl
  rw [hmd]
  simp (maxSteps:=1000000)(disch:=(first|omega|(simp only [qI,qJ,qK]<;>omega)|exact qL _)) only [go_sem,↓reduceIte,n0,reduceCtorEq,n1,n2,n3,n4,n5,i0,i1,i2,i3,i4,i5,i6,i7]
  repeat ((first | refine qA rfl ?_|refine qB ?_|refine qC rfl ?_|refine qD ?_|refine qE ?_|refine qF ?_|refine qG ?_|refine qH ?_);try simp (maxSteps:=1000000)(disch:=(first|omega|(simp only [qI,qJ,qK]<;>omega)|exact qL _)) only [go_sem,↓reduceIte,n0,reduceCtorEq,n1,n2,n3,n4,n5,i0,i1,i2,i3,i4,i5,i6,i7])
  have hE1 : Ext w (wr (((w.alloc (.cells #[.int .i64 0,.slice none 0 0,.bool false,.slice none 0 0,.slice none 0 0] 26)).alloc (.cells #[.int .i64 0,.slice none 0 0,.bool false,.slice none 0 0,.slice none 0 0,.int .i64 0,.slice none 0 0,.bool false,.slice none 0 0,.slice none 0 0,.int .i64 0,.slice none 0 0,.bool false,.slice none 0 0,.slice none 0 0,.int .i64 0,.slice none 0 0,.bool false,.slice none 0 0,.slice none 0 0,.int .i64 0,.slice none 0 0,.bool false,.slice none 0 0,.slice none 0 0,.int .i64 0,.slice none 0 0,.bool false,.slice none 0 0,.slice none 0 0,.int .i64 0,.slice none 0 0,.bool false,.slice none 0 0,.slice none 0 0,.int .i64 0,.slice none 0 0,.bool false,.slice none 0 0,.slice none 0 0,.int .i64 0,.slice none 0 0,.bool false,.slice none 0 0,.slice none 0 0,.int .i64 0,.slice none 0 0,.bool false,.slice none 0 0,.slice none 0 0] 26)).alloc (.cells #[.int .i64 0,.slice none 0 0,.bool false,.slice none 0 0,.slice none 0 0] 26)) (w.heap.size + 2) 0 [.int .i64 0,.slice none 0 0,.bool false,.slice (some ⟨w.heap.size + 1,0,none⟩) 10 10,.slice none 0 0]) := (Upd.alloc (Upd.alloc (Upd.alloc (Upd.refl _ _) _) _) _).wr _ _ (.inl (by omega))
  have hz1 : (wr (((w.alloc (.cells #[.int .i64 0,.slice none 0 0,.bool false,.slice none 0 0,.slice none 0 0] 26)).alloc (.cells #[.int .i64 0,.slice none 0 0,.bool false,.slice none 0 0,.slice none 0 0,.int .i64 0,.slice none 0 0,.bool false,.slice none 0 0,.slice none 0 0,.int .i64 0,.slice none 0 0,.bool false,.slice none 0 0,.slice none 0 0,.int .i64 0,.slice none 0 0,.bool false,.slice none 0 0,.slice none 0 0,.int .i64 0,.slice none 0 0,.bool false,.slice none 0 0,.slice none 0 0,.int .i64 0,.slice none 0 0,.bool false,.slice none 0 0,.slice none 0 0,.int .i64 0,.slice none 0 0,.bool false,.slice none 0 0,.slice none 0 0,.int .i64 0,.slice none 0 0,.bool false,.slice none 0 0,.slice none 0 0,.int .i64 0,.slice none 0 0,.bool false,.slice none 0 0,.slice none 0 0,.int .i64 0,.slice none 0 0,.bool false,.slice none 0 0,.slice none 0 0] 26)).alloc (.cells #[.int .i64 0,.slice none 0 0,.bool false,.slice none 0 0,.slice none 0 0] 26)) (w.heap.size + 2) 0 [.int .i64 0,.slice none 0 0,.bool false,.slice (some ⟨w.heap.size + 1,0,none⟩) 10 10,.slice none 0 0]).heap.size = w.heap.size + 3 := by simp only [size_wr,World.size_alloc]
  have hl1 : blk (wr (((w.alloc (.cells #[.int .i64 0,.slice none 0 0,.bool false,.slice none 0 0,.slice none 0 0] 26)).alloc (.cells #[.int .i64 0,.slice none 0 0,.bool false,.slice none 0 0,.slice none 0 0,.int .i64 0,.slice none 0 0,.bool false,.slice none 0 0,.slice none 0 0,.int .i64 0,.slice none 0 0,.bool false,.slice none 0 0,.slice none 0 0,.int .i64 0,.slice none 0 0,.bool false,.slice none 0 0,.slice none 0 0,.int .i64 0,.slice none 0 0,.bool false,.slice none 0 0,.slice none 0 0,.int .i64 0,.slice none 0 0,.bool false,.slice none 0 0,.slice none 0 0,.int .i64 0,.slice none 0 0,.bool false,.slice none 0 0,.slice none 0 0,.int .i64 0,.slice none 0 0,.bool false,.slice none 0 0,.slice none 0 0,.int .i64 0,.slice none 0 0,.bool false,.slice none 0 0,.slice none 0 0,.int .i64 0,.slice none 0 0,.bool false,.slice none 0 0,.slice none 0 0] 26)).alloc (.cells #[.int .i64 0,.slice none 0 0,.bool false,.slice none 0 0,.slice none 0 0] 26)) (w.heap.size + 2) 0 [.int .i64 0,.slice none 0 0,.bool false,.slice (some ⟨w.heap.size + 1,0,none⟩) 10 10,.slice none 0 0]) (w.heap.size + 1) = some (#[.int .i64 0,.slice none 0 0,.bool false,.slice none 0 0,.slice none 0 0,.int .i64 0,.slice none 0 0,.bool false,.slice none 0 0,.slice none 0 0,.int .i64 0,.slice none 0 0,.bool false,.slice none 0 0,.slice none 0 0,.int .i64 0,.slice none 0 0,.bool false,.slice none 0 0,.slice none 0 0,.int .i64 0,.slice none 0 0,.bool false,.slice none 0 0,.slice none 0 0,.int .i64 0,.slice none 0 0,.bool false,.slice none 0 0,.slice none 0 0,.int .i64 0,.slice none 0 0,.bool false,.slice none 0 0,.slice none 0 0,.int .i64 0,.slice none 0 0,.bool false,.slice none 0 0,.slice none 0 0,.int .i64 0,.slice none 0 0,.bool false,.slice none 0 0,.slice none 0 0,.int .i64 0,.slice none 0 0,.bool false,.slice none 0 0,.slice none 0 0],26,(0,0)) := by simp (maxSteps:=1000000)(disch:=(first|omega|(simp only [qI,qJ,qK]<;>omega)|exact qL _)) only [go_sem,↓reduceIte,n0,reduceCtorEq,n1,n2,n3,n4,n5,i0,i1,i2,i3,i4,i5,i6,i7]
  have ht1 : blk (wr (((w.alloc (.cells #[.int .i64 0,.slice none 0 0,.bool false,.slice none 0 0,.slice none 0 0] 26)).alloc (.cells #[.int .i64 0,.slice none 0 0,.bool false,.slice none 0 0,.slice none 0 0,.int .i64 0,.slice none 0 0,.bool false,.slice none 0 0,.slice none 0 0,.int .i64 0,.slice none 0 0,.bool false,.slice none 0 0,.slice none 0 0,.int .i64 0,.slice none 0 0,.bool false,.slice none 0 0,.slice none 0 0,.int .i64 0,.slice none 0 0,.bool false,.slice none 0 0,.slice none 0 0,.int .i64 0,.slice none 0 0,.bool false,.slice none 0 0,.slice none 0 0,.int .i64 0,.slice none 0 0,.bool false,.slice none 0 0,.slice none 0 0,.int .i64 0,.slice none 0 0,.bool false,.slice none 0 0,.slice none 0 0,.int .i64 0,.slice none 0 0,.bool false,.slice none 0 0,.slice none 0 0,.int .i64 0,.slice none 0 0,.bool false,.slice none 0 0,.slice none 0 0] 26)).alloc (.cells #[.int .i64 0,.slice none 0 0,.bool false,.slice none 0 0,.slice none 0 0] 26)) (w.heap.size + 2) 0 [.int .i64 0,.slice none 0 0,.bool false,.slice (some ⟨w.heap.size + 1,0,none⟩) 10 10,.slice none 0 0]) (w.heap.size + 2) = some (#[.int .i64 0,.slice none 0 0,.bool false,.slice (some ⟨w.heap.size + 1,0,none⟩) 10 10,.slice none 0 0],26,(0,0)) := by simp (maxSteps:=1000000)(disch:=(first|omega|(simp only [qI,qJ,qK]<;>omega)|exact qL _)) only [go_sem,↓reduceIte,n0,reduceCtorEq,n1,n2,n3,n4,n5,i0,i1,i2,i3,i4,i5,i6,i7]
  have hr1 : blk (wr (((w.alloc (.cells #[.int .i64 0,.slice none 0 0,.bool false,.slice none 0 0,.slice none 0 0] 26)).alloc (.cells #[.int .i64 0,.slice none 0 0,.bool false,.slice none 0 0,.slice none 0 0,.int .i64 0,.slice none 0 0,.bool false,.slice none 0 0,.slice none 0 0,.int .i64 0,.slice none 0 0,.bool false,.slice none 0 0,.slice none 0 0,.int .i64 0,.slice none 0 0,.bool false,.slice none 0 0,.slice none 0 0,.int .i64 0,.slice none 0 0,.bool false,.slice none 0 0,.slice none 0 0,.int .i64 0,.slice none 0 0,.bool false,.slice none 0 0,.slice none 0 0,.int .i64 0,.slice none 0 0,.bool false,.slice none 0 0,.slice none 0 0,.int .i64 0,.slice none 0 0,.bool false,.slice none 0 0,.slice none 0 0,.int .i64 0,.slice none 0 0,.bool false,.slice none 0 0,.slice none 0 0,.int .i64 0,.slice none 0 0,.bool false,.slice none 0 0,.slice none 0 0] 26)).alloc (.cells #[.int .i64 0,.slice none 0 0,.bool false,.slice none 0 0,.slice none 0 0] 26)) (w.heap.size + 2) 0 [.int .i64 0,.slice none 0 0,.bool false,.slice (some ⟨w.heap.size + 1,0,none⟩) 10 10,.slice none 0 0]) w.heap.size = some (#[.int .i64 0,.slice none 0 0,.bool false,.slice none 0 0,.slice none 0 0],26,(0,0)) := by simp (maxSteps:=1000000)(disch:=(first|omega|(simp only [qI,qJ,qK]<;>omega)|exact qL _)) only [go_sem,↓reduceIte,n0,reduceCtorEq,n1,n2,n3,n4,n5,i0,i1,i2,i3,i4,i5,i6,i7]
  obtain ⟨w1,hw1⟩ : ∃ y,y = (wr (((w.alloc (.cells #[.int .i64 0,.slice none 0 0,.bool false,.slice none 0 0,.slice none 0 0] 26)).alloc (.cells #[.int .i64 0,.slice none 0 0,.bool false,.slice none 0 0,.slice none 0 0,.int .i64 0,.slice none 0 0,.bool false,.slice none 0 0,.slice none 0 0,.int .i64 0,.slice none 0 0,.bool false,.slice none 0 0,.slice none 0 0,.int .i64 0,.slice none 0 0,.bool false,.slice none 0 0,.slice none 0 0,.int .i64 0,.slice none 0 0,.bool false,.slice none 0 0,.slice none 0 0,.int .i64 0,.slice none 0 0,.bool false,.slice none 0 0,.slice none 0 0,.int .i64 0,.slice none 0 0,.bool false,.slice none 0 0,.slice none 0 0,.int .i64 0,.slice none 0 0,.bool false,.slice none 0 0,.slice none 0 0,.int .i64 0,.slice none 0 0,.bool false,.slice none 0 0,.slice none 0 0,.int .i64 0,.slice none 0 0,.bool false,.slice none 0 0,.slice none 0 0] 26)).alloc (.cells #[.int .i64 0,.slice none 0 0,.bool false,.slice none 0 0,.slice none 0 0] 26)) (w.heap.size + 2) 0 [.int .i64 0,.slice none 0 0,.bool false,.slice (some ⟨w.heap.size + 1,0,none⟩) 10 10,.slice none 0 0]) := ⟨_,rfl⟩
  rw [← hw1] at hE1 hz1 hl1 ht1 hr1
  rw [← hw1]
  clear hw1
  have hU1 : Upd (fun b => b = w.heap.size + 1 ∨ b = w.heap.size + 2) w1 w1 := Upd.refl _ _
  have hb1 := hE1.blk_some hb id
  repeat ((first | refine qA rfl ?_|refine qB ?_|refine qC rfl ?_|refine qD ?_|refine qE ?_|refine qF ?_|refine qG ?_|refine qH ?_);try simp (maxSteps:=1000000)(disch:=(first|omega|(simp only [qI,qJ,qK]<;>omega)|exact qL _)) only [go_sem,↓reduceIte,n0,reduceCtorEq,n1,n2,n3,n4,n5,i0,i1,i2,i3,i4,i5,i6,i7,hb1,hl1,ht1,hq0,hq1,hq2,hq3,hq4,hq5,hq6,hq7,hq8,hq9,hq10])
  refine W.drawR (.take 0 (.take 1 (.take 2 (.take 3 (.take 4 (.take 5 (.only 6 (.only 7 (.take 8 (.last 9)))))))))) (NoB) mixed (by kernel_rfl) ?_
  try simp (maxSteps:=1000000)(disch:=(first|omega|(simp only [qI,qJ,qK]<;>omega)|exact qL _)) only [go_sem,↓reduceIte,n0,reduceCtorEq,n1,n2,n3,n4,n5,i0,i1,i2,i3,i4,i5,i6,i7,hb1,hl1,ht1,hq0,hq1,hq2,hq3,hq4,hq5,hq6,hq7,hq8,hq9,hq10]
  refine wp_octets (S := 9) (T := 22) (E := 5) (s := (t.at 0).s) (by kernel_rfl) (by kernel_rfl) (by kernel_rfl) (by first | rfl | simp (maxSteps:=1000000)(disch:=(first|omega|(simp only [qI,qJ,qK]<;>omega)|exact qL _)) only [go_sem,↓reduceIte,n0,reduceCtorEq,n1,n2,n3,n4,n5,i0,i1,i2,i3,i4,i5,i6,i7,hb1,hl1,ht1,hq0,hq1,hq2,hq3,hq4,hq5,hq6,hq7,hq8,hq9,hq10]) ?_
  intro a2 k2 w2 hB2 hEx2
  have hP2 : Upd NoB w1.drew w2 := (Upd.refl _ _).trans (hEx2.mono fun _ h => h.elim)
  have hsq2 := hEx2.size
  try simp only [size_drew] at hsq2
  refine ⟨hP2,?_⟩
  try simp (maxSteps:=1000000)(disch:=(first|omega|(simp only [qI,qJ,qK]<;>omega)|exact qL _)) only [go_sem,↓reduceIte,n0,reduceCtorEq,n1,n2,n3,n4,n5,i0,i1,i2,i3,i4,i5,i6,i7,hb1,hl1,ht1,hq0,hq1,hq2,hq3,hq4,hq5,hq6,hq7,hq8,hq9,hq10]
  refine ⟨hP2,?_⟩
  have hlq3 := hP2.blk_some (show blk w1.drew (w.heap.size + 1) = _ from hl1) id
  have hx3 : Upd (fun b => b = w.heap.size + 1 ∨ b = w.heap.size + 2) w1 w2 := ((Upd.refl _ _).drew).trans (hP2.mono fun _ h => h.elim)
  try simp (maxSteps:=1000000)(disch:=(first|omega|(simp only [qI,qJ,qK]<;>omega)|exact qL _)) only [go_sem,↓reduceIte,n0,reduceCtorEq,n1,n2,n3,n4,n5,i0,i1,i2,i3,i4,i5,i6,i7,hlq3]
  generalize hw3 : wr w2 (w.heap.size + 1) 0 [.int .i64 0,.slice (some a2) ((t.at 0).s).length k2,.bool false,.slice none 0 0,.slice none 0 0] = w3
  have hl3 : blk w3 (w.heap.size + 1) = some (#[.int .i64 0,.slice (some a2) ((t.at 0).s).length k2,.bool false,.slice none 0 0,.slice none 0 0,.int .i64 0,.slice none 0 0,.bool false,.slice none 0 0,.slice none 0 0,.int .i64 0,.slice none 0 0,.bool false,.slice none 0 0,.slice none 0 0,.int .i64 0,.slice none 0 0,.bool false,.slice none 0 0,.slice none 0 0,.int .i64 0,.slice none 0 0,.bool false,.slice none 0 0,.slice none 0 0,.int .i64 0,.slice none 0 0,.bool false,.slice none 0 0,.slice none 0 0,.int .i64 0,.slice none 0 0,.bool false,.slice none 0 0,.slice none 0 0,.int .i64 0,.slice none 0 0,.bool false,.slice none 0 0,.slice none 0 0,.int .i64 0,.slice none 0 0,.bool false,.slice none 0 0,.slice none 0 0,.int .i64 0,.slice none 0 0,.bool false,.slice none 0 0,.slice none 0 0],26,(0,0)) := by rw [← hw3,blk_wr_eq,hlq3];rfl
  have hv3 : Upd (fun b => b = w.heap.size + 1 ∨ b = w.heap.size + 2) w2 w3 := by rw [← hw3];exact (Upd.refl _ _).wr _ _ (.inr (.inl rfl))
  have hV3 : Upd (fun b => b = w.heap.size + 1 ∨ b = w.heap.size + 2) w1 w3 := hx3.trans hv3
  have hU3 : Upd (fun b => b = w.heap.size + 1 ∨ b = w.heap.size + 2) w1 w3 := hU1.trans hV3
  have hz3 := hU3.size
  have hX3 : Ext w w3 := hE1.more hU3 fun b hb h => by omega
  have hb3 := hX3.blk_some hb id
  have ht3 : blk w3 (w.heap.size + 2) = some (#[.int .i64 0,.slice none 0 0,.bool false,.slice (some ⟨w.heap.size + 1,0,none⟩) 10 10,.slice none 0 0],26,(0,0)) := by
    rw [← hw3,blk_wr_ne (by omega)]
    exact hP2.blk_some (show blk w1.drew (w.heap.size + 2) = _ from ht1) id
  clear hw3
  have hf0 : TreeC (fun b => w1.heap.size ≤ b) w3 (.oct false (t.at 0).s) [.int .i64 0,.slice (some a2) ((t.at 0).s).length k2,.bool false,.slice none 0 0,.slice none 0 0] := (TreeC.keep (hv3.keeps fun b hb hk e => by have hk' : w1.heap.size ≤ b := hk;omega) (TreeC.intro rfl (hB2.weaken fun b _ hk => by have hk' : w1.drew.heap.size ≤ b := hk;(try simp only [size_drew] at hk');omega) (treesN _ _) (tagsN _ _) : TreeC (fun b => w1.heap.size ≤ b) w2 (.oct false (t.at 0).s) [.int .i64 0,.slice (some a2) ((t.at 0).s).length k2,.bool false,.slice none 0 0,.slice none 0 0]))
  repeat ((first | refine qA rfl ?_|refine qB ?_|refine qC rfl ?_|refine qD ?_|refine qE ?_|refine qF ?_|refine qG ?_|refine qH ?_);try simp (maxSteps:=1000000)(disch:=(first|omega|(simp only [qI,qJ,qK]<;>omega)|exact qL _)) only [go_sem,↓reduceIte,n0,reduceCtorEq,n1,n2,n3,n4,n5,i0,i1,i2,i3,i4,i5,i6,i7,hb3,hl3,ht3,hq0,hq1,hq2,hq3,hq4,hq5,hq6,hq7,hq8,hq9,hq10])
  refine W.drawR (.take 0 (.take 1 (.take 2 (.take 3 (.take 4 (.take 5 (.only 6 (.only 7 (.take 8 (.last 9)))))))))) (NoB) mixed (by kernel_rfl) ?_
  try simp (maxSteps:=1000000)(disch:=(first|omega|(simp only [qI,qJ,qK]<;>omega)|exact qL _)) only [go_sem,↓reduceIte,n0,reduceCtorEq,n1,n2,n3,n4,n5,i0,i1,i2,i3,i4,i5,i6,i7,hb3,hl3,ht3,hq0,hq1,hq2,hq3,hq4,hq5,hq6,hq7,hq8,hq9,hq10]
  refine wp_octets (S := 9) (T := 22) (E := 5) (s := (t.at 1).s) (by kernel_rfl) (by kernel_rfl) (by kernel_rfl) (by first | rfl | simp (maxSteps:=1000000)(disch:=(first|omega|(simp only [qI,qJ,qK]<;>omega)|exact qL _)) only [go_sem,↓reduceIte,n0,reduceCtorEq,n1,n2,n3,n4,n5,i0,i1,i2,i3,i4,i5,i6,i7,hb3,hl3,ht3,hq0,hq1,hq2,hq3,hq4,hq5,hq6,hq7,hq8,hq9,hq10]) ?_
  intro a4 k4 w4 hB4 hEx4
  have hP4 : Upd NoB w3.drew w4 := (Upd.refl _ _).trans (hEx4.mono fun _ h => h.elim)
  have hsq4 := hEx4.size
  try simp only [size_drew] at hsq4
  refine ⟨hP4,?_⟩
  try simp (maxSteps:=1000000)(disch:=(first|omega|(simp only [qI,qJ,qK]<;>omega)|exact qL _)) only [go_sem,↓reduceIte,n0,reduceCtorEq,n1,n2,n3,n4,n5,i0,i1,i2,i3,i4,i5,i6,i7,hb3,hl3,ht3,hq0,hq1,hq2,hq3,hq4,hq5,hq6,hq7,hq8,hq9,hq10]
  refine ⟨hP4,?_⟩
  have hlq5 := hP4.blk_some (show blk w3.drew (w.heap.size + 1) = _ from hl3) id
  have hx5 : Upd (fun b => b = w.heap.size + 1 ∨ b = w.heap.size + 2) w3 w4 := ((Upd.refl _ _).drew).trans (hP4.mono fun _ h => h.elim)
  try simp (maxSteps:=1000000)(disch:=(first|omega|(simp only [qI,qJ,qK]<;>omega)|exact qL _)) only [go_sem,↓reduceIte,n0,reduceCtorEq,n1,n2,n3,n4,n5,i0,i1,i2,i3,i4,i5,i6,i7,hlq5]
  generalize hw5 : wr w4 (w.heap.size + 1) 5 [.int .i64 0,.slice (some a4) ((t.at 1).s).length k4,.bool false,.slice none 0 0,.slice none 0 0] = w5
  have hl5 : blk w5 (w.heap.size + 1) = some (#[.int .i64 0,.slice (some a2) ((t.at 0).s).length k2,.bool false,.slice none 0 0,.slice none 0 0,.int .i64 0,.slice (some a4) ((t.at 1).s).length k4,.bool false,.slice none 0 0,.slice none 0 0,.int .i64 0,.slice none 0 0,.bool false,.slice none 0 0,.slice none 0 0,.int .i64 0,.slice none 0 0,.bool false,.slice none 0 0,.slice none 0 0,.int .i64 0,.slice none 0 0,.bool false,.slice none 0 0,.slice none 0 0,.int .i64 0,.slice none 0 0,.bool false,.slice none 0 0,.slice none 0 0,.int .i64 0,.slice none 0 0,.bool false,.slice none 0 0,.slice none 0 0,.int .i64 0,.slice none 0 0,.bool false,.slice none 0 0,.slice none 0 0,.int .i64 0,.slice none 0 0,.bool false,.slice none 0 0,.slice none 0 0,.int .i64 0,.slice none 0 0,.bool false,.slice none 0 0,.slice none 0 0],26,(0,0)) := by rw [← hw5,blk_wr_eq,hlq5];rfl
  have hv5 : Upd (fun b => b = w.heap.size + 1 ∨ b = w.heap.size + 2) w4 w5 := by rw [← hw5];exact (Upd.refl _ _).wr _ _ (.inr (.inl rfl))
  have hV5 : Upd (fun b => b = w.heap.size + 1 ∨ b = w.heap.size + 2) w3 w5 := hx5.trans hv5
  have hU5 : Upd (fun b => b = w.heap.size + 1 ∨ b = w.heap.size + 2) w1 w5 := hU3.trans hV5
  have hz5 := hU5.size
  have hX5 : Ext w w5 := hE1.more hU5 fun b hb h => by omega
  have hb5 := hX5.blk_some hb id
  have ht5 : blk w5 (w.heap.size + 2) = some (#[.int .i64 0,.slice none 0 0,.bool false,.slice (some ⟨w.heap.size + 1,0,none⟩) 10 10,.slice none 0 0],26,(0,0)) := by
    rw [← hw5,blk_wr_ne (by omega)]
    exact hP4.blk_some (show blk w3.drew (w.heap.size + 2) = _ from ht3) id
  clear hw5
  have hf1 : TreeC (fun b => w1.heap.size ≤ b) w5 (.oct false (t.at 1).s) [.int .i64 0,.slice (some a4) ((t.at 1).s).length k4,.bool false,.slice none 0 0,.slice none 0 0] := (TreeC.keep (hv5.keeps fun b hb hk e => by have hk' : w1.heap.size ≤ b := hk;omega) (TreeC.intro rfl (hB4.weaken fun b _ hk => by have hk' : w3.drew.heap.size ≤ b := hk;(try simp only [size_drew] at hk');omega) (treesN _ _) (tagsN _ _) : TreeC (fun b => w1.heap.size ≤ b) w4 (.oct false (t.at 1).s) [.int .i64 0,.slice (some a4) ((t.at 1).s).length k4,.bool false,.slice none 0 0,.slice none 0 0]))
  repeat ((first | refine qA rfl ?_|refine qB ?_|refine qC rfl ?_|refine qD ?_|refine qE ?_|refine qF ?_|refine qG ?_|refine qH ?_);try simp (maxSteps:=1000000)(disch:=(first|omega|(simp only [qI,qJ,qK]<;>omega)|exact qL _)) only [go_sem,↓reduceIte,n0,reduceCtorEq,n1,n2,n3,n4,n5,i0,i1,i2,i3,i4,i5,i6,i7,hb5,hl5,ht5,hq0,hq1,hq2,hq3,hq4,hq5,hq6,hq7,hq8,hq9,hq10])
  refine W.drawR (.take 0 (.take 1 (.take 2 (.take 3 (.take 4 (.take 5 (.only 6 (.only 7 (.take 8 (.last 9)))))))))) (NoB) mixed (by kernel_rfl) ?_
  try simp (maxSteps:=1000000)(disch:=(first|omega|(simp only [qI,qJ,qK]<;>omega)|exact qL _)) only [go_sem,↓reduceIte,n0,reduceCtorEq,n1,n2,n3,n4,n5,i0,i1,i2,i3,i4,i5,i6,i7,hb5,hl5,ht5,hq0,hq1,hq2,hq3,hq4,hq5,hq6,hq7,hq8,hq9,hq10]
  refine wp_octets (S := 9) (T := 22) (E := 5) (s := (t.at 2).s) (by kernel_rfl) (by kernel_rfl) (by kernel_rfl) (by first | rfl | simp (maxSteps:=1000000)(disch:=(first|omega|(simp only [qI,qJ,qK]<;>omega)|exact qL _)) only [go_sem,↓reduceIte,n0,reduceCtorEq,n1,n2,n3,n4,n5,i0,i1,i2,i3,i4,i5,i6,i7,hb5,hl5,ht5,hq0,hq1,hq2,hq3,hq4,hq5,hq6,hq7,hq8,hq9,hq10]) ?_
  intro a6 k6 w6 hB6 hEx6
  have hP6 : Upd NoB w5.drew w6 := (Upd.refl _ _).trans (hEx6.mono fun _ h => h.elim)
  have hsq6 := hEx6.size
  try simp only [size_drew] at hsq6
  refine ⟨hP6,?_⟩
  try simp (maxSteps:=1000000)(disch:=(first|omega|(simp only [qI,qJ,qK]<;>omega)|exact qL _)) only [go_sem,↓reduceIte,n0,reduceCtorEq,n1,n2,n3,n4,n5,i0,i1,i2,i3,i4,i5,i6,i7,hb5,hl5,ht5,hq0,hq1,hq2,hq3,hq4,hq5,hq6,hq7,hq8,hq9,hq10]
  refine ⟨hP6,?_⟩
  have hlq7 := hP6.blk_some (show blk w5.drew (w.heap.size + 1) = _ from hl5) id
  have hx7 : Upd (fun b => b = w.heap.size + 1 ∨ b = w.heap.size + 2) w5 w6 := ((Upd.refl _ _).drew).trans (hP6.mono fun _ h => h.elim)
  try simp (maxSteps:=1000000)(disch:=(first|omega|(simp only [qI,qJ,qK]<;>omega)|exact qL _)) only [go_sem,↓reduceIte,n0,reduceCtorEq,n1,n2,n3,n4,n5,i0,i1,i2,i3,i4,i5,i6,i7,hlq7]
  generalize hw7 : wr w6 (w.heap.size + 1) 10 [.int .i64 0,.slice (some a6) ((t.at 2).s).length k6,.bool false,.slice none 0 0,.slice none 0 0] = w7
  have hl7 : blk w7 (w.heap.size + 1) = some (#[.int .i64 0,.slice (some a2) ((t.at 0).s).length k2,.bool false,.slice none 0 0,.slice none 0 0,.int .i64 0,.slice (some a4) ((t.at 1).s).length k4,.bool false,.slice none 0 0,.slice none 0 0,.int .i64 0,.slice (some a6) ((t.at 2).s).length k6,.bool false,.slice none 0 0,.slice none 0 0,.int .i64 0,.slice none 0 0,.bool false,.slice none 0 0,.slice none 0 0,.int .i64 0,.slice none 0 0,.bool false,.slice none 0 0,.slice none 0 0,.int .i64 0,.slice none 0 0,.bool false,.slice none 0 0,.slice none 0 0,.int .i64 0,.slice none 0 0,.bool false,.slice none 0 0,.slice none 0 0,.int .i64 0,.slice none 0 0,.bool false,.slice none 0 0,.slice none 0 0,.int .i64 0,.slice none 0 0,.bool false,.slice none 0 0,.slice none 0 0,.int .i64 0,.slice none 0 0,.bool false,.slice none 0 0,.slice none 0 0],26,(0,0)) := by rw [← hw7,blk_wr_eq,hlq7];rfl
  have hv7 : Upd (fun b => b = w.heap.size + 1 ∨ b = w.heap.size + 2) w6 w7 := by rw [← hw7];exact (Upd.refl _ _).wr _ _ (.inr (.inl rfl))
  have hV7 : Upd (fun b => b = w.heap.size + 1 ∨ b = w.heap.size + 2) w5 w7 := hx7.trans hv7
  have hU7 : Upd (fun b => b = w.heap.size + 1 ∨ b = w.heap.size + 2) w1 w7 := hU5.trans hV7
  have hz7 := hU7.size
  have hX7 : Ext w w7 := hE1.more hU7 fun b hb h => by omega
  have hb7 := hX7.blk_some hb id
  have ht7 : blk w7 (w.heap.size + 2) = some (#[.int .i64 0,.slice none 0 0,.bool false,.slice (some ⟨w.heap.size + 1,0,none⟩) 10 10,.slice none 0 0],26,(0,0)) := by
    rw [← hw7,blk_wr_ne (by omega)]
    exact hP6.blk_some (show blk w5.drew (w.heap.size + 2) = _ from ht5) id
  clear hw7
  have hf2 : TreeC (fun b => w1.heap.size ≤ b) w7 (.oct false (t.at 2).s) [.int .i64 0,.slice (some a6) ((t.at 2).s).length k6,.bool false,.slice none 0 0,.slice none 0 0] := (TreeC.keep (hv7.keeps fun b hb hk e => by have hk' : w1.heap.size ≤ b := hk;omega) (TreeC.intro rfl (hB6.weaken fun b _ hk => by have hk' : w5.drew.heap.size ≤ b := hk;(try simp only [size_drew] at hk');omega) (treesN _ _) (tagsN _ _) : TreeC (fun b => w1.heap.size ≤ b) w6 (.oct false (t.at 2).s) [.int .i64 0,.slice (some a6) ((t.at 2).s).length k6,.bool false,.slice none 0 0,.slice none 0 0]))
  repeat ((first | refine qA rfl ?_|refine qB ?_|refine qC rfl ?_|refine qD ?_|refine qE ?_|refine qF ?_|refine qG ?_|refine qH ?_);try simp (maxSteps:=1000000)(disch:=(first|omega|(simp only [qI,qJ,qK]<;>omega)|exact qL _)) only [go_sem,↓reduceIte,n0,reduceCtorEq,n1,n2,n3,n4,n5,i0,i1,i2,i3,i4,i5,i6,i7,hb7,hl7,ht7,hq0,hq1,hq2,hq3,hq4,hq5,hq6,hq7,hq8,hq9,hq10])
  refine W.drawR (.take 0 (.take 1 (.take 2 (.take 3 (.take 4 (.take 5 (.only 6 (.only 7 (.take 8 (.last 9)))))))))) (NoB) mixed (by kernel_rfl) ?_
  try simp (maxSteps:=1000000)(disch:=(first|omega|(simp only [qI,qJ,qK]<;>omega)|exact qL _)) only [go_sem,↓reduceIte,n0,reduceCtorEq,n1,n2,n3,n4,n5,i0,i1,i2,i3,i4,i5,i6,i7,hb7,hl7,ht7,hq0,hq1,hq2,hq3,hq4,hq5,hq6,hq7,hq8,hq9,hq10]
  refine wp_octets (S := 9) (T := 22) (E := 5) (s := (t.at 3).s) (by kernel_rfl) (by kernel_rfl) (by kernel_rfl) (by first | rfl | simp (maxSteps:=1000000)(disch:=(first|omega|(simp only [qI,qJ,qK]<;>omega)|exact qL _)) only [go_sem,↓reduceIte,n0,reduceCtorEq,n1,n2,n3,n4,n5,i0,i1,i2,i3,i4,i5,i6,i7,hb7,hl7,ht7,hq0,hq1,hq2,hq3,hq4,hq5,hq6,hq7,hq8,hq9,hq10]) ?_
  intro a8 k8 w8 hB8 hEx8
  have hP8 : Upd NoB w7.drew w8 := (Upd.refl _ _).trans (hEx8.mono fun _ h => h.elim)
  have hsq8 := hEx8.size
  try simp only [size_drew] at hsq8
  refine ⟨hP8,?_⟩
  try simp (maxSteps:=1000000)(disch:=(first|omega|(simp only [qI,qJ,qK]<;>omega)|exact qL _)) only [go_sem,↓reduceIte,n0,reduceCtorEq,n1,n2,n3,n4,n5,i0,i1,i2,i3,i4,i5,i6,i7,hb7,hl7,ht7,hq0,hq1,hq2,hq3,hq4,hq5,hq6,hq7,hq8,hq9,hq10]
  refine ⟨hP8,?_⟩
  have hlq9 := hP8.blk_some (show blk w7.drew (w.heap.size + 1) = _ from hl7) id
  have hx9 : Upd (fun b => b = w.heap.size + 1 ∨ b = w.heap.size + 2) w7 w8 := ((Upd.refl _ _).drew).trans (hP8.mono fun _ h => h.elim)
  try simp (maxSteps:=1000000)(disch:=(first|omega|(simp only [qI,qJ,qK]<;>omega)|exact qL _)) only [go_sem,↓reduceIte,n0,reduceCtorEq,n1,n2,n3,n4,n5,i0,i1,i2,i3,i4,i5,i6,i7,hlq9]
  generalize hw9 : wr w8 (w.heap.size + 1) 15 [.int .i64 0,.slice (some a8) ((t.at 3).s).length k8,.bool false,.slice none 0 0,.slice none 0 0] = w9
  have hl9 : blk w9 (w.heap.size + 1) = some (#[.int .i64 0,.slice (some a2) ((t.at 0).s).length k2,.bool false,.slice none 0 0,.slice none 0 0,.int .i64 0,.slice (some a4) ((t.at 1).s).length k4,.bool false,.slice none 0 0,.slice none 0 0,.int .i64 0,.slice (some a6) ((t.at 2).s).length k6,.bool false,.slice none 0 0,.slice none 0 0,.int .i64 0,.slice (some a8) ((t.at 3).s).length k8,.bool false,.slice none 0 0,.slice none 0 0,.int .i64 0,.slice none 0 0,.bool false,.slice none 0 0,.slice none 0 0,.int .i64 0,.slice none 0 0,.bool false,.slice none 0 0,.slice none 0 0,.int .i64 0,.slice none 0 0,.bool false,.slice none 0 0,.slice none 0 0,.int .i64 0,.slice none 0 0,.bool false,.slice none 0 0,.slice none 0 0,.int .i64 0,.slice none 0 0,.bool false,.slice none 0 0,.slice none 0 0,.int .i64 0,.slice none 0 0,.bool false,.slice none 0 0,.slice none 0 0],26,(0,0)) := by rw [← hw9,blk_wr_eq,hlq9];rfl
  have hv9 : Upd (fun b => b = w.heap.size + 1 ∨ b = w.heap.size + 2) w8 w9 := by rw [← hw9];exact (Upd.refl _ _).wr _ _ (.inr (.inl rfl))
  have hV9 : Upd (fun b => b = w.heap.size + 1 ∨ b = w.heap.size + 2) w7 w9 := hx9.trans hv9
  have hU9 : Upd (fun b => b = w.heap.size + 1 ∨ b = w.heap.size + 2) w1 w9 := hU7.trans hV9
  have hz9 := hU9.size
  have hX9 : Ext w w9 := hE1.more hU9 fun b hb h => by omega
  have hb9 := hX9.blk_some hb id
  have ht9 : blk w9 (w.heap.size + 2) = some (#[.int .i64 0,.slice none 0 0,.bool false,.slice (some ⟨w.heap.size + 1,0,none⟩) 10 10,.slice none 0 0],26,(0,0)) := by
    rw [← hw9,blk_wr_ne (by omega)]
    exact hP8.blk_some (show blk w7.drew (w.heap.size + 2) = _ from ht7) id
  clear hw9
  have hf3 : TreeC (fun b => w1.heap.size ≤ b) w9 (.oct false (t.at 3).s) [.int .i64 0,.slice (some a8) ((t.at 3).s).length k8,.bool false,.slice none 0 0,.slice none 0 0] := (TreeC.keep (hv9.keeps fun b hb hk e => by have hk' : w1.heap.size ≤ b := hk;omega) (TreeC.intro rfl (hB8.weaken fun b _ hk => by have hk' : w7.drew.heap.size ≤ b := hk;(try simp only [size_drew] at hk');omega) (treesN _ _) (tagsN _ _) : TreeC (fun b => w1.heap.size ≤ b) w8 (.oct false (t.at 3).s) [.int .i64 0,.slice (some a8) ((t.at 3).s).length k8,.bool false,.slice none 0 0,.slice none 0 0]))
  repeat ((first | refine qA rfl ?_|refine qB ?_|refine qC rfl ?_|refine qD ?_|refine qE ?_|refine qF ?_|refine qG ?_|refine qH ?_);try simp (maxSteps:=1000000)(disch:=(first|omega|(simp only [qI,qJ,qK]<;>omega)|exact qL _)) only [go_sem,↓reduceIte,n0,reduceCtorEq,n1,n2,n3,n4,n5,i0,i1,i2,i3,i4,i5,i6,i7,hb9,hl9,ht9,hq0,hq1,hq2,hq3,hq4,hq5,hq6,hq7,hq8,hq9,hq10])
  refine W.drawR (.take 0 (.take 1 (.take 2 (.take 3 (.take 4 (.take 5 (.only 6 (.take 7 (.last 8))))))))) (NoB) mixed (by kernel_rfl) ?_
  try simp (maxSteps:=1000000)(disch:=(first|omega|(simp only [qI,qJ,qK]<;>omega)|exact qL _)) only [go_sem,↓reduceIte,n0,reduceCtorEq,n1,n2,n3,n4,n5,i0,i1,i2,i3,i4,i5,i6,i7,hb9,hl9,ht9,hq0,hq1,hq2,hq3,hq4,hq5,hq6,hq7,hq8,hq9,hq10]
  refine ⟨Upd.refl _ _,?_⟩
  have hlq10 : blk w9.drew (w.heap.size + 1) = _ := hl9
  have hx10 : Upd (fun b => b = w.heap.size + 1 ∨ b = w.heap.size + 2) w9 w9.drew := (Upd.refl _ _).drew
  generalize hw10 : wr w9.drew (w.heap.size + 1) 20 [.int .i64 ((t.at 4).n),.slice none 0 0,.bool false,.slice none 0 0,.slice none 0 0] = w10
  have hl10 : blk w10 (w.heap.size + 1) = some (#[.int .i64 0,.slice (some a2) ((t.at 0).s).length k2,.bool false,.slice none 0 0,.slice none 0 0,.int .i64 0,.slice (some a4) ((t.at 1).s).length k4,.bool false,.slice none 0 0,.slice none 0 0,.int .i64 0,.slice (some a6) ((t.at 2).s).length k6,.bool false,.slice none 0 0,.slice none 0 0,.int .i64 0,.slice (some a8) ((t.at 3).s).length k8,.bool false,.slice none 0 0,.slice none 0 0,.int .i64 ((t.at 4).n),.slice none 0 0,.bool false,.slice none 0 0,.slice none 0 0,.int .i64 0,.slice none 0 0,.bool false,.slice none 0 0,.slice none 0 0,.int .i64 0,.slice none 0 0,.bool false,.slice none 0 0,.slice none 0 0,.int .i64 0,.slice none 0 0,.bool false,.slice none 0 0,.slice none 0 0,.int .i64 0,.slice none 0 0,.bool false,.slice none 0 0,.slice none 0 0,.int .i64 0,.slice none 0 0,.bool false,.slice none 0 0,.slice none 0 0],26,(0,0)) := by rw [← hw10,blk_wr_eq,hlq10];rfl
  have hv10 : Upd (fun b => b = w.heap.size + 1 ∨ b = w.heap.size + 2) w9.drew w10 := by rw [← hw10];exact (Upd.refl _ _).wr _ _ (.inr (.inl rfl))
  have hV10 : Upd (fun b => b = w.heap.size + 1 ∨ b = w.heap.size + 2) w9 w10 := hx10.trans hv10
  have hU10 : Upd (fun b => b = w.heap.size + 1 ∨ b = w.heap.size + 2) w1 w10 := hU9.trans hV10
  have hz10 := hU10.size
  have hX10 : Ext w w10 := hE1.more hU10 fun b hb h => by omega
  have hb10 := hX10.blk_some hb id
  have ht10 : blk w10 (w.heap.size + 2) = some (#[.int .i64 0,.slice none 0 0,.bool false,.slice (some ⟨w.heap.size + 1,0,none⟩) 10 10,.slice none 0 0],26,(0,0)) := by
    rw [← hw10,blk_wr_ne (by omega)]
    exact ht9
  clear hw10
  have hf4 : TreeC (fun b => w1.heap.size ≤ b) w10 (.num ((t.at 4).n)) [.int .i64 ((t.at 4).n),.slice none 0 0,.bool false,.slice none 0 0,.slice none 0 0] := (TreeC.keep (hv10.keeps fun b hb hk e => by have hk' : w1.heap.size ≤ b := hk;omega) (TreeC.intro (hn64_4) (BytesV.nil _ _) (treesN _ _) (tagsN _ _) : TreeC (fun b => w1.heap.size ≤ b) w9.drew (.num ((t.at 4).n)) [.int .i64 ((t.at 4).n),.slice none 0 0,.bool false,.slice none 0 0,.slice none 0 0]))
  repeat ((first | refine qA rfl ?_|refine qB ?_|refine qC rfl ?_|refine qD ?_|refine qE ?_|refine qF ?_|refine qG ?_|refine qH ?_);try simp (maxSteps:=1000000)(disch:=(first|omega|(simp only [qI,qJ,qK]<;>omega)|exact qL _)) only [go_sem,↓reduceIte,n0,reduceCtorEq,n1,n2,n3,n4,n5,i0,i1,i2,i3,i4,i5,i6,i7,hb10,hl10,ht10,hq0,hq1,hq2,hq3,hq4,hq5,hq6,hq7,hq8,hq9,hq10])
  refine W.drawR (.take 0 (.take 1 (.take 2 (.take 3 (.take 4 (.take 5 (.only 6 (.take 7 (.last 8))))))))) (NoB) mixed (by kernel_rfl) ?_
  try simp (maxSteps:=1000000)(disch:=(first|omega|(simp only [qI,qJ,qK]<;>omega)|exact qL _)) only [go_sem,↓reduceIte,n0,reduceCtorEq,n1,n2,n3,n4,n5,i0,i1,i2,i3,i4,i5,i6,i7,hb10,hl10,ht10,hq0,hq1,hq2,hq3,hq4,hq5,hq6,hq7,hq8,hq9,hq10]
  refine ⟨Upd.refl _ _,?_⟩
  have hlq11 : blk w10.drew (w.heap.size + 1) = _ := hl10
  have hx11 : Upd (fun b => b = w.heap.size + 1 ∨ b = w.heap.size + 2) w10 w10.drew := (Upd.refl _ _).drew
  generalize hw11 : wr w10.drew (w.heap.size + 1) 25 [.int .i64 ((t.at 5).n),.slice none 0 0,.bool false,.slice none 0 0,.slice none 0 0] = w11
  have hl11 : blk w11 (w.heap.size + 1) = some (#[.int .i64 0,.slice (some a2) ((t.at 0).s).length k2,.bool false,.slice none 0 0,.slice none 0 0,.int .i64 0,.slice (some a4) ((t.at 1).s).length k4,.bool false,.slice none 0 0,.slice none 0 0,.int .i64 0,.slice (some a6) ((t.at 2).s).length k6,.bool false,.slice none 0 0,.slice none 0 0,.int .i64 0,.slice (some a8) ((t.at 3).s).length k8,.bool false,.slice none 0 0,.slice none 0 0,.int .i64 ((t.at 4).n),.slice none 0 0,.bool false,.slice none 0 0,.slice none 0 0,.int .i64 ((t.at 5).n),.slice none 0 0,.bool false,.slice none 0 0,.slice none 0 0,.int .i64 0,.slice none 0 0,.bool false,.slice none 0 0,.slice none 0 0,.int .i64 0,.slice none 0 0,.bool false,.slice none 0 0,.slice none 0 0,.int .i64 0,.slice none 0 0,.bool false,.slice none 0 0,.slice none 0 0,.int .i64 0,.slice none 0 0,.bool false,.slice none 0 0,.slice none 0 0],26,(0,0)) := by rw [← hw11,blk_wr_eq,hlq11];rfl
  have hv11 : Upd (fun b => b = w.heap.size + 1 ∨ b = w.heap.size + 2) w10.drew w11 := by rw [← hw11];exact (Upd.refl _ _).wr _ _ (.inr (.inl rfl))
  have hV11 : Upd (fun b => b = w.heap.size + 1 ∨ b = w.heap.size + 2) w10 w11 := hx11.trans hv11
  have hU11 : Upd (fun b => b = w.heap.size + 1 ∨ b = w.heap.size + 2) w1 w11 := hU10.trans hV11
  have hz11 := hU11.size
  have hX11 : Ext w w11 := hE1.more hU11 fun b hb h => by omega
  have hb11 := hX11.blk_some hb id
  have ht11 : blk w11 (w.heap.size + 2) = some (#[.int .i64 0,.slice none 0 0,.bool false,.slice (some ⟨w.heap.size + 1,0,none⟩) 10 10,.slice none 0 0],26,(0,0)) := by
    rw [← hw11,blk_wr_ne (by omega)]
    exact ht10
  clear hw11
  have hf5 : TreeC (fun b => w1.heap.size ≤ b) w11 (.num ((t.at 5).n)) [.int .i64 ((t.at 5).n),.slice none 0 0,.bool false,.slice none 0 0,.slice none 0 0] := (TreeC.keep (hv11.keeps fun b hb hk e => by have hk' : w1.heap.size ≤ b := hk;omega) (TreeC.intro (hn64_5) (BytesV.nil _ _) (treesN _ _) (tagsN _ _) : TreeC (fun b => w1.heap.size ≤ b) w10.drew (.num ((t.at 5).n)) [.int .i64 ((t.at 5).n),.slice none 0 0,.bool false,.slice none 0 0,.slice none 0 0]))
  repeat ((first | refine qA rfl ?_|refine qB ?_|refine qC rfl ?_|refine qD ?_|refine qE ?_|refine qF ?_|refine qG ?_|refine qH ?_);try simp (maxSteps:=1000000)(disch:=(first|omega|(simp only [qI,qJ,qK]<;>omega)|exact qL _)) only [go_sem,↓reduceIte,n0,reduceCtorEq,n1,n2,n3,n4,n5,i0,i1,i2,i3,i4,i5,i6,i7,hb11,hl11,ht11,hq0,hq1,hq2,hq3,hq4,hq5,hq6,hq7,hq8,hq9,hq10])
  refine W.drawR (.take 0 (.take 1 (.take 2 (.take 3 (.take 4 (.take 5 (.only 6 (.take 7 (.last 8))))))))) (NoB) mixed (by kernel_rfl) ?_
  try simp (maxSteps:=1000000)(disch:=(first|omega|(simp only [qI,qJ,qK]<;>omega)|exact qL _)) only [go_sem,↓reduceIte,n0,reduceCtorEq,n1,n2,n3,n4,n5,i0,i1,i2,i3,i4,i5,i6,i7,hb11,hl11,ht11,hq0,hq1,hq2,hq3,hq4,hq5,hq6,hq7,hq8,hq9,hq10]
  refine ⟨Upd.refl _ _,?_⟩
  have hlq12 : blk w11.drew (w.heap.size + 1) = _ := hl11
  have hx12 : Upd (fun b => b = w.heap.size + 1 ∨ b = w.heap.size + 2) w11 w11.drew := (Upd.refl _ _).drew
  generalize hw12 : wr w11.drew (w.heap.size + 1) 30 [.int .i64 ((t.at 6).n),.slice none 0 0,.bool false,.slice none 0 0,.slice none 0 0] = w12
  have hl12 : blk w12 (w.heap.size + 1) = some (#[.int .i64 0,.slice (some a2) ((t.at 0).s).length k2,.bool false,.slice none 0 0,.slice none 0 0,.int .i64 0,.slice (some a4) ((t.at 1).s).length k4,.bool false,.slice none 0 0,.slice none 0 0,.int .i64 0,.slice (some a6) ((t.at 2).s).length k6,.bool false,.slice none 0 0,.slice none 0 0,.int .i64 0,.slice (some a8) ((t.at 3).s).length k8,.bool false,.slice none 0 0,.slice none 0 0,.int .i64 ((t.at 4).n),.slice none 0 0,.bool false,.slice none 0 0,.slice none 0 0,.int .i64 ((t.at 5).n),.slice none 0 0,.bool false,.slice none 0 0,.slice none 0 0,.int .i64 ((t.at 6).n),.slice none 0 0,.bool false,.slice none 0 0,.slice none 0 0,.int .i64 0,.slice none 0 0,.bool false,.slice none 0 0,.slice none 0 0,.int .i64 0,.slice none 0 0,.bool false,.slice none 0 0,.slice none 0 0,.int .i64 0,.slice none 0 0,.bool false,.slice none 0 0,.slice none 0 0],26,(0,0)) := by rw [← hw12,blk_wr_eq,hlq12];rfl
  have hv12 : Upd (fun b => b = w.heap.size + 1 ∨ b = w.heap.size + 2) w11.drew w12 := by rw [← hw12];exact (Upd.refl _ _).wr _ _ (.inr (.inl rfl))
  have hV12 : Upd (fun b => b = w.heap.size + 1 ∨ b = w.heap.size + 2) w11 w12 := hx12.trans hv12
  have hU12 : Upd (fun b => b = w.heap.size + 1 ∨ b = w.heap.size + 2) w1 w12 := hU11.trans hV12
  have hz12 := hU12.size
  have hX12 : Ext w w12 := hE1.more hU12 fun b hb h => by omega
  have hb12 := hX12.blk_some hb id
  have ht12 : blk w12 (w.heap.size + 2) = some (#[.int .i64 0,.slice none 0 0,.bool false,.slice (some ⟨w.heap.size + 1,0,none⟩) 10 10,.slice none 0 0],26,(0,0)) := by
    rw [← hw12,blk_wr_ne (by omega)]
    exact ht11
  clear hw12
  have hf6 : TreeC (fun b => w1.heap.size ≤ b) w12 (.num ((t.at 6).n)) [.int .i64 ((t.at 6).n),.slice none 0 0,.bool false,.slice none 0 0,.slice none 0 0] := (TreeC.keep (hv12.keeps fun b hb hk e => by have hk' : w1.heap.size ≤ b := hk;omega) (TreeC.intro (hn64_6) (BytesV.nil _ _) (treesN _ _) (tagsN _ _) : TreeC (fun b => w1.heap.size ≤ b) w11.drew (.num ((t.at 6).n)) [.int .i64 ((t.at 6).n),.slice none 0 0,.bool false,.slice none 0 0,.slice none 0 0]))
  repeat ((first | refine qA rfl ?_|refine qB ?_|refine qC rfl ?_|refine qD ?_|refine qE ?_|refine qF ?_|refine qG ?_|refine qH ?_);try simp (maxSteps:=1000000)(disch:=(first|omega|(simp only [qI,qJ,qK]<;>omega)|exact qL _)) only [go_sem,↓reduceIte,n0,reduceCtorEq,n1,n2,n3,n4,n5,i0,i1,i2,i3,i4,i5,i6,i7,hb12,hl12,ht12,hq0,hq1,hq2,hq3,hq4,hq5,hq6,hq7,hq8,hq9,hq10])
  refine W.drawR (.take 0 (.take 1 (.take 2 (.take 3 (.take 4 (.take 5 (.only 6 (.only 7 (.take 8 (.last 9)))))))))) (NoB) mixed (by kernel_rfl) ?_
  try simp (maxSteps:=1000000)(disch:=(first|omega|(simp only [qI,qJ,qK]<;>omega)|exact qL _)) only [go_sem,↓reduceIte,n0,reduceCtorEq,n1,n2,n3,n4,n5,i0,i1,i2,i3,i4,i5,i6,i7,hb12,hl12,ht12,hq0,hq1,hq2,hq3,hq4,hq5,hq6,hq7,hq8,hq9,hq10]
  refine wp_octets (S := 9) (T := 22) (E := 5) (s := (t.at 7).s) (by kernel_rfl) (by kernel_rfl) (by kernel_rfl) (by first | rfl | simp (maxSteps:=1000000)(disch:=(first|omega|(simp only [qI,qJ,qK]<;>omega)|exact qL _)) only [go_sem,↓reduceIte,n0,reduceCtorEq,n1,n2,n3,n4,n5,i0,i1,i2,i3,i4,i5,i6,i7,hb12,hl12,ht12,hq0,hq1,hq2,hq3,hq4,hq5,hq6,hq7,hq8,hq9,hq10]) ?_
  intro a13 k13 w13 hB13 hEx13
  have hP13 : Upd NoB w12.drew w13 := (Upd.refl _ _).trans (hEx13.mono fun _ h => h.elim)
  have hsq13 := hEx13.size
  try simp only [size_drew] at hsq13
  refine ⟨hP13,?_⟩
  try simp (maxSteps:=1000000)(disch:=(first|omega|(simp only [qI,qJ,qK]<;>omega)|exact qL _)) only [go_sem,↓reduceIte,n0,reduceCtorEq,n1,n2,n3,n4,n5,i0,i1,i2,i3,i4,i5,i6,i7,hb12,hl12,ht12,hq0,hq1,hq2,hq3,hq4,hq5,hq6,hq7,hq8,hq9,hq10]
  refine ⟨hP13,?_⟩
  have hlq14 := hP13.blk_some (show blk w12.drew (w.heap.size + 1) = _ from hl12) id
  have hx14 : Upd (fun b => b = w.heap.size + 1 ∨ b = w.heap.size + 2) w12 w13 := ((Upd.refl _ _).drew).trans (hP13.mono fun _ h => h.elim)
  try simp (maxSteps:=1000000)(disch:=(first|omega|(simp only [qI,qJ,qK]<;>omega)|exact qL _)) only [go_sem,↓reduceIte,n0,reduceCtorEq,n1,n2,n3,n4,n5,i0,i1,i2,i3,i4,i5,i6,i7,hlq14]
  generalize hw14 : wr w13 (w.heap.size + 1) 35 [.int .i64 0,.slice (some a13) ((t.at 7).s).length k13,.bool false,.slice none 0 0,.slice none 0 0] = w14
  have hl14 : blk w14 (w.heap.size + 1) = some (#[.int .i64 0,.slice (some a2) ((t.at 0).s).length k2,.bool false,.slice none 0 0,.slice none 0 0,.int .i64 0,.slice (some a4) ((t.at 1).s).length k4,.bool false,.slice none 0 0,.slice none 0 0,.int .i64 0,.slice (some a6) ((t.at 2).s).length k6,.bool false,.slice none 0 0,.slice none 0 0,.int .i64 0,.slice (some a8) ((t.at 3).s).length k8,.bool false,.slice none 0 0,.slice none 0 0,.int .i64 ((t.at 4).n),.slice none 0 0,.bool false,.slice none 0 0,.slice none 0 0,.int .i64 ((t.at 5).n),.slice none 0 0,.bool false,.slice none 0 0,.slice none 0 0,.int .i64 ((t.at 6).n),.slice none 0 0,.bool false,.slice none 0 0,.slice none 0 0,.int .i64 0,.slice (some a13) ((t.at 7).s).length k13,.bool false,.slice none 0 0,.slice none 0 0,.int .i64 0,.slice none 0 0,.bool false,.slice none 0 0,.slice none 0 0,.int .i64 0,.slice none 0 0,.bool false,.slice none 0 0,.slice none 0 0],26,(0,0)) := by rw [← hw14,blk_wr_eq,hlq14];rfl
  have hv14 : Upd (fun b => b = w.heap.size + 1 ∨ b = w.heap.size + 2) w13 w14 := by rw [← hw14];exact (Upd.refl _ _).wr _ _ (.inr (.inl rfl))
  have hV14 : Upd (fun b => b = w.heap.size + 1 ∨ b = w.heap.size + 2) w12 w14 := hx14.trans hv14
  have hU14 : Upd (fun b => b = w.heap.size + 1 ∨ b = w.heap.size + 2) w1 w14 := hU12.trans hV14
  have hz14 := hU14.size
  have hX14 : Ext w w14 := hE1.more hU14 fun b hb h => by omega
  have hb14 := hX14.blk_some hb id
  have ht14 : blk w14 (w.heap.size + 2) = some (#[.int .i64 0,.slice none 0 0,.bool false,.slice (some ⟨w.heap.size + 1,0,none⟩) 10 10,.slice none 0 0],26,(0,0)) := by
    rw [← hw14,blk_wr_ne (by omega)]
    exact hP13.blk_some (show blk w12.drew (w.heap.size + 2) = _ from ht12) id
  clear hw14
  have hf7 : TreeC (fun b => w1.heap.size ≤ b) w14 (.oct false (t.at 7).s) [.int .i64 0,.slice (some a13) ((t.at 7).s).length k13,.bool false,.slice none 0 0,.slice none 0 0] := (TreeC.keep (hv14.keeps fun b hb hk e => by have hk' : w1.heap.size ≤ b := hk;omega) (TreeC.intro rfl (hB13.weaken fun b _ hk => by have hk' : w12.drew.heap.size ≤ b := hk;(try simp only [size_drew] at hk');omega) (treesN _ _) (tagsN _ _) : TreeC (fun b => w1.heap.size ≤ b) w13 (.oct false (t.at 7).s) [.int .i64 0,.slice (some a13) ((t.at 7).s).length k13,.bool false,.slice none 0 0,.slice none 0 0]))
  repeat ((first | refine qA rfl ?_|refine qB ?_|refine qC rfl ?_|refine qD ?_|refine qE ?_|refine qF ?_|refine qG ?_|refine qH ?_);try simp (maxSteps:=1000000)(disch:=(first|omega|(simp only [qI,qJ,qK]<;>omega)|exact qL _)) only [go_sem,↓reduceIte,n0,reduceCtorEq,n1,n2,n3,n4,n5,i0,i1,i2,i3,i4,i5,i6,i7,hb14,hl14,ht14,hq0,hq1,hq2,hq3,hq4,hq5,hq6,hq7,hq8,hq9,hq10])
  refine W.drawR (.take 0 (.take 1 (.take 2 (.take 3 (.take 4 (.take 5 (.only 6 (.take 7 (.last 8))))))))) (NoB) mixed (by kernel_rfl) ?_
  try simp (maxSteps:=1000000)(disch:=(first|omega|(simp only [qI,qJ,qK]<;>omega)|exact qL _)) only [go_sem,↓reduceIte,n0,reduceCtorEq,n1,n2,n3,n4,n5,i0,i1,i2,i3,i4,i5,i6,i7,hb14,hl14,ht14,hq0,hq1,hq2,hq3,hq4,hq5,hq6,hq7,hq8,hq9,hq10]
  refine (octetsTree_fn (ok := ok) _ (t.at 8).null (t.at 8).s w14.drew (hp8.keep (Ext.keeps (hX14.drew) _)) (by have := (gd8.one (by decide)).2.1;omega)).mono ?_
  rintro _ w15 ⟨⟨vS15,rfl,hB15⟩,hEx15⟩
  have hfl15 := hB15.flat
  have hP15 : Upd NoB w14.drew w15 := (Upd.refl _ _).trans (hEx15.mono fun _ h => h.elim)
  have hsq15 := hEx15.size
  try simp only [size_drew] at hsq15
  refine ⟨hP15,?_⟩
  try simp (maxSteps:=1000000)(disch:=(first|omega|(simp only [qI,qJ,qK]<;>omega)|exact qL _)) only [go_sem,↓reduceIte,n0,reduceCtorEq,n1,n2,n3,n4,n5,i0,i1,i2,i3,i4,i5,i6,i7,hb14,hl14,ht14,hq0,hq1,hq2,hq3,hq4,hq5,hq6,hq7,hq8,hq9,hq10,hfl15]
  have hlq16 := hP15.blk_some (show blk w14.drew (w.heap.size + 1) = _ from hl14) id
  have hx16 : Upd (fun b => b = w.heap.size + 1 ∨ b = w.heap.size + 2) w14 w15 := ((Upd.refl _ _).drew).trans (hP15.mono fun _ h => h.elim)
  try simp (maxSteps:=1000000)(disch:=(first|omega|(simp only [qI,qJ,qK]<;>omega)|exact qL _)) only [go_sem,↓reduceIte,n0,reduceCtorEq,n1,n2,n3,n4,n5,i0,i1,i2,i3,i4,i5,i6,i7,hlq16]
  generalize hw16 : wr w15 (w.heap.size + 1) 40 [.int .i64 0,vS15,.bool (t.at 8).null,.slice none 0 0,.slice none 0 0] = w16
  have hl16 : blk w16 (w.heap.size + 1) = some (#[.int .i64 0,.slice (some a2) ((t.at 0).s).length k2,.bool false,.slice none 0 0,.slice none 0 0,.int .i64 0,.slice (some a4) ((t.at 1).s).length k4,.bool false,.slice none 0 0,.slice none 0 0,.int .i64 0,.slice (some a6) ((t.at 2).s).length k6,.bool false,.slice none 0 0,.slice none 0 0,.int .i64 0,.slice (some a8) ((t.at 3).s).length k8,.bool false,.slice none 0 0,.slice none 0 0,.int .i64 ((t.at 4).n),.slice none 0 0,.bool false,.slice none 0 0,.slice none 0 0,.int .i64 ((t.at 5).n),.slice none 0 0,.bool false,.slice none 0 0,.slice none 0 0,.int .i64 ((t.at 6).n),.slice none 0 0,.bool false,.slice none 0 0,.slice none 0 0,.int .i64 0,.slice (some a13) ((t.at 7).s).length k13,.bool false,.slice none 0 0,.slice none 0 0,.int .i64 0,vS15,.bool (t.at 8).null,.slice none 0 0,.slice none 0 0,.int .i64 0,.slice none 0 0,.bool false,.slice none 0 0,.slice none 0 0],26,(0,0)) := by rw [← hw16,blk_wr_eq,hlq16];rfl
  have hv16 : Upd (fun b => b = w.heap.size + 1 ∨ b = w.heap.size + 2) w15 w16 := by rw [← hw16];exact (Upd.refl _ _).wr _ _ (.inr (.inl rfl))
  have hV16 : Upd (fun b => b = w.heap.size + 1 ∨ b = w.heap.size + 2) w14 w16 := hx16.trans hv16
  have hU16 : Upd (fun b => b = w.heap.size + 1 ∨ b = w.heap.size + 2) w1 w16 := hU14.trans hV16
  have hz16 := hU16.size
  have hX16 : Ext w w16 := hE1.more hU16 fun b hb h => by omega
  have hb16 := hX16.blk_some hb id
  have ht16 : blk w16 (w.heap.size + 2) = some (#[.int .i64 0,.slice none 0 0,.bool false,.slice (some ⟨w.heap.size + 1,0,none⟩) 10 10,.slice none 0 0],26,(0,0)) := by
    rw [← hw16,blk_wr_ne (by omega)]
    exact hP15.blk_some (show blk w14.drew (w.heap.size + 2) = _ from ht14) id
  clear hw16
  have hf8 : TreeC (fun b => w1.heap.size ≤ b) w16 (.oct (t.at 8).null (if (t.at 8).null = true then [] else (t.at 8).s)) [.int .i64 0,vS15,.bool (t.at 8).null,.slice none 0 0,.slice none 0 0] := (TreeC.keep (hv16.keeps fun b hb hk e => by have hk' : w1.heap.size ≤ b := hk;omega) (TreeC.intro rfl (hB15.weaken fun b _ hk => by have hk' : w14.drew.heap.size ≤ b := hk;(try simp only [size_drew] at hk');omega) (treesN _ _) (tagsN _ _) : TreeC (fun b => w1.heap.size ≤ b) w15 (.oct (t.at 8).null (if (t.at 8).null = true then [] else (t.at 8).s)) [.int .i64 0,vS15,.bool (t.at 8).null,.slice none 0 0,.slice none 0 0]))
  repeat ((first | refine qA rfl ?_|refine qB ?_|refine qC rfl ?_|refine qD ?_|refine qE ?_|refine qF ?_|refine qG ?_|refine qH ?_);try simp (maxSteps:=1000000)(disch:=(first|omega|(simp only [qI,qJ,qK]<;>omega)|exact qL _)) only [go_sem,↓reduceIte,n0,reduceCtorEq,n1,n2,n3,n4,n5,i0,i1,i2,i3,i4,i5,i6,i7,hb16,hl16,ht16,hq0,hq1,hq2,hq3,hq4,hq5,hq6,hq7,hq8,hq9,hq10])
  refine W.drawR (.take 0 (.take 1 (.take 2 (.take 3 (.take 4 (.take 5 (.take 6 (.take 7 (.take 8 (.last 9)))))))))) (NoB) mixed (by kernel_rfl) ?_
  try simp (maxSteps:=1000000)(disch:=(first|omega|(simp only [qI,qJ,qK]<;>omega)|exact qL _)) only [go_sem,↓reduceIte,n0,reduceCtorEq,n1,n2,n3,n4,n5,i0,i1,i2,i3,i4,i5,i6,i7,hb16,hl16,ht16,hq0,hq1,hq2,hq3,hq4,hq5,hq6,hq7,hq8,hq9,hq10,hnn9]
  generalize hw17 : wr w16.drew (w.heap.size + 1) 47 [.bool (t.at 9).null] = w17
  have hl17 : blk w17 (w.heap.size + 1) = some (#[.int .i64 0,.slice (some a2) ((t.at 0).s).length k2,.bool false,.slice none 0 0,.slice none 0 0,.int .i64 0,.slice (some a4) ((t.at 1).s).length k4,.bool false,.slice none 0 0,.slice none 0 0,.int .i64 0,.slice (some a6) ((t.at 2).s).length k6,.bool false,.slice none 0 0,.slice none 0 0,.int .i64 0,.slice (some a8) ((t.at 3).s).length k8,.bool false,.slice none 0 0,.slice none 0 0,.int .i64 ((t.at 4).n),.slice none 0 0,.bool false,.slice none 0 0,.slice none 0 0,.int .i64 ((t.at 5).n),.slice none 0 0,.bool false,.slice none 0 0,.slice none 0 0,.int .i64 ((t.at 6).n),.slice none 0 0,.bool false,.slice none 0 0,.slice none 0 0,.int .i64 0,.slice (some a13) ((t.at 7).s).length k13,.bool false,.slice none 0 0,.slice none 0 0,.int .i64 0,vS15,.bool (t.at 8).null,.slice none 0 0,.slice none 0 0,.int .i64 0,.slice none 0 0,.bool (t.at 9).null,.slice none 0 0,.slice none 0 0],26,(0,0)) := by rw [← hw17,blk_wr_eq,show blk w16.drew (w.heap.size + 1) = _ from hl16];rfl
  have hV17 : Upd (fun b => b = w.heap.size + 1 ∨ b = w.heap.size + 2) w16 w17 := by rw [← hw17];exact ((Upd.refl _ _).drew).wr _ _ (.inr (.inl rfl))
  have hU17 : Upd (fun b => b = w.heap.size + 1 ∨ b = w.heap.size + 2) w1 w17 := hU16.trans hV17
  have hz17 := hU17.size
  have hX17 : Ext w w17 := hE1.more hU17 fun b hb h => by omega
  have hb17 := hX17.blk_some hb id
  have ht17 : blk w17 (w.heap.size + 2) = some (#[.int .i64 0,.slice none 0 0,.bool false,.slice (some ⟨w.heap.size + 1,0,none⟩) 10 10,.slice none 0 0],26,(0,0)) := by
    rw [← hw17,blk_wr_ne (by omega)]
    exact ht16
  clear hw17
  repeat ((first | refine qA rfl ?_|refine qB ?_|refine qC rfl ?_|refine qD ?_|refine qE ?_|refine qF ?_|refine qG ?_|refine qH ?_);try simp (maxSteps:=1000000)(disch:=(first|omega|(simp only [qI,qJ,qK]<;>omega)|exact qL _)) only [go_sem,↓reduceIte,n0,reduceCtorEq,n1,n2,n3,n4,n5,i0,i1,i2,i3,i4,i5,i6,i7,hb17,hl17,ht17,hq0,hq1,hq2,hq3,hq4,hq5,hq6,hq7,hq8,hq9,hq10])
  refine W.exitJ 0 (EndQ [(0,.pointer (some ⟨b,o,none⟩)),(2,.pointer (some ⟨w.heap.size,0,none⟩)),(3,.pointer (some ⟨w.heap.size + 2,0,none⟩)),(97,.int .i64 L9.length)] (fun w' => ∃ v,blk w' (w.heap.size + 1) = some (#[.int .i64 0,.slice (some a2) ((t.at 0).s).length k2,.bool false,.slice none 0 0,.slice none 0 0,.int .i64 0,.slice (some a4) ((t.at 1).s).length k4,.bool false,.slice none 0 0,.slice none 0 0,.int .i64 0,.slice (some a6) ((t.at 2).s).length k6,.bool false,.slice none 0 0,.slice none 0 0,.int .i64 0,.slice (some a8) ((t.at 3).s).length k8,.bool false,.slice none 0 0,.slice none 0 0,.int .i64 ((t.at 4).n),.slice none 0 0,.bool false,.slice none 0 0,.slice none 0 0,.int .i64 ((t.at 5).n),.slice none 0 0,.bool false,.slice none 0 0,.slice none 0 0,.int .i64 ((t.at 6).n),.slice none 0 0,.bool false,.slice none 0 0,.slice none 0 0,.int .i64 0,.slice (some a13) ((t.at 7).s).length k13,.bool false,.slice none 0 0,.slice none 0 0,.int .i64 0,vS15,.bool (t.at 8).null,.slice none 0 0,.slice none 0 0,.int .i64 0,.slice none 0 0,.bool (t.at 9).null,v,.slice none 0 0],26,(0,0)) ∧ GrowT (fun b => w1.heap.size ≤ b) w17.heap.size (w.heap.size + 1) w' 26 v (L9.map (tl1 (tlP (d + 1)) fX1_9.of fX1_9.sub)) ∧ Upd (fun b => b = w.heap.size + 1) w17 w')) (W.loop (LoopL [(0,.pointer (some ⟨b,o,none⟩)),(2,.pointer (some ⟨w.heap.size,0,none⟩)),(3,.pointer (some ⟨w.heap.size + 2,0,none⟩)),(97,.int .i64 L9.length)] 98 (fun j w' => ∃ v,j ≤ L9.length ∧ blk w' (w.heap.size + 1) = some (#[.int .i64 0,.slice (some a2) ((t.at 0).s).length k2,.bool false,.slice none 0 0,.slice none 0 0,.int .i64 0,.slice (some a4) ((t.at 1).s).length k4,.bool false,.slice none 0 0,.slice none 0 0,.int .i64 0,.slice (some a6) ((t.at 2).s).length k6,.bool false,.slice none 0 0,.slice none 0 0,.int .i64 0,.slice (some a8) ((t.at 3).s).length k8,.bool false,.slice none 0 0,.slice none 0 0,.int .i64 ((t.at 4).n),.slice none 0 0,.bool false,.slice none 0 0,.slice none 0 0,.int .i64 ((t.at 5).n),.slice none 0 0,.bool false,.slice none 0 0,.slice none 0 0,.int .i64 ((t.at 6).n),.slice none 0 0,.bool false,.slice none 0 0,.slice none 0 0,.int .i64 0,.slice (some a13) ((t.at 7).s).length k13,.bool false,.slice none 0 0,.slice none 0 0,.int .i64 0,vS15,.bool (t.at 8).null,.slice none 0 0,.slice none 0 0,.int .i64 0,.slice none 0 0,.bool (t.at 9).null,v,.slice none 0 0],26,(0,0)) ∧ GrowT (fun b => w1.heap.size ≤ b) w17.heap.size (w.heap.size + 1) w' 26 v ((L9.take j).map (tl1 (tlP (d + 1)) fX1_9.of fX1_9.sub)) ∧ Upd (fun b => b = w.heap.size + 1) w17 w')) (fun ρ _ => L9.length - (RowKit.intOf (ρ 98)).toNat) ?_ ?_) ?_
  · exact ⟨(by simp (maxSteps:=1000000)(disch:=(first|omega|(simp only [qI,qJ,qK]<;>omega)|exact qL _)) only [go_sem,↓reduceIte,n0,reduceCtorEq,n1,n2,n3,n4,n5,i0,i1,i2,i3,i4,i5,i6,i7,Holds_nil,Holds_cons]),0,(by simp (maxSteps:=1000000)(disch:=(first|omega|(simp only [qI,qJ,qK]<;>omega)|exact qL _)) only [go_sem,↓reduceIte,n0,reduceCtorEq,n1,n2,n3,n4,n5,i0,i1,i2,i3,i4,i5,i6,i7];all_goals rfl),.slice none 0 0,Nat.zero_le _,hl17,GrowT.nil _ _ _ _ _,Upd.refl _ _⟩
  · rintro ρ w18 ⟨⟨hrc9_0,hrc9_2,hrc9_3,hrc9_97,-⟩,j,hri,v,hj,hl18,hg,hUk⟩
    have hzk := hUk.size
    have hX18 : Ext w w18 := hX17.more hUk fun b hb h => by omega
    have hz18 : w1.heap.size ≤ w18.heap.size := by have := hz17;omega
    have hb18 := hX18.blk_some hb id
    have ht18 := hUk.blk_some ht17 (by omega)
    by_cases hlt : j < L9.length
    · obtain ⟨_,be,oe,xe,ce,hbe,hoke,hxe,hble,hxs,hxx,hqe,hRe⟩ := SlR.get (size := 3) (by decide) hs9 hlt
      subst hbe
      have hcat : L9.take (j + 1) = L9.take j ++ [L9[j]] := List.take_succ_eq_append_getElem hlt
      have hgy := hgl9.2 _ (List.getElem_mem hlt)
      have hll := hgl9.1
      obtain ⟨av,kv,hvs,_⟩ := hg.shape
      have hlj : (List.map (tl1 (tlP (d + 1)) fX1_9.of fX1_9.sub) (L9.take j)).length = j := by simp;omega
      rw [hlj] at hvs
      subst hvs
      have hnb : ∀ b,b < w17.heap.size ∨ w18.heap.size ≤ b → ¬ ownB (.slice av j kv) b := fun b hb h => by
        have := hg.above h
        have := hg.below h
        omega
      generalize L9[j] = y at *
      repeat ((first | refine qA rfl ?_|refine qB ?_|refine qC rfl ?_|refine qD ?_|refine qE ?_|refine qF ?_|refine qG ?_|refine qH ?_);try simp (maxSteps:=1000000)(disch:=(first|omega|(simp only [qI,qJ,qK]<;>omega)|exact qL _)) only [go_sem,↓reduceIte,n0,reduceCtorEq,n1,n2,n3,n4,n5,i0,i1,i2,i3,i4,i5,i6,i7,hb18,hl18,ht18,hq0,hq1,hq2,hq3,hq4,hq5,hq6,hq7,hq8,hq9,hq10,hrc9_0,hrc9_2,hrc9_3,hrc9_97,hri])
      refine W.drawR (.only 0 (.two 1 (.only 2 (.only 3 .done)) 2 (.only 1 (.only 3 .done)))) NoB mixed (by kernel_rfl) ?_
      try simp (maxSteps:=1000000)(disch:=(first|omega|(simp only [qI,qJ,qK]<;>omega)|exact qL _)) only [go_sem,↓reduceIte,n0,reduceCtorEq,n1,n2,n3,n4,n5,i0,i1,i2,i3,i4,i5,i6,i7,hb18,hl18,ht18,hq0,hq1,hq2,hq3,hq4,hq5,hq6,hq7,hq8,hq9,hq10,hrc9_0,hrc9_2,hrc9_3,hrc9_97,hri]
      have q0 : Upd NoB w18.drew (w18.alloc (.cells #[.bool false] 4)).drew := show Upd NoB w18.drew (w18.drew.alloc (.cells #[.bool false] 4)) from Upd.alloc (Upd.refl _ _) _
      have q1 : Upd NoB w18.drew (wr (w18.alloc (.cells #[.bool false] 4)).drew w18.heap.size 0 [.bool true]) := q0.wr _ _ (.inl (Nat.le_refl _))
      have q2 : Upd NoB w18.drew (wr (wr (w18.alloc (.cells #[.bool false] 4)).drew w18.heap.size 0 [.bool true]) w18.heap.size 0 [.bool false]) := q1.wr _ _ (.inl (Nat.le_refl _))
      have q3 : Upd NoB w18.drew (wr (w18.alloc (.cells #[.bool false] 4)).drew w18.heap.size 0 [.bool false]) := q0.wr _ _ (.inl (Nat.le_refl _))
      have q4 : Upd NoB w18.drew (wr (wr (w18.alloc (.cells #[.bool false] 4)).drew w18.heap.size 0 [.bool false]) w18.heap.size 0 [.bool true]) := q3.wr _ _ (.inl (Nat.le_refl _))
      refine ⟨q0,⟨q1,q2,q2,?_⟩,⟨q3,q4,q4,?_⟩⟩
      · have hk19 : Ext w18 (wr (wr (w18.alloc (.cells #[.bool false] 4)).drew w18.heap.size 0 [.bool true]) w18.heap.size 0 [.bool false]) := ((Upd.refl _ _).drew).trans q2
        generalize (wr (wr (w18.alloc (.cells #[.bool false] 4)).drew w18.heap.size 0 [.bool true]) w18.heap.size 0 [.bool false]) = w19 at *
        have hzk19 := hk19.size
        have hX19 : Ext w w19 := hX18.trans hk19
        have hb19 := hk19.blk_some hb18 id
        have hl19 := hk19.blk_some hl18 id
        have ht19 := hk19.blk_some ht18 id
        have hxe19 := hX19.blk_some hxe id
        repeat ((first | refine qA rfl ?_|refine qB ?_|refine qC rfl ?_|refine qD ?_|refine qE ?_|refine qF ?_|refine qG ?_|refine qH ?_);try simp (maxSteps:=1000000)(disch:=(first|omega|(simp only [qI,qJ,qK]<;>omega)|exact qL _)) only [go_sem,↓reduceIte,n0,reduceCtorEq,n1,n2,n3,n4,n5,i0,i1,i2,i3,i4,i5,i6,i7,hb19,hl19,ht19,hxe19,Int.toNat_natCast,Nat.mul_one,hq0,hq1,hq2,hq3,hq4,hq5,hq6,hq7,hq8,hq9,hq10,hrc9_0,hrc9_2,hrc9_3,hrc9_97,hri])
        refine W.drawR (.take 0 (.take 1 (.take 2 (.take 3 (.take 4 (.take 5 (.take 6 (.take 7 (.take 8 (.take 9 (.take 10 (.take 11 (.take 12 (.only 13 (.only 14 (.only 15 (.take 16 (.take 17 (.last 18))))))))))))))))))) (ownB (.slice av j kv)) mixed (by kernel_rfl) ?_
        try simp (maxSteps:=1000000)(disch:=(first|omega|(simp only [qI,qJ,qK]<;>omega)|exact qL _ | (refine hnb _ ?_;first | omega | (simp only [World.size_alloc,size_wr,size_drew] <;> omega)))) only [go_sem,↓reduceIte,n0,reduceCtorEq,n1,n2,n3,n4,n5,i0,i1,i2,i3,i4,i5,i6,i7,hb19,hl19,ht19,hxe19,Int.toNat_natCast,Nat.mul_one,hq0,hq1,hq2,hq3,hq4,hq5,hq6,hq7,hq8,hq9,hq10,hrc9_0,hrc9_2,hrc9_3,hrc9_97,hri]
        have hxq20 := (Upd.refl _ _ : Upd (ownB (.slice av j kv)) w19.drew w19.drew).blk_some (show blk w19.drew be = _ from hxe19) (hnb _ (.inl (by omega)))
        refine (tellX0_fn (d := d) (ok := ok) y ce w19.drew (b := be) (o := oe + j * 3) hxq20 (fun k hk => by have := hqe k hk;rw [← Nat.add_assoc] at this;exact this) ((RepS_lay true _ _).keep (Rep1_part.1 hRe) ((((hX19.drew).mono fun _ h => h.elim).trans (Upd.refl _ _) : Upd (ownB (.slice av j kv)) w w19.drew).keeps fun b hb _ => hnb b (.inl (by omega)))) (hgy.2.2 rfl)).mono ?_
        rintro _ w20 ⟨⟨c20,rfl,hc20⟩,hEx20⟩
        obtain ⟨T20,hT20⟩ : ∃ T,T = tlP (d + 1) fs_X0 y := ⟨_,rfl⟩
        replace hc20 : TreeC (fun b => w19.drew.heap.size ≤ b) w20 T20 c20 := by rw [hT20];exact hc20
        obtain ⟨vS20,vL20,vU20,rfl,hn20,hS20,hLL20,hUU20⟩ := hc20.inv
        have k1_20 := hS20.flat
        have k2_20 := SlR.flat hLL20
        have k3_20 := SlR.flat hUU20
        have hP20 : Upd (ownB (.slice av j kv)) w19.drew w20 := (Upd.refl _ _).trans (hEx20.mono fun _ h => h.elim)
        have hsq20 := hEx20.size
        try simp only [size_drew] at hsq20
        refine ⟨hP20,?_⟩
        try simp (maxSteps:=1000000)(disch:=(first|omega|(simp only [qI,qJ,qK]<;>omega)|exact qL _ | (refine hnb _ ?_;first | omega | (simp only [World.size_alloc,size_wr,size_drew] <;> omega)))) only [go_sem,↓reduceIte,n0,reduceCtorEq,n1,n2,n3,n4,n5,i0,i1,i2,i3,i4,i5,i6,i7,hb19,hl19,ht19,hxe19,Int.toNat_natCast,Nat.mul_one,hq0,hq1,hq2,hq3,hq4,hq5,hq6,hq7,hq8,hq9,hq10,hrc9_0,hrc9_2,hrc9_3,hrc9_97,hri,k1_20,k2_20,k3_20]
        have hP21 : Upd (ownB (.slice av j kv)) w19.drew (w20.alloc (.cells #[.int .i64 T20.n,vS20,.bool T20.null,vL20,vU20] 26)) := show Upd (ownB (.slice av j kv)) w19.drew (w20.alloc (.cells #[.int .i64 T20.n,vS20,.bool T20.null,vL20,vU20] 26)) from (hP20).alloc _
        have hn21 : blk (w20.alloc (.cells #[.int .i64 T20.n,vS20,.bool T20.null,vL20,vU20] 26)) w20.heap.size = some (#[.int .i64 T20.n,vS20,.bool T20.null,vL20,vU20],26,(0,0)) := show blk (w20.alloc (.cells #[.int .i64 T20.n,vS20,.bool T20.null,vL20,vU20] 26)) w20.heap.size = some (#[.int .i64 T20.n,vS20,.bool T20.null,vL20,vU20],26,(0,0)) from blk_alloc_new rfl
        have hsq21 : (w20.alloc (.cells #[.int .i64 T20.n,vS20,.bool T20.null,vL20,vU20] 26)).heap.size = w20.heap.size + 1 := show (w20.alloc (.cells #[.int .i64 T20.n,vS20,.bool T20.null,vL20,vU20] 26)).heap.size = w20.heap.size + 1 from World.size_alloc _ _
        have hEx21 : Ext w20 (w20.alloc (.cells #[.int .i64 T20.n,vS20,.bool T20.null,vL20,vU20] 26)) := show Ext w20 (w20.alloc (.cells #[.int .i64 T20.n,vS20,.bool T20.null,vL20,vU20] 26)) from Upd.alloc (Upd.refl _ _) _
        refine ⟨hP21,?_⟩
        try simp only [List.append_nil]
        generalize (w20.alloc (.cells #[.int .i64 T20.n,vS20,.bool T20.null,vL20,vU20] 26)) = w21 at *
        try simp only [size_drew] at hsq21
        have hEw22 : Ext w18 w21 := ((hk19.drew.trans hEx20).trans hEx21)
        have hzw22 := hEw22.size
        obtain ⟨css,hown,hall⟩ := (hg.ext hEw22).ex
        have hcl := hall.1
        rw [hlj] at hcl
        have hx22 : TreeC (fun b => (fun b => w1.heap.size ≤ b) b ∧ b ≠ w.heap.size + 1 ∧ ¬ ownB (.slice av j kv) b) w21 ((tl1 (tlP (d + 1)) fX1_9.of fX1_9.sub) y) [.int .i64 T20.n,vS20,.bool T20.null,vL20,vU20] := by
          rw [show (tl1 (tlP (d + 1)) fX1_9.of fX1_9.sub) y = _ from hT20.symm]
          exact TreeC.weaken (fun b _ hk => ⟨by omega,by omega,hnb b (.inr (by omega))⟩) (TreeC.weaken (ok' := fun b => w18.heap.size ≤ b) (fun b _ hk => by have hk' : w19.drew.heap.size ≤ b := hk;(try simp only [size_drew] at hk');omega) (TreeC.keep (Ext.keeps hEx21 _) hc20))
        refine wp_append ap_23_23 (m := 1) (news := [.int .i64 T20.n,vS20,.bool T20.null,vL20,vU20]) (n := css.length) (cs := css.flatten) (v := (.slice av j kv)) ?_ rfl hown.1 (all2_flat_tree hall) (Src.blk (fr := (0,0)) (T := 26) hn21 rfl (by simp only [List.all_cons,List.all_nil,flat_int,flat_bool,k1_20,k2_20,k3_20,Bool.and_self])) ?_ ?_ ?_
        · first | rfl | simp (maxSteps:=1000000)(disch:=(first|omega|(simp only [qI,qJ,qK]<;>omega)|exact qL _)) only [go_sem,↓reduceIte,n0,reduceCtorEq,n1,n2,n3,n4,n5,i0,i1,i2,i3,i4,i5,i6,i7]
        · omega
        · omega
        intro v' w22 ho hu hfr
        have hP22 := (hP21 : Upd (ownB (.slice av j kv)) w19.drew w21).trans hu
        have hzq22 := hP22.size
        simp only [size_drew] at hzq22
        have hlq22 := hP22.blk_some (show blk w19.drew (w.heap.size + 1) = _ from hl19) (hnb _ (.inl (by omega)))
        have hg' := GrowT.snoc hown hall hx22 hu hfr ho
        obtain ⟨va,vc,hv',_⟩ := ho.shape
        subst hv'
        have hne : ¬ ownB (.slice va (css.length + 1) vc) (w.heap.size + 1) := fun h => (hfr _ h).elim (hnb _ (.inl (by omega))) (fun h => by omega)
        refine ⟨hP22,?_⟩
        try simp (maxSteps:=1000000)(disch:=(first|omega|(simp only [qI,qJ,qK]<;>omega)|exact qL _ | (refine hnb _ ?_;first | omega | (simp only [World.size_alloc,size_wr,size_drew] <;> omega)))) only [go_sem,↓reduceIte,n0,reduceCtorEq,n1,n2,n3,n4,n5,i0,i1,i2,i3,i4,i5,i6,i7,hlq22,Int.toNat_natCast,Nat.mul_one,hrc9_0,hrc9_2,hrc9_3,hrc9_97,hri]
        repeat ((first | refine qA rfl ?_|refine qB ?_|refine qC rfl ?_|refine qD ?_|refine qE ?_|refine qF ?_|refine qG ?_|refine qH ?_);try simp (maxSteps:=1000000)(disch:=(first|omega|(simp only [qI,qJ,qK]<;>omega)|exact qL _)) only [go_sem,↓reduceIte,n0,reduceCtorEq,n1,n2,n3,n4,n5,i0,i1,i2,i3,i4,i5,i6,i7,hlq22,Int.toNat_natCast,Nat.mul_one,hrc9_0,hrc9_2,hrc9_3,hrc9_97,hri])
        refine ⟨⟨(by simp (maxSteps:=1000000)(disch:=(first|omega|(simp only [qI,qJ,qK]<;>omega)|exact qL _)) only [go_sem,↓reduceIte,n0,reduceCtorEq,n1,n2,n3,n4,n5,i0,i1,i2,i3,i4,i5,i6,i7,Holds_nil,Holds_cons,hrc9_0,hrc9_2,hrc9_3,hrc9_97,hri]),j + 1,(by simp (maxSteps:=1000000)(disch:=(first|omega|(simp only [qI,qJ,qK]<;>omega)|exact qL _)) only [go_sem,↓reduceIte,n0,reduceCtorEq,n1,n2,n3,n4,n5,i0,i1,i2,i3,i4,i5,i6,i7,hrc9_0,hrc9_2,hrc9_3,hrc9_97,hri];all_goals rfl),.slice va (css.length + 1) vc,by omega,?_,?_,?_⟩,?_⟩
        · rw [blk_wr_eq,hlq22];rfl
        · rw [hcat,List.map_append];exact hg'.upd ((Upd.refl _ _).wr _ _ (.inr rfl)) hne
        · refine Upd.wr ?_ _ _ (.inr rfl)
          exact (hUk.more ((hEw22.mono fun _ h => h.elim).trans hu) fun b hb h => absurd h (hnb b (.inl hb)))
        · try simp (maxSteps:=1000000)(disch:=(first|omega|(simp only [qI,qJ,qK]<;>omega)|exact qL _)) only [go_sem,↓reduceIte,n0,reduceCtorEq,n1,n2,n3,n4,n5,i0,i1,i2,i3,i4,i5,i6,i7,hrc9_0,hrc9_2,hrc9_3,hrc9_97,hri]
          simp only [RowKit.intOf];omega
      · have hk23 : Ext w18 (wr (wr (w18.alloc (.cells #[.bool false] 4)).drew w18.heap.size 0 [.bool false]) w18.heap.size 0 [.bool true]) := ((Upd.refl _ _).drew).trans q4
        generalize (wr (wr (w18.alloc (.cells #[.bool false] 4)).drew w18.heap.size 0 [.bool false]) w18.heap.size 0 [.bool true]) = w23 at *
        have hzk23 := hk23.size
        have hX23 : Ext w w23 := hX18.trans hk23
        have hb23 := hk23.blk_some hb18 id
        have hl23 := hk23.blk_some hl18 id
        have ht23 := hk23.blk_some ht18 id
        have hxe23 := hX23.blk_some hxe id
        repeat ((first | refine qA rfl ?_|refine qB ?_|refine qC rfl ?_|refine qD ?_|refine qE ?_|refine qF ?_|refine qG ?_|refine qH ?_);try simp (maxSteps:=1000000)(disch:=(first|omega|(simp only [qI,qJ,qK]<;>omega)|exact qL _)) only [go_sem,↓reduceIte,n0,reduceCtorEq,n1,n2,n3,n4,n5,i0,i1,i2,i3,i4,i5,i6,i7,hb23,hl23,ht23,hxe23,Int.toNat_natCast,Nat.mul_one,hq0,hq1,hq2,hq3,hq4,hq5,hq6,hq7,hq8,hq9,hq10,hrc9_0,hrc9_2,hrc9_3,hrc9_97,hri])
        refine W.drawR (.take 0 (.take 1 (.take 2 (.take 3 (.take 4 (.take 5 (.take 6 (.take 7 (.take 8 (.take 9 (.take 10 (.take 12 (.two 11 (.only 13 (.only 14 (.take 15 (.take 16 (.last 17))))) 13 (.only 11 (.only 14 (.take 15 (.take 16 (.last 17)))))))))))))))))) (ownB (.slice av j kv)) mixed (by kernel_rfl) ?_
        try simp (maxSteps:=1000000)(disch:=(first|omega|(simp only [qI,qJ,qK]<;>omega)|exact qL _ | (refine hnb _ ?_;first | omega | (simp only [World.size_alloc,size_wr,size_drew] <;> omega)))) only [go_sem,↓reduceIte,n0,reduceCtorEq,n1,n2,n3,n4,n5,i0,i1,i2,i3,i4,i5,i6,i7,hb23,hl23,ht23,hxe23,Int.toNat_natCast,Nat.mul_one,hq0,hq1,hq2,hq3,hq4,hq5,hq6,hq7,hq8,hq9,hq10,hrc9_0,hrc9_2,hrc9_3,hrc9_97,hri]
        refine ⟨?_,?_⟩
        · skip
          have hxq24 := (Upd.refl _ _ : Upd (ownB (.slice av j kv)) w23.drew w23.drew).blk_some (show blk w23.drew be = _ from hxe23) (hnb _ (.inl (by omega)))
          refine (tellX0_fn (d := d) (ok := ok) y ce w23.drew (b := be) (o := oe + j * 3) hxq24 (fun k hk => by have := hqe k hk;rw [← Nat.add_assoc] at this;exact this) ((RepS_lay true _ _).keep (Rep1_part.1 hRe) ((((hX23.drew).mono fun _ h => h.elim).trans (Upd.refl _ _) : Upd (ownB (.slice av j kv)) w w23.drew).keeps fun b hb _ => hnb b (.inl (by omega)))) (hgy.2.2 rfl)).mono ?_
          rintro _ w24 ⟨⟨c24,rfl,hc24⟩,hEx24⟩
          obtain ⟨T24,hT24⟩ : ∃ T,T = tlP (d + 1) fs_X0 y := ⟨_,rfl⟩
          replace hc24 : TreeC (fun b => w23.drew.heap.size ≤ b) w24 T24 c24 := by rw [hT24];exact hc24
          obtain ⟨vS24,vL24,vU24,rfl,hn24,hS24,hLL24,hUU24⟩ := hc24.inv
          have k1_24 := hS24.flat
          have k2_24 := SlR.flat hLL24
          have k3_24 := SlR.flat hUU24
          have hP24 : Upd (ownB (.slice av j kv)) w23.drew w24 := (Upd.refl _ _).trans (hEx24.mono fun _ h => h.elim)
          have hsq24 := hEx24.size
          try simp only [size_drew] at hsq24
          refine ⟨hP24,?_⟩
          try simp (maxSteps:=1000000)(disch:=(first|omega|(simp only [qI,qJ,qK]<;>omega)|exact qL _ | (refine hnb _ ?_;first | omega | (simp only [World.size_alloc,size_wr,size_drew] <;> omega)))) only [go_sem,↓reduceIte,n0,reduceCtorEq,n1,n2,n3,n4,n5,i0,i1,i2,i3,i4,i5,i6,i7,hb23,hl23,ht23,hxe23,Int.toNat_natCast,Nat.mul_one,hq0,hq1,hq2,hq3,hq4,hq5,hq6,hq7,hq8,hq9,hq10,hrc9_0,hrc9_2,hrc9_3,hrc9_97,hri,k1_24,k2_24,k3_24]
          have hP25 : Upd (ownB (.slice av j kv)) w23.drew (w24.alloc (.cells #[.int .i64 0,.slice none 0 0,.bool false,.slice none 0 0,.slice none 0 0] 26)) := show Upd (ownB (.slice av j kv)) w23.drew (w24.alloc (.cells #[.int .i64 0,.slice none 0 0,.bool false,.slice none 0 0,.slice none 0 0] 26)) from (hP24).alloc _
          have hn25 : blk (w24.alloc (.cells #[.int .i64 0,.slice none 0 0,.bool false,.slice none 0 0,.slice none 0 0] 26)) w24.heap.size = some (#[.int .i64 0,.slice none 0 0,.bool false,.slice none 0 0,.slice none 0 0],26,(0,0)) := show blk (w24.alloc (.cells #[.int .i64 0,.slice none 0 0,.bool false,.slice none 0 0,.slice none 0 0] 26)) w24.heap.size = some (#[.int .i64 0,.slice none 0 0,.bool false,.slice none 0 0,.slice none 0 0],26,(0,0)) from blk_alloc_new rfl
          have hsq25 : (w24.alloc (.cells #[.int .i64 0,.slice none 0 0,.bool false,.slice none 0 0,.slice none 0 0] 26)).heap.size = w24.heap.size + 1 := show (w24.alloc (.cells #[.int .i64 0,.slice none 0 0,.bool false,.slice none 0 0,.slice none 0 0] 26)).heap.size = w24.heap.size + 1 from World.size_alloc _ _
          have hEx25 : Ext w24 (w24.alloc (.cells #[.int .i64 0,.slice none 0 0,.bool false,.slice none 0 0,.slice none 0 0] 26)) := show Ext w24 (w24.alloc (.cells #[.int .i64 0,.slice none 0 0,.bool false,.slice none 0 0,.slice none 0 0] 26)) from Upd.alloc (Upd.refl _ _) _
          refine ⟨hP25,?_⟩
          try simp only [List.append_nil]
          generalize (w24.alloc (.cells #[.int .i64 0,.slice none 0 0,.bool false,.slice none 0 0,.slice none 0 0] 26)) = w25 at *
          try simp only [size_drew] at hsq25
          have hEw26 : Ext w18 w25 := ((hk23.drew.trans hEx24).trans hEx25)
          have hzw26 := hEw26.size
          obtain ⟨css,hown,hall⟩ := (hg.ext hEw26).ex
          have hcl := hall.1
          rw [hlj] at hcl
          have hx26 : TreeC (fun b => (fun b => w1.heap.size ≤ b) b ∧ b ≠ w.heap.size + 1 ∧ ¬ ownB (.slice av j kv) b) w25 ((tl1 (tlP (d + 1)) fX1_9.of fX1_9.sub) y) [.int .i64 T24.n,vS24,.bool T24.null,vL24,vU24] := by
            rw [show (tl1 (tlP (d + 1)) fX1_9.of fX1_9.sub) y = _ from hT24.symm]
            exact TreeC.weaken (fun b _ hk => ⟨by omega,by omega,hnb b (.inr (by omega))⟩) (TreeC.weaken (ok' := fun b => w18.heap.size ≤ b) (fun b _ hk => by have hk' : w23.drew.heap.size ≤ b := hk;(try simp only [size_drew] at hk');omega) (TreeC.keep (Ext.keeps hEx25 _) hc24))
          refine wp_append ap_23_23 (m := 1) (news := [.int .i64 0,.slice none 0 0,.bool false,.slice none 0 0,.slice none 0 0]) (n := css.length) (cs := css.flatten) (v := (.slice av j kv)) ?_ rfl hown.1 (all2_flat_tree hall) (Src.blk (fr := (0,0)) (T := 26) hn25 rfl rfl) ?_ ?_ ?_
          · first | rfl | simp (maxSteps:=1000000)(disch:=(first|omega|(simp only [qI,qJ,qK]<;>omega)|exact qL _)) only [go_sem,↓reduceIte,n0,reduceCtorEq,n1,n2,n3,n4,n5,i0,i1,i2,i3,i4,i5,i6,i7]
          · omega
          · omega
          intro v' w26 ho hu hfr
          have hP26 := (hP25 : Upd (ownB (.slice av j kv)) w23.drew w25).trans hu
          have hzq26 := hP26.size
          simp only [size_drew] at hzq26
          have hlq26 := hP26.blk_some (show blk w23.drew (w.heap.size + 1) = _ from hl23) (hnb _ (.inl (by omega)))
          rcases ho.2 with ⟨_,h⟩ | ⟨g,cap,rest,fr,hv',hg',hbg,hlen,hth,hle⟩
          · exact absurd h (Nat.succ_ne_zero _)
          subst hv'
          have hgne : ¬ g = w.heap.size + 1 := fun h => (hfr g ⟨_,_,_,rfl,rfl⟩).elim (fun h' => hnb _ (.inl (by omega)) (h ▸ h')) (fun h' => by omega)
          have hfl : css.flatten.length = css.length * 5 := flatten_len hown.2
          have hlen2 : (css.flatten ++ ([.int .i64 0,.slice none 0 0,.bool false,.slice none 0 0,.slice none 0 0] : List Value) ++ rest).length = cap * 5 := by simp only [List.length_append] at hlen ⊢;omega
          obtain ⟨XX,hXX⟩ : ∃ X : Array Value,X = (css.flatten ++ ([.int .i64 0,.slice none 0 0,.bool false,.slice none 0 0,.slice none 0 0] : List Value) ++ rest).toArray := ⟨_,rfl⟩
          have hbgX : blk w26 g = some (XX,26,fr) := by rw [hXX];exact hbg
          have hXsz : XX.size = cap * 5 := by rw [hXX,List.size_toArray];exact hlen2
          have hth2 : thaw fr (css.length * 5) 5 = true := thaw_of hth (by omega)
          have hst : css.length * 5 + 5 ≤ XX.size := by omega
          have hset := Own.setlast (cs := [.int .i64 T24.n,vS24,.bool T24.null,vL24,vU24]) ho rfl rfl
          have hu2 : Upd (ownB (.slice av j kv)) w25 (wr w26 g (css.length * 5) [.int .i64 T24.n,vS24,.bool T24.null,vL24,vU24]) := hu.wr _ _ ((hfr g ⟨_,_,_,rfl,rfl⟩).symm)
          have hg2 := GrowT.snoc hown hall hx26 hu2 hfr hset
          have hcj : css.length = j := by first | exact hcl.symm.trans hlj | omega
          simp only [hcj] at hth2 hst hset hu2 hg2
          refine ⟨hP26,?_⟩
          try simp (maxSteps:=1000000)(disch:=(first|omega|(simp only [qI,qJ,qK]<;>omega)|exact qL _ | (refine hnb _ ?_;first | omega | (simp only [World.size_alloc,size_wr,size_drew] <;> omega)))) only [go_sem,↓reduceIte,n0,reduceCtorEq,n1,n2,n3,n4,n5,i0,i1,i2,i3,i4,i5,i6,i7,hlq26,hbgX,hth2,hst,hcj,Int.toNat_natCast,Nat.mul_one,k1_24,k2_24,k3_24,hrc9_0,hrc9_2,hrc9_3,hrc9_97,hri]
          repeat ((first | refine qA rfl ?_|refine qB ?_|refine qC rfl ?_|refine qD ?_|refine qE ?_|refine qF ?_|refine qG ?_|refine qH ?_);try simp (maxSteps:=1000000)(disch:=(first|omega|(simp only [qI,qJ,qK]<;>omega)|exact qL _)) only [go_sem,↓reduceIte,n0,reduceCtorEq,n1,n2,n3,n4,n5,i0,i1,i2,i3,i4,i5,i6,i7,hlq26,hbgX,hth2,hst,hcj,Int.toNat_natCast,Nat.mul_one,k1_24,k2_24,k3_24,hrc9_0,hrc9_2,hrc9_3,hrc9_97,hri])
          refine ⟨⟨(by simp (maxSteps:=1000000)(disch:=(first|omega|(simp only [qI,qJ,qK]<;>omega)|exact qL _)) only [go_sem,↓reduceIte,n0,reduceCtorEq,n1,n2,n3,n4,n5,i0,i1,i2,i3,i4,i5,i6,i7,Holds_nil,Holds_cons,hrc9_0,hrc9_2,hrc9_3,hrc9_97,hri]),j + 1,(by simp (maxSteps:=1000000)(disch:=(first|omega|(simp only [qI,qJ,qK]<;>omega)|exact qL _)) only [go_sem,↓reduceIte,n0,reduceCtorEq,n1,n2,n3,n4,n5,i0,i1,i2,i3,i4,i5,i6,i7,hrc9_0,hrc9_2,hrc9_3,hrc9_97,hri];all_goals rfl),.slice (some ⟨g,0,none⟩) (j + 1) cap,by omega,?_,?_,?_⟩,?_⟩
          · rw [blk_wr_ne (by omega),blk_wr_eq,hlq26];rfl
          · rw [hcat,List.map_append,wr_comm (Ne.symm hgne)]
            exact hg2.upd ((Upd.refl _ _).wr _ _ (.inr rfl)) (fun h => hgne (ownB_row h).symm)
          · rw [wr_comm (Ne.symm hgne)]
            refine Upd.wr ?_ _ _ (.inr rfl)
            exact (hUk.more ((hEw26.mono fun _ h => h.elim).trans hu2) fun b hb h => absurd h (hnb b (.inl hb)))
          · try simp (maxSteps:=1000000)(disch:=(first|omega|(simp only [qI,qJ,qK]<;>omega)|exact qL _)) only [go_sem,↓reduceIte,n0,reduceCtorEq,n1,n2,n3,n4,n5,i0,i1,i2,i3,i4,i5,i6,i7,hrc9_0,hrc9_2,hrc9_3,hrc9_97,hri]
            simp only [RowKit.intOf];omega
        · skip
          have hP27 : Upd (ownB (.slice av j kv)) w23.drew (w23.alloc (.cells #[.int .i64 0,.slice none 0 0,.bool false,.slice none 0 0,.slice none 0 0] 26)).drew := show Upd (ownB (.slice av j kv)) w23.drew (w23.drew.alloc (.cells #[.int .i64 0,.slice none 0 0,.bool false,.slice none 0 0,.slice none 0 0] 26)) from (Upd.refl _ _).alloc _
          have hn27 : blk (w23.alloc (.cells #[.int .i64 0,.slice none 0 0,.bool false,.slice none 0 0,.slice none 0 0] 26)).drew w23.drew.heap.size = some (#[.int .i64 0,.slice none 0 0,.bool false,.slice none 0 0,.slice none 0 0],26,(0,0)) := show blk (w23.drew.alloc (.cells #[.int .i64 0,.slice none 0 0,.bool false,.slice none 0 0,.slice none 0 0] 26)) w23.drew.heap.size = some (#[.int .i64 0,.slice none 0 0,.bool false,.slice none 0 0,.slice none 0 0],26,(0,0)) from blk_alloc_new rfl
          have hsq27 : (w23.alloc (.cells #[.int .i64 0,.slice none 0 0,.bool false,.slice none 0 0,.slice none 0 0] 26)).drew.heap.size = w23.drew.heap.size + 1 := show (w23.drew.alloc (.cells #[.int .i64 0,.slice none 0 0,.bool false,.slice none 0 0,.slice none 0 0] 26)).heap.size = w23.drew.heap.size + 1 from World.size_alloc _ _
          have hEx27 : Ext w23.drew (w23.alloc (.cells #[.int .i64 0,.slice none 0 0,.bool false,.slice none 0 0,.slice none 0 0] 26)).drew := show Ext w23.drew (w23.drew.alloc (.cells #[.int .i64 0,.slice none 0 0,.bool false,.slice none 0 0,.slice none 0 0] 26)) from Upd.alloc (Upd.refl _ _) _
          refine ⟨hP27,?_⟩
          try simp only [List.append_nil]
          generalize (w23.alloc (.cells #[.int .i64 0,.slice none 0 0,.bool false,.slice none 0 0,.slice none 0 0] 26)).drew = w27 at *
          try simp only [size_drew] at hsq27
          have hxq28 := (hP27 : Upd (ownB (.slice av j kv)) w23.drew w27).blk_some (show blk w23.drew be = _ from hxe23) (hnb _ (.inl (by omega)))
          refine (tellX0_fn (d := d) (ok := ok) y ce w27 (b := be) (o := oe + j * 3) hxq28 (fun k hk => by have := hqe k hk;rw [← Nat.add_assoc] at this;exact this) ((RepS_lay true _ _).keep (Rep1_part.1 hRe) ((((hX23.drew).mono fun _ h => h.elim).trans (hP27) : Upd (ownB (.slice av j kv)) w w27).keeps fun b hb _ => hnb b (.inl (by omega)))) (hgy.2.2 rfl)).mono ?_
          rintro _ w28 ⟨⟨c28,rfl,hc28⟩,hEx28⟩
          obtain ⟨T28,hT28⟩ : ∃ T,T = tlP (d + 1) fs_X0 y := ⟨_,rfl⟩
          replace hc28 : TreeC (fun b => w27.heap.size ≤ b) w28 T28 c28 := by rw [hT28];exact hc28
          obtain ⟨vS28,vL28,vU28,rfl,hn28,hS28,hLL28,hUU28⟩ := hc28.inv
          have k1_28 := hS28.flat
          have k2_28 := SlR.flat hLL28
          have k3_28 := SlR.flat hUU28
          have hP28 : Upd (ownB (.slice av j kv)) w23.drew w28 := (hP27).trans (hEx28.mono fun _ h => h.elim)
          have hsq28 := hEx28.size
          try simp only [size_drew] at hsq28
          refine ⟨hP28,?_⟩
          try simp (maxSteps:=1000000)(disch:=(first|omega|(simp only [qI,qJ,qK]<;>omega)|exact qL _ | (refine hnb _ ?_;first | omega | (simp only [World.size_alloc,size_wr,size_drew] <;> omega)))) only [go_sem,↓reduceIte,n0,reduceCtorEq,n1,n2,n3,n4,n5,i0,i1,i2,i3,i4,i5,i6,i7,hb23,hl23,ht23,hxe23,Int.toNat_natCast,Nat.mul_one,hq0,hq1,hq2,hq3,hq4,hq5,hq6,hq7,hq8,hq9,hq10,hrc9_0,hrc9_2,hrc9_3,hrc9_97,hri,k1_28,k2_28,k3_28]
          have hEw29 : Ext w18 w28 := ((hk23.drew.trans hEx27).trans hEx28)
          have hzw29 := hEw29.size
          obtain ⟨css,hown,hall⟩ := (hg.ext hEw29).ex
          have hcl := hall.1
          rw [hlj] at hcl
          have hx29 : TreeC (fun b => (fun b => w1.heap.size ≤ b) b ∧ b ≠ w.heap.size + 1 ∧ ¬ ownB (.slice av j kv) b) w28 ((tl1 (tlP (d + 1)) fX1_9.of fX1_9.sub) y) [.int .i64 T28.n,vS28,.bool T28.null,vL28,vU28] := by
            rw [show (tl1 (tlP (d + 1)) fX1_9.of fX1_9.sub) y = _ from hT28.symm]
            exact TreeC.weaken (fun b _ hk => ⟨by omega,by omega,hnb b (.inr (by omega))⟩) (TreeC.weaken (ok' := fun b => w18.heap.size ≤ b) (fun b _ hk => by have hk' : w27.heap.size ≤ b := hk;(try simp only [size_drew] at hk');omega) hc28)
          refine wp_append ap_23_23 (m := 1) (news := [.int .i64 0,.slice none 0 0,.bool false,.slice none 0 0,.slice none 0 0]) (n := css.length) (cs := css.flatten) (v := (.slice av j kv)) ?_ rfl hown.1 (all2_flat_tree hall) (Src.blk (fr := (0,0)) (T := 26) (hEx28.blk_some hn27 id) rfl rfl) ?_ ?_ ?_
          · first | rfl | simp (maxSteps:=1000000)(disch:=(first|omega|(simp only [qI,qJ,qK]<;>omega)|exact qL _)) only [go_sem,↓reduceIte,n0,reduceCtorEq,n1,n2,n3,n4,n5,i0,i1,i2,i3,i4,i5,i6,i7]
          · omega
          · omega
          intro v' w29 ho hu hfr
          have hP29 := (hP28 : Upd (ownB (.slice av j kv)) w23.drew w28).trans hu
          have hzq29 := hP29.size
          simp only [size_drew] at hzq29
          have hlq29 := hP29.blk_some (show blk w23.drew (w.heap.size + 1) = _ from hl23) (hnb _ (.inl (by omega)))
          rcases ho.2 with ⟨_,h⟩ | ⟨g,cap,rest,fr,hv',hg',hbg,hlen,hth,hle⟩
          · exact absurd h (Nat.succ_ne_zero _)
          subst hv'
          have hgne : ¬ g = w.heap.size + 1 := fun h => (hfr g ⟨_,_,_,rfl,rfl⟩).elim (fun h' => hnb _ (.inl (by omega)) (h ▸ h')) (fun h' => by omega)
          have hfl : css.flatten.length = css.length * 5 := flatten_len hown.2
          have hlen2 : (css.flatten ++ ([.int .i64 0,.slice none 0 0,.bool false,.slice none 0 0,.slice none 0 0] : List Value) ++ rest).length = cap * 5 := by simp only [List.length_append] at hlen ⊢;omega
          obtain ⟨XX,hXX⟩ : ∃ X : Array Value,X = (css.flatten ++ ([.int .i64 0,.slice none 0 0,.bool false,.slice none 0 0,.slice none 0 0] : List Value) ++ rest).toArray := ⟨_,rfl⟩
          have hbgX : blk w29 g = some (XX,26,fr) := by rw [hXX];exact hbg
          have hXsz : XX.size = cap * 5 := by rw [hXX,List.size_toArray];exact hlen2
          have hth2 : thaw fr (css.length * 5) 5 = true := thaw_of hth (by omega)
          have hst : css.length * 5 + 5 ≤ XX.size := by omega
          have hset := Own.setlast (cs := [.int .i64 T28.n,vS28,.bool T28.null,vL28,vU28]) ho rfl rfl
          have hu2 : Upd (ownB (.slice av j kv)) w28 (wr w29 g (css.length * 5) [.int .i64 T28.n,vS28,.bool T28.null,vL28,vU28]) := hu.wr _ _ ((hfr g ⟨_,_,_,rfl,rfl⟩).symm)
          have hg2 := GrowT.snoc hown hall hx29 hu2 hfr hset
          have hcj : css.length = j := by first | exact hcl.symm.trans hlj | omega
          simp only [hcj] at hth2 hst hset hu2 hg2
          refine ⟨hP29,?_⟩
          try simp (maxSteps:=1000000)(disch:=(first|omega|(simp only [qI,qJ,qK]<;>omega)|exact qL _ | (refine hnb _ ?_;first | omega | (simp only [World.size_alloc,size_wr,size_drew] <;> omega)))) only [go_sem,↓reduceIte,n0,reduceCtorEq,n1,n2,n3,n4,n5,i0,i1,i2,i3,i4,i5,i6,i7,hlq29,hbgX,hth2,hst,hcj,Int.toNat_natCast,Nat.mul_one,k1_28,k2_28,k3_28,hrc9_0,hrc9_2,hrc9_3,hrc9_97,hri]
          repeat ((first | refine qA rfl ?_|refine qB ?_|refine qC rfl ?_|refine qD ?_|refine qE ?_|refine qF ?_|refine qG ?_|refine qH ?_);try simp (maxSteps:=1000000)(disch:=(first|omega|(simp only [qI,qJ,qK]<;>omega)|exact qL _)) only [go_sem,↓reduceIte,n0,reduceCtorEq,n1,n2,n3,n4,n5,i0,i1,i2,i3,i4,i5,i6,i7,hlq29,hbgX,hth2,hst,hcj,Int.toNat_natCast,Nat.mul_one,k1_28,k2_28,k3_28,hrc9_0,hrc9_2,hrc9_3,hrc9_97,hri])
          refine ⟨⟨(by simp (maxSteps:=1000000)(disch:=(first|omega|(simp only [qI,qJ,qK]<;>omega)|exact qL _)) only [go_sem,↓reduceIte,n0,reduceCtorEq,n1,n2,n3,n4,n5,i0,i1,i2,i3,i4,i5,i6,i7,Holds_nil,Holds_cons,hrc9_0,hrc9_2,hrc9_3,hrc9_97,hri]),j + 1,(by simp (maxSteps:=1000000)(disch:=(first|omega|(simp only [qI,qJ,qK]<;>omega)|exact qL _)) only [go_sem,↓reduceIte,n0,reduceCtorEq,n1,n2,n3,n4,n5,i0,i1,i2,i3,i4,i5,i6,i7,hrc9_0,hrc9_2,hrc9_3,hrc9_97,hri];all_goals rfl),.slice (some ⟨g,0,none⟩) (j + 1) cap,by omega,?_,?_,?_⟩,?_⟩
          · rw [blk_wr_ne (by omega),blk_wr_eq,hlq29];rfl
          · rw [hcat,List.map_append,wr_comm (Ne.symm hgne)]
            exact hg2.upd ((Upd.refl _ _).wr _ _ (.inr rfl)) (fun h => hgne (ownB_row h).symm)
          · rw [wr_comm (Ne.symm hgne)]
            refine Upd.wr ?_ _ _ (.inr rfl)
            exact (hUk.more ((hEw29.mono fun _ h => h.elim).trans hu2) fun b hb h => absurd h (hnb b (.inl hb)))
          · try simp (maxSteps:=1000000)(disch:=(first|omega|(simp only [qI,qJ,qK]<;>omega)|exact qL _)) only [go_sem,↓reduceIte,n0,reduceCtorEq,n1,n2,n3,n4,n5,i0,i1,i2,i3,i4,i5,i6,i7,hrc9_0,hrc9_2,hrc9_3,hrc9_97,hri]
            simp only [RowKit.intOf];omega
    · have hjn : j = L9.length := by omega
      subst hjn
      rw [List.take_length] at hg
      repeat ((first | refine qA rfl ?_|refine qB ?_|refine qC rfl ?_|refine qD ?_|refine qE ?_|refine qF ?_|refine qG ?_|refine qH ?_);try simp (maxSteps:=1000000)(disch:=(first|omega|(simp only [qI,qJ,qK]<;>omega)|exact qL _)) only [go_sem,↓reduceIte,n0,reduceCtorEq,n1,n2,n3,n4,n5,i0,i1,i2,i3,i4,i5,i6,i7,hrc9_0,hrc9_2,hrc9_3,hrc9_97,hri])
      exact ⟨(by simp (maxSteps:=1000000)(disch:=(first|omega|(simp only [qI,qJ,qK]<;>omega)|exact qL _)) only [go_sem,↓reduceIte,n0,reduceCtorEq,n1,n2,n3,n4,n5,i0,i1,i2,i3,i4,i5,i6,i7,Holds_nil,Holds_cons,hrc9_0,hrc9_2,hrc9_3,hrc9_97,hri]),v,hl18,hg,hUk⟩
  rintro ρ w30 ⟨⟨hrd9_0,hrd9_2,hrd9_3,hrd9_97,-⟩,v,hl30,hg30,hUz30⟩
  have hV30 : Upd (fun b => b = w.heap.size + 1 ∨ b = w.heap.size + 2) w17 w30 := hUz30.mono fun _ h => .inl h
  have hU30 : Upd (fun b => b = w.heap.size + 1 ∨ b = w.heap.size + 2) w1 w30 := hU17.trans hV30
  have hz30 := hU30.size
  have hX30 : Ext w w30 := hE1.more hU30 fun b hb h => by omega
  have hb30 := hX30.blk_some hb id
  have ht30 := hUz30.blk_some ht17 (by omega)
  obtain ⟨av9,kv9,hvs,_⟩ := hg30.shape
  subst hvs
  have hf9 : TreeC (fun b => w1.heap.size ≤ b) w30 (.mk 0 [] (t.at 9).null (L9.map (tl1 (tlP (d + 1)) fX1_9.of fX1_9.sub)) []) [.int .i64 0,.slice none 0 0,.bool (t.at 9).null,.slice av9 (List.map (tl1 (tlP (d + 1)) fX1_9.of fX1_9.sub) L9).length kv9,.slice none 0 0] := TreeC.intro rfl (BytesV.nil _ _) (hg30.trees (fun _ _ h => h) (fun b hb => by have := hz17;omega)) (tagsN _ _)
  repeat ((first | refine qA rfl ?_|refine qB ?_|refine qC rfl ?_|refine qD ?_|refine qE ?_|refine qF ?_|refine qG ?_|refine qH ?_);try simp (maxSteps:=1000000)(disch:=(first|omega|(simp only [qI,qJ,qK]<;>omega)|exact qL _)) only [go_sem,↓reduceIte,n0,reduceCtorEq,n1,n2,n3,n4,n5,i0,i1,i2,i3,i4,i5,i6,i7,hb30,hl30,ht30,hq0,hq1,hq2,hq3,hq4,hq5,hq6,hq7,hq8,hq9,hq10,hrd9_0,hrd9_2,hrd9_3])
  refine (EachG_fn (ok := fun b => b < w.heap.size) 276 ca_276 #[.pointer (some ⟨w.heap.size + 2,0,none⟩)] w30 (tb := b) (to := o + 10) hb30 hq10 ((hT.weaken fun b hb _ => hb).keep (hX30.keeps _)) (sortT_perm _) (sortT_lt hgu.2.1) (by rw [(sortT_perm t.u).length_eq];exact hgu.1)
    (fun b => b = w.heap.size + 2) (by omega) (fun b hb hk e => by have hk' : b < w.heap.size := hk;omega) (fun b hb => by have := blk_lt ht30;omega)
    (fun wl done w' => ∃ v,blk w' (w.heap.size + 2) = some (#[.int .i64 0,.slice none 0 0,.bool false,.slice (some ⟨w.heap.size + 1,0,none⟩) 10 10,v],26,(0,0)) ∧ GrowU (fun b => w1.heap.size ≤ b) wl.heap.size (w.heap.size + 2) w' 65 v done) (fun wl hE => ⟨_,hE.blk_some ht30 id,GrowU.nil _ _ _ _ _⟩) ?_).mono ?_
  · rintro wl hE done y vv wc hpre ⟨v,hbv,hg⟩ hU hvv hy
    have hz' := hE.size
    have hzu := hU.size
    have htl := blk_lt ht30
    have hpl := hpre.length_le
    simp only [List.length_append,List.length_cons,List.length_nil] at hpl
    rw [(sortT_perm t.u).length_eq] at hpl
    have hlu := hgu.1
    have hmy : y ∈ t.u := (sortT_perm t.u).mem_iff.1 (hpre.subset (by simp))
    refine (tagclX1_fn (ok := fun b => b < w.heap.size) _ _ _ _ v done y vv wc hbv hg hzu (by omega) (hvv.keep ((hE.mono (fun _ h => h.elim) |>.trans hU : Upd (fun b => b = w.heap.size + 2) w30 wc).keeps fun b _ hk e => by have hk' : b < w.heap.size := hk;omega)) hy (hgu.2.2 y hmy) (by omega) (fun b hb => by have := hz30;omega)).mono ?_
    rintro _ w2' ⟨⟨v',h1,h2⟩,h3⟩
    exact ⟨⟨v',h1,h2⟩,hU.trans' h3 fun b hb h => h.elim id fun h => by omega⟩
  rintro _ w31 ⟨wl,hEl,⟨v,ht31,hgU⟩,hUe⟩
  have hzl := hEl.size
  obtain ⟨aU,kU,hvs,_⟩ := hgU.shape
  subst hvs
  have hV31 : Upd (fun b => b = w.heap.size + 1 ∨ b = w.heap.size + 2) w30 w31 := (hEl.mono fun _ h => h.elim).trans (hUe.mono fun _ h => .inr h)
  have hU31 : Upd (fun b => b = w.heap.size + 1 ∨ b = w.heap.size + 2) w1 w31 := hU30.trans hV31
  have hz31 := hU31.size
  have hX31 : Ext w w31 := hE1.more hU31 fun b hb h => by omega
  have hb31 := hX31.blk_some hb id
  have hl31 := (((hEl.mono fun _ h => h.elim).trans hUe : Upd (fun b => b = w.heap.size + 2) w30 w31)).blk_some hl30 (by omega)
  have hTU := hgU.tags (ok' := (fun b => w1.heap.size ≤ b)) (fun _ _ h => h) (fun b hb => by have := hz30;omega)
  repeat ((first | refine qA rfl ?_|refine qB ?_|refine qC rfl ?_|refine qD ?_|refine qE ?_|refine qF ?_|refine qG ?_|refine qH ?_);try simp (maxSteps:=1000000)(disch:=(first|omega|(simp only [qI,qJ,qK]<;>omega)|exact qL _)) only [go_sem,↓reduceIte,n0,reduceCtorEq,n1,n2,n3,n4,n5,i0,i1,i2,i3,i4,i5,i6,i7,hb31,hl31,ht31,hq0,hq1,hq2,hq3,hq4,hq5,hq6,hq7,hq8,hq9,hq10,hrd9_0,hrd9_2,hrd9_3,cellsAt_five])
  refine (sorted_fn _ _ w31 hTU (sortT_lt hgu.2.1) (by rw [(sortT_perm t.u).length_eq];exact hgu.1)).mono ?_
  rintro _ w32 hEs
  have hV32 : Upd (fun b => b = w.heap.size + 1 ∨ b = w.heap.size + 2) w31 w32 := hEs.mono fun _ h => h.elim
  have hU32 : Upd (fun b => b = w.heap.size + 1 ∨ b = w.heap.size + 2) w1 w32 := hU31.trans hV32
  have hz32 := hU32.size
  have hX32 : Ext w w32 := hE1.more hU32 fun b hb h => by omega
  have hb32 := hX32.blk_some hb id
  have hl32 := hEs.blk_some hl31 id
  have ht32 := hEs.blk_some ht31 id
  have hr32 := (hU32.blk_some hr1 (by omega))
  have hC_32 : Upd (fun b => b = w.heap.size + 1 ∨ b = w.heap.size + 2) w32 w32 := Upd.refl _ _
  have hC_31 : Upd (fun b => b = w.heap.size + 1 ∨ b = w.heap.size + 2) w31 w32 := hV32.trans hC_32
  have hC_30 : Upd (fun b => b = w.heap.size + 1 ∨ b = w.heap.size + 2) w30 w32 := hV31.trans hC_31
  have hC_17 : Upd (fun b => b = w.heap.size + 1 ∨ b = w.heap.size + 2) w17 w32 := hV30.trans hC_30
  have hC_16 : Upd (fun b => b = w.heap.size + 1 ∨ b = w.heap.size + 2) w16 w32 := hV17.trans hC_17
  have hC_14 : Upd (fun b => b = w.heap.size + 1 ∨ b = w.heap.size + 2) w14 w32 := hV16.trans hC_16
  have hC_12 : Upd (fun b => b = w.heap.size + 1 ∨ b = w.heap.size + 2) w12 w32 := hV14.trans hC_14
  have hC_11 : Upd (fun b => b = w.heap.size + 1 ∨ b = w.heap.size + 2) w11 w32 := hV12.trans hC_12
  have hC_10 : Upd (fun b => b = w.heap.size + 1 ∨ b = w.heap.size + 2) w10 w32 := hV11.trans hC_11
  have hC_9 : Upd (fun b => b = w.heap.size + 1 ∨ b = w.heap.size + 2) w9 w32 := hV10.trans hC_10
  have hC_7 : Upd (fun b => b = w.heap.size + 1 ∨ b = w.heap.size + 2) w7 w32 := hV9.trans hC_9
  have hC_5 : Upd (fun b => b = w.heap.size + 1 ∨ b = w.heap.size + 2) w5 w32 := hV7.trans hC_7
  have hC_3 : Upd (fun b => b = w.heap.size + 1 ∨ b = w.heap.size + 2) w3 w32 := hV5.trans hC_5
  have hC_1 : Upd (fun b => b = w.heap.size + 1 ∨ b = w.heap.size + 2) w1 w32 := hV3.trans hC_3
  have hF0 := TreeC.keep (hC_3.keeps fun b hb hk e => by have hk' : w1.heap.size ≤ b := hk;omega) hf0
  have hF1 := TreeC.keep (hC_5.keeps fun b hb hk e => by have hk' : w1.heap.size ≤ b := hk;omega) hf1
  have hF2 := TreeC.keep (hC_7.keeps fun b hb hk e => by have hk' : w1.heap.size ≤ b := hk;omega) hf2
  have hF3 := TreeC.keep (hC_9.keeps fun b hb hk e => by have hk' : w1.heap.size ≤ b := hk;omega) hf3
  have hF4 := TreeC.keep (hC_10.keeps fun b hb hk e => by have hk' : w1.heap.size ≤ b := hk;omega) hf4
  have hF5 := TreeC.keep (hC_11.keeps fun b hb hk e => by have hk' : w1.heap.size ≤ b := hk;omega) hf5
  have hF6 := TreeC.keep (hC_12.keeps fun b hb hk e => by have hk' : w1.heap.size ≤ b := hk;omega) hf6
  have hF7 := TreeC.keep (hC_14.keeps fun b hb hk e => by have hk' : w1.heap.size ≤ b := hk;omega) hf7
  have hF8 := TreeC.keep (hC_16.keeps fun b hb hk e => by have hk' : w1.heap.size ≤ b := hk;omega) hf8
  have hF9 := TreeC.keep (hC_30.keeps fun b hb hk e => by have hk' : w1.heap.size ≤ b := hk;omega) hf9
  replace hF0 : TreeC (fun b => w1.heap.size ≤ b) w32 (tlF (tlP (d + 1)) fX1_0 (t.at 0)) [.int .i64 0,.slice (some a2) ((t.at 0).s).length k2,.bool false,.slice none 0 0,.slice none 0 0] := hF0
  replace hF1 : TreeC (fun b => w1.heap.size ≤ b) w32 (tlF (tlP (d + 1)) fX1_1 (t.at 1)) [.int .i64 0,.slice (some a4) ((t.at 1).s).length k4,.bool false,.slice none 0 0,.slice none 0 0] := hF1
  replace hF2 : TreeC (fun b => w1.heap.size ≤ b) w32 (tlF (tlP (d + 1)) fX1_2 (t.at 2)) [.int .i64 0,.slice (some a6) ((t.at 2).s).length k6,.bool false,.slice none 0 0,.slice none 0 0] := hF2
  replace hF3 : TreeC (fun b => w1.heap.size ≤ b) w32 (tlF (tlP (d + 1)) fX1_3 (t.at 3)) [.int .i64 0,.slice (some a8) ((t.at 3).s).length k8,.bool false,.slice none 0 0,.slice none 0 0] := hF3
  replace hF4 : TreeC (fun b => w1.heap.size ≤ b) w32 (tlF (tlP (d + 1)) fX1_4 (t.at 4)) [.int .i64 ((t.at 4).n),.slice none 0 0,.bool false,.slice none 0 0,.slice none 0 0] := hF4
  replace hF5 : TreeC (fun b => w1.heap.size ≤ b) w32 (tlF (tlP (d + 1)) fX1_5 (t.at 5)) [.int .i64 ((t.at 5).n),.slice none 0 0,.bool false,.slice none 0 0,.slice none 0 0] := hF5
  replace hF6 : TreeC (fun b => w1.heap.size ≤ b) w32 (tlF (tlP (d + 1)) fX1_6 (t.at 6)) [.int .i64 ((t.at 6).n),.slice none 0 0,.bool false,.slice none 0 0,.slice none 0 0] := hF6
  replace hF7 : TreeC (fun b => w1.heap.size ≤ b) w32 (tlF (tlP (d + 1)) fX1_7 (t.at 7)) [.int .i64 0,.slice (some a13) ((t.at 7).s).length k13,.bool false,.slice none 0 0,.slice none 0 0] := hF7
  replace hF8 : TreeC (fun b => w1.heap.size ≤ b) w32 (tlF (tlP (d + 1)) fX1_8 (t.at 8)) [.int .i64 0,vS15,.bool (t.at 8).null,.slice none 0 0,.slice none 0 0] := hF8
  replace hF9 : TreeC (fun b => w1.heap.size ≤ b) w32 (tlF (tlP (d + 1)) fX1_9 (t.at 9)) [.int .i64 0,.slice none 0 0,.bool (t.at 9).null,.slice av9 (List.map (tl1 (tlP (d + 1)) fX1_9.of fX1_9.sub) L9).length kv9,.slice none 0 0] := by rw [show tlF (tlP (d + 1)) fX1_9 (t.at 9) = .mk 0 [] (t.at 9).null ((if (t.at 9).null = true then [] else (t.at 9).l).map (tl1 (tlP (d + 1)) fX1_9.of fX1_9.sub)) [] from rfl,← hL9];exact hF9
  have hTL : TreesV (fun b => (fun b => w1.heap.size ≤ b) b ∨ b = w.heap.size + 1) w32 (.slice (some ⟨w.heap.size + 1,0,none⟩) 10 10) [tlF (tlP (d + 1)) fX1_0 (t.at 0),tlF (tlP (d + 1)) fX1_1 (t.at 1),tlF (tlP (d + 1)) fX1_2 (t.at 2),tlF (tlP (d + 1)) fX1_3 (t.at 3),tlF (tlP (d + 1)) fX1_4 (t.at 4),tlF (tlP (d + 1)) fX1_5 (t.at 5),tlF (tlP (d + 1)) fX1_6 (t.at 6),tlF (tlP (d + 1)) fX1_7 (t.at 7),tlF (tlP (d + 1)) fX1_8 (t.at 8),tlF (tlP (d + 1)) fX1_9 (t.at 9)] := by
    refine ⟨[[.int .i64 0,.slice (some a2) ((t.at 0).s).length k2,.bool false,.slice none 0 0,.slice none 0 0],[.int .i64 0,.slice (some a4) ((t.at 1).s).length k4,.bool false,.slice none 0 0,.slice none 0 0],[.int .i64 0,.slice (some a6) ((t.at 2).s).length k6,.bool false,.slice none 0 0,.slice none 0 0],[.int .i64 0,.slice (some a8) ((t.at 3).s).length k8,.bool false,.slice none 0 0,.slice none 0 0],[.int .i64 ((t.at 4).n),.slice none 0 0,.bool false,.slice none 0 0,.slice none 0 0],[.int .i64 ((t.at 5).n),.slice none 0 0,.bool false,.slice none 0 0,.slice none 0 0],[.int .i64 ((t.at 6).n),.slice none 0 0,.bool false,.slice none 0 0,.slice none 0 0],[.int .i64 0,.slice (some a13) ((t.at 7).s).length k13,.bool false,.slice none 0 0,.slice none 0 0],[.int .i64 0,vS15,.bool (t.at 8).null,.slice none 0 0,.slice none 0 0],[.int .i64 0,.slice none 0 0,.bool (t.at 9).null,.slice av9 (List.map (tl1 (tlP (d + 1)) fX1_9.of fX1_9.sub) L9).length kv9,.slice none 0 0]],⟨_,10,rfl,Nat.le_refl _,(by intro cs hm;simp only [List.mem_cons,List.not_mem_nil,or_false] at hm;rcases hm with rfl | rfl | rfl | rfl | rfl | rfl | rfl | rfl | rfl | rfl <;> rfl),.inr ⟨_,rfl,rfl,.inr rfl,_,hl32,fun i hi => by rw [Nat.zero_add,List.getElem?_toArray];rfl⟩⟩,rfl,fun i h1 h2 => ?_⟩
    match i,h1 with
    | 0,_ => exact TreeC.weaken (fun b _ hk => .inl hk) hF0
    | 1,_ => exact TreeC.weaken (fun b _ hk => .inl hk) hF1
    | 2,_ => exact TreeC.weaken (fun b _ hk => .inl hk) hF2
    | 3,_ => exact TreeC.weaken (fun b _ hk => .inl hk) hF3
    | 4,_ => exact TreeC.weaken (fun b _ hk => .inl hk) hF4
    | 5,_ => exact TreeC.weaken (fun b _ hk => .inl hk) hF5
    | 6,_ => exact TreeC.weaken (fun b _ hk => .inl hk) hF6
    | 7,_ => exact TreeC.weaken (fun b _ hk => .inl hk) hF7
    | 8,_ => exact TreeC.weaken (fun b _ hk => .inl hk) hF8
    | 9,_ => exact TreeC.weaken (fun b _ hk => .inl hk) hF9
  repeat ((first | refine qA rfl ?_|refine qB ?_|refine qC rfl ?_|refine qD ?_|refine qE ?_|refine qF ?_|refine qG ?_|refine qH ?_);try simp (maxSteps:=1000000)(disch:=(first|omega|(simp only [qI,qJ,qK]<;>omega)|exact qL _)) only [go_sem,↓reduceIte,n0,reduceCtorEq,n1,n2,n3,n4,n5,i0,i1,i2,i3,i4,i5,i6,i7,hb32,hl32,ht32,hq0,hq1,hq2,hq3,hq4,hq5,hq6,hq7,hq8,hq9,hq10,hrd9_0,hrd9_2,hrd9_3,hr32,cellsAt_five])
  refine ⟨⟨_,rfl,?_⟩,hX32.wr _ _ (.inl (Nat.le_refl _))⟩
  have hUr : Upd (fun b => b = w.heap.size) w32 (wr w32 w.heap.size 0 [.int .i64 0,.slice none 0 0,.bool false,.slice (some ⟨w.heap.size + 1,0,none⟩) 10 10,.slice aU (sortT t.u).length kU]) := (Upd.refl _ _).wr _ _ (.inr rfl)
  have hTU2 := hTU.keep (hEs.keeps _)
  exact TreeC.intro rfl (BytesV.nil _ _) ((hTL.keep (hUr.keeps fun b _ hk e => by rcases hk with hk | hk <;> omega)).weaken fun b _ hk => by rcases hk with hk | hk <;> omega) ((hTU2.keep (hUr.keeps fun b _ hk e => by omega)).weaken fun b _ hk => by omega)

theorem tagclDescribeDelegationTokenResponse_fn {ok OK : Blocks} {B tb : Nat} (c0 c1 c2 c3 v : Value) (done : List TagD) (y : TagD) (vv : Value) (w : World) (hbt : blk w tb = some (#[c0,c1,c2,c3,v],26,(0,0))) (hg : GrowU OK B tb w 65 v done) (hB : B ≤ w.heap.size) (htb : tb < B) (hvv : BytesV ok w vv y.2) (hy : y.1 < 2 ^ 32) (hyl : y.2.length ≤ 32767) (hdl : done.length ≤ 32767) (hOK : ∀ b,B ≤ b → OK b) :
    Fn Tryd.prog 191 #[.int .u32 y.1,vv,.pointer (some ⟨tb,0,none⟩)] w fun _ w' => (∃ v',blk w' tb = some (#[c0,c1,c2,c3,v'],26,(0,0)) ∧ GrowU OK B tb w' 65 v' (done ++ [y])) ∧ Upd (fun b => b = tb ∨ B ≤ b) w w' := by
  have htl := blk_lt hbt
  refine fn_of_W Tryd.func191 rfl Tryd.results191 Tryd.ntmps191 rfl ?_
  repeat ((first | refine qA rfl ?_|refine qB ?_|refine qC rfl ?_|refine qD ?_|refine qE ?_|refine qF ?_|refine qG ?_|refine qH ?_);try simp (maxSteps:=1000000)(disch:=(first|omega|(simp only [qI,qJ,qK]<;>omega)|exact qL _)) only [go_sem,↓reduceIte,n0,reduceCtorEq,n1,n2,n3,n4,n5,i0,i1,i2,i3,i4,i5,i6,i7])
  obtain ⟨av,kv,rfl,_⟩ := hg.shape
  have hnb : ∀ b,b < B ∨ w.heap.size ≤ b → ¬ ownB (.slice av done.length kv) b := fun b hb h => by
    have := hg.above h
    have := hg.below h
    omega
  refine W.drawR (.take 0 (.take 1 (.take 2 (.take 3 (.only 4 (.only 5 (.only 6 (.only 7 (.take 8 (.last 9)))))))))) (ownB (.slice av done.length kv)) mixed (by kernel_rfl) ?_
  simp (maxSteps:=1000000)(disch:=(first|omega|(simp only [qI,qJ,qK]<;>omega)|exact qL _ | (refine hnb _ ?_;first | omega | (simp only [World.size_alloc,size_wr,size_drew] <;> omega)))) only [go_sem,↓reduceIte,n0,reduceCtorEq,n1,n2,n3,n4,n5,i0,i1,i2,i3,i4,i5,i6,i7,hbt]
  refine wp_copyN ap_22_22 (ok := ok) (s := y.2) (v := vv) (by first | rfl | simp (maxSteps:=1000000)(disch:=(first|omega|(simp only [qI,qJ,qK]<;>omega)|exact qL _)) only [go_sem,↓reduceIte,n0,reduceCtorEq,n1,n2,n3,n4,n5,i0,i1,i2,i3,i4,i5,i6,i7]) (by first | rfl | simp (maxSteps:=1000000)(disch:=(first|omega|(simp only [qI,qJ,qK]<;>omega)|exact qL _)) only [go_sem,↓reduceIte,n0,reduceCtorEq,n1,n2,n3,n4,n5,i0,i1,i2,i3,i4,i5,i6,i7]) (hvv.keep (Ext.keeps ((Upd.refl _ _).drew) _)) (by omega) ?_
  intro v1 w1 ho1 hE1 hf1
  obtain ⟨a1,k1,rfl,_⟩ := ho1.shape
  have hB1 := Own.bytes (ok := fun b => w.heap.size ≤ b) ho1 fun b hb => hf1 b hb
  have hP1 : Upd (ownB (.slice av done.length kv)) w.drew w1 := hE1.mono fun _ h => h.elim
  have hs1 := hE1.size
  simp only [size_drew] at hs1
  refine ⟨hP1,?_⟩
  simp (maxSteps:=1000000)(disch:=(first|omega|(simp only [qI,qJ,qK]<;>omega)|exact qL _ | (refine hnb _ ?_;first | omega | (simp only [World.size_alloc,size_wr,size_drew] <;> omega)))) only [go_sem,↓reduceIte,n0,reduceCtorEq,n1,n2,n3,n4,n5,i0,i1,i2,i3,i4,i5,i6,i7,hbt]
  refine ⟨hP1,?_⟩
  have hP2 : Upd (ownB (.slice av done.length kv)) w.drew (w1.alloc (.cells #[.int .u32 y.1,.slice a1 y.2.length k1] 65)) := hP1.alloc _
  have hn2 : blk (w1.alloc (.cells #[.int .u32 y.1,.slice a1 y.2.length k1] 65)) w1.heap.size = some (#[.int .u32 y.1,.slice a1 y.2.length k1],65,(0,0)) := blk_alloc_new rfl
  have hs2 : (w1.alloc (.cells #[.int .u32 y.1,.slice a1 y.2.length k1] 65)).heap.size = w1.heap.size + 1 := World.size_alloc _ _
  have hE2 : Ext w1 (w1.alloc (.cells #[.int .u32 y.1,.slice a1 y.2.length k1] 65)) := Upd.alloc (Upd.refl _ _) _
  refine ⟨hP2,?_⟩
  try simp only [List.append_nil]
  generalize (w1.alloc (.cells #[.int .u32 y.1,.slice a1 y.2.length k1] 65)) = w2 at *
  have hEw : Ext w w2 := (((Upd.refl _ _).drew).trans hE1).trans hE2
  obtain ⟨css,hown,hall⟩ := (hg.ext hEw).ex
  have hcl := hall.1
  have hx2 : TagC (fun b => OK b ∧ b ≠ tb ∧ ¬ ownB (.slice av done.length kv) b) w2 y [.int .u32 y.1,.slice a1 y.2.length k1] := ⟨_,rfl,(hB1.keep (hE2.keeps _)).weaken fun b _ hk => ⟨hOK b (by omega),by omega,hnb b (.inr hk)⟩,hy⟩
  refine wp_append ap_24_24 (m := 1) (news := [.int .u32 y.1,.slice a1 y.2.length k1]) (n := css.length) (cs := css.flatten) (v := .slice av done.length kv) ?_ rfl hown.1 hall.flat_cells (Src.blk (fr := (0,0)) (T := 65) hn2 rfl rfl) ?_ ?_ ?_
  · first | rfl | simp (maxSteps:=1000000)(disch:=(first|omega|(simp only [qI,qJ,qK]<;>omega)|exact qL _)) only [go_sem,↓reduceIte,n0,reduceCtorEq,n1,n2,n3,n4,n5,i0,i1,i2,i3,i4,i5,i6,i7]
  · omega
  · omega
  intro v' w3 ho hu hfr
  have hg3 := GrowU.snoc hown hall hx2 hu hfr ho
  obtain ⟨va,vc,hv',_⟩ := ho.shape
  subst hv'
  have hP3 := hP2.trans hu
  have hs3 := hu.size
  have hbt3 := hP3.blk_some (show blk w.drew tb = _ from hbt) (hnb _ (.inl htb))
  have hne : ¬ ownB (.slice va (css.length + 1) vc) tb := fun h => (hfr _ h).elim (hnb _ (.inl htb)) (fun h => by omega)
  refine ⟨hP3,?_⟩
  simp (maxSteps:=1000000)(disch:=(first|omega|(simp only [qI,qJ,qK]<;>omega)|exact qL _ | (refine hnb _ ?_;first | omega | (simp only [World.size_alloc,size_wr,size_drew] <;> omega)))) only [go_sem,↓reduceIte,n0,reduceCtorEq,n1,n2,n3,n4,n5,i0,i1,i2,i3,i4,i5,i6,i7,hbt3]
  repeat ((first | refine qA rfl ?_|refine qB ?_|refine qC rfl ?_|refine qD ?_|refine qE ?_|refine qF ?_|refine qG ?_|refine qH ?_);try simp (maxSteps:=1000000)(disch:=(first|omega|(simp only [qI,qJ,qK]<;>omega)|exact qL _)) only [go_sem,↓reduceIte,n0,reduceCtorEq,n1,n2,n3,n4,n5,i0,i1,i2,i3,i4,i5,i6,i7])
  refine ⟨⟨.slice va (css.length + 1) vc,by first | (rw [blk_wr_eq,hbt3];rfl) | rfl | (rw [hbt3];rfl) | (rw [blk_wr_eq,hbt3]),hg3.upd ((Upd.refl _ _).wr _ _ (.inr rfl)) hne⟩,?_⟩
  refine Upd.wr ?_ _ _ (.inr (.inl rfl))
  exact (((Upd.refl (fun b => b = tb ∨ B ≤ b) w).drew).trans (hP3.mono fun b h => .inr (hg.above h)))

set_option maxHeartbeats 4000000 in
theorem tellDescribeDelegationTokenResponse_fn {d : Nat} {ok : Blocks} (t : Tree) (cs : List Value) (w : World) {b : Nat} {x : Blk} (hb : blk w b = some x) (hq : ∀ k,k < 4 → x.1[1 + k]? = cs[k]?) (hR : RepS true (d + 3) fs_DescribeDelegationTokenResponse ok w t cs) (hg : GoodP (d + 3) fs_DescribeDelegationTokenResponse t) :
    Fn Tryd.prog 130 #[.pointer (some ⟨b,0,none⟩)] w fun r w' => (∃ c,r = .agg c.toArray ∧ TreeC (fun b => w.heap.size ≤ b) w' (tlP (d + 3) fs_DescribeDelegationTokenResponse t) c) ∧ Ext w w' := by
  have hbl := blk_lt hb
  obtain ⟨⟨gd0,gd1,gd2,-⟩,hgu⟩ := hg
  replace gd0 : GoodF (GoodP (d + 2)) fDescribeDelegationTokenResponse_0 (t.at 0) := gd0
  replace gd1 : GoodF (GoodP (d + 2)) fDescribeDelegationTokenResponse_1 (t.at 1) := gd1
  replace gd2 : GoodF (GoodP (d + 2)) fDescribeDelegationTokenResponse_2 (t.at 2) := gd2
  obtain ⟨cs0,q,hcs,hL,hT⟩ := hR.inv
  obtain ⟨c0,e0,rfl,h0,c1,e1,rfl,h1,c2,e2,rfl,h2,rfl⟩ := hL
  replace h0 : RepF (RepS true (d + 2)) (szS true (d + 2)) fDescribeDelegationTokenResponse_0 ok w (t.at 0) c0 := h0
  replace h1 : RepF (RepS true (d + 2)) (szS true (d + 2)) fDescribeDelegationTokenResponse_1 ok w (t.at 1) c1 := h1
  replace h2 : RepF (RepS true (d + 2)) (szS true (d + 2)) fDescribeDelegationTokenResponse_2 ok w (t.at 2) c2 := h2
  obtain rfl := (RepF_num (by decide)).1 h0
  obtain ⟨ab1,ac1,L1,rfl,hL1,hnn1,hs1⟩ := RepF_listT rfl h1
  have hgl1 := gd1.listL rfl hL1
  obtain rfl := (RepF_num (by decide)).1 h2
  obtain ⟨qm,rfl⟩ := hT.shape
  subst hcs
  have hq0 : x.1[1]? = some (.int .i16 (IntKind.i16.wrap (t.at 0).n)) := hq 0 (by decide)
  have hq1 : x.1[2]? = some (.slice ab1 L1.length ac1) := hq 1 (by decide)
  have hq2 : x.1[3]? = some (.int .i32 (IntKind.i32.wrap (t.at 2).n)) := hq 2 (by decide)
  have hq3 : x.1[4]? = some (.map qm) := hq 3 (by decide)
  refine fn_of_W Tryd.func130 rfl Tryd.results130 Tryd.ntmps130 rfl ?_
  repeat ((first | refine qA rfl ?_|refine qB ?_|refine qC rfl ?_|refine qD ?_|refine qE ?_|refine qF ?_|refine qG ?_|refine qH ?_);try simp (maxSteps:=1000000)(disch:=(first|omega|(simp only [qI,qJ,qK]<;>omega)|exact qL _)) only [go_sem,↓reduceIte,n0,reduceCtorEq,n1,n2,n3,n4,n5,i0,i1,i2,i3,i4,i5,i6,i7])
  refine wp_make (T := 23) (E := 26) (size := 5) (bytes := 88) (z := .agg #[.int .i64 0,.slice none 0 0,.bool false,.slice none 0 0,.slice none 0 0]) (l := 3) (c := 3) (kl := .i64) (kc := .i64) (by kernel_rfl) (by kernel_rfl) (by first | rfl | (simp (maxSteps:=1000000)(disch:=(first|omega|(simp only [qI,qJ,qK]<;>omega)|exact qL _)) only [go_sem,↓reduceIte,n0,reduceCtorEq,n1,n2,n3,n4,n5,i0,i1,i2,i3,i4,i5,i6,i7];rfl)) (by first | rfl | (simp (maxSteps:=1000000)(disch:=(first|omega|(simp only [qI,qJ,qK]<;>omega)|exact qL _)) only [go_sem,↓reduceIte,n0,reduceCtorEq,n1,n2,n3,n4,n5,i0,i1,i2,i3,i4,i5,i6,i7];rfl)) (by omega) (by omega) (by omega) ?_
  have hmd : madeCells (Value.agg #[.int .i64 0,.slice none 0 0,.bool false,.slice none 0 0,.slice none 0 0]).cells (3 * 5) = #[.int .i64 0,.slice none 0 0,.bool false,.slice none 0 0,.slice none 0 0,.int .i64 0,.slice none 0 0,.bool false,.slice none 0 0,.slice none 0 0,.int .i64 0,.slice none 0 0,.bool false,.slice none 0 0,.slice none 0 0] := by kernel_rfl
  rw [hmd]
  simp (maxSteps:=1000000)(disch:=(first|omega|(simp only [qI,qJ,qK]<;>omega)|exact qL _)) only [go_sem,↓reduceIte,n0,reduceCtorEq,n1,n2,n3,n4,n5,i0,i1,i2,i3,i4,i5,i6,i7]
  repeat ((first | refine qA rfl ?_|refine qB ?_|refine qC rfl ?_|refine qD ?_|refine qE ?_|refine qF ?_|refine qG ?_|refine qH ?_);try simp (maxSteps:=1000000)(disch:=(first|omega|(simp only [qI,qJ,qK]<;>omega)|exact qL _)) only [go_sem,↓reduceIte,n0,reduceCtorEq,n1,n2,n3,n4,n5,i0,i1,i2,i3,i4,i5,i6,i7])
  have hE1 : Ext w (wr (((w.alloc (.cells #[.int .i64 0,.slice none 0 0,.bool false,.slice none 0 0,.slice none 0 0] 26)).alloc (.cells #[.int .i64 0,.slice none 0 0,.bool false,.slice none 0 0,.slice none 0 0,.int .i64 0,.slice none 0 0,.bool false,.slice none 0 0,.slice none 0 0,.int .i64 0,.slice none 0 0,.bool false,.slice none 0 0,.slice none 0 0] 26)).alloc (.cells #[.int .i64 0,.slice none 0 0,.bool false,.slice none 0 0,.slice none 0 0] 26)) (w.heap.size + 2) 0 [.int .i64 0,.slice none 0 0,.bool false,.slice (some ⟨w.heap.size + 1,0,none⟩) 3 3,.slice none 0 0]) := (Upd.alloc (Upd.alloc (Upd.alloc (Upd.refl _ _) _) _) _).wr _ _ (.inl (by omega))
  have hz1 : (wr (((w.alloc (.cells #[.int .i64 0,.slice none 0 0,.bool false,.slice none 0 0,.slice none 0 0] 26)).alloc (.cells #[.int .i64 0,.slice none 0 0,.bool false,.slice none 0 0,.slice none 0 0,.int .i64 0,.slice none 0 0,.bool false,.slice none 0 0,.slice none 0 0,.int .i64 0,.slice none 0 0,.bool false,.slice none 0 0,.slice none 0 0] 26)).alloc (.cells #[.int .i64 0,.slice none 0 0,.bool false,.slice none 0 0,.slice none 0 0] 26)) (w.heap.size + 2) 0 [.int .i64 0,.slice none 0 0,.bool false,.slice (some ⟨w.heap.size + 1,0,none⟩) 3 3,.slice none 0 0]).heap.size = w.heap.size + 3 := by simp only [size_wr,World.size_alloc]
  have hl1 : blk (wr (((w.alloc (.cells #[.int .i64 0,.slice none 0 0,.bool false,.slice none 0 0,.slice none 0 0] 26)).alloc (.cells #[.int .i64 0,.slice none 0 0,.bool false,.slice none 0 0,.slice none 0 0,.int .i64 0,.slice none 0 0,.bool false,.slice none 0 0,.slice none 0 0,.int .i64 0,.slice none 0 0,.bool false,.slice none 0 0,.slice none 0 0] 26)).alloc (.cells #[.int .i64 0,.slice none 0 0,.bool false,.slice none 0 0,.slice none 0 0] 26)) (w.heap.size + 2) 0 [.int .i64 0,.slice none 0 0,.bool false,.slice (some ⟨w.heap.size + 1,0,none⟩) 3 3,.slice none 0 0]) (w.heap.size + 1) = some (#[.int .i64 0,.slice none 0 0,.bool false,.slice none 0 0,.slice none 0 0,.int .i64 0,.slice none 0 0,.bool false,.slice none 0 0,.slice none 0 0,.int .i64 0,.slice none 0 0,.bool false,.slice none 0 0,.slice none 0 0],26,(0,0)) := by simp (maxSteps:=1000000)(disch:=(first|omega|(simp only [qI,qJ,qK]<;>omega)|exact qL _)) only [go_sem,↓reduceIte,n0,reduceCtorEq,n1,n2,n3,n4,n5,i0,i1,i2,i3,i4,i5,i6,i7]
  have ht1 : blk (wr (((w.alloc (.cells #[.int .i64 0,.slice none 0 0,.bool false,.slice none 0 0,.slice none 0 0] 26)).alloc (.cells #[.int .i64 0,.slice none 0 0,.bool false,.slice none 0 0,.slice none 0 0,.int .i64 0,.slice none 0 0,.bool false,.slice none 0 0,.slice none 0 0,.int .i64 0,.slice none 0 0,.bool false,.slice none 0 0,.slice none 0 0] 26)).alloc (.cells #[.int .i64 0,.slice none 0 0,.bool false,.slice none 0 0,.slice none 0 0] 26)) (w.heap.size + 2) 0 [.int .i64 0,.slice none 0 0,.bool false,.slice (some ⟨w.heap.size + 1,0,none⟩) 3 3,.slice none 0 0]) (w.heap.size + 2) = some (#[.int .i64 0,.slice none 0 0,.bool false,.slice (some ⟨w.heap.size + 1,0,none⟩) 3 3,.slice none 0 0],26,(0,0)) := by simp (maxSteps:=1000000)(disch:=(first|omega|(simp only [qI,qJ,qK]<;>omega)|exact qL _)) only [go_sem,↓reduceIte,n0,reduceCtorEq,n1,n2,n3,n4,n5,i0,i1,i2,i3,i4,i5,i6,i7]
  have hr1 : blk (wr (((w.alloc (.cells #[.int .i64 0,.slice none 0 0,.bool false,.slice none 0 0,.slice none 0 0] 26)).alloc (.cells #[.int .i64 0,.slice none 0 0,.bool false,.slice none 0 0,.slice none 0 0,.int .i64 0,.slice none 0 0,.bool false,.slice none 0 0,.slice none 0 0,.int .i64 0,.slice none 0 0,.bool false,.slice none 0 0,.slice none 0 0] 26)).alloc (.cells #[.int .i64 0,.slice none 0 0,.bool false,.slice none 0 0,.slice none 0 0] 26)) (w.heap.size + 2) 0 [.int .i64 0,.slice none 0 0,.bool false,.slice (some ⟨w.heap.size + 1,0,none⟩) 3 3,.slice none 0 0]) w.heap.size = some (#[.int .i64 0,.slice none 0 0,.bool false,.slice none 0 0,.slice none 0 0],26,(0,0)) := by simp (maxSteps:=1000000)(disch:=(first|omega|(simp only [qI,qJ,qK]<;>omega)|exact qL _)) only [go_sem,↓reduceIte,n0,reduceCtorEq,n1,n2,n3,n4,n5,i0,i1,i2,i3,i4,i5,i6,i7]
  obtain ⟨w1,hw1⟩ : ∃ y,y = (wr (((w.alloc (.cells #[.int .i64 0,.slice none 0 0,.bool false,.slice none 0 0,.slice none 0 0] 26)).alloc (.cells #[.int .i64 0,.slice none 0 0,.bool false,.slice none 0 0,.slice none 0 0,.int .i64 0,.slice none 0 0,.bool false,.slice none 0 0,.slice none 0 0,.int .i64 0,.slice none 0 0,.bool false,.slice none 0 0,.slice none 0 0] 26)).alloc (.cells #[.int .i64 0,.slice none 0 0,.bool false,.slice none 0 0,.slice none 0 0] 26)) (w.heap.size + 2) 0 [.int .i64 0,.slice none 0 0,.bool false,.slice (some ⟨w.heap.size + 1,0,none⟩) 3 3,.slice none 0 0]) := ⟨_,rfl⟩
  rw [← hw1] at hE1 hz1 hl1 ht1 hr1
  rw [← hw1]
  clear hw1
  have hU1 : Upd (fun b => b = w.heap.size + 1 ∨ b = w.heap.size + 2) w1 w1 := Upd.refl _ _
  have hb1 := hE1.blk_some hb id
  repeat ((first | refine qA rfl ?_|refine qB ?_|refine qC rfl ?_|refine qD ?_|refine qE ?_|refine qF ?_|refine qG ?_|refine qH ?_);try simp (maxSteps:=1000000)(disch:=(first|omega|(simp only [qI,qJ,qK]<;>omega)|exact qL _)) only [go_sem,↓reduceIte,n0,reduceCtorEq,n1,n2,n3,n4,n5,i0,i1,i2,i3,i4,i5,i6,i7,hb1,hl1,ht1,hq0,hq1,hq2,hq3])
  refine W.drawR (.take 0 (.take 1 (.take 2 (.take 3 (.take 4 (.take 5 (.take 6 (.only 7 (.take 8 (.last 9)))))))))) (NoB) mixed (by kernel_rfl) ?_
  try simp (maxSteps:=1000000)(disch:=(first|omega|(simp only [qI,qJ,qK]<;>omega)|exact qL _)) only [go_sem,↓reduceIte,n0,reduceCtorEq,n1,n2,n3,n4,n5,i0,i1,i2,i3,i4,i5,i6,i7,hb1,hl1,ht1,hq0,hq1,hq2,hq3,tl16]
  refine ⟨Upd.refl _ _,?_⟩
  have hlq2 : blk w1.drew (w.heap.size + 1) = _ := hl1
  have hx2 : Upd (fun b => b = w.heap.size + 1 ∨ b = w.heap.size + 2) w1 w1.drew := (Upd.refl _ _).drew
  generalize hw2 : wr w1.drew (w.heap.size + 1) 0 [.int .i64 (IntKind.i16.wrap (t.at 0).n),.slice none 0 0,.bool false,.slice none 0 0,.slice none 0 0] = w2
  have hl2 : blk w2 (w.heap.size + 1) = some (#[.int .i64 (IntKind.i16.wrap (t.at 0).n),.slice none 0 0,.bool false,.slice none 0 0,.slice none 0 0,.int .i64 0,.slice none 0 0,.bool false,.slice none 0 0,.slice none 0 0,.int .i64 0,.slice none 0 0,.bool false,.slice none 0 0,.slice none 0 0],26,(0,0)) := by rw [← hw2,blk_wr_eq,hlq2];rfl
  have hv2 : Upd (fun b => b = w.heap.size + 1 ∨ b = w.heap.size + 2) w1.drew w2 := by rw [← hw2];exact (Upd.refl _ _).wr _ _ (.inr (.inl rfl))
  have hV2 : Upd (fun b => b = w.heap.size + 1 ∨ b = w.heap.size + 2) w1 w2 := hx2.trans hv2
  have hU2 : Upd (fun b => b = w.heap.size + 1 ∨ b = w.heap.size + 2) w1 w2 := hU1.trans hV2
  have hz2 := hU2.size
  have hX2 : Ext w w2 := hE1.more hU2 fun b hb h => by omega
  have hb2 := hX2.blk_some hb id
  have ht2 : blk w2 (w.heap.size + 2) = some (#[.int .i64 0,.slice none 0 0,.bool false,.slice (some ⟨w.heap.size + 1,0,none⟩) 3 3,.slice none 0 0],26,(0,0)) := by
    rw [← hw2,blk_wr_ne (by omega)]
    exact ht1
  clear hw2
  have hf0 : TreeC (fun b => w1.heap.size ≤ b) w2 (.num (IntKind.i16.wrap (t.at 0).n)) [.int .i64 (IntKind.i16.wrap (t.at 0).n),.slice none 0 0,.bool false,.slice none 0 0,.slice none 0 0] := (TreeC.keep (hv2.keeps fun b hb hk e => by have hk' : w1.heap.size ≤ b := hk;omega) (TreeC.intro (tl16 _) (BytesV.nil _ _) (treesN _ _) (tagsN _ _) : TreeC (fun b => w1.heap.size ≤ b) w1.drew (.num (IntKind.i16.wrap (t.at 0).n)) [.int .i64 (IntKind.i16.wrap (t.at 0).n),.slice none 0 0,.bool false,.slice none 0 0,.slice none 0 0]))
  repeat ((first | refine qA rfl ?_|refine qB ?_|refine qC rfl ?_|refine qD ?_|refine qE ?_|refine qF ?_|refine qG ?_|refine qH ?_);try simp (maxSteps:=1000000)(disch:=(first|omega|(simp only [qI,qJ,qK]<;>omega)|exact qL _)) only [go_sem,↓reduceIte,n0,reduceCtorEq,n1,n2,n3,n4,n5,i0,i1,i2,i3,i4,i5,i6,i7,hb2,hl2,ht2,hq0,hq1,hq2,hq3])
  refine W.drawR (.take 0 (.take 1 (.take 2 (.take 3 (.take 4 (.take 5 (.take 6 (.take 7 (.take 8 (.last 9)))))))))) (NoB) mixed (by kernel_rfl) ?_
  try simp (maxSteps:=1000000)(disch:=(first|omega|(simp only [qI,qJ,qK]<;>omega)|exact qL _)) only [go_sem,↓reduceIte,n0,reduceCtorEq,n1,n2,n3,n4,n5,i0,i1,i2,i3,i4,i5,i6,i7,hb2,hl2,ht2,hq0,hq1,hq2,hq3,hnn1]
  generalize hw3 : wr w2.drew (w.heap.size + 1) 7 [.bool (t.at 1).null] = w3
  have hl3 : blk w3 (w.heap.size + 1) = some (#[.int .i64 (IntKind.i16.wrap (t.at 0).n),.slice none 0 0,.bool false,.slice none 0 0,.slice none 0 0,.int .i64 0,.slice none 0 0,.bool (t.at 1).null,.slice none 0 0,.slice none 0 0,.int .i64 0,.slice none 0 0,.bool false,.slice none 0 0,.slice none 0 0],26,(0,0)) := by rw [← hw3,blk_wr_eq,show blk w2.drew (w.heap.size + 1) = _ from hl2];rfl
  have hV3 : Upd (fun b => b = w.heap.size + 1 ∨ b = w.heap.size + 2) w2 w3 := by rw [← hw3];exact ((Upd.refl _ _).drew).wr _ _ (.inr (.inl rfl))
  have hU3 : Upd (fun b => b = w.heap.size + 1 ∨ b = w.heap.size + 2) w1 w3 := hU2.trans hV3
  have hz3 := hU3.size
  have hX3 : Ext w w3 := hE1.more hU3 fun b hb h => by omega
  have hb3 := hX3.blk_some hb id
  have ht3 : blk w3 (w.heap.size + 2) = some (#[.int .i64 0,.slice none 0 0,.bool false,.slice (some ⟨w.heap.size + 1,0,none⟩) 3 3,.slice none 0 0],26,(0,0)) := by
    rw [← hw3,blk_wr_ne (by omega)]
    exact ht2
  clear hw3
  repeat ((first | refine qA rfl ?_|refine qB ?_|refine qC rfl ?_|refine qD ?_|refine qE ?_|refine qF ?_|refine qG ?_|refine qH ?_);try simp (maxSteps:=1000000)(disch:=(first|omega|(simp only [qI,qJ,qK]<;>omega)|exact qL _)) only [go_sem,↓reduceIte,n0,reduceCtorEq,n1,n2,n3,n4,n5,i0,i1,i2,i3,i4,i5,i6,i7,hb3,hl3,ht3,hq0,hq1,hq2,hq3])
  refine W.exitJ 0 (EndQ [(0,.pointer (some ⟨b,0,none⟩)),(2,.pointer (some ⟨w.heap.size,0,none⟩)),(3,.pointer (some ⟨w.heap.size + 2,0,none⟩)),(29,.int .i64 L1.length)] (fun w' => ∃ v,blk w' (w.heap.size + 1) = some (#[.int .i64 (IntKind.i16.wrap (t.at 0).n),.slice none 0 0,.bool false,.slice none 0 0,.slice none 0 0,.int .i64 0,.slice none 0 0,.bool (t.at 1).null,v,.slice none 0 0,.int .i64 0,.slice none 0 0,.bool false,.slice none 0 0,.slice none 0 0],26,(0,0)) ∧ GrowT (fun b => w1.heap.size ≤ b) w3.heap.size (w.heap.size + 1) w' 26 v (L1.map (tl1 (tlP (d + 2)) fDescribeDelegationTokenResponse_1.of fDescribeDelegationTokenResponse_1.sub)) ∧ Upd (fun b => b = w.heap.size + 1) w3 w')) (W.loop (LoopL [(0,.pointer (some ⟨b,0,none⟩)),(2,.pointer (some ⟨w.heap.size,0,none⟩)),(3,.pointer (some ⟨w.heap.size + 2,0,none⟩)),(29,.int .i64 L1.length)] 30 (fun j w' => ∃ v,j ≤ L1.length ∧ blk w' (w.heap.size + 1) = some (#[.int .i64 (IntKind.i16.wrap (t.at 0).n),.slice none 0 0,.bool false,.slice none 0 0,.slice none 0 0,.int .i64 0,.slice none 0 0,.bool (t.at 1).null,v,.slice none 0 0,.int .i64 0,.slice none 0 0,.bool false,.slice none 0 0,.slice none 0 0],26,(0,0)) ∧ GrowT (fun b => w1.heap.size ≤ b) w3.heap.size (w.heap.size + 1) w' 26 v ((L1.take j).map (tl1 (tlP (d + 2)) fDescribeDelegationTokenResponse_1.of fDescribeDelegationTokenResponse_1.sub)) ∧ Upd (fun b => b = w.heap.size + 1) w3 w')) (fun ρ _ => L1.length - (RowKit.intOf (ρ 30)).toNat) ?_ ?_) ?_
  · exact ⟨(by simp (maxSteps:=1000000)(disch:=(first|omega|(simp only [qI,qJ,qK]<;>omega)|exact qL _)) only [go_sem,↓reduceIte,n0,reduceCtorEq,n1,n2,n3,n4,n5,i0,i1,i2,i3,i4,i5,i6,i7,Holds_nil,Holds_cons]),0,(by simp (maxSteps:=1000000)(disch:=(first|omega|(simp only [qI,qJ,qK]<;>omega)|exact qL _)) only [go_sem,↓reduceIte,n0,reduceCtorEq,n1,n2,n3,n4,n5,i0,i1,i2,i3,i4,i5,i6,i7];all_goals rfl),.slice none 0 0,Nat.zero_le _,hl3,GrowT.nil _ _ _ _ _,Upd.refl _ _⟩
  · rintro ρ w4 ⟨⟨hrc1_0,hrc1_2,hrc1_3,hrc1_29,-⟩,j,hri,v,hj,hl4,hg,hUk⟩
    have hzk := hUk.size
    have hX4 : Ext w w4 := hX3.more hUk fun b hb h => by omega
    have hz4 : w1.heap.size ≤ w4.heap.size := by have := hz3;omega
    have hb4 := hX4.blk_some hb id
    have ht4 := hUk.blk_some ht3 (by omega)
    by_cases hlt : j < L1.length
    · obtain ⟨_,be,oe,xe,ce,hbe,hoke,hxe,hble,hxs,hxx,hqe,hRe⟩ := SlR.get (size := 11) (by decide) hs1 hlt
      subst hbe
      have hcat : L1.take (j + 1) = L1.take j ++ [L1[j]] := List.take_succ_eq_append_getElem hlt
      have hgy := hgl1.2 _ (List.getElem_mem hlt)
      have hll := hgl1.1
      obtain ⟨av,kv,hvs,_⟩ := hg.shape
      have hlj : (List.map (tl1 (tlP (d + 2)) fDescribeDelegationTokenResponse_1.of fDescribeDelegationTokenResponse_1.sub) (L1.take j)).length = j := by simp;omega
      rw [hlj] at hvs
      subst hvs
      have hnb : ∀ b,b < w3.heap.size ∨ w4.heap.size ≤ b → ¬ ownB (.slice av j kv) b := fun b hb h => by
        have := hg.above h
        have := hg.below h
        omega
      generalize L1[j] = y at *
      repeat ((first | refine qA rfl ?_|refine qB ?_|refine qC rfl ?_|refine qD ?_|refine qE ?_|refine qF ?_|refine qG ?_|refine qH ?_);try simp (maxSteps:=1000000)(disch:=(first|omega|(simp only [qI,qJ,qK]<;>omega)|exact qL _)) only [go_sem,↓reduceIte,n0,reduceCtorEq,n1,n2,n3,n4,n5,i0,i1,i2,i3,i4,i5,i6,i7,hb4,hl4,ht4,hq0,hq1,hq2,hq3,hrc1_0,hrc1_2,hrc1_3,hrc1_29,hri])
      refine W.drawR (.only 0 (.two 1 (.only 2 (.only 3 .done)) 2 (.only 1 (.only 3 .done)))) NoB mixed (by kernel_rfl) ?_
      try simp (maxSteps:=1000000)(disch:=(first|omega|(simp only [qI,qJ,qK]<;>omega)|exact qL _)) only [go_sem,↓reduceIte,n0,reduceCtorEq,n1,n2,n3,n4,n5,i0,i1,i2,i3,i4,i5,i6,i7,hb4,hl4,ht4,hq0,hq1,hq2,hq3,hrc1_0,hrc1_2,hrc1_3,hrc1_29,hri]
      have q0 : Upd NoB w4.drew (w4.alloc (.cells #[.bool false] 4)).drew := show Upd NoB w4.drew (w4.drew.alloc (.cells #[.bool false] 4)) from Upd.alloc (Upd.refl _ _) _
      have q1 : Upd NoB w4.drew (wr (w4.alloc (.cells #[.bool false] 4)).drew w4.heap.size 0 [.bool true]) := q0.wr _ _ (.inl (Nat.le_refl _))
      have q2 : Upd NoB w4.drew (wr (wr (w4.alloc (.cells #[.bool false] 4)).drew w4.heap.size 0 [.bool true]) w4.heap.size 0 [.bool false]) := q1.wr _ _ (.inl (Nat.le_refl _))
      have q3 : Upd NoB w4.drew (wr (w4.alloc (.cells #[.bool false] 4)).drew w4.heap.size 0 [.bool false]) := q0.wr _ _ (.inl (Nat.le_refl _))
      have q4 : Upd NoB w4.drew (wr (wr (w4.alloc (.cells #[.bool false] 4)).drew w4.heap.size 0 [.bool false]) w4.heap.size 0 [.bool true]) := q3.wr _ _ (.inl (Nat.le_refl _))
      refine ⟨q0,⟨q1,q2,q2,?_⟩,⟨q3,q4,q4,?_⟩⟩
      · have hk5 : Ext w4 (wr (wr (w4.alloc (.cells #[.bool false] 4)).drew w4.heap.size 0 [.bool true]) w4.heap.size 0 [.bool false]) := ((Upd.refl _ _).drew).trans q2
        generalize (wr (wr (w4.alloc (.cells #[.bool false] 4)).drew w4.heap.size 0 [.bool true]) w4.heap.size 0 [.bool false]) = w5 at *
        have hzk5 := hk5.size
        have hX5 : Ext w w5 := hX4.trans hk5
        have hb5 := hk5.blk_some hb4 id
        have hl5 := hk5.blk_some hl4 id
        have ht5 := hk5.blk_some ht4 id
        have hxe5 := hX5.blk_some hxe id
        repeat ((first | refine qA rfl ?_|refine qB ?_|refine qC rfl ?_|refine qD ?_|refine qE ?_|refine qF ?_|refine qG ?_|refine qH ?_);try simp (maxSteps:=1000000)(disch:=(first|omega|(simp only [qI,qJ,qK]<;>omega)|exact qL _)) only [go_sem,↓reduceIte,n0,reduceCtorEq,n1,n2,n3,n4,n5,i0,i1,i2,i3,i4,i5,i6,i7,hb5,hl5,ht5,hxe5,Int.toNat_natCast,Nat.mul_one,hq0,hq1,hq2,hq3,hrc1_0,hrc1_2,hrc1_3,hrc1_29,hri])
        refine W.drawR (.take 0 (.take 1 (.take 2 (.take 3 (.take 4 (.take 5 (.take 6 (.take 7 (.take 8 (.take 9 (.take 10 (.take 11 (.take 12 (.only 13 (.only 14 (.only 15 (.take 16 (.take 17 (.last 18))))))))))))))))))) (ownB (.slice av j kv)) mixed (by kernel_rfl) ?_
        try simp (maxSteps:=1000000)(disch:=(first|omega|(simp only [qI,qJ,qK]<;>omega)|exact qL _ | (refine hnb _ ?_;first | omega | (simp only [World.size_alloc,size_wr,size_drew] <;> omega)))) only [go_sem,↓reduceIte,n0,reduceCtorEq,n1,n2,n3,n4,n5,i0,i1,i2,i3,i4,i5,i6,i7,hb5,hl5,ht5,hxe5,Int.toNat_natCast,Nat.mul_one,hq0,hq1,hq2,hq3,hrc1_0,hrc1_2,hrc1_3,hrc1_29,hri]
        have hxq6 := (Upd.refl _ _ : Upd (ownB (.slice av j kv)) w5.drew w5.drew).blk_some (show blk w5.drew be = _ from hxe5) (hnb _ (.inl (by omega)))
        refine (tellX1_fn (d := d) (ok := ok) y ce w5.drew (b := be) (o := oe + j * 11) hxq6 (fun k hk => by have := hqe k hk;rw [← Nat.add_assoc] at this;exact this) ((RepS_lay true _ _).keep (Rep1_part.1 hRe) ((((hX5.drew).mono fun _ h => h.elim).trans (Upd.refl _ _) : Upd (ownB (.slice av j kv)) w w5.drew).keeps fun b hb _ => hnb b (.inl (by omega)))) (hgy.2.2 rfl)).mono ?_
        rintro _ w6 ⟨⟨c6,rfl,hc6⟩,hEx6⟩
        obtain ⟨T6,hT6⟩ : ∃ T,T = tlP (d + 2) fs_X1 y := ⟨_,rfl⟩
        replace hc6 : TreeC (fun b => w5.drew.heap.size ≤ b) w6 T6 c6 := by rw [hT6];exact hc6
        obtain ⟨vS6,vL6,vU6,rfl,hn6,hS6,hLL6,hUU6⟩ := hc6.inv
        have k1_6 := hS6.flat
        have k2_6 := SlR.flat hLL6
        have k3_6 := SlR.flat hUU6
        have hP6 : Upd (ownB (.slice av j kv)) w5.drew w6 := (Upd.refl _ _).trans (hEx6.mono fun _ h => h.elim)
        have hsq6 := hEx6.size
        try simp only [size_drew] at hsq6
        refine ⟨hP6,?_⟩
        try simp (maxSteps:=1000000)(disch:=(first|omega|(simp only [qI,qJ,qK]<;>omega)|exact qL _ | (refine hnb _ ?_;first | omega | (simp only [World.size_alloc,size_wr,size_drew] <;> omega)))) only [go_sem,↓reduceIte,n0,reduceCtorEq,n1,n2,n3,n4,n5,i0,i1,i2,i3,i4,i5,i6,i7,hb5,hl5,ht5,hxe5,Int.toNat_natCast,Nat.mul_one,hq0,hq1,hq2,hq3,hrc1_0,hrc1_2,hrc1_3,hrc1_29,hri,k1_6,k2_6,k3_6]
        have hP7 : Upd (ownB (.slice av j kv)) w5.drew (w6.alloc (.cells #[.int .i64 T6.n,vS6,.bool T6.null,vL6,vU6] 26)) := show Upd (ownB (.slice av j kv)) w5.drew (w6.alloc (.cells #[.int .i64 T6.n,vS6,.bool T6.null,vL6,vU6] 26)) from (hP6).alloc _
        have hn7 : blk (w6.alloc (.cells #[.int .i64 T6.n,vS6,.bool T6.null,vL6,vU6] 26)) w6.heap.size = some (#[.int .i64 T6.n,vS6,.bool T6.null,vL6,vU6],26,(0,0)) := show blk (w6.alloc (.cells #[.int .i64 T6.n,vS6,.bool T6.null,vL6,vU6] 26)) w6.heap.size = some (#[.int .i64 T6.n,vS6,.bool T6.null,vL6,vU6],26,(0,0)) from blk_alloc_new rfl
        have hsq7 : (w6.alloc (.cells #[.int .i64 T6.n,vS6,.bool T6.null,vL6,vU6] 26)).heap.size = w6.heap.size + 1 := show (w6.alloc (.cells #[.int .i64 T6.n,vS6,.bool T6.null,vL6,vU6] 26)).heap.size = w6.heap.size + 1 from World.size_alloc _ _
        have hEx7 : Ext w6 (w6.alloc (.cells #[.int .i64 T6.n,vS6,.bool T6.null,vL6,vU6] 26)) := show Ext w6 (w6.alloc (.cells #[.int .i64 T6.n,vS6,.bool T6.null,vL6,vU6] 26)) from Upd.alloc (Upd.refl _ _) _
        refine ⟨hP7,?_⟩
        try simp only [List.append_nil]
        generalize (w6.alloc (.cells #[.int .i64 T6.n,vS6,.bool T6.null,vL6,vU6] 26)) = w7 at *
        try simp only [size_drew] at hsq7
        have hEw8 : Ext w4 w7 := ((hk5.drew.trans hEx6).trans hEx7)
        have hzw8 := hEw8.size
        obtain ⟨css,hown,hall⟩ := (hg.ext hEw8).ex
        have hcl := hall.1
        rw [hlj] at hcl
        have hx8 : TreeC (fun b => (fun b => w1.heap.size ≤ b) b ∧ b ≠ w.heap.size + 1 ∧ ¬ ownB (.slice av j kv) b) w7 ((tl1 (tlP (d + 2)) fDescribeDelegationTokenResponse_1.of fDescribeDelegationTokenResponse_1.sub) y) [.int .i64 T6.n,vS6,.bool T6.null,vL6,vU6] := by
          rw [show (tl1 (tlP (d + 2)) fDescribeDelegationTokenResponse_1.of fDescribeDelegationTokenResponse_1.sub) y = _ from hT6.symm]
          exact TreeC.weaken (fun b _ hk => ⟨by omega,by omega,hnb b (.inr (by omega))⟩) (TreeC.weaken (ok' := fun b => w4.heap.size ≤ b) (fun b _ hk => by have hk' : w5.drew.heap.size ≤ b := hk;(try simp only [size_drew] at hk');omega) (TreeC.keep (Ext.keeps hEx7 _) hc6))
        refine wp_append ap_23_23 (m := 1) (news := [.int .i64 T6.n,vS6,.bool T6.null,vL6,vU6]) (n := css.length) (cs := css.flatten) (v := (.slice av j kv)) ?_ rfl hown.1 (all2_flat_tree hall) (Src.blk (fr := (0,0)) (T := 26) hn7 rfl (by simp only [List.all_cons,List.all_nil,flat_int,flat_bool,k1_6,k2_6,k3_6,Bool.and_self])) ?_ ?_ ?_
        · first | rfl | simp (maxSteps:=1000000)(disch:=(first|omega|(simp only [qI,qJ,qK]<;>omega)|exact qL _)) only [go_sem,↓reduceIte,n0,reduceCtorEq,n1,n2,n3,n4,n5,i0,i1,i2,i3,i4,i5,i6,i7]
        · omega
        · omega
        intro v' w8 ho hu hfr
        have hP8 := (hP7 : Upd (ownB (.slice av j kv)) w5.drew w7).trans hu
        have hzq8 := hP8.size
        simp only [size_drew] at hzq8
        have hlq8 := hP8.blk_some (show blk w5.drew (w.heap.size + 1) = _ from hl5) (hnb _ (.inl (by omega)))
        have hg' := GrowT.snoc hown hall hx8 hu hfr ho
        obtain ⟨va,vc,hv',_⟩ := ho.shape
        subst hv'
        have hne : ¬ ownB (.slice va (css.length + 1) vc) (w.heap.size + 1) := fun h => (hfr _ h).elim (hnb _ (.inl (by omega))) (fun h => by omega)
        refine ⟨hP8,?_⟩
        try simp (maxSteps:=1000000)(disch:=(first|omega|(simp only [qI,qJ,qK]<;>omega)|exact qL _ | (refine hnb _ ?_;first | omega | (simp only [World.size_alloc,size_wr,size_drew] <;> omega)))) only [go_sem,↓reduceIte,n0,reduceCtorEq,n1,n2,n3,n4,n5,i0,i1,i2,i3,i4,i5,i6,i7,hlq8,Int.toNat_natCast,Nat.mul_one,hrc1_0,hrc1_2,hrc1_3,hrc1_29,hri]
        repeat ((first | refine qA rfl ?_|refine qB ?_|refine qC rfl ?_|refine qD ?_|refine qE ?_|refine qF ?_|refine qG ?_|refine qH ?_);try simp (maxSteps:=1000000)(disch:=(first|omega|(simp only [qI,qJ,qK]<;>omega)|exact qL _)) only [go_sem,↓reduceIte,n0,reduceCtorEq,n1,n2,n3,n4,n5,i0,i1,i2,i3,i4,i5,i6,i7,hlq8,Int.toNat_natCast,Nat.mul_one,hrc1_0,hrc1_2,hrc1_3,hrc1_29,hri])
        refine ⟨⟨(by simp (maxSteps:=1000000)(disch:=(first|omega|(simp only [qI,qJ,qK]<;>omega)|exact qL _)) only [go_sem,↓reduceIte,n0,reduceCtorEq,n1,n2,n3,n4,n5,i0,i1,i2,i3,i4,i5,i6,i7,Holds_nil,Holds_cons,hrc1_0,hrc1_2,hrc1_3,hrc1_29,hri]),j + 1,(by simp (maxSteps:=1000000)(disch:=(first|omega|(simp only [qI,qJ,qK]<;>omega)|exact qL _)) only [go_sem,↓reduceIte,n0,reduceCtorEq,n1,n2,n3,n4,n5,i0,i1,i2,i3,i4,i5,i6,i7,hrc1_0,hrc1_2,hrc1_3,hrc1_29,hri];all_goals rfl),.slice va (css.length + 1) vc,by omega,?_,?_,?_⟩,?_⟩
        · rw [blk_wr_eq,hlq8];rfl
        · rw [hcat,List.map_append];exact hg'.upd ((Upd.refl _ _).wr _ _ (.inr rfl)) hne
        · refine Upd.wr ?_ _ _ (.inr rfl)
          exact (hUk.more ((hEw8.mono fun _ h => h.elim).trans hu) fun b hb h => absurd h (hnb b (.inl hb)))
        · try simp (maxSteps:=1000000)(disch:=(first|omega|(simp only [qI,qJ,qK]<;>omega)|exact qL _)) only [go_sem,↓reduceIte,n0,reduceCtorEq,n1,n2,n3,n4,n5,i0,i1,i2,i3,i4,i5,i6,i7,hrc1_0,hrc1_2,hrc1_3,hrc1_29,hri]
          simp only [RowKit.intOf];omega
      · have hk9 : Ext w4 (wr (wr (w4.alloc (.cells #[.bool false] 4)).drew w4.heap.size 0 [.bool false]) w4.heap.size 0 [.bool true]) := ((Upd.refl _ _).drew).trans q4
        generalize (wr (wr (w4.alloc (.cells #[.bool false] 4)).drew w4.heap.size 0 [.bool false]) w4.heap.size 0 [.bool true]) = w9 at *
        have hzk9 := hk9.size
        have hX9 : Ext w w9 := hX4.trans hk9
        have hb9 := hk9.blk_some hb4 id
        have hl9 := hk9.blk_some hl4 id
        have ht9 := hk9.blk_some ht4 id
        have hxe9 := hX9.blk_some hxe id
        repeat ((first | refine qA rfl ?_|refine qB ?_|refine qC rfl ?_|refine qD ?_|refine qE ?_|refine qF ?_|refine qG ?_|refine qH ?_);try simp (maxSteps:=1000000)(disch:=(first|omega|(simp only [qI,qJ,qK]<;>omega)|exact qL _)) only [go_sem,↓reduceIte,n0,reduceCtorEq,n1,n2,n3,n4,n5,i0,i1,i2,i3,i4,i5,i6,i7,hb9,hl9,ht9,hxe9,Int.toNat_natCast,Nat.mul_one,hq0,hq1,hq2,hq3,hrc1_0,hrc1_2,hrc1_3,hrc1_29,hri])
        refine W.drawR (.take 0 (.take 1 (.take 2 (.take 3 (.take 4 (.take 5 (.take 6 (.take 7 (.take 8 (.take 9 (.take 10 (.take 12 (.two 11 (.only 13 (.only 14 (.take 15 (.take 16 (.last 17))))) 13 (.only 11 (.only 14 (.take 15 (.take 16 (.last 17)))))))))))))))))) (ownB (.slice av j kv)) mixed (by kernel_rfl) ?_
        try simp (maxSteps:=1000000)(disch:=(first|omega|(simp only [qI,qJ,qK]<;>omega)|exact qL _ | (refine hnb _ ?_;first | omega | (simp only [World.size_alloc,size_wr,size_drew] <;> omega)))) only [go_sem,↓reduceIte,n0,reduceCtorEq,n1,n2,n3,n4,n5,i0,i1,i2,i3,i4,i5,i6,i7,hb9,hl9,ht9,hxe9,Int.toNat_natCast,Nat.mul_one,hq0,hq1,hq2,hq3,hrc1_0,hrc1_2,hrc1_3,hrc1_29,hri]
        refine ⟨?_,?_⟩
        · skip
          have hxq10 := (Upd.refl _ _ : Upd (ownB (.slice av j kv)) w9.drew w9.drew).blk_some (show blk w9.drew be = _ from hxe9) (hnb _ (.inl (by omega)))
          refine (tellX1_fn (d := d) (ok := ok) y ce w9.drew (b := be) (o := oe + j * 11) hxq10 (fun k hk => by have := hqe k hk;rw [← Nat.add_assoc] at this;exact this) ((RepS_lay true _ _).keep (Rep1_part.1 hRe) ((((hX9.drew).mono fun _ h => h.elim).trans (Upd.refl _ _) : Upd (ownB (.slice av j kv)) w w9.drew).keeps fun b hb _ => hnb b (.inl (by omega)))) (hgy.2.2 rfl)).mono ?_
          rintro _ w10 ⟨⟨c10,rfl,hc10⟩,hEx10⟩
          obtain ⟨T10,hT10⟩ : ∃ T,T = tlP (d + 2) fs_X1 y := ⟨_,rfl⟩
          replace hc10 : TreeC (fun b => w9.drew.heap.size ≤ b) w10 T10 c10 := by rw [hT10];exact hc10
          obtain ⟨vS10,vL10,vU10,rfl,hn10,hS10,hLL10,hUU10⟩ := hc10.inv
          have k1_10 := hS10.flat
          have k2_10 := SlR.flat hLL10
          have k3_10 := SlR.flat hUU10
          have hP10 : Upd (ownB (.slice av j kv)) w9.drew w10 := (Upd.refl _ _).trans (hEx10.mono fun _ h => h.elim)
          have hsq10 := hEx10.size
          try simp only [size_drew] at hsq10
          refine ⟨hP10,?_⟩
          try simp (maxSteps:=1000000)(disch:=(first|omega|(simp only [qI,qJ,qK]<;>omega)|exact qL _ | (refine hnb _ ?_;first | omega | (simp only [World.size_alloc,size_wr,size_drew] <;> omega)))) only [go_sem,↓reduceIte,n0,reduceCtorEq,n1,n2,n3,n4,n5,i0,i1,i2,i3,i4,i5,i6,i7,hb9,hl9,ht9,hxe9,Int.toNat_natCast,Nat.mul_one,hq0,hq1,hq2,hq3,hrc1_0,hrc1_2,hrc1_3,hrc1_29,hri,k1_10,k2_10,k3_10]
          have hP11 : Upd (ownB (.slice av j kv)) w9.drew (w10.alloc (.cells #[.int .i64 0,.slice none 0 0,.bool false,.slice none 0 0,.slice none 0 0] 26)) := show Upd (ownB (.slice av j kv)) w9.drew (w10.alloc (.cells #[.int .i64 0,.slice none 0 0,.bool false,.slice none 0 0,.slice none 0 0] 26)) from (hP10).alloc _
          have hn11 : blk (w10.alloc (.cells #[.int .i64 0,.slice none 0 0,.bool false,.slice none 0 0,.slice none 0 0] 26)) w10.heap.size = some (#[.int .i64 0,.slice none 0 0,.bool false,.slice none 0 0,.slice none 0 0],26,(0,0)) := show blk (w10.alloc (.cells #[.int .i64 0,.slice none 0 0,.bool false,.slice none 0 0,.slice none 0 0] 26)) w10.heap.size = some (#[.int .i64 0,.slice none 0 0,.bool false,.slice none 0 0,.slice none 0 0],26,(0,0)) from blk_alloc_new rfl
          have hsq11 : (w10.alloc (.cells #[.int .i64 0,.slice none 0 0,.bool false,.slice none 0 0,.slice none 0 0] 26)).heap.size = w10.heap.size + 1 := show (w10.alloc (.cells #[.int .i64 0,.slice none 0 0,.bool false,.slice none 0 0,.slice none 0 0] 26)).heap.size = w10.heap.size + 1 from World.size_alloc _ _
          have hEx11 : Ext w10 (w10.alloc (.cells #[.int .i64 0,.slice none 0 0,.bool false,.slice none 0 0,.slice none 0 0] 26)) := show Ext w10 (w10.alloc (.cells #[.int .i64 0,.slice none 0 0,.bool false,.slice none 0 0,.slice none 0 0] 26)) from Upd.alloc (Upd.refl _ _) _
          refine ⟨hP11,?_⟩
          try simp only [List.append_nil]
          generalize (w10.alloc (.cells #[.int .i64 0,.slice none 0 0,.bool false,.slice none 0 0,.slice none 0 0] 26)) = w11 at *
          try simp only [size_drew] at hsq11
          have hEw12 : Ext w4 w11 := ((hk9.drew.trans hEx10).trans hEx11)
          have hzw12 := hEw12.size
          obtain ⟨css,hown,hall⟩ := (hg.ext hEw12).ex
          have hcl := hall.1
          rw [hlj] at hcl
          have hx12 : TreeC (fun b => (fun b => w1.heap.size ≤ b) b ∧ b ≠ w.heap.size + 1 ∧ ¬ ownB (.slice av j kv) b) w11 ((tl1 (tlP (d + 2)) fDescribeDelegationTokenResponse_1.of fDescribeDelegationTokenResponse_1.sub) y) [.int .i64 T10.n,vS10,.bool T10.null,vL10,vU10] := by
            rw [show (tl1 (tlP (d + 2)) fDescribeDelegationTokenResponse_1.of fDescribeDelegationTokenResponse_1.sub) y = _ from hT10.symm]
            exact TreeC.weaken (fun b _ hk => ⟨by omega,by omega,hnb b (.inr (by omega))⟩) (TreeC.weaken (ok' := fun b => w4.heap.size ≤ b) (fun b _ hk => by have hk' : w9.drew.heap.size ≤ b := hk;(try simp only [size_drew] at hk');omega) (TreeC.keep (Ext.keeps hEx11 _) hc10))
          refine wp_append ap_23_23 (m := 1) (news := [.int .i64 0,.slice none 0 0,.bool false,.slice none 0 0,.slice none 0 0]) (n := css.length) (cs := css.flatten) (v := (.slice av j kv)) ?_ rfl hown.1 (all2_flat_tree hall) (Src.blk (fr := (0,0)) (T := 26) hn11 rfl rfl) ?_ ?_ ?_
          · first | rfl | simp (maxSteps:=1000000)(disch:=(first|omega|(simp only [qI,qJ,qK]<;>omega)|exact qL _)) only [go_sem,↓reduceIte,n0,reduceCtorEq,n1,n2,n3,n4,n5,i0,i1,i2,i3,i4,i5,i6,i7]
          · omega
          · omega
          intro v' w12 ho hu hfr
          have hP12 := (hP11 : Upd (ownB (.slice av j kv)) w9.drew w11).trans hu
          have hzq12 := hP12.size
          simp only [size_drew] at hzq12
          have hlq12 := hP12.blk_some (show blk w9.drew (w.heap.size + 1) = _ from hl9) (hnb _ (.inl (by omega)))
          rcases ho.2 with ⟨_,h⟩ | ⟨g,cap,rest,fr,hv',hg',hbg,hlen,hth,hle⟩
          · exact absurd h (Nat.succ_ne_zero _)
          subst hv'
          have hgne : ¬ g = w.heap.size + 1 := fun h => (hfr g ⟨_,_,_,rfl,rfl⟩).elim (fun h' => hnb _ (.inl (by omega)) (h ▸ h')) (fun h' => by omega)
          have hfl : css.flatten.length = css.length * 5 := flatten_len hown.2
          have hlen2 : (css.flatten ++ ([.int .i64 0,.slice none 0 0,.bool false,.slice none 0 0,.slice none 0 0] : List Value) ++ rest).length = cap * 5 := by simp only [List.length_append] at hlen ⊢;omega
          obtain ⟨XX,hXX⟩ : ∃ X : Array Value,X = (css.flatten ++ ([.int .i64 0,.slice none 0 0,.bool false,.slice none 0 0,.slice none 0 0] : List Value) ++ rest).toArray := ⟨_,rfl⟩
          have hbgX : blk w12 g = some (XX,26,fr) := by rw [hXX];exact hbg
          have hXsz : XX.size = cap * 5 := by rw [hXX,List.size_toArray];exact hlen2
          have hth2 : thaw fr (css.length * 5) 5 = true := thaw_of hth (by omega)
          have hst : css.length * 5 + 5 ≤ XX.size := by omega
          have hset := Own.setlast (cs := [.int .i64 T10.n,vS10,.bool T10.null,vL10,vU10]) ho rfl rfl
          have hu2 : Upd (ownB (.slice av j kv)) w11 (wr w12 g (css.length * 5) [.int .i64 T10.n,vS10,.bool T10.null,vL10,vU10]) := hu.wr _ _ ((hfr g ⟨_,_,_,rfl,rfl⟩).symm)
          have hg2 := GrowT.snoc hown hall hx12 hu2 hfr hset
          have hcj : css.length = j := by first | exact hcl.symm.trans hlj | omega
          simp only [hcj] at hth2 hst hset hu2 hg2
          refine ⟨hP12,?_⟩
          try simp (maxSteps:=1000000)(disch:=(first|omega|(simp only [qI,qJ,qK]<;>omega)|exact qL _ | (refine hnb _ ?_;first | omega | (simp only [World.size_alloc,size_wr,size_drew] <;> omega)))) only [go_sem,↓reduceIte,n0,reduceCtorEq,n1,n2,n3,n4,n5,i0,i1,i2,i3,i4,i5,i6,i7,hlq12,hbgX,hth2,hst,hcj,Int.toNat_natCast,Nat.mul_one,k1_10,k2_10,k3_10,hrc1_0,hrc1_2,hrc1_3,hrc1_29,hri]
          repeat ((first | refine qA rfl ?_|refine qB ?_|refine qC rfl ?_|refine qD ?_|refine qE ?_|refine qF ?_|refine qG ?_|refine qH ?_);try simp (maxSteps:=1000000)(disch:=(first|omega|(simp only [qI,qJ,qK]<;>omega)|exact qL _)) only [go_sem,↓reduceIte,n0,reduceCtorEq,n1,n2,n3,n4,n5,i0,i1,i2,i3,i4,i5,i6,i7,hlq12,hbgX,hth2,hst,hcj,Int.toNat_natCast,Nat.mul_one,k1_10,k2_10,k3_10,hrc1_0,hrc1_2,hrc1_3,hrc1_29,hri])
          refine ⟨⟨(by simp (maxSteps:=1000000)(disch:=(first|omega|(simp only [qI,qJ,qK]<;>omega)|exact qL _)) only [go_sem,↓reduceIte,n0,reduceCtorEq,n1,n2,n3,n4,n5,i0,i1,i2,i3,i4,i5,i6,i7,Holds_nil,Holds_cons,hrc1_0,hrc1_2,hrc1_3,hrc1_29,hri]),j + 1,(by simp (maxSteps:=1000000)(disch:=(first|omega|(simp only [qI,qJ,qK]<;>omega)|exact qL _)) only [go_sem,↓reduceIte,n0,reduceCtorEq,n1,n2,n3,n4,n5,i0,i1,i2,i3,i4,i5,i6,i7,hrc1_0,hrc1_2,hrc1_3,hrc1_29,hri];all_goals rfl),.slice (some ⟨g,0,none⟩) (j + 1) cap,by omega,?_,?_,?_⟩,?_⟩
          · rw [blk_wr_ne (by omega),blk_wr_eq,hlq12];rfl
          · rw [hcat,List.map_append,wr_comm (Ne.symm hgne)]
            exact hg2.upd ((Upd.refl _ _).wr _ _ (.inr rfl)) (fun h => hgne (ownB_row h).symm)
          · rw [wr_comm (Ne.symm hgne)]
            refine Upd.wr ?_ _ _ (.inr rfl)
            exact (hUk.more ((hEw12.mono fun _ h => h.elim).trans hu2) fun b hb h => absurd h (hnb b (.inl hb)))
          · try simp (maxSteps:=1000000)(disch:=(first|omega|(simp only [qI,qJ,qK]<;>omega)|exact qL _)) only [go_sem,↓reduceIte,n0,reduceCtorEq,n1,n2,n3,n4,n5,i0,i1,i2,i3,i4,i5,i6,i7,hrc1_0,hrc1_2,hrc1_3,hrc1_29,hri]
            simp only [RowKit.intOf];omega
        · skip
          have hP13 : Upd (ownB (.slice av j kv)) w9.drew (w9.alloc (.cells #[.int .i64 0,.slice none 0 0,.bool false,.slice none 0 0,.slice none 0 0] 26)).drew := show Upd (ownB (.slice av j kv)) w9.drew (w9.drew.alloc (.cells #[.int .i64 0,.slice none 0 0,.bool false,.slice none 0 0,.slice none 0 0] 26)) from (Upd.refl _ _).alloc _
          have hn13 : blk (w9.alloc (.cells #[.int .i64 0,.slice none 0 0,.bool false,.slice none 0 0,.slice none 0 0] 26)).drew w9.drew.heap.size = some (#[.int .i64 0,.slice none 0 0,.bool false,.slice none 0 0,.slice none 0 0],26,(0,0)) := show blk (w9.drew.alloc (.cells #[.int .i64 0,.slice none 0 0,.bool false,.slice none 0 0,.slice none 0 0] 26)) w9.drew.heap.size = some (#[.int .i64 0,.slice none 0 0,.bool false,.slice none 0 0,.slice none 0 0],26,(0,0)) from blk_alloc_new rfl
          have hsq13 : (w9.alloc (.cells #[.int .i64 0,.slice none 0 0,.bool false,.slice none 0 0,.slice none 0 0] 26)).drew.heap.size = w9.drew.heap.size + 1 := show (w9.drew.alloc (.cells #[.int .i64 0,.slice none 0 0,.bool false,.slice none 0 0,.slice none 0 0] 26)).heap.size = w9.drew.heap.size + 1 from World.size_alloc _ _
          have hEx13 : Ext w9.drew (w9.alloc (.cells #[.int .i64 0,.slice none 0 0,.bool false,.slice none 0 0,.slice none 0 0] 26)).drew := show Ext w9.drew (w9.drew.alloc (.cells #[.int .i64 0,.slice none 0 0,.bool false,.slice none 0 0,.slice none 0 0] 26)) from Upd.alloc (Upd.refl _ _) _
          refine ⟨hP13,?_⟩
          try simp only [List.append_nil]
          generalize (w9.alloc (.cells #[.int .i64 0,.slice none 0 0,.bool false,.slice none 0 0,.slice none 0 0] 26)).drew = w13 at *
          try simp only [size_drew] at hsq13
          have hxq14 := (hP13 : Upd (ownB (.slice av j kv)) w9.drew w13).blk_some (show blk w9.drew be = _ from hxe9) (hnb _ (.inl (by omega)))
          refine (tellX1_fn (d := d) (ok := ok) y ce w13 (b := be) (o := oe + j * 11) hxq14 (fun k hk => by have := hqe k hk;rw [← Nat.add_assoc] at this;exact this) ((RepS_lay true _ _).keep (Rep1_part.1 hRe) ((((hX9.drew).mono fun _ h => h.elim).trans (hP13) : Upd (ownB (.slice av j kv)) w w13).keeps fun b hb _ => hnb b (.inl (by omega)))) (hgy.2.2 rfl)).mono ?_
          rintro _ w14 ⟨⟨c14,rfl,hc14⟩,hEx14⟩
          obtain ⟨T14,hT14⟩ : ∃ T,T = tlP (d + 2) fs_X1 y := ⟨_,rfl⟩
          replace hc14 : TreeC (fun b => w13.heap.size ≤ b) w14 T14 c14 := by rw [hT14];exact hc14
          obtain ⟨vS14,vL14,vU14,rfl,hn14,hS14,hLL14,hUU14⟩ := hc14.inv
          have k1_14 := hS14.flat
          have k2_14 := SlR.flat hLL14
          have k3_14 := SlR.flat hUU14
          have hP14 : Upd (ownB (.slice av j kv)) w9.drew w14 := (hP13).trans (hEx14.mono fun _ h => h.elim)
          have hsq14 := hEx14.size
          try simp only [size_drew] at hsq14
          refine ⟨hP14,?_⟩
          try simp (maxSteps:=1000000)(disch:=(first|omega|(simp only [qI,qJ,qK]<;>omega)|exact qL _ | (refine hnb _ ?_;first | omega | (simp only [World.size_alloc,size_wr,size_drew] <;> omega)))) only [go_sem,↓reduceIte,n0,reduceCtorEq,n1,n2,n3,n4,n5,i0,i1,i2,i3,i4,i5,i6,i7,hb9,hl9,ht9,hxe9,Int.toNat_natCast,Nat.mul_one,hq0,hq1,hq2,hq3,hrc1_0,hrc1_2,hrc1_3,hrc1_29,hri,k1_14,k2_14,k3_14]
          have hEw15 : Ext w4 w14 := ((hk9.drew.trans hEx13).trans hEx14)
          have hzw15 := hEw15.size
          obtain ⟨css,hown,hall⟩ := (hg.ext hEw15).ex
          have hcl := hall.1
          rw [hlj] at hcl
          have hx15 : TreeC (fun b => (fun b => w1.heap.size ≤ b) b ∧ b ≠ w.heap.size + 1 ∧ ¬ ownB (.slice av j kv) b) w14 ((tl1 (tlP (d + 2)) fDescribeDelegationTokenResponse_1.of fDescribeDelegationTokenResponse_1.sub) y) [.int .i64 T14.n,vS14,.bool T14.null,vL14,vU14] := by
            rw [show (tl1 (tlP (d + 2)) fDescribeDelegationTokenResponse_1.of fDescribeDelegationTokenResponse_1.sub) y = _ from hT14.symm]
            exact TreeC.weaken (fun b _ hk => ⟨by omega,by omega,hnb b (.inr (by omega))⟩) (TreeC.weaken (ok' := fun b => w4.heap.size ≤ b) (fun b _ hk => by have hk' : w13.heap.size ≤ b := hk;(try simp only [size_drew] at hk');omega) hc14)
          refine wp_append ap_23_23 (m := 1) (news := [.int .i64 0,.slice none 0 0,.bool false,.slice none 0 0,.slice none 0 0]) (n := css.length) (cs := css.flatten) (v := (.slice av j kv)) ?_ rfl hown.1 (all2_flat_tree hall) (Src.blk (fr := (0,0)) (T := 26) (hEx14.blk_some hn13 id) rfl rfl) ?_ ?_ ?_
          · first | rfl | simp (maxSteps:=1000000)(disch:=(first|omega|(simp only [qI,qJ,qK]<;>omega)|exact qL _)) only [go_sem,↓reduceIte,n0,reduceCtorEq,n1,n2,n3,n4,n5,i0,i1,i2,i3,i4,i5,i6,i7]
          · omega
          · omega
          intro v' w15 ho hu hfr
          have hP15 := (hP14 : Upd (ownB (.slice av j kv)) w9.drew w14).trans hu
          have hzq15 := hP15.size
          simp only [size_drew] at hzq15
          have hlq15 := hP15.blk_some (show blk w9.drew (w.heap.size + 1) = _ from hl9) (hnb _ (.inl (by omega)))
          rcases ho.2 with ⟨_,h⟩ | ⟨g,cap,rest,fr,hv',hg',hbg,hlen,hth,hle⟩
          · exact absurd h (Nat.succ_ne_zero _)
          subst hv'
          have hgne : ¬ g = w.heap.size + 1 := fun h => (hfr g ⟨_,_,_,rfl,rfl⟩).elim (fun h' => hnb _ (.inl (by omega)) (h ▸ h')) (fun h' => by omega)
          have hfl : css.flatten.length = css.length * 5 := flatten_len hown.2
          have hlen2 : (css.flatten ++ ([.int .i64 0,.slice none 0 0,.bool false,.slice none 0 0,.slice none 0 0] : List Value) ++ rest).length = cap * 5 := by simp only [List.length_append] at hlen ⊢;omega
          obtain ⟨XX,hXX⟩ : ∃ X : Array Value,X = (css.flatten ++ ([.int .i64 0,.slice none 0 0,.bool false,.slice none 0 0,.slice none 0 0] : List Value) ++ rest).toArray := ⟨_,rfl⟩
          have hbgX : blk w15 g = some (XX,26,fr) := by rw [hXX];exact hbg
          have hXsz : XX.size = cap * 5 := by rw [hXX,List.size_toArray];exact hlen2
          have hth2 : thaw fr (css.length * 5) 5 = true := thaw_of hth (by omega)
          have hst : css.length * 5 + 5 ≤ XX.size := by omega
          have hset := Own.setlast (cs := [.int .i64 T14.n,vS14,.bool T14.null,vL14,vU14]) ho rfl rfl
          have hu2 : Upd (ownB (.slice av j kv)) w14 (wr w15 g (css.length * 5) [.int .i64 T14.n,vS14,.bool T14.null,vL14,vU14]) := hu.wr _ _ ((hfr g ⟨_,_,_,rfl,rfl⟩).symm)
          have hg2 := GrowT.snoc hown hall hx15 hu2 hfr hset
          have hcj : css.length = j := by first | exact hcl.symm.trans hlj | omega
          simp only [hcj] at hth2 hst hset hu2 hg2
          refine ⟨hP15,?_⟩
          try simp (maxSteps:=1000000)(disch:=(first|omega|(simp only [qI,qJ,qK]<;>omega)|exact qL _ | (refine hnb _ ?_;first | omega | (simp only [World.size_alloc,size_wr,size_drew] <;> omega)))) only [go_sem,↓reduceIte,n0,reduceCtorEq,n1,n2,n3,n4,n5,i0,i1,i2,i3,i4,i5,i6,i7,hlq15,hbgX,hth2,hst,hcj,Int.toNat_natCast,Nat.mul_one,k1_14,k2_14,k3_14,hrc1_0,hrc1_2,hrc1_3,hrc1_29,hri]
          repeat ((first | refine qA rfl ?_|refine qB ?_|refine qC rfl ?_|refine qD ?_|refine qE ?_|refine qF ?_|refine qG ?_|refine qH ?_);try simp (maxSteps:=1000000)(disch:=(first|omega|(simp only [qI,qJ,qK]<;>omega)|exact qL _)) only [go_sem,↓reduceIte,n0,reduceCtorEq,n1,n2,n3,n4,n5,i0,i1,i2,i3,i4,i5,i6,i7,hlq15,hbgX,hth2,hst,hcj,Int.toNat_natCast,Nat.mul_one,k1_14,k2_14,k3_14,hrc1_0,hrc1_2,hrc1_3,hrc1_29,hri])
          refine ⟨⟨(by simp (maxSteps:=1000000)(disch:=(first|omega|(simp only [qI,qJ,qK]<;>omega)|exact qL _)) only [go_sem,↓reduceIte,n0,reduceCtorEq,n1,n2,n3,n4,n5,i0,i1,i2,i3,i4,i5,i6,i7,Holds_nil,Holds_cons,hrc1_0,hrc1_2,hrc1_3,hrc1_29,hri]),j + 1,(by simp (maxSteps:=1000000)(disch:=(first|omega|(simp only [qI,qJ,qK]<;>omega)|exact qL _)) only [go_sem,↓reduceIte,n0,reduceCtorEq,n1,n2,n3,n4,n5,i0,i1,i2,i3,i4,i5,i6,i7,hrc1_0,hrc1_2,hrc1_3,hrc1_29,hri];all_goals rfl),.slice (some ⟨g,0,none⟩) (j + 1) cap,by omega,?_,?_,?_⟩,?_⟩
          · rw [blk_wr_ne (by omega),blk_wr_eq,hlq15];rfl
          · rw [hcat,List.map_append,wr_comm (Ne.symm hgne)]
            exact hg2.upd ((Upd.refl _ _).wr _ _ (.inr rfl)) (fun h => hgne (ownB_row h).symm)
          · rw [wr_comm (Ne.symm hgne)]
            refine Upd.wr ?_ _ _ (.inr rfl)
            exact (hUk.more ((hEw15.mono fun _ h => h.elim).trans hu2) fun b hb h => absurd h (hnb b (.inl hb)))
          · try simp (maxSteps:=1000000)(disch:=(first|omega|(simp only [qI,qJ,qK]<;>omega)|exact qL _)) only [go_sem,↓reduceIte,n0,reduceCtorEq,n1,n2,n3,n4,n5,i0,i1,i2,i3,i4,i5,i6,i7,hrc1_0,hrc1_2,hrc1_3,hrc1_29,hri]
            simp only [RowKit.intOf];omega
    · have hjn : j = L1.length := by omega
      subst hjn
      rw [List.take_length] at hg
      repeat ((first | refine qA rfl ?_|refine qB ?_|refine qC rfl ?_|refine qD ?_|refine qE ?_|refine qF ?_|refine qG ?_|refine qH ?_);try simp (maxSteps:=1000000)(disch:=(first|omega|(simp only [qI,qJ,qK]<;>omega)|exact qL _)) only [go_sem,↓reduceIte,n0,reduceCtorEq,n1,n2,n3,n4,n5,i0,i1,i2,i3,i4,i5,i6,i7,hrc1_0,hrc1_2,hrc1_3,hrc1_29,hri])
      exact ⟨(by simp (maxSteps:=1000000)(disch:=(first|omega|(simp only [qI,qJ,qK]<;>omega)|exact qL _)) only [go_sem,↓reduceIte,n0,reduceCtorEq,n1,n2,n3,n4,n5,i0,i1,i2,i3,i4,i5,i6,i7,Holds_nil,Holds_cons,hrc1_0,hrc1_2,hrc1_3,hrc1_29,hri]),v,hl4,hg,hUk⟩
  rintro ρ w16 ⟨⟨hrd1_0,hrd1_2,hrd1_3,hrd1_29,-⟩,v,hl16,hg16,hUz16⟩
  have hV16 : Upd (fun b => b = w.heap.size + 1 ∨ b = w.heap.size + 2) w3 w16 := hUz16.mono fun _ h => .inl h
  have hU16 : Upd (fun b => b = w.heap.size + 1 ∨ b = w.heap.size + 2) w1 w16 := hU3.trans hV16
  have hz16 := hU16.size
  have hX16 : Ext w w16 := hE1.more hU16 fun b hb h => by omega
  have hb16 := hX16.blk_some hb id
  have ht16 := hUz16.blk_some ht3 (by omega)
  obtain ⟨av1,kv1,hvs,_⟩ := hg16.shape
  subst hvs
  have hf1 : TreeC (fun b => w1.heap.size ≤ b) w16 (.mk 0 [] (t.at 1).null (L1.map (tl1 (tlP (d + 2)) fDescribeDelegationTokenResponse_1.of fDescribeDelegationTokenResponse_1.sub)) []) [.int .i64 0,.slice none 0 0,.bool (t.at 1).null,.slice av1 (List.map (tl1 (tlP (d + 2)) fDescribeDelegationTokenResponse_1.of fDescribeDelegationTokenResponse_1.sub) L1).length kv1,.slice none 0 0] := TreeC.intro rfl (BytesV.nil _ _) (hg16.trees (fun _ _ h => h) (fun b hb => by have := hz3;omega)) (tagsN _ _)
  repeat ((first | refine qA rfl ?_|refine qB ?_|refine qC rfl ?_|refine qD ?_|refine qE ?_|refine qF ?_|refine qG ?_|refine qH ?_);try simp (maxSteps:=1000000)(disch:=(first|omega|(simp only [qI,qJ,qK]<;>omega)|exact qL _)) only [go_sem,↓reduceIte,n0,reduceCtorEq,n1,n2,n3,n4,n5,i0,i1,i2,i3,i4,i5,i6,i7,hb16,hl16,ht16,hq0,hq1,hq2,hq3,hrd1_0,hrd1_2,hrd1_3])
  refine W.drawR (.take 0 (.take 1 (.take 2 (.take 3 (.take 4 (.take 5 (.take 6 (.only 7 (.take 8 (.last 9)))))))))) (NoB) mixed (by kernel_rfl) ?_
  try simp (maxSteps:=1000000)(disch:=(first|omega|(simp only [qI,qJ,qK]<;>omega)|exact qL _)) only [go_sem,↓reduceIte,n0,reduceCtorEq,n1,n2,n3,n4,n5,i0,i1,i2,i3,i4,i5,i6,i7,hb16,hl16,ht16,hq0,hq1,hq2,hq3,hrd1_0,hrd1_2,hrd1_3,tl32]
  refine ⟨Upd.refl _ _,?_⟩
  have hlq17 : blk w16.drew (w.heap.size + 1) = _ := hl16
  have hx17 : Upd (fun b => b = w.heap.size + 1 ∨ b = w.heap.size + 2) w16 w16.drew := (Upd.refl _ _).drew
  generalize hw17 : wr w16.drew (w.heap.size + 1) 10 [.int .i64 (IntKind.i32.wrap (t.at 2).n),.slice none 0 0,.bool false,.slice none 0 0,.slice none 0 0] = w17
  have hl17 : blk w17 (w.heap.size + 1) = some (#[.int .i64 (IntKind.i16.wrap (t.at 0).n),.slice none 0 0,.bool false,.slice none 0 0,.slice none 0 0,.int .i64 0,.slice none 0 0,.bool (t.at 1).null,.slice av1 (List.map (tl1 (tlP (d + 2)) fDescribeDelegationTokenResponse_1.of fDescribeDelegationTokenResponse_1.sub) L1).length kv1,.slice none 0 0,.int .i64 (IntKind.i32.wrap (t.at 2).n),.slice none 0 0,.bool false,.slice none 0 0,.slice none 0 0],26,(0,0)) := by rw [← hw17,blk_wr_eq,hlq17];rfl
  have hv17 : Upd (fun b => b = w.heap.size + 1 ∨ b = w.heap.size + 2) w16.drew w17 := by rw [← hw17];exact (Upd.refl _ _).wr _ _ (.inr (.inl rfl))
  have hV17 : Upd (fun b => b = w.heap.size + 1 ∨ b = w.heap.size + 2) w16 w17 := hx17.trans hv17
  have hU17 : Upd (fun b => b = w.heap.size + 1 ∨ b = w.heap.size + 2) w1 w17 := hU16.trans hV17
  have hz17 := hU17.size
  have hX17 : Ext w w17 := hE1.more hU17 fun b hb h => by omega
  have hb17 := hX17.blk_some hb id
  have ht17 : blk w17 (w.heap.size + 2) = some (#[.int .i64 0,.slice none 0 0,.bool false,.slice (some ⟨w.heap.size + 1,0,none⟩) 3 3,.slice none 0 0],26,(0,0)) := by
    rw [← hw17,blk_wr_ne (by omega)]
    exact ht16
  clear hw17
  have hf2 : TreeC (fun b => w1.heap.size ≤ b) w17 (.num (IntKind.i32.wrap (t.at 2).n)) [.int .i64 (IntKind.i32.wrap (t.at 2).n),.slice none 0 0,.bool false,.slice none 0 0,.slice none 0 0] := (TreeC.keep (hv17.keeps fun b hb hk e => by have hk' : w1.heap.size ≤ b := hk;omega) (TreeC.intro (tl32 _) (BytesV.nil _ _) (treesN _ _) (tagsN _ _) : TreeC (fun b => w1.heap.size ≤ b) w16.drew (.num (IntKind.i32.wrap (t.at 2).n)) [.int .i64 (IntKind.i32.wrap (t.at 2).n),.slice none 0 0,.bool false,.slice none 0 0,.slice none 0 0]))
  repeat ((first | refine qA rfl ?_|refine qB ?_|refine qC rfl ?_|refine qD ?_|refine qE ?_|refine qF ?_|refine qG ?_|refine qH ?_);try simp (maxSteps:=1000000)(disch:=(first|omega|(simp only [qI,qJ,qK]<;>omega)|exact qL _)) only [go_sem,↓reduceIte,n0,reduceCtorEq,n1,n2,n3,n4,n5,i0,i1,i2,i3,i4,i5,i6,i7,hb17,hl17,ht17,hq0,hq1,hq2,hq3,hrd1_0,hrd1_2,hrd1_3])
  refine (EachG_fn (ok := fun b => b < w.heap.size) 191 ca_191 #[.pointer (some ⟨w.heap.size + 2,0,none⟩)] w17 (tb := b) (to := 4) hb17 hq3 ((hT.weaken fun b hb _ => hb).keep (hX17.keeps _)) (sortT_perm _) (sortT_lt hgu.2.1) (by rw [(sortT_perm t.u).length_eq];exact hgu.1)
    (fun b => b = w.heap.size + 2) (by omega) (fun b hb hk e => by have hk' : b < w.heap.size := hk;omega) (fun b hb => by have := blk_lt ht17;omega)
    (fun wl done w' => ∃ v,blk w' (w.heap.size + 2) = some (#[.int .i64 0,.slice none 0 0,.bool false,.slice (some ⟨w.heap.size + 1,0,none⟩) 3 3,v],26,(0,0)) ∧ GrowU (fun b => w1.heap.size ≤ b) wl.heap.size (w.heap.size + 2) w' 65 v done) (fun wl hE => ⟨_,hE.blk_some ht17 id,GrowU.nil _ _ _ _ _⟩) ?_).mono ?_
  · rintro wl hE done y vv wc hpre ⟨v,hbv,hg⟩ hU hvv hy
    have hz' := hE.size
    have hzu := hU.size
    have htl := blk_lt ht17
    have hpl := hpre.length_le
    simp only [List.length_append,List.length_cons,List.length_nil] at hpl
    rw [(sortT_perm t.u).length_eq] at hpl
    have hlu := hgu.1
    have hmy : y ∈ t.u := (sortT_perm t.u).mem_iff.1 (hpre.subset (by simp))
    refine (tagclDescribeDelegationTokenResponse_fn (ok := fun b => b < w.heap.size) _ _ _ _ v done y vv wc hbv hg hzu (by omega) (hvv.keep ((hE.mono (fun _ h => h.elim) |>.trans hU : Upd (fun b => b = w.heap.size + 2) w17 wc).keeps fun b _ hk e => by have hk' : b < w.heap.size := hk;omega)) hy (hgu.2.2 y hmy) (by omega) (fun b hb => by have := hz17;omega)).mono ?_
    rintro _ w2' ⟨⟨v',h1,h2⟩,h3⟩
    exact ⟨⟨v',h1,h2⟩,hU.trans' h3 fun b hb h => h.elim id fun h => by omega⟩
  rintro _ w18 ⟨wl,hEl,⟨v,ht18,hgU⟩,hUe⟩
  have hzl := hEl.size
  obtain ⟨aU,kU,hvs,_⟩ := hgU.shape
  subst hvs
  have hV18 : Upd (fun b => b = w.heap.size + 1 ∨ b = w.heap.size + 2) w17 w18 := (hEl.mono fun _ h => h.elim).trans (hUe.mono fun _ h => .inr h)
  have hU18 : Upd (fun b => b = w.heap.size + 1 ∨ b = w.heap.size + 2) w1 w18 := hU17.trans hV18
  have hz18 := hU18.size
  have hX18 : Ext w w18 := hE1.more hU18 fun b hb h => by omega
  have hb18 := hX18.blk_some hb id
  have hl18 := (((hEl.mono fun _ h => h.elim).trans hUe : Upd (fun b => b = w.heap.size + 2) w17 w18)).blk_some hl17 (by omega)
  have hTU := hgU.tags (ok' := (fun b => w1.heap.size ≤ b)) (fun _ _ h => h) (fun b hb => by have := hz17;omega)
  repeat ((first | refine qA rfl ?_|refine qB ?_|refine qC rfl ?_|refine qD ?_|refine qE ?_|refine qF ?_|refine qG ?_|refine qH ?_);try simp (maxSteps:=1000000)(disch:=(first|omega|(simp only [qI,qJ,qK]<;>omega)|exact qL _)) only [go_sem,↓reduceIte,n0,reduceCtorEq,n1,n2,n3,n4,n5,i0,i1,i2,i3,i4,i5,i6,i7,hb18,hl18,ht18,hq0,hq1,hq2,hq3,hrd1_0,hrd1_2,hrd1_3,cellsAt_five])
  refine (sorted_fn _ _ w18 hTU (sortT_lt hgu.2.1) (by rw [(sortT_perm t.u).length_eq];exact hgu.1)).mono ?_
  rintro _ w19 hEs
  have hV19 : Upd (fun b => b = w.heap.size + 1 ∨ b = w.heap.size + 2) w18 w19 := hEs.mono fun _ h => h.elim
  have hU19 : Upd (fun b => b = w.heap.size + 1 ∨ b = w.heap.size + 2) w1 w19 := hU18.trans hV19
  have hz19 := hU19.size
  have hX19 : Ext w w19 := hE1.more hU19 fun b hb h => by omega
  have hb19 := hX19.blk_some hb id
  have hl19 := hEs.blk_some hl18 id
  have ht19 := hEs.blk_some ht18 id
  have hr19 := (hU19.blk_some hr1 (by omega))
  have hC_19 : Upd (fun b => b = w.heap.size + 1 ∨ b = w.heap.size + 2) w19 w19 := Upd.refl _ _
  have hC_18 : Upd (fun b => b = w.heap.size + 1 ∨ b = w.heap.size + 2) w18 w19 := hV19.trans hC_19
  have hC_17 : Upd (fun b => b = w.heap.size + 1 ∨ b = w.heap.size + 2) w17 w19 := hV18.trans hC_18
  have hC_16 : Upd (fun b => b = w.heap.size + 1 ∨ b = w.heap.size + 2) w16 w19 := hV17.trans hC_17
  have hC_3 : Upd (fun b => b = w.heap.size + 1 ∨ b = w.heap.size + 2) w3 w19 := hV16.trans hC_16
  have hC_2 : Upd (fun b => b = w.heap.size + 1 ∨ b = w.heap.size + 2) w2 w19 := hV3.trans hC_3
  have hC_1 : Upd (fun b => b = w.heap.size + 1 ∨ b = w.heap.size + 2) w1 w19 := hV2.trans hC_2
  have hF0 := TreeC.keep (hC_2.keeps fun b hb hk e => by have hk' : w1.heap.size ≤ b := hk;omega) hf0
  have hF1 := TreeC.keep (hC_16.keeps fun b hb hk e => by have hk' : w1.heap.size ≤ b := hk;omega) hf1
  have hF2 := TreeC.keep (hC_17.keeps fun b hb hk e => by have hk' : w1.heap.size ≤ b := hk;omega) hf2
  replace hF0 : TreeC (fun b => w1.heap.size ≤ b) w19 (tlF (tlP (d + 2)) fDescribeDelegationTokenResponse_0 (t.at 0)) [.int .i64 (IntKind.i16.wrap (t.at 0).n),.slice none 0 0,.bool false,.slice none 0 0,.slice none 0 0] := hF0
  replace hF1 : TreeC (fun b => w1.heap.size ≤ b) w19 (tlF (tlP (d + 2)) fDescribeDelegationTokenResponse_1 (t.at 1)) [.int .i64 0,.slice none 0 0,.bool (t.at 1).null,.slice av1 (List.map (tl1 (tlP (d + 2)) fDescribeDelegationTokenResponse_1.of fDescribeDelegationTokenResponse_1.sub) L1).length kv1,.slice none 0 0] := by rw [show tlF (tlP (d + 2)) fDescribeDelegationTokenResponse_1 (t.at 1) = .mk 0 [] (t.at 1).null ((if (t.at 1).null = true then [] else (t.at 1).l).map (tl1 (tlP (d + 2)) fDescribeDelegationTokenResponse_1.of fDescribeDelegationTokenResponse_1.sub)) [] from rfl,← hL1];exact hF1
  replace hF2 : TreeC (fun b => w1.heap.size ≤ b) w19 (tlF (tlP (d + 2)) fDescribeDelegationTokenResponse_2 (t.at 2)) [.int .i64 (IntKind.i32.wrap (t.at 2).n),.slice none 0 0,.bool false,.slice none 0 0,.slice none 0 0] := hF2
  have hTL : TreesV (fun b => (fun b => w1.heap.size ≤ b) b ∨ b = w.heap.size + 1) w19 (.slice (some ⟨w.heap.size + 1,0,none⟩) 3 3) [tlF (tlP (d + 2)) fDescribeDelegationTokenResponse_0 (t.at 0),tlF (tlP (d + 2)) fDescribeDelegationTokenResponse_1 (t.at 1),tlF (tlP (d + 2)) fDescribeDelegationTokenResponse_2 (t.at 2)] := by
    refine ⟨[[.int .i64 (IntKind.i16.wrap (t.at 0).n),.slice none 0 0,.bool false,.slice none 0 0,.slice none 0 0],[.int .i64 0,.slice none 0 0,.bool (t.at 1).null,.slice av1 (List.map (tl1 (tlP (d + 2)) fDescribeDelegationTokenResponse_1.of fDescribeDelegationTokenResponse_1.sub) L1).length kv1,.slice none 0 0],[.int .i64 (IntKind.i32.wrap (t.at 2).n),.slice none 0 0,.bool false,.slice none 0 0,.slice none 0 0]],⟨_,3,rfl,Nat.le_refl _,(by intro cs hm;simp only [List.mem_cons,List.not_mem_nil,or_false] at hm;rcases hm with rfl | rfl | rfl <;> rfl),.inr ⟨_,rfl,rfl,.inr rfl,_,hl19,fun i hi => by rw [Nat.zero_add,List.getElem?_toArray];rfl⟩⟩,rfl,fun i h1 h2 => ?_⟩
    match i,h1 with
    | 0,_ => exact TreeC.weaken (fun b _ hk => .inl hk) hF0
    | 1,_ => exact TreeC.weaken (fun b _ hk => .inl hk) hF1
    | 2,_ => exact TreeC.weaken (fun b _ hk => .inl hk) hF2
  repeat ((first | refine qA rfl ?_|refine qB ?_|refine qC rfl ?_|refine qD ?_|refine qE ?_|refine qF ?_|refine qG ?_|refine qH ?_);try simp (maxSteps:=1000000)(disch:=(first|omega|(simp only [qI,qJ,qK]<;>omega)|exact qL _)) only [go_sem,↓reduceIte,n0,reduceCtorEq,n1,n2,n3,n4,n5,i0,i1,i2,i3,i4,i5,i6,i7,hb19,hl19,ht19,hq0,hq1,hq2,hq3,hrd1_0,hrd1_2,hrd1_3,hr19,cellsAt_five])
  refine ⟨⟨_,rfl,?_⟩,hX19.wr _ _ (.inl (Nat.le_refl _))⟩
  have hUr : Upd (fun b => b = w.heap.size) w19 (wr w19 w.heap.size 0 [.int .i64 0,.slice none 0 0,.bool false,.slice (some ⟨w.heap.size + 1,0,none⟩) 3 3,.slice aU (sortT t.u).length kU]) := (Upd.refl _ _).wr _ _ (.inr rfl)
  have hTU2 := hTU.keep (hEs.keeps _)
  exact TreeC.intro rfl (BytesV.nil _ _) ((hTL.keep (hUr.keeps fun b _ hk e => by rcases hk with hk | hk <;> omega)).weaken fun b _ hk => by rcases hk with hk | hk <;> omega) ((hTU2.keep (hUr.keeps fun b _ hk e => by omega)).weaken fun b _ hk => by omega)
end Ms

