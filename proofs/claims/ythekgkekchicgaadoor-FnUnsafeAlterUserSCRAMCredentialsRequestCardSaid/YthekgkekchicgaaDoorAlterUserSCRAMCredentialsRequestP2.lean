/- A part of the proof: see the last text. -/
import Derived.Test.YthekgkekchicgaaDoorC07
import Derived.Test.YthekgkekchicgaaDoorAlterUserSCRAMCredentialsRequestP0
set_option linter.unusedSimpArgs false
set_option linter.unusedVariables false
namespace Ms
open Go.World renaming size_alloc → qI
open Ms renaming size_wr → qJ,size_drew → qK,not_noB → qL
open W renaming seqR → qA,seq → qB,regR → qC,condK → qD,block → qE,skip → qF,ret → qG,exit → qH
open Nat renaming reduceEqDiff → n0,reduceAdd → n1,reduceMul → n2,reduceSub → n3,reduceLT → n4,reduceLeDiff → n5
open Int renaming reduceEq → i0,reduceLT → i1,reduceLE → i2,reduceNeg → i3,reduceAdd → i4,reduceSub → i5,reduceMul → i6,reduceToNat → i7
set_option maxRecDepth 8000
open Go Go.Proofs Go.Shelf
attribute [local congr] W_congr WPsq_congr WPp_congr optK_congr addrK_congr intK_congr boolK_congr sliceK_congr tupleK_congr funcK_congr Fn_congr rawK_congr takeK_congr stepK_congr convK_congr aggK_congr

theorem tagclX1_fn {ok OK : Blocks} {B tb : Nat} (c0 c1 c2 c3 v : Value) (done : List TagD) (y : TagD) (vv : Value) (w : World) (hbt : blk w tb = some (#[c0,c1,c2,c3,v],26,(0,0))) (hg : GrowU OK B tb w 65 v done) (hB : B ≤ w.heap.size) (htb : tb < B) (hvv : BytesV ok w vv y.2) (hy : y.1 < 2 ^ 32) (hyl : y.2.length ≤ 32767) (hdl : done.length ≤ 32767) (hOK : ∀ b,B ≤ b → OK b) :
    Fn Tryd.prog 251 #[.int .u32 y.1,vv,.pointer (some ⟨tb,0,none⟩)] w fun _ w' => (∃ v',blk w' tb = some (#[c0,c1,c2,c3,v'],26,(0,0)) ∧ GrowU OK B tb w' 65 v' (done ++ [y])) ∧ Upd (fun b => b = tb ∨ B ≤ b) w w' := by
  have htl := blk_lt hbt
  refine fn_of_W Tryd.func251 rfl Tryd.results251 Tryd.ntmps251 rfl ?_
  repeat ((first | refine qA rfl ?_|refine qB ?_|refine qC rfl ?_|refine qD ?_|refine qE ?_|refine qF ?_|refine qG ?_|refine qH ?_);try simp (maxSteps:=1000000)(disch:=(first|omega|(simp only [qI,qJ,qK]<;>omega)|exact qL _)) only [go_sem,↓reduceIte,n0,reduceCtorEq,n1,n2,n3,n4,n5,i0,i1,i2,i3,i4,i5,i6,i7])
  obtain ⟨av,kv,rfl,_⟩ := hg.shape
  have hnb : ∀ b,b < B ∨ w.heap.size ≤ b → ¬ ownB (.slice av done.length kv) b := fun b hb h => by
    have := hg.above h
    have := hg.below h
    omega
  refine W.drawR (.take 0 (.take 1 (.take 2 (.take 3 (.only 4 (.only 5 (.only 6 (.only 7 (.take 8 (.last 9)))))))))) (ownB (.slice av done.length kv)) mixed (by kernel_rfl) ?_
  simp (maxSteps:=1000000)(disch:=(first|omega|(simp only [qI,qJ,qK]<;>omega)|exact qL _ | (refine hnb _ ?_;first | omega | (simp only [World.size_alloc,size_wr,size_drew] <;> omega)))) only [go_sem,↓reduceIte,n0,reduceCtorEq,n1,n2,n3,n4,n5,i0,i1,i2,i3,i4,i5,i6,i7,hbt]
  refine wp_copyN ap_22_22 (ok := ok) (s := y.2) (v := vv) (by first | rfl | simp (maxSteps:=1000000)(disch:=(first|omega|(simp only [qI,qJ,qK]<;>omega)|exact qL _)) only [go_sem,↓reduceIte,n0,reduceCtorEq,n1,n2,n3,n4,n5,i0,i1,i2,i3,i4,i5,i6,i7]) (by first | rfl | simp (maxSteps:=1000000)(disch:=(first|omega|(simp only [qI,qJ,qK]<;>omega)|exact qL _)) only [go_sem,↓reduceIte,n0,reduceCtorEq,n1,n2,n3,n4,n5,i0,i1,i2,i3,i4,i5,i6,i7]) (hvv.keep (Ext.keeps ((Upd.refl _ _).drew) _)) (by omega) ?_
  intro v1 w1 ho1 hE1 hf1
  obtain ⟨a1,k1,rfl,_⟩ := ho1.shape
  have hB1 := Own.bytes (ok := fun b => w.heap.size ≤ b) ho1 fun b hb => hf1 b hb
  have hP1 : Upd (ownB (.slice av done.length kv)) w.drew w1 := hE1.mono fun _ h => h.elim
  have hs1 := hE1.size
  simp only [size_drew] at hs1
  refine ⟨hP1,?_⟩
  simp (maxSteps:=1000000)(disch:=(first|omega|(simp only [qI,qJ,qK]<;>omega)|exact qL _ | (refine hnb _ ?_;first | omega | (simp only [World.size_alloc,size_wr,size_drew] <;> omega)))) only [go_sem,↓reduceIte,n0,reduceCtorEq,n1,n2,n3,n4,n5,i0,i1,i2,i3,i4,i5,i6,i7,hbt]
  refine ⟨hP1,?_⟩
  have hP2 : Upd (ownB (.slice av done.length kv)) w.drew (w1.alloc (.cells #[.int .u32 y.1,.slice a1 y.2.length k1] 65)) := hP1.alloc _
  have hn2 : blk (w1.alloc (.cells #[.int .u32 y.1,.slice a1 y.2.length k1] 65)) w1.heap.size = some (#[.int .u32 y.1,.slice a1 y.2.length k1],65,(0,0)) := blk_alloc_new rfl
  have hs2 : (w1.alloc (.cells #[.int .u32 y.1,.slice a1 y.2.length k1] 65)).heap.size = w1.heap.size + 1 := World.size_alloc _ _
  have hE2 : Ext w1 (w1.alloc (.cells #[.int .u32 y.1,.slice a1 y.2.length k1] 65)) := Upd.alloc (Upd.refl _ _) _
  refine ⟨hP2,?_⟩
  try simp only [List.append_nil]
  generalize (w1.alloc (.cells #[.int .u32 y.1,.slice a1 y.2.length k1] 65)) = w2 at *
  have hEw : Ext w w2 := (((Upd.refl _ _).drew).trans hE1).trans hE2
  obtain ⟨css,hown,hall⟩ := (hg.ext hEw).ex
  have hcl := hall.1
  have hx2 : TagC (fun b => OK b ∧ b ≠ tb ∧ ¬ ownB (.slice av done.length kv) b) w2 y [.int .u32 y.1,.slice a1 y.2.length k1] := ⟨_,rfl,(hB1.keep (hE2.keeps _)).weaken fun b _ hk => ⟨hOK b (by omega),by omega,hnb b (.inr hk)⟩,hy⟩
  refine wp_append ap_24_24 (m := 1) (news := [.int .u32 y.1,.slice a1 y.2.length k1]) (n := css.length) (cs := css.flatten) (v := .slice av done.length kv) ?_ rfl hown.1 hall.flat_cells (Src.blk (fr := (0,0)) (T := 65) hn2 rfl rfl) ?_ ?_ ?_
  · first | rfl | simp (maxSteps:=1000000)(disch:=(first|omega|(simp only [qI,qJ,qK]<;>omega)|exact qL _)) only [go_sem,↓reduceIte,n0,reduceCtorEq,n1,n2,n3,n4,n5,i0,i1,i2,i3,i4,i5,i6,i7]
  · omega
  · omega
  intro v' w3 ho hu hfr
  have hg3 := GrowU.snoc hown hall hx2 hu hfr ho
  obtain ⟨va,vc,hv',_⟩ := ho.shape
  subst hv'
  have hP3 := hP2.trans hu
  have hs3 := hu.size
  have hbt3 := hP3.blk_some (show blk w.drew tb = _ from hbt) (hnb _ (.inl htb))
  have hne : ¬ ownB (.slice va (css.length + 1) vc) tb := fun h => (hfr _ h).elim (hnb _ (.inl htb)) (fun h => by omega)
  refine ⟨hP3,?_⟩
  simp (maxSteps:=1000000)(disch:=(first|omega|(simp only [qI,qJ,qK]<;>omega)|exact qL _ | (refine hnb _ ?_;first | omega | (simp only [World.size_alloc,size_wr,size_drew] <;> omega)))) only [go_sem,↓reduceIte,n0,reduceCtorEq,n1,n2,n3,n4,n5,i0,i1,i2,i3,i4,i5,i6,i7,hbt3]
  repeat ((first | refine qA rfl ?_|refine qB ?_|refine qC rfl ?_|refine qD ?_|refine qE ?_|refine qF ?_|refine qG ?_|refine qH ?_);try simp (maxSteps:=1000000)(disch:=(first|omega|(simp only [qI,qJ,qK]<;>omega)|exact qL _)) only [go_sem,↓reduceIte,n0,reduceCtorEq,n1,n2,n3,n4,n5,i0,i1,i2,i3,i4,i5,i6,i7])
  refine ⟨⟨.slice va (css.length + 1) vc,by first | (rw [blk_wr_eq,hbt3];rfl) | rfl | (rw [hbt3];rfl) | (rw [blk_wr_eq,hbt3]),hg3.upd ((Upd.refl _ _).wr _ _ (.inr rfl)) hne⟩,?_⟩
  refine Upd.wr ?_ _ _ (.inr (.inl rfl))
  exact (((Upd.refl (fun b => b = tb ∨ B ≤ b) w).drew).trans (hP3.mono fun b h => .inr (hg.above h)))

set_option maxHeartbeats 4000000 in
theorem tellX1_fn {d : Nat} {ok : Blocks} (t : Tree) (cs : List Value) (w : World) {b o : Nat} {x : Blk} (hb : blk w b = some x) (hq : ∀ k,k < 3 → x.1[o + k]? = cs[k]?) (hR : RepS true (d + 1) fs_X1 ok w t cs) (hg : GoodP (d + 1) fs_X1 t) :
    Fn Tryd.prog 167 #[.pointer (some ⟨b,o,none⟩)] w fun r w' => (∃ c,r = .agg c.toArray ∧ TreeC (fun b => w.heap.size ≤ b) w' (tlP (d + 1) fs_X1 t) c) ∧ Ext w w' := by
  have hbl := blk_lt hb
  obtain ⟨⟨gd0,gd1,-⟩,hgu⟩ := hg
  replace gd0 : GoodF (GoodP d) fX1_0 (t.at 0) := gd0
  replace gd1 : GoodF (GoodP d) fX1_1 (t.at 1) := gd1
  obtain ⟨cs0,q,hcs,hL,hT⟩ := hR.inv
  obtain ⟨c0,e0,rfl,h0,c1,e1,rfl,h1,rfl⟩ := hL
  replace h0 : RepF (RepS true d) (szS true d) fX1_0 ok w (t.at 0) c0 := h0
  replace h1 : RepF (RepS true d) (szS true d) fX1_1 ok w (t.at 1) c1 := h1
  obtain rfl := (RepF_text rfl (by decide)).1 h0
  obtain rfl := (RepF_num (by decide)).1 h1
  obtain ⟨qm,rfl⟩ := hT.shape
  subst hcs
  have hq0 : x.1[o]? = some (strV (t.at 0).s) := hq 0 (by decide)
  have hq1 : x.1[o + 1]? = some (.int .i8 (IntKind.i8.wrap (t.at 1).n)) := hq 1 (by decide)
  have hq2 : x.1[o + 2]? = some (.map qm) := hq 2 (by decide)
  refine fn_of_W Tryd.func167 rfl Tryd.results167 Tryd.ntmps167 rfl ?_
  repeat ((first | refine qA rfl ?_|refine qB ?_|refine qC rfl ?_|refine qD ?_|refine qE ?_|refine qF ?_|refine qG ?_|refine qH ?_);try simp (maxSteps:=1000000)(disch:=(first|omega|(simp only [qI,qJ,qK]<;>omega)|exact qL _)) only [go_sem,↓reduceIte,n0,reduceCtorEq,n1,n2,n3,n4,n5,i0,i1,i2,i3,i4,i5,i6,i7])
  refine wp_make (T := 23) (E := 26) (size := 5) (bytes := 88) (z := .agg #[.int .i64 0,.slice none 0 0,.bool false,.slice none 0 0,.slice none 0 0]) (l := 2) (c := 2) (kl := .i64) (kc := .i64) (by kernel_rfl) (by kernel_rfl) (by first | rfl | (simp (maxSteps:=1000000)(disch:=(first|omega|(simp only [qI,qJ,qK]<;>omega)|exact qL _)) only [go_sem,↓reduceIte,n0,reduceCtorEq,n1,n2,n3,n4,n5,i0,i1,i2,i3,i4,i5,i6,i7];rfl)) (by first | rfl | (simp (maxSteps:=1000000)(disch:=(first|omega|(simp only [qI,qJ,qK]<;>omega)|exact qL _)) only [go_sem,↓reduceIte,n0,reduceCtorEq,n1,n2,n3,n4,n5,i0,i1,i2,i3,i4,i5,i6,i7];rfl)) (by omega) (by omega) (by omega) ?_
  have hmd : madeCells (Value.agg #[.int .i64 0,.slice none 0 0,.bool false,.slice none 0 0,.slice none 0 0]).cells (2 * 5) = #[.int .i64 0,.slice none 0 0,.bool false,.slice none 0 0,.slice none 0 0,.int .i64 0,.slice none 0 0,.bool false,.slice none 0 0,.slice none 0 0] := by kernel_rfl
  rw [hmd]
  simp (maxSteps:=1000000)(disch:=(first|omega|(simp only [qI,qJ,qK]<;>omega)|exact qL _)) only [go_sem,↓reduceIte,n0,reduceCtorEq,n1,n2,n3,n4,n5,i0,i1,i2,i3,i4,i5,i6,i7]
  repeat ((first | refine qA rfl ?_|refine qB ?_|refine qC rfl ?_|refine qD ?_|refine qE ?_|refine qF ?_|refine qG ?_|refine qH ?_);try simp (maxSteps:=1000000)(disch:=(first|omega|(simp only [qI,qJ,qK]<;>omega)|exact qL _)) only [go_sem,↓reduceIte,n0,reduceCtorEq,n1,n2,n3,n4,n5,i0,i1,i2,i3,i4,i5,i6,i7])
  have hE1 : Ext w (wr (((w.alloc (.cells #[.int .i64 0,.slice none 0 0,.bool false,.slice none 0 0,.slice none 0 0] 26)).alloc (.cells #[.int .i64 0,.slice none 0 0,.bool false,.slice none 0 0,.slice none 0 0,.int .i64 0,.slice none 0 0,.bool false,.slice none 0 0,.slice none 0 0] 26)).alloc (.cells #[.int .i64 0,.slice none 0 0,.bool false,.slice none 0 0,.slice none 0 0] 26)) (w.heap.size + 2) 0 [.int .i64 0,.slice none 0 0,.bool false,.slice (some ⟨w.heap.size + 1,0,none⟩) 2 2,.slice none 0 0]) := (Upd.alloc (Upd.alloc (Upd.alloc (Upd.refl _ _) _) _) _).wr _ _ (.inl (by omega))
  have hz1 : (wr (((w.alloc (.cells #[.int .i64 0,.slice none 0 0,.bool false,.slice none 0 0,.slice none 0 0] 26)).alloc (.cells #[.int .i64 0,.slice none 0 0,.bool false,.slice none 0 0,.slice none 0 0,.int .i64 0,.slice none 0 0,.bool false,.slice none 0 0,.slice none 0 0] 26)).alloc (.cells #[.int .i64 0,.slice none 0 0,.bool false,.slice none 0 0,.slice none 0 0] 26)) (w.heap.size + 2) 0 [.int .i64 0,.slice none 0 0,.bool false,.slice (some ⟨w.heap.size + 1,0,none⟩) 2 2,.slice none 0 0]).heap.size = w.heap.size + 3 := by simp only [size_wr,World.size_alloc]
  have hl1 : blk (wr (((w.alloc (.cells #[.int .i64 0,.slice none 0 0,.bool false,.slice none 0 0,.slice none 0 0] 26)).alloc (.cells #[.int .i64 0,.slice none 0 0,.bool false,.slice none 0 0,.slice none 0 0,.int .i64 0,.slice none 0 0,.bool false,.slice none 0 0,.slice none 0 0] 26)).alloc (.cells #[.int .i64 0,.slice none 0 0,.bool false,.slice none 0 0,.slice none 0 0] 26)) (w.heap.size + 2) 0 [.int .i64 0,.slice none 0 0,.bool false,.slice (some ⟨w.heap.size + 1,0,none⟩) 2 2,.slice none 0 0]) (w.heap.size + 1) = some (#[.int .i64 0,.slice none 0 0,.bool false,.slice none 0 0,.slice none 0 0,.int .i64 0,.slice none 0 0,.bool false,.slice none 0 0,.slice none 0 0],26,(0,0)) := by simp (maxSteps:=1000000)(disch:=(first|omega|(simp only [qI,qJ,qK]<;>omega)|exact qL _)) only [go_sem,↓reduceIte,n0,reduceCtorEq,n1,n2,n3,n4,n5,i0,i1,i2,i3,i4,i5,i6,i7]
  have ht1 : blk (wr (((w.alloc (.cells #[.int .i64 0,.slice none 0 0,.bool false,.slice none 0 0,.slice none 0 0] 26)).alloc (.cells #[.int .i64 0,.slice none 0 0,.bool false,.slice none 0 0,.slice none 0 0,.int .i64 0,.slice none 0 0,.bool false,.slice none 0 0,.slice none 0 0] 26)).alloc (.cells #[.int .i64 0,.slice none 0 0,.bool false,.slice none 0 0,.slice none 0 0] 26)) (w.heap.size + 2) 0 [.int .i64 0,.slice none 0 0,.bool false,.slice (some ⟨w.heap.size + 1,0,none⟩) 2 2,.slice none 0 0]) (w.heap.size + 2) = some (#[.int .i64 0,.slice none 0 0,.bool false,.slice (some ⟨w.heap.size + 1,0,none⟩) 2 2,.slice none 0 0],26,(0,0)) := by simp (maxSteps:=1000000)(disch:=(first|omega|(simp only [qI,qJ,qK]<;>omega)|exact qL _)) only [go_sem,↓reduceIte,n0,reduceCtorEq,n1,n2,n3,n4,n5,i0,i1,i2,i3,i4,i5,i6,i7]
  have hr1 : blk (wr (((w.alloc (.cells #[.int .i64 0,.slice none 0 0,.bool false,.slice none 0 0,.slice none 0 0] 26)).alloc (.cells #[.int .i64 0,.slice none 0 0,.bool false,.slice none 0 0,.slice none 0 0,.int .i64 0,.slice none 0 0,.bool false,.slice none 0 0,.slice none 0 0] 26)).alloc (.cells #[.int .i64 0,.slice none 0 0,.bool false,.slice none 0 0,.slice none 0 0] 26)) (w.heap.size + 2) 0 [.int .i64 0,.slice none 0 0,.bool false,.slice (some ⟨w.heap.size + 1,0,none⟩) 2 2,.slice none 0 0]) w.heap.size = some (#[.int .i64 0,.slice none 0 0,.bool false,.slice none 0 0,.slice none 0 0],26,(0,0)) := by simp (maxSteps:=1000000)(disch:=(first|omega|(simp only [qI,qJ,qK]<;>omega)|exact qL _)) only [go_sem,↓reduceIte,n0,reduceCtorEq,n1,n2,n3,n4,n5,i0,i1,i2,i3,i4,i5,i6,i7]
  generalize (wr (((w.alloc (.cells #[.int .i64 0,.slice none 0 0,.bool false,.slice none 0 0,.slice none 0 0] 26)).alloc (.cells #[.int .i64 0,.slice none 0 0,.bool false,.slice none 0 0,.slice none 0 0,.int .i64 0,.slice none 0 0,.bool false,.slice none 0 0,.slice none 0 0] 26)).alloc (.cells #[.int .i64 0,.slice none 0 0,.bool false,.slice none 0 0,.slice none 0 0] 26)) (w.heap.size + 2) 0 [.int .i64 0,.slice none 0 0,.bool false,.slice (some ⟨w.heap.size + 1,0,none⟩) 2 2,.slice none 0 0]) = w1 at *
  have hU1 : Upd (fun b => b = w.heap.size + 1 ∨ b = w.heap.size + 2) w1 w1 := Upd.refl _ _
  have hb1 := hE1.blk_some hb id
  repeat ((first | refine qA rfl ?_|refine qB ?_|refine qC rfl ?_|refine qD ?_|refine qE ?_|refine qF ?_|refine qG ?_|refine qH ?_);try simp (maxSteps:=1000000)(disch:=(first|omega|(simp only [qI,qJ,qK]<;>omega)|exact qL _)) only [go_sem,↓reduceIte,n0,reduceCtorEq,n1,n2,n3,n4,n5,i0,i1,i2,i3,i4,i5,i6,i7,hb1,hl1,ht1,hq0,hq1,hq2])
  refine W.drawR (.take 0 (.take 1 (.take 2 (.take 3 (.take 4 (.take 5 (.only 6 (.only 7 (.take 8 (.last 9)))))))))) (NoB) mixed (by kernel_rfl) ?_
  try simp (maxSteps:=1000000)(disch:=(first|omega|(simp only [qI,qJ,qK]<;>omega)|exact qL _)) only [go_sem,↓reduceIte,n0,reduceCtorEq,n1,n2,n3,n4,n5,i0,i1,i2,i3,i4,i5,i6,i7,hb1,hl1,ht1,hq0,hq1,hq2]
  refine wp_octets (S := 9) (T := 22) (E := 5) (s := (t.at 0).s) (by kernel_rfl) (by kernel_rfl) (by kernel_rfl) (by first | rfl | simp (maxSteps:=1000000)(disch:=(first|omega|(simp only [qI,qJ,qK]<;>omega)|exact qL _)) only [go_sem,↓reduceIte,n0,reduceCtorEq,n1,n2,n3,n4,n5,i0,i1,i2,i3,i4,i5,i6,i7,hb1,hl1,ht1,hq0,hq1,hq2]) ?_
  intro a2 k2 w2 hB2 hEx2
  have hP2 : Upd NoB w1.drew w2 := (Upd.refl _ _).trans (hEx2.mono fun _ h => h.elim)
  have hsq2 := hEx2.size
  try simp only [size_drew] at hsq2
  refine ⟨hP2,?_⟩
  try simp (maxSteps:=1000000)(disch:=(first|omega|(simp only [qI,qJ,qK]<;>omega)|exact qL _)) only [go_sem,↓reduceIte,n0,reduceCtorEq,n1,n2,n3,n4,n5,i0,i1,i2,i3,i4,i5,i6,i7,hb1,hl1,ht1,hq0,hq1,hq2]
  refine ⟨hP2,?_⟩
  have hlq3 := hP2.blk_some (show blk w1.drew (w.heap.size + 1) = _ from hl1) id
  have hx3 : Upd (fun b => b = w.heap.size + 1 ∨ b = w.heap.size + 2) w1 w2 := ((Upd.refl _ _).drew).trans (hP2.mono fun _ h => h.elim)
  try simp (maxSteps:=1000000)(disch:=(first|omega|(simp only [qI,qJ,qK]<;>omega)|exact qL _)) only [go_sem,↓reduceIte,n0,reduceCtorEq,n1,n2,n3,n4,n5,i0,i1,i2,i3,i4,i5,i6,i7,hlq3]
  generalize hw3 : wr w2 (w.heap.size + 1) 0 [.int .i64 0,.slice (some a2) ((t.at 0).s).length k2,.bool false,.slice none 0 0,.slice none 0 0] = w3
  have hl3 : blk w3 (w.heap.size + 1) = some (#[.int .i64 0,.slice (some a2) ((t.at 0).s).length k2,.bool false,.slice none 0 0,.slice none 0 0,.int .i64 0,.slice none 0 0,.bool false,.slice none 0 0,.slice none 0 0],26,(0,0)) := by rw [← hw3,blk_wr_eq,hlq3];rfl
  have hv3 : Upd (fun b => b = w.heap.size + 1 ∨ b = w.heap.size + 2) w2 w3 := by rw [← hw3];exact (Upd.refl _ _).wr _ _ (.inr (.inl rfl))
  have hV3 : Upd (fun b => b = w.heap.size + 1 ∨ b = w.heap.size + 2) w1 w3 := hx3.trans hv3
  have hU3 : Upd (fun b => b = w.heap.size + 1 ∨ b = w.heap.size + 2) w1 w3 := hU1.trans hV3
  have hz3 := hU3.size
  have hX3 : Ext w w3 := hE1.more hU3 fun b hb h => by omega
  have hb3 := hX3.blk_some hb id
  have ht3 : blk w3 (w.heap.size + 2) = some (#[.int .i64 0,.slice none 0 0,.bool false,.slice (some ⟨w.heap.size + 1,0,none⟩) 2 2,.slice none 0 0],26,(0,0)) := by
    rw [← hw3,blk_wr_ne (by omega)]
    exact hP2.blk_some (show blk w1.drew (w.heap.size + 2) = _ from ht1) id
  clear hw3
  have hf0 : TreeC (fun b => w1.heap.size ≤ b) w3 (.oct false (t.at 0).s) [.int .i64 0,.slice (some a2) ((t.at 0).s).length k2,.bool false,.slice none 0 0,.slice none 0 0] := (TreeC.keep (hv3.keeps fun b hb hk e => by have hk' : w1.heap.size ≤ b := hk;omega) (TreeC.intro rfl (hB2.weaken fun b _ hk => by have hk' : w1.drew.heap.size ≤ b := hk;(try simp only [size_drew] at hk');omega) (treesN _ _) (tagsN _ _) : TreeC (fun b => w1.heap.size ≤ b) w2 (.oct false (t.at 0).s) [.int .i64 0,.slice (some a2) ((t.at 0).s).length k2,.bool false,.slice none 0 0,.slice none 0 0]))
  repeat ((first | refine qA rfl ?_|refine qB ?_|refine qC rfl ?_|refine qD ?_|refine qE ?_|refine qF ?_|refine qG ?_|refine qH ?_);try simp (maxSteps:=1000000)(disch:=(first|omega|(simp only [qI,qJ,qK]<;>omega)|exact qL _)) only [go_sem,↓reduceIte,n0,reduceCtorEq,n1,n2,n3,n4,n5,i0,i1,i2,i3,i4,i5,i6,i7,hb3,hl3,ht3,hq0,hq1,hq2])
  refine W.drawR (.take 0 (.take 1 (.take 2 (.take 3 (.take 4 (.take 5 (.take 6 (.only 7 (.take 8 (.last 9)))))))))) (NoB) mixed (by kernel_rfl) ?_
  try simp (maxSteps:=1000000)(disch:=(first|omega|(simp only [qI,qJ,qK]<;>omega)|exact qL _)) only [go_sem,↓reduceIte,n0,reduceCtorEq,n1,n2,n3,n4,n5,i0,i1,i2,i3,i4,i5,i6,i7,hb3,hl3,ht3,hq0,hq1,hq2,tl8]
  refine ⟨Upd.refl _ _,?_⟩
  have hlq4 : blk w3.drew (w.heap.size + 1) = _ := hl3
  have hx4 : Upd (fun b => b = w.heap.size + 1 ∨ b = w.heap.size + 2) w3 w3.drew := (Upd.refl _ _).drew
  generalize hw4 : wr w3.drew (w.heap.size + 1) 5 [.int .i64 (IntKind.i8.wrap (t.at 1).n),.slice none 0 0,.bool false,.slice none 0 0,.slice none 0 0] = w4
  have hl4 : blk w4 (w.heap.size + 1) = some (#[.int .i64 0,.slice (some a2) ((t.at 0).s).length k2,.bool false,.slice none 0 0,.slice none 0 0,.int .i64 (IntKind.i8.wrap (t.at 1).n),.slice none 0 0,.bool false,.slice none 0 0,.slice none 0 0],26,(0,0)) := by rw [← hw4,blk_wr_eq,hlq4];rfl
  have hv4 : Upd (fun b => b = w.heap.size + 1 ∨ b = w.heap.size + 2) w3.drew w4 := by rw [← hw4];exact (Upd.refl _ _).wr _ _ (.inr (.inl rfl))
  have hV4 : Upd (fun b => b = w.heap.size + 1 ∨ b = w.heap.size + 2) w3 w4 := hx4.trans hv4
  have hU4 : Upd (fun b => b = w.heap.size + 1 ∨ b = w.heap.size + 2) w1 w4 := hU3.trans hV4
  have hz4 := hU4.size
  have hX4 : Ext w w4 := hE1.more hU4 fun b hb h => by omega
  have hb4 := hX4.blk_some hb id
  have ht4 : blk w4 (w.heap.size + 2) = some (#[.int .i64 0,.slice none 0 0,.bool false,.slice (some ⟨w.heap.size + 1,0,none⟩) 2 2,.slice none 0 0],26,(0,0)) := by
    rw [← hw4,blk_wr_ne (by omega)]
    exact ht3
  clear hw4
  have hf1 : TreeC (fun b => w1.heap.size ≤ b) w4 (.num (IntKind.i8.wrap (t.at 1).n)) [.int .i64 (IntKind.i8.wrap (t.at 1).n),.slice none 0 0,.bool false,.slice none 0 0,.slice none 0 0] := (TreeC.keep (hv4.keeps fun b hb hk e => by have hk' : w1.heap.size ≤ b := hk;omega) (TreeC.intro (tl8 _) (BytesV.nil _ _) (treesN _ _) (tagsN _ _) : TreeC (fun b => w1.heap.size ≤ b) w3.drew (.num (IntKind.i8.wrap (t.at 1).n)) [.int .i64 (IntKind.i8.wrap (t.at 1).n),.slice none 0 0,.bool false,.slice none 0 0,.slice none 0 0]))
  repeat ((first | refine qA rfl ?_|refine qB ?_|refine qC rfl ?_|refine qD ?_|refine qE ?_|refine qF ?_|refine qG ?_|refine qH ?_);try simp (maxSteps:=1000000)(disch:=(first|omega|(simp only [qI,qJ,qK]<;>omega)|exact qL _)) only [go_sem,↓reduceIte,n0,reduceCtorEq,n1,n2,n3,n4,n5,i0,i1,i2,i3,i4,i5,i6,i7,hb4,hl4,ht4,hq0,hq1,hq2])
  refine (EachG_fn (ok := fun b => b < w.heap.size) 251 ca_251 #[.pointer (some ⟨w.heap.size + 2,0,none⟩)] w4 (tb := b) (to := o + 2) hb4 hq2 ((hT.weaken fun b hb _ => hb).keep (hX4.keeps _)) (sortT_perm _) (sortT_lt hgu.2.1) (by rw [(sortT_perm t.u).length_eq];exact hgu.1)
    (fun b => b = w.heap.size + 2) (by omega) (fun b hb hk e => by have hk' : b < w.heap.size := hk;omega) (fun b hb => by have := blk_lt ht4;omega)
    (fun wl done w' => ∃ v,blk w' (w.heap.size + 2) = some (#[.int .i64 0,.slice none 0 0,.bool false,.slice (some ⟨w.heap.size + 1,0,none⟩) 2 2,v],26,(0,0)) ∧ GrowU (fun b => w1.heap.size ≤ b) wl.heap.size (w.heap.size + 2) w' 65 v done) (fun wl hE => ⟨_,hE.blk_some ht4 id,GrowU.nil _ _ _ _ _⟩) ?_).mono ?_
  · rintro wl hE done y vv wc hpre ⟨v,hbv,hg⟩ hU hvv hy
    have hz' := hE.size
    have hzu := hU.size
    have htl := blk_lt ht4
    have hpl := hpre.length_le
    simp only [List.length_append,List.length_cons,List.length_nil] at hpl
    rw [(sortT_perm t.u).length_eq] at hpl
    have hlu := hgu.1
    have hmy : y ∈ t.u := (sortT_perm t.u).mem_iff.1 (hpre.subset (by simp))
    refine (tagclX1_fn (ok := fun b => b < w.heap.size) _ _ _ _ v done y vv wc hbv hg hzu (by omega) (hvv.keep ((hE.mono (fun _ h => h.elim) |>.trans hU : Upd (fun b => b = w.heap.size + 2) w4 wc).keeps fun b _ hk e => by have hk' : b < w.heap.size := hk;omega)) hy (hgu.2.2 y hmy) (by omega) (fun b hb => by have := hz4;omega)).mono ?_
    rintro _ w2' ⟨⟨v',h1,h2⟩,h3⟩
    exact ⟨⟨v',h1,h2⟩,hU.trans' h3 fun b hb h => h.elim id fun h => by omega⟩
  rintro _ w5 ⟨wl,hEl,⟨v,ht5,hgU⟩,hUe⟩
  have hzl := hEl.size
  obtain ⟨aU,kU,hvs,_⟩ := hgU.shape
  subst hvs
  have hV5 : Upd (fun b => b = w.heap.size + 1 ∨ b = w.heap.size + 2) w4 w5 := (hEl.mono fun _ h => h.elim).trans (hUe.mono fun _ h => .inr h)
  have hU5 : Upd (fun b => b = w.heap.size + 1 ∨ b = w.heap.size + 2) w1 w5 := hU4.trans hV5
  have hz5 := hU5.size
  have hX5 : Ext w w5 := hE1.more hU5 fun b hb h => by omega
  have hb5 := hX5.blk_some hb id
  have hl5 := (((hEl.mono fun _ h => h.elim).trans hUe : Upd (fun b => b = w.heap.size + 2) w4 w5)).blk_some hl4 (by omega)
  have hTU := hgU.tags (ok' := (fun b => w1.heap.size ≤ b)) (fun _ _ h => h) (fun b hb => by have := hz4;omega)
  repeat ((first | refine qA rfl ?_|refine qB ?_|refine qC rfl ?_|refine qD ?_|refine qE ?_|refine qF ?_|refine qG ?_|refine qH ?_);try simp (maxSteps:=1000000)(disch:=(first|omega|(simp only [qI,qJ,qK]<;>omega)|exact qL _)) only [go_sem,↓reduceIte,n0,reduceCtorEq,n1,n2,n3,n4,n5,i0,i1,i2,i3,i4,i5,i6,i7,hb5,hl5,ht5,hq0,hq1,hq2,cellsAt_five])
  refine (sorted_fn _ _ w5 hTU (sortT_lt hgu.2.1) (by rw [(sortT_perm t.u).length_eq];exact hgu.1)).mono ?_
  rintro _ w6 hEs
  have hV6 : Upd (fun b => b = w.heap.size + 1 ∨ b = w.heap.size + 2) w5 w6 := hEs.mono fun _ h => h.elim
  have hU6 : Upd (fun b => b = w.heap.size + 1 ∨ b = w.heap.size + 2) w1 w6 := hU5.trans hV6
  have hz6 := hU6.size
  have hX6 : Ext w w6 := hE1.more hU6 fun b hb h => by omega
  have hb6 := hX6.blk_some hb id
  have hl6 := hEs.blk_some hl5 id
  have ht6 := hEs.blk_some ht5 id
  have hr6 := (hU6.blk_some hr1 (by omega))
  have hC_6 : Upd (fun b => b = w.heap.size + 1 ∨ b = w.heap.size + 2) w6 w6 := Upd.refl _ _
  have hC_5 : Upd (fun b => b = w.heap.size + 1 ∨ b = w.heap.size + 2) w5 w6 := hV6.trans hC_6
  have hC_4 : Upd (fun b => b = w.heap.size + 1 ∨ b = w.heap.size + 2) w4 w6 := hV5.trans hC_5
  have hC_3 : Upd (fun b => b = w.heap.size + 1 ∨ b = w.heap.size + 2) w3 w6 := hV4.trans hC_4
  have hC_1 : Upd (fun b => b = w.heap.size + 1 ∨ b = w.heap.size + 2) w1 w6 := hV3.trans hC_3
  have hF0 := TreeC.keep (hC_3.keeps fun b hb hk e => by have hk' : w1.heap.size ≤ b := hk;omega) hf0
  have hF1 := TreeC.keep (hC_4.keeps fun b hb hk e => by have hk' : w1.heap.size ≤ b := hk;omega) hf1
  replace hF0 : TreeC (fun b => w1.heap.size ≤ b) w6 (tlF (tlP d) fX1_0 (t.at 0)) [.int .i64 0,.slice (some a2) ((t.at 0).s).length k2,.bool false,.slice none 0 0,.slice none 0 0] := hF0
  replace hF1 : TreeC (fun b => w1.heap.size ≤ b) w6 (tlF (tlP d) fX1_1 (t.at 1)) [.int .i64 (IntKind.i8.wrap (t.at 1).n),.slice none 0 0,.bool false,.slice none 0 0,.slice none 0 0] := hF1
  have hTL : TreesV (fun b => (fun b => w1.heap.size ≤ b) b ∨ b = w.heap.size + 1) w6 (.slice (some ⟨w.heap.size + 1,0,none⟩) 2 2) [tlF (tlP d) fX1_0 (t.at 0),tlF (tlP d) fX1_1 (t.at 1)] := by
    refine ⟨[[.int .i64 0,.slice (some a2) ((t.at 0).s).length k2,.bool false,.slice none 0 0,.slice none 0 0],[.int .i64 (IntKind.i8.wrap (t.at 1).n),.slice none 0 0,.bool false,.slice none 0 0,.slice none 0 0]],⟨_,2,rfl,Nat.le_refl _,(by intro cs hm;simp only [List.mem_cons,List.not_mem_nil,or_false] at hm;rcases hm with rfl | rfl <;> rfl),.inr ⟨_,rfl,rfl,.inr rfl,_,hl6,fun i hi => by rw [Nat.zero_add,List.getElem?_toArray];rfl⟩⟩,rfl,fun i h1 h2 => ?_⟩
    match i,h1 with
    | 0,_ => exact TreeC.weaken (fun b _ hk => .inl hk) hF0
    | 1,_ => exact TreeC.weaken (fun b _ hk => .inl hk) hF1
  repeat ((first | refine qA rfl ?_|refine qB ?_|refine qC rfl ?_|refine qD ?_|refine qE ?_|refine qF ?_|refine qG ?_|refine qH ?_);try simp (maxSteps:=1000000)(disch:=(first|omega|(simp only [qI,qJ,qK]<;>omega)|exact qL _)) only [go_sem,↓reduceIte,n0,reduceCtorEq,n1,n2,n3,n4,n5,i0,i1,i2,i3,i4,i5,i6,i7,hb6,hl6,ht6,hq0,hq1,hq2,hr6,cellsAt_five])
  refine ⟨⟨_,rfl,?_⟩,hX6.wr _ _ (.inl (Nat.le_refl _))⟩
  have hUr : Upd (fun b => b = w.heap.size) w6 (wr w6 w.heap.size 0 [.int .i64 0,.slice none 0 0,.bool false,.slice (some ⟨w.heap.size + 1,0,none⟩) 2 2,.slice aU (sortT t.u).length kU]) := (Upd.refl _ _).wr _ _ (.inr rfl)
  have hTU2 := hTU.keep (hEs.keeps _)
  exact TreeC.intro rfl (BytesV.nil _ _) ((hTL.keep (hUr.keeps fun b _ hk e => by rcases hk with hk | hk <;> omega)).weaken fun b _ hk => by rcases hk with hk | hk <;> omega) ((hTU2.keep (hUr.keeps fun b _ hk e => by omega)).weaken fun b _ hk => by omega)

theorem tagclX0_fn {ok OK : Blocks} {B tb : Nat} (c0 c1 c2 c3 v : Value) (done : List TagD) (y : TagD) (vv : Value) (w : World) (hbt : blk w tb = some (#[c0,c1,c2,c3,v],26,(0,0))) (hg : GrowU OK B tb w 65 v done) (hB : B ≤ w.heap.size) (htb : tb < B) (hvv : BytesV ok w vv y.2) (hy : y.1 < 2 ^ 32) (hyl : y.2.length ≤ 32767) (hdl : done.length ≤ 32767) (hOK : ∀ b,B ≤ b → OK b) :
    Fn Tryd.prog 253 #[.int .u32 y.1,vv,.pointer (some ⟨tb,0,none⟩)] w fun _ w' => (∃ v',blk w' tb = some (#[c0,c1,c2,c3,v'],26,(0,0)) ∧ GrowU OK B tb w' 65 v' (done ++ [y])) ∧ Upd (fun b => b = tb ∨ B ≤ b) w w' := by
  have htl := blk_lt hbt
  refine fn_of_W Tryd.func253 rfl Tryd.results253 Tryd.ntmps253 rfl ?_
  repeat ((first | refine qA rfl ?_|refine qB ?_|refine qC rfl ?_|refine qD ?_|refine qE ?_|refine qF ?_|refine qG ?_|refine qH ?_);try simp (maxSteps:=1000000)(disch:=(first|omega|(simp only [qI,qJ,qK]<;>omega)|exact qL _)) only [go_sem,↓reduceIte,n0,reduceCtorEq,n1,n2,n3,n4,n5,i0,i1,i2,i3,i4,i5,i6,i7])
  obtain ⟨av,kv,rfl,_⟩ := hg.shape
  have hnb : ∀ b,b < B ∨ w.heap.size ≤ b → ¬ ownB (.slice av done.length kv) b := fun b hb h => by
    have := hg.above h
    have := hg.below h
    omega
  refine W.drawR (.take 0 (.take 1 (.take 2 (.take 3 (.only 4 (.only 5 (.only 6 (.only 7 (.take 8 (.last 9)))))))))) (ownB (.slice av done.length kv)) mixed (by kernel_rfl) ?_
  simp (maxSteps:=1000000)(disch:=(first|omega|(simp only [qI,qJ,qK]<;>omega)|exact qL _ | (refine hnb _ ?_;first | omega | (simp only [World.size_alloc,size_wr,size_drew] <;> omega)))) only [go_sem,↓reduceIte,n0,reduceCtorEq,n1,n2,n3,n4,n5,i0,i1,i2,i3,i4,i5,i6,i7,hbt]
  refine wp_copyN ap_22_22 (ok := ok) (s := y.2) (v := vv) (by first | rfl | simp (maxSteps:=1000000)(disch:=(first|omega|(simp only [qI,qJ,qK]<;>omega)|exact qL _)) only [go_sem,↓reduceIte,n0,reduceCtorEq,n1,n2,n3,n4,n5,i0,i1,i2,i3,i4,i5,i6,i7]) (by first | rfl | simp (maxSteps:=1000000)(disch:=(first|omega|(simp only [qI,qJ,qK]<;>omega)|exact qL _)) only [go_sem,↓reduceIte,n0,reduceCtorEq,n1,n2,n3,n4,n5,i0,i1,i2,i3,i4,i5,i6,i7]) (hvv.keep (Ext.keeps ((Upd.refl _ _).drew) _)) (by omega) ?_
  intro v1 w1 ho1 hE1 hf1
  obtain ⟨a1,k1,rfl,_⟩ := ho1.shape
  have hB1 := Own.bytes (ok := fun b => w.heap.size ≤ b) ho1 fun b hb => hf1 b hb
  have hP1 : Upd (ownB (.slice av done.length kv)) w.drew w1 := hE1.mono fun _ h => h.elim
  have hs1 := hE1.size
  simp only [size_drew] at hs1
  refine ⟨hP1,?_⟩
  simp (maxSteps:=1000000)(disch:=(first|omega|(simp only [qI,qJ,qK]<;>omega)|exact qL _ | (refine hnb _ ?_;first | omega | (simp only [World.size_alloc,size_wr,size_drew] <;> omega)))) only [go_sem,↓reduceIte,n0,reduceCtorEq,n1,n2,n3,n4,n5,i0,i1,i2,i3,i4,i5,i6,i7,hbt]
  refine ⟨hP1,?_⟩
  have hP2 : Upd (ownB (.slice av done.length kv)) w.drew (w1.alloc (.cells #[.int .u32 y.1,.slice a1 y.2.length k1] 65)) := hP1.alloc _
  have hn2 : blk (w1.alloc (.cells #[.int .u32 y.1,.slice a1 y.2.length k1] 65)) w1.heap.size = some (#[.int .u32 y.1,.slice a1 y.2.length k1],65,(0,0)) := blk_alloc_new rfl
  have hs2 : (w1.alloc (.cells #[.int .u32 y.1,.slice a1 y.2.length k1] 65)).heap.size = w1.heap.size + 1 := World.size_alloc _ _
  have hE2 : Ext w1 (w1.alloc (.cells #[.int .u32 y.1,.slice a1 y.2.length k1] 65)) := Upd.alloc (Upd.refl _ _) _
  refine ⟨hP2,?_⟩
  try simp only [List.append_nil]
  generalize (w1.alloc (.cells #[.int .u32 y.1,.slice a1 y.2.length k1] 65)) = w2 at *
  have hEw : Ext w w2 := (((Upd.refl _ _).drew).trans hE1).trans hE2
  obtain ⟨css,hown,hall⟩ := (hg.ext hEw).ex
  have hcl := hall.1
  have hx2 : TagC (fun b => OK b ∧ b ≠ tb ∧ ¬ ownB (.slice av done.length kv) b) w2 y [.int .u32 y.1,.slice a1 y.2.length k1] := ⟨_,rfl,(hB1.keep (hE2.keeps _)).weaken fun b _ hk => ⟨hOK b (by omega),by omega,hnb b (.inr hk)⟩,hy⟩
  refine wp_append ap_24_24 (m := 1) (news := [.int .u32 y.1,.slice a1 y.2.length k1]) (n := css.length) (cs := css.flatten) (v := .slice av done.length kv) ?_ rfl hown.1 hall.flat_cells (Src.blk (fr := (0,0)) (T := 65) hn2 rfl rfl) ?_ ?_ ?_
  · first | rfl | simp (maxSteps:=1000000)(disch:=(first|omega|(simp only [qI,qJ,qK]<;>omega)|exact qL _)) only [go_sem,↓reduceIte,n0,reduceCtorEq,n1,n2,n3,n4,n5,i0,i1,i2,i3,i4,i5,i6,i7]
  · omega
  · omega
  intro v' w3 ho hu hfr
  have hg3 := GrowU.snoc hown hall hx2 hu hfr ho
  obtain ⟨va,vc,hv',_⟩ := ho.shape
  subst hv'
  have hP3 := hP2.trans hu
  have hs3 := hu.size
  have hbt3 := hP3.blk_some (show blk w.drew tb = _ from hbt) (hnb _ (.inl htb))
  have hne : ¬ ownB (.slice va (css.length + 1) vc) tb := fun h => (hfr _ h).elim (hnb _ (.inl htb)) (fun h => by omega)
  refine ⟨hP3,?_⟩
  simp (maxSteps:=1000000)(disch:=(first|omega|(simp only [qI,qJ,qK]<;>omega)|exact qL _ | (refine hnb _ ?_;first | omega | (simp only [World.size_alloc,size_wr,size_drew] <;> omega)))) only [go_sem,↓reduceIte,n0,reduceCtorEq,n1,n2,n3,n4,n5,i0,i1,i2,i3,i4,i5,i6,i7,hbt3]
  repeat ((first | refine qA rfl ?_|refine qB ?_|refine qC rfl ?_|refine qD ?_|refine qE ?_|refine qF ?_|refine qG ?_|refine qH ?_);try simp (maxSteps:=1000000)(disch:=(first|omega|(simp only [qI,qJ,qK]<;>omega)|exact qL _)) only [go_sem,↓reduceIte,n0,reduceCtorEq,n1,n2,n3,n4,n5,i0,i1,i2,i3,i4,i5,i6,i7])
  refine ⟨⟨.slice va (css.length + 1) vc,by first | (rw [blk_wr_eq,hbt3];rfl) | rfl | (rw [hbt3];rfl) | (rw [blk_wr_eq,hbt3]),hg3.upd ((Upd.refl _ _).wr _ _ (.inr rfl)) hne⟩,?_⟩
  refine Upd.wr ?_ _ _ (.inr (.inl rfl))
  exact (((Upd.refl (fun b => b = tb ∨ B ≤ b) w).drew).trans (hP3.mono fun b h => .inr (hg.above h)))

set_option maxHeartbeats 4000000 in
theorem tellX0_fn {d : Nat} {ok : Blocks} (t : Tree) (cs : List Value) (w : World) {b o : Nat} {x : Blk} (hb : blk w b = some x) (hq : ∀ k,k < 6 → x.1[o + k]? = cs[k]?) (hR : RepS true (d + 1) fs_X0 ok w t cs) (hg : GoodP (d + 1) fs_X0 t) :
    Fn Tryd.prog 168 #[.pointer (some ⟨b,o,none⟩)] w fun r w' => (∃ c,r = .agg c.toArray ∧ TreeC (fun b => w.heap.size ≤ b) w' (tlP (d + 1) fs_X0 t) c) ∧ Ext w w' := by
  have hbl := blk_lt hb
  obtain ⟨⟨gd0,gd1,gd2,gd3,gd4,-⟩,hgu⟩ := hg
  replace gd0 : GoodF (GoodP d) fX0_0 (t.at 0) := gd0
  replace gd1 : GoodF (GoodP d) fX0_1 (t.at 1) := gd1
  replace gd2 : GoodF (GoodP d) fX0_2 (t.at 2) := gd2
  replace gd3 : GoodF (GoodP d) fX0_3 (t.at 3) := gd3
  replace gd4 : GoodF (GoodP d) fX0_4 (t.at 4) := gd4
  obtain ⟨cs0,q,hcs,hL,hT⟩ := hR.inv
  obtain ⟨c0,e0,rfl,h0,c1,e1,rfl,h1,c2,e2,rfl,h2,c3,e3,rfl,h3,c4,e4,rfl,h4,rfl⟩ := hL
  replace h0 : RepF (RepS true d) (szS true d) fX0_0 ok w (t.at 0) c0 := h0
  replace h1 : RepF (RepS true d) (szS true d) fX0_1 ok w (t.at 1) c1 := h1
  replace h2 : RepF (RepS true d) (szS true d) fX0_2 ok w (t.at 2) c2 := h2
  replace h3 : RepF (RepS true d) (szS true d) fX0_3 ok w (t.at 3) c3 := h3
  replace h4 : RepF (RepS true d) (szS true d) fX0_4 ok w (t.at 4) c4 := h4
  obtain rfl := (RepF_text rfl (by decide)).1 h0
  obtain rfl := (RepF_num (by decide)).1 h1
  obtain rfl := (RepF_num (by decide)).1 h2
  obtain ⟨p3,rfl,hp3⟩ := (RepF_bytes rfl).1 h3
  obtain ⟨ao3,no3,co3,rfl⟩ := hp3.shape
  obtain ⟨p4,rfl,hp4⟩ := (RepF_bytes rfl).1 h4
  obtain ⟨ao4,no4,co4,rfl⟩ := hp4.shape
  obtain ⟨qm,rfl⟩ := hT.shape
  subst hcs
  have hq0 : x.1[o]? = some (strV (t.at 0).s) := hq 0 (by decide)
  have hq1 : x.1[o + 1]? = some (.int .i8 (IntKind.i8.wrap (t.at 1).n)) := hq 1 (by decide)
  have hq2 : x.1[o + 2]? = some (.int .i32 (IntKind.i32.wrap (t.at 2).n)) := hq 2 (by decide)
  have hq3 : x.1[o + 3]? = some (.slice ao3 no3 co3) := hq 3 (by decide)
  have hq4 : x.1[o + 4]? = some (.slice ao4 no4 co4) := hq 4 (by decide)
  have hq5 : x.1[o + 5]? = some (.map qm) := hq 5 (by decide)
  refine fn_of_W Tryd.func168 rfl Tryd.results168 Tryd.ntmps168 rfl ?_
  repeat ((first | refine qA rfl ?_|refine qB ?_|refine qC rfl ?_|refine qD ?_|refine qE ?_|refine qF ?_|refine qG ?_|refine qH ?_);try simp (maxSteps:=1000000)(disch:=(first|omega|(simp only [qI,qJ,qK]<;>omega)|exact qL _)) only [go_sem,↓reduceIte,n0,reduceCtorEq,n1,n2,n3,n4,n5,i0,i1,i2,i3,i4,i5,i6,i7])
  refine wp_make (T := 23) (E := 26) (size := 5) (bytes := 88) (z := .agg #[.int .i64 0,.slice none 0 0,.bool false,.slice none 0 0,.slice none 0 0]) (l := 5) (c := 5) (kl := .i64) (kc := .i64) (by kernel_rfl) (by kernel_rfl) (by first | rfl | (simp (maxSteps:=1000000)(disch:=(first|omega|(simp only [qI,qJ,qK]<;>omega)|exact qL _)) only [go_sem,↓reduceIte,n0,reduceCtorEq,n1,n2,n3,n4,n5,i0,i1,i2,i3,i4,i5,i6,i7];rfl)) (by first | rfl | (simp (maxSteps:=1000000)(disch:=(first|omega|(simp only [qI,qJ,qK]<;>omega)|exact qL _)) only [go_sem,↓reduceIte,n0,reduceCtorEq,n1,n2,n3,n4,n5,i0,i1,i2,i3,i4,i5,i6,i7];rfl)) (by omega) (by omega) (by omega) ?_
  have hmd : madeCells (Value.agg #[.int .i64 0,.slice none 0 0,.bool false,.slice none 0 0,.slice none 0 0]).cells (5 * 5) = #[.int .i64 0,.slice none 0 0,.bool false,.slice none 0 0,.slice none 0 0,.int .i64 0,.slice none 0 0,.bool false,.slice none 0 0,.slice none 0 0,.int .i64 0,.slice none 0 0,.bool false,.slice none 0 0,.slice none 0 0,.int .i64 0,.slice none 0 0,.bool false,.slice none 0 0,.slice none 0 0,.int .i64 0,.slice none 0 0,.bool false,.slice none 0 0,.slice none 0 0] := by kernel_rfl
  rw [hmd]
  simp (maxSteps:=1000000)(disch:=(first|omega|(simp only [qI,qJ,qK]<;>omega)|exact qL _)) only [go_sem,↓reduceIte,n0,reduceCtorEq,n1,n2,n3,n4,n5,i0,i1,i2,i3,i4,i5,i6,i7]
  repeat ((first | refine qA rfl ?_|refine qB ?_|refine qC rfl ?_|refine qD ?_|refine qE ?_|refine qF ?_|refine qG ?_|refine qH ?_);try simp (maxSteps:=1000000)(disch:=(first|omega|(simp only [qI,qJ,qK]<;>omega)|exact qL _)) only [go_sem,↓reduceIte,n0,reduceCtorEq,n1,n2,n3,n4,n5,i0,i1,i2,i3,i4,i5,i6,i7])
  have hE1 : Ext w (wr (((w.alloc (.cells #[.int .i64 0,.slice none 0 0,.bool false,.slice none 0 0,.slice none 0 0] 26)).alloc (.cells #[.int .i64 0,.slice none 0 0,.bool false,.slice none 0 0,.slice none 0 0,.int .i64 0,.slice none 0 0,.bool false,.slice none 0 0,.slice none 0 0,.int .i64 0,.slice none 0 0,.bool false,.slice none 0 0,.slice none 0 0,.int .i64 0,.slice none 0 0,.bool false,.slice none 0 0,.slice none 0 0,.int .i64 0,.slice none 0 0,.bool false,.slice none 0 0,.slice none 0 0] 26)).alloc (.cells #[.int .i64 0,.slice none 0 0,.bool false,.slice none 0 0,.slice none 0 0] 26)) (w.heap.size + 2) 0 [.int .i64 0,.slice none 0 0,.bool false,.slice (some ⟨w.heap.size + 1,0,none⟩) 5 5,.slice none 0 0]) := (Upd.alloc (Upd.alloc (Upd.alloc (Upd.refl _ _) _) _) _).wr _ _ (.inl (by omega))
  have hz1 : (wr (((w.alloc (.cells #[.int .i64 0,.slice none 0 0,.bool false,.slice none 0 0,.slice none 0 0] 26)).alloc (.cells #[.int .i64 0,.slice none 0 0,.bool false,.slice none 0 0,.slice none 0 0,.int .i64 0,.slice none 0 0,.bool false,.slice none 0 0,.slice none 0 0,.int .i64 0,.slice none 0 0,.bool false,.slice none 0 0,.slice none 0 0,.int .i64 0,.slice none 0 0,.bool false,.slice none 0 0,.slice none 0 0,.int .i64 0,.slice none 0 0,.bool false,.slice none 0 0,.slice none 0 0] 26)).alloc (.cells #[.int .i64 0,.slice none 0 0,.bool false,.slice none 0 0,.slice none 0 0] 26)) (w.heap.size + 2) 0 [.int .i64 0,.slice none 0 0,.bool false,.slice (some ⟨w.heap.size + 1,0,none⟩) 5 5,.slice none 0 0]).heap.size = w.heap.size + 3 := by simp only [size_wr,World.size_alloc]
  have hl1 : blk (wr (((w.alloc (.cells #[.int .i64 0,.slice none 0 0,.bool false,.slice none 0 0,.slice none 0 0] 26)).alloc (.cells #[.int .i64 0,.slice none 0 0,.bool false,.slice none 0 0,.slice none 0 0,.int .i64 0,.slice none 0 0,.bool false,.slice none 0 0,.slice none 0 0,.int .i64 0,.slice none 0 0,.bool false,.slice none 0 0,.slice none 0 0,.int .i64 0,.slice none 0 0,.bool false,.slice none 0 0,.slice none 0 0,.int .i64 0,.slice none 0 0,.bool false,.slice none 0 0,.slice none 0 0] 26)).alloc (.cells #[.int .i64 0,.slice none 0 0,.bool false,.slice none 0 0,.slice none 0 0] 26)) (w.heap.size + 2) 0 [.int .i64 0,.slice none 0 0,.bool false,.slice (some ⟨w.heap.size + 1,0,none⟩) 5 5,.slice none 0 0]) (w.heap.size + 1) = some (#[.int .i64 0,.slice none 0 0,.bool false,.slice none 0 0,.slice none 0 0,.int .i64 0,.slice none 0 0,.bool false,.slice none 0 0,.slice none 0 0,.int .i64 0,.slice none 0 0,.bool false,.slice none 0 0,.slice none 0 0,.int .i64 0,.slice none 0 0,.bool false,.slice none 0 0,.slice none 0 0,.int .i64 0,.slice none 0 0,.bool false,.slice none 0 0,.slice none 0 0],26,(0,0)) := by simp (maxSteps:=1000000)(disch:=(first|omega|(simp only [qI,qJ,qK]<;>omega)|exact qL _)) only [go_sem,↓reduceIte,n0,reduceCtorEq,n1,n2,n3,n4,n5,i0,i1,i2,i3,i4,i5,i6,i7]
  have ht1 : blk (wr (((w.alloc (.cells #[.int .i64 0,.slice none 0 0,.bool false,.slice none 0 0,.slice none 0 0] 26)).alloc (.cells #[.int .i64 0,.slice none 0 0,.bool false,.slice none 0 0,.slice none 0 0,.int .i64 0,.slice none 0 0,.bool false,.slice none 0 0,.slice none 0 0,.int .i64 0,.slice none 0 0,.bool false,.slice none 0 0,.slice none 0 0,.int .i64 0,.slice none 0 0,.bool false,.slice none 0 0,.slice none 0 0,.int .i64 0,.slice none 0 0,.bool false,.slice none 0 0,.slice none 0 0] 26)).alloc (.cells #[.int .i64 0,.slice none 0 0,.bool false,.slice none 0 0,.slice none 0 0] 26)) (w.heap.size + 2) 0 [.int .i64 0,.slice none 0 0,.bool false,.slice (some ⟨w.heap.size + 1,0,none⟩) 5 5,.slice none 0 0]) (w.heap.size + 2) = some (#[.int .i64 0,.slice none 0 0,.bool false,.slice (some ⟨w.heap.size + 1,0,none⟩) 5 5,.slice none 0 0],26,(0,0)) := by simp (maxSteps:=1000000)(disch:=(first|omega|(simp only [qI,qJ,qK]<;>omega)|exact qL _)) only [go_sem,↓reduceIte,n0,reduceCtorEq,n1,n2,n3,n4,n5,i0,i1,i2,i3,i4,i5,i6,i7]
  have hr1 : blk (wr (((w.alloc (.cells #[.int .i64 0,.slice none 0 0,.bool false,.slice none 0 0,.slice none 0 0] 26)).alloc (.cells #[.int .i64 0,.slice none 0 0,.bool false,.slice none 0 0,.slice none 0 0,.int .i64 0,.slice none 0 0,.bool false,.slice none 0 0,.slice none 0 0,.int .i64 0,.slice none 0 0,.bool false,.slice none 0 0,.slice none 0 0,.int .i64 0,.slice none 0 0,.bool false,.slice none 0 0,.slice none 0 0,.int .i64 0,.slice none 0 0,.bool false,.slice none 0 0,.slice none 0 0] 26)).alloc (.cells #[.int .i64 0,.slice none 0 0,.bool false,.slice none 0 0,.slice none 0 0] 26)) (w.heap.size + 2) 0 [.int .i64 0,.slice none 0 0,.bool false,.slice (some ⟨w.heap.size + 1,0,none⟩) 5 5,.slice none 0 0]) w.heap.size = some (#[.int .i64 0,.slice none 0 0,.bool false,.slice none 0 0,.slice none 0 0],26,(0,0)) := by simp (maxSteps:=1000000)(disch:=(first|omega|(simp only [qI,qJ,qK]<;>omega)|exact qL _)) only [go_sem,↓reduceIte,n0,reduceCtorEq,n1,n2,n3,n4,n5,i0,i1,i2,i3,i4,i5,i6,i7]
  generalize (wr (((w.alloc (.cells #[.int .i64 0,.slice none 0 0,.bool false,.slice none 0 0,.slice none 0 0] 26)).alloc (.cells #[.int .i64 0,.slice none 0 0,.bool false,.slice none 0 0,.slice none 0 0,.int .i64 0,.slice none 0 0,.bool false,.slice none 0 0,.slice none 0 0,.int .i64 0,.slice none 0 0,.bool false,.slice none 0 0,.slice none 0 0,.int .i64 0,.slice none 0 0,.bool false,.slice none 0 0,.slice none 0 0,.int .i64 0,.slice none 0 0,.bool false,.slice none 0 0,.slice none 0 0] 26)).alloc (.cells #[.int .i64 0,.slice none 0 0,.bool false,.slice none 0 0,.slice none 0 0] 26)) (w.heap.size + 2) 0 [.int .i64 0,.slice none 0 0,.bool false,.slice (some ⟨w.heap.size + 1,0,none⟩) 5 5,.slice none 0 0]) = w1 at *
  have hU1 : Upd (fun b => b = w.heap.size + 1 ∨ b = w.heap.size + 2) w1 w1 := Upd.refl _ _
  have hb1 := hE1.blk_some hb id
  repeat ((first | refine qA rfl ?_|refine qB ?_|refine qC rfl ?_|refine qD ?_|refine qE ?_|refine qF ?_|refine qG ?_|refine qH ?_);try simp (maxSteps:=1000000)(disch:=(first|omega|(simp only [qI,qJ,qK]<;>omega)|exact qL _)) only [go_sem,↓reduceIte,n0,reduceCtorEq,n1,n2,n3,n4,n5,i0,i1,i2,i3,i4,i5,i6,i7,hb1,hl1,ht1,hq0,hq1,hq2,hq3,hq4,hq5])
  refine W.drawR (.take 0 (.take 1 (.take 2 (.take 3 (.take 4 (.take 5 (.only 6 (.only 7 (.take 8 (.last 9)))))))))) (NoB) mixed (by kernel_rfl) ?_
  try simp (maxSteps:=1000000)(disch:=(first|omega|(simp only [qI,qJ,qK]<;>omega)|exact qL _)) only [go_sem,↓reduceIte,n0,reduceCtorEq,n1,n2,n3,n4,n5,i0,i1,i2,i3,i4,i5,i6,i7,hb1,hl1,ht1,hq0,hq1,hq2,hq3,hq4,hq5]
  refine wp_octets (S := 9) (T := 22) (E := 5) (s := (t.at 0).s) (by kernel_rfl) (by kernel_rfl) (by kernel_rfl) (by first | rfl | simp (maxSteps:=1000000)(disch:=(first|omega|(simp only [qI,qJ,qK]<;>omega)|exact qL _)) only [go_sem,↓reduceIte,n0,reduceCtorEq,n1,n2,n3,n4,n5,i0,i1,i2,i3,i4,i5,i6,i7,hb1,hl1,ht1,hq0,hq1,hq2,hq3,hq4,hq5]) ?_
  intro a2 k2 w2 hB2 hEx2
  have hP2 : Upd NoB w1.drew w2 := (Upd.refl _ _).trans (hEx2.mono fun _ h => h.elim)
  have hsq2 := hEx2.size
  try simp only [size_drew] at hsq2
  refine ⟨hP2,?_⟩
  try simp (maxSteps:=1000000)(disch:=(first|omega|(simp only [qI,qJ,qK]<;>omega)|exact qL _)) only [go_sem,↓reduceIte,n0,reduceCtorEq,n1,n2,n3,n4,n5,i0,i1,i2,i3,i4,i5,i6,i7,hb1,hl1,ht1,hq0,hq1,hq2,hq3,hq4,hq5]
  refine ⟨hP2,?_⟩
  have hlq3 := hP2.blk_some (show blk w1.drew (w.heap.size + 1) = _ from hl1) id
  have hx3 : Upd (fun b => b = w.heap.size + 1 ∨ b = w.heap.size + 2) w1 w2 := ((Upd.refl _ _).drew).trans (hP2.mono fun _ h => h.elim)
  try simp (maxSteps:=1000000)(disch:=(first|omega|(simp only [qI,qJ,qK]<;>omega)|exact qL _)) only [go_sem,↓reduceIte,n0,reduceCtorEq,n1,n2,n3,n4,n5,i0,i1,i2,i3,i4,i5,i6,i7,hlq3]
  generalize hw3 : wr w2 (w.heap.size + 1) 0 [.int .i64 0,.slice (some a2) ((t.at 0).s).length k2,.bool false,.slice none 0 0,.slice none 0 0] = w3
  have hl3 : blk w3 (w.heap.size + 1) = some (#[.int .i64 0,.slice (some a2) ((t.at 0).s).length k2,.bool false,.slice none 0 0,.slice none 0 0,.int .i64 0,.slice none 0 0,.bool false,.slice none 0 0,.slice none 0 0,.int .i64 0,.slice none 0 0,.bool false,.slice none 0 0,.slice none 0 0,.int .i64 0,.slice none 0 0,.bool false,.slice none 0 0,.slice none 0 0,.int .i64 0,.slice none 0 0,.bool false,.slice none 0 0,.slice none 0 0],26,(0,0)) := by rw [← hw3,blk_wr_eq,hlq3];rfl
  have hv3 : Upd (fun b => b = w.heap.size + 1 ∨ b = w.heap.size + 2) w2 w3 := by rw [← hw3];exact (Upd.refl _ _).wr _ _ (.inr (.inl rfl))
  have hV3 : Upd (fun b => b = w.heap.size + 1 ∨ b = w.heap.size + 2) w1 w3 := hx3.trans hv3
  have hU3 : Upd (fun b => b = w.heap.size + 1 ∨ b = w.heap.size + 2) w1 w3 := hU1.trans hV3
  have hz3 := hU3.size
  have hX3 : Ext w w3 := hE1.more hU3 fun b hb h => by omega
  have hb3 := hX3.blk_some hb id
  have ht3 : blk w3 (w.heap.size + 2) = some (#[.int .i64 0,.slice none 0 0,.bool false,.slice (some ⟨w.heap.size + 1,0,none⟩) 5 5,.slice none 0 0],26,(0,0)) := by
    rw [← hw3,blk_wr_ne (by omega)]
    exact hP2.blk_some (show blk w1.drew (w.heap.size + 2) = _ from ht1) id
  clear hw3
  have hf0 : TreeC (fun b => w1.heap.size ≤ b) w3 (.oct false (t.at 0).s) [.int .i64 0,.slice (some a2) ((t.at 0).s).length k2,.bool false,.slice none 0 0,.slice none 0 0] := (TreeC.keep (hv3.keeps fun b hb hk e => by have hk' : w1.heap.size ≤ b := hk;omega) (TreeC.intro rfl (hB2.weaken fun b _ hk => by have hk' : w1.drew.heap.size ≤ b := hk;(try simp only [size_drew] at hk');omega) (treesN _ _) (tagsN _ _) : TreeC (fun b => w1.heap.size ≤ b) w2 (.oct false (t.at 0).s) [.int .i64 0,.slice (some a2) ((t.at 0).s).length k2,.bool false,.slice none 0 0,.slice none 0 0]))
  repeat ((first | refine qA rfl ?_|refine qB ?_|refine qC rfl ?_|refine qD ?_|refine qE ?_|refine qF ?_|refine qG ?_|refine qH ?_);try simp (maxSteps:=1000000)(disch:=(first|omega|(simp only [qI,qJ,qK]<;>omega)|exact qL _)) only [go_sem,↓reduceIte,n0,reduceCtorEq,n1,n2,n3,n4,n5,i0,i1,i2,i3,i4,i5,i6,i7,hb3,hl3,ht3,hq0,hq1,hq2,hq3,hq4,hq5])
  refine W.drawR (.take 0 (.take 1 (.take 2 (.take 3 (.take 4 (.take 5 (.take 6 (.only 7 (.take 8 (.last 9)))))))))) (NoB) mixed (by kernel_rfl) ?_
  try simp (maxSteps:=1000000)(disch:=(first|omega|(simp only [qI,qJ,qK]<;>omega)|exact qL _)) only [go_sem,↓reduceIte,n0,reduceCtorEq,n1,n2,n3,n4,n5,i0,i1,i2,i3,i4,i5,i6,i7,hb3,hl3,ht3,hq0,hq1,hq2,hq3,hq4,hq5,tl8]
  refine ⟨Upd.refl _ _,?_⟩
  have hlq4 : blk w3.drew (w.heap.size + 1) = _ := hl3
  have hx4 : Upd (fun b => b = w.heap.size + 1 ∨ b = w.heap.size + 2) w3 w3.drew := (Upd.refl _ _).drew
  generalize hw4 : wr w3.drew (w.heap.size + 1) 5 [.int .i64 (IntKind.i8.wrap (t.at 1).n),.slice none 0 0,.bool false,.slice none 0 0,.slice none 0 0] = w4
  have hl4 : blk w4 (w.heap.size + 1) = some (#[.int .i64 0,.slice (some a2) ((t.at 0).s).length k2,.bool false,.slice none 0 0,.slice none 0 0,.int .i64 (IntKind.i8.wrap (t.at 1).n),.slice none 0 0,.bool false,.slice none 0 0,.slice none 0 0,.int .i64 0,.slice none 0 0,.bool false,.slice none 0 0,.slice none 0 0,.int .i64 0,.slice none 0 0,.bool false,.slice none 0 0,.slice none 0 0,.int .i64 0,.slice none 0 0,.bool false,.slice none 0 0,.slice none 0 0],26,(0,0)) := by rw [← hw4,blk_wr_eq,hlq4];rfl
  have hv4 : Upd (fun b => b = w.heap.size + 1 ∨ b = w.heap.size + 2) w3.drew w4 := by rw [← hw4];exact (Upd.refl _ _).wr _ _ (.inr (.inl rfl))
  have hV4 : Upd (fun b => b = w.heap.size + 1 ∨ b = w.heap.size + 2) w3 w4 := hx4.trans hv4
  have hU4 : Upd (fun b => b = w.heap.size + 1 ∨ b = w.heap.size + 2) w1 w4 := hU3.trans hV4
  have hz4 := hU4.size
  have hX4 : Ext w w4 := hE1.more hU4 fun b hb h => by omega
  have hb4 := hX4.blk_some hb id
  have ht4 : blk w4 (w.heap.size + 2) = some (#[.int .i64 0,.slice none 0 0,.bool false,.slice (some ⟨w.heap.size + 1,0,none⟩) 5 5,.slice none 0 0],26,(0,0)) := by
    rw [← hw4,blk_wr_ne (by omega)]
    exact ht3
  clear hw4
  have hf1 : TreeC (fun b => w1.heap.size ≤ b) w4 (.num (IntKind.i8.wrap (t.at 1).n)) [.int .i64 (IntKind.i8.wrap (t.at 1).n),.slice none 0 0,.bool false,.slice none 0 0,.slice none 0 0] := (TreeC.keep (hv4.keeps fun b hb hk e => by have hk' : w1.heap.size ≤ b := hk;omega) (TreeC.intro (tl8 _) (BytesV.nil _ _) (treesN _ _) (tagsN _ _) : TreeC (fun b => w1.heap.size ≤ b) w3.drew (.num (IntKind.i8.wrap (t.at 1).n)) [.int .i64 (IntKind.i8.wrap (t.at 1).n),.slice none 0 0,.bool false,.slice none 0 0,.slice none 0 0]))
  repeat ((first | refine qA rfl ?_|refine qB ?_|refine qC rfl ?_|refine qD ?_|refine qE ?_|refine qF ?_|refine qG ?_|refine qH ?_);try simp (maxSteps:=1000000)(disch:=(first|omega|(simp only [qI,qJ,qK]<;>omega)|exact qL _)) only [go_sem,↓reduceIte,n0,reduceCtorEq,n1,n2,n3,n4,n5,i0,i1,i2,i3,i4,i5,i6,i7,hb4,hl4,ht4,hq0,hq1,hq2,hq3,hq4,hq5])
  refine W.drawR (.take 0 (.take 1 (.take 2 (.take 3 (.take 4 (.take 5 (.take 6 (.only 7 (.take 8 (.last 9)))))))))) (NoB) mixed (by kernel_rfl) ?_
  try simp (maxSteps:=1000000)(disch:=(first|omega|(simp only [qI,qJ,qK]<;>omega)|exact qL _)) only [go_sem,↓reduceIte,n0,reduceCtorEq,n1,n2,n3,n4,n5,i0,i1,i2,i3,i4,i5,i6,i7,hb4,hl4,ht4,hq0,hq1,hq2,hq3,hq4,hq5,tl32]
  refine ⟨Upd.refl _ _,?_⟩
  have hlq5 : blk w4.drew (w.heap.size + 1) = _ := hl4
  have hx5 : Upd (fun b => b = w.heap.size + 1 ∨ b = w.heap.size + 2) w4 w4.drew := (Upd.refl _ _).drew
  generalize hw5 : wr w4.drew (w.heap.size + 1) 10 [.int .i64 (IntKind.i32.wrap (t.at 2).n),.slice none 0 0,.bool false,.slice none 0 0,.slice none 0 0] = w5
  have hl5 : blk w5 (w.heap.size + 1) = some (#[.int .i64 0,.slice (some a2) ((t.at 0).s).length k2,.bool false,.slice none 0 0,.slice none 0 0,.int .i64 (IntKind.i8.wrap (t.at 1).n),.slice none 0 0,.bool false,.slice none 0 0,.slice none 0 0,.int .i64 (IntKind.i32.wrap (t.at 2).n),.slice none 0 0,.bool false,.slice none 0 0,.slice none 0 0,.int .i64 0,.slice none 0 0,.bool false,.slice none 0 0,.slice none 0 0,.int .i64 0,.slice none 0 0,.bool false,.slice none 0 0,.slice none 0 0],26,(0,0)) := by rw [← hw5,blk_wr_eq,hlq5];rfl
  have hv5 : Upd (fun b => b = w.heap.size + 1 ∨ b = w.heap.size + 2) w4.drew w5 := by rw [← hw5];exact (Upd.refl _ _).wr _ _ (.inr (.inl rfl))
  have hV5 : Upd (fun b => b = w.heap.size + 1 ∨ b = w.heap.size + 2) w4 w5 := hx5.trans hv5
  have hU5 : Upd (fun b => b = w.heap.size + 1 ∨ b = w.heap.size + 2) w1 w5 := hU4.trans hV5
  have hz5 := hU5.size
  have hX5 : Ext w w5 := hE1.more hU5 fun b hb h => by omega
  have hb5 := hX5.blk_some hb id
  have ht5 : blk w5 (w.heap.size + 2) = some (#[.int .i64 0,.slice none 0 0,.bool false,.slice (some ⟨w.heap.size + 1,0,none⟩) 5 5,.slice none 0 0],26,(0,0)) := by
    rw [← hw5,blk_wr_ne (by omega)]
    exact ht4
  clear hw5
  have hf2 : TreeC (fun b => w1.heap.size ≤ b) w5 (.num (IntKind.i32.wrap (t.at 2).n)) [.int .i64 (IntKind.i32.wrap (t.at 2).n),.slice none 0 0,.bool false,.slice none 0 0,.slice none 0 0] := (TreeC.keep (hv5.keeps fun b hb hk e => by have hk' : w1.heap.size ≤ b := hk;omega) (TreeC.intro (tl32 _) (BytesV.nil _ _) (treesN _ _) (tagsN _ _) : TreeC (fun b => w1.heap.size ≤ b) w4.drew (.num (IntKind.i32.wrap (t.at 2).n)) [.int .i64 (IntKind.i32.wrap (t.at 2).n),.slice none 0 0,.bool false,.slice none 0 0,.slice none 0 0]))
  repeat ((first | refine qA rfl ?_|refine qB ?_|refine qC rfl ?_|refine qD ?_|refine qE ?_|refine qF ?_|refine qG ?_|refine qH ?_);try simp (maxSteps:=1000000)(disch:=(first|omega|(simp only [qI,qJ,qK]<;>omega)|exact qL _)) only [go_sem,↓reduceIte,n0,reduceCtorEq,n1,n2,n3,n4,n5,i0,i1,i2,i3,i4,i5,i6,i7,hb5,hl5,ht5,hq0,hq1,hq2,hq3,hq4,hq5])
  refine W.drawR (.take 0 (.take 1 (.take 2 (.take 3 (.take 4 (.take 5 (.only 6 (.take 7 (.last 8))))))))) (NoB) mixed (by kernel_rfl) ?_
  try simp (maxSteps:=1000000)(disch:=(first|omega|(simp only [qI,qJ,qK]<;>omega)|exact qL _)) only [go_sem,↓reduceIte,n0,reduceCtorEq,n1,n2,n3,n4,n5,i0,i1,i2,i3,i4,i5,i6,i7,hb5,hl5,ht5,hq0,hq1,hq2,hq3,hq4,hq5]
  refine (octetsTree_fn (ok := ok) _ (t.at 3).null (t.at 3).s w5.drew (hp3.keep (Ext.keeps (hX5.drew) _)) (by have := (gd3.one (by decide)).2.1;omega)).mono ?_
  rintro _ w6 ⟨⟨vS6,rfl,hB6⟩,hEx6⟩
  have hfl6 := hB6.flat
  have hP6 : Upd NoB w5.drew w6 := (Upd.refl _ _).trans (hEx6.mono fun _ h => h.elim)
  have hsq6 := hEx6.size
  try simp only [size_drew] at hsq6
  refine ⟨hP6,?_⟩
  try simp (maxSteps:=1000000)(disch:=(first|omega|(simp only [qI,qJ,qK]<;>omega)|exact qL _)) only [go_sem,↓reduceIte,n0,reduceCtorEq,n1,n2,n3,n4,n5,i0,i1,i2,i3,i4,i5,i6,i7,hb5,hl5,ht5,hq0,hq1,hq2,hq3,hq4,hq5,hfl6]
  have hlq7 := hP6.blk_some (show blk w5.drew (w.heap.size + 1) = _ from hl5) id
  have hx7 : Upd (fun b => b = w.heap.size + 1 ∨ b = w.heap.size + 2) w5 w6 := ((Upd.refl _ _).drew).trans (hP6.mono fun _ h => h.elim)
  try simp (maxSteps:=1000000)(disch:=(first|omega|(simp only [qI,qJ,qK]<;>omega)|exact qL _)) only [go_sem,↓reduceIte,n0,reduceCtorEq,n1,n2,n3,n4,n5,i0,i1,i2,i3,i4,i5,i6,i7,hlq7]
  generalize hw7 : wr w6 (w.heap.size + 1) 15 [.int .i64 0,vS6,.bool (t.at 3).null,.slice none 0 0,.slice none 0 0] = w7
  have hl7 : blk w7 (w.heap.size + 1) = some (#[.int .i64 0,.slice (some a2) ((t.at 0).s).length k2,.bool false,.slice none 0 0,.slice none 0 0,.int .i64 (IntKind.i8.wrap (t.at 1).n),.slice none 0 0,.bool false,.slice none 0 0,.slice none 0 0,.int .i64 (IntKind.i32.wrap (t.at 2).n),.slice none 0 0,.bool false,.slice none 0 0,.slice none 0 0,.int .i64 0,vS6,.bool (t.at 3).null,.slice none 0 0,.slice none 0 0,.int .i64 0,.slice none 0 0,.bool false,.slice none 0 0,.slice none 0 0],26,(0,0)) := by rw [← hw7,blk_wr_eq,hlq7];rfl
  have hv7 : Upd (fun b => b = w.heap.size + 1 ∨ b = w.heap.size + 2) w6 w7 := by rw [← hw7];exact (Upd.refl _ _).wr _ _ (.inr (.inl rfl))
  have hV7 : Upd (fun b => b = w.heap.size + 1 ∨ b = w.heap.size + 2) w5 w7 := hx7.trans hv7
  have hU7 : Upd (fun b => b = w.heap.size + 1 ∨ b = w.heap.size + 2) w1 w7 := hU5.trans hV7
  have hz7 := hU7.size
  have hX7 : Ext w w7 := hE1.more hU7 fun b hb h => by omega
  have hb7 := hX7.blk_some hb id
  have ht7 : blk w7 (w.heap.size + 2) = some (#[.int .i64 0,.slice none 0 0,.bool false,.slice (some ⟨w.heap.size + 1,0,none⟩) 5 5,.slice none 0 0],26,(0,0)) := by
    rw [← hw7,blk_wr_ne (by omega)]
    exact hP6.blk_some (show blk w5.drew (w.heap.size + 2) = _ from ht5) id
  clear hw7
  have hf3 : TreeC (fun b => w1.heap.size ≤ b) w7 (.oct (t.at 3).null (if (t.at 3).null = true then [] else (t.at 3).s)) [.int .i64 0,vS6,.bool (t.at 3).null,.slice none 0 0,.slice none 0 0] := (TreeC.keep (hv7.keeps fun b hb hk e => by have hk' : w1.heap.size ≤ b := hk;omega) (TreeC.intro rfl (hB6.weaken fun b _ hk => by have hk' : w5.drew.heap.size ≤ b := hk;(try simp only [size_drew] at hk');omega) (treesN _ _) (tagsN _ _) : TreeC (fun b => w1.heap.size ≤ b) w6 (.oct (t.at 3).null (if (t.at 3).null = true then [] else (t.at 3).s)) [.int .i64 0,vS6,.bool (t.at 3).null,.slice none 0 0,.slice none 0 0]))
  repeat ((first | refine qA rfl ?_|refine qB ?_|refine qC rfl ?_|refine qD ?_|refine qE ?_|refine qF ?_|refine qG ?_|refine qH ?_);try simp (maxSteps:=1000000)(disch:=(first|omega|(simp only [qI,qJ,qK]<;>omega)|exact qL _)) only [go_sem,↓reduceIte,n0,reduceCtorEq,n1,n2,n3,n4,n5,i0,i1,i2,i3,i4,i5,i6,i7,hb7,hl7,ht7,hq0,hq1,hq2,hq3,hq4,hq5])
  refine W.drawR (.take 0 (.take 1 (.take 2 (.take 3 (.take 4 (.take 5 (.only 6 (.take 7 (.last 8))))))))) (NoB) mixed (by kernel_rfl) ?_
  try simp (maxSteps:=1000000)(disch:=(first|omega|(simp only [qI,qJ,qK]<;>omega)|exact qL _)) only [go_sem,↓reduceIte,n0,reduceCtorEq,n1,n2,n3,n4,n5,i0,i1,i2,i3,i4,i5,i6,i7,hb7,hl7,ht7,hq0,hq1,hq2,hq3,hq4,hq5]
  refine (octetsTree_fn (ok := ok) _ (t.at 4).null (t.at 4).s w7.drew (hp4.keep (Ext.keeps (hX7.drew) _)) (by have := (gd4.one (by decide)).2.1;omega)).mono ?_
  rintro _ w8 ⟨⟨vS8,rfl,hB8⟩,hEx8⟩
  have hfl8 := hB8.flat
  have hP8 : Upd NoB w7.drew w8 := (Upd.refl _ _).trans (hEx8.mono fun _ h => h.elim)
  have hsq8 := hEx8.size
  try simp only [size_drew] at hsq8
  refine ⟨hP8,?_⟩
  try simp (maxSteps:=1000000)(disch:=(first|omega|(simp only [qI,qJ,qK]<;>omega)|exact qL _)) only [go_sem,↓reduceIte,n0,reduceCtorEq,n1,n2,n3,n4,n5,i0,i1,i2,i3,i4,i5,i6,i7,hb7,hl7,ht7,hq0,hq1,hq2,hq3,hq4,hq5,hfl8]
  have hlq9 := hP8.blk_some (show blk w7.drew (w.heap.size + 1) = _ from hl7) id
  have hx9 : Upd (fun b => b = w.heap.size + 1 ∨ b = w.heap.size + 2) w7 w8 := ((Upd.refl _ _).drew).trans (hP8.mono fun _ h => h.elim)
  try simp (maxSteps:=1000000)(disch:=(first|omega|(simp only [qI,qJ,qK]<;>omega)|exact qL _)) only [go_sem,↓reduceIte,n0,reduceCtorEq,n1,n2,n3,n4,n5,i0,i1,i2,i3,i4,i5,i6,i7,hlq9]
  generalize hw9 : wr w8 (w.heap.size + 1) 20 [.int .i64 0,vS8,.bool (t.at 4).null,.slice none 0 0,.slice none 0 0] = w9
  have hl9 : blk w9 (w.heap.size + 1) = some (#[.int .i64 0,.slice (some a2) ((t.at 0).s).length k2,.bool false,.slice none 0 0,.slice none 0 0,.int .i64 (IntKind.i8.wrap (t.at 1).n),.slice none 0 0,.bool false,.slice none 0 0,.slice none 0 0,.int .i64 (IntKind.i32.wrap (t.at 2).n),.slice none 0 0,.bool false,.slice none 0 0,.slice none 0 0,.int .i64 0,vS6,.bool (t.at 3).null,.slice none 0 0,.slice none 0 0,.int .i64 0,vS8,.bool (t.at 4).null,.slice none 0 0,.slice none 0 0],26,(0,0)) := by rw [← hw9,blk_wr_eq,hlq9];rfl
  have hv9 : Upd (fun b => b = w.heap.size + 1 ∨ b = w.heap.size + 2) w8 w9 := by rw [← hw9];exact (Upd.refl _ _).wr _ _ (.inr (.inl rfl))
  have hV9 : Upd (fun b => b = w.heap.size + 1 ∨ b = w.heap.size + 2) w7 w9 := hx9.trans hv9
  have hU9 : Upd (fun b => b = w.heap.size + 1 ∨ b = w.heap.size + 2) w1 w9 := hU7.trans hV9
  have hz9 := hU9.size
  have hX9 : Ext w w9 := hE1.more hU9 fun b hb h => by omega
  have hb9 := hX9.blk_some hb id
  have ht9 : blk w9 (w.heap.size + 2) = some (#[.int .i64 0,.slice none 0 0,.bool false,.slice (some ⟨w.heap.size + 1,0,none⟩) 5 5,.slice none 0 0],26,(0,0)) := by
    rw [← hw9,blk_wr_ne (by omega)]
    exact hP8.blk_some (show blk w7.drew (w.heap.size + 2) = _ from ht7) id
  clear hw9
  have hf4 : TreeC (fun b => w1.heap.size ≤ b) w9 (.oct (t.at 4).null (if (t.at 4).null = true then [] else (t.at 4).s)) [.int .i64 0,vS8,.bool (t.at 4).null,.slice none 0 0,.slice none 0 0] := (TreeC.keep (hv9.keeps fun b hb hk e => by have hk' : w1.heap.size ≤ b := hk;omega) (TreeC.intro rfl (hB8.weaken fun b _ hk => by have hk' : w7.drew.heap.size ≤ b := hk;(try simp only [size_drew] at hk');omega) (treesN _ _) (tagsN _ _) : TreeC (fun b => w1.heap.size ≤ b) w8 (.oct (t.at 4).null (if (t.at 4).null = true then [] else (t.at 4).s)) [.int .i64 0,vS8,.bool (t.at 4).null,.slice none 0 0,.slice none 0 0]))
  repeat ((first | refine qA rfl ?_|refine qB ?_|refine qC rfl ?_|refine qD ?_|refine qE ?_|refine qF ?_|refine qG ?_|refine qH ?_);try simp (maxSteps:=1000000)(disch:=(first|omega|(simp only [qI,qJ,qK]<;>omega)|exact qL _)) only [go_sem,↓reduceIte,n0,reduceCtorEq,n1,n2,n3,n4,n5,i0,i1,i2,i3,i4,i5,i6,i7,hb9,hl9,ht9,hq0,hq1,hq2,hq3,hq4,hq5])
  refine (EachG_fn (ok := fun b => b < w.heap.size) 253 ca_253 #[.pointer (some ⟨w.heap.size + 2,0,none⟩)] w9 (tb := b) (to := o + 5) hb9 hq5 ((hT.weaken fun b hb _ => hb).keep (hX9.keeps _)) (sortT_perm _) (sortT_lt hgu.2.1) (by rw [(sortT_perm t.u).length_eq];exact hgu.1)
    (fun b => b = w.heap.size + 2) (by omega) (fun b hb hk e => by have hk' : b < w.heap.size := hk;omega) (fun b hb => by have := blk_lt ht9;omega)
    (fun wl done w' => ∃ v,blk w' (w.heap.size + 2) = some (#[.int .i64 0,.slice none 0 0,.bool false,.slice (some ⟨w.heap.size + 1,0,none⟩) 5 5,v],26,(0,0)) ∧ GrowU (fun b => w1.heap.size ≤ b) wl.heap.size (w.heap.size + 2) w' 65 v done) (fun wl hE => ⟨_,hE.blk_some ht9 id,GrowU.nil _ _ _ _ _⟩) ?_).mono ?_
  · rintro wl hE done y vv wc hpre ⟨v,hbv,hg⟩ hU hvv hy
    have hz' := hE.size
    have hzu := hU.size
    have htl := blk_lt ht9
    have hpl := hpre.length_le
    simp only [List.length_append,List.length_cons,List.length_nil] at hpl
    rw [(sortT_perm t.u).length_eq] at hpl
    have hlu := hgu.1
    have hmy : y ∈ t.u := (sortT_perm t.u).mem_iff.1 (hpre.subset (by simp))
    refine (tagclX0_fn (ok := fun b => b < w.heap.size) _ _ _ _ v done y vv wc hbv hg hzu (by omega) (hvv.keep ((hE.mono (fun _ h => h.elim) |>.trans hU : Upd (fun b => b = w.heap.size + 2) w9 wc).keeps fun b _ hk e => by have hk' : b < w.heap.size := hk;omega)) hy (hgu.2.2 y hmy) (by omega) (fun b hb => by have := hz9;omega)).mono ?_
    rintro _ w2' ⟨⟨v',h1,h2⟩,h3⟩
    exact ⟨⟨v',h1,h2⟩,hU.trans' h3 fun b hb h => h.elim id fun h => by omega⟩
  rintro _ w10 ⟨wl,hEl,⟨v,ht10,hgU⟩,hUe⟩
  have hzl := hEl.size
  obtain ⟨aU,kU,hvs,_⟩ := hgU.shape
  subst hvs
  have hV10 : Upd (fun b => b = w.heap.size + 1 ∨ b = w.heap.size + 2) w9 w10 := (hEl.mono fun _ h => h.elim).trans (hUe.mono fun _ h => .inr h)
  have hU10 : Upd (fun b => b = w.heap.size + 1 ∨ b = w.heap.size + 2) w1 w10 := hU9.trans hV10
  have hz10 := hU10.size
  have hX10 : Ext w w10 := hE1.more hU10 fun b hb h => by omega
  have hb10 := hX10.blk_some hb id
  have hl10 := (((hEl.mono fun _ h => h.elim).trans hUe : Upd (fun b => b = w.heap.size + 2) w9 w10)).blk_some hl9 (by omega)
  have hTU := hgU.tags (ok' := (fun b => w1.heap.size ≤ b)) (fun _ _ h => h) (fun b hb => by have := hz9;omega)
  repeat ((first | refine qA rfl ?_|refine qB ?_|refine qC rfl ?_|refine qD ?_|refine qE ?_|refine qF ?_|refine qG ?_|refine qH ?_);try simp (maxSteps:=1000000)(disch:=(first|omega|(simp only [qI,qJ,qK]<;>omega)|exact qL _)) only [go_sem,↓reduceIte,n0,reduceCtorEq,n1,n2,n3,n4,n5,i0,i1,i2,i3,i4,i5,i6,i7,hb10,hl10,ht10,hq0,hq1,hq2,hq3,hq4,hq5,cellsAt_five])
  refine (sorted_fn _ _ w10 hTU (sortT_lt hgu.2.1) (by rw [(sortT_perm t.u).length_eq];exact hgu.1)).mono ?_
  rintro _ w11 hEs
  have hV11 : Upd (fun b => b = w.heap.size + 1 ∨ b = w.heap.size + 2) w10 w11 := hEs.mono fun _ h => h.elim
  have hU11 : Upd (fun b => b = w.heap.size + 1 ∨ b = w.heap.size + 2) w1 w11 := hU10.trans hV11
  have hz11 := hU11.size
  have hX11 : Ext w w11 := hE1.more hU11 fun b hb h => by omega
  have hb11 := hX11.blk_some hb id
  have hl11 := hEs.blk_some hl10 id
  have ht11 := hEs.blk_some ht10 id
  have hr11 := (hU11.blk_some hr1 (by omega))
  have hC_11 : Upd (fun b => b = w.heap.size + 1 ∨ b = w.heap.size + 2) w11 w11 := Upd.refl _ _
  have hC_10 : Upd (fun b => b = w.heap.size + 1 ∨ b = w.heap.size + 2) w10 w11 := hV11.trans hC_11
  have hC_9 : Upd (fun b => b = w.heap.size + 1 ∨ b = w.heap.size + 2) w9 w11 := hV10.trans hC_10
  have hC_7 : Upd (fun b => b = w.heap.size + 1 ∨ b = w.heap.size + 2) w7 w11 := hV9.trans hC_9
  have hC_5 : Upd (fun b => b = w.heap.size + 1 ∨ b = w.heap.size + 2) w5 w11 := hV7.trans hC_7
  have hC_4 : Upd (fun b => b = w.heap.size + 1 ∨ b = w.heap.size + 2) w4 w11 := hV5.trans hC_5
  have hC_3 : Upd (fun b => b = w.heap.size + 1 ∨ b = w.heap.size + 2) w3 w11 := hV4.trans hC_4
  have hC_1 : Upd (fun b => b = w.heap.size + 1 ∨ b = w.heap.size + 2) w1 w11 := hV3.trans hC_3
  have hF0 := TreeC.keep (hC_3.keeps fun b hb hk e => by have hk' : w1.heap.size ≤ b := hk;omega) hf0
  have hF1 := TreeC.keep (hC_4.keeps fun b hb hk e => by have hk' : w1.heap.size ≤ b := hk;omega) hf1
  have hF2 := TreeC.keep (hC_5.keeps fun b hb hk e => by have hk' : w1.heap.size ≤ b := hk;omega) hf2
  have hF3 := TreeC.keep (hC_7.keeps fun b hb hk e => by have hk' : w1.heap.size ≤ b := hk;omega) hf3
  have hF4 := TreeC.keep (hC_9.keeps fun b hb hk e => by have hk' : w1.heap.size ≤ b := hk;omega) hf4
  replace hF0 : TreeC (fun b => w1.heap.size ≤ b) w11 (tlF (tlP d) fX0_0 (t.at 0)) [.int .i64 0,.slice (some a2) ((t.at 0).s).length k2,.bool false,.slice none 0 0,.slice none 0 0] := hF0
  replace hF1 : TreeC (fun b => w1.heap.size ≤ b) w11 (tlF (tlP d) fX0_1 (t.at 1)) [.int .i64 (IntKind.i8.wrap (t.at 1).n),.slice none 0 0,.bool false,.slice none 0 0,.slice none 0 0] := hF1
  replace hF2 : TreeC (fun b => w1.heap.size ≤ b) w11 (tlF (tlP d) fX0_2 (t.at 2)) [.int .i64 (IntKind.i32.wrap (t.at 2).n),.slice none 0 0,.bool false,.slice none 0 0,.slice none 0 0] := hF2
  replace hF3 : TreeC (fun b => w1.heap.size ≤ b) w11 (tlF (tlP d) fX0_3 (t.at 3)) [.int .i64 0,vS6,.bool (t.at 3).null,.slice none 0 0,.slice none 0 0] := hF3
  replace hF4 : TreeC (fun b => w1.heap.size ≤ b) w11 (tlF (tlP d) fX0_4 (t.at 4)) [.int .i64 0,vS8,.bool (t.at 4).null,.slice none 0 0,.slice none 0 0] := hF4
  have hTL : TreesV (fun b => (fun b => w1.heap.size ≤ b) b ∨ b = w.heap.size + 1) w11 (.slice (some ⟨w.heap.size + 1,0,none⟩) 5 5) [tlF (tlP d) fX0_0 (t.at 0),tlF (tlP d) fX0_1 (t.at 1),tlF (tlP d) fX0_2 (t.at 2),tlF (tlP d) fX0_3 (t.at 3),tlF (tlP d) fX0_4 (t.at 4)] := by
    refine ⟨[[.int .i64 0,.slice (some a2) ((t.at 0).s).length k2,.bool false,.slice none 0 0,.slice none 0 0],[.int .i64 (IntKind.i8.wrap (t.at 1).n),.slice none 0 0,.bool false,.slice none 0 0,.slice none 0 0],[.int .i64 (IntKind.i32.wrap (t.at 2).n),.slice none 0 0,.bool false,.slice none 0 0,.slice none 0 0],[.int .i64 0,vS6,.bool (t.at 3).null,.slice none 0 0,.slice none 0 0],[.int .i64 0,vS8,.bool (t.at 4).null,.slice none 0 0,.slice none 0 0]],⟨_,5,rfl,Nat.le_refl _,(by intro cs hm;simp only [List.mem_cons,List.not_mem_nil,or_false] at hm;rcases hm with rfl | rfl | rfl | rfl | rfl <;> rfl),.inr ⟨_,rfl,rfl,.inr rfl,_,hl11,fun i hi => by rw [Nat.zero_add,List.getElem?_toArray];rfl⟩⟩,rfl,fun i h1 h2 => ?_⟩
    match i,h1 with
    | 0,_ => exact TreeC.weaken (fun b _ hk => .inl hk) hF0
    | 1,_ => exact TreeC.weaken (fun b _ hk => .inl hk) hF1
    | 2,_ => exact TreeC.weaken (fun b _ hk => .inl hk) hF2
    | 3,_ => exact TreeC.weaken (fun b _ hk => .inl hk) hF3
    | 4,_ => exact TreeC.weaken (fun b _ hk => .inl hk) hF4
  repeat ((first | refine qA rfl ?_|refine qB ?_|refine qC rfl ?_|refine qD ?_|refine qE ?_|refine qF ?_|refine qG ?_|refine qH ?_);try simp (maxSteps:=1000000)(disch:=(first|omega|(simp only [qI,qJ,qK]<;>omega)|exact qL _)) only [go_sem,↓reduceIte,n0,reduceCtorEq,n1,n2,n3,n4,n5,i0,i1,i2,i3,i4,i5,i6,i7,hb11,hl11,ht11,hq0,hq1,hq2,hq3,hq4,hq5,hr11,cellsAt_five])
  refine ⟨⟨_,rfl,?_⟩,hX11.wr _ _ (.inl (Nat.le_refl _))⟩
  have hUr : Upd (fun b => b = w.heap.size) w11 (wr w11 w.heap.size 0 [.int .i64 0,.slice none 0 0,.bool false,.slice (some ⟨w.heap.size + 1,0,none⟩) 5 5,.slice aU (sortT t.u).length kU]) := (Upd.refl _ _).wr _ _ (.inr rfl)
  have hTU2 := hTU.keep (hEs.keeps _)
  exact TreeC.intro rfl (BytesV.nil _ _) ((hTL.keep (hUr.keeps fun b _ hk e => by rcases hk with hk | hk <;> omega)).weaken fun b _ hk => by rcases hk with hk | hk <;> omega) ((hTU2.keep (hUr.keeps fun b _ hk e => by omega)).weaken fun b _ hk => by omega)

theorem tagclAlterUserSCRAMCredentialsRequest_fn {ok OK : Blocks} {B tb : Nat} (c0 c1 c2 c3 v : Value) (done : List TagD) (y : TagD) (vv : Value) (w : World) (hbt : blk w tb = some (#[c0,c1,c2,c3,v],26,(0,0))) (hg : GrowU OK B tb w 65 v done) (hB : B ≤ w.heap.size) (htb : tb < B) (hvv : BytesV ok w vv y.2) (hy : y.1 < 2 ^ 32) (hyl : y.2.length ≤ 32767) (hdl : done.length ≤ 32767) (hOK : ∀ b,B ≤ b → OK b) :
    Fn Tryd.prog 169 #[.int .u32 y.1,vv,.pointer (some ⟨tb,0,none⟩)] w fun _ w' => (∃ v',blk w' tb = some (#[c0,c1,c2,c3,v'],26,(0,0)) ∧ GrowU OK B tb w' 65 v' (done ++ [y])) ∧ Upd (fun b => b = tb ∨ B ≤ b) w w' := by
  have htl := blk_lt hbt
  refine fn_of_W Tryd.func169 rfl Tryd.results169 Tryd.ntmps169 rfl ?_
  repeat ((first | refine qA rfl ?_|refine qB ?_|refine qC rfl ?_|refine qD ?_|refine qE ?_|refine qF ?_|refine qG ?_|refine qH ?_);try simp (maxSteps:=1000000)(disch:=(first|omega|(simp only [qI,qJ,qK]<;>omega)|exact qL _)) only [go_sem,↓reduceIte,n0,reduceCtorEq,n1,n2,n3,n4,n5,i0,i1,i2,i3,i4,i5,i6,i7])
  obtain ⟨av,kv,rfl,_⟩ := hg.shape
  have hnb : ∀ b,b < B ∨ w.heap.size ≤ b → ¬ ownB (.slice av done.length kv) b := fun b hb h => by
    have := hg.above h
    have := hg.below h
    omega
  refine W.drawR (.take 0 (.take 1 (.take 2 (.take 3 (.only 4 (.only 5 (.only 6 (.only 7 (.take 8 (.last 9)))))))))) (ownB (.slice av done.length kv)) mixed (by kernel_rfl) ?_
  simp (maxSteps:=1000000)(disch:=(first|omega|(simp only [qI,qJ,qK]<;>omega)|exact qL _ | (refine hnb _ ?_;first | omega | (simp only [World.size_alloc,size_wr,size_drew] <;> omega)))) only [go_sem,↓reduceIte,n0,reduceCtorEq,n1,n2,n3,n4,n5,i0,i1,i2,i3,i4,i5,i6,i7,hbt]
  refine wp_copyN ap_22_22 (ok := ok) (s := y.2) (v := vv) (by first | rfl | simp (maxSteps:=1000000)(disch:=(first|omega|(simp only [qI,qJ,qK]<;>omega)|exact qL _)) only [go_sem,↓reduceIte,n0,reduceCtorEq,n1,n2,n3,n4,n5,i0,i1,i2,i3,i4,i5,i6,i7]) (by first | rfl | simp (maxSteps:=1000000)(disch:=(first|omega|(simp only [qI,qJ,qK]<;>omega)|exact qL _)) only [go_sem,↓reduceIte,n0,reduceCtorEq,n1,n2,n3,n4,n5,i0,i1,i2,i3,i4,i5,i6,i7]) (hvv.keep (Ext.keeps ((Upd.refl _ _).drew) _)) (by omega) ?_
  intro v1 w1 ho1 hE1 hf1
  obtain ⟨a1,k1,rfl,_⟩ := ho1.shape
  have hB1 := Own.bytes (ok := fun b => w.heap.size ≤ b) ho1 fun b hb => hf1 b hb
  have hP1 : Upd (ownB (.slice av done.length kv)) w.drew w1 := hE1.mono fun _ h => h.elim
  have hs1 := hE1.size
  simp only [size_drew] at hs1
  refine ⟨hP1,?_⟩
  simp (maxSteps:=1000000)(disch:=(first|omega|(simp only [qI,qJ,qK]<;>omega)|exact qL _ | (refine hnb _ ?_;first | omega | (simp only [World.size_alloc,size_wr,size_drew] <;> omega)))) only [go_sem,↓reduceIte,n0,reduceCtorEq,n1,n2,n3,n4,n5,i0,i1,i2,i3,i4,i5,i6,i7,hbt]
  refine ⟨hP1,?_⟩
  have hP2 : Upd (ownB (.slice av done.length kv)) w.drew (w1.alloc (.cells #[.int .u32 y.1,.slice a1 y.2.length k1] 65)) := hP1.alloc _
  have hn2 : blk (w1.alloc (.cells #[.int .u32 y.1,.slice a1 y.2.length k1] 65)) w1.heap.size = some (#[.int .u32 y.1,.slice a1 y.2.length k1],65,(0,0)) := blk_alloc_new rfl
  have hs2 : (w1.alloc (.cells #[.int .u32 y.1,.slice a1 y.2.length k1] 65)).heap.size = w1.heap.size + 1 := World.size_alloc _ _
  have hE2 : Ext w1 (w1.alloc (.cells #[.int .u32 y.1,.slice a1 y.2.length k1] 65)) := Upd.alloc (Upd.refl _ _) _
  refine ⟨hP2,?_⟩
  try simp only [List.append_nil]
  generalize (w1.alloc (.cells #[.int .u32 y.1,.slice a1 y.2.length k1] 65)) = w2 at *
  have hEw : Ext w w2 := (((Upd.refl _ _).drew).trans hE1).trans hE2
  obtain ⟨css,hown,hall⟩ := (hg.ext hEw).ex
  have hcl := hall.1
  have hx2 : TagC (fun b => OK b ∧ b ≠ tb ∧ ¬ ownB (.slice av done.length kv) b) w2 y [.int .u32 y.1,.slice a1 y.2.length k1] := ⟨_,rfl,(hB1.keep (hE2.keeps _)).weaken fun b _ hk => ⟨hOK b (by omega),by omega,hnb b (.inr hk)⟩,hy⟩
  refine wp_append ap_24_24 (m := 1) (news := [.int .u32 y.1,.slice a1 y.2.length k1]) (n := css.length) (cs := css.flatten) (v := .slice av done.length kv) ?_ rfl hown.1 hall.flat_cells (Src.blk (fr := (0,0)) (T := 65) hn2 rfl rfl) ?_ ?_ ?_
  · first | rfl | simp (maxSteps:=1000000)(disch:=(first|omega|(simp only [qI,qJ,qK]<;>omega)|exact qL _)) only [go_sem,↓reduceIte,n0,reduceCtorEq,n1,n2,n3,n4,n5,i0,i1,i2,i3,i4,i5,i6,i7]
  · omega
  · omega
  intro v' w3 ho hu hfr
  have hg3 := GrowU.snoc hown hall hx2 hu hfr ho
  obtain ⟨va,vc,hv',_⟩ := ho.shape
  subst hv'
  have hP3 := hP2.trans hu
  have hs3 := hu.size
  have hbt3 := hP3.blk_some (show blk w.drew tb = _ from hbt) (hnb _ (.inl htb))
  have hne : ¬ ownB (.slice va (css.length + 1) vc) tb := fun h => (hfr _ h).elim (hnb _ (.inl htb)) (fun h => by omega)
  refine ⟨hP3,?_⟩
  simp (maxSteps:=1000000)(disch:=(first|omega|(simp only [qI,qJ,qK]<;>omega)|exact qL _ | (refine hnb _ ?_;first | omega | (simp only [World.size_alloc,size_wr,size_drew] <;> omega)))) only [go_sem,↓reduceIte,n0,reduceCtorEq,n1,n2,n3,n4,n5,i0,i1,i2,i3,i4,i5,i6,i7,hbt3]
  repeat ((first | refine qA rfl ?_|refine qB ?_|refine qC rfl ?_|refine qD ?_|refine qE ?_|refine qF ?_|refine qG ?_|refine qH ?_);try simp (maxSteps:=1000000)(disch:=(first|omega|(simp only [qI,qJ,qK]<;>omega)|exact qL _)) only [go_sem,↓reduceIte,n0,reduceCtorEq,n1,n2,n3,n4,n5,i0,i1,i2,i3,i4,i5,i6,i7])
  refine ⟨⟨.slice va (css.length + 1) vc,by first | (rw [blk_wr_eq,hbt3];rfl) | rfl | (rw [hbt3];rfl) | (rw [blk_wr_eq,hbt3]),hg3.upd ((Upd.refl _ _).wr _ _ (.inr rfl)) hne⟩,?_⟩
  refine Upd.wr ?_ _ _ (.inr (.inl rfl))
  exact (((Upd.refl (fun b => b = tb ∨ B ≤ b) w).drew).trans (hP3.mono fun b h => .inr (hg.above h)))

set_option maxHeartbeats 4000000 in
theorem tellAlterUserSCRAMCredentialsRequest_fn {d : Nat} {ok : Blocks} (t : Tree) (cs : List Value) (w : World) {b : Nat} {x : Blk} (hb : blk w b = some x) (hq : ∀ k,k < 3 → x.1[1 + k]? = cs[k]?) (hR : RepS true (d + 2) fs_AlterUserSCRAMCredentialsRequest ok w t cs) (hg : GoodP (d + 2) fs_AlterUserSCRAMCredentialsRequest t) :
    Fn Tryd.prog 100 #[.pointer (some ⟨b,0,none⟩)] w fun r w' => (∃ c,r = .agg c.toArray ∧ TreeC (fun b => w.heap.size ≤ b) w' (tlP (d + 2) fs_AlterUserSCRAMCredentialsRequest t) c) ∧ Ext w w' := by
  have hbl := blk_lt hb
  obtain ⟨⟨gd0,gd1,-⟩,hgu⟩ := hg
  replace gd0 : GoodF (GoodP (d + 1)) fAlterUserSCRAMCredentialsRequest_0 (t.at 0) := gd0
  replace gd1 : GoodF (GoodP (d + 1)) fAlterUserSCRAMCredentialsRequest_1 (t.at 1) := gd1
  obtain ⟨cs0,q,hcs,hL,hT⟩ := hR.inv
  obtain ⟨c0,e0,rfl,h0,c1,e1,rfl,h1,rfl⟩ := hL
  replace h0 : RepF (RepS true (d + 1)) (szS true (d + 1)) fAlterUserSCRAMCredentialsRequest_0 ok w (t.at 0) c0 := h0
  replace h1 : RepF (RepS true (d + 1)) (szS true (d + 1)) fAlterUserSCRAMCredentialsRequest_1 ok w (t.at 1) c1 := h1
  obtain ⟨ab0,ac0,L0,rfl,hL0,hnn0,hs0⟩ := RepF_listT rfl h0
  have hgl0 := gd0.listL rfl hL0
  obtain ⟨ab1,ac1,L1,rfl,hL1,hnn1,hs1⟩ := RepF_listT rfl h1
  have hgl1 := gd1.listL rfl hL1
  obtain ⟨qm,rfl⟩ := hT.shape
  subst hcs
  have hq0 : x.1[1]? = some (.slice ab0 L0.length ac0) := hq 0 (by decide)
  have hq1 : x.1[2]? = some (.slice ab1 L1.length ac1) := hq 1 (by decide)
  have hq2 : x.1[3]? = some (.map qm) := hq 2 (by decide)
  refine fn_of_W Tryd.func100 rfl Tryd.results100 Tryd.ntmps100 rfl ?_
  repeat ((first | refine qA rfl ?_|refine qB ?_|refine qC rfl ?_|refine qD ?_|refine qE ?_|refine qF ?_|refine qG ?_|refine qH ?_);try simp (maxSteps:=1000000)(disch:=(first|omega|(simp only [qI,qJ,qK]<;>omega)|exact qL _)) only [go_sem,↓reduceIte,n0,reduceCtorEq,n1,n2,n3,n4,n5,i0,i1,i2,i3,i4,i5,i6,i7])
  refine wp_make (T := 23) (E := 26) (size := 5) (bytes := 88) (z := .agg #[.int .i64 0,.slice none 0 0,.bool false,.slice none 0 0,.slice none 0 0]) (l := 2) (c := 2) (kl := .i64) (kc := .i64) (by kernel_rfl) (by kernel_rfl) (by first | rfl | (simp (maxSteps:=1000000)(disch:=(first|omega|(simp only [qI,qJ,qK]<;>omega)|exact qL _)) only [go_sem,↓reduceIte,n0,reduceCtorEq,n1,n2,n3,n4,n5,i0,i1,i2,i3,i4,i5,i6,i7];rfl)) (by first | rfl | (simp (maxSteps:=1000000)(disch:=(first|omega|(simp only [qI,qJ,qK]<;>omega)|exact qL _)) only [go_sem,↓reduceIte,n0,reduceCtorEq,n1,n2,n3,n4,n5,i0,i1,i2,i3,i4,i5,i6,i7];rfl)) (by omega) (by omega) (by omega) ?_
  have hmd : madeCells (Value.agg #[.int .i64 0,.slice none 0 0,.bool false,.slice none 0 0,.slice none 0 0]).cells (2 * 5) = #[.int .i64 0,.slice none 0 0,.bool false,.slice none 0 0,.slice none 0 0,.int .i64 0,.slice none 0 0,.bool false,.slice none 0 0,.slice none 0 0] := by kernel_rfl
  rw [hmd]
  simp (maxSteps:=1000000)(disch:=(first|omega|(simp only [qI,qJ,qK]<;>omega)|exact qL _)) only [go_sem,↓reduceIte,n0,reduceCtorEq,n1,n2,n3,n4,n5,i0,i1,i2,i3,i4,i5,i6,i7]
  repeat ((first | refine qA rfl ?_|refine qB ?_|refine qC rfl ?_|refine qD ?_|refine qE ?_|refine qF ?_|refine qG ?_|refine qH ?_);try simp (maxSteps:=1000000)(disch:=(first|omega|(simp only [qI,qJ,qK]<;>omega)|exact qL _)) only [go_sem,↓reduceIte,n0,reduceCtorEq,n1,n2,n3,n4,n5,i0,i1,i2,i3,i4,i5,i6,i7])
  have hE1 : Ext w (wr (((w.alloc (.cells #[.int .i64 0,.slice none 0 0,.bool false,.slice none 0 0,.slice none 0 0] 26)).alloc (.cells #[.int .i64 0,.slice none 0 0,.bool false,.slice none 0 0,.slice none 0 0,.int .i64 0,.slice none 0 0,.bool false,.slice none 0 0,.slice none 0 0] 26)).alloc (.cells #[.int .i64 0,.slice none 0 0,.bool false,.slice none 0 0,.slice none 0 0] 26)) (w.heap.size + 2) 0 [.int .i64 0,.slice none 0 0,.bool false,.slice (some ⟨w.heap.size + 1,0,none⟩) 2 2,.slice none 0 0]) := (Upd.alloc (Upd.alloc (Upd.alloc (Upd.refl _ _) _) _) _).wr _ _ (.inl (by omega))
  have hz1 : (wr (((w.alloc (.cells #[.int .i64 0,.slice none 0 0,.bool false,.slice none 0 0,.slice none 0 0] 26)).alloc (.cells #[.int .i64 0,.slice none 0 0,.bool false,.slice none 0 0,.slice none 0 0,.int .i64 0,.slice none 0 0,.bool false,.slice none 0 0,.slice none 0 0] 26)).alloc (.cells #[.int .i64 0,.slice none 0 0,.bool false,.slice none 0 0,.slice none 0 0] 26)) (w.heap.size + 2) 0 [.int .i64 0,.slice none 0 0,.bool false,.slice (some ⟨w.heap.size + 1,0,none⟩) 2 2,.slice none 0 0]).heap.size = w.heap.size + 3 := by simp only [size_wr,World.size_alloc]
  have hl1 : blk (wr (((w.alloc (.cells #[.int .i64 0,.slice none 0 0,.bool false,.slice none 0 0,.slice none 0 0] 26)).alloc (.cells #[.int .i64 0,.slice none 0 0,.bool false,.slice none 0 0,.slice none 0 0,.int .i64 0,.slice none 0 0,.bool false,.slice none 0 0,.slice none 0 0] 26)).alloc (.cells #[.int .i64 0,.slice none 0 0,.bool false,.slice none 0 0,.slice none 0 0] 26)) (w.heap.size + 2) 0 [.int .i64 0,.slice none 0 0,.bool false,.slice (some ⟨w.heap.size + 1,0,none⟩) 2 2,.slice none 0 0]) (w.heap.size + 1) = some (#[.int .i64 0,.slice none 0 0,.bool false,.slice none 0 0,.slice none 0 0,.int .i64 0,.slice none 0 0,.bool false,.slice none 0 0,.slice none 0 0],26,(0,0)) := by simp (maxSteps:=1000000)(disch:=(first|omega|(simp only [qI,qJ,qK]<;>omega)|exact qL _)) only [go_sem,↓reduceIte,n0,reduceCtorEq,n1,n2,n3,n4,n5,i0,i1,i2,i3,i4,i5,i6,i7]
  have ht1 : blk (wr (((w.alloc (.cells #[.int .i64 0,.slice none 0 0,.bool false,.slice none 0 0,.slice none 0 0] 26)).alloc (.cells #[.int .i64 0,.slice none 0 0,.bool false,.slice none 0 0,.slice none 0 0,.int .i64 0,.slice none 0 0,.bool false,.slice none 0 0,.slice none 0 0] 26)).alloc (.cells #[.int .i64 0,.slice none 0 0,.bool false,.slice none 0 0,.slice none 0 0] 26)) (w.heap.size + 2) 0 [.int .i64 0,.slice none 0 0,.bool false,.slice (some ⟨w.heap.size + 1,0,none⟩) 2 2,.slice none 0 0]) (w.heap.size + 2) = some (#[.int .i64 0,.slice none 0 0,.bool false,.slice (some ⟨w.heap.size + 1,0,none⟩) 2 2,.slice none 0 0],26,(0,0)) := by simp (maxSteps:=1000000)(disch:=(first|omega|(simp only [qI,qJ,qK]<;>omega)|exact qL _)) only [go_sem,↓reduceIte,n0,reduceCtorEq,n1,n2,n3,n4,n5,i0,i1,i2,i3,i4,i5,i6,i7]
  have hr1 : blk (wr (((w.alloc (.cells #[.int .i64 0,.slice none 0 0,.bool false,.slice none 0 0,.slice none 0 0] 26)).alloc (.cells #[.int .i64 0,.slice none 0 0,.bool false,.slice none 0 0,.slice none 0 0,.int .i64 0,.slice none 0 0,.bool false,.slice none 0 0,.slice none 0 0] 26)).alloc (.cells #[.int .i64 0,.slice none 0 0,.bool false,.slice none 0 0,.slice none 0 0] 26)) (w.heap.size + 2) 0 [.int .i64 0,.slice none 0 0,.bool false,.slice (some ⟨w.heap.size + 1,0,none⟩) 2 2,.slice none 0 0]) w.heap.size = some (#[.int .i64 0,.slice none 0 0,.bool false,.slice none 0 0,.slice none 0 0],26,(0,0)) := by simp (maxSteps:=1000000)(disch:=(first|omega|(simp only [qI,qJ,qK]<;>omega)|exact qL _)) only [go_sem,↓reduceIte,n0,reduceCtorEq,n1,n2,n3,n4,n5,i0,i1,i2,i3,i4,i5,i6,i7]
  generalize (wr (((w.alloc (.cells #[.int .i64 0,.slice none 0 0,.bool false,.slice none 0 0,.slice none 0 0] 26)).alloc (.cells #[.int .i64 0,.slice none 0 0,.bool false,.slice none 0 0,.slice none 0 0,.int .i64 0,.slice none 0 0,.bool false,.slice none 0 0,.slice none 0 0] 26)).alloc (.cells #[.int .i64 0,.slice none 0 0,.bool false,.slice none 0 0,.slice none 0 0] 26)) (w.heap.size + 2) 0 [.int .i64 0,.slice none 0 0,.bool false,.slice (some ⟨w.heap.size + 1,0,none⟩) 2 2,.slice none 0 0]) = w1 at *
  have hU1 : Upd (fun b => b = w.heap.size + 1 ∨ b = w.heap.size + 2) w1 w1 := Upd.refl _ _
  have hb1 := hE1.blk_some hb id
  repeat ((first | refine qA rfl ?_|refine qB ?_|refine qC rfl ?_|refine qD ?_|refine qE ?_|refine qF ?_|refine qG ?_|refine qH ?_);try simp (maxSteps:=1000000)(disch:=(first|omega|(simp only [qI,qJ,qK]<;>omega)|exact qL _)) only [go_sem,↓reduceIte,n0,reduceCtorEq,n1,n2,n3,n4,n5,i0,i1,i2,i3,i4,i5,i6,i7,hb1,hl1,ht1,hq0,hq1,hq2])
  refine W.drawR (.take 0 (.take 1 (.take 2 (.take 3 (.take 4 (.take 5 (.take 6 (.take 7 (.take 8 (.last 9)))))))))) (NoB) mixed (by kernel_rfl) ?_
  try simp (maxSteps:=1000000)(disch:=(first|omega|(simp only [qI,qJ,qK]<;>omega)|exact qL _)) only [go_sem,↓reduceIte,n0,reduceCtorEq,n1,n2,n3,n4,n5,i0,i1,i2,i3,i4,i5,i6,i7,hb1,hl1,ht1,hq0,hq1,hq2,hnn0]
  generalize hw2 : wr w1.drew (w.heap.size + 1) 2 [.bool (t.at 0).null] = w2
  have hl2 : blk w2 (w.heap.size + 1) = some (#[.int .i64 0,.slice none 0 0,.bool (t.at 0).null,.slice none 0 0,.slice none 0 0,.int .i64 0,.slice none 0 0,.bool false,.slice none 0 0,.slice none 0 0],26,(0,0)) := by rw [← hw2,blk_wr_eq,show blk w1.drew (w.heap.size + 1) = _ from hl1];rfl
  have hV2 : Upd (fun b => b = w.heap.size + 1 ∨ b = w.heap.size + 2) w1 w2 := by rw [← hw2];exact ((Upd.refl _ _).drew).wr _ _ (.inr (.inl rfl))
  have hU2 : Upd (fun b => b = w.heap.size + 1 ∨ b = w.heap.size + 2) w1 w2 := hU1.trans hV2
  have hz2 := hU2.size
  have hX2 : Ext w w2 := hE1.more hU2 fun b hb h => by omega
  have hb2 := hX2.blk_some hb id
  have ht2 : blk w2 (w.heap.size + 2) = some (#[.int .i64 0,.slice none 0 0,.bool false,.slice (some ⟨w.heap.size + 1,0,none⟩) 2 2,.slice none 0 0],26,(0,0)) := by
    rw [← hw2,blk_wr_ne (by omega)]
    exact ht1
  clear hw2
  repeat ((first | refine qA rfl ?_|refine qB ?_|refine qC rfl ?_|refine qD ?_|refine qE ?_|refine qF ?_|refine qG ?_|refine qH ?_);try simp (maxSteps:=1000000)(disch:=(first|omega|(simp only [qI,qJ,qK]<;>omega)|exact qL _)) only [go_sem,↓reduceIte,n0,reduceCtorEq,n1,n2,n3,n4,n5,i0,i1,i2,i3,i4,i5,i6,i7,hb2,hl2,ht2,hq0,hq1,hq2])
  refine W.exitJ 0 (EndQ [(0,.pointer (some ⟨b,0,none⟩)),(2,.pointer (some ⟨w.heap.size,0,none⟩)),(3,.pointer (some ⟨w.heap.size + 2,0,none⟩)),(21,.int .i64 L0.length)] (fun w' => ∃ v,blk w' (w.heap.size + 1) = some (#[.int .i64 0,.slice none 0 0,.bool (t.at 0).null,v,.slice none 0 0,.int .i64 0,.slice none 0 0,.bool false,.slice none 0 0,.slice none 0 0],26,(0,0)) ∧ GrowT (fun b => w1.heap.size ≤ b) w2.heap.size (w.heap.size + 1) w' 26 v (L0.map (tl1 (tlP (d + 1)) fAlterUserSCRAMCredentialsRequest_0.of fAlterUserSCRAMCredentialsRequest_0.sub)) ∧ Upd (fun b => b = w.heap.size + 1) w2 w')) (W.loop (LoopL [(0,.pointer (some ⟨b,0,none⟩)),(2,.pointer (some ⟨w.heap.size,0,none⟩)),(3,.pointer (some ⟨w.heap.size + 2,0,none⟩)),(21,.int .i64 L0.length)] 22 (fun j w' => ∃ v,j ≤ L0.length ∧ blk w' (w.heap.size + 1) = some (#[.int .i64 0,.slice none 0 0,.bool (t.at 0).null,v,.slice none 0 0,.int .i64 0,.slice none 0 0,.bool false,.slice none 0 0,.slice none 0 0],26,(0,0)) ∧ GrowT (fun b => w1.heap.size ≤ b) w2.heap.size (w.heap.size + 1) w' 26 v ((L0.take j).map (tl1 (tlP (d + 1)) fAlterUserSCRAMCredentialsRequest_0.of fAlterUserSCRAMCredentialsRequest_0.sub)) ∧ Upd (fun b => b = w.heap.size + 1) w2 w')) (fun ρ _ => L0.length - (RowKit.intOf (ρ 22)).toNat) ?_ ?_) ?_
  · exact ⟨(by simp (maxSteps:=1000000)(disch:=(first|omega|(simp only [qI,qJ,qK]<;>omega)|exact qL _)) only [go_sem,↓reduceIte,n0,reduceCtorEq,n1,n2,n3,n4,n5,i0,i1,i2,i3,i4,i5,i6,i7,Holds_nil,Holds_cons]),0,(by simp (maxSteps:=1000000)(disch:=(first|omega|(simp only [qI,qJ,qK]<;>omega)|exact qL _)) only [go_sem,↓reduceIte,n0,reduceCtorEq,n1,n2,n3,n4,n5,i0,i1,i2,i3,i4,i5,i6,i7];all_goals rfl),.slice none 0 0,Nat.zero_le _,hl2,GrowT.nil _ _ _ _ _,Upd.refl _ _⟩
  · rintro ρ w3 ⟨⟨hrc0_0,hrc0_2,hrc0_3,hrc0_21,-⟩,j,hri,v,hj,hl3,hg,hUk⟩
    have hzk := hUk.size
    have hX3 : Ext w w3 := hX2.more hUk fun b hb h => by omega
    have hz3 : w1.heap.size ≤ w3.heap.size := by have := hz2;omega
    have hb3 := hX3.blk_some hb id
    have ht3 := hUk.blk_some ht2 (by omega)
    by_cases hlt : j < L0.length
    · obtain ⟨_,be,oe,xe,ce,hbe,hoke,hxe,hble,hxs,hxx,hqe,hRe⟩ := SlR.get (size := 3) (by decide) hs0 hlt
      subst hbe
      have hcat : L0.take (j + 1) = L0.take j ++ [L0[j]] := List.take_succ_eq_append_getElem hlt
      have hgy := hgl0.2 _ (List.getElem_mem hlt)
      have hll := hgl0.1
      obtain ⟨av,kv,hvs,_⟩ := hg.shape
      have hlj : (List.map (tl1 (tlP (d + 1)) fAlterUserSCRAMCredentialsRequest_0.of fAlterUserSCRAMCredentialsRequest_0.sub) (L0.take j)).length = j := by simp;omega
      rw [hlj] at hvs
      subst hvs
      have hnb : ∀ b,b < w2.heap.size ∨ w3.heap.size ≤ b → ¬ ownB (.slice av j kv) b := fun b hb h => by
        have := hg.above h
        have := hg.below h
        omega
      generalize L0[j] = y at *
      repeat ((first | refine qA rfl ?_|refine qB ?_|refine qC rfl ?_|refine qD ?_|refine qE ?_|refine qF ?_|refine qG ?_|refine qH ?_);try simp (maxSteps:=1000000)(disch:=(first|omega|(simp only [qI,qJ,qK]<;>omega)|exact qL _)) only [go_sem,↓reduceIte,n0,reduceCtorEq,n1,n2,n3,n4,n5,i0,i1,i2,i3,i4,i5,i6,i7,hb3,hl3,ht3,hq0,hq1,hq2,hrc0_0,hrc0_2,hrc0_3,hrc0_21,hri])
      refine W.drawR (.only 0 (.two 1 (.only 2 (.only 3 .done)) 2 (.only 1 (.only 3 .done)))) NoB mixed (by kernel_rfl) ?_
      try simp (maxSteps:=1000000)(disch:=(first|omega|(simp only [qI,qJ,qK]<;>omega)|exact qL _)) only [go_sem,↓reduceIte,n0,reduceCtorEq,n1,n2,n3,n4,n5,i0,i1,i2,i3,i4,i5,i6,i7,hb3,hl3,ht3,hq0,hq1,hq2,hrc0_0,hrc0_2,hrc0_3,hrc0_21,hri]
      have q0 : Upd NoB w3.drew (w3.alloc (.cells #[.bool false] 4)).drew := show Upd NoB w3.drew (w3.drew.alloc (.cells #[.bool false] 4)) from Upd.alloc (Upd.refl _ _) _
      have q1 : Upd NoB w3.drew (wr (w3.alloc (.cells #[.bool false] 4)).drew w3.heap.size 0 [.bool true]) := q0.wr _ _ (.inl (Nat.le_refl _))
      have q2 : Upd NoB w3.drew (wr (wr (w3.alloc (.cells #[.bool false] 4)).drew w3.heap.size 0 [.bool true]) w3.heap.size 0 [.bool false]) := q1.wr _ _ (.inl (Nat.le_refl _))
      have q3 : Upd NoB w3.drew (wr (w3.alloc (.cells #[.bool false] 4)).drew w3.heap.size 0 [.bool false]) := q0.wr _ _ (.inl (Nat.le_refl _))
      have q4 : Upd NoB w3.drew (wr (wr (w3.alloc (.cells #[.bool false] 4)).drew w3.heap.size 0 [.bool false]) w3.heap.size 0 [.bool true]) := q3.wr _ _ (.inl (Nat.le_refl _))
      refine ⟨q0,⟨q1,q2,q2,?_⟩,⟨q3,q4,q4,?_⟩⟩
      · have hk4 : Ext w3 (wr (wr (w3.alloc (.cells #[.bool false] 4)).drew w3.heap.size 0 [.bool true]) w3.heap.size 0 [.bool false]) := ((Upd.refl _ _).drew).trans q2
        generalize (wr (wr (w3.alloc (.cells #[.bool false] 4)).drew w3.heap.size 0 [.bool true]) w3.heap.size 0 [.bool false]) = w4 at *
        have hzk4 := hk4.size
        have hX4 : Ext w w4 := hX3.trans hk4
        have hb4 := hk4.blk_some hb3 id
        have hl4 := hk4.blk_some hl3 id
        have ht4 := hk4.blk_some ht3 id
        have hxe4 := hX4.blk_some hxe id
        repeat ((first | refine qA rfl ?_|refine qB ?_|refine qC rfl ?_|refine qD ?_|refine qE ?_|refine qF ?_|refine qG ?_|refine qH ?_);try simp (maxSteps:=1000000)(disch:=(first|omega|(simp only [qI,qJ,qK]<;>omega)|exact qL _)) only [go_sem,↓reduceIte,n0,reduceCtorEq,n1,n2,n3,n4,n5,i0,i1,i2,i3,i4,i5,i6,i7,hb4,hl4,ht4,hxe4,Int.toNat_natCast,Nat.mul_one,hq0,hq1,hq2,hrc0_0,hrc0_2,hrc0_3,hrc0_21,hri])
        refine W.drawR (.take 0 (.take 1 (.take 2 (.take 3 (.take 4 (.take 5 (.take 6 (.take 7 (.take 8 (.take 9 (.take 10 (.take 11 (.take 12 (.only 13 (.only 14 (.only 15 (.take 16 (.take 17 (.last 18))))))))))))))))))) (ownB (.slice av j kv)) mixed (by kernel_rfl) ?_
        try simp (maxSteps:=1000000)(disch:=(first|omega|(simp only [qI,qJ,qK]<;>omega)|exact qL _ | (refine hnb _ ?_;first | omega | (simp only [World.size_alloc,size_wr,size_drew] <;> omega)))) only [go_sem,↓reduceIte,n0,reduceCtorEq,n1,n2,n3,n4,n5,i0,i1,i2,i3,i4,i5,i6,i7,hb4,hl4,ht4,hxe4,Int.toNat_natCast,Nat.mul_one,hq0,hq1,hq2,hrc0_0,hrc0_2,hrc0_3,hrc0_21,hri]
        have hxq5 := (Upd.refl _ _ : Upd (ownB (.slice av j kv)) w4.drew w4.drew).blk_some (show blk w4.drew be = _ from hxe4) (hnb _ (.inl (by omega)))
        refine (tellX1_fn (d := d) (ok := ok) y ce w4.drew (b := be) (o := oe + j * 3) hxq5 (fun k hk => by have := hqe k hk;rw [← Nat.add_assoc] at this;exact this) ((RepS_lay true _ _).keep (Rep1_part.1 hRe) ((((hX4.drew).mono fun _ h => h.elim).trans (Upd.refl _ _) : Upd (ownB (.slice av j kv)) w w4.drew).keeps fun b hb _ => hnb b (.inl (by omega)))) (hgy.2.2 rfl)).mono ?_
        rintro _ w5 ⟨⟨c5,rfl,hc5⟩,hEx5⟩
        obtain ⟨T5,hT5⟩ : ∃ T,T = tlP (d + 1) fs_X1 y := ⟨_,rfl⟩
        replace hc5 : TreeC (fun b => w4.drew.heap.size ≤ b) w5 T5 c5 := by rw [hT5];exact hc5
        obtain ⟨vS5,vL5,vU5,rfl,hn5,hS5,hLL5,hUU5⟩ := hc5.inv
        have k1_5 := hS5.flat
        have k2_5 := SlR.flat hLL5
        have k3_5 := SlR.flat hUU5
        have hP5 : Upd (ownB (.slice av j kv)) w4.drew w5 := (Upd.refl _ _).trans (hEx5.mono fun _ h => h.elim)
        have hsq5 := hEx5.size
        try simp only [size_drew] at hsq5
        refine ⟨hP5,?_⟩
        try simp (maxSteps:=1000000)(disch:=(first|omega|(simp only [qI,qJ,qK]<;>omega)|exact qL _ | (refine hnb _ ?_;first | omega | (simp only [World.size_alloc,size_wr,size_drew] <;> omega)))) only [go_sem,↓reduceIte,n0,reduceCtorEq,n1,n2,n3,n4,n5,i0,i1,i2,i3,i4,i5,i6,i7,hb4,hl4,ht4,hxe4,Int.toNat_natCast,Nat.mul_one,hq0,hq1,hq2,hrc0_0,hrc0_2,hrc0_3,hrc0_21,hri,k1_5,k2_5,k3_5]
        have hP6 : Upd (ownB (.slice av j kv)) w4.drew (w5.alloc (.cells #[.int .i64 T5.n,vS5,.bool T5.null,vL5,vU5] 26)) := show Upd (ownB (.slice av j kv)) w4.drew (w5.alloc (.cells #[.int .i64 T5.n,vS5,.bool T5.null,vL5,vU5] 26)) from (hP5).alloc _
        have hn6 : blk (w5.alloc (.cells #[.int .i64 T5.n,vS5,.bool T5.null,vL5,vU5] 26)) w5.heap.size = some (#[.int .i64 T5.n,vS5,.bool T5.null,vL5,vU5],26,(0,0)) := show blk (w5.alloc (.cells #[.int .i64 T5.n,vS5,.bool T5.null,vL5,vU5] 26)) w5.heap.size = some (#[.int .i64 T5.n,vS5,.bool T5.null,vL5,vU5],26,(0,0)) from blk_alloc_new rfl
        have hsq6 : (w5.alloc (.cells #[.int .i64 T5.n,vS5,.bool T5.null,vL5,vU5] 26)).heap.size = w5.heap.size + 1 := show (w5.alloc (.cells #[.int .i64 T5.n,vS5,.bool T5.null,vL5,vU5] 26)).heap.size = w5.heap.size + 1 from World.size_alloc _ _
        have hEx6 : Ext w5 (w5.alloc (.cells #[.int .i64 T5.n,vS5,.bool T5.null,vL5,vU5] 26)) := show Ext w5 (w5.alloc (.cells #[.int .i64 T5.n,vS5,.bool T5.null,vL5,vU5] 26)) from Upd.alloc (Upd.refl _ _) _
        refine ⟨hP6,?_⟩
        try simp only [List.append_nil]
        generalize (w5.alloc (.cells #[.int .i64 T5.n,vS5,.bool T5.null,vL5,vU5] 26)) = w6 at *
        try simp only [size_drew] at hsq6
        have hEw7 : Ext w3 w6 := ((hk4.drew.trans hEx5).trans hEx6)
        have hzw7 := hEw7.size
        obtain ⟨css,hown,hall⟩ := (hg.ext hEw7).ex
        have hcl := hall.1
        rw [hlj] at hcl
        have hx7 : TreeC (fun b => (fun b => w1.heap.size ≤ b) b ∧ b ≠ w.heap.size + 1 ∧ ¬ ownB (.slice av j kv) b) w6 ((tl1 (tlP (d + 1)) fAlterUserSCRAMCredentialsRequest_0.of fAlterUserSCRAMCredentialsRequest_0.sub) y) [.int .i64 T5.n,vS5,.bool T5.null,vL5,vU5] := by
          rw [show (tl1 (tlP (d + 1)) fAlterUserSCRAMCredentialsRequest_0.of fAlterUserSCRAMCredentialsRequest_0.sub) y = _ from hT5.symm]
          exact TreeC.weaken (fun b _ hk => ⟨by omega,by omega,hnb b (.inr (by omega))⟩) (TreeC.weaken (ok' := fun b => w3.heap.size ≤ b) (fun b _ hk => by have hk' : w4.drew.heap.size ≤ b := hk;(try simp only [size_drew] at hk');omega) (TreeC.keep (Ext.keeps hEx6 _) hc5))
        refine wp_append ap_23_23 (m := 1) (news := [.int .i64 T5.n,vS5,.bool T5.null,vL5,vU5]) (n := css.length) (cs := css.flatten) (v := (.slice av j kv)) ?_ rfl hown.1 (all2_flat_tree hall) (Src.blk (fr := (0,0)) (T := 26) hn6 rfl (by simp only [List.all_cons,List.all_nil,flat_int,flat_bool,k1_5,k2_5,k3_5,Bool.and_self])) ?_ ?_ ?_
        · first | rfl | simp (maxSteps:=1000000)(disch:=(first|omega|(simp only [qI,qJ,qK]<;>omega)|exact qL _)) only [go_sem,↓reduceIte,n0,reduceCtorEq,n1,n2,n3,n4,n5,i0,i1,i2,i3,i4,i5,i6,i7]
        · omega
        · omega
        intro v' w7 ho hu hfr
        have hP7 := (hP6 : Upd (ownB (.slice av j kv)) w4.drew w6).trans hu
        have hzq7 := hP7.size
        simp only [size_drew] at hzq7
        have hlq7 := hP7.blk_some (show blk w4.drew (w.heap.size + 1) = _ from hl4) (hnb _ (.inl (by omega)))
        have hg' := GrowT.snoc hown hall hx7 hu hfr ho
        obtain ⟨va,vc,hv',_⟩ := ho.shape
        subst hv'
        have hne : ¬ ownB (.slice va (css.length + 1) vc) (w.heap.size + 1) := fun h => (hfr _ h).elim (hnb _ (.inl (by omega))) (fun h => by omega)
        refine ⟨hP7,?_⟩
        try simp (maxSteps:=1000000)(disch:=(first|omega|(simp only [qI,qJ,qK]<;>omega)|exact qL _ | (refine hnb _ ?_;first | omega | (simp only [World.size_alloc,size_wr,size_drew] <;> omega)))) only [go_sem,↓reduceIte,n0,reduceCtorEq,n1,n2,n3,n4,n5,i0,i1,i2,i3,i4,i5,i6,i7,hlq7,Int.toNat_natCast,Nat.mul_one,hrc0_0,hrc0_2,hrc0_3,hrc0_21,hri]
        repeat ((first | refine qA rfl ?_|refine qB ?_|refine qC rfl ?_|refine qD ?_|refine qE ?_|refine qF ?_|refine qG ?_|refine qH ?_);try simp (maxSteps:=1000000)(disch:=(first|omega|(simp only [qI,qJ,qK]<;>omega)|exact qL _)) only [go_sem,↓reduceIte,n0,reduceCtorEq,n1,n2,n3,n4,n5,i0,i1,i2,i3,i4,i5,i6,i7,hlq7,Int.toNat_natCast,Nat.mul_one,hrc0_0,hrc0_2,hrc0_3,hrc0_21,hri])
        refine ⟨⟨(by simp (maxSteps:=1000000)(disch:=(first|omega|(simp only [qI,qJ,qK]<;>omega)|exact qL _)) only [go_sem,↓reduceIte,n0,reduceCtorEq,n1,n2,n3,n4,n5,i0,i1,i2,i3,i4,i5,i6,i7,Holds_nil,Holds_cons,hrc0_0,hrc0_2,hrc0_3,hrc0_21,hri]),j + 1,(by simp (maxSteps:=1000000)(disch:=(first|omega|(simp only [qI,qJ,qK]<;>omega)|exact qL _)) only [go_sem,↓reduceIte,n0,reduceCtorEq,n1,n2,n3,n4,n5,i0,i1,i2,i3,i4,i5,i6,i7,hrc0_0,hrc0_2,hrc0_3,hrc0_21,hri];all_goals rfl),.slice va (css.length + 1) vc,by omega,?_,?_,?_⟩,?_⟩
        · rw [blk_wr_eq,hlq7];rfl
        · rw [hcat,List.map_append];exact hg'.upd ((Upd.refl _ _).wr _ _ (.inr rfl)) hne
        · refine Upd.wr ?_ _ _ (.inr rfl)
          exact (hUk.more ((hEw7.mono fun _ h => h.elim).trans hu) fun b hb h => absurd h (hnb b (.inl hb)))
        · try simp (maxSteps:=1000000)(disch:=(first|omega|(simp only [qI,qJ,qK]<;>omega)|exact qL _)) only [go_sem,↓reduceIte,n0,reduceCtorEq,n1,n2,n3,n4,n5,i0,i1,i2,i3,i4,i5,i6,i7,hrc0_0,hrc0_2,hrc0_3,hrc0_21,hri]
          simp only [RowKit.intOf];omega
      · have hk8 : Ext w3 (wr (wr (w3.alloc (.cells #[.bool false] 4)).drew w3.heap.size 0 [.bool false]) w3.heap.size 0 [.bool true]) := ((Upd.refl _ _).drew).trans q4
        generalize (wr (wr (w3.alloc (.cells #[.bool false] 4)).drew w3.heap.size 0 [.bool false]) w3.heap.size 0 [.bool true]) = w8 at *
        have hzk8 := hk8.size
        have hX8 : Ext w w8 := hX3.trans hk8
        have hb8 := hk8.blk_some hb3 id
        have hl8 := hk8.blk_some hl3 id
        have ht8 := hk8.blk_some ht3 id
        have hxe8 := hX8.blk_some hxe id
        repeat ((first | refine qA rfl ?_|refine qB ?_|refine qC rfl ?_|refine qD ?_|refine qE ?_|refine qF ?_|refine qG ?_|refine qH ?_);try simp (maxSteps:=1000000)(disch:=(first|omega|(simp only [qI,qJ,qK]<;>omega)|exact qL _)) only [go_sem,↓reduceIte,n0,reduceCtorEq,n1,n2,n3,n4,n5,i0,i1,i2,i3,i4,i5,i6,i7,hb8,hl8,ht8,hxe8,Int.toNat_natCast,Nat.mul_one,hq0,hq1,hq2,hrc0_0,hrc0_2,hrc0_3,hrc0_21,hri])
        refine W.drawR (.take 0 (.take 1 (.take 2 (.take 3 (.take 4 (.take 5 (.take 6 (.take 7 (.take 8 (.take 9 (.take 10 (.take 12 (.two 11 (.only 13 (.only 14 (.take 15 (.take 16 (.last 17))))) 13 (.only 11 (.only 14 (.take 15 (.take 16 (.last 17)))))))))))))))))) (ownB (.slice av j kv)) mixed (by kernel_rfl) ?_
        try simp (maxSteps:=1000000)(disch:=(first|omega|(simp only [qI,qJ,qK]<;>omega)|exact qL _ | (refine hnb _ ?_;first | omega | (simp only [World.size_alloc,size_wr,size_drew] <;> omega)))) only [go_sem,↓reduceIte,n0,reduceCtorEq,n1,n2,n3,n4,n5,i0,i1,i2,i3,i4,i5,i6,i7,hb8,hl8,ht8,hxe8,Int.toNat_natCast,Nat.mul_one,hq0,hq1,hq2,hrc0_0,hrc0_2,hrc0_3,hrc0_21,hri]
        refine ⟨?_,?_⟩
        · skip
          have hxq9 := (Upd.refl _ _ : Upd (ownB (.slice av j kv)) w8.drew w8.drew).blk_some (show blk w8.drew be = _ from hxe8) (hnb _ (.inl (by omega)))
          refine (tellX1_fn (d := d) (ok := ok) y ce w8.drew (b := be) (o := oe + j * 3) hxq9 (fun k hk => by have := hqe k hk;rw [← Nat.add_assoc] at this;exact this) ((RepS_lay true _ _).keep (Rep1_part.1 hRe) ((((hX8.drew).mono fun _ h => h.elim).trans (Upd.refl _ _) : Upd (ownB (.slice av j kv)) w w8.drew).keeps fun b hb _ => hnb b (.inl (by omega)))) (hgy.2.2 rfl)).mono ?_
          rintro _ w9 ⟨⟨c9,rfl,hc9⟩,hEx9⟩
          obtain ⟨T9,hT9⟩ : ∃ T,T = tlP (d + 1) fs_X1 y := ⟨_,rfl⟩
          replace hc9 : TreeC (fun b => w8.drew.heap.size ≤ b) w9 T9 c9 := by rw [hT9];exact hc9
          obtain ⟨vS9,vL9,vU9,rfl,hn9,hS9,hLL9,hUU9⟩ := hc9.inv
          have k1_9 := hS9.flat
          have k2_9 := SlR.flat hLL9
          have k3_9 := SlR.flat hUU9
          have hP9 : Upd (ownB (.slice av j kv)) w8.drew w9 := (Upd.refl _ _).trans (hEx9.mono fun _ h => h.elim)
          have hsq9 := hEx9.size
          try simp only [size_drew] at hsq9
          refine ⟨hP9,?_⟩
          try simp (maxSteps:=1000000)(disch:=(first|omega|(simp only [qI,qJ,qK]<;>omega)|exact qL _ | (refine hnb _ ?_;first | omega | (simp only [World.size_alloc,size_wr,size_drew] <;> omega)))) only [go_sem,↓reduceIte,n0,reduceCtorEq,n1,n2,n3,n4,n5,i0,i1,i2,i3,i4,i5,i6,i7,hb8,hl8,ht8,hxe8,Int.toNat_natCast,Nat.mul_one,hq0,hq1,hq2,hrc0_0,hrc0_2,hrc0_3,hrc0_21,hri,k1_9,k2_9,k3_9]
          have hP10 : Upd (ownB (.slice av j kv)) w8.drew (w9.alloc (.cells #[.int .i64 0,.slice none 0 0,.bool false,.slice none 0 0,.slice none 0 0] 26)) := show Upd (ownB (.slice av j kv)) w8.drew (w9.alloc (.cells #[.int .i64 0,.slice none 0 0,.bool false,.slice none 0 0,.slice none 0 0] 26)) from (hP9).alloc _
          have hn10 : blk (w9.alloc (.cells #[.int .i64 0,.slice none 0 0,.bool false,.slice none 0 0,.slice none 0 0] 26)) w9.heap.size = some (#[.int .i64 0,.slice none 0 0,.bool false,.slice none 0 0,.slice none 0 0],26,(0,0)) := show blk (w9.alloc (.cells #[.int .i64 0,.slice none 0 0,.bool false,.slice none 0 0,.slice none 0 0] 26)) w9.heap.size = some (#[.int .i64 0,.slice none 0 0,.bool false,.slice none 0 0,.slice none 0 0],26,(0,0)) from blk_alloc_new rfl
          have hsq10 : (w9.alloc (.cells #[.int .i64 0,.slice none 0 0,.bool false,.slice none 0 0,.slice none 0 0] 26)).heap.size = w9.heap.size + 1 := show (w9.alloc (.cells #[.int .i64 0,.slice none 0 0,.bool false,.slice none 0 0,.slice none 0 0] 26)).heap.size = w9.heap.size + 1 from World.size_alloc _ _
          have hEx10 : Ext w9 (w9.alloc (.cells #[.int .i64 0,.slice none 0 0,.bool false,.slice none 0 0,.slice none 0 0] 26)) := show Ext w9 (w9.alloc (.cells #[.int .i64 0,.slice none 0 0,.bool false,.slice none 0 0,.slice none 0 0] 26)) from Upd.alloc (Upd.refl _ _) _
          refine ⟨hP10,?_⟩
          try simp only [List.append_nil]
          generalize (w9.alloc (.cells #[.int .i64 0,.slice none 0 0,.bool false,.slice none 0 0,.slice none 0 0] 26)) = w10 at *
          try simp only [size_drew] at hsq10
          have hEw11 : Ext w3 w10 := ((hk8.drew.trans hEx9).trans hEx10)
          have hzw11 := hEw11.size
          obtain ⟨css,hown,hall⟩ := (hg.ext hEw11).ex
          have hcl := hall.1
          rw [hlj] at hcl
          have hx11 : TreeC (fun b => (fun b => w1.heap.size ≤ b) b ∧ b ≠ w.heap.size + 1 ∧ ¬ ownB (.slice av j kv) b) w10 ((tl1 (tlP (d + 1)) fAlterUserSCRAMCredentialsRequest_0.of fAlterUserSCRAMCredentialsRequest_0.sub) y) [.int .i64 T9.n,vS9,.bool T9.null,vL9,vU9] := by
            rw [show (tl1 (tlP (d + 1)) fAlterUserSCRAMCredentialsRequest_0.of fAlterUserSCRAMCredentialsRequest_0.sub) y = _ from hT9.symm]
            exact TreeC.weaken (fun b _ hk => ⟨by omega,by omega,hnb b (.inr (by omega))⟩) (TreeC.weaken (ok' := fun b => w3.heap.size ≤ b) (fun b _ hk => by have hk' : w8.drew.heap.size ≤ b := hk;(try simp only [size_drew] at hk');omega) (TreeC.keep (Ext.keeps hEx10 _) hc9))
          refine wp_append ap_23_23 (m := 1) (news := [.int .i64 0,.slice none 0 0,.bool false,.slice none 0 0,.slice none 0 0]) (n := css.length) (cs := css.flatten) (v := (.slice av j kv)) ?_ rfl hown.1 (all2_flat_tree hall) (Src.blk (fr := (0,0)) (T := 26) hn10 rfl rfl) ?_ ?_ ?_
          · first | rfl | simp (maxSteps:=1000000)(disch:=(first|omega|(simp only [qI,qJ,qK]<;>omega)|exact qL _)) only [go_sem,↓reduceIte,n0,reduceCtorEq,n1,n2,n3,n4,n5,i0,i1,i2,i3,i4,i5,i6,i7]
          · omega
          · omega
          intro v' w11 ho hu hfr
          have hP11 := (hP10 : Upd (ownB (.slice av j kv)) w8.drew w10).trans hu
          have hzq11 := hP11.size
          simp only [size_drew] at hzq11
          have hlq11 := hP11.blk_some (show blk w8.drew (w.heap.size + 1) = _ from hl8) (hnb _ (.inl (by omega)))
          rcases ho.2 with ⟨_,h⟩ | ⟨g,cap,rest,fr,hv',hg',hbg,hlen,hth,hle⟩
          · exact absurd h (Nat.succ_ne_zero _)
          subst hv'
          have hgne : ¬ g = w.heap.size + 1 := fun h => (hfr g ⟨_,_,_,rfl,rfl⟩).elim (fun h' => hnb _ (.inl (by omega)) (h ▸ h')) (fun h' => by omega)
          have hfl : css.flatten.length = css.length * 5 := flatten_len hown.2
          have hlen2 : (css.flatten ++ ([.int .i64 0,.slice none 0 0,.bool false,.slice none 0 0,.slice none 0 0] : List Value) ++ rest).length = cap * 5 := by simp only [List.length_append] at hlen ⊢;omega
          obtain ⟨XX,hXX⟩ : ∃ X : Array Value,X = (css.flatten ++ ([.int .i64 0,.slice none 0 0,.bool false,.slice none 0 0,.slice none 0 0] : List Value) ++ rest).toArray := ⟨_,rfl⟩
          have hbgX : blk w11 g = some (XX,26,fr) := by rw [hXX];exact hbg
          have hXsz : XX.size = cap * 5 := by rw [hXX,List.size_toArray];exact hlen2
          have hth2 : thaw fr (css.length * 5) 5 = true := thaw_of hth (by omega)
          have hst : css.length * 5 + 5 ≤ XX.size := by omega
          have hset := Own.setlast (cs := [.int .i64 T9.n,vS9,.bool T9.null,vL9,vU9]) ho rfl rfl
          have hu2 : Upd (ownB (.slice av j kv)) w10 (wr w11 g (css.length * 5) [.int .i64 T9.n,vS9,.bool T9.null,vL9,vU9]) := hu.wr _ _ ((hfr g ⟨_,_,_,rfl,rfl⟩).symm)
          have hg2 := GrowT.snoc hown hall hx11 hu2 hfr hset
          have hcj : css.length = j := by first | exact hcl.symm.trans hlj | omega
          simp only [hcj] at hth2 hst hset hu2 hg2
          refine ⟨hP11,?_⟩
          try simp (maxSteps:=1000000)(disch:=(first|omega|(simp only [qI,qJ,qK]<;>omega)|exact qL _ | (refine hnb _ ?_;first | omega | (simp only [World.size_alloc,size_wr,size_drew] <;> omega)))) only [go_sem,↓reduceIte,n0,reduceCtorEq,n1,n2,n3,n4,n5,i0,i1,i2,i3,i4,i5,i6,i7,hlq11,hbgX,hth2,hst,hcj,Int.toNat_natCast,Nat.mul_one,k1_9,k2_9,k3_9,hrc0_0,hrc0_2,hrc0_3,hrc0_21,hri]
          repeat ((first | refine qA rfl ?_|refine qB ?_|refine qC rfl ?_|refine qD ?_|refine qE ?_|refine qF ?_|refine qG ?_|refine qH ?_);try simp (maxSteps:=1000000)(disch:=(first|omega|(simp only [qI,qJ,qK]<;>omega)|exact qL _)) only [go_sem,↓reduceIte,n0,reduceCtorEq,n1,n2,n3,n4,n5,i0,i1,i2,i3,i4,i5,i6,i7,hlq11,hbgX,hth2,hst,hcj,Int.toNat_natCast,Nat.mul_one,k1_9,k2_9,k3_9,hrc0_0,hrc0_2,hrc0_3,hrc0_21,hri])
          refine ⟨⟨(by simp (maxSteps:=1000000)(disch:=(first|omega|(simp only [qI,qJ,qK]<;>omega)|exact qL _)) only [go_sem,↓reduceIte,n0,reduceCtorEq,n1,n2,n3,n4,n5,i0,i1,i2,i3,i4,i5,i6,i7,Holds_nil,Holds_cons,hrc0_0,hrc0_2,hrc0_3,hrc0_21,hri]),j + 1,(by simp (maxSteps:=1000000)(disch:=(first|omega|(simp only [qI,qJ,qK]<;>omega)|exact qL _)) only [go_sem,↓reduceIte,n0,reduceCtorEq,n1,n2,n3,n4,n5,i0,i1,i2,i3,i4,i5,i6,i7,hrc0_0,hrc0_2,hrc0_3,hrc0_21,hri];all_goals rfl),.slice (some ⟨g,0,none⟩) (j + 1) cap,by omega,?_,?_,?_⟩,?_⟩
          · rw [blk_wr_ne (by omega),blk_wr_eq,hlq11];rfl
          · rw [hcat,List.map_append,wr_comm (Ne.symm hgne)]
            exact hg2.upd ((Upd.refl _ _).wr _ _ (.inr rfl)) (fun h => hgne (ownB_row h).symm)
          · rw [wr_comm (Ne.symm hgne)]
            refine Upd.wr ?_ _ _ (.inr rfl)
            exact (hUk.more ((hEw11.mono fun _ h => h.elim).trans hu2) fun b hb h => absurd h (hnb b (.inl hb)))
          · try simp (maxSteps:=1000000)(disch:=(first|omega|(simp only [qI,qJ,qK]<;>omega)|exact qL _)) only [go_sem,↓reduceIte,n0,reduceCtorEq,n1,n2,n3,n4,n5,i0,i1,i2,i3,i4,i5,i6,i7,hrc0_0,hrc0_2,hrc0_3,hrc0_21,hri]
            simp only [RowKit.intOf];omega
        · skip
          have hP12 : Upd (ownB (.slice av j kv)) w8.drew (w8.alloc (.cells #[.int .i64 0,.slice none 0 0,.bool false,.slice none 0 0,.slice none 0 0] 26)).drew := show Upd (ownB (.slice av j kv)) w8.drew (w8.drew.alloc (.cells #[.int .i64 0,.slice none 0 0,.bool false,.slice none 0 0,.slice none 0 0] 26)) from (Upd.refl _ _).alloc _
          have hn12 : blk (w8.alloc (.cells #[.int .i64 0,.slice none 0 0,.bool false,.slice none 0 0,.slice none 0 0] 26)).drew w8.drew.heap.size = some (#[.int .i64 0,.slice none 0 0,.bool false,.slice none 0 0,.slice none 0 0],26,(0,0)) := show blk (w8.drew.alloc (.cells #[.int .i64 0,.slice none 0 0,.bool false,.slice none 0 0,.slice none 0 0] 26)) w8.drew.heap.size = some (#[.int .i64 0,.slice none 0 0,.bool false,.slice none 0 0,.slice none 0 0],26,(0,0)) from blk_alloc_new rfl
          have hsq12 : (w8.alloc (.cells #[.int .i64 0,.slice none 0 0,.bool false,.slice none 0 0,.slice none 0 0] 26)).drew.heap.size = w8.drew.heap.size + 1 := show (w8.drew.alloc (.cells #[.int .i64 0,.slice none 0 0,.bool false,.slice none 0 0,.slice none 0 0] 26)).heap.size = w8.drew.heap.size + 1 from World.size_alloc _ _
          have hEx12 : Ext w8.drew (w8.alloc (.cells #[.int .i64 0,.slice none 0 0,.bool false,.slice none 0 0,.slice none 0 0] 26)).drew := show Ext w8.drew (w8.drew.alloc (.cells #[.int .i64 0,.slice none 0 0,.bool false,.slice none 0 0,.slice none 0 0] 26)) from Upd.alloc (Upd.refl _ _) _
          refine ⟨hP12,?_⟩
          try simp only [List.append_nil]
          generalize (w8.alloc (.cells #[.int .i64 0,.slice none 0 0,.bool false,.slice none 0 0,.slice none 0 0] 26)).drew = w12 at *
          try simp only [size_drew] at hsq12
          have hxq13 := (hP12 : Upd (ownB (.slice av j kv)) w8.drew w12).blk_some (show blk w8.drew be = _ from hxe8) (hnb _ (.inl (by omega)))
          refine (tellX1_fn (d := d) (ok := ok) y ce w12 (b := be) (o := oe + j * 3) hxq13 (fun k hk => by have := hqe k hk;rw [← Nat.add_assoc] at this;exact this) ((RepS_lay true _ _).keep (Rep1_part.1 hRe) ((((hX8.drew).mono fun _ h => h.elim).trans (hP12) : Upd (ownB (.slice av j kv)) w w12).keeps fun b hb _ => hnb b (.inl (by omega)))) (hgy.2.2 rfl)).mono ?_
          rintro _ w13 ⟨⟨c13,rfl,hc13⟩,hEx13⟩
          obtain ⟨T13,hT13⟩ : ∃ T,T = tlP (d + 1) fs_X1 y := ⟨_,rfl⟩
          replace hc13 : TreeC (fun b => w12.heap.size ≤ b) w13 T13 c13 := by rw [hT13];exact hc13
          obtain ⟨vS13,vL13,vU13,rfl,hn13,hS13,hLL13,hUU13⟩ := hc13.inv
          have k1_13 := hS13.flat
          have k2_13 := SlR.flat hLL13
          have k3_13 := SlR.flat hUU13
          have hP13 : Upd (ownB (.slice av j kv)) w8.drew w13 := (hP12).trans (hEx13.mono fun _ h => h.elim)
          have hsq13 := hEx13.size
          try simp only [size_drew] at hsq13
          refine ⟨hP13,?_⟩
          try simp (maxSteps:=1000000)(disch:=(first|omega|(simp only [qI,qJ,qK]<;>omega)|exact qL _ | (refine hnb _ ?_;first | omega | (simp only [World.size_alloc,size_wr,size_drew] <;> omega)))) only [go_sem,↓reduceIte,n0,reduceCtorEq,n1,n2,n3,n4,n5,i0,i1,i2,i3,i4,i5,i6,i7,hb8,hl8,ht8,hxe8,Int.toNat_natCast,Nat.mul_one,hq0,hq1,hq2,hrc0_0,hrc0_2,hrc0_3,hrc0_21,hri,k1_13,k2_13,k3_13]
          have hEw14 : Ext w3 w13 := ((hk8.drew.trans hEx12).trans hEx13)
          have hzw14 := hEw14.size
          obtain ⟨css,hown,hall⟩ := (hg.ext hEw14).ex
          have hcl := hall.1
          rw [hlj] at hcl
          have hx14 : TreeC (fun b => (fun b => w1.heap.size ≤ b) b ∧ b ≠ w.heap.size + 1 ∧ ¬ ownB (.slice av j kv) b) w13 ((tl1 (tlP (d + 1)) fAlterUserSCRAMCredentialsRequest_0.of fAlterUserSCRAMCredentialsRequest_0.sub) y) [.int .i64 T13.n,vS13,.bool T13.null,vL13,vU13] := by
            rw [show (tl1 (tlP (d + 1)) fAlterUserSCRAMCredentialsRequest_0.of fAlterUserSCRAMCredentialsRequest_0.sub) y = _ from hT13.symm]
            exact TreeC.weaken (fun b _ hk => ⟨by omega,by omega,hnb b (.inr (by omega))⟩) (TreeC.weaken (ok' := fun b => w3.heap.size ≤ b) (fun b _ hk => by have hk' : w12.heap.size ≤ b := hk;(try simp only [size_drew] at hk');omega) hc13)
          refine wp_append ap_23_23 (m := 1) (news := [.int .i64 0,.slice none 0 0,.bool false,.slice none 0 0,.slice none 0 0]) (n := css.length) (cs := css.flatten) (v := (.slice av j kv)) ?_ rfl hown.1 (all2_flat_tree hall) (Src.blk (fr := (0,0)) (T := 26) (hEx13.blk_some hn12 id) rfl rfl) ?_ ?_ ?_
          · first | rfl | simp (maxSteps:=1000000)(disch:=(first|omega|(simp only [qI,qJ,qK]<;>omega)|exact qL _)) only [go_sem,↓reduceIte,n0,reduceCtorEq,n1,n2,n3,n4,n5,i0,i1,i2,i3,i4,i5,i6,i7]
          · omega
          · omega
          intro v' w14 ho hu hfr
          have hP14 := (hP13 : Upd (ownB (.slice av j kv)) w8.drew w13).trans hu
          have hzq14 := hP14.size
          simp only [size_drew] at hzq14
          have hlq14 := hP14.blk_some (show blk w8.drew (w.heap.size + 1) = _ from hl8) (hnb _ (.inl (by omega)))
          rcases ho.2 with ⟨_,h⟩ | ⟨g,cap,rest,fr,hv',hg',hbg,hlen,hth,hle⟩
          · exact absurd h (Nat.succ_ne_zero _)
          subst hv'
          have hgne : ¬ g = w.heap.size + 1 := fun h => (hfr g ⟨_,_,_,rfl,rfl⟩).elim (fun h' => hnb _ (.inl (by omega)) (h ▸ h')) (fun h' => by omega)
          have hfl : css.flatten.length = css.length * 5 := flatten_len hown.2
          have hlen2 : (css.flatten ++ ([.int .i64 0,.slice none 0 0,.bool false,.slice none 0 0,.slice none 0 0] : List Value) ++ rest).length = cap * 5 := by simp only [List.length_append] at hlen ⊢;omega
          obtain ⟨XX,hXX⟩ : ∃ X : Array Value,X = (css.flatten ++ ([.int .i64 0,.slice none 0 0,.bool false,.slice none 0 0,.slice none 0 0] : List Value) ++ rest).toArray := ⟨_,rfl⟩
          have hbgX : blk w14 g = some (XX,26,fr) := by rw [hXX];exact hbg
          have hXsz : XX.size = cap * 5 := by rw [hXX,List.size_toArray];exact hlen2
          have hth2 : thaw fr (css.length * 5) 5 = true := thaw_of hth (by omega)
          have hst : css.length * 5 + 5 ≤ XX.size := by omega
          have hset := Own.setlast (cs := [.int .i64 T13.n,vS13,.bool T13.null,vL13,vU13]) ho rfl rfl
          have hu2 : Upd (ownB (.slice av j kv)) w13 (wr w14 g (css.length * 5) [.int .i64 T13.n,vS13,.bool T13.null,vL13,vU13]) := hu.wr _ _ ((hfr g ⟨_,_,_,rfl,rfl⟩).symm)
          have hg2 := GrowT.snoc hown hall hx14 hu2 hfr hset
          have hcj : css.length = j := by first | exact hcl.symm.trans hlj | omega
          simp only [hcj] at hth2 hst hset hu2 hg2
          refine ⟨hP14,?_⟩
          try simp (maxSteps:=1000000)(disch:=(first|omega|(simp only [qI,qJ,qK]<;>omega)|exact qL _ | (refine hnb _ ?_;first | omega | (simp only [World.size_alloc,size_wr,size_drew] <;> omega)))) only [go_sem,↓reduceIte,n0,reduceCtorEq,n1,n2,n3,n4,n5,i0,i1,i2,i3,i4,i5,i6,i7,hlq14,hbgX,hth2,hst,hcj,Int.toNat_natCast,Nat.mul_one,k1_13,k2_13,k3_13,hrc0_0,hrc0_2,hrc0_3,hrc0_21,hri]
          repeat ((first | refine qA rfl ?_|refine qB ?_|refine qC rfl ?_|refine qD ?_|refine qE ?_|refine qF ?_|refine qG ?_|refine qH ?_);try simp (maxSteps:=1000000)(disch:=(first|omega|(simp only [qI,qJ,qK]<;>omega)|exact qL _)) only [go_sem,↓reduceIte,n0,reduceCtorEq,n1,n2,n3,n4,n5,i0,i1,i2,i3,i4,i5,i6,i7,hlq14,hbgX,hth2,hst,hcj,Int.toNat_natCast,Nat.mul_one,k1_13,k2_13,k3_13,hrc0_0,hrc0_2,hrc0_3,hrc0_21,hri])
          refine ⟨⟨(by simp (maxSteps:=1000000)(disch:=(first|omega|(simp only [qI,qJ,qK]<;>omega)|exact qL _)) only [go_sem,↓reduceIte,n0,reduceCtorEq,n1,n2,n3,n4,n5,i0,i1,i2,i3,i4,i5,i6,i7,Holds_nil,Holds_cons,hrc0_0,hrc0_2,hrc0_3,hrc0_21,hri]),j + 1,(by simp (maxSteps:=1000000)(disch:=(first|omega|(simp only [qI,qJ,qK]<;>omega)|exact qL _)) only [go_sem,↓reduceIte,n0,reduceCtorEq,n1,n2,n3,n4,n5,i0,i1,i2,i3,i4,i5,i6,i7,hrc0_0,hrc0_2,hrc0_3,hrc0_21,hri];all_goals rfl),.slice (some ⟨g,0,none⟩) (j + 1) cap,by omega,?_,?_,?_⟩,?_⟩
          · rw [blk_wr_ne (by omega),blk_wr_eq,hlq14];rfl
          · rw [hcat,List.map_append,wr_comm (Ne.symm hgne)]
            exact hg2.upd ((Upd.refl _ _).wr _ _ (.inr rfl)) (fun h => hgne (ownB_row h).symm)
          · rw [wr_comm (Ne.symm hgne)]
            refine Upd.wr ?_ _ _ (.inr rfl)
            exact (hUk.more ((hEw14.mono fun _ h => h.elim).trans hu2) fun b hb h => absurd h (hnb b (.inl hb)))
          · try simp (maxSteps:=1000000)(disch:=(first|omega|(simp only [qI,qJ,qK]<;>omega)|exact qL _)) only [go_sem,↓reduceIte,n0,reduceCtorEq,n1,n2,n3,n4,n5,i0,i1,i2,i3,i4,i5,i6,i7,hrc0_0,hrc0_2,hrc0_3,hrc0_21,hri]
            simp only [RowKit.intOf];omega
    · have hjn : j = L0.length := by omega
      subst hjn
      rw [List.take_length] at hg
      repeat ((first | refine qA rfl ?_|refine qB ?_|refine qC rfl ?_|refine qD ?_|refine qE ?_|refine qF ?_|refine qG ?_|refine qH ?_);try simp (maxSteps:=1000000)(disch:=(first|omega|(simp only [qI,qJ,qK]<;>omega)|exact qL _)) only [go_sem,↓reduceIte,n0,reduceCtorEq,n1,n2,n3,n4,n5,i0,i1,i2,i3,i4,i5,i6,i7,hrc0_0,hrc0_2,hrc0_3,hrc0_21,hri])
      exact ⟨(by simp (maxSteps:=1000000)(disch:=(first|omega|(simp only [qI,qJ,qK]<;>omega)|exact qL _)) only [go_sem,↓reduceIte,n0,reduceCtorEq,n1,n2,n3,n4,n5,i0,i1,i2,i3,i4,i5,i6,i7,Holds_nil,Holds_cons,hrc0_0,hrc0_2,hrc0_3,hrc0_21,hri]),v,hl3,hg,hUk⟩
  rintro ρ w15 ⟨⟨hrd0_0,hrd0_2,hrd0_3,hrd0_21,-⟩,v,hl15,hg15,hUz15⟩
  have hV15 : Upd (fun b => b = w.heap.size + 1 ∨ b = w.heap.size + 2) w2 w15 := hUz15.mono fun _ h => .inl h
  have hU15 : Upd (fun b => b = w.heap.size + 1 ∨ b = w.heap.size + 2) w1 w15 := hU2.trans hV15
  have hz15 := hU15.size
  have hX15 : Ext w w15 := hE1.more hU15 fun b hb h => by omega
  have hb15 := hX15.blk_some hb id
  have ht15 := hUz15.blk_some ht2 (by omega)
  obtain ⟨av0,kv0,hvs,_⟩ := hg15.shape
  subst hvs
  have hf0 : TreeC (fun b => w1.heap.size ≤ b) w15 (.mk 0 [] (t.at 0).null (L0.map (tl1 (tlP (d + 1)) fAlterUserSCRAMCredentialsRequest_0.of fAlterUserSCRAMCredentialsRequest_0.sub)) []) [.int .i64 0,.slice none 0 0,.bool (t.at 0).null,.slice av0 (List.map (tl1 (tlP (d + 1)) fAlterUserSCRAMCredentialsRequest_0.of fAlterUserSCRAMCredentialsRequest_0.sub) L0).length kv0,.slice none 0 0] := TreeC.intro rfl (BytesV.nil _ _) (hg15.trees (fun _ _ h => h) (fun b hb => by have := hz2;omega)) (tagsN _ _)
  repeat ((first | refine qA rfl ?_|refine qB ?_|refine qC rfl ?_|refine qD ?_|refine qE ?_|refine qF ?_|refine qG ?_|refine qH ?_);try simp (maxSteps:=1000000)(disch:=(first|omega|(simp only [qI,qJ,qK]<;>omega)|exact qL _)) only [go_sem,↓reduceIte,n0,reduceCtorEq,n1,n2,n3,n4,n5,i0,i1,i2,i3,i4,i5,i6,i7,hb15,hl15,ht15,hq0,hq1,hq2,hrd0_0,hrd0_2,hrd0_3])
  refine W.drawR (.take 0 (.take 1 (.take 2 (.take 3 (.take 4 (.take 5 (.take 6 (.take 7 (.take 8 (.last 9)))))))))) (NoB) mixed (by kernel_rfl) ?_
  try simp (maxSteps:=1000000)(disch:=(first|omega|(simp only [qI,qJ,qK]<;>omega)|exact qL _)) only [go_sem,↓reduceIte,n0,reduceCtorEq,n1,n2,n3,n4,n5,i0,i1,i2,i3,i4,i5,i6,i7,hb15,hl15,ht15,hq0,hq1,hq2,hrd0_0,hrd0_2,hrd0_3,hnn1]
  generalize hw16 : wr w15.drew (w.heap.size + 1) 7 [.bool (t.at 1).null] = w16
  have hl16 : blk w16 (w.heap.size + 1) = some (#[.int .i64 0,.slice none 0 0,.bool (t.at 0).null,.slice av0 (List.map (tl1 (tlP (d + 1)) fAlterUserSCRAMCredentialsRequest_0.of fAlterUserSCRAMCredentialsRequest_0.sub) L0).length kv0,.slice none 0 0,.int .i64 0,.slice none 0 0,.bool (t.at 1).null,.slice none 0 0,.slice none 0 0],26,(0,0)) := by rw [← hw16,blk_wr_eq,show blk w15.drew (w.heap.size + 1) = _ from hl15];rfl
  have hV16 : Upd (fun b => b = w.heap.size + 1 ∨ b = w.heap.size + 2) w15 w16 := by rw [← hw16];exact ((Upd.refl _ _).drew).wr _ _ (.inr (.inl rfl))
  have hU16 : Upd (fun b => b = w.heap.size + 1 ∨ b = w.heap.size + 2) w1 w16 := hU15.trans hV16
  have hz16 := hU16.size
  have hX16 : Ext w w16 := hE1.more hU16 fun b hb h => by omega
  have hb16 := hX16.blk_some hb id
  have ht16 : blk w16 (w.heap.size + 2) = some (#[.int .i64 0,.slice none 0 0,.bool false,.slice (some ⟨w.heap.size + 1,0,none⟩) 2 2,.slice none 0 0],26,(0,0)) := by
    rw [← hw16,blk_wr_ne (by omega)]
    exact ht15
  clear hw16
  repeat ((first | refine qA rfl ?_|refine qB ?_|refine qC rfl ?_|refine qD ?_|refine qE ?_|refine qF ?_|refine qG ?_|refine qH ?_);try simp (maxSteps:=1000000)(disch:=(first|omega|(simp only [qI,qJ,qK]<;>omega)|exact qL _)) only [go_sem,↓reduceIte,n0,reduceCtorEq,n1,n2,n3,n4,n5,i0,i1,i2,i3,i4,i5,i6,i7,hb16,hl16,ht16,hq0,hq1,hq2,hrd0_0,hrd0_2,hrd0_3])
  refine W.exitJ 2 (EndQ [(0,.pointer (some ⟨b,0,none⟩)),(2,.pointer (some ⟨w.heap.size,0,none⟩)),(3,.pointer (some ⟨w.heap.size + 2,0,none⟩)),(77,.int .i64 L1.length)] (fun w' => ∃ v,blk w' (w.heap.size + 1) = some (#[.int .i64 0,.slice none 0 0,.bool (t.at 0).null,.slice av0 (List.map (tl1 (tlP (d + 1)) fAlterUserSCRAMCredentialsRequest_0.of fAlterUserSCRAMCredentialsRequest_0.sub) L0).length kv0,.slice none 0 0,.int .i64 0,.slice none 0 0,.bool (t.at 1).null,v,.slice none 0 0],26,(0,0)) ∧ GrowT (fun b => w1.heap.size ≤ b) w16.heap.size (w.heap.size + 1) w' 26 v (L1.map (tl1 (tlP (d + 1)) fAlterUserSCRAMCredentialsRequest_1.of fAlterUserSCRAMCredentialsRequest_1.sub)) ∧ Upd (fun b => b = w.heap.size + 1) w16 w')) (W.loop (LoopL [(0,.pointer (some ⟨b,0,none⟩)),(2,.pointer (some ⟨w.heap.size,0,none⟩)),(3,.pointer (some ⟨w.heap.size + 2,0,none⟩)),(77,.int .i64 L1.length)] 78 (fun j w' => ∃ v,j ≤ L1.length ∧ blk w' (w.heap.size + 1) = some (#[.int .i64 0,.slice none 0 0,.bool (t.at 0).null,.slice av0 (List.map (tl1 (tlP (d + 1)) fAlterUserSCRAMCredentialsRequest_0.of fAlterUserSCRAMCredentialsRequest_0.sub) L0).length kv0,.slice none 0 0,.int .i64 0,.slice none 0 0,.bool (t.at 1).null,v,.slice none 0 0],26,(0,0)) ∧ GrowT (fun b => w1.heap.size ≤ b) w16.heap.size (w.heap.size + 1) w' 26 v ((L1.take j).map (tl1 (tlP (d + 1)) fAlterUserSCRAMCredentialsRequest_1.of fAlterUserSCRAMCredentialsRequest_1.sub)) ∧ Upd (fun b => b = w.heap.size + 1) w16 w')) (fun ρ _ => L1.length - (RowKit.intOf (ρ 78)).toNat) ?_ ?_) ?_
  · exact ⟨(by simp (maxSteps:=1000000)(disch:=(first|omega|(simp only [qI,qJ,qK]<;>omega)|exact qL _)) only [go_sem,↓reduceIte,n0,reduceCtorEq,n1,n2,n3,n4,n5,i0,i1,i2,i3,i4,i5,i6,i7,Holds_nil,Holds_cons,hrd0_0,hrd0_2,hrd0_3]),0,(by simp (maxSteps:=1000000)(disch:=(first|omega|(simp only [qI,qJ,qK]<;>omega)|exact qL _)) only [go_sem,↓reduceIte,n0,reduceCtorEq,n1,n2,n3,n4,n5,i0,i1,i2,i3,i4,i5,i6,i7,hrd0_0,hrd0_2,hrd0_3];all_goals rfl),.slice none 0 0,Nat.zero_le _,hl16,GrowT.nil _ _ _ _ _,Upd.refl _ _⟩
  · rintro ρ w17 ⟨⟨hrc1_0,hrc1_2,hrc1_3,hrc1_77,-⟩,j,hri,v,hj,hl17,hg,hUk⟩
    have hzk := hUk.size
    have hX17 : Ext w w17 := hX16.more hUk fun b hb h => by omega
    have hz17 : w1.heap.size ≤ w17.heap.size := by have := hz16;omega
    have hb17 := hX17.blk_some hb id
    have ht17 := hUk.blk_some ht16 (by omega)
    by_cases hlt : j < L1.length
    · obtain ⟨_,be,oe,xe,ce,hbe,hoke,hxe,hble,hxs,hxx,hqe,hRe⟩ := SlR.get (size := 6) (by decide) hs1 hlt
      subst hbe
      have hcat : L1.take (j + 1) = L1.take j ++ [L1[j]] := List.take_succ_eq_append_getElem hlt
      have hgy := hgl1.2 _ (List.getElem_mem hlt)
      have hll := hgl1.1
      obtain ⟨av,kv,hvs,_⟩ := hg.shape
      have hlj : (List.map (tl1 (tlP (d + 1)) fAlterUserSCRAMCredentialsRequest_1.of fAlterUserSCRAMCredentialsRequest_1.sub) (L1.take j)).length = j := by simp;omega
      rw [hlj] at hvs
      subst hvs
      have hnb : ∀ b,b < w16.heap.size ∨ w17.heap.size ≤ b → ¬ ownB (.slice av j kv) b := fun b hb h => by
        have := hg.above h
        have := hg.below h
        omega
      generalize L1[j] = y at *
      repeat ((first | refine qA rfl ?_|refine qB ?_|refine qC rfl ?_|refine qD ?_|refine qE ?_|refine qF ?_|refine qG ?_|refine qH ?_);try simp (maxSteps:=1000000)(disch:=(first|omega|(simp only [qI,qJ,qK]<;>omega)|exact qL _)) only [go_sem,↓reduceIte,n0,reduceCtorEq,n1,n2,n3,n4,n5,i0,i1,i2,i3,i4,i5,i6,i7,hb17,hl17,ht17,hq0,hq1,hq2,hrc1_0,hrc1_2,hrc1_3,hrc1_77,hri])
      refine W.drawR (.only 0 (.two 1 (.only 2 (.only 3 .done)) 2 (.only 1 (.only 3 .done)))) NoB mixed (by kernel_rfl) ?_
      try simp (maxSteps:=1000000)(disch:=(first|omega|(simp only [qI,qJ,qK]<;>omega)|exact qL _)) only [go_sem,↓reduceIte,n0,reduceCtorEq,n1,n2,n3,n4,n5,i0,i1,i2,i3,i4,i5,i6,i7,hb17,hl17,ht17,hq0,hq1,hq2,hrc1_0,hrc1_2,hrc1_3,hrc1_77,hri]
      have q0 : Upd NoB w17.drew (w17.alloc (.cells #[.bool false] 4)).drew := show Upd NoB w17.drew (w17.drew.alloc (.cells #[.bool false] 4)) from Upd.alloc (Upd.refl _ _) _
      have q1 : Upd NoB w17.drew (wr (w17.alloc (.cells #[.bool false] 4)).drew w17.heap.size 0 [.bool true]) := q0.wr _ _ (.inl (Nat.le_refl _))
      have q2 : Upd NoB w17.drew (wr (wr (w17.alloc (.cells #[.bool false] 4)).drew w17.heap.size 0 [.bool true]) w17.heap.size 0 [.bool false]) := q1.wr _ _ (.inl (Nat.le_refl _))
      have q3 : Upd NoB w17.drew (wr (w17.alloc (.cells #[.bool false] 4)).drew w17.heap.size 0 [.bool false]) := q0.wr _ _ (.inl (Nat.le_refl _))
      have q4 : Upd NoB w17.drew (wr (wr (w17.alloc (.cells #[.bool false] 4)).drew w17.heap.size 0 [.bool false]) w17.heap.size 0 [.bool true]) := q3.wr _ _ (.inl (Nat.le_refl _))
      refine ⟨q0,⟨q1,q2,q2,?_⟩,⟨q3,q4,q4,?_⟩⟩
      · have hk18 : Ext w17 (wr (wr (w17.alloc (.cells #[.bool false] 4)).drew w17.heap.size 0 [.bool true]) w17.heap.size 0 [.bool false]) := ((Upd.refl _ _).drew).trans q2
        generalize (wr (wr (w17.alloc (.cells #[.bool false] 4)).drew w17.heap.size 0 [.bool true]) w17.heap.size 0 [.bool false]) = w18 at *
        have hzk18 := hk18.size
        have hX18 : Ext w w18 := hX17.trans hk18
        have hb18 := hk18.blk_some hb17 id
        have hl18 := hk18.blk_some hl17 id
        have ht18 := hk18.blk_some ht17 id
        have hxe18 := hX18.blk_some hxe id
        repeat ((first | refine qA rfl ?_|refine qB ?_|refine qC rfl ?_|refine qD ?_|refine qE ?_|refine qF ?_|refine qG ?_|refine qH ?_);try simp (maxSteps:=1000000)(disch:=(first|omega|(simp only [qI,qJ,qK]<;>omega)|exact qL _)) only [go_sem,↓reduceIte,n0,reduceCtorEq,n1,n2,n3,n4,n5,i0,i1,i2,i3,i4,i5,i6,i7,hb18,hl18,ht18,hxe18,Int.toNat_natCast,Nat.mul_one,hq0,hq1,hq2,hrc1_0,hrc1_2,hrc1_3,hrc1_77,hri])
        refine W.drawR (.take 0 (.take 1 (.take 2 (.take 3 (.take 4 (.take 5 (.take 6 (.take 7 (.take 8 (.take 9 (.take 10 (.take 11 (.take 12 (.only 13 (.only 14 (.only 15 (.take 16 (.take 17 (.last 18))))))))))))))))))) (ownB (.slice av j kv)) mixed (by kernel_rfl) ?_
        try simp (maxSteps:=1000000)(disch:=(first|omega|(simp only [qI,qJ,qK]<;>omega)|exact qL _ | (refine hnb _ ?_;first | omega | (simp only [World.size_alloc,size_wr,size_drew] <;> omega)))) only [go_sem,↓reduceIte,n0,reduceCtorEq,n1,n2,n3,n4,n5,i0,i1,i2,i3,i4,i5,i6,i7,hb18,hl18,ht18,hxe18,Int.toNat_natCast,Nat.mul_one,hq0,hq1,hq2,hrc1_0,hrc1_2,hrc1_3,hrc1_77,hri]
        have hxq19 := (Upd.refl _ _ : Upd (ownB (.slice av j kv)) w18.drew w18.drew).blk_some (show blk w18.drew be = _ from hxe18) (hnb _ (.inl (by omega)))
        refine (tellX0_fn (d := d) (ok := ok) y ce w18.drew (b := be) (o := oe + j * 6) hxq19 (fun k hk => by have := hqe k hk;rw [← Nat.add_assoc] at this;exact this) ((RepS_lay true _ _).keep (Rep1_part.1 hRe) ((((hX18.drew).mono fun _ h => h.elim).trans (Upd.refl _ _) : Upd (ownB (.slice av j kv)) w w18.drew).keeps fun b hb _ => hnb b (.inl (by omega)))) (hgy.2.2 rfl)).mono ?_
        rintro _ w19 ⟨⟨c19,rfl,hc19⟩,hEx19⟩
        obtain ⟨T19,hT19⟩ : ∃ T,T = tlP (d + 1) fs_X0 y := ⟨_,rfl⟩
        replace hc19 : TreeC (fun b => w18.drew.heap.size ≤ b) w19 T19 c19 := by rw [hT19];exact hc19
        obtain ⟨vS19,vL19,vU19,rfl,hn19,hS19,hLL19,hUU19⟩ := hc19.inv
        have k1_19 := hS19.flat
        have k2_19 := SlR.flat hLL19
        have k3_19 := SlR.flat hUU19
        have hP19 : Upd (ownB (.slice av j kv)) w18.drew w19 := (Upd.refl _ _).trans (hEx19.mono fun _ h => h.elim)
        have hsq19 := hEx19.size
        try simp only [size_drew] at hsq19
        refine ⟨hP19,?_⟩
        try simp (maxSteps:=1000000)(disch:=(first|omega|(simp only [qI,qJ,qK]<;>omega)|exact qL _ | (refine hnb _ ?_;first | omega | (simp only [World.size_alloc,size_wr,size_drew] <;> omega)))) only [go_sem,↓reduceIte,n0,reduceCtorEq,n1,n2,n3,n4,n5,i0,i1,i2,i3,i4,i5,i6,i7,hb18,hl18,ht18,hxe18,Int.toNat_natCast,Nat.mul_one,hq0,hq1,hq2,hrc1_0,hrc1_2,hrc1_3,hrc1_77,hri,k1_19,k2_19,k3_19]
        have hP20 : Upd (ownB (.slice av j kv)) w18.drew (w19.alloc (.cells #[.int .i64 T19.n,vS19,.bool T19.null,vL19,vU19] 26)) := show Upd (ownB (.slice av j kv)) w18.drew (w19.alloc (.cells #[.int .i64 T19.n,vS19,.bool T19.null,vL19,vU19] 26)) from (hP19).alloc _
        have hn20 : blk (w19.alloc (.cells #[.int .i64 T19.n,vS19,.bool T19.null,vL19,vU19] 26)) w19.heap.size = some (#[.int .i64 T19.n,vS19,.bool T19.null,vL19,vU19],26,(0,0)) := show blk (w19.alloc (.cells #[.int .i64 T19.n,vS19,.bool T19.null,vL19,vU19] 26)) w19.heap.size = some (#[.int .i64 T19.n,vS19,.bool T19.null,vL19,vU19],26,(0,0)) from blk_alloc_new rfl
        have hsq20 : (w19.alloc (.cells #[.int .i64 T19.n,vS19,.bool T19.null,vL19,vU19] 26)).heap.size = w19.heap.size + 1 := show (w19.alloc (.cells #[.int .i64 T19.n,vS19,.bool T19.null,vL19,vU19] 26)).heap.size = w19.heap.size + 1 from World.size_alloc _ _
        have hEx20 : Ext w19 (w19.alloc (.cells #[.int .i64 T19.n,vS19,.bool T19.null,vL19,vU19] 26)) := show Ext w19 (w19.alloc (.cells #[.int .i64 T19.n,vS19,.bool T19.null,vL19,vU19] 26)) from Upd.alloc (Upd.refl _ _) _
        refine ⟨hP20,?_⟩
        try simp only [List.append_nil]
        generalize (w19.alloc (.cells #[.int .i64 T19.n,vS19,.bool T19.null,vL19,vU19] 26)) = w20 at *
        try simp only [size_drew] at hsq20
        have hEw21 : Ext w17 w20 := ((hk18.drew.trans hEx19).trans hEx20)
        have hzw21 := hEw21.size
        obtain ⟨css,hown,hall⟩ := (hg.ext hEw21).ex
        have hcl := hall.1
        rw [hlj] at hcl
        have hx21 : TreeC (fun b => (fun b => w1.heap.size ≤ b) b ∧ b ≠ w.heap.size + 1 ∧ ¬ ownB (.slice av j kv) b) w20 ((tl1 (tlP (d + 1)) fAlterUserSCRAMCredentialsRequest_1.of fAlterUserSCRAMCredentialsRequest_1.sub) y) [.int .i64 T19.n,vS19,.bool T19.null,vL19,vU19] := by
          rw [show (tl1 (tlP (d + 1)) fAlterUserSCRAMCredentialsRequest_1.of fAlterUserSCRAMCredentialsRequest_1.sub) y = _ from hT19.symm]
          exact TreeC.weaken (fun b _ hk => ⟨by omega,by omega,hnb b (.inr (by omega))⟩) (TreeC.weaken (ok' := fun b => w17.heap.size ≤ b) (fun b _ hk => by have hk' : w18.drew.heap.size ≤ b := hk;(try simp only [size_drew] at hk');omega) (TreeC.keep (Ext.keeps hEx20 _) hc19))
        refine wp_append ap_23_23 (m := 1) (news := [.int .i64 T19.n,vS19,.bool T19.null,vL19,vU19]) (n := css.length) (cs := css.flatten) (v := (.slice av j kv)) ?_ rfl hown.1 (all2_flat_tree hall) (Src.blk (fr := (0,0)) (T := 26) hn20 rfl (by simp only [List.all_cons,List.all_nil,flat_int,flat_bool,k1_19,k2_19,k3_19,Bool.and_self])) ?_ ?_ ?_
        · first | rfl | simp (maxSteps:=1000000)(disch:=(first|omega|(simp only [qI,qJ,qK]<;>omega)|exact qL _)) only [go_sem,↓reduceIte,n0,reduceCtorEq,n1,n2,n3,n4,n5,i0,i1,i2,i3,i4,i5,i6,i7]
        · omega
        · omega
        intro v' w21 ho hu hfr
        have hP21 := (hP20 : Upd (ownB (.slice av j kv)) w18.drew w20).trans hu
        have hzq21 := hP21.size
        simp only [size_drew] at hzq21
        have hlq21 := hP21.blk_some (show blk w18.drew (w.heap.size + 1) = _ from hl18) (hnb _ (.inl (by omega)))
        have hg' := GrowT.snoc hown hall hx21 hu hfr ho
        obtain ⟨va,vc,hv',_⟩ := ho.shape
        subst hv'
        have hne : ¬ ownB (.slice va (css.length + 1) vc) (w.heap.size + 1) := fun h => (hfr _ h).elim (hnb _ (.inl (by omega))) (fun h => by omega)
        refine ⟨hP21,?_⟩
        try simp (maxSteps:=1000000)(disch:=(first|omega|(simp only [qI,qJ,qK]<;>omega)|exact qL _ | (refine hnb _ ?_;first | omega | (simp only [World.size_alloc,size_wr,size_drew] <;> omega)))) only [go_sem,↓reduceIte,n0,reduceCtorEq,n1,n2,n3,n4,n5,i0,i1,i2,i3,i4,i5,i6,i7,hlq21,Int.toNat_natCast,Nat.mul_one,hrc1_0,hrc1_2,hrc1_3,hrc1_77,hri]
        repeat ((first | refine qA rfl ?_|refine qB ?_|refine qC rfl ?_|refine qD ?_|refine qE ?_|refine qF ?_|refine qG ?_|refine qH ?_);try simp (maxSteps:=1000000)(disch:=(first|omega|(simp only [qI,qJ,qK]<;>omega)|exact qL _)) only [go_sem,↓reduceIte,n0,reduceCtorEq,n1,n2,n3,n4,n5,i0,i1,i2,i3,i4,i5,i6,i7,hlq21,Int.toNat_natCast,Nat.mul_one,hrc1_0,hrc1_2,hrc1_3,hrc1_77,hri])
        refine ⟨⟨(by simp (maxSteps:=1000000)(disch:=(first|omega|(simp only [qI,qJ,qK]<;>omega)|exact qL _)) only [go_sem,↓reduceIte,n0,reduceCtorEq,n1,n2,n3,n4,n5,i0,i1,i2,i3,i4,i5,i6,i7,Holds_nil,Holds_cons,hrc1_0,hrc1_2,hrc1_3,hrc1_77,hri]),j + 1,(by simp (maxSteps:=1000000)(disch:=(first|omega|(simp only [qI,qJ,qK]<;>omega)|exact qL _)) only [go_sem,↓reduceIte,n0,reduceCtorEq,n1,n2,n3,n4,n5,i0,i1,i2,i3,i4,i5,i6,i7,hrc1_0,hrc1_2,hrc1_3,hrc1_77,hri];all_goals rfl),.slice va (css.length + 1) vc,by omega,?_,?_,?_⟩,?_⟩
        · rw [blk_wr_eq,hlq21];rfl
        · rw [hcat,List.map_append];exact hg'.upd ((Upd.refl _ _).wr _ _ (.inr rfl)) hne
        · refine Upd.wr ?_ _ _ (.inr rfl)
          exact (hUk.more ((hEw21.mono fun _ h => h.elim).trans hu) fun b hb h => absurd h (hnb b (.inl hb)))
        · try simp (maxSteps:=1000000)(disch:=(first|omega|(simp only [qI,qJ,qK]<;>omega)|exact qL _)) only [go_sem,↓reduceIte,n0,reduceCtorEq,n1,n2,n3,n4,n5,i0,i1,i2,i3,i4,i5,i6,i7,hrc1_0,hrc1_2,hrc1_3,hrc1_77,hri]
          simp only [RowKit.intOf];omega
      · have hk22 : Ext w17 (wr (wr (w17.alloc (.cells #[.bool false] 4)).drew w17.heap.size 0 [.bool false]) w17.heap.size 0 [.bool true]) := ((Upd.refl _ _).drew).trans q4
        generalize (wr (wr (w17.alloc (.cells #[.bool false] 4)).drew w17.heap.size 0 [.bool false]) w17.heap.size 0 [.bool true]) = w22 at *
        have hzk22 := hk22.size
        have hX22 : Ext w w22 := hX17.trans hk22
        have hb22 := hk22.blk_some hb17 id
        have hl22 := hk22.blk_some hl17 id
        have ht22 := hk22.blk_some ht17 id
        have hxe22 := hX22.blk_some hxe id
        repeat ((first | refine qA rfl ?_|refine qB ?_|refine qC rfl ?_|refine qD ?_|refine qE ?_|refine qF ?_|refine qG ?_|refine qH ?_);try simp (maxSteps:=1000000)(disch:=(first|omega|(simp only [qI,qJ,qK]<;>omega)|exact qL _)) only [go_sem,↓reduceIte,n0,reduceCtorEq,n1,n2,n3,n4,n5,i0,i1,i2,i3,i4,i5,i6,i7,hb22,hl22,ht22,hxe22,Int.toNat_natCast,Nat.mul_one,hq0,hq1,hq2,hrc1_0,hrc1_2,hrc1_3,hrc1_77,hri])
        refine W.drawR (.take 0 (.take 1 (.take 2 (.take 3 (.take 4 (.take 5 (.take 6 (.take 7 (.take 8 (.take 9 (.take 10 (.take 12 (.two 11 (.only 13 (.only 14 (.take 15 (.take 16 (.last 17))))) 13 (.only 11 (.only 14 (.take 15 (.take 16 (.last 17)))))))))))))))))) (ownB (.slice av j kv)) mixed (by kernel_rfl) ?_
        try simp (maxSteps:=1000000)(disch:=(first|omega|(simp only [qI,qJ,qK]<;>omega)|exact qL _ | (refine hnb _ ?_;first | omega | (simp only [World.size_alloc,size_wr,size_drew] <;> omega)))) only [go_sem,↓reduceIte,n0,reduceCtorEq,n1,n2,n3,n4,n5,i0,i1,i2,i3,i4,i5,i6,i7,hb22,hl22,ht22,hxe22,Int.toNat_natCast,Nat.mul_one,hq0,hq1,hq2,hrc1_0,hrc1_2,hrc1_3,hrc1_77,hri]
        refine ⟨?_,?_⟩
        · skip
          have hxq23 := (Upd.refl _ _ : Upd (ownB (.slice av j kv)) w22.drew w22.drew).blk_some (show blk w22.drew be = _ from hxe22) (hnb _ (.inl (by omega)))
          refine (tellX0_fn (d := d) (ok := ok) y ce w22.drew (b := be) (o := oe + j * 6) hxq23 (fun k hk => by have := hqe k hk;rw [← Nat.add_assoc] at this;exact this) ((RepS_lay true _ _).keep (Rep1_part.1 hRe) ((((hX22.drew).mono fun _ h => h.elim).trans (Upd.refl _ _) : Upd (ownB (.slice av j kv)) w w22.drew).keeps fun b hb _ => hnb b (.inl (by omega)))) (hgy.2.2 rfl)).mono ?_
          rintro _ w23 ⟨⟨c23,rfl,hc23⟩,hEx23⟩
          obtain ⟨T23,hT23⟩ : ∃ T,T = tlP (d + 1) fs_X0 y := ⟨_,rfl⟩
          replace hc23 : TreeC (fun b => w22.drew.heap.size ≤ b) w23 T23 c23 := by rw [hT23];exact hc23
          obtain ⟨vS23,vL23,vU23,rfl,hn23,hS23,hLL23,hUU23⟩ := hc23.inv
          have k1_23 := hS23.flat
          have k2_23 := SlR.flat hLL23
          have k3_23 := SlR.flat hUU23
          have hP23 : Upd (ownB (.slice av j kv)) w22.drew w23 := (Upd.refl _ _).trans (hEx23.mono fun _ h => h.elim)
          have hsq23 := hEx23.size
          try simp only [size_drew] at hsq23
          refine ⟨hP23,?_⟩
          try simp (maxSteps:=1000000)(disch:=(first|omega|(simp only [qI,qJ,qK]<;>omega)|exact qL _ | (refine hnb _ ?_;first | omega | (simp only [World.size_alloc,size_wr,size_drew] <;> omega)))) only [go_sem,↓reduceIte,n0,reduceCtorEq,n1,n2,n3,n4,n5,i0,i1,i2,i3,i4,i5,i6,i7,hb22,hl22,ht22,hxe22,Int.toNat_natCast,Nat.mul_one,hq0,hq1,hq2,hrc1_0,hrc1_2,hrc1_3,hrc1_77,hri,k1_23,k2_23,k3_23]
          have hP24 : Upd (ownB (.slice av j kv)) w22.drew (w23.alloc (.cells #[.int .i64 0,.slice none 0 0,.bool false,.slice none 0 0,.slice none 0 0] 26)) := show Upd (ownB (.slice av j kv)) w22.drew (w23.alloc (.cells #[.int .i64 0,.slice none 0 0,.bool false,.slice none 0 0,.slice none 0 0] 26)) from (hP23).alloc _
          have hn24 : blk (w23.alloc (.cells #[.int .i64 0,.slice none 0 0,.bool false,.slice none 0 0,.slice none 0 0] 26)) w23.heap.size = some (#[.int .i64 0,.slice none 0 0,.bool false,.slice none 0 0,.slice none 0 0],26,(0,0)) := show blk (w23.alloc (.cells #[.int .i64 0,.slice none 0 0,.bool false,.slice none 0 0,.slice none 0 0] 26)) w23.heap.size = some (#[.int .i64 0,.slice none 0 0,.bool false,.slice none 0 0,.slice none 0 0],26,(0,0)) from blk_alloc_new rfl
          have hsq24 : (w23.alloc (.cells #[.int .i64 0,.slice none 0 0,.bool false,.slice none 0 0,.slice none 0 0] 26)).heap.size = w23.heap.size + 1 := show (w23.alloc (.cells #[.int .i64 0,.slice none 0 0,.bool false,.slice none 0 0,.slice none 0 0] 26)).heap.size = w23.heap.size + 1 from World.size_alloc _ _
          have hEx24 : Ext w23 (w23.alloc (.cells #[.int .i64 0,.slice none 0 0,.bool false,.slice none 0 0,.slice none 0 0] 26)) := show Ext w23 (w23.alloc (.cells #[.int .i64 0,.slice none 0 0,.bool false,.slice none 0 0,.slice none 0 0] 26)) from Upd.alloc (Upd.refl _ _) _
          refine ⟨hP24,?_⟩
          try simp only [List.append_nil]
          generalize (w23.alloc (.cells #[.int .i64 0,.slice none 0 0,.bool false,.slice none 0 0,.slice none 0 0] 26)) = w24 at *
          try simp only [size_drew] at hsq24
          have hEw25 : Ext w17 w24 := ((hk22.drew.trans hEx23).trans hEx24)
          have hzw25 := hEw25.size
          obtain ⟨css,hown,hall⟩ := (hg.ext hEw25).ex
          have hcl := hall.1
          rw [hlj] at hcl
          have hx25 : TreeC (fun b => (fun b => w1.heap.size ≤ b) b ∧ b ≠ w.heap.size + 1 ∧ ¬ ownB (.slice av j kv) b) w24 ((tl1 (tlP (d + 1)) fAlterUserSCRAMCredentialsRequest_1.of fAlterUserSCRAMCredentialsRequest_1.sub) y) [.int .i64 T23.n,vS23,.bool T23.null,vL23,vU23] := by
            rw [show (tl1 (tlP (d + 1)) fAlterUserSCRAMCredentialsRequest_1.of fAlterUserSCRAMCredentialsRequest_1.sub) y = _ from hT23.symm]
            exact TreeC.weaken (fun b _ hk => ⟨by omega,by omega,hnb b (.inr (by omega))⟩) (TreeC.weaken (ok' := fun b => w17.heap.size ≤ b) (fun b _ hk => by have hk' : w22.drew.heap.size ≤ b := hk;(try simp only [size_drew] at hk');omega) (TreeC.keep (Ext.keeps hEx24 _) hc23))
          refine wp_append ap_23_23 (m := 1) (news := [.int .i64 0,.slice none 0 0,.bool false,.slice none 0 0,.slice none 0 0]) (n := css.length) (cs := css.flatten) (v := (.slice av j kv)) ?_ rfl hown.1 (all2_flat_tree hall) (Src.blk (fr := (0,0)) (T := 26) hn24 rfl rfl) ?_ ?_ ?_
          · first | rfl | simp (maxSteps:=1000000)(disch:=(first|omega|(simp only [qI,qJ,qK]<;>omega)|exact qL _)) only [go_sem,↓reduceIte,n0,reduceCtorEq,n1,n2,n3,n4,n5,i0,i1,i2,i3,i4,i5,i6,i7]
          · omega
          · omega
          intro v' w25 ho hu hfr
          have hP25 := (hP24 : Upd (ownB (.slice av j kv)) w22.drew w24).trans hu
          have hzq25 := hP25.size
          simp only [size_drew] at hzq25
          have hlq25 := hP25.blk_some (show blk w22.drew (w.heap.size + 1) = _ from hl22) (hnb _ (.inl (by omega)))
          rcases ho.2 with ⟨_,h⟩ | ⟨g,cap,rest,fr,hv',hg',hbg,hlen,hth,hle⟩
          · exact absurd h (Nat.succ_ne_zero _)
          subst hv'
          have hgne : ¬ g = w.heap.size + 1 := fun h => (hfr g ⟨_,_,_,rfl,rfl⟩).elim (fun h' => hnb _ (.inl (by omega)) (h ▸ h')) (fun h' => by omega)
          have hfl : css.flatten.length = css.length * 5 := flatten_len hown.2
          have hlen2 : (css.flatten ++ ([.int .i64 0,.slice none 0 0,.bool false,.slice none 0 0,.slice none 0 0] : List Value) ++ rest).length = cap * 5 := by simp only [List.length_append] at hlen ⊢;omega
          obtain ⟨XX,hXX⟩ : ∃ X : Array Value,X = (css.flatten ++ ([.int .i64 0,.slice none 0 0,.bool false,.slice none 0 0,.slice none 0 0] : List Value) ++ rest).toArray := ⟨_,rfl⟩
          have hbgX : blk w25 g = some (XX,26,fr) := by rw [hXX];exact hbg
          have hXsz : XX.size = cap * 5 := by rw [hXX,List.size_toArray];exact hlen2
          have hth2 : thaw fr (css.length * 5) 5 = true := thaw_of hth (by omega)
          have hst : css.length * 5 + 5 ≤ XX.size := by omega
          have hset := Own.setlast (cs := [.int .i64 T23.n,vS23,.bool T23.null,vL23,vU23]) ho rfl rfl
          have hu2 : Upd (ownB (.slice av j kv)) w24 (wr w25 g (css.length * 5) [.int .i64 T23.n,vS23,.bool T23.null,vL23,vU23]) := hu.wr _ _ ((hfr g ⟨_,_,_,rfl,rfl⟩).symm)
          have hg2 := GrowT.snoc hown hall hx25 hu2 hfr hset
          have hcj : css.length = j := by first | exact hcl.symm.trans hlj | omega
          simp only [hcj] at hth2 hst hset hu2 hg2
          refine ⟨hP25,?_⟩
          try simp (maxSteps:=1000000)(disch:=(first|omega|(simp only [qI,qJ,qK]<;>omega)|exact qL _ | (refine hnb _ ?_;first | omega | (simp only [World.size_alloc,size_wr,size_drew] <;> omega)))) only [go_sem,↓reduceIte,n0,reduceCtorEq,n1,n2,n3,n4,n5,i0,i1,i2,i3,i4,i5,i6,i7,hlq25,hbgX,hth2,hst,hcj,Int.toNat_natCast,Nat.mul_one,k1_23,k2_23,k3_23,hrc1_0,hrc1_2,hrc1_3,hrc1_77,hri]
          repeat ((first | refine qA rfl ?_|refine qB ?_|refine qC rfl ?_|refine qD ?_|refine qE ?_|refine qF ?_|refine qG ?_|refine qH ?_);try simp (maxSteps:=1000000)(disch:=(first|omega|(simp only [qI,qJ,qK]<;>omega)|exact qL _)) only [go_sem,↓reduceIte,n0,reduceCtorEq,n1,n2,n3,n4,n5,i0,i1,i2,i3,i4,i5,i6,i7,hlq25,hbgX,hth2,hst,hcj,Int.toNat_natCast,Nat.mul_one,k1_23,k2_23,k3_23,hrc1_0,hrc1_2,hrc1_3,hrc1_77,hri])
          refine ⟨⟨(by simp (maxSteps:=1000000)(disch:=(first|omega|(simp only [qI,qJ,qK]<;>omega)|exact qL _)) only [go_sem,↓reduceIte,n0,reduceCtorEq,n1,n2,n3,n4,n5,i0,i1,i2,i3,i4,i5,i6,i7,Holds_nil,Holds_cons,hrc1_0,hrc1_2,hrc1_3,hrc1_77,hri]),j + 1,(by simp (maxSteps:=1000000)(disch:=(first|omega|(simp only [qI,qJ,qK]<;>omega)|exact qL _)) only [go_sem,↓reduceIte,n0,reduceCtorEq,n1,n2,n3,n4,n5,i0,i1,i2,i3,i4,i5,i6,i7,hrc1_0,hrc1_2,hrc1_3,hrc1_77,hri];all_goals rfl),.slice (some ⟨g,0,none⟩) (j + 1) cap,by omega,?_,?_,?_⟩,?_⟩
          · rw [blk_wr_ne (by omega),blk_wr_eq,hlq25];rfl
          · rw [hcat,List.map_append,wr_comm (Ne.symm hgne)]
            exact hg2.upd ((Upd.refl _ _).wr _ _ (.inr rfl)) (fun h => hgne (ownB_row h).symm)
          · rw [wr_comm (Ne.symm hgne)]
            refine Upd.wr ?_ _ _ (.inr rfl)
            exact (hUk.more ((hEw25.mono fun _ h => h.elim).trans hu2) fun b hb h => absurd h (hnb b (.inl hb)))
          · try simp (maxSteps:=1000000)(disch:=(first|omega|(simp only [qI,qJ,qK]<;>omega)|exact qL _)) only [go_sem,↓reduceIte,n0,reduceCtorEq,n1,n2,n3,n4,n5,i0,i1,i2,i3,i4,i5,i6,i7,hrc1_0,hrc1_2,hrc1_3,hrc1_77,hri]
            simp only [RowKit.intOf];omega
        · skip
          have hP26 : Upd (ownB (.slice av j kv)) w22.drew (w22.alloc (.cells #[.int .i64 0,.slice none 0 0,.bool false,.slice none 0 0,.slice none 0 0] 26)).drew := show Upd (ownB (.slice av j kv)) w22.drew (w22.drew.alloc (.cells #[.int .i64 0,.slice none 0 0,.bool false,.slice none 0 0,.slice none 0 0] 26)) from (Upd.refl _ _).alloc _
          have hn26 : blk (w22.alloc (.cells #[.int .i64 0,.slice none 0 0,.bool false,.slice none 0 0,.slice none 0 0] 26)).drew w22.drew.heap.size = some (#[.int .i64 0,.slice none 0 0,.bool false,.slice none 0 0,.slice none 0 0],26,(0,0)) := show blk (w22.drew.alloc (.cells #[.int .i64 0,.slice none 0 0,.bool false,.slice none 0 0,.slice none 0 0] 26)) w22.drew.heap.size = some (#[.int .i64 0,.slice none 0 0,.bool false,.slice none 0 0,.slice none 0 0],26,(0,0)) from blk_alloc_new rfl
          have hsq26 : (w22.alloc (.cells #[.int .i64 0,.slice none 0 0,.bool false,.slice none 0 0,.slice none 0 0] 26)).drew.heap.size = w22.drew.heap.size + 1 := show (w22.drew.alloc (.cells #[.int .i64 0,.slice none 0 0,.bool false,.slice none 0 0,.slice none 0 0] 26)).heap.size = w22.drew.heap.size + 1 from World.size_alloc _ _
          have hEx26 : Ext w22.drew (w22.alloc (.cells #[.int .i64 0,.slice none 0 0,.bool false,.slice none 0 0,.slice none 0 0] 26)).drew := show Ext w22.drew (w22.drew.alloc (.cells #[.int .i64 0,.slice none 0 0,.bool false,.slice none 0 0,.slice none 0 0] 26)) from Upd.alloc (Upd.refl _ _) _
          refine ⟨hP26,?_⟩
          try simp only [List.append_nil]
          generalize (w22.alloc (.cells #[.int .i64 0,.slice none 0 0,.bool false,.slice none 0 0,.slice none 0 0] 26)).drew = w26 at *
          try simp only [size_drew] at hsq26
          have hxq27 := (hP26 : Upd (ownB (.slice av j kv)) w22.drew w26).blk_some (show blk w22.drew be = _ from hxe22) (hnb _ (.inl (by omega)))
          refine (tellX0_fn (d := d) (ok := ok) y ce w26 (b := be) (o := oe + j * 6) hxq27 (fun k hk => by have := hqe k hk;rw [← Nat.add_assoc] at this;exact this) ((RepS_lay true _ _).keep (Rep1_part.1 hRe) ((((hX22.drew).mono fun _ h => h.elim).trans (hP26) : Upd (ownB (.slice av j kv)) w w26).keeps fun b hb _ => hnb b (.inl (by omega)))) (hgy.2.2 rfl)).mono ?_
          rintro _ w27 ⟨⟨c27,rfl,hc27⟩,hEx27⟩
          obtain ⟨T27,hT27⟩ : ∃ T,T = tlP (d + 1) fs_X0 y := ⟨_,rfl⟩
          replace hc27 : TreeC (fun b => w26.heap.size ≤ b) w27 T27 c27 := by rw [hT27];exact hc27
          obtain ⟨vS27,vL27,vU27,rfl,hn27,hS27,hLL27,hUU27⟩ := hc27.inv
          have k1_27 := hS27.flat
          have k2_27 := SlR.flat hLL27
          have k3_27 := SlR.flat hUU27
          have hP27 : Upd (ownB (.slice av j kv)) w22.drew w27 := (hP26).trans (hEx27.mono fun _ h => h.elim)
          have hsq27 := hEx27.size
          try simp only [size_drew] at hsq27
          refine ⟨hP27,?_⟩
          try simp (maxSteps:=1000000)(disch:=(first|omega|(simp only [qI,qJ,qK]<;>omega)|exact qL _ | (refine hnb _ ?_;first | omega | (simp only [World.size_alloc,size_wr,size_drew] <;> omega)))) only [go_sem,↓reduceIte,n0,reduceCtorEq,n1,n2,n3,n4,n5,i0,i1,i2,i3,i4,i5,i6,i7,hb22,hl22,ht22,hxe22,Int.toNat_natCast,Nat.mul_one,hq0,hq1,hq2,hrc1_0,hrc1_2,hrc1_3,hrc1_77,hri,k1_27,k2_27,k3_27]
          have hEw28 : Ext w17 w27 := ((hk22.drew.trans hEx26).trans hEx27)
          have hzw28 := hEw28.size
          obtain ⟨css,hown,hall⟩ := (hg.ext hEw28).ex
          have hcl := hall.1
          rw [hlj] at hcl
          have hx28 : TreeC (fun b => (fun b => w1.heap.size ≤ b) b ∧ b ≠ w.heap.size + 1 ∧ ¬ ownB (.slice av j kv) b) w27 ((tl1 (tlP (d + 1)) fAlterUserSCRAMCredentialsRequest_1.of fAlterUserSCRAMCredentialsRequest_1.sub) y) [.int .i64 T27.n,vS27,.bool T27.null,vL27,vU27] := by
            rw [show (tl1 (tlP (d + 1)) fAlterUserSCRAMCredentialsRequest_1.of fAlterUserSCRAMCredentialsRequest_1.sub) y = _ from hT27.symm]
            exact TreeC.weaken (fun b _ hk => ⟨by omega,by omega,hnb b (.inr (by omega))⟩) (TreeC.weaken (ok' := fun b => w17.heap.size ≤ b) (fun b _ hk => by have hk' : w26.heap.size ≤ b := hk;(try simp only [size_drew] at hk');omega) hc27)
          refine wp_append ap_23_23 (m := 1) (news := [.int .i64 0,.slice none 0 0,.bool false,.slice none 0 0,.slice none 0 0]) (n := css.length) (cs := css.flatten) (v := (.slice av j kv)) ?_ rfl hown.1 (all2_flat_tree hall) (Src.blk (fr := (0,0)) (T := 26) (hEx27.blk_some hn26 id) rfl rfl) ?_ ?_ ?_
          · first | rfl | simp (maxSteps:=1000000)(disch:=(first|omega|(simp only [qI,qJ,qK]<;>omega)|exact qL _)) only [go_sem,↓reduceIte,n0,reduceCtorEq,n1,n2,n3,n4,n5,i0,i1,i2,i3,i4,i5,i6,i7]
          · omega
          · omega
          intro v' w28 ho hu hfr
          have hP28 := (hP27 : Upd (ownB (.slice av j kv)) w22.drew w27).trans hu
          have hzq28 := hP28.size
          simp only [size_drew] at hzq28
          have hlq28 := hP28.blk_some (show blk w22.drew (w.heap.size + 1) = _ from hl22) (hnb _ (.inl (by omega)))
          rcases ho.2 with ⟨_,h⟩ | ⟨g,cap,rest,fr,hv',hg',hbg,hlen,hth,hle⟩
          · exact absurd h (Nat.succ_ne_zero _)
          subst hv'
          have hgne : ¬ g = w.heap.size + 1 := fun h => (hfr g ⟨_,_,_,rfl,rfl⟩).elim (fun h' => hnb _ (.inl (by omega)) (h ▸ h')) (fun h' => by omega)
          have hfl : css.flatten.length = css.length * 5 := flatten_len hown.2
          have hlen2 : (css.flatten ++ ([.int .i64 0,.slice none 0 0,.bool false,.slice none 0 0,.slice none 0 0] : List Value) ++ rest).length = cap * 5 := by simp only [List.length_append] at hlen ⊢;omega
          obtain ⟨XX,hXX⟩ : ∃ X : Array Value,X = (css.flatten ++ ([.int .i64 0,.slice none 0 0,.bool false,.slice none 0 0,.slice none 0 0] : List Value) ++ rest).toArray := ⟨_,rfl⟩
          have hbgX : blk w28 g = some (XX,26,fr) := by rw [hXX];exact hbg
          have hXsz : XX.size = cap * 5 := by rw [hXX,List.size_toArray];exact hlen2
          have hth2 : thaw fr (css.length * 5) 5 = true := thaw_of hth (by omega)
          have hst : css.length * 5 + 5 ≤ XX.size := by omega
          have hset := Own.setlast (cs := [.int .i64 T27.n,vS27,.bool T27.null,vL27,vU27]) ho rfl rfl
          have hu2 : Upd (ownB (.slice av j kv)) w27 (wr w28 g (css.length * 5) [.int .i64 T27.n,vS27,.bool T27.null,vL27,vU27]) := hu.wr _ _ ((hfr g ⟨_,_,_,rfl,rfl⟩).symm)
          have hg2 := GrowT.snoc hown hall hx28 hu2 hfr hset
          have hcj : css.length = j := by first | exact hcl.symm.trans hlj | omega
          simp only [hcj] at hth2 hst hset hu2 hg2
          refine ⟨hP28,?_⟩
          try simp (maxSteps:=1000000)(disch:=(first|omega|(simp only [qI,qJ,qK]<;>omega)|exact qL _ | (refine hnb _ ?_;first | omega | (simp only [World.size_alloc,size_wr,size_drew] <;> omega)))) only [go_sem,↓reduceIte,n0,reduceCtorEq,n1,n2,n3,n4,n5,i0,i1,i2,i3,i4,i5,i6,i7,hlq28,hbgX,hth2,hst,hcj,Int.toNat_natCast,Nat.mul_one,k1_27,k2_27,k3_27,hrc1_0,hrc1_2,hrc1_3,hrc1_77,hri]
          repeat ((first | refine qA rfl ?_|refine qB ?_|refine qC rfl ?_|refine qD ?_|refine qE ?_|refine qF ?_|refine qG ?_|refine qH ?_);try simp (maxSteps:=1000000)(disch:=(first|omega|(simp only [qI,qJ,qK]<;>omega)|exact qL _)) only [go_sem,↓reduceIte,n0,reduceCtorEq,n1,n2,n3,n4,n5,i0,i1,i2,i3,i4,i5,i6,i7,hlq28,hbgX,hth2,hst,hcj,Int.toNat_natCast,Nat.mul_one,k1_27,k2_27,k3_27,hrc1_0,hrc1_2,hrc1_3,hrc1_77,hri])
          refine ⟨⟨(by simp (maxSteps:=1000000)(disch:=(first|omega|(simp only [qI,qJ,qK]<;>omega)|exact qL _)) only [go_sem,↓reduceIte,n0,reduceCtorEq,n1,n2,n3,n4,n5,i0,i1,i2,i3,i4,i5,i6,i7,Holds_nil,Holds_cons,hrc1_0,hrc1_2,hrc1_3,hrc1_77,hri]),j + 1,(by simp (maxSteps:=1000000)(disch:=(first|omega|(simp only [qI,qJ,qK]<;>omega)|exact qL _)) only [go_sem,↓reduceIte,n0,reduceCtorEq,n1,n2,n3,n4,n5,i0,i1,i2,i3,i4,i5,i6,i7,hrc1_0,hrc1_2,hrc1_3,hrc1_77,hri];all_goals rfl),.slice (some ⟨g,0,none⟩) (j + 1) cap,by omega,?_,?_,?_⟩,?_⟩
          · rw [blk_wr_ne (by omega),blk_wr_eq,hlq28];rfl
          · rw [hcat,List.map_append,wr_comm (Ne.symm hgne)]
            exact hg2.upd ((Upd.refl _ _).wr _ _ (.inr rfl)) (fun h => hgne (ownB_row h).symm)
          · rw [wr_comm (Ne.symm hgne)]
            refine Upd.wr ?_ _ _ (.inr rfl)
            exact (hUk.more ((hEw28.mono fun _ h => h.elim).trans hu2) fun b hb h => absurd h (hnb b (.inl hb)))
          · try simp (maxSteps:=1000000)(disch:=(first|omega|(simp only [qI,qJ,qK]<;>omega)|exact qL _)) only [go_sem,↓reduceIte,n0,reduceCtorEq,n1,n2,n3,n4,n5,i0,i1,i2,i3,i4,i5,i6,i7,hrc1_0,hrc1_2,hrc1_3,hrc1_77,hri]
            simp only [RowKit.intOf];omega
    · have hjn : j = L1.length := by omega
      subst hjn
      rw [List.take_length] at hg
      repeat ((first | refine qA rfl ?_|refine qB ?_|refine qC rfl ?_|refine qD ?_|refine qE ?_|refine qF ?_|refine qG ?_|refine qH ?_);try simp (maxSteps:=1000000)(disch:=(first|omega|(simp only [qI,qJ,qK]<;>omega)|exact qL _)) only [go_sem,↓reduceIte,n0,reduceCtorEq,n1,n2,n3,n4,n5,i0,i1,i2,i3,i4,i5,i6,i7,hrc1_0,hrc1_2,hrc1_3,hrc1_77,hri])
      exact ⟨(by simp (maxSteps:=1000000)(disch:=(first|omega|(simp only [qI,qJ,qK]<;>omega)|exact qL _)) only [go_sem,↓reduceIte,n0,reduceCtorEq,n1,n2,n3,n4,n5,i0,i1,i2,i3,i4,i5,i6,i7,Holds_nil,Holds_cons,hrc1_0,hrc1_2,hrc1_3,hrc1_77,hri]),v,hl17,hg,hUk⟩
  rintro ρ w29 ⟨⟨hrd1_0,hrd1_2,hrd1_3,hrd1_77,-⟩,v,hl29,hg29,hUz29⟩
  have hV29 : Upd (fun b => b = w.heap.size + 1 ∨ b = w.heap.size + 2) w16 w29 := hUz29.mono fun _ h => .inl h
  have hU29 : Upd (fun b => b = w.heap.size + 1 ∨ b = w.heap.size + 2) w1 w29 := hU16.trans hV29
  have hz29 := hU29.size
  have hX29 : Ext w w29 := hE1.more hU29 fun b hb h => by omega
  have hb29 := hX29.blk_some hb id
  have ht29 := hUz29.blk_some ht16 (by omega)
  obtain ⟨av1,kv1,hvs,_⟩ := hg29.shape
  subst hvs
  have hf1 : TreeC (fun b => w1.heap.size ≤ b) w29 (.mk 0 [] (t.at 1).null (L1.map (tl1 (tlP (d + 1)) fAlterUserSCRAMCredentialsRequest_1.of fAlterUserSCRAMCredentialsRequest_1.sub)) []) [.int .i64 0,.slice none 0 0,.bool (t.at 1).null,.slice av1 (List.map (tl1 (tlP (d + 1)) fAlterUserSCRAMCredentialsRequest_1.of fAlterUserSCRAMCredentialsRequest_1.sub) L1).length kv1,.slice none 0 0] := TreeC.intro rfl (BytesV.nil _ _) (hg29.trees (fun _ _ h => h) (fun b hb => by have := hz16;omega)) (tagsN _ _)
  repeat ((first | refine qA rfl ?_|refine qB ?_|refine qC rfl ?_|refine qD ?_|refine qE ?_|refine qF ?_|refine qG ?_|refine qH ?_);try simp (maxSteps:=1000000)(disch:=(first|omega|(simp only [qI,qJ,qK]<;>omega)|exact qL _)) only [go_sem,↓reduceIte,n0,reduceCtorEq,n1,n2,n3,n4,n5,i0,i1,i2,i3,i4,i5,i6,i7,hb29,hl29,ht29,hq0,hq1,hq2,hrd1_0,hrd1_2,hrd1_3])
  refine (EachG_fn (ok := fun b => b < w.heap.size) 169 ca_169 #[.pointer (some ⟨w.heap.size + 2,0,none⟩)] w29 (tb := b) (to := 3) hb29 hq2 ((hT.weaken fun b hb _ => hb).keep (hX29.keeps _)) (sortT_perm _) (sortT_lt hgu.2.1) (by rw [(sortT_perm t.u).length_eq];exact hgu.1)
    (fun b => b = w.heap.size + 2) (by omega) (fun b hb hk e => by have hk' : b < w.heap.size := hk;omega) (fun b hb => by have := blk_lt ht29;omega)
    (fun wl done w' => ∃ v,blk w' (w.heap.size + 2) = some (#[.int .i64 0,.slice none 0 0,.bool false,.slice (some ⟨w.heap.size + 1,0,none⟩) 2 2,v],26,(0,0)) ∧ GrowU (fun b => w1.heap.size ≤ b) wl.heap.size (w.heap.size + 2) w' 65 v done) (fun wl hE => ⟨_,hE.blk_some ht29 id,GrowU.nil _ _ _ _ _⟩) ?_).mono ?_
  · rintro wl hE done y vv wc hpre ⟨v,hbv,hg⟩ hU hvv hy
    have hz' := hE.size
    have hzu := hU.size
    have htl := blk_lt ht29
    have hpl := hpre.length_le
    simp only [List.length_append,List.length_cons,List.length_nil] at hpl
    rw [(sortT_perm t.u).length_eq] at hpl
    have hlu := hgu.1
    have hmy : y ∈ t.u := (sortT_perm t.u).mem_iff.1 (hpre.subset (by simp))
    refine (tagclAlterUserSCRAMCredentialsRequest_fn (ok := fun b => b < w.heap.size) _ _ _ _ v done y vv wc hbv hg hzu (by omega) (hvv.keep ((hE.mono (fun _ h => h.elim) |>.trans hU : Upd (fun b => b = w.heap.size + 2) w29 wc).keeps fun b _ hk e => by have hk' : b < w.heap.size := hk;omega)) hy (hgu.2.2 y hmy) (by omega) (fun b hb => by have := hz29;omega)).mono ?_
    rintro _ w2' ⟨⟨v',h1,h2⟩,h3⟩
    exact ⟨⟨v',h1,h2⟩,hU.trans' h3 fun b hb h => h.elim id fun h => by omega⟩
  rintro _ w30 ⟨wl,hEl,⟨v,ht30,hgU⟩,hUe⟩
  have hzl := hEl.size
  obtain ⟨aU,kU,hvs,_⟩ := hgU.shape
  subst hvs
  have hV30 : Upd (fun b => b = w.heap.size + 1 ∨ b = w.heap.size + 2) w29 w30 := (hEl.mono fun _ h => h.elim).trans (hUe.mono fun _ h => .inr h)
  have hU30 : Upd (fun b => b = w.heap.size + 1 ∨ b = w.heap.size + 2) w1 w30 := hU29.trans hV30
  have hz30 := hU30.size
  have hX30 : Ext w w30 := hE1.more hU30 fun b hb h => by omega
  have hb30 := hX30.blk_some hb id
  have hl30 := (((hEl.mono fun _ h => h.elim).trans hUe : Upd (fun b => b = w.heap.size + 2) w29 w30)).blk_some hl29 (by omega)
  have hTU := hgU.tags (ok' := (fun b => w1.heap.size ≤ b)) (fun _ _ h => h) (fun b hb => by have := hz29;omega)
  repeat ((first | refine qA rfl ?_|refine qB ?_|refine qC rfl ?_|refine qD ?_|refine qE ?_|refine qF ?_|refine qG ?_|refine qH ?_);try simp (maxSteps:=1000000)(disch:=(first|omega|(simp only [qI,qJ,qK]<;>omega)|exact qL _)) only [go_sem,↓reduceIte,n0,reduceCtorEq,n1,n2,n3,n4,n5,i0,i1,i2,i3,i4,i5,i6,i7,hb30,hl30,ht30,hq0,hq1,hq2,hrd1_0,hrd1_2,hrd1_3,cellsAt_five])
  refine (sorted_fn _ _ w30 hTU (sortT_lt hgu.2.1) (by rw [(sortT_perm t.u).length_eq];exact hgu.1)).mono ?_
  rintro _ w31 hEs
  have hV31 : Upd (fun b => b = w.heap.size + 1 ∨ b = w.heap.size + 2) w30 w31 := hEs.mono fun _ h => h.elim
  have hU31 : Upd (fun b => b = w.heap.size + 1 ∨ b = w.heap.size + 2) w1 w31 := hU30.trans hV31
  have hz31 := hU31.size
  have hX31 : Ext w w31 := hE1.more hU31 fun b hb h => by omega
  have hb31 := hX31.blk_some hb id
  have hl31 := hEs.blk_some hl30 id
  have ht31 := hEs.blk_some ht30 id
  have hr31 := (hU31.blk_some hr1 (by omega))
  have hC_31 : Upd (fun b => b = w.heap.size + 1 ∨ b = w.heap.size + 2) w31 w31 := Upd.refl _ _
  have hC_30 : Upd (fun b => b = w.heap.size + 1 ∨ b = w.heap.size + 2) w30 w31 := hV31.trans hC_31
  have hC_29 : Upd (fun b => b = w.heap.size + 1 ∨ b = w.heap.size + 2) w29 w31 := hV30.trans hC_30
  have hC_16 : Upd (fun b => b = w.heap.size + 1 ∨ b = w.heap.size + 2) w16 w31 := hV29.trans hC_29
  have hC_15 : Upd (fun b => b = w.heap.size + 1 ∨ b = w.heap.size + 2) w15 w31 := hV16.trans hC_16
  have hC_2 : Upd (fun b => b = w.heap.size + 1 ∨ b = w.heap.size + 2) w2 w31 := hV15.trans hC_15
  have hC_1 : Upd (fun b => b = w.heap.size + 1 ∨ b = w.heap.size + 2) w1 w31 := hV2.trans hC_2
  have hF0 := TreeC.keep (hC_15.keeps fun b hb hk e => by have hk' : w1.heap.size ≤ b := hk;omega) hf0
  have hF1 := TreeC.keep (hC_29.keeps fun b hb hk e => by have hk' : w1.heap.size ≤ b := hk;omega) hf1
  replace hF0 : TreeC (fun b => w1.heap.size ≤ b) w31 (tlF (tlP (d + 1)) fAlterUserSCRAMCredentialsRequest_0 (t.at 0)) [.int .i64 0,.slice none 0 0,.bool (t.at 0).null,.slice av0 (List.map (tl1 (tlP (d + 1)) fAlterUserSCRAMCredentialsRequest_0.of fAlterUserSCRAMCredentialsRequest_0.sub) L0).length kv0,.slice none 0 0] := by rw [show tlF (tlP (d + 1)) fAlterUserSCRAMCredentialsRequest_0 (t.at 0) = .mk 0 [] (t.at 0).null ((if (t.at 0).null = true then [] else (t.at 0).l).map (tl1 (tlP (d + 1)) fAlterUserSCRAMCredentialsRequest_0.of fAlterUserSCRAMCredentialsRequest_0.sub)) [] from rfl,← hL0];exact hF0
  replace hF1 : TreeC (fun b => w1.heap.size ≤ b) w31 (tlF (tlP (d + 1)) fAlterUserSCRAMCredentialsRequest_1 (t.at 1)) [.int .i64 0,.slice none 0 0,.bool (t.at 1).null,.slice av1 (List.map (tl1 (tlP (d + 1)) fAlterUserSCRAMCredentialsRequest_1.of fAlterUserSCRAMCredentialsRequest_1.sub) L1).length kv1,.slice none 0 0] := by rw [show tlF (tlP (d + 1)) fAlterUserSCRAMCredentialsRequest_1 (t.at 1) = .mk 0 [] (t.at 1).null ((if (t.at 1).null = true then [] else (t.at 1).l).map (tl1 (tlP (d + 1)) fAlterUserSCRAMCredentialsRequest_1.of fAlterUserSCRAMCredentialsRequest_1.sub)) [] from rfl,← hL1];exact hF1
  have hTL : TreesV (fun b => (fun b => w1.heap.size ≤ b) b ∨ b = w.heap.size + 1) w31 (.slice (some ⟨w.heap.size + 1,0,none⟩) 2 2) [tlF (tlP (d + 1)) fAlterUserSCRAMCredentialsRequest_0 (t.at 0),tlF (tlP (d + 1)) fAlterUserSCRAMCredentialsRequest_1 (t.at 1)] := by
    refine ⟨[[.int .i64 0,.slice none 0 0,.bool (t.at 0).null,.slice av0 (List.map (tl1 (tlP (d + 1)) fAlterUserSCRAMCredentialsRequest_0.of fAlterUserSCRAMCredentialsRequest_0.sub) L0).length kv0,.slice none 0 0],[.int .i64 0,.slice none 0 0,.bool (t.at 1).null,.slice av1 (List.map (tl1 (tlP (d + 1)) fAlterUserSCRAMCredentialsRequest_1.of fAlterUserSCRAMCredentialsRequest_1.sub) L1).length kv1,.slice none 0 0]],⟨_,2,rfl,Nat.le_refl _,(by intro cs hm;simp only [List.mem_cons,List.not_mem_nil,or_false] at hm;rcases hm with rfl | rfl <;> rfl),.inr ⟨_,rfl,rfl,.inr rfl,_,hl31,fun i hi => by rw [Nat.zero_add,List.getElem?_toArray];rfl⟩⟩,rfl,fun i h1 h2 => ?_⟩
    match i,h1 with
    | 0,_ => exact TreeC.weaken (fun b _ hk => .inl hk) hF0
    | 1,_ => exact TreeC.weaken (fun b _ hk => .inl hk) hF1
  repeat ((first | refine qA rfl ?_|refine qB ?_|refine qC rfl ?_|refine qD ?_|refine qE ?_|refine qF ?_|refine qG ?_|refine qH ?_);try simp (maxSteps:=1000000)(disch:=(first|omega|(simp only [qI,qJ,qK]<;>omega)|exact qL _)) only [go_sem,↓reduceIte,n0,reduceCtorEq,n1,n2,n3,n4,n5,i0,i1,i2,i3,i4,i5,i6,i7,hb31,hl31,ht31,hq0,hq1,hq2,hrd1_0,hrd1_2,hrd1_3,hr31,cellsAt_five])
  refine ⟨⟨_,rfl,?_⟩,hX31.wr _ _ (.inl (Nat.le_refl _))⟩
  have hUr : Upd (fun b => b = w.heap.size) w31 (wr w31 w.heap.size 0 [.int .i64 0,.slice none 0 0,.bool false,.slice (some ⟨w.heap.size + 1,0,none⟩) 2 2,.slice aU (sortT t.u).length kU]) := (Upd.refl _ _).wr _ _ (.inr rfl)
  have hTU2 := hTU.keep (hEs.keeps _)
  exact TreeC.intro rfl (BytesV.nil _ _) ((hTL.keep (hUr.keeps fun b _ hk e => by rcases hk with hk | hk <;> omega)).weaken fun b _ hk => by rcases hk with hk | hk <;> omega) ((hTU2.keep (hUr.keeps fun b _ hk e => by omega)).weaken fun b _ hk => by omega)
end Ms

