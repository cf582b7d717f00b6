/- A part of the proof: see the last text. -/
import Derived.Test.YtmlpaobpdmgcgaaDoorC05
import Derived.Test.YtmlpaobpdmgcgaaDoorC06
import Derived.Test.YtmlpaobpdmgcgaaDoorC08
import Derived.Test.YtmlpaobpdmgcgaaDoorC09
import Derived.Test.YtmlpaobpdmgcgaaDoorC11
import Derived.Test.YtmlpaobpdmgcgaaDoorDescribeACLsRequestP0
set_option linter.unusedSimpArgs false
set_option linter.unusedVariables false
namespace Ms
open Go.World renaming size_alloc → qI
open Ms renaming size_wr → qJ,size_drew → qK,not_noB → qL
open W renaming seqR → qA,seq → qB,regR → qC,condK → qD,block → qE,skip → qF,ret → qG,exit → qH
open Nat renaming reduceEqDiff → n0,reduceAdd → n1,reduceMul → n2,reduceSub → n3,reduceLT → n4,reduceLeDiff → n5
open Int renaming reduceEq → i0,reduceLT → i1,reduceLE → i2,reduceNeg → i3,reduceAdd → i4,reduceSub → i5,reduceMul → i6,reduceToNat → i7
set_option maxRecDepth 8000
open Go Go.Proofs Go.Shelf
attribute [local congr] W_congr WPsq_congr WPp_congr optK_congr addrK_congr intK_congr boolK_congr sliceK_congr tupleK_congr funcK_congr Fn_congr rawK_congr takeK_congr stepK_congr convK_congr aggK_congr

theorem ReadFromDescribeACLsRequest_fn {d : Nat} {ok : Blocks} {ver : Int} {ev : Value} (hlo : 0 ≤ ver) (hhi : ver ≤ 3) (w : World) {vb : Nat} (src : Value) (s : List UInt8) (hv : blk w vb = some (#[.int .i16 ver,.int .i8 0,.pointer none,.int .i8 3,.pointer none,.pointer none,.int .i8 0,.int .i8 0,.map none],111,(0,0))) (hsrc : BytesV ok w src s) (hok0 : ∀ b,ok b → b < w.heap.size ∧ b ≠ vb) (hG : Glo ev w) (hgv : ¬ 0 = vb ∧ ¬ 1 = vb) :
    Fn Tryd.prog 56 #[.pointer (some ⟨vb,0,none⟩),src] w (ReadQ 111 ok ver (d + 1) fs_DescribeACLsRequest vb w (rdP (d + 1) ver (flexB 2 ver) fs_DescribeACLsRequest (some s)) ev) := by
  obtain ⟨sa,sc,rfl,_⟩ := hsrc.shape
  refine fn_of_W Tryd.func56 rfl Tryd.results56 Tryd.ntmps56 rfl ?_
  repeat ((first | refine qA rfl ?_|refine qB ?_|refine qC rfl ?_|refine qD ?_|refine qE ?_|refine qF ?_|refine qG ?_|refine qH ?_);try simp (maxSteps:=1000000)(disch:=(first|omega|(simp only [qI,qJ,qK]<;>omega)|exact qL _)) only [go_sem,↓reduceIte,n0,reduceCtorEq,n1,n2,n3,n4,n5,i0,i1,i2,i3,i4,i5,i6,i7])
  have hcl : (0 ≤ ver ∧ ver ≤ 0) ∨ (1 ≤ ver ∧ ver ≤ 1) ∨ (2 ≤ ver ∧ ver ≤ 3) := by omega
  rcases hcl with ⟨h1,h2⟩ | ⟨h1,h2⟩ | ⟨h1,h2⟩
  · have hfl : flexB 2 ver = false := by simp only [flexB,Bool.and_eq_false_iff,decide_eq_false_iff_not];omega
    rw [hfl]
    refine (readDescribeACLsRequest_0 (d := d) h1 h2 w _ s hv hsrc hok0 hG hgv).mono ?_
    rintro r5 w5 h5
    repeat ((first | refine qA rfl ?_|refine qB ?_|refine qC rfl ?_|refine qD ?_|refine qE ?_|refine qF ?_|refine qG ?_|refine qH ?_);try simp (maxSteps:=1000000)(disch:=(first|omega|(simp only [qI,qJ,qK]<;>omega)|exact qL _)) only [go_sem,↓reduceIte,n0,reduceCtorEq,n1,n2,n3,n4,n5,i0,i1,i2,i3,i4,i5,i6,i7])
    all_goals exact h5
  · have hfl : flexB 2 ver = false := by simp only [flexB,Bool.and_eq_false_iff,decide_eq_false_iff_not];omega
    rw [hfl]
    refine (readDescribeACLsRequest_1 (d := d) h1 h2 w _ s hv hsrc hok0 hG hgv).mono ?_
    rintro r5 w5 h5
    repeat ((first | refine qA rfl ?_|refine qB ?_|refine qC rfl ?_|refine qD ?_|refine qE ?_|refine qF ?_|refine qG ?_|refine qH ?_);try simp (maxSteps:=1000000)(disch:=(first|omega|(simp only [qI,qJ,qK]<;>omega)|exact qL _)) only [go_sem,↓reduceIte,n0,reduceCtorEq,n1,n2,n3,n4,n5,i0,i1,i2,i3,i4,i5,i6,i7])
    all_goals exact h5
  · have hfl : flexB 2 ver = true := by simp only [flexB,Bool.and_eq_true,decide_eq_true_eq];omega
    rw [hfl]
    refine (readDescribeACLsRequest_2 (d := d) h1 h2 w _ s hv hsrc hok0 hG hgv).mono ?_
    rintro r5 w5 h5
    repeat ((first | refine qA rfl ?_|refine qB ?_|refine qC rfl ?_|refine qD ?_|refine qE ?_|refine qF ?_|refine qG ?_|refine qH ?_);try simp (maxSteps:=1000000)(disch:=(first|omega|(simp only [qI,qJ,qK]<;>omega)|exact qL _)) only [go_sem,↓reduceIte,n0,reduceCtorEq,n1,n2,n3,n4,n5,i0,i1,i2,i3,i4,i5,i6,i7])
    all_goals exact h5

end Ms

namespace Ms
open Go.World renaming size_alloc → qI
open Ms renaming size_wr → qJ,size_drew → qK,not_noB → qL
open W renaming seqR → qA,seq → qB,regR → qC,condK → qD,block → qE,skip → qF,ret → qG,exit → qH
open Nat renaming reduceEqDiff → n0,reduceAdd → n1,reduceMul → n2,reduceSub → n3,reduceLT → n4,reduceLeDiff → n5
open Int renaming reduceEq → i0,reduceLT → i1,reduceLE → i2,reduceNeg → i3,reduceAdd → i4,reduceSub → i5,reduceMul → i6,reduceToNat → i7
set_option maxRecDepth 8000
open Go Go.Proofs Go.Shelf
attribute [local congr] W_congr WPsq_congr WPp_congr optK_congr addrK_congr intK_congr boolK_congr sliceK_congr tupleK_congr funcK_congr Fn_congr rawK_congr takeK_congr stepK_congr convK_congr aggK_congr

theorem tagclDescribeACLsRequest_fn {ok OK : Blocks} {B tb : Nat} (c0 c1 c2 c3 v : Value) (done : List TagD) (y : TagD) (vv : Value) (w : World) (hbt : blk w tb = some (#[c0,c1,c2,c3,v],37,(0,0))) (hg : GrowU OK B tb w 68 v done) (hB : B ≤ w.heap.size) (htb : tb < B) (hvv : BytesV ok w vv y.2) (hy : y.1 < 2 ^ 32) (hyl : y.2.length ≤ 32767) (hdl : done.length ≤ 32767) (hOK : ∀ b,B ≤ b → OK b) :
    Fn Tryd.prog 79 #[.int .u32 y.1,vv,.pointer (some ⟨tb,0,none⟩)] w fun _ w' => (∃ v',blk w' tb = some (#[c0,c1,c2,c3,v'],37,(0,0)) ∧ GrowU OK B tb w' 68 v' (done ++ [y])) ∧ Upd (fun b => b = tb ∨ B ≤ b) w w' := by
  have htl := blk_lt hbt
  refine fn_of_W Tryd.func79 rfl Tryd.results79 Tryd.ntmps79 rfl ?_
  repeat ((first | refine qA rfl ?_|refine qB ?_|refine qC rfl ?_|refine qD ?_|refine qE ?_|refine qF ?_|refine qG ?_|refine qH ?_);try simp (maxSteps:=1000000)(disch:=(first|omega|(simp only [qI,qJ,qK]<;>omega)|exact qL _)) only [go_sem,↓reduceIte,n0,reduceCtorEq,n1,n2,n3,n4,n5,i0,i1,i2,i3,i4,i5,i6,i7])
  obtain ⟨av,kv,rfl,_⟩ := hg.shape
  have hnb : ∀ b,b < B ∨ w.heap.size ≤ b → ¬ ownB (.slice av done.length kv) b := fun b hb h => by
    have := hg.above h
    have := hg.below h
    omega
  refine W.drawR (.take 0 (.take 1 (.take 2 (.take 3 (.only 4 (.only 5 (.only 6 (.only 7 (.take 8 (.last 9)))))))))) (ownB (.slice av done.length kv)) mixed (by kernel_rfl) ?_
  simp (maxSteps:=1000000)(disch:=(first|omega|(simp only [qI,qJ,qK]<;>omega)|exact qL _ | (refine hnb _ ?_;first | omega | (simp only [World.size_alloc,size_wr,size_drew] <;> omega)))) only [go_sem,↓reduceIte,n0,reduceCtorEq,n1,n2,n3,n4,n5,i0,i1,i2,i3,i4,i5,i6,i7,hbt]
  refine wp_copyN ap_22_22 (ok := ok) (s := y.2) (v := vv) (by first | rfl | simp (maxSteps:=1000000)(disch:=(first|omega|(simp only [qI,qJ,qK]<;>omega)|exact qL _)) only [go_sem,↓reduceIte,n0,reduceCtorEq,n1,n2,n3,n4,n5,i0,i1,i2,i3,i4,i5,i6,i7]) (by first | rfl | simp (maxSteps:=1000000)(disch:=(first|omega|(simp only [qI,qJ,qK]<;>omega)|exact qL _)) only [go_sem,↓reduceIte,n0,reduceCtorEq,n1,n2,n3,n4,n5,i0,i1,i2,i3,i4,i5,i6,i7]) (hvv.keep (Ext.keeps ((Upd.refl _ _).drew) _)) (by omega) ?_
  intro v1 w1 ho1 hE1 hf1
  obtain ⟨a1,k1,rfl,_⟩ := ho1.shape
  have hB1 := Own.bytes (ok := fun b => w.heap.size ≤ b) ho1 fun b hb => hf1 b hb
  have hP1 : Upd (ownB (.slice av done.length kv)) w.drew w1 := hE1.mono fun _ h => h.elim
  have hs1 := hE1.size
  simp only [size_drew] at hs1
  refine ⟨hP1,?_⟩
  simp (maxSteps:=1000000)(disch:=(first|omega|(simp only [qI,qJ,qK]<;>omega)|exact qL _ | (refine hnb _ ?_;first | omega | (simp only [World.size_alloc,size_wr,size_drew] <;> omega)))) only [go_sem,↓reduceIte,n0,reduceCtorEq,n1,n2,n3,n4,n5,i0,i1,i2,i3,i4,i5,i6,i7,hbt]
  refine ⟨hP1,?_⟩
  have hP2 : Upd (ownB (.slice av done.length kv)) w.drew (w1.alloc (.cells #[.int .u32 y.1,.slice a1 y.2.length k1] 68)) := hP1.alloc _
  have hn2 : blk (w1.alloc (.cells #[.int .u32 y.1,.slice a1 y.2.length k1] 68)) w1.heap.size = some (#[.int .u32 y.1,.slice a1 y.2.length k1],68,(0,0)) := blk_alloc_new rfl
  have hs2 : (w1.alloc (.cells #[.int .u32 y.1,.slice a1 y.2.length k1] 68)).heap.size = w1.heap.size + 1 := World.size_alloc _ _
  have hE2 : Ext w1 (w1.alloc (.cells #[.int .u32 y.1,.slice a1 y.2.length k1] 68)) := Upd.alloc (Upd.refl _ _) _
  refine ⟨hP2,?_⟩
  try simp only [List.append_nil]
  generalize (w1.alloc (.cells #[.int .u32 y.1,.slice a1 y.2.length k1] 68)) = w2 at *
  have hEw : Ext w w2 := (((Upd.refl _ _).drew).trans hE1).trans hE2
  obtain ⟨css,hown,hall⟩ := (hg.ext hEw).ex
  have hcl := hall.1
  have hx2 : TagC (fun b => OK b ∧ b ≠ tb ∧ ¬ ownB (.slice av done.length kv) b) w2 y [.int .u32 y.1,.slice a1 y.2.length k1] := ⟨_,rfl,(hB1.keep (hE2.keeps _)).weaken fun b _ hk => ⟨hOK b (by omega),by omega,hnb b (.inr hk)⟩,hy⟩
  refine wp_append ap_35_35 (m := 1) (news := [.int .u32 y.1,.slice a1 y.2.length k1]) (n := css.length) (cs := css.flatten) (v := .slice av done.length kv) ?_ rfl hown.1 hall.flat_cells (Src.blk (fr := (0,0)) (T := 68) hn2 rfl rfl) ?_ ?_ ?_
  · first | rfl | simp (maxSteps:=1000000)(disch:=(first|omega|(simp only [qI,qJ,qK]<;>omega)|exact qL _)) only [go_sem,↓reduceIte,n0,reduceCtorEq,n1,n2,n3,n4,n5,i0,i1,i2,i3,i4,i5,i6,i7]
  · omega
  · omega
  intro v' w3 ho hu hfr
  have hg3 := GrowU.snoc hown hall hx2 hu hfr ho
  obtain ⟨va,vc,hv',_⟩ := ho.shape
  subst hv'
  have hP3 := hP2.trans hu
  have hs3 := hu.size
  have hbt3 := hP3.blk_some (show blk w.drew tb = _ from hbt) (hnb _ (.inl htb))
  have hne : ¬ ownB (.slice va (css.length + 1) vc) tb := fun h => (hfr _ h).elim (hnb _ (.inl htb)) (fun h => by omega)
  refine ⟨hP3,?_⟩
  simp (maxSteps:=1000000)(disch:=(first|omega|(simp only [qI,qJ,qK]<;>omega)|exact qL _ | (refine hnb _ ?_;first | omega | (simp only [World.size_alloc,size_wr,size_drew] <;> omega)))) only [go_sem,↓reduceIte,n0,reduceCtorEq,n1,n2,n3,n4,n5,i0,i1,i2,i3,i4,i5,i6,i7,hbt3]
  repeat ((first | refine qA rfl ?_|refine qB ?_|refine qC rfl ?_|refine qD ?_|refine qE ?_|refine qF ?_|refine qG ?_|refine qH ?_);try simp (maxSteps:=1000000)(disch:=(first|omega|(simp only [qI,qJ,qK]<;>omega)|exact qL _)) only [go_sem,↓reduceIte,n0,reduceCtorEq,n1,n2,n3,n4,n5,i0,i1,i2,i3,i4,i5,i6,i7])
  refine ⟨⟨.slice va (css.length + 1) vc,by first | (rw [blk_wr_eq,hbt3];rfl) | rfl | (rw [hbt3];rfl) | (rw [blk_wr_eq,hbt3]),hg3.upd ((Upd.refl _ _).wr _ _ (.inr rfl)) hne⟩,?_⟩
  refine Upd.wr ?_ _ _ (.inr (.inl rfl))
  exact (((Upd.refl (fun b => b = tb ∨ B ≤ b) w).drew).trans (hP3.mono fun b h => .inr (hg.above h)))

set_option maxHeartbeats 4000000 in
theorem tellDescribeACLsRequest_fn {d : Nat} {ok : Blocks} (t : Tree) (cs : List Value) (w : World) {b : Nat} {x : Blk} (hb : blk w b = some x) (hq : ∀ k,k < 8 → x.1[1 + k]? = cs[k]?) (hR : RepS true (d + 1) fs_DescribeACLsRequest ok w t cs) (hg : GoodP (d + 1) fs_DescribeACLsRequest t) :
    Fn Tryd.prog 58 #[.pointer (some ⟨b,0,none⟩)] w fun r w' => (∃ c,r = .agg c.toArray ∧ TreeC (fun b => w.heap.size ≤ b) w' (tlP (d + 1) fs_DescribeACLsRequest t) c) ∧ Ext w w' := by
  have hbl := blk_lt hb
  obtain ⟨⟨gd0,gd1,gd2,gd3,gd4,gd5,gd6,-⟩,hgu⟩ := hg
  replace gd0 : GoodF (GoodP d) fDescribeACLsRequest_0 (t.at 0) := gd0
  replace gd1 : GoodF (GoodP d) fDescribeACLsRequest_1 (t.at 1) := gd1
  replace gd2 : GoodF (GoodP d) fDescribeACLsRequest_2 (t.at 2) := gd2
  replace gd3 : GoodF (GoodP d) fDescribeACLsRequest_3 (t.at 3) := gd3
  replace gd4 : GoodF (GoodP d) fDescribeACLsRequest_4 (t.at 4) := gd4
  replace gd5 : GoodF (GoodP d) fDescribeACLsRequest_5 (t.at 5) := gd5
  replace gd6 : GoodF (GoodP d) fDescribeACLsRequest_6 (t.at 6) := gd6
  obtain ⟨cs0,q,hcs,hL,hT⟩ := hR.inv
  obtain ⟨c0,e0,rfl,h0,c1,e1,rfl,h1,c2,e2,rfl,h2,c3,e3,rfl,h3,c4,e4,rfl,h4,c5,e5,rfl,h5,c6,e6,rfl,h6,rfl⟩ := hL
  replace h0 : RepF (RepS true d) (szS true d) fDescribeACLsRequest_0 ok w (t.at 0) c0 := h0
  replace h1 : RepF (RepS true d) (szS true d) fDescribeACLsRequest_1 ok w (t.at 1) c1 := h1
  replace h2 : RepF (RepS true d) (szS true d) fDescribeACLsRequest_2 ok w (t.at 2) c2 := h2
  replace h3 : RepF (RepS true d) (szS true d) fDescribeACLsRequest_3 ok w (t.at 3) c3 := h3
  replace h4 : RepF (RepS true d) (szS true d) fDescribeACLsRequest_4 ok w (t.at 4) c4 := h4
  replace h5 : RepF (RepS true d) (szS true d) fDescribeACLsRequest_5 ok w (t.at 5) c5 := h5
  replace h6 : RepF (RepS true d) (szS true d) fDescribeACLsRequest_6 ok w (t.at 6) c6 := h6
  obtain rfl := (RepF_num (by decide)).1 h0
  obtain ⟨p1,rfl,hp1⟩ := (RepF_ptr rfl (by decide)).1 h1
  obtain ⟨ap1,rfl⟩ := hp1.shape
  obtain rfl := (RepF_num (by decide)).1 h2
  obtain ⟨p3,rfl,hp3⟩ := (RepF_ptr rfl (by decide)).1 h3
  obtain ⟨ap3,rfl⟩ := hp3.shape
  obtain ⟨p4,rfl,hp4⟩ := (RepF_ptr rfl (by decide)).1 h4
  obtain ⟨ap4,rfl⟩ := hp4.shape
  obtain rfl := (RepF_num (by decide)).1 h5
  obtain rfl := (RepF_num (by decide)).1 h6
  obtain ⟨qm,rfl⟩ := hT.shape
  subst hcs
  have hq0 : x.1[1]? = some (.int .i8 (IntKind.i8.wrap (t.at 0).n)) := hq 0 (by decide)
  have hq1 : x.1[2]? = some (.pointer ap1) := hq 1 (by decide)
  have hq2 : x.1[3]? = some (.int .i8 (IntKind.i8.wrap (t.at 2).n)) := hq 2 (by decide)
  have hq3 : x.1[4]? = some (.pointer ap3) := hq 3 (by decide)
  have hq4 : x.1[5]? = some (.pointer ap4) := hq 4 (by decide)
  have hq5 : x.1[6]? = some (.int .i8 (IntKind.i8.wrap (t.at 5).n)) := hq 5 (by decide)
  have hq6 : x.1[7]? = some (.int .i8 (IntKind.i8.wrap (t.at 6).n)) := hq 6 (by decide)
  have hq7 : x.1[8]? = some (.map qm) := hq 7 (by decide)
  refine fn_of_W Tryd.func58 rfl Tryd.results58 Tryd.ntmps58 rfl ?_
  repeat ((first | refine qA rfl ?_|refine qB ?_|refine qC rfl ?_|refine qD ?_|refine qE ?_|refine qF ?_|refine qG ?_|refine qH ?_);try simp (maxSteps:=1000000)(disch:=(first|omega|(simp only [qI,qJ,qK]<;>omega)|exact qL _)) only [go_sem,↓reduceIte,n0,reduceCtorEq,n1,n2,n3,n4,n5,i0,i1,i2,i3,i4,i5,i6,i7])
  refine wp_make (T := 34) (E := 37) (size := 5) (bytes := 88) (z := .agg #[.int .i64 0,.slice none 0 0,.bool false,.slice none 0 0,.slice none 0 0]) (l := 7) (c := 7) (kl := .i64) (kc := .i64) (by kernel_rfl) (by kernel_rfl) (by first | rfl | (simp (maxSteps:=1000000)(disch:=(first|omega|(simp only [qI,qJ,qK]<;>omega)|exact qL _)) only [go_sem,↓reduceIte,n0,reduceCtorEq,n1,n2,n3,n4,n5,i0,i1,i2,i3,i4,i5,i6,i7];rfl)) (by first | rfl | (simp (maxSteps:=1000000)(disch:=(first|omega|(simp only [qI,qJ,qK]<;>omega)|exact qL _)) only [go_sem,↓reduceIte,n0,reduceCtorEq,n1,n2,n3,n4,n5,i0,i1,i2,i3,i4,i5,i6,i7];rfl)) (by omega) (by omega) (by omega) ?_
  have hmd : madeCells (Value.agg #[.int .i64 0,.slice none 0 0,.bool false,.slice none 0 0,.slice none 0 0]).cells (7 * 5) = #[.int .i64 0,.slice none 0 0,.bool false,.slice none 0 0,.slice none 0 0,.int .i64 0,.slice none 0 0,.bool false,.slice none 0 0,.slice none 0 0,.int .i64 0,.slice none 0 0,.bool false,.slice none 0 0,.slice none 0 0,.int .i64 0,.slice none 0 0,.bool false,.slice none 0 0,.slice none 0 0,.int .i64 0,.slice none 0 0,.bool false,.slice none 0 0,.slice none 0 0,.int .i64 0,.slice none 0 0,.bool false,.slice none 0 0,.slice none 0 0,.int .i64 0,.slice none 0 0,.bool false,.slice none 0 0,.slice none 0 0] := by kernel_rfl
  rw [hmd]
  simp (maxSteps:=1000000)(disch:=(first|omega|(simp only [qI,qJ,qK]<;>omega)|exact qL _)) only [go_sem,↓reduceIte,n0,reduceCtorEq,n1,n2,n3,n4,n5,i0,i1,i2,i3,i4,i5,i6,i7]
  repeat ((first | refine qA rfl ?_|refine qB ?_|refine qC rfl ?_|refine qD ?_|refine qE ?_|refine qF ?_|refine qG ?_|refine qH ?_);try simp (maxSteps:=1000000)(disch:=(first|omega|(simp only [qI,qJ,qK]<;>omega)|exact qL _)) only [go_sem,↓reduceIte,n0,reduceCtorEq,n1,n2,n3,n4,n5,i0,i1,i2,i3,i4,i5,i6,i7])
  have hE1 : Ext w (wr (((w.alloc (.cells #[.int .i64 0,.slice none 0 0,.bool false,.slice none 0 0,.slice none 0 0] 37)).alloc (.cells #[.int .i64 0,.slice none 0 0,.bool false,.slice none 0 0,.slice none 0 0,.int .i64 0,.slice none 0 0,.bool false,.slice none 0 0,.slice none 0 0,.int .i64 0,.slice none 0 0,.bool false,.slice none 0 0,.slice none 0 0,.int .i64 0,.slice none 0 0,.bool false,.slice none 0 0,.slice none 0 0,.int .i64 0,.slice none 0 0,.bool false,.slice none 0 0,.slice none 0 0,.int .i64 0,.slice none 0 0,.bool false,.slice none 0 0,.slice none 0 0,.int .i64 0,.slice none 0 0,.bool false,.slice none 0 0,.slice none 0 0] 37)).alloc (.cells #[.int .i64 0,.slice none 0 0,.bool false,.slice none 0 0,.slice none 0 0] 37)) (w.heap.size + 2) 0 [.int .i64 0,.slice none 0 0,.bool false,.slice (some ⟨w.heap.size + 1,0,none⟩) 7 7,.slice none 0 0]) := (Upd.alloc (Upd.alloc (Upd.alloc (Upd.refl _ _) _) _) _).wr _ _ (.inl (by omega))
  have hz1 : (wr (((w.alloc (.cells #[.int .i64 0,.slice none 0 0,.bool false,.slice none 0 0,.slice none 0 0] 37)).alloc (.cells #[.int .i64 0,.slice none 0 0,.bool false,.slice none 0 0,.slice none 0 0,.int .i64 0,.slice none 0 0,.bool false,.slice none 0 0,.slice none 0 0,.int .i64 0,.slice none 0 0,.bool false,.slice none 0 0,.slice none 0 0,.int .i64 0,.slice none 0 0,.bool false,.slice none 0 0,.slice none 0 0,.int .i64 0,.slice none 0 0,.bool false,.slice none 0 0,.slice none 0 0,.int .i64 0,.slice none 0 0,.bool false,.slice none 0 0,.slice none 0 0,.int .i64 0,.slice none 0 0,.bool false,.slice none 0 0,.slice none 0 0] 37)).alloc (.cells #[.int .i64 0,.slice none 0 0,.bool false,.slice none 0 0,.slice none 0 0] 37)) (w.heap.size + 2) 0 [.int .i64 0,.slice none 0 0,.bool false,.slice (some ⟨w.heap.size + 1,0,none⟩) 7 7,.slice none 0 0]).heap.size = w.heap.size + 3 := by simp only [size_wr,World.size_alloc]
  have hl1 : blk (wr (((w.alloc (.cells #[.int .i64 0,.slice none 0 0,.bool false,.slice none 0 0,.slice none 0 0] 37)).alloc (.cells #[.int .i64 0,.slice none 0 0,.bool false,.slice none 0 0,.slice none 0 0,.int .i64 0,.slice none 0 0,.bool false,.slice none 0 0,.slice none 0 0,.int .i64 0,.slice none 0 0,.bool false,.slice none 0 0,.slice none 0 0,.int .i64 0,.slice none 0 0,.bool false,.slice none 0 0,.slice none 0 0,.int .i64 0,.slice none 0 0,.bool false,.slice none 0 0,.slice none 0 0,.int .i64 0,.slice none 0 0,.bool false,.slice none 0 0,.slice none 0 0,.int .i64 0,.slice none 0 0,.bool false,.slice none 0 0,.slice none 0 0] 37)).alloc (.cells #[.int .i64 0,.slice none 0 0,.bool false,.slice none 0 0,.slice none 0 0] 37)) (w.heap.size + 2) 0 [.int .i64 0,.slice none 0 0,.bool false,.slice (some ⟨w.heap.size + 1,0,none⟩) 7 7,.slice none 0 0]) (w.heap.size + 1) = some (#[.int .i64 0,.slice none 0 0,.bool false,.slice none 0 0,.slice none 0 0,.int .i64 0,.slice none 0 0,.bool false,.slice none 0 0,.slice none 0 0,.int .i64 0,.slice none 0 0,.bool false,.slice none 0 0,.slice none 0 0,.int .i64 0,.slice none 0 0,.bool false,.slice none 0 0,.slice none 0 0,.int .i64 0,.slice none 0 0,.bool false,.slice none 0 0,.slice none 0 0,.int .i64 0,.slice none 0 0,.bool false,.slice none 0 0,.slice none 0 0,.int .i64 0,.slice none 0 0,.bool false,.slice none 0 0,.slice none 0 0],37,(0,0)) := by simp (maxSteps:=1000000)(disch:=(first|omega|(simp only [qI,qJ,qK]<;>omega)|exact qL _)) only [go_sem,↓reduceIte,n0,reduceCtorEq,n1,n2,n3,n4,n5,i0,i1,i2,i3,i4,i5,i6,i7]
  have ht1 : blk (wr (((w.alloc (.cells #[.int .i64 0,.slice none 0 0,.bool false,.slice none 0 0,.slice none 0 0] 37)).alloc (.cells #[.int .i64 0,.slice none 0 0,.bool false,.slice none 0 0,.slice none 0 0,.int .i64 0,.slice none 0 0,.bool false,.slice none 0 0,.slice none 0 0,.int .i64 0,.slice none 0 0,.bool false,.slice none 0 0,.slice none 0 0,.int .i64 0,.slice none 0 0,.bool false,.slice none 0 0,.slice none 0 0,.int .i64 0,.slice none 0 0,.bool false,.slice none 0 0,.slice none 0 0,.int .i64 0,.slice none 0 0,.bool false,.slice none 0 0,.slice none 0 0,.int .i64 0,.slice none 0 0,.bool false,.slice none 0 0,.slice none 0 0] 37)).alloc (.cells #[.int .i64 0,.slice none 0 0,.bool false,.slice none 0 0,.slice none 0 0] 37)) (w.heap.size + 2) 0 [.int .i64 0,.slice none 0 0,.bool false,.slice (some ⟨w.heap.size + 1,0,none⟩) 7 7,.slice none 0 0]) (w.heap.size + 2) = some (#[.int .i64 0,.slice none 0 0,.bool false,.slice (some ⟨w.heap.size + 1,0,none⟩) 7 7,.slice none 0 0],37,(0,0)) := by simp (maxSteps:=1000000)(disch:=(first|omega|(simp only [qI,qJ,qK]<;>omega)|exact qL _)) only [go_sem,↓reduceIte,n0,reduceCtorEq,n1,n2,n3,n4,n5,i0,i1,i2,i3,i4,i5,i6,i7]
  have hr1 : blk (wr (((w.alloc (.cells #[.int .i64 0,.slice none 0 0,.bool false,.slice none 0 0,.slice none 0 0] 37)).alloc (.cells #[.int .i64 0,.slice none 0 0,.bool false,.slice none 0 0,.slice none 0 0,.int .i64 0,.slice none 0 0,.bool false,.slice none 0 0,.slice none 0 0,.int .i64 0,.slice none 0 0,.bool false,.slice none 0 0,.slice none 0 0,.int .i64 0,.slice none 0 0,.bool false,.slice none 0 0,.slice none 0 0,.int .i64 0,.slice none 0 0,.bool false,.slice none 0 0,.slice none 0 0,.int .i64 0,.slice none 0 0,.bool false,.slice none 0 0,.slice none 0 0,.int .i64 0,.slice none 0 0,.bool false,.slice none 0 0,.slice none 0 0] 37)).alloc (.cells #[.int .i64 0,.slice none 0 0,.bool false,.slice none 0 0,.slice none 0 0] 37)) (w.heap.size + 2) 0 [.int .i64 0,.slice none 0 0,.bool false,.slice (some ⟨w.heap.size + 1,0,none⟩) 7 7,.slice none 0 0]) w.heap.size = some (#[.int .i64 0,.slice none 0 0,.bool false,.slice none 0 0,.slice none 0 0],37,(0,0)) := by simp (maxSteps:=1000000)(disch:=(first|omega|(simp only [qI,qJ,qK]<;>omega)|exact qL _)) only [go_sem,↓reduceIte,n0,reduceCtorEq,n1,n2,n3,n4,n5,i0,i1,i2,i3,i4,i5,i6,i7]
  obtain ⟨w1,hw1⟩ : ∃ y,y = (wr (((w.alloc (.cells #[.int .i64 0,.slice none 0 0,.bool false,.slice none 0 0,.slice none 0 0] 37)).alloc (.cells #[.int .i64 0,.slice none 0 0,.bool false,.slice none 0 0,.slice none 0 0,.int .i64 0,.slice none 0 0,.bool false,.slice none 0 0,.slice none 0 0,.int .i64 0,.slice none 0 0,.bool false,.slice none 0 0,.slice none 0 0,.int .i64 0,.slice none 0 0,.bool false,.slice none 0 0,.slice none 0 0,.int .i64 0,.slice none 0 0,.bool false,.slice none 0 0,.slice none 0 0,.int .i64 0,.slice none 0 0,.bool false,.slice none 0 0,.slice none 0 0,.int .i64 0,.slice none 0 0,.bool false,.slice none 0 0,.slice none 0 0] 37)).alloc (.cells #[.int .i64 0,.slice none 0 0,.bool false,.slice none 0 0,.slice none 0 0] 37)) (w.heap.size + 2) 0 [.int .i64 0,.slice none 0 0,.bool false,.slice (some ⟨w.heap.size + 1,0,none⟩) 7 7,.slice none 0 0]) := ⟨_,rfl⟩
  rw [← hw1] at hE1 hz1 hl1 ht1 hr1
  rw [← hw1]
  clear hw1
  have hU1 : Upd (fun b => b = w.heap.size + 1 ∨ b = w.heap.size + 2) w1 w1 := Upd.refl _ _
  have hb1 := hE1.blk_some hb id
  repeat ((first | refine qA rfl ?_|refine qB ?_|refine qC rfl ?_|refine qD ?_|refine qE ?_|refine qF ?_|refine qG ?_|refine qH ?_);try simp (maxSteps:=1000000)(disch:=(first|omega|(simp only [qI,qJ,qK]<;>omega)|exact qL _)) only [go_sem,↓reduceIte,n0,reduceCtorEq,n1,n2,n3,n4,n5,i0,i1,i2,i3,i4,i5,i6,i7,hb1,hl1,ht1,hq0,hq1,hq2,hq3,hq4,hq5,hq6,hq7])
  refine W.drawR (.take 0 (.take 1 (.take 2 (.take 3 (.take 4 (.take 5 (.take 6 (.only 7 (.take 8 (.last 9)))))))))) (NoB) mixed (by kernel_rfl) ?_
  try simp (maxSteps:=1000000)(disch:=(first|omega|(simp only [qI,qJ,qK]<;>omega)|exact qL _)) only [go_sem,↓reduceIte,n0,reduceCtorEq,n1,n2,n3,n4,n5,i0,i1,i2,i3,i4,i5,i6,i7,hb1,hl1,ht1,hq0,hq1,hq2,hq3,hq4,hq5,hq6,hq7,tl8]
  refine ⟨Upd.refl _ _,?_⟩
  have hlq2 : blk w1.drew (w.heap.size + 1) = _ := hl1
  have hx2 : Upd (fun b => b = w.heap.size + 1 ∨ b = w.heap.size + 2) w1 w1.drew := (Upd.refl _ _).drew
  generalize hw2 : wr w1.drew (w.heap.size + 1) 0 [.int .i64 (IntKind.i8.wrap (t.at 0).n),.slice none 0 0,.bool false,.slice none 0 0,.slice none 0 0] = w2
  have hl2 : blk w2 (w.heap.size + 1) = some (#[.int .i64 (IntKind.i8.wrap (t.at 0).n),.slice none 0 0,.bool false,.slice none 0 0,.slice none 0 0,.int .i64 0,.slice none 0 0,.bool false,.slice none 0 0,.slice none 0 0,.int .i64 0,.slice none 0 0,.bool false,.slice none 0 0,.slice none 0 0,.int .i64 0,.slice none 0 0,.bool false,.slice none 0 0,.slice none 0 0,.int .i64 0,.slice none 0 0,.bool false,.slice none 0 0,.slice none 0 0,.int .i64 0,.slice none 0 0,.bool false,.slice none 0 0,.slice none 0 0,.int .i64 0,.slice none 0 0,.bool false,.slice none 0 0,.slice none 0 0],37,(0,0)) := by rw [← hw2,blk_wr_eq,hlq2];rfl
  have hv2 : Upd (fun b => b = w.heap.size + 1 ∨ b = w.heap.size + 2) w1.drew w2 := by rw [← hw2];exact (Upd.refl _ _).wr _ _ (.inr (.inl rfl))
  have hV2 : Upd (fun b => b = w.heap.size + 1 ∨ b = w.heap.size + 2) w1 w2 := hx2.trans hv2
  have hU2 : Upd (fun b => b = w.heap.size + 1 ∨ b = w.heap.size + 2) w1 w2 := hU1.trans hV2
  have hz2 := hU2.size
  have hX2 : Ext w w2 := hE1.more hU2 fun b hb h => by omega
  have hb2 := hX2.blk_some hb id
  have ht2 : blk w2 (w.heap.size + 2) = some (#[.int .i64 0,.slice none 0 0,.bool false,.slice (some ⟨w.heap.size + 1,0,none⟩) 7 7,.slice none 0 0],37,(0,0)) := by
    rw [← hw2,blk_wr_ne (by omega)]
    exact ht1
  clear hw2
  have hf0 : TreeC (fun b => w1.heap.size ≤ b) w2 (.num (IntKind.i8.wrap (t.at 0).n)) [.int .i64 (IntKind.i8.wrap (t.at 0).n),.slice none 0 0,.bool false,.slice none 0 0,.slice none 0 0] := (TreeC.keep (hv2.keeps fun b hb hk e => by have hk' : w1.heap.size ≤ b := hk;omega) (TreeC.intro (tl8 _) (BytesV.nil _ _) (treesN _ _) (tagsN _ _) : TreeC (fun b => w1.heap.size ≤ b) w1.drew (.num (IntKind.i8.wrap (t.at 0).n)) [.int .i64 (IntKind.i8.wrap (t.at 0).n),.slice none 0 0,.bool false,.slice none 0 0,.slice none 0 0]))
  repeat ((first | refine qA rfl ?_|refine qB ?_|refine qC rfl ?_|refine qD ?_|refine qE ?_|refine qF ?_|refine qG ?_|refine qH ?_);try simp (maxSteps:=1000000)(disch:=(first|omega|(simp only [qI,qJ,qK]<;>omega)|exact qL _)) only [go_sem,↓reduceIte,n0,reduceCtorEq,n1,n2,n3,n4,n5,i0,i1,i2,i3,i4,i5,i6,i7,hb2,hl2,ht2,hq0,hq1,hq2,hq3,hq4,hq5,hq6,hq7])
  refine W.drawR (.take 0 (.take 1 (.take 2 (.take 3 (.take 4 (.take 5 (.only 6 (.take 7 (.last 8))))))))) (NoB) mixed (by kernel_rfl) ?_
  try simp (maxSteps:=1000000)(disch:=(first|omega|(simp only [qI,qJ,qK]<;>omega)|exact qL _)) only [go_sem,↓reduceIte,n0,reduceCtorEq,n1,n2,n3,n4,n5,i0,i1,i2,i3,i4,i5,i6,i7,hb2,hl2,ht2,hq0,hq1,hq2,hq3,hq4,hq5,hq6,hq7]
  refine (textTree_fn (ok := ok) _ (t.at 1).null (t.at 1).s w2.drew (hp1.keep (Ext.keeps (hX2.drew) _))).mono ?_
  rintro _ w3 ⟨⟨vS3,rfl,hB3⟩,hEx3⟩
  have hfl3 := hB3.flat
  have hP3 : Upd NoB w2.drew w3 := (Upd.refl _ _).trans (hEx3.mono fun _ h => h.elim)
  have hsq3 := hEx3.size
  try simp only [size_drew] at hsq3
  refine ⟨hP3,?_⟩
  try simp (maxSteps:=1000000)(disch:=(first|omega|(simp only [qI,qJ,qK]<;>omega)|exact qL _)) only [go_sem,↓reduceIte,n0,reduceCtorEq,n1,n2,n3,n4,n5,i0,i1,i2,i3,i4,i5,i6,i7,hb2,hl2,ht2,hq0,hq1,hq2,hq3,hq4,hq5,hq6,hq7,hfl3]
  have hlq4 := hP3.blk_some (show blk w2.drew (w.heap.size + 1) = _ from hl2) id
  have hx4 : Upd (fun b => b = w.heap.size + 1 ∨ b = w.heap.size + 2) w2 w3 := ((Upd.refl _ _).drew).trans (hP3.mono fun _ h => h.elim)
  try simp (maxSteps:=1000000)(disch:=(first|omega|(simp only [qI,qJ,qK]<;>omega)|exact qL _)) only [go_sem,↓reduceIte,n0,reduceCtorEq,n1,n2,n3,n4,n5,i0,i1,i2,i3,i4,i5,i6,i7,hlq4]
  generalize hw4 : wr w3 (w.heap.size + 1) 5 [.int .i64 0,vS3,.bool (t.at 1).null,.slice none 0 0,.slice none 0 0] = w4
  have hl4 : blk w4 (w.heap.size + 1) = some (#[.int .i64 (IntKind.i8.wrap (t.at 0).n),.slice none 0 0,.bool false,.slice none 0 0,.slice none 0 0,.int .i64 0,vS3,.bool (t.at 1).null,.slice none 0 0,.slice none 0 0,.int .i64 0,.slice none 0 0,.bool false,.slice none 0 0,.slice none 0 0,.int .i64 0,.slice none 0 0,.bool false,.slice none 0 0,.slice none 0 0,.int .i64 0,.slice none 0 0,.bool false,.slice none 0 0,.slice none 0 0,.int .i64 0,.slice none 0 0,.bool false,.slice none 0 0,.slice none 0 0,.int .i64 0,.slice none 0 0,.bool false,.slice none 0 0,.slice none 0 0],37,(0,0)) := by rw [← hw4,blk_wr_eq,hlq4];rfl
  have hv4 : Upd (fun b => b = w.heap.size + 1 ∨ b = w.heap.size + 2) w3 w4 := by rw [← hw4];exact (Upd.refl _ _).wr _ _ (.inr (.inl rfl))
  have hV4 : Upd (fun b => b = w.heap.size + 1 ∨ b = w.heap.size + 2) w2 w4 := hx4.trans hv4
  have hU4 : Upd (fun b => b = w.heap.size + 1 ∨ b = w.heap.size + 2) w1 w4 := hU2.trans hV4
  have hz4 := hU4.size
  have hX4 : Ext w w4 := hE1.more hU4 fun b hb h => by omega
  have hb4 := hX4.blk_some hb id
  have ht4 : blk w4 (w.heap.size + 2) = some (#[.int .i64 0,.slice none 0 0,.bool false,.slice (some ⟨w.heap.size + 1,0,none⟩) 7 7,.slice none 0 0],37,(0,0)) := by
    rw [← hw4,blk_wr_ne (by omega)]
    exact hP3.blk_some (show blk w2.drew (w.heap.size + 2) = _ from ht2) id
  clear hw4
  have hf1 : TreeC (fun b => w1.heap.size ≤ b) w4 (.oct (t.at 1).null (if (t.at 1).null = true then [] else (t.at 1).s)) [.int .i64 0,vS3,.bool (t.at 1).null,.slice none 0 0,.slice none 0 0] := (TreeC.keep (hv4.keeps fun b hb hk e => by have hk' : w1.heap.size ≤ b := hk;omega) (TreeC.intro rfl (hB3.weaken fun b _ hk => by have hk' : w2.drew.heap.size ≤ b := hk;(try simp only [size_drew] at hk');omega) (treesN _ _) (tagsN _ _) : TreeC (fun b => w1.heap.size ≤ b) w3 (.oct (t.at 1).null (if (t.at 1).null = true then [] else (t.at 1).s)) [.int .i64 0,vS3,.bool (t.at 1).null,.slice none 0 0,.slice none 0 0]))
  repeat ((first | refine qA rfl ?_|refine qB ?_|refine qC rfl ?_|refine qD ?_|refine qE ?_|refine qF ?_|refine qG ?_|refine qH ?_);try simp (maxSteps:=1000000)(disch:=(first|omega|(simp only [qI,qJ,qK]<;>omega)|exact qL _)) only [go_sem,↓reduceIte,n0,reduceCtorEq,n1,n2,n3,n4,n5,i0,i1,i2,i3,i4,i5,i6,i7,hb4,hl4,ht4,hq0,hq1,hq2,hq3,hq4,hq5,hq6,hq7])
  refine W.drawR (.take 0 (.take 1 (.take 2 (.take 3 (.take 4 (.take 5 (.take 6 (.only 7 (.take 8 (.last 9)))))))))) (NoB) mixed (by kernel_rfl) ?_
  try simp (maxSteps:=1000000)(disch:=(first|omega|(simp only [qI,qJ,qK]<;>omega)|exact qL _)) only [go_sem,↓reduceIte,n0,reduceCtorEq,n1,n2,n3,n4,n5,i0,i1,i2,i3,i4,i5,i6,i7,hb4,hl4,ht4,hq0,hq1,hq2,hq3,hq4,hq5,hq6,hq7,tl8]
  refine ⟨Upd.refl _ _,?_⟩
  have hlq5 : blk w4.drew (w.heap.size + 1) = _ := hl4
  have hx5 : Upd (fun b => b = w.heap.size + 1 ∨ b = w.heap.size + 2) w4 w4.drew := (Upd.refl _ _).drew
  generalize hw5 : wr w4.drew (w.heap.size + 1) 10 [.int .i64 (IntKind.i8.wrap (t.at 2).n),.slice none 0 0,.bool false,.slice none 0 0,.slice none 0 0] = w5
  have hl5 : blk w5 (w.heap.size + 1) = some (#[.int .i64 (IntKind.i8.wrap (t.at 0).n),.slice none 0 0,.bool false,.slice none 0 0,.slice none 0 0,.int .i64 0,vS3,.bool (t.at 1).null,.slice none 0 0,.slice none 0 0,.int .i64 (IntKind.i8.wrap (t.at 2).n),.slice none 0 0,.bool false,.slice none 0 0,.slice none 0 0,.int .i64 0,.slice none 0 0,.bool false,.slice none 0 0,.slice none 0 0,.int .i64 0,.slice none 0 0,.bool false,.slice none 0 0,.slice none 0 0,.int .i64 0,.slice none 0 0,.bool false,.slice none 0 0,.slice none 0 0,.int .i64 0,.slice none 0 0,.bool false,.slice none 0 0,.slice none 0 0],37,(0,0)) := by rw [← hw5,blk_wr_eq,hlq5];rfl
  have hv5 : Upd (fun b => b = w.heap.size + 1 ∨ b = w.heap.size + 2) w4.drew w5 := by rw [← hw5];exact (Upd.refl _ _).wr _ _ (.inr (.inl rfl))
  have hV5 : Upd (fun b => b = w.heap.size + 1 ∨ b = w.heap.size + 2) w4 w5 := hx5.trans hv5
  have hU5 : Upd (fun b => b = w.heap.size + 1 ∨ b = w.heap.size + 2) w1 w5 := hU4.trans hV5
  have hz5 := hU5.size
  have hX5 : Ext w w5 := hE1.more hU5 fun b hb h => by omega
  have hb5 := hX5.blk_some hb id
  have ht5 : blk w5 (w.heap.size + 2) = some (#[.int .i64 0,.slice none 0 0,.bool false,.slice (some ⟨w.heap.size + 1,0,none⟩) 7 7,.slice none 0 0],37,(0,0)) := by
    rw [← hw5,blk_wr_ne (by omega)]
    exact ht4
  clear hw5
  have hf2 : TreeC (fun b => w1.heap.size ≤ b) w5 (.num (IntKind.i8.wrap (t.at 2).n)) [.int .i64 (IntKind.i8.wrap (t.at 2).n),.slice none 0 0,.bool false,.slice none 0 0,.slice none 0 0] := (TreeC.keep (hv5.keeps fun b hb hk e => by have hk' : w1.heap.size ≤ b := hk;omega) (TreeC.intro (tl8 _) (BytesV.nil _ _) (treesN _ _) (tagsN _ _) : TreeC (fun b => w1.heap.size ≤ b) w4.drew (.num (IntKind.i8.wrap (t.at 2).n)) [.int .i64 (IntKind.i8.wrap (t.at 2).n),.slice none 0 0,.bool false,.slice none 0 0,.slice none 0 0]))
  repeat ((first | refine qA rfl ?_|refine qB ?_|refine qC rfl ?_|refine qD ?_|refine qE ?_|refine qF ?_|refine qG ?_|refine qH ?_);try simp (maxSteps:=1000000)(disch:=(first|omega|(simp only [qI,qJ,qK]<;>omega)|exact qL _)) only [go_sem,↓reduceIte,n0,reduceCtorEq,n1,n2,n3,n4,n5,i0,i1,i2,i3,i4,i5,i6,i7,hb5,hl5,ht5,hq0,hq1,hq2,hq3,hq4,hq5,hq6,hq7])
  refine W.drawR (.take 0 (.take 1 (.take 2 (.take 3 (.take 4 (.take 5 (.only 6 (.take 7 (.last 8))))))))) (NoB) mixed (by kernel_rfl) ?_
  try simp (maxSteps:=1000000)(disch:=(first|omega|(simp only [qI,qJ,qK]<;>omega)|exact qL _)) only [go_sem,↓reduceIte,n0,reduceCtorEq,n1,n2,n3,n4,n5,i0,i1,i2,i3,i4,i5,i6,i7,hb5,hl5,ht5,hq0,hq1,hq2,hq3,hq4,hq5,hq6,hq7]
  refine (textTree_fn (ok := ok) _ (t.at 3).null (t.at 3).s w5.drew (hp3.keep (Ext.keeps (hX5.drew) _))).mono ?_
  rintro _ w6 ⟨⟨vS6,rfl,hB6⟩,hEx6⟩
  have hfl6 := hB6.flat
  have hP6 : Upd NoB w5.drew w6 := (Upd.refl _ _).trans (hEx6.mono fun _ h => h.elim)
  have hsq6 := hEx6.size
  try simp only [size_drew] at hsq6
  refine ⟨hP6,?_⟩
  try simp (maxSteps:=1000000)(disch:=(first|omega|(simp only [qI,qJ,qK]<;>omega)|exact qL _)) only [go_sem,↓reduceIte,n0,reduceCtorEq,n1,n2,n3,n4,n5,i0,i1,i2,i3,i4,i5,i6,i7,hb5,hl5,ht5,hq0,hq1,hq2,hq3,hq4,hq5,hq6,hq7,hfl6]
  have hlq7 := hP6.blk_some (show blk w5.drew (w.heap.size + 1) = _ from hl5) id
  have hx7 : Upd (fun b => b = w.heap.size + 1 ∨ b = w.heap.size + 2) w5 w6 := ((Upd.refl _ _).drew).trans (hP6.mono fun _ h => h.elim)
  try simp (maxSteps:=1000000)(disch:=(first|omega|(simp only [qI,qJ,qK]<;>omega)|exact qL _)) only [go_sem,↓reduceIte,n0,reduceCtorEq,n1,n2,n3,n4,n5,i0,i1,i2,i3,i4,i5,i6,i7,hlq7]
  generalize hw7 : wr w6 (w.heap.size + 1) 15 [.int .i64 0,vS6,.bool (t.at 3).null,.slice none 0 0,.slice none 0 0] = w7
  have hl7 : blk w7 (w.heap.size + 1) = some (#[.int .i64 (IntKind.i8.wrap (t.at 0).n),.slice none 0 0,.bool false,.slice none 0 0,.slice none 0 0,.int .i64 0,vS3,.bool (t.at 1).null,.slice none 0 0,.slice none 0 0,.int .i64 (IntKind.i8.wrap (t.at 2).n),.slice none 0 0,.bool false,.slice none 0 0,.slice none 0 0,.int .i64 0,vS6,.bool (t.at 3).null,.slice none 0 0,.slice none 0 0,.int .i64 0,.slice none 0 0,.bool false,.slice none 0 0,.slice none 0 0,.int .i64 0,.slice none 0 0,.bool false,.slice none 0 0,.slice none 0 0,.int .i64 0,.slice none 0 0,.bool false,.slice none 0 0,.slice none 0 0],37,(0,0)) := by rw [← hw7,blk_wr_eq,hlq7];rfl
  have hv7 : Upd (fun b => b = w.heap.size + 1 ∨ b = w.heap.size + 2) w6 w7 := by rw [← hw7];exact (Upd.refl _ _).wr _ _ (.inr (.inl rfl))
  have hV7 : Upd (fun b => b = w.heap.size + 1 ∨ b = w.heap.size + 2) w5 w7 := hx7.trans hv7
  have hU7 : Upd (fun b => b = w.heap.size + 1 ∨ b = w.heap.size + 2) w1 w7 := hU5.trans hV7
  have hz7 := hU7.size
  have hX7 : Ext w w7 := hE1.more hU7 fun b hb h => by omega
  have hb7 := hX7.blk_some hb id
  have ht7 : blk w7 (w.heap.size + 2) = some (#[.int .i64 0,.slice none 0 0,.bool false,.slice (some ⟨w.heap.size + 1,0,none⟩) 7 7,.slice none 0 0],37,(0,0)) := by
    rw [← hw7,blk_wr_ne (by omega)]
    exact hP6.blk_some (show blk w5.drew (w.heap.size + 2) = _ from ht5) id
  clear hw7
  have hf3 : TreeC (fun b => w1.heap.size ≤ b) w7 (.oct (t.at 3).null (if (t.at 3).null = true then [] else (t.at 3).s)) [.int .i64 0,vS6,.bool (t.at 3).null,.slice none 0 0,.slice none 0 0] := (TreeC.keep (hv7.keeps fun b hb hk e => by have hk' : w1.heap.size ≤ b := hk;omega) (TreeC.intro rfl (hB6.weaken fun b _ hk => by have hk' : w5.drew.heap.size ≤ b := hk;(try simp only [size_drew] at hk');omega) (treesN _ _) (tagsN _ _) : TreeC (fun b => w1.heap.size ≤ b) w6 (.oct (t.at 3).null (if (t.at 3).null = true then [] else (t.at 3).s)) [.int .i64 0,vS6,.bool (t.at 3).null,.slice none 0 0,.slice none 0 0]))
  repeat ((first | refine qA rfl ?_|refine qB ?_|refine qC rfl ?_|refine qD ?_|refine qE ?_|refine qF ?_|refine qG ?_|refine qH ?_);try simp (maxSteps:=1000000)(disch:=(first|omega|(simp only [qI,qJ,qK]<;>omega)|exact qL _)) only [go_sem,↓reduceIte,n0,reduceCtorEq,n1,n2,n3,n4,n5,i0,i1,i2,i3,i4,i5,i6,i7,hb7,hl7,ht7,hq0,hq1,hq2,hq3,hq4,hq5,hq6,hq7])
  refine W.drawR (.take 0 (.take 1 (.take 2 (.take 3 (.take 4 (.take 5 (.only 6 (.take 7 (.last 8))))))))) (NoB) mixed (by kernel_rfl) ?_
  try simp (maxSteps:=1000000)(disch:=(first|omega|(simp only [qI,qJ,qK]<;>omega)|exact qL _)) only [go_sem,↓reduceIte,n0,reduceCtorEq,n1,n2,n3,n4,n5,i0,i1,i2,i3,i4,i5,i6,i7,hb7,hl7,ht7,hq0,hq1,hq2,hq3,hq4,hq5,hq6,hq7]
  refine (textTree_fn (ok := ok) _ (t.at 4).null (t.at 4).s w7.drew (hp4.keep (Ext.keeps (hX7.drew) _))).mono ?_
  rintro _ w8 ⟨⟨vS8,rfl,hB8⟩,hEx8⟩
  have hfl8 := hB8.flat
  have hP8 : Upd NoB w7.drew w8 := (Upd.refl _ _).trans (hEx8.mono fun _ h => h.elim)
  have hsq8 := hEx8.size
  try simp only [size_drew] at hsq8
  refine ⟨hP8,?_⟩
  try simp (maxSteps:=1000000)(disch:=(first|omega|(simp only [qI,qJ,qK]<;>omega)|exact qL _)) only [go_sem,↓reduceIte,n0,reduceCtorEq,n1,n2,n3,n4,n5,i0,i1,i2,i3,i4,i5,i6,i7,hb7,hl7,ht7,hq0,hq1,hq2,hq3,hq4,hq5,hq6,hq7,hfl8]
  have hlq9 := hP8.blk_some (show blk w7.drew (w.heap.size + 1) = _ from hl7) id
  have hx9 : Upd (fun b => b = w.heap.size + 1 ∨ b = w.heap.size + 2) w7 w8 := ((Upd.refl _ _).drew).trans (hP8.mono fun _ h => h.elim)
  try simp (maxSteps:=1000000)(disch:=(first|omega|(simp only [qI,qJ,qK]<;>omega)|exact qL _)) only [go_sem,↓reduceIte,n0,reduceCtorEq,n1,n2,n3,n4,n5,i0,i1,i2,i3,i4,i5,i6,i7,hlq9]
  generalize hw9 : wr w8 (w.heap.size + 1) 20 [.int .i64 0,vS8,.bool (t.at 4).null,.slice none 0 0,.slice none 0 0] = w9
  have hl9 : blk w9 (w.heap.size + 1) = some (#[.int .i64 (IntKind.i8.wrap (t.at 0).n),.slice none 0 0,.bool false,.slice none 0 0,.slice none 0 0,.int .i64 0,vS3,.bool (t.at 1).null,.slice none 0 0,.slice none 0 0,.int .i64 (IntKind.i8.wrap (t.at 2).n),.slice none 0 0,.bool false,.slice none 0 0,.slice none 0 0,.int .i64 0,vS6,.bool (t.at 3).null,.slice none 0 0,.slice none 0 0,.int .i64 0,vS8,.bool (t.at 4).null,.slice none 0 0,.slice none 0 0,.int .i64 0,.slice none 0 0,.bool false,.slice none 0 0,.slice none 0 0,.int .i64 0,.slice none 0 0,.bool false,.slice none 0 0,.slice none 0 0],37,(0,0)) := by rw [← hw9,blk_wr_eq,hlq9];rfl
  have hv9 : Upd (fun b => b = w.heap.size + 1 ∨ b = w.heap.size + 2) w8 w9 := by rw [← hw9];exact (Upd.refl _ _).wr _ _ (.inr (.inl rfl))
  have hV9 : Upd (fun b => b = w.heap.size + 1 ∨ b = w.heap.size + 2) w7 w9 := hx9.trans hv9
  have hU9 : Upd (fun b => b = w.heap.size + 1 ∨ b = w.heap.size + 2) w1 w9 := hU7.trans hV9
  have hz9 := hU9.size
  have hX9 : Ext w w9 := hE1.more hU9 fun b hb h => by omega
  have hb9 := hX9.blk_some hb id
  have ht9 : blk w9 (w.heap.size + 2) = some (#[.int .i64 0,.slice none 0 0,.bool false,.slice (some ⟨w.heap.size + 1,0,none⟩) 7 7,.slice none 0 0],37,(0,0)) := by
    rw [← hw9,blk_wr_ne (by omega)]
    exact hP8.blk_some (show blk w7.drew (w.heap.size + 2) = _ from ht7) id
  clear hw9
  have hf4 : TreeC (fun b => w1.heap.size ≤ b) w9 (.oct (t.at 4).null (if (t.at 4).null = true then [] else (t.at 4).s)) [.int .i64 0,vS8,.bool (t.at 4).null,.slice none 0 0,.slice none 0 0] := (TreeC.keep (hv9.keeps fun b hb hk e => by have hk' : w1.heap.size ≤ b := hk;omega) (TreeC.intro rfl (hB8.weaken fun b _ hk => by have hk' : w7.drew.heap.size ≤ b := hk;(try simp only [size_drew] at hk');omega) (treesN _ _) (tagsN _ _) : TreeC (fun b => w1.heap.size ≤ b) w8 (.oct (t.at 4).null (if (t.at 4).null = true then [] else (t.at 4).s)) [.int .i64 0,vS8,.bool (t.at 4).null,.slice none 0 0,.slice none 0 0]))
  repeat ((first | refine qA rfl ?_|refine qB ?_|refine qC rfl ?_|refine qD ?_|refine qE ?_|refine qF ?_|refine qG ?_|refine qH ?_);try simp (maxSteps:=1000000)(disch:=(first|omega|(simp only [qI,qJ,qK]<;>omega)|exact qL _)) only [go_sem,↓reduceIte,n0,reduceCtorEq,n1,n2,n3,n4,n5,i0,i1,i2,i3,i4,i5,i6,i7,hb9,hl9,ht9,hq0,hq1,hq2,hq3,hq4,hq5,hq6,hq7])
  refine W.drawR (.take 0 (.take 1 (.take 2 (.take 3 (.take 4 (.take 5 (.take 6 (.only 7 (.take 8 (.last 9)))))))))) (NoB) mixed (by kernel_rfl) ?_
  try simp (maxSteps:=1000000)(disch:=(first|omega|(simp only [qI,qJ,qK]<;>omega)|exact qL _)) only [go_sem,↓reduceIte,n0,reduceCtorEq,n1,n2,n3,n4,n5,i0,i1,i2,i3,i4,i5,i6,i7,hb9,hl9,ht9,hq0,hq1,hq2,hq3,hq4,hq5,hq6,hq7,tl8]
  refine ⟨Upd.refl _ _,?_⟩
  have hlq10 : blk w9.drew (w.heap.size + 1) = _ := hl9
  have hx10 : Upd (fun b => b = w.heap.size + 1 ∨ b = w.heap.size + 2) w9 w9.drew := (Upd.refl _ _).drew
  generalize hw10 : wr w9.drew (w.heap.size + 1) 25 [.int .i64 (IntKind.i8.wrap (t.at 5).n),.slice none 0 0,.bool false,.slice none 0 0,.slice none 0 0] = w10
  have hl10 : blk w10 (w.heap.size + 1) = some (#[.int .i64 (IntKind.i8.wrap (t.at 0).n),.slice none 0 0,.bool false,.slice none 0 0,.slice none 0 0,.int .i64 0,vS3,.bool (t.at 1).null,.slice none 0 0,.slice none 0 0,.int .i64 (IntKind.i8.wrap (t.at 2).n),.slice none 0 0,.bool false,.slice none 0 0,.slice none 0 0,.int .i64 0,vS6,.bool (t.at 3).null,.slice none 0 0,.slice none 0 0,.int .i64 0,vS8,.bool (t.at 4).null,.slice none 0 0,.slice none 0 0,.int .i64 (IntKind.i8.wrap (t.at 5).n),.slice none 0 0,.bool false,.slice none 0 0,.slice none 0 0,.int .i64 0,.slice none 0 0,.bool false,.slice none 0 0,.slice none 0 0],37,(0,0)) := by rw [← hw10,blk_wr_eq,hlq10];rfl
  have hv10 : Upd (fun b => b = w.heap.size + 1 ∨ b = w.heap.size + 2) w9.drew w10 := by rw [← hw10];exact (Upd.refl _ _).wr _ _ (.inr (.inl rfl))
  have hV10 : Upd (fun b => b = w.heap.size + 1 ∨ b = w.heap.size + 2) w9 w10 := hx10.trans hv10
  have hU10 : Upd (fun b => b = w.heap.size + 1 ∨ b = w.heap.size + 2) w1 w10 := hU9.trans hV10
  have hz10 := hU10.size
  have hX10 : Ext w w10 := hE1.more hU10 fun b hb h => by omega
  have hb10 := hX10.blk_some hb id
  have ht10 : blk w10 (w.heap.size + 2) = some (#[.int .i64 0,.slice none 0 0,.bool false,.slice (some ⟨w.heap.size + 1,0,none⟩) 7 7,.slice none 0 0],37,(0,0)) := by
    rw [← hw10,blk_wr_ne (by omega)]
    exact ht9
  clear hw10
  have hf5 : TreeC (fun b => w1.heap.size ≤ b) w10 (.num (IntKind.i8.wrap (t.at 5).n)) [.int .i64 (IntKind.i8.wrap (t.at 5).n),.slice none 0 0,.bool false,.slice none 0 0,.slice none 0 0] := (TreeC.keep (hv10.keeps fun b hb hk e => by have hk' : w1.heap.size ≤ b := hk;omega) (TreeC.intro (tl8 _) (BytesV.nil _ _) (treesN _ _) (tagsN _ _) : TreeC (fun b => w1.heap.size ≤ b) w9.drew (.num (IntKind.i8.wrap (t.at 5).n)) [.int .i64 (IntKind.i8.wrap (t.at 5).n),.slice none 0 0,.bool false,.slice none 0 0,.slice none 0 0]))
  repeat ((first | refine qA rfl ?_|refine qB ?_|refine qC rfl ?_|refine qD ?_|refine qE ?_|refine qF ?_|refine qG ?_|refine qH ?_);try simp (maxSteps:=1000000)(disch:=(first|omega|(simp only [qI,qJ,qK]<;>omega)|exact qL _)) only [go_sem,↓reduceIte,n0,reduceCtorEq,n1,n2,n3,n4,n5,i0,i1,i2,i3,i4,i5,i6,i7,hb10,hl10,ht10,hq0,hq1,hq2,hq3,hq4,hq5,hq6,hq7])
  refine W.drawR (.take 0 (.take 1 (.take 2 (.take 3 (.take 4 (.take 5 (.take 6 (.only 7 (.take 8 (.last 9)))))))))) (NoB) mixed (by kernel_rfl) ?_
  try simp (maxSteps:=1000000)(disch:=(first|omega|(simp only [qI,qJ,qK]<;>omega)|exact qL _)) only [go_sem,↓reduceIte,n0,reduceCtorEq,n1,n2,n3,n4,n5,i0,i1,i2,i3,i4,i5,i6,i7,hb10,hl10,ht10,hq0,hq1,hq2,hq3,hq4,hq5,hq6,hq7,tl8]
  refine ⟨Upd.refl _ _,?_⟩
  have hlq11 : blk w10.drew (w.heap.size + 1) = _ := hl10
  have hx11 : Upd (fun b => b = w.heap.size + 1 ∨ b = w.heap.size + 2) w10 w10.drew := (Upd.refl _ _).drew
  generalize hw11 : wr w10.drew (w.heap.size + 1) 30 [.int .i64 (IntKind.i8.wrap (t.at 6).n),.slice none 0 0,.bool false,.slice none 0 0,.slice none 0 0] = w11
  have hl11 : blk w11 (w.heap.size + 1) = some (#[.int .i64 (IntKind.i8.wrap (t.at 0).n),.slice none 0 0,.bool false,.slice none 0 0,.slice none 0 0,.int .i64 0,vS3,.bool (t.at 1).null,.slice none 0 0,.slice none 0 0,.int .i64 (IntKind.i8.wrap (t.at 2).n),.slice none 0 0,.bool false,.slice none 0 0,.slice none 0 0,.int .i64 0,vS6,.bool (t.at 3).null,.slice none 0 0,.slice none 0 0,.int .i64 0,vS8,.bool (t.at 4).null,.slice none 0 0,.slice none 0 0,.int .i64 (IntKind.i8.wrap (t.at 5).n),.slice none 0 0,.bool false,.slice none 0 0,.slice none 0 0,.int .i64 (IntKind.i8.wrap (t.at 6).n),.slice none 0 0,.bool false,.slice none 0 0,.slice none 0 0],37,(0,0)) := by rw [← hw11,blk_wr_eq,hlq11];rfl
  have hv11 : Upd (fun b => b = w.heap.size + 1 ∨ b = w.heap.size + 2) w10.drew w11 := by rw [← hw11];exact (Upd.refl _ _).wr _ _ (.inr (.inl rfl))
  have hV11 : Upd (fun b => b = w.heap.size + 1 ∨ b = w.heap.size + 2) w10 w11 := hx11.trans hv11
  have hU11 : Upd (fun b => b = w.heap.size + 1 ∨ b = w.heap.size + 2) w1 w11 := hU10.trans hV11
  have hz11 := hU11.size
  have hX11 : Ext w w11 := hE1.more hU11 fun b hb h => by omega
  have hb11 := hX11.blk_some hb id
  have ht11 : blk w11 (w.heap.size + 2) = some (#[.int .i64 0,.slice none 0 0,.bool false,.slice (some ⟨w.heap.size + 1,0,none⟩) 7 7,.slice none 0 0],37,(0,0)) := by
    rw [← hw11,blk_wr_ne (by omega)]
    exact ht10
  clear hw11
  have hf6 : TreeC (fun b => w1.heap.size ≤ b) w11 (.num (IntKind.i8.wrap (t.at 6).n)) [.int .i64 (IntKind.i8.wrap (t.at 6).n),.slice none 0 0,.bool false,.slice none 0 0,.slice none 0 0] := (TreeC.keep (hv11.keeps fun b hb hk e => by have hk' : w1.heap.size ≤ b := hk;omega) (TreeC.intro (tl8 _) (BytesV.nil _ _) (treesN _ _) (tagsN _ _) : TreeC (fun b => w1.heap.size ≤ b) w10.drew (.num (IntKind.i8.wrap (t.at 6).n)) [.int .i64 (IntKind.i8.wrap (t.at 6).n),.slice none 0 0,.bool false,.slice none 0 0,.slice none 0 0]))
  repeat ((first | refine qA rfl ?_|refine qB ?_|refine qC rfl ?_|refine qD ?_|refine qE ?_|refine qF ?_|refine qG ?_|refine qH ?_);try simp (maxSteps:=1000000)(disch:=(first|omega|(simp only [qI,qJ,qK]<;>omega)|exact qL _)) only [go_sem,↓reduceIte,n0,reduceCtorEq,n1,n2,n3,n4,n5,i0,i1,i2,i3,i4,i5,i6,i7,hb11,hl11,ht11,hq0,hq1,hq2,hq3,hq4,hq5,hq6,hq7])
  refine (EachG_fn (ok := fun b => b < w.heap.size) 79 ca_79 #[.pointer (some ⟨w.heap.size + 2,0,none⟩)] w11 (tb := b) (to := 8) hb11 hq7 ((hT.weaken fun b hb _ => hb).keep (hX11.keeps _)) (sortT_perm _) (sortT_lt hgu.2.1) (by rw [(sortT_perm t.u).length_eq];exact hgu.1)
    (fun b => b = w.heap.size + 2) (by omega) (fun b hb hk e => by have hk' : b < w.heap.size := hk;omega) (fun b hb => by have := blk_lt ht11;omega)
    (fun wl done w' => ∃ v,blk w' (w.heap.size + 2) = some (#[.int .i64 0,.slice none 0 0,.bool false,.slice (some ⟨w.heap.size + 1,0,none⟩) 7 7,v],37,(0,0)) ∧ GrowU (fun b => w1.heap.size ≤ b) wl.heap.size (w.heap.size + 2) w' 68 v done) (fun wl hE => ⟨_,hE.blk_some ht11 id,GrowU.nil _ _ _ _ _⟩) ?_).mono ?_
  · rintro wl hE done y vv wc hpre ⟨v,hbv,hg⟩ hU hvv hy
    have hz' := hE.size
    have hzu := hU.size
    have htl := blk_lt ht11
    have hpl := hpre.length_le
    simp only [List.length_append,List.length_cons,List.length_nil] at hpl
    rw [(sortT_perm t.u).length_eq] at hpl
    have hlu := hgu.1
    have hmy : y ∈ t.u := (sortT_perm t.u).mem_iff.1 (hpre.subset (by simp))
    refine (tagclDescribeACLsRequest_fn (ok := fun b => b < w.heap.size) _ _ _ _ v done y vv wc hbv hg hzu (by omega) (hvv.keep ((hE.mono (fun _ h => h.elim) |>.trans hU : Upd (fun b => b = w.heap.size + 2) w11 wc).keeps fun b _ hk e => by have hk' : b < w.heap.size := hk;omega)) hy (hgu.2.2 y hmy) (by omega) (fun b hb => by have := hz11;omega)).mono ?_
    rintro _ w2' ⟨⟨v',h1,h2⟩,h3⟩
    exact ⟨⟨v',h1,h2⟩,hU.trans' h3 fun b hb h => h.elim id fun h => by omega⟩
  rintro _ w12 ⟨wl,hEl,⟨v,ht12,hgU⟩,hUe⟩
  have hzl := hEl.size
  obtain ⟨aU,kU,hvs,_⟩ := hgU.shape
  subst hvs
  have hV12 : Upd (fun b => b = w.heap.size + 1 ∨ b = w.heap.size + 2) w11 w12 := (hEl.mono fun _ h => h.elim).trans (hUe.mono fun _ h => .inr h)
  have hU12 : Upd (fun b => b = w.heap.size + 1 ∨ b = w.heap.size + 2) w1 w12 := hU11.trans hV12
  have hz12 := hU12.size
  have hX12 : Ext w w12 := hE1.more hU12 fun b hb h => by omega
  have hb12 := hX12.blk_some hb id
  have hl12 := (((hEl.mono fun _ h => h.elim).trans hUe : Upd (fun b => b = w.heap.size + 2) w11 w12)).blk_some hl11 (by omega)
  have hTU := hgU.tags (ok' := (fun b => w1.heap.size ≤ b)) (fun _ _ h => h) (fun b hb => by have := hz11;omega)
  repeat ((first | refine qA rfl ?_|refine qB ?_|refine qC rfl ?_|refine qD ?_|refine qE ?_|refine qF ?_|refine qG ?_|refine qH ?_);try simp (maxSteps:=1000000)(disch:=(first|omega|(simp only [qI,qJ,qK]<;>omega)|exact qL _)) only [go_sem,↓reduceIte,n0,reduceCtorEq,n1,n2,n3,n4,n5,i0,i1,i2,i3,i4,i5,i6,i7,hb12,hl12,ht12,hq0,hq1,hq2,hq3,hq4,hq5,hq6,hq7,cellsAt_five])
  refine (sorted_fn _ _ w12 hTU (sortT_lt hgu.2.1) (by rw [(sortT_perm t.u).length_eq];exact hgu.1)).mono ?_
  rintro _ w13 hEs
  have hV13 : Upd (fun b => b = w.heap.size + 1 ∨ b = w.heap.size + 2) w12 w13 := hEs.mono fun _ h => h.elim
  have hU13 : Upd (fun b => b = w.heap.size + 1 ∨ b = w.heap.size + 2) w1 w13 := hU12.trans hV13
  have hz13 := hU13.size
  have hX13 : Ext w w13 := hE1.more hU13 fun b hb h => by omega
  have hb13 := hX13.blk_some hb id
  have hl13 := hEs.blk_some hl12 id
  have ht13 := hEs.blk_some ht12 id
  have hr13 := (hU13.blk_some hr1 (by omega))
  have hC_13 : Upd (fun b => b = w.heap.size + 1 ∨ b = w.heap.size + 2) w13 w13 := Upd.refl _ _
  have hC_12 : Upd (fun b => b = w.heap.size + 1 ∨ b = w.heap.size + 2) w12 w13 := hV13.trans hC_13
  have hC_11 : Upd (fun b => b = w.heap.size + 1 ∨ b = w.heap.size + 2) w11 w13 := hV12.trans hC_12
  have hC_10 : Upd (fun b => b = w.heap.size + 1 ∨ b = w.heap.size + 2) w10 w13 := hV11.trans hC_11
  have hC_9 : Upd (fun b => b = w.heap.size + 1 ∨ b = w.heap.size + 2) w9 w13 := hV10.trans hC_10
  have hC_7 : Upd (fun b => b = w.heap.size + 1 ∨ b = w.heap.size + 2) w7 w13 := hV9.trans hC_9
  have hC_5 : Upd (fun b => b = w.heap.size + 1 ∨ b = w.heap.size + 2) w5 w13 := hV7.trans hC_7
  have hC_4 : Upd (fun b => b = w.heap.size + 1 ∨ b = w.heap.size + 2) w4 w13 := hV5.trans hC_5
  have hC_2 : Upd (fun b => b = w.heap.size + 1 ∨ b = w.heap.size + 2) w2 w13 := hV4.trans hC_4
  have hC_1 : Upd (fun b => b = w.heap.size + 1 ∨ b = w.heap.size + 2) w1 w13 := hV2.trans hC_2
  have hF0 := TreeC.keep (hC_2.keeps fun b hb hk e => by have hk' : w1.heap.size ≤ b := hk;omega) hf0
  have hF1 := TreeC.keep (hC_4.keeps fun b hb hk e => by have hk' : w1.heap.size ≤ b := hk;omega) hf1
  have hF2 := TreeC.keep (hC_5.keeps fun b hb hk e => by have hk' : w1.heap.size ≤ b := hk;omega) hf2
  have hF3 := TreeC.keep (hC_7.keeps fun b hb hk e => by have hk' : w1.heap.size ≤ b := hk;omega) hf3
  have hF4 := TreeC.keep (hC_9.keeps fun b hb hk e => by have hk' : w1.heap.size ≤ b := hk;omega) hf4
  have hF5 := TreeC.keep (hC_10.keeps fun b hb hk e => by have hk' : w1.heap.size ≤ b := hk;omega) hf5
  have hF6 := TreeC.keep (hC_11.keeps fun b hb hk e => by have hk' : w1.heap.size ≤ b := hk;omega) hf6
  replace hF0 : TreeC (fun b => w1.heap.size ≤ b) w13 (tlF (tlP d) fDescribeACLsRequest_0 (t.at 0)) [.int .i64 (IntKind.i8.wrap (t.at 0).n),.slice none 0 0,.bool false,.slice none 0 0,.slice none 0 0] := hF0
  replace hF1 : TreeC (fun b => w1.heap.size ≤ b) w13 (tlF (tlP d) fDescribeACLsRequest_1 (t.at 1)) [.int .i64 0,vS3,.bool (t.at 1).null,.slice none 0 0,.slice none 0 0] := hF1
  replace hF2 : TreeC (fun b => w1.heap.size ≤ b) w13 (tlF (tlP d) fDescribeACLsRequest_2 (t.at 2)) [.int .i64 (IntKind.i8.wrap (t.at 2).n),.slice none 0 0,.bool false,.slice none 0 0,.slice none 0 0] := hF2
  replace hF3 : TreeC (fun b => w1.heap.size ≤ b) w13 (tlF (tlP d) fDescribeACLsRequest_3 (t.at 3)) [.int .i64 0,vS6,.bool (t.at 3).null,.slice none 0 0,.slice none 0 0] := hF3
  replace hF4 : TreeC (fun b => w1.heap.size ≤ b) w13 (tlF (tlP d) fDescribeACLsRequest_4 (t.at 4)) [.int .i64 0,vS8,.bool (t.at 4).null,.slice none 0 0,.slice none 0 0] := hF4
  replace hF5 : TreeC (fun b => w1.heap.size ≤ b) w13 (tlF (tlP d) fDescribeACLsRequest_5 (t.at 5)) [.int .i64 (IntKind.i8.wrap (t.at 5).n),.slice none 0 0,.bool false,.slice none 0 0,.slice none 0 0] := hF5
  replace hF6 : TreeC (fun b => w1.heap.size ≤ b) w13 (tlF (tlP d) fDescribeACLsRequest_6 (t.at 6)) [.int .i64 (IntKind.i8.wrap (t.at 6).n),.slice none 0 0,.bool false,.slice none 0 0,.slice none 0 0] := hF6
  have hTL : TreesV (fun b => (fun b => w1.heap.size ≤ b) b ∨ b = w.heap.size + 1) w13 (.slice (some ⟨w.heap.size + 1,0,none⟩) 7 7) [tlF (tlP d) fDescribeACLsRequest_0 (t.at 0),tlF (tlP d) fDescribeACLsRequest_1 (t.at 1),tlF (tlP d) fDescribeACLsRequest_2 (t.at 2),tlF (tlP d) fDescribeACLsRequest_3 (t.at 3),tlF (tlP d) fDescribeACLsRequest_4 (t.at 4),tlF (tlP d) fDescribeACLsRequest_5 (t.at 5),tlF (tlP d) fDescribeACLsRequest_6 (t.at 6)] := by
    refine ⟨[[.int .i64 (IntKind.i8.wrap (t.at 0).n),.slice none 0 0,.bool false,.slice none 0 0,.slice none 0 0],[.int .i64 0,vS3,.bool (t.at 1).null,.slice none 0 0,.slice none 0 0],[.int .i64 (IntKind.i8.wrap (t.at 2).n),.slice none 0 0,.bool false,.slice none 0 0,.slice none 0 0],[.int .i64 0,vS6,.bool (t.at 3).null,.slice none 0 0,.slice none 0 0],[.int .i64 0,vS8,.bool (t.at 4).null,.slice none 0 0,.slice none 0 0],[.int .i64 (IntKind.i8.wrap (t.at 5).n),.slice none 0 0,.bool false,.slice none 0 0,.slice none 0 0],[.int .i64 (IntKind.i8.wrap (t.at 6).n),.slice none 0 0,.bool false,.slice none 0 0,.slice none 0 0]],⟨_,7,rfl,Nat.le_refl _,(by intro cs hm;simp only [List.mem_cons,List.not_mem_nil,or_false] at hm;rcases hm with rfl | rfl | rfl | rfl | rfl | rfl | rfl <;> rfl),.inr ⟨_,rfl,rfl,.inr rfl,_,hl13,fun i hi => by rw [Nat.zero_add,List.getElem?_toArray];rfl⟩⟩,rfl,fun i h1 h2 => ?_⟩
    match i,h1 with
    | 0,_ => exact TreeC.weaken (fun b _ hk => .inl hk) hF0
    | 1,_ => exact TreeC.weaken (fun b _ hk => .inl hk) hF1
    | 2,_ => exact TreeC.weaken (fun b _ hk => .inl hk) hF2
    | 3,_ => exact TreeC.weaken (fun b _ hk => .inl hk) hF3
    | 4,_ => exact TreeC.weaken (fun b _ hk => .inl hk) hF4
    | 5,_ => exact TreeC.weaken (fun b _ hk => .inl hk) hF5
    | 6,_ => exact TreeC.weaken (fun b _ hk => .inl hk) hF6
  repeat ((first | refine qA rfl ?_|refine qB ?_|refine qC rfl ?_|refine qD ?_|refine qE ?_|refine qF ?_|refine qG ?_|refine qH ?_);try simp (maxSteps:=1000000)(disch:=(first|omega|(simp only [qI,qJ,qK]<;>omega)|exact qL _)) only [go_sem,↓reduceIte,n0,reduceCtorEq,n1,n2,n3,n4,n5,i0,i1,i2,i3,i4,i5,i6,i7,hb13,hl13,ht13,hq0,hq1,hq2,hq3,hq4,hq5,hq6,hq7,hr13,cellsAt_five])
  refine ⟨⟨_,rfl,?_⟩,hX13.wr _ _ (.inl (Nat.le_refl _))⟩
  have hUr : Upd (fun b => b = w.heap.size) w13 (wr w13 w.heap.size 0 [.int .i64 0,.slice none 0 0,.bool false,.slice (some ⟨w.heap.size + 1,0,none⟩) 7 7,.slice aU (sortT t.u).length kU]) := (Upd.refl _ _).wr _ _ (.inr rfl)
  have hTU2 := hTU.keep (hEs.keeps _)
  exact TreeC.intro rfl (BytesV.nil _ _) ((hTL.keep (hUr.keeps fun b _ hk e => by rcases hk with hk | hk <;> omega)).weaken fun b _ hk => by rcases hk with hk | hk <;> omega) ((hTU2.keep (hUr.keeps fun b _ hk e => by omega)).weaken fun b _ hk => by omega)
end Ms

namespace Ms
open Go.World renaming size_alloc → qI
open Ms renaming size_wr → qJ,size_drew → qK,not_noB → qL
open W renaming seqR → qA,seq → qB,regR → qC,condK → qD,block → qE,skip → qF,ret → qG,exit → qH
open Nat renaming reduceEqDiff → n0,reduceAdd → n1,reduceMul → n2,reduceSub → n3,reduceLT → n4,reduceLeDiff → n5
open Int renaming reduceEq → i0,reduceLT → i1,reduceLE → i2,reduceNeg → i3,reduceAdd → i4,reduceSub → i5,reduceMul → i6,reduceToNat → i7
set_option maxRecDepth 8000
open Go Go.Proofs Go.Shelf
attribute [local congr] W_congr WPsq_congr WPp_congr optK_congr addrK_congr intK_congr boolK_congr sliceK_congr tupleK_congr funcK_congr Fn_congr rawK_congr takeK_congr stepK_congr convK_congr aggK_congr

set_option maxHeartbeats 4000000 in
theorem DefSetDescribeACLsRequest_fn {d : Nat} {ok : Blocks} {ver : Int} (t : Tree) (cells : List Value) (w : World) {vb : Nat} (hb : blk w vb = some ((.int .i16 ver :: cells).toArray,111,(0,0))) (hok : ∀ b,ok b → b ≠ vb) (hR : RepS true (d + 1) fs_DescribeACLsRequest ok w t cells) :
    Fn Tryd.prog 57 #[.pointer (some ⟨vb,0,none⟩)] w fun _ w' => (∃ cells',blk w' vb = some ((.int .i16 ver :: cells').toArray,111,(0,0)) ∧ RepS true (d + 1) fs_DescribeACLsRequest ok w' (setDf fs_DescribeACLsRequest t) cells') ∧ Upd (fun b => b = vb) w w' := by
  obtain ⟨cs0,q,hcs,hL,hT⟩ := hR.inv
  obtain ⟨c0,e0,rfl,h0,c1,e1,rfl,h1,c2,e2,rfl,h2,c3,e3,rfl,h3,c4,e4,rfl,h4,c5,e5,rfl,h5,c6,e6,rfl,h6,rfl⟩ := hL
  replace h0 : RepF (RepS true d) (szS true d) fDescribeACLsRequest_0 ok w (t.at 0) c0 := h0
  replace h1 : RepF (RepS true d) (szS true d) fDescribeACLsRequest_1 ok w (t.at 1) c1 := h1
  replace h2 : RepF (RepS true d) (szS true d) fDescribeACLsRequest_2 ok w (t.at 2) c2 := h2
  replace h3 : RepF (RepS true d) (szS true d) fDescribeACLsRequest_3 ok w (t.at 3) c3 := h3
  replace h4 : RepF (RepS true d) (szS true d) fDescribeACLsRequest_4 ok w (t.at 4) c4 := h4
  replace h5 : RepF (RepS true d) (szS true d) fDescribeACLsRequest_5 ok w (t.at 5) c5 := h5
  replace h6 : RepF (RepS true d) (szS true d) fDescribeACLsRequest_6 ok w (t.at 6) c6 := h6
  obtain rfl := (RepF_num (by decide)).1 h0
  obtain ⟨p1,rfl,hp1⟩ := (RepF_ptr rfl (by decide)).1 h1
  obtain rfl := (RepF_num (by decide)).1 h2
  obtain ⟨p3,rfl,hp3⟩ := (RepF_ptr rfl (by decide)).1 h3
  obtain ⟨p4,rfl,hp4⟩ := (RepF_ptr rfl (by decide)).1 h4
  obtain rfl := (RepF_num (by decide)).1 h5
  obtain rfl := (RepF_num (by decide)).1 h6
  obtain ⟨qm,rfl⟩ := hT.shape
  subst hcs
  have hvl := blk_lt hb
  simp only [List.append_eq,List.cons_append,List.nil_append,List.append_nil] at hb
  refine (DefaultDescribeACLsRequest_fn w hb).mono ?_
  rintro _ w' ⟨hb',hU⟩
  have hK : Keeps ok w w' := hU.keeps fun b _ hk e => hok b hk e
  refine ⟨⟨[.int .i8 (IntKind.i8.wrap (t.at 0).n),p1,.int .i8 (IntKind.i8.wrap (3 : Int)),p3,p4,.int .i8 (IntKind.i8.wrap (t.at 5).n),.int .i8 (IntKind.i8.wrap (t.at 6).n)] ++ [.map qm],hb',RepS.mk' (RepL.cons1 (show RepF (RepS true d) (szS true d) fDescribeACLsRequest_0 ok w' ((setDf fs_DescribeACLsRequest t).at 0) _ from ((RepF_lay fDescribeACLsRequest_0 fun _ => RepS_lay true d _).keep h0 hK)) (RepL.cons1 (show RepF (RepS true d) (szS true d) fDescribeACLsRequest_1 ok w' ((setDf fs_DescribeACLsRequest t).at 1) _ from ((RepF_lay fDescribeACLsRequest_1 fun _ => RepS_lay true d _).keep h1 hK)) (RepL.cons1 (show RepF (RepS true d) (szS true d) fDescribeACLsRequest_2 ok w' ((setDf fs_DescribeACLsRequest t).at 2) _ from ((RepF_num (by decide)).2 rfl)) (RepL.cons1 (show RepF (RepS true d) (szS true d) fDescribeACLsRequest_3 ok w' ((setDf fs_DescribeACLsRequest t).at 3) _ from ((RepF_lay fDescribeACLsRequest_3 fun _ => RepS_lay true d _).keep h3 hK)) (RepL.cons1 (show RepF (RepS true d) (szS true d) fDescribeACLsRequest_4 ok w' ((setDf fs_DescribeACLsRequest t).at 4) _ from ((RepF_lay fDescribeACLsRequest_4 fun _ => RepS_lay true d _).keep h4 hK)) (RepL.cons1 (show RepF (RepS true d) (szS true d) fDescribeACLsRequest_5 ok w' ((setDf fs_DescribeACLsRequest t).at 5) _ from ((RepF_lay fDescribeACLsRequest_5 fun _ => RepS_lay true d _).keep h5 hK)) (RepL.cons1 (show RepF (RepS true d) (szS true d) fDescribeACLsRequest_6 ok w' ((setDf fs_DescribeACLsRequest t).at 6) _ from ((RepF_lay fDescribeACLsRequest_6 fun _ => RepS_lay true d _).keep h6 hK)) RepL.nil))))))) (TagsM.keep hT hK)⟩,hU⟩

set_option maxHeartbeats 2000000 in
theorem DefDDescribeACLsRequest_fn {d : Nat} {ok : Blocks} {ev : Value} (ver : Nat) (hv : ver ≤ 3) (b : Value) (s : List UInt8) (w : World) (hb : BytesV ok w b s) (hG : Glo ev w) (hs : s.length ≤ 2 ^ 40) (fin : Tree × St) (hfin : fin = rdP (d + 1) ver (flexB 2 ver) fs_DescribeACLsRequest (some s)) (hst : fin.2 ≠ none) (hgood : GoodP (d + 1) fs_DescribeACLsRequest (setDf fs_DescribeACLsRequest fin.1)) :
    Fn Tryd.prog 25 #[.int .i64 ver,b] w fun r w' => (∃ c,r = .tuple #[.agg c.toArray,.bool true] ∧ TreeC AnyB w' (tlP (d + 1) fs_DescribeACLsRequest (setDf fs_DescribeACLsRequest fin.1)) c) ∧ Ext w w' := by
  obtain ⟨ba,bc,rfl,_⟩ := hb.shape
  have hgl := hG.lt
  have ew : IntKind.i16.wrap (ver : Int) = ver := i16_wrap (by omega)
  have hE0 : Ext w (w.alloc (.cells #[.int .i64 0,.slice none 0 0,.bool false,.slice none 0 0,.slice none 0 0] 37)) := Upd.alloc (Upd.refl _ _) _
  have hz0 : (w.alloc (.cells #[.int .i64 0,.slice none 0 0,.bool false,.slice none 0 0,.slice none 0 0] 37)).heap.size = w.heap.size + 1 := World.size_alloc _ _
  have hr0 : blk (w.alloc (.cells #[.int .i64 0,.slice none 0 0,.bool false,.slice none 0 0,.slice none 0 0] 37)) w.heap.size = some (#[.int .i64 0,.slice none 0 0,.bool false,.slice none 0 0,.slice none 0 0],37,(0,0)) := blk_alloc_new rfl
  refine fn_of_W Tryd.func25 rfl Tryd.results25 Tryd.ntmps25 rfl ?_
  repeat ((first | refine qA rfl ?_|refine qB ?_|refine qC rfl ?_|refine qD ?_|refine qE ?_|refine qF ?_|refine qG ?_|refine qH ?_);try simp (maxSteps:=1000000)(disch:=(first|omega|(simp only [qI,qJ,qK]<;>omega)|exact qL _)) only [go_sem,↓reduceIte,n0,reduceCtorEq,n1,n2,n3,n4,n5,i0,i1,i2,i3,i4,i5,i6,i7,ew])
  generalize (w.alloc (.cells #[.int .i64 0,.slice none 0 0,.bool false,.slice none 0 0,.slice none 0 0] 37)) = w0 at *
  refine (NewPtrDescribeACLsRequest_fn w0).mono ?_
  rintro _ w1 ⟨rfl,hb1,hE1⟩
  have hz1 := blk_lt hb1
  repeat ((first | refine qA rfl ?_|refine qB ?_|refine qC rfl ?_|refine qD ?_|refine qE ?_|refine qF ?_|refine qG ?_|refine qH ?_);try simp (maxSteps:=1000000)(disch:=(first|omega|(simp only [qI,qJ,qK]<;>omega)|exact qL _)) only [go_sem,↓reduceIte,n0,reduceCtorEq,n1,n2,n3,n4,n5,i0,i1,i2,i3,i4,i5,i6,i7,ew])
  refine (SetVersionDescribeACLsRequest_fn w1 (vb := w0.heap.size) ver hb1).mono ?_
  rintro _ w2 ⟨hb2,hU2⟩
  have hz2 := hU2.size
  have hE2 : Ext w0 w2 := hE1.more hU2 fun b hb h => by omega
  repeat ((first | refine qA rfl ?_|refine qB ?_|refine qC rfl ?_|refine qD ?_|refine qE ?_|refine qF ?_|refine qG ?_|refine qH ?_);try simp (maxSteps:=1000000)(disch:=(first|omega|(simp only [qI,qJ,qK]<;>omega)|exact qL _)) only [go_sem,↓reduceIte,n0,reduceCtorEq,n1,n2,n3,n4,n5,i0,i1,i2,i3,i4,i5,i6,i7,ew])
  refine wp_copyN ap_22_22 (ok := ok) (s := s) (v := .slice ba _ bc) (by first | rfl | simp (maxSteps:=1000000)(disch:=(first|omega|(simp only [qI,qJ,qK]<;>omega)|exact qL _)) only [go_sem,↓reduceIte,n0,reduceCtorEq,n1,n2,n3,n4,n5,i0,i1,i2,i3,i4,i5,i6,i7]) (by first | rfl | simp (maxSteps:=1000000)(disch:=(first|omega|(simp only [qI,qJ,qK]<;>omega)|exact qL _)) only [go_sem,↓reduceIte,n0,reduceCtorEq,n1,n2,n3,n4,n5,i0,i1,i2,i3,i4,i5,i6,i7]) (hb.keep (Ext.keeps (hE0.trans hE2) _)) (by omega) ?_
  intro v3 w3 ho3 hE3 hf3
  have hz3 := hE3.size
  have hb3 := hE3.blk_some hb2 id
  have hE03 : Ext w0 w3 := hE2.trans hE3
  have hG3 : Glo ev w3 := hG.updS (hE0.trans hE03) id id
  obtain ⟨a3,c3,rfl,_⟩ := ho3.shape
  try simp (maxSteps:=1000000)(disch:=(first|omega|(simp only [qI,qJ,qK]<;>omega)|exact qL _)) only [go_sem,↓reduceIte,n0,reduceCtorEq,n1,n2,n3,n4,n5,i0,i1,i2,i3,i4,i5,i6,i7]
  refine (ReadFromDescribeACLsRequest_fn (d := d) (ok := fun b => b < w3.heap.size ∧ b ≠ w0.heap.size) (ev := ev) (ver := ver) (by omega) (by omega) w3 _ _ hb3 ((Own.bytes ho3 hf3).weaken fun b hb hk => ⟨hb,by omega⟩) (fun b hb => hb) hG3 ⟨by omega,by omega⟩).mono ?_
  rw [← hfin]
  rintro r4 w4 ⟨h4n,h4s,hU4⟩
  have hz4 := hU4.size
  have hE4 : Ext w0 w4 := hE03.more hU4 fun b hb h => by omega
  have hr4 := hE4.blk_some hr0 id
  obtain ⟨rfl,cells,hb4,hR4⟩ := h4s hst
  try simp (maxSteps:=1000000)(disch:=(first|omega|(simp only [qI,qJ,qK]<;>omega)|exact qL _)) only [go_sem,↓reduceIte,n0,reduceCtorEq,n1,n2,n3,n4,n5,i0,i1,i2,i3,i4,i5,i6,i7,hr4]
  repeat ((first | refine qA rfl ?_|refine qB ?_|refine qC rfl ?_|refine qD ?_|refine qE ?_|refine qF ?_|refine qG ?_|refine qH ?_);try simp (maxSteps:=1000000)(disch:=(first|omega|(simp only [qI,qJ,qK]<;>omega)|exact qL _)) only [go_sem,↓reduceIte,n0,reduceCtorEq,n1,n2,n3,n4,n5,i0,i1,i2,i3,i4,i5,i6,i7,hr4])
  have hok4 : ∀ b,okN (fun b => b < w3.heap.size ∧ b ≠ w0.heap.size) w3.heap.size b → b ≠ w0.heap.size := fun b hb => by
    rcases hb with hb | hb
    · exact hb.2
    · omega
  refine (DefSetDescribeACLsRequest_fn (d := d) fin.1 cells w4 hb4 hok4 hR4).mono ?_
  rintro _ w5 ⟨⟨cells5,hb5,hR5⟩,hU5⟩
  have hz5 := hU5.size
  have hE5 : Ext w0 w5 := hE4.more hU5 fun b hb h => by omega
  have hr5 := hE5.blk_some hr0 id
  try simp (maxSteps:=1000000)(disch:=(first|omega|(simp only [qI,qJ,qK]<;>omega)|exact qL _)) only [go_sem,↓reduceIte,n0,reduceCtorEq,n1,n2,n3,n4,n5,i0,i1,i2,i3,i4,i5,i6,i7,hr5]
  repeat ((first | refine qA rfl ?_|refine qB ?_|refine qC rfl ?_|refine qD ?_|refine qE ?_|refine qF ?_|refine qG ?_|refine qH ?_);try simp (maxSteps:=1000000)(disch:=(first|omega|(simp only [qI,qJ,qK]<;>omega)|exact qL _)) only [go_sem,↓reduceIte,n0,reduceCtorEq,n1,n2,n3,n4,n5,i0,i1,i2,i3,i4,i5,i6,i7,hr5])
  have hcl := (RepS_lay true (d + 1) fs_DescribeACLsRequest).flat hR5
  refine (tellDescribeACLsRequest_fn (d := d) (setDf fs_DescribeACLsRequest fin.1) cells5 w5 hb5 (fun k hk => by show ((.int .i16 (ver : Int) :: cells5).toArray)[1 + k]? = cells5[k]?;rw [List.getElem?_toArray,Nat.add_comm,List.getElem?_cons_succ]) hR5 hgood).mono ?_
  rintro _ w6 ⟨⟨c6,rfl,hc6⟩,hE6⟩
  obtain ⟨vS,vL,vU,rfl,hn6,hS6,hL6,hU6⟩ := hc6.inv
  have f1 := hS6.flat
  have f2 := SlR.flat hL6
  have f3 := SlR.flat hU6
  have hr6 := hE6.blk_some hr5 id
  try simp (maxSteps:=1000000)(disch:=(first|omega|(simp only [qI,qJ,qK]<;>omega)|exact qL _)) only [go_sem,↓reduceIte,n0,reduceCtorEq,n1,n2,n3,n4,n5,i0,i1,i2,i3,i4,i5,i6,i7,hr6,f1,f2,f3]
  repeat ((first | refine qA rfl ?_|refine qB ?_|refine qC rfl ?_|refine qD ?_|refine qE ?_|refine qF ?_|refine qG ?_|refine qH ?_);try simp (maxSteps:=1000000)(disch:=(first|omega|(simp only [qI,qJ,qK]<;>omega)|exact qL _)) only [go_sem,↓reduceIte,n0,reduceCtorEq,n1,n2,n3,n4,n5,i0,i1,i2,i3,i4,i5,i6,i7,hr6,f1,f2,f3,cellsAt_five])
  have hUw : Upd (fun b => b = w.heap.size) w6 (wr w6 w.heap.size 0 [.int .i64 (tlP (d + 1) fs_DescribeACLsRequest (setDf fs_DescribeACLsRequest fin.1)).n,vS,.bool (tlP (d + 1) fs_DescribeACLsRequest (setDf fs_DescribeACLsRequest fin.1)).null,vL,vU]) := (Upd.refl _ _).wr _ _ (.inr rfl)
  refine ⟨⟨_,rfl,TreeC.weaken (fun _ _ _ => trivial) (TreeC.keep (hUw.keeps (ok := fun b => w5.heap.size ≤ b) fun b _ hk e => by have hk' : w5.heap.size ≤ b := hk;omega) hc6)⟩,(hE0.trans (hE5.trans hE6)).wr _ _ (.inl (Nat.le_refl _))⟩
end Ms

namespace Ms
open Go.World renaming size_alloc → qI
open Ms renaming size_wr → qJ,size_drew → qK,not_noB → qL
open W renaming seqR → qA,seq → qB,regR → qC,condK → qD,block → qE,skip → qF,ret → qG,exit → qH
open Nat renaming reduceEqDiff → n0,reduceAdd → n1,reduceMul → n2,reduceSub → n3,reduceLT → n4,reduceLeDiff → n5
open Int renaming reduceEq → i0,reduceLT → i1,reduceLE → i2,reduceNeg → i3,reduceAdd → i4,reduceSub → i5,reduceMul → i6,reduceToNat → i7
set_option maxRecDepth 8000
open Go Go.Proofs Go.Shelf
attribute [local congr] W_congr WPsq_congr WPp_congr optK_congr addrK_congr intK_congr boolK_congr sliceK_congr tupleK_congr funcK_congr Fn_congr rawK_congr takeK_congr stepK_congr convK_congr aggK_congr

set_option maxHeartbeats 4000000 in
theorem law_DefaultDescribeACLsRequest {ok : Blocks} {ev : Value} (n : Nat) (hn : n < 256) (t : Tree) (ct : List Value) (w : World) (ht : TreeC ok w t ct) (hsm : Small 4611686018427387903 t) (hG : Glo ev w) (hev : ∃ T p,ev = .iface T p) {N : Nat} (hN : N ≤ 1048576) (hsz : Sized N t) :
    Fn Tryd.prog 6 #[.int .u8 n,.agg ct.toArray] w fun r w' => r = .bool true ∧ Ext w w' := by
  have hn64 := TreeC.n64 ht
  obtain ⟨vS,vL,vU,rfl,hn',hS,hL,hU⟩ := ht.inv
  have f1 := hS.flat
  have f2 := SlR.flat hL
  have f3 := SlR.flat hU
  have hE : Ext w (w.alloc (.cells #[.int .i64 t.n,vS,.bool t.null,vL,vU] 26)) := Upd.alloc (Upd.refl _ _) _
  refine fn_of_W Tryd.func6 rfl Tryd.results6 Tryd.ntmps6 rfl ?_
  repeat ((first | refine qA rfl ?_|refine qB ?_|refine qC rfl ?_|refine qD ?_|refine qE ?_|refine qF ?_|refine qG ?_|refine qH ?_);try simp (maxSteps:=1000000)(disch:=(first|omega|(simp only [qI,qJ,qK]<;>omega)|exact qL _)) only [go_sem,↓reduceIte,n0,reduceCtorEq,n1,n2,n3,n4,n5,i0,i1,i2,i3,i4,i5,i6,i7,f1,f2,f3,cellsAt_five])
  have hb : blk (w.alloc (.cells #[.int .i64 t.n,vS,.bool t.null,vL,vU] 26)) w.heap.size = some (#[.int .i64 t.n,vS,.bool t.null,vL,vU],26,(0,0)) := blk_alloc_new rfl
  generalize (w.alloc (.cells #[.int .i64 t.n,vS,.bool t.null,vL,vU] 26)) = w1 at *
  refine (zzFits1_fn (ok := ok) t _ w1 (ht.keep (hE.keeps _)) hsm).mono ?_
  rintro r2 w2 ⟨⟨bb,rfl⟩,hE2⟩
  cases bb with
  | false =>
    simp (maxSteps:=1000000)(disch:=(first|omega|(simp only [qI,qJ,qK]<;>omega)|exact qL _)) only [go_sem,↓reduceIte,n0,reduceCtorEq,n1,n2,n3,n4,n5,i0,i1,i2,i3,i4,i5,i6,i7]
    repeat ((first | refine qA rfl ?_|refine qB ?_|refine qC rfl ?_|refine qD ?_|refine qE ?_|refine qF ?_|refine qG ?_|refine qH ?_);try simp (maxSteps:=1000000)(disch:=(first|omega|(simp only [qI,qJ,qK]<;>omega)|exact qL _)) only [go_sem,↓reduceIte,n0,reduceCtorEq,n1,n2,n3,n4,n5,i0,i1,i2,i3,i4,i5,i6,i7])
    all_goals exact hE.trans hE2
  | true =>
    simp (maxSteps:=1000000)(disch:=(first|omega|(simp only [qI,qJ,qK]<;>omega)|exact qL _)) only [go_sem,↓reduceIte,n0,reduceCtorEq,n1,n2,n3,n4,n5,i0,i1,i2,i3,i4,i5,i6,i7]
    repeat ((first | refine qA rfl ?_|refine qB ?_|refine qC rfl ?_|refine qD ?_|refine qE ?_|refine qF ?_|refine qG ?_|refine qH ?_);try simp (maxSteps:=1000000)(disch:=(first|omega|(simp only [qI,qJ,qK]<;>omega)|exact qL _)) only [go_sem,↓reduceIte,n0,reduceCtorEq,n1,n2,n3,n4,n5,i0,i1,i2,i3,i4,i5,i6,i7])
    refine (MaxDescribeACLsRequest_fn w2).mono ?_
    rintro _ w2m ⟨rfl,hE2m⟩
    repeat ((first | refine qA rfl ?_|refine qB ?_|refine qC rfl ?_|refine qD ?_|refine qE ?_|refine qF ?_|refine qG ?_|refine qH ?_);try simp (maxSteps:=1000000)(disch:=(first|omega|(simp only [qI,qJ,qK]<;>omega)|exact qL _)) only [go_sem,↓reduceIte,n0,reduceCtorEq,n1,n2,n3,n4,n5,i0,i1,i2,i3,i4,i5,i6,i7])
    refine (cDescribeACLsRequest_fn w2m).mono ?_
    rintro r3 w3 ⟨⟨vs,rfl,hF0⟩,hE3⟩
    have hF : FldsV AnyB w3 vs fs_DescribeACLsRequest := hF0.weaken fun _ _ _ => trivial
    have fF := SlR.flat hF
    try simp (maxSteps:=1000000)(disch:=(first|omega|(simp only [qI,qJ,qK]<;>omega)|exact qL _)) only [go_sem,↓reduceIte,n0,reduceCtorEq,n1,n2,n3,n4,n5,i0,i1,i2,i3,i4,i5,i6,i7]
    refine (version_fn w3 n 3 hn (by decide)).mono ?_
    rintro _ w3v ⟨rfl,rfl⟩
    have hE03 : Ext w w3v := ((hE.trans hE2).trans hE2m).trans hE3
    have hb3 := hE3.blk_some (hE2m.blk_some (hE2.blk_some hb id) id) id
    have hE4 : Ext w3v (wr (w3v.alloc (.cells #[.slice none 0 0,.int .i64 0] 31)) w3v.heap.size 0 [vs,.int .i64 2]) := (Upd.alloc (Upd.refl _ _) _).wr _ _ (.inl (Nat.le_refl _))
    have hb4 : blk (wr (w3v.alloc (.cells #[.slice none 0 0,.int .i64 0] 31)) w3v.heap.size 0 [vs,.int .i64 2]) w3v.heap.size = some (#[vs,.int .i64 2],31,(0,0)) := by simp (maxSteps:=1000000)(disch:=(first|omega|(simp only [qI,qJ,qK]<;>omega)|exact qL _)) only [go_sem,↓reduceIte,n0,reduceCtorEq,n1,n2,n3,n4,n5,i0,i1,i2,i3,i4,i5,i6,i7]
    try simp (maxSteps:=1000000)(disch:=(first|omega|(simp only [qI,qJ,qK]<;>omega)|exact qL _)) only [go_sem,↓reduceIte,n0,reduceCtorEq,n1,n2,n3,n4,n5,i0,i1,i2,i3,i4,i5,i6,i7,fF]
    generalize (wr (w3v.alloc (.cells #[.slice none 0 0,.int .i64 0] 31)) w3v.heap.size 0 [vs,.int .i64 2]) = w4 at *
    have hb34 := hE4.blk_some hb3 id
    have hv3 : n % 4 < 4 := Nat.mod_lt _ (by omega)
    generalize n % 4 = ver at *
    have hs1 := blk_lt hb4
    have hs2 := blk_lt hb34
    repeat ((first | refine qA rfl ?_|refine qB ?_|refine qC rfl ?_|refine qD ?_|refine qE ?_|refine qF ?_|refine qG ?_|refine qH ?_);try simp (maxSteps:=1000000)(disch:=(first|omega|(simp only [qI,qJ,qK]<;>omega)|exact qL _)) only [go_sem,↓reduceIte,n0,reduceCtorEq,n1,n2,n3,n4,n5,i0,i1,i2,i3,i4,i5,i6,i7,hb34,hb4,cellsAt_five,cellsAt_two])
    have hE04 : Ext w w4 := hE03.trans hE4
    have hokF : okF 1 fs_DescribeACLsRequest = true := by decide
    have hokM : okM 1 fs_DescribeACLsRequest = true := by decide
    have hokR : okR 1 ver (flexB 2 ver) fs_DescribeACLsRequest = true := (by decide : ∀ v : Fin 4,okR 1 ((v.val : Nat) : Int) (flexB 2 ((v.val : Nat) : Int)) fs_DescribeACLsRequest = true) ⟨ver,hv3⟩
    have hokT : okTs 1 fs_DescribeACLsRequest = true := by decide
    have hdf : okDf (1 + 1) fs_DescribeACLsRequest = true := by decide
    have hpl : (partS 2 fs_DescribeACLsRequest ver (flexB 2 ver) t).length ≤ 2 ^ 40 := Nat.le_trans (partS_bound ver _ 1 fs_DescribeACLsRequest N t hokM hsz) (Nat.le_trans (Nat.mul_le_mul_left _ (Nat.succ_le_succ hN)) (by decide))
    refine (Write_fn (ok := AnyB) (d := 1) fs_DescribeACLsRequest 2 ver t vs _ w4 (hF.keep (Ext.keeps hE4 _)) hokF ((ht.weaken fun _ _ _ => trivial).keep (Ext.keeps hE04 _)) hsm hpl).mono ?_
    rintro r5 w5 ⟨ho5,hE5⟩
    have hE05 := hE04.trans hE5
    obtain ⟨a5,c5,rfl,_⟩ := ho5.shape
    repeat ((first | refine qA rfl ?_|refine qB ?_|refine qC rfl ?_|refine qD ?_|refine qE ?_|refine qF ?_|refine qG ?_|refine qH ?_);try simp (maxSteps:=1000000)(disch:=(first|omega|(simp only [qI,qJ,qK]<;>omega)|exact qL _)) only [go_sem,↓reduceIte,n0,reduceCtorEq,n1,n2,n3,n4,n5,i0,i1,i2,i3,i4,i5,i6,i7])
    have hrd := (rdP_part ver (flexB 2 ver) 1 fs_DescribeACLsRequest N t hokR hsz).1 []
    rw [List.append_nil] at hrd
    have hgood : GoodP (1 + 1) fs_DescribeACLsRequest (cnP 2 ver (flexB 2 ver) fs_DescribeACLsRequest t) := cnP_good ver _ _ _ _ hdf
    have hnum : okNum fs_DescribeACLsRequest = true := by decide
    have hgoodD : GoodP (1 + 1) fs_DescribeACLsRequest (setDf fs_DescribeACLsRequest (cnP 2 ver (flexB 2 ver) fs_DescribeACLsRequest t)) := setDf_good (d := 1) hnum hdf hgood
    refine (DefDDescribeACLsRequest_fn (d := 1) (ok := AnyB) (ev := ev) ver (by omega) _ _ w5 (Own.bytes (ok := AnyB) ho5 fun _ _ => trivial) (hG.updS hE05 id id) hpl ((cnP 2 ver (flexB 2 ver) fs_DescribeACLsRequest t),some []) hrd.symm (by simp) hgoodD).mono ?_
    rintro _ w6 ⟨⟨ca,rfl,hca⟩,hE6⟩
    simp only at hca
    have hsT : Small 32767 (tlP (1 + 1) fs_DescribeACLsRequest (setDf fs_DescribeACLsRequest (cnP 2 ver (flexB 2 ver) fs_DescribeACLsRequest t))) := tlP_small _ _ _ hdf hgoodD
    have htold : ∀ i (h : i < fs_DescribeACLsRequest.length),fs_DescribeACLsRequest[i].df = 0 ∨ ((tlP (1 + 1) fs_DescribeACLsRequest (setDf fs_DescribeACLsRequest (cnP 2 ver (flexB 2 ver) fs_DescribeACLsRequest t))).at i).n = numS fs_DescribeACLsRequest[i].kind fs_DescribeACLsRequest[i].df := defaults_told (d := 1) hnum
    generalize tlP (1 + 1) fs_DescribeACLsRequest (setDf fs_DescribeACLsRequest (cnP 2 ver (flexB 2 ver) fs_DescribeACLsRequest t)) = Ta at *
    have hE06 := hE05.trans hE6
    obtain ⟨aS,aL,aU,rfl,hna,hSa,hLa,hUa⟩ := hca.inv
    have g1 := hSa.flat
    have g2 := SlR.flat hLa
    have g3 := SlR.flat hUa
    have hE7 : Ext w6 (wr (w6.alloc (.cells #[.int .i64 0,.slice none 0 0,.bool false,.slice none 0 0,.slice none 0 0] 37)) w6.heap.size 0 [.int .i64 Ta.n,aS,.bool Ta.null,aL,aU]) := (Upd.alloc (Upd.refl _ _) _).wr _ _ (.inl (Nat.le_refl _))
    have hb7 : blk (wr (w6.alloc (.cells #[.int .i64 0,.slice none 0 0,.bool false,.slice none 0 0,.slice none 0 0] 37)) w6.heap.size 0 [.int .i64 Ta.n,aS,.bool Ta.null,aL,aU]) w6.heap.size = some (#[.int .i64 Ta.n,aS,.bool Ta.null,aL,aU],37,(0,0)) := by simp (maxSteps:=1000000)(disch:=(first|omega|(simp only [qI,qJ,qK]<;>omega)|exact qL _)) only [go_sem,↓reduceIte,n0,reduceCtorEq,n1,n2,n3,n4,n5,i0,i1,i2,i3,i4,i5,i6,i7]
    try simp (maxSteps:=1000000)(disch:=(first|omega|(simp only [qI,qJ,qK]<;>omega)|exact qL _)) only [go_sem,↓reduceIte,n0,reduceCtorEq,n1,n2,n3,n4,n5,i0,i1,i2,i3,i4,i5,i6,i7,g1,g2,g3]
    repeat ((first | refine qA rfl ?_|refine qB ?_|refine qC rfl ?_|refine qD ?_|refine qE ?_|refine qF ?_|refine qG ?_|refine qH ?_);try simp (maxSteps:=1000000)(disch:=(first|omega|(simp only [qI,qJ,qK]<;>omega)|exact qL _)) only [go_sem,↓reduceIte,n0,reduceCtorEq,n1,n2,n3,n4,n5,i0,i1,i2,i3,i4,i5,i6,i7,g1,g2,g3])
    generalize (wr (w6.alloc (.cells #[.int .i64 0,.slice none 0 0,.bool false,.slice none 0 0,.slice none 0 0] 37)) w6.heap.size 0 [.int .i64 Ta.n,aS,.bool Ta.null,aL,aU]) = w7 at *
    have hE47 := (hE5.trans hE6).trans hE7
    have hE07 := hE04.trans hE47
    have hb47 := hE47.blk_some hb4 id
    have l1 := blk_lt hb7
    have l2 := blk_lt hb47
    refine W.drawR (.take 0 (.take 1 (.take 2 (.take 3 (.take 4 (.only 5 (.only 6 (.take 7 (.only 8 .done))))))))) NoB mixed (by kernel_rfl) ?_
    try simp (maxSteps:=1000000)(disch:=(first|omega|(simp only [qI,qJ,qK]<;>omega)|exact qL _)) only [go_sem,↓reduceIte,n0,reduceCtorEq,n1,n2,n3,n4,n5,i0,i1,i2,i3,i4,i5,i6,i7,fF,g1,g2,g3,hb7,hb47,cellsAt_five,cellsAt_two]
    have hEd : Ext w7 w7.drew := (Upd.refl _ _).drew
    have hE0d := hE07.trans hEd
    have hE4d := hE47.trans hEd
    have hcad := (hca.keep (Ext.keeps hE7 _)).keep (Ext.keeps hEd _)
    generalize w7.drew = w8 at *
    refine (got_fn hsT.lists AnyB _ w8 hcad).mono ?_
    rintro _ w10 ⟨⟨c10,rfl,hc10⟩,hE10⟩
    try refine ⟨hE10,?_⟩
    try simp (maxSteps:=1000000)(disch:=(first|omega|(simp only [qI,qJ,qK]<;>omega)|exact qL _)) only [go_sem,↓reduceIte,n0,reduceCtorEq,n1,n2,n3,n4,n5,i0,i1,i2,i3,i4,i5,i6,i7]
    refine (Defaults_fn fs_DescribeACLsRequest Ta vs _ w10 (((hF.keep (Ext.keeps hE4 _)).keep (Ext.keeps hE4d _)).keep (Ext.keeps hE10 _)) (okF_len hokF) (hc10.weaken fun _ _ _ => trivial) (hsT.mono (by decide)) htold).mono ?_
    rintro _ w11 ⟨rfl,hE11⟩
    try refine ⟨hE10.trans hE11,?_⟩
    try simp (maxSteps:=1000000)(disch:=(first|omega|(simp only [qI,qJ,qK]<;>omega)|exact qL _)) only [go_sem,↓reduceIte,n0,reduceCtorEq,n1,n2,n3,n4,n5,i0,i1,i2,i3,i4,i5,i6,i7]
    try refine ⟨hE10.trans hE11,?_⟩
    repeat ((first | refine qA rfl ?_|refine qB ?_|refine qC rfl ?_|refine qD ?_|refine qE ?_|refine qF ?_|refine qG ?_|refine qH ?_);try simp (maxSteps:=1000000)(disch:=(first|omega|(simp only [qI,qJ,qK]<;>omega)|exact qL _)) only [go_sem,↓reduceIte,n0,reduceCtorEq,n1,n2,n3,n4,n5,i0,i1,i2,i3,i4,i5,i6,i7])
    all_goals exact hE0d.trans (hE10.trans hE11)
end Ms

