/- A part of the proof: see the last text. -/
import Derived.Test.YtfeaoncgnhhjbabDoorC05
import Derived.Test.YtfeaoncgnhhjbabDoorC06
import Derived.Test.YtfeaoncgnhhjbabDoorC08
import Derived.Test.YtfeaoncgnhhjbabDoorC09
import Derived.Test.YtfeaoncgnhhjbabDoorConsumerMemberAssignmentP0
import Derived.Test.YtfeaoncgnhhjbabDoorConsumerMemberAssignmentP1
set_option linter.unusedSimpArgs false
set_option linter.unusedVariables false
namespace Ms
open Go.World renaming size_alloc → qI
open Ms renaming size_wr → qJ,size_drew → qK,not_noB → qL
open W renaming seqR → qA,seq → qB,regR → qC,condK → qD,block → qE,skip → qF,ret → qG,exit → qH
open Nat renaming reduceEqDiff → n0,reduceAdd → n1,reduceMul → n2,reduceSub → n3,reduceLT → n4,reduceLeDiff → n5
open Int renaming reduceEq → i0,reduceLT → i1,reduceLE → i2,reduceNeg → i3,reduceAdd → i4,reduceSub → i5,reduceMul → i6,reduceToNat → i7
set_option maxRecDepth 8000
open Go Go.Proofs Go.Shelf
attribute [local congr] W_congr WPsq_congr WPp_congr optK_congr addrK_congr intK_congr boolK_congr sliceK_congr tupleK_congr funcK_congr Fn_congr rawK_congr takeK_congr stepK_congr convK_congr aggK_congr

def rTQ (t : Tree) : Tree := .mk t.n t.s t.null [(t.at 0),((t.at 1).setNull false)] t.u

theorem nullRQ (v : Int) (x : Tree) : nullS frQ_1 v (x.setNull false) = false ∧ nullS fQ_1 v x = false := by constructor <;> simp [nullS,Tree.setNull,Tree.null,show fQ_1.null = -1 from rfl]
theorem fieldRQ (pt : List Fld → Int → Bool → Tree → List UInt8) (v : Int) (flex : Bool) (x : Tree) : fieldS pt frQ_1 v flex (x.setNull false) = fieldS pt fQ_1 v flex x := by
  unfold fieldS
  rw [(nullRQ v x).1,(nullRQ v x).2]
  rfl
theorem sizedRQ {N : Nat} {t : Tree} (h : Sized N t) : ∃ M,Sized M (rTQ t) := by
  have hn : ∀ (x : Tree) (b : Bool),Sized N x → Sized N (x.setNull b) := fun x b h => by cases h with | mk ns hl he hk hN => exact .mk ns hl he hk hN
  have hu : ∀ x ∈ t.u,x.1 < 4294967296 := by cases h with | mk ns hl he hk hN => exact hk
  refine ⟨_,.mk [N,N] rfl (fun i h1 h2 => ?_) hu (Nat.le_refl _)⟩
  match i,h1,h2 with
  | 0,_,_ => exact h.at 0
  | 1,_,_ => exact hn _ _ (h.at 1)
theorem partRQ (d : Nat) (v : Int) (t : Tree) : partS (d + 1) fsr_Q v false (rTQ t) = partS (d + 1) fs_Q v false t := by
  rw [partS_eq,partS_eq]
  unfold partT
  rw [if_neg (by decide),if_neg (by decide),plainS_L,plainS_L]
  show plainL (partS d) v false (rTQ t) [fQ_0,frQ_1] 0 = plainL (partS d) v false t [fQ_0,fQ_1] 0
  simp only [plainL,Nat.zero_add,Nat.reduceAdd]
  rw [show (rTQ t).at 1 = (t.at 1).setNull false from rfl,fieldRQ]
  rfl
theorem cnRQ (d : Nat) (v : Int) (t : Tree) : cnP (d + 1) v false fsr_Q (rTQ t) = cnP (d + 1) v false fs_Q t := by
  rw [cnP,cnP,if_neg (by decide),if_neg (by decide)]
  congr 1
  show cnL (cnP d v false) (dfP d) v (rTQ t) [fQ_0,frQ_1] 0 = cnL (cnP d v false) (dfP d) v t [fQ_0,fQ_1] 0
  have h : ∀ x,cnF (cnP d v false) v frQ_1 (x.setNull false) = cnF (cnP d v false) v fQ_1 x := fun x => by
    unfold cnF
    rw [(nullRQ v x).1,(nullRQ v x).2]
    rfl
  simp only [cnL,Nat.zero_add,Nat.reduceAdd]
  rw [show (rTQ t).at 1 = (t.at 1).setNull false from rfl,h]
  rfl

set_option maxHeartbeats 4000000 in
theorem law_TellQ {ok : Blocks} {ev : Value} (n : Nat) (hn : n < 256) (t : Tree) (ct : List Value) (w : World) (ht : TreeC ok w t ct) (hsm : Small 4611686018427387903 t) (hG : Glo ev w) (hev : ∃ T p,ev = .iface T p) {N : Nat} (hN : N ≤ 1048576) (hsz : Sized N t) :
    Fn Tryd.prog 3 #[.int .u8 n,.agg ct.toArray] w fun r w' => r = .bool true ∧ Ext w w' := by
  have hn64 := TreeC.n64 ht
  obtain ⟨vS,vL,vU,rfl,hn',hS,hL,hU⟩ := ht.inv
  have f1 := hS.flat
  have f2 := SlR.flat hL
  have f3 := SlR.flat hU
  have hE : Ext w (w.alloc (.cells #[.int .i64 t.n,vS,.bool t.null,vL,vU] 26)) := Upd.alloc (Upd.refl _ _) _
  refine fn_of_W Tryd.func3 rfl Tryd.results3 Tryd.ntmps3 rfl ?_
  repeat ((first | refine qA rfl ?_|apply qB|refine qC rfl ?_|apply qD|apply qE|apply qF|apply qG|apply qH);try simp (maxSteps:=1000000)(disch:=(first|omega|(simp only [qI,qJ,qK]<;>omega)|exact qL _)) only [go_sem,↓reduceIte,n0,reduceCtorEq,n1,n2,n3,n4,n5,i0,i1,i2,i3,i4,i5,i6,i7,f1,f2,f3,cellsAt_five])
  have hb : blk (w.alloc (.cells #[.int .i64 t.n,vS,.bool t.null,vL,vU] 26)) w.heap.size = some (#[.int .i64 t.n,vS,.bool t.null,vL,vU],26,(0,0)) := blk_alloc_new rfl
  generalize (w.alloc (.cells #[.int .i64 t.n,vS,.bool t.null,vL,vU] 26)) = w1 at *
  refine (zzFits1_fn (ok := ok) t _ w1 (ht.keep (hE.keeps _)) hsm).mono ?_
  rintro r2 w2 ⟨⟨bb,rfl⟩,hE2⟩
  cases bb with
  | false =>
    simp (maxSteps:=1000000)(disch:=(first|omega|(simp only [qI,qJ,qK]<;>omega)|exact qL _)) only [go_sem,↓reduceIte,n0,reduceCtorEq,n1,n2,n3,n4,n5,i0,i1,i2,i3,i4,i5,i6,i7]
    repeat ((first | refine qA rfl ?_|apply qB|refine qC rfl ?_|apply qD|apply qE|apply qF|apply qG|apply qH);try simp (maxSteps:=1000000)(disch:=(first|omega|(simp only [qI,qJ,qK]<;>omega)|exact qL _)) only [go_sem,↓reduceIte,n0,reduceCtorEq,n1,n2,n3,n4,n5,i0,i1,i2,i3,i4,i5,i6,i7])
    all_goals exact hE.trans hE2
  | true =>
    simp (maxSteps:=1000000)(disch:=(first|omega|(simp only [qI,qJ,qK]<;>omega)|exact qL _)) only [go_sem,↓reduceIte,n0,reduceCtorEq,n1,n2,n3,n4,n5,i0,i1,i2,i3,i4,i5,i6,i7]
    repeat ((first | refine qA rfl ?_|apply qB|refine qC rfl ?_|apply qD|apply qE|apply qF|apply qG|apply qH);try simp (maxSteps:=1000000)(disch:=(first|omega|(simp only [qI,qJ,qK]<;>omega)|exact qL _)) only [go_sem,↓reduceIte,n0,reduceCtorEq,n1,n2,n3,n4,n5,i0,i1,i2,i3,i4,i5,i6,i7])
    refine (cQ_fn w2).mono ?_
    rintro r3 w3 ⟨⟨vs,rfl,hF0⟩,hE3⟩
    have hF : FldsV AnyB w3 vs fs_Q := hF0.weaken fun _ _ _ => trivial
    have fF := SlR.flat hF
    have ew : IntKind.i64.wrap (n : Int) = n := i64_wrap (by omega)
    have et : ((n : Int).tmod 3) = ((n % 3 : Nat) : Int) := by rw [Int.tmod_eq_emod_of_nonneg (by omega)];omega
    have hE03 : Ext w w3 := (hE.trans hE2).trans hE3
    have hb3 := hE3.blk_some (hE2.blk_some hb id) id
    have hE4 : Ext w3 (wr (w3.alloc (.cells #[.slice none 0 0,.int .i64 0] 30)) w3.heap.size 0 [vs,.int .i64 (-1)]) := (Upd.alloc (Upd.refl _ _) _).wr _ _ (.inl (Nat.le_refl _))
    have hb4 : blk (wr (w3.alloc (.cells #[.slice none 0 0,.int .i64 0] 30)) w3.heap.size 0 [vs,.int .i64 (-1)]) w3.heap.size = some (#[vs,.int .i64 (-1)],30,(0,0)) := by simp (maxSteps:=1000000)(disch:=(first|omega|(simp only [qI,qJ,qK]<;>omega)|exact qL _)) only [go_sem,↓reduceIte,n0,reduceCtorEq,n1,n2,n3,n4,n5,i0,i1,i2,i3,i4,i5,i6,i7]
    simp (maxSteps:=1000000)(disch:=(first|omega|(simp only [qI,qJ,qK]<;>omega)|exact qL _)) only [go_sem,↓reduceIte,n0,reduceCtorEq,n1,n2,n3,n4,n5,i0,i1,i2,i3,i4,i5,i6,i7,fF,ew,et]
    generalize (wr (w3.alloc (.cells #[.slice none 0 0,.int .i64 0] 30)) w3.heap.size 0 [vs,.int .i64 (-1)]) = w4 at *
    have hb34 := hE4.blk_some hb3 id
    have hv3 : n % 3 < 3 := Nat.mod_lt _ (by omega)
    generalize n % 3 = ver at *
    have hs1 := blk_lt hb4
    have hs2 := blk_lt hb34
    repeat ((first | refine qA rfl ?_|apply qB|refine qC rfl ?_|apply qD|apply qE|apply qF|apply qG|apply qH);try simp (maxSteps:=1000000)(disch:=(first|omega|(simp only [qI,qJ,qK]<;>omega)|exact qL _)) only [go_sem,↓reduceIte,n0,reduceCtorEq,n1,n2,n3,n4,n5,i0,i1,i2,i3,i4,i5,i6,i7,hb34,hb4,cellsAt_five,cellsAt_two])
    have hE04 : Ext w w4 := hE03.trans hE4
    have hokF : okF 2 fs_Q = true := by decide
    have hokM : okM 2 fs_Q = true := by decide
    have hokR : okR 2 ver false fs_Q = true := (by decide : ∀ v : Fin 3,okR 2 ((v.val : Nat) : Int) false fs_Q = true) ⟨ver,hv3⟩
    have hokRR : okR 2 ver false fsr_Q = true := (by decide : ∀ v : Fin 3,okR 2 ((v.val : Nat) : Int) false fsr_Q = true) ⟨ver,hv3⟩
    have hokT : okTs 2 fs_Q = true := by decide
    have hdf : okDf (1 + 2) fs_Q = true := by decide
    have hfb : flexB (-1) (ver : Int) = false := by simp only [flexB,Bool.and_eq_false_iff,decide_eq_false_iff_not];omega
    have hpl : (partS 3 fs_Q ver false t).length ≤ 2 ^ 39 := Nat.le_trans (partS_bound ver _ 2 fs_Q N t hokM hsz) (Nat.le_trans (Nat.mul_le_mul_left _ (Nat.succ_le_succ hN)) (by decide))
    have hpl2 : (partS (2 + 1) fs_Q ver false t).length ≤ 2 ^ 39 := hpl
    refine (Kept_fn (ok := AnyB) (d := 2) fs_Q (-1) ver t vs _ w4 (hF.keep (Ext.keeps hE4 _)) hokF ((ht.weaken fun _ _ _ => trivial).keep (Ext.keeps hE04 _)) hsm (by rw [hfb];omega)).mono ?_
    rw [hfb]
    rintro r5 w5 ⟨ho5,hE5⟩
    have hE05 := hE04.trans hE5
    obtain ⟨a5,c5,rfl,_⟩ := ho5.shape
    repeat ((first | refine qA rfl ?_|apply qB|refine qC rfl ?_|apply qD|apply qE|apply qF|apply qG|apply qH);try simp (maxSteps:=1000000)(disch:=(first|omega|(simp only [qI,qJ,qK]<;>omega)|exact qL _)) only [go_sem,↓reduceIte,n0,reduceCtorEq,n1,n2,n3,n4,n5,i0,i1,i2,i3,i4,i5,i6,i7])
    obtain ⟨M,hM⟩ := sizedRQ hsz
    have hrd : rdP 3 ver false fsr_Q (some (partS 3 fs_Q ver false t)) = ((cnP 3 ver false fs_Q t),some []) := by
      have h := (rdP_part ver false 2 fsr_Q M (rTQ t) hokRR hM).1 []
      rw [List.append_nil,partRQ,cnRQ] at h;exact h
    have hgood : GoodP (1 + 2) fsr_Q (cnP 3 ver false fs_Q t) := cnP_good ver false _ fs_Q t hdf
    have hK := rd_kept ver (partS 3 fs_Q ver false t) (i16_wrap (by omega))
    have hl2 := fixedS_len ver 2
    have hvn : verN (ver : Int) = ver := by unfold verN;rw [if_neg (by omega)]
    have hfin : (((cnP 3 ver false fs_Q t),some []) : Tree × St) = rdP 3 (verN ver) (flexB (-1) (verN ver)) fsr_Q (rdInt .i16 2 (some (fixedS ver 2 ++ (partS 3 fs_Q ver false t)))).2 := by rw [hK,hvn,hfb];exact hrd.symm
    refine (TellDQ_fn (d := 1) (ok := AnyB) (ev := ev) _ _ w5 (Own.bytes (ok := AnyB) ho5 fun _ _ => trivial) (hG.updS hE05 id id) hev (by rw [List.length_append];omega) ver (by rw [hK]) ((cnP 3 ver false fs_Q t),some []) hfin hgood).mono ?_
    rintro _ w6 ⟨⟨ca,Ta,rfl,hca,hTa⟩,hE6⟩
    obtain rfl := hTa rfl
    have htl : (tlPF (1 + 2) fsr_Q (cnP 3 ver false fs_Q t)) = tlP (1 + 2) fs_Q (cnP 3 ver false fs_Q t) := tlPF_cn ver 3 fs_Q t
    simp only at hca
    rw [htl] at hca
    have hsT : Small 32767 ((tlP (1 + 2) fs_Q (cnP 3 ver false fs_Q t)).setN ver) := (tlP_small _ _ _ hdf hgood).setN _
    have htold : ToldP 3 ver false fs_Q t ((tlP (1 + 2) fs_Q (cnP 3 ver false fs_Q t)).setN ver) := told_cn ver false 2 fs_Q t hokR hokT hn64
    have hTn : ((tlP (1 + 2) fs_Q (cnP 3 ver false fs_Q t)).setN ver).n = ver := rfl
    generalize (tlP (1 + 2) fs_Q (cnP 3 ver false fs_Q t)).setN ver = Ta at *
    have hE06 := hE05.trans hE6
    obtain ⟨aS,aL,aU,rfl,hna,hSa,hLa,hUa⟩ := hca.inv
    have g1 := hSa.flat
    have g2 := SlR.flat hLa
    have g3 := SlR.flat hUa
    have hE7 : Ext w6 (wr (w6.alloc (.cells qZ5 35)) w6.heap.size 0 [.int .i64 Ta.n,aS,.bool Ta.null,aL,aU]) := (Upd.alloc (Upd.refl _ _) _).wr _ _ (.inl (Nat.le_refl _))
    have hb7 : blk (wr (w6.alloc (.cells qZ5 35)) w6.heap.size 0 [.int .i64 Ta.n,aS,.bool Ta.null,aL,aU]) w6.heap.size = some (#[.int .i64 Ta.n,aS,.bool Ta.null,aL,aU],35,(0,0)) := by simp (maxSteps:=1000000)(disch:=(first|omega|(simp only [qI,qJ,qK]<;>omega)|exact qL _)) only [go_sem,↓reduceIte,n0,reduceCtorEq,n1,n2,n3,n4,n5,i0,i1,i2,i3,i4,i5,i6,i7]
    repeat (first|simp (maxSteps:=1000000)(disch:=(first|omega|(simp only [qI,qJ,qK]<;>omega)|exact qL _)) only [go_sem,↓reduceIte,n0,reduceCtorEq,n1,n2,n3,n4,n5,i0,i1,i2,i3,i4,i5,i6,i7,g1,g2,g3,Option.isSome_some]|refine qA rfl ?_|apply qB|refine qC rfl ?_|apply qD|apply qE|apply qF|apply qG|apply qH)
    generalize (wr (w6.alloc (.cells qZ5 35)) w6.heap.size 0 [.int .i64 Ta.n,aS,.bool Ta.null,aL,aU]) = w7 at *
    have hE47 := (hE5.trans hE6).trans hE7
    have hE07 := hE04.trans hE47
    have hb47 := hE47.blk_some hb4 id
    have hb37 := hE47.blk_some hb34 id
    have l1 := blk_lt hb7
    have l2 := blk_lt hb47
    have l3 := blk_lt hb37
    refine W.drawR (.take 0 (.take 1 (.take 2 (.take 3 (.take 4 (.take 5 (.take 6 (.take 7 (.take 8 (.take 9 (.take 10 (.take 11 (.take 12 (.take 14 (.take 15 (.only 13 (.only 16 (.only 17 (.take 18 (.only 19 .done)))))))))))))))))))) NoB mixed (by kernel_rfl) ?_
    try simp (maxSteps:=1000000)(disch:=(first|omega|(simp only [qI,qJ,qK]<;>omega)|exact qL _)) only [go_sem,↓reduceIte,n0,reduceCtorEq,n1,n2,n3,n4,n5,i0,i1,i2,i3,i4,i5,i6,i7,fF,f1,f2,f3,g1,g2,g3,hb7,hb47,hb37,cellsAt_five,cellsAt_two]
    have hEd : Ext w7 w7.drew := (Upd.refl _ _).drew
    have hE0d := hE07.trans hEd
    have hE4d := hE47.trans hEd
    have hcad := (hca.keep (Ext.keeps hE7 _)).keep (Ext.keeps hEd _)
    generalize w7.drew = w8 at *
    refine (Flexible_fn vs (-1) ver fF w8).mono ?_
    rintro _ w9 ⟨rfl,hE9⟩
    refine ⟨hE9,?_⟩
    rw [hfb]
    try simp (maxSteps:=1000000)(disch:=(first|omega|(simp only [qI,qJ,qK]<;>omega)|exact qL _)) only [go_sem,↓reduceIte,n0,reduceCtorEq,n1,n2,n3,n4,n5,i0,i1,i2,i3,i4,i5,i6,i7]
    refine (got_fn hsT.lists AnyB _ w9 (hcad.keep (Ext.keeps hE9 _))).mono ?_
    rintro _ w10 ⟨⟨c10,rfl,hc10⟩,hE10⟩
    have hE810 := hE9.trans hE10
    refine ⟨hE810,?_⟩
    try simp (maxSteps:=1000000)(disch:=(first|omega|(simp only [qI,qJ,qK]<;>omega)|exact qL _)) only [go_sem,↓reduceIte,n0,reduceCtorEq,n1,n2,n3,n4,n5,i0,i1,i2,i3,i4,i5,i6,i7]
    refine (Told_fn ver false 2 fs_Q t Ta vs _ _ w10 (((hF.keep (Ext.keeps hE4 _)).keep (Ext.keeps hE4d _)).keep (Ext.keeps hE810 _)) hokF (((ht.weaken (ok' := AnyB) fun _ _ _ => trivial).keep (Ext.keeps hE0d _)).keep (Ext.keeps hE810 _)) (hc10.weaken fun _ _ _ => trivial) hsm (hsT.mono (by decide)) htold).mono ?_
    rintro _ w11 ⟨rfl,hE11⟩
    refine ⟨hE810.trans hE11,?_⟩
    try simp (maxSteps:=1000000)(disch:=(first|omega|(simp only [qI,qJ,qK]<;>omega)|exact qL _)) only [go_sem,↓reduceIte,n0,reduceCtorEq,n1,n2,n3,n4,n5,i0,i1,i2,i3,i4,i5,i6,i7]
    try refine ⟨hE810.trans hE11,?_⟩
    repeat ((first | refine qA rfl ?_|apply qB|refine qC rfl ?_|apply qD|apply qE|apply qF|apply qG|apply qH);try simp (maxSteps:=1000000)(disch:=(first|omega|(simp only [qI,qJ,qK]<;>omega)|exact qL _)) only [go_sem,↓reduceIte,n0,reduceCtorEq,n1,n2,n3,n4,n5,i0,i1,i2,i3,i4,i5,i6,i7])
    all_goals exact hE0d.trans (hE810.trans hE11)
end Ms

