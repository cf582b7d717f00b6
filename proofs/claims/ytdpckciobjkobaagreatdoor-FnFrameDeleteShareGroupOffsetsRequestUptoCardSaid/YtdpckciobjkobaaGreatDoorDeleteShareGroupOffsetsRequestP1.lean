/- A part of the proof: see the last text. -/
import Derived.Test.YtdpckciobjkobaaGreatDoorC06
import Derived.Test.YtdpckciobjkobaaGreatDoorC07
import Derived.Test.YtdpckciobjkobaaGreatDoorC11
import Derived.Test.YtdpckciobjkobaaGreatDoorDeleteShareGroupOffsetsRequestP0
set_option linter.unusedSimpArgs false
set_option linter.unusedVariables false
namespace Ms
open Go.World renaming size_alloc → qI
open Ms renaming size_wr → qJ,size_drew → qK,not_noB → qL
open W renaming seqR → qA,seq → qB,regR → qC,condK → qD,block → qE,skip → qF,ret → qG,exit → qH
open Nat renaming reduceEqDiff → n0,reduceAdd → n1,reduceMul → n2,reduceSub → n3,reduceLT → n4,reduceLeDiff → n5
open Int renaming reduceEq → i0,reduceLT → i1,reduceLE → i2,reduceNeg → i3,reduceAdd → i4,reduceSub → i5,reduceMul → i6,reduceToNat → i7
set_option maxRecDepth 8000
open Go Go.Proofs Go.Shelf
attribute [local congr] W_congr WPsq_congr WPp_congr optK_congr addrK_congr intK_congr boolK_congr sliceK_congr tupleK_congr funcK_congr Fn_congr rawK_congr takeK_congr stepK_congr convK_congr aggK_congr

set_option maxHeartbeats 4000000 in
theorem law_FrameDeleteShareGroupOffsetsRequest {ok : Blocks} {ev : Value} (n : Nat) (hn : n < 256) (has : Bool) (id : List UInt8) (number : Int) (hnum : -2147483648 ≤ number ∧ number < 2147483648) (t : Tree) (ct : List Value) (w : World) (ht : TreeC ok w t ct) (hsm : Small 4611686018427387903 t) (hG : Glo ev w) {N : Nat} (hN : N ≤ 1048576) (hsz : Sized N t) :
    Fn Tryz.prog 10 #[.int .u8 n,.agg #[.bool has,strV id],.int .i32 number,.agg ct.toArray] w fun r w' => r = .bool true ∧ Ext w w' := by
  obtain ⟨vS,vL,vU,rfl,hn',hS,hL,hU⟩ := ht.inv
  have f1 := hS.flat
  have f2 := SlR.flat hL
  have f3 := SlR.flat hU
  have hE : Ext w ((w.alloc (.cells #[.bool has,strV id] 23)).alloc (.cells #[.int .i64 t.n,vS,.bool t.null,vL,vU] 28)) := Upd.alloc (Upd.alloc (Upd.refl _ _) _) _
  refine fn_of_W Tryz.func10 rfl Tryz.results10 Tryz.ntmps10 rfl ?_
  repeat ((first | refine qA rfl ?_|refine qB ?_|refine qC rfl ?_|refine qD ?_|refine qE ?_|refine qF ?_|refine qG ?_|refine qH ?_);try simp (maxSteps:=1000000)(disch:=(first|omega|(simp only [qI,qJ,qK]<;>omega)|exact qL _)) only [go_sem,↓reduceIte,n0,reduceCtorEq,n1,n2,n3,n4,n5,i0,i1,i2,i3,i4,i5,i6,i7,f1,f2,f3,cellsAt_five,cellsAt_two,cells_strV,flat_strV])
  have hi1 : blk ((w.alloc (.cells #[.bool has,strV id] 23)).alloc (.cells #[.int .i64 t.n,vS,.bool t.null,vL,vU] 28)) w.heap.size = some (#[.bool has,strV id],23,(0,0)) := by simp (maxSteps:=1000000)(disch:=(first|omega|(simp only [qI,qJ,qK]<;>omega)|exact qL _)) only [go_sem,↓reduceIte,n0,reduceCtorEq,n1,n2,n3,n4,n5,i0,i1,i2,i3,i4,i5,i6,i7]
  have hb : blk ((w.alloc (.cells #[.bool has,strV id] 23)).alloc (.cells #[.int .i64 t.n,vS,.bool t.null,vL,vU] 28)) (w.heap.size + 1) = some (#[.int .i64 t.n,vS,.bool t.null,vL,vU],28,(0,0)) := by simp (maxSteps:=1000000)(disch:=(first|omega|(simp only [qI,qJ,qK]<;>omega)|exact qL _)) only [go_sem,↓reduceIte,n0,reduceCtorEq,n1,n2,n3,n4,n5,i0,i1,i2,i3,i4,i5,i6,i7]
  generalize ((w.alloc (.cells #[.bool has,strV id] 23)).alloc (.cells #[.int .i64 t.n,vS,.bool t.null,vL,vU] 28)) = w1 at *
  refine (zzFits4_fn has id w1).mono ?_
  rintro r2 w2 ⟨⟨b4,rfl⟩,hE2⟩
  have hE02 := hE.trans hE2
  have hi2 := hE2.blk_some hi1 _root_.id
  have hb2 := hE2.blk_some hb _root_.id
  cases b4 with
  | false =>
    try simp (maxSteps:=1000000)(disch:=(first|omega|(simp only [qI,qJ,qK]<;>omega)|exact qL _)) only [go_sem,↓reduceIte,n0,reduceCtorEq,n1,n2,n3,n4,n5,i0,i1,i2,i3,i4,i5,i6,i7]
    repeat ((first | refine qA rfl ?_|refine qB ?_|refine qC rfl ?_|refine qD ?_|refine qE ?_|refine qF ?_|refine qG ?_|refine qH ?_);try simp (maxSteps:=1000000)(disch:=(first|omega|(simp only [qI,qJ,qK]<;>omega)|exact qL _)) only [go_sem,↓reduceIte,n0,reduceCtorEq,n1,n2,n3,n4,n5,i0,i1,i2,i3,i4,i5,i6,i7])
    all_goals exact hE02
  | true =>
    try simp (maxSteps:=1000000)(disch:=(first|omega|(simp only [qI,qJ,qK]<;>omega)|exact qL _)) only [go_sem,↓reduceIte,n0,reduceCtorEq,n1,n2,n3,n4,n5,i0,i1,i2,i3,i4,i5,i6,i7,hb2,cellsAt_five]
    refine (zzFits1_fn (ok := ok) t _ w2 (ht.keep (Ext.keeps hE02 _)) hsm).mono ?_
    rintro r3 w3 ⟨⟨bb,rfl⟩,hE3⟩
    have hE03 := hE02.trans hE3
    have hi3 := hE3.blk_some hi2 _root_.id
    have hb3 := hE3.blk_some hb2 _root_.id
    cases bb with
    | false =>
      try simp (maxSteps:=1000000)(disch:=(first|omega|(simp only [qI,qJ,qK]<;>omega)|exact qL _)) only [go_sem,↓reduceIte,n0,reduceCtorEq,n1,n2,n3,n4,n5,i0,i1,i2,i3,i4,i5,i6,i7]
      repeat ((first | refine qA rfl ?_|refine qB ?_|refine qC rfl ?_|refine qD ?_|refine qE ?_|refine qF ?_|refine qG ?_|refine qH ?_);try simp (maxSteps:=1000000)(disch:=(first|omega|(simp only [qI,qJ,qK]<;>omega)|exact qL _)) only [go_sem,↓reduceIte,n0,reduceCtorEq,n1,n2,n3,n4,n5,i0,i1,i2,i3,i4,i5,i6,i7])
      all_goals exact hE03
    | true =>
      try simp (maxSteps:=1000000)(disch:=(first|omega|(simp only [qI,qJ,qK]<;>omega)|exact qL _)) only [go_sem,↓reduceIte,n0,reduceCtorEq,n1,n2,n3,n4,n5,i0,i1,i2,i3,i4,i5,i6,i7]
      repeat ((first | refine qA rfl ?_|refine qB ?_|refine qC rfl ?_|refine qD ?_|refine qE ?_|refine qF ?_|refine qG ?_|refine qH ?_);try simp (maxSteps:=1000000)(disch:=(first|omega|(simp only [qI,qJ,qK]<;>omega)|exact qL _)) only [go_sem,↓reduceIte,n0,reduceCtorEq,n1,n2,n3,n4,n5,i0,i1,i2,i3,i4,i5,i6,i7])
      refine (MaxDeleteShareGroupOffsetsRequest_fn w3).mono ?_
      rintro _ w3m ⟨rfl,hE3m⟩
      repeat ((first | refine qA rfl ?_|refine qB ?_|refine qC rfl ?_|refine qD ?_|refine qE ?_|refine qF ?_|refine qG ?_|refine qH ?_);try simp (maxSteps:=1000000)(disch:=(first|omega|(simp only [qI,qJ,qK]<;>omega)|exact qL _)) only [go_sem,↓reduceIte,n0,reduceCtorEq,n1,n2,n3,n4,n5,i0,i1,i2,i3,i4,i5,i6,i7])
      refine (cDeleteShareGroupOffsetsRequest_fn w3m).mono ?_
      rintro r4 w4 ⟨⟨vs,rfl,hF0⟩,hE4⟩
      have hF : FldsV AnyB w4 vs fs_DeleteShareGroupOffsetsRequest := hF0.weaken fun _ _ _ => trivial
      have fF := SlR.flat hF
      try simp (maxSteps:=1000000)(disch:=(first|omega|(simp only [qI,qJ,qK]<;>omega)|exact qL _)) only [go_sem,↓reduceIte,n0,reduceCtorEq,n1,n2,n3,n4,n5,i0,i1,i2,i3,i4,i5,i6,i7]
      refine (version_fn w4 n 0 hn (by decide)).mono ?_
      rintro _ w4v ⟨rfl,rfl⟩
      have hE04 : Ext w w4v := (hE03.trans hE3m).trans hE4
      have hi4 := hE4.blk_some (hE3m.blk_some hi3 _root_.id) _root_.id
      have hb4 := hE4.blk_some (hE3m.blk_some hb3 _root_.id) _root_.id
      have hE5 : Ext w4v (wr (w4v.alloc (.cells #[.slice none 0 0,.int .i64 0] 34)) w4v.heap.size 0 [vs,.int .i64 0]) := (Upd.alloc (Upd.refl _ _) _).wr _ _ (.inl (Nat.le_refl _))
      have hm5 : blk (wr (w4v.alloc (.cells #[.slice none 0 0,.int .i64 0] 34)) w4v.heap.size 0 [vs,.int .i64 0]) w4v.heap.size = some (#[vs,.int .i64 0],34,(0,0)) := by simp (maxSteps:=1000000)(disch:=(first|omega|(simp only [qI,qJ,qK]<;>omega)|exact qL _)) only [go_sem,↓reduceIte,n0,reduceCtorEq,n1,n2,n3,n4,n5,i0,i1,i2,i3,i4,i5,i6,i7]
      try simp (maxSteps:=1000000)(disch:=(first|omega|(simp only [qI,qJ,qK]<;>omega)|exact qL _)) only [go_sem,↓reduceIte,n0,reduceCtorEq,n1,n2,n3,n4,n5,i0,i1,i2,i3,i4,i5,i6,i7,fF]
      generalize (wr (w4v.alloc (.cells #[.slice none 0 0,.int .i64 0] 34)) w4v.heap.size 0 [vs,.int .i64 0]) = w5 at *
      have hi5 := hE5.blk_some hi4 _root_.id
      have hb5 := hE5.blk_some hb4 _root_.id
      have hv3 : n % 1 < 1 := Nat.mod_lt _ (by omega)
      generalize n % 1 = ver at *
      have hE05 : Ext w w5 := hE04.trans hE5
      skip
      by_cases hidb : (32767 : Int) < (id.length : Int)
      · repeat ((first | refine qA rfl ?_|refine qB ?_|refine qC rfl ?_|refine qD ?_|refine qE ?_|refine qF ?_|refine qG ?_|refine qH ?_);try simp (maxSteps:=1000000)(disch:=(first|omega|(simp only [qI,qJ,qK]<;>omega)|exact qL _)) only [go_sem,↓reduceIte,n0,reduceCtorEq,n1,n2,n3,n4,n5,i0,i1,i2,i3,i4,i5,i6,i7,hi5,lenV_strV,hidb])
        all_goals exact hE05
      repeat ((first | refine qA rfl ?_|refine qB ?_|refine qC rfl ?_|refine qD ?_|refine qE ?_|refine qF ?_|refine qG ?_|refine qH ?_);try simp (maxSteps:=1000000)(disch:=(first|omega|(simp only [qI,qJ,qK]<;>omega)|exact qL _)) only [go_sem,↓reduceIte,n0,reduceCtorEq,n1,n2,n3,n4,n5,i0,i1,i2,i3,i4,i5,i6,i7,hi5,lenV_strV,hidb,hb5,hm5,cellsAt_five,cellsAt_two])
      have hokF : okF 2 fs_DeleteShareGroupOffsetsRequest = true := by decide
      have hokM : okM 2 fs_DeleteShareGroupOffsetsRequest = true := by decide
      have hokR : okR 2 ver (flexB 0 ver) fs_DeleteShareGroupOffsetsRequest = true := (by decide : ∀ v : Fin 1,okR 2 ((v.val : Nat) : Int) (flexB 0 ((v.val : Nat) : Int)) fs_DeleteShareGroupOffsetsRequest = true) ⟨ver,hv3⟩
      have hpl : (partS 3 fs_DeleteShareGroupOffsetsRequest ver (flexB 0 ver) t).length ≤ 2 ^ 40 := Nat.le_trans (partS_bound ver _ 2 fs_DeleteShareGroupOffsetsRequest N t hokM hsz) (Nat.le_trans (Nat.mul_le_mul_left _ (Nat.succ_le_succ hN)) (by decide))
      refine (Write_fn (ok := AnyB) (d := 2) fs_DeleteShareGroupOffsetsRequest 0 ver t vs _ w5 (hF.keep (Ext.keeps hE5 _)) hokF ((ht.weaken fun _ _ _ => trivial).keep (Ext.keeps hE05 _)) hsm hpl).mono ?_
      rintro r6 w6 ⟨ho6,hE6⟩
      have hE06 := hE05.trans hE6
      have hi6 := hE6.blk_some hi5 _root_.id
      obtain ⟨a6,c6,rfl,_⟩ := ho6.shape
      repeat ((first | refine qA rfl ?_|refine qB ?_|refine qC rfl ?_|refine qD ?_|refine qE ?_|refine qF ?_|refine qG ?_|refine qH ?_);try simp (maxSteps:=1000000)(disch:=(first|omega|(simp only [qI,qJ,qK]<;>omega)|exact qL _)) only [go_sem,↓reduceIte,n0,reduceCtorEq,n1,n2,n3,n4,n5,i0,i1,i2,i3,i4,i5,i6,i7,hi6,cellsAt_two])
      have hrd := (rdP_part ver (flexB 0 ver) 2 fs_DeleteShareGroupOffsetsRequest N t hokR hsz).1 []
      rw [List.append_nil] at hrd
      refine (FrameDeleteShareGroupOffsetsRequest_fn (d := 1) (ok := AnyB) (ev := ev) ver (by omega) t has id number _ w6 (Own.bytes (ok := AnyB) ho6 fun _ _ => trivial) (hG.updS hE06 _root_.id _root_.id) hrd (partS_cn ver (flexB 0 ver) 2 fs_DeleteShareGroupOffsetsRequest t hokR) hpl (by omega) (by omega)).mono ?_
      rintro _ w7 ⟨⟨v7,rfl,ho7⟩,hE7⟩
      have hE07 := hE06.trans hE7
      obtain ⟨a7,c7,rfl,_⟩ := ho7.shape
      have hi7 := hE7.blk_some hi6 _root_.id
      have hm7 := (hE6.trans hE7).blk_some hm5 _root_.id
      try simp (maxSteps:=1000000)(disch:=(first|omega|(simp only [qI,qJ,qK]<;>omega)|exact qL _)) only [go_sem,↓reduceIte,n0,reduceCtorEq,n1,n2,n3,n4,n5,i0,i1,i2,i3,i4,i5,i6,i7]
      repeat ((first | refine qA rfl ?_|refine qB ?_|refine qC rfl ?_|refine qD ?_|refine qE ?_|refine qF ?_|refine qG ?_|refine qH ?_);try simp (maxSteps:=1000000)(disch:=(first|omega|(simp only [qI,qJ,qK]<;>omega)|exact qL _)) only [go_sem,↓reduceIte,n0,reduceCtorEq,n1,n2,n3,n4,n5,i0,i1,i2,i3,i4,i5,i6,i7])
      have l1 := blk_lt hi7
      have l2 := blk_lt hm7
      refine W.drawR (.take 0 (.take 1 (.take 2 (.take 3 (.take 4 (.take 5 (.take 6 (.take 7 (.take 8 (.take 10 (.take 11 (.take 13 (.two 9 (.only 12 (.only 14 (.only 15 (.take 16 (.only 17 .done))))) 12 (.only 9 (.only 14 (.only 15 (.take 16 (.only 17 .done)))))))))))))))))) NoB mixed (by kernel_rfl) ?_
      have hEd : Ext w7 w7.drew := (Upd.refl _ _).drew
      have hE0d := hE07.trans hEd
      have hB6 := ((Own.bytes (ok := AnyB) ho6 fun _ _ => trivial).keep (Ext.keeps hE7 _)).keep (Ext.keeps hEd _)
      have hB7 := (Own.bytes (ok := AnyB) ho7 fun _ _ => trivial).keep (Ext.keeps hEd _)
      try simp (maxSteps:=1000000)(disch:=(first|omega|(simp only [qI,qJ,qK]<;>omega)|exact qL _)) only [go_sem,↓reduceIte,n0,reduceCtorEq,n1,n2,n3,n4,n5,i0,i1,i2,i3,i4,i5,i6,i7,hi7,hm7,fF,cellsAt_two,cells_strV,flat_strV,convK_strV]
      generalize w7.drew = w7d at *
      have hfl : (frameS 92 ver number (!has) id (flexB 0 ver) (partS 3 fs_DeleteShareGroupOffsetsRequest ver (flexB 0 ver) t)).length ≤ 2 ^ 42 := by
        have := frameB_len 92 ver number (!has) id (flexB 0 ver) (partS 3 fs_DeleteShareGroupOffsetsRequest ver (flexB 0 ver) t) (by omega)
        simp only [frameS,List.length_append,fixedS_len]
        omega
      have hsame : decide ((frameS 92 ver number (!has) id (flexB 0 ver) (partS 3 fs_DeleteShareGroupOffsetsRequest ver (flexB 0 ver) t)) = (frameS 92 ver number (!has) id (flexB 0 ver) (partS 3 fs_DeleteShareGroupOffsetsRequest ver (flexB 0 ver) t))) = true := decide_eq_true rfl
      refine ⟨?_,?_⟩
      · skip
        refine wp_octets (S := 9) (T := 24) (E := 5) (s := id) (by kernel_rfl) (by kernel_rfl) (by kernel_rfl) (by first | rfl | simp (maxSteps:=1000000)(disch:=(first|omega|(simp only [qI,qJ,qK]<;>omega)|exact qL _)) only [go_sem,↓reduceIte,n0,reduceCtorEq,n1,n2,n3,n4,n5,i0,i1,i2,i3,i4,i5,i6,i7]) ?_
        intro a8 k8 w8 hB8 hE8
        refine ⟨hE8,?_⟩
        try simp (maxSteps:=1000000)(disch:=(first|omega|(simp only [qI,qJ,qK]<;>omega)|exact qL _)) only [go_sem,↓reduceIte,n0,reduceCtorEq,n1,n2,n3,n4,n5,i0,i1,i2,i3,i4,i5,i6,i7]
        refine (Flexible_fn vs 0 ver fF w8).mono ?_
        rintro _ w9 ⟨rfl,hE9⟩
        have hE89 := hE8.trans hE9
        have hI := (hB8.weaken (ok' := AnyB) fun _ _ _ => trivial).keep (Ext.keeps hE9 _)
        refine ⟨hE89,?_⟩
        try simp (maxSteps:=1000000)(disch:=(first|omega|(simp only [qI,qJ,qK]<;>omega)|exact qL _)) only [go_sem,↓reduceIte,n0,reduceCtorEq,n1,n2,n3,n4,n5,i0,i1,i2,i3,i4,i5,i6,i7]
        refine (Frame_fn 92 ver number hnum has (flexB 0 ver) id (partS 3 fs_DeleteShareGroupOffsetsRequest ver (flexB 0 ver) t) _ _ w9 hI (hB6.keep (Ext.keeps hE89 _)) (by omega) hpl).mono ?_
        rintro r10 w10 ⟨ho10,hE10⟩
        have hE810 := hE89.trans hE10
        refine ⟨hE810,?_⟩
        obtain ⟨a10,c10,rfl,_⟩ := ho10.shape
        try simp (maxSteps:=1000000)(disch:=(first|omega|(simp only [qI,qJ,qK]<;>omega)|exact qL _)) only [go_sem,↓reduceIte,n0,reduceCtorEq,n1,n2,n3,n4,n5,i0,i1,i2,i3,i4,i5,i6,i7]
        refine (Same_fn (ok := AnyB) (frameS 92 ver number (!has) id (flexB 0 ver) (partS 3 fs_DeleteShareGroupOffsetsRequest ver (flexB 0 ver) t)) (frameS 92 ver number (!has) id (flexB 0 ver) (partS 3 fs_DeleteShareGroupOffsetsRequest ver (flexB 0 ver) t)) _ _ w10 (hB7.keep (Ext.keeps hE810 _)) (Own.bytes ho10 fun _ _ => trivial) (by omega)).mono ?_
        rintro _ w11 ⟨rfl,hE11⟩
        refine ⟨hE810.trans hE11,?_⟩
        try simp (maxSteps:=1000000)(disch:=(first|omega|(simp only [qI,qJ,qK]<;>omega)|exact qL _)) only [go_sem,↓reduceIte,n0,reduceCtorEq,n1,n2,n3,n4,n5,i0,i1,i2,i3,i4,i5,i6,i7,hsame]
        try refine ⟨hE810.trans hE11,?_⟩
        repeat ((first | refine qA rfl ?_|refine qB ?_|refine qC rfl ?_|refine qD ?_|refine qE ?_|refine qF ?_|refine qG ?_|refine qH ?_);try simp (maxSteps:=1000000)(disch:=(first|omega|(simp only [qI,qJ,qK]<;>omega)|exact qL _)) only [go_sem,↓reduceIte,n0,reduceCtorEq,n1,n2,n3,n4,n5,i0,i1,i2,i3,i4,i5,i6,i7,hsame])
        all_goals exact hE0d.trans (hE810.trans hE11)
      · skip
        refine (Flexible_fn vs 0 ver fF w7d).mono ?_
        rintro _ w8 ⟨rfl,hE8⟩
        refine ⟨hE8,?_⟩
        try simp (maxSteps:=1000000)(disch:=(first|omega|(simp only [qI,qJ,qK]<;>omega)|exact qL _)) only [go_sem,↓reduceIte,n0,reduceCtorEq,n1,n2,n3,n4,n5,i0,i1,i2,i3,i4,i5,i6,i7,convK_strV]
        refine wp_octets (S := 9) (T := 24) (E := 5) (s := id) (by kernel_rfl) (by kernel_rfl) (by kernel_rfl) (by first | rfl | simp (maxSteps:=1000000)(disch:=(first|omega|(simp only [qI,qJ,qK]<;>omega)|exact qL _)) only [go_sem,↓reduceIte,n0,reduceCtorEq,n1,n2,n3,n4,n5,i0,i1,i2,i3,i4,i5,i6,i7]) ?_
        intro a8 k8 w9 hB8 hE9
        have hE89 := hE8.trans hE9
        have hI := hB8.weaken (ok' := AnyB) fun _ _ _ => trivial
        refine ⟨hE89,?_⟩
        try simp (maxSteps:=1000000)(disch:=(first|omega|(simp only [qI,qJ,qK]<;>omega)|exact qL _)) only [go_sem,↓reduceIte,n0,reduceCtorEq,n1,n2,n3,n4,n5,i0,i1,i2,i3,i4,i5,i6,i7]
        refine (Frame_fn 92 ver number hnum has (flexB 0 ver) id (partS 3 fs_DeleteShareGroupOffsetsRequest ver (flexB 0 ver) t) _ _ w9 hI (hB6.keep (Ext.keeps hE89 _)) (by omega) hpl).mono ?_
        rintro r10 w10 ⟨ho10,hE10⟩
        have hE810 := hE89.trans hE10
        refine ⟨hE810,?_⟩
        obtain ⟨a10,c10,rfl,_⟩ := ho10.shape
        try simp (maxSteps:=1000000)(disch:=(first|omega|(simp only [qI,qJ,qK]<;>omega)|exact qL _)) only [go_sem,↓reduceIte,n0,reduceCtorEq,n1,n2,n3,n4,n5,i0,i1,i2,i3,i4,i5,i6,i7]
        refine (Same_fn (ok := AnyB) (frameS 92 ver number (!has) id (flexB 0 ver) (partS 3 fs_DeleteShareGroupOffsetsRequest ver (flexB 0 ver) t)) (frameS 92 ver number (!has) id (flexB 0 ver) (partS 3 fs_DeleteShareGroupOffsetsRequest ver (flexB 0 ver) t)) _ _ w10 (hB7.keep (Ext.keeps hE810 _)) (Own.bytes ho10 fun _ _ => trivial) (by omega)).mono ?_
        rintro _ w11 ⟨rfl,hE11⟩
        refine ⟨hE810.trans hE11,?_⟩
        try simp (maxSteps:=1000000)(disch:=(first|omega|(simp only [qI,qJ,qK]<;>omega)|exact qL _)) only [go_sem,↓reduceIte,n0,reduceCtorEq,n1,n2,n3,n4,n5,i0,i1,i2,i3,i4,i5,i6,i7,hsame]
        try refine ⟨hE810.trans hE11,?_⟩
        repeat ((first | refine qA rfl ?_|refine qB ?_|refine qC rfl ?_|refine qD ?_|refine qE ?_|refine qF ?_|refine qG ?_|refine qH ?_);try simp (maxSteps:=1000000)(disch:=(first|omega|(simp only [qI,qJ,qK]<;>omega)|exact qL _)) only [go_sem,↓reduceIte,n0,reduceCtorEq,n1,n2,n3,n4,n5,i0,i1,i2,i3,i4,i5,i6,i7,hsame])
        all_goals exact hE0d.trans (hE810.trans hE11)

end Ms

