/- A part of the proof: see the last text. -/
import Derived.Test.YtfeaoncgnhhjbabDoorC03
import Derived.Test.YtfeaoncgnhhjbabDoorC04
import Derived.Test.YtfeaoncgnhhjbabDoorC05
import Derived.Test.YtfeaoncgnhhjbabDoorC07
import Derived.Test.YtfeaoncgnhhjbabDoorC08
set_option linter.unusedSimpArgs false
set_option linter.unusedVariables false
namespace Ms
open Go.World renaming size_alloc → qI
open Ms renaming size_wr → qJ,size_drew → qK,not_noB → qL
open W renaming seqR → qA,seq → qB,regR → qC,condK → qD,block → qE,skip → qF,ret → qG,exit → qH
open Nat renaming reduceEqDiff → n0,reduceAdd → n1,reduceMul → n2,reduceSub → n3,reduceLT → n4,reduceLeDiff → n5
open Int renaming reduceEq → i0,reduceLT → i1,reduceLE → i2,reduceNeg → i3,reduceAdd → i4,reduceSub → i5,reduceMul → i6,reduceToNat → i7
set_option maxRecDepth 8000
set_option maxHeartbeats 24000000
open Go Go.Proofs Go.Shelf
attribute [local congr] W_congr WPsq_congr WPp_congr optK_congr addrK_congr intK_congr boolK_congr sliceK_congr tupleK_congr funcK_congr Fn_congr rawK_congr takeK_congr stepK_congr convK_congr aggK_congr

theorem told_one {T : List Fld → Tree → Tree → Prop} (f : Fld) (ver : Int) (flex : Bool) (t g : Tree) (cf ct cg : List Value) (w : World) (hf : FldC AnyB w f cf) (hB : okB f) (ht : TreeC AnyB w t ct) (hg : TreeC AnyB w g cg) (hsm : Small 4611686018427387903 t) (hsg : Small 4611686018427387903 g)
    (hT : ∀ (x y : Tree) (vs : Value) (cx cy : List Value) (w' : World),FldsV AnyB w' vs f.sub → TreeC AnyB w' x cx → TreeC AnyB w' y cy → Small 4611686018427387903 x → Small 4611686018427387903 y → T f.sub x y → Fn Tryd.prog 8 #[vs,.int .i64 ver,.bool flex,.agg cx.toArray,.agg cy.toArray] w' fun r w'' => r = .bool true ∧ Ext w' w'')
    (hd : ToldF T ver f t g) (h11k : f.kind ≠ 11) :
    Fn Tryd.prog 21 #[.agg cf.toArray,.int .i64 ver,.bool flex,.agg ct.toArray,.agg cg.toArray] w fun r w' => r = .bool true ∧ Ext w w' := by
  obtain ⟨vs,rfl,hsub⟩ := hf.inv
  obtain ⟨vS,vL,vU,rfl,hn,hS,hL,hU⟩ := ht.inv
  obtain ⟨gS,gL,gU,rfl,hgn,hgS,hgL,hgU⟩ := hg.inv
  have hl1 := hsm.s
  have hl2 := hsm.l
  have hl3 := hsg.s
  have hl4 := hsg.l
  have f0 := SlR.flat hsub
  have f1 := hS.flat
  have f2 := SlR.flat hL
  have f3 := SlR.flat hU
  have k1 := hgS.flat
  have k2 := SlR.flat hgL
  have k3 := SlR.flat hgU
  obtain ⟨bG,cG,rfl,hcG⟩ := SlR.shape hgL
  obtain ⟨bS,cS,rfl,hcS⟩ := hS.shape
  have hE : Ext w (((w.alloc (.cells #[.int .i64 f.kind,.int .i64 f.fr,.int .i64 f.to,.int .i64 f.null,.int .i64 f.tag,.int .i64 f.df,.int .i64 f.of,vs] 46)).alloc (.cells #[.int .i64 t.n,.slice bS t.s.length cS,.bool t.null,vL,vU] 26)).alloc (.cells #[.int .i64 g.n,gS,.bool g.null,.slice bG g.l.length cG,gU] 26)) := Upd.alloc (Upd.alloc (Upd.alloc (Upd.refl _ _) _) _) _
  refine fn_of_W Tryd.func21 rfl Tryd.results21 Tryd.ntmps21 rfl ?_
  repeat ((first | refine qA rfl ?_|apply qB|refine qC rfl ?_|apply qD|apply qE|apply qF|apply qG|apply qH);try simp (disch:=(first|omega|(simp only [qI,qJ,qK]<;>omega)|exact qL _)) only [go_sem,↓reduceIte,n0,reduceCtorEq,n1,n2,n3,n4,n5,i0,i1,i2,i3,i4,i5,i6,i7,f0,f1,f2,f3,k1,k2,k3,cellsAt_five,cellsAt_eight])
  have hb0 : blk (((w.alloc (.cells #[.int .i64 f.kind,.int .i64 f.fr,.int .i64 f.to,.int .i64 f.null,.int .i64 f.tag,.int .i64 f.df,.int .i64 f.of,vs] 46)).alloc (.cells #[.int .i64 t.n,.slice bS t.s.length cS,.bool t.null,vL,vU] 26)).alloc (.cells #[.int .i64 g.n,gS,.bool g.null,.slice bG g.l.length cG,gU] 26)) w.heap.size = some (#[.int .i64 f.kind,.int .i64 f.fr,.int .i64 f.to,.int .i64 f.null,.int .i64 f.tag,.int .i64 f.df,.int .i64 f.of,vs],46,(0,0)) := by simp (disch:=(first|omega|(simp only [qI,qJ,qK]<;>omega)|exact qL _)) only [go_sem,↓reduceIte,n0,reduceCtorEq,n1,n2,n3,n4,n5,i0,i1,i2,i3,i4,i5,i6,i7]
  have hb1 : blk (((w.alloc (.cells #[.int .i64 f.kind,.int .i64 f.fr,.int .i64 f.to,.int .i64 f.null,.int .i64 f.tag,.int .i64 f.df,.int .i64 f.of,vs] 46)).alloc (.cells #[.int .i64 t.n,.slice bS t.s.length cS,.bool t.null,vL,vU] 26)).alloc (.cells #[.int .i64 g.n,gS,.bool g.null,.slice bG g.l.length cG,gU] 26)) (w.heap.size + 1) = some (#[.int .i64 t.n,.slice bS t.s.length cS,.bool t.null,vL,vU],26,(0,0)) := by simp (disch:=(first|omega|(simp only [qI,qJ,qK]<;>omega)|exact qL _)) only [go_sem,↓reduceIte,n0,reduceCtorEq,n1,n2,n3,n4,n5,i0,i1,i2,i3,i4,i5,i6,i7]
  have hb2 : blk (((w.alloc (.cells #[.int .i64 f.kind,.int .i64 f.fr,.int .i64 f.to,.int .i64 f.null,.int .i64 f.tag,.int .i64 f.df,.int .i64 f.of,vs] 46)).alloc (.cells #[.int .i64 t.n,.slice bS t.s.length cS,.bool t.null,vL,vU] 26)).alloc (.cells #[.int .i64 g.n,gS,.bool g.null,.slice bG g.l.length cG,gU] 26)) (w.heap.size + 2) = some (#[.int .i64 g.n,gS,.bool g.null,.slice bG g.l.length cG,gU],26,(0,0)) := by simp (disch:=(first|omega|(simp only [qI,qJ,qK]<;>omega)|exact qL _)) only [go_sem,↓reduceIte,n0,reduceCtorEq,n1,n2,n3,n4,n5,i0,i1,i2,i3,i4,i5,i6,i7]
  have hz2 : (((w.alloc (.cells #[.int .i64 f.kind,.int .i64 f.fr,.int .i64 f.to,.int .i64 f.null,.int .i64 f.tag,.int .i64 f.df,.int .i64 f.of,vs] 46)).alloc (.cells #[.int .i64 t.n,.slice bS t.s.length cS,.bool t.null,vL,vU] 26)).alloc (.cells #[.int .i64 g.n,gS,.bool g.null,.slice bG g.l.length cG,gU] 26)).heap.size = w.heap.size + 3 := by simp only [World.size_alloc]
  generalize (((w.alloc (.cells #[.int .i64 f.kind,.int .i64 f.fr,.int .i64 f.to,.int .i64 f.null,.int .i64 f.tag,.int .i64 f.df,.int .i64 f.of,vs] 46)).alloc (.cells #[.int .i64 t.n,.slice bS t.s.length cS,.bool t.null,vL,vU] 26)).alloc (.cells #[.int .i64 g.n,gS,.bool g.null,.slice bG g.l.length cG,gU] 26)) = w2 at *
  refine (Null_fn (ok := AnyB) f ver t _ _ w2 (FldC.of (hsub.keep (Ext.keeps hE _))) (ht.keep (Ext.keeps hE _))).mono ?_
  rintro _ w3 ⟨rfl,hE3⟩
  have hE03 : Ext w w3 := hE.trans hE3
  have hz3 := hE3.size
  have hb03 := hE3.blk_some hb0 id
  have hb13 := hE3.blk_some hb1 id
  have hb23 := hE3.blk_some hb2 id
  clear hb0 hb1 hb2
  try simp (disch:=(first|omega|(simp only [qI,qJ,qK]<;>omega)|exact qL _)) only [go_sem,↓reduceIte,n0,reduceCtorEq,n1,n2,n3,n4,n5,i0,i1,i2,i3,i4,i5,i6,i7]
  repeat refine W.seq ?_
  refine W.normJ (EndQ [(5,.pointer (some ⟨w.heap.size,0,none⟩)),(8,.pointer (some ⟨w.heap.size + 1,0,none⟩)),(9,.pointer (some ⟨w.heap.size + 2,0,none⟩)),(1,.int .i64 ver),(2,.bool flex),(11,.bool (nullS f ver t)),(12,.bool (mayS f ver))] (fun w' => w' = w3)) ?_ ?_
  · skip
    refine W.regR rfl ?_
    by_cases hm1 : 0 ≤ f.null
    · by_cases hm2 : f.null ≤ ver
      · have hm : mayS f ver = true := by simp [mayS,hm1,hm2]
        try simp (disch:=(first|omega|(simp only [qI,qJ,qK]<;>omega)|exact qL _)) only [go_sem,↓reduceIte,n0,reduceCtorEq,n1,n2,n3,n4,n5,i0,i1,i2,i3,i4,i5,i6,i7,hb03]
        exact ⟨(by simp (disch:=(first|omega|(simp only [qI,qJ,qK]<;>omega)|exact qL _)) only [go_sem,↓reduceIte,n0,reduceCtorEq,n1,n2,n3,n4,n5,i0,i1,i2,i3,i4,i5,i6,i7,Holds_nil,Holds_cons,hm]),rfl⟩
      · have hm : mayS f ver = false := by simp [mayS,hm2]
        try simp (disch:=(first|omega|(simp only [qI,qJ,qK]<;>omega)|exact qL _)) only [go_sem,↓reduceIte,n0,reduceCtorEq,n1,n2,n3,n4,n5,i0,i1,i2,i3,i4,i5,i6,i7,hb03]
        exact ⟨(by simp (disch:=(first|omega|(simp only [qI,qJ,qK]<;>omega)|exact qL _)) only [go_sem,↓reduceIte,n0,reduceCtorEq,n1,n2,n3,n4,n5,i0,i1,i2,i3,i4,i5,i6,i7,Holds_nil,Holds_cons,hm]),rfl⟩
    · have hm : mayS f ver = false := by simp [mayS,hm1]
      try simp (disch:=(first|omega|(simp only [qI,qJ,qK]<;>omega)|exact qL _)) only [go_sem,↓reduceIte,n0,reduceCtorEq,n1,n2,n3,n4,n5,i0,i1,i2,i3,i4,i5,i6,i7,hb03]
      exact ⟨(by simp (disch:=(first|omega|(simp only [qI,qJ,qK]<;>omega)|exact qL _)) only [go_sem,↓reduceIte,n0,reduceCtorEq,n1,n2,n3,n4,n5,i0,i1,i2,i3,i4,i5,i6,i7,Holds_nil,Holds_cons,hm]),rfl⟩
  rintro ρ w4 ⟨⟨h5,h8,h9,h1,h2,h11,h12,-⟩,hw4⟩
  obtain rfl := hw4.symm
  try simp (disch:=(first|omega|(simp only [qI,qJ,qK]<;>omega)|exact qL _)) only [go_sem,↓reduceIte,n0,reduceCtorEq,n1,n2,n3,n4,n5,i0,i1,i2,i3,i4,i5,i6,i7]
  obtain ⟨hd1,hd2⟩ := hd
  repeat refine W.seq ?_
  refine W.normJ (EndQ [(5,.pointer (some ⟨w.heap.size,0,none⟩)),(8,.pointer (some ⟨w.heap.size + 1,0,none⟩)),(9,.pointer (some ⟨w.heap.size + 2,0,none⟩)),(1,.int .i64 ver),(2,.bool flex),(11,.bool (nullS f ver t)),(12,.bool (mayS f ver)),(46,.bool false)] (fun w' => w' = w3)) ?_ ?_
  · skip
    refine W.regR rfl ?_
    by_cases h8k : f.kind = 8
    · have hnn := hd1 (by omega)
      try simp (disch:=(first|omega|(simp only [qI,qJ,qK]<;>omega)|exact qL _)) only [go_sem,↓reduceIte,n0,reduceCtorEq,n1,n2,n3,n4,n5,i0,i1,i2,i3,i4,i5,i6,i7,hb03,hb23,h5,h8,h9,h1,h2,h11,h12,h8k,hnn,beq_self_eq_true,bne_self_eq_false,ne_eq,not_true_eq_false,not_false_eq_true]
      exact ⟨(by simp (disch:=(first|omega|(simp only [qI,qJ,qK]<;>omega)|exact qL _)) only [go_sem,↓reduceIte,n0,reduceCtorEq,n1,n2,n3,n4,n5,i0,i1,i2,i3,i4,i5,i6,i7,Holds_nil,Holds_cons,h5,h8,h9,h1,h2,h11,h12]),rfl⟩
    by_cases h10k : f.kind = 10
    · have hnn := hd1 (by omega)
      try simp (disch:=(first|omega|(simp only [qI,qJ,qK]<;>omega)|exact qL _)) only [go_sem,↓reduceIte,n0,reduceCtorEq,n1,n2,n3,n4,n5,i0,i1,i2,i3,i4,i5,i6,i7,hb03,hb23,h5,h8,h9,h1,h2,h11,h12,h10k,hnn,beq_self_eq_true,bne_self_eq_false,ne_eq,not_true_eq_false,not_false_eq_true]
      exact ⟨(by simp (disch:=(first|omega|(simp only [qI,qJ,qK]<;>omega)|exact qL _)) only [go_sem,↓reduceIte,n0,reduceCtorEq,n1,n2,n3,n4,n5,i0,i1,i2,i3,i4,i5,i6,i7,Holds_nil,Holds_cons,h5,h8,h9,h1,h2,h11,h12]),rfl⟩
    cases hm : mayS f ver with
    | true =>
      have hnn := hd1 (.inr (.inr hm))
      try simp (disch:=(first|omega|(simp only [qI,qJ,qK]<;>omega)|exact qL _)) only [go_sem,↓reduceIte,n0,reduceCtorEq,n1,n2,n3,n4,n5,i0,i1,i2,i3,i4,i5,i6,i7,hb03,hb23,h5,h8,h9,h1,h2,h11,h12,hm,hnn,beq_self_eq_true,bne_self_eq_false,ne_eq,not_true_eq_false,not_false_eq_true]
      exact ⟨(by simp (disch:=(first|omega|(simp only [qI,qJ,qK]<;>omega)|exact qL _)) only [go_sem,↓reduceIte,n0,reduceCtorEq,n1,n2,n3,n4,n5,i0,i1,i2,i3,i4,i5,i6,i7,Holds_nil,Holds_cons,h5,h8,h9,h1,h2,h11,h12,hm]),rfl⟩
    | false =>
      try simp (disch:=(first|omega|(simp only [qI,qJ,qK]<;>omega)|exact qL _)) only [go_sem,↓reduceIte,n0,reduceCtorEq,n1,n2,n3,n4,n5,i0,i1,i2,i3,i4,i5,i6,i7,hb03,hb23,h5,h8,h9,h1,h2,h11,h12,hm,beq_self_eq_true,bne_self_eq_false,ne_eq,not_true_eq_false,not_false_eq_true]
      exact ⟨(by simp (disch:=(first|omega|(simp only [qI,qJ,qK]<;>omega)|exact qL _)) only [go_sem,↓reduceIte,n0,reduceCtorEq,n1,n2,n3,n4,n5,i0,i1,i2,i3,i4,i5,i6,i7,Holds_nil,Holds_cons,h5,h8,h9,h1,h2,h11,h12,hm]),rfl⟩
  clear h5 h8 h9 h1 h2 h11 h12
  rintro ρ w4 ⟨⟨h5,h8,h9,h1,h2,h11,-,h46,-⟩,hw4⟩
  obtain rfl := hw4.symm
  try simp (disch:=(first|omega|(simp only [qI,qJ,qK]<;>omega)|exact qL _)) only [go_sem,↓reduceIte,n0,reduceCtorEq,n1,n2,n3,n4,n5,i0,i1,i2,i3,i4,i5,i6,i7]
  cases hnul : nullS f ver t with
  | true =>
    repeat ((first | refine qA rfl ?_|apply qB|refine qC rfl ?_|apply qD|apply qE|apply qF|apply qG|apply qH);try simp (disch:=(first|omega|(simp only [qI,qJ,qK]<;>omega)|exact qL _)) only [go_sem,↓reduceIte,n0,reduceCtorEq,n1,n2,n3,n4,n5,i0,i1,i2,i3,i4,i5,i6,i7,h46,h11,hnul])
    all_goals exact hE03
  | false =>
    replace hd2 := hd2 hnul
    rw [if_neg h11k] at hd2
    unfold Told1 at hd2
    by_cases h8k : f.kind = 8
    · skip
      rw [if_pos (by omega)] at hd2
      repeat ((first | refine qA rfl ?_|apply qB|refine qC rfl ?_|apply qD|apply qE|apply qF|apply qG|apply qH);try simp (disch:=(first|omega|(simp only [qI,qJ,qK]<;>omega)|exact qL _)) only [go_sem,↓reduceIte,n0,reduceCtorEq,n1,n2,n3,n4,n5,i0,i1,i2,i3,i4,i5,i6,i7,h46,h11,hnul,h5,h8,h9,hb03,hb13,hb23])
      refine W.drawR (.take 0 (.take 1 (.take 2 (.take 3 (.only 4 (.only 5 (.only 6 .done))))))) NoB mixed (by kernel_rfl) ?_
      try simp (disch:=(first|omega|(simp only [qI,qJ,qK]<;>omega)|exact qL _)) only [go_sem,↓reduceIte,n0,reduceCtorEq,n1,n2,n3,n4,n5,i0,i1,i2,i3,i4,i5,i6,i7,h5,h8,h9,hb03,hb13,hb23]
      have hEd : Ext w3 w3.drew := (Upd.refl _ _).drew
      have hE0d := hE03.trans hEd
      generalize w3.drew = w5 at *
      refine (whole_fn (ok := AnyB) t.s _ w5 (hS.keep (Ext.keeps hE0d _))).mono ?_
      rintro r6 w6 ⟨hr6,hw6⟩
      obtain rfl := hw6.symm
      refine ⟨Upd.refl _ _,?_⟩
      have hg6 := hgS.keep (Ext.keeps hE0d _)
      rw [hd2] at hg6
      have hwl : (wholeS t.s).length ≤ 32767 := by simp only [wholeS,List.length_take];omega
      try simp (disch:=(first|omega|(simp only [qI,qJ,qK]<;>omega)|exact qL _)) only [go_sem,↓reduceIte,n0,reduceCtorEq,n1,n2,n3,n4,n5,i0,i1,i2,i3,i4,i5,i6,i7]
      refine (Same_fn (ok := AnyB) (wholeS t.s) (wholeS t.s) _ _ w5 hg6 hr6 (by omega)).mono ?_
      rintro _ w7 ⟨rfl,hE7⟩
      have hsame : decide (wholeS t.s = wholeS t.s) = true := decide_eq_true rfl
      refine ⟨hE7,?_⟩
      try simp (disch:=(first|omega|(simp only [qI,qJ,qK]<;>omega)|exact qL _)) only [go_sem,↓reduceIte,n0,reduceCtorEq,n1,n2,n3,n4,n5,i0,i1,i2,i3,i4,i5,i6,i7,hsame]
      try refine ⟨hE7,?_⟩
      repeat ((first | refine qA rfl ?_|apply qB|refine qC rfl ?_|apply qD|apply qE|apply qF|apply qG|apply qH);try simp (disch:=(first|omega|(simp only [qI,qJ,qK]<;>omega)|exact qL _)) only [go_sem,↓reduceIte,n0,reduceCtorEq,n1,n2,n3,n4,n5,i0,i1,i2,i3,i4,i5,i6,i7,hsame])
      all_goals exact hE0d.trans hE7
    by_cases h9k : f.kind = 9
    · skip
      rw [if_pos (by omega)] at hd2
      repeat ((first | refine qA rfl ?_|apply qB|refine qC rfl ?_|apply qD|apply qE|apply qF|apply qG|apply qH);try simp (disch:=(first|omega|(simp only [qI,qJ,qK]<;>omega)|exact qL _)) only [go_sem,↓reduceIte,n0,reduceCtorEq,n1,n2,n3,n4,n5,i0,i1,i2,i3,i4,i5,i6,i7,h46,h11,hnul,h5,h8,h9,hb03,hb13,hb23])
      refine W.drawR (.take 0 (.take 1 (.take 2 (.take 3 (.only 4 (.only 5 (.only 6 .done))))))) NoB mixed (by kernel_rfl) ?_
      try simp (disch:=(first|omega|(simp only [qI,qJ,qK]<;>omega)|exact qL _)) only [go_sem,↓reduceIte,n0,reduceCtorEq,n1,n2,n3,n4,n5,i0,i1,i2,i3,i4,i5,i6,i7,h5,h8,h9,hb03,hb13,hb23]
      have hEd : Ext w3 w3.drew := (Upd.refl _ _).drew
      have hE0d := hE03.trans hEd
      generalize w3.drew = w5 at *
      refine (whole_fn (ok := AnyB) t.s _ w5 (hS.keep (Ext.keeps hE0d _))).mono ?_
      rintro r6 w6 ⟨hr6,hw6⟩
      obtain rfl := hw6.symm
      refine ⟨Upd.refl _ _,?_⟩
      have hg6 := hgS.keep (Ext.keeps hE0d _)
      rw [hd2] at hg6
      have hwl : (wholeS t.s).length ≤ 32767 := by simp only [wholeS,List.length_take];omega
      try simp (disch:=(first|omega|(simp only [qI,qJ,qK]<;>omega)|exact qL _)) only [go_sem,↓reduceIte,n0,reduceCtorEq,n1,n2,n3,n4,n5,i0,i1,i2,i3,i4,i5,i6,i7]
      refine (Same_fn (ok := AnyB) (wholeS t.s) (wholeS t.s) _ _ w5 hg6 hr6 (by omega)).mono ?_
      rintro _ w7 ⟨rfl,hE7⟩
      have hsame : decide (wholeS t.s = wholeS t.s) = true := decide_eq_true rfl
      refine ⟨hE7,?_⟩
      try simp (disch:=(first|omega|(simp only [qI,qJ,qK]<;>omega)|exact qL _)) only [go_sem,↓reduceIte,n0,reduceCtorEq,n1,n2,n3,n4,n5,i0,i1,i2,i3,i4,i5,i6,i7,hsame]
      try refine ⟨hE7,?_⟩
      repeat ((first | refine qA rfl ?_|apply qB|refine qC rfl ?_|apply qD|apply qE|apply qF|apply qG|apply qH);try simp (disch:=(first|omega|(simp only [qI,qJ,qK]<;>omega)|exact qL _)) only [go_sem,↓reduceIte,n0,reduceCtorEq,n1,n2,n3,n4,n5,i0,i1,i2,i3,i4,i5,i6,i7,hsame])
      all_goals exact hE0d.trans hE7
    rw [if_neg (by omega)] at hd2
    by_cases h7k : f.kind = 7
    · skip
      rw [if_pos h7k] at hd2
      repeat ((first | refine qA rfl ?_|apply qB|refine qC rfl ?_|apply qD|apply qE|apply qF|apply qG|apply qH);try simp (disch:=(first|omega|(simp only [qI,qJ,qK]<;>omega)|exact qL _)) only [go_sem,↓reduceIte,n0,reduceCtorEq,n1,n2,n3,n4,n5,i0,i1,i2,i3,i4,i5,i6,i7,h46,h11,hnul,h5,h8,h9,hb03,hb13,hb23])
      refine wp_make (T := 22) (E := 5) (size := 1) (bytes := 1) (z := .int .u8 0) (by kernel_rfl) (by kernel_rfl) (kl := .i64) (kc := .i64) (l := 16) (c := 16) (by first | rfl | (simp (disch:=(first|omega|(simp only [qI,qJ,qK]<;>omega)|exact qL _)) only [go_sem,↓reduceIte,n0,reduceCtorEq,n1,n2,n3,n4,n5,i0,i1,i2,i3,i4,i5,i6,i7];rfl)) (by first | rfl | (simp (disch:=(first|omega|(simp only [qI,qJ,qK]<;>omega)|exact qL _)) only [go_sem,↓reduceIte,n0,reduceCtorEq,n1,n2,n3,n4,n5,i0,i1,i2,i3,i4,i5,i6,i7];rfl)) (by omega) (by omega) (by omega) ?_
      rw [show (Value.int .u8 0).cells = #[Value.int .u8 0] from rfl,made_one]
      have hE5 : Ext w3 (w3.alloc (.cells (List.replicate (16 * 1) (Value.int .u8 0)).toArray 5)) := Upd.alloc (Upd.refl _ _) _
      have hz5 : (w3.alloc (.cells (List.replicate (16 * 1) (Value.int .u8 0)).toArray 5)).heap.size = w3.heap.size + 1 := World.size_alloc _ _
      have hb5 : blk (w3.alloc (.cells (List.replicate (16 * 1) (Value.int .u8 0)).toArray 5)) w3.heap.size = some ((List.replicate (16 * 1) (Value.int .u8 0)).toArray,5,(0,0)) := blk_alloc_new rfl
      try simp (disch:=(first|omega|(simp only [qI,qJ,qK]<;>omega)|exact qL _)) only [go_sem,↓reduceIte,n0,reduceCtorEq,n1,n2,n3,n4,n5,i0,i1,i2,i3,i4,i5,i6,i7]
      generalize (w3.alloc (.cells (List.replicate (16 * 1) (Value.int .u8 0)).toArray 5)) = w5 at *
      have hb15 := hE5.blk_some hb13 id
      have hb25 := hE5.blk_some hb23 id
      repeat ((first | refine qA rfl ?_|apply qB|refine qC rfl ?_|apply qD|apply qE|apply qF|apply qG|apply qH);try simp (disch:=(first|omega|(simp only [qI,qJ,qK]<;>omega)|exact qL _)) only [go_sem,↓reduceIte,n0,reduceCtorEq,n1,n2,n3,n4,n5,i0,i1,i2,i3,i4,i5,i6,i7,h8,hb15])
      refine wp_copy (E := 5) (n := 16) (b := w3.heap.size) (cap := 16) (m := t.s.length) (c := cS) (base := bS) (s := t.s) (xb := ((List.replicate (16 * 1) (Value.int .u8 0)).toArray,5,(0,0))) (by kernel_rfl) (by kernel_rfl) ?_ ?_ (hS.keep (Ext.keeps (hE03.trans hE5) _)) ?_ ?_ rfl ?_
      · simp (disch:=(first|omega|(simp only [qI,qJ,qK]<;>omega)|exact qL _)) only [go_sem,↓reduceIte,n0,reduceCtorEq,n1,n2,n3,n4,n5,i0,i1,i2,i3,i4,i5,i6,i7]
      · simp (disch:=(first|omega|(simp only [qI,qJ,qK]<;>omega)|exact qL _)) only [go_sem,↓reduceIte,n0,reduceCtorEq,n1,n2,n3,n4,n5,i0,i1,i2,i3,i4,i5,i6,i7]
      · exact hb5
      · simp
      intro v
      simp (disch:=(first|omega|(simp only [qI,qJ,qK]<;>omega)|exact qL _)) only [go_sem,↓reduceIte,n0,reduceCtorEq,n1,n2,n3,n4,n5,i0,i1,i2,i3,i4,i5,i6,i7]
      have hE6 : Ext w3 (wr w5 w3.heap.size 0 ((t.s.take 16).map byteV)) := hE5.wr _ _ (.inl (Nat.le_refl _))
      have hb6 : blk (wr w5 w3.heap.size 0 ((t.s.take 16).map byteV)) w3.heap.size = some (((uuidS t.s).map byteV).toArray,5,(0,0)) := by
        rw [blk_wr_eq,hb5,Option.map_some,wr16]
      have hb26 := hE6.blk_some hb23 id
      generalize (wr w5 w3.heap.size 0 ((t.s.take 16).map byteV)) = w6 at *
      repeat ((first | refine qA rfl ?_|apply qB|refine qC rfl ?_|apply qD|apply qE|apply qF|apply qG|apply qH);try simp (disch:=(first|omega|(simp only [qI,qJ,qK]<;>omega)|exact qL _)) only [go_sem,↓reduceIte,n0,reduceCtorEq,n1,n2,n3,n4,n5,i0,i1,i2,i3,i4,i5,i6,i7,h9,hb26])
      have hv6 : BytesV AnyB w6 (.slice (some ⟨w3.heap.size,0,none⟩) 16 16) (uuidS t.s) := bytes_at hb6 (uuidS_len _) fun i hi => by simp only [Nat.zero_add,List.getElem?_toArray]
      have hg6 := hgS.keep (Ext.keeps (hE03.trans hE6) _)
      rw [hd2] at hg6
      refine (Same_fn (ok := AnyB) (uuidS t.s) (uuidS t.s) _ _ w6 hg6 hv6 (by rw [uuidS_len];omega)).mono ?_
      rintro _ w7 ⟨rfl,hE7⟩
      have hsame : decide (uuidS t.s = uuidS t.s) = true := decide_eq_true rfl
      repeat (first|simp (disch:=(first|omega|(simp only [qI,qJ,qK]<;>omega)|exact qL _)) only [go_sem,↓reduceIte,n0,reduceCtorEq,n1,n2,n3,n4,n5,i0,i1,i2,i3,i4,i5,i6,i7,hsame]|refine qA rfl ?_|apply qB|refine qC rfl ?_|apply qD|apply qE|apply qF|apply qG|apply qH)
      all_goals exact (hE03.trans hE6).trans hE7
    rw [if_neg h7k] at hd2
    by_cases h10k : f.kind = 10
    · skip
      rw [if_pos h10k] at hd2
      repeat ((first | refine qA rfl ?_|apply qB|refine qC rfl ?_|apply qD|apply qE|apply qF|apply qG|apply qH);try simp (disch:=(first|omega|(simp only [qI,qJ,qK]<;>omega)|exact qL _)) only [go_sem,↓reduceIte,n0,reduceCtorEq,n1,n2,n3,n4,n5,i0,i1,i2,i3,i4,i5,i6,i7,h46,h11,hnul,h5,h8,h9,h1,h2,hb03,hb13,hb23,f0,cellsAt_five])
      refine (hT t g vs _ _ w3 (hsub.keep (Ext.keeps hE03 _)) (ht.keep (Ext.keeps hE03 _)) (hg.keep (Ext.keeps hE03 _)) hsm hsg hd2).mono ?_
      rintro _ w5 ⟨rfl,hE5⟩
      repeat (first|simp (disch:=(first|omega|(simp only [qI,qJ,qK]<;>omega)|exact qL _)) only [go_sem,↓reduceIte,n0,reduceCtorEq,n1,n2,n3,n4,n5,i0,i1,i2,i3,i4,i5,i6,i7]|refine qA rfl ?_|apply qB|refine qC rfl ?_|apply qD|apply qE|apply qF|apply qG|apply qH)
      all_goals exact hE03.trans hE5
    rw [if_neg h10k] at hd2
    repeat ((first | refine qA rfl ?_|apply qB|refine qC rfl ?_|apply qD|apply qE|apply qF|apply qG|apply qH);try simp (disch:=(first|omega|(simp only [qI,qJ,qK]<;>omega)|exact qL _)) only [go_sem,↓reduceIte,n0,reduceCtorEq,n1,n2,n3,n4,n5,i0,i1,i2,i3,i4,i5,i6,i7,h46,h11,hnul,h5,h8,h9,hb03,hb13,hb23])
    refine W.drawR (.take 0 (.take 1 (.take 2 (.take 3 (.take 4 (.take 5 (.only 6 (.take 7 (.only 8 .done))))))))) NoB mixed (by kernel_rfl) ?_
    try simp (disch:=(first|omega|(simp only [qI,qJ,qK]<;>omega)|exact qL _)) only [go_sem,↓reduceIte,n0,reduceCtorEq,n1,n2,n3,n4,n5,i0,i1,i2,i3,i4,i5,i6,i7,h5,h8,h9,hb03,hb13,hb23]
    have hEd : Ext w3 w3.drew := (Upd.refl _ _).drew
    have hE0d := hE03.trans hEd
    generalize w3.drew = w5 at *
    refine (number_fn f.kind t.n w5).mono ?_
    rintro _ _ ⟨rfl,rfl⟩
    refine ⟨Upd.refl _ _,?_⟩
    try simp (disch:=(first|omega|(simp only [qI,qJ,qK]<;>omega)|exact qL _)) only [go_sem,↓reduceIte,n0,reduceCtorEq,n1,n2,n3,n4,n5,i0,i1,i2,i3,i4,i5,i6,i7,hd2,beq_self_eq_true,bne_self_eq_false,ne_eq,not_true_eq_false,not_false_eq_true]
    try refine ⟨Upd.refl _ _,?_⟩
    repeat ((first | refine qA rfl ?_|apply qB|refine qC rfl ?_|apply qD|apply qE|apply qF|apply qG|apply qH);try simp (disch:=(first|omega|(simp only [qI,qJ,qK]<;>omega)|exact qL _)) only [go_sem,↓reduceIte,n0,reduceCtorEq,n1,n2,n3,n4,n5,i0,i1,i2,i3,i4,i5,i6,i7,hd2,beq_self_eq_true,bne_self_eq_false,ne_eq,not_true_eq_false,not_false_eq_true])
    all_goals exact hE0d

theorem told_fn {T : List Fld → Tree → Tree → Prop} (f : Fld) (ver : Int) (flex : Bool) (t g : Tree) (cf ct cg : List Value) (w : World) (hf : FldC AnyB w f cf) (hB : okB f) (ht : TreeC AnyB w t ct) (hg : TreeC AnyB w g cg) (hsm : Small 4611686018427387903 t) (hsg : Small 4611686018427387903 g)
    (hT : ∀ (x y : Tree) (vs : Value) (cx cy : List Value) (w' : World),FldsV AnyB w' vs f.sub → TreeC AnyB w' x cx → TreeC AnyB w' y cy → Small 4611686018427387903 x → Small 4611686018427387903 y → T f.sub x y → Fn Tryd.prog 8 #[vs,.int .i64 ver,.bool flex,.agg cx.toArray,.agg cy.toArray] w' fun r w'' => r = .bool true ∧ Ext w' w'')
    (hd : ToldF T ver f t g) :
    Fn Tryd.prog 21 #[.agg cf.toArray,.int .i64 ver,.bool flex,.agg ct.toArray,.agg cg.toArray] w fun r w' => r = .bool true ∧ Ext w w' := by
  by_cases h11k : f.kind = 11
  rotate_left
  · exact told_one f ver flex t g cf ct cg w hf hB ht hg hsm hsg hT hd h11k
  obtain ⟨vs,rfl,hsub⟩ := hf.inv
  obtain ⟨vS,vL,vU,rfl,hn,hS,hL,hU⟩ := ht.inv
  obtain ⟨gS,gL,gU,rfl,hgn,hgS,hgL,hgU⟩ := hg.inv
  have hl1 := hsm.s
  have hl2 := hsm.l
  have hl3 := hsg.s
  have hl4 := hsg.l
  have f0 := SlR.flat hsub
  have f1 := hS.flat
  have f2 := SlR.flat hL
  have f3 := SlR.flat hU
  have k1 := hgS.flat
  have k2 := SlR.flat hgL
  have k3 := SlR.flat hgU
  obtain ⟨bG,cG,rfl,hcG⟩ := SlR.shape hgL
  obtain ⟨bS,cS,rfl,hcS⟩ := hS.shape
  have hE : Ext w (((w.alloc (.cells #[.int .i64 f.kind,.int .i64 f.fr,.int .i64 f.to,.int .i64 f.null,.int .i64 f.tag,.int .i64 f.df,.int .i64 f.of,vs] 46)).alloc (.cells #[.int .i64 t.n,.slice bS t.s.length cS,.bool t.null,vL,vU] 26)).alloc (.cells #[.int .i64 g.n,gS,.bool g.null,.slice bG g.l.length cG,gU] 26)) := Upd.alloc (Upd.alloc (Upd.alloc (Upd.refl _ _) _) _) _
  refine fn_of_W Tryd.func21 rfl Tryd.results21 Tryd.ntmps21 rfl ?_
  repeat ((first | refine qA rfl ?_|apply qB|refine qC rfl ?_|apply qD|apply qE|apply qF|apply qG|apply qH);try simp (disch:=(first|omega|(simp only [qI,qJ,qK]<;>omega)|exact qL _)) only [go_sem,↓reduceIte,n0,reduceCtorEq,n1,n2,n3,n4,n5,i0,i1,i2,i3,i4,i5,i6,i7,f0,f1,f2,f3,k1,k2,k3,cellsAt_five,cellsAt_eight])
  have hb0 : blk (((w.alloc (.cells #[.int .i64 f.kind,.int .i64 f.fr,.int .i64 f.to,.int .i64 f.null,.int .i64 f.tag,.int .i64 f.df,.int .i64 f.of,vs] 46)).alloc (.cells #[.int .i64 t.n,.slice bS t.s.length cS,.bool t.null,vL,vU] 26)).alloc (.cells #[.int .i64 g.n,gS,.bool g.null,.slice bG g.l.length cG,gU] 26)) w.heap.size = some (#[.int .i64 f.kind,.int .i64 f.fr,.int .i64 f.to,.int .i64 f.null,.int .i64 f.tag,.int .i64 f.df,.int .i64 f.of,vs],46,(0,0)) := by simp (disch:=(first|omega|(simp only [qI,qJ,qK]<;>omega)|exact qL _)) only [go_sem,↓reduceIte,n0,reduceCtorEq,n1,n2,n3,n4,n5,i0,i1,i2,i3,i4,i5,i6,i7]
  have hb1 : blk (((w.alloc (.cells #[.int .i64 f.kind,.int .i64 f.fr,.int .i64 f.to,.int .i64 f.null,.int .i64 f.tag,.int .i64 f.df,.int .i64 f.of,vs] 46)).alloc (.cells #[.int .i64 t.n,.slice bS t.s.length cS,.bool t.null,vL,vU] 26)).alloc (.cells #[.int .i64 g.n,gS,.bool g.null,.slice bG g.l.length cG,gU] 26)) (w.heap.size + 1) = some (#[.int .i64 t.n,.slice bS t.s.length cS,.bool t.null,vL,vU],26,(0,0)) := by simp (disch:=(first|omega|(simp only [qI,qJ,qK]<;>omega)|exact qL _)) only [go_sem,↓reduceIte,n0,reduceCtorEq,n1,n2,n3,n4,n5,i0,i1,i2,i3,i4,i5,i6,i7]
  have hb2 : blk (((w.alloc (.cells #[.int .i64 f.kind,.int .i64 f.fr,.int .i64 f.to,.int .i64 f.null,.int .i64 f.tag,.int .i64 f.df,.int .i64 f.of,vs] 46)).alloc (.cells #[.int .i64 t.n,.slice bS t.s.length cS,.bool t.null,vL,vU] 26)).alloc (.cells #[.int .i64 g.n,gS,.bool g.null,.slice bG g.l.length cG,gU] 26)) (w.heap.size + 2) = some (#[.int .i64 g.n,gS,.bool g.null,.slice bG g.l.length cG,gU],26,(0,0)) := by simp (disch:=(first|omega|(simp only [qI,qJ,qK]<;>omega)|exact qL _)) only [go_sem,↓reduceIte,n0,reduceCtorEq,n1,n2,n3,n4,n5,i0,i1,i2,i3,i4,i5,i6,i7]
  have hz2 : (((w.alloc (.cells #[.int .i64 f.kind,.int .i64 f.fr,.int .i64 f.to,.int .i64 f.null,.int .i64 f.tag,.int .i64 f.df,.int .i64 f.of,vs] 46)).alloc (.cells #[.int .i64 t.n,.slice bS t.s.length cS,.bool t.null,vL,vU] 26)).alloc (.cells #[.int .i64 g.n,gS,.bool g.null,.slice bG g.l.length cG,gU] 26)).heap.size = w.heap.size + 3 := by simp only [World.size_alloc]
  generalize (((w.alloc (.cells #[.int .i64 f.kind,.int .i64 f.fr,.int .i64 f.to,.int .i64 f.null,.int .i64 f.tag,.int .i64 f.df,.int .i64 f.of,vs] 46)).alloc (.cells #[.int .i64 t.n,.slice bS t.s.length cS,.bool t.null,vL,vU] 26)).alloc (.cells #[.int .i64 g.n,gS,.bool g.null,.slice bG g.l.length cG,gU] 26)) = w2 at *
  refine (Null_fn (ok := AnyB) f ver t _ _ w2 (FldC.of (hsub.keep (Ext.keeps hE _))) (ht.keep (Ext.keeps hE _))).mono ?_
  rintro _ w3 ⟨rfl,hE3⟩
  have hE03 : Ext w w3 := hE.trans hE3
  have hz3 := hE3.size
  have hb03 := hE3.blk_some hb0 id
  have hb13 := hE3.blk_some hb1 id
  have hb23 := hE3.blk_some hb2 id
  clear hb0 hb1 hb2
  try simp (disch:=(first|omega|(simp only [qI,qJ,qK]<;>omega)|exact qL _)) only [go_sem,↓reduceIte,n0,reduceCtorEq,n1,n2,n3,n4,n5,i0,i1,i2,i3,i4,i5,i6,i7]
  repeat refine W.seq ?_
  refine W.normJ (EndQ [(5,.pointer (some ⟨w.heap.size,0,none⟩)),(8,.pointer (some ⟨w.heap.size + 1,0,none⟩)),(9,.pointer (some ⟨w.heap.size + 2,0,none⟩)),(1,.int .i64 ver),(2,.bool flex),(11,.bool (nullS f ver t)),(12,.bool (mayS f ver))] (fun w' => w' = w3)) ?_ ?_
  · skip
    refine W.regR rfl ?_
    by_cases hm1 : 0 ≤ f.null
    · by_cases hm2 : f.null ≤ ver
      · have hm : mayS f ver = true := by simp [mayS,hm1,hm2]
        try simp (disch:=(first|omega|(simp only [qI,qJ,qK]<;>omega)|exact qL _)) only [go_sem,↓reduceIte,n0,reduceCtorEq,n1,n2,n3,n4,n5,i0,i1,i2,i3,i4,i5,i6,i7,hb03]
        exact ⟨(by simp (disch:=(first|omega|(simp only [qI,qJ,qK]<;>omega)|exact qL _)) only [go_sem,↓reduceIte,n0,reduceCtorEq,n1,n2,n3,n4,n5,i0,i1,i2,i3,i4,i5,i6,i7,Holds_nil,Holds_cons,hm]),rfl⟩
      · have hm : mayS f ver = false := by simp [mayS,hm2]
        try simp (disch:=(first|omega|(simp only [qI,qJ,qK]<;>omega)|exact qL _)) only [go_sem,↓reduceIte,n0,reduceCtorEq,n1,n2,n3,n4,n5,i0,i1,i2,i3,i4,i5,i6,i7,hb03]
        exact ⟨(by simp (disch:=(first|omega|(simp only [qI,qJ,qK]<;>omega)|exact qL _)) only [go_sem,↓reduceIte,n0,reduceCtorEq,n1,n2,n3,n4,n5,i0,i1,i2,i3,i4,i5,i6,i7,Holds_nil,Holds_cons,hm]),rfl⟩
    · have hm : mayS f ver = false := by simp [mayS,hm1]
      try simp (disch:=(first|omega|(simp only [qI,qJ,qK]<;>omega)|exact qL _)) only [go_sem,↓reduceIte,n0,reduceCtorEq,n1,n2,n3,n4,n5,i0,i1,i2,i3,i4,i5,i6,i7,hb03]
      exact ⟨(by simp (disch:=(first|omega|(simp only [qI,qJ,qK]<;>omega)|exact qL _)) only [go_sem,↓reduceIte,n0,reduceCtorEq,n1,n2,n3,n4,n5,i0,i1,i2,i3,i4,i5,i6,i7,Holds_nil,Holds_cons,hm]),rfl⟩
  rintro ρ w4 ⟨⟨h5,h8,h9,h1,h2,h11,h12,-⟩,hw4⟩
  obtain rfl := hw4.symm
  try simp (disch:=(first|omega|(simp only [qI,qJ,qK]<;>omega)|exact qL _)) only [go_sem,↓reduceIte,n0,reduceCtorEq,n1,n2,n3,n4,n5,i0,i1,i2,i3,i4,i5,i6,i7]
  obtain ⟨hd1,hd2⟩ := hd
  repeat refine W.seq ?_
  refine W.normJ (EndQ [(5,.pointer (some ⟨w.heap.size,0,none⟩)),(8,.pointer (some ⟨w.heap.size + 1,0,none⟩)),(9,.pointer (some ⟨w.heap.size + 2,0,none⟩)),(1,.int .i64 ver),(2,.bool flex),(11,.bool (nullS f ver t)),(12,.bool (mayS f ver)),(46,.bool false)] (fun w' => w' = w3)) ?_ ?_
  · skip
    refine W.regR rfl ?_
    by_cases h8k : f.kind = 8
    · have hnn := hd1 (by omega)
      try simp (disch:=(first|omega|(simp only [qI,qJ,qK]<;>omega)|exact qL _)) only [go_sem,↓reduceIte,n0,reduceCtorEq,n1,n2,n3,n4,n5,i0,i1,i2,i3,i4,i5,i6,i7,hb03,hb23,h5,h8,h9,h1,h2,h11,h12,h8k,hnn,beq_self_eq_true,bne_self_eq_false,ne_eq,not_true_eq_false,not_false_eq_true]
      exact ⟨(by simp (disch:=(first|omega|(simp only [qI,qJ,qK]<;>omega)|exact qL _)) only [go_sem,↓reduceIte,n0,reduceCtorEq,n1,n2,n3,n4,n5,i0,i1,i2,i3,i4,i5,i6,i7,Holds_nil,Holds_cons,h5,h8,h9,h1,h2,h11,h12]),rfl⟩
    by_cases h10k : f.kind = 10
    · have hnn := hd1 (by omega)
      try simp (disch:=(first|omega|(simp only [qI,qJ,qK]<;>omega)|exact qL _)) only [go_sem,↓reduceIte,n0,reduceCtorEq,n1,n2,n3,n4,n5,i0,i1,i2,i3,i4,i5,i6,i7,hb03,hb23,h5,h8,h9,h1,h2,h11,h12,h10k,hnn,beq_self_eq_true,bne_self_eq_false,ne_eq,not_true_eq_false,not_false_eq_true]
      exact ⟨(by simp (disch:=(first|omega|(simp only [qI,qJ,qK]<;>omega)|exact qL _)) only [go_sem,↓reduceIte,n0,reduceCtorEq,n1,n2,n3,n4,n5,i0,i1,i2,i3,i4,i5,i6,i7,Holds_nil,Holds_cons,h5,h8,h9,h1,h2,h11,h12]),rfl⟩
    cases hm : mayS f ver with
    | true =>
      have hnn := hd1 (.inr (.inr hm))
      try simp (disch:=(first|omega|(simp only [qI,qJ,qK]<;>omega)|exact qL _)) only [go_sem,↓reduceIte,n0,reduceCtorEq,n1,n2,n3,n4,n5,i0,i1,i2,i3,i4,i5,i6,i7,hb03,hb23,h5,h8,h9,h1,h2,h11,h12,hm,hnn,beq_self_eq_true,bne_self_eq_false,ne_eq,not_true_eq_false,not_false_eq_true]
      exact ⟨(by simp (disch:=(first|omega|(simp only [qI,qJ,qK]<;>omega)|exact qL _)) only [go_sem,↓reduceIte,n0,reduceCtorEq,n1,n2,n3,n4,n5,i0,i1,i2,i3,i4,i5,i6,i7,Holds_nil,Holds_cons,h5,h8,h9,h1,h2,h11,h12,hm]),rfl⟩
    | false =>
      try simp (disch:=(first|omega|(simp only [qI,qJ,qK]<;>omega)|exact qL _)) only [go_sem,↓reduceIte,n0,reduceCtorEq,n1,n2,n3,n4,n5,i0,i1,i2,i3,i4,i5,i6,i7,hb03,hb23,h5,h8,h9,h1,h2,h11,h12,hm,beq_self_eq_true,bne_self_eq_false,ne_eq,not_true_eq_false,not_false_eq_true]
      exact ⟨(by simp (disch:=(first|omega|(simp only [qI,qJ,qK]<;>omega)|exact qL _)) only [go_sem,↓reduceIte,n0,reduceCtorEq,n1,n2,n3,n4,n5,i0,i1,i2,i3,i4,i5,i6,i7,Holds_nil,Holds_cons,h5,h8,h9,h1,h2,h11,h12,hm]),rfl⟩
  clear h5 h8 h9 h1 h2 h11 h12
  rintro ρ w4 ⟨⟨h5,h8,h9,h1,h2,h11,-,h46,-⟩,hw4⟩
  obtain rfl := hw4.symm
  try simp (disch:=(first|omega|(simp only [qI,qJ,qK]<;>omega)|exact qL _)) only [go_sem,↓reduceIte,n0,reduceCtorEq,n1,n2,n3,n4,n5,i0,i1,i2,i3,i4,i5,i6,i7]
  cases hnul : nullS f ver t with
  | true =>
    repeat ((first | refine qA rfl ?_|apply qB|refine qC rfl ?_|apply qD|apply qE|apply qF|apply qG|apply qH);try simp (disch:=(first|omega|(simp only [qI,qJ,qK]<;>omega)|exact qL _)) only [go_sem,↓reduceIte,n0,reduceCtorEq,n1,n2,n3,n4,n5,i0,i1,i2,i3,i4,i5,i6,i7,h46,h11,hnul])
    all_goals exact hE03
  | false =>
    replace hd2 := hd2 hnul
    rw [if_pos h11k] at hd2
    obtain ⟨hlen,hel⟩ := hd2
    repeat ((first | refine qA rfl ?_|apply qB|refine qC rfl ?_|apply qD|apply qE|apply qF|apply qG|apply qH);try simp (disch:=(first|omega|(simp only [qI,qJ,qK]<;>omega)|exact qL _)) only [go_sem,↓reduceIte,n0,reduceCtorEq,n1,n2,n3,n4,n5,i0,i1,i2,i3,i4,i5,i6,i7,h46,h11,hnul,h5,h8,h9,hb03,hb13,hb23])
    refine (things_fn (ok := AnyB) t.l _ w3 (hL.keep (Ext.keeps hE03 _))).mono ?_
    rintro r4 w4 ⟨hL4,hw4⟩
    obtain rfl := hw4.symm
    obtain ⟨bl,cl,rfl,hcl⟩ := SlR.shape hL4
    have hlt : (thingsS t.l).length ≤ 32767 := by simp only [thingsS,List.length_take];omega
    have hsml : ∀ x ∈ thingsS t.l,Small 4611686018427387903 x := fun x hx => by
      obtain ⟨i,hi,rfl⟩ := List.getElem_of_mem (List.mem_of_mem_take hx)
      exact hsm.e i hi
    generalize thingsS t.l = L at *
    have hlen' : ((g.l.length : Nat) : Int) = (L.length : Nat) := by rw [hlen]
    have hgl : ∀ i (h : i < L.length),∃ (h' : i < g.l.length),g.at i = g.l[i] := fun i h => ⟨by omega,Tree.at_lt (by omega)⟩
    have hE4 : Ext w3 (wr (wr (wr (wr (w3.alloc (.cells #[.int .i64 0,.int .i64 0,.int .i64 0,.int .i64 0,.int .i64 0,.int .i64 0,.int .i64 0,.slice none 0 0] 46)) w3.heap.size 0 [.int .i64 f.kind,.int .i64 f.fr,.int .i64 f.to,.int .i64 f.null,.int .i64 f.tag,.int .i64 f.df,.int .i64 f.of,vs]) w3.heap.size 0 [.int .i64 f.of]) w3.heap.size 3 [.int .i64 (-1)]) w3.heap.size 4 [.int .i64 (-1)]) := (((((Upd.refl _ _).alloc _).wr _ _ (.inl (Nat.le_refl _))).wr _ _ (.inl (Nat.le_refl _))).wr _ _ (.inl (Nat.le_refl _))).wr _ _ (.inl (Nat.le_refl _))
    have hb4 : blk (wr (wr (wr (wr (w3.alloc (.cells #[.int .i64 0,.int .i64 0,.int .i64 0,.int .i64 0,.int .i64 0,.int .i64 0,.int .i64 0,.slice none 0 0] 46)) w3.heap.size 0 [.int .i64 f.kind,.int .i64 f.fr,.int .i64 f.to,.int .i64 f.null,.int .i64 f.tag,.int .i64 f.df,.int .i64 f.of,vs]) w3.heap.size 0 [.int .i64 f.of]) w3.heap.size 3 [.int .i64 (-1)]) w3.heap.size 4 [.int .i64 (-1)]) w3.heap.size = some (#[.int .i64 f.of,.int .i64 f.fr,.int .i64 f.to,.int .i64 (-1),.int .i64 (-1),.int .i64 f.df,.int .i64 f.of,vs],46,(0,0)) := by simp (disch:=(first|omega|(simp only [qI,qJ,qK]<;>omega)|exact qL _)) only [go_sem,↓reduceIte,n0,reduceCtorEq,n1,n2,n3,n4,n5,i0,i1,i2,i3,i4,i5,i6,i7]
    have hz4 : (wr (wr (wr (wr (w3.alloc (.cells #[.int .i64 0,.int .i64 0,.int .i64 0,.int .i64 0,.int .i64 0,.int .i64 0,.int .i64 0,.slice none 0 0] 46)) w3.heap.size 0 [.int .i64 f.kind,.int .i64 f.fr,.int .i64 f.to,.int .i64 f.null,.int .i64 f.tag,.int .i64 f.df,.int .i64 f.of,vs]) w3.heap.size 0 [.int .i64 f.of]) w3.heap.size 3 [.int .i64 (-1)]) w3.heap.size 4 [.int .i64 (-1)]).heap.size = w3.heap.size + 1 := by simp only [size_wr,World.size_alloc]
    try simp (disch:=(first|omega|(simp only [qI,qJ,qK]<;>omega)|exact qL _)) only [go_sem,↓reduceIte,n0,reduceCtorEq,n1,n2,n3,n4,n5,i0,i1,i2,i3,i4,i5,i6,i7]
    repeat ((first | refine qA rfl ?_|apply qB|refine qC rfl ?_|apply qD|apply qE|apply qF|apply qG|apply qH);try simp (disch:=(first|omega|(simp only [qI,qJ,qK]<;>omega)|exact qL _)) only [go_sem,↓reduceIte,n0,reduceCtorEq,n1,n2,n3,n4,n5,i0,i1,i2,i3,i4,i5,i6,i7,h5,h9,hb03,hb23,f0,hlen',cellsAt_eight,beq_self_eq_true,bne_self_eq_false,ne_eq,not_true_eq_false,not_false_eq_true])
    generalize (wr (wr (wr (wr (w3.alloc (.cells #[.int .i64 0,.int .i64 0,.int .i64 0,.int .i64 0,.int .i64 0,.int .i64 0,.int .i64 0,.slice none 0 0] 46)) w3.heap.size 0 [.int .i64 f.kind,.int .i64 f.fr,.int .i64 f.to,.int .i64 f.null,.int .i64 f.tag,.int .i64 f.df,.int .i64 f.of,vs]) w3.heap.size 0 [.int .i64 f.of]) w3.heap.size 3 [.int .i64 (-1)]) w3.heap.size 4 [.int .i64 (-1)]) = w4 at *
    have hE04 := hE03.trans hE4
    have hb24 := hE4.blk_some hb23 id
    have hof : 0 ≤ f.of ∧ f.of ≤ 10 := ⟨hB.2.2.2.2.2.2.1,hB.2.2.2.2.2.2.2⟩
    refine W.loop (LoopL [(97,.int .i64 L.length),(14,.slice bl L.length cl),(15,.pointer (some ⟨w3.heap.size,0,none⟩)),(9,.pointer (some ⟨w.heap.size + 2,0,none⟩)),(1,.int .i64 ver),(2,.bool flex)] 98 (fun j w' => j ≤ L.length ∧ Ext w4 w')) (fun ρ _ => L.length - (RowKit.intOf (ρ 98)).toNat) ?_ ?_
    · exact ⟨(by simp (disch:=(first|omega|(simp only [qI,qJ,qK]<;>omega)|exact qL _)) only [go_sem,↓reduceIte,n0,reduceCtorEq,n1,n2,n3,n4,n5,i0,i1,i2,i3,i4,i5,i6,i7,Holds_nil,Holds_cons,h9,h1,h2]),0,(by simp (disch:=(first|omega|(simp only [qI,qJ,qK]<;>omega)|exact qL _)) only [go_sem,↓reduceIte,n0,reduceCtorEq,n1,n2,n3,n4,n5,i0,i1,i2,i3,i4,i5,i6,i7];all_goals rfl),Nat.zero_le _,Upd.refl _ _⟩
    clear h5 h8 h9 h1 h2 h11 h46
    rintro ρ w5 ⟨⟨h97,h14,h15,h9,h1,h2,-⟩,j,h98,hj,hE5⟩
    have hz5 := hE5.size
    have hE05 := hE04.trans hE5
    by_cases hlt2 : j < L.length
    · skip
      obtain ⟨hjg,hatg⟩ := hgl j hlt2
      obtain ⟨hdn,hd1'⟩ := hel j hlt2
      rw [hatg] at hdn hd1'
      obtain ⟨_,b,o,x,vS',vL',vU',hb,hokb,hx,hblt,hxs,hxe,g1,g2,g3,hc⟩ := TreesV.get hL4 hlt2
      subst hb
      obtain ⟨_,b',o',x',uS',uL',uU',hb',hokb',hx',hblt',hxs',hxe',q1,q2,q3,hc'⟩ := TreesV.get hgL hjg
      subst hb'
      have hx5 : blk w5 b = some x := (hE4.trans hE5).blk_some hx id
      have hx5' : blk w5 b' = some x' := hE05.blk_some hx' id
      have hb45 := hE5.blk_some hb4 id
      have hb25 := hE5.blk_some hb24 id
      have hs1 := hsml L[j] (List.getElem_mem hlt2)
      have hs2 := hsg.e j hjg
      generalize L[j] = y at *
      generalize g.l[j] = z at *
      repeat ((first | refine qA rfl ?_|apply qB|refine qC rfl ?_|apply qD|apply qE|apply qF|apply qG|apply qH);try simp (disch:=(first|omega|(simp only [qI,qJ,qK]<;>omega)|exact qL _)) only [go_sem,↓reduceIte,n0,reduceCtorEq,n1,n2,n3,n4,n5,i0,i1,i2,i3,i4,i5,i6,i7,h98,h97])
      refine W.drawR (.take 0 (.take 1 (.take 2 (.take 3 (.take 4 (.take 5 (.take 6 (.take 7 (.take 8 (.take 9 (.take 10 (.take 11 (.only 12 (.take 13 .done)))))))))))))) NoB mixed (by kernel_rfl) ?_
      try simp (disch:=(first|omega|(simp only [qI,qJ,qK]<;>omega)|exact qL _)) only [go_sem,↓reduceIte,n0,reduceCtorEq,n1,n2,n3,n4,n5,i0,i1,i2,i3,i4,i5,i6,i7,h98,h14,h15,h9,h1,h2,hx5,hx5',hxe,hxe',g1,g2,g3,q1,q2,q3,hb45,hb25,cellsAt_five,cellsAt_eight,Int.toNat_natCast]
      have hEd : Ext w5 w5.drew := (Upd.refl _ _).drew
      have hE0d := hE05.trans hEd
      have hE3d := (hE4.trans hE5).trans hEd
      refine (told_one (T := T) (.mk f.of f.fr f.to (-1) (-1) f.df f.of f.sub) ver flex y z _ _ _ w5.drew (FldC.intro (hsub.keep (Ext.keeps hE0d _))) ⟨hof.1,Int.le_trans hof.2 (by decide),Int.le_refl (-1),(by decide : (-1 : Int) ≤ 1000),hB.2.2.2.2.1,hB.2.2.2.2.2.1,hof.1,hof.2⟩ (hc.keep (Ext.keeps hE3d _)) (hc'.keep (Ext.keeps hE0d _)) hs1 hs2 hT ?_ (by simp only [Fld.kind];omega)).mono ?_
      · have hnf : nullS (.mk f.of f.fr f.to (-1) (-1) f.df f.of f.sub) ver y = false := by simp [nullS,Fld.null]
        have hmf : mayS (.mk f.of f.fr f.to (-1) (-1) f.df f.of f.sub) ver = false := by simp [mayS,Fld.null]
        refine ⟨fun h => ?_,fun _ => ?_⟩
        · rw [hmf] at h
          rw [hnf]
          exact hdn (by rcases h with h | h | h <;> first | exact .inl h | exact .inr h | cases h)
        · rw [if_neg (by simp only [Fld.kind];omega)];exact hd1'
      rintro _ w6 ⟨rfl,hE6⟩
      refine ⟨hE6,?_⟩
      try simp (disch:=(first|omega|(simp only [qI,qJ,qK]<;>omega)|exact qL _)) only [go_sem,↓reduceIte,n0,reduceCtorEq,n1,n2,n3,n4,n5,i0,i1,i2,i3,i4,i5,i6,i7]
      repeat ((first | refine qA rfl ?_|apply qB|refine qC rfl ?_|apply qD|apply qE|apply qF|apply qG|apply qH);try simp (disch:=(first|omega|(simp only [qI,qJ,qK]<;>omega)|exact qL _)) only [go_sem,↓reduceIte,n0,reduceCtorEq,n1,n2,n3,n4,n5,i0,i1,i2,i3,i4,i5,i6,i7,h98])
      refine ⟨⟨(by simp (disch:=(first|omega|(simp only [qI,qJ,qK]<;>omega)|exact qL _)) only [go_sem,↓reduceIte,n0,reduceCtorEq,n1,n2,n3,n4,n5,i0,i1,i2,i3,i4,i5,i6,i7,Holds_nil,Holds_cons,h97,h14,h15,h9,h1,h2]),j + 1,(by simp (disch:=(first|omega|(simp only [qI,qJ,qK]<;>omega)|exact qL _)) only [go_sem,↓reduceIte,n0,reduceCtorEq,n1,n2,n3,n4,n5,i0,i1,i2,i3,i4,i5,i6,i7,h98];all_goals rfl),by omega,(hE5.trans hEd).trans hE6⟩,?_⟩
      try simp (disch:=(first|omega|(simp only [qI,qJ,qK]<;>omega)|exact qL _)) only [go_sem,↓reduceIte,n0,reduceCtorEq,n1,n2,n3,n4,n5,i0,i1,i2,i3,i4,i5,i6,i7,h98]
      simp only [RowKit.intOf]
      omega
    repeat ((first | refine qA rfl ?_|apply qB|refine qC rfl ?_|apply qD|apply qE|apply qF|apply qG|apply qH);try simp (disch:=(first|omega|(simp only [qI,qJ,qK]<;>omega)|exact qL _)) only [go_sem,↓reduceIte,n0,reduceCtorEq,n1,n2,n3,n4,n5,i0,i1,i2,i3,i4,i5,i6,i7,h98,h97])
    all_goals exact hE05
end Ms

namespace Ms
open Nat renaming reduceEqDiff → n0,reduceAdd → n1,reduceMul → n2,reduceSub → n3,reduceLT → n4,reduceLeDiff → n5
open Int renaming reduceEq → i0,reduceLT → i1,reduceLE → i2,reduceNeg → i3,reduceAdd → i4,reduceSub → i5,reduceMul → i6,reduceToNat → i7
set_option maxRecDepth 8000
open Go Go.Proofs Go.Shelf
attribute [local congr] W_congr WPsq_congr WPp_congr optK_congr addrK_congr intK_congr boolK_congr sliceK_congr tupleK_congr funcK_congr Fn_congr rawK_congr takeK_congr stepK_congr convK_congr aggK_congr

def Plan.pre : Nat → Plan → Plan → Plan
  | k + 1,.take i r,d => .take i (Plan.pre k r d)
  | k + 1,.only i r,d => .only i (Plan.pre k r d)
  | _,_,d => d
def Plan.drop : Nat → Plan → Plan
  | k + 1,.take _ r => Plan.drop k r
  | k + 1,.only _ r => Plan.drop k r
  | _,p => p
theorem Plan.pre_drop : ∀ (k : Nat) (p : Plan),Plan.pre k p (Plan.drop k p) = p
  | 0,p => by cases p <;> rfl
  | k + 1,.take i r => congrArg (Plan.take i) (Plan.pre_drop k r)
  | k + 1,.only i r => congrArg (Plan.only i) (Plan.pre_drop k r)
  | k + 1,.done => rfl
  | k + 1,.last _ => rfl
  | k + 1,.two .. => rfl
theorem W.drawO {P : Program} {n id : Nat} {ops : Array Oper} {Q : Exit → Regs → World → Prop} {ρ : Regs} {w : World} (p : Plan) (k : Nat) (M : Nat → Prop) (hm : P.follows .mixedOrders = true)
    (hc : (Region.noSelect ops && fitsL n ops.toList && (p.ok ops (Array.replicate ops.size false) && Nat.ble p.len ops.size)) = true)
    (h : ∀ DD,DD = Plan.drop k p → WPp P ops M w.drew (Plan.pre k p DD) (Q .normal) ρ w.drew) : W P n (.region id ops true) Q ρ w := by
  have := h _ rfl
  rw [Plan.pre_drop] at this
  exact W.drawR p M hm hc this

end Ms

namespace Ms
open Go.World renaming size_alloc → qI
open Ms renaming size_wr → qJ,size_drew → qK,not_noB → qL
open W renaming seqR → qA,seq → qB,regR → qC,condK → qD,block → qE,skip → qF,ret → qG,exit → qH
open Nat renaming reduceEqDiff → n0,reduceAdd → n1,reduceMul → n2,reduceSub → n3,reduceLT → n4,reduceLeDiff → n5
open Int renaming reduceEq → i0,reduceLT → i1,reduceLE → i2,reduceNeg → i3,reduceAdd → i4,reduceSub → i5,reduceMul → i6,reduceToNat → i7
set_option maxRecDepth 8000
set_option maxHeartbeats 24000000
open Go Go.Proofs Go.Shelf
attribute [local congr] W_congr WPsq_congr WPp_congr optK_congr addrK_congr intK_congr boolK_congr sliceK_congr tupleK_congr funcK_congr Fn_congr rawK_congr takeK_congr stepK_congr convK_congr aggK_congr

theorem Told_step {T : List Fld → Tree → Tree → Prop} {D : List Fld → Tree → Prop} {du : Nat} (fs : List Fld) (ver : Int) (flex : Bool) (t g : Tree) (vf : Value) (ct cg : List Value) (w : World) (hf : FldsV AnyB w vf fs) (hfl : fs.length ≤ 1000) (htag : ∀ f ∈ fs,f.tag ≤ 1000) (ht : TreeC AnyB w t ct) (hg : TreeC AnyB w g cg) (hsm : Small 4611686018427387903 t) (hsg : Small 4611686018427387903 g)
    (htold : ∀ f ∈ fs,∀ (x y : Tree) (cf cx cy : List Value) (w' : World),FldC AnyB w' f cf → TreeC AnyB w' x cx → TreeC AnyB w' y cy → Small 4611686018427387903 x → Small 4611686018427387903 y → ToldF T ver f x y → Fn Tryd.prog 21 #[.agg cf.toArray,.int .i64 ver,.bool flex,.agg cx.toArray,.agg cy.toArray] w' fun r w'' => r = .bool true ∧ Ext w' w'')
    (husual : ∀ f ∈ fs,∀ (x : Tree) (cf cx : List Value) (w' : World),FldC AnyB w' f cf → TreeC AnyB w' x cx → Small 4611686018427387903 x → Fn Tryd.prog 20 #[.agg cf.toArray,.agg cx.toArray] w' fun r w'' => r = .bool (usualS du f x) ∧ Ext w' w'')
    (hUsual : ∀ f ∈ fs,∀ (y : Tree) (vs : Value) (cy : List Value) (w' : World),FldsV AnyB w' vs [f] → TreeC AnyB w' (.mk 0 [] false [y] []) cy → Small 4611686018427387903 y → DfF D f y → Fn Tryd.prog 22 #[vs,.agg cy.toArray] w' fun r w'' => r = .bool true ∧ Ext w' w'')
    (hgl : g.l.length = fs.length) (hgu : g.u = (if flex = true then (unknownS fs t.u).map fun u => (u.1,wholeS u.2) else []))
    (hd : ∀ i (h : i < fs.length),if liveS du ver flex fs[i] (t.at i) = true then ToldF T ver fs[i] (t.at i) (g.at i) else DfF D fs[i] (g.at i)) :
    Fn Tryd.prog 8 #[vf,.int .i64 ver,.bool flex,.agg ct.toArray,.agg cg.toArray] w fun r w' => r = .bool true ∧ Ext w w' := by
  obtain ⟨bf,cf,rfl,hcf⟩ := SlR.shape hf
  obtain ⟨vS,vL,vU,rfl,hn,hS,hL,hU⟩ := ht.inv
  obtain ⟨gS,gL,gU,rfl,hgn,hgS,hgL,hgU⟩ := hg.inv
  have hl1 := hsm.s
  have hl2 := hsm.l
  have hl4 := hsg.l
  have f1 := hS.flat
  have f2 := SlR.flat hL
  have f3 := SlR.flat hU
  have k1 := hgS.flat
  have k2 := SlR.flat hgL
  have k3 := SlR.flat hgU
  obtain ⟨bG,cG,rfl,hcG⟩ := SlR.shape hgL
  obtain ⟨bU,cU,rfl,hcU⟩ := SlR.shape hgU
  have hgl' : ((g.l.length : Nat) : Int) = (fs.length : Nat) := by rw [hgl]
  have hE : Ext w ((w.alloc (.cells #[.int .i64 t.n,vS,.bool t.null,vL,vU] 26)).alloc (.cells #[.int .i64 g.n,gS,.bool g.null,.slice bG g.l.length cG,.slice bU g.u.length cU] 26)) := Upd.alloc (Upd.alloc (Upd.refl _ _) _) _
  refine fn_of_W Tryd.func8 rfl Tryd.results8 Tryd.ntmps8 rfl ?_
  repeat ((first | refine qA rfl ?_|apply qB|refine qC rfl ?_|apply qD|apply qE|apply qF|apply qG|apply qH);try simp (disch:=(first|omega|(simp only [qI,qJ,qK]<;>omega)|exact qL _)) only [go_sem,↓reduceIte,n0,reduceCtorEq,n1,n2,n3,n4,n5,i0,i1,i2,i3,i4,i5,i6,i7,f1,f2,f3,k1,k2,k3,cellsAt_five,cellsAt_eight,hgl',beq_self_eq_true,bne_self_eq_false,ne_eq,not_true_eq_false,not_false_eq_true])
  have hb1 : blk ((w.alloc (.cells #[.int .i64 t.n,vS,.bool t.null,vL,vU] 26)).alloc (.cells #[.int .i64 g.n,gS,.bool g.null,.slice bG g.l.length cG,.slice bU g.u.length cU] 26)) w.heap.size = some (#[.int .i64 t.n,vS,.bool t.null,vL,vU],26,(0,0)) := by simp (disch:=(first|omega|(simp only [qI,qJ,qK]<;>omega)|exact qL _)) only [go_sem,↓reduceIte,n0,reduceCtorEq,n1,n2,n3,n4,n5,i0,i1,i2,i3,i4,i5,i6,i7]
  have hb2 : blk ((w.alloc (.cells #[.int .i64 t.n,vS,.bool t.null,vL,vU] 26)).alloc (.cells #[.int .i64 g.n,gS,.bool g.null,.slice bG g.l.length cG,.slice bU g.u.length cU] 26)) (w.heap.size + 1) = some (#[.int .i64 g.n,gS,.bool g.null,.slice bG g.l.length cG,.slice bU g.u.length cU],26,(0,0)) := by simp (disch:=(first|omega|(simp only [qI,qJ,qK]<;>omega)|exact qL _)) only [go_sem,↓reduceIte,n0,reduceCtorEq,n1,n2,n3,n4,n5,i0,i1,i2,i3,i4,i5,i6,i7]
  have hz2 : ((w.alloc (.cells #[.int .i64 t.n,vS,.bool t.null,vL,vU] 26)).alloc (.cells #[.int .i64 g.n,gS,.bool g.null,.slice bG g.l.length cG,.slice bU g.u.length cU] 26)).heap.size = w.heap.size + 2 := by simp only [World.size_alloc]
  generalize ((w.alloc (.cells #[.int .i64 t.n,vS,.bool t.null,vL,vU] 26)).alloc (.cells #[.int .i64 g.n,gS,.bool g.null,.slice bG g.l.length cG,.slice bU g.u.length cU] 26)) = w2 at *
  refine W.exitJ 0 (EndQ [(0,.slice bf fs.length cf),(1,.int .i64 ver),(2,.bool flex),(8,.pointer (some ⟨w.heap.size,0,none⟩)),(9,.pointer (some ⟨w.heap.size + 1,0,none⟩))] (fun w' => Ext w2 w')) (W.loop (LoopL [(0,.slice bf fs.length cf),(1,.int .i64 ver),(2,.bool flex),(8,.pointer (some ⟨w.heap.size,0,none⟩)),(9,.pointer (some ⟨w.heap.size + 1,0,none⟩)),(24,.int .i64 fs.length),(23,.slice bf fs.length cf)] 25 (fun j w' => j ≤ fs.length ∧ Ext w2 w')) (fun ρ _ => fs.length - (RowKit.intOf (ρ 25)).toNat) ?_ ?_) ?_
  · exact ⟨(by simp (disch:=(first|omega|(simp only [qI,qJ,qK]<;>omega)|exact qL _)) only [go_sem,↓reduceIte,n0,reduceCtorEq,n1,n2,n3,n4,n5,i0,i1,i2,i3,i4,i5,i6,i7,Holds_nil,Holds_cons]),0,(by simp (disch:=(first|omega|(simp only [qI,qJ,qK]<;>omega)|exact qL _)) only [go_sem,↓reduceIte,n0,reduceCtorEq,n1,n2,n3,n4,n5,i0,i1,i2,i3,i4,i5,i6,i7];all_goals rfl),Nat.zero_le _,Upd.refl _ _⟩
  · skip
    rintro ρ w3 ⟨⟨h0,h1,h2,h8,h9,h24,h23,-⟩,j,h25,hj,hE3⟩
    have hz3 := hE3.size
    have hE03 : Ext w w3 := hE.trans hE3
    have hb13 := hE3.blk_some hb1 id
    have hb23 := hE3.blk_some hb2 id
    by_cases hlt : j < fs.length
    · skip
      have hdj := hd j hlt
      have hatg : g.at j = g.l[j]'(by omega) := Tree.at_lt (by omega)
      rw [hatg] at hdj
      obtain ⟨_,b,o,x,vs2,hb,hokb,hx,hblt,hxs,hxe,hfl2,hsub2⟩ := FldsV.get hf hlt
      subst hb
      obtain ⟨_,b',o',x',uS',uL',uU',hb',hokb',hx',hblt',hxs',hxe',q1,q2,q3,hc'⟩ := TreesV.get hgL (i := j) (by omega)
      subst hb'
      have hsg' := hsg.e j (by omega)
      have hx3 : blk w3 b = some x := hE03.blk_some hx id
      have hmem := List.getElem_mem hlt
      generalize hfj : fs[j] = f at *
      generalize g.l[j]'(by omega) = z at *
      have hE4 : Ext w3 (wr (w3.alloc (.cells #[.int .i64 0,.int .i64 0,.int .i64 0,.int .i64 0,.int .i64 0,.int .i64 0,.int .i64 0,.slice none 0 0] 46)) w3.heap.size 0 [.int .i64 f.kind,.int .i64 f.fr,.int .i64 f.to,.int .i64 f.null,.int .i64 f.tag,.int .i64 f.df,.int .i64 f.of,vs2]) := (Upd.alloc (Upd.refl _ _) _).wr _ _ (.inl (Nat.le_refl _))
      have hb4 : blk (wr (w3.alloc (.cells #[.int .i64 0,.int .i64 0,.int .i64 0,.int .i64 0,.int .i64 0,.int .i64 0,.int .i64 0,.slice none 0 0] 46)) w3.heap.size 0 [.int .i64 f.kind,.int .i64 f.fr,.int .i64 f.to,.int .i64 f.null,.int .i64 f.tag,.int .i64 f.df,.int .i64 f.of,vs2]) w3.heap.size = some (#[.int .i64 f.kind,.int .i64 f.fr,.int .i64 f.to,.int .i64 f.null,.int .i64 f.tag,.int .i64 f.df,.int .i64 f.of,vs2],46,(0,0)) := by rw [blk_wr_eq,blk_alloc_new rfl];rfl
      have hz4 : (wr (w3.alloc (.cells #[.int .i64 0,.int .i64 0,.int .i64 0,.int .i64 0,.int .i64 0,.int .i64 0,.int .i64 0,.slice none 0 0] 46)) w3.heap.size 0 [.int .i64 f.kind,.int .i64 f.fr,.int .i64 f.to,.int .i64 f.null,.int .i64 f.tag,.int .i64 f.df,.int .i64 f.of,vs2]).heap.size = w3.heap.size + 1 := by simp only [size_wr,World.size_alloc]
      repeat ((first | refine qA rfl ?_|apply qB|refine qC rfl ?_|apply qD|apply qE|apply qF|apply qG|apply qH);try simp (disch:=(first|omega|(simp only [qI,qJ,qK]<;>omega)|exact qL _)) only [go_sem,↓reduceIte,n0,reduceCtorEq,n1,n2,n3,n4,n5,i0,i1,i2,i3,i4,i5,i6,i7,h25,h24,h23,h8,hx3,hxe,hfl2,hb13,cellsAt_five,cellsAt_eight,Int.toNat_natCast])
      generalize (wr (w3.alloc (.cells #[.int .i64 0,.int .i64 0,.int .i64 0,.int .i64 0,.int .i64 0,.int .i64 0,.int .i64 0,.slice none 0 0] 46)) w3.heap.size 0 [.int .i64 f.kind,.int .i64 f.fr,.int .i64 f.to,.int .i64 f.null,.int .i64 f.tag,.int .i64 f.df,.int .i64 f.of,vs2]) = w4 at *
      have hE04 := hE03.trans hE4
      refine (at_fn (ok := AnyB) t j _ w4 (ht.keep (Ext.keeps hE04 _)) (by omega) (by omega)).mono ?_
      rintro _ w5 ⟨⟨c5,rfl,hc5⟩,hE5⟩
      have hsx : Small 4611686018427387903 (t.at j) := hsm.at j
      generalize t.at j = y at *
      obtain ⟨xS,xL,xU,rfl,hxn,hxS,hxL,hxU⟩ := hc5.inv
      have m1 := hxS.flat
      have m2 := SlR.flat hxL
      have m3 := SlR.flat hxU
      have hz5 := hE5.size
      have hb45 := hE5.blk_some hb4 id
      have hE05 := hE04.trans hE5
      have hE6 : Ext w5 (wr (w5.alloc (.cells #[.int .i64 0,.slice none 0 0,.bool false,.slice none 0 0,.slice none 0 0] 26)) w5.heap.size 0 [.int .i64 y.n,xS,.bool y.null,xL,xU]) := (Upd.alloc (Upd.refl _ _) _).wr _ _ (.inl (Nat.le_refl _))
      have hb6 : blk (wr (w5.alloc (.cells #[.int .i64 0,.slice none 0 0,.bool false,.slice none 0 0,.slice none 0 0] 26)) w5.heap.size 0 [.int .i64 y.n,xS,.bool y.null,xL,xU]) w5.heap.size = some (#[.int .i64 y.n,xS,.bool y.null,xL,xU],26,(0,0)) := by rw [blk_wr_eq,blk_alloc_new rfl];rfl
      have hz6 : (wr (w5.alloc (.cells #[.int .i64 0,.slice none 0 0,.bool false,.slice none 0 0,.slice none 0 0] 26)) w5.heap.size 0 [.int .i64 y.n,xS,.bool y.null,xL,xU]).heap.size = w5.heap.size + 1 := by simp only [size_wr,World.size_alloc]
      try simp (disch:=(first|omega|(simp only [qI,qJ,qK]<;>omega)|exact qL _)) only [go_sem,↓reduceIte,n0,reduceCtorEq,n1,n2,n3,n4,n5,i0,i1,i2,i3,i4,i5,i6,i7,m1,m2,m3]
      generalize (wr (w5.alloc (.cells #[.int .i64 0,.slice none 0 0,.bool false,.slice none 0 0,.slice none 0 0] 26)) w5.heap.size 0 [.int .i64 y.n,xS,.bool y.null,xL,xU]) = w6 at *
      have hb46 := hE6.blk_some hb45 id
      have hE36 : Ext w3 w6 := (hE4.trans hE5).trans hE6
      have hE06 := hE03.trans hE36
      have hfc6 : FldC AnyB w6 f _ := FldC.of (hsub2.keep (Ext.keeps hE06 _))
      have hc6 := hc5.keep (Ext.keeps hE6 _)
      repeat refine W.seq ?_
      refine W.normJ (EndQ [(0,.slice (some ⟨b,o,none⟩) fs.length cf),(1,.int .i64 ver),(2,.bool flex),(8,.pointer (some ⟨w.heap.size,0,none⟩)),(9,.pointer (some ⟨w.heap.size + 1,0,none⟩)),(24,.int .i64 fs.length),(23,.slice (some ⟨b,o,none⟩) fs.length cf),(25,.int .i64 j),(11,.int .i64 j),(12,.pointer (some ⟨w3.heap.size,0,none⟩)),(13,.pointer (some ⟨w5.heap.size,0,none⟩)),(54,.bool (liveS du ver flex f y))] (fun w' => Ext w6 w')) ?_ ?_
      · skip
        by_cases htg : f.tag < 0
        · skip
          refine W.regO 7 rfl fun O DD hO hDD => ?_
          have hg3 : (O[3]?).bind (·.dst) = some 36 := by rw [hO];rfl
          have hg8 : (O[8]?).bind (·.dst) = some 41 := by rw [hO];rfl
          have hg12 : (O[12]?).bind (·.dst) = some 45 := by rw [hO];rfl
          have hg15 : (O[15]?).bind (·.dst) = some 48 := by rw [hO];rfl
          clear hO
          simp only [List.take_succ_cons,List.take_zero,List.cons_append,List.nil_append]
          simp (disch:=(first|omega|(simp only [qI,qJ,qK]<;>omega)|exact qL _)) only [go_sem,↓reduceIte,n0,reduceCtorEq,n1,n2,n3,n4,n5,i0,i1,i2,i3,i4,i5,i6,i7,h0,h1,h2,h8,h9,h24,h23,h25,hg3,hg8,hg12,hg15,hb46,htg,cellsAt_eight]
          refine (Has_fn (ok := AnyB) f ver _ w6 hfc6).mono ?_
          rintro _ w7 ⟨rfl,hE7⟩
          have htg' : ¬ 0 ≤ f.tag := by omega
          have hb47 := hE7.blk_some hb46 id
          cases hh : hasS f ver with
          | true =>
            have hlv : liveS du ver flex f y = true := by simp [liveS,hh,htg,htg']
            rw [hDD]
            clear hDD
            simp only [List.drop_succ_cons,List.drop_zero]
            simp (disch:=(first|omega|(simp only [qI,qJ,qK]<;>omega)|exact qL _)) only [go_sem,↓reduceIte,n0,reduceCtorEq,n1,n2,n3,n4,n5,i0,i1,i2,i3,i4,i5,i6,i7,h0,h1,h2,h8,h9,h24,h23,h25,hg3,hg8,hg12,hg15,hh,hb47,htg]
            exact ⟨(by simp (disch:=(first|omega|(simp only [qI,qJ,qK]<;>omega)|exact qL _)) only [go_sem,↓reduceIte,n0,reduceCtorEq,n1,n2,n3,n4,n5,i0,i1,i2,i3,i4,i5,i6,i7,Holds_nil,Holds_cons,h0,h1,h2,h8,h9,h24,h23,h25,hlv]),hE7⟩
          | false =>
            have hlv : liveS du ver flex f y = false := by simp [liveS,hh,htg,htg']
            rw [hDD]
            clear hDD
            simp only [List.drop_succ_cons,List.drop_zero]
            simp (disch:=(first|omega|(simp only [qI,qJ,qK]<;>omega)|exact qL _)) only [go_sem,↓reduceIte,n0,reduceCtorEq,n1,n2,n3,n4,n5,i0,i1,i2,i3,i4,i5,i6,i7,h0,h1,h2,h8,h9,h24,h23,h25,hg3,hg8,hg12,hg15,hh,hb47,htg]
            exact ⟨(by simp (disch:=(first|omega|(simp only [qI,qJ,qK]<;>omega)|exact qL _)) only [go_sem,↓reduceIte,n0,reduceCtorEq,n1,n2,n3,n4,n5,i0,i1,i2,i3,i4,i5,i6,i7,Holds_nil,Holds_cons,h0,h1,h2,h8,h9,h24,h23,h25,hlv]),hE7⟩
        have htg' : 0 ≤ f.tag := by omega
        cases flex with
        | false =>
          have hlv : liveS du ver false f y = false := by simp [liveS,htg,htg']
          refine W.regO 22 rfl fun O DD hO hDD => ?_
          have hg3 : (O[3]?).bind (·.dst) = some 36 := by rw [hO];rfl
          have hg8 : (O[8]?).bind (·.dst) = some 41 := by rw [hO];rfl
          have hg12 : (O[12]?).bind (·.dst) = some 45 := by rw [hO];rfl
          have hg15 : (O[15]?).bind (·.dst) = some 48 := by rw [hO];rfl
          clear hO
          simp only [List.take_succ_cons,List.take_zero,List.cons_append,List.nil_append]
          have hDD0 : DD = [] := by rw [hDD];rfl
          subst hDD0
          clear hDD
          simp (disch:=(first|omega|(simp only [qI,qJ,qK]<;>omega)|exact qL _)) only [go_sem,↓reduceIte,n0,reduceCtorEq,n1,n2,n3,n4,n5,i0,i1,i2,i3,i4,i5,i6,i7,h0,h1,h2,h8,h9,h24,h23,h25,hg3,hg8,hg12,hg15,hb46,htg]
          exact ⟨(by simp (disch:=(first|omega|(simp only [qI,qJ,qK]<;>omega)|exact qL _)) only [go_sem,↓reduceIte,n0,reduceCtorEq,n1,n2,n3,n4,n5,i0,i1,i2,i3,i4,i5,i6,i7,Holds_nil,Holds_cons,h0,h1,h2,h8,h9,h24,h23,h25,hlv]),Upd.refl _ _⟩
        | true =>
          refine W.regO 19 rfl fun O DD hO hDD => ?_
          have hg3 : (O[3]?).bind (·.dst) = some 36 := by rw [hO];rfl
          have hg8 : (O[8]?).bind (·.dst) = some 41 := by rw [hO];rfl
          have hg12 : (O[12]?).bind (·.dst) = some 45 := by rw [hO];rfl
          have hg15 : (O[15]?).bind (·.dst) = some 48 := by rw [hO];rfl
          clear hO
          simp only [List.take_succ_cons,List.take_zero,List.cons_append,List.nil_append]
          simp (disch:=(first|omega|(simp only [qI,qJ,qK]<;>omega)|exact qL _)) only [go_sem,↓reduceIte,n0,reduceCtorEq,n1,n2,n3,n4,n5,i0,i1,i2,i3,i4,i5,i6,i7,h0,h1,h2,h8,h9,h24,h23,h25,hg3,hg8,hg12,hg15,hb46,hb6,htg,cellsAt_eight,cellsAt_five]
          refine (husual f (hfj ▸ hmem) y _ _ w6 hfc6 hc6 hsx).mono ?_
          rintro _ w7 ⟨rfl,hE7⟩
          cases hh : usualS du f y with
          | true =>
            have hlv : liveS du ver true f y = false := by simp [liveS,hh,htg,htg']
            rw [hDD]
            clear hDD
            simp only [List.drop_succ_cons,List.drop_zero]
            simp (disch:=(first|omega|(simp only [qI,qJ,qK]<;>omega)|exact qL _)) only [go_sem,↓reduceIte,n0,reduceCtorEq,n1,n2,n3,n4,n5,i0,i1,i2,i3,i4,i5,i6,i7,h0,h1,h2,h8,h9,h24,h23,h25,hg3,hg8,hg12,hg15,hh,htg]
            exact ⟨(by simp (disch:=(first|omega|(simp only [qI,qJ,qK]<;>omega)|exact qL _)) only [go_sem,↓reduceIte,n0,reduceCtorEq,n1,n2,n3,n4,n5,i0,i1,i2,i3,i4,i5,i6,i7,Holds_nil,Holds_cons,h0,h1,h2,h8,h9,h24,h23,h25,hlv]),hE7⟩
          | false =>
            have hlv : liveS du ver true f y = true := by simp [liveS,hh,htg,htg']
            rw [hDD]
            clear hDD
            simp only [List.drop_succ_cons,List.drop_zero]
            simp (disch:=(first|omega|(simp only [qI,qJ,qK]<;>omega)|exact qL _)) only [go_sem,↓reduceIte,n0,reduceCtorEq,n1,n2,n3,n4,n5,i0,i1,i2,i3,i4,i5,i6,i7,h0,h1,h2,h8,h9,h24,h23,h25,hg3,hg8,hg12,hg15,hh,htg]
            exact ⟨(by simp (disch:=(first|omega|(simp only [qI,qJ,qK]<;>omega)|exact qL _)) only [go_sem,↓reduceIte,n0,reduceCtorEq,n1,n2,n3,n4,n5,i0,i1,i2,i3,i4,i5,i6,i7,Holds_nil,Holds_cons,h0,h1,h2,h8,h9,h24,h23,h25,hlv]),hE7⟩
      clear h0 h1 h2 h8 h9 h24 h23 h25
      rintro ρ w7 ⟨⟨h0,h1,h2,h8,h9,h24,h23,h25,h11,h12,h13,h54,-⟩,hE7⟩
      try simp (disch:=(first|omega|(simp only [qI,qJ,qK]<;>omega)|exact qL _)) only [go_sem,↓reduceIte,n0,reduceCtorEq,n1,n2,n3,n4,n5,i0,i1,i2,i3,i4,i5,i6,i7]
      have hE37 := hE36.trans hE7
      have hE07 := hE03.trans hE37
      have hb47 := hE7.blk_some hb46 id
      have hb67 := hE7.blk_some hb6 id
      have hb27 := hE37.blk_some hb23 id
      have hx7' : blk w7 b' = some x' := hE07.blk_some hx' id
      have hz7 := hE7.size
      have hEd : Ext w7 w7.drew := (Upd.refl _ _).drew
      have hE0d := hE07.trans hEd
      have hE2d := (hE3.trans hE37).trans hEd
      cases hlv : liveS du ver flex f y with
      | true =>
        rw [if_pos hlv] at hdj
        repeat ((first | refine qA rfl ?_|apply qB|refine qC rfl ?_|apply qD|apply qE|apply qF|apply qG|apply qH);try simp (disch:=(first|omega|(simp only [qI,qJ,qK]<;>omega)|exact qL _)) only [go_sem,↓reduceIte,n0,reduceCtorEq,n1,n2,n3,n4,n5,i0,i1,i2,i3,i4,i5,i6,i7,h54,hlv])
        refine W.drawR (.take 0 (.take 1 (.take 2 (.take 3 (.take 4 (.take 5 (.take 6 (.take 7 (.take 8 (.only 9 (.take 10 .done))))))))))) NoB mixed (by kernel_rfl) ?_
        try simp (disch:=(first|omega|(simp only [qI,qJ,qK]<;>omega)|exact qL _)) only [go_sem,↓reduceIte,n0,reduceCtorEq,n1,n2,n3,n4,n5,i0,i1,i2,i3,i4,i5,i6,i7,h0,h1,h2,h8,h9,h24,h23,h25,h11,h12,h13,hb47,hb67,hb27,hx7',hxe',q1,q2,q3,cellsAt_five,cellsAt_eight,Int.toNat_natCast]
        refine (htold f (hfj ▸ hmem) y z _ _ _ w7.drew (FldC.of (hsub2.keep (Ext.keeps hE0d _))) (hc6.keep (Ext.keeps (hE7.trans hEd) _)) (hc'.keep (Ext.keeps hE0d _)) hsx hsg' hdj).mono ?_
        rintro _ w8 ⟨rfl,hE8⟩
        refine ⟨hE8,?_⟩
        try simp (disch:=(first|omega|(simp only [qI,qJ,qK]<;>omega)|exact qL _)) only [go_sem,↓reduceIte,n0,reduceCtorEq,n1,n2,n3,n4,n5,i0,i1,i2,i3,i4,i5,i6,i7]
        repeat ((first | refine qA rfl ?_|apply qB|refine qC rfl ?_|apply qD|apply qE|apply qF|apply qG|apply qH);try simp (disch:=(first|omega|(simp only [qI,qJ,qK]<;>omega)|exact qL _)) only [go_sem,↓reduceIte,n0,reduceCtorEq,n1,n2,n3,n4,n5,i0,i1,i2,i3,i4,i5,i6,i7,h25])
        refine ⟨⟨(by simp (disch:=(first|omega|(simp only [qI,qJ,qK]<;>omega)|exact qL _)) only [go_sem,↓reduceIte,n0,reduceCtorEq,n1,n2,n3,n4,n5,i0,i1,i2,i3,i4,i5,i6,i7,Holds_nil,Holds_cons,h0,h1,h2,h8,h9,h24,h23]),j + 1,(by simp (disch:=(first|omega|(simp only [qI,qJ,qK]<;>omega)|exact qL _)) only [go_sem,↓reduceIte,n0,reduceCtorEq,n1,n2,n3,n4,n5,i0,i1,i2,i3,i4,i5,i6,i7,h25];all_goals rfl),by omega,hE2d.trans hE8⟩,?_⟩
        try simp (disch:=(first|omega|(simp only [qI,qJ,qK]<;>omega)|exact qL _)) only [go_sem,↓reduceIte,n0,reduceCtorEq,n1,n2,n3,n4,n5,i0,i1,i2,i3,i4,i5,i6,i7,h25]
        simp only [RowKit.intOf]
        omega
      | false =>
        rw [if_neg (by rw [hlv];decide)] at hdj
        repeat ((first | refine qA rfl ?_|apply qB|refine qC rfl ?_|apply qD|apply qE|apply qF|apply qG|apply qH);try simp (disch:=(first|omega|(simp only [qI,qJ,qK]<;>omega)|exact qL _)) only [go_sem,↓reduceIte,n0,reduceCtorEq,n1,n2,n3,n4,n5,i0,i1,i2,i3,i4,i5,i6,i7,h54,hlv])
        refine W.drawR (.take 0 (.take 2 (.take 3 (.take 4 (.take 5 (.take 6 (.two 1 (.only 7 (.only 8 (.only 9 (.take 10 .done)))) 7 (.two 1 (.only 8 (.only 9 (.take 10 .done))) 8 (.only 1 (.only 9 (.take 10 .done))))))))))) NoB mixed (by kernel_rfl) ?_
        try simp (disch:=(first|omega|(simp only [qI,qJ,qK]<;>omega)|exact qL _)) only [go_sem,↓reduceIte,n0,reduceCtorEq,n1,n2,n3,n4,n5,i0,i1,i2,i3,i4,i5,i6,i7,h0,h1,h2,h8,h9,h24,h23,h25,h11,h12,h13,hb47,hb27,hx7',hxe',hfl2,q1,q2,q3,cellsAt_five,cellsAt_eight,Int.toNat_natCast]
        have hsub7 := hsub2.keep (Ext.keeps hE0d _)
        have hc7 := hc'.keep (Ext.keeps hE0d _)
        have hgx : FldC AnyB w7.drew f _ := FldC.of hsub7
        refine ⟨?_,?_⟩
        · skip
          try simp (disch:=(first|omega|(simp only [qI,qJ,qK]<;>omega)|exact qL _)) only [go_sem,↓reduceIte,n0,reduceCtorEq,n1,n2,n3,n4,n5,i0,i1,i2,i3,i4,i5,i6,i7,hfl2,q1,q2,q3]
          refine ⟨Upd.alloc (Upd.refl _ _) _,?_⟩
          try simp (disch:=(first|omega|(simp only [qI,qJ,qK]<;>omega)|exact qL _)) only [go_sem,↓reduceIte,n0,reduceCtorEq,n1,n2,n3,n4,n5,i0,i1,i2,i3,i4,i5,i6,i7,hfl2,q1,q2,q3]
          refine ⟨Upd.alloc (Upd.alloc (Upd.refl _ _) _) _,?_⟩
          try simp (disch:=(first|omega|(simp only [qI,qJ,qK]<;>omega)|exact qL _)) only [go_sem,↓reduceIte,n0,reduceCtorEq,n1,n2,n3,n4,n5,i0,i1,i2,i3,i4,i5,i6,i7,hfl2,q1,q2,q3]
          refine ⟨Upd.alloc (Upd.alloc (Upd.refl _ _) _) _,?_⟩
          try simp (disch:=(first|omega|(simp only [qI,qJ,qK]<;>omega)|exact qL _)) only [go_sem,↓reduceIte,n0,reduceCtorEq,n1,n2,n3,n4,n5,i0,i1,i2,i3,i4,i5,i6,i7]
          try simp only [List.cons_append,List.nil_append,List.append_nil]
          have hEt : Ext w7.drew (((w7.alloc (.cells #[.int .i64 f.kind,.int .i64 f.fr,.int .i64 f.to,.int .i64 f.null,.int .i64 f.tag,.int .i64 f.df,.int .i64 f.of,vs2] 46)).alloc (.cells #[.int .i64 z.n,uS',.bool z.null,uL',uU'] 26)).drew) := Upd.alloc (Upd.alloc (Upd.refl _ w7.drew) _) _
          have hbF : blk (((w7.alloc (.cells #[.int .i64 f.kind,.int .i64 f.fr,.int .i64 f.to,.int .i64 f.null,.int .i64 f.tag,.int .i64 f.df,.int .i64 f.of,vs2] 46)).alloc (.cells #[.int .i64 z.n,uS',.bool z.null,uL',uU'] 26)).drew) (w7.heap.size) = some (#[.int .i64 f.kind,.int .i64 f.fr,.int .i64 f.to,.int .i64 f.null,.int .i64 f.tag,.int .i64 f.df,.int .i64 f.of,vs2],46,(0,0)) := by simp (disch:=(first|omega|(simp only [qI,qJ,qK]<;>omega)|exact qL _)) only [go_sem,↓reduceIte,n0,reduceCtorEq,n1,n2,n3,n4,n5,i0,i1,i2,i3,i4,i5,i6,i7]
          have hbX : blk (((w7.alloc (.cells #[.int .i64 f.kind,.int .i64 f.fr,.int .i64 f.to,.int .i64 f.null,.int .i64 f.tag,.int .i64 f.df,.int .i64 f.of,vs2] 46)).alloc (.cells #[.int .i64 z.n,uS',.bool z.null,uL',uU'] 26)).drew) (w7.heap.size + 1) = some (#[.int .i64 z.n,uS',.bool z.null,uL',uU'],26,(0,0)) := by simp (disch:=(first|omega|(simp only [qI,qJ,qK]<;>omega)|exact qL _)) only [go_sem,↓reduceIte,n0,reduceCtorEq,n1,n2,n3,n4,n5,i0,i1,i2,i3,i4,i5,i6,i7]
          generalize (((w7.alloc (.cells #[.int .i64 f.kind,.int .i64 f.fr,.int .i64 f.to,.int .i64 f.null,.int .i64 f.tag,.int .i64 f.df,.int .i64 f.of,vs2] 46)).alloc (.cells #[.int .i64 z.n,uS',.bool z.null,uL',uU'] 26)).drew) = w8 at *
          have hv8 : FldsV AnyB w8 _ [f] := FldsV.one hbF (hsub7.keep (Ext.keeps hEt _))
          have hl8 : TreesV AnyB w8 _ [z] := TreesV.one hbX (hc7.keep (Ext.keeps hEt _))
          refine (hUsual f (hfj ▸ hmem) z _ _ w8 hv8 (TreeC.intro rfl (BytesV.nil _ _) hl8 (tagsN _ _)) hsg' hdj).mono ?_
          rintro _ w9 ⟨rfl,hE9⟩
          refine ⟨hEt.trans hE9,?_⟩
          try simp (disch:=(first|omega|(simp only [qI,qJ,qK]<;>omega)|exact qL _)) only [go_sem,↓reduceIte,n0,reduceCtorEq,n1,n2,n3,n4,n5,i0,i1,i2,i3,i4,i5,i6,i7]
          repeat ((first | refine qA rfl ?_|apply qB|refine qC rfl ?_|apply qD|apply qE|apply qF|apply qG|apply qH);try simp (disch:=(first|omega|(simp only [qI,qJ,qK]<;>omega)|exact qL _)) only [go_sem,↓reduceIte,n0,reduceCtorEq,n1,n2,n3,n4,n5,i0,i1,i2,i3,i4,i5,i6,i7,h25])
          refine ⟨⟨(by simp (disch:=(first|omega|(simp only [qI,qJ,qK]<;>omega)|exact qL _)) only [go_sem,↓reduceIte,n0,reduceCtorEq,n1,n2,n3,n4,n5,i0,i1,i2,i3,i4,i5,i6,i7,Holds_nil,Holds_cons,h0,h1,h2,h8,h9,h24,h23]),j + 1,(by simp (disch:=(first|omega|(simp only [qI,qJ,qK]<;>omega)|exact qL _)) only [go_sem,↓reduceIte,n0,reduceCtorEq,n1,n2,n3,n4,n5,i0,i1,i2,i3,i4,i5,i6,i7,h25];all_goals rfl),by omega,hE2d.trans (hEt.trans hE9)⟩,?_⟩
          try simp (disch:=(first|omega|(simp only [qI,qJ,qK]<;>omega)|exact qL _)) only [go_sem,↓reduceIte,n0,reduceCtorEq,n1,n2,n3,n4,n5,i0,i1,i2,i3,i4,i5,i6,i7,h25]
          simp only [RowKit.intOf]
          omega
        try simp (disch:=(first|omega|(simp only [qI,qJ,qK]<;>omega)|exact qL _)) only [go_sem,↓reduceIte,n0,reduceCtorEq,n1,n2,n3,n4,n5,i0,i1,i2,i3,i4,i5,i6,i7,hfl2,q1,q2,q3]
        refine ⟨Upd.alloc (Upd.refl _ _) _,?_⟩
        try simp (disch:=(first|omega|(simp only [qI,qJ,qK]<;>omega)|exact qL _)) only [go_sem,↓reduceIte,n0,reduceCtorEq,n1,n2,n3,n4,n5,i0,i1,i2,i3,i4,i5,i6,i7,hfl2,q1,q2,q3]
        refine ⟨?_,?_⟩
        · skip
          try simp (disch:=(first|omega|(simp only [qI,qJ,qK]<;>omega)|exact qL _)) only [go_sem,↓reduceIte,n0,reduceCtorEq,n1,n2,n3,n4,n5,i0,i1,i2,i3,i4,i5,i6,i7,hfl2,q1,q2,q3]
          refine ⟨Upd.alloc (Upd.alloc (Upd.refl _ _) _) _,?_⟩
          try simp (disch:=(first|omega|(simp only [qI,qJ,qK]<;>omega)|exact qL _)) only [go_sem,↓reduceIte,n0,reduceCtorEq,n1,n2,n3,n4,n5,i0,i1,i2,i3,i4,i5,i6,i7,hfl2,q1,q2,q3]
          refine ⟨Upd.alloc (Upd.alloc (Upd.refl _ _) _) _,?_⟩
          try simp (disch:=(first|omega|(simp only [qI,qJ,qK]<;>omega)|exact qL _)) only [go_sem,↓reduceIte,n0,reduceCtorEq,n1,n2,n3,n4,n5,i0,i1,i2,i3,i4,i5,i6,i7]
          try simp only [List.cons_append,List.nil_append,List.append_nil]
          have hEt : Ext w7.drew (((w7.alloc (.cells #[.int .i64 z.n,uS',.bool z.null,uL',uU'] 26)).alloc (.cells #[.int .i64 f.kind,.int .i64 f.fr,.int .i64 f.to,.int .i64 f.null,.int .i64 f.tag,.int .i64 f.df,.int .i64 f.of,vs2] 46)).drew) := Upd.alloc (Upd.alloc (Upd.refl _ w7.drew) _) _
          have hbF : blk (((w7.alloc (.cells #[.int .i64 z.n,uS',.bool z.null,uL',uU'] 26)).alloc (.cells #[.int .i64 f.kind,.int .i64 f.fr,.int .i64 f.to,.int .i64 f.null,.int .i64 f.tag,.int .i64 f.df,.int .i64 f.of,vs2] 46)).drew) (w7.heap.size + 1) = some (#[.int .i64 f.kind,.int .i64 f.fr,.int .i64 f.to,.int .i64 f.null,.int .i64 f.tag,.int .i64 f.df,.int .i64 f.of,vs2],46,(0,0)) := by simp (disch:=(first|omega|(simp only [qI,qJ,qK]<;>omega)|exact qL _)) only [go_sem,↓reduceIte,n0,reduceCtorEq,n1,n2,n3,n4,n5,i0,i1,i2,i3,i4,i5,i6,i7]
          have hbX : blk (((w7.alloc (.cells #[.int .i64 z.n,uS',.bool z.null,uL',uU'] 26)).alloc (.cells #[.int .i64 f.kind,.int .i64 f.fr,.int .i64 f.to,.int .i64 f.null,.int .i64 f.tag,.int .i64 f.df,.int .i64 f.of,vs2] 46)).drew) (w7.heap.size) = some (#[.int .i64 z.n,uS',.bool z.null,uL',uU'],26,(0,0)) := by simp (disch:=(first|omega|(simp only [qI,qJ,qK]<;>omega)|exact qL _)) only [go_sem,↓reduceIte,n0,reduceCtorEq,n1,n2,n3,n4,n5,i0,i1,i2,i3,i4,i5,i6,i7]
          generalize (((w7.alloc (.cells #[.int .i64 z.n,uS',.bool z.null,uL',uU'] 26)).alloc (.cells #[.int .i64 f.kind,.int .i64 f.fr,.int .i64 f.to,.int .i64 f.null,.int .i64 f.tag,.int .i64 f.df,.int .i64 f.of,vs2] 46)).drew) = w8 at *
          have hv8 : FldsV AnyB w8 _ [f] := FldsV.one hbF (hsub7.keep (Ext.keeps hEt _))
          have hl8 : TreesV AnyB w8 _ [z] := TreesV.one hbX (hc7.keep (Ext.keeps hEt _))
          refine (hUsual f (hfj ▸ hmem) z _ _ w8 hv8 (TreeC.intro rfl (BytesV.nil _ _) hl8 (tagsN _ _)) hsg' hdj).mono ?_
          rintro _ w9 ⟨rfl,hE9⟩
          refine ⟨hEt.trans hE9,?_⟩
          try simp (disch:=(first|omega|(simp only [qI,qJ,qK]<;>omega)|exact qL _)) only [go_sem,↓reduceIte,n0,reduceCtorEq,n1,n2,n3,n4,n5,i0,i1,i2,i3,i4,i5,i6,i7]
          repeat ((first | refine qA rfl ?_|apply qB|refine qC rfl ?_|apply qD|apply qE|apply qF|apply qG|apply qH);try simp (disch:=(first|omega|(simp only [qI,qJ,qK]<;>omega)|exact qL _)) only [go_sem,↓reduceIte,n0,reduceCtorEq,n1,n2,n3,n4,n5,i0,i1,i2,i3,i4,i5,i6,i7,h25])
          refine ⟨⟨(by simp (disch:=(first|omega|(simp only [qI,qJ,qK]<;>omega)|exact qL _)) only [go_sem,↓reduceIte,n0,reduceCtorEq,n1,n2,n3,n4,n5,i0,i1,i2,i3,i4,i5,i6,i7,Holds_nil,Holds_cons,h0,h1,h2,h8,h9,h24,h23]),j + 1,(by simp (disch:=(first|omega|(simp only [qI,qJ,qK]<;>omega)|exact qL _)) only [go_sem,↓reduceIte,n0,reduceCtorEq,n1,n2,n3,n4,n5,i0,i1,i2,i3,i4,i5,i6,i7,h25];all_goals rfl),by omega,hE2d.trans (hEt.trans hE9)⟩,?_⟩
          try simp (disch:=(first|omega|(simp only [qI,qJ,qK]<;>omega)|exact qL _)) only [go_sem,↓reduceIte,n0,reduceCtorEq,n1,n2,n3,n4,n5,i0,i1,i2,i3,i4,i5,i6,i7,h25]
          simp only [RowKit.intOf]
          omega
        try simp (disch:=(first|omega|(simp only [qI,qJ,qK]<;>omega)|exact qL _)) only [go_sem,↓reduceIte,n0,reduceCtorEq,n1,n2,n3,n4,n5,i0,i1,i2,i3,i4,i5,i6,i7,hfl2,q1,q2,q3]
        refine ⟨Upd.alloc (Upd.refl _ _) _,?_⟩
        try simp (disch:=(first|omega|(simp only [qI,qJ,qK]<;>omega)|exact qL _)) only [go_sem,↓reduceIte,n0,reduceCtorEq,n1,n2,n3,n4,n5,i0,i1,i2,i3,i4,i5,i6,i7,hfl2,q1,q2,q3]
        refine ⟨Upd.alloc (Upd.alloc (Upd.refl _ _) _) _,?_⟩
        try simp (disch:=(first|omega|(simp only [qI,qJ,qK]<;>omega)|exact qL _)) only [go_sem,↓reduceIte,n0,reduceCtorEq,n1,n2,n3,n4,n5,i0,i1,i2,i3,i4,i5,i6,i7]
        try simp only [List.cons_append,List.nil_append,List.append_nil]
        have hEt : Ext w7.drew (((w7.alloc (.cells #[.int .i64 z.n,uS',.bool z.null,uL',uU'] 26)).alloc (.cells #[.int .i64 f.kind,.int .i64 f.fr,.int .i64 f.to,.int .i64 f.null,.int .i64 f.tag,.int .i64 f.df,.int .i64 f.of,vs2] 46)).drew) := Upd.alloc (Upd.alloc (Upd.refl _ w7.drew) _) _
        have hbF : blk (((w7.alloc (.cells #[.int .i64 z.n,uS',.bool z.null,uL',uU'] 26)).alloc (.cells #[.int .i64 f.kind,.int .i64 f.fr,.int .i64 f.to,.int .i64 f.null,.int .i64 f.tag,.int .i64 f.df,.int .i64 f.of,vs2] 46)).drew) (w7.heap.size + 1) = some (#[.int .i64 f.kind,.int .i64 f.fr,.int .i64 f.to,.int .i64 f.null,.int .i64 f.tag,.int .i64 f.df,.int .i64 f.of,vs2],46,(0,0)) := by simp (disch:=(first|omega|(simp only [qI,qJ,qK]<;>omega)|exact qL _)) only [go_sem,↓reduceIte,n0,reduceCtorEq,n1,n2,n3,n4,n5,i0,i1,i2,i3,i4,i5,i6,i7]
        have hbX : blk (((w7.alloc (.cells #[.int .i64 z.n,uS',.bool z.null,uL',uU'] 26)).alloc (.cells #[.int .i64 f.kind,.int .i64 f.fr,.int .i64 f.to,.int .i64 f.null,.int .i64 f.tag,.int .i64 f.df,.int .i64 f.of,vs2] 46)).drew) (w7.heap.size) = some (#[.int .i64 z.n,uS',.bool z.null,uL',uU'],26,(0,0)) := by simp (disch:=(first|omega|(simp only [qI,qJ,qK]<;>omega)|exact qL _)) only [go_sem,↓reduceIte,n0,reduceCtorEq,n1,n2,n3,n4,n5,i0,i1,i2,i3,i4,i5,i6,i7]
        generalize (((w7.alloc (.cells #[.int .i64 z.n,uS',.bool z.null,uL',uU'] 26)).alloc (.cells #[.int .i64 f.kind,.int .i64 f.fr,.int .i64 f.to,.int .i64 f.null,.int .i64 f.tag,.int .i64 f.df,.int .i64 f.of,vs2] 46)).drew) = w8 at *
        have hv8 : FldsV AnyB w8 _ [f] := FldsV.one hbF (hsub7.keep (Ext.keeps hEt _))
        have hl8 : TreesV AnyB w8 _ [z] := TreesV.one hbX (hc7.keep (Ext.keeps hEt _))
        refine (hUsual f (hfj ▸ hmem) z _ _ w8 hv8 (TreeC.intro rfl (BytesV.nil _ _) hl8 (tagsN _ _)) hsg' hdj).mono ?_
        rintro _ w9 ⟨rfl,hE9⟩
        refine ⟨hEt.trans hE9,?_⟩
        try simp (disch:=(first|omega|(simp only [qI,qJ,qK]<;>omega)|exact qL _)) only [go_sem,↓reduceIte,n0,reduceCtorEq,n1,n2,n3,n4,n5,i0,i1,i2,i3,i4,i5,i6,i7]
        repeat ((first | refine qA rfl ?_|apply qB|refine qC rfl ?_|apply qD|apply qE|apply qF|apply qG|apply qH);try simp (disch:=(first|omega|(simp only [qI,qJ,qK]<;>omega)|exact qL _)) only [go_sem,↓reduceIte,n0,reduceCtorEq,n1,n2,n3,n4,n5,i0,i1,i2,i3,i4,i5,i6,i7,h25])
        refine ⟨⟨(by simp (disch:=(first|omega|(simp only [qI,qJ,qK]<;>omega)|exact qL _)) only [go_sem,↓reduceIte,n0,reduceCtorEq,n1,n2,n3,n4,n5,i0,i1,i2,i3,i4,i5,i6,i7,Holds_nil,Holds_cons,h0,h1,h2,h8,h9,h24,h23]),j + 1,(by simp (disch:=(first|omega|(simp only [qI,qJ,qK]<;>omega)|exact qL _)) only [go_sem,↓reduceIte,n0,reduceCtorEq,n1,n2,n3,n4,n5,i0,i1,i2,i3,i4,i5,i6,i7,h25];all_goals rfl),by omega,hE2d.trans (hEt.trans hE9)⟩,?_⟩
        try simp (disch:=(first|omega|(simp only [qI,qJ,qK]<;>omega)|exact qL _)) only [go_sem,↓reduceIte,n0,reduceCtorEq,n1,n2,n3,n4,n5,i0,i1,i2,i3,i4,i5,i6,i7,h25]
        simp only [RowKit.intOf]
        omega
    repeat ((first | refine qA rfl ?_|apply qB|refine qC rfl ?_|apply qD|apply qE|apply qF|apply qG|apply qH);try simp (disch:=(first|omega|(simp only [qI,qJ,qK]<;>omega)|exact qL _)) only [go_sem,↓reduceIte,n0,reduceCtorEq,n1,n2,n3,n4,n5,i0,i1,i2,i3,i4,i5,i6,i7,h25,h24])
    exact ⟨(by simp (disch:=(first|omega|(simp only [qI,qJ,qK]<;>omega)|exact qL _)) only [go_sem,↓reduceIte,n0,reduceCtorEq,n1,n2,n3,n4,n5,i0,i1,i2,i3,i4,i5,i6,i7,Holds_nil,Holds_cons,h0,h1,h2,h8,h9]),hE3⟩
  rintro ρ w3 ⟨⟨h0,h1,h2,h8,h9,-⟩,hE3⟩
  try simp (disch:=(first|omega|(simp only [qI,qJ,qK]<;>omega)|exact qL _)) only [go_sem,↓reduceIte,n0,reduceCtorEq,n1,n2,n3,n4,n5,i0,i1,i2,i3,i4,i5,i6,i7]
  have hE03 := hE.trans hE3
  have hb13 := hE3.blk_some hb1 id
  have hb23 := hE3.blk_some hb2 id
  have hz3 := hE3.size
  repeat ((first | refine qA rfl ?_|apply qB|refine qC rfl ?_|apply qD|apply qE|apply qF|apply qG|apply qH);try simp (disch:=(first|omega|(simp only [qI,qJ,qK]<;>omega)|exact qL _)) only [go_sem,↓reduceIte,n0,reduceCtorEq,n1,n2,n3,n4,n5,i0,i1,i2,i3,i4,i5,i6,i7,h0,h8,hb13])
  refine (unknown_fn (ok := AnyB) fs _ t.u _ w3 (hf.keep (Ext.keeps hE03 _)) hfl htag (hU.keep (Ext.keeps hE03 _))).mono ?_
  rintro r4 w4 ⟨⟨css,hown,hall⟩,hE4⟩
  have hE04 := hE03.trans hE4
  have hTg := hown.tags (ha := hall.imp fun _ _ h => h.keep (Ext.keeps hE4 _))
  obtain ⟨ba,ca,rfl,hca⟩ := SlR.shape hTg
  have hul := unknownS_len fs t.u
  have hb24 := hE4.blk_some hb23 id
  have hz4 := hE4.size
  cases flex with
  | false =>
    have hu0 : ((g.u.length : Nat) : Int) = 0 := by rw [hgu];rfl
    try simp (disch:=(first|omega|(simp only [qI,qJ,qK]<;>omega)|exact qL _)) only [go_sem,↓reduceIte,n0,reduceCtorEq,n1,n2,n3,n4,n5,i0,i1,i2,i3,i4,i5,i6,i7]
    repeat ((first | refine qA rfl ?_|apply qB|refine qC rfl ?_|apply qD|apply qE|apply qF|apply qG|apply qH);try simp (disch:=(first|omega|(simp only [qI,qJ,qK]<;>omega)|exact qL _)) only [go_sem,↓reduceIte,n0,reduceCtorEq,n1,n2,n3,n4,n5,i0,i1,i2,i3,i4,i5,i6,i7,h2,h9,hb24,hu0])
    refine W.loop (fun ρ w' => ρ 92 = .int .i64 0 ∧ ρ 91 = .int .i64 0 ∧ w' = w4) (fun _ _ => 0) ?_ ?_
    · refine ⟨?_,?_,rfl⟩ <;> (try simp (disch:=(first|omega|(simp only [qI,qJ,qK]<;>omega)|exact qL _)) only [go_sem,↓reduceIte,n0,reduceCtorEq,n1,n2,n3,n4,n5,i0,i1,i2,i3,i4,i5,i6,i7]) <;> (try rfl)
    · rintro ρ w5 ⟨h92,h91,rfl⟩
      repeat ((first | refine qA rfl ?_|apply qB|refine qC rfl ?_|apply qD|apply qE|apply qF|apply qG|apply qH);try simp (disch:=(first|omega|(simp only [qI,qJ,qK]<;>omega)|exact qL _)) only [go_sem,↓reduceIte,n0,reduceCtorEq,n1,n2,n3,n4,n5,i0,i1,i2,i3,i4,i5,i6,i7,h92,h91])
      all_goals exact hE04
  | true =>
    rw [if_pos rfl] at hgu
    have hu0 : ((g.u.length : Nat) : Int) = ((unknownS fs t.u).length : Nat) := by rw [hgu,List.length_map]
    try simp (disch:=(first|omega|(simp only [qI,qJ,qK]<;>omega)|exact qL _)) only [go_sem,↓reduceIte,n0,reduceCtorEq,n1,n2,n3,n4,n5,i0,i1,i2,i3,i4,i5,i6,i7]
    repeat ((first | refine qA rfl ?_|apply qB|refine qC rfl ?_|apply qD|apply qE|apply qF|apply qG|apply qH);try simp (disch:=(first|omega|(simp only [qI,qJ,qK]<;>omega)|exact qL _)) only [go_sem,↓reduceIte,n0,reduceCtorEq,n1,n2,n3,n4,n5,i0,i1,i2,i3,i4,i5,i6,i7,h2,h9,hb24,hu0,beq_self_eq_true,bne_self_eq_false,ne_eq,not_true_eq_false,not_false_eq_true])
    generalize hU0 : unknownS fs t.u = U at *
    refine W.loop (LoopL [(91,.int .i64 U.length),(90,.slice ba U.length ca),(9,.pointer (some ⟨w.heap.size + 1,0,none⟩))] 92 (fun j w' => j ≤ U.length ∧ Ext w4 w')) (fun ρ _ => U.length - (RowKit.intOf (ρ 92)).toNat) ?_ ?_
    · exact ⟨(by simp (disch:=(first|omega|(simp only [qI,qJ,qK]<;>omega)|exact qL _)) only [go_sem,↓reduceIte,n0,reduceCtorEq,n1,n2,n3,n4,n5,i0,i1,i2,i3,i4,i5,i6,i7,Holds_nil,Holds_cons,h9]),0,(by simp (disch:=(first|omega|(simp only [qI,qJ,qK]<;>omega)|exact qL _)) only [go_sem,↓reduceIte,n0,reduceCtorEq,n1,n2,n3,n4,n5,i0,i1,i2,i3,i4,i5,i6,i7];all_goals rfl),Nat.zero_le _,Upd.refl _ _⟩
    clear h0 h1 h2 h8 h9
    rintro ρ w5 ⟨⟨h91,h90,h9,-⟩,j,h92,hj,hE5⟩
    have hz5 := hE5.size
    have hE05 := hE04.trans hE5
    by_cases hlt : j < U.length
    · skip
      have hgj : j < g.u.length := by rw [hgu,List.length_map];exact hlt
      have hel : g.u[j] = (U[j].1,wholeS U[j].2) := by simp only [hgu,List.getElem_map]
      obtain ⟨_,b,o,x,vv,hb,hokb,hx,hblt,hxs,hxe,p0,p1,hfv,hvv,h32⟩ := TagsV.get hTg hlt
      subst hb
      obtain ⟨_,b',o',x',vv',hb',hokb',hx',hblt',hxs',hxe',r0,r1,hfv',hvv',h32'⟩ := TagsV.get hgU hgj
      subst hb'
      rw [hel] at r0 hvv'
      simp only at r0 hvv'
      have hx5 : blk w5 b = some x := hE5.blk_some hx id
      have hx5' : blk w5 b' = some x' := hE05.blk_some hx' id
      have hb25 := hE5.blk_some hb24 id
      generalize U[j] = y at *
      have hE6 : Ext w5 (wr (w5.alloc (.cells #[.int .u32 0,.slice none 0 0] 65)) w5.heap.size 0 [.int .u32 y.1,vv]) := (Upd.alloc (Upd.refl _ _) _).wr _ _ (.inl (Nat.le_refl _))
      have hb6 : blk (wr (w5.alloc (.cells #[.int .u32 0,.slice none 0 0] 65)) w5.heap.size 0 [.int .u32 y.1,vv]) w5.heap.size = some (#[.int .u32 y.1,vv],65,(0,0)) := by rw [blk_wr_eq,blk_alloc_new rfl];rfl
      have hb26 := hE6.blk_some hb25 id
      have hx6' := hE6.blk_some hx5' id
      have hz6 : (wr (w5.alloc (.cells #[.int .u32 0,.slice none 0 0] 65)) w5.heap.size 0 [.int .u32 y.1,vv]).heap.size = w5.heap.size + 1 := by simp only [size_wr,World.size_alloc]
      repeat ((first | refine qA rfl ?_|apply qB|refine qC rfl ?_|apply qD|apply qE|apply qF|apply qG|apply qH);try simp (disch:=(first|omega|(simp only [qI,qJ,qK]<;>omega)|exact qL _)) only [go_sem,↓reduceIte,n0,reduceCtorEq,n1,n2,n3,n4,n5,i0,i1,i2,i3,i4,i5,i6,i7,h92,h91,h90,hx5,hxe,hfv,cellsAt_two,Int.toNat_natCast])
      generalize (wr (w5.alloc (.cells #[.int .u32 0,.slice none 0 0] 65)) w5.heap.size 0 [.int .u32 y.1,vv]) = w6 at *
      refine W.drawO (.take 0 (.take 1 (.take 2 (.take 3 (.take 4 (.take 5 (.take 6 (.take 7 (.take 8 (.take 9 (.take 10 (.take 11 (.take 12 (.take 13 (.take 14 (.take 15 (.take 16 (.take 17 (.only 18 (.only 19 (.take 20 (.take 21 .done)))))))))))))))))))))) 10 NoB mixed (by kernel_rfl) fun DD hDD => ?_
      simp only [Plan.pre]
      simp (disch:=(first|omega|(simp only [qI,qJ,qK]<;>omega)|exact qL _)) only [go_sem,↓reduceIte,n0,reduceCtorEq,n1,n2,n3,n4,n5,i0,i1,i2,i3,i4,i5,i6,i7,h9,hb6,hb26,hx6',r0,r1,Int.toNat_natCast,beq_self_eq_true,bne_self_eq_false,ne_eq,not_true_eq_false,not_false_eq_true]
      rw [hDD]
      clear hDD
      simp only [Plan.drop]
      simp (disch:=(first|omega|(simp only [qI,qJ,qK]<;>omega)|exact qL _)) only [go_sem,↓reduceIte,n0,reduceCtorEq,n1,n2,n3,n4,n5,i0,i1,i2,i3,i4,i5,i6,i7,h9,hb6,hb26,hx6',r0,r1,Int.toNat_natCast,beq_self_eq_true,bne_self_eq_false,ne_eq,not_true_eq_false,not_false_eq_true]
      have hEd : Ext w6 w6.drew := (Upd.refl _ _).drew
      have hE4d := (hE5.trans hE6).trans hEd
      have hE0d := hE04.trans hE4d
      generalize w6.drew = w7 at *
      refine (whole_fn (ok := AnyB) y.2 _ w7 (hvv.keep (Ext.keeps hE4d _))).mono ?_
      rintro r8 w8 ⟨hr8,hw8⟩
      obtain rfl := hw8.symm
      refine ⟨Upd.refl _ _,?_⟩
      try simp (disch:=(first|omega|(simp only [qI,qJ,qK]<;>omega)|exact qL _)) only [go_sem,↓reduceIte,n0,reduceCtorEq,n1,n2,n3,n4,n5,i0,i1,i2,i3,i4,i5,i6,i7]
      have hwl : (wholeS y.2).length ≤ 32767 := by simp only [wholeS,List.length_take];omega
      refine (Same_fn (ok := AnyB) (wholeS y.2) (wholeS y.2) _ _ w7 (hvv'.keep (Ext.keeps hE0d _)) hr8 (by omega)).mono ?_
      rintro _ w9 ⟨rfl,hE9⟩
      have hsame : decide (wholeS y.2 = wholeS y.2) = true := decide_eq_true rfl
      refine ⟨hE9,?_⟩
      try simp (disch:=(first|omega|(simp only [qI,qJ,qK]<;>omega)|exact qL _)) only [go_sem,↓reduceIte,n0,reduceCtorEq,n1,n2,n3,n4,n5,i0,i1,i2,i3,i4,i5,i6,i7,hsame]
      repeat ((first | refine qA rfl ?_|apply qB|refine qC rfl ?_|apply qD|apply qE|apply qF|apply qG|apply qH);try simp (disch:=(first|omega|(simp only [qI,qJ,qK]<;>omega)|exact qL _)) only [go_sem,↓reduceIte,n0,reduceCtorEq,n1,n2,n3,n4,n5,i0,i1,i2,i3,i4,i5,i6,i7,hsame,h92])
      refine ⟨⟨(by simp (disch:=(first|omega|(simp only [qI,qJ,qK]<;>omega)|exact qL _)) only [go_sem,↓reduceIte,n0,reduceCtorEq,n1,n2,n3,n4,n5,i0,i1,i2,i3,i4,i5,i6,i7,Holds_nil,Holds_cons,h91,h90,h9]),j + 1,(by simp (disch:=(first|omega|(simp only [qI,qJ,qK]<;>omega)|exact qL _)) only [go_sem,↓reduceIte,n0,reduceCtorEq,n1,n2,n3,n4,n5,i0,i1,i2,i3,i4,i5,i6,i7,h92];all_goals rfl),by omega,hE4d.trans hE9⟩,?_⟩
      try simp (disch:=(first|omega|(simp only [qI,qJ,qK]<;>omega)|exact qL _)) only [go_sem,↓reduceIte,n0,reduceCtorEq,n1,n2,n3,n4,n5,i0,i1,i2,i3,i4,i5,i6,i7,h92]
      simp only [RowKit.intOf]
      omega
    repeat ((first | refine qA rfl ?_|apply qB|refine qC rfl ?_|apply qD|apply qE|apply qF|apply qG|apply qH);try simp (disch:=(first|omega|(simp only [qI,qJ,qK]<;>omega)|exact qL _)) only [go_sem,↓reduceIte,n0,reduceCtorEq,n1,n2,n3,n4,n5,i0,i1,i2,i3,i4,i5,i6,i7,h92,h91])
    all_goals exact hE05

theorem Told_fn (ver : Int) (flex : Bool) : ∀ (d : Nat) (fs : List Fld) (t g : Tree) (vf : Value) (ct cg : List Value) (w : World),FldsV AnyB w vf fs → okF d fs = true → TreeC AnyB w t ct → TreeC AnyB w g cg → Small 4611686018427387903 t → Small 4611686018427387903 g → ToldP (d + 1) ver flex fs t g →
    Fn Tryd.prog 8 #[vf,.int .i64 ver,.bool flex,.agg ct.toArray,.agg cg.toArray] w fun r w' => r = .bool true ∧ Ext w w' := by
  intro d
  induction d with
  | zero =>
    intro fs t g vf ct cg w hf hok ht hg hsm hsg hd
    have hnil : fs = [] := by simpa [okF] using hok
    subst hnil
    exact Told_step (T := fun _ _ _ => True) (D := fun _ _ => True) (du := 1) [] ver flex t g vf ct cg w hf (by simp) (fun _ h => by cases h) ht hg hsm hsg (fun _ h => by cases h) (fun _ h => by cases h) (fun _ h => by cases h) hd.1 hd.2.1 (fun _ h => by cases h)
  | succ d ih =>
    intro fs t g vf ct cg w hf hok ht hg hsm hsg hd
    refine Told_step (T := ToldP (d + 1) ver flex) (D := DfP (d + 1)) (du := d + 2) fs ver flex t g vf ct cg w hf (okF_len hok) (okF_tag hok) ht hg hsm hsg (fun f hm x y cf cx cy w' h1 h2 h3 h4 h5 h6 => ?_) (fun f hm x cf cx w' h1 h2 h3 => ?_) (fun f hm y vs cy w' h1 h2 h3 h4 => ?_) hd.1 hd.2.1 hd.2.2
    · obtain ⟨e,he,hB,hok'⟩ := okF_el hok hm
      cases he
      exact told_fn f ver flex x y cf cx cy w' h1 hB h2 h3 h4 h5 (fun x' y' vs cx' cy' w'' k1 k2 k3 k4 k5 k6 => ih f.sub x' y' vs cx' cy' w'' k1 hok' k2 k3 k4 k5 k6) h6
    · obtain ⟨e,he,hB,hok'⟩ := okF_el hok hm
      cases he
      exact usual_fn (d + 1) f x cf cx w' h1 h2 (okF_mono d _ hok') hB h3
    · exact Usual_fn (d + 1) [f] _ vs cy w' h1 (okF_one hok hm) h2 (.mk (by simp) (by simp) (by simp) (fun i h => by have h0 : i = 0 := (by simpa using h);subst h0;exact h3) (fun x h => by cases h)) ⟨rfl,fun i h => by have h0 : i = 0 := (by simpa using h);subst h0;exact h4⟩


set_option maxHeartbeats 24000000
open Go Go.Proofs Go.Shelf
attribute [local congr] W_congr WPsq_congr WPp_congr optK_congr addrK_congr intK_congr boolK_congr sliceK_congr tupleK_congr funcK_congr Fn_congr rawK_congr takeK_congr stepK_congr convK_congr aggK_congr

theorem Flexible_fn (vs : Value) (F ver : Int) (hv : flat vs = true) (w : World) : Fn Tryd.prog 9 #[.agg #[vs,.int .i64 F],.int .i64 ver] w fun r w' => r = .bool (flexB F ver) ∧ Ext w w' := by
  refine fn_of_W Tryd.func9 rfl Tryd.results9 Tryd.ntmps9 rfl ?_
  by_cases h1 : 0 ≤ F
  · by_cases h2 : F ≤ ver
    · repeat ((first | refine qA rfl ?_|apply qB|refine qC rfl ?_|apply qD|apply qE|apply qF|apply qG|apply qH);try simp (disch:=(first|omega|(simp only [qI,qJ,qK]<;>omega)|exact qL _)) only [go_sem,↓reduceIte,n0,reduceCtorEq,n1,n2,n3,n4,n5,i0,i1,i2,i3,i4,i5,i6,i7,hv,cellsAt_two])
      exact ⟨by simp [flexB,h1,h2],Upd.alloc (Upd.refl _ _) _⟩
    · repeat ((first | refine qA rfl ?_|apply qB|refine qC rfl ?_|apply qD|apply qE|apply qF|apply qG|apply qH);try simp (disch:=(first|omega|(simp only [qI,qJ,qK]<;>omega)|exact qL _)) only [go_sem,↓reduceIte,n0,reduceCtorEq,n1,n2,n3,n4,n5,i0,i1,i2,i3,i4,i5,i6,i7,hv,cellsAt_two])
      exact ⟨by simp [flexB,h2],Upd.alloc (Upd.refl _ _) _⟩
  · repeat ((first | refine qA rfl ?_|apply qB|refine qC rfl ?_|apply qD|apply qE|apply qF|apply qG|apply qH);try simp (disch:=(first|omega|(simp only [qI,qJ,qK]<;>omega)|exact qL _)) only [go_sem,↓reduceIte,n0,reduceCtorEq,n1,n2,n3,n4,n5,i0,i1,i2,i3,i4,i5,i6,i7,hv,cellsAt_two])
    exact ⟨by simp [flexB,h1],Upd.alloc (Upd.refl _ _) _⟩

end Ms

